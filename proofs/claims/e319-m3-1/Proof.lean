import JvmDerived
import JvmDerived.Pilot.@@N@@Statement
import JvmDerived.Pilot.@@N@@Code
set_option linter.unusedVariables false
set_option linter.unusedSimpArgs false
namespace Jvm.RoadKit
open Sem ClassFile Op Lib Jvm.Stand Jvm.Free Jvm.LawKit
section Own
variable {p : Program} {l : Launch} {e : Env} {R : Room} {s : State} {m : MethodId} {args : Array Value} {below : List Frame} {meth : Method} {c : Code} {T : State} {locs : List Loc} {cells slots : Nat}
/-- from the state S the run comes to the end of this invocation, and Q says what it returned and left -/
def Dn (p : Program) (e : Env) (below : List Frame) (s : State) (Q : Option Value → Heap → List Loc → Prop) (k n : Nat) (S : State) : Prop :=
  ∃ U o, Steps p.tables e below S U ∧ U.status = .running ∧ Ended U below o ∧ ∃ v L, o = .returned v ∧ Q v U.heap L ∧ FrameEnd s o U L k n
variable {Q Q' : Option Value → Heap → List Loc → Prop} {k n : Nat} {S S' : State} {Z : State} {a0 : Array Value} {h : Heap}
theorem Dn.of (w : ∀ t, Steps p.tables e below S' t → Steps p.tables e below S t) (d : Dn p e below s Q k n S') : Dn p e below s Q k n S := by
  obtain ⟨U, o, st, r⟩ := d
  exact ⟨U, o, w U st, r⟩
theorem Dn.cast {g g' : JFrame} (q : g = g') (d : Dn p e below s Q k n (T.setTop g')) : Dn p e below s Q k n (T.setTop g) := q ▸ d
theorem Dn.ret (X : Stand p l e R s m args below meth c T locs cells slots) (hx : p.tables.exec = Jvm.exec) (hlk : meth.locks = false) {pc : Nat} {Ls : Array Slot} {w : Value} {t : FieldType} {i : Instr} {rest : List Value} (hret : meth.sig.returnType = some t) (hn : narrow t w = w)
    (hi : (i = .ireturn ∧ (t = .int ∨ t = .boolean ∨ t = .byte ∨ t = .char ∨ t = .short) ∧ ∃ z, w = .int z) ∨ (i = .lreturn ∧ t = .long ∧ ∃ z, w = .long z) ∨ (i = .dreturn ∧ t = .double ∧ ∃ z, w = .double z) ∨ (i = .freturn ∧ t = .float ∧ ∃ z, w = .float z) ∨ (i = .areturn ∧ t.isReference = true ∧ w.isRef = true))
    (hd : decode c.code pc = .ok (i, 1)) (hk : cells ≤ k) (hs : slots ≤ n) (hQ : Q (some w) T.heap locs) : Dn p e below s Q k n (T.setTop (mkF m pc Ls (w :: rest))) := by
  obtain ⟨fs, hr, hrun, hended, hW, hsame⟩ := X.leave (v := some w) (fun q => by rw [hret] at q; cases q) hlk
  exact ⟨_, _, retOut X hx hret hn hi hd hr, hrun, hended, _, _, rfl, hQ, ⟨_, rfl⟩, hW, hsame.mono hk hs⟩
theorem Dn.retI (X : Stand p l e R s m args below meth c T locs cells slots) (hx : p.tables.exec = Jvm.exec) (hlk : meth.locks = false) {pc : Nat} {Ls : Array Slot} {z : Int32} {rest : List Value} (hret : meth.sig.returnType = some .int)
    (hd : decode c.code pc = .ok (.ireturn, 1)) (hk : cells ≤ k) (hs : slots ≤ n) (hQ : Q (some (.int z)) T.heap locs) : Dn p e below s Q k n (T.setTop (mkF m pc Ls (.int z :: rest))) :=
  Dn.ret X hx hlk hret rfl (Or.inl ⟨rfl, Or.inl rfl, z, rfl⟩) hd hk hs hQ
theorem Dn.retA (X : Stand p l e R s m args below meth c T locs cells slots) (hx : p.tables.exec = Jvm.exec) (hlk : meth.locks = false) {pc : Nat} {Ls : Array Slot} {w : Value} {t : FieldType} {rest : List Value} (hret : meth.sig.returnType = some t) (ht : t.isReference = true) (hw : w.isRef = true)
    (hd : decode c.code pc = .ok (.areturn, 1)) (hk : cells ≤ k) (hs : slots ≤ n) (hQ : Q (some w) T.heap locs) : Dn p e below s Q k n (T.setTop (mkF m pc Ls (w :: rest))) :=
  Dn.ret X hx hlk hret (by cases t <;> simp [FieldType.isReference] at ht <;> rcases ref_cases hw with rfl | ⟨a, rfl⟩ <;> rfl) (Or.inr (Or.inr (Or.inr (Or.inr ⟨rfl, ht, hw⟩)))) hd hk hs hQ
theorem Dn.retN (X : Stand p l e R s m args below meth c T locs cells slots) (hx : p.tables.exec = Jvm.exec) (hlk : meth.locks = false) {pc : Nat} {Ls : Array Slot} {z : Int32} {t : FieldType} {rest : List Value} (hret : meth.sig.returnType = some t) (ht : t = .boolean ∨ t = .byte ∨ t = .char ∨ t = .short)
    (hd : decode c.code pc = .ok (.ireturn, 1)) (hk : cells ≤ k) (hs : slots ≤ n) (hQ : Q (some (.int (nar t z))) T.heap locs) : Dn p e below s Q k n (T.setTop (mkF m pc Ls (.int z :: rest))) := by
  obtain ⟨fs, hr, hrun, hended, hW, hsame⟩ := X.leave (v := some (.int (nar t z))) (fun q => by rw [hret] at q; cases q) hlk
  exact ⟨_, _, Jvm.RoadKit.retN X hx hret ht hd hr, hrun, hended, _, _, rfl, hQ, ⟨_, rfl⟩, hW, hsame.mono hk hs⟩
theorem Dn.retV (X : Stand p l e R s m args below meth c T locs cells slots) (hx : p.tables.exec = Jvm.exec) (hlk : meth.locks = false) {pc : Nat} {Ls : Array Slot} (hret : meth.sig.returnType = none)
    (hd : decode c.code pc = .ok (.return_, 1)) (hk : cells ≤ k) (hs : slots ≤ n) (hQ : Q none T.heap locs) : Dn p e below s Q k n (T.setTop (mkF m pc Ls [])) := by
  obtain ⟨fs, hr, hrun, hended, hW, hsame⟩ := X.leave (v := none) (fun _ => rfl) hlk
  exact ⟨_, _, X.returnOut hx hret hd hr, hrun, hended, _, _, rfl, hQ, ⟨_, rfl⟩, hW, hsame.mono hk hs⟩
/-- a body's contract: entered with the arguments as' at the heap h, it returns, and Q says what and what it left -/
abbrev ctr (l : Launch) (Z : State) (y : MethodName) (bytes : ByteArray) (maxL : Nat) (ret : Option FieldType) (ws : List Jvm.Cond) (rm : Room) (k n : Nat) (as' : Array Value) (h : Heap) (Q : Option Value → Heap → List Loc → Prop) : Prop :=
  MetFree l y (head1 (Jvm.Cond.code y bytes maxL ret :: ws) rm) (fun a U => a = as' ∧ Z.Warmed39 U.vm ∧ U.heap = h) (fun _ _ _ _ _ => True) (fun _ U o U' => ∃ v L, o = .returned v ∧ Q v U'.heap L ∧ FrameEnd U o U' L k n)
theorem ctr_of {y : MethodName} {bytes : ByteArray} {maxL : Nat} {ret : Option FieldType} {ws : List Jvm.Cond} {rm : Room} {as' : Array Value} (pn : plainFor y = true)
    (body : ∀ (p : Program) (e : Env) (s : State) (m : MethodId) (below : List Frame) (meth : Method) (c : Code) (s₁ : State), p.tables.exec = Jvm.exec → c.code = bytes → c.maxLocals = maxL → meth.sig.returnType = ret → meth.locks = false → meth.name = y.name → s.vm.findClass y.cls = some m.cls →
      Z.Warmed39 s.vm → s₁.heap = h → Stand p l e rm s m as' below meth c s₁ [] 0 0 → Dn p e below s Q k n (s₁.setTop (entryFrame m as' maxL))) : ctr l Z y bytes maxL ret ws rm k n as' h Q := by
  refine MetFree.of_bodySF pn hisR ?_
  intro p e s m args below meth c s₁ Bd hml0 hP hK
  obtain ⟨rfl, hZ, hh⟩ := hP
  exact body p e s m below meth c s₁ Bd.exec Bd.bytes hml0 Bd.returns Bd.notSynchronized (name_of_methodNamed Bd.named Bd.method).1 (findClass_of_methodNamed Bd.named) hZ (by rw [← hh, Bd.state]; rfl) (Stand.of_body Bd)
theorem cSt (X : Stand p l e R s m args below meth c T locs cells slots) (hx : p.tables.exec = Jvm.exec) (hZ : Z.Warmed39 s.vm) {own : String} {index : Nat} {y : MethodName} {bytes : ByteArray} {maxL : Nat} {ret : Option FieldType} (hown : s.vm.findClass own = some m.cls)
    (w1 : (Jvm.Cond.methodLink own index y).before a0 Z = true) (w2 : (Jvm.Cond.static y).before a0 Z = true) (w3 : (Jvm.Cond.initialized y.cls).before a0 Z = true) (w4 : (Jvm.Cond.code y bytes maxL ret).before a0 Z = true) (hy : y.cls ≠ "java/lang/invoke/MethodHandle" ∧ y.cls ≠ "java/lang/invoke/VarHandle")
    {rm : Room} {argsL rest : List Value} (hM : ctr l Z y bytes maxL ret [] rm rm.cells rm.slots argsL.toArray h Q) (eT : T.heap = h) (W : Nat) (hf : rm.frames + 1 ≤ R.frames) (hl : W + (maxL + 11) + rm.locals ≤ R.locals) (hc : cells + rm.cells ≤ R.cells) (hs : slots + rm.slots ≤ R.slots)
    {g : JFrame} (hg : g.method = m) (hsize : g.locals.size = c.maxLocals) (hlen : ∀ sig, parseMethodDescriptor y.desc = some sig → argsL.length = sig.parameters.length) (hstack : g.stack = argsL.reverse ++ rest) (hW : 2 * g.monitorRoom + (rest.map fun v => v.category).sum ≤ W) (hdg : decode c.code g.pc = .ok (.invokestatic index, 3)) :
    ∃ (v : Option Value) (T' : State) (L : List Loc), Q v T'.heap L ∧ Stand p l e R s m args below meth c T' (locs ++ L) (cells + rm.cells) (slots + rm.slots) ∧ ∀ target, Steps p.tables e below (T'.setTop { g with pc := g.pc + 3, stack := v.toList ++ rest }) target → Steps p.tables e below (T.setTop g) target := by
  obtain ⟨v, _, ⟨T', L', k', n'⟩, -, X', ⟨L, hQ, e1, e2, e3⟩, st⟩ := Jvm.LawKit.callS X hx (y := y) hown (mvT hZ w1) (mvT hZ w2) (mvT hZ w3) (mvT hZ w4) hy (backOf (W := W) hM hZ w4 w3 hf hl) hg hsize hlen hstack hW hdg (fun _ _ => ⟨rfl, eT, hc, hs⟩)
  dsimp only [Pt.U, Pt.locs, Pt.cells, Pt.slots] at X' e1 e2 e3 st hQ
  subst e1 e2 e3
  exact ⟨v, T', L, hQ, X', st⟩
theorem cIn (X : Stand p l e R s m args below meth c T locs cells slots) (hx : p.tables.exec = Jvm.exec) (hZ : Z.Warmed39 s.vm) {own : String} {index : Nat} {y : MethodName} {bytes : ByteArray} {maxL : Nat} (hy1 : y.name = "<init>") (hown : s.vm.findClass own = some m.cls)
    (w1 : (Jvm.Cond.methodLink own index y).before a0 Z = true) (w2 : (Jvm.Cond.instanceMethod y).before a0 Z = true) (w3 : (Jvm.Cond.initialized y.cls).before a0 Z = true) (w4 : (Jvm.Cond.code y bytes maxL none).before a0 Z = true) (hy : y.cls ≠ "java/lang/invoke/MethodHandle" ∧ y.cls ≠ "java/lang/invoke/VarHandle")
    {rm : Room} {a : Addr} {argsL rest : List Value} (hM : ctr l Z y bytes maxL none [] rm rm.cells rm.slots (.ref a :: argsL).toArray h Q) (eT : T.heap = h) (W : Nat) (hf : rm.frames + 1 ≤ R.frames) (hl : W + (maxL + 11) + rm.locals ≤ R.locals) (hc : cells + rm.cells ≤ R.cells) (hs : slots + rm.slots ≤ R.slots)
    {g : JFrame} (hg : g.method = m) (hsize : g.locals.size = c.maxLocals) (hlen : ∀ sig, parseMethodDescriptor y.desc = some sig → argsL.length = sig.parameters.length) (hstack : g.stack = argsL.reverse ++ .ref a :: rest) (hW : 2 * g.monitorRoom + (rest.map fun v => v.category).sum ≤ W) (hdg : decode c.code g.pc = .ok (.invokespecial index, 3)) :
    ∃ (v : Option Value) (T' : State) (L : List Loc), Q v T'.heap L ∧ Stand p l e R s m args below meth c T' (locs ++ L) (cells + rm.cells) (slots + rm.slots) ∧ ∀ target, Steps p.tables e below (T'.setTop { g with pc := g.pc + 3, stack := v.toList ++ rest }) target → Steps p.tables e below (T.setTop g) target := by
  obtain ⟨v, _, ⟨T', L', k', n'⟩, -, X', ⟨L, hQ, e1, e2, e3⟩, st⟩ := X.specialBack hx (y := y) hy1 hown (mvT hZ w1) (mvT hZ w2) (mvT hZ w4) hy (backOf (W := W) hM hZ w4 w3 hf hl) hg hsize (Steps.refl _) hlen hstack hW hdg (fun _ _ => ⟨rfl, eT, hc, hs⟩)
  dsimp only [Pt.U, Pt.locs, Pt.cells, Pt.slots] at X' e1 e2 e3 st hQ
  subst e1 e2 e3
  exact ⟨v, T', L, hQ, X', fun _ z => st.trans z⟩
theorem cVi (X : Stand p l e R s m args below meth c T locs cells slots) (hx : p.tables.exec = Jvm.exec) (hZ : Z.Warmed39 s.vm) {own C : String} {index : Nat} {y z : MethodName} {bytes : ByteArray} {maxL : Nat} {ret : Option FieldType} (hown : s.vm.findClass own = some m.cls)
    (w1 : (Jvm.Cond.methodLink own index y).before a0 Z = true) (w2 : (Jvm.Cond.declares y).before a0 Z = true) (nf : NotFace s y) (ws : (Jvm.Cond.selects C y z).before a0 Z = true) (wi : (Jvm.Cond.instanceMethod z).before a0 Z = true) (w3 : (Jvm.Cond.initialized z.cls).before a0 Z = true) (w4 : (Jvm.Cond.code z bytes maxL ret).before a0 Z = true)
    (hy : y.cls ≠ "java/lang/invoke/MethodHandle" ∧ y.cls ≠ "java/lang/invoke/VarHandle")
    {rm : Room} {a : Addr} {argsL rest : List Value} (hM : ctr l Z z bytes maxL ret [] rm rm.cells rm.slots (.ref a :: argsL).toArray h Q) (eT : T.heap = h) (E : Exa Z h a C) (W : Nat) (hf : rm.frames + 1 ≤ R.frames) (hl : W + (maxL + 11) + rm.locals ≤ R.locals) (hc : cells + rm.cells ≤ R.cells) (hs : slots + rm.slots ≤ R.slots)
    {g : JFrame} (hg : g.method = m) (hsize : g.locals.size = c.maxLocals) (hlen : ∀ sig, parseMethodDescriptor y.desc = some sig → argsL.length = sig.parameters.length) (hstack : g.stack = argsL.reverse ++ .ref a :: rest) (hW : 2 * g.monitorRoom + (rest.map fun v => v.category).sum ≤ W) (hdg : decode c.code g.pc = .ok (.invokevirtual index, 3)) :
    ∃ (v : Option Value) (T' : State) (L : List Loc), Q v T'.heap L ∧ Stand p l e R s m args below meth c T' (locs ++ L) (cells + rm.cells) (slots + rm.slots) ∧ ∀ target, Steps p.tables e below (T'.setTop { g with pc := g.pc + 3, stack := v.toList ++ rest }) target → Steps p.tables e below (T.setTop g) target := by
  obtain ⟨cq, kq, qa, qb, qc⟩ := isOf hZ eT E
  obtain ⟨v, _, ⟨T', L', k', n'⟩, -, X', ⟨L, hQ, e1, e2, e3⟩, st⟩ := X.virtualBack hx (y := y) (z := z) hown (mvT hZ w1) (mvT hZ w2) nf (mvT hZ ws) (mvT hZ wi) hy (backOf (W := W) hM hZ w4 w3 hf hl) qa qc hg hsize (Steps.refl _) hlen hstack hW hdg (fun _ _ => ⟨rfl, eT, hc, hs⟩)
  dsimp only [Pt.U, Pt.locs, Pt.cells, Pt.slots] at X' e1 e2 e3 st hQ
  subst e1 e2 e3
  exact ⟨v, T', L, hQ, X', fun _ z => st.trans z⟩
theorem cUp (X : Stand p l e R s m args below meth c T locs cells slots) (hx : p.tables.exec = Jvm.exec) (hZ : Z.Warmed39 s.vm) {own C owner : String} {index : Nat} {y z : MethodName} {bytes : ByteArray} {maxL : Nat} {ret : Option FieldType} (hown : s.vm.findClass own = some m.cls)
    (w1 : (Jvm.Cond.methodLink own index y).before a0 Z = true) (wm : (Jvm.Cond.sameMethod y.cls owner y.name y.desc).before a0 Z = true) (w2 : (Jvm.Cond.declares ⟨owner, y.name, y.desc⟩).before a0 Z = true) (ws : (Jvm.Cond.selects C y z).before a0 Z = true) (wi : (Jvm.Cond.instanceMethod z).before a0 Z = true) (w3 : (Jvm.Cond.initialized z.cls).before a0 Z = true) (w4 : (Jvm.Cond.code z bytes maxL ret).before a0 Z = true)
    (hy : owner ≠ "java/lang/invoke/MethodHandle" ∧ owner ≠ "java/lang/invoke/VarHandle")
    {rm : Room} {a : Addr} {argsL rest : List Value} (hM : ctr l Z z bytes maxL ret [] rm rm.cells rm.slots (.ref a :: argsL).toArray h Q) (eT : T.heap = h) (E : Exa Z h a C) (W : Nat) (hf : rm.frames + 1 ≤ R.frames) (hl : W + (maxL + 11) + rm.locals ≤ R.locals) (hc : cells + rm.cells ≤ R.cells) (hs : slots + rm.slots ≤ R.slots)
    {g : JFrame} (hg : g.method = m) (hsize : g.locals.size = c.maxLocals) (hlen : ∀ sig, parseMethodDescriptor y.desc = some sig → argsL.length = sig.parameters.length) (hstack : g.stack = argsL.reverse ++ .ref a :: rest) (hW : 2 * g.monitorRoom + (rest.map fun v => v.category).sum ≤ W) (hdg : decode c.code g.pc = .ok (.invokevirtual index, 3)) :
    ∃ (v : Option Value) (T' : State) (L : List Loc), Q v T'.heap L ∧ Stand p l e R s m args below meth c T' (locs ++ L) (cells + rm.cells) (slots + rm.slots) ∧ ∀ target, Steps p.tables e below (T'.setTop { g with pc := g.pc + 3, stack := v.toList ++ rest }) target → Steps p.tables e below (T.setTop g) target := by
  obtain ⟨cq, kq, qa, qb, qc⟩ := isOf hZ eT E
  obtain ⟨v, _, ⟨T', L', k', n'⟩, -, X', ⟨L, hQ, e1, e2, e3⟩, st⟩ := X.virtualBackUp hx (x := y) (y := z) (owner := owner) hown (mvT hZ w1) (mvT hZ wm) (mvT hZ w2) hy (mvT hZ ws) (mvT hZ wi) (backOf (W := W) hM hZ w4 w3 hf hl) qa qc hg hsize (Steps.refl _) hlen hstack hW hdg (fun _ _ => ⟨rfl, eT, hc, hs⟩)
  dsimp only [Pt.U, Pt.locs, Pt.cells, Pt.slots] at X' e1 e2 e3 st hQ
  subst e1 e2 e3
  exact ⟨v, T', L, hQ, X', fun _ z => st.trans z⟩
theorem cFa (X : Stand p l e R s m args below meth c T locs cells slots) (hx : p.tables.exec = Jvm.exec) (hZ : Z.Warmed39 s.vm) {own C : String} {index count : Nat} {y z : MethodName} {bytes : ByteArray} {maxL : Nat} {ret : Option FieldType} (hown : s.vm.findClass own = some m.cls)
    (w1 : (Jvm.Cond.methodLink own index y).before a0 Z = true) (w2 : (Jvm.Cond.declares y).before a0 Z = true) (wf : (Jvm.Cond.interfaceMethod y.cls y.cls y.name y.desc).before args s = true) (ws : (Jvm.Cond.selects C y z).before a0 Z = true) (wi : (Jvm.Cond.instanceMethod z).before a0 Z = true) (wp : (Jvm.Cond.publicMethod z).before a0 Z = true) (wu : (Jvm.Cond.unhidden C y.name y.desc).before a0 Z = true) (wk : (Jvm.Cond.castable C y.cls).before a0 Z = true) (w3 : (Jvm.Cond.initialized z.cls).before a0 Z = true) (w4 : (Jvm.Cond.code z bytes maxL ret).before a0 Z = true)
    (hy : y.cls ≠ "java/lang/invoke/MethodHandle" ∧ y.cls ≠ "java/lang/invoke/VarHandle")
    {rm : Room} {a : Addr} {argsL rest : List Value} (hM : ctr l Z z bytes maxL ret [] rm rm.cells rm.slots (.ref a :: argsL).toArray h Q) (eT : T.heap = h) (E : Exa Z h a C) (W : Nat) (hf : rm.frames + 1 ≤ R.frames) (hl : W + (maxL + 11) + rm.locals ≤ R.locals) (hc : cells + rm.cells ≤ R.cells) (hs : slots + rm.slots ≤ R.slots)
    {g : JFrame} (hg : g.method = m) (hsize : g.locals.size = c.maxLocals) (hlen : ∀ sig, parseMethodDescriptor y.desc = some sig → argsL.length = sig.parameters.length) (hstack : g.stack = argsL.reverse ++ .ref a :: rest) (hW : 2 * g.monitorRoom + (rest.map fun v => v.category).sum ≤ W) (hdg : decode c.code g.pc = .ok (.invokeinterface index count, 5)) :
    ∃ (v : Option Value) (T' : State) (L : List Loc), Q v T'.heap L ∧ Stand p l e R s m args below meth c T' (locs ++ L) (cells + rm.cells) (slots + rm.slots) ∧ ∀ target, Steps p.tables e below (T'.setTop { g with pc := g.pc + 5, stack := v.toList ++ rest }) target → Steps p.tables e below (T.setTop g) target := by
  obtain ⟨cq, kq, qa, qb, qc⟩ := isOf hZ eT E
  obtain ⟨v, _, ⟨T', L', k', n'⟩, -, X', ⟨L, hQ, e1, e2, e3⟩, st⟩ := X.interfaceBack hx (xi := y) (y := z) hown (mvT hZ w1) (mvT hZ w2) wf (mvT hZ ws) (mvT hZ wi) (mvT hZ wp) (mvT hZ wu) (mvT hZ wk) hy (backOf (W := W) hM hZ w4 w3 hf hl) qa qb qc hg hsize (Steps.refl _) hlen hstack hW hdg (fun _ _ => ⟨rfl, eT, hc, hs⟩)
  dsimp only [Pt.U, Pt.locs, Pt.cells, Pt.slots] at X' e1 e2 e3 st hQ
  subst e1 e2 e3
  exact ⟨v, T', L, hQ, X', fun _ z => st.trans z⟩
theorem cPr (X : Stand p l e R s m args below meth c T locs cells slots) (hx : p.tables.exec = Jvm.exec) (hZ : Z.Warmed39 s.vm) {own C : String} {index : Nat} {y : MethodName} {bytes : ByteArray} {maxL : Nat} {ret : Option FieldType} (hown : s.vm.findClass own = some m.cls)
    (w1 : (Jvm.Cond.methodLink own index y).before a0 Z = true) (wi : (Jvm.Cond.instanceMethod y).before a0 Z = true) (ws : (Jvm.Cond.selects y.cls y y).before a0 Z = true) (wp : (Jvm.Cond.privateMethod y).before a0 Z = true) (w3 : (Jvm.Cond.initialized y.cls).before a0 Z = true) (w4 : (Jvm.Cond.code y bytes maxL ret).before a0 Z = true)
    (hy : y.cls ≠ "java/lang/invoke/MethodHandle" ∧ y.cls ≠ "java/lang/invoke/VarHandle")
    {rm : Room} {a : Addr} {argsL rest : List Value} (hM : ctr l Z y bytes maxL ret [] rm rm.cells rm.slots (.ref a :: argsL).toArray h Q) (eT : T.heap = h) (E : Exa Z h a C) (W : Nat) (hf : rm.frames + 1 ≤ R.frames) (hl : W + (maxL + 11) + rm.locals ≤ R.locals) (hc : cells + rm.cells ≤ R.cells) (hs : slots + rm.slots ≤ R.slots)
    {g : JFrame} (hg : g.method = m) (hsize : g.locals.size = c.maxLocals) (hlen : ∀ sig, parseMethodDescriptor y.desc = some sig → argsL.length = sig.parameters.length) (hstack : g.stack = argsL.reverse ++ .ref a :: rest) (hW : 2 * g.monitorRoom + (rest.map fun v => v.category).sum ≤ W) (hdg : decode c.code g.pc = .ok (.invokevirtual index, 3)) :
    ∃ (v : Option Value) (T' : State) (L : List Loc), Q v T'.heap L ∧ Stand p l e R s m args below meth c T' (locs ++ L) (cells + rm.cells) (slots + rm.slots) ∧ ∀ target, Steps p.tables e below (T'.setTop { g with pc := g.pc + 3, stack := v.toList ++ rest }) target → Steps p.tables e below (T.setTop g) target := by
  obtain ⟨cl, qa, qb⟩ := E.cell
  obtain ⟨v, _, ⟨T', L', k', n'⟩, -, X', ⟨L, hQ, e1, e2, e3⟩, st⟩ := X.privateBack hx (y := y) hown (mvT hZ w1) (mvT hZ wi) (mvT hZ ws) (Cond.privateMethod_at (args := #[]) (mvP hZ wp)) (mvT hZ w4) hy (backOf (W := W) hM hZ w4 w3 hf hl) hg hsize (Steps.refl _) (cell := cl) (by rw [eT]; exact qa) qb hlen hstack hW hdg (fun _ _ => ⟨rfl, eT, hc, hs⟩)
  dsimp only [Pt.U, Pt.locs, Pt.cells, Pt.slots] at X' e1 e2 e3 st hQ
  subst e1 e2 e3
  exact ⟨v, T', L, hQ, X', fun _ z => st.trans z⟩
/-- a static's fact over a Keep: its holder's cell is none of the written -/
theorem Sta.keep {h' : Heap} {C n d : String} {v : Value} {ws : List Addr} (F : Sta Z h C n d v) (K : Keep h h' ws) (q : ∀ (x : Addr) (c : Cell), x ∈ ws → h[x]? = some c → c.vm.isStatics = false) : Sta Z h' C n d v := by
  obtain ⟨cf, i, k, f, st, cell, h1, h2, h3, h4, h5, h6, h7⟩ := F
  refine ⟨cf, i, k, f, st, cell, h1, h2, h3, h4, K.2.1 _ _ h5 (fun y => ?_), h6, h7⟩
  rw [q st cell y h5] at h6; cases h6
theorem own_ns {a : Addr} {C : String} (E : Exa Z h a C) : ∀ (x : Addr) (c : Cell), x ∈ [a] → h[x]? = some c → c.vm.isStatics = false := by
  intro x c hx hc
  cases List.mem_singleton.mp hx
  obtain ⟨cell, k, h1, -, -, h4, -⟩ := E
  rw [h1] at hc; cases hc; exact h4
/-- an int field of what a term names, out of an 'eq' of the case -/
theorem own_fld {args : Array Value} {a : Addr} {C n d : String} {t : Term} {x : Int32} (ev : t.eval args Z none [] Z = some (.ref a)) (hq : (Jvm.Cond.eq (.field t C n d) (.int x)).value args Z none Z [] = some true) : Fld Z Z.heap a C n d (.int x) := by
  obtain ⟨u, w, h1, h2, k1, k2⟩ := cmp_v (Or.inl hq)
  have h2' : w = .int x := by rw [Term.int_eval] at h2; exact (Option.some.inj h2).symm
  subst h2'
  obtain ⟨z, rfl⟩ : ∃ z, u = .int z := k2
  have : z = x := gotT (Cond.eq_ints h1 (Term.int_eval x)) hq
  subst this
  exact Fld.start (by rw [← fld_at ev]; exact h1)
theorem own_cat {v : Value} (r : v.isRef = true) : v.category = 1 := by rcases ref_cases r with rfl | ⟨a, rfl⟩ <;> rfl
theorem own_narO {C : String} {v : Value} (r : v.isRef = true) : narrow (.object C) v = v := by rcases ref_cases r with rfl | ⟨a, rfl⟩ <;> rfl
theorem own_fitO {C : String} {v : Value} (r : v.isRef = true) : fits (.object C) v = true := by rcases ref_cases r with rfl | ⟨a, rfl⟩ <;> rfl
theorem own_len {args : Array Value} {a : Addr} {cl : Cell} {ty : FieldType} {t : Term} {x : Int32} (ev : t.eval args Z none [] Z = some (.ref a)) (A : Arr Z Z.heap a cl ty) (hq : (Jvm.Cond.eq (.length t) (.int x)).value args Z none Z [] = some true) : cl.slots.size = x.toNatClampNeg ∧ cl.slots.size < 2 ^ 31 := by
  have ha : Z.arrayAt? a = some cl := IntBox.arrayAt_of A.1 A.2.1 A.2.2
  by_cases p : cl.slots.size < 2 ^ 31
  · have q := gotT (Cond.eq_ints (len_f ev ha p) (Term.int_eval x)) hq
    refine ⟨?_, p⟩
    rw [← q, Int32.toNatClampNeg, len_toInt p]; rfl
  · obtain ⟨u, w, h1, h2, -, -⟩ := cmp_v (Or.inl hq)
    exact absurd h1 (by simp [Term.eval, ev, ha, p])
theorem own_elem {args : Array Value} {a b : Addr} {cl : Cell} {ty : FieldType} {t u : Term} {j : Int32} (ev : t.eval args Z none [] Z = some (.ref a)) (A : Arr Z Z.heap a cl ty) (eu : u.eval args Z none [] Z = some (.ref b)) (hq : (Jvm.Cond.eq (.elem t (.int j)) u).value args Z none Z [] = some true) : cl.slots[j.toNatClampNeg]? = some (.ref b) := by
  obtain ⟨x, y, h1, h2, k1, k2⟩ := cmp_v (Or.inl hq)
  rw [eu] at h2; cases h2
  have e := gotT (eq_R h1 eu k2.2 rfl) hq
  rw [← e]; exact (elem_in h1 ev (Term.int_eval j) A.1).2
end Own
end Jvm.RoadKit

namespace Jvm.RoadKit
open Sem ClassFile Op Lib Bundle Jvm.Stand Jvm.Free Jvm.LawKit Jvm.Free.SB Jvm.Free.SBG
section OwnW
variable {p : Program} {l : Launch} {e : Env} {R : Room} {s : State} {m : MethodId} {args : Array Value} {below : List Frame} {meth : Method} {c : Code} {T : State} {locs : List Loc} {cells slots : Nat} {vm0 : Vm} {k0 : Nat}
/-- as Dn, where string constants may have been interned meanwhile -/
def DnW (p : Program) (e : Env) (below : List Frame) (s : State) (Q : Option Value → Heap → List Loc → Prop) (k n : Nat) (S : State) : Prop :=
  ∃ U o, Steps p.tables e below S U ∧ U.status = .running ∧ Ended U below o ∧ ∃ v L, o = .returned v ∧ Q v U.heap L ∧ ReturnedEndW s o U L k n
variable {Q Q' : Option Value → Heap → List Loc → Prop} {k n : Nat} {S S' : State} {Z : State} {a0 : Array Value} {h : Heap}
theorem DnW.of (w : ∀ t, Steps p.tables e below S' t → Steps p.tables e below S t) (d : DnW p e below s Q k n S') : DnW p e below s Q k n S := by
  obtain ⟨U, o, st, r⟩ := d
  exact ⟨U, o, w U st, r⟩
theorem DnW.cast {g g' : JFrame} (q : g = g') (d : DnW p e below s Q k n (T.setTop g')) : DnW p e below s Q k n (T.setTop g) := q ▸ d
theorem DnW.retN (hS : s.Since vm0 k0) (hk0 : k0 ≤ T.heap.size) (X : Stand p l e R (s.setVm vm0) m args below meth c T locs cells slots) (hx : p.tables.exec = Jvm.exec) (hlk : meth.locks = false) {pc : Nat} {Ls : Array Slot} {z : Int32} {t : FieldType} {rest : List Value} (hret : meth.sig.returnType = some t) (ht : t = .boolean ∨ t = .byte ∨ t = .char ∨ t = .short)
    (hd : decode c.code pc = .ok (.ireturn, 1)) (hk : cells ≤ k) (hs : slots ≤ n) (hQ : Q (some (.int (nar t z))) T.heap locs) : DnW p e below s Q k n (T.setTop (mkF m pc Ls (.int z :: rest))) := by
  obtain ⟨fs, hr, hrun, hended, hW, hsame⟩ := X.leave (v := some (.int (nar t z))) (fun q => by rw [hret] at q; cases q) hlk
  obtain ⟨r1, r2, r3⟩ := hS.ended (U := T.setFrames fs) hW hk0 hsame
  exact ⟨_, _, Jvm.RoadKit.retN X hx hret ht hd hr, hrun, hended, _, _, rfl, hQ, ⟨_, rfl⟩, r1, r2, r3.mono hk hs⟩
theorem DnW.ret (hS : s.Since vm0 k0) (hk0 : k0 ≤ T.heap.size) (X : Stand p l e R (s.setVm vm0) m args below meth c T locs cells slots) (hx : p.tables.exec = Jvm.exec) (hlk : meth.locks = false) {pc : Nat} {Ls : Array Slot} {w : Value} {t : FieldType} {i : Instr} {rest : List Value} (hret : meth.sig.returnType = some t) (hn : narrow t w = w)
    (hi : (i = .ireturn ∧ (t = .int ∨ t = .boolean ∨ t = .byte ∨ t = .char ∨ t = .short) ∧ ∃ z, w = .int z) ∨ (i = .lreturn ∧ t = .long ∧ ∃ z, w = .long z) ∨ (i = .dreturn ∧ t = .double ∧ ∃ z, w = .double z) ∨ (i = .freturn ∧ t = .float ∧ ∃ z, w = .float z) ∨ (i = .areturn ∧ t.isReference = true ∧ w.isRef = true))
    (hd : decode c.code pc = .ok (i, 1)) (hk : cells ≤ k) (hs : slots ≤ n) (hQ : Q (some w) T.heap locs) : DnW p e below s Q k n (T.setTop (mkF m pc Ls (w :: rest))) := by
  obtain ⟨fs, hr, hrun, hended, hW, hsame⟩ := X.leave (v := some w) (fun q => by rw [hret] at q; cases q) hlk
  obtain ⟨r1, r2, r3⟩ := hS.ended (U := T.setFrames fs) hW hk0 hsame
  exact ⟨_, _, retOut X hx hret hn hi hd hr, hrun, hended, _, _, rfl, hQ, ⟨_, rfl⟩, r1, r2, r3.mono hk hs⟩
theorem DnW.retA (hS : s.Since vm0 k0) (hk0 : k0 ≤ T.heap.size) (X : Stand p l e R (s.setVm vm0) m args below meth c T locs cells slots) (hx : p.tables.exec = Jvm.exec) (hlk : meth.locks = false) {pc : Nat} {Ls : Array Slot} {w : Value} {t : FieldType} {rest : List Value} (hret : meth.sig.returnType = some t) (ht : t.isReference = true) (hw : w.isRef = true)
    (hd : decode c.code pc = .ok (.areturn, 1)) (hk : cells ≤ k) (hs : slots ≤ n) (hQ : Q (some w) T.heap locs) : DnW p e below s Q k n (T.setTop (mkF m pc Ls (w :: rest))) :=
  DnW.ret hS hk0 X hx hlk hret (by cases t <;> simp [FieldType.isReference] at ht <;> rcases ref_cases hw with rfl | ⟨a, rfl⟩ <;> rfl) (Or.inr (Or.inr (Or.inr (Or.inr ⟨rfl, ht, hw⟩)))) hd hk hs hQ
theorem DnW.retV (hS : s.Since vm0 k0) (hk0 : k0 ≤ T.heap.size) (X : Stand p l e R (s.setVm vm0) m args below meth c T locs cells slots) (hx : p.tables.exec = Jvm.exec) (hlk : meth.locks = false) {pc : Nat} {Ls : Array Slot} (hret : meth.sig.returnType = none)
    (hd : decode c.code pc = .ok (.return_, 1)) (hk : cells ≤ k) (hs : slots ≤ n) (hQ : Q none T.heap locs) : DnW p e below s Q k n (T.setTop (mkF m pc Ls [])) := by
  obtain ⟨fs, hr, hrun, hended, hW, hsame⟩ := X.leave (v := none) (fun _ => rfl) hlk
  obtain ⟨r1, r2, r3⟩ := hS.ended (U := T.setFrames fs) hW hk0 hsame
  exact ⟨_, _, X.returnOut hx hret hd hr, hrun, hended, _, _, rfl, hQ, ⟨_, rfl⟩, r1, r2, r3.mono hk hs⟩
abbrev ctrW (l : Launch) (Z : State) (y : MethodName) (bytes : ByteArray) (maxL : Nat) (ret : Option FieldType) (ws : List Jvm.Cond) (rm : Room) (k n : Nat) (as' : Array Value) (h : Heap) (Q : Option Value → Heap → List Loc → Prop) : Prop :=
  MetFree l y (head1 (Jvm.Cond.code y bytes maxL ret :: ws) rm) (fun a U => a = as' ∧ Z.Warmed39 U.vm ∧ U.heap = h) (fun _ _ _ _ _ => True) (fun _ U o U' => ∃ v L, o = .returned v ∧ Q v U'.heap L ∧ ReturnedEndW U o U' L k n)
theorem ctrW_of {y : MethodName} {bytes : ByteArray} {maxL : Nat} {ret : Option FieldType} {ws : List Jvm.Cond} {rm : Room} {as' : Array Value} (pn : plainFor y = true)
    (body : ∀ (p : Program) (e : Env) (s : State) (m : MethodId) (below : List Frame) (meth : Method) (c : Code) (s₁ : State), p.tables.exec = Jvm.exec → c.code = bytes → c.maxLocals = maxL → meth.sig.returnType = ret → meth.locks = false → meth.name = y.name → s.vm.findClass y.cls = some m.cls →
      Z.Warmed39 s.vm → s₁.heap = h → s.Since s.vm h.size → Stand p l e rm (s.setVm s.vm) m as' below meth c s₁ [] 0 0 → DnW p e below s Q k n (s₁.setTop (entryFrame m as' maxL))) : ctrW l Z y bytes maxL ret ws rm k n as' h Q := by
  refine MetFree.of_bodySF pn hisR ?_
  intro p e s m args below meth c s₁ Bd hml0 hP hK
  obtain ⟨rfl, hZ, hh⟩ := hP
  exact body p e s m below meth c s₁ Bd.exec Bd.bytes hml0 Bd.returns Bd.notSynchronized (name_of_methodNamed Bd.named Bd.method).1 (findClass_of_methodNamed Bd.named) hZ (by rw [← hh, Bd.state]; rfl) ((State.WarmedH.refl s).since _) (Stand.of_body Bd)
end OwnW
end Jvm.RoadKit
namespace Jvm.RoadKit
open Sem ClassFile Op Lib Bundle Jvm.Stand Jvm.Free Jvm.LawKit Jvm.Free.SB Jvm.Free.SBG
section OwnH
variable {p : Program} {l : Launch} {e : Env} {R : Room} {s : State} {m : MethodId} {args : Array Value} {below : List Frame} {meth : Method} {c : Code} {T : State} {locs : List Loc} {cells slots : Nat} {vm0 : Vm} {k0 : Nat} {EL : List (String × Nat)}
/-- as DnW, and the constants of EL hold their text at the end too -/
def DnH (Z : State) (EL : List (String × Nat)) (p : Program) (e : Env) (below : List Frame) (s : State) (Q : Option Value → Heap → List Loc → Prop) (k n : Nat) (S : State) : Prop :=
  ∃ U o, Steps p.tables e below S U ∧ U.status = .running ∧ Ended U below o ∧ ∃ v L, o = .returned v ∧ Q v U.heap L ∧ CHr Z EL s.vm s.heap U.vm U.heap ∧ ReturnedEndW s o U L k n
variable {Q Q' : Option Value → Heap → List Loc → Prop} {k n : Nat} {S S' : State} {Z : State} {a0 : Array Value} {h : Heap}
theorem DnH.of (w : ∀ t, Steps p.tables e below S' t → Steps p.tables e below S t) (d : DnH Z EL p e below s Q k n S') : DnH Z EL p e below s Q k n S := by
  obtain ⟨U, o, st, r⟩ := d
  exact ⟨U, o, w U st, r⟩
theorem DnH.cast {g g' : JFrame} (q : g = g') (d : DnH Z EL p e below s Q k n (T.setTop g')) : DnH Z EL p e below s Q k n (T.setTop g) := q ▸ d
theorem DnH.retA (hC : CHr Z EL s.vm s.heap T.vm T.heap) (hS : s.Since vm0 k0) (hk0 : k0 ≤ T.heap.size) (X : Stand p l e R (s.setVm vm0) m args below meth c T locs cells slots) (hx : p.tables.exec = Jvm.exec) (hlk : meth.locks = false) {pc : Nat} {Ls : Array Slot} {w : Value} {t : FieldType} {rest : List Value} (hret : meth.sig.returnType = some t) (ht : t.isReference = true) (hw : w.isRef = true)
    (hd : decode c.code pc = .ok (.areturn, 1)) (hk : cells ≤ k) (hs : slots ≤ n) (hQ : Q (some w) T.heap locs) : DnH Z EL p e below s Q k n (T.setTop (mkF m pc Ls (w :: rest))) := by
  have hn : narrow t w = w := by cases t <;> simp [FieldType.isReference] at ht <;> rcases ref_cases hw with rfl | ⟨a, rfl⟩ <;> rfl
  obtain ⟨fs, hr, hrun, hended, hW, hsame⟩ := X.leave (v := some w) (fun q => by rw [hret] at q; cases q) hlk
  obtain ⟨r1, r2, r3⟩ := hS.ended (U := T.setFrames fs) hW hk0 hsame
  exact ⟨_, _, retOut X hx hret hn (Or.inr (Or.inr (Or.inr (Or.inr ⟨rfl, ht, hw⟩)))) hd hr, hrun, hended, _, _, rfl, hQ, hC, ⟨_, rfl⟩, r1, r2, r3.mono hk hs⟩
abbrev ctrH (l : Launch) (Z : State) (EL : List (String × Nat)) (y : MethodName) (bytes : ByteArray) (maxL : Nat) (ret : Option FieldType) (ws : List Jvm.Cond) (rm : Room) (k n : Nat) (as' : Array Value) (h : Heap) (Q : Option Value → Heap → List Loc → Prop) : Prop :=
  MetFree l y (head1 (Jvm.Cond.code y bytes maxL ret :: ws) rm) (fun a U => a = as' ∧ Z.Warmed39 U.vm ∧ U.heap = h ∧ CHv Z EL U.vm h) (fun _ _ _ _ _ => True) (fun _ U o U' => ∃ v L, o = .returned v ∧ Q v U'.heap L ∧ CHr Z EL U.vm U.heap U'.vm U'.heap ∧ ReturnedEndW U o U' L k n)
theorem ctrH_of {y : MethodName} {bytes : ByteArray} {maxL : Nat} {ret : Option FieldType} {ws : List Jvm.Cond} {rm : Room} {as' : Array Value} (pn : plainFor y = true)
    (body : ∀ (p : Program) (e : Env) (s : State) (m : MethodId) (below : List Frame) (meth : Method) (c : Code) (s₁ : State), p.tables.exec = Jvm.exec → c.code = bytes → c.maxLocals = maxL → meth.sig.returnType = ret → meth.locks = false → meth.name = y.name → s.vm.findClass y.cls = some m.cls →
      Z.Warmed39 s.vm → s₁.heap = h → s.heap = h → CHv Z EL s.vm h → s.Since s.vm h.size → Stand p l e rm (s.setVm s.vm) m as' below meth c s₁ [] 0 0 → DnH Z EL p e below s Q k n (s₁.setTop (entryFrame m as' maxL))) : ctrH l Z EL y bytes maxL ret ws rm k n as' h Q := by
  refine MetFree.of_bodySF pn hisR ?_
  intro p e s m args below meth c s₁ Bd hml0 hP hK
  obtain ⟨rfl, hZ, hh, hH⟩ := hP
  exact body p e s m below meth c s₁ Bd.exec Bd.bytes hml0 Bd.returns Bd.notSynchronized (name_of_methodNamed Bd.named Bd.method).1 (findClass_of_methodNamed Bd.named) hZ (by rw [← hh, Bd.state]; rfl) hh hH ((State.WarmedH.refl s).since _) (Stand.of_body Bd)
/-- a body that is entered with the invariant and of which the end says nothing of it -/
abbrev ctrHW (l : Launch) (Z : State) (EL : List (String × Nat)) (y : MethodName) (bytes : ByteArray) (maxL : Nat) (ret : Option FieldType) (ws : List Jvm.Cond) (rm : Room) (k n : Nat) (as' : Array Value) (h : Heap) (Q : Option Value → Heap → List Loc → Prop) : Prop :=
  MetFree l y (head1 (Jvm.Cond.code y bytes maxL ret :: ws) rm) (fun a U => a = as' ∧ Z.Warmed39 U.vm ∧ U.heap = h ∧ CHv Z EL U.vm h) (fun _ _ _ _ _ => True) (fun _ U o U' => ∃ v L, o = .returned v ∧ Q v U'.heap L ∧ ReturnedEndW U o U' L k n)
theorem ctrHW_of {y : MethodName} {bytes : ByteArray} {maxL : Nat} {ret : Option FieldType} {ws : List Jvm.Cond} {rm : Room} {as' : Array Value} (pn : plainFor y = true)
    (body : ∀ (p : Program) (e : Env) (s : State) (m : MethodId) (below : List Frame) (meth : Method) (c : Code) (s₁ : State), p.tables.exec = Jvm.exec → c.code = bytes → c.maxLocals = maxL → meth.sig.returnType = ret → meth.locks = false → meth.name = y.name → s.vm.findClass y.cls = some m.cls →
      Z.Warmed39 s.vm → s₁.heap = h → s.heap = h → CHv Z EL s.vm h → s.Since s.vm h.size → Stand p l e rm (s.setVm s.vm) m as' below meth c s₁ [] 0 0 → DnW p e below s Q k n (s₁.setTop (entryFrame m as' maxL))) : ctrHW l Z EL y bytes maxL ret ws rm k n as' h Q := by
  refine MetFree.of_bodySF pn hisR ?_
  intro p e s m args below meth c s₁ Bd hml0 hP hK
  obtain ⟨rfl, hZ, hh, hH⟩ := hP
  exact body p e s m below meth c s₁ Bd.exec Bd.bytes hml0 Bd.returns Bd.notSynchronized (name_of_methodNamed Bd.named Bd.method).1 (findClass_of_methodNamed Bd.named) hZ (by rw [← hh, Bd.state]; rfl) hh hH ((State.WarmedH.refl s).since _) (Stand.of_body Bd)
/-- a static call of a body with the invariant -/
theorem cSH (X : Stand p l e R (s.setVm vm0) m args below meth c T locs cells slots) (hx : p.tables.exec = Jvm.exec) (hZ : Z.Warmed39 vm0) {own : String} {index : Nat} {y : MethodName} {bytes : ByteArray} {maxL : Nat} {ret : Option FieldType} (hown : vm0.findClass own = some m.cls)
    (w1 : (Jvm.Cond.methodLink own index y).before a0 Z = true) (w2 : (Jvm.Cond.static y).before a0 Z = true) (w3 : (Jvm.Cond.initialized y.cls).before a0 Z = true) (w4 : (Jvm.Cond.code y bytes maxL ret).before a0 Z = true) (hy : y.cls ≠ "java/lang/invoke/MethodHandle" ∧ y.cls ≠ "java/lang/invoke/VarHandle")
    (hEL : EW Z a0 EL) (H : CHv Z EL vm0 h) (hS : s.Since vm0 k0) (hk : k0 ≤ h.size)
    {rm : Room} {argsL rest : List Value} (hM : ctrH l Z EL y bytes maxL ret [] rm rm.cells rm.slots argsL.toArray h Q) (eT : T.heap = h) (W : Nat) (hf : rm.frames + 1 ≤ R.frames) (hl : W + (maxL + 11) + rm.locals ≤ R.locals) (hc : cells + rm.cells ≤ R.cells) (hs : slots + rm.slots ≤ R.slots)
    {g : JFrame} (hg : g.method = m) (hsize : g.locals.size = c.maxLocals) (hlen : ∀ sig, parseMethodDescriptor y.desc = some sig → argsL.length = sig.parameters.length) (hstack : g.stack = argsL.reverse ++ rest) (hW : 2 * g.monitorRoom + (rest.map fun v => v.category).sum ≤ W) (hdg : decode c.code g.pc = .ok (.invokestatic index, 3)) :
    ∃ (v : Option Value) (T' : State) (L : List Loc), Q v T'.heap L ∧ Stand p l e R (s.setVm T'.vm) m args below meth c T' (locs ++ L) (cells + rm.cells) (slots + rm.slots) ∧ s.Since T'.vm T'.heap.size ∧ Z.Warmed39 T'.vm ∧ T'.vm.findClass own = some m.cls ∧ CHr Z EL vm0 h T'.vm T'.heap ∧ ∀ target, Steps p.tables e below (T'.setTop { g with pc := g.pc + 3, stack := v.toList ++ rest }) target → Steps p.tables e below (T.setTop g) target := by
  subst eT
  obtain ⟨v, _, ⟨T', L', k', n'⟩, -, X', hS2, hg2, ⟨L, hQ, e1, e2, e3, hC⟩, st⟩ := callSS X hx (y := y) hown (mvT (s := s.setVm vm0) hZ w1) (mvT (s := s.setVm vm0) hZ w2) (mvT (s := s.setVm vm0) hZ w3) (mvT (s := s.setVm vm0) hZ w4) hy (backOfSH (W := W) hM hZ w4 w3 hf hl hEL H) hg hsize hlen hstack hW hdg (fun _ _ => ⟨rfl, rfl, hc, hs⟩)
  dsimp only [Pt.U, Pt.locs, Pt.cells, Pt.slots] at X' e1 e2 e3 st hQ hS2 hg2 hC
  subst e1 e2 e3
  exact ⟨v, T', L, hQ, X', foldS hS hk hS2 hg2, State.Warmed39.trans (t := s.setVm vm0) hZ hS2.1, by rw [hS2.1.alike.findClass]; exact hown, hC, fun _ z => st.trans z⟩
end OwnH
end Jvm.RoadKit
namespace Jvm.Pilot.@@N@@
open Jvm Jvm.ClassFile Sem Op Lib Jvm.Free Jvm.Stand Jvm.LawKit Jvm.RoadKit Bundle Jvm.Pilot.@@N@@.Jvm.D
theorem d1_0 : decode method_3_code 0 = .ok (.iload_n 0, 1) := by decide +kernel
theorem d1_1 : decode method_3_code 1 = .ok (.ifCond .ne 6, 3) := by decide +kernel
theorem d1_4 : decode method_3_code 4 = .ok (.ldc 28, 2) := by decide +kernel
theorem d1_6 : decode method_3_code 6 = .ok (.areturn, 1) := by decide +kernel
theorem d1_7 : decode method_3_code 7 = .ok (.iload_n 0, 1) := by decide +kernel
theorem d1_8 : decode method_3_code 8 = .ok (.iconst 1, 1) := by decide +kernel
theorem d1_9 : decode method_3_code 9 = .ok (.if_icmp .ne 8, 3) := by decide +kernel
theorem d1_12 : decode method_3_code 12 = .ok (.iload_n 1, 1) := by decide +kernel
theorem d1_13 : decode method_3_code 13 = .ok (.invokestatic 30, 3) := by decide +kernel
theorem d1_16 : decode method_3_code 16 = .ok (.areturn, 1) := by decide +kernel
theorem d1_17 : decode method_3_code 17 = .ok (.iconst 2, 1) := by decide +kernel
theorem d1_18 : decode method_3_code 18 = .ok (.newarray .char, 2) := by decide +kernel
theorem d1_20 : decode method_3_code 20 = .ok (.astore_n 3, 1) := by decide +kernel
theorem d1_21 : decode method_3_code 21 = .ok (.aload_n 3, 1) := by decide +kernel
theorem d1_22 : decode method_3_code 22 = .ok (.iconst 0, 1) := by decide +kernel
theorem d1_23 : decode method_3_code 23 = .ok (.iload_n 1, 1) := by decide +kernel
theorem d1_24 : decode method_3_code 24 = .ok (.castore, 1) := by decide +kernel
theorem d1_25 : decode method_3_code 25 = .ok (.aload_n 3, 1) := by decide +kernel
theorem d1_26 : decode method_3_code 26 = .ok (.iconst 1, 1) := by decide +kernel
theorem d1_27 : decode method_3_code 27 = .ok (.iload_n 2, 1) := by decide +kernel
theorem d1_28 : decode method_3_code 28 = .ok (.castore, 1) := by decide +kernel
theorem d1_29 : decode method_3_code 29 = .ok (.new 31, 3) := by decide +kernel
theorem d1_32 : decode method_3_code 32 = .ok (.dup, 1) := by decide +kernel
theorem d1_33 : decode method_3_code 33 = .ok (.aload_n 3, 1) := by decide +kernel
theorem d1_34 : decode method_3_code 34 = .ok (.invokespecial 36, 3) := by decide +kernel
theorem d1_37 : decode method_3_code 37 = .ok (.areturn, 1) := by decide +kernel
theorem d2_0 : decode method_2_code 0 = .ok (.iload_n 0, 1) := by decide +kernel
theorem d2_1 : decode method_2_code 1 = .ok (.ifCond .ne 7, 3) := by decide +kernel
theorem d2_4 : decode method_2_code 4 = .ok (.getstatic 7, 3) := by decide +kernel
theorem d2_7 : decode method_2_code 7 = .ok (.areturn, 1) := by decide +kernel
theorem d2_8 : decode method_2_code 8 = .ok (.iload_n 0, 1) := by decide +kernel
theorem d2_9 : decode method_2_code 9 = .ok (.iconst 1, 1) := by decide +kernel
theorem d2_10 : decode method_2_code 10 = .ok (.if_icmp .ne 7, 3) := by decide +kernel
theorem d2_13 : decode method_2_code 13 = .ok (.getstatic 13, 3) := by decide +kernel
theorem d2_16 : decode method_2_code 16 = .ok (.areturn, 1) := by decide +kernel
theorem d2_17 : decode method_2_code 17 = .ok (.iload_n 0, 1) := by decide +kernel
theorem d2_18 : decode method_2_code 18 = .ok (.iconst 2, 1) := by decide +kernel
theorem d2_19 : decode method_2_code 19 = .ok (.if_icmp .ne 7, 3) := by decide +kernel
theorem d2_22 : decode method_2_code 22 = .ok (.getstatic 16, 3) := by decide +kernel
theorem d2_25 : decode method_2_code 25 = .ok (.areturn, 1) := by decide +kernel
theorem d2_26 : decode method_2_code 26 = .ok (.iload_n 0, 1) := by decide +kernel
theorem d2_27 : decode method_2_code 27 = .ok (.iconst 3, 1) := by decide +kernel
theorem d2_28 : decode method_2_code 28 = .ok (.if_icmp .ne 7, 3) := by decide +kernel
theorem d2_31 : decode method_2_code 31 = .ok (.getstatic 19, 3) := by decide +kernel
theorem d2_34 : decode method_2_code 34 = .ok (.areturn, 1) := by decide +kernel
theorem d2_35 : decode method_2_code 35 = .ok (.iload_n 0, 1) := by decide +kernel
theorem d2_36 : decode method_2_code 36 = .ok (.iconst 4, 1) := by decide +kernel
theorem d2_37 : decode method_2_code 37 = .ok (.if_icmp .ne 7, 3) := by decide +kernel
theorem d2_40 : decode method_2_code 40 = .ok (.getstatic 22, 3) := by decide +kernel
theorem d2_43 : decode method_2_code 43 = .ok (.areturn, 1) := by decide +kernel
theorem d2_44 : decode method_2_code 44 = .ok (.iload_n 0, 1) := by decide +kernel
theorem d2_45 : decode method_2_code 45 = .ok (.iconst 5, 1) := by decide +kernel
theorem d2_46 : decode method_2_code 46 = .ok (.if_icmp .ne 7, 3) := by decide +kernel
theorem d2_49 : decode method_2_code 49 = .ok (.getstatic 25, 3) := by decide +kernel
theorem d2_52 : decode method_2_code 52 = .ok (.areturn, 1) := by decide +kernel
theorem d2_53 : decode method_2_code 53 = .ok (.aconst_null, 1) := by decide +kernel
theorem d2_54 : decode method_2_code 54 = .ok (.areturn, 1) := by decide +kernel
theorem d3_0 : decode prog_33_method_1_code 0 = .ok (.aload_n 0, 1) := by decide +kernel
theorem d3_1 : decode prog_33_method_1_code 1 = .ok (.invokespecial 1, 3) := by decide +kernel
theorem d3_4 : decode prog_33_method_1_code 4 = .ok (.aload_n 0, 1) := by decide +kernel
theorem d3_5 : decode prog_33_method_1_code 5 = .ok (.aload_n 1, 1) := by decide +kernel
theorem d3_6 : decode prog_33_method_1_code 6 = .ok (.putfield 7, 3) := by decide +kernel
theorem d3_9 : decode prog_33_method_1_code 9 = .ok (.aload_n 0, 1) := by decide +kernel
theorem d3_10 : decode prog_33_method_1_code 10 = .ok (.aload_n 2, 1) := by decide +kernel
theorem d3_11 : decode prog_33_method_1_code 11 = .ok (.putfield 13, 3) := by decide +kernel
theorem d3_14 : decode prog_33_method_1_code 14 = .ok (.aload_n 0, 1) := by decide +kernel
theorem d3_15 : decode prog_33_method_1_code 15 = .ok (.dload_n 3, 1) := by decide +kernel
theorem d3_16 : decode prog_33_method_1_code 16 = .ok (.putfield 17, 3) := by decide +kernel
theorem d3_19 : decode prog_33_method_1_code 19 = .ok (.aload_n 0, 1) := by decide +kernel
theorem d3_20 : decode prog_33_method_1_code 20 = .ok (.iload 5, 2) := by decide +kernel
theorem d3_22 : decode prog_33_method_1_code 22 = .ok (.putfield 21, 3) := by decide +kernel
theorem d3_25 : decode prog_33_method_1_code 25 = .ok (.aload_n 0, 1) := by decide +kernel
theorem d3_26 : decode prog_33_method_1_code 26 = .ok (.iload 6, 2) := by decide +kernel
theorem d3_28 : decode prog_33_method_1_code 28 = .ok (.putfield 25, 3) := by decide +kernel
theorem d3_31 : decode prog_33_method_1_code 31 = .ok (.aload_n 0, 1) := by decide +kernel
theorem d3_32 : decode prog_33_method_1_code 32 = .ok (.iload 7, 2) := by decide +kernel
theorem d3_34 : decode prog_33_method_1_code 34 = .ok (.putfield 28, 3) := by decide +kernel
theorem d3_37 : decode prog_33_method_1_code 37 = .ok (.aload_n 0, 1) := by decide +kernel
theorem d3_38 : decode prog_33_method_1_code 38 = .ok (.iload 8, 2) := by decide +kernel
theorem d3_40 : decode prog_33_method_1_code 40 = .ok (.putfield 31, 3) := by decide +kernel
theorem d3_43 : decode prog_33_method_1_code 43 = .ok (.aload_n 0, 1) := by decide +kernel
theorem d3_44 : decode prog_33_method_1_code 44 = .ok (.iload 9, 2) := by decide +kernel
theorem d3_46 : decode prog_33_method_1_code 46 = .ok (.putfield 34, 3) := by decide +kernel
theorem d3_49 : decode prog_33_method_1_code 49 = .ok (.return_, 1) := by decide +kernel
theorem d4_0 : decode jdk_30_method_1_code 0 = .ok (.aload_n 0, 1) := by decide +kernel
theorem d4_1 : decode jdk_30_method_1_code 1 = .ok (.invokespecial 1, 3) := by decide +kernel
theorem d4_4 : decode jdk_30_method_1_code 4 = .ok (.return_, 1) := by decide +kernel
theorem d6_0 : decode prog_33_method_2_code 0 = .ok (.aload_n 0, 1) := by decide +kernel
theorem d6_1 : decode prog_33_method_2_code 1 = .ok (.getfield 7, 3) := by decide +kernel
theorem d6_4 : decode prog_33_method_2_code 4 = .ok (.aload_n 1, 1) := by decide +kernel
theorem d6_5 : decode prog_33_method_2_code 5 = .ok (.if_acmp .ne 18, 3) := by decide +kernel
theorem d6_8 : decode prog_33_method_2_code 8 = .ok (.aload_n 0, 1) := by decide +kernel
theorem d6_9 : decode prog_33_method_2_code 9 = .ok (.getfield 13, 3) := by decide +kernel
theorem d6_12 : decode prog_33_method_2_code 12 = .ok (.aload_n 2, 1) := by decide +kernel
theorem d6_13 : decode prog_33_method_2_code 13 = .ok (.invokevirtual 38, 3) := by decide +kernel
theorem d6_16 : decode prog_33_method_2_code 16 = .ok (.ifCond .eq 7, 3) := by decide +kernel
theorem d6_19 : decode prog_33_method_2_code 19 = .ok (.iconst 1, 1) := by decide +kernel
theorem d6_20 : decode prog_33_method_2_code 20 = .ok (.goto 4, 3) := by decide +kernel
theorem d6_23 : decode prog_33_method_2_code 23 = .ok (.iconst 0, 1) := by decide +kernel
theorem d6_24 : decode prog_33_method_2_code 24 = .ok (.ireturn, 1) := by decide +kernel
theorem d7_0 : decode jdk_42_method_3_code 0 = .ok (.aload_n 0, 1) := by decide +kernel
theorem d7_1 : decode jdk_42_method_3_code 1 = .ok (.aload_n 1, 1) := by decide +kernel
theorem d7_2 : decode jdk_42_method_3_code 2 = .ok (.iconst 0, 1) := by decide +kernel
theorem d7_3 : decode jdk_42_method_3_code 3 = .ok (.aload_n 1, 1) := by decide +kernel
theorem d7_4 : decode jdk_42_method_3_code 4 = .ok (.arraylength, 1) := by decide +kernel
theorem d7_5 : decode jdk_42_method_3_code 5 = .ok (.aconst_null, 1) := by decide +kernel
theorem d7_6 : decode jdk_42_method_3_code 6 = .ok (.invokespecial 27, 3) := by decide +kernel
theorem d7_9 : decode jdk_42_method_3_code 9 = .ok (.return_, 1) := by decide +kernel
theorem d8_0 : decode jdk_42_method_149_code 0 = .ok (.aload_n 0, 1) := by decide +kernel
theorem d8_1 : decode jdk_42_method_149_code 1 = .ok (.invokespecial 1, 3) := by decide +kernel
theorem d8_4 : decode jdk_42_method_149_code 4 = .ok (.iload_n 3, 1) := by decide +kernel
theorem d8_5 : decode jdk_42_method_149_code 5 = .ok (.ifCond .ne 22, 3) := by decide +kernel
theorem d8_27 : decode jdk_42_method_149_code 27 = .ok (.getstatic 38, 3) := by decide +kernel
theorem d8_30 : decode jdk_42_method_149_code 30 = .ok (.ifCond .eq 28, 3) := by decide +kernel
theorem d8_33 : decode jdk_42_method_149_code 33 = .ok (.aload_n 1, 1) := by decide +kernel
theorem d8_34 : decode jdk_42_method_149_code 34 = .ok (.iload_n 2, 1) := by decide +kernel
theorem d8_35 : decode jdk_42_method_149_code 35 = .ok (.iload_n 3, 1) := by decide +kernel
theorem d8_36 : decode jdk_42_method_149_code 36 = .ok (.invokestatic 177, 3) := by decide +kernel
theorem d8_39 : decode jdk_42_method_149_code 39 = .ok (.astore 5, 2) := by decide +kernel
theorem d8_41 : decode jdk_42_method_149_code 41 = .ok (.aload_n 0, 1) := by decide +kernel
theorem d8_42 : decode jdk_42_method_149_code 42 = .ok (.aload 5, 2) := by decide +kernel
theorem d8_44 : decode jdk_42_method_149_code 44 = .ok (.iload_n 3, 1) := by decide +kernel
theorem d8_45 : decode jdk_42_method_149_code 45 = .ok (.invokestatic 47, 3) := by decide +kernel
theorem d8_48 : decode jdk_42_method_149_code 48 = .ok (.putfield 15, 3) := by decide +kernel
theorem d8_51 : decode jdk_42_method_149_code 51 = .ok (.aload_n 0, 1) := by decide +kernel
theorem d8_52 : decode jdk_42_method_149_code 52 = .ok (.aload 5, 2) := by decide +kernel
theorem d8_54 : decode jdk_42_method_149_code 54 = .ok (.putfield 9, 3) := by decide +kernel
theorem d8_57 : decode jdk_42_method_149_code 57 = .ok (.return_, 1) := by decide +kernel
theorem d9_0 : decode jdk_52_method_16_code 0 = .ok (.iload_n 2, 1) := by decide +kernel
theorem d9_1 : decode jdk_52_method_16_code 1 = .ok (.newarray .byte, 2) := by decide +kernel
theorem d9_3 : decode jdk_52_method_16_code 3 = .ok (.astore_n 3, 1) := by decide +kernel
theorem d9_4 : decode jdk_52_method_16_code 4 = .ok (.aload_n 0, 1) := by decide +kernel
theorem d9_5 : decode jdk_52_method_16_code 5 = .ok (.iload_n 1, 1) := by decide +kernel
theorem d9_6 : decode jdk_52_method_16_code 6 = .ok (.aload_n 3, 1) := by decide +kernel
theorem d9_7 : decode jdk_52_method_16_code 7 = .ok (.iconst 0, 1) := by decide +kernel
theorem d9_8 : decode jdk_52_method_16_code 8 = .ok (.iload_n 2, 1) := by decide +kernel
theorem d9_9 : decode jdk_52_method_16_code 9 = .ok (.invokestatic 115, 3) := by decide +kernel
theorem d9_12 : decode jdk_52_method_16_code 12 = .ok (.istore 4, 2) := by decide +kernel
theorem d9_14 : decode jdk_52_method_16_code 14 = .ok (.iload 4, 2) := by decide +kernel
theorem d9_16 : decode jdk_52_method_16_code 16 = .ok (.iload_n 2, 1) := by decide +kernel
theorem d9_17 : decode jdk_52_method_16_code 17 = .ok (.if_icmp .eq 40, 3) := by decide +kernel
theorem d9_57 : decode jdk_52_method_16_code 57 = .ok (.aload_n 3, 1) := by decide +kernel
theorem d9_58 : decode jdk_52_method_16_code 58 = .ok (.areturn, 1) := by decide +kernel
theorem d10_0 : decode jdk_52_method_21_code 0 = .ok (.iconst 0, 1) := by decide +kernel
theorem d10_1 : decode jdk_52_method_21_code 1 = .ok (.istore 5, 2) := by decide +kernel
theorem d10_3 : decode jdk_52_method_21_code 3 = .ok (.iload 5, 2) := by decide +kernel
theorem d10_5 : decode jdk_52_method_21_code 5 = .ok (.iload 4, 2) := by decide +kernel
theorem d10_7 : decode jdk_52_method_21_code 7 = .ok (.if_icmp .ge 37, 3) := by decide +kernel
theorem d10_10 : decode jdk_52_method_21_code 10 = .ok (.aload_n 0, 1) := by decide +kernel
theorem d10_11 : decode jdk_52_method_21_code 11 = .ok (.iload_n 1, 1) := by decide +kernel
theorem d10_12 : decode jdk_52_method_21_code 12 = .ok (.caload, 1) := by decide +kernel
theorem d10_13 : decode jdk_52_method_21_code 13 = .ok (.istore 6, 2) := by decide +kernel
theorem d10_15 : decode jdk_52_method_21_code 15 = .ok (.iload 6, 2) := by decide +kernel
theorem d10_17 : decode jdk_52_method_21_code 17 = .ok (.sipush 255, 3) := by decide +kernel
theorem d10_20 : decode jdk_52_method_21_code 20 = .ok (.if_icmp .le 6, 3) := by decide +kernel
theorem d10_26 : decode jdk_52_method_21_code 26 = .ok (.aload_n 2, 1) := by decide +kernel
theorem d10_27 : decode jdk_52_method_21_code 27 = .ok (.iload_n 3, 1) := by decide +kernel
theorem d10_28 : decode jdk_52_method_21_code 28 = .ok (.iload 6, 2) := by decide +kernel
theorem d10_30 : decode jdk_52_method_21_code 30 = .ok (.i2b, 1) := by decide +kernel
theorem d10_31 : decode jdk_52_method_21_code 31 = .ok (.bastore, 1) := by decide +kernel
theorem d10_32 : decode jdk_52_method_21_code 32 = .ok (.iinc 1 1, 3) := by decide +kernel
theorem d10_35 : decode jdk_52_method_21_code 35 = .ok (.iinc 3 1, 3) := by decide +kernel
theorem d10_38 : decode jdk_52_method_21_code 38 = .ok (.iinc 5 1, 3) := by decide +kernel
theorem d10_41 : decode jdk_52_method_21_code 41 = .ok (.goto (-38), 3) := by decide +kernel
theorem d10_44 : decode jdk_52_method_21_code 44 = .ok (.iload 4, 2) := by decide +kernel
theorem d10_46 : decode jdk_52_method_21_code 46 = .ok (.ireturn, 1) := by decide +kernel
theorem d11_0 : decode jdk_52_method_15_code 0 = .ok (.iload_n 1, 1) := by decide +kernel
theorem d11_1 : decode jdk_52_method_15_code 1 = .ok (.aload_n 0, 1) := by decide +kernel
theorem d11_2 : decode jdk_52_method_15_code 2 = .ok (.arraylength, 1) := by decide +kernel
theorem d11_3 : decode jdk_52_method_15_code 3 = .ok (.isub, 1) := by decide +kernel
theorem d11_4 : decode jdk_52_method_15_code 4 = .ok (.bipush 31, 2) := by decide +kernel
theorem d11_6 : decode jdk_52_method_15_code 6 = .ok (.iushr, 1) := by decide +kernel
theorem d11_7 : decode jdk_52_method_15_code 7 = .ok (.i2b, 1) := by decide +kernel
theorem d11_8 : decode jdk_52_method_15_code 8 = .ok (.ireturn, 1) := by decide +kernel
theorem d12_0 : decode jdk_42_method_139_code 0 = .ok (.getstatic 38, 3) := by decide +kernel
theorem d12_3 : decode jdk_42_method_139_code 3 = .ok (.ifCond .eq 23, 3) := by decide +kernel
theorem d12_6 : decode jdk_42_method_139_code 6 = .ok (.iload_n 0, 1) := by decide +kernel
theorem d12_7 : decode jdk_42_method_139_code 7 = .ok (.invokestatic 1015, 3) := by decide +kernel
theorem d12_10 : decode jdk_42_method_139_code 10 = .ok (.ifCond .eq 16, 3) := by decide +kernel
theorem d12_13 : decode jdk_42_method_139_code 13 = .ok (.new 10, 3) := by decide +kernel
theorem d12_16 : decode jdk_42_method_139_code 16 = .ok (.dup, 1) := by decide +kernel
theorem d12_17 : decode jdk_42_method_139_code 17 = .ok (.iload_n 0, 1) := by decide +kernel
theorem d12_18 : decode jdk_42_method_139_code 18 = .ok (.invokestatic 1018, 3) := by decide +kernel
theorem d12_21 : decode jdk_42_method_139_code 21 = .ok (.iconst 0, 1) := by decide +kernel
theorem d12_22 : decode jdk_42_method_139_code 22 = .ok (.invokespecial 209, 3) := by decide +kernel
theorem d12_25 : decode jdk_42_method_139_code 25 = .ok (.areturn, 1) := by decide +kernel
theorem d13_0 : decode jdk_43_method_3_code 0 = .ok (.iload_n 0, 1) := by decide +kernel
theorem d13_1 : decode jdk_43_method_3_code 1 = .ok (.sipush 255, 3) := by decide +kernel
theorem d13_4 : decode jdk_43_method_3_code 4 = .ok (.if_icmp .gt 7, 3) := by decide +kernel
theorem d13_7 : decode jdk_43_method_3_code 7 = .ok (.iconst 1, 1) := by decide +kernel
theorem d13_8 : decode jdk_43_method_3_code 8 = .ok (.goto 4, 3) := by decide +kernel
theorem d13_12 : decode jdk_43_method_3_code 12 = .ok (.ireturn, 1) := by decide +kernel
theorem d14_0 : decode jdk_43_method_46_code 0 = .ok (.iconst 1, 1) := by decide +kernel
theorem d14_1 : decode jdk_43_method_46_code 1 = .ok (.newarray .byte, 2) := by decide +kernel
theorem d14_3 : decode jdk_43_method_46_code 3 = .ok (.dup, 1) := by decide +kernel
theorem d14_4 : decode jdk_43_method_46_code 4 = .ok (.iconst 0, 1) := by decide +kernel
theorem d14_5 : decode jdk_43_method_46_code 5 = .ok (.iload_n 0, 1) := by decide +kernel
theorem d14_6 : decode jdk_43_method_46_code 6 = .ok (.i2b, 1) := by decide +kernel
theorem d14_7 : decode jdk_43_method_46_code 7 = .ok (.bastore, 1) := by decide +kernel
theorem d14_8 : decode jdk_43_method_46_code 8 = .ok (.areturn, 1) := by decide +kernel
theorem d15_0 : decode jdk_42_method_151_code 0 = .ok (.aload_n 0, 1) := by decide +kernel
theorem d15_1 : decode jdk_42_method_151_code 1 = .ok (.invokespecial 1, 3) := by decide +kernel
theorem d15_4 : decode jdk_42_method_151_code 4 = .ok (.aload_n 0, 1) := by decide +kernel
theorem d15_5 : decode jdk_42_method_151_code 5 = .ok (.aload_n 1, 1) := by decide +kernel
theorem d15_6 : decode jdk_42_method_151_code 6 = .ok (.putfield 9, 3) := by decide +kernel
theorem d15_9 : decode jdk_42_method_151_code 9 = .ok (.aload_n 0, 1) := by decide +kernel
theorem d15_10 : decode jdk_42_method_151_code 10 = .ok (.iload_n 2, 1) := by decide +kernel
theorem d15_11 : decode jdk_42_method_151_code 11 = .ok (.putfield 15, 3) := by decide +kernel
theorem d15_14 : decode jdk_42_method_151_code 14 = .ok (.return_, 1) := by decide +kernel
theorem d16_0 : decode jdk_42_method_66_code 0 = .ok (.aload_n 0, 1) := by decide +kernel
theorem d16_1 : decode jdk_42_method_66_code 1 = .ok (.aload_n 1, 1) := by decide +kernel
theorem d16_2 : decode jdk_42_method_66_code 2 = .ok (.if_acmp .ne 5, 3) := by decide +kernel
theorem d16_5 : decode jdk_42_method_66_code 5 = .ok (.iconst 1, 1) := by decide +kernel
theorem d16_6 : decode jdk_42_method_66_code 6 = .ok (.ireturn, 1) := by decide +kernel
theorem d16_7 : decode jdk_42_method_66_code 7 = .ok (.aload_n 1, 1) := by decide +kernel
theorem d16_8 : decode jdk_42_method_66_code 8 = .ok (.instanceof 10, 3) := by decide +kernel
theorem d16_11 : decode jdk_42_method_66_code 11 = .ok (.ifCond .eq 43, 3) := by decide +kernel
theorem d16_14 : decode jdk_42_method_66_code 14 = .ok (.aload_n 1, 1) := by decide +kernel
theorem d16_15 : decode jdk_42_method_66_code 15 = .ok (.checkcast 10, 3) := by decide +kernel
theorem d16_18 : decode jdk_42_method_66_code 18 = .ok (.astore_n 2, 1) := by decide +kernel
theorem d16_19 : decode jdk_42_method_66_code 19 = .ok (.getstatic 38, 3) := by decide +kernel
theorem d16_22 : decode jdk_42_method_66_code 22 = .ok (.ifCond .eq 14, 3) := by decide +kernel
theorem d16_25 : decode jdk_42_method_66_code 25 = .ok (.aload_n 0, 1) := by decide +kernel
theorem d16_26 : decode jdk_42_method_66_code 26 = .ok (.getfield 15, 3) := by decide +kernel
theorem d16_29 : decode jdk_42_method_66_code 29 = .ok (.aload_n 2, 1) := by decide +kernel
theorem d16_30 : decode jdk_42_method_66_code 30 = .ok (.getfield 15, 3) := by decide +kernel
theorem d16_33 : decode jdk_42_method_66_code 33 = .ok (.if_icmp .ne 21, 3) := by decide +kernel
theorem d16_36 : decode jdk_42_method_66_code 36 = .ok (.aload_n 0, 1) := by decide +kernel
theorem d16_37 : decode jdk_42_method_66_code 37 = .ok (.getfield 9, 3) := by decide +kernel
theorem d16_40 : decode jdk_42_method_66_code 40 = .ok (.aload_n 2, 1) := by decide +kernel
theorem d16_41 : decode jdk_42_method_66_code 41 = .ok (.getfield 9, 3) := by decide +kernel
theorem d16_44 : decode jdk_42_method_66_code 44 = .ok (.invokestatic 541, 3) := by decide +kernel
theorem d16_47 : decode jdk_42_method_66_code 47 = .ok (.ifCond .eq 7, 3) := by decide +kernel
theorem d16_50 : decode jdk_42_method_66_code 50 = .ok (.iconst 1, 1) := by decide +kernel
theorem d16_51 : decode jdk_42_method_66_code 51 = .ok (.goto 4, 3) := by decide +kernel
theorem d16_54 : decode jdk_42_method_66_code 54 = .ok (.iconst 0, 1) := by decide +kernel
theorem d16_55 : decode jdk_42_method_66_code 55 = .ok (.ireturn, 1) := by decide +kernel
theorem d17_0 : decode jdk_43_method_13_code 0 = .ok (.aload_n 0, 1) := by decide +kernel
theorem d17_1 : decode jdk_43_method_13_code 1 = .ok (.arraylength, 1) := by decide +kernel
theorem d17_2 : decode jdk_43_method_13_code 2 = .ok (.aload_n 1, 1) := by decide +kernel
theorem d17_3 : decode jdk_43_method_13_code 3 = .ok (.arraylength, 1) := by decide +kernel
theorem d17_4 : decode jdk_43_method_13_code 4 = .ok (.if_icmp .ne 30, 3) := by decide +kernel
theorem d17_7 : decode jdk_43_method_13_code 7 = .ok (.iconst 0, 1) := by decide +kernel
theorem d17_8 : decode jdk_43_method_13_code 8 = .ok (.istore_n 2, 1) := by decide +kernel
theorem d17_9 : decode jdk_43_method_13_code 9 = .ok (.iload_n 2, 1) := by decide +kernel
theorem d17_10 : decode jdk_43_method_13_code 10 = .ok (.aload_n 0, 1) := by decide +kernel
theorem d17_11 : decode jdk_43_method_13_code 11 = .ok (.arraylength, 1) := by decide +kernel
theorem d17_12 : decode jdk_43_method_13_code 12 = .ok (.if_icmp .ge 20, 3) := by decide +kernel
theorem d17_15 : decode jdk_43_method_13_code 15 = .ok (.aload_n 0, 1) := by decide +kernel
theorem d17_16 : decode jdk_43_method_13_code 16 = .ok (.iload_n 2, 1) := by decide +kernel
theorem d17_17 : decode jdk_43_method_13_code 17 = .ok (.baload, 1) := by decide +kernel
theorem d17_18 : decode jdk_43_method_13_code 18 = .ok (.aload_n 1, 1) := by decide +kernel
theorem d17_19 : decode jdk_43_method_13_code 19 = .ok (.iload_n 2, 1) := by decide +kernel
theorem d17_20 : decode jdk_43_method_13_code 20 = .ok (.baload, 1) := by decide +kernel
theorem d17_21 : decode jdk_43_method_13_code 21 = .ok (.if_icmp .eq 5, 3) := by decide +kernel
theorem d17_24 : decode jdk_43_method_13_code 24 = .ok (.iconst 0, 1) := by decide +kernel
theorem d17_25 : decode jdk_43_method_13_code 25 = .ok (.ireturn, 1) := by decide +kernel
theorem d17_26 : decode jdk_43_method_13_code 26 = .ok (.iinc 2 1, 3) := by decide +kernel
theorem d17_29 : decode jdk_43_method_13_code 29 = .ok (.goto (-20), 3) := by decide +kernel
theorem d17_32 : decode jdk_43_method_13_code 32 = .ok (.iconst 1, 1) := by decide +kernel
theorem d17_33 : decode jdk_43_method_13_code 33 = .ok (.ireturn, 1) := by decide +kernel
theorem d17_34 : decode jdk_43_method_13_code 34 = .ok (.iconst 0, 1) := by decide +kernel
theorem d17_35 : decode jdk_43_method_13_code 35 = .ok (.ireturn, 1) := by decide +kernel
theorem pn0 : plainName "com/example/warmfront/warmfront/js/TokenIsPinLaw" = true := by first | (simp [plainName, overriddenIn]; done) | decide +kernel
theorem pn1 : plainName "java/lang/Record" = true := by first | (simp [plainName, overriddenIn]; done) | decide +kernel
theorem pn2 : plainName "com/example/warmfront/warmfront/js/Token" = true := by first | (simp [plainName, overriddenIn]; done) | decide +kernel
theorem pd0 : parseMethodDescriptor "([CI[BII)I" = some ⟨[(.array .char), .int, (.array .byte), .int, .int], some .int⟩ := by decide +kernel
theorem pd1 : parseMethodDescriptor "([CII)[B" = some ⟨[(.array .char), .int, .int], some (.array .byte)⟩ := by decide +kernel
theorem pd2 : parseMethodDescriptor "([BI)B" = some ⟨[(.array .byte), .int], some .byte⟩ := by decide +kernel
theorem pd3 : parseMethodDescriptor "([CIILjava/lang/Void;)V" = some ⟨[(.array .char), .int, .int, (.object "java/lang/Void")], none⟩ := by decide +kernel
theorem pd4 : parseMethodDescriptor "(C)Z" = some ⟨[.char], some .boolean⟩ := by decide +kernel
theorem pd5 : parseMethodDescriptor "(C)[B" = some ⟨[.char], some (.array .byte)⟩ := by decide +kernel
theorem pd6 : parseMethodDescriptor "([BB)V" = some ⟨[(.array .byte), .byte], none⟩ := by decide +kernel
theorem pd7 : parseMethodDescriptor "(C)Ljava/lang/String;" = some ⟨[.char], some (.object "java/lang/String")⟩ := by decide +kernel
theorem pd8 : parseMethodDescriptor "([C)V" = some ⟨[(.array .char)], none⟩ := by decide +kernel
theorem pd9 : parseMethodDescriptor "()V" = some ⟨[], none⟩ := by decide +kernel
theorem pd10 : parseMethodDescriptor "([B[B)Z" = some ⟨[(.array .byte), (.array .byte)], some .boolean⟩ := by decide +kernel
theorem pd11 : parseMethodDescriptor "(Ljava/lang/Object;)Z" = some ⟨[(.object "java/lang/Object")], some .boolean⟩ := by decide +kernel
theorem pd12 : parseMethodDescriptor "(ICC)Ljava/lang/String;" = some ⟨[.int, .char, .char], some (.object "java/lang/String")⟩ := by decide +kernel
theorem pd13 : parseMethodDescriptor "(I)Lcom/example/warmfront/warmfront/js/Token$Kind;" = some ⟨[.int], some (.object "com/example/warmfront/warmfront/js/Token$Kind")⟩ := by decide +kernel
theorem pd14 : parseMethodDescriptor "(Lcom/example/warmfront/warmfront/js/Token$Kind;Ljava/lang/String;DIIIIZ)V" = some ⟨[(.object "com/example/warmfront/warmfront/js/Token$Kind"), (.object "java/lang/String"), .double, .int, .int, .int, .int, .boolean], none⟩ := by decide +kernel
theorem pd15 : parseMethodDescriptor "(Lcom/example/warmfront/warmfront/js/Token$Kind;Ljava/lang/String;)Z" = some ⟨[(.object "com/example/warmfront/warmfront/js/Token$Kind"), (.object "java/lang/String")], some .boolean⟩ := by decide +kernel
theorem own_wS {Z : State} {a0 : Array Value} (hw : ∀ d ∈ tables_1, d.before a0 Z = true) : ∀ a ∈ Bundle.stringAtoms, a.before a0 Z = true := fun d hd => by
  simp only [Bundle.stringAtoms, List.mem_cons, List.not_mem_nil, or_false] at hd
  rcases hd with rfl | rfl | rfl | rfl | rfl | rfl | rfl
  · exact hw _ (List.mem_of_getElem? (i := 6) rfl)
  · exact hw _ (List.mem_of_getElem? (i := 7) rfl)
  · exact hw _ (List.mem_of_getElem? (i := 8) rfl)
  · exact hw _ (List.mem_of_getElem? (i := 9) rfl)
  · exact hw _ (List.mem_of_getElem? (i := 10) rfl)
  · exact hw _ (List.mem_of_getElem? (i := 11) rfl)
  · exact hw _ (List.mem_of_getElem? (i := 12) rfl)
theorem own_EW {Z : State} {a0 : Array Value} (hw : ∀ d ∈ tables_1, d.before a0 Z = true) : EW Z a0 consts_1 := fun p hp => by
  simp only [consts_1, List.mem_cons, List.not_mem_nil, or_false] at hp
  subst hp
  exact ⟨"", (hw _ (List.mem_of_getElem? (i := 5) rfl)), by simp⟩
def own_B (c : Int32) : Int32 := nar .byte (c.toInt8.toInt32)
def own_fn (c0 c1 : Int32) : Nat → Int32 := fun i => if i = 0 then own_B c0 else own_B c1
theorem own_nc {c : Int32} (h : 0 ≤ c.toInt ∧ c.toInt ≤ 255) : nar .char c = c := by
  apply Int32.toInt_inj.mp
  have q := c_i2c c
  show (c.toUInt32.toUInt16.toUInt32.toInt32).toInt = c.toInt
  omega
theorem own_Bi {c d : Int32} (hc : 0 ≤ c.toInt ∧ c.toInt ≤ 255) (hd : 0 ≤ d.toInt ∧ d.toInt ≤ 255) (e : own_B c = own_B d) : c = d := by
  have e' : (c.toInt8.toInt32.toInt8.toInt32).toInt = (d.toInt8.toInt32.toInt8.toInt32).toInt := congrArg Int32.toInt e
  have q1 := c_i2b c
  have q2 := c_i2b d
  have q3 := c_i2b c.toInt8.toInt32
  have q4 := c_i2b d.toInt8.toInt32
  apply Int32.toInt_inj.mp
  omega
theorem own_ch (x : Int32) : 0 ≤ ((x &&& (255 : Int32)).toUInt32.toUInt16.toUInt32.toInt32).toInt ∧ ((x &&& (255 : Int32)).toUInt32.toUInt16.toUInt32.toInt32).toInt ≤ 255 := by
  have q := c_and x 255 (by decide)
  rw [show (255 : Int32).toInt = 255 by decide] at q
  have r := c_i2c (x &&& 255)
  omega
theorem own_gt {c : Int32} (h : 0 ≤ c.toInt ∧ c.toInt ≤ 255) : ¬ (255 : Int32) < c := by
  rw [Int32.lt_iff_toInt_lt, show (255 : Int32).toInt = 255 by decide]; omega
theorem own_three {i : Int32} (h0 : 0 ≤ i.toInt) (h : i.toInt < 3) : i = 0 ∨ i = 1 ∨ i = 2 := by
  have u : i.toInt = 0 ∨ i.toInt = 1 ∨ i.toInt = 2 := by omega
  rcases u with u | u | u
  · exact Or.inl (Int32.toInt_inj.mp u)
  · exact Or.inr (Or.inl (Int32.toInt_inj.mp u))
  · exact Or.inr (Or.inr (Int32.toInt_inj.mp u))
theorem own_len3 (x : Int32) : (x &&& (255 : Int32)) % (3 : Int32) = 0 ∨ (x &&& (255 : Int32)) % (3 : Int32) = 1 ∨ (x &&& (255 : Int32)) % (3 : Int32) = 2 := by
  have m := c_and x 255 (by decide)
  have q := (c_iremV (x &&& 255) 3).1 (by omega) (by decide)
  rw [show (3 : Int32).toInt = 3 by decide] at q
  exact own_three (by omega) (by omega)
theorem own_ik (x n : Int32) (h1 : 1 ≤ n.toInt) : 0 ≤ ((x &&& (2147483647 : Int32)) % n).toInt ∧ ((x &&& (2147483647 : Int32)) % n).toInt < n.toInt := by
  have m := c_mask x 2147483647 31 (by decide) (by decide)
  have q := (c_iremV (x &&& 2147483647) n).1 (by omega) (by omega)
  omega
def own_Str (Z : State) (h : Heap) (a b : Addr) (n : Int32) (f : Nat → Int32) : Prop := ∃ (k : ClassId) (hs : List (Int32 × Value)), Exa Z h a "java/lang/String" ∧ Fld Z h a "java/lang/String" "coder" "B" (.int 0) ∧ Fld Z h a "java/lang/String" "value" "[B" (.ref b) ∧ Arh Z h b k .byte n hs [] (.int 0) ∧ ∀ i : Nat, i < n.toNatClampNeg → getH hs [] (.int 0) i = .int (f i)
theorem own_Str.ext {Z : State} {h h' : Heap} {a b : Addr} {n : Int32} {f : Nat → Int32} (S : own_Str Z h a b n f) (E : Ext h h') : own_Str Z h' a b n f := by
  obtain ⟨k, hs, h1, h2, h3, h4, h5⟩ := S
  exact ⟨k, hs, h1.ext E, h2.ext E, h3.ext E, h4.ext E, h5⟩
theorem own_Str.keep {Z : State} {h h' : Heap} {a b : Addr} {n : Int32} {f : Nat → Int32} {ws : List Addr} (S : own_Str Z h a b n f) (K : Keep h h' ws) (na : a ∉ ws) (nb : b ∉ ws) : own_Str Z h' a b n f := by
  obtain ⟨k, hs, h1, h2, h3, h4, h5⟩ := S
  exact ⟨k, hs, h1.keep K, h2.keep K na, h3.keep K na, h4.keep K nb, h5⟩
theorem own_Str.lt {Z : State} {h : Heap} {a b : Addr} {n : Int32} {f : Nat → Int32} (S : own_Str Z h a b n f) : a < h.size ∧ b < h.size := by
  obtain ⟨k, hs, h1, h2, h3, h4, h5⟩ := S
  exact ⟨h1.lt, h4.lt⟩
theorem own_Str.same {Z : State} {h : Heap} {a b b' : Addr} {n n' : Int32} {f f' : Nat → Int32} (S : own_Str Z h a b n f) (S' : own_Str Z h a b' n' f') : n = n' ∧ ∀ i : Nat, i < n.toNatClampNeg → f i = f' i := by
  obtain ⟨k, hs, h1, h2, h3, h4, h5⟩ := S
  obtain ⟨k', hs', h1', h2', h3', h4', h5'⟩ := S'
  have e : b = b' := by
    rcases Nat.decEq b b' with q | q
    · exact absurd rfl (Fld.ne h3 h3' (fun y => q (by cases y; rfl)))
    · exact q
  subst e
  obtain ⟨c, A, -, s1, n1, H1, -⟩ := h4
  obtain ⟨c', A', -, s2, n2, H2, -⟩ := h4'
  have ec : c = c' := Option.some.inj (A.1.symm.trans A'.1)
  subst ec
  have en : n = n' := by
    apply Int32.toInt_inj.mp
    have e := s1.symm.trans s2
    rw [Int32.lt_iff_toInt_lt, show (0 : Int32).toInt = 0 by decide] at n1 n2
    unfold Int32.toNatClampNeg at e
    omega
  subst en
  refine ⟨rfl, fun i hi => ?_⟩
  have q1 := H1 i (by omega)
  have q2 := H2 i (by omega)
  rw [h5 i hi] at q1
  rw [h5' i hi] at q2
  exact Value.int.inj (Option.some.inj (q1.symm.trans q2))
theorem own_exa {Z : State} {h : Heap} {a b : Addr} {n : Int32} {f : Nat → Int32} (S : own_Str Z h a b n f) : Exa Z h a "java/lang/String" := by
  obtain ⟨k, hs, h1, -⟩ := S
  exact h1
theorem own_zero {r : Int32} (h : r = 0 ∨ r = 1) (n : r = 1 → False) : (0 : Int32) = r := (h.resolve_right n).symm
theorem own_extK {h0 h1 h2 : Heap} {b : Addr} (E : Ext h0 h1) (K : Keep h1 h2 [b]) (g : h0.size ≤ b) : Ext h0 h2 := ⟨Nat.le_trans E.1 K.1, fun y cy hy => K.2.1 _ _ (E.2 _ _ hy) (ninS (Nat.ne_of_lt (Nat.lt_of_lt_of_le (Array.getElem?_eq_some_iff.mp hy).1 g)) nin0)⟩
theorem ef10_AIAII (m : MethodId) (x0 : Addr) (x1 : Int32) (x2 : Addr) (x3 : Int32) (x4 : Int32) : entryFrame m #[(.ref x0), (.int x1), (.ref x2), (.int x3), (.int x4)] 7 = mkF m 0 #[.val (.ref x0), .val (.int x1), .val (.ref x2), .val (.int x3), .val (.int x4), .unset, .unset] [] := by first | (simp [entryFrame, mkF, argsToLocals, Value.category]; done) | rfl
set_option maxRecDepth 65536 in
set_option maxHeartbeats 40000000 in
theorem rmC5 (l : Launch) (Z : State) (a0 : Array Value) (hw : ∀ d ∈ tables_1, d.before a0 Z = true) (h0 : Heap) (n0 : Nat) (Z0 : n0 ≤ h0.size) (ca bb : Addr) (kc kb : ClassId) (c0 c1 : Int32) (y0 : 0 ≤ c0.toInt ∧ c0.toInt ≤ 255) (y1 : 0 ≤ c1.toInt ∧ c1.toInt ≤ 255) (RC : Arh Z h0 ca kc .char 2 [((1 : Int32), .int c1), ((0 : Int32), .int c0)] [] (.int 0)) (RB : Arh Z h0 bb kb .byte 2 [] [] (.int 0)) (dn : ca ≠ bb) (g0 : n0 ≤ bb) :
    ctr l Z (⟨"java/lang/StringUTF16", "compress", "([CI[BII)I"⟩ : MethodName) jdk_52_method_21_code 7 (some .int) [] ({ frames := 0, cells := 0, slots := 0, locals := 0 } : Room) 0 0 #[(.ref ca), (.int (0 : Int32)), (.ref bb), (.int (0 : Int32)), (.int (2 : Int32))] h0 (fun v h L => v = some (.int (2 : Int32)) ∧ Fr n0 L ∧ Keep h0 h [bb] ∧ Arh Z h bb kb .byte 2 [((1 : Int32), .int (own_B c1)), ((0 : Int32), .int (own_B c0))] [] (.int 0)) := by
  refine ctr_of (by decide +kernel) ?_
  intro p e s m below meth jc s₁ hx hby hml hret hlk hnm hown hZ e0 X0
  have N0 := Fr.nil n0
  have hg : ∀ (i : Nat) {d : Jvm.Cond}, tables_1[i]? = some d → d.before a0 Z = true := fun i d q => hw d (List.mem_of_getElem? q)
  refine Dn.cast (ef10_AIAII m ca (0 : Int32) bb (0 : Int32) (2 : Int32)) ?_
  show Dn p e below s _ _ _ (s₁.setTop (mkF m 0 #[.val (.ref ca), .val (.int (0 : Int32)), .val (.ref bb), .val (.int (0 : Int32)), .val (.int (2 : Int32)), .unset, .unset] []))
  refine Dn.of (fun tt_ zz_ => XS.iconst X0.here hx rfl (hb hby d10_0) zz_) ?_
  show Dn p e below s _ _ _ (s₁.setTop (mkF m 1 #[.val (.ref ca), .val (.int (0 : Int32)), .val (.ref bb), .val (.int (0 : Int32)), .val (.int (2 : Int32)), .unset, .unset] [(.int (0 : Int32))]))
  refine Dn.of (fun tt_ zz_ => XS.istore X0.here hx rfl (hb hby d10_1) rfl (l' := #[.val (.ref ca), .val (.int (0 : Int32)), .val (.ref bb), .val (.int (0 : Int32)), .val (.int (2 : Int32)), .val (.int (0 : Int32)), .unset]) rfl zz_) ?_
  show Dn p e below s _ _ _ (s₁.setTop (mkF m 3 #[.val (.ref ca), .val (.int (0 : Int32)), .val (.ref bb), .val (.int (0 : Int32)), .val (.int (2 : Int32)), .val (.int (0 : Int32)), .unset] []))
  refine Dn.of (fun tt_ zz_ => XS.iload X0.here hx rfl (hb hby d10_3) rfl zz_) ?_
  show Dn p e below s _ _ _ (s₁.setTop (mkF m 5 #[.val (.ref ca), .val (.int (0 : Int32)), .val (.ref bb), .val (.int (0 : Int32)), .val (.int (2 : Int32)), .val (.int (0 : Int32)), .unset] [(.int (0 : Int32))]))
  refine Dn.of (fun tt_ zz_ => XS.iload X0.here hx rfl (hb hby d10_5) rfl zz_) ?_
  show Dn p e below s _ _ _ (s₁.setTop (mkF m 7 #[.val (.ref ca), .val (.int (0 : Int32)), .val (.ref bb), .val (.int (0 : Int32)), .val (.int (2 : Int32)), .val (.int (0 : Int32)), .unset] [(.int (2 : Int32)), (.int (0 : Int32))]))
  refine Dn.of (fun tt_ zz_ => XS.icmpNo X0.here hx rfl (hb hby d10_7) rfl (tlt (by decide)).2.1 zz_) ?_
  show Dn p e below s _ _ _ (s₁.setTop (mkF m 10 #[.val (.ref ca), .val (.int (0 : Int32)), .val (.ref bb), .val (.int (0 : Int32)), .val (.int (2 : Int32)), .val (.int (0 : Int32)), .unset] []))
  refine Dn.of (fun tt_ zz_ => XS.aloadN X0.here hx rfl (hb hby d10_10) rfl rfl zz_) ?_
  show Dn p e below s _ _ _ (s₁.setTop (mkF m 11 #[.val (.ref ca), .val (.int (0 : Int32)), .val (.ref bb), .val (.int (0 : Int32)), .val (.int (2 : Int32)), .val (.int (0 : Int32)), .unset] [(.ref ca)]))
  refine Dn.of (fun tt_ zz_ => XS.iloadN X0.here hx rfl (hb hby d10_11) rfl zz_) ?_
  show Dn p e below s _ _ _ (s₁.setTop (mkF m 12 #[.val (.ref ca), .val (.int (0 : Int32)), .val (.ref bb), .val (.int (0 : Int32)), .val (.int (2 : Int32)), .val (.int (0 : Int32)), .unset] [(.int (0 : Int32)), (.ref ca)]))
  have Rr1 := RC
  obtain ⟨d1, B_1, _, Sd1, _, Hd1, _⟩ := Rr1
  refine Dn.of (fun tt_ zz_ => X0.caload hx (j := (0 : Int32)) (v := (.int c0)) (by rw [e0]; exact B_1.1) (State.isArrayOf_alike hZ.alike B_1.2.1) B_1.2.2 (inb_of Sd1 (by decide)) (atH Hd1 (inb_of Sd1 (by decide)) rfl) (g := (mkF m 12 #[.val (.ref ca), .val (.int (0 : Int32)), .val (.ref bb), .val (.int (0 : Int32)), .val (.int (2 : Int32)), .val (.int (0 : Int32)), .unset] [(.int (0 : Int32)), (.ref ca)])) rfl rfl (hb hby d10_12) tt_ zz_) ?_
  show Dn p e below s _ _ _ (s₁.setTop (mkF m 13 #[.val (.ref ca), .val (.int (0 : Int32)), .val (.ref bb), .val (.int (0 : Int32)), .val (.int (2 : Int32)), .val (.int (0 : Int32)), .unset] [(.int c0)]))
  refine Dn.of (fun tt_ zz_ => XS.istore X0.here hx rfl (hb hby d10_13) rfl (l' := #[.val (.ref ca), .val (.int (0 : Int32)), .val (.ref bb), .val (.int (0 : Int32)), .val (.int (2 : Int32)), .val (.int (0 : Int32)), .val (.int c0)]) rfl zz_) ?_
  show Dn p e below s _ _ _ (s₁.setTop (mkF m 15 #[.val (.ref ca), .val (.int (0 : Int32)), .val (.ref bb), .val (.int (0 : Int32)), .val (.int (2 : Int32)), .val (.int (0 : Int32)), .val (.int c0)] []))
  refine Dn.of (fun tt_ zz_ => XS.iload X0.here hx rfl (hb hby d10_15) rfl zz_) ?_
  show Dn p e below s _ _ _ (s₁.setTop (mkF m 17 #[.val (.ref ca), .val (.int (0 : Int32)), .val (.ref bb), .val (.int (0 : Int32)), .val (.int (2 : Int32)), .val (.int (0 : Int32)), .val (.int c0)] [(.int c0)]))
  refine Dn.of (fun tt_ zz_ => XS.sipush X0.here hx rfl (hb hby d10_17) zz_) ?_
  show Dn p e below s _ _ _ (s₁.setTop (mkF m 20 #[.val (.ref ca), .val (.int (0 : Int32)), .val (.ref bb), .val (.int (0 : Int32)), .val (.int (2 : Int32)), .val (.int (0 : Int32)), .val (.int c0)] [(.int (255 : Int32)), (.int c0)]))
  refine Dn.of (fun tt_ zz_ => XS.icmpYes X0.here hx rfl (pc0 := 20) (pc' := 26) rfl (hb hby d10_20) rfl (flt (own_gt y0)).2.2.2 (by decide) (by decide) zz_) ?_
  show Dn p e below s _ _ _ (s₁.setTop (mkF m 26 #[.val (.ref ca), .val (.int (0 : Int32)), .val (.ref bb), .val (.int (0 : Int32)), .val (.int (2 : Int32)), .val (.int (0 : Int32)), .val (.int c0)] []))
  refine Dn.of (fun tt_ zz_ => XS.aloadN X0.here hx rfl (hb hby d10_26) rfl rfl zz_) ?_
  show Dn p e below s _ _ _ (s₁.setTop (mkF m 27 #[.val (.ref ca), .val (.int (0 : Int32)), .val (.ref bb), .val (.int (0 : Int32)), .val (.int (2 : Int32)), .val (.int (0 : Int32)), .val (.int c0)] [(.ref bb)]))
  refine Dn.of (fun tt_ zz_ => XS.iloadN X0.here hx rfl (hb hby d10_27) rfl zz_) ?_
  show Dn p e below s _ _ _ (s₁.setTop (mkF m 28 #[.val (.ref ca), .val (.int (0 : Int32)), .val (.ref bb), .val (.int (0 : Int32)), .val (.int (2 : Int32)), .val (.int (0 : Int32)), .val (.int c0)] [(.int (0 : Int32)), (.ref bb)]))
  refine Dn.of (fun tt_ zz_ => XS.iload X0.here hx rfl (hb hby d10_28) rfl zz_) ?_
  show Dn p e below s _ _ _ (s₁.setTop (mkF m 30 #[.val (.ref ca), .val (.int (0 : Int32)), .val (.ref bb), .val (.int (0 : Int32)), .val (.int (2 : Int32)), .val (.int (0 : Int32)), .val (.int c0)] [(.int c0), (.int (0 : Int32)), (.ref bb)]))
  refine Dn.of (fun tt_ zz_ => XS.i2b X0.here hx rfl (hb hby d10_30) rfl zz_) ?_
  show Dn p e below s _ _ _ (s₁.setTop (mkF m 31 #[.val (.ref ca), .val (.int (0 : Int32)), .val (.ref bb), .val (.int (0 : Int32)), .val (.int (2 : Int32)), .val (.int (0 : Int32)), .val (.int c0)] [(.int (c0.toInt8.toInt32)), (.int (0 : Int32)), (.ref bb)]))
  obtain ⟨c2, A_2, p2, S2, P2, H2, G2⟩ := RB
  obtain ⟨T3, h3, X3, e3, W3, st3⟩ := stB X0 hx hZ e0 A_2 (j := (0 : Int32)) (inb_of S2 (by decide)) (g := (mkF m 31 #[.val (.ref ca), .val (.int (0 : Int32)), .val (.ref bb), .val (.int (0 : Int32)), .val (.int (2 : Int32)), .val (.int (0 : Int32)), .val (.int c0)] [(.int (c0.toInt8.toInt32)), (.int (0 : Int32)), (.ref bb)])) rfl rfl (hb hby d10_31)
  refine Dn.of st3 ?_
  show Dn p e below s _ _ _ (T3.setTop (mkF m 32 #[.val (.ref ca), .val (.int (0 : Int32)), .val (.ref bb), .val (.int (0 : Int32)), .val (.int (2 : Int32)), .val (.int (0 : Int32)), .val (.int c0)] []))
  have R_2 := Arh.push A_2 p2 S2 P2 H2 G2 (v := (.int (own_B c0))) (fits_byte_narrow _) W3 (inb_of S2 (by decide))
  have N2 := Fr.snoc X3 N0 g0
  have K0 := (Keep.refl h0 [bb]).wr W3 (Or.inl (List.mem_of_getElem? (i := 0) rfl))
  have C0 := RC.other W3 dn
  refine Dn.of (fun tt_ zz_ => XS.iinc X3.here hx rfl (hb hby d10_32) rfl (l' := #[.val (.ref ca), .val (.int ((0 : Int32) + (1 : Int32))), .val (.ref bb), .val (.int (0 : Int32)), .val (.int (2 : Int32)), .val (.int (0 : Int32)), .val (.int c0)]) rfl zz_) ?_
  show Dn p e below s _ _ _ (T3.setTop (mkF m 35 #[.val (.ref ca), .val (.int ((0 : Int32) + (1 : Int32))), .val (.ref bb), .val (.int (0 : Int32)), .val (.int (2 : Int32)), .val (.int (0 : Int32)), .val (.int c0)] []))
  refine Dn.of (fun tt_ zz_ => XS.iinc X3.here hx rfl (hb hby d10_35) rfl (l' := #[.val (.ref ca), .val (.int ((0 : Int32) + (1 : Int32))), .val (.ref bb), .val (.int ((0 : Int32) + (1 : Int32))), .val (.int (2 : Int32)), .val (.int (0 : Int32)), .val (.int c0)]) rfl zz_) ?_
  show Dn p e below s _ _ _ (T3.setTop (mkF m 38 #[.val (.ref ca), .val (.int ((0 : Int32) + (1 : Int32))), .val (.ref bb), .val (.int ((0 : Int32) + (1 : Int32))), .val (.int (2 : Int32)), .val (.int (0 : Int32)), .val (.int c0)] []))
  refine Dn.of (fun tt_ zz_ => XS.iinc X3.here hx rfl (hb hby d10_38) rfl (l' := #[.val (.ref ca), .val (.int ((0 : Int32) + (1 : Int32))), .val (.ref bb), .val (.int ((0 : Int32) + (1 : Int32))), .val (.int (2 : Int32)), .val (.int ((0 : Int32) + (1 : Int32))), .val (.int c0)]) rfl zz_) ?_
  show Dn p e below s _ _ _ (T3.setTop (mkF m 41 #[.val (.ref ca), .val (.int ((0 : Int32) + (1 : Int32))), .val (.ref bb), .val (.int ((0 : Int32) + (1 : Int32))), .val (.int (2 : Int32)), .val (.int ((0 : Int32) + (1 : Int32))), .val (.int c0)] []))
  refine Dn.of (fun tt_ zz_ => XS.goto X3.here hx rfl (pc0 := 41) (pc' := 3) rfl (hb hby d10_41) (by decide) (by decide) zz_) ?_
  show Dn p e below s _ _ _ (T3.setTop (mkF m 3 #[.val (.ref ca), .val (.int ((0 : Int32) + (1 : Int32))), .val (.ref bb), .val (.int ((0 : Int32) + (1 : Int32))), .val (.int (2 : Int32)), .val (.int ((0 : Int32) + (1 : Int32))), .val (.int c0)] []))
  rw [show ((0 : Int32) + (1 : Int32)) = (1 : Int32) by decide]
  show Dn p e below s _ _ _ (T3.setTop (mkF m 3 #[.val (.ref ca), .val (.int (1 : Int32)), .val (.ref bb), .val (.int (1 : Int32)), .val (.int (2 : Int32)), .val (.int (1 : Int32)), .val (.int c0)] []))
  refine Dn.of (fun tt_ zz_ => XS.iload X3.here hx rfl (hb hby d10_3) rfl zz_) ?_
  show Dn p e below s _ _ _ (T3.setTop (mkF m 5 #[.val (.ref ca), .val (.int (1 : Int32)), .val (.ref bb), .val (.int (1 : Int32)), .val (.int (2 : Int32)), .val (.int (1 : Int32)), .val (.int c0)] [(.int (1 : Int32))]))
  refine Dn.of (fun tt_ zz_ => XS.iload X3.here hx rfl (hb hby d10_5) rfl zz_) ?_
  show Dn p e below s _ _ _ (T3.setTop (mkF m 7 #[.val (.ref ca), .val (.int (1 : Int32)), .val (.ref bb), .val (.int (1 : Int32)), .val (.int (2 : Int32)), .val (.int (1 : Int32)), .val (.int c0)] [(.int (2 : Int32)), (.int (1 : Int32))]))
  refine Dn.of (fun tt_ zz_ => XS.icmpNo X3.here hx rfl (hb hby d10_7) rfl (tlt (by decide)).2.1 zz_) ?_
  show Dn p e below s _ _ _ (T3.setTop (mkF m 10 #[.val (.ref ca), .val (.int (1 : Int32)), .val (.ref bb), .val (.int (1 : Int32)), .val (.int (2 : Int32)), .val (.int (1 : Int32)), .val (.int c0)] []))
  refine Dn.of (fun tt_ zz_ => XS.aloadN X3.here hx rfl (hb hby d10_10) rfl rfl zz_) ?_
  show Dn p e below s _ _ _ (T3.setTop (mkF m 11 #[.val (.ref ca), .val (.int (1 : Int32)), .val (.ref bb), .val (.int (1 : Int32)), .val (.int (2 : Int32)), .val (.int (1 : Int32)), .val (.int c0)] [(.ref ca)]))
  refine Dn.of (fun tt_ zz_ => XS.iloadN X3.here hx rfl (hb hby d10_11) rfl zz_) ?_
  show Dn p e below s _ _ _ (T3.setTop (mkF m 12 #[.val (.ref ca), .val (.int (1 : Int32)), .val (.ref bb), .val (.int (1 : Int32)), .val (.int (2 : Int32)), .val (.int (1 : Int32)), .val (.int c0)] [(.int (1 : Int32)), (.ref ca)]))
  have Rr4 := C0
  obtain ⟨d4, B_4, _, Sd4, _, Hd4, _⟩ := Rr4
  refine Dn.of (fun tt_ zz_ => X3.caload hx (j := (1 : Int32)) (v := (.int c1)) (by rw [e3]; exact B_4.1) (State.isArrayOf_alike hZ.alike B_4.2.1) B_4.2.2 (inb_of Sd4 (by decide)) (atH Hd4 (inb_of Sd4 (by decide)) rfl) (g := (mkF m 12 #[.val (.ref ca), .val (.int (1 : Int32)), .val (.ref bb), .val (.int (1 : Int32)), .val (.int (2 : Int32)), .val (.int (1 : Int32)), .val (.int c0)] [(.int (1 : Int32)), (.ref ca)])) rfl rfl (hb hby d10_12) tt_ zz_) ?_
  show Dn p e below s _ _ _ (T3.setTop (mkF m 13 #[.val (.ref ca), .val (.int (1 : Int32)), .val (.ref bb), .val (.int (1 : Int32)), .val (.int (2 : Int32)), .val (.int (1 : Int32)), .val (.int c0)] [(.int c1)]))
  refine Dn.of (fun tt_ zz_ => XS.istore X3.here hx rfl (hb hby d10_13) rfl (l' := #[.val (.ref ca), .val (.int (1 : Int32)), .val (.ref bb), .val (.int (1 : Int32)), .val (.int (2 : Int32)), .val (.int (1 : Int32)), .val (.int c1)]) rfl zz_) ?_
  show Dn p e below s _ _ _ (T3.setTop (mkF m 15 #[.val (.ref ca), .val (.int (1 : Int32)), .val (.ref bb), .val (.int (1 : Int32)), .val (.int (2 : Int32)), .val (.int (1 : Int32)), .val (.int c1)] []))
  refine Dn.of (fun tt_ zz_ => XS.iload X3.here hx rfl (hb hby d10_15) rfl zz_) ?_
  show Dn p e below s _ _ _ (T3.setTop (mkF m 17 #[.val (.ref ca), .val (.int (1 : Int32)), .val (.ref bb), .val (.int (1 : Int32)), .val (.int (2 : Int32)), .val (.int (1 : Int32)), .val (.int c1)] [(.int c1)]))
  refine Dn.of (fun tt_ zz_ => XS.sipush X3.here hx rfl (hb hby d10_17) zz_) ?_
  show Dn p e below s _ _ _ (T3.setTop (mkF m 20 #[.val (.ref ca), .val (.int (1 : Int32)), .val (.ref bb), .val (.int (1 : Int32)), .val (.int (2 : Int32)), .val (.int (1 : Int32)), .val (.int c1)] [(.int (255 : Int32)), (.int c1)]))
  refine Dn.of (fun tt_ zz_ => XS.icmpYes X3.here hx rfl (pc0 := 20) (pc' := 26) rfl (hb hby d10_20) rfl (flt (own_gt y1)).2.2.2 (by decide) (by decide) zz_) ?_
  show Dn p e below s _ _ _ (T3.setTop (mkF m 26 #[.val (.ref ca), .val (.int (1 : Int32)), .val (.ref bb), .val (.int (1 : Int32)), .val (.int (2 : Int32)), .val (.int (1 : Int32)), .val (.int c1)] []))
  refine Dn.of (fun tt_ zz_ => XS.aloadN X3.here hx rfl (hb hby d10_26) rfl rfl zz_) ?_
  show Dn p e below s _ _ _ (T3.setTop (mkF m 27 #[.val (.ref ca), .val (.int (1 : Int32)), .val (.ref bb), .val (.int (1 : Int32)), .val (.int (2 : Int32)), .val (.int (1 : Int32)), .val (.int c1)] [(.ref bb)]))
  refine Dn.of (fun tt_ zz_ => XS.iloadN X3.here hx rfl (hb hby d10_27) rfl zz_) ?_
  show Dn p e below s _ _ _ (T3.setTop (mkF m 28 #[.val (.ref ca), .val (.int (1 : Int32)), .val (.ref bb), .val (.int (1 : Int32)), .val (.int (2 : Int32)), .val (.int (1 : Int32)), .val (.int c1)] [(.int (1 : Int32)), (.ref bb)]))
  refine Dn.of (fun tt_ zz_ => XS.iload X3.here hx rfl (hb hby d10_28) rfl zz_) ?_
  show Dn p e below s _ _ _ (T3.setTop (mkF m 30 #[.val (.ref ca), .val (.int (1 : Int32)), .val (.ref bb), .val (.int (1 : Int32)), .val (.int (2 : Int32)), .val (.int (1 : Int32)), .val (.int c1)] [(.int c1), (.int (1 : Int32)), (.ref bb)]))
  refine Dn.of (fun tt_ zz_ => XS.i2b X3.here hx rfl (hb hby d10_30) rfl zz_) ?_
  show Dn p e below s _ _ _ (T3.setTop (mkF m 31 #[.val (.ref ca), .val (.int (1 : Int32)), .val (.ref bb), .val (.int (1 : Int32)), .val (.int (2 : Int32)), .val (.int (1 : Int32)), .val (.int c1)] [(.int (c1.toInt8.toInt32)), (.int (1 : Int32)), (.ref bb)]))
  obtain ⟨c5, A_5, p5, S5, P5, H5, G5⟩ := R_2
  obtain ⟨T6, h6, X6, e6, W6, st6⟩ := stB X3 hx hZ e3 A_5 (j := (1 : Int32)) (inb_of S5 (by decide)) (g := (mkF m 31 #[.val (.ref ca), .val (.int (1 : Int32)), .val (.ref bb), .val (.int (1 : Int32)), .val (.int (2 : Int32)), .val (.int (1 : Int32)), .val (.int c1)] [(.int (c1.toInt8.toInt32)), (.int (1 : Int32)), (.ref bb)])) rfl rfl (hb hby d10_31)
  refine Dn.of st6 ?_
  show Dn p e below s _ _ _ (T6.setTop (mkF m 32 #[.val (.ref ca), .val (.int (1 : Int32)), .val (.ref bb), .val (.int (1 : Int32)), .val (.int (2 : Int32)), .val (.int (1 : Int32)), .val (.int c1)] []))
  have R_5 := Arh.push A_5 p5 S5 P5 H5 G5 (v := (.int (own_B c1))) (fits_byte_narrow _) W6 (inb_of S5 (by decide))
  have N5 := Fr.snoc X6 N2 g0
  have K1 := K0.wr W6 (Or.inl (List.mem_of_getElem? (i := 0) rfl))
  have C1 := C0.other W6 dn
  refine Dn.of (fun tt_ zz_ => XS.iinc X6.here hx rfl (hb hby d10_32) rfl (l' := #[.val (.ref ca), .val (.int ((1 : Int32) + (1 : Int32))), .val (.ref bb), .val (.int (1 : Int32)), .val (.int (2 : Int32)), .val (.int (1 : Int32)), .val (.int c1)]) rfl zz_) ?_
  show Dn p e below s _ _ _ (T6.setTop (mkF m 35 #[.val (.ref ca), .val (.int ((1 : Int32) + (1 : Int32))), .val (.ref bb), .val (.int (1 : Int32)), .val (.int (2 : Int32)), .val (.int (1 : Int32)), .val (.int c1)] []))
  refine Dn.of (fun tt_ zz_ => XS.iinc X6.here hx rfl (hb hby d10_35) rfl (l' := #[.val (.ref ca), .val (.int ((1 : Int32) + (1 : Int32))), .val (.ref bb), .val (.int ((1 : Int32) + (1 : Int32))), .val (.int (2 : Int32)), .val (.int (1 : Int32)), .val (.int c1)]) rfl zz_) ?_
  show Dn p e below s _ _ _ (T6.setTop (mkF m 38 #[.val (.ref ca), .val (.int ((1 : Int32) + (1 : Int32))), .val (.ref bb), .val (.int ((1 : Int32) + (1 : Int32))), .val (.int (2 : Int32)), .val (.int (1 : Int32)), .val (.int c1)] []))
  refine Dn.of (fun tt_ zz_ => XS.iinc X6.here hx rfl (hb hby d10_38) rfl (l' := #[.val (.ref ca), .val (.int ((1 : Int32) + (1 : Int32))), .val (.ref bb), .val (.int ((1 : Int32) + (1 : Int32))), .val (.int (2 : Int32)), .val (.int ((1 : Int32) + (1 : Int32))), .val (.int c1)]) rfl zz_) ?_
  show Dn p e below s _ _ _ (T6.setTop (mkF m 41 #[.val (.ref ca), .val (.int ((1 : Int32) + (1 : Int32))), .val (.ref bb), .val (.int ((1 : Int32) + (1 : Int32))), .val (.int (2 : Int32)), .val (.int ((1 : Int32) + (1 : Int32))), .val (.int c1)] []))
  refine Dn.of (fun tt_ zz_ => XS.goto X6.here hx rfl (pc0 := 41) (pc' := 3) rfl (hb hby d10_41) (by decide) (by decide) zz_) ?_
  show Dn p e below s _ _ _ (T6.setTop (mkF m 3 #[.val (.ref ca), .val (.int ((1 : Int32) + (1 : Int32))), .val (.ref bb), .val (.int ((1 : Int32) + (1 : Int32))), .val (.int (2 : Int32)), .val (.int ((1 : Int32) + (1 : Int32))), .val (.int c1)] []))
  rw [show ((1 : Int32) + (1 : Int32)) = (2 : Int32) by decide]
  show Dn p e below s _ _ _ (T6.setTop (mkF m 3 #[.val (.ref ca), .val (.int (2 : Int32)), .val (.ref bb), .val (.int (2 : Int32)), .val (.int (2 : Int32)), .val (.int (2 : Int32)), .val (.int c1)] []))
  refine Dn.of (fun tt_ zz_ => XS.iload X6.here hx rfl (hb hby d10_3) rfl zz_) ?_
  show Dn p e below s _ _ _ (T6.setTop (mkF m 5 #[.val (.ref ca), .val (.int (2 : Int32)), .val (.ref bb), .val (.int (2 : Int32)), .val (.int (2 : Int32)), .val (.int (2 : Int32)), .val (.int c1)] [(.int (2 : Int32))]))
  refine Dn.of (fun tt_ zz_ => XS.iload X6.here hx rfl (hb hby d10_5) rfl zz_) ?_
  show Dn p e below s _ _ _ (T6.setTop (mkF m 7 #[.val (.ref ca), .val (.int (2 : Int32)), .val (.ref bb), .val (.int (2 : Int32)), .val (.int (2 : Int32)), .val (.int (2 : Int32)), .val (.int c1)] [(.int (2 : Int32)), (.int (2 : Int32))]))
  refine Dn.of (fun tt_ zz_ => XS.icmpYes X6.here hx rfl (pc0 := 7) (pc' := 44) rfl (hb hby d10_7) rfl (flt (by decide)).2.1 (by decide) (by decide) zz_) ?_
  show Dn p e below s _ _ _ (T6.setTop (mkF m 44 #[.val (.ref ca), .val (.int (2 : Int32)), .val (.ref bb), .val (.int (2 : Int32)), .val (.int (2 : Int32)), .val (.int (2 : Int32)), .val (.int c1)] []))
  refine Dn.of (fun tt_ zz_ => XS.iload X6.here hx rfl (hb hby d10_44) rfl zz_) ?_
  show Dn p e below s _ _ _ (T6.setTop (mkF m 46 #[.val (.ref ca), .val (.int (2 : Int32)), .val (.ref bb), .val (.int (2 : Int32)), .val (.int (2 : Int32)), .val (.int (2 : Int32)), .val (.int c1)] [(.int (2 : Int32))]))
  exact Dn.retI X6 hx hlk hret (hb hby d10_46) (by decide) (by decide) (by rw [e6]; exact ⟨rfl, N5, K1, R_5⟩)
theorem ef9_AII (m : MethodId) (x0 : Addr) (x1 : Int32) (x2 : Int32) : entryFrame m #[(.ref x0), (.int x1), (.int x2)] 6 = mkF m 0 #[.val (.ref x0), .val (.int x1), .val (.int x2), .unset, .unset, .unset] [] := by first | (simp [entryFrame, mkF, argsToLocals, Value.category]; done) | rfl
set_option maxRecDepth 65536 in
set_option maxHeartbeats 40000000 in
theorem rmC3 (l : Launch) (Z : State) (a0 : Array Value) (hw : ∀ d ∈ tables_1, d.before a0 Z = true) (h0 : Heap) (n0 : Nat) (Z0 : n0 ≤ h0.size) (ca : Addr) (kc : ClassId) (c0 c1 : Int32) (y0 : 0 ≤ c0.toInt ∧ c0.toInt ≤ 255) (y1 : 0 ≤ c1.toInt ∧ c1.toInt ≤ 255) (RC : Arh Z h0 ca kc .char 2 [((1 : Int32), .int c1), ((0 : Int32), .int c0)] [] (.int 0)) :
    ctr l Z (⟨"java/lang/StringUTF16", "compress", "([CII)[B"⟩ : MethodName) jdk_52_method_16_code 6 (some (.array .byte)) [] ({ frames := 1, cells := 1, slots := 4, locals := 20 } : Room) 1 4 #[(.ref ca), (.int (0 : Int32)), (.int (2 : Int32))] h0 (fun v h L => ∃ bb kb, v = some (.ref bb) ∧ n0 ≤ bb ∧ h0.size ≤ bb ∧ Fr n0 L ∧ Ext h0 h ∧ Arh Z h bb kb .byte 2 [((1 : Int32), .int (own_B c1)), ((0 : Int32), .int (own_B c0))] [] (.int 0)) := by
  refine ctr_of (by decide +kernel) ?_
  intro p e s m below meth jc s₁ hx hby hml hret hlk hnm hown hZ e0 X0
  have N0 := Fr.nil n0
  have hg : ∀ (i : Nat) {d : Jvm.Cond}, tables_1[i]? = some d → d.before a0 Z = true := fun i d q => hw d (List.mem_of_getElem? q)
  refine Dn.cast (ef9_AII m ca (0 : Int32) (2 : Int32)) ?_
  show Dn p e below s _ _ _ (s₁.setTop (mkF m 0 #[.val (.ref ca), .val (.int (0 : Int32)), .val (.int (2 : Int32)), .unset, .unset, .unset] []))
  refine Dn.of (fun tt_ zz_ => XS.iloadN X0.here hx rfl (hb hby d9_0) rfl zz_) ?_
  show Dn p e below s _ _ _ (s₁.setTop (mkF m 1 #[.val (.ref ca), .val (.int (0 : Int32)), .val (.int (2 : Int32)), .unset, .unset, .unset] [(.int (2 : Int32))]))
  obtain ⟨T7, h7, k7, X7, e7, E7, A7, st7⟩ := newP X0 hx hZ (hg 8 rfl) e0 (g := (mkF m 1 #[.val (.ref ca), .val (.int (0 : Int32)), .val (.int (2 : Int32)), .unset, .unset, .unset] [(.int (2 : Int32))])) rfl (hb hby d9_1) rfl (by decide) (cap := 2) (by decide) (by decide) (by decide) (by decide)
  obtain ⟨b7, g7⟩ : ∃ z, z = h0.size := ⟨_, rfl⟩
  rw [← g7] at A7 st7
  refine Dn.of st7 ?_
  show Dn p e below s _ _ _ (T7.setTop (mkF m 3 #[.val (.ref ca), .val (.int (0 : Int32)), .val (.int (2 : Int32)), .unset, .unset, .unset] [(.ref b7)]))
  have RB : Arh Z h7 b7 k7 .byte 2 [] [] (.int 0) := (Arv.new A7 (by decide)).arh
  have gb : n0 ≤ b7 := g7 ▸ Z0
  have dn : ca ≠ b7 := Nat.ne_of_lt (g7 ▸ RC.lt)
  refine Dn.of (fun tt_ zz_ => XS.astoreN X7.here hx rfl (hb hby d9_3) rfl rfl (l' := #[.val (.ref ca), .val (.int (0 : Int32)), .val (.int (2 : Int32)), .val (.ref b7), .unset, .unset]) rfl zz_) ?_
  show Dn p e below s _ _ _ (T7.setTop (mkF m 4 #[.val (.ref ca), .val (.int (0 : Int32)), .val (.int (2 : Int32)), .val (.ref b7), .unset, .unset] []))
  refine Dn.of (fun tt_ zz_ => XS.aloadN X7.here hx rfl (hb hby d9_4) rfl rfl zz_) ?_
  show Dn p e below s _ _ _ (T7.setTop (mkF m 5 #[.val (.ref ca), .val (.int (0 : Int32)), .val (.int (2 : Int32)), .val (.ref b7), .unset, .unset] [(.ref ca)]))
  refine Dn.of (fun tt_ zz_ => XS.iloadN X7.here hx rfl (hb hby d9_5) rfl zz_) ?_
  show Dn p e below s _ _ _ (T7.setTop (mkF m 6 #[.val (.ref ca), .val (.int (0 : Int32)), .val (.int (2 : Int32)), .val (.ref b7), .unset, .unset] [(.int (0 : Int32)), (.ref ca)]))
  refine Dn.of (fun tt_ zz_ => XS.aloadN X7.here hx rfl (hb hby d9_6) rfl rfl zz_) ?_
  show Dn p e below s _ _ _ (T7.setTop (mkF m 7 #[.val (.ref ca), .val (.int (0 : Int32)), .val (.int (2 : Int32)), .val (.ref b7), .unset, .unset] [(.ref b7), (.int (0 : Int32)), (.ref ca)]))
  refine Dn.of (fun tt_ zz_ => XS.iconst X7.here hx rfl (hb hby d9_7) zz_) ?_
  show Dn p e below s _ _ _ (T7.setTop (mkF m 8 #[.val (.ref ca), .val (.int (0 : Int32)), .val (.int (2 : Int32)), .val (.ref b7), .unset, .unset] [(.int (0 : Int32)), (.ref b7), (.int (0 : Int32)), (.ref ca)]))
  refine Dn.of (fun tt_ zz_ => XS.iloadN X7.here hx rfl (hb hby d9_8) rfl zz_) ?_
  show Dn p e below s _ _ _ (T7.setTop (mkF m 9 #[.val (.ref ca), .val (.int (0 : Int32)), .val (.int (2 : Int32)), .val (.ref b7), .unset, .unset] [(.int (2 : Int32)), (.int (0 : Int32)), (.ref b7), (.int (0 : Int32)), (.ref ca)]))
  obtain ⟨v8, T8, L8, Q8, X8, st8⟩ := cSt X7 hx hZ (y := (⟨"java/lang/StringUTF16", "compress", "([CI[BII)I"⟩ : MethodName)) hown (hg 71 rfl) (hg 72 rfl) (hg 69 rfl) (hg 73 rfl) (by decide) (argsL := [(.ref ca), (.int (0 : Int32)), (.ref b7), (.int (0 : Int32)), (.int (2 : Int32))]) (rest := []) (rmC5 l Z a0 hw h7 n0 (Nat.le_trans Z0 E7.1) ca b7 kc k7 c0 c1 y0 y1 (RC.ext E7) RB dn gb) e7  0 (by decide) (by decide) (by decide) (by decide) (g := (mkF m 9 #[.val (.ref ca), .val (.int (0 : Int32)), .val (.int (2 : Int32)), .val (.ref b7), .unset, .unset] [(.int (2 : Int32)), (.int (0 : Int32)), (.ref b7), (.int (0 : Int32)), (.ref ca)])) rfl (by rw [hml]; rfl) (lenOf pd0 rfl) rfl (by show 2 * 0 + _ ≤ _; exact Nat.le_of_eq rfl) (hb hby d9_9)
  obtain ⟨rfl, M1, K1, R1⟩ := Q8
  refine Dn.of st8 ?_
  show Dn p e below s _ _ _ (T8.setTop (mkF m 12 #[.val (.ref ca), .val (.int (0 : Int32)), .val (.int (2 : Int32)), .val (.ref b7), .unset, .unset] [(.int (2 : Int32))]))
  refine Dn.of (fun tt_ zz_ => XS.istore X8.here hx rfl (hb hby d9_12) rfl (l' := #[.val (.ref ca), .val (.int (0 : Int32)), .val (.int (2 : Int32)), .val (.ref b7), .val (.int (2 : Int32)), .unset]) rfl zz_) ?_
  show Dn p e below s _ _ _ (T8.setTop (mkF m 14 #[.val (.ref ca), .val (.int (0 : Int32)), .val (.int (2 : Int32)), .val (.ref b7), .val (.int (2 : Int32)), .unset] []))
  refine Dn.of (fun tt_ zz_ => XS.iload X8.here hx rfl (hb hby d9_14) rfl zz_) ?_
  show Dn p e below s _ _ _ (T8.setTop (mkF m 16 #[.val (.ref ca), .val (.int (0 : Int32)), .val (.int (2 : Int32)), .val (.ref b7), .val (.int (2 : Int32)), .unset] [(.int (2 : Int32))]))
  refine Dn.of (fun tt_ zz_ => XS.iloadN X8.here hx rfl (hb hby d9_16) rfl zz_) ?_
  show Dn p e below s _ _ _ (T8.setTop (mkF m 17 #[.val (.ref ca), .val (.int (0 : Int32)), .val (.int (2 : Int32)), .val (.ref b7), .val (.int (2 : Int32)), .unset] [(.int (2 : Int32)), (.int (2 : Int32))]))
  refine Dn.of (fun tt_ zz_ => XS.icmpYes X8.here hx rfl (pc0 := 17) (pc' := 57) rfl (hb hby d9_17) rfl (teq rfl).1 (by decide) (by decide) zz_) ?_
  show Dn p e below s _ _ _ (T8.setTop (mkF m 57 #[.val (.ref ca), .val (.int (0 : Int32)), .val (.int (2 : Int32)), .val (.ref b7), .val (.int (2 : Int32)), .unset] []))
  refine Dn.of (fun tt_ zz_ => XS.aloadN X8.here hx rfl (hb hby d9_57) rfl rfl zz_) ?_
  show Dn p e below s _ _ _ (T8.setTop (mkF m 58 #[.val (.ref ca), .val (.int (0 : Int32)), .val (.int (2 : Int32)), .val (.ref b7), .val (.int (2 : Int32)), .unset] [(.ref b7)]))
  exact Dn.retA X8 hx hlk hret rfl rfl (hb hby d9_58) (by decide) (by decide) (⟨_, _, rfl, gb, Nat.le_of_eq g7.symm, Fr.app N0 M1, own_extK E7 K1 (Nat.le_of_eq g7.symm), R1⟩)
theorem ef11_AI (m : MethodId) (x0 : Addr) (x1 : Int32) : entryFrame m #[(.ref x0), (.int x1)] 2 = mkF m 0 #[.val (.ref x0), .val (.int x1)] [] := by first | (simp [entryFrame, mkF, argsToLocals, Value.category]; done) | rfl
set_option maxRecDepth 65536 in
set_option maxHeartbeats 40000000 in
theorem rmCL (l : Launch) (Z : State) (a0 : Array Value) (hw : ∀ d ∈ tables_1, d.before a0 Z = true) (h0 : Heap) (n0 : Nat) (Z0 : n0 ≤ h0.size) (bb : Addr) (kb : ClassId) (hs : List (Int32 × Value)) (RB : Arh Z h0 bb kb .byte 2 hs [] (.int 0)) :
    ctr l Z (⟨"java/lang/StringUTF16", "coderFromArrayLen", "([BI)B"⟩ : MethodName) jdk_52_method_15_code 2 (some .byte) [] ({ frames := 0, cells := 0, slots := 0, locals := 0 } : Room) 0 0 #[(.ref bb), (.int (2 : Int32))] h0 (fun v h L => v = some (.int (0 : Int32)) ∧ Fr n0 L ∧ h = h0) := by
  refine ctr_of (by decide +kernel) ?_
  intro p e s m below meth jc s₁ hx hby hml hret hlk hnm hown hZ e0 X0
  have N0 := Fr.nil n0
  have hg : ∀ (i : Nat) {d : Jvm.Cond}, tables_1[i]? = some d → d.before a0 Z = true := fun i d q => hw d (List.mem_of_getElem? q)
  refine Dn.cast (ef11_AI m bb (2 : Int32)) ?_
  show Dn p e below s _ _ _ (s₁.setTop (mkF m 0 #[.val (.ref bb), .val (.int (2 : Int32))] []))
  refine Dn.of (fun tt_ zz_ => XS.iloadN X0.here hx rfl (hb hby d11_0) rfl zz_) ?_
  show Dn p e below s _ _ _ (s₁.setTop (mkF m 1 #[.val (.ref bb), .val (.int (2 : Int32))] [(.int (2 : Int32))]))
  refine Dn.of (fun tt_ zz_ => XS.aloadN X0.here hx rfl (hb hby d11_1) rfl rfl zz_) ?_
  show Dn p e below s _ _ _ (s₁.setTop (mkF m 2 #[.val (.ref bb), .val (.int (2 : Int32))] [(.ref bb), (.int (2 : Int32))]))
  have Rl9 := RB
  obtain ⟨d9, B_9, _, Sd9, _, _, _⟩ := Rl9
  refine Dn.of (fun tt_ zz_ => X0.arraylength hx (by rw [e0]; exact B_9.1) (State.isArrayOf_alike hZ.alike B_9.2.1) (g := (mkF m 2 #[.val (.ref bb), .val (.int (2 : Int32))] [(.ref bb), (.int (2 : Int32))])) rfl rfl (hb hby d11_2) tt_ zz_) ?_
  rw [Sd9, show (((2 : Int32)).toNatClampNeg).toInt32 = (2 : Int32) by decide]
  show Dn p e below s _ _ _ (s₁.setTop (mkF m 3 #[.val (.ref bb), .val (.int (2 : Int32))] [(.int (2 : Int32)), (.int (2 : Int32))]))
  refine Dn.of (fun tt_ zz_ => XS.isub X0.here hx rfl (hb hby d11_3) rfl zz_) ?_
  show Dn p e below s _ _ _ (s₁.setTop (mkF m 4 #[.val (.ref bb), .val (.int (2 : Int32))] [(.int ((2 : Int32) - (2 : Int32)))]))
  refine Dn.of (fun tt_ zz_ => XS.bipush X0.here hx rfl (hb hby d11_4) zz_) ?_
  show Dn p e below s _ _ _ (s₁.setTop (mkF m 6 #[.val (.ref bb), .val (.int (2 : Int32))] [(.int (31 : Int32)), (.int ((2 : Int32) - (2 : Int32)))]))
  refine Dn.of (fun tt_ zz_ => XS.iushr X0.here hx rfl (hb hby d11_6) rfl zz_) ?_
  show Dn p e below s _ _ _ (s₁.setTop (mkF m 7 #[.val (.ref bb), .val (.int (2 : Int32))] [(.int ((((2 : Int32) - (2 : Int32)).toUInt32 >>> ((31 : Int32) &&& 31).toUInt32).toInt32))]))
  refine Dn.of (fun tt_ zz_ => XS.i2b X0.here hx rfl (hb hby d11_7) rfl zz_) ?_
  show Dn p e below s _ _ _ (s₁.setTop (mkF m 8 #[.val (.ref bb), .val (.int (2 : Int32))] [(.int (((((2 : Int32) - (2 : Int32)).toUInt32 >>> ((31 : Int32) &&& 31).toUInt32).toInt32).toInt8.toInt32))]))
  exact Dn.retN X0 hx hlk (t := .byte) hret (by simp) (hb hby d11_8) (by decide) (by decide) (⟨by decide, N0, e0⟩)
theorem ef8_AAIIN (m : MethodId) (x0 : Addr) (x1 : Addr) (x2 : Int32) (x3 : Int32) : entryFrame m #[(.ref x0), (.ref x1), (.int x2), (.int x3), .null] 6 = mkF m 0 #[.val (.ref x0), .val (.ref x1), .val (.int x2), .val (.int x3), .val .null, .unset] [] := by first | (simp [entryFrame, mkF, argsToLocals, Value.category]; done) | rfl
set_option maxRecDepth 65536 in
set_option maxHeartbeats 40000000 in
theorem rmS4 (l : Launch) (Z : State) (a0 : Array Value) (hw : ∀ d ∈ tables_1, d.before a0 Z = true) (h0 : Heap) (n0 : Nat) (Z0 : n0 ≤ h0.size) (a ca : Addr) (kc : ClassId) (c0 c1 : Int32) (cz : Int32) (hcz : ¬ cz = 0) (SZ : Sta Z Z.heap "java/lang/String" "COMPACT_STRINGS" "Z" (.int cz)) (O0 : Old Z n0 h0) (y0 : 0 ≤ c0.toInt ∧ c0.toInt ≤ 255) (y1 : 0 ≤ c1.toInt ∧ c1.toInt ≤ 255) (E0 : Exa Z h0 a "java/lang/String") (F1 : Fld Z h0 a "java/lang/String" "value" "[B" .null) (F2 : Fld Z h0 a "java/lang/String" "coder" "B" (.int (0 : Int32))) (g0 : n0 ≤ a) (RC : Arh Z h0 ca kc .char 2 [((1 : Int32), .int c1), ((0 : Int32), .int c0)] [] (.int 0)) :
    ctr l Z (⟨"java/lang/String", "<init>", "([CIILjava/lang/Void;)V"⟩ : MethodName) jdk_42_method_149_code 6 none [] ({ frames := 2, cells := 1, slots := 4, locals := 44 } : Room) 1 4 #[(.ref a), (.ref ca), (.int (0 : Int32)), (.int (2 : Int32)), .null] h0 (fun v h L => ∃ bb, v = none ∧ Fr n0 L ∧ Keep h0 h [a] ∧ own_Str Z h a bb 2 (own_fn c0 c1)) := by
  refine ctr_of (by decide +kernel) ?_
  intro p e s m below meth jc s₁ hx hby hml hret hlk hnm hown hZ e0 X0
  have N0 := Fr.nil n0
  have hg : ∀ (i : Nat) {d : Jvm.Cond}, tables_1[i]? = some d → d.before a0 Z = true := fun i d q => hw d (List.mem_of_getElem? q)
  refine Dn.cast (ef8_AAIIN m a ca (0 : Int32) (2 : Int32)) ?_
  show Dn p e below s _ _ _ (s₁.setTop (mkF m 0 #[.val (.ref a), .val (.ref ca), .val (.int (0 : Int32)), .val (.int (2 : Int32)), .val .null, .unset] []))
  have s1 : Jvm.RoadKit.slotOf Z "java/lang/String" "value" "[B" ≠ Jvm.RoadKit.slotOf Z "java/lang/String" "coder" "B" := slot_ne (Or.inr (hg 9 rfl)) (Or.inr (hg 10 rfl)) (by decide) (t := (.array .byte)) (t' := .byte) (by decide) (by decide)
  have s2 : Jvm.RoadKit.slotOf Z "java/lang/String" "coder" "B" ≠ Jvm.RoadKit.slotOf Z "java/lang/String" "value" "[B" := slot_ne (Or.inr (hg 10 rfl)) (Or.inr (hg 9 rfl)) (by decide) (t := .byte) (t' := (.array .byte)) (by decide) (by decide)
  refine Dn.of (fun tt_ zz_ => XS.aloadN X0.here hx rfl (hb hby d8_0) rfl rfl zz_) ?_
  show Dn p e below s _ _ _ (s₁.setTop (mkF m 1 #[.val (.ref a), .val (.ref ca), .val (.int (0 : Int32)), .val (.int (2 : Int32)), .val .null, .unset] [(.ref a)]))
  obtain ⟨T10, X10, e10, st10⟩ := initO X0 hx hZ hown (hg 65 rfl) (hg 31 rfl) (hg 32 rfl) e0 (g := (mkF m 1 #[.val (.ref a), .val (.ref ca), .val (.int (0 : Int32)), .val (.int (2 : Int32)), .val .null, .unset] [(.ref a)])) rfl (by rw [hml]; rfl) rfl (hb hby d8_1) (by decide) (W := 0) (by show 2 * 0 + _ ≤ _; exact Nat.le_of_eq rfl) (by decide)
  refine Dn.of st10 ?_
  show Dn p e below s _ _ _ (T10.setTop (mkF m 4 #[.val (.ref a), .val (.ref ca), .val (.int (0 : Int32)), .val (.int (2 : Int32)), .val .null, .unset] []))
  refine Dn.of (fun tt_ zz_ => XS.iloadN X10.here hx rfl (hb hby d8_4) rfl zz_) ?_
  show Dn p e below s _ _ _ (T10.setTop (mkF m 5 #[.val (.ref a), .val (.ref ca), .val (.int (0 : Int32)), .val (.int (2 : Int32)), .val .null, .unset] [(.int (2 : Int32))]))
  refine Dn.of (fun tt_ zz_ => XS.ifYes X10.here hx rfl (pc0 := 5) (pc' := 27) rfl (hb hby d8_5) rfl ((if0 _ _).trans (feq (by decide)).2) (by decide) (by decide) zz_) ?_
  show Dn p e below s _ _ _ (T10.setTop (mkF m 27 #[.val (.ref a), .val (.ref ca), .val (.int (0 : Int32)), .val (.int (2 : Int32)), .val .null, .unset] []))
  obtain ⟨T11, X11, e11, st11⟩ := getS2 X10 hx hZ hown (host := "") (Or.inl (hg 66 rfl)) Via.refl e10 (SZ.ext O0.2) (g := (mkF m 27 #[.val (.ref a), .val (.ref ca), .val (.int (0 : Int32)), .val (.int (2 : Int32)), .val .null, .unset] [])) rfl (hb hby d8_27)
  refine Dn.of st11 ?_
  show Dn p e below s _ _ _ (T11.setTop (mkF m 30 #[.val (.ref a), .val (.ref ca), .val (.int (0 : Int32)), .val (.int (2 : Int32)), .val .null, .unset] [(.int cz)]))
  refine Dn.of (fun tt_ zz_ => XS.ifNo X11.here hx rfl (hb hby d8_30) rfl ((if0 _ _).trans (feq hcz).1) zz_) ?_
  show Dn p e below s _ _ _ (T11.setTop (mkF m 33 #[.val (.ref a), .val (.ref ca), .val (.int (0 : Int32)), .val (.int (2 : Int32)), .val .null, .unset] []))
  refine Dn.of (fun tt_ zz_ => XS.aloadN X11.here hx rfl (hb hby d8_33) rfl rfl zz_) ?_
  show Dn p e below s _ _ _ (T11.setTop (mkF m 34 #[.val (.ref a), .val (.ref ca), .val (.int (0 : Int32)), .val (.int (2 : Int32)), .val .null, .unset] [(.ref ca)]))
  refine Dn.of (fun tt_ zz_ => XS.iloadN X11.here hx rfl (hb hby d8_34) rfl zz_) ?_
  show Dn p e below s _ _ _ (T11.setTop (mkF m 35 #[.val (.ref a), .val (.ref ca), .val (.int (0 : Int32)), .val (.int (2 : Int32)), .val .null, .unset] [(.int (0 : Int32)), (.ref ca)]))
  refine Dn.of (fun tt_ zz_ => XS.iloadN X11.here hx rfl (hb hby d8_35) rfl zz_) ?_
  show Dn p e below s _ _ _ (T11.setTop (mkF m 36 #[.val (.ref a), .val (.ref ca), .val (.int (0 : Int32)), .val (.int (2 : Int32)), .val .null, .unset] [(.int (2 : Int32)), (.int (0 : Int32)), (.ref ca)]))
  obtain ⟨v12, T12, L12, Q12, X12, st12⟩ := cSt X11 hx hZ (y := (⟨"java/lang/StringUTF16", "compress", "([CII)[B"⟩ : MethodName)) hown (hg 67 rfl) (hg 68 rfl) (hg 69 rfl) (hg 70 rfl) (by decide) (argsL := [(.ref ca), (.int (0 : Int32)), (.int (2 : Int32))]) (rest := []) (rmC3 l Z a0 hw h0 n0 Z0 ca kc c0 c1 y0 y1 RC) e11  0 (by decide) (by decide) (by decide) (by decide) (g := (mkF m 36 #[.val (.ref a), .val (.ref ca), .val (.int (0 : Int32)), .val (.int (2 : Int32)), .val .null, .unset] [(.int (2 : Int32)), (.int (0 : Int32)), (.ref ca)])) rfl (by rw [hml]; rfl) (lenOf pd1 rfl) rfl (by show 2 * 0 + _ ≤ _; exact Nat.le_of_eq rfl) (hb hby d8_36)
  obtain ⟨bb, kb, rfl, gb, lb, M1, X1, R1⟩ := Q12
  refine Dn.of st12 ?_
  show Dn p e below s _ _ _ (T12.setTop (mkF m 39 #[.val (.ref a), .val (.ref ca), .val (.int (0 : Int32)), .val (.int (2 : Int32)), .val .null, .unset] [(.ref bb)]))
  refine Dn.of (fun tt_ zz_ => XS.astore X12.here hx rfl (hb hby d8_39) rfl rfl (l' := #[.val (.ref a), .val (.ref ca), .val (.int (0 : Int32)), .val (.int (2 : Int32)), .val .null, .val (.ref bb)]) rfl zz_) ?_
  show Dn p e below s _ _ _ (T12.setTop (mkF m 41 #[.val (.ref a), .val (.ref ca), .val (.int (0 : Int32)), .val (.int (2 : Int32)), .val .null, .val (.ref bb)] []))
  refine Dn.of (fun tt_ zz_ => XS.aloadN X12.here hx rfl (hb hby d8_41) rfl rfl zz_) ?_
  show Dn p e below s _ _ _ (T12.setTop (mkF m 42 #[.val (.ref a), .val (.ref ca), .val (.int (0 : Int32)), .val (.int (2 : Int32)), .val .null, .val (.ref bb)] [(.ref a)]))
  refine Dn.of (fun tt_ zz_ => XS.aload X12.here hx rfl (hb hby d8_42) rfl rfl zz_) ?_
  show Dn p e below s _ _ _ (T12.setTop (mkF m 44 #[.val (.ref a), .val (.ref ca), .val (.int (0 : Int32)), .val (.int (2 : Int32)), .val .null, .val (.ref bb)] [(.ref bb), (.ref a)]))
  refine Dn.of (fun tt_ zz_ => XS.iloadN X12.here hx rfl (hb hby d8_44) rfl zz_) ?_
  show Dn p e below s _ _ _ (T12.setTop (mkF m 45 #[.val (.ref a), .val (.ref ca), .val (.int (0 : Int32)), .val (.int (2 : Int32)), .val .null, .val (.ref bb)] [(.int (2 : Int32)), (.ref bb), (.ref a)]))
  have dn : bb ≠ a := Ne.symm (Nat.ne_of_lt (Nat.lt_of_lt_of_le E0.lt lb))
  obtain ⟨v13, T13, L13, Q13, X13, st13⟩ := cSt X12 hx hZ (y := (⟨"java/lang/StringUTF16", "coderFromArrayLen", "([BI)B"⟩ : MethodName)) hown (hg 74 rfl) (hg 75 rfl) (hg 69 rfl) (hg 76 rfl) (by decide) (argsL := [(.ref bb), (.int (2 : Int32))]) (rest := [(.ref a)]) (rmCL l Z a0 hw T12.heap n0 (Nat.le_trans Z0 X1.1) bb kb _ R1) rfl  1 (by decide) (by decide) (by decide) (by decide) (g := (mkF m 45 #[.val (.ref a), .val (.ref ca), .val (.int (0 : Int32)), .val (.int (2 : Int32)), .val .null, .val (.ref bb)] [(.int (2 : Int32)), (.ref bb), (.ref a)])) rfl (by rw [hml]; rfl) (lenOf pd2 rfl) rfl (by show 2 * 0 + _ ≤ _; exact Nat.le_of_eq rfl) (hb hby d8_45)
  obtain ⟨rfl, M2, e13⟩ := Q13
  refine Dn.of st13 ?_
  show Dn p e below s _ _ _ (T13.setTop (mkF m 48 #[.val (.ref a), .val (.ref ca), .val (.int (0 : Int32)), .val (.int (2 : Int32)), .val .null, .val (.ref bb)] [(.int (0 : Int32)), (.ref a)]))
  obtain ⟨T14, h14, X14, e14, W14, st14⟩ := putF X13 hx hZ hown (host := "") (Or.inl (hg 77 rfl)) Via.refl e13 (F2.ext X1) (E0.ext X1) (Or.inr ⟨(hg 10 rfl), rfl, hnm⟩) (hg 7 rfl) (ty := .byte) (by decide) rfl rfl (g := (mkF m 48 #[.val (.ref a), .val (.ref ca), .val (.int (0 : Int32)), .val (.int (2 : Int32)), .val .null, .val (.ref bb)] [(.int (0 : Int32)), (.ref a)])) rfl rfl (hb hby d8_48)
  refine Dn.of st14 ?_
  show Dn p e below s _ _ _ (T14.setTop (mkF m 51 #[.val (.ref a), .val (.ref ca), .val (.int (0 : Int32)), .val (.int (2 : Int32)), .val .null, .val (.ref bb)] []))
  have N1 := Fr.snoc X14 (Fr.app (Fr.app N0 M1) M2) g0
  refine Dn.of (fun tt_ zz_ => XS.aloadN X14.here hx rfl (hb hby d8_51) rfl rfl zz_) ?_
  show Dn p e below s _ _ _ (T14.setTop (mkF m 52 #[.val (.ref a), .val (.ref ca), .val (.int (0 : Int32)), .val (.int (2 : Int32)), .val .null, .val (.ref bb)] [(.ref a)]))
  refine Dn.of (fun tt_ zz_ => XS.aload X14.here hx rfl (hb hby d8_52) rfl rfl zz_) ?_
  show Dn p e below s _ _ _ (T14.setTop (mkF m 54 #[.val (.ref a), .val (.ref ca), .val (.int (0 : Int32)), .val (.int (2 : Int32)), .val .null, .val (.ref bb)] [(.ref bb), (.ref a)]))
  obtain ⟨T15, h15, X15, e15, W15, st15⟩ := putF X14 hx hZ hown (host := "") (Or.inl (hg 78 rfl)) Via.refl e14 ((F1.ext X1).other W14 (Or.inr s1)) ((E0.ext X1).wr W14) (Or.inr ⟨(hg 9 rfl), rfl, hnm⟩) (hg 7 rfl) (ty := (.array .byte)) (by decide) rfl rfl (g := (mkF m 54 #[.val (.ref a), .val (.ref ca), .val (.int (0 : Int32)), .val (.int (2 : Int32)), .val .null, .val (.ref bb)] [(.ref bb), (.ref a)])) rfl rfl (hb hby d8_54)
  refine Dn.of st15 ?_
  show Dn p e below s _ _ _ (T15.setTop (mkF m 57 #[.val (.ref a), .val (.ref ca), .val (.int (0 : Int32)), .val (.int (2 : Int32)), .val .null, .val (.ref bb)] []))
  have N2 := Fr.snoc X15 N1 g0
  exact Dn.retV X15 hx hlk hret (hb hby d8_57) (by decide) (by decide) (by rw [e15]; exact ⟨bb, rfl, N2, (((Keep.refl h0 [a]).ext X1).wr W14 (Or.inl (List.mem_of_getElem? (i := 0) rfl))).wr W15 (Or.inl (List.mem_of_getElem? (i := 0) rfl)), _, _, ((E0.ext X1).wr W14).wr W15, ((F2.ext X1).same W14).other W15 (Or.inr s2), ((F1.ext X1).other W14 (Or.inr s1)).same W15, (R1.other W14 dn).other W15 dn, fun i hi => by
    have : i = 0 ∨ i = 1 := by have : i < 2 := hi; omega
    rcases this with rfl | rfl <;> rfl⟩)
theorem ef7_AA (m : MethodId) (x0 : Addr) (x1 : Addr) : entryFrame m #[(.ref x0), (.ref x1)] 2 = mkF m 0 #[.val (.ref x0), .val (.ref x1)] [] := by first | (simp [entryFrame, mkF, argsToLocals, Value.category]; done) | rfl
set_option maxRecDepth 65536 in
set_option maxHeartbeats 40000000 in
theorem rmS1 (l : Launch) (Z : State) (a0 : Array Value) (hw : ∀ d ∈ tables_1, d.before a0 Z = true) (h0 : Heap) (n0 : Nat) (Z0 : n0 ≤ h0.size) (a ca : Addr) (kc : ClassId) (c0 c1 : Int32) (cz : Int32) (hcz : ¬ cz = 0) (SZ : Sta Z Z.heap "java/lang/String" "COMPACT_STRINGS" "Z" (.int cz)) (O0 : Old Z n0 h0) (y0 : 0 ≤ c0.toInt ∧ c0.toInt ≤ 255) (y1 : 0 ≤ c1.toInt ∧ c1.toInt ≤ 255) (E0 : Exa Z h0 a "java/lang/String") (F1 : Fld Z h0 a "java/lang/String" "value" "[B" .null) (F2 : Fld Z h0 a "java/lang/String" "coder" "B" (.int (0 : Int32))) (g0 : n0 ≤ a) (RC : Arh Z h0 ca kc .char 2 [((1 : Int32), .int c1), ((0 : Int32), .int c0)] [] (.int 0)) :
    ctr l Z (⟨"java/lang/String", "<init>", "([C)V"⟩ : MethodName) jdk_42_method_3_code 2 none [] ({ frames := 3, cells := 1, slots := 4, locals := 68 } : Room) 1 4 #[(.ref a), (.ref ca)] h0 (fun v h L => ∃ bb, v = none ∧ Fr n0 L ∧ Keep h0 h [a] ∧ own_Str Z h a bb 2 (own_fn c0 c1)) := by
  refine ctr_of (by decide +kernel) ?_
  intro p e s m below meth jc s₁ hx hby hml hret hlk hnm hown hZ e0 X0
  have N0 := Fr.nil n0
  have hg : ∀ (i : Nat) {d : Jvm.Cond}, tables_1[i]? = some d → d.before a0 Z = true := fun i d q => hw d (List.mem_of_getElem? q)
  refine Dn.cast (ef7_AA m a ca) ?_
  show Dn p e below s _ _ _ (s₁.setTop (mkF m 0 #[.val (.ref a), .val (.ref ca)] []))
  refine Dn.of (fun tt_ zz_ => XS.aloadN X0.here hx rfl (hb hby d7_0) rfl rfl zz_) ?_
  show Dn p e below s _ _ _ (s₁.setTop (mkF m 1 #[.val (.ref a), .val (.ref ca)] [(.ref a)]))
  refine Dn.of (fun tt_ zz_ => XS.aloadN X0.here hx rfl (hb hby d7_1) rfl rfl zz_) ?_
  show Dn p e below s _ _ _ (s₁.setTop (mkF m 2 #[.val (.ref a), .val (.ref ca)] [(.ref ca), (.ref a)]))
  refine Dn.of (fun tt_ zz_ => XS.iconst X0.here hx rfl (hb hby d7_2) zz_) ?_
  show Dn p e below s _ _ _ (s₁.setTop (mkF m 3 #[.val (.ref a), .val (.ref ca)] [(.int (0 : Int32)), (.ref ca), (.ref a)]))
  refine Dn.of (fun tt_ zz_ => XS.aloadN X0.here hx rfl (hb hby d7_3) rfl rfl zz_) ?_
  show Dn p e below s _ _ _ (s₁.setTop (mkF m 4 #[.val (.ref a), .val (.ref ca)] [(.ref ca), (.int (0 : Int32)), (.ref ca), (.ref a)]))
  have Rl16 := RC
  obtain ⟨d16, B_16, _, Sd16, _, _, _⟩ := Rl16
  refine Dn.of (fun tt_ zz_ => X0.arraylength hx (by rw [e0]; exact B_16.1) (State.isArrayOf_alike hZ.alike B_16.2.1) (g := (mkF m 4 #[.val (.ref a), .val (.ref ca)] [(.ref ca), (.int (0 : Int32)), (.ref ca), (.ref a)])) rfl rfl (hb hby d7_4) tt_ zz_) ?_
  rw [Sd16, show (((2 : Int32)).toNatClampNeg).toInt32 = (2 : Int32) by decide]
  show Dn p e below s _ _ _ (s₁.setTop (mkF m 5 #[.val (.ref a), .val (.ref ca)] [(.int (2 : Int32)), (.int (0 : Int32)), (.ref ca), (.ref a)]))
  refine Dn.of (fun tt_ zz_ => XS.aconstNull X0.here hx rfl (hb hby d7_5) zz_) ?_
  show Dn p e below s _ _ _ (s₁.setTop (mkF m 6 #[.val (.ref a), .val (.ref ca)] [.null, (.int (2 : Int32)), (.int (0 : Int32)), (.ref ca), (.ref a)]))
  obtain ⟨v17, T17, L17, Q17, X17, st17⟩ := cIn X0 hx hZ (y := (⟨"java/lang/String", "<init>", "([CIILjava/lang/Void;)V"⟩ : MethodName)) rfl hown (hg 61 rfl) (hg 62 rfl) (hg 6 rfl) (hg 64 rfl) (by decide) (a := a) (argsL := [(.ref ca), (.int (0 : Int32)), (.int (2 : Int32)), .null]) (rest := []) (rmS4 l Z a0 hw h0 n0 Z0 a ca kc c0 c1 cz hcz SZ O0 y0 y1 E0 F1 F2 g0 RC) e0  0 (by decide) (by decide) (by decide) (by decide) (g := (mkF m 6 #[.val (.ref a), .val (.ref ca)] [.null, (.int (2 : Int32)), (.int (0 : Int32)), (.ref ca), (.ref a)])) rfl (by rw [hml]; rfl) (lenOf pd3 rfl) rfl (by show 2 * 0 + _ ≤ _; exact Nat.le_of_eq rfl) (hb hby d7_6)
  obtain ⟨bb, rfl, M1, r⟩ := Q17
  refine Dn.of st17 ?_
  show Dn p e below s _ _ _ (T17.setTop (mkF m 9 #[.val (.ref a), .val (.ref ca)] []))
  exact Dn.retV X17 hx hlk hret (hb hby d7_9) (by decide) (by decide) (⟨bb, rfl, Fr.app N0 M1, r⟩)
theorem ef13_I (m : MethodId) (x0 : Int32) : entryFrame m #[(.int x0)] 1 = mkF m 0 #[.val (.int x0)] [] := by first | (simp [entryFrame, mkF, argsToLocals, Value.category]; done) | rfl
set_option maxRecDepth 65536 in
set_option maxHeartbeats 40000000 in
theorem rmCE (l : Launch) (Z : State) (a0 : Array Value) (hw : ∀ d ∈ tables_1, d.before a0 Z = true) (h0 : Heap) (n0 : Nat) (Z0 : n0 ≤ h0.size) (c0 : Int32) (y0 : 0 ≤ c0.toInt ∧ c0.toInt ≤ 255) :
    ctr l Z (⟨"java/lang/StringLatin1", "canEncode", "(C)Z"⟩ : MethodName) jdk_43_method_3_code 1 (some .boolean) [] ({ frames := 0, cells := 0, slots := 0, locals := 0 } : Room) 0 0 #[(.int c0)] h0 (fun v h L => v = some (.int (1 : Int32)) ∧ Fr n0 L ∧ h = h0) := by
  refine ctr_of (by decide +kernel) ?_
  intro p e s m below meth jc s₁ hx hby hml hret hlk hnm hown hZ e0 X0
  have N0 := Fr.nil n0
  have hg : ∀ (i : Nat) {d : Jvm.Cond}, tables_1[i]? = some d → d.before a0 Z = true := fun i d q => hw d (List.mem_of_getElem? q)
  refine Dn.cast (ef13_I m c0) ?_
  show Dn p e below s _ _ _ (s₁.setTop (mkF m 0 #[.val (.int c0)] []))
  refine Dn.of (fun tt_ zz_ => XS.iloadN X0.here hx rfl (hb hby d13_0) rfl zz_) ?_
  show Dn p e below s _ _ _ (s₁.setTop (mkF m 1 #[.val (.int c0)] [(.int c0)]))
  refine Dn.of (fun tt_ zz_ => XS.sipush X0.here hx rfl (hb hby d13_1) zz_) ?_
  show Dn p e below s _ _ _ (s₁.setTop (mkF m 4 #[.val (.int c0)] [(.int (255 : Int32)), (.int c0)]))
  refine Dn.of (fun tt_ zz_ => XS.icmpNo X0.here hx rfl (hb hby d13_4) rfl (flt (own_gt y0)).2.2.1 zz_) ?_
  show Dn p e below s _ _ _ (s₁.setTop (mkF m 7 #[.val (.int c0)] []))
  refine Dn.of (fun tt_ zz_ => XS.iconst X0.here hx rfl (hb hby d13_7) zz_) ?_
  show Dn p e below s _ _ _ (s₁.setTop (mkF m 8 #[.val (.int c0)] [(.int (1 : Int32))]))
  refine Dn.of (fun tt_ zz_ => XS.goto X0.here hx rfl (pc0 := 8) (pc' := 12) rfl (hb hby d13_8) (by decide) (by decide) zz_) ?_
  show Dn p e below s _ _ _ (s₁.setTop (mkF m 12 #[.val (.int c0)] [(.int (1 : Int32))]))
  exact Dn.retN X0 hx hlk (t := .boolean) hret (by simp) (hb hby d13_12) (by decide) (by decide) (⟨rfl, N0, e0⟩)
theorem ef14_I (m : MethodId) (x0 : Int32) : entryFrame m #[(.int x0)] 1 = mkF m 0 #[.val (.int x0)] [] := by first | (simp [entryFrame, mkF, argsToLocals, Value.category]; done) | rfl
set_option maxRecDepth 65536 in
set_option maxHeartbeats 40000000 in
theorem rmTB (l : Launch) (Z : State) (a0 : Array Value) (hw : ∀ d ∈ tables_1, d.before a0 Z = true) (h0 : Heap) (n0 : Nat) (Z0 : n0 ≤ h0.size) (c0 : Int32) :
    ctr l Z (⟨"java/lang/StringLatin1", "toBytes", "(C)[B"⟩ : MethodName) jdk_43_method_46_code 1 (some (.array .byte)) [] ({ frames := 0, cells := 1, slots := 4, locals := 0 } : Room) 1 4 #[(.int c0)] h0 (fun v h L => ∃ bb kb, v = some (.ref bb) ∧ n0 ≤ bb ∧ h0.size ≤ bb ∧ Fr n0 L ∧ Ext h0 h ∧ Arh Z h bb kb .byte 1 [((0 : Int32), .int (own_B c0))] [] (.int 0)) := by
  refine ctr_of (by decide +kernel) ?_
  intro p e s m below meth jc s₁ hx hby hml hret hlk hnm hown hZ e0 X0
  have N0 := Fr.nil n0
  have hg : ∀ (i : Nat) {d : Jvm.Cond}, tables_1[i]? = some d → d.before a0 Z = true := fun i d q => hw d (List.mem_of_getElem? q)
  refine Dn.cast (ef14_I m c0) ?_
  show Dn p e below s _ _ _ (s₁.setTop (mkF m 0 #[.val (.int c0)] []))
  refine Dn.of (fun tt_ zz_ => XS.iconst X0.here hx rfl (hb hby d14_0) zz_) ?_
  show Dn p e below s _ _ _ (s₁.setTop (mkF m 1 #[.val (.int c0)] [(.int (1 : Int32))]))
  obtain ⟨T18, h18, k18, X18, e18, E18, A18, st18⟩ := newP X0 hx hZ (hg 8 rfl) e0 (g := (mkF m 1 #[.val (.int c0)] [(.int (1 : Int32))])) rfl (hb hby d14_1) rfl (by decide) (cap := 1) (by decide) (by decide) (by decide) (by decide)
  obtain ⟨b18, g18⟩ : ∃ z, z = h0.size := ⟨_, rfl⟩
  rw [← g18] at A18 st18
  refine Dn.of st18 ?_
  show Dn p e below s _ _ _ (T18.setTop (mkF m 3 #[.val (.int c0)] [(.ref b18)]))
  have RB : Arh Z h18 b18 k18 .byte 1 [] [] (.int 0) := (Arv.new A18 (by decide)).arh
  have gb : n0 ≤ b18 := g18 ▸ Z0
  refine Dn.of (fun tt_ zz_ => XS.dup X18.here hx rfl (hb hby d14_3) rfl rfl zz_) ?_
  show Dn p e below s _ _ _ (T18.setTop (mkF m 4 #[.val (.int c0)] [(.ref b18), (.ref b18)]))
  refine Dn.of (fun tt_ zz_ => XS.iconst X18.here hx rfl (hb hby d14_4) zz_) ?_
  show Dn p e below s _ _ _ (T18.setTop (mkF m 5 #[.val (.int c0)] [(.int (0 : Int32)), (.ref b18), (.ref b18)]))
  refine Dn.of (fun tt_ zz_ => XS.iloadN X18.here hx rfl (hb hby d14_5) rfl zz_) ?_
  show Dn p e below s _ _ _ (T18.setTop (mkF m 6 #[.val (.int c0)] [(.int c0), (.int (0 : Int32)), (.ref b18), (.ref b18)]))
  refine Dn.of (fun tt_ zz_ => XS.i2b X18.here hx rfl (hb hby d14_6) rfl zz_) ?_
  show Dn p e below s _ _ _ (T18.setTop (mkF m 7 #[.val (.int c0)] [(.int (c0.toInt8.toInt32)), (.int (0 : Int32)), (.ref b18), (.ref b18)]))
  obtain ⟨c19, A_19, p19, S19, P19, H19, G19⟩ := RB
  obtain ⟨T20, h20, X20, e20, W20, st20⟩ := stB X18 hx hZ e18 A_19 (j := (0 : Int32)) (inb_of S19 (by decide)) (g := (mkF m 7 #[.val (.int c0)] [(.int (c0.toInt8.toInt32)), (.int (0 : Int32)), (.ref b18), (.ref b18)])) rfl rfl (hb hby d14_7)
  refine Dn.of st20 ?_
  show Dn p e below s _ _ _ (T20.setTop (mkF m 8 #[.val (.int c0)] [(.ref b18)]))
  have R_19 := Arh.push A_19 p19 S19 P19 H19 G19 (v := (.int (own_B c0))) (fits_byte_narrow _) W20 (inb_of S19 (by decide))
  have N19 := Fr.snoc X20 N0 gb
  exact Dn.retA X20 hx hlk hret rfl rfl (hb hby d14_8) (by decide) (by decide) (by rw [e20]; exact ⟨_, _, rfl, gb, Nat.le_of_eq g18.symm, N19, own_extK E18 (Keep.of_wr W20) (Nat.le_of_eq g18.symm), R_19⟩)
theorem ef15_AAI (m : MethodId) (x0 : Addr) (x1 : Addr) (x2 : Int32) : entryFrame m #[(.ref x0), (.ref x1), (.int x2)] 3 = mkF m 0 #[.val (.ref x0), .val (.ref x1), .val (.int x2)] [] := by first | (simp [entryFrame, mkF, argsToLocals, Value.category]; done) | rfl
set_option maxRecDepth 65536 in
set_option maxHeartbeats 40000000 in
theorem rmSB (l : Launch) (Z : State) (a0 : Array Value) (hw : ∀ d ∈ tables_1, d.before a0 Z = true) (h0 : Heap) (n0 : Nat) (Z0 : n0 ≤ h0.size) (a bb : Addr) (E0 : Exa Z h0 a "java/lang/String") (F1 : Fld Z h0 a "java/lang/String" "value" "[B" .null) (F2 : Fld Z h0 a "java/lang/String" "coder" "B" (.int (0 : Int32))) (g0 : n0 ≤ a) :
    ctr l Z (⟨"java/lang/String", "<init>", "([BB)V"⟩ : MethodName) jdk_42_method_151_code 3 none [] ({ frames := 1, cells := 0, slots := 0, locals := 12 } : Room) 0 0 #[(.ref a), (.ref bb), (.int (0 : Int32))] h0 (fun v h L => v = none ∧ Fr n0 L ∧ Keep h0 h [a] ∧ Fld Z h a "java/lang/String" "coder" "B" (.int 0) ∧ Fld Z h a "java/lang/String" "value" "[B" (.ref bb)) := by
  refine ctr_of (by decide +kernel) ?_
  intro p e s m below meth jc s₁ hx hby hml hret hlk hnm hown hZ e0 X0
  have N0 := Fr.nil n0
  have hg : ∀ (i : Nat) {d : Jvm.Cond}, tables_1[i]? = some d → d.before a0 Z = true := fun i d q => hw d (List.mem_of_getElem? q)
  refine Dn.cast (ef15_AAI m a bb (0 : Int32)) ?_
  show Dn p e below s _ _ _ (s₁.setTop (mkF m 0 #[.val (.ref a), .val (.ref bb), .val (.int (0 : Int32))] []))
  have s1 : Jvm.RoadKit.slotOf Z "java/lang/String" "value" "[B" ≠ Jvm.RoadKit.slotOf Z "java/lang/String" "coder" "B" := slot_ne (Or.inr (hg 9 rfl)) (Or.inr (hg 10 rfl)) (by decide) (t := (.array .byte)) (t' := .byte) (by decide) (by decide)
  have s2 : Jvm.RoadKit.slotOf Z "java/lang/String" "coder" "B" ≠ Jvm.RoadKit.slotOf Z "java/lang/String" "value" "[B" := slot_ne (Or.inr (hg 10 rfl)) (Or.inr (hg 9 rfl)) (by decide) (t := .byte) (t' := (.array .byte)) (by decide) (by decide)
  refine Dn.of (fun tt_ zz_ => XS.aloadN X0.here hx rfl (hb hby d15_0) rfl rfl zz_) ?_
  show Dn p e below s _ _ _ (s₁.setTop (mkF m 1 #[.val (.ref a), .val (.ref bb), .val (.int (0 : Int32))] [(.ref a)]))
  obtain ⟨T21, X21, e21, st21⟩ := initO X0 hx hZ hown (hg 65 rfl) (hg 31 rfl) (hg 32 rfl) e0 (g := (mkF m 1 #[.val (.ref a), .val (.ref bb), .val (.int (0 : Int32))] [(.ref a)])) rfl (by rw [hml]; rfl) rfl (hb hby d15_1) (by decide) (W := 0) (by show 2 * 0 + _ ≤ _; exact Nat.le_of_eq rfl) (by decide)
  refine Dn.of st21 ?_
  show Dn p e below s _ _ _ (T21.setTop (mkF m 4 #[.val (.ref a), .val (.ref bb), .val (.int (0 : Int32))] []))
  refine Dn.of (fun tt_ zz_ => XS.aloadN X21.here hx rfl (hb hby d15_4) rfl rfl zz_) ?_
  show Dn p e below s _ _ _ (T21.setTop (mkF m 5 #[.val (.ref a), .val (.ref bb), .val (.int (0 : Int32))] [(.ref a)]))
  refine Dn.of (fun tt_ zz_ => XS.aloadN X21.here hx rfl (hb hby d15_5) rfl rfl zz_) ?_
  show Dn p e below s _ _ _ (T21.setTop (mkF m 6 #[.val (.ref a), .val (.ref bb), .val (.int (0 : Int32))] [(.ref bb), (.ref a)]))
  obtain ⟨T22, h22, X22, e22, W22, st22⟩ := putF X21 hx hZ hown (host := "") (Or.inl (hg 78 rfl)) Via.refl e21 F1 E0 (Or.inr ⟨(hg 9 rfl), rfl, hnm⟩) (hg 7 rfl) (ty := (.array .byte)) (by decide) rfl rfl (g := (mkF m 6 #[.val (.ref a), .val (.ref bb), .val (.int (0 : Int32))] [(.ref bb), (.ref a)])) rfl rfl (hb hby d15_6)
  refine Dn.of st22 ?_
  show Dn p e below s _ _ _ (T22.setTop (mkF m 9 #[.val (.ref a), .val (.ref bb), .val (.int (0 : Int32))] []))
  have N1 := Fr.snoc X22 N0 g0
  refine Dn.of (fun tt_ zz_ => XS.aloadN X22.here hx rfl (hb hby d15_9) rfl rfl zz_) ?_
  show Dn p e below s _ _ _ (T22.setTop (mkF m 10 #[.val (.ref a), .val (.ref bb), .val (.int (0 : Int32))] [(.ref a)]))
  refine Dn.of (fun tt_ zz_ => XS.iloadN X22.here hx rfl (hb hby d15_10) rfl zz_) ?_
  show Dn p e below s _ _ _ (T22.setTop (mkF m 11 #[.val (.ref a), .val (.ref bb), .val (.int (0 : Int32))] [(.int (0 : Int32)), (.ref a)]))
  obtain ⟨T23, h23, X23, e23, W23, st23⟩ := putF X22 hx hZ hown (host := "") (Or.inl (hg 77 rfl)) Via.refl e22 (F2.other W22 (Or.inr s2)) (E0.wr W22) (Or.inr ⟨(hg 10 rfl), rfl, hnm⟩) (hg 7 rfl) (ty := .byte) (by decide) rfl rfl (g := (mkF m 11 #[.val (.ref a), .val (.ref bb), .val (.int (0 : Int32))] [(.int (0 : Int32)), (.ref a)])) rfl rfl (hb hby d15_11)
  refine Dn.of st23 ?_
  show Dn p e below s _ _ _ (T23.setTop (mkF m 14 #[.val (.ref a), .val (.ref bb), .val (.int (0 : Int32))] []))
  have N2 := Fr.snoc X23 N1 g0
  exact Dn.retV X23 hx hlk hret (hb hby d15_14) (by decide) (by decide) (by rw [e23]; exact ⟨rfl, N2, ((Keep.refl h0 [a]).wr W22 (Or.inl (List.mem_of_getElem? (i := 0) rfl))).wr W23 (Or.inl (List.mem_of_getElem? (i := 0) rfl)), (F2.other W22 (Or.inr s2)).same W23, (F1.same W22).other W23 (Or.inr s1)⟩)
theorem ef12_I (m : MethodId) (x0 : Int32) : entryFrame m #[(.int x0)] 1 = mkF m 0 #[.val (.int x0)] [] := by first | (simp [entryFrame, mkF, argsToLocals, Value.category]; done) | rfl
set_option maxRecDepth 65536 in
set_option maxHeartbeats 40000000 in
theorem rmVO (l : Launch) (Z : State) (a0 : Array Value) (hw : ∀ d ∈ tables_1, d.before a0 Z = true) (h0 : Heap) (n0 : Nat) (Z0 : n0 ≤ h0.size) (c0 c1 : Int32) (cz : Int32) (hcz : ¬ cz = 0) (SZ : Sta Z Z.heap "java/lang/String" "COMPACT_STRINGS" "Z" (.int cz)) (O0 : Old Z n0 h0) (y0 : 0 ≤ c0.toInt ∧ c0.toInt ≤ 255) :
    ctr l Z (⟨"java/lang/String", "valueOf", "(C)Ljava/lang/String;"⟩ : MethodName) jdk_42_method_139_code 1 (some (.object "java/lang/String")) [] ({ frames := 2, cells := 2, slots := 8, locals := 44 } : Room) 2 8 #[(.int c0)] h0 (fun v h L => ∃ a bb, v = some (.ref a) ∧ Fr n0 L ∧ Ext h0 h ∧ own_Str Z h a bb 1 (own_fn c0 c1)) := by
  refine ctr_of (by decide +kernel) ?_
  intro p e s m below meth jc s₁ hx hby hml hret hlk hnm hown hZ e0 X0
  have N0 := Fr.nil n0
  have hg : ∀ (i : Nat) {d : Jvm.Cond}, tables_1[i]? = some d → d.before a0 Z = true := fun i d q => hw d (List.mem_of_getElem? q)
  refine Dn.cast (ef12_I m c0) ?_
  show Dn p e below s _ _ _ (s₁.setTop (mkF m 0 #[.val (.int c0)] []))
  obtain ⟨T24, X24, e24, st24⟩ := getS2 X0 hx hZ hown (host := "") (Or.inl (hg 66 rfl)) Via.refl e0 (SZ.ext O0.2) (g := (mkF m 0 #[.val (.int c0)] [])) rfl (hb hby d12_0)
  refine Dn.of st24 ?_
  show Dn p e below s _ _ _ (T24.setTop (mkF m 3 #[.val (.int c0)] [(.int cz)]))
  refine Dn.of (fun tt_ zz_ => XS.ifNo X24.here hx rfl (hb hby d12_3) rfl ((if0 _ _).trans (feq hcz).1) zz_) ?_
  show Dn p e below s _ _ _ (T24.setTop (mkF m 6 #[.val (.int c0)] []))
  refine Dn.of (fun tt_ zz_ => XS.iloadN X24.here hx rfl (hb hby d12_6) rfl zz_) ?_
  show Dn p e below s _ _ _ (T24.setTop (mkF m 7 #[.val (.int c0)] [(.int c0)]))
  obtain ⟨v25, T25, L25, Q25, X25, st25⟩ := cSt X24 hx hZ (y := (⟨"java/lang/StringLatin1", "canEncode", "(C)Z"⟩ : MethodName)) hown (hg 84 rfl) (hg 85 rfl) (hg 86 rfl) (hg 87 rfl) (by decide) (argsL := [(.int c0)]) (rest := []) (rmCE l Z a0 hw h0 n0 Z0 c0 y0) e24  0 (by decide) (by decide) (by decide) (by decide) (g := (mkF m 7 #[.val (.int c0)] [(.int c0)])) rfl (by rw [hml]; rfl) (lenOf pd4 rfl) rfl (by show 2 * 0 + _ ≤ _; exact Nat.le_of_eq rfl) (hb hby d12_7)
  obtain ⟨rfl, M1, e25⟩ := Q25
  refine Dn.of st25 ?_
  show Dn p e below s _ _ _ (T25.setTop (mkF m 10 #[.val (.int c0)] [(.int (1 : Int32))]))
  refine Dn.of (fun tt_ zz_ => XS.ifNo X25.here hx rfl (hb hby d12_10) rfl ((if0 _ _).trans (feq (by decide)).1) zz_) ?_
  show Dn p e below s _ _ _ (T25.setTop (mkF m 13 #[.val (.int c0)] []))
  obtain ⟨T26, h26, X26, e26, E26, A26, D26, U26, st26⟩ := newO X25 hx hZ hown (hg 88 rfl) (hg 7 rfl) (hg 6 rfl) e25 (g := (mkF m 13 #[.val (.int c0)] [])) rfl (hb hby d12_13) (by decide) (by decide)
  obtain ⟨b26, g26⟩ : ∃ z, z = h0.size := ⟨_, rfl⟩
  rw [← g26] at A26 D26 U26 st26
  refine Dn.of st26 ?_
  show Dn p e below s _ _ _ (T26.setTop (mkF m 16 #[.val (.int c0)] [(.ref b26)]))
  have F_value_26 : Fld Z h26 b26 "java/lang/String" "value" "[B" .null := D26 (Or.inr (hg 9 rfl)) (ty := (.array .byte)) (by decide)
  have F_coder_26 : Fld Z h26 b26 "java/lang/String" "coder" "B" (.int (0 : Int32)) := D26 (Or.inr (hg 10 rfl)) (ty := .byte) (by decide)
  have ga : n0 ≤ b26 := g26 ▸ Z0
  refine Dn.of (fun tt_ zz_ => XS.dup X26.here hx rfl (hb hby d12_16) rfl rfl zz_) ?_
  show Dn p e below s _ _ _ (T26.setTop (mkF m 17 #[.val (.int c0)] [(.ref b26), (.ref b26)]))
  refine Dn.of (fun tt_ zz_ => XS.iloadN X26.here hx rfl (hb hby d12_17) rfl zz_) ?_
  show Dn p e below s _ _ _ (T26.setTop (mkF m 18 #[.val (.int c0)] [(.int c0), (.ref b26), (.ref b26)]))
  obtain ⟨v27, T27, L27, Q27, X27, st27⟩ := cSt X26 hx hZ (y := (⟨"java/lang/StringLatin1", "toBytes", "(C)[B"⟩ : MethodName)) hown (hg 89 rfl) (hg 90 rfl) (hg 86 rfl) (hg 91 rfl) (by decide) (argsL := [(.int c0)]) (rest := [(.ref b26), (.ref b26)]) (rmTB l Z a0 hw h26 n0 (Nat.le_trans Z0 E26.1) c0) e26  2 (by decide) (by decide) (by decide) (by decide) (g := (mkF m 18 #[.val (.int c0)] [(.int c0), (.ref b26), (.ref b26)])) rfl (by rw [hml]; rfl) (lenOf pd5 rfl) rfl (by show 2 * 0 + _ ≤ _; exact Nat.le_of_eq rfl) (hb hby d12_18)
  obtain ⟨bb, kb, rfl, gb, lb, M2, X2, R2⟩ := Q27
  refine Dn.of st27 ?_
  show Dn p e below s _ _ _ (T27.setTop (mkF m 21 #[.val (.int c0)] [(.ref bb), (.ref b26), (.ref b26)]))
  refine Dn.of (fun tt_ zz_ => XS.iconst X27.here hx rfl (hb hby d12_21) zz_) ?_
  show Dn p e below s _ _ _ (T27.setTop (mkF m 22 #[.val (.int c0)] [(.int (0 : Int32)), (.ref bb), (.ref b26), (.ref b26)]))
  have dn : bb ≠ b26 := Ne.symm (Nat.ne_of_lt (Nat.lt_of_lt_of_le A26.lt lb))
  obtain ⟨v28, T28, L28, Q28, X28, st28⟩ := cIn X27 hx hZ (y := (⟨"java/lang/String", "<init>", "([BB)V"⟩ : MethodName)) rfl hown (hg 92 rfl) (hg 93 rfl) (hg 6 rfl) (hg 94 rfl) (by decide) (a := b26) (argsL := [(.ref bb), (.int (0 : Int32))]) (rest := [(.ref b26)]) (rmSB l Z a0 hw T27.heap n0 (Nat.le_trans (Nat.le_trans Z0 E26.1) X2.1) b26 bb (A26.ext X2) (F_value_26.ext X2) (F_coder_26.ext X2) ga) rfl  1 (by decide) (by decide) (by decide) (by decide) (g := (mkF m 22 #[.val (.int c0)] [(.int (0 : Int32)), (.ref bb), (.ref b26), (.ref b26)])) rfl (by rw [hml]; rfl) (lenOf pd6 rfl) rfl (by show 2 * 0 + _ ≤ _; exact Nat.le_of_eq rfl) (hb hby d12_22)
  obtain ⟨rfl, M3, K3, G1, G2⟩ := Q28
  refine Dn.of st28 ?_
  show Dn p e below s _ _ _ (T28.setTop (mkF m 25 #[.val (.int c0)] [(.ref b26)]))
  have XX : Ext h0 T27.heap := ⟨Nat.le_trans E26.1 X2.1, fun y c r => X2.2 _ _ (E26.2 _ _ r)⟩
  exact Dn.retA X28 hx hlk hret rfl rfl (hb hby d12_25) (by decide) (by decide) (⟨_, bb, rfl, Fr.app (Fr.app (Fr.app N0 M1) M2) M3, own_extK XX K3 (Nat.le_of_eq g26.symm), _, _, (A26.ext X2).keep K3, G1, G2, R2.keep K3 (ninS dn nin0), fun i hi => by
    have : i = 0 := by have : i < 1 := hi; omega
    subst this; rfl⟩)
theorem ef1_III (m : MethodId) (x0 : Int32) (x1 : Int32) (x2 : Int32) : entryFrame m #[(.int x0), (.int x1), (.int x2)] 4 = mkF m 0 #[.val (.int x0), .val (.int x1), .val (.int x2), .unset] [] := by first | (simp [entryFrame, mkF, argsToLocals, Value.category]; done) | rfl
set_option maxRecDepth 65536 in
set_option maxHeartbeats 40000000 in
theorem rmMk (l : Launch) (Z : State) (a0 : Array Value) (hw : ∀ d ∈ tables_1, d.before a0 Z = true) (h0 : Heap) (n0 : Nat) (Z0 : n0 ≤ h0.size) (n c0 c1 : Int32) (cz : Int32) (hcz : ¬ cz = 0) (SZ : Sta Z Z.heap "java/lang/String" "COMPACT_STRINGS" "Z" (.int cz)) (O0 : Old Z n0 h0) (y0 : 0 ≤ c0.toInt ∧ c0.toInt ≤ 255) (y1 : 0 ≤ c1.toInt ∧ c1.toInt ≤ 255) (hn : n = 0 ∨ n = 1 ∨ n = 2) :
    ctrH l Z consts_1 (⟨"com/example/warmfront/warmfront/js/TokenIsPinLaw", "mk", "(ICC)Ljava/lang/String;"⟩ : MethodName) method_3_code 4 (some (.object "java/lang/String")) [] ({ frames := 4, cells := 5, slots := 64, locals := 90 } : Room) 5 64 #[(.int n), (.int c0), (.int c1)] h0 (fun v h L => ∃ a bb, v = some (.ref a) ∧ Fr n0 L ∧ Ext h0 h ∧ own_Str Z h a bb n (own_fn c0 c1)) := by
  refine ctrH_of (plainFor_of_name pn0) ?_
  intro p e s m below meth jc s₁ hx hby hml hret hlk hnm hown hZ e0 hsh hH hS X0
  have hk := Nat.le_refl h0.size
  have N0 := Fr.nil n0
  have hg : ∀ (i : Nat) {d : Jvm.Cond}, tables_1[i]? = some d → d.before a0 Z = true := fun i d q => hw d (List.mem_of_getElem? q)
  refine DnH.cast (ef1_III m n c0 c1) ?_
  show DnH Z consts_1 p e below s _ _ _ (s₁.setTop (mkF m 0 #[.val (.int n), .val (.int c0), .val (.int c1), .unset] []))
  rcases hn with rfl | rfl | rfl
  · skip
    show DnH Z consts_1 p e below s _ _ _ (s₁.setTop (mkF m 0 #[.val (.int (0 : Int32)), .val (.int c0), .val (.int c1), .unset] []))
    refine DnH.of (fun tt_ zz_ => XS.iloadN X0.here hx rfl (hb hby d1_0) rfl zz_) ?_
    show DnH Z consts_1 p e below s _ _ _ (s₁.setTop (mkF m 1 #[.val (.int (0 : Int32)), .val (.int c0), .val (.int c1), .unset] [(.int (0 : Int32))]))
    refine DnH.of (fun tt_ zz_ => XS.ifNo X0.here hx rfl (hb hby d1_1) rfl ((if0 _ _).trans (teq rfl).2) zz_) ?_
    show DnH Z consts_1 p e below s _ _ _ (s₁.setTop (mkF m 4 #[.val (.int (0 : Int32)), .val (.int c0), .val (.int c1), .unset] []))
    obtain ⟨b29, T29, h29, k29, d29, kb29, X29, e29, E29, hS, hk29, hZ, hown, XA29, FC29, FV29, AV29, la29, lb29, hC29, hL29, hs29, st29⟩ := ldcCH X0 hx hZ hown (hg 5 rfl) (own_wS hw) e0 hS hk (own_EW hw) (by decide) hH (vs := []) (z := 0) (by simp) (by decide) rfl (g := (mkF m 4 #[.val (.int (0 : Int32)), .val (.int c0), .val (.int c1), .unset] [])) rfl (hb hby d1_4) (n := 0) (by decide) (by decide) (by decide) (by decide)
    refine DnH.of st29 ?_
    show DnH Z consts_1 p e below s _ _ _ (T29.setTop (mkF m 6 #[.val (.int (0 : Int32)), .val (.int c0), .val (.int c1), .unset] [(.ref b29)]))
    exact DnH.retA (by rw [hsh, e29]; exact hC29) hS (by rw [e29]; exact hk29) X29 hx hlk hret rfl rfl (hb hby d1_6) (by decide) (by decide) (by rw [e29]; exact ⟨_, _, rfl, N0, E29, _, _, XA29, FC29, FV29, AV29.arh, fun i hi => absurd hi (Nat.not_lt_zero i)⟩)
  · skip
    show DnH Z consts_1 p e below s _ _ _ (s₁.setTop (mkF m 0 #[.val (.int (1 : Int32)), .val (.int c0), .val (.int c1), .unset] []))
    refine DnH.of (fun tt_ zz_ => XS.iloadN X0.here hx rfl (hb hby d1_0) rfl zz_) ?_
    show DnH Z consts_1 p e below s _ _ _ (s₁.setTop (mkF m 1 #[.val (.int (1 : Int32)), .val (.int c0), .val (.int c1), .unset] [(.int (1 : Int32))]))
    refine DnH.of (fun tt_ zz_ => XS.ifYes X0.here hx rfl (pc0 := 1) (pc' := 7) rfl (hb hby d1_1) rfl ((if0 _ _).trans (feq (by decide)).2) (by decide) (by decide) zz_) ?_
    show DnH Z consts_1 p e below s _ _ _ (s₁.setTop (mkF m 7 #[.val (.int (1 : Int32)), .val (.int c0), .val (.int c1), .unset] []))
    refine DnH.of (fun tt_ zz_ => XS.iloadN X0.here hx rfl (hb hby d1_7) rfl zz_) ?_
    show DnH Z consts_1 p e below s _ _ _ (s₁.setTop (mkF m 8 #[.val (.int (1 : Int32)), .val (.int c0), .val (.int c1), .unset] [(.int (1 : Int32))]))
    refine DnH.of (fun tt_ zz_ => XS.iconst X0.here hx rfl (hb hby d1_8) zz_) ?_
    show DnH Z consts_1 p e below s _ _ _ (s₁.setTop (mkF m 9 #[.val (.int (1 : Int32)), .val (.int c0), .val (.int c1), .unset] [(.int (1 : Int32)), (.int (1 : Int32))]))
    refine DnH.of (fun tt_ zz_ => XS.icmpNo X0.here hx rfl (hb hby d1_9) rfl (teq rfl).2 zz_) ?_
    show DnH Z consts_1 p e below s _ _ _ (s₁.setTop (mkF m 12 #[.val (.int (1 : Int32)), .val (.int c0), .val (.int c1), .unset] []))
    refine DnH.of (fun tt_ zz_ => XS.iloadN X0.here hx rfl (hb hby d1_12) rfl zz_) ?_
    show DnH Z consts_1 p e below s _ _ _ (s₁.setTop (mkF m 13 #[.val (.int (1 : Int32)), .val (.int c0), .val (.int c1), .unset] [(.int c0)]))
    obtain ⟨v30, T30, L30, Q30, X30, st30⟩ := cSt X0 hx hZ (y := (⟨"java/lang/String", "valueOf", "(C)Ljava/lang/String;"⟩ : MethodName)) hown (hg 81 rfl) (hg 82 rfl) (hg 6 rfl) (hg 83 rfl) (by decide) (argsL := [(.int c0)]) (rest := []) (rmVO l Z a0 hw h0 n0 Z0 c0 c1 cz hcz SZ O0 y0) e0  0 (by decide) (by decide) (by decide) (by decide) (g := (mkF m 13 #[.val (.int (1 : Int32)), .val (.int c0), .val (.int c1), .unset] [(.int c0)])) rfl (by rw [hml]; rfl) (lenOf pd7 rfl) rfl (by show 2 * 0 + _ ≤ _; exact Nat.le_of_eq rfl) (hb hby d1_13)
    obtain ⟨sa, sb, rfl, M1, X1, S1⟩ := Q30
    refine DnH.of st30 ?_
    show DnH Z consts_1 p e below s _ _ _ (T30.setTop (mkF m 16 #[.val (.int (1 : Int32)), .val (.int c0), .val (.int c1), .unset] [(.ref sa)]))
    exact DnH.retA (by rw [hsh]; exact (CHr.ext X1 hH).trans (CHv.at X30 hZ (own_EW hw) (hH.ext X1))) hS X1.1 X30 hx hlk hret rfl rfl (hb hby d1_16) (by decide) (by decide) (⟨sa, sb, rfl, Fr.app N0 M1, X1, S1⟩)
  · skip
    show DnH Z consts_1 p e below s _ _ _ (s₁.setTop (mkF m 0 #[.val (.int (2 : Int32)), .val (.int c0), .val (.int c1), .unset] []))
    refine DnH.of (fun tt_ zz_ => XS.iloadN X0.here hx rfl (hb hby d1_0) rfl zz_) ?_
    show DnH Z consts_1 p e below s _ _ _ (s₁.setTop (mkF m 1 #[.val (.int (2 : Int32)), .val (.int c0), .val (.int c1), .unset] [(.int (2 : Int32))]))
    refine DnH.of (fun tt_ zz_ => XS.ifYes X0.here hx rfl (pc0 := 1) (pc' := 7) rfl (hb hby d1_1) rfl ((if0 _ _).trans (feq (by decide)).2) (by decide) (by decide) zz_) ?_
    show DnH Z consts_1 p e below s _ _ _ (s₁.setTop (mkF m 7 #[.val (.int (2 : Int32)), .val (.int c0), .val (.int c1), .unset] []))
    refine DnH.of (fun tt_ zz_ => XS.iloadN X0.here hx rfl (hb hby d1_7) rfl zz_) ?_
    show DnH Z consts_1 p e below s _ _ _ (s₁.setTop (mkF m 8 #[.val (.int (2 : Int32)), .val (.int c0), .val (.int c1), .unset] [(.int (2 : Int32))]))
    refine DnH.of (fun tt_ zz_ => XS.iconst X0.here hx rfl (hb hby d1_8) zz_) ?_
    show DnH Z consts_1 p e below s _ _ _ (s₁.setTop (mkF m 9 #[.val (.int (2 : Int32)), .val (.int c0), .val (.int c1), .unset] [(.int (1 : Int32)), (.int (2 : Int32))]))
    refine DnH.of (fun tt_ zz_ => XS.icmpYes X0.here hx rfl (pc0 := 9) (pc' := 17) rfl (hb hby d1_9) rfl (feq (by decide)).2 (by decide) (by decide) zz_) ?_
    show DnH Z consts_1 p e below s _ _ _ (s₁.setTop (mkF m 17 #[.val (.int (2 : Int32)), .val (.int c0), .val (.int c1), .unset] []))
    refine DnH.of (fun tt_ zz_ => XS.iconst X0.here hx rfl (hb hby d1_17) zz_) ?_
    show DnH Z consts_1 p e below s _ _ _ (s₁.setTop (mkF m 18 #[.val (.int (2 : Int32)), .val (.int c0), .val (.int c1), .unset] [(.int (2 : Int32))]))
    obtain ⟨T31, h31, k31, X31, e31, E31, A31, st31⟩ := newP X0 hx hZ (hg 56 rfl) e0 (g := (mkF m 18 #[.val (.int (2 : Int32)), .val (.int c0), .val (.int c1), .unset] [(.int (2 : Int32))])) rfl (hb hby d1_18) rfl (by decide) (cap := 2) (by decide) (by decide) (by decide) (by decide)
    obtain ⟨b31, g31⟩ : ∃ z, z = h0.size := ⟨_, rfl⟩
    rw [← g31] at A31 st31
    refine DnH.of st31 ?_
    show DnH Z consts_1 p e below s _ _ _ (T31.setTop (mkF m 20 #[.val (.int (2 : Int32)), .val (.int c0), .val (.int c1), .unset] [(.ref b31)]))
    have RC : Arh Z h31 b31 k31 .char 2 [] [] (.int 0) := (Arv.new A31 (by decide)).arh
    have gc : n0 ≤ b31 := g31 ▸ Z0
    refine DnH.of (fun tt_ zz_ => XS.astoreN X31.here hx rfl (hb hby d1_20) rfl rfl (l' := #[.val (.int (2 : Int32)), .val (.int c0), .val (.int c1), .val (.ref b31)]) rfl zz_) ?_
    show DnH Z consts_1 p e below s _ _ _ (T31.setTop (mkF m 21 #[.val (.int (2 : Int32)), .val (.int c0), .val (.int c1), .val (.ref b31)] []))
    refine DnH.of (fun tt_ zz_ => XS.aloadN X31.here hx rfl (hb hby d1_21) rfl rfl zz_) ?_
    show DnH Z consts_1 p e below s _ _ _ (T31.setTop (mkF m 22 #[.val (.int (2 : Int32)), .val (.int c0), .val (.int c1), .val (.ref b31)] [(.ref b31)]))
    refine DnH.of (fun tt_ zz_ => XS.iconst X31.here hx rfl (hb hby d1_22) zz_) ?_
    show DnH Z consts_1 p e below s _ _ _ (T31.setTop (mkF m 23 #[.val (.int (2 : Int32)), .val (.int c0), .val (.int c1), .val (.ref b31)] [(.int (0 : Int32)), (.ref b31)]))
    refine DnH.of (fun tt_ zz_ => XS.iloadN X31.here hx rfl (hb hby d1_23) rfl zz_) ?_
    show DnH Z consts_1 p e below s _ _ _ (T31.setTop (mkF m 24 #[.val (.int (2 : Int32)), .val (.int c0), .val (.int c1), .val (.ref b31)] [(.int c0), (.int (0 : Int32)), (.ref b31)]))
    obtain ⟨c32, A_32, p32, S32, P32, H32, G32⟩ := RC
    obtain ⟨T33, h33, X33, e33, W33, st33⟩ := stC X31 hx hZ e31 A_32 (j := (0 : Int32)) (inb_of S32 (by decide)) (g := (mkF m 24 #[.val (.int (2 : Int32)), .val (.int c0), .val (.int c1), .val (.ref b31)] [(.int c0), (.int (0 : Int32)), (.ref b31)])) rfl rfl (hb hby d1_24)
    refine DnH.of st33 ?_
    show DnH Z consts_1 p e below s _ _ _ (T33.setTop (mkF m 25 #[.val (.int (2 : Int32)), .val (.int c0), .val (.int c1), .val (.ref b31)] []))
    have R_32 := Arh.push A_32 p32 S32 P32 H32 G32 (v := (.int (nar .char c0))) (fits_nar_char _) W33 (inb_of S32 (by decide))
    have N32 := Fr.snoc X33 N0 gc
    rw [own_nc y0] at R_32
    have Kc0 := (Keep.refl h31 [b31]).wr W33 (Or.inl (List.mem_of_getElem? (i := 0) rfl))
    have Oc0 := (O0.ext E31).wr W33 gc
    refine DnH.of (fun tt_ zz_ => XS.aloadN X33.here hx rfl (hb hby d1_25) rfl rfl zz_) ?_
    show DnH Z consts_1 p e below s _ _ _ (T33.setTop (mkF m 26 #[.val (.int (2 : Int32)), .val (.int c0), .val (.int c1), .val (.ref b31)] [(.ref b31)]))
    refine DnH.of (fun tt_ zz_ => XS.iconst X33.here hx rfl (hb hby d1_26) zz_) ?_
    show DnH Z consts_1 p e below s _ _ _ (T33.setTop (mkF m 27 #[.val (.int (2 : Int32)), .val (.int c0), .val (.int c1), .val (.ref b31)] [(.int (1 : Int32)), (.ref b31)]))
    refine DnH.of (fun tt_ zz_ => XS.iloadN X33.here hx rfl (hb hby d1_27) rfl zz_) ?_
    show DnH Z consts_1 p e below s _ _ _ (T33.setTop (mkF m 28 #[.val (.int (2 : Int32)), .val (.int c0), .val (.int c1), .val (.ref b31)] [(.int c1), (.int (1 : Int32)), (.ref b31)]))
    obtain ⟨c34, A_34, p34, S34, P34, H34, G34⟩ := R_32
    obtain ⟨T35, h35, X35, e35, W35, st35⟩ := stC X33 hx hZ e33 A_34 (j := (1 : Int32)) (inb_of S34 (by decide)) (g := (mkF m 28 #[.val (.int (2 : Int32)), .val (.int c0), .val (.int c1), .val (.ref b31)] [(.int c1), (.int (1 : Int32)), (.ref b31)])) rfl rfl (hb hby d1_28)
    refine DnH.of st35 ?_
    show DnH Z consts_1 p e below s _ _ _ (T35.setTop (mkF m 29 #[.val (.int (2 : Int32)), .val (.int c0), .val (.int c1), .val (.ref b31)] []))
    have R_34 := Arh.push A_34 p34 S34 P34 H34 G34 (v := (.int (nar .char c1))) (fits_nar_char _) W35 (inb_of S34 (by decide))
    have N34 := Fr.snoc X35 N32 gc
    rw [own_nc y1] at R_34
    have Kc1 := Kc0.wr W35 (Or.inl (List.mem_of_getElem? (i := 0) rfl))
    have Oc1 := Oc0.wr W35 gc
    have XE := own_extK E31 Kc1 (Nat.le_of_eq g31.symm)
    obtain ⟨T36, h36, X36, e36, E36, A36, D36, U36, st36⟩ := newO X35 hx hZ hown (hg 57 rfl) (hg 7 rfl) (hg 6 rfl) e35 (g := (mkF m 29 #[.val (.int (2 : Int32)), .val (.int c0), .val (.int c1), .val (.ref b31)] [])) rfl (hb hby d1_29) (by decide) (by decide)
    obtain ⟨b36, g36⟩ : ∃ z, z = h35.size := ⟨_, rfl⟩
    rw [← g36] at A36 D36 U36 st36
    refine DnH.of st36 ?_
    show DnH Z consts_1 p e below s _ _ _ (T36.setTop (mkF m 32 #[.val (.int (2 : Int32)), .val (.int c0), .val (.int c1), .val (.ref b31)] [(.ref b36)]))
    have F_value_36 : Fld Z h36 b36 "java/lang/String" "value" "[B" .null := D36 (Or.inr (hg 9 rfl)) (ty := (.array .byte)) (by decide)
    have F_coder_36 : Fld Z h36 b36 "java/lang/String" "coder" "B" (.int (0 : Int32)) := D36 (Or.inr (hg 10 rfl)) (ty := .byte) (by decide)
    have ga : n0 ≤ b36 := g36 ▸ (Nat.le_trans Z0 XE.1)
    refine DnH.of (fun tt_ zz_ => XS.dup X36.here hx rfl (hb hby d1_32) rfl rfl zz_) ?_
    show DnH Z consts_1 p e below s _ _ _ (T36.setTop (mkF m 33 #[.val (.int (2 : Int32)), .val (.int c0), .val (.int c1), .val (.ref b31)] [(.ref b36), (.ref b36)]))
    refine DnH.of (fun tt_ zz_ => XS.aloadN X36.here hx rfl (hb hby d1_33) rfl rfl zz_) ?_
    show DnH Z consts_1 p e below s _ _ _ (T36.setTop (mkF m 34 #[.val (.int (2 : Int32)), .val (.int c0), .val (.int c1), .val (.ref b31)] [(.ref b31), (.ref b36), (.ref b36)]))
    obtain ⟨v37, T37, L37, Q37, X37, st37⟩ := cIn X36 hx hZ (y := (⟨"java/lang/String", "<init>", "([C)V"⟩ : MethodName)) rfl hown (hg 58 rfl) (hg 59 rfl) (hg 6 rfl) (hg 60 rfl) (by decide) (a := b36) (argsL := [(.ref b31)]) (rest := [(.ref b36)]) (rmS1 l Z a0 hw h36 n0 (Nat.le_trans (Nat.le_trans Z0 XE.1) E36.1) b36 b31 k31 c0 c1 cz hcz SZ (Oc1.ext E36) y0 y1 A36 F_value_36 F_coder_36 ga (R_34.ext E36)) e36  1 (by decide) (by decide) (by decide) (by decide) (g := (mkF m 34 #[.val (.int (2 : Int32)), .val (.int c0), .val (.int c1), .val (.ref b31)] [(.ref b31), (.ref b36), (.ref b36)])) rfl (by rw [hml]; rfl) (lenOf pd8 rfl) rfl (by show 2 * 0 + _ ≤ _; exact Nat.le_of_eq rfl) (hb hby d1_34)
    obtain ⟨sb, rfl, M1, K1, S1⟩ := Q37
    refine DnH.of st37 ?_
    show DnH Z consts_1 p e below s _ _ _ (T37.setTop (mkF m 37 #[.val (.int (2 : Int32)), .val (.int c0), .val (.int c1), .val (.ref b31)] [(.ref b36)]))
    have XA : Ext h0 h36 := ⟨Nat.le_trans XE.1 E36.1, fun y c r => E36.2 _ _ (XE.2 _ _ r)⟩
    have XB := own_extK XA K1 (g36 ▸ XE.1)
    exact DnH.retA (by rw [hsh]; exact (CHr.ext XB hH).trans (CHv.at X37 hZ (own_EW hw) (hH.ext XB))) hS XB.1 X37 hx hlk hret rfl rfl (hb hby d1_37) (by decide) (by decide) (⟨_, sb, rfl, Fr.app N34 M1, XB, S1⟩)
def own_kind (a_IDENTIFIER a_KEYWORD a_NUMBER a_STRING a_PUNCTUATOR a_END : Addr) (i : Int32) : Value := if i = 0 then .ref a_IDENTIFIER else if i = 1 then .ref a_KEYWORD else if i = 2 then .ref a_NUMBER else if i = 3 then .ref a_STRING else if i = 4 then .ref a_PUNCTUATOR else if i = 5 then .ref a_END else .null
theorem own_kr (a_IDENTIFIER a_KEYWORD a_NUMBER a_STRING a_PUNCTUATOR a_END : Addr) (i : Int32) : (own_kind a_IDENTIFIER a_KEYWORD a_NUMBER a_STRING a_PUNCTUATOR a_END i).isRef = true := by
  unfold own_kind
  repeat' split
  all_goals rfl
theorem ef2_I (m : MethodId) (x0 : Int32) : entryFrame m #[(.int x0)] 1 = mkF m 0 #[.val (.int x0)] [] := by first | (simp [entryFrame, mkF, argsToLocals, Value.category]; done) | rfl
set_option maxRecDepth 65536 in
set_option maxHeartbeats 40000000 in
theorem rmK (l : Launch) (Z : State) (a0 : Array Value) (hw : ∀ d ∈ tables_1, d.before a0 Z = true) (h0 : Heap) (n0 : Nat) (Z0 : n0 ≤ h0.size) (i : Int32) (a_IDENTIFIER a_KEYWORD a_NUMBER a_STRING a_PUNCTUATOR a_END : Addr) (S_IDENTIFIER : Sta Z Z.heap "com/example/warmfront/warmfront/js/Token$Kind" "IDENTIFIER" "Lcom/example/warmfront/warmfront/js/Token$Kind;" (.ref a_IDENTIFIER)) (S_KEYWORD : Sta Z Z.heap "com/example/warmfront/warmfront/js/Token$Kind" "KEYWORD" "Lcom/example/warmfront/warmfront/js/Token$Kind;" (.ref a_KEYWORD)) (S_NUMBER : Sta Z Z.heap "com/example/warmfront/warmfront/js/Token$Kind" "NUMBER" "Lcom/example/warmfront/warmfront/js/Token$Kind;" (.ref a_NUMBER)) (S_STRING : Sta Z Z.heap "com/example/warmfront/warmfront/js/Token$Kind" "STRING" "Lcom/example/warmfront/warmfront/js/Token$Kind;" (.ref a_STRING)) (S_PUNCTUATOR : Sta Z Z.heap "com/example/warmfront/warmfront/js/Token$Kind" "PUNCTUATOR" "Lcom/example/warmfront/warmfront/js/Token$Kind;" (.ref a_PUNCTUATOR)) (S_END : Sta Z Z.heap "com/example/warmfront/warmfront/js/Token$Kind" "END" "Lcom/example/warmfront/warmfront/js/Token$Kind;" (.ref a_END)) (O0 : Old Z n0 h0) :
    ctr l Z (⟨"com/example/warmfront/warmfront/js/TokenIsPinLaw", "kind", "(I)Lcom/example/warmfront/warmfront/js/Token$Kind;"⟩ : MethodName) method_2_code 1 (some (.object "com/example/warmfront/warmfront/js/Token$Kind")) [] ({ frames := 0, cells := 0, slots := 0, locals := 0 } : Room) 0 0 #[(.int i)] h0 (fun v h L => v = some (own_kind a_IDENTIFIER a_KEYWORD a_NUMBER a_STRING a_PUNCTUATOR a_END i) ∧ Fr n0 L ∧ h = h0) := by
  refine ctr_of (plainFor_of_name pn0) ?_
  intro p e s m below meth jc s₁ hx hby hml hret hlk hnm hown hZ e0 X0
  have N0 := Fr.nil n0
  have hg : ∀ (i : Nat) {d : Jvm.Cond}, tables_1[i]? = some d → d.before a0 Z = true := fun i d q => hw d (List.mem_of_getElem? q)
  refine Dn.cast (ef2_I m i) ?_
  show Dn p e below s _ _ _ (s₁.setTop (mkF m 0 #[.val (.int i)] []))
  refine Dn.of (fun tt_ zz_ => XS.iloadN X0.here hx rfl (hb hby d2_0) rfl zz_) ?_
  show Dn p e below s _ _ _ (s₁.setTop (mkF m 1 #[.val (.int i)] [(.int i)]))
  by_cases q0 : i = (0 : Int32)
  · skip
    refine Dn.of (fun tt_ zz_ => XS.ifNo X0.here hx rfl (hb hby d2_1) rfl ((if0 _ _).trans (teq q0).2) zz_) ?_
    show Dn p e below s _ _ _ (s₁.setTop (mkF m 4 #[.val (.int i)] []))
    obtain ⟨T38, X38, e38, st38⟩ := getS2 X0 hx hZ hown (host := "") (Or.inl (hg 19 rfl)) Via.refl e0 (S_IDENTIFIER.ext O0.2) (g := (mkF m 4 #[.val (.int i)] [])) rfl (hb hby d2_4)
    refine Dn.of st38 ?_
    show Dn p e below s _ _ _ (T38.setTop (mkF m 7 #[.val (.int i)] [(.ref a_IDENTIFIER)]))
    exact Dn.retA X38 hx hlk hret rfl rfl (hb hby d2_7) (by decide) (by decide) (⟨by unfold own_kind; rw [if_pos q0], N0, e38⟩)
  · skip
    refine Dn.of (fun tt_ zz_ => XS.ifYes X0.here hx rfl (pc0 := 1) (pc' := 8) rfl (hb hby d2_1) rfl ((if0 _ _).trans (feq q0).2) (by decide) (by decide) zz_) ?_
    show Dn p e below s _ _ _ (s₁.setTop (mkF m 8 #[.val (.int i)] []))
    refine Dn.of (fun tt_ zz_ => XS.iloadN X0.here hx rfl (hb hby d2_8) rfl zz_) ?_
    show Dn p e below s _ _ _ (s₁.setTop (mkF m 9 #[.val (.int i)] [(.int i)]))
    refine Dn.of (fun tt_ zz_ => XS.iconst X0.here hx rfl (hb hby d2_9) zz_) ?_
    show Dn p e below s _ _ _ (s₁.setTop (mkF m 10 #[.val (.int i)] [(.int (1 : Int32)), (.int i)]))
    by_cases q1 : i = (1 : Int32)
    · skip
      refine Dn.of (fun tt_ zz_ => XS.icmpNo X0.here hx rfl (hb hby d2_10) rfl (teq q1).2 zz_) ?_
      show Dn p e below s _ _ _ (s₁.setTop (mkF m 13 #[.val (.int i)] []))
      obtain ⟨T39, X39, e39, st39⟩ := getS2 X0 hx hZ hown (host := "") (Or.inl (hg 105 rfl)) Via.refl e0 (S_KEYWORD.ext O0.2) (g := (mkF m 13 #[.val (.int i)] [])) rfl (hb hby d2_13)
      refine Dn.of st39 ?_
      show Dn p e below s _ _ _ (T39.setTop (mkF m 16 #[.val (.int i)] [(.ref a_KEYWORD)]))
      exact Dn.retA X39 hx hlk hret rfl rfl (hb hby d2_16) (by decide) (by decide) (⟨by unfold own_kind; rw [if_neg q0, if_pos q1], N0, e39⟩)
    · skip
      refine Dn.of (fun tt_ zz_ => XS.icmpYes X0.here hx rfl (pc0 := 10) (pc' := 17) rfl (hb hby d2_10) rfl (feq q1).2 (by decide) (by decide) zz_) ?_
      show Dn p e below s _ _ _ (s₁.setTop (mkF m 17 #[.val (.int i)] []))
      refine Dn.of (fun tt_ zz_ => XS.iloadN X0.here hx rfl (hb hby d2_17) rfl zz_) ?_
      show Dn p e below s _ _ _ (s₁.setTop (mkF m 18 #[.val (.int i)] [(.int i)]))
      refine Dn.of (fun tt_ zz_ => XS.iconst X0.here hx rfl (hb hby d2_18) zz_) ?_
      show Dn p e below s _ _ _ (s₁.setTop (mkF m 19 #[.val (.int i)] [(.int (2 : Int32)), (.int i)]))
      by_cases q2 : i = (2 : Int32)
      · skip
        refine Dn.of (fun tt_ zz_ => XS.icmpNo X0.here hx rfl (hb hby d2_19) rfl (teq q2).2 zz_) ?_
        show Dn p e below s _ _ _ (s₁.setTop (mkF m 22 #[.val (.int i)] []))
        obtain ⟨T40, X40, e40, st40⟩ := getS2 X0 hx hZ hown (host := "") (Or.inl (hg 103 rfl)) Via.refl e0 (S_NUMBER.ext O0.2) (g := (mkF m 22 #[.val (.int i)] [])) rfl (hb hby d2_22)
        refine Dn.of st40 ?_
        show Dn p e below s _ _ _ (T40.setTop (mkF m 25 #[.val (.int i)] [(.ref a_NUMBER)]))
        exact Dn.retA X40 hx hlk hret rfl rfl (hb hby d2_25) (by decide) (by decide) (⟨by unfold own_kind; rw [if_neg q0, if_neg q1, if_pos q2], N0, e40⟩)
      · skip
        refine Dn.of (fun tt_ zz_ => XS.icmpYes X0.here hx rfl (pc0 := 19) (pc' := 26) rfl (hb hby d2_19) rfl (feq q2).2 (by decide) (by decide) zz_) ?_
        show Dn p e below s _ _ _ (s₁.setTop (mkF m 26 #[.val (.int i)] []))
        refine Dn.of (fun tt_ zz_ => XS.iloadN X0.here hx rfl (hb hby d2_26) rfl zz_) ?_
        show Dn p e below s _ _ _ (s₁.setTop (mkF m 27 #[.val (.int i)] [(.int i)]))
        refine Dn.of (fun tt_ zz_ => XS.iconst X0.here hx rfl (hb hby d2_27) zz_) ?_
        show Dn p e below s _ _ _ (s₁.setTop (mkF m 28 #[.val (.int i)] [(.int (3 : Int32)), (.int i)]))
        by_cases q3 : i = (3 : Int32)
        · skip
          refine Dn.of (fun tt_ zz_ => XS.icmpNo X0.here hx rfl (hb hby d2_28) rfl (teq q3).2 zz_) ?_
          show Dn p e below s _ _ _ (s₁.setTop (mkF m 31 #[.val (.int i)] []))
          obtain ⟨T41, X41, e41, st41⟩ := getS2 X0 hx hZ hown (host := "") (Or.inl (hg 49 rfl)) Via.refl e0 (S_STRING.ext O0.2) (g := (mkF m 31 #[.val (.int i)] [])) rfl (hb hby d2_31)
          refine Dn.of st41 ?_
          show Dn p e below s _ _ _ (T41.setTop (mkF m 34 #[.val (.int i)] [(.ref a_STRING)]))
          exact Dn.retA X41 hx hlk hret rfl rfl (hb hby d2_34) (by decide) (by decide) (⟨by unfold own_kind; rw [if_neg q0, if_neg q1, if_neg q2, if_pos q3], N0, e41⟩)
        · skip
          refine Dn.of (fun tt_ zz_ => XS.icmpYes X0.here hx rfl (pc0 := 28) (pc' := 35) rfl (hb hby d2_28) rfl (feq q3).2 (by decide) (by decide) zz_) ?_
          show Dn p e below s _ _ _ (s₁.setTop (mkF m 35 #[.val (.int i)] []))
          refine Dn.of (fun tt_ zz_ => XS.iloadN X0.here hx rfl (hb hby d2_35) rfl zz_) ?_
          show Dn p e below s _ _ _ (s₁.setTop (mkF m 36 #[.val (.int i)] [(.int i)]))
          refine Dn.of (fun tt_ zz_ => XS.iconst X0.here hx rfl (hb hby d2_36) zz_) ?_
          show Dn p e below s _ _ _ (s₁.setTop (mkF m 37 #[.val (.int i)] [(.int (4 : Int32)), (.int i)]))
          by_cases q4 : i = (4 : Int32)
          · skip
            refine Dn.of (fun tt_ zz_ => XS.icmpNo X0.here hx rfl (hb hby d2_37) rfl (teq q4).2 zz_) ?_
            show Dn p e below s _ _ _ (s₁.setTop (mkF m 40 #[.val (.int i)] []))
            obtain ⟨T42, X42, e42, st42⟩ := getS2 X0 hx hZ hown (host := "") (Or.inl (hg 79 rfl)) Via.refl e0 (S_PUNCTUATOR.ext O0.2) (g := (mkF m 40 #[.val (.int i)] [])) rfl (hb hby d2_40)
            refine Dn.of st42 ?_
            show Dn p e below s _ _ _ (T42.setTop (mkF m 43 #[.val (.int i)] [(.ref a_PUNCTUATOR)]))
            exact Dn.retA X42 hx hlk hret rfl rfl (hb hby d2_43) (by decide) (by decide) (⟨by unfold own_kind; rw [if_neg q0, if_neg q1, if_neg q2, if_neg q3, if_pos q4], N0, e42⟩)
          · skip
            refine Dn.of (fun tt_ zz_ => XS.icmpYes X0.here hx rfl (pc0 := 37) (pc' := 44) rfl (hb hby d2_37) rfl (feq q4).2 (by decide) (by decide) zz_) ?_
            show Dn p e below s _ _ _ (s₁.setTop (mkF m 44 #[.val (.int i)] []))
            refine Dn.of (fun tt_ zz_ => XS.iloadN X0.here hx rfl (hb hby d2_44) rfl zz_) ?_
            show Dn p e below s _ _ _ (s₁.setTop (mkF m 45 #[.val (.int i)] [(.int i)]))
            refine Dn.of (fun tt_ zz_ => XS.iconst X0.here hx rfl (hb hby d2_45) zz_) ?_
            show Dn p e below s _ _ _ (s₁.setTop (mkF m 46 #[.val (.int i)] [(.int (5 : Int32)), (.int i)]))
            by_cases q5 : i = (5 : Int32)
            · skip
              refine Dn.of (fun tt_ zz_ => XS.icmpNo X0.here hx rfl (hb hby d2_46) rfl (teq q5).2 zz_) ?_
              show Dn p e below s _ _ _ (s₁.setTop (mkF m 49 #[.val (.int i)] []))
              obtain ⟨T43, X43, e43, st43⟩ := getS2 X0 hx hZ hown (host := "") (Or.inl (hg 107 rfl)) Via.refl e0 (S_END.ext O0.2) (g := (mkF m 49 #[.val (.int i)] [])) rfl (hb hby d2_49)
              refine Dn.of st43 ?_
              show Dn p e below s _ _ _ (T43.setTop (mkF m 52 #[.val (.int i)] [(.ref a_END)]))
              exact Dn.retA X43 hx hlk hret rfl rfl (hb hby d2_52) (by decide) (by decide) (⟨by unfold own_kind; rw [if_neg q0, if_neg q1, if_neg q2, if_neg q3, if_neg q4, if_pos q5], N0, e43⟩)
            · skip
              refine Dn.of (fun tt_ zz_ => XS.icmpYes X0.here hx rfl (pc0 := 46) (pc' := 53) rfl (hb hby d2_46) rfl (feq q5).2 (by decide) (by decide) zz_) ?_
              show Dn p e below s _ _ _ (s₁.setTop (mkF m 53 #[.val (.int i)] []))
              refine Dn.of (fun tt_ zz_ => XS.aconstNull X0.here hx rfl (hb hby d2_53) zz_) ?_
              show Dn p e below s _ _ _ (s₁.setTop (mkF m 54 #[.val (.int i)] [.null]))
              exact Dn.retA X0 hx hlk hret rfl rfl (hb hby d2_54) (by decide) (by decide) (⟨by unfold own_kind; rw [if_neg q0, if_neg q1, if_neg q2, if_neg q3, if_neg q4, if_neg q5], N0, e0⟩)
theorem ef4_A (m : MethodId) (x0 : Addr) : entryFrame m #[(.ref x0)] 1 = mkF m 0 #[.val (.ref x0)] [] := by first | (simp [entryFrame, mkF, argsToLocals, Value.category]; done) | rfl
set_option maxRecDepth 65536 in
set_option maxHeartbeats 40000000 in
theorem rmRe (l : Launch) (Z : State) (a0 : Array Value) (hw : ∀ d ∈ tables_1, d.before a0 Z = true) (h0 : Heap) (n0 : Nat) (Z0 : n0 ≤ h0.size) (a : Addr) :
    ctr l Z (⟨"java/lang/Record", "<init>", "()V"⟩ : MethodName) jdk_30_method_1_code 1 none [] ({ frames := 1, cells := 0, slots := 0, locals := 12 } : Room) 0 0 #[(.ref a)] h0 (fun v h L => v = none ∧ Fr n0 L ∧ h = h0) := by
  refine ctr_of (plainFor_of_name pn1) ?_
  intro p e s m below meth jc s₁ hx hby hml hret hlk hnm hown hZ e0 X0
  have N0 := Fr.nil n0
  have hg : ∀ (i : Nat) {d : Jvm.Cond}, tables_1[i]? = some d → d.before a0 Z = true := fun i d q => hw d (List.mem_of_getElem? q)
  refine Dn.cast (ef4_A m a) ?_
  show Dn p e below s _ _ _ (s₁.setTop (mkF m 0 #[.val (.ref a)] []))
  refine Dn.of (fun tt_ zz_ => XS.aloadN X0.here hx rfl (hb hby d4_0) rfl rfl zz_) ?_
  show Dn p e below s _ _ _ (s₁.setTop (mkF m 1 #[.val (.ref a)] [(.ref a)]))
  obtain ⟨T44, X44, e44, st44⟩ := initO X0 hx hZ hown (hg 30 rfl) (hg 31 rfl) (hg 32 rfl) e0 (g := (mkF m 1 #[.val (.ref a)] [(.ref a)])) rfl (by rw [hml]; rfl) rfl (hb hby d4_1) (by decide) (W := 0) (by show 2 * 0 + _ ≤ _; exact Nat.le_of_eq rfl) (by decide)
  refine Dn.of st44 ?_
  show Dn p e below s _ _ _ (T44.setTop (mkF m 4 #[.val (.ref a)] []))
  exact Dn.retV X44 hx hlk hret (hb hby d4_4) (by decide) (by decide) (⟨rfl, N0, e44⟩)
set_option maxHeartbeats 4000000 in
theorem ef3_AVADIIIII (m : MethodId) (x0 : Addr) (x1 : Value) (x2 : Addr) (x3 : UInt64) (x4 : Int32) (x5 : Int32) (x6 : Int32) (x7 : Int32) (x8 : Int32) (r1 : x1.isRef = true) : entryFrame m #[(.ref x0), x1, (.ref x2), (.double x3), (.int x4), (.int x5), (.int x6), (.int x7), (.int x8)] 10 = mkF m 0 #[.val (.ref x0), .val x1, .val (.ref x2), .val (.double x3), .second, .val (.int x4), .val (.int x5), .val (.int x6), .val (.int x7), .val (.int x8)] [] := by rcases ref_cases r1 with rfl | ⟨y1, rfl⟩ <;> first | (simp [entryFrame, mkF, argsToLocals, Value.category]; done) | rfl
set_option maxRecDepth 65536 in
set_option maxHeartbeats 40000000 in
theorem rmT (l : Launch) (Z : State) (a0 : Array Value) (hw : ∀ d ∈ tables_1, d.before a0 Z = true) (h0 : Heap) (n0 : Nat) (Z0 : n0 ≤ h0.size) (a sa : Addr) (u : Value) (ru : u.isRef = true) (n : Int32) (E0 : Exa Z h0 a "com/example/warmfront/warmfront/js/Token") (F0 : Fld Z h0 a "com/example/warmfront/warmfront/js/Token" "kind" "Lcom/example/warmfront/warmfront/js/Token$Kind;" .null) (F1 : Fld Z h0 a "com/example/warmfront/warmfront/js/Token" "text" "Ljava/lang/String;" .null) (F2 : Fld Z h0 a "com/example/warmfront/warmfront/js/Token" "number" "D" (.double (0 : UInt64))) (F3 : Fld Z h0 a "com/example/warmfront/warmfront/js/Token" "start" "I" (.int (0 : Int32))) (F4 : Fld Z h0 a "com/example/warmfront/warmfront/js/Token" "end" "I" (.int (0 : Int32))) (F5 : Fld Z h0 a "com/example/warmfront/warmfront/js/Token" "line" "I" (.int (0 : Int32))) (F6 : Fld Z h0 a "com/example/warmfront/warmfront/js/Token" "column" "I" (.int (0 : Int32))) (F7 : Fld Z h0 a "com/example/warmfront/warmfront/js/Token" "newlineBefore" "Z" (.int (0 : Int32))) (g0 : n0 ≤ a) :
    ctr l Z (⟨"com/example/warmfront/warmfront/js/Token", "<init>", "(Lcom/example/warmfront/warmfront/js/Token$Kind;Ljava/lang/String;DIIIIZ)V"⟩ : MethodName) prog_33_method_1_code 10 none [] ({ frames := 2, cells := 0, slots := 0, locals := 28 } : Room) 0 0 #[(.ref a), u, (.ref sa), (.double (0 : UInt64)), (.int (0 : Int32)), (.int n), (.int (1 : Int32)), (.int (1 : Int32)), (.int (0 : Int32))] h0 (fun v h L => v = none ∧ Fr n0 L ∧ Keep h0 h [a] ∧ Fld Z h a "com/example/warmfront/warmfront/js/Token" "kind" "Lcom/example/warmfront/warmfront/js/Token$Kind;" u ∧ Fld Z h a "com/example/warmfront/warmfront/js/Token" "text" "Ljava/lang/String;" (.ref sa)) := by
  refine ctr_of (plainFor_of_name pn2) ?_
  intro p e s m below meth jc s₁ hx hby hml hret hlk hnm hown hZ e0 X0
  have N0 := Fr.nil n0
  have hg : ∀ (i : Nat) {d : Jvm.Cond}, tables_1[i]? = some d → d.before a0 Z = true := fun i d q => hw d (List.mem_of_getElem? q)
  refine Dn.cast (ef3_AVADIIIII m a u sa (0 : UInt64) (0 : Int32) n (1 : Int32) (1 : Int32) (0 : Int32) ru) ?_
  show Dn p e below s _ _ _ (s₁.setTop (mkF m 0 #[.val (.ref a), .val u, .val (.ref sa), .val (.double (0 : UInt64)), .second, .val (.int (0 : Int32)), .val (.int n), .val (.int (1 : Int32)), .val (.int (1 : Int32)), .val (.int (0 : Int32))] []))
  refine Dn.of (fun tt_ zz_ => XS.aloadN X0.here hx rfl (hb hby d3_0) rfl rfl zz_) ?_
  show Dn p e below s _ _ _ (s₁.setTop (mkF m 1 #[.val (.ref a), .val u, .val (.ref sa), .val (.double (0 : UInt64)), .second, .val (.int (0 : Int32)), .val (.int n), .val (.int (1 : Int32)), .val (.int (1 : Int32)), .val (.int (0 : Int32))] [(.ref a)]))
  obtain ⟨v45, T45, L45, Q45, X45, st45⟩ := cIn X0 hx hZ (y := (⟨"java/lang/Record", "<init>", "()V"⟩ : MethodName)) rfl hown (hg 25 rfl) (hg 26 rfl) (hg 28 rfl) (hg 29 rfl) (by decide) (a := a) (argsL := []) (rest := []) (rmRe l Z a0 hw h0 n0 Z0 a) e0  0 (by decide) (by decide) (by decide) (by decide) (g := (mkF m 1 #[.val (.ref a), .val u, .val (.ref sa), .val (.double (0 : UInt64)), .second, .val (.int (0 : Int32)), .val (.int n), .val (.int (1 : Int32)), .val (.int (1 : Int32)), .val (.int (0 : Int32))] [(.ref a)])) rfl (by rw [hml]; rfl) (lenOf pd9 rfl) rfl (by show 2 * 0 + _ ≤ _; exact Nat.le_of_eq rfl) (hb hby d3_1)
  obtain ⟨rfl, M1, e45⟩ := Q45
  refine Dn.of st45 ?_
  show Dn p e below s _ _ _ (T45.setTop (mkF m 4 #[.val (.ref a), .val u, .val (.ref sa), .val (.double (0 : UInt64)), .second, .val (.int (0 : Int32)), .val (.int n), .val (.int (1 : Int32)), .val (.int (1 : Int32)), .val (.int (0 : Int32))] []))
  refine Dn.of (fun tt_ zz_ => XS.aloadN X45.here hx rfl (hb hby d3_4) rfl rfl zz_) ?_
  show Dn p e below s _ _ _ (T45.setTop (mkF m 5 #[.val (.ref a), .val u, .val (.ref sa), .val (.double (0 : UInt64)), .second, .val (.int (0 : Int32)), .val (.int n), .val (.int (1 : Int32)), .val (.int (1 : Int32)), .val (.int (0 : Int32))] [(.ref a)]))
  refine Dn.of (fun tt_ zz_ => XS.aloadN X45.here hx rfl (hb hby d3_5) rfl ru zz_) ?_
  show Dn p e below s _ _ _ (T45.setTop (mkF m 6 #[.val (.ref a), .val u, .val (.ref sa), .val (.double (0 : UInt64)), .second, .val (.int (0 : Int32)), .val (.int n), .val (.int (1 : Int32)), .val (.int (1 : Int32)), .val (.int (0 : Int32))] [u, (.ref a)]))
  obtain ⟨T46, h46, X46, e46, W46, st46⟩ := putF X45 hx hZ hown (host := "") (Or.inl (hg 33 rfl)) Via.refl e45 F0 E0 (Or.inr ⟨(hg 34 rfl), rfl, hnm⟩) (hg 14 rfl) (ty := (.object "com/example/warmfront/warmfront/js/Token$Kind")) (by decide) (own_narO ru) (own_fitO ru) (g := (mkF m 6 #[.val (.ref a), .val u, .val (.ref sa), .val (.double (0 : UInt64)), .second, .val (.int (0 : Int32)), .val (.int n), .val (.int (1 : Int32)), .val (.int (1 : Int32)), .val (.int (0 : Int32))] [u, (.ref a)])) rfl rfl (hb hby d3_6)
  refine Dn.of st46 ?_
  show Dn p e below s _ _ _ (T46.setTop (mkF m 9 #[.val (.ref a), .val u, .val (.ref sa), .val (.double (0 : UInt64)), .second, .val (.int (0 : Int32)), .val (.int n), .val (.int (1 : Int32)), .val (.int (1 : Int32)), .val (.int (0 : Int32))] []))
  have Nv0 := Fr.snoc X46 (Fr.app N0 M1) g0
  refine Dn.of (fun tt_ zz_ => XS.aloadN X46.here hx rfl (hb hby d3_9) rfl rfl zz_) ?_
  show Dn p e below s _ _ _ (T46.setTop (mkF m 10 #[.val (.ref a), .val u, .val (.ref sa), .val (.double (0 : UInt64)), .second, .val (.int (0 : Int32)), .val (.int n), .val (.int (1 : Int32)), .val (.int (1 : Int32)), .val (.int (0 : Int32))] [(.ref a)]))
  refine Dn.of (fun tt_ zz_ => XS.aloadN X46.here hx rfl (hb hby d3_10) rfl rfl zz_) ?_
  show Dn p e below s _ _ _ (T46.setTop (mkF m 11 #[.val (.ref a), .val u, .val (.ref sa), .val (.double (0 : UInt64)), .second, .val (.int (0 : Int32)), .val (.int n), .val (.int (1 : Int32)), .val (.int (1 : Int32)), .val (.int (0 : Int32))] [(.ref sa), (.ref a)]))
  have s1_0 : Jvm.RoadKit.slotOf Z "com/example/warmfront/warmfront/js/Token" "text" "Ljava/lang/String;" ≠ Jvm.RoadKit.slotOf Z "com/example/warmfront/warmfront/js/Token" "kind" "Lcom/example/warmfront/warmfront/js/Token$Kind;" := slot_ne (Or.inr (hg 36 rfl)) (Or.inr (hg 34 rfl)) (by decide) (t := (.object "java/lang/String")) (t' := (.object "com/example/warmfront/warmfront/js/Token$Kind")) (by decide) (by decide)
  have F47 := (F1.other W46 (Or.inr s1_0))
  have F48 := (E0.wr W46)
  obtain ⟨T49, h49, X49, e49, W49, st49⟩ := putF X46 hx hZ hown (host := "") (Or.inl (hg 35 rfl)) Via.refl e46 F47 F48 (Or.inr ⟨(hg 36 rfl), rfl, hnm⟩) (hg 14 rfl) (ty := (.object "java/lang/String")) (by decide) rfl rfl (g := (mkF m 11 #[.val (.ref a), .val u, .val (.ref sa), .val (.double (0 : UInt64)), .second, .val (.int (0 : Int32)), .val (.int n), .val (.int (1 : Int32)), .val (.int (1 : Int32)), .val (.int (0 : Int32))] [(.ref sa), (.ref a)])) rfl rfl (hb hby d3_11)
  refine Dn.of st49 ?_
  show Dn p e below s _ _ _ (T49.setTop (mkF m 14 #[.val (.ref a), .val u, .val (.ref sa), .val (.double (0 : UInt64)), .second, .val (.int (0 : Int32)), .val (.int n), .val (.int (1 : Int32)), .val (.int (1 : Int32)), .val (.int (0 : Int32))] []))
  have Nv1 := Fr.snoc X49 Nv0 g0
  refine Dn.of (fun tt_ zz_ => XS.aloadN X49.here hx rfl (hb hby d3_14) rfl rfl zz_) ?_
  show Dn p e below s _ _ _ (T49.setTop (mkF m 15 #[.val (.ref a), .val u, .val (.ref sa), .val (.double (0 : UInt64)), .second, .val (.int (0 : Int32)), .val (.int n), .val (.int (1 : Int32)), .val (.int (1 : Int32)), .val (.int (0 : Int32))] [(.ref a)]))
  refine Dn.of (fun tt_ zz_ => XS.dloadN X49.here hx rfl (hb hby d3_15) rfl zz_) ?_
  show Dn p e below s _ _ _ (T49.setTop (mkF m 16 #[.val (.ref a), .val u, .val (.ref sa), .val (.double (0 : UInt64)), .second, .val (.int (0 : Int32)), .val (.int n), .val (.int (1 : Int32)), .val (.int (1 : Int32)), .val (.int (0 : Int32))] [(.double (0 : UInt64)), (.ref a)]))
  have s2_0 : Jvm.RoadKit.slotOf Z "com/example/warmfront/warmfront/js/Token" "number" "D" ≠ Jvm.RoadKit.slotOf Z "com/example/warmfront/warmfront/js/Token" "kind" "Lcom/example/warmfront/warmfront/js/Token$Kind;" := slot_ne (Or.inr (hg 38 rfl)) (Or.inr (hg 34 rfl)) (by decide) (t := .double) (t' := (.object "com/example/warmfront/warmfront/js/Token$Kind")) (by decide) (by decide)
  have s2_1 : Jvm.RoadKit.slotOf Z "com/example/warmfront/warmfront/js/Token" "number" "D" ≠ Jvm.RoadKit.slotOf Z "com/example/warmfront/warmfront/js/Token" "text" "Ljava/lang/String;" := slot_ne (Or.inr (hg 38 rfl)) (Or.inr (hg 36 rfl)) (by decide) (t := .double) (t' := (.object "java/lang/String")) (by decide) (by decide)
  have F50 := ((F2.other W46 (Or.inr s2_0)).other W49 (Or.inr s2_1))
  have F51 := (F48.wr W49)
  obtain ⟨T52, h52, X52, e52, W52, st52⟩ := putF X49 hx hZ hown (host := "") (Or.inl (hg 37 rfl)) Via.refl e49 F50 F51 (Or.inr ⟨(hg 38 rfl), rfl, hnm⟩) (hg 14 rfl) (ty := .double) (by decide) rfl rfl (g := (mkF m 16 #[.val (.ref a), .val u, .val (.ref sa), .val (.double (0 : UInt64)), .second, .val (.int (0 : Int32)), .val (.int n), .val (.int (1 : Int32)), .val (.int (1 : Int32)), .val (.int (0 : Int32))] [(.double (0 : UInt64)), (.ref a)])) rfl rfl (hb hby d3_16)
  refine Dn.of st52 ?_
  show Dn p e below s _ _ _ (T52.setTop (mkF m 19 #[.val (.ref a), .val u, .val (.ref sa), .val (.double (0 : UInt64)), .second, .val (.int (0 : Int32)), .val (.int n), .val (.int (1 : Int32)), .val (.int (1 : Int32)), .val (.int (0 : Int32))] []))
  have Nv2 := Fr.snoc X52 Nv1 g0
  refine Dn.of (fun tt_ zz_ => XS.aloadN X52.here hx rfl (hb hby d3_19) rfl rfl zz_) ?_
  show Dn p e below s _ _ _ (T52.setTop (mkF m 20 #[.val (.ref a), .val u, .val (.ref sa), .val (.double (0 : UInt64)), .second, .val (.int (0 : Int32)), .val (.int n), .val (.int (1 : Int32)), .val (.int (1 : Int32)), .val (.int (0 : Int32))] [(.ref a)]))
  refine Dn.of (fun tt_ zz_ => XS.iload X52.here hx rfl (hb hby d3_20) rfl zz_) ?_
  show Dn p e below s _ _ _ (T52.setTop (mkF m 22 #[.val (.ref a), .val u, .val (.ref sa), .val (.double (0 : UInt64)), .second, .val (.int (0 : Int32)), .val (.int n), .val (.int (1 : Int32)), .val (.int (1 : Int32)), .val (.int (0 : Int32))] [(.int (0 : Int32)), (.ref a)]))
  have s3_0 : Jvm.RoadKit.slotOf Z "com/example/warmfront/warmfront/js/Token" "start" "I" ≠ Jvm.RoadKit.slotOf Z "com/example/warmfront/warmfront/js/Token" "kind" "Lcom/example/warmfront/warmfront/js/Token$Kind;" := slot_ne (Or.inr (hg 40 rfl)) (Or.inr (hg 34 rfl)) (by decide) (t := .int) (t' := (.object "com/example/warmfront/warmfront/js/Token$Kind")) (by decide) (by decide)
  have s3_1 : Jvm.RoadKit.slotOf Z "com/example/warmfront/warmfront/js/Token" "start" "I" ≠ Jvm.RoadKit.slotOf Z "com/example/warmfront/warmfront/js/Token" "text" "Ljava/lang/String;" := slot_ne (Or.inr (hg 40 rfl)) (Or.inr (hg 36 rfl)) (by decide) (t := .int) (t' := (.object "java/lang/String")) (by decide) (by decide)
  have s3_2 : Jvm.RoadKit.slotOf Z "com/example/warmfront/warmfront/js/Token" "start" "I" ≠ Jvm.RoadKit.slotOf Z "com/example/warmfront/warmfront/js/Token" "number" "D" := slot_ne (Or.inr (hg 40 rfl)) (Or.inr (hg 38 rfl)) (by decide) (t := .int) (t' := .double) (by decide) (by decide)
  have F53 := (((F3.other W46 (Or.inr s3_0)).other W49 (Or.inr s3_1)).other W52 (Or.inr s3_2))
  have F54 := (F51.wr W52)
  obtain ⟨T55, h55, X55, e55, W55, st55⟩ := putF X52 hx hZ hown (host := "") (Or.inl (hg 39 rfl)) Via.refl e52 F53 F54 (Or.inr ⟨(hg 40 rfl), rfl, hnm⟩) (hg 14 rfl) (ty := .int) (by decide) rfl rfl (g := (mkF m 22 #[.val (.ref a), .val u, .val (.ref sa), .val (.double (0 : UInt64)), .second, .val (.int (0 : Int32)), .val (.int n), .val (.int (1 : Int32)), .val (.int (1 : Int32)), .val (.int (0 : Int32))] [(.int (0 : Int32)), (.ref a)])) rfl rfl (hb hby d3_22)
  refine Dn.of st55 ?_
  show Dn p e below s _ _ _ (T55.setTop (mkF m 25 #[.val (.ref a), .val u, .val (.ref sa), .val (.double (0 : UInt64)), .second, .val (.int (0 : Int32)), .val (.int n), .val (.int (1 : Int32)), .val (.int (1 : Int32)), .val (.int (0 : Int32))] []))
  have Nv3 := Fr.snoc X55 Nv2 g0
  refine Dn.of (fun tt_ zz_ => XS.aloadN X55.here hx rfl (hb hby d3_25) rfl rfl zz_) ?_
  show Dn p e below s _ _ _ (T55.setTop (mkF m 26 #[.val (.ref a), .val u, .val (.ref sa), .val (.double (0 : UInt64)), .second, .val (.int (0 : Int32)), .val (.int n), .val (.int (1 : Int32)), .val (.int (1 : Int32)), .val (.int (0 : Int32))] [(.ref a)]))
  refine Dn.of (fun tt_ zz_ => XS.iload X55.here hx rfl (hb hby d3_26) rfl zz_) ?_
  show Dn p e below s _ _ _ (T55.setTop (mkF m 28 #[.val (.ref a), .val u, .val (.ref sa), .val (.double (0 : UInt64)), .second, .val (.int (0 : Int32)), .val (.int n), .val (.int (1 : Int32)), .val (.int (1 : Int32)), .val (.int (0 : Int32))] [(.int n), (.ref a)]))
  have s4_0 : Jvm.RoadKit.slotOf Z "com/example/warmfront/warmfront/js/Token" "end" "I" ≠ Jvm.RoadKit.slotOf Z "com/example/warmfront/warmfront/js/Token" "kind" "Lcom/example/warmfront/warmfront/js/Token$Kind;" := slot_ne (Or.inr (hg 42 rfl)) (Or.inr (hg 34 rfl)) (by decide) (t := .int) (t' := (.object "com/example/warmfront/warmfront/js/Token$Kind")) (by decide) (by decide)
  have s4_1 : Jvm.RoadKit.slotOf Z "com/example/warmfront/warmfront/js/Token" "end" "I" ≠ Jvm.RoadKit.slotOf Z "com/example/warmfront/warmfront/js/Token" "text" "Ljava/lang/String;" := slot_ne (Or.inr (hg 42 rfl)) (Or.inr (hg 36 rfl)) (by decide) (t := .int) (t' := (.object "java/lang/String")) (by decide) (by decide)
  have s4_2 : Jvm.RoadKit.slotOf Z "com/example/warmfront/warmfront/js/Token" "end" "I" ≠ Jvm.RoadKit.slotOf Z "com/example/warmfront/warmfront/js/Token" "number" "D" := slot_ne (Or.inr (hg 42 rfl)) (Or.inr (hg 38 rfl)) (by decide) (t := .int) (t' := .double) (by decide) (by decide)
  have s4_3 : Jvm.RoadKit.slotOf Z "com/example/warmfront/warmfront/js/Token" "end" "I" ≠ Jvm.RoadKit.slotOf Z "com/example/warmfront/warmfront/js/Token" "start" "I" := slot_ne (Or.inr (hg 42 rfl)) (Or.inr (hg 40 rfl)) (by decide) (t := .int) (t' := .int) (by decide) (by decide)
  have F56 := ((((F4.other W46 (Or.inr s4_0)).other W49 (Or.inr s4_1)).other W52 (Or.inr s4_2)).other W55 (Or.inr s4_3))
  have F57 := (F54.wr W55)
  obtain ⟨T58, h58, X58, e58, W58, st58⟩ := putF X55 hx hZ hown (host := "") (Or.inl (hg 41 rfl)) Via.refl e55 F56 F57 (Or.inr ⟨(hg 42 rfl), rfl, hnm⟩) (hg 14 rfl) (ty := .int) (by decide) rfl rfl (g := (mkF m 28 #[.val (.ref a), .val u, .val (.ref sa), .val (.double (0 : UInt64)), .second, .val (.int (0 : Int32)), .val (.int n), .val (.int (1 : Int32)), .val (.int (1 : Int32)), .val (.int (0 : Int32))] [(.int n), (.ref a)])) rfl rfl (hb hby d3_28)
  refine Dn.of st58 ?_
  show Dn p e below s _ _ _ (T58.setTop (mkF m 31 #[.val (.ref a), .val u, .val (.ref sa), .val (.double (0 : UInt64)), .second, .val (.int (0 : Int32)), .val (.int n), .val (.int (1 : Int32)), .val (.int (1 : Int32)), .val (.int (0 : Int32))] []))
  have Nv4 := Fr.snoc X58 Nv3 g0
  refine Dn.of (fun tt_ zz_ => XS.aloadN X58.here hx rfl (hb hby d3_31) rfl rfl zz_) ?_
  show Dn p e below s _ _ _ (T58.setTop (mkF m 32 #[.val (.ref a), .val u, .val (.ref sa), .val (.double (0 : UInt64)), .second, .val (.int (0 : Int32)), .val (.int n), .val (.int (1 : Int32)), .val (.int (1 : Int32)), .val (.int (0 : Int32))] [(.ref a)]))
  refine Dn.of (fun tt_ zz_ => XS.iload X58.here hx rfl (hb hby d3_32) rfl zz_) ?_
  show Dn p e below s _ _ _ (T58.setTop (mkF m 34 #[.val (.ref a), .val u, .val (.ref sa), .val (.double (0 : UInt64)), .second, .val (.int (0 : Int32)), .val (.int n), .val (.int (1 : Int32)), .val (.int (1 : Int32)), .val (.int (0 : Int32))] [(.int (1 : Int32)), (.ref a)]))
  have s5_0 : Jvm.RoadKit.slotOf Z "com/example/warmfront/warmfront/js/Token" "line" "I" ≠ Jvm.RoadKit.slotOf Z "com/example/warmfront/warmfront/js/Token" "kind" "Lcom/example/warmfront/warmfront/js/Token$Kind;" := slot_ne (Or.inr (hg 44 rfl)) (Or.inr (hg 34 rfl)) (by decide) (t := .int) (t' := (.object "com/example/warmfront/warmfront/js/Token$Kind")) (by decide) (by decide)
  have s5_1 : Jvm.RoadKit.slotOf Z "com/example/warmfront/warmfront/js/Token" "line" "I" ≠ Jvm.RoadKit.slotOf Z "com/example/warmfront/warmfront/js/Token" "text" "Ljava/lang/String;" := slot_ne (Or.inr (hg 44 rfl)) (Or.inr (hg 36 rfl)) (by decide) (t := .int) (t' := (.object "java/lang/String")) (by decide) (by decide)
  have s5_2 : Jvm.RoadKit.slotOf Z "com/example/warmfront/warmfront/js/Token" "line" "I" ≠ Jvm.RoadKit.slotOf Z "com/example/warmfront/warmfront/js/Token" "number" "D" := slot_ne (Or.inr (hg 44 rfl)) (Or.inr (hg 38 rfl)) (by decide) (t := .int) (t' := .double) (by decide) (by decide)
  have s5_3 : Jvm.RoadKit.slotOf Z "com/example/warmfront/warmfront/js/Token" "line" "I" ≠ Jvm.RoadKit.slotOf Z "com/example/warmfront/warmfront/js/Token" "start" "I" := slot_ne (Or.inr (hg 44 rfl)) (Or.inr (hg 40 rfl)) (by decide) (t := .int) (t' := .int) (by decide) (by decide)
  have s5_4 : Jvm.RoadKit.slotOf Z "com/example/warmfront/warmfront/js/Token" "line" "I" ≠ Jvm.RoadKit.slotOf Z "com/example/warmfront/warmfront/js/Token" "end" "I" := slot_ne (Or.inr (hg 44 rfl)) (Or.inr (hg 42 rfl)) (by decide) (t := .int) (t' := .int) (by decide) (by decide)
  have F59 := (((((F5.other W46 (Or.inr s5_0)).other W49 (Or.inr s5_1)).other W52 (Or.inr s5_2)).other W55 (Or.inr s5_3)).other W58 (Or.inr s5_4))
  have F60 := (F57.wr W58)
  obtain ⟨T61, h61, X61, e61, W61, st61⟩ := putF X58 hx hZ hown (host := "") (Or.inl (hg 43 rfl)) Via.refl e58 F59 F60 (Or.inr ⟨(hg 44 rfl), rfl, hnm⟩) (hg 14 rfl) (ty := .int) (by decide) rfl rfl (g := (mkF m 34 #[.val (.ref a), .val u, .val (.ref sa), .val (.double (0 : UInt64)), .second, .val (.int (0 : Int32)), .val (.int n), .val (.int (1 : Int32)), .val (.int (1 : Int32)), .val (.int (0 : Int32))] [(.int (1 : Int32)), (.ref a)])) rfl rfl (hb hby d3_34)
  refine Dn.of st61 ?_
  show Dn p e below s _ _ _ (T61.setTop (mkF m 37 #[.val (.ref a), .val u, .val (.ref sa), .val (.double (0 : UInt64)), .second, .val (.int (0 : Int32)), .val (.int n), .val (.int (1 : Int32)), .val (.int (1 : Int32)), .val (.int (0 : Int32))] []))
  have Nv5 := Fr.snoc X61 Nv4 g0
  refine Dn.of (fun tt_ zz_ => XS.aloadN X61.here hx rfl (hb hby d3_37) rfl rfl zz_) ?_
  show Dn p e below s _ _ _ (T61.setTop (mkF m 38 #[.val (.ref a), .val u, .val (.ref sa), .val (.double (0 : UInt64)), .second, .val (.int (0 : Int32)), .val (.int n), .val (.int (1 : Int32)), .val (.int (1 : Int32)), .val (.int (0 : Int32))] [(.ref a)]))
  refine Dn.of (fun tt_ zz_ => XS.iload X61.here hx rfl (hb hby d3_38) rfl zz_) ?_
  show Dn p e below s _ _ _ (T61.setTop (mkF m 40 #[.val (.ref a), .val u, .val (.ref sa), .val (.double (0 : UInt64)), .second, .val (.int (0 : Int32)), .val (.int n), .val (.int (1 : Int32)), .val (.int (1 : Int32)), .val (.int (0 : Int32))] [(.int (1 : Int32)), (.ref a)]))
  have s6_0 : Jvm.RoadKit.slotOf Z "com/example/warmfront/warmfront/js/Token" "column" "I" ≠ Jvm.RoadKit.slotOf Z "com/example/warmfront/warmfront/js/Token" "kind" "Lcom/example/warmfront/warmfront/js/Token$Kind;" := slot_ne (Or.inr (hg 46 rfl)) (Or.inr (hg 34 rfl)) (by decide) (t := .int) (t' := (.object "com/example/warmfront/warmfront/js/Token$Kind")) (by decide) (by decide)
  have s6_1 : Jvm.RoadKit.slotOf Z "com/example/warmfront/warmfront/js/Token" "column" "I" ≠ Jvm.RoadKit.slotOf Z "com/example/warmfront/warmfront/js/Token" "text" "Ljava/lang/String;" := slot_ne (Or.inr (hg 46 rfl)) (Or.inr (hg 36 rfl)) (by decide) (t := .int) (t' := (.object "java/lang/String")) (by decide) (by decide)
  have s6_2 : Jvm.RoadKit.slotOf Z "com/example/warmfront/warmfront/js/Token" "column" "I" ≠ Jvm.RoadKit.slotOf Z "com/example/warmfront/warmfront/js/Token" "number" "D" := slot_ne (Or.inr (hg 46 rfl)) (Or.inr (hg 38 rfl)) (by decide) (t := .int) (t' := .double) (by decide) (by decide)
  have s6_3 : Jvm.RoadKit.slotOf Z "com/example/warmfront/warmfront/js/Token" "column" "I" ≠ Jvm.RoadKit.slotOf Z "com/example/warmfront/warmfront/js/Token" "start" "I" := slot_ne (Or.inr (hg 46 rfl)) (Or.inr (hg 40 rfl)) (by decide) (t := .int) (t' := .int) (by decide) (by decide)
  have s6_4 : Jvm.RoadKit.slotOf Z "com/example/warmfront/warmfront/js/Token" "column" "I" ≠ Jvm.RoadKit.slotOf Z "com/example/warmfront/warmfront/js/Token" "end" "I" := slot_ne (Or.inr (hg 46 rfl)) (Or.inr (hg 42 rfl)) (by decide) (t := .int) (t' := .int) (by decide) (by decide)
  have s6_5 : Jvm.RoadKit.slotOf Z "com/example/warmfront/warmfront/js/Token" "column" "I" ≠ Jvm.RoadKit.slotOf Z "com/example/warmfront/warmfront/js/Token" "line" "I" := slot_ne (Or.inr (hg 46 rfl)) (Or.inr (hg 44 rfl)) (by decide) (t := .int) (t' := .int) (by decide) (by decide)
  have F62 := ((((((F6.other W46 (Or.inr s6_0)).other W49 (Or.inr s6_1)).other W52 (Or.inr s6_2)).other W55 (Or.inr s6_3)).other W58 (Or.inr s6_4)).other W61 (Or.inr s6_5))
  have F63 := (F60.wr W61)
  obtain ⟨T64, h64, X64, e64, W64, st64⟩ := putF X61 hx hZ hown (host := "") (Or.inl (hg 45 rfl)) Via.refl e61 F62 F63 (Or.inr ⟨(hg 46 rfl), rfl, hnm⟩) (hg 14 rfl) (ty := .int) (by decide) rfl rfl (g := (mkF m 40 #[.val (.ref a), .val u, .val (.ref sa), .val (.double (0 : UInt64)), .second, .val (.int (0 : Int32)), .val (.int n), .val (.int (1 : Int32)), .val (.int (1 : Int32)), .val (.int (0 : Int32))] [(.int (1 : Int32)), (.ref a)])) rfl rfl (hb hby d3_40)
  refine Dn.of st64 ?_
  show Dn p e below s _ _ _ (T64.setTop (mkF m 43 #[.val (.ref a), .val u, .val (.ref sa), .val (.double (0 : UInt64)), .second, .val (.int (0 : Int32)), .val (.int n), .val (.int (1 : Int32)), .val (.int (1 : Int32)), .val (.int (0 : Int32))] []))
  have Nv6 := Fr.snoc X64 Nv5 g0
  refine Dn.of (fun tt_ zz_ => XS.aloadN X64.here hx rfl (hb hby d3_43) rfl rfl zz_) ?_
  show Dn p e below s _ _ _ (T64.setTop (mkF m 44 #[.val (.ref a), .val u, .val (.ref sa), .val (.double (0 : UInt64)), .second, .val (.int (0 : Int32)), .val (.int n), .val (.int (1 : Int32)), .val (.int (1 : Int32)), .val (.int (0 : Int32))] [(.ref a)]))
  refine Dn.of (fun tt_ zz_ => XS.iload X64.here hx rfl (hb hby d3_44) rfl zz_) ?_
  show Dn p e below s _ _ _ (T64.setTop (mkF m 46 #[.val (.ref a), .val u, .val (.ref sa), .val (.double (0 : UInt64)), .second, .val (.int (0 : Int32)), .val (.int n), .val (.int (1 : Int32)), .val (.int (1 : Int32)), .val (.int (0 : Int32))] [(.int (0 : Int32)), (.ref a)]))
  have s7_0 : Jvm.RoadKit.slotOf Z "com/example/warmfront/warmfront/js/Token" "newlineBefore" "Z" ≠ Jvm.RoadKit.slotOf Z "com/example/warmfront/warmfront/js/Token" "kind" "Lcom/example/warmfront/warmfront/js/Token$Kind;" := slot_ne (Or.inr (hg 48 rfl)) (Or.inr (hg 34 rfl)) (by decide) (t := .boolean) (t' := (.object "com/example/warmfront/warmfront/js/Token$Kind")) (by decide) (by decide)
  have s7_1 : Jvm.RoadKit.slotOf Z "com/example/warmfront/warmfront/js/Token" "newlineBefore" "Z" ≠ Jvm.RoadKit.slotOf Z "com/example/warmfront/warmfront/js/Token" "text" "Ljava/lang/String;" := slot_ne (Or.inr (hg 48 rfl)) (Or.inr (hg 36 rfl)) (by decide) (t := .boolean) (t' := (.object "java/lang/String")) (by decide) (by decide)
  have s7_2 : Jvm.RoadKit.slotOf Z "com/example/warmfront/warmfront/js/Token" "newlineBefore" "Z" ≠ Jvm.RoadKit.slotOf Z "com/example/warmfront/warmfront/js/Token" "number" "D" := slot_ne (Or.inr (hg 48 rfl)) (Or.inr (hg 38 rfl)) (by decide) (t := .boolean) (t' := .double) (by decide) (by decide)
  have s7_3 : Jvm.RoadKit.slotOf Z "com/example/warmfront/warmfront/js/Token" "newlineBefore" "Z" ≠ Jvm.RoadKit.slotOf Z "com/example/warmfront/warmfront/js/Token" "start" "I" := slot_ne (Or.inr (hg 48 rfl)) (Or.inr (hg 40 rfl)) (by decide) (t := .boolean) (t' := .int) (by decide) (by decide)
  have s7_4 : Jvm.RoadKit.slotOf Z "com/example/warmfront/warmfront/js/Token" "newlineBefore" "Z" ≠ Jvm.RoadKit.slotOf Z "com/example/warmfront/warmfront/js/Token" "end" "I" := slot_ne (Or.inr (hg 48 rfl)) (Or.inr (hg 42 rfl)) (by decide) (t := .boolean) (t' := .int) (by decide) (by decide)
  have s7_5 : Jvm.RoadKit.slotOf Z "com/example/warmfront/warmfront/js/Token" "newlineBefore" "Z" ≠ Jvm.RoadKit.slotOf Z "com/example/warmfront/warmfront/js/Token" "line" "I" := slot_ne (Or.inr (hg 48 rfl)) (Or.inr (hg 44 rfl)) (by decide) (t := .boolean) (t' := .int) (by decide) (by decide)
  have s7_6 : Jvm.RoadKit.slotOf Z "com/example/warmfront/warmfront/js/Token" "newlineBefore" "Z" ≠ Jvm.RoadKit.slotOf Z "com/example/warmfront/warmfront/js/Token" "column" "I" := slot_ne (Or.inr (hg 48 rfl)) (Or.inr (hg 46 rfl)) (by decide) (t := .boolean) (t' := .int) (by decide) (by decide)
  have F65 := (((((((F7.other W46 (Or.inr s7_0)).other W49 (Or.inr s7_1)).other W52 (Or.inr s7_2)).other W55 (Or.inr s7_3)).other W58 (Or.inr s7_4)).other W61 (Or.inr s7_5)).other W64 (Or.inr s7_6))
  have F66 := (F63.wr W64)
  obtain ⟨T67, h67, X67, e67, W67, st67⟩ := putF X64 hx hZ hown (host := "") (Or.inl (hg 47 rfl)) Via.refl e64 F65 F66 (Or.inr ⟨(hg 48 rfl), rfl, hnm⟩) (hg 14 rfl) (ty := .boolean) (by decide) rfl rfl (g := (mkF m 46 #[.val (.ref a), .val u, .val (.ref sa), .val (.double (0 : UInt64)), .second, .val (.int (0 : Int32)), .val (.int n), .val (.int (1 : Int32)), .val (.int (1 : Int32)), .val (.int (0 : Int32))] [(.int (0 : Int32)), (.ref a)])) rfl rfl (hb hby d3_46)
  refine Dn.of st67 ?_
  show Dn p e below s _ _ _ (T67.setTop (mkF m 49 #[.val (.ref a), .val u, .val (.ref sa), .val (.double (0 : UInt64)), .second, .val (.int (0 : Int32)), .val (.int n), .val (.int (1 : Int32)), .val (.int (1 : Int32)), .val (.int (0 : Int32))] []))
  have Nv7 := Fr.snoc X67 Nv6 g0
  have F68 := (((((((((Keep.refl h0 [a]).wr W46 (Or.inl (List.mem_of_getElem? (i := 0) rfl))).wr W49 (Or.inl (List.mem_of_getElem? (i := 0) rfl))).wr W52 (Or.inl (List.mem_of_getElem? (i := 0) rfl))).wr W55 (Or.inl (List.mem_of_getElem? (i := 0) rfl))).wr W58 (Or.inl (List.mem_of_getElem? (i := 0) rfl))).wr W61 (Or.inl (List.mem_of_getElem? (i := 0) rfl))).wr W64 (Or.inl (List.mem_of_getElem? (i := 0) rfl))).wr W67 (Or.inl (List.mem_of_getElem? (i := 0) rfl)))
  have s0_1 : Jvm.RoadKit.slotOf Z "com/example/warmfront/warmfront/js/Token" "kind" "Lcom/example/warmfront/warmfront/js/Token$Kind;" ≠ Jvm.RoadKit.slotOf Z "com/example/warmfront/warmfront/js/Token" "text" "Ljava/lang/String;" := slot_ne (Or.inr (hg 34 rfl)) (Or.inr (hg 36 rfl)) (by decide) (t := (.object "com/example/warmfront/warmfront/js/Token$Kind")) (t' := (.object "java/lang/String")) (by decide) (by decide)
  have s0_2 : Jvm.RoadKit.slotOf Z "com/example/warmfront/warmfront/js/Token" "kind" "Lcom/example/warmfront/warmfront/js/Token$Kind;" ≠ Jvm.RoadKit.slotOf Z "com/example/warmfront/warmfront/js/Token" "number" "D" := slot_ne (Or.inr (hg 34 rfl)) (Or.inr (hg 38 rfl)) (by decide) (t := (.object "com/example/warmfront/warmfront/js/Token$Kind")) (t' := .double) (by decide) (by decide)
  have s0_3 : Jvm.RoadKit.slotOf Z "com/example/warmfront/warmfront/js/Token" "kind" "Lcom/example/warmfront/warmfront/js/Token$Kind;" ≠ Jvm.RoadKit.slotOf Z "com/example/warmfront/warmfront/js/Token" "start" "I" := slot_ne (Or.inr (hg 34 rfl)) (Or.inr (hg 40 rfl)) (by decide) (t := (.object "com/example/warmfront/warmfront/js/Token$Kind")) (t' := .int) (by decide) (by decide)
  have s0_4 : Jvm.RoadKit.slotOf Z "com/example/warmfront/warmfront/js/Token" "kind" "Lcom/example/warmfront/warmfront/js/Token$Kind;" ≠ Jvm.RoadKit.slotOf Z "com/example/warmfront/warmfront/js/Token" "end" "I" := slot_ne (Or.inr (hg 34 rfl)) (Or.inr (hg 42 rfl)) (by decide) (t := (.object "com/example/warmfront/warmfront/js/Token$Kind")) (t' := .int) (by decide) (by decide)
  have s0_5 : Jvm.RoadKit.slotOf Z "com/example/warmfront/warmfront/js/Token" "kind" "Lcom/example/warmfront/warmfront/js/Token$Kind;" ≠ Jvm.RoadKit.slotOf Z "com/example/warmfront/warmfront/js/Token" "line" "I" := slot_ne (Or.inr (hg 34 rfl)) (Or.inr (hg 44 rfl)) (by decide) (t := (.object "com/example/warmfront/warmfront/js/Token$Kind")) (t' := .int) (by decide) (by decide)
  have s0_6 : Jvm.RoadKit.slotOf Z "com/example/warmfront/warmfront/js/Token" "kind" "Lcom/example/warmfront/warmfront/js/Token$Kind;" ≠ Jvm.RoadKit.slotOf Z "com/example/warmfront/warmfront/js/Token" "column" "I" := slot_ne (Or.inr (hg 34 rfl)) (Or.inr (hg 46 rfl)) (by decide) (t := (.object "com/example/warmfront/warmfront/js/Token$Kind")) (t' := .int) (by decide) (by decide)
  have s0_7 : Jvm.RoadKit.slotOf Z "com/example/warmfront/warmfront/js/Token" "kind" "Lcom/example/warmfront/warmfront/js/Token$Kind;" ≠ Jvm.RoadKit.slotOf Z "com/example/warmfront/warmfront/js/Token" "newlineBefore" "Z" := slot_ne (Or.inr (hg 34 rfl)) (Or.inr (hg 48 rfl)) (by decide) (t := (.object "com/example/warmfront/warmfront/js/Token$Kind")) (t' := .boolean) (by decide) (by decide)
  have F69 := ((((((((F0.same W46).other W49 (Or.inr s0_1)).other W52 (Or.inr s0_2)).other W55 (Or.inr s0_3)).other W58 (Or.inr s0_4)).other W61 (Or.inr s0_5)).other W64 (Or.inr s0_6)).other W67 (Or.inr s0_7))
  have s1_2 : Jvm.RoadKit.slotOf Z "com/example/warmfront/warmfront/js/Token" "text" "Ljava/lang/String;" ≠ Jvm.RoadKit.slotOf Z "com/example/warmfront/warmfront/js/Token" "number" "D" := slot_ne (Or.inr (hg 36 rfl)) (Or.inr (hg 38 rfl)) (by decide) (t := (.object "java/lang/String")) (t' := .double) (by decide) (by decide)
  have s1_3 : Jvm.RoadKit.slotOf Z "com/example/warmfront/warmfront/js/Token" "text" "Ljava/lang/String;" ≠ Jvm.RoadKit.slotOf Z "com/example/warmfront/warmfront/js/Token" "start" "I" := slot_ne (Or.inr (hg 36 rfl)) (Or.inr (hg 40 rfl)) (by decide) (t := (.object "java/lang/String")) (t' := .int) (by decide) (by decide)
  have s1_4 : Jvm.RoadKit.slotOf Z "com/example/warmfront/warmfront/js/Token" "text" "Ljava/lang/String;" ≠ Jvm.RoadKit.slotOf Z "com/example/warmfront/warmfront/js/Token" "end" "I" := slot_ne (Or.inr (hg 36 rfl)) (Or.inr (hg 42 rfl)) (by decide) (t := (.object "java/lang/String")) (t' := .int) (by decide) (by decide)
  have s1_5 : Jvm.RoadKit.slotOf Z "com/example/warmfront/warmfront/js/Token" "text" "Ljava/lang/String;" ≠ Jvm.RoadKit.slotOf Z "com/example/warmfront/warmfront/js/Token" "line" "I" := slot_ne (Or.inr (hg 36 rfl)) (Or.inr (hg 44 rfl)) (by decide) (t := (.object "java/lang/String")) (t' := .int) (by decide) (by decide)
  have s1_6 : Jvm.RoadKit.slotOf Z "com/example/warmfront/warmfront/js/Token" "text" "Ljava/lang/String;" ≠ Jvm.RoadKit.slotOf Z "com/example/warmfront/warmfront/js/Token" "column" "I" := slot_ne (Or.inr (hg 36 rfl)) (Or.inr (hg 46 rfl)) (by decide) (t := (.object "java/lang/String")) (t' := .int) (by decide) (by decide)
  have s1_7 : Jvm.RoadKit.slotOf Z "com/example/warmfront/warmfront/js/Token" "text" "Ljava/lang/String;" ≠ Jvm.RoadKit.slotOf Z "com/example/warmfront/warmfront/js/Token" "newlineBefore" "Z" := slot_ne (Or.inr (hg 36 rfl)) (Or.inr (hg 48 rfl)) (by decide) (t := (.object "java/lang/String")) (t' := .boolean) (by decide) (by decide)
  have F70 := (((((((F47.same W49).other W52 (Or.inr s1_2)).other W55 (Or.inr s1_3)).other W58 (Or.inr s1_4)).other W61 (Or.inr s1_5)).other W64 (Or.inr s1_6)).other W67 (Or.inr s1_7))
  exact Dn.retV X67 hx hlk hret (hb hby d3_49) (by decide) (by decide) (by rw [e67]; exact ⟨rfl, Nv7, F68, F69, F70⟩)
theorem ef17_AA (m : MethodId) (x0 : Addr) (x1 : Addr) : entryFrame m #[(.ref x0), (.ref x1)] 3 = mkF m 0 #[.val (.ref x0), .val (.ref x1), .unset] [] := by first | (simp [entryFrame, mkF, argsToLocals, Value.category]; done) | rfl
set_option maxRecDepth 65536 in
set_option maxHeartbeats 40000000 in
theorem rmLE (l : Launch) (Z : State) (a0 : Array Value) (hw : ∀ d ∈ tables_1, d.before a0 Z = true) (h0 : Heap) (n0 : Nat) (Z0 : n0 ≤ h0.size) (b1 b2 : Addr) (k1 k2 : ClassId) (hs1 hs2 : List (Int32 × Value)) (n1 n2 : Int32) (f1 f2 : Nat → Int32) (R1 : Arh Z h0 b1 k1 .byte n1 hs1 [] (.int 0)) (R2 : Arh Z h0 b2 k2 .byte n2 hs2 [] (.int 0)) (e1 : ∀ i : Nat, i < n1.toNatClampNeg → getH hs1 [] (.int 0) i = .int (f1 i)) (e2 : ∀ i : Nat, i < n2.toNatClampNeg → getH hs2 [] (.int 0) i = .int (f2 i)) (hn1 : n1 = 0 ∨ n1 = 1 ∨ n1 = 2) (hn2 : n2 = 0 ∨ n2 = 1 ∨ n2 = 2) :
    ctr l Z (⟨"java/lang/StringLatin1", "equals", "([B[B)Z"⟩ : MethodName) jdk_43_method_13_code 3 (some .boolean) [] ({ frames := 0, cells := 0, slots := 0, locals := 0 } : Room) 0 0 #[(.ref b1), (.ref b2)] h0 (fun v h L => (∃ r : Int32, v = some (.int r) ∧ (r = 0 ∨ r = 1) ∧ (r = 1 ↔ (n1 = n2 ∧ ∀ i : Nat, i < n1.toNatClampNeg → f1 i = f2 i))) ∧ Fr n0 L ∧ h = h0) := by
  refine ctr_of (by decide +kernel) ?_
  intro p e s m below meth jc s₁ hx hby hml hret hlk hnm hown hZ e0 X0
  have N0 := Fr.nil n0
  have hg : ∀ (i : Nat) {d : Jvm.Cond}, tables_1[i]? = some d → d.before a0 Z = true := fun i d q => hw d (List.mem_of_getElem? q)
  refine Dn.cast (ef17_AA m b1 b2) ?_
  show Dn p e below s _ _ _ (s₁.setTop (mkF m 0 #[.val (.ref b1), .val (.ref b2), .unset] []))
  rcases hn1 with rfl | rfl | rfl <;> rcases hn2 with rfl | rfl | rfl
  · skip
    refine Dn.of (fun tt_ zz_ => XS.aloadN X0.here hx rfl (hb hby d17_0) rfl rfl zz_) ?_
    show Dn p e below s _ _ _ (s₁.setTop (mkF m 1 #[.val (.ref b1), .val (.ref b2), .unset] [(.ref b1)]))
    have Rl71 := R1
    obtain ⟨d71, B_71, _, Sd71, _, _, _⟩ := Rl71
    refine Dn.of (fun tt_ zz_ => X0.arraylength hx (by rw [e0]; exact B_71.1) (State.isArrayOf_alike hZ.alike B_71.2.1) (g := (mkF m 1 #[.val (.ref b1), .val (.ref b2), .unset] [(.ref b1)])) rfl rfl (hb hby d17_1) tt_ zz_) ?_
    rw [Sd71, show (((0 : Int32)).toNatClampNeg).toInt32 = (0 : Int32) by decide]
    show Dn p e below s _ _ _ (s₁.setTop (mkF m 2 #[.val (.ref b1), .val (.ref b2), .unset] [(.int (0 : Int32))]))
    refine Dn.of (fun tt_ zz_ => XS.aloadN X0.here hx rfl (hb hby d17_2) rfl rfl zz_) ?_
    show Dn p e below s _ _ _ (s₁.setTop (mkF m 3 #[.val (.ref b1), .val (.ref b2), .unset] [(.ref b2), (.int (0 : Int32))]))
    have Rl72 := R2
    obtain ⟨d72, B_72, _, Sd72, _, _, _⟩ := Rl72
    refine Dn.of (fun tt_ zz_ => X0.arraylength hx (by rw [e0]; exact B_72.1) (State.isArrayOf_alike hZ.alike B_72.2.1) (g := (mkF m 3 #[.val (.ref b1), .val (.ref b2), .unset] [(.ref b2), (.int (0 : Int32))])) rfl rfl (hb hby d17_3) tt_ zz_) ?_
    rw [Sd72, show (((0 : Int32)).toNatClampNeg).toInt32 = (0 : Int32) by decide]
    show Dn p e below s _ _ _ (s₁.setTop (mkF m 4 #[.val (.ref b1), .val (.ref b2), .unset] [(.int (0 : Int32)), (.int (0 : Int32))]))
    refine Dn.of (fun tt_ zz_ => XS.icmpNo X0.here hx rfl (hb hby d17_4) rfl (teq rfl).2 zz_) ?_
    show Dn p e below s _ _ _ (s₁.setTop (mkF m 7 #[.val (.ref b1), .val (.ref b2), .unset] []))
    refine Dn.of (fun tt_ zz_ => XS.iconst X0.here hx rfl (hb hby d17_7) zz_) ?_
    show Dn p e below s _ _ _ (s₁.setTop (mkF m 8 #[.val (.ref b1), .val (.ref b2), .unset] [(.int (0 : Int32))]))
    refine Dn.of (fun tt_ zz_ => XS.istoreN X0.here hx rfl (hb hby d17_8) rfl (l' := #[.val (.ref b1), .val (.ref b2), .val (.int (0 : Int32))]) rfl zz_) ?_
    show Dn p e below s _ _ _ (s₁.setTop (mkF m 9 #[.val (.ref b1), .val (.ref b2), .val (.int (0 : Int32))] []))
    refine Dn.of (fun tt_ zz_ => XS.iloadN X0.here hx rfl (hb hby d17_9) rfl zz_) ?_
    show Dn p e below s _ _ _ (s₁.setTop (mkF m 10 #[.val (.ref b1), .val (.ref b2), .val (.int (0 : Int32))] [(.int (0 : Int32))]))
    refine Dn.of (fun tt_ zz_ => XS.aloadN X0.here hx rfl (hb hby d17_10) rfl rfl zz_) ?_
    show Dn p e below s _ _ _ (s₁.setTop (mkF m 11 #[.val (.ref b1), .val (.ref b2), .val (.int (0 : Int32))] [(.ref b1), (.int (0 : Int32))]))
    have Rl73 := R1
    obtain ⟨d73, B_73, _, Sd73, _, _, _⟩ := Rl73
    refine Dn.of (fun tt_ zz_ => X0.arraylength hx (by rw [e0]; exact B_73.1) (State.isArrayOf_alike hZ.alike B_73.2.1) (g := (mkF m 11 #[.val (.ref b1), .val (.ref b2), .val (.int (0 : Int32))] [(.ref b1), (.int (0 : Int32))])) rfl rfl (hb hby d17_11) tt_ zz_) ?_
    rw [Sd73, show (((0 : Int32)).toNatClampNeg).toInt32 = (0 : Int32) by decide]
    show Dn p e below s _ _ _ (s₁.setTop (mkF m 12 #[.val (.ref b1), .val (.ref b2), .val (.int (0 : Int32))] [(.int (0 : Int32)), (.int (0 : Int32))]))
    refine Dn.of (fun tt_ zz_ => XS.icmpYes X0.here hx rfl (pc0 := 12) (pc' := 32) rfl (hb hby d17_12) rfl (flt (by decide)).2.1 (by decide) (by decide) zz_) ?_
    show Dn p e below s _ _ _ (s₁.setTop (mkF m 32 #[.val (.ref b1), .val (.ref b2), .val (.int (0 : Int32))] []))
    refine Dn.of (fun tt_ zz_ => XS.iconst X0.here hx rfl (hb hby d17_32) zz_) ?_
    show Dn p e below s _ _ _ (s₁.setTop (mkF m 33 #[.val (.ref b1), .val (.ref b2), .val (.int (0 : Int32))] [(.int (1 : Int32))]))
    exact Dn.retN X0 hx hlk (t := .boolean) hret (by simp) (hb hby d17_33) (by decide) (by decide) (⟨⟨1, rfl, Or.inr rfl, fun _ => ⟨rfl, fun j hj => absurd hj (Nat.not_lt_zero j)⟩, fun _ => rfl⟩, N0, e0⟩)
  · skip
    refine Dn.of (fun tt_ zz_ => XS.aloadN X0.here hx rfl (hb hby d17_0) rfl rfl zz_) ?_
    show Dn p e below s _ _ _ (s₁.setTop (mkF m 1 #[.val (.ref b1), .val (.ref b2), .unset] [(.ref b1)]))
    have Rl74 := R1
    obtain ⟨d74, B_74, _, Sd74, _, _, _⟩ := Rl74
    refine Dn.of (fun tt_ zz_ => X0.arraylength hx (by rw [e0]; exact B_74.1) (State.isArrayOf_alike hZ.alike B_74.2.1) (g := (mkF m 1 #[.val (.ref b1), .val (.ref b2), .unset] [(.ref b1)])) rfl rfl (hb hby d17_1) tt_ zz_) ?_
    rw [Sd74, show (((0 : Int32)).toNatClampNeg).toInt32 = (0 : Int32) by decide]
    show Dn p e below s _ _ _ (s₁.setTop (mkF m 2 #[.val (.ref b1), .val (.ref b2), .unset] [(.int (0 : Int32))]))
    refine Dn.of (fun tt_ zz_ => XS.aloadN X0.here hx rfl (hb hby d17_2) rfl rfl zz_) ?_
    show Dn p e below s _ _ _ (s₁.setTop (mkF m 3 #[.val (.ref b1), .val (.ref b2), .unset] [(.ref b2), (.int (0 : Int32))]))
    have Rl75 := R2
    obtain ⟨d75, B_75, _, Sd75, _, _, _⟩ := Rl75
    refine Dn.of (fun tt_ zz_ => X0.arraylength hx (by rw [e0]; exact B_75.1) (State.isArrayOf_alike hZ.alike B_75.2.1) (g := (mkF m 3 #[.val (.ref b1), .val (.ref b2), .unset] [(.ref b2), (.int (0 : Int32))])) rfl rfl (hb hby d17_3) tt_ zz_) ?_
    rw [Sd75, show (((1 : Int32)).toNatClampNeg).toInt32 = (1 : Int32) by decide]
    show Dn p e below s _ _ _ (s₁.setTop (mkF m 4 #[.val (.ref b1), .val (.ref b2), .unset] [(.int (1 : Int32)), (.int (0 : Int32))]))
    refine Dn.of (fun tt_ zz_ => XS.icmpYes X0.here hx rfl (pc0 := 4) (pc' := 34) rfl (hb hby d17_4) rfl (feq (by decide)).2 (by decide) (by decide) zz_) ?_
    show Dn p e below s _ _ _ (s₁.setTop (mkF m 34 #[.val (.ref b1), .val (.ref b2), .unset] []))
    refine Dn.of (fun tt_ zz_ => XS.iconst X0.here hx rfl (hb hby d17_34) zz_) ?_
    show Dn p e below s _ _ _ (s₁.setTop (mkF m 35 #[.val (.ref b1), .val (.ref b2), .unset] [(.int (0 : Int32))]))
    exact Dn.retN X0 hx hlk (t := .boolean) hret (by simp) (hb hby d17_35) (by decide) (by decide) (⟨⟨0, rfl, Or.inl rfl, ⟨fun y => absurd y (by decide), fun y => absurd y.1 (by decide)⟩⟩, N0, e0⟩)
  · skip
    refine Dn.of (fun tt_ zz_ => XS.aloadN X0.here hx rfl (hb hby d17_0) rfl rfl zz_) ?_
    show Dn p e below s _ _ _ (s₁.setTop (mkF m 1 #[.val (.ref b1), .val (.ref b2), .unset] [(.ref b1)]))
    have Rl76 := R1
    obtain ⟨d76, B_76, _, Sd76, _, _, _⟩ := Rl76
    refine Dn.of (fun tt_ zz_ => X0.arraylength hx (by rw [e0]; exact B_76.1) (State.isArrayOf_alike hZ.alike B_76.2.1) (g := (mkF m 1 #[.val (.ref b1), .val (.ref b2), .unset] [(.ref b1)])) rfl rfl (hb hby d17_1) tt_ zz_) ?_
    rw [Sd76, show (((0 : Int32)).toNatClampNeg).toInt32 = (0 : Int32) by decide]
    show Dn p e below s _ _ _ (s₁.setTop (mkF m 2 #[.val (.ref b1), .val (.ref b2), .unset] [(.int (0 : Int32))]))
    refine Dn.of (fun tt_ zz_ => XS.aloadN X0.here hx rfl (hb hby d17_2) rfl rfl zz_) ?_
    show Dn p e below s _ _ _ (s₁.setTop (mkF m 3 #[.val (.ref b1), .val (.ref b2), .unset] [(.ref b2), (.int (0 : Int32))]))
    have Rl77 := R2
    obtain ⟨d77, B_77, _, Sd77, _, _, _⟩ := Rl77
    refine Dn.of (fun tt_ zz_ => X0.arraylength hx (by rw [e0]; exact B_77.1) (State.isArrayOf_alike hZ.alike B_77.2.1) (g := (mkF m 3 #[.val (.ref b1), .val (.ref b2), .unset] [(.ref b2), (.int (0 : Int32))])) rfl rfl (hb hby d17_3) tt_ zz_) ?_
    rw [Sd77, show (((2 : Int32)).toNatClampNeg).toInt32 = (2 : Int32) by decide]
    show Dn p e below s _ _ _ (s₁.setTop (mkF m 4 #[.val (.ref b1), .val (.ref b2), .unset] [(.int (2 : Int32)), (.int (0 : Int32))]))
    refine Dn.of (fun tt_ zz_ => XS.icmpYes X0.here hx rfl (pc0 := 4) (pc' := 34) rfl (hb hby d17_4) rfl (feq (by decide)).2 (by decide) (by decide) zz_) ?_
    show Dn p e below s _ _ _ (s₁.setTop (mkF m 34 #[.val (.ref b1), .val (.ref b2), .unset] []))
    refine Dn.of (fun tt_ zz_ => XS.iconst X0.here hx rfl (hb hby d17_34) zz_) ?_
    show Dn p e below s _ _ _ (s₁.setTop (mkF m 35 #[.val (.ref b1), .val (.ref b2), .unset] [(.int (0 : Int32))]))
    exact Dn.retN X0 hx hlk (t := .boolean) hret (by simp) (hb hby d17_35) (by decide) (by decide) (⟨⟨0, rfl, Or.inl rfl, ⟨fun y => absurd y (by decide), fun y => absurd y.1 (by decide)⟩⟩, N0, e0⟩)
  · skip
    refine Dn.of (fun tt_ zz_ => XS.aloadN X0.here hx rfl (hb hby d17_0) rfl rfl zz_) ?_
    show Dn p e below s _ _ _ (s₁.setTop (mkF m 1 #[.val (.ref b1), .val (.ref b2), .unset] [(.ref b1)]))
    have Rl78 := R1
    obtain ⟨d78, B_78, _, Sd78, _, _, _⟩ := Rl78
    refine Dn.of (fun tt_ zz_ => X0.arraylength hx (by rw [e0]; exact B_78.1) (State.isArrayOf_alike hZ.alike B_78.2.1) (g := (mkF m 1 #[.val (.ref b1), .val (.ref b2), .unset] [(.ref b1)])) rfl rfl (hb hby d17_1) tt_ zz_) ?_
    rw [Sd78, show (((1 : Int32)).toNatClampNeg).toInt32 = (1 : Int32) by decide]
    show Dn p e below s _ _ _ (s₁.setTop (mkF m 2 #[.val (.ref b1), .val (.ref b2), .unset] [(.int (1 : Int32))]))
    refine Dn.of (fun tt_ zz_ => XS.aloadN X0.here hx rfl (hb hby d17_2) rfl rfl zz_) ?_
    show Dn p e below s _ _ _ (s₁.setTop (mkF m 3 #[.val (.ref b1), .val (.ref b2), .unset] [(.ref b2), (.int (1 : Int32))]))
    have Rl79 := R2
    obtain ⟨d79, B_79, _, Sd79, _, _, _⟩ := Rl79
    refine Dn.of (fun tt_ zz_ => X0.arraylength hx (by rw [e0]; exact B_79.1) (State.isArrayOf_alike hZ.alike B_79.2.1) (g := (mkF m 3 #[.val (.ref b1), .val (.ref b2), .unset] [(.ref b2), (.int (1 : Int32))])) rfl rfl (hb hby d17_3) tt_ zz_) ?_
    rw [Sd79, show (((0 : Int32)).toNatClampNeg).toInt32 = (0 : Int32) by decide]
    show Dn p e below s _ _ _ (s₁.setTop (mkF m 4 #[.val (.ref b1), .val (.ref b2), .unset] [(.int (0 : Int32)), (.int (1 : Int32))]))
    refine Dn.of (fun tt_ zz_ => XS.icmpYes X0.here hx rfl (pc0 := 4) (pc' := 34) rfl (hb hby d17_4) rfl (feq (by decide)).2 (by decide) (by decide) zz_) ?_
    show Dn p e below s _ _ _ (s₁.setTop (mkF m 34 #[.val (.ref b1), .val (.ref b2), .unset] []))
    refine Dn.of (fun tt_ zz_ => XS.iconst X0.here hx rfl (hb hby d17_34) zz_) ?_
    show Dn p e below s _ _ _ (s₁.setTop (mkF m 35 #[.val (.ref b1), .val (.ref b2), .unset] [(.int (0 : Int32))]))
    exact Dn.retN X0 hx hlk (t := .boolean) hret (by simp) (hb hby d17_35) (by decide) (by decide) (⟨⟨0, rfl, Or.inl rfl, ⟨fun y => absurd y (by decide), fun y => absurd y.1 (by decide)⟩⟩, N0, e0⟩)
  · skip
    refine Dn.of (fun tt_ zz_ => XS.aloadN X0.here hx rfl (hb hby d17_0) rfl rfl zz_) ?_
    show Dn p e below s _ _ _ (s₁.setTop (mkF m 1 #[.val (.ref b1), .val (.ref b2), .unset] [(.ref b1)]))
    have Rl80 := R1
    obtain ⟨d80, B_80, _, Sd80, _, _, _⟩ := Rl80
    refine Dn.of (fun tt_ zz_ => X0.arraylength hx (by rw [e0]; exact B_80.1) (State.isArrayOf_alike hZ.alike B_80.2.1) (g := (mkF m 1 #[.val (.ref b1), .val (.ref b2), .unset] [(.ref b1)])) rfl rfl (hb hby d17_1) tt_ zz_) ?_
    rw [Sd80, show (((1 : Int32)).toNatClampNeg).toInt32 = (1 : Int32) by decide]
    show Dn p e below s _ _ _ (s₁.setTop (mkF m 2 #[.val (.ref b1), .val (.ref b2), .unset] [(.int (1 : Int32))]))
    refine Dn.of (fun tt_ zz_ => XS.aloadN X0.here hx rfl (hb hby d17_2) rfl rfl zz_) ?_
    show Dn p e below s _ _ _ (s₁.setTop (mkF m 3 #[.val (.ref b1), .val (.ref b2), .unset] [(.ref b2), (.int (1 : Int32))]))
    have Rl81 := R2
    obtain ⟨d81, B_81, _, Sd81, _, _, _⟩ := Rl81
    refine Dn.of (fun tt_ zz_ => X0.arraylength hx (by rw [e0]; exact B_81.1) (State.isArrayOf_alike hZ.alike B_81.2.1) (g := (mkF m 3 #[.val (.ref b1), .val (.ref b2), .unset] [(.ref b2), (.int (1 : Int32))])) rfl rfl (hb hby d17_3) tt_ zz_) ?_
    rw [Sd81, show (((1 : Int32)).toNatClampNeg).toInt32 = (1 : Int32) by decide]
    show Dn p e below s _ _ _ (s₁.setTop (mkF m 4 #[.val (.ref b1), .val (.ref b2), .unset] [(.int (1 : Int32)), (.int (1 : Int32))]))
    refine Dn.of (fun tt_ zz_ => XS.icmpNo X0.here hx rfl (hb hby d17_4) rfl (teq rfl).2 zz_) ?_
    show Dn p e below s _ _ _ (s₁.setTop (mkF m 7 #[.val (.ref b1), .val (.ref b2), .unset] []))
    refine Dn.of (fun tt_ zz_ => XS.iconst X0.here hx rfl (hb hby d17_7) zz_) ?_
    show Dn p e below s _ _ _ (s₁.setTop (mkF m 8 #[.val (.ref b1), .val (.ref b2), .unset] [(.int (0 : Int32))]))
    refine Dn.of (fun tt_ zz_ => XS.istoreN X0.here hx rfl (hb hby d17_8) rfl (l' := #[.val (.ref b1), .val (.ref b2), .val (.int (0 : Int32))]) rfl zz_) ?_
    show Dn p e below s _ _ _ (s₁.setTop (mkF m 9 #[.val (.ref b1), .val (.ref b2), .val (.int (0 : Int32))] []))
    refine Dn.of (fun tt_ zz_ => XS.iloadN X0.here hx rfl (hb hby d17_9) rfl zz_) ?_
    show Dn p e below s _ _ _ (s₁.setTop (mkF m 10 #[.val (.ref b1), .val (.ref b2), .val (.int (0 : Int32))] [(.int (0 : Int32))]))
    refine Dn.of (fun tt_ zz_ => XS.aloadN X0.here hx rfl (hb hby d17_10) rfl rfl zz_) ?_
    show Dn p e below s _ _ _ (s₁.setTop (mkF m 11 #[.val (.ref b1), .val (.ref b2), .val (.int (0 : Int32))] [(.ref b1), (.int (0 : Int32))]))
    have Rl82 := R1
    obtain ⟨d82, B_82, _, Sd82, _, _, _⟩ := Rl82
    refine Dn.of (fun tt_ zz_ => X0.arraylength hx (by rw [e0]; exact B_82.1) (State.isArrayOf_alike hZ.alike B_82.2.1) (g := (mkF m 11 #[.val (.ref b1), .val (.ref b2), .val (.int (0 : Int32))] [(.ref b1), (.int (0 : Int32))])) rfl rfl (hb hby d17_11) tt_ zz_) ?_
    rw [Sd82, show (((1 : Int32)).toNatClampNeg).toInt32 = (1 : Int32) by decide]
    show Dn p e below s _ _ _ (s₁.setTop (mkF m 12 #[.val (.ref b1), .val (.ref b2), .val (.int (0 : Int32))] [(.int (1 : Int32)), (.int (0 : Int32))]))
    refine Dn.of (fun tt_ zz_ => XS.icmpNo X0.here hx rfl (hb hby d17_12) rfl (tlt (by decide)).2.1 zz_) ?_
    show Dn p e below s _ _ _ (s₁.setTop (mkF m 15 #[.val (.ref b1), .val (.ref b2), .val (.int (0 : Int32))] []))
    refine Dn.of (fun tt_ zz_ => XS.aloadN X0.here hx rfl (hb hby d17_15) rfl rfl zz_) ?_
    show Dn p e below s _ _ _ (s₁.setTop (mkF m 16 #[.val (.ref b1), .val (.ref b2), .val (.int (0 : Int32))] [(.ref b1)]))
    refine Dn.of (fun tt_ zz_ => XS.iloadN X0.here hx rfl (hb hby d17_16) rfl zz_) ?_
    show Dn p e below s _ _ _ (s₁.setTop (mkF m 17 #[.val (.ref b1), .val (.ref b2), .val (.int (0 : Int32))] [(.int (0 : Int32)), (.ref b1)]))
    have Rr83 := R1
    obtain ⟨d83, B_83, _, Sd83, _, Hd83, _⟩ := Rr83
    refine Dn.of (fun tt_ zz_ => X0.baloadBytes hx (j := (0 : Int32)) (v := (.int (f1 0))) (by rw [e0]; exact B_83.1) (State.isArrayOf_alike hZ.alike B_83.2.1) B_83.2.2 (inb_of Sd83 (by decide)) (atH Hd83 (inb_of Sd83 (by decide)) (e1 0 (by decide))) (g := (mkF m 17 #[.val (.ref b1), .val (.ref b2), .val (.int (0 : Int32))] [(.int (0 : Int32)), (.ref b1)])) rfl rfl (hb hby d17_17) tt_ zz_) ?_
    show Dn p e below s _ _ _ (s₁.setTop (mkF m 18 #[.val (.ref b1), .val (.ref b2), .val (.int (0 : Int32))] [(.int (f1 0))]))
    refine Dn.of (fun tt_ zz_ => XS.aloadN X0.here hx rfl (hb hby d17_18) rfl rfl zz_) ?_
    show Dn p e below s _ _ _ (s₁.setTop (mkF m 19 #[.val (.ref b1), .val (.ref b2), .val (.int (0 : Int32))] [(.ref b2), (.int (f1 0))]))
    refine Dn.of (fun tt_ zz_ => XS.iloadN X0.here hx rfl (hb hby d17_19) rfl zz_) ?_
    show Dn p e below s _ _ _ (s₁.setTop (mkF m 20 #[.val (.ref b1), .val (.ref b2), .val (.int (0 : Int32))] [(.int (0 : Int32)), (.ref b2), (.int (f1 0))]))
    have Rr84 := R2
    obtain ⟨d84, B_84, _, Sd84, _, Hd84, _⟩ := Rr84
    refine Dn.of (fun tt_ zz_ => X0.baloadBytes hx (j := (0 : Int32)) (v := (.int (f2 0))) (by rw [e0]; exact B_84.1) (State.isArrayOf_alike hZ.alike B_84.2.1) B_84.2.2 (inb_of Sd84 (by decide)) (atH Hd84 (inb_of Sd84 (by decide)) (e2 0 (by decide))) (g := (mkF m 20 #[.val (.ref b1), .val (.ref b2), .val (.int (0 : Int32))] [(.int (0 : Int32)), (.ref b2), (.int (f1 0))])) rfl rfl (hb hby d17_20) tt_ zz_) ?_
    show Dn p e below s _ _ _ (s₁.setTop (mkF m 21 #[.val (.ref b1), .val (.ref b2), .val (.int (0 : Int32))] [(.int (f2 0)), (.int (f1 0))]))
    by_cases q0 : (f1 0) = (f2 0)
    · skip
      refine Dn.of (fun tt_ zz_ => XS.icmpYes X0.here hx rfl (pc0 := 21) (pc' := 26) rfl (hb hby d17_21) rfl (teq q0).1 (by decide) (by decide) zz_) ?_
      show Dn p e below s _ _ _ (s₁.setTop (mkF m 26 #[.val (.ref b1), .val (.ref b2), .val (.int (0 : Int32))] []))
      refine Dn.of (fun tt_ zz_ => XS.iinc X0.here hx rfl (hb hby d17_26) rfl (l' := #[.val (.ref b1), .val (.ref b2), .val (.int ((0 : Int32) + (1 : Int32)))]) rfl zz_) ?_
      show Dn p e below s _ _ _ (s₁.setTop (mkF m 29 #[.val (.ref b1), .val (.ref b2), .val (.int ((0 : Int32) + (1 : Int32)))] []))
      refine Dn.of (fun tt_ zz_ => XS.goto X0.here hx rfl (pc0 := 29) (pc' := 9) rfl (hb hby d17_29) (by decide) (by decide) zz_) ?_
      show Dn p e below s _ _ _ (s₁.setTop (mkF m 9 #[.val (.ref b1), .val (.ref b2), .val (.int ((0 : Int32) + (1 : Int32)))] []))
      rw [show ((0 : Int32) + (1 : Int32)) = (1 : Int32) by decide]
      show Dn p e below s _ _ _ (s₁.setTop (mkF m 9 #[.val (.ref b1), .val (.ref b2), .val (.int (1 : Int32))] []))
      refine Dn.of (fun tt_ zz_ => XS.iloadN X0.here hx rfl (hb hby d17_9) rfl zz_) ?_
      show Dn p e below s _ _ _ (s₁.setTop (mkF m 10 #[.val (.ref b1), .val (.ref b2), .val (.int (1 : Int32))] [(.int (1 : Int32))]))
      refine Dn.of (fun tt_ zz_ => XS.aloadN X0.here hx rfl (hb hby d17_10) rfl rfl zz_) ?_
      show Dn p e below s _ _ _ (s₁.setTop (mkF m 11 #[.val (.ref b1), .val (.ref b2), .val (.int (1 : Int32))] [(.ref b1), (.int (1 : Int32))]))
      have Rl85 := R1
      obtain ⟨d85, B_85, _, Sd85, _, _, _⟩ := Rl85
      refine Dn.of (fun tt_ zz_ => X0.arraylength hx (by rw [e0]; exact B_85.1) (State.isArrayOf_alike hZ.alike B_85.2.1) (g := (mkF m 11 #[.val (.ref b1), .val (.ref b2), .val (.int (1 : Int32))] [(.ref b1), (.int (1 : Int32))])) rfl rfl (hb hby d17_11) tt_ zz_) ?_
      rw [Sd85, show (((1 : Int32)).toNatClampNeg).toInt32 = (1 : Int32) by decide]
      show Dn p e below s _ _ _ (s₁.setTop (mkF m 12 #[.val (.ref b1), .val (.ref b2), .val (.int (1 : Int32))] [(.int (1 : Int32)), (.int (1 : Int32))]))
      refine Dn.of (fun tt_ zz_ => XS.icmpYes X0.here hx rfl (pc0 := 12) (pc' := 32) rfl (hb hby d17_12) rfl (flt (by decide)).2.1 (by decide) (by decide) zz_) ?_
      show Dn p e below s _ _ _ (s₁.setTop (mkF m 32 #[.val (.ref b1), .val (.ref b2), .val (.int (1 : Int32))] []))
      refine Dn.of (fun tt_ zz_ => XS.iconst X0.here hx rfl (hb hby d17_32) zz_) ?_
      show Dn p e below s _ _ _ (s₁.setTop (mkF m 33 #[.val (.ref b1), .val (.ref b2), .val (.int (1 : Int32))] [(.int (1 : Int32))]))
      exact Dn.retN X0 hx hlk (t := .boolean) hret (by simp) (hb hby d17_33) (by decide) (by decide) (⟨⟨1, rfl, Or.inr rfl, fun _ => ⟨rfl, fun j hj => by
    have : j = 0 := by have : j < 1 := hj; omega
    subst this; exact q0⟩, fun _ => rfl⟩, N0, e0⟩)
    · skip
      refine Dn.of (fun tt_ zz_ => XS.icmpNo X0.here hx rfl (hb hby d17_21) rfl (feq q0).1 zz_) ?_
      show Dn p e below s _ _ _ (s₁.setTop (mkF m 24 #[.val (.ref b1), .val (.ref b2), .val (.int (0 : Int32))] []))
      refine Dn.of (fun tt_ zz_ => XS.iconst X0.here hx rfl (hb hby d17_24) zz_) ?_
      show Dn p e below s _ _ _ (s₁.setTop (mkF m 25 #[.val (.ref b1), .val (.ref b2), .val (.int (0 : Int32))] [(.int (0 : Int32))]))
      exact Dn.retN X0 hx hlk (t := .boolean) hret (by simp) (hb hby d17_25) (by decide) (by decide) (⟨⟨0, rfl, Or.inl rfl, fun y => absurd y (by decide), fun y => absurd (y.2 0 (by decide)) q0⟩, N0, e0⟩)
  · skip
    refine Dn.of (fun tt_ zz_ => XS.aloadN X0.here hx rfl (hb hby d17_0) rfl rfl zz_) ?_
    show Dn p e below s _ _ _ (s₁.setTop (mkF m 1 #[.val (.ref b1), .val (.ref b2), .unset] [(.ref b1)]))
    have Rl86 := R1
    obtain ⟨d86, B_86, _, Sd86, _, _, _⟩ := Rl86
    refine Dn.of (fun tt_ zz_ => X0.arraylength hx (by rw [e0]; exact B_86.1) (State.isArrayOf_alike hZ.alike B_86.2.1) (g := (mkF m 1 #[.val (.ref b1), .val (.ref b2), .unset] [(.ref b1)])) rfl rfl (hb hby d17_1) tt_ zz_) ?_
    rw [Sd86, show (((1 : Int32)).toNatClampNeg).toInt32 = (1 : Int32) by decide]
    show Dn p e below s _ _ _ (s₁.setTop (mkF m 2 #[.val (.ref b1), .val (.ref b2), .unset] [(.int (1 : Int32))]))
    refine Dn.of (fun tt_ zz_ => XS.aloadN X0.here hx rfl (hb hby d17_2) rfl rfl zz_) ?_
    show Dn p e below s _ _ _ (s₁.setTop (mkF m 3 #[.val (.ref b1), .val (.ref b2), .unset] [(.ref b2), (.int (1 : Int32))]))
    have Rl87 := R2
    obtain ⟨d87, B_87, _, Sd87, _, _, _⟩ := Rl87
    refine Dn.of (fun tt_ zz_ => X0.arraylength hx (by rw [e0]; exact B_87.1) (State.isArrayOf_alike hZ.alike B_87.2.1) (g := (mkF m 3 #[.val (.ref b1), .val (.ref b2), .unset] [(.ref b2), (.int (1 : Int32))])) rfl rfl (hb hby d17_3) tt_ zz_) ?_
    rw [Sd87, show (((2 : Int32)).toNatClampNeg).toInt32 = (2 : Int32) by decide]
    show Dn p e below s _ _ _ (s₁.setTop (mkF m 4 #[.val (.ref b1), .val (.ref b2), .unset] [(.int (2 : Int32)), (.int (1 : Int32))]))
    refine Dn.of (fun tt_ zz_ => XS.icmpYes X0.here hx rfl (pc0 := 4) (pc' := 34) rfl (hb hby d17_4) rfl (feq (by decide)).2 (by decide) (by decide) zz_) ?_
    show Dn p e below s _ _ _ (s₁.setTop (mkF m 34 #[.val (.ref b1), .val (.ref b2), .unset] []))
    refine Dn.of (fun tt_ zz_ => XS.iconst X0.here hx rfl (hb hby d17_34) zz_) ?_
    show Dn p e below s _ _ _ (s₁.setTop (mkF m 35 #[.val (.ref b1), .val (.ref b2), .unset] [(.int (0 : Int32))]))
    exact Dn.retN X0 hx hlk (t := .boolean) hret (by simp) (hb hby d17_35) (by decide) (by decide) (⟨⟨0, rfl, Or.inl rfl, ⟨fun y => absurd y (by decide), fun y => absurd y.1 (by decide)⟩⟩, N0, e0⟩)
  · skip
    refine Dn.of (fun tt_ zz_ => XS.aloadN X0.here hx rfl (hb hby d17_0) rfl rfl zz_) ?_
    show Dn p e below s _ _ _ (s₁.setTop (mkF m 1 #[.val (.ref b1), .val (.ref b2), .unset] [(.ref b1)]))
    have Rl88 := R1
    obtain ⟨d88, B_88, _, Sd88, _, _, _⟩ := Rl88
    refine Dn.of (fun tt_ zz_ => X0.arraylength hx (by rw [e0]; exact B_88.1) (State.isArrayOf_alike hZ.alike B_88.2.1) (g := (mkF m 1 #[.val (.ref b1), .val (.ref b2), .unset] [(.ref b1)])) rfl rfl (hb hby d17_1) tt_ zz_) ?_
    rw [Sd88, show (((2 : Int32)).toNatClampNeg).toInt32 = (2 : Int32) by decide]
    show Dn p e below s _ _ _ (s₁.setTop (mkF m 2 #[.val (.ref b1), .val (.ref b2), .unset] [(.int (2 : Int32))]))
    refine Dn.of (fun tt_ zz_ => XS.aloadN X0.here hx rfl (hb hby d17_2) rfl rfl zz_) ?_
    show Dn p e below s _ _ _ (s₁.setTop (mkF m 3 #[.val (.ref b1), .val (.ref b2), .unset] [(.ref b2), (.int (2 : Int32))]))
    have Rl89 := R2
    obtain ⟨d89, B_89, _, Sd89, _, _, _⟩ := Rl89
    refine Dn.of (fun tt_ zz_ => X0.arraylength hx (by rw [e0]; exact B_89.1) (State.isArrayOf_alike hZ.alike B_89.2.1) (g := (mkF m 3 #[.val (.ref b1), .val (.ref b2), .unset] [(.ref b2), (.int (2 : Int32))])) rfl rfl (hb hby d17_3) tt_ zz_) ?_
    rw [Sd89, show (((0 : Int32)).toNatClampNeg).toInt32 = (0 : Int32) by decide]
    show Dn p e below s _ _ _ (s₁.setTop (mkF m 4 #[.val (.ref b1), .val (.ref b2), .unset] [(.int (0 : Int32)), (.int (2 : Int32))]))
    refine Dn.of (fun tt_ zz_ => XS.icmpYes X0.here hx rfl (pc0 := 4) (pc' := 34) rfl (hb hby d17_4) rfl (feq (by decide)).2 (by decide) (by decide) zz_) ?_
    show Dn p e below s _ _ _ (s₁.setTop (mkF m 34 #[.val (.ref b1), .val (.ref b2), .unset] []))
    refine Dn.of (fun tt_ zz_ => XS.iconst X0.here hx rfl (hb hby d17_34) zz_) ?_
    show Dn p e below s _ _ _ (s₁.setTop (mkF m 35 #[.val (.ref b1), .val (.ref b2), .unset] [(.int (0 : Int32))]))
    exact Dn.retN X0 hx hlk (t := .boolean) hret (by simp) (hb hby d17_35) (by decide) (by decide) (⟨⟨0, rfl, Or.inl rfl, ⟨fun y => absurd y (by decide), fun y => absurd y.1 (by decide)⟩⟩, N0, e0⟩)
  · skip
    refine Dn.of (fun tt_ zz_ => XS.aloadN X0.here hx rfl (hb hby d17_0) rfl rfl zz_) ?_
    show Dn p e below s _ _ _ (s₁.setTop (mkF m 1 #[.val (.ref b1), .val (.ref b2), .unset] [(.ref b1)]))
    have Rl90 := R1
    obtain ⟨d90, B_90, _, Sd90, _, _, _⟩ := Rl90
    refine Dn.of (fun tt_ zz_ => X0.arraylength hx (by rw [e0]; exact B_90.1) (State.isArrayOf_alike hZ.alike B_90.2.1) (g := (mkF m 1 #[.val (.ref b1), .val (.ref b2), .unset] [(.ref b1)])) rfl rfl (hb hby d17_1) tt_ zz_) ?_
    rw [Sd90, show (((2 : Int32)).toNatClampNeg).toInt32 = (2 : Int32) by decide]
    show Dn p e below s _ _ _ (s₁.setTop (mkF m 2 #[.val (.ref b1), .val (.ref b2), .unset] [(.int (2 : Int32))]))
    refine Dn.of (fun tt_ zz_ => XS.aloadN X0.here hx rfl (hb hby d17_2) rfl rfl zz_) ?_
    show Dn p e below s _ _ _ (s₁.setTop (mkF m 3 #[.val (.ref b1), .val (.ref b2), .unset] [(.ref b2), (.int (2 : Int32))]))
    have Rl91 := R2
    obtain ⟨d91, B_91, _, Sd91, _, _, _⟩ := Rl91
    refine Dn.of (fun tt_ zz_ => X0.arraylength hx (by rw [e0]; exact B_91.1) (State.isArrayOf_alike hZ.alike B_91.2.1) (g := (mkF m 3 #[.val (.ref b1), .val (.ref b2), .unset] [(.ref b2), (.int (2 : Int32))])) rfl rfl (hb hby d17_3) tt_ zz_) ?_
    rw [Sd91, show (((1 : Int32)).toNatClampNeg).toInt32 = (1 : Int32) by decide]
    show Dn p e below s _ _ _ (s₁.setTop (mkF m 4 #[.val (.ref b1), .val (.ref b2), .unset] [(.int (1 : Int32)), (.int (2 : Int32))]))
    refine Dn.of (fun tt_ zz_ => XS.icmpYes X0.here hx rfl (pc0 := 4) (pc' := 34) rfl (hb hby d17_4) rfl (feq (by decide)).2 (by decide) (by decide) zz_) ?_
    show Dn p e below s _ _ _ (s₁.setTop (mkF m 34 #[.val (.ref b1), .val (.ref b2), .unset] []))
    refine Dn.of (fun tt_ zz_ => XS.iconst X0.here hx rfl (hb hby d17_34) zz_) ?_
    show Dn p e below s _ _ _ (s₁.setTop (mkF m 35 #[.val (.ref b1), .val (.ref b2), .unset] [(.int (0 : Int32))]))
    exact Dn.retN X0 hx hlk (t := .boolean) hret (by simp) (hb hby d17_35) (by decide) (by decide) (⟨⟨0, rfl, Or.inl rfl, ⟨fun y => absurd y (by decide), fun y => absurd y.1 (by decide)⟩⟩, N0, e0⟩)
  · skip
    refine Dn.of (fun tt_ zz_ => XS.aloadN X0.here hx rfl (hb hby d17_0) rfl rfl zz_) ?_
    show Dn p e below s _ _ _ (s₁.setTop (mkF m 1 #[.val (.ref b1), .val (.ref b2), .unset] [(.ref b1)]))
    have Rl92 := R1
    obtain ⟨d92, B_92, _, Sd92, _, _, _⟩ := Rl92
    refine Dn.of (fun tt_ zz_ => X0.arraylength hx (by rw [e0]; exact B_92.1) (State.isArrayOf_alike hZ.alike B_92.2.1) (g := (mkF m 1 #[.val (.ref b1), .val (.ref b2), .unset] [(.ref b1)])) rfl rfl (hb hby d17_1) tt_ zz_) ?_
    rw [Sd92, show (((2 : Int32)).toNatClampNeg).toInt32 = (2 : Int32) by decide]
    show Dn p e below s _ _ _ (s₁.setTop (mkF m 2 #[.val (.ref b1), .val (.ref b2), .unset] [(.int (2 : Int32))]))
    refine Dn.of (fun tt_ zz_ => XS.aloadN X0.here hx rfl (hb hby d17_2) rfl rfl zz_) ?_
    show Dn p e below s _ _ _ (s₁.setTop (mkF m 3 #[.val (.ref b1), .val (.ref b2), .unset] [(.ref b2), (.int (2 : Int32))]))
    have Rl93 := R2
    obtain ⟨d93, B_93, _, Sd93, _, _, _⟩ := Rl93
    refine Dn.of (fun tt_ zz_ => X0.arraylength hx (by rw [e0]; exact B_93.1) (State.isArrayOf_alike hZ.alike B_93.2.1) (g := (mkF m 3 #[.val (.ref b1), .val (.ref b2), .unset] [(.ref b2), (.int (2 : Int32))])) rfl rfl (hb hby d17_3) tt_ zz_) ?_
    rw [Sd93, show (((2 : Int32)).toNatClampNeg).toInt32 = (2 : Int32) by decide]
    show Dn p e below s _ _ _ (s₁.setTop (mkF m 4 #[.val (.ref b1), .val (.ref b2), .unset] [(.int (2 : Int32)), (.int (2 : Int32))]))
    refine Dn.of (fun tt_ zz_ => XS.icmpNo X0.here hx rfl (hb hby d17_4) rfl (teq rfl).2 zz_) ?_
    show Dn p e below s _ _ _ (s₁.setTop (mkF m 7 #[.val (.ref b1), .val (.ref b2), .unset] []))
    refine Dn.of (fun tt_ zz_ => XS.iconst X0.here hx rfl (hb hby d17_7) zz_) ?_
    show Dn p e below s _ _ _ (s₁.setTop (mkF m 8 #[.val (.ref b1), .val (.ref b2), .unset] [(.int (0 : Int32))]))
    refine Dn.of (fun tt_ zz_ => XS.istoreN X0.here hx rfl (hb hby d17_8) rfl (l' := #[.val (.ref b1), .val (.ref b2), .val (.int (0 : Int32))]) rfl zz_) ?_
    show Dn p e below s _ _ _ (s₁.setTop (mkF m 9 #[.val (.ref b1), .val (.ref b2), .val (.int (0 : Int32))] []))
    refine Dn.of (fun tt_ zz_ => XS.iloadN X0.here hx rfl (hb hby d17_9) rfl zz_) ?_
    show Dn p e below s _ _ _ (s₁.setTop (mkF m 10 #[.val (.ref b1), .val (.ref b2), .val (.int (0 : Int32))] [(.int (0 : Int32))]))
    refine Dn.of (fun tt_ zz_ => XS.aloadN X0.here hx rfl (hb hby d17_10) rfl rfl zz_) ?_
    show Dn p e below s _ _ _ (s₁.setTop (mkF m 11 #[.val (.ref b1), .val (.ref b2), .val (.int (0 : Int32))] [(.ref b1), (.int (0 : Int32))]))
    have Rl94 := R1
    obtain ⟨d94, B_94, _, Sd94, _, _, _⟩ := Rl94
    refine Dn.of (fun tt_ zz_ => X0.arraylength hx (by rw [e0]; exact B_94.1) (State.isArrayOf_alike hZ.alike B_94.2.1) (g := (mkF m 11 #[.val (.ref b1), .val (.ref b2), .val (.int (0 : Int32))] [(.ref b1), (.int (0 : Int32))])) rfl rfl (hb hby d17_11) tt_ zz_) ?_
    rw [Sd94, show (((2 : Int32)).toNatClampNeg).toInt32 = (2 : Int32) by decide]
    show Dn p e below s _ _ _ (s₁.setTop (mkF m 12 #[.val (.ref b1), .val (.ref b2), .val (.int (0 : Int32))] [(.int (2 : Int32)), (.int (0 : Int32))]))
    refine Dn.of (fun tt_ zz_ => XS.icmpNo X0.here hx rfl (hb hby d17_12) rfl (tlt (by decide)).2.1 zz_) ?_
    show Dn p e below s _ _ _ (s₁.setTop (mkF m 15 #[.val (.ref b1), .val (.ref b2), .val (.int (0 : Int32))] []))
    refine Dn.of (fun tt_ zz_ => XS.aloadN X0.here hx rfl (hb hby d17_15) rfl rfl zz_) ?_
    show Dn p e below s _ _ _ (s₁.setTop (mkF m 16 #[.val (.ref b1), .val (.ref b2), .val (.int (0 : Int32))] [(.ref b1)]))
    refine Dn.of (fun tt_ zz_ => XS.iloadN X0.here hx rfl (hb hby d17_16) rfl zz_) ?_
    show Dn p e below s _ _ _ (s₁.setTop (mkF m 17 #[.val (.ref b1), .val (.ref b2), .val (.int (0 : Int32))] [(.int (0 : Int32)), (.ref b1)]))
    have Rr95 := R1
    obtain ⟨d95, B_95, _, Sd95, _, Hd95, _⟩ := Rr95
    refine Dn.of (fun tt_ zz_ => X0.baloadBytes hx (j := (0 : Int32)) (v := (.int (f1 0))) (by rw [e0]; exact B_95.1) (State.isArrayOf_alike hZ.alike B_95.2.1) B_95.2.2 (inb_of Sd95 (by decide)) (atH Hd95 (inb_of Sd95 (by decide)) (e1 0 (by decide))) (g := (mkF m 17 #[.val (.ref b1), .val (.ref b2), .val (.int (0 : Int32))] [(.int (0 : Int32)), (.ref b1)])) rfl rfl (hb hby d17_17) tt_ zz_) ?_
    show Dn p e below s _ _ _ (s₁.setTop (mkF m 18 #[.val (.ref b1), .val (.ref b2), .val (.int (0 : Int32))] [(.int (f1 0))]))
    refine Dn.of (fun tt_ zz_ => XS.aloadN X0.here hx rfl (hb hby d17_18) rfl rfl zz_) ?_
    show Dn p e below s _ _ _ (s₁.setTop (mkF m 19 #[.val (.ref b1), .val (.ref b2), .val (.int (0 : Int32))] [(.ref b2), (.int (f1 0))]))
    refine Dn.of (fun tt_ zz_ => XS.iloadN X0.here hx rfl (hb hby d17_19) rfl zz_) ?_
    show Dn p e below s _ _ _ (s₁.setTop (mkF m 20 #[.val (.ref b1), .val (.ref b2), .val (.int (0 : Int32))] [(.int (0 : Int32)), (.ref b2), (.int (f1 0))]))
    have Rr96 := R2
    obtain ⟨d96, B_96, _, Sd96, _, Hd96, _⟩ := Rr96
    refine Dn.of (fun tt_ zz_ => X0.baloadBytes hx (j := (0 : Int32)) (v := (.int (f2 0))) (by rw [e0]; exact B_96.1) (State.isArrayOf_alike hZ.alike B_96.2.1) B_96.2.2 (inb_of Sd96 (by decide)) (atH Hd96 (inb_of Sd96 (by decide)) (e2 0 (by decide))) (g := (mkF m 20 #[.val (.ref b1), .val (.ref b2), .val (.int (0 : Int32))] [(.int (0 : Int32)), (.ref b2), (.int (f1 0))])) rfl rfl (hb hby d17_20) tt_ zz_) ?_
    show Dn p e below s _ _ _ (s₁.setTop (mkF m 21 #[.val (.ref b1), .val (.ref b2), .val (.int (0 : Int32))] [(.int (f2 0)), (.int (f1 0))]))
    by_cases q0 : (f1 0) = (f2 0)
    · skip
      refine Dn.of (fun tt_ zz_ => XS.icmpYes X0.here hx rfl (pc0 := 21) (pc' := 26) rfl (hb hby d17_21) rfl (teq q0).1 (by decide) (by decide) zz_) ?_
      show Dn p e below s _ _ _ (s₁.setTop (mkF m 26 #[.val (.ref b1), .val (.ref b2), .val (.int (0 : Int32))] []))
      refine Dn.of (fun tt_ zz_ => XS.iinc X0.here hx rfl (hb hby d17_26) rfl (l' := #[.val (.ref b1), .val (.ref b2), .val (.int ((0 : Int32) + (1 : Int32)))]) rfl zz_) ?_
      show Dn p e below s _ _ _ (s₁.setTop (mkF m 29 #[.val (.ref b1), .val (.ref b2), .val (.int ((0 : Int32) + (1 : Int32)))] []))
      refine Dn.of (fun tt_ zz_ => XS.goto X0.here hx rfl (pc0 := 29) (pc' := 9) rfl (hb hby d17_29) (by decide) (by decide) zz_) ?_
      show Dn p e below s _ _ _ (s₁.setTop (mkF m 9 #[.val (.ref b1), .val (.ref b2), .val (.int ((0 : Int32) + (1 : Int32)))] []))
      rw [show ((0 : Int32) + (1 : Int32)) = (1 : Int32) by decide]
      show Dn p e below s _ _ _ (s₁.setTop (mkF m 9 #[.val (.ref b1), .val (.ref b2), .val (.int (1 : Int32))] []))
      refine Dn.of (fun tt_ zz_ => XS.iloadN X0.here hx rfl (hb hby d17_9) rfl zz_) ?_
      show Dn p e below s _ _ _ (s₁.setTop (mkF m 10 #[.val (.ref b1), .val (.ref b2), .val (.int (1 : Int32))] [(.int (1 : Int32))]))
      refine Dn.of (fun tt_ zz_ => XS.aloadN X0.here hx rfl (hb hby d17_10) rfl rfl zz_) ?_
      show Dn p e below s _ _ _ (s₁.setTop (mkF m 11 #[.val (.ref b1), .val (.ref b2), .val (.int (1 : Int32))] [(.ref b1), (.int (1 : Int32))]))
      have Rl97 := R1
      obtain ⟨d97, B_97, _, Sd97, _, _, _⟩ := Rl97
      refine Dn.of (fun tt_ zz_ => X0.arraylength hx (by rw [e0]; exact B_97.1) (State.isArrayOf_alike hZ.alike B_97.2.1) (g := (mkF m 11 #[.val (.ref b1), .val (.ref b2), .val (.int (1 : Int32))] [(.ref b1), (.int (1 : Int32))])) rfl rfl (hb hby d17_11) tt_ zz_) ?_
      rw [Sd97, show (((2 : Int32)).toNatClampNeg).toInt32 = (2 : Int32) by decide]
      show Dn p e below s _ _ _ (s₁.setTop (mkF m 12 #[.val (.ref b1), .val (.ref b2), .val (.int (1 : Int32))] [(.int (2 : Int32)), (.int (1 : Int32))]))
      refine Dn.of (fun tt_ zz_ => XS.icmpNo X0.here hx rfl (hb hby d17_12) rfl (tlt (by decide)).2.1 zz_) ?_
      show Dn p e below s _ _ _ (s₁.setTop (mkF m 15 #[.val (.ref b1), .val (.ref b2), .val (.int (1 : Int32))] []))
      refine Dn.of (fun tt_ zz_ => XS.aloadN X0.here hx rfl (hb hby d17_15) rfl rfl zz_) ?_
      show Dn p e below s _ _ _ (s₁.setTop (mkF m 16 #[.val (.ref b1), .val (.ref b2), .val (.int (1 : Int32))] [(.ref b1)]))
      refine Dn.of (fun tt_ zz_ => XS.iloadN X0.here hx rfl (hb hby d17_16) rfl zz_) ?_
      show Dn p e below s _ _ _ (s₁.setTop (mkF m 17 #[.val (.ref b1), .val (.ref b2), .val (.int (1 : Int32))] [(.int (1 : Int32)), (.ref b1)]))
      have Rr98 := R1
      obtain ⟨d98, B_98, _, Sd98, _, Hd98, _⟩ := Rr98
      refine Dn.of (fun tt_ zz_ => X0.baloadBytes hx (j := (1 : Int32)) (v := (.int (f1 1))) (by rw [e0]; exact B_98.1) (State.isArrayOf_alike hZ.alike B_98.2.1) B_98.2.2 (inb_of Sd98 (by decide)) (atH Hd98 (inb_of Sd98 (by decide)) (e1 1 (by decide))) (g := (mkF m 17 #[.val (.ref b1), .val (.ref b2), .val (.int (1 : Int32))] [(.int (1 : Int32)), (.ref b1)])) rfl rfl (hb hby d17_17) tt_ zz_) ?_
      show Dn p e below s _ _ _ (s₁.setTop (mkF m 18 #[.val (.ref b1), .val (.ref b2), .val (.int (1 : Int32))] [(.int (f1 1))]))
      refine Dn.of (fun tt_ zz_ => XS.aloadN X0.here hx rfl (hb hby d17_18) rfl rfl zz_) ?_
      show Dn p e below s _ _ _ (s₁.setTop (mkF m 19 #[.val (.ref b1), .val (.ref b2), .val (.int (1 : Int32))] [(.ref b2), (.int (f1 1))]))
      refine Dn.of (fun tt_ zz_ => XS.iloadN X0.here hx rfl (hb hby d17_19) rfl zz_) ?_
      show Dn p e below s _ _ _ (s₁.setTop (mkF m 20 #[.val (.ref b1), .val (.ref b2), .val (.int (1 : Int32))] [(.int (1 : Int32)), (.ref b2), (.int (f1 1))]))
      have Rr99 := R2
      obtain ⟨d99, B_99, _, Sd99, _, Hd99, _⟩ := Rr99
      refine Dn.of (fun tt_ zz_ => X0.baloadBytes hx (j := (1 : Int32)) (v := (.int (f2 1))) (by rw [e0]; exact B_99.1) (State.isArrayOf_alike hZ.alike B_99.2.1) B_99.2.2 (inb_of Sd99 (by decide)) (atH Hd99 (inb_of Sd99 (by decide)) (e2 1 (by decide))) (g := (mkF m 20 #[.val (.ref b1), .val (.ref b2), .val (.int (1 : Int32))] [(.int (1 : Int32)), (.ref b2), (.int (f1 1))])) rfl rfl (hb hby d17_20) tt_ zz_) ?_
      show Dn p e below s _ _ _ (s₁.setTop (mkF m 21 #[.val (.ref b1), .val (.ref b2), .val (.int (1 : Int32))] [(.int (f2 1)), (.int (f1 1))]))
      by_cases q1 : (f1 1) = (f2 1)
      · skip
        refine Dn.of (fun tt_ zz_ => XS.icmpYes X0.here hx rfl (pc0 := 21) (pc' := 26) rfl (hb hby d17_21) rfl (teq q1).1 (by decide) (by decide) zz_) ?_
        show Dn p e below s _ _ _ (s₁.setTop (mkF m 26 #[.val (.ref b1), .val (.ref b2), .val (.int (1 : Int32))] []))
        refine Dn.of (fun tt_ zz_ => XS.iinc X0.here hx rfl (hb hby d17_26) rfl (l' := #[.val (.ref b1), .val (.ref b2), .val (.int ((1 : Int32) + (1 : Int32)))]) rfl zz_) ?_
        show Dn p e below s _ _ _ (s₁.setTop (mkF m 29 #[.val (.ref b1), .val (.ref b2), .val (.int ((1 : Int32) + (1 : Int32)))] []))
        refine Dn.of (fun tt_ zz_ => XS.goto X0.here hx rfl (pc0 := 29) (pc' := 9) rfl (hb hby d17_29) (by decide) (by decide) zz_) ?_
        show Dn p e below s _ _ _ (s₁.setTop (mkF m 9 #[.val (.ref b1), .val (.ref b2), .val (.int ((1 : Int32) + (1 : Int32)))] []))
        rw [show ((1 : Int32) + (1 : Int32)) = (2 : Int32) by decide]
        show Dn p e below s _ _ _ (s₁.setTop (mkF m 9 #[.val (.ref b1), .val (.ref b2), .val (.int (2 : Int32))] []))
        refine Dn.of (fun tt_ zz_ => XS.iloadN X0.here hx rfl (hb hby d17_9) rfl zz_) ?_
        show Dn p e below s _ _ _ (s₁.setTop (mkF m 10 #[.val (.ref b1), .val (.ref b2), .val (.int (2 : Int32))] [(.int (2 : Int32))]))
        refine Dn.of (fun tt_ zz_ => XS.aloadN X0.here hx rfl (hb hby d17_10) rfl rfl zz_) ?_
        show Dn p e below s _ _ _ (s₁.setTop (mkF m 11 #[.val (.ref b1), .val (.ref b2), .val (.int (2 : Int32))] [(.ref b1), (.int (2 : Int32))]))
        have Rl100 := R1
        obtain ⟨d100, B_100, _, Sd100, _, _, _⟩ := Rl100
        refine Dn.of (fun tt_ zz_ => X0.arraylength hx (by rw [e0]; exact B_100.1) (State.isArrayOf_alike hZ.alike B_100.2.1) (g := (mkF m 11 #[.val (.ref b1), .val (.ref b2), .val (.int (2 : Int32))] [(.ref b1), (.int (2 : Int32))])) rfl rfl (hb hby d17_11) tt_ zz_) ?_
        rw [Sd100, show (((2 : Int32)).toNatClampNeg).toInt32 = (2 : Int32) by decide]
        show Dn p e below s _ _ _ (s₁.setTop (mkF m 12 #[.val (.ref b1), .val (.ref b2), .val (.int (2 : Int32))] [(.int (2 : Int32)), (.int (2 : Int32))]))
        refine Dn.of (fun tt_ zz_ => XS.icmpYes X0.here hx rfl (pc0 := 12) (pc' := 32) rfl (hb hby d17_12) rfl (flt (by decide)).2.1 (by decide) (by decide) zz_) ?_
        show Dn p e below s _ _ _ (s₁.setTop (mkF m 32 #[.val (.ref b1), .val (.ref b2), .val (.int (2 : Int32))] []))
        refine Dn.of (fun tt_ zz_ => XS.iconst X0.here hx rfl (hb hby d17_32) zz_) ?_
        show Dn p e below s _ _ _ (s₁.setTop (mkF m 33 #[.val (.ref b1), .val (.ref b2), .val (.int (2 : Int32))] [(.int (1 : Int32))]))
        exact Dn.retN X0 hx hlk (t := .boolean) hret (by simp) (hb hby d17_33) (by decide) (by decide) (⟨⟨1, rfl, Or.inr rfl, fun _ => ⟨rfl, fun j hj => by
    have : j = 0 ∨ j = 1 := by have : j < 2 := hj; omega
    rcases this with rfl | rfl
    · exact q0
    · exact q1⟩, fun _ => rfl⟩, N0, e0⟩)
      · skip
        refine Dn.of (fun tt_ zz_ => XS.icmpNo X0.here hx rfl (hb hby d17_21) rfl (feq q1).1 zz_) ?_
        show Dn p e below s _ _ _ (s₁.setTop (mkF m 24 #[.val (.ref b1), .val (.ref b2), .val (.int (1 : Int32))] []))
        refine Dn.of (fun tt_ zz_ => XS.iconst X0.here hx rfl (hb hby d17_24) zz_) ?_
        show Dn p e below s _ _ _ (s₁.setTop (mkF m 25 #[.val (.ref b1), .val (.ref b2), .val (.int (1 : Int32))] [(.int (0 : Int32))]))
        exact Dn.retN X0 hx hlk (t := .boolean) hret (by simp) (hb hby d17_25) (by decide) (by decide) (⟨⟨0, rfl, Or.inl rfl, fun y => absurd y (by decide), fun y => absurd (y.2 1 (by decide)) q1⟩, N0, e0⟩)
    · skip
      refine Dn.of (fun tt_ zz_ => XS.icmpNo X0.here hx rfl (hb hby d17_21) rfl (feq q0).1 zz_) ?_
      show Dn p e below s _ _ _ (s₁.setTop (mkF m 24 #[.val (.ref b1), .val (.ref b2), .val (.int (0 : Int32))] []))
      refine Dn.of (fun tt_ zz_ => XS.iconst X0.here hx rfl (hb hby d17_24) zz_) ?_
      show Dn p e below s _ _ _ (s₁.setTop (mkF m 25 #[.val (.ref b1), .val (.ref b2), .val (.int (0 : Int32))] [(.int (0 : Int32))]))
      exact Dn.retN X0 hx hlk (t := .boolean) hret (by simp) (hb hby d17_25) (by decide) (by decide) (⟨⟨0, rfl, Or.inl rfl, fun y => absurd y (by decide), fun y => absurd (y.2 0 (by decide)) q0⟩, N0, e0⟩)
theorem ef16_AN (m : MethodId) (x0 : Addr) : entryFrame m #[(.ref x0), .null] 3 = mkF m 0 #[.val (.ref x0), .val .null, .unset] [] := by first | (simp [entryFrame, mkF, argsToLocals, Value.category]; done) | rfl
set_option maxRecDepth 65536 in
set_option maxHeartbeats 40000000 in
theorem rmEN (l : Launch) (Z : State) (a0 : Array Value) (hw : ∀ d ∈ tables_1, d.before a0 Z = true) (h0 : Heap) (n0 : Nat) (Z0 : n0 ≤ h0.size) (a : Addr) :
    ctr l Z (⟨"java/lang/String", "equals", "(Ljava/lang/Object;)Z"⟩ : MethodName) jdk_42_method_66_code 3 (some .boolean) [] ({ frames := 0, cells := 0, slots := 0, locals := 0 } : Room) 0 0 #[(.ref a), .null] h0 (fun v h L => v = some (.int (0 : Int32)) ∧ Fr n0 L ∧ h = h0) := by
  refine ctr_of (by decide +kernel) ?_
  intro p e s m below meth jc s₁ hx hby hml hret hlk hnm hown hZ e0 X0
  have N0 := Fr.nil n0
  have hg : ∀ (i : Nat) {d : Jvm.Cond}, tables_1[i]? = some d → d.before a0 Z = true := fun i d q => hw d (List.mem_of_getElem? q)
  refine Dn.cast (ef16_AN m a) ?_
  show Dn p e below s _ _ _ (s₁.setTop (mkF m 0 #[.val (.ref a), .val .null, .unset] []))
  refine Dn.of (fun tt_ zz_ => XS.aloadN X0.here hx rfl (hb hby d16_0) rfl rfl zz_) ?_
  show Dn p e below s _ _ _ (s₁.setTop (mkF m 1 #[.val (.ref a), .val .null, .unset] [(.ref a)]))
  refine Dn.of (fun tt_ zz_ => XS.aloadN X0.here hx rfl (hb hby d16_1) rfl rfl zz_) ?_
  show Dn p e below s _ _ _ (s₁.setTop (mkF m 2 #[.val (.ref a), .val .null, .unset] [.null, (.ref a)]))
  refine Dn.of (fun tt_ zz_ => Jvm.RoadKit.acmp (g := (mkF m 2 #[.val (.ref a), .val .null, .unset] [.null, (.ref a)])) X0 hx rfl rfl rfl (pc0 := 2) (pc' := 7) (same := false) rfl (hb hby d16_2) rfl (by simp) (by decide) (by decide) zz_) ?_
  show Dn p e below s _ _ _ (s₁.setTop (mkF m 7 #[.val (.ref a), .val .null, .unset] []))
  refine Dn.of (fun tt_ zz_ => XS.aloadN X0.here hx rfl (hb hby d16_7) rfl rfl zz_) ?_
  show Dn p e below s _ _ _ (s₁.setTop (mkF m 8 #[.val (.ref a), .val .null, .unset] [.null]))
  refine Dn.of (X0.instanceofNull hx (g := (mkF m 8 #[.val (.ref a), .val .null, .unset] [.null])) rfl rfl (hb hby d16_8)) ?_
  show Dn p e below s _ _ _ (s₁.setTop (mkF m 11 #[.val (.ref a), .val .null, .unset] [(.int (0 : Int32))]))
  refine Dn.of (fun tt_ zz_ => XS.ifYes X0.here hx rfl (pc0 := 11) (pc' := 54) rfl (hb hby d16_11) rfl ((if0 _ _).trans (teq rfl).1) (by decide) (by decide) zz_) ?_
  show Dn p e below s _ _ _ (s₁.setTop (mkF m 54 #[.val (.ref a), .val .null, .unset] []))
  refine Dn.of (fun tt_ zz_ => XS.iconst X0.here hx rfl (hb hby d16_54) zz_) ?_
  show Dn p e below s _ _ _ (s₁.setTop (mkF m 55 #[.val (.ref a), .val .null, .unset] [(.int (0 : Int32))]))
  exact Dn.retN X0 hx hlk (t := .boolean) hret (by simp) (hb hby d16_55) (by decide) (by decide) (⟨rfl, N0, e0⟩)
theorem ef16_AA (m : MethodId) (x0 : Addr) (x1 : Addr) : entryFrame m #[(.ref x0), (.ref x1)] 3 = mkF m 0 #[.val (.ref x0), .val (.ref x1), .unset] [] := by first | (simp [entryFrame, mkF, argsToLocals, Value.category]; done) | rfl
set_option maxRecDepth 65536 in
set_option maxHeartbeats 40000000 in
theorem rmES (l : Launch) (Z : State) (a0 : Array Value) (hw : ∀ d ∈ tables_1, d.before a0 Z = true) (h0 : Heap) (n0 : Nat) (Z0 : n0 ≤ h0.size) (a e_ b1 b2 : Addr) (n1 n2 : Int32) (f1 f2 : Nat → Int32) (cz : Int32) (hcz : ¬ cz = 0) (SZ : Sta Z Z.heap "java/lang/String" "COMPACT_STRINGS" "Z" (.int cz)) (O0 : Old Z n0 h0) (S1 : own_Str Z h0 a b1 n1 f1) (S2 : own_Str Z h0 e_ b2 n2 f2) (hn1 : n1 = 0 ∨ n1 = 1 ∨ n1 = 2) (hn2 : n2 = 0 ∨ n2 = 1 ∨ n2 = 2) :
    ctr l Z (⟨"java/lang/String", "equals", "(Ljava/lang/Object;)Z"⟩ : MethodName) jdk_42_method_66_code 3 (some .boolean) [] ({ frames := 1, cells := 0, slots := 0, locals := 16 } : Room) 0 0 #[(.ref a), (.ref e_)] h0 (fun v h L => (∃ r : Int32, v = some (.int r) ∧ (r = 0 ∨ r = 1) ∧ (r = 1 ↔ (n1 = n2 ∧ ∀ i : Nat, i < n1.toNatClampNeg → f1 i = f2 i))) ∧ Fr n0 L ∧ h = h0) := by
  refine ctr_of (by decide +kernel) ?_
  intro p e s m below meth jc s₁ hx hby hml hret hlk hnm hown hZ e0 X0
  have N0 := Fr.nil n0
  have hg : ∀ (i : Nat) {d : Jvm.Cond}, tables_1[i]? = some d → d.before a0 Z = true := fun i d q => hw d (List.mem_of_getElem? q)
  refine Dn.cast (ef16_AA m a e_) ?_
  show Dn p e below s _ _ _ (s₁.setTop (mkF m 0 #[.val (.ref a), .val (.ref e_), .unset] []))
  refine Dn.of (fun tt_ zz_ => XS.aloadN X0.here hx rfl (hb hby d16_0) rfl rfl zz_) ?_
  show Dn p e below s _ _ _ (s₁.setTop (mkF m 1 #[.val (.ref a), .val (.ref e_), .unset] [(.ref a)]))
  refine Dn.of (fun tt_ zz_ => XS.aloadN X0.here hx rfl (hb hby d16_1) rfl rfl zz_) ?_
  show Dn p e below s _ _ _ (s₁.setTop (mkF m 2 #[.val (.ref a), .val (.ref e_), .unset] [(.ref e_), (.ref a)]))
  by_cases he : a = e_
  · skip
    refine Dn.of (fun tt_ zz_ => Jvm.RoadKit.acmp (g := (mkF m 2 #[.val (.ref a), .val (.ref e_), .unset] [(.ref e_), (.ref a)])) X0 hx rfl rfl rfl (pc0 := 2) (pc' := 5) (same := true) rfl (hb hby d16_2) rfl (decide_eq_true (by rw [he])) (by decide) (by decide) zz_) ?_
    show Dn p e below s _ _ _ (s₁.setTop (mkF m 5 #[.val (.ref a), .val (.ref e_), .unset] []))
    refine Dn.of (fun tt_ zz_ => XS.iconst X0.here hx rfl (hb hby d16_5) zz_) ?_
    show Dn p e below s _ _ _ (s₁.setTop (mkF m 6 #[.val (.ref a), .val (.ref e_), .unset] [(.int (1 : Int32))]))
    exact Dn.retN X0 hx hlk (t := .boolean) hret (by simp) (hb hby d16_6) (by decide) (by decide) (⟨⟨1, rfl, Or.inr rfl, fun _ => by subst he; exact S1.same S2, fun _ => rfl⟩, N0, e0⟩)
  · skip
    refine Dn.of (fun tt_ zz_ => Jvm.RoadKit.acmp (g := (mkF m 2 #[.val (.ref a), .val (.ref e_), .unset] [(.ref e_), (.ref a)])) X0 hx rfl rfl rfl (pc0 := 2) (pc' := 7) (same := false) rfl (hb hby d16_2) rfl (decide_eq_false (fun y => he (by cases y; rfl))) (by decide) (by decide) zz_) ?_
    show Dn p e below s _ _ _ (s₁.setTop (mkF m 7 #[.val (.ref a), .val (.ref e_), .unset] []))
    obtain ⟨k1, hs1, A1, B1, C1, D1, G1⟩ := S1
    obtain ⟨k2, hs2, A2, B2, C2, D2, G2⟩ := S2
    refine Dn.of (fun tt_ zz_ => XS.aloadN X0.here hx rfl (hb hby d16_7) rfl rfl zz_) ?_
    show Dn p e below s _ _ _ (s₁.setTop (mkF m 8 #[.val (.ref a), .val (.ref e_), .unset] [(.ref e_)]))
    obtain ⟨T101, X101, e101, st101⟩ := instY X0 hx hZ hown (hg 88 rfl) e0 (Ins.self A2) (g := (mkF m 8 #[.val (.ref a), .val (.ref e_), .unset] [(.ref e_)])) rfl rfl (hb hby d16_8)
    refine Dn.of st101 ?_
    show Dn p e below s _ _ _ (T101.setTop (mkF m 11 #[.val (.ref a), .val (.ref e_), .unset] [(.int (1 : Int32))]))
    refine Dn.of (fun tt_ zz_ => XS.ifNo X101.here hx rfl (hb hby d16_11) rfl ((if0 _ _).trans (feq (by decide)).1) zz_) ?_
    show Dn p e below s _ _ _ (T101.setTop (mkF m 14 #[.val (.ref a), .val (.ref e_), .unset] []))
    refine Dn.of (fun tt_ zz_ => XS.aloadN X101.here hx rfl (hb hby d16_14) rfl rfl zz_) ?_
    show Dn p e below s _ _ _ (T101.setTop (mkF m 15 #[.val (.ref a), .val (.ref e_), .unset] [(.ref e_)]))
    obtain ⟨T102, X102, e102, st102⟩ := castY X101 hx hZ hown (hg 88 rfl) e101 (Ins.self A2) (g := (mkF m 15 #[.val (.ref a), .val (.ref e_), .unset] [(.ref e_)])) rfl rfl (hb hby d16_15)
    refine Dn.of st102 ?_
    show Dn p e below s _ _ _ (T102.setTop (mkF m 18 #[.val (.ref a), .val (.ref e_), .unset] [(.ref e_)]))
    refine Dn.of (fun tt_ zz_ => XS.astoreN X102.here hx rfl (hb hby d16_18) rfl rfl (l' := #[.val (.ref a), .val (.ref e_), .val (.ref e_)]) rfl zz_) ?_
    show Dn p e below s _ _ _ (T102.setTop (mkF m 19 #[.val (.ref a), .val (.ref e_), .val (.ref e_)] []))
    obtain ⟨T103, X103, e103, st103⟩ := getS2 X102 hx hZ hown (host := "") (Or.inl (hg 66 rfl)) Via.refl e102 (SZ.ext O0.2) (g := (mkF m 19 #[.val (.ref a), .val (.ref e_), .val (.ref e_)] [])) rfl (hb hby d16_19)
    refine Dn.of st103 ?_
    show Dn p e below s _ _ _ (T103.setTop (mkF m 22 #[.val (.ref a), .val (.ref e_), .val (.ref e_)] [(.int cz)]))
    refine Dn.of (fun tt_ zz_ => XS.ifNo X103.here hx rfl (hb hby d16_22) rfl ((if0 _ _).trans (feq hcz).1) zz_) ?_
    show Dn p e below s _ _ _ (T103.setTop (mkF m 25 #[.val (.ref a), .val (.ref e_), .val (.ref e_)] []))
    refine Dn.of (fun tt_ zz_ => XS.aloadN X103.here hx rfl (hb hby d16_25) rfl rfl zz_) ?_
    show Dn p e below s _ _ _ (T103.setTop (mkF m 26 #[.val (.ref a), .val (.ref e_), .val (.ref e_)] [(.ref a)]))
    obtain ⟨T104, X104, e104, st104⟩ := getF X103 hx hZ hown (host := "") (Or.inl (hg 77 rfl)) Via.refl e103 B1 (g := (mkF m 26 #[.val (.ref a), .val (.ref e_), .val (.ref e_)] [(.ref a)])) rfl rfl (hb hby d16_26)
    refine Dn.of st104 ?_
    show Dn p e below s _ _ _ (T104.setTop (mkF m 29 #[.val (.ref a), .val (.ref e_), .val (.ref e_)] [(.int (0 : Int32))]))
    refine Dn.of (fun tt_ zz_ => XS.aloadN X104.here hx rfl (hb hby d16_29) rfl rfl zz_) ?_
    show Dn p e below s _ _ _ (T104.setTop (mkF m 30 #[.val (.ref a), .val (.ref e_), .val (.ref e_)] [(.ref e_), (.int (0 : Int32))]))
    obtain ⟨T105, X105, e105, st105⟩ := getF X104 hx hZ hown (host := "") (Or.inl (hg 77 rfl)) Via.refl e104 B2 (g := (mkF m 30 #[.val (.ref a), .val (.ref e_), .val (.ref e_)] [(.ref e_), (.int (0 : Int32))])) rfl rfl (hb hby d16_30)
    refine Dn.of st105 ?_
    show Dn p e below s _ _ _ (T105.setTop (mkF m 33 #[.val (.ref a), .val (.ref e_), .val (.ref e_)] [(.int (0 : Int32)), (.int (0 : Int32))]))
    refine Dn.of (fun tt_ zz_ => XS.icmpNo X105.here hx rfl (hb hby d16_33) rfl (teq rfl).2 zz_) ?_
    show Dn p e below s _ _ _ (T105.setTop (mkF m 36 #[.val (.ref a), .val (.ref e_), .val (.ref e_)] []))
    refine Dn.of (fun tt_ zz_ => XS.aloadN X105.here hx rfl (hb hby d16_36) rfl rfl zz_) ?_
    show Dn p e below s _ _ _ (T105.setTop (mkF m 37 #[.val (.ref a), .val (.ref e_), .val (.ref e_)] [(.ref a)]))
    obtain ⟨T106, X106, e106, st106⟩ := getF X105 hx hZ hown (host := "") (Or.inl (hg 78 rfl)) Via.refl e105 C1 (g := (mkF m 37 #[.val (.ref a), .val (.ref e_), .val (.ref e_)] [(.ref a)])) rfl rfl (hb hby d16_37)
    refine Dn.of st106 ?_
    show Dn p e below s _ _ _ (T106.setTop (mkF m 40 #[.val (.ref a), .val (.ref e_), .val (.ref e_)] [(.ref b1)]))
    refine Dn.of (fun tt_ zz_ => XS.aloadN X106.here hx rfl (hb hby d16_40) rfl rfl zz_) ?_
    show Dn p e below s _ _ _ (T106.setTop (mkF m 41 #[.val (.ref a), .val (.ref e_), .val (.ref e_)] [(.ref e_), (.ref b1)]))
    obtain ⟨T107, X107, e107, st107⟩ := getF X106 hx hZ hown (host := "") (Or.inl (hg 78 rfl)) Via.refl e106 C2 (g := (mkF m 41 #[.val (.ref a), .val (.ref e_), .val (.ref e_)] [(.ref e_), (.ref b1)])) rfl rfl (hb hby d16_41)
    refine Dn.of st107 ?_
    show Dn p e below s _ _ _ (T107.setTop (mkF m 44 #[.val (.ref a), .val (.ref e_), .val (.ref e_)] [(.ref b2), (.ref b1)]))
    obtain ⟨v108, T108, L108, Q108, X108, st108⟩ := cSt X107 hx hZ (y := (⟨"java/lang/StringLatin1", "equals", "([B[B)Z"⟩ : MethodName)) hown (hg 100 rfl) (hg 101 rfl) (hg 86 rfl) (hg 102 rfl) (by decide) (argsL := [(.ref b1), (.ref b2)]) (rest := []) (rmLE l Z a0 hw h0 n0 Z0 b1 b2 k1 k2 hs1 hs2 n1 n2 f1 f2 D1 D2 G1 G2 hn1 hn2) e107  0 (by decide) (by decide) (by decide) (by decide) (g := (mkF m 44 #[.val (.ref a), .val (.ref e_), .val (.ref e_)] [(.ref b2), (.ref b1)])) rfl (by rw [hml]; rfl) (lenOf pd10 rfl) rfl (by show 2 * 0 + _ ≤ _; exact Nat.le_of_eq rfl) (hb hby d16_44)
    obtain ⟨⟨r, rfl, hr, hi⟩, M1, e108⟩ := Q108
    refine Dn.of st108 ?_
    show Dn p e below s _ _ _ (T108.setTop (mkF m 47 #[.val (.ref a), .val (.ref e_), .val (.ref e_)] [(.int r)]))
    by_cases hq : r = (0 : Int32)
    · skip
      refine Dn.of (fun tt_ zz_ => XS.ifYes X108.here hx rfl (pc0 := 47) (pc' := 54) rfl (hb hby d16_47) rfl ((if0 _ _).trans (teq hq).1) (by decide) (by decide) zz_) ?_
      show Dn p e below s _ _ _ (T108.setTop (mkF m 54 #[.val (.ref a), .val (.ref e_), .val (.ref e_)] []))
      refine Dn.of (fun tt_ zz_ => XS.iconst X108.here hx rfl (hb hby d16_54) zz_) ?_
      show Dn p e below s _ _ _ (T108.setTop (mkF m 55 #[.val (.ref a), .val (.ref e_), .val (.ref e_)] [(.int (0 : Int32))]))
      exact Dn.retN X108 hx hlk (t := .boolean) hret (by simp) (hb hby d16_55) (by decide) (by decide) (⟨⟨0, rfl, Or.inl rfl, fun y => absurd y (by decide), fun y => absurd (hi.mpr y) (by rw [hq]; decide)⟩, Fr.app N0 M1, e108⟩)
    · skip
      refine Dn.of (fun tt_ zz_ => XS.ifNo X108.here hx rfl (hb hby d16_47) rfl ((if0 _ _).trans (feq hq).1) zz_) ?_
      show Dn p e below s _ _ _ (T108.setTop (mkF m 50 #[.val (.ref a), .val (.ref e_), .val (.ref e_)] []))
      refine Dn.of (fun tt_ zz_ => XS.iconst X108.here hx rfl (hb hby d16_50) zz_) ?_
      show Dn p e below s _ _ _ (T108.setTop (mkF m 51 #[.val (.ref a), .val (.ref e_), .val (.ref e_)] [(.int (1 : Int32))]))
      refine Dn.of (fun tt_ zz_ => XS.goto X108.here hx rfl (pc0 := 51) (pc' := 55) rfl (hb hby d16_51) (by decide) (by decide) zz_) ?_
      show Dn p e below s _ _ _ (T108.setTop (mkF m 55 #[.val (.ref a), .val (.ref e_), .val (.ref e_)] [(.int (1 : Int32))]))
      exact Dn.retN X108 hx hlk (t := .boolean) hret (by simp) (hb hby d16_55) (by decide) (by decide) (⟨⟨1, rfl, Or.inr rfl, fun _ => hi.mp (hr.resolve_left hq), fun _ => rfl⟩, Fr.app N0 M1, e108⟩)
set_option maxHeartbeats 4000000 in
theorem ef6_AVN (m : MethodId) (x0 : Addr) (x1 : Value) (r1 : x1.isRef = true) : entryFrame m #[(.ref x0), x1, .null] 3 = mkF m 0 #[.val (.ref x0), .val x1, .val .null] [] := by rcases ref_cases r1 with rfl | ⟨y1, rfl⟩ <;> first | (simp [entryFrame, mkF, argsToLocals, Value.category]; done) | rfl
set_option maxRecDepth 65536 in
set_option maxHeartbeats 40000000 in
theorem rmIN (l : Launch) (Z : State) (a0 : Array Value) (hw : ∀ d ∈ tables_1, d.before a0 Z = true) (h0 : Heap) (n0 : Nat) (Z0 : n0 ≤ h0.size) (t_ a : Addr) (u k : Value) (ru : u.isRef = true) (rk : k.isRef = true) (E0 : Exa Z h0 t_ "com/example/warmfront/warmfront/js/Token") (F1 : Fld Z h0 t_ "com/example/warmfront/warmfront/js/Token" "kind" "Lcom/example/warmfront/warmfront/js/Token$Kind;" u) (F2 : Fld Z h0 t_ "com/example/warmfront/warmfront/js/Token" "text" "Ljava/lang/String;" (.ref a)) (b1 : Addr) (n1 : Int32) (f1 : Nat → Int32) (S1 : own_Str Z h0 a b1 n1 f1) :
    ctr l Z (⟨"com/example/warmfront/warmfront/js/Token", "is", "(Lcom/example/warmfront/warmfront/js/Token$Kind;Ljava/lang/String;)Z"⟩ : MethodName) prog_33_method_2_code 3 (some .boolean) [] ({ frames := 1, cells := 0, slots := 0, locals := 16 } : Room) 0 0 #[(.ref t_), k, .null] h0 (fun v h L => v = some (.int (0 : Int32)) ∧ Fr n0 L ∧ h = h0) := by
  refine ctr_of (plainFor_of_name pn2) ?_
  intro p e s m below meth jc s₁ hx hby hml hret hlk hnm hown hZ e0 X0
  have N0 := Fr.nil n0
  have hg : ∀ (i : Nat) {d : Jvm.Cond}, tables_1[i]? = some d → d.before a0 Z = true := fun i d q => hw d (List.mem_of_getElem? q)
  refine Dn.cast (ef6_AVN m t_ k rk) ?_
  show Dn p e below s _ _ _ (s₁.setTop (mkF m 0 #[.val (.ref t_), .val k, .val .null] []))
  have EA := own_exa S1
  refine Dn.of (fun tt_ zz_ => XS.aloadN X0.here hx rfl (hb hby d6_0) rfl rfl zz_) ?_
  show Dn p e below s _ _ _ (s₁.setTop (mkF m 1 #[.val (.ref t_), .val k, .val .null] [(.ref t_)]))
  obtain ⟨T109, X109, e109, st109⟩ := getF X0 hx hZ hown (host := "") (Or.inl (hg 33 rfl)) Via.refl e0 F1 (g := (mkF m 1 #[.val (.ref t_), .val k, .val .null] [(.ref t_)])) rfl rfl (hb hby d6_1)
  refine Dn.of st109 ?_
  show Dn p e below s _ _ _ (T109.setTop (mkF m 4 #[.val (.ref t_), .val k, .val .null] [u]))
  refine Dn.of (fun tt_ zz_ => XS.aloadN X109.here hx rfl (hb hby d6_4) rfl rk zz_) ?_
  show Dn p e below s _ _ _ (T109.setTop (mkF m 5 #[.val (.ref t_), .val k, .val .null] [k, u]))
  by_cases hq : u = k
  · skip
    refine Dn.of (fun tt_ zz_ => Jvm.RoadKit.acmp (g := (mkF m 5 #[.val (.ref t_), .val k, .val .null] [k, u])) X109 hx rfl ru rk (pc0 := 5) (pc' := 8) (same := true) rfl (hb hby d6_5) rfl (decide_eq_true hq) (by decide) (by decide) zz_) ?_
    show Dn p e below s _ _ _ (T109.setTop (mkF m 8 #[.val (.ref t_), .val k, .val .null] []))
    refine Dn.of (fun tt_ zz_ => XS.aloadN X109.here hx rfl (hb hby d6_8) rfl rfl zz_) ?_
    show Dn p e below s _ _ _ (T109.setTop (mkF m 9 #[.val (.ref t_), .val k, .val .null] [(.ref t_)]))
    obtain ⟨T110, X110, e110, st110⟩ := getF X109 hx hZ hown (host := "") (Or.inl (hg 35 rfl)) Via.refl e109 F2 (g := (mkF m 9 #[.val (.ref t_), .val k, .val .null] [(.ref t_)])) rfl rfl (hb hby d6_9)
    refine Dn.of st110 ?_
    show Dn p e below s _ _ _ (T110.setTop (mkF m 12 #[.val (.ref t_), .val k, .val .null] [(.ref a)]))
    refine Dn.of (fun tt_ zz_ => XS.aloadN X110.here hx rfl (hb hby d6_12) rfl rfl zz_) ?_
    show Dn p e below s _ _ _ (T110.setTop (mkF m 13 #[.val (.ref t_), .val k, .val .null] [.null, (.ref a)]))
    obtain ⟨v111, T111, L111, Q111, X111, st111⟩ := cVi X110 hx hZ (C := "java/lang/String") (y := (⟨"java/lang/String", "equals", "(Ljava/lang/Object;)Z"⟩ : MethodName)) (z := (⟨"java/lang/String", "equals", "(Ljava/lang/Object;)Z"⟩ : MethodName)) hown (hg 95 rfl) (hg 96 rfl) (notFace_of_selects (args := #[]) (mvT hZ (hg 98 rfl))) (hg 98 rfl) (hg 97 rfl) (hg 6 rfl) (hg 99 rfl) (by decide) (a := a) (argsL := [.null]) (rest := []) (rmEN l Z a0 hw h0 n0 Z0 a) e110 EA 0 (by decide) (by decide) (by decide) (by decide) (g := (mkF m 13 #[.val (.ref t_), .val k, .val .null] [.null, (.ref a)])) rfl (by rw [hml]; rfl) (lenOf pd11 rfl) rfl (by show 2 * 0 + _ ≤ _; exact Nat.le_of_eq rfl) (hb hby d6_13)
    obtain ⟨rfl, M1, e111⟩ := Q111
    refine Dn.of st111 ?_
    show Dn p e below s _ _ _ (T111.setTop (mkF m 16 #[.val (.ref t_), .val k, .val .null] [(.int (0 : Int32))]))
    refine Dn.of (fun tt_ zz_ => XS.ifYes X111.here hx rfl (pc0 := 16) (pc' := 23) rfl (hb hby d6_16) rfl ((if0 _ _).trans (teq rfl).1) (by decide) (by decide) zz_) ?_
    show Dn p e below s _ _ _ (T111.setTop (mkF m 23 #[.val (.ref t_), .val k, .val .null] []))
    refine Dn.of (fun tt_ zz_ => XS.iconst X111.here hx rfl (hb hby d6_23) zz_) ?_
    show Dn p e below s _ _ _ (T111.setTop (mkF m 24 #[.val (.ref t_), .val k, .val .null] [(.int (0 : Int32))]))
    exact Dn.retN X111 hx hlk (t := .boolean) hret (by simp) (hb hby d6_24) (by decide) (by decide) (⟨rfl, Fr.app N0 M1, e111⟩)
  · skip
    refine Dn.of (fun tt_ zz_ => Jvm.RoadKit.acmp (g := (mkF m 5 #[.val (.ref t_), .val k, .val .null] [k, u])) X109 hx rfl ru rk (pc0 := 5) (pc' := 23) (same := false) rfl (hb hby d6_5) rfl (decide_eq_false hq) (by decide) (by decide) zz_) ?_
    show Dn p e below s _ _ _ (T109.setTop (mkF m 23 #[.val (.ref t_), .val k, .val .null] []))
    refine Dn.of (fun tt_ zz_ => XS.iconst X109.here hx rfl (hb hby d6_23) zz_) ?_
    show Dn p e below s _ _ _ (T109.setTop (mkF m 24 #[.val (.ref t_), .val k, .val .null] [(.int (0 : Int32))]))
    exact Dn.retN X109 hx hlk (t := .boolean) hret (by simp) (hb hby d6_24) (by decide) (by decide) (⟨rfl, N0, e109⟩)
set_option maxHeartbeats 4000000 in
theorem ef6_AVA (m : MethodId) (x0 : Addr) (x1 : Value) (x2 : Addr) (r1 : x1.isRef = true) : entryFrame m #[(.ref x0), x1, (.ref x2)] 3 = mkF m 0 #[.val (.ref x0), .val x1, .val (.ref x2)] [] := by rcases ref_cases r1 with rfl | ⟨y1, rfl⟩ <;> first | (simp [entryFrame, mkF, argsToLocals, Value.category]; done) | rfl
set_option maxRecDepth 65536 in
set_option maxHeartbeats 40000000 in
theorem rmIS (l : Launch) (Z : State) (a0 : Array Value) (hw : ∀ d ∈ tables_1, d.before a0 Z = true) (h0 : Heap) (n0 : Nat) (Z0 : n0 ≤ h0.size) (t_ a : Addr) (u k : Value) (ru : u.isRef = true) (rk : k.isRef = true) (E0 : Exa Z h0 t_ "com/example/warmfront/warmfront/js/Token") (F1 : Fld Z h0 t_ "com/example/warmfront/warmfront/js/Token" "kind" "Lcom/example/warmfront/warmfront/js/Token$Kind;" u) (F2 : Fld Z h0 t_ "com/example/warmfront/warmfront/js/Token" "text" "Ljava/lang/String;" (.ref a)) (e_ b1 b2 : Addr) (n1 n2 : Int32) (f1 f2 : Nat → Int32) (cz : Int32) (hcz : ¬ cz = 0) (SZ : Sta Z Z.heap "java/lang/String" "COMPACT_STRINGS" "Z" (.int cz)) (O0 : Old Z n0 h0) (S1 : own_Str Z h0 a b1 n1 f1) (S2 : own_Str Z h0 e_ b2 n2 f2) (hn1 : n1 = 0 ∨ n1 = 1 ∨ n1 = 2) (hn2 : n2 = 0 ∨ n2 = 1 ∨ n2 = 2) :
    ctr l Z (⟨"com/example/warmfront/warmfront/js/Token", "is", "(Lcom/example/warmfront/warmfront/js/Token$Kind;Ljava/lang/String;)Z"⟩ : MethodName) prog_33_method_2_code 3 (some .boolean) [] ({ frames := 2, cells := 0, slots := 0, locals := 34 } : Room) 0 0 #[(.ref t_), k, (.ref e_)] h0 (fun v h L => (∃ r : Int32, v = some (.int r) ∧ (r = 0 ∨ r = 1) ∧ (r = 1 ↔ (u = k ∧ (n1 = n2 ∧ ∀ i : Nat, i < n1.toNatClampNeg → f1 i = f2 i)))) ∧ Fr n0 L ∧ h = h0) := by
  refine ctr_of (plainFor_of_name pn2) ?_
  intro p e s m below meth jc s₁ hx hby hml hret hlk hnm hown hZ e0 X0
  have N0 := Fr.nil n0
  have hg : ∀ (i : Nat) {d : Jvm.Cond}, tables_1[i]? = some d → d.before a0 Z = true := fun i d q => hw d (List.mem_of_getElem? q)
  refine Dn.cast (ef6_AVA m t_ k e_ rk) ?_
  show Dn p e below s _ _ _ (s₁.setTop (mkF m 0 #[.val (.ref t_), .val k, .val (.ref e_)] []))
  have EA := own_exa S1
  refine Dn.of (fun tt_ zz_ => XS.aloadN X0.here hx rfl (hb hby d6_0) rfl rfl zz_) ?_
  show Dn p e below s _ _ _ (s₁.setTop (mkF m 1 #[.val (.ref t_), .val k, .val (.ref e_)] [(.ref t_)]))
  obtain ⟨T112, X112, e112, st112⟩ := getF X0 hx hZ hown (host := "") (Or.inl (hg 33 rfl)) Via.refl e0 F1 (g := (mkF m 1 #[.val (.ref t_), .val k, .val (.ref e_)] [(.ref t_)])) rfl rfl (hb hby d6_1)
  refine Dn.of st112 ?_
  show Dn p e below s _ _ _ (T112.setTop (mkF m 4 #[.val (.ref t_), .val k, .val (.ref e_)] [u]))
  refine Dn.of (fun tt_ zz_ => XS.aloadN X112.here hx rfl (hb hby d6_4) rfl rk zz_) ?_
  show Dn p e below s _ _ _ (T112.setTop (mkF m 5 #[.val (.ref t_), .val k, .val (.ref e_)] [k, u]))
  by_cases hq : u = k
  · skip
    refine Dn.of (fun tt_ zz_ => Jvm.RoadKit.acmp (g := (mkF m 5 #[.val (.ref t_), .val k, .val (.ref e_)] [k, u])) X112 hx rfl ru rk (pc0 := 5) (pc' := 8) (same := true) rfl (hb hby d6_5) rfl (decide_eq_true hq) (by decide) (by decide) zz_) ?_
    show Dn p e below s _ _ _ (T112.setTop (mkF m 8 #[.val (.ref t_), .val k, .val (.ref e_)] []))
    refine Dn.of (fun tt_ zz_ => XS.aloadN X112.here hx rfl (hb hby d6_8) rfl rfl zz_) ?_
    show Dn p e below s _ _ _ (T112.setTop (mkF m 9 #[.val (.ref t_), .val k, .val (.ref e_)] [(.ref t_)]))
    obtain ⟨T113, X113, e113, st113⟩ := getF X112 hx hZ hown (host := "") (Or.inl (hg 35 rfl)) Via.refl e112 F2 (g := (mkF m 9 #[.val (.ref t_), .val k, .val (.ref e_)] [(.ref t_)])) rfl rfl (hb hby d6_9)
    refine Dn.of st113 ?_
    show Dn p e below s _ _ _ (T113.setTop (mkF m 12 #[.val (.ref t_), .val k, .val (.ref e_)] [(.ref a)]))
    refine Dn.of (fun tt_ zz_ => XS.aloadN X113.here hx rfl (hb hby d6_12) rfl rfl zz_) ?_
    show Dn p e below s _ _ _ (T113.setTop (mkF m 13 #[.val (.ref t_), .val k, .val (.ref e_)] [(.ref e_), (.ref a)]))
    obtain ⟨v114, T114, L114, Q114, X114, st114⟩ := cVi X113 hx hZ (C := "java/lang/String") (y := (⟨"java/lang/String", "equals", "(Ljava/lang/Object;)Z"⟩ : MethodName)) (z := (⟨"java/lang/String", "equals", "(Ljava/lang/Object;)Z"⟩ : MethodName)) hown (hg 95 rfl) (hg 96 rfl) (notFace_of_selects (args := #[]) (mvT hZ (hg 98 rfl))) (hg 98 rfl) (hg 97 rfl) (hg 6 rfl) (hg 99 rfl) (by decide) (a := a) (argsL := [(.ref e_)]) (rest := []) (rmES l Z a0 hw h0 n0 Z0 a e_ b1 b2 n1 n2 f1 f2 cz hcz SZ O0 S1 S2 hn1 hn2) e113 EA 0 (by decide) (by decide) (by decide) (by decide) (g := (mkF m 13 #[.val (.ref t_), .val k, .val (.ref e_)] [(.ref e_), (.ref a)])) rfl (by rw [hml]; rfl) (lenOf pd11 rfl) rfl (by show 2 * 0 + _ ≤ _; exact Nat.le_of_eq rfl) (hb hby d6_13)
    obtain ⟨⟨r, rfl, hr, hi⟩, M1, e114⟩ := Q114
    refine Dn.of st114 ?_
    show Dn p e below s _ _ _ (T114.setTop (mkF m 16 #[.val (.ref t_), .val k, .val (.ref e_)] [(.int r)]))
    by_cases hz : r = (0 : Int32)
    · skip
      refine Dn.of (fun tt_ zz_ => XS.ifYes X114.here hx rfl (pc0 := 16) (pc' := 23) rfl (hb hby d6_16) rfl ((if0 _ _).trans (teq hz).1) (by decide) (by decide) zz_) ?_
      show Dn p e below s _ _ _ (T114.setTop (mkF m 23 #[.val (.ref t_), .val k, .val (.ref e_)] []))
      refine Dn.of (fun tt_ zz_ => XS.iconst X114.here hx rfl (hb hby d6_23) zz_) ?_
      show Dn p e below s _ _ _ (T114.setTop (mkF m 24 #[.val (.ref t_), .val k, .val (.ref e_)] [(.int (0 : Int32))]))
      exact Dn.retN X114 hx hlk (t := .boolean) hret (by simp) (hb hby d6_24) (by decide) (by decide) (⟨⟨0, rfl, Or.inl rfl, fun y => absurd y (by decide), fun y => absurd (hi.mpr y.2) (by rw [hz]; decide)⟩, Fr.app N0 M1, e114⟩)
    · skip
      refine Dn.of (fun tt_ zz_ => XS.ifNo X114.here hx rfl (hb hby d6_16) rfl ((if0 _ _).trans (feq hz).1) zz_) ?_
      show Dn p e below s _ _ _ (T114.setTop (mkF m 19 #[.val (.ref t_), .val k, .val (.ref e_)] []))
      refine Dn.of (fun tt_ zz_ => XS.iconst X114.here hx rfl (hb hby d6_19) zz_) ?_
      show Dn p e below s _ _ _ (T114.setTop (mkF m 20 #[.val (.ref t_), .val k, .val (.ref e_)] [(.int (1 : Int32))]))
      refine Dn.of (fun tt_ zz_ => XS.goto X114.here hx rfl (pc0 := 20) (pc' := 24) rfl (hb hby d6_20) (by decide) (by decide) zz_) ?_
      show Dn p e below s _ _ _ (T114.setTop (mkF m 24 #[.val (.ref t_), .val k, .val (.ref e_)] [(.int (1 : Int32))]))
      exact Dn.retN X114 hx hlk (t := .boolean) hret (by simp) (hb hby d6_24) (by decide) (by decide) (⟨⟨1, rfl, Or.inr rfl, fun _ => ⟨hq, hi.mp (hr.resolve_left hz)⟩, fun _ => rfl⟩, Fr.app N0 M1, e114⟩)
  · skip
    refine Dn.of (fun tt_ zz_ => Jvm.RoadKit.acmp (g := (mkF m 5 #[.val (.ref t_), .val k, .val (.ref e_)] [k, u])) X112 hx rfl ru rk (pc0 := 5) (pc' := 23) (same := false) rfl (hb hby d6_5) rfl (decide_eq_false hq) (by decide) (by decide) zz_) ?_
    show Dn p e below s _ _ _ (T112.setTop (mkF m 23 #[.val (.ref t_), .val k, .val (.ref e_)] []))
    refine Dn.of (fun tt_ zz_ => XS.iconst X112.here hx rfl (hb hby d6_23) zz_) ?_
    show Dn p e below s _ _ _ (T112.setTop (mkF m 24 #[.val (.ref t_), .val k, .val (.ref e_)] [(.int (0 : Int32))]))
    exact Dn.retN X112 hx hlk (t := .boolean) hret (by simp) (hb hby d6_24) (by decide) (by decide) (⟨⟨0, rfl, Or.inl rfl, fun y => absurd y (by decide), fun y => absurd y.1 hq⟩, N0, e112⟩)
theorem own_seven {i : Int32} (h0 : 0 ≤ i.toInt) (h : i.toInt < 7) : i = 0 ∨ i = 1 ∨ i = 2 ∨ i = 3 ∨ i = 4 ∨ i = 5 ∨ i = 6 := by
  have u : i.toInt = 0 ∨ i.toInt = 1 ∨ i.toInt = 2 ∨ i.toInt = 3 ∨ i.toInt = 4 ∨ i.toInt = 5 ∨ i.toInt = 6 := by omega
  rcases u with u | u | u | u | u | u | u
  · exact Or.inl (Int32.toInt_inj.mp u)
  · exact Or.inr (Or.inl (Int32.toInt_inj.mp u))
  · exact Or.inr (Or.inr (Or.inl (Int32.toInt_inj.mp u)))
  · exact Or.inr (Or.inr (Or.inr (Or.inl (Int32.toInt_inj.mp u))))
  · exact Or.inr (Or.inr (Or.inr (Or.inr (Or.inl (Int32.toInt_inj.mp u)))))
  · exact Or.inr (Or.inr (Or.inr (Or.inr (Or.inr (Or.inl (Int32.toInt_inj.mp u))))))
  · exact Or.inr (Or.inr (Or.inr (Or.inr (Or.inr (Or.inr (Int32.toInt_inj.mp u))))))
theorem own_kinj {a_IDENTIFIER a_KEYWORD a_NUMBER a_STRING a_PUNCTUATOR a_END : Addr} (d01 : a_IDENTIFIER ≠ a_KEYWORD) (d02 : a_IDENTIFIER ≠ a_NUMBER) (d03 : a_IDENTIFIER ≠ a_STRING) (d04 : a_IDENTIFIER ≠ a_PUNCTUATOR) (d05 : a_IDENTIFIER ≠ a_END) (d12 : a_KEYWORD ≠ a_NUMBER) (d13 : a_KEYWORD ≠ a_STRING) (d14 : a_KEYWORD ≠ a_PUNCTUATOR) (d15 : a_KEYWORD ≠ a_END) (d23 : a_NUMBER ≠ a_STRING) (d24 : a_NUMBER ≠ a_PUNCTUATOR) (d25 : a_NUMBER ≠ a_END) (d34 : a_STRING ≠ a_PUNCTUATOR) (d35 : a_STRING ≠ a_END) (d45 : a_PUNCTUATOR ≠ a_END) {i j : Int32} (hi : 0 ≤ i.toInt ∧ i.toInt < 7) (hj : 0 ≤ j.toInt ∧ j.toInt < 7) (h : own_kind a_IDENTIFIER a_KEYWORD a_NUMBER a_STRING a_PUNCTUATOR a_END i = own_kind a_IDENTIFIER a_KEYWORD a_NUMBER a_STRING a_PUNCTUATOR a_END j) : i = j := by
  rcases own_seven hi.1 hi.2 with rfl | rfl | rfl | rfl | rfl | rfl | rfl <;> rcases own_seven hj.1 hj.2 with rfl | rfl | rfl | rfl | rfl | rfl | rfl <;> first | rfl | (exfalso; revert h; simp [own_kind, d01, d01.symm, d02, d02.symm, d03, d03.symm, d04, d04.symm, d05, d05.symm, d12, d12.symm, d13, d13.symm, d14, d14.symm, d15, d15.symm, d23, d23.symm, d24, d24.symm, d25, d25.symm, d34, d34.symm, d35, d35.symm, d45, d45.symm])
theorem own_iff {u v : Value} {i j n m c0 c1 e0 e1 : Int32} (hu : u = v ↔ i = j) (hn : n = 0 ∨ n = 1 ∨ n = 2) (y0 : 0 ≤ c0.toInt ∧ c0.toInt ≤ 255) (y1 : 0 ≤ c1.toInt ∧ c1.toInt ≤ 255) (z0 : 0 ≤ e0.toInt ∧ e0.toInt ≤ 255) (z1 : 0 ≤ e1.toInt ∧ e1.toInt ≤ 255) :
    (u = v ∧ n = m ∧ ∀ k : Nat, k < n.toNatClampNeg → own_fn c0 c1 k = own_fn e0 e1 k) ↔ (i = j ∧ n = m ∧ (¬ n < 1 → c0 = e0) ∧ (¬ n < 2 → c1 = e1)) := by
  constructor
  · rintro ⟨a, b, c⟩
    refine ⟨hu.mp a, b, fun q => own_Bi y0 z0 (c 0 ?_), fun q => own_Bi y1 z1 (c 1 ?_)⟩
    · rcases hn with rfl | rfl | rfl
      · exact absurd q (by decide)
      · decide
      · decide
    · rcases hn with rfl | rfl | rfl
      · exact absurd q (by decide)
      · exact absurd q (by decide)
      · decide
  · rintro ⟨a, b, c, d⟩
    refine ⟨hu.mpr a, b, fun k hk => ?_⟩
    rcases hn with rfl | rfl | rfl
    · exact absurd hk (Nat.not_lt_zero k)
    · have : k = 0 := by have : k < 1 := hk; omega
      subst this
      show own_B c0 = own_B e0
      rw [c (by decide)]
    · have : k = 0 ∨ k = 1 := by have : k < 2 := hk; omega
      rcases this with rfl | rfl
      · show own_B c0 = own_B e0
        rw [c (by decide)]
      · show own_B c1 = own_B e1
        rw [d (by decide)]
def own_Q (n0 : Nat) (v : Option Value) (h : Heap) (L : List Loc) : Prop := v = some (.int 1) ∧ Fr n0 L
theorem ef0_IIIIII (m : MethodId) (x0 : Int32) (x1 : Int32) (x2 : Int32) (x3 : Int32) (x4 : Int32) (x5 : Int32) : entryFrame m #[(.int x0), (.int x1), (.int x2), (.int x3), (.int x4), (.int x5)] maxLocals = mkF m 0 #[.val (.int x0), .val (.int x1), .val (.int x2), .val (.int x3), .val (.int x4), .val (.int x5), .unset, .unset, .unset, .unset, .unset, .unset, .unset, .unset, .unset, .unset, .unset, .unset, .unset, .unset] [] := by first | (simp [entryFrame, mkF, argsToLocals, Value.category, maxLocals]; done) | rfl
set_option maxRecDepth 65536 in
set_option maxHeartbeats 40000000 in
theorem rm0 (l : Launch) (Z : State) (a0 : Array Value) (hw : ∀ d ∈ tables_1, d.before a0 Z = true) (ws : List Jvm.Cond) (h0 : Heap) (n0 : Nat) (Z0 : n0 ≤ h0.size) (i0 i1 i2 i3 i4 i5 : Int32) (cz : Int32) (hcz : ¬ cz = 0) (SZ : Sta Z Z.heap "java/lang/String" "COMPACT_STRINGS" "Z" (.int cz)) (O0 : Old Z n0 h0) (a_IDENTIFIER a_STRING a_PUNCTUATOR a_NUMBER a_KEYWORD a_END : Addr) (S_IDENTIFIER : Sta Z Z.heap "com/example/warmfront/warmfront/js/Token$Kind" "IDENTIFIER" "Lcom/example/warmfront/warmfront/js/Token$Kind;" (.ref a_IDENTIFIER)) (E_IDENTIFIER : Exa Z Z.heap a_IDENTIFIER "com/example/warmfront/warmfront/js/Token$Kind") (S_STRING : Sta Z Z.heap "com/example/warmfront/warmfront/js/Token$Kind" "STRING" "Lcom/example/warmfront/warmfront/js/Token$Kind;" (.ref a_STRING)) (E_STRING : Exa Z Z.heap a_STRING "com/example/warmfront/warmfront/js/Token$Kind") (F_IDENTIFIER_ordinal : Fld Z Z.heap a_IDENTIFIER "java/lang/Enum" "ordinal" "I" (.int (0 : Int32))) (F_STRING_ordinal : Fld Z Z.heap a_STRING "java/lang/Enum" "ordinal" "I" (.int (3 : Int32))) (S_PUNCTUATOR : Sta Z Z.heap "com/example/warmfront/warmfront/js/Token$Kind" "PUNCTUATOR" "Lcom/example/warmfront/warmfront/js/Token$Kind;" (.ref a_PUNCTUATOR)) (E_PUNCTUATOR : Exa Z Z.heap a_PUNCTUATOR "com/example/warmfront/warmfront/js/Token$Kind") (F_PUNCTUATOR_ordinal : Fld Z Z.heap a_PUNCTUATOR "java/lang/Enum" "ordinal" "I" (.int (4 : Int32))) (S_NUMBER : Sta Z Z.heap "com/example/warmfront/warmfront/js/Token$Kind" "NUMBER" "Lcom/example/warmfront/warmfront/js/Token$Kind;" (.ref a_NUMBER)) (E_NUMBER : Exa Z Z.heap a_NUMBER "com/example/warmfront/warmfront/js/Token$Kind") (F_NUMBER_ordinal : Fld Z Z.heap a_NUMBER "java/lang/Enum" "ordinal" "I" (.int (2 : Int32))) (S_KEYWORD : Sta Z Z.heap "com/example/warmfront/warmfront/js/Token$Kind" "KEYWORD" "Lcom/example/warmfront/warmfront/js/Token$Kind;" (.ref a_KEYWORD)) (E_KEYWORD : Exa Z Z.heap a_KEYWORD "com/example/warmfront/warmfront/js/Token$Kind") (S_END : Sta Z Z.heap "com/example/warmfront/warmfront/js/Token$Kind" "END" "Lcom/example/warmfront/warmfront/js/Token$Kind;" (.ref a_END)) (E_END : Exa Z Z.heap a_END "com/example/warmfront/warmfront/js/Token$Kind") (F_END_ordinal : Fld Z Z.heap a_END "java/lang/Enum" "ordinal" "I" (.int (5 : Int32))) (F_KEYWORD_ordinal : Fld Z Z.heap a_KEYWORD "java/lang/Enum" "ordinal" "I" (.int (1 : Int32))) :
    ctrHW l Z consts_1 x code maxLocals ret ws room_1 24 1152 #[(.int i0), (.int i1), (.int i2), (.int i3), (.int i4), (.int i5)] h0 (own_Q n0) := by
  refine ctrHW_of (plainFor_of_name pn0) ?_
  intro p e s m below meth jc s₁ hx hby hml hret hlk hnm hown hZ e0 hsh hH hS X0
  have hk := Nat.le_refl h0.size
  have N0 := Fr.nil n0
  have hg : ∀ (i : Nat) {d : Jvm.Cond}, tables_1[i]? = some d → d.before a0 Z = true := fun i d q => hw d (List.mem_of_getElem? q)
  refine DnW.cast (ef0_IIIIII m i0 i1 i2 i3 i4 i5) ?_
  show DnW p e below s _ _ _ (s₁.setTop (mkF m 0 #[.val (.int i0), .val (.int i1), .val (.int i2), .val (.int i3), .val (.int i4), .val (.int i5), .unset, .unset, .unset, .unset, .unset, .unset, .unset, .unset, .unset, .unset, .unset, .unset, .unset, .unset] []))
  have d01 : a_IDENTIFIER ≠ a_KEYWORD := Fld.ne F_IDENTIFIER_ordinal F_KEYWORD_ordinal (by decide)
  have d02 : a_IDENTIFIER ≠ a_NUMBER := Fld.ne F_IDENTIFIER_ordinal F_NUMBER_ordinal (by decide)
  have d03 : a_IDENTIFIER ≠ a_STRING := Fld.ne F_IDENTIFIER_ordinal F_STRING_ordinal (by decide)
  have d04 : a_IDENTIFIER ≠ a_PUNCTUATOR := Fld.ne F_IDENTIFIER_ordinal F_PUNCTUATOR_ordinal (by decide)
  have d05 : a_IDENTIFIER ≠ a_END := Fld.ne F_IDENTIFIER_ordinal F_END_ordinal (by decide)
  have d12 : a_KEYWORD ≠ a_NUMBER := Fld.ne F_KEYWORD_ordinal F_NUMBER_ordinal (by decide)
  have d13 : a_KEYWORD ≠ a_STRING := Fld.ne F_KEYWORD_ordinal F_STRING_ordinal (by decide)
  have d14 : a_KEYWORD ≠ a_PUNCTUATOR := Fld.ne F_KEYWORD_ordinal F_PUNCTUATOR_ordinal (by decide)
  have d15 : a_KEYWORD ≠ a_END := Fld.ne F_KEYWORD_ordinal F_END_ordinal (by decide)
  have d23 : a_NUMBER ≠ a_STRING := Fld.ne F_NUMBER_ordinal F_STRING_ordinal (by decide)
  have d24 : a_NUMBER ≠ a_PUNCTUATOR := Fld.ne F_NUMBER_ordinal F_PUNCTUATOR_ordinal (by decide)
  have d25 : a_NUMBER ≠ a_END := Fld.ne F_NUMBER_ordinal F_END_ordinal (by decide)
  have d34 : a_STRING ≠ a_PUNCTUATOR := Fld.ne F_STRING_ordinal F_PUNCTUATOR_ordinal (by decide)
  have d35 : a_STRING ≠ a_END := Fld.ne F_STRING_ordinal F_END_ordinal (by decide)
  have d45 : a_PUNCTUATOR ≠ a_END := Fld.ne F_PUNCTUATOR_ordinal F_END_ordinal (by decide)
  refine DnW.of (fun tt_ zz_ => XS.iloadN X0.here hx rfl (hb hby at_0) rfl zz_) ?_
  show DnW p e below s (own_Q n0) 24 1152 (s₁.setTop (mkF m 1 #[.val (.int i0), .val (.int i1), .val (.int i2), .val (.int i3), .val (.int i4), .val (.int i5), .unset, .unset, .unset, .unset, .unset, .unset, .unset, .unset, .unset, .unset, .unset, .unset, .unset, .unset] [(.int i0)]))
  refine DnW.of (fun tt_ zz_ => X0.ldcI hx hown (mvT hZ (hg 0 rfl)) rfl (hb hby at_1) zz_) ?_
  show DnW p e below s (own_Q n0) 24 1152 (s₁.setTop (mkF m 3 #[.val (.int i0), .val (.int i1), .val (.int i2), .val (.int i3), .val (.int i4), .val (.int i5), .unset, .unset, .unset, .unset, .unset, .unset, .unset, .unset, .unset, .unset, .unset, .unset, .unset, .unset] [(.int (2147483647 : Int32)), (.int i0)]))
  refine DnW.of (fun tt_ zz_ => XS.iand X0.here hx rfl (hb hby at_3) rfl zz_) ?_
  show DnW p e below s (own_Q n0) 24 1152 (s₁.setTop (mkF m 4 #[.val (.int i0), .val (.int i1), .val (.int i2), .val (.int i3), .val (.int i4), .val (.int i5), .unset, .unset, .unset, .unset, .unset, .unset, .unset, .unset, .unset, .unset, .unset, .unset, .unset, .unset] [(.int (i0 &&& (2147483647 : Int32)))]))
  refine DnW.of (fun tt_ zz_ => XS.bipush X0.here hx rfl (hb hby at_4) zz_) ?_
  show DnW p e below s (own_Q n0) 24 1152 (s₁.setTop (mkF m 6 #[.val (.int i0), .val (.int i1), .val (.int i2), .val (.int i3), .val (.int i4), .val (.int i5), .unset, .unset, .unset, .unset, .unset, .unset, .unset, .unset, .unset, .unset, .unset, .unset, .unset, .unset] [(.int (6 : Int32)), (.int (i0 &&& (2147483647 : Int32)))]))
  refine DnW.of (fun tt_ zz_ => iremM X0 hx rfl (hb hby at_6) rfl (by decide) zz_) ?_
  show DnW p e below s (own_Q n0) 24 1152 (s₁.setTop (mkF m 7 #[.val (.int i0), .val (.int i1), .val (.int i2), .val (.int i3), .val (.int i4), .val (.int i5), .unset, .unset, .unset, .unset, .unset, .unset, .unset, .unset, .unset, .unset, .unset, .unset, .unset, .unset] [(.int ((i0 &&& (2147483647 : Int32)) % (6 : Int32)))]))
  refine DnW.of (fun tt_ zz_ => XS.istore X0.here hx rfl (hb hby at_7) rfl (l' := #[.val (.int i0), .val (.int i1), .val (.int i2), .val (.int i3), .val (.int i4), .val (.int i5), .val (.int ((i0 &&& (2147483647 : Int32)) % (6 : Int32))), .unset, .unset, .unset, .unset, .unset, .unset, .unset, .unset, .unset, .unset, .unset, .unset, .unset]) rfl zz_) ?_
  show DnW p e below s (own_Q n0) 24 1152 (s₁.setTop (mkF m 9 #[.val (.int i0), .val (.int i1), .val (.int i2), .val (.int i3), .val (.int i4), .val (.int i5), .val (.int ((i0 &&& (2147483647 : Int32)) % (6 : Int32))), .unset, .unset, .unset, .unset, .unset, .unset, .unset, .unset, .unset, .unset, .unset, .unset, .unset] []))
  refine DnW.of (fun tt_ zz_ => XS.iloadN X0.here hx rfl (hb hby at_9) rfl zz_) ?_
  show DnW p e below s (own_Q n0) 24 1152 (s₁.setTop (mkF m 10 #[.val (.int i0), .val (.int i1), .val (.int i2), .val (.int i3), .val (.int i4), .val (.int i5), .val (.int ((i0 &&& (2147483647 : Int32)) % (6 : Int32))), .unset, .unset, .unset, .unset, .unset, .unset, .unset, .unset, .unset, .unset, .unset, .unset, .unset] [(.int i1)]))
  refine DnW.of (fun tt_ zz_ => X0.ldcI hx hown (mvT hZ (hg 0 rfl)) rfl (hb hby at_10) zz_) ?_
  show DnW p e below s (own_Q n0) 24 1152 (s₁.setTop (mkF m 12 #[.val (.int i0), .val (.int i1), .val (.int i2), .val (.int i3), .val (.int i4), .val (.int i5), .val (.int ((i0 &&& (2147483647 : Int32)) % (6 : Int32))), .unset, .unset, .unset, .unset, .unset, .unset, .unset, .unset, .unset, .unset, .unset, .unset, .unset] [(.int (2147483647 : Int32)), (.int i1)]))
  refine DnW.of (fun tt_ zz_ => XS.iand X0.here hx rfl (hb hby at_12) rfl zz_) ?_
  show DnW p e below s (own_Q n0) 24 1152 (s₁.setTop (mkF m 13 #[.val (.int i0), .val (.int i1), .val (.int i2), .val (.int i3), .val (.int i4), .val (.int i5), .val (.int ((i0 &&& (2147483647 : Int32)) % (6 : Int32))), .unset, .unset, .unset, .unset, .unset, .unset, .unset, .unset, .unset, .unset, .unset, .unset, .unset] [(.int (i1 &&& (2147483647 : Int32)))]))
  refine DnW.of (fun tt_ zz_ => XS.bipush X0.here hx rfl (hb hby at_13) zz_) ?_
  show DnW p e below s (own_Q n0) 24 1152 (s₁.setTop (mkF m 15 #[.val (.int i0), .val (.int i1), .val (.int i2), .val (.int i3), .val (.int i4), .val (.int i5), .val (.int ((i0 &&& (2147483647 : Int32)) % (6 : Int32))), .unset, .unset, .unset, .unset, .unset, .unset, .unset, .unset, .unset, .unset, .unset, .unset, .unset] [(.int (7 : Int32)), (.int (i1 &&& (2147483647 : Int32)))]))
  refine DnW.of (fun tt_ zz_ => iremM X0 hx rfl (hb hby at_15) rfl (by decide) zz_) ?_
  show DnW p e below s (own_Q n0) 24 1152 (s₁.setTop (mkF m 16 #[.val (.int i0), .val (.int i1), .val (.int i2), .val (.int i3), .val (.int i4), .val (.int i5), .val (.int ((i0 &&& (2147483647 : Int32)) % (6 : Int32))), .unset, .unset, .unset, .unset, .unset, .unset, .unset, .unset, .unset, .unset, .unset, .unset, .unset] [(.int ((i1 &&& (2147483647 : Int32)) % (7 : Int32)))]))
  have k1 := own_ik i0 6 (by decide)
  have k2 := own_ik i1 7 (by decide)
  rw [show (6 : Int32).toInt = 6 by decide] at k1
  rw [show (7 : Int32).toInt = 7 by decide] at k2
  refine DnW.of (fun tt_ zz_ => XS.istore X0.here hx rfl (hb hby at_16) rfl (l' := #[.val (.int i0), .val (.int i1), .val (.int i2), .val (.int i3), .val (.int i4), .val (.int i5), .val (.int ((i0 &&& (2147483647 : Int32)) % (6 : Int32))), .val (.int ((i1 &&& (2147483647 : Int32)) % (7 : Int32))), .unset, .unset, .unset, .unset, .unset, .unset, .unset, .unset, .unset, .unset, .unset, .unset]) rfl zz_) ?_
  show DnW p e below s (own_Q n0) 24 1152 (s₁.setTop (mkF m 18 #[.val (.int i0), .val (.int i1), .val (.int i2), .val (.int i3), .val (.int i4), .val (.int i5), .val (.int ((i0 &&& (2147483647 : Int32)) % (6 : Int32))), .val (.int ((i1 &&& (2147483647 : Int32)) % (7 : Int32))), .unset, .unset, .unset, .unset, .unset, .unset, .unset, .unset, .unset, .unset, .unset, .unset] []))
  refine DnW.of (fun tt_ zz_ => XS.iload X0.here hx rfl (hb hby at_18) rfl zz_) ?_
  show DnW p e below s (own_Q n0) 24 1152 (s₁.setTop (mkF m 20 #[.val (.int i0), .val (.int i1), .val (.int i2), .val (.int i3), .val (.int i4), .val (.int i5), .val (.int ((i0 &&& (2147483647 : Int32)) % (6 : Int32))), .val (.int ((i1 &&& (2147483647 : Int32)) % (7 : Int32))), .unset, .unset, .unset, .unset, .unset, .unset, .unset, .unset, .unset, .unset, .unset, .unset] [(.int i5)]))
  refine DnW.of (fun tt_ zz_ => XS.bipush X0.here hx rfl (hb hby at_20) zz_) ?_
  show DnW p e below s (own_Q n0) 24 1152 (s₁.setTop (mkF m 22 #[.val (.int i0), .val (.int i1), .val (.int i2), .val (.int i3), .val (.int i4), .val (.int i5), .val (.int ((i0 &&& (2147483647 : Int32)) % (6 : Int32))), .val (.int ((i1 &&& (2147483647 : Int32)) % (7 : Int32))), .unset, .unset, .unset, .unset, .unset, .unset, .unset, .unset, .unset, .unset, .unset, .unset] [(.int (32 : Int32)), (.int i5)]))
  refine DnW.of (fun tt_ zz_ => XS.iand X0.here hx rfl (hb hby at_22) rfl zz_) ?_
  show DnW p e below s (own_Q n0) 24 1152 (s₁.setTop (mkF m 23 #[.val (.int i0), .val (.int i1), .val (.int i2), .val (.int i3), .val (.int i4), .val (.int i5), .val (.int ((i0 &&& (2147483647 : Int32)) % (6 : Int32))), .val (.int ((i1 &&& (2147483647 : Int32)) % (7 : Int32))), .unset, .unset, .unset, .unset, .unset, .unset, .unset, .unset, .unset, .unset, .unset, .unset] [(.int (i5 &&& (32 : Int32)))]))
  generalize ((i0 &&& (2147483647 : Int32)) % (6 : Int32)) = ik1 at k1 k2 ⊢
  generalize ((i1 &&& (2147483647 : Int32)) % (7 : Int32)) = ik0 at k1 k2 ⊢
  show DnW p e below s (own_Q n0) 24 1152 (s₁.setTop (mkF m 23 #[.val (.int i0), .val (.int i1), .val (.int i2), .val (.int i3), .val (.int i4), .val (.int i5), .val (.int ik1), .val (.int ik0), .unset, .unset, .unset, .unset, .unset, .unset, .unset, .unset, .unset, .unset, .unset, .unset] [(.int (i5 &&& (32 : Int32)))]))
  have K30 : ∀ ik2 : Int32, (0 ≤ ik2.toInt ∧ ik2.toInt < 7) → DnW p e below s (own_Q n0) 24 1152 (s₁.setTop (mkF m 30 #[.val (.int i0), .val (.int i1), .val (.int i2), .val (.int i3), .val (.int i4), .val (.int i5), .val (.int ik1), .val (.int ik2), .unset, .unset, .unset, .unset, .unset, .unset, .unset, .unset, .unset, .unset, .unset, .unset] [])) := by
    intro ik2 h_ik2
    show DnW p e below s (own_Q n0) 24 1152 (s₁.setTop (mkF m 30 #[.val (.int i0), .val (.int i1), .val (.int i2), .val (.int i3), .val (.int i4), .val (.int i5), .val (.int ik1), .val (.int ik2), .unset, .unset, .unset, .unset, .unset, .unset, .unset, .unset, .unset, .unset, .unset, .unset] []))
    refine DnW.of (fun tt_ zz_ => XS.iloadN X0.here hx rfl (hb hby at_30) rfl zz_) ?_
    show DnW p e below s (own_Q n0) 24 1152 (s₁.setTop (mkF m 31 #[.val (.int i0), .val (.int i1), .val (.int i2), .val (.int i3), .val (.int i4), .val (.int i5), .val (.int ik1), .val (.int ik2), .unset, .unset, .unset, .unset, .unset, .unset, .unset, .unset, .unset, .unset, .unset, .unset] [(.int i2)]))
    refine DnW.of (fun tt_ zz_ => XS.sipush X0.here hx rfl (hb hby at_31) zz_) ?_
    show DnW p e below s (own_Q n0) 24 1152 (s₁.setTop (mkF m 34 #[.val (.int i0), .val (.int i1), .val (.int i2), .val (.int i3), .val (.int i4), .val (.int i5), .val (.int ik1), .val (.int ik2), .unset, .unset, .unset, .unset, .unset, .unset, .unset, .unset, .unset, .unset, .unset, .unset] [(.int (255 : Int32)), (.int i2)]))
    refine DnW.of (fun tt_ zz_ => XS.iand X0.here hx rfl (hb hby at_34) rfl zz_) ?_
    show DnW p e below s (own_Q n0) 24 1152 (s₁.setTop (mkF m 35 #[.val (.int i0), .val (.int i1), .val (.int i2), .val (.int i3), .val (.int i4), .val (.int i5), .val (.int ik1), .val (.int ik2), .unset, .unset, .unset, .unset, .unset, .unset, .unset, .unset, .unset, .unset, .unset, .unset] [(.int (i2 &&& (255 : Int32)))]))
    refine DnW.of (fun tt_ zz_ => XS.i2c X0.here hx rfl (hb hby at_35) rfl zz_) ?_
    show DnW p e below s (own_Q n0) 24 1152 (s₁.setTop (mkF m 36 #[.val (.int i0), .val (.int i1), .val (.int i2), .val (.int i3), .val (.int i4), .val (.int i5), .val (.int ik1), .val (.int ik2), .unset, .unset, .unset, .unset, .unset, .unset, .unset, .unset, .unset, .unset, .unset, .unset] [(.int ((i2 &&& (255 : Int32)).toUInt32.toUInt16.toUInt32.toInt32))]))
    refine DnW.of (fun tt_ zz_ => XS.istore X0.here hx rfl (hb hby at_36) rfl (l' := #[.val (.int i0), .val (.int i1), .val (.int i2), .val (.int i3), .val (.int i4), .val (.int i5), .val (.int ik1), .val (.int ik2), .val (.int ((i2 &&& (255 : Int32)).toUInt32.toUInt16.toUInt32.toInt32)), .unset, .unset, .unset, .unset, .unset, .unset, .unset, .unset, .unset, .unset, .unset]) rfl zz_) ?_
    show DnW p e below s (own_Q n0) 24 1152 (s₁.setTop (mkF m 38 #[.val (.int i0), .val (.int i1), .val (.int i2), .val (.int i3), .val (.int i4), .val (.int i5), .val (.int ik1), .val (.int ik2), .val (.int ((i2 &&& (255 : Int32)).toUInt32.toUInt16.toUInt32.toInt32)), .unset, .unset, .unset, .unset, .unset, .unset, .unset, .unset, .unset, .unset, .unset] []))
    refine DnW.of (fun tt_ zz_ => XS.iloadN X0.here hx rfl (hb hby at_38) rfl zz_) ?_
    show DnW p e below s (own_Q n0) 24 1152 (s₁.setTop (mkF m 39 #[.val (.int i0), .val (.int i1), .val (.int i2), .val (.int i3), .val (.int i4), .val (.int i5), .val (.int ik1), .val (.int ik2), .val (.int ((i2 &&& (255 : Int32)).toUInt32.toUInt16.toUInt32.toInt32)), .unset, .unset, .unset, .unset, .unset, .unset, .unset, .unset, .unset, .unset, .unset] [(.int i2)]))
    refine DnW.of (fun tt_ zz_ => XS.bipush X0.here hx rfl (hb hby at_39) zz_) ?_
    show DnW p e below s (own_Q n0) 24 1152 (s₁.setTop (mkF m 41 #[.val (.int i0), .val (.int i1), .val (.int i2), .val (.int i3), .val (.int i4), .val (.int i5), .val (.int ik1), .val (.int ik2), .val (.int ((i2 &&& (255 : Int32)).toUInt32.toUInt16.toUInt32.toInt32)), .unset, .unset, .unset, .unset, .unset, .unset, .unset, .unset, .unset, .unset, .unset] [(.int (8 : Int32)), (.int i2)]))
    refine DnW.of (fun tt_ zz_ => XS.iushr X0.here hx rfl (hb hby at_41) rfl zz_) ?_
    show DnW p e below s (own_Q n0) 24 1152 (s₁.setTop (mkF m 42 #[.val (.int i0), .val (.int i1), .val (.int i2), .val (.int i3), .val (.int i4), .val (.int i5), .val (.int ik1), .val (.int ik2), .val (.int ((i2 &&& (255 : Int32)).toUInt32.toUInt16.toUInt32.toInt32)), .unset, .unset, .unset, .unset, .unset, .unset, .unset, .unset, .unset, .unset, .unset] [(.int ((i2.toUInt32 >>> ((8 : Int32) &&& 31).toUInt32).toInt32))]))
    refine DnW.of (fun tt_ zz_ => XS.sipush X0.here hx rfl (hb hby at_42) zz_) ?_
    show DnW p e below s (own_Q n0) 24 1152 (s₁.setTop (mkF m 45 #[.val (.int i0), .val (.int i1), .val (.int i2), .val (.int i3), .val (.int i4), .val (.int i5), .val (.int ik1), .val (.int ik2), .val (.int ((i2 &&& (255 : Int32)).toUInt32.toUInt16.toUInt32.toInt32)), .unset, .unset, .unset, .unset, .unset, .unset, .unset, .unset, .unset, .unset, .unset] [(.int (255 : Int32)), (.int ((i2.toUInt32 >>> ((8 : Int32) &&& 31).toUInt32).toInt32))]))
    refine DnW.of (fun tt_ zz_ => XS.iand X0.here hx rfl (hb hby at_45) rfl zz_) ?_
    show DnW p e below s (own_Q n0) 24 1152 (s₁.setTop (mkF m 46 #[.val (.int i0), .val (.int i1), .val (.int i2), .val (.int i3), .val (.int i4), .val (.int i5), .val (.int ik1), .val (.int ik2), .val (.int ((i2 &&& (255 : Int32)).toUInt32.toUInt16.toUInt32.toInt32)), .unset, .unset, .unset, .unset, .unset, .unset, .unset, .unset, .unset, .unset, .unset] [(.int (((i2.toUInt32 >>> ((8 : Int32) &&& 31).toUInt32).toInt32) &&& (255 : Int32)))]))
    refine DnW.of (fun tt_ zz_ => XS.i2c X0.here hx rfl (hb hby at_46) rfl zz_) ?_
    show DnW p e below s (own_Q n0) 24 1152 (s₁.setTop (mkF m 47 #[.val (.int i0), .val (.int i1), .val (.int i2), .val (.int i3), .val (.int i4), .val (.int i5), .val (.int ik1), .val (.int ik2), .val (.int ((i2 &&& (255 : Int32)).toUInt32.toUInt16.toUInt32.toInt32)), .unset, .unset, .unset, .unset, .unset, .unset, .unset, .unset, .unset, .unset, .unset] [(.int ((((i2.toUInt32 >>> ((8 : Int32) &&& 31).toUInt32).toInt32) &&& (255 : Int32)).toUInt32.toUInt16.toUInt32.toInt32))]))
    refine DnW.of (fun tt_ zz_ => XS.istore X0.here hx rfl (hb hby at_47) rfl (l' := #[.val (.int i0), .val (.int i1), .val (.int i2), .val (.int i3), .val (.int i4), .val (.int i5), .val (.int ik1), .val (.int ik2), .val (.int ((i2 &&& (255 : Int32)).toUInt32.toUInt16.toUInt32.toInt32)), .val (.int ((((i2.toUInt32 >>> ((8 : Int32) &&& 31).toUInt32).toInt32) &&& (255 : Int32)).toUInt32.toUInt16.toUInt32.toInt32)), .unset, .unset, .unset, .unset, .unset, .unset, .unset, .unset, .unset, .unset]) rfl zz_) ?_
    show DnW p e below s (own_Q n0) 24 1152 (s₁.setTop (mkF m 49 #[.val (.int i0), .val (.int i1), .val (.int i2), .val (.int i3), .val (.int i4), .val (.int i5), .val (.int ik1), .val (.int ik2), .val (.int ((i2 &&& (255 : Int32)).toUInt32.toUInt16.toUInt32.toInt32)), .val (.int ((((i2.toUInt32 >>> ((8 : Int32) &&& 31).toUInt32).toInt32) &&& (255 : Int32)).toUInt32.toUInt16.toUInt32.toInt32)), .unset, .unset, .unset, .unset, .unset, .unset, .unset, .unset, .unset, .unset] []))
    refine DnW.of (fun tt_ zz_ => XS.iloadN X0.here hx rfl (hb hby at_49) rfl zz_) ?_
    show DnW p e below s (own_Q n0) 24 1152 (s₁.setTop (mkF m 50 #[.val (.int i0), .val (.int i1), .val (.int i2), .val (.int i3), .val (.int i4), .val (.int i5), .val (.int ik1), .val (.int ik2), .val (.int ((i2 &&& (255 : Int32)).toUInt32.toUInt16.toUInt32.toInt32)), .val (.int ((((i2.toUInt32 >>> ((8 : Int32) &&& 31).toUInt32).toInt32) &&& (255 : Int32)).toUInt32.toUInt16.toUInt32.toInt32)), .unset, .unset, .unset, .unset, .unset, .unset, .unset, .unset, .unset, .unset] [(.int i3)]))
    refine DnW.of (fun tt_ zz_ => XS.sipush X0.here hx rfl (hb hby at_50) zz_) ?_
    show DnW p e below s (own_Q n0) 24 1152 (s₁.setTop (mkF m 53 #[.val (.int i0), .val (.int i1), .val (.int i2), .val (.int i3), .val (.int i4), .val (.int i5), .val (.int ik1), .val (.int ik2), .val (.int ((i2 &&& (255 : Int32)).toUInt32.toUInt16.toUInt32.toInt32)), .val (.int ((((i2.toUInt32 >>> ((8 : Int32) &&& 31).toUInt32).toInt32) &&& (255 : Int32)).toUInt32.toUInt16.toUInt32.toInt32)), .unset, .unset, .unset, .unset, .unset, .unset, .unset, .unset, .unset, .unset] [(.int (255 : Int32)), (.int i3)]))
    refine DnW.of (fun tt_ zz_ => XS.iand X0.here hx rfl (hb hby at_53) rfl zz_) ?_
    show DnW p e below s (own_Q n0) 24 1152 (s₁.setTop (mkF m 54 #[.val (.int i0), .val (.int i1), .val (.int i2), .val (.int i3), .val (.int i4), .val (.int i5), .val (.int ik1), .val (.int ik2), .val (.int ((i2 &&& (255 : Int32)).toUInt32.toUInt16.toUInt32.toInt32)), .val (.int ((((i2.toUInt32 >>> ((8 : Int32) &&& 31).toUInt32).toInt32) &&& (255 : Int32)).toUInt32.toUInt16.toUInt32.toInt32)), .unset, .unset, .unset, .unset, .unset, .unset, .unset, .unset, .unset, .unset] [(.int (i3 &&& (255 : Int32)))]))
    refine DnW.of (fun tt_ zz_ => XS.i2c X0.here hx rfl (hb hby at_54) rfl zz_) ?_
    show DnW p e below s (own_Q n0) 24 1152 (s₁.setTop (mkF m 55 #[.val (.int i0), .val (.int i1), .val (.int i2), .val (.int i3), .val (.int i4), .val (.int i5), .val (.int ik1), .val (.int ik2), .val (.int ((i2 &&& (255 : Int32)).toUInt32.toUInt16.toUInt32.toInt32)), .val (.int ((((i2.toUInt32 >>> ((8 : Int32) &&& 31).toUInt32).toInt32) &&& (255 : Int32)).toUInt32.toUInt16.toUInt32.toInt32)), .unset, .unset, .unset, .unset, .unset, .unset, .unset, .unset, .unset, .unset] [(.int ((i3 &&& (255 : Int32)).toUInt32.toUInt16.toUInt32.toInt32))]))
    refine DnW.of (fun tt_ zz_ => XS.istore X0.here hx rfl (hb hby at_55) rfl (l' := #[.val (.int i0), .val (.int i1), .val (.int i2), .val (.int i3), .val (.int i4), .val (.int i5), .val (.int ik1), .val (.int ik2), .val (.int ((i2 &&& (255 : Int32)).toUInt32.toUInt16.toUInt32.toInt32)), .val (.int ((((i2.toUInt32 >>> ((8 : Int32) &&& 31).toUInt32).toInt32) &&& (255 : Int32)).toUInt32.toUInt16.toUInt32.toInt32)), .val (.int ((i3 &&& (255 : Int32)).toUInt32.toUInt16.toUInt32.toInt32)), .unset, .unset, .unset, .unset, .unset, .unset, .unset, .unset, .unset]) rfl zz_) ?_
    show DnW p e below s (own_Q n0) 24 1152 (s₁.setTop (mkF m 57 #[.val (.int i0), .val (.int i1), .val (.int i2), .val (.int i3), .val (.int i4), .val (.int i5), .val (.int ik1), .val (.int ik2), .val (.int ((i2 &&& (255 : Int32)).toUInt32.toUInt16.toUInt32.toInt32)), .val (.int ((((i2.toUInt32 >>> ((8 : Int32) &&& 31).toUInt32).toInt32) &&& (255 : Int32)).toUInt32.toUInt16.toUInt32.toInt32)), .val (.int ((i3 &&& (255 : Int32)).toUInt32.toUInt16.toUInt32.toInt32)), .unset, .unset, .unset, .unset, .unset, .unset, .unset, .unset, .unset] []))
    refine DnW.of (fun tt_ zz_ => XS.iloadN X0.here hx rfl (hb hby at_57) rfl zz_) ?_
    show DnW p e below s (own_Q n0) 24 1152 (s₁.setTop (mkF m 58 #[.val (.int i0), .val (.int i1), .val (.int i2), .val (.int i3), .val (.int i4), .val (.int i5), .val (.int ik1), .val (.int ik2), .val (.int ((i2 &&& (255 : Int32)).toUInt32.toUInt16.toUInt32.toInt32)), .val (.int ((((i2.toUInt32 >>> ((8 : Int32) &&& 31).toUInt32).toInt32) &&& (255 : Int32)).toUInt32.toUInt16.toUInt32.toInt32)), .val (.int ((i3 &&& (255 : Int32)).toUInt32.toUInt16.toUInt32.toInt32)), .unset, .unset, .unset, .unset, .unset, .unset, .unset, .unset, .unset] [(.int i3)]))
    refine DnW.of (fun tt_ zz_ => XS.bipush X0.here hx rfl (hb hby at_58) zz_) ?_
    show DnW p e below s (own_Q n0) 24 1152 (s₁.setTop (mkF m 60 #[.val (.int i0), .val (.int i1), .val (.int i2), .val (.int i3), .val (.int i4), .val (.int i5), .val (.int ik1), .val (.int ik2), .val (.int ((i2 &&& (255 : Int32)).toUInt32.toUInt16.toUInt32.toInt32)), .val (.int ((((i2.toUInt32 >>> ((8 : Int32) &&& 31).toUInt32).toInt32) &&& (255 : Int32)).toUInt32.toUInt16.toUInt32.toInt32)), .val (.int ((i3 &&& (255 : Int32)).toUInt32.toUInt16.toUInt32.toInt32)), .unset, .unset, .unset, .unset, .unset, .unset, .unset, .unset, .unset] [(.int (8 : Int32)), (.int i3)]))
    refine DnW.of (fun tt_ zz_ => XS.iushr X0.here hx rfl (hb hby at_60) rfl zz_) ?_
    show DnW p e below s (own_Q n0) 24 1152 (s₁.setTop (mkF m 61 #[.val (.int i0), .val (.int i1), .val (.int i2), .val (.int i3), .val (.int i4), .val (.int i5), .val (.int ik1), .val (.int ik2), .val (.int ((i2 &&& (255 : Int32)).toUInt32.toUInt16.toUInt32.toInt32)), .val (.int ((((i2.toUInt32 >>> ((8 : Int32) &&& 31).toUInt32).toInt32) &&& (255 : Int32)).toUInt32.toUInt16.toUInt32.toInt32)), .val (.int ((i3 &&& (255 : Int32)).toUInt32.toUInt16.toUInt32.toInt32)), .unset, .unset, .unset, .unset, .unset, .unset, .unset, .unset, .unset] [(.int ((i3.toUInt32 >>> ((8 : Int32) &&& 31).toUInt32).toInt32))]))
    refine DnW.of (fun tt_ zz_ => XS.sipush X0.here hx rfl (hb hby at_61) zz_) ?_
    show DnW p e below s (own_Q n0) 24 1152 (s₁.setTop (mkF m 64 #[.val (.int i0), .val (.int i1), .val (.int i2), .val (.int i3), .val (.int i4), .val (.int i5), .val (.int ik1), .val (.int ik2), .val (.int ((i2 &&& (255 : Int32)).toUInt32.toUInt16.toUInt32.toInt32)), .val (.int ((((i2.toUInt32 >>> ((8 : Int32) &&& 31).toUInt32).toInt32) &&& (255 : Int32)).toUInt32.toUInt16.toUInt32.toInt32)), .val (.int ((i3 &&& (255 : Int32)).toUInt32.toUInt16.toUInt32.toInt32)), .unset, .unset, .unset, .unset, .unset, .unset, .unset, .unset, .unset] [(.int (255 : Int32)), (.int ((i3.toUInt32 >>> ((8 : Int32) &&& 31).toUInt32).toInt32))]))
    refine DnW.of (fun tt_ zz_ => XS.iand X0.here hx rfl (hb hby at_64) rfl zz_) ?_
    show DnW p e below s (own_Q n0) 24 1152 (s₁.setTop (mkF m 65 #[.val (.int i0), .val (.int i1), .val (.int i2), .val (.int i3), .val (.int i4), .val (.int i5), .val (.int ik1), .val (.int ik2), .val (.int ((i2 &&& (255 : Int32)).toUInt32.toUInt16.toUInt32.toInt32)), .val (.int ((((i2.toUInt32 >>> ((8 : Int32) &&& 31).toUInt32).toInt32) &&& (255 : Int32)).toUInt32.toUInt16.toUInt32.toInt32)), .val (.int ((i3 &&& (255 : Int32)).toUInt32.toUInt16.toUInt32.toInt32)), .unset, .unset, .unset, .unset, .unset, .unset, .unset, .unset, .unset] [(.int (((i3.toUInt32 >>> ((8 : Int32) &&& 31).toUInt32).toInt32) &&& (255 : Int32)))]))
    refine DnW.of (fun tt_ zz_ => XS.i2c X0.here hx rfl (hb hby at_65) rfl zz_) ?_
    show DnW p e below s (own_Q n0) 24 1152 (s₁.setTop (mkF m 66 #[.val (.int i0), .val (.int i1), .val (.int i2), .val (.int i3), .val (.int i4), .val (.int i5), .val (.int ik1), .val (.int ik2), .val (.int ((i2 &&& (255 : Int32)).toUInt32.toUInt16.toUInt32.toInt32)), .val (.int ((((i2.toUInt32 >>> ((8 : Int32) &&& 31).toUInt32).toInt32) &&& (255 : Int32)).toUInt32.toUInt16.toUInt32.toInt32)), .val (.int ((i3 &&& (255 : Int32)).toUInt32.toUInt16.toUInt32.toInt32)), .unset, .unset, .unset, .unset, .unset, .unset, .unset, .unset, .unset] [(.int ((((i3.toUInt32 >>> ((8 : Int32) &&& 31).toUInt32).toInt32) &&& (255 : Int32)).toUInt32.toUInt16.toUInt32.toInt32))]))
    refine DnW.of (fun tt_ zz_ => XS.istore X0.here hx rfl (hb hby at_66) rfl (l' := #[.val (.int i0), .val (.int i1), .val (.int i2), .val (.int i3), .val (.int i4), .val (.int i5), .val (.int ik1), .val (.int ik2), .val (.int ((i2 &&& (255 : Int32)).toUInt32.toUInt16.toUInt32.toInt32)), .val (.int ((((i2.toUInt32 >>> ((8 : Int32) &&& 31).toUInt32).toInt32) &&& (255 : Int32)).toUInt32.toUInt16.toUInt32.toInt32)), .val (.int ((i3 &&& (255 : Int32)).toUInt32.toUInt16.toUInt32.toInt32)), .val (.int ((((i3.toUInt32 >>> ((8 : Int32) &&& 31).toUInt32).toInt32) &&& (255 : Int32)).toUInt32.toUInt16.toUInt32.toInt32)), .unset, .unset, .unset, .unset, .unset, .unset, .unset, .unset]) rfl zz_) ?_
    show DnW p e below s (own_Q n0) 24 1152 (s₁.setTop (mkF m 68 #[.val (.int i0), .val (.int i1), .val (.int i2), .val (.int i3), .val (.int i4), .val (.int i5), .val (.int ik1), .val (.int ik2), .val (.int ((i2 &&& (255 : Int32)).toUInt32.toUInt16.toUInt32.toInt32)), .val (.int ((((i2.toUInt32 >>> ((8 : Int32) &&& 31).toUInt32).toInt32) &&& (255 : Int32)).toUInt32.toUInt16.toUInt32.toInt32)), .val (.int ((i3 &&& (255 : Int32)).toUInt32.toUInt16.toUInt32.toInt32)), .val (.int ((((i3.toUInt32 >>> ((8 : Int32) &&& 31).toUInt32).toInt32) &&& (255 : Int32)).toUInt32.toUInt16.toUInt32.toInt32)), .unset, .unset, .unset, .unset, .unset, .unset, .unset, .unset] []))
    have y_t0 := own_ch i2
    generalize ((i2 &&& (255 : Int32)).toUInt32.toUInt16.toUInt32.toInt32) = t0 at y_t0 ⊢
    have y_t1 := own_ch ((i2.toUInt32 >>> ((8 : Int32) &&& 31).toUInt32).toInt32)
    generalize ((((i2.toUInt32 >>> ((8 : Int32) &&& 31).toUInt32).toInt32) &&& (255 : Int32)).toUInt32.toUInt16.toUInt32.toInt32) = t1 at y_t1 ⊢
    have y_x0 := own_ch i3
    generalize ((i3 &&& (255 : Int32)).toUInt32.toUInt16.toUInt32.toInt32) = x0 at y_x0 ⊢
    have y_x1 := own_ch ((i3.toUInt32 >>> ((8 : Int32) &&& 31).toUInt32).toInt32)
    generalize ((((i3.toUInt32 >>> ((8 : Int32) &&& 31).toUInt32).toInt32) &&& (255 : Int32)).toUInt32.toUInt16.toUInt32.toInt32) = x1 at y_x1 ⊢
    show DnW p e below s (own_Q n0) 24 1152 (s₁.setTop (mkF m 68 #[.val (.int i0), .val (.int i1), .val (.int i2), .val (.int i3), .val (.int i4), .val (.int i5), .val (.int ik1), .val (.int ik2), .val (.int t0), .val (.int t1), .val (.int x0), .val (.int x1), .unset, .unset, .unset, .unset, .unset, .unset, .unset, .unset] []))
    refine DnW.of (fun tt_ zz_ => XS.iload X0.here hx rfl (hb hby at_68) rfl zz_) ?_
    show DnW p e below s (own_Q n0) 24 1152 (s₁.setTop (mkF m 70 #[.val (.int i0), .val (.int i1), .val (.int i2), .val (.int i3), .val (.int i4), .val (.int i5), .val (.int ik1), .val (.int ik2), .val (.int t0), .val (.int t1), .val (.int x0), .val (.int x1), .unset, .unset, .unset, .unset, .unset, .unset, .unset, .unset] [(.int i5)]))
    refine DnW.of (fun tt_ zz_ => XS.iconst X0.here hx rfl (hb hby at_70) zz_) ?_
    show DnW p e below s (own_Q n0) 24 1152 (s₁.setTop (mkF m 71 #[.val (.int i0), .val (.int i1), .val (.int i2), .val (.int i3), .val (.int i4), .val (.int i5), .val (.int ik1), .val (.int ik2), .val (.int t0), .val (.int t1), .val (.int x0), .val (.int x1), .unset, .unset, .unset, .unset, .unset, .unset, .unset, .unset] [(.int (1 : Int32)), (.int i5)]))
    refine DnW.of (fun tt_ zz_ => XS.iand X0.here hx rfl (hb hby at_71) rfl zz_) ?_
    show DnW p e below s (own_Q n0) 24 1152 (s₁.setTop (mkF m 72 #[.val (.int i0), .val (.int i1), .val (.int i2), .val (.int i3), .val (.int i4), .val (.int i5), .val (.int ik1), .val (.int ik2), .val (.int t0), .val (.int t1), .val (.int x0), .val (.int x1), .unset, .unset, .unset, .unset, .unset, .unset, .unset, .unset] [(.int (i5 &&& (1 : Int32)))]))
    have K79 : ∀ ec0 : Int32, (0 ≤ ec0.toInt ∧ ec0.toInt ≤ 255) → DnW p e below s (own_Q n0) 24 1152 (s₁.setTop (mkF m 79 #[.val (.int i0), .val (.int i1), .val (.int i2), .val (.int i3), .val (.int i4), .val (.int i5), .val (.int ik1), .val (.int ik2), .val (.int t0), .val (.int t1), .val (.int ec0), .val (.int x1), .unset, .unset, .unset, .unset, .unset, .unset, .unset, .unset] [])) := by
      intro ec0 h_ec0
      show DnW p e below s (own_Q n0) 24 1152 (s₁.setTop (mkF m 79 #[.val (.int i0), .val (.int i1), .val (.int i2), .val (.int i3), .val (.int i4), .val (.int i5), .val (.int ik1), .val (.int ik2), .val (.int t0), .val (.int t1), .val (.int ec0), .val (.int x1), .unset, .unset, .unset, .unset, .unset, .unset, .unset, .unset] []))
      refine DnW.of (fun tt_ zz_ => XS.iload X0.here hx rfl (hb hby at_79) rfl zz_) ?_
      show DnW p e below s (own_Q n0) 24 1152 (s₁.setTop (mkF m 81 #[.val (.int i0), .val (.int i1), .val (.int i2), .val (.int i3), .val (.int i4), .val (.int i5), .val (.int ik1), .val (.int ik2), .val (.int t0), .val (.int t1), .val (.int ec0), .val (.int x1), .unset, .unset, .unset, .unset, .unset, .unset, .unset, .unset] [(.int i5)]))
      refine DnW.of (fun tt_ zz_ => XS.iconst X0.here hx rfl (hb hby at_81) zz_) ?_
      show DnW p e below s (own_Q n0) 24 1152 (s₁.setTop (mkF m 82 #[.val (.int i0), .val (.int i1), .val (.int i2), .val (.int i3), .val (.int i4), .val (.int i5), .val (.int ik1), .val (.int ik2), .val (.int t0), .val (.int t1), .val (.int ec0), .val (.int x1), .unset, .unset, .unset, .unset, .unset, .unset, .unset, .unset] [(.int (2 : Int32)), (.int i5)]))
      refine DnW.of (fun tt_ zz_ => XS.iand X0.here hx rfl (hb hby at_82) rfl zz_) ?_
      show DnW p e below s (own_Q n0) 24 1152 (s₁.setTop (mkF m 83 #[.val (.int i0), .val (.int i1), .val (.int i2), .val (.int i3), .val (.int i4), .val (.int i5), .val (.int ik1), .val (.int ik2), .val (.int t0), .val (.int t1), .val (.int ec0), .val (.int x1), .unset, .unset, .unset, .unset, .unset, .unset, .unset, .unset] [(.int (i5 &&& (2 : Int32)))]))
      have K90 : ∀ ec1 : Int32, (0 ≤ ec1.toInt ∧ ec1.toInt ≤ 255) → DnW p e below s (own_Q n0) 24 1152 (s₁.setTop (mkF m 90 #[.val (.int i0), .val (.int i1), .val (.int i2), .val (.int i3), .val (.int i4), .val (.int i5), .val (.int ik1), .val (.int ik2), .val (.int t0), .val (.int t1), .val (.int ec0), .val (.int ec1), .unset, .unset, .unset, .unset, .unset, .unset, .unset, .unset] [])) := by
        intro ec1 h_ec1
        show DnW p e below s (own_Q n0) 24 1152 (s₁.setTop (mkF m 90 #[.val (.int i0), .val (.int i1), .val (.int i2), .val (.int i3), .val (.int i4), .val (.int i5), .val (.int ik1), .val (.int ik2), .val (.int t0), .val (.int t1), .val (.int ec0), .val (.int ec1), .unset, .unset, .unset, .unset, .unset, .unset, .unset, .unset] []))
        refine DnW.of (fun tt_ zz_ => XS.iload X0.here hx rfl (hb hby at_90) rfl zz_) ?_
        show DnW p e below s (own_Q n0) 24 1152 (s₁.setTop (mkF m 92 #[.val (.int i0), .val (.int i1), .val (.int i2), .val (.int i3), .val (.int i4), .val (.int i5), .val (.int ik1), .val (.int ik2), .val (.int t0), .val (.int t1), .val (.int ec0), .val (.int ec1), .unset, .unset, .unset, .unset, .unset, .unset, .unset, .unset] [(.int i4)]))
        refine DnW.of (fun tt_ zz_ => XS.sipush X0.here hx rfl (hb hby at_92) zz_) ?_
        show DnW p e below s (own_Q n0) 24 1152 (s₁.setTop (mkF m 95 #[.val (.int i0), .val (.int i1), .val (.int i2), .val (.int i3), .val (.int i4), .val (.int i5), .val (.int ik1), .val (.int ik2), .val (.int t0), .val (.int t1), .val (.int ec0), .val (.int ec1), .unset, .unset, .unset, .unset, .unset, .unset, .unset, .unset] [(.int (255 : Int32)), (.int i4)]))
        refine DnW.of (fun tt_ zz_ => XS.iand X0.here hx rfl (hb hby at_95) rfl zz_) ?_
        show DnW p e below s (own_Q n0) 24 1152 (s₁.setTop (mkF m 96 #[.val (.int i0), .val (.int i1), .val (.int i2), .val (.int i3), .val (.int i4), .val (.int i5), .val (.int ik1), .val (.int ik2), .val (.int t0), .val (.int t1), .val (.int ec0), .val (.int ec1), .unset, .unset, .unset, .unset, .unset, .unset, .unset, .unset] [(.int (i4 &&& (255 : Int32)))]))
        refine DnW.of (fun tt_ zz_ => XS.iconst X0.here hx rfl (hb hby at_96) zz_) ?_
        show DnW p e below s (own_Q n0) 24 1152 (s₁.setTop (mkF m 97 #[.val (.int i0), .val (.int i1), .val (.int i2), .val (.int i3), .val (.int i4), .val (.int i5), .val (.int ik1), .val (.int ik2), .val (.int t0), .val (.int t1), .val (.int ec0), .val (.int ec1), .unset, .unset, .unset, .unset, .unset, .unset, .unset, .unset] [(.int (3 : Int32)), (.int (i4 &&& (255 : Int32)))]))
        refine DnW.of (fun tt_ zz_ => iremM X0 hx rfl (hb hby at_97) rfl (by decide) zz_) ?_
        show DnW p e below s (own_Q n0) 24 1152 (s₁.setTop (mkF m 98 #[.val (.int i0), .val (.int i1), .val (.int i2), .val (.int i3), .val (.int i4), .val (.int i5), .val (.int ik1), .val (.int ik2), .val (.int t0), .val (.int t1), .val (.int ec0), .val (.int ec1), .unset, .unset, .unset, .unset, .unset, .unset, .unset, .unset] [(.int ((i4 &&& (255 : Int32)) % (3 : Int32)))]))
        refine DnW.of (fun tt_ zz_ => XS.istore X0.here hx rfl (hb hby at_98) rfl (l' := #[.val (.int i0), .val (.int i1), .val (.int i2), .val (.int i3), .val (.int i4), .val (.int i5), .val (.int ik1), .val (.int ik2), .val (.int t0), .val (.int t1), .val (.int ec0), .val (.int ec1), .val (.int ((i4 &&& (255 : Int32)) % (3 : Int32))), .unset, .unset, .unset, .unset, .unset, .unset, .unset]) rfl zz_) ?_
        show DnW p e below s (own_Q n0) 24 1152 (s₁.setTop (mkF m 100 #[.val (.int i0), .val (.int i1), .val (.int i2), .val (.int i3), .val (.int i4), .val (.int i5), .val (.int ik1), .val (.int ik2), .val (.int t0), .val (.int t1), .val (.int ec0), .val (.int ec1), .val (.int ((i4 &&& (255 : Int32)) % (3 : Int32))), .unset, .unset, .unset, .unset, .unset, .unset, .unset] []))
        refine DnW.of (fun tt_ zz_ => XS.iload X0.here hx rfl (hb hby at_100) rfl zz_) ?_
        show DnW p e below s (own_Q n0) 24 1152 (s₁.setTop (mkF m 102 #[.val (.int i0), .val (.int i1), .val (.int i2), .val (.int i3), .val (.int i4), .val (.int i5), .val (.int ik1), .val (.int ik2), .val (.int t0), .val (.int t1), .val (.int ec0), .val (.int ec1), .val (.int ((i4 &&& (255 : Int32)) % (3 : Int32))), .unset, .unset, .unset, .unset, .unset, .unset, .unset] [(.int i4)]))
        refine DnW.of (fun tt_ zz_ => XS.bipush X0.here hx rfl (hb hby at_102) zz_) ?_
        show DnW p e below s (own_Q n0) 24 1152 (s₁.setTop (mkF m 104 #[.val (.int i0), .val (.int i1), .val (.int i2), .val (.int i3), .val (.int i4), .val (.int i5), .val (.int ik1), .val (.int ik2), .val (.int t0), .val (.int t1), .val (.int ec0), .val (.int ec1), .val (.int ((i4 &&& (255 : Int32)) % (3 : Int32))), .unset, .unset, .unset, .unset, .unset, .unset, .unset] [(.int (8 : Int32)), (.int i4)]))
        refine DnW.of (fun tt_ zz_ => XS.iushr X0.here hx rfl (hb hby at_104) rfl zz_) ?_
        show DnW p e below s (own_Q n0) 24 1152 (s₁.setTop (mkF m 105 #[.val (.int i0), .val (.int i1), .val (.int i2), .val (.int i3), .val (.int i4), .val (.int i5), .val (.int ik1), .val (.int ik2), .val (.int t0), .val (.int t1), .val (.int ec0), .val (.int ec1), .val (.int ((i4 &&& (255 : Int32)) % (3 : Int32))), .unset, .unset, .unset, .unset, .unset, .unset, .unset] [(.int ((i4.toUInt32 >>> ((8 : Int32) &&& 31).toUInt32).toInt32))]))
        refine DnW.of (fun tt_ zz_ => XS.sipush X0.here hx rfl (hb hby at_105) zz_) ?_
        show DnW p e below s (own_Q n0) 24 1152 (s₁.setTop (mkF m 108 #[.val (.int i0), .val (.int i1), .val (.int i2), .val (.int i3), .val (.int i4), .val (.int i5), .val (.int ik1), .val (.int ik2), .val (.int t0), .val (.int t1), .val (.int ec0), .val (.int ec1), .val (.int ((i4 &&& (255 : Int32)) % (3 : Int32))), .unset, .unset, .unset, .unset, .unset, .unset, .unset] [(.int (255 : Int32)), (.int ((i4.toUInt32 >>> ((8 : Int32) &&& 31).toUInt32).toInt32))]))
        refine DnW.of (fun tt_ zz_ => XS.iand X0.here hx rfl (hb hby at_108) rfl zz_) ?_
        show DnW p e below s (own_Q n0) 24 1152 (s₁.setTop (mkF m 109 #[.val (.int i0), .val (.int i1), .val (.int i2), .val (.int i3), .val (.int i4), .val (.int i5), .val (.int ik1), .val (.int ik2), .val (.int t0), .val (.int t1), .val (.int ec0), .val (.int ec1), .val (.int ((i4 &&& (255 : Int32)) % (3 : Int32))), .unset, .unset, .unset, .unset, .unset, .unset, .unset] [(.int (((i4.toUInt32 >>> ((8 : Int32) &&& 31).toUInt32).toInt32) &&& (255 : Int32)))]))
        refine DnW.of (fun tt_ zz_ => XS.iconst X0.here hx rfl (hb hby at_109) zz_) ?_
        show DnW p e below s (own_Q n0) 24 1152 (s₁.setTop (mkF m 110 #[.val (.int i0), .val (.int i1), .val (.int i2), .val (.int i3), .val (.int i4), .val (.int i5), .val (.int ik1), .val (.int ik2), .val (.int t0), .val (.int t1), .val (.int ec0), .val (.int ec1), .val (.int ((i4 &&& (255 : Int32)) % (3 : Int32))), .unset, .unset, .unset, .unset, .unset, .unset, .unset] [(.int (3 : Int32)), (.int (((i4.toUInt32 >>> ((8 : Int32) &&& 31).toUInt32).toInt32) &&& (255 : Int32)))]))
        refine DnW.of (fun tt_ zz_ => iremM X0 hx rfl (hb hby at_110) rfl (by decide) zz_) ?_
        show DnW p e below s (own_Q n0) 24 1152 (s₁.setTop (mkF m 111 #[.val (.int i0), .val (.int i1), .val (.int i2), .val (.int i3), .val (.int i4), .val (.int i5), .val (.int ik1), .val (.int ik2), .val (.int t0), .val (.int t1), .val (.int ec0), .val (.int ec1), .val (.int ((i4 &&& (255 : Int32)) % (3 : Int32))), .unset, .unset, .unset, .unset, .unset, .unset, .unset] [(.int ((((i4.toUInt32 >>> ((8 : Int32) &&& 31).toUInt32).toInt32) &&& (255 : Int32)) % (3 : Int32)))]))
        refine DnW.of (fun tt_ zz_ => XS.istore X0.here hx rfl (hb hby at_111) rfl (l' := #[.val (.int i0), .val (.int i1), .val (.int i2), .val (.int i3), .val (.int i4), .val (.int i5), .val (.int ik1), .val (.int ik2), .val (.int t0), .val (.int t1), .val (.int ec0), .val (.int ec1), .val (.int ((i4 &&& (255 : Int32)) % (3 : Int32))), .val (.int ((((i4.toUInt32 >>> ((8 : Int32) &&& 31).toUInt32).toInt32) &&& (255 : Int32)) % (3 : Int32))), .unset, .unset, .unset, .unset, .unset, .unset]) rfl zz_) ?_
        show DnW p e below s (own_Q n0) 24 1152 (s₁.setTop (mkF m 113 #[.val (.int i0), .val (.int i1), .val (.int i2), .val (.int i3), .val (.int i4), .val (.int i5), .val (.int ik1), .val (.int ik2), .val (.int t0), .val (.int t1), .val (.int ec0), .val (.int ec1), .val (.int ((i4 &&& (255 : Int32)) % (3 : Int32))), .val (.int ((((i4.toUInt32 >>> ((8 : Int32) &&& 31).toUInt32).toInt32) &&& (255 : Int32)) % (3 : Int32))), .unset, .unset, .unset, .unset, .unset, .unset] []))
        have hl_lt := own_len3 i4
        generalize ((i4 &&& (255 : Int32)) % (3 : Int32)) = lt at hl_lt ⊢
        have hl_lx := own_len3 ((i4.toUInt32 >>> ((8 : Int32) &&& 31).toUInt32).toInt32)
        generalize ((((i4.toUInt32 >>> ((8 : Int32) &&& 31).toUInt32).toInt32) &&& (255 : Int32)) % (3 : Int32)) = lx at hl_lx ⊢
        show DnW p e below s (own_Q n0) 24 1152 (s₁.setTop (mkF m 113 #[.val (.int i0), .val (.int i1), .val (.int i2), .val (.int i3), .val (.int i4), .val (.int i5), .val (.int ik1), .val (.int ik2), .val (.int t0), .val (.int t1), .val (.int ec0), .val (.int ec1), .val (.int lt), .val (.int lx), .unset, .unset, .unset, .unset, .unset, .unset] []))
        refine DnW.of (fun tt_ zz_ => XS.iload X0.here hx rfl (hb hby at_113) rfl zz_) ?_
        show DnW p e below s (own_Q n0) 24 1152 (s₁.setTop (mkF m 115 #[.val (.int i0), .val (.int i1), .val (.int i2), .val (.int i3), .val (.int i4), .val (.int i5), .val (.int ik1), .val (.int ik2), .val (.int t0), .val (.int t1), .val (.int ec0), .val (.int ec1), .val (.int lt), .val (.int lx), .unset, .unset, .unset, .unset, .unset, .unset] [(.int i5)]))
        refine DnW.of (fun tt_ zz_ => XS.iconst X0.here hx rfl (hb hby at_115) zz_) ?_
        show DnW p e below s (own_Q n0) 24 1152 (s₁.setTop (mkF m 116 #[.val (.int i0), .val (.int i1), .val (.int i2), .val (.int i3), .val (.int i4), .val (.int i5), .val (.int ik1), .val (.int ik2), .val (.int t0), .val (.int t1), .val (.int ec0), .val (.int ec1), .val (.int lt), .val (.int lx), .unset, .unset, .unset, .unset, .unset, .unset] [(.int (4 : Int32)), (.int i5)]))
        refine DnW.of (fun tt_ zz_ => XS.iand X0.here hx rfl (hb hby at_116) rfl zz_) ?_
        show DnW p e below s (own_Q n0) 24 1152 (s₁.setTop (mkF m 117 #[.val (.int i0), .val (.int i1), .val (.int i2), .val (.int i3), .val (.int i4), .val (.int i5), .val (.int ik1), .val (.int ik2), .val (.int t0), .val (.int t1), .val (.int ec0), .val (.int ec1), .val (.int lt), .val (.int lx), .unset, .unset, .unset, .unset, .unset, .unset] [(.int (i5 &&& (4 : Int32)))]))
        have K124 : ∀ le : Int32, (le = 0 ∨ le = 1 ∨ le = 2) → DnW p e below s (own_Q n0) 24 1152 (s₁.setTop (mkF m 124 #[.val (.int i0), .val (.int i1), .val (.int i2), .val (.int i3), .val (.int i4), .val (.int i5), .val (.int ik1), .val (.int ik2), .val (.int t0), .val (.int t1), .val (.int ec0), .val (.int ec1), .val (.int lt), .val (.int le), .unset, .unset, .unset, .unset, .unset, .unset] [])) := by
          intro le h_le
          show DnW p e below s (own_Q n0) 24 1152 (s₁.setTop (mkF m 124 #[.val (.int i0), .val (.int i1), .val (.int i2), .val (.int i3), .val (.int i4), .val (.int i5), .val (.int ik1), .val (.int ik2), .val (.int t0), .val (.int t1), .val (.int ec0), .val (.int ec1), .val (.int lt), .val (.int le), .unset, .unset, .unset, .unset, .unset, .unset] []))
          refine DnW.of (fun tt_ zz_ => XS.iload X0.here hx rfl (hb hby at_124) rfl zz_) ?_
          show DnW p e below s (own_Q n0) 24 1152 (s₁.setTop (mkF m 126 #[.val (.int i0), .val (.int i1), .val (.int i2), .val (.int i3), .val (.int i4), .val (.int i5), .val (.int ik1), .val (.int ik2), .val (.int t0), .val (.int t1), .val (.int ec0), .val (.int ec1), .val (.int lt), .val (.int le), .unset, .unset, .unset, .unset, .unset, .unset] [(.int i5)]))
          refine DnW.of (fun tt_ zz_ => XS.bipush X0.here hx rfl (hb hby at_126) zz_) ?_
          show DnW p e below s (own_Q n0) 24 1152 (s₁.setTop (mkF m 128 #[.val (.int i0), .val (.int i1), .val (.int i2), .val (.int i3), .val (.int i4), .val (.int i5), .val (.int ik1), .val (.int ik2), .val (.int t0), .val (.int t1), .val (.int ec0), .val (.int ec1), .val (.int lt), .val (.int le), .unset, .unset, .unset, .unset, .unset, .unset] [(.int (8 : Int32)), (.int i5)]))
          refine DnW.of (fun tt_ zz_ => XS.iand X0.here hx rfl (hb hby at_128) rfl zz_) ?_
          show DnW p e below s (own_Q n0) 24 1152 (s₁.setTop (mkF m 129 #[.val (.int i0), .val (.int i1), .val (.int i2), .val (.int i3), .val (.int i4), .val (.int i5), .val (.int ik1), .val (.int ik2), .val (.int t0), .val (.int t1), .val (.int ec0), .val (.int ec1), .val (.int lt), .val (.int le), .unset, .unset, .unset, .unset, .unset, .unset] [(.int (i5 &&& (8 : Int32)))]))
          have K145 : ∀ nu : Int32, DnW p e below s (own_Q n0) 24 1152 (s₁.setTop (mkF m 145 #[.val (.int i0), .val (.int i1), .val (.int i2), .val (.int i3), .val (.int i4), .val (.int i5), .val (.int ik1), .val (.int ik2), .val (.int t0), .val (.int t1), .val (.int ec0), .val (.int ec1), .val (.int lt), .val (.int le), .unset, .unset, .unset, .unset, .unset, .unset] [(.int nu)])) := by
            intro nu
            show DnW p e below s (own_Q n0) 24 1152 (s₁.setTop (mkF m 145 #[.val (.int i0), .val (.int i1), .val (.int i2), .val (.int i3), .val (.int i4), .val (.int i5), .val (.int ik1), .val (.int ik2), .val (.int t0), .val (.int t1), .val (.int ec0), .val (.int ec1), .val (.int lt), .val (.int le), .unset, .unset, .unset, .unset, .unset, .unset] [(.int nu)]))
            refine DnW.of (fun tt_ zz_ => XS.istore X0.here hx rfl (hb hby at_145) rfl (l' := #[.val (.int i0), .val (.int i1), .val (.int i2), .val (.int i3), .val (.int i4), .val (.int i5), .val (.int ik1), .val (.int ik2), .val (.int t0), .val (.int t1), .val (.int ec0), .val (.int ec1), .val (.int lt), .val (.int le), .val (.int nu), .unset, .unset, .unset, .unset, .unset]) rfl zz_) ?_
            show DnW p e below s (own_Q n0) 24 1152 (s₁.setTop (mkF m 147 #[.val (.int i0), .val (.int i1), .val (.int i2), .val (.int i3), .val (.int i4), .val (.int i5), .val (.int ik1), .val (.int ik2), .val (.int t0), .val (.int t1), .val (.int ec0), .val (.int ec1), .val (.int lt), .val (.int le), .val (.int nu), .unset, .unset, .unset, .unset, .unset] []))
            refine DnW.of (fun tt_ zz_ => XS.iload X0.here hx rfl (hb hby at_147) rfl zz_) ?_
            show DnW p e below s (own_Q n0) 24 1152 (s₁.setTop (mkF m 149 #[.val (.int i0), .val (.int i1), .val (.int i2), .val (.int i3), .val (.int i4), .val (.int i5), .val (.int ik1), .val (.int ik2), .val (.int t0), .val (.int t1), .val (.int ec0), .val (.int ec1), .val (.int lt), .val (.int le), .val (.int nu), .unset, .unset, .unset, .unset, .unset] [(.int lt)]))
            refine DnW.of (fun tt_ zz_ => XS.iload X0.here hx rfl (hb hby at_149) rfl zz_) ?_
            show DnW p e below s (own_Q n0) 24 1152 (s₁.setTop (mkF m 151 #[.val (.int i0), .val (.int i1), .val (.int i2), .val (.int i3), .val (.int i4), .val (.int i5), .val (.int ik1), .val (.int ik2), .val (.int t0), .val (.int t1), .val (.int ec0), .val (.int ec1), .val (.int lt), .val (.int le), .val (.int nu), .unset, .unset, .unset, .unset, .unset] [(.int t0), (.int lt)]))
            refine DnW.of (fun tt_ zz_ => XS.iload X0.here hx rfl (hb hby at_151) rfl zz_) ?_
            show DnW p e below s (own_Q n0) 24 1152 (s₁.setTop (mkF m 153 #[.val (.int i0), .val (.int i1), .val (.int i2), .val (.int i3), .val (.int i4), .val (.int i5), .val (.int ik1), .val (.int ik2), .val (.int t0), .val (.int t1), .val (.int ec0), .val (.int ec1), .val (.int lt), .val (.int le), .val (.int nu), .unset, .unset, .unset, .unset, .unset] [(.int t1), (.int t0), (.int lt)]))
            obtain ⟨v115, T115, L115, Q115, X115, hS, hZ, hown, hC115, st115⟩ := cSH X0 hx hZ (y := (⟨"com/example/warmfront/warmfront/js/TokenIsPinLaw", "mk", "(ICC)Ljava/lang/String;"⟩ : MethodName)) hown (hg 1 rfl) (hg 2 rfl) (hg 3 rfl) (hg 4 rfl) (by decide) (own_EW hw) hH hS hk (argsL := [(.int lt), (.int t0), (.int t1)]) (rest := []) (rmMk l Z a0 hw h0 n0 Z0 lt t0 t1 cz hcz SZ O0 y_t0 y_t1 hl_lt) e0  0 (by decide) (by decide) (by decide) (by decide) (g := (mkF m 153 #[.val (.int i0), .val (.int i1), .val (.int i2), .val (.int i3), .val (.int i4), .val (.int i5), .val (.int ik1), .val (.int ik2), .val (.int t0), .val (.int t1), .val (.int ec0), .val (.int ec1), .val (.int lt), .val (.int le), .val (.int nu), .unset, .unset, .unset, .unset, .unset] [(.int t1), (.int t0), (.int lt)])) rfl (by rw [hml]; rfl) (lenOf pd12 rfl) rfl (by show 2 * 0 + _ ≤ _; exact Nat.le_of_eq rfl) (hb hby at_153)
            obtain ⟨sa, sb, rfl, M1, X1, S1⟩ := Q115
            refine DnW.of st115 ?_
            show DnW p e below s (own_Q n0) 24 1152 (T115.setTop (mkF m 156 #[.val (.int i0), .val (.int i1), .val (.int i2), .val (.int i3), .val (.int i4), .val (.int i5), .val (.int ik1), .val (.int ik2), .val (.int t0), .val (.int t1), .val (.int ec0), .val (.int ec1), .val (.int lt), .val (.int le), .val (.int nu), .unset, .unset, .unset, .unset, .unset] [(.ref sa)]))
            have hk1 := Nat.le_refl (T115.heap.size)
            refine DnW.of (fun tt_ zz_ => XS.astore X115.here hx rfl (hb hby at_156) rfl rfl (l' := #[.val (.int i0), .val (.int i1), .val (.int i2), .val (.int i3), .val (.int i4), .val (.int i5), .val (.int ik1), .val (.int ik2), .val (.int t0), .val (.int t1), .val (.int ec0), .val (.int ec1), .val (.int lt), .val (.int le), .val (.int nu), .val (.ref sa), .unset, .unset, .unset, .unset]) rfl zz_) ?_
            show DnW p e below s (own_Q n0) 24 1152 (T115.setTop (mkF m 158 #[.val (.int i0), .val (.int i1), .val (.int i2), .val (.int i3), .val (.int i4), .val (.int i5), .val (.int ik1), .val (.int ik2), .val (.int t0), .val (.int t1), .val (.int ec0), .val (.int ec1), .val (.int lt), .val (.int le), .val (.int nu), .val (.ref sa), .unset, .unset, .unset, .unset] []))
            refine DnW.of (fun tt_ zz_ => XS.iload X115.here hx rfl (hb hby at_158) rfl zz_) ?_
            show DnW p e below s (own_Q n0) 24 1152 (T115.setTop (mkF m 160 #[.val (.int i0), .val (.int i1), .val (.int i2), .val (.int i3), .val (.int i4), .val (.int i5), .val (.int ik1), .val (.int ik2), .val (.int t0), .val (.int t1), .val (.int ec0), .val (.int ec1), .val (.int lt), .val (.int le), .val (.int nu), .val (.ref sa), .unset, .unset, .unset, .unset] [(.int nu)]))
            by_cases hnu : nu = (0 : Int32)
            · skip
              refine DnW.of (fun tt_ zz_ => XS.ifYes X115.here hx rfl (pc0 := 160) (pc' := 167) rfl (hb hby at_160) rfl ((if0 _ _).trans (teq hnu).1) (by decide) (by decide) zz_) ?_
              show DnW p e below s (own_Q n0) 24 1152 (T115.setTop (mkF m 167 #[.val (.int i0), .val (.int i1), .val (.int i2), .val (.int i3), .val (.int i4), .val (.int i5), .val (.int ik1), .val (.int ik2), .val (.int t0), .val (.int t1), .val (.int ec0), .val (.int ec1), .val (.int lt), .val (.int le), .val (.int nu), .val (.ref sa), .unset, .unset, .unset, .unset] []))
              refine DnW.of (fun tt_ zz_ => XS.iload X115.here hx rfl (hb hby at_167) rfl zz_) ?_
              show DnW p e below s (own_Q n0) 24 1152 (T115.setTop (mkF m 169 #[.val (.int i0), .val (.int i1), .val (.int i2), .val (.int i3), .val (.int i4), .val (.int i5), .val (.int ik1), .val (.int ik2), .val (.int t0), .val (.int t1), .val (.int ec0), .val (.int ec1), .val (.int lt), .val (.int le), .val (.int nu), .val (.ref sa), .unset, .unset, .unset, .unset] [(.int le)]))
              refine DnW.of (fun tt_ zz_ => XS.iload X115.here hx rfl (hb hby at_169) rfl zz_) ?_
              show DnW p e below s (own_Q n0) 24 1152 (T115.setTop (mkF m 171 #[.val (.int i0), .val (.int i1), .val (.int i2), .val (.int i3), .val (.int i4), .val (.int i5), .val (.int ik1), .val (.int ik2), .val (.int t0), .val (.int t1), .val (.int ec0), .val (.int ec1), .val (.int lt), .val (.int le), .val (.int nu), .val (.ref sa), .unset, .unset, .unset, .unset] [(.int ec0), (.int le)]))
              refine DnW.of (fun tt_ zz_ => XS.iload X115.here hx rfl (hb hby at_171) rfl zz_) ?_
              show DnW p e below s (own_Q n0) 24 1152 (T115.setTop (mkF m 173 #[.val (.int i0), .val (.int i1), .val (.int i2), .val (.int i3), .val (.int i4), .val (.int i5), .val (.int ik1), .val (.int ik2), .val (.int t0), .val (.int t1), .val (.int ec0), .val (.int ec1), .val (.int lt), .val (.int le), .val (.int nu), .val (.ref sa), .unset, .unset, .unset, .unset] [(.int ec1), (.int ec0), (.int le)]))
              have F116 := (O0.ext X1)
              have F117 := (Nat.le_trans Z0 X1.1)
              obtain ⟨v118, T118, L118, Q118, X118, hS, hZ, hown, hC118, st118⟩ := cSH X115 hx hZ (y := (⟨"com/example/warmfront/warmfront/js/TokenIsPinLaw", "mk", "(ICC)Ljava/lang/String;"⟩ : MethodName)) hown (hg 1 rfl) (hg 2 rfl) (hg 3 rfl) (hg 4 rfl) (by decide) (own_EW hw) hC115.1 hS (Nat.le_refl _) (argsL := [(.int le), (.int ec0), (.int ec1)]) (rest := []) (rmMk l Z a0 hw T115.heap n0 F117 le ec0 ec1 cz hcz SZ F116 h_ec0 h_ec1 h_le) rfl  0 (by decide) (by decide) (by decide) (by decide) (g := (mkF m 173 #[.val (.int i0), .val (.int i1), .val (.int i2), .val (.int i3), .val (.int i4), .val (.int i5), .val (.int ik1), .val (.int ik2), .val (.int t0), .val (.int t1), .val (.int ec0), .val (.int ec1), .val (.int lt), .val (.int le), .val (.int nu), .val (.ref sa), .unset, .unset, .unset, .unset] [(.int ec1), (.int ec0), (.int le)])) rfl (by rw [hml]; rfl) (lenOf pd12 rfl) rfl (by show 2 * 0 + _ ≤ _; exact Nat.le_of_eq rfl) (hb hby at_173)
              obtain ⟨ea, eb, rfl, M2, X2, S2⟩ := Q118
              refine DnW.of st118 ?_
              show DnW p e below s (own_Q n0) 24 1152 (T118.setTop (mkF m 176 #[.val (.int i0), .val (.int i1), .val (.int i2), .val (.int i3), .val (.int i4), .val (.int i5), .val (.int ik1), .val (.int ik2), .val (.int t0), .val (.int t1), .val (.int ec0), .val (.int ec1), .val (.int lt), .val (.int le), .val (.int nu), .val (.ref sa), .unset, .unset, .unset, .unset] [(.ref ea)]))
              have hk2 := Nat.le_refl (T118.heap.size)
              refine DnW.of (fun tt_ zz_ => XS.astore X118.here hx rfl (hb hby at_176) rfl rfl (l' := #[.val (.int i0), .val (.int i1), .val (.int i2), .val (.int i3), .val (.int i4), .val (.int i5), .val (.int ik1), .val (.int ik2), .val (.int t0), .val (.int t1), .val (.int ec0), .val (.int ec1), .val (.int lt), .val (.int le), .val (.int nu), .val (.ref sa), .val (.ref ea), .unset, .unset, .unset]) rfl zz_) ?_
              show DnW p e below s (own_Q n0) 24 1152 (T118.setTop (mkF m 178 #[.val (.int i0), .val (.int i1), .val (.int i2), .val (.int i3), .val (.int i4), .val (.int i5), .val (.int ik1), .val (.int ik2), .val (.int t0), .val (.int t1), .val (.int ec0), .val (.int ec1), .val (.int lt), .val (.int le), .val (.int nu), .val (.ref sa), .val (.ref ea), .unset, .unset, .unset] []))
              have F119 := (S1.ext X2)
              have F120 := (Nat.le_trans F117 X2.1)
              obtain ⟨T121, h121, X121, e121, E121, A121, D121, U121, st121⟩ := newO X118 hx hZ hown (hg 13 rfl) (hg 14 rfl) (hg 15 rfl) rfl (g := (mkF m 178 #[.val (.int i0), .val (.int i1), .val (.int i2), .val (.int i3), .val (.int i4), .val (.int i5), .val (.int ik1), .val (.int ik2), .val (.int t0), .val (.int t1), .val (.int ec0), .val (.int ec1), .val (.int lt), .val (.int le), .val (.int nu), .val (.ref sa), .val (.ref ea), .unset, .unset, .unset] [])) rfl (hb hby at_178) (by decide) (by decide)
              obtain ⟨b121, g121⟩ : ∃ z, z = T118.heap.size := ⟨_, rfl⟩
              rw [← g121] at A121 D121 U121 st121
              refine DnW.of st121 ?_
              show DnW p e below s (own_Q n0) 24 1152 (T121.setTop (mkF m 181 #[.val (.int i0), .val (.int i1), .val (.int i2), .val (.int i3), .val (.int i4), .val (.int i5), .val (.int ik1), .val (.int ik2), .val (.int t0), .val (.int t1), .val (.int ec0), .val (.int ec1), .val (.int lt), .val (.int le), .val (.int nu), .val (.ref sa), .val (.ref ea), .unset, .unset, .unset] [(.ref b121)]))
              have F_kind_121 : Fld Z h121 b121 "com/example/warmfront/warmfront/js/Token" "kind" "Lcom/example/warmfront/warmfront/js/Token$Kind;" .null := D121 (Or.inr (hg 34 rfl)) (ty := (.object "com/example/warmfront/warmfront/js/Token$Kind")) (by decide)
              have F_text_121 : Fld Z h121 b121 "com/example/warmfront/warmfront/js/Token" "text" "Ljava/lang/String;" .null := D121 (Or.inr (hg 36 rfl)) (ty := (.object "java/lang/String")) (by decide)
              have F_number_121 : Fld Z h121 b121 "com/example/warmfront/warmfront/js/Token" "number" "D" (.double (0 : UInt64)) := D121 (Or.inr (hg 38 rfl)) (ty := .double) (by decide)
              have F_start_121 : Fld Z h121 b121 "com/example/warmfront/warmfront/js/Token" "start" "I" (.int (0 : Int32)) := D121 (Or.inr (hg 40 rfl)) (ty := .int) (by decide)
              have F_end_121 : Fld Z h121 b121 "com/example/warmfront/warmfront/js/Token" "end" "I" (.int (0 : Int32)) := D121 (Or.inr (hg 42 rfl)) (ty := .int) (by decide)
              have F_line_121 : Fld Z h121 b121 "com/example/warmfront/warmfront/js/Token" "line" "I" (.int (0 : Int32)) := D121 (Or.inr (hg 44 rfl)) (ty := .int) (by decide)
              have F_column_121 : Fld Z h121 b121 "com/example/warmfront/warmfront/js/Token" "column" "I" (.int (0 : Int32)) := D121 (Or.inr (hg 46 rfl)) (ty := .int) (by decide)
              have F_newlineBefore_121 : Fld Z h121 b121 "com/example/warmfront/warmfront/js/Token" "newlineBefore" "Z" (.int (0 : Int32)) := D121 (Or.inr (hg 48 rfl)) (ty := .boolean) (by decide)
              have gt : n0 ≤ b121 := g121 ▸ F120
              have p1 : sa ≠ b121 := Nat.ne_of_lt (g121 ▸ F119.lt.1)
              have r1 : sb ≠ b121 := Nat.ne_of_lt (g121 ▸ F119.lt.2)
              have p2 : ea ≠ b121 := Nat.ne_of_lt (g121 ▸ S2.lt.1)
              have r2 : eb ≠ b121 := Nat.ne_of_lt (g121 ▸ S2.lt.2)
              refine DnW.of (fun tt_ zz_ => XS.dup X121.here hx rfl (hb hby at_181) rfl rfl zz_) ?_
              show DnW p e below s (own_Q n0) 24 1152 (T121.setTop (mkF m 182 #[.val (.int i0), .val (.int i1), .val (.int i2), .val (.int i3), .val (.int i4), .val (.int i5), .val (.int ik1), .val (.int ik2), .val (.int t0), .val (.int t1), .val (.int ec0), .val (.int ec1), .val (.int lt), .val (.int le), .val (.int nu), .val (.ref sa), .val (.ref ea), .unset, .unset, .unset] [(.ref b121), (.ref b121)]))
              refine DnW.of (fun tt_ zz_ => XS.iload X121.here hx rfl (hb hby at_182) rfl zz_) ?_
              show DnW p e below s (own_Q n0) 24 1152 (T121.setTop (mkF m 184 #[.val (.int i0), .val (.int i1), .val (.int i2), .val (.int i3), .val (.int i4), .val (.int i5), .val (.int ik1), .val (.int ik2), .val (.int t0), .val (.int t1), .val (.int ec0), .val (.int ec1), .val (.int lt), .val (.int le), .val (.int nu), .val (.ref sa), .val (.ref ea), .unset, .unset, .unset] [(.int ik1), (.ref b121), (.ref b121)]))
              have F122 := ((F116.ext X2).ext E121)
              have F123 := (Nat.le_trans F120 E121.1)
              obtain ⟨v124, T124, L124, Q124, X124, st124⟩ := cSt X121 hx hZ (y := (⟨"com/example/warmfront/warmfront/js/TokenIsPinLaw", "kind", "(I)Lcom/example/warmfront/warmfront/js/Token$Kind;"⟩ : MethodName)) hown (hg 16 rfl) (hg 17 rfl) (hg 3 rfl) (hg 18 rfl) (by decide) (argsL := [(.int ik1)]) (rest := [(.ref b121), (.ref b121)]) (rmK l Z a0 hw h121 n0 F123 ik1 a_IDENTIFIER a_KEYWORD a_NUMBER a_STRING a_PUNCTUATOR a_END S_IDENTIFIER S_KEYWORD S_NUMBER S_STRING S_PUNCTUATOR S_END F122) e121  2 (by decide) (by decide) (by decide) (by decide) (g := (mkF m 184 #[.val (.int i0), .val (.int i1), .val (.int i2), .val (.int i3), .val (.int i4), .val (.int i5), .val (.int ik1), .val (.int ik2), .val (.int t0), .val (.int t1), .val (.int ec0), .val (.int ec1), .val (.int lt), .val (.int le), .val (.int nu), .val (.ref sa), .val (.ref ea), .unset, .unset, .unset] [(.int ik1), (.ref b121), (.ref b121)])) rfl (by rw [hml]; rfl) (lenOf pd13 rfl) rfl (by show 2 * 0 + _ ≤ _; exact Nat.le_of_eq rfl) (hb hby at_184)
              obtain ⟨rfl, M3, e124⟩ := Q124
              refine DnW.of st124 ?_
              show DnW p e below s (own_Q n0) 24 1152 (T124.setTop (mkF m 187 #[.val (.int i0), .val (.int i1), .val (.int i2), .val (.int i3), .val (.int i4), .val (.int i5), .val (.int ik1), .val (.int ik2), .val (.int t0), .val (.int t1), .val (.int ec0), .val (.int ec1), .val (.int lt), .val (.int le), .val (.int nu), .val (.ref sa), .val (.ref ea), .unset, .unset, .unset] [(own_kind a_IDENTIFIER a_KEYWORD a_NUMBER a_STRING a_PUNCTUATOR a_END ik1), (.ref b121), (.ref b121)]))
              refine DnW.of (fun tt_ zz_ => XS.aload X124.here hx rfl (hb hby at_187) rfl rfl zz_) ?_
              show DnW p e below s (own_Q n0) 24 1152 (T124.setTop (mkF m 189 #[.val (.int i0), .val (.int i1), .val (.int i2), .val (.int i3), .val (.int i4), .val (.int i5), .val (.int ik1), .val (.int ik2), .val (.int t0), .val (.int t1), .val (.int ec0), .val (.int ec1), .val (.int lt), .val (.int le), .val (.int nu), .val (.ref sa), .val (.ref ea), .unset, .unset, .unset] [(.ref sa), (own_kind a_IDENTIFIER a_KEYWORD a_NUMBER a_STRING a_PUNCTUATOR a_END ik1), (.ref b121), (.ref b121)]))
              refine DnW.of (fun tt_ zz_ => XS.dconst0 X124.here hx rfl (v := (0 : UInt64)) (hb hby at_189) rfl zz_) ?_
              show DnW p e below s (own_Q n0) 24 1152 (T124.setTop (mkF m 190 #[.val (.int i0), .val (.int i1), .val (.int i2), .val (.int i3), .val (.int i4), .val (.int i5), .val (.int ik1), .val (.int ik2), .val (.int t0), .val (.int t1), .val (.int ec0), .val (.int ec1), .val (.int lt), .val (.int le), .val (.int nu), .val (.ref sa), .val (.ref ea), .unset, .unset, .unset] [(.double (0 : UInt64)), (.ref sa), (own_kind a_IDENTIFIER a_KEYWORD a_NUMBER a_STRING a_PUNCTUATOR a_END ik1), (.ref b121), (.ref b121)]))
              refine DnW.of (fun tt_ zz_ => XS.iconst X124.here hx rfl (hb hby at_190) zz_) ?_
              show DnW p e below s (own_Q n0) 24 1152 (T124.setTop (mkF m 191 #[.val (.int i0), .val (.int i1), .val (.int i2), .val (.int i3), .val (.int i4), .val (.int i5), .val (.int ik1), .val (.int ik2), .val (.int t0), .val (.int t1), .val (.int ec0), .val (.int ec1), .val (.int lt), .val (.int le), .val (.int nu), .val (.ref sa), .val (.ref ea), .unset, .unset, .unset] [(.int (0 : Int32)), (.double (0 : UInt64)), (.ref sa), (own_kind a_IDENTIFIER a_KEYWORD a_NUMBER a_STRING a_PUNCTUATOR a_END ik1), (.ref b121), (.ref b121)]))
              refine DnW.of (fun tt_ zz_ => XS.iload X124.here hx rfl (hb hby at_191) rfl zz_) ?_
              show DnW p e below s (own_Q n0) 24 1152 (T124.setTop (mkF m 193 #[.val (.int i0), .val (.int i1), .val (.int i2), .val (.int i3), .val (.int i4), .val (.int i5), .val (.int ik1), .val (.int ik2), .val (.int t0), .val (.int t1), .val (.int ec0), .val (.int ec1), .val (.int lt), .val (.int le), .val (.int nu), .val (.ref sa), .val (.ref ea), .unset, .unset, .unset] [(.int lt), (.int (0 : Int32)), (.double (0 : UInt64)), (.ref sa), (own_kind a_IDENTIFIER a_KEYWORD a_NUMBER a_STRING a_PUNCTUATOR a_END ik1), (.ref b121), (.ref b121)]))
              refine DnW.of (fun tt_ zz_ => XS.iconst X124.here hx rfl (hb hby at_193) zz_) ?_
              show DnW p e below s (own_Q n0) 24 1152 (T124.setTop (mkF m 194 #[.val (.int i0), .val (.int i1), .val (.int i2), .val (.int i3), .val (.int i4), .val (.int i5), .val (.int ik1), .val (.int ik2), .val (.int t0), .val (.int t1), .val (.int ec0), .val (.int ec1), .val (.int lt), .val (.int le), .val (.int nu), .val (.ref sa), .val (.ref ea), .unset, .unset, .unset] [(.int (1 : Int32)), (.int lt), (.int (0 : Int32)), (.double (0 : UInt64)), (.ref sa), (own_kind a_IDENTIFIER a_KEYWORD a_NUMBER a_STRING a_PUNCTUATOR a_END ik1), (.ref b121), (.ref b121)]))
              refine DnW.of (fun tt_ zz_ => XS.iconst X124.here hx rfl (hb hby at_194) zz_) ?_
              show DnW p e below s (own_Q n0) 24 1152 (T124.setTop (mkF m 195 #[.val (.int i0), .val (.int i1), .val (.int i2), .val (.int i3), .val (.int i4), .val (.int i5), .val (.int ik1), .val (.int ik2), .val (.int t0), .val (.int t1), .val (.int ec0), .val (.int ec1), .val (.int lt), .val (.int le), .val (.int nu), .val (.ref sa), .val (.ref ea), .unset, .unset, .unset] [(.int (1 : Int32)), (.int (1 : Int32)), (.int lt), (.int (0 : Int32)), (.double (0 : UInt64)), (.ref sa), (own_kind a_IDENTIFIER a_KEYWORD a_NUMBER a_STRING a_PUNCTUATOR a_END ik1), (.ref b121), (.ref b121)]))
              refine DnW.of (fun tt_ zz_ => XS.iconst X124.here hx rfl (hb hby at_195) zz_) ?_
              show DnW p e below s (own_Q n0) 24 1152 (T124.setTop (mkF m 196 #[.val (.int i0), .val (.int i1), .val (.int i2), .val (.int i3), .val (.int i4), .val (.int i5), .val (.int ik1), .val (.int ik2), .val (.int t0), .val (.int t1), .val (.int ec0), .val (.int ec1), .val (.int lt), .val (.int le), .val (.int nu), .val (.ref sa), .val (.ref ea), .unset, .unset, .unset] [(.int (0 : Int32)), (.int (1 : Int32)), (.int (1 : Int32)), (.int lt), (.int (0 : Int32)), (.double (0 : UInt64)), (.ref sa), (own_kind a_IDENTIFIER a_KEYWORD a_NUMBER a_STRING a_PUNCTUATOR a_END ik1), (.ref b121), (.ref b121)]))
              obtain ⟨v125, T125, L125, Q125, X125, st125⟩ := cIn X124 hx hZ (y := (⟨"com/example/warmfront/warmfront/js/Token", "<init>", "(Lcom/example/warmfront/warmfront/js/Token$Kind;Ljava/lang/String;DIIIIZ)V"⟩ : MethodName)) rfl hown (hg 22 rfl) (hg 23 rfl) (hg 15 rfl) (hg 24 rfl) (by decide) (a := b121) (argsL := [(own_kind a_IDENTIFIER a_KEYWORD a_NUMBER a_STRING a_PUNCTUATOR a_END ik1), (.ref sa), (.double (0 : UInt64)), (.int (0 : Int32)), (.int lt), (.int (1 : Int32)), (.int (1 : Int32)), (.int (0 : Int32))]) (rest := [(.ref b121)]) (rmT l Z a0 hw h121 n0 F123 b121 sa (own_kind a_IDENTIFIER a_KEYWORD a_NUMBER a_STRING a_PUNCTUATOR a_END ik1) (own_kr a_IDENTIFIER a_KEYWORD a_NUMBER a_STRING a_PUNCTUATOR a_END ik1) lt A121 F_kind_121 F_text_121 F_number_121 F_start_121 F_end_121 F_line_121 F_column_121 F_newlineBefore_121 gt) e124  1 (by decide) (by decide) (by decide) (by decide) (g := (mkF m 196 #[.val (.int i0), .val (.int i1), .val (.int i2), .val (.int i3), .val (.int i4), .val (.int i5), .val (.int ik1), .val (.int ik2), .val (.int t0), .val (.int t1), .val (.int ec0), .val (.int ec1), .val (.int lt), .val (.int le), .val (.int nu), .val (.ref sa), .val (.ref ea), .unset, .unset, .unset] [(.int (0 : Int32)), (.int (1 : Int32)), (.int (1 : Int32)), (.int lt), (.int (0 : Int32)), (.double (0 : UInt64)), (.ref sa), (own_kind a_IDENTIFIER a_KEYWORD a_NUMBER a_STRING a_PUNCTUATOR a_END ik1), (.ref b121), (.ref b121)])) rfl (by rw [hml]; rfl) (lenOf pd14 rfl) rfl (by show 2 * 0 + _ ≤ _; exact Nat.le_of_eq rfl) (hb hby at_196)
              obtain ⟨rfl, M4, K4, G0, G1⟩ := Q125
              refine DnW.of st125 ?_
              show DnW p e below s (own_Q n0) 24 1152 (T125.setTop (mkF m 199 #[.val (.int i0), .val (.int i1), .val (.int i2), .val (.int i3), .val (.int i4), .val (.int i5), .val (.int ik1), .val (.int ik2), .val (.int t0), .val (.int t1), .val (.int ec0), .val (.int ec1), .val (.int lt), .val (.int le), .val (.int nu), .val (.ref sa), .val (.ref ea), .unset, .unset, .unset] [(.ref b121)]))
              have S1' := (F119.ext E121).keep K4 (ninS p1 nin0) (ninS r1 nin0)
              have S2' := (S2.ext E121).keep K4 (ninS p2 nin0) (ninS r2 nin0)
              have ET := A121.keep K4
              have O5 := F122.keep K4 (allS gt all0)
              have Z5 := Nat.le_trans F123 K4.1
              have F126 := (Nat.le_trans hk2 E121.1)
              have hk5 := Nat.le_trans F126 K4.1
              refine DnW.of (fun tt_ zz_ => XS.astore X125.here hx rfl (hb hby at_199) rfl rfl (l' := #[.val (.int i0), .val (.int i1), .val (.int i2), .val (.int i3), .val (.int i4), .val (.int i5), .val (.int ik1), .val (.int ik2), .val (.int t0), .val (.int t1), .val (.int ec0), .val (.int ec1), .val (.int lt), .val (.int le), .val (.int nu), .val (.ref sa), .val (.ref ea), .val (.ref b121), .unset, .unset]) rfl zz_) ?_
              show DnW p e below s (own_Q n0) 24 1152 (T125.setTop (mkF m 201 #[.val (.int i0), .val (.int i1), .val (.int i2), .val (.int i3), .val (.int i4), .val (.int i5), .val (.int ik1), .val (.int ik2), .val (.int t0), .val (.int t1), .val (.int ec0), .val (.int ec1), .val (.int lt), .val (.int le), .val (.int nu), .val (.ref sa), .val (.ref ea), .val (.ref b121), .unset, .unset] []))
              refine DnW.of (fun tt_ zz_ => XS.aload X125.here hx rfl (hb hby at_201) rfl rfl zz_) ?_
              show DnW p e below s (own_Q n0) 24 1152 (T125.setTop (mkF m 203 #[.val (.int i0), .val (.int i1), .val (.int i2), .val (.int i3), .val (.int i4), .val (.int i5), .val (.int ik1), .val (.int ik2), .val (.int t0), .val (.int t1), .val (.int ec0), .val (.int ec1), .val (.int lt), .val (.int le), .val (.int nu), .val (.ref sa), .val (.ref ea), .val (.ref b121), .unset, .unset] [(.ref b121)]))
              refine DnW.of (fun tt_ zz_ => XS.iload X125.here hx rfl (hb hby at_203) rfl zz_) ?_
              show DnW p e below s (own_Q n0) 24 1152 (T125.setTop (mkF m 205 #[.val (.int i0), .val (.int i1), .val (.int i2), .val (.int i3), .val (.int i4), .val (.int i5), .val (.int ik1), .val (.int ik2), .val (.int t0), .val (.int t1), .val (.int ec0), .val (.int ec1), .val (.int lt), .val (.int le), .val (.int nu), .val (.ref sa), .val (.ref ea), .val (.ref b121), .unset, .unset] [(.int ik2), (.ref b121)]))
              obtain ⟨v127, T127, L127, Q127, X127, st127⟩ := cSt X125 hx hZ (y := (⟨"com/example/warmfront/warmfront/js/TokenIsPinLaw", "kind", "(I)Lcom/example/warmfront/warmfront/js/Token$Kind;"⟩ : MethodName)) hown (hg 16 rfl) (hg 17 rfl) (hg 3 rfl) (hg 18 rfl) (by decide) (argsL := [(.int ik2)]) (rest := [(.ref b121)]) (rmK l Z a0 hw T125.heap n0 Z5 ik2 a_IDENTIFIER a_KEYWORD a_NUMBER a_STRING a_PUNCTUATOR a_END S_IDENTIFIER S_KEYWORD S_NUMBER S_STRING S_PUNCTUATOR S_END O5) rfl  1 (by decide) (by decide) (by decide) (by decide) (g := (mkF m 205 #[.val (.int i0), .val (.int i1), .val (.int i2), .val (.int i3), .val (.int i4), .val (.int i5), .val (.int ik1), .val (.int ik2), .val (.int t0), .val (.int t1), .val (.int ec0), .val (.int ec1), .val (.int lt), .val (.int le), .val (.int nu), .val (.ref sa), .val (.ref ea), .val (.ref b121), .unset, .unset] [(.int ik2), (.ref b121)])) rfl (by rw [hml]; rfl) (lenOf pd13 rfl) rfl (by show 2 * 0 + _ ≤ _; exact Nat.le_of_eq rfl) (hb hby at_205)
              obtain ⟨rfl, M5, e127⟩ := Q127
              refine DnW.of st127 ?_
              show DnW p e below s (own_Q n0) 24 1152 (T127.setTop (mkF m 208 #[.val (.int i0), .val (.int i1), .val (.int i2), .val (.int i3), .val (.int i4), .val (.int i5), .val (.int ik1), .val (.int ik2), .val (.int t0), .val (.int t1), .val (.int ec0), .val (.int ec1), .val (.int lt), .val (.int le), .val (.int nu), .val (.ref sa), .val (.ref ea), .val (.ref b121), .unset, .unset] [(own_kind a_IDENTIFIER a_KEYWORD a_NUMBER a_STRING a_PUNCTUATOR a_END ik2), (.ref b121)]))
              refine DnW.of (fun tt_ zz_ => XS.aload X127.here hx rfl (hb hby at_208) rfl rfl zz_) ?_
              show DnW p e below s (own_Q n0) 24 1152 (T127.setTop (mkF m 210 #[.val (.int i0), .val (.int i1), .val (.int i2), .val (.int i3), .val (.int i4), .val (.int i5), .val (.int ik1), .val (.int ik2), .val (.int t0), .val (.int t1), .val (.int ec0), .val (.int ec1), .val (.int lt), .val (.int le), .val (.int nu), .val (.ref sa), .val (.ref ea), .val (.ref b121), .unset, .unset] [(.ref ea), (own_kind a_IDENTIFIER a_KEYWORD a_NUMBER a_STRING a_PUNCTUATOR a_END ik2), (.ref b121)]))
              obtain ⟨v128, T128, L128, Q128, X128, st128⟩ := cVi X127 hx hZ (C := "com/example/warmfront/warmfront/js/Token") (y := (⟨"com/example/warmfront/warmfront/js/Token", "is", "(Lcom/example/warmfront/warmfront/js/Token$Kind;Ljava/lang/String;)Z"⟩ : MethodName)) (z := (⟨"com/example/warmfront/warmfront/js/Token", "is", "(Lcom/example/warmfront/warmfront/js/Token$Kind;Ljava/lang/String;)Z"⟩ : MethodName)) hown (hg 51 rfl) (hg 52 rfl) (notFace_of_selects (args := #[]) (mvT hZ (hg 54 rfl))) (hg 54 rfl) (hg 53 rfl) (hg 15 rfl) (hg 55 rfl) (by decide) (a := b121) (argsL := [(own_kind a_IDENTIFIER a_KEYWORD a_NUMBER a_STRING a_PUNCTUATOR a_END ik2), (.ref ea)]) (rest := []) (rmIS l Z a0 hw T125.heap n0 Z5 b121 sa (own_kind a_IDENTIFIER a_KEYWORD a_NUMBER a_STRING a_PUNCTUATOR a_END ik1) (own_kind a_IDENTIFIER a_KEYWORD a_NUMBER a_STRING a_PUNCTUATOR a_END ik2) (own_kr a_IDENTIFIER a_KEYWORD a_NUMBER a_STRING a_PUNCTUATOR a_END ik1) (own_kr a_IDENTIFIER a_KEYWORD a_NUMBER a_STRING a_PUNCTUATOR a_END ik2) ET G0 G1 ea sb eb lt le (own_fn t0 t1) (own_fn ec0 ec1) cz hcz SZ O5 S1' S2' hl_lt h_le) e127 ET 0 (by decide) (by decide) (by decide) (by decide) (g := (mkF m 210 #[.val (.int i0), .val (.int i1), .val (.int i2), .val (.int i3), .val (.int i4), .val (.int i5), .val (.int ik1), .val (.int ik2), .val (.int t0), .val (.int t1), .val (.int ec0), .val (.int ec1), .val (.int lt), .val (.int le), .val (.int nu), .val (.ref sa), .val (.ref ea), .val (.ref b121), .unset, .unset] [(.ref ea), (own_kind a_IDENTIFIER a_KEYWORD a_NUMBER a_STRING a_PUNCTUATOR a_END ik2), (.ref b121)])) rfl (by rw [hml]; rfl) (lenOf pd15 rfl) rfl (by show 2 * 0 + _ ≤ _; exact Nat.le_of_eq rfl) (hb hby at_210)
              obtain ⟨⟨gr, rfl, hg01, hi0⟩, M6, e128⟩ := Q128
              refine DnW.of st128 ?_
              show DnW p e below s (own_Q n0) 24 1152 (T128.setTop (mkF m 213 #[.val (.int i0), .val (.int i1), .val (.int i2), .val (.int i3), .val (.int i4), .val (.int i5), .val (.int ik1), .val (.int ik2), .val (.int t0), .val (.int t1), .val (.int ec0), .val (.int ec1), .val (.int lt), .val (.int le), .val (.int nu), .val (.ref sa), .val (.ref ea), .val (.ref b121), .unset, .unset] [(.int gr)]))
              have hi := hi0.trans (own_iff (i := ik1) (j := ik2) ⟨own_kinj d01 d02 d03 d04 d05 d12 d13 d14 d15 d23 d24 d25 d34 d35 d45 ⟨k1.1, by omega⟩ h_ik2, fun y => by rw [y]⟩ hl_lt y_t0 y_t1 h_ec0 h_ec1)
              refine DnW.of (fun tt_ zz_ => XS.istore X128.here hx rfl (hb hby at_213) rfl (l' := #[.val (.int i0), .val (.int i1), .val (.int i2), .val (.int i3), .val (.int i4), .val (.int i5), .val (.int ik1), .val (.int ik2), .val (.int t0), .val (.int t1), .val (.int ec0), .val (.int ec1), .val (.int lt), .val (.int le), .val (.int nu), .val (.ref sa), .val (.ref ea), .val (.ref b121), .val (.int gr), .unset]) rfl zz_) ?_
              show DnW p e below s (own_Q n0) 24 1152 (T128.setTop (mkF m 215 #[.val (.int i0), .val (.int i1), .val (.int i2), .val (.int i3), .val (.int i4), .val (.int i5), .val (.int ik1), .val (.int ik2), .val (.int t0), .val (.int t1), .val (.int ec0), .val (.int ec1), .val (.int lt), .val (.int le), .val (.int nu), .val (.ref sa), .val (.ref ea), .val (.ref b121), .val (.int gr), .unset] []))
              refine DnW.of (fun tt_ zz_ => XS.iload X128.here hx rfl (hb hby at_215) rfl zz_) ?_
              show DnW p e below s (own_Q n0) 24 1152 (T128.setTop (mkF m 217 #[.val (.int i0), .val (.int i1), .val (.int i2), .val (.int i3), .val (.int i4), .val (.int i5), .val (.int ik1), .val (.int ik2), .val (.int t0), .val (.int t1), .val (.int ec0), .val (.int ec1), .val (.int lt), .val (.int le), .val (.int nu), .val (.ref sa), .val (.ref ea), .val (.ref b121), .val (.int gr), .unset] [(.int ik1)]))
              refine DnW.of (fun tt_ zz_ => XS.iload X128.here hx rfl (hb hby at_217) rfl zz_) ?_
              show DnW p e below s (own_Q n0) 24 1152 (T128.setTop (mkF m 219 #[.val (.int i0), .val (.int i1), .val (.int i2), .val (.int i3), .val (.int i4), .val (.int i5), .val (.int ik1), .val (.int ik2), .val (.int t0), .val (.int t1), .val (.int ec0), .val (.int ec1), .val (.int lt), .val (.int le), .val (.int nu), .val (.ref sa), .val (.ref ea), .val (.ref b121), .val (.int gr), .unset] [(.int ik2), (.int ik1)]))
              have K265 : ∀ wv : Int32, wv = gr → DnW p e below s (own_Q n0) 24 1152 (T128.setTop (mkF m 265 #[.val (.int i0), .val (.int i1), .val (.int i2), .val (.int i3), .val (.int i4), .val (.int i5), .val (.int ik1), .val (.int ik2), .val (.int t0), .val (.int t1), .val (.int ec0), .val (.int ec1), .val (.int lt), .val (.int le), .val (.int nu), .val (.ref sa), .val (.ref ea), .val (.ref b121), .val (.int gr), .unset] [(.int wv)])) := by
                intro wv hwv
                subst hwv
                show DnW p e below s (own_Q n0) 24 1152 (T128.setTop (mkF m 265 #[.val (.int i0), .val (.int i1), .val (.int i2), .val (.int i3), .val (.int i4), .val (.int i5), .val (.int ik1), .val (.int ik2), .val (.int t0), .val (.int t1), .val (.int ec0), .val (.int ec1), .val (.int lt), .val (.int le), .val (.int nu), .val (.ref sa), .val (.ref ea), .val (.ref b121), .val (.int wv), .unset] [(.int wv)]))
                refine DnW.of (fun tt_ zz_ => XS.istore X128.here hx rfl (hb hby at_265) rfl (l' := #[.val (.int i0), .val (.int i1), .val (.int i2), .val (.int i3), .val (.int i4), .val (.int i5), .val (.int ik1), .val (.int ik2), .val (.int t0), .val (.int t1), .val (.int ec0), .val (.int ec1), .val (.int lt), .val (.int le), .val (.int nu), .val (.ref sa), .val (.ref ea), .val (.ref b121), .val (.int wv), .val (.int wv)]) rfl zz_) ?_
                show DnW p e below s (own_Q n0) 24 1152 (T128.setTop (mkF m 267 #[.val (.int i0), .val (.int i1), .val (.int i2), .val (.int i3), .val (.int i4), .val (.int i5), .val (.int ik1), .val (.int ik2), .val (.int t0), .val (.int t1), .val (.int ec0), .val (.int ec1), .val (.int lt), .val (.int le), .val (.int nu), .val (.ref sa), .val (.ref ea), .val (.ref b121), .val (.int wv), .val (.int wv)] []))
                refine DnW.of (fun tt_ zz_ => XS.iload X128.here hx rfl (hb hby at_267) rfl zz_) ?_
                show DnW p e below s (own_Q n0) 24 1152 (T128.setTop (mkF m 269 #[.val (.int i0), .val (.int i1), .val (.int i2), .val (.int i3), .val (.int i4), .val (.int i5), .val (.int ik1), .val (.int ik2), .val (.int t0), .val (.int t1), .val (.int ec0), .val (.int ec1), .val (.int lt), .val (.int le), .val (.int nu), .val (.ref sa), .val (.ref ea), .val (.ref b121), .val (.int wv), .val (.int wv)] [(.int wv)]))
                refine DnW.of (fun tt_ zz_ => XS.iload X128.here hx rfl (hb hby at_269) rfl zz_) ?_
                show DnW p e below s (own_Q n0) 24 1152 (T128.setTop (mkF m 271 #[.val (.int i0), .val (.int i1), .val (.int i2), .val (.int i3), .val (.int i4), .val (.int i5), .val (.int ik1), .val (.int ik2), .val (.int t0), .val (.int t1), .val (.int ec0), .val (.int ec1), .val (.int lt), .val (.int le), .val (.int nu), .val (.ref sa), .val (.ref ea), .val (.ref b121), .val (.int wv), .val (.int wv)] [(.int wv), (.int wv)]))
                refine DnW.of (fun tt_ zz_ => XS.icmpNo X128.here hx rfl (hb hby at_271) rfl (teq rfl).2 zz_) ?_
                show DnW p e below s (own_Q n0) 24 1152 (T128.setTop (mkF m 274 #[.val (.int i0), .val (.int i1), .val (.int i2), .val (.int i3), .val (.int i4), .val (.int i5), .val (.int ik1), .val (.int ik2), .val (.int t0), .val (.int t1), .val (.int ec0), .val (.int ec1), .val (.int lt), .val (.int le), .val (.int nu), .val (.ref sa), .val (.ref ea), .val (.ref b121), .val (.int wv), .val (.int wv)] []))
                refine DnW.of (fun tt_ zz_ => XS.iconst X128.here hx rfl (hb hby at_274) zz_) ?_
                show DnW p e below s (own_Q n0) 24 1152 (T128.setTop (mkF m 275 #[.val (.int i0), .val (.int i1), .val (.int i2), .val (.int i3), .val (.int i4), .val (.int i5), .val (.int ik1), .val (.int ik2), .val (.int t0), .val (.int t1), .val (.int ec0), .val (.int ec1), .val (.int lt), .val (.int le), .val (.int nu), .val (.ref sa), .val (.ref ea), .val (.ref b121), .val (.int wv), .val (.int wv)] [(.int (1 : Int32))]))
                refine DnW.of (fun tt_ zz_ => XS.goto X128.here hx rfl (pc0 := 275) (pc' := 279) rfl (hb hby at_275) (by decide) (by decide) zz_) ?_
                show DnW p e below s (own_Q n0) 24 1152 (T128.setTop (mkF m 279 #[.val (.int i0), .val (.int i1), .val (.int i2), .val (.int i3), .val (.int i4), .val (.int i5), .val (.int ik1), .val (.int ik2), .val (.int t0), .val (.int t1), .val (.int ec0), .val (.int ec1), .val (.int lt), .val (.int le), .val (.int nu), .val (.ref sa), .val (.ref ea), .val (.ref b121), .val (.int wv), .val (.int wv)] [(.int (1 : Int32))]))
                exact DnW.retN hS (by rw [e128]; exact hk5) X128 hx hlk (t := .boolean) hret (by simp) (hb hby at_279) (by decide) (by decide) (⟨rfl, (Fr.app (Fr.app (Fr.app (Fr.app (Fr.app (Fr.app N0 M1) M2) M3) M4) M5) M6)⟩)
              by_cases qa : ik1 = ik2
              · skip
                refine DnW.of (fun tt_ zz_ => XS.icmpNo X128.here hx rfl (hb hby at_219) rfl (teq qa).2 zz_) ?_
                show DnW p e below s (own_Q n0) 24 1152 (T128.setTop (mkF m 222 #[.val (.int i0), .val (.int i1), .val (.int i2), .val (.int i3), .val (.int i4), .val (.int i5), .val (.int ik1), .val (.int ik2), .val (.int t0), .val (.int t1), .val (.int ec0), .val (.int ec1), .val (.int lt), .val (.int le), .val (.int nu), .val (.ref sa), .val (.ref ea), .val (.ref b121), .val (.int gr), .unset] []))
                refine DnW.of (fun tt_ zz_ => XS.iload X128.here hx rfl (hb hby at_222) rfl zz_) ?_
                show DnW p e below s (own_Q n0) 24 1152 (T128.setTop (mkF m 224 #[.val (.int i0), .val (.int i1), .val (.int i2), .val (.int i3), .val (.int i4), .val (.int i5), .val (.int ik1), .val (.int ik2), .val (.int t0), .val (.int t1), .val (.int ec0), .val (.int ec1), .val (.int lt), .val (.int le), .val (.int nu), .val (.ref sa), .val (.ref ea), .val (.ref b121), .val (.int gr), .unset] [(.int nu)]))
                refine DnW.of (fun tt_ zz_ => XS.ifNo X128.here hx rfl (hb hby at_224) rfl ((if0 _ _).trans (teq hnu).2) zz_) ?_
                show DnW p e below s (own_Q n0) 24 1152 (T128.setTop (mkF m 227 #[.val (.int i0), .val (.int i1), .val (.int i2), .val (.int i3), .val (.int i4), .val (.int i5), .val (.int ik1), .val (.int ik2), .val (.int t0), .val (.int t1), .val (.int ec0), .val (.int ec1), .val (.int lt), .val (.int le), .val (.int nu), .val (.ref sa), .val (.ref ea), .val (.ref b121), .val (.int gr), .unset] []))
                refine DnW.of (fun tt_ zz_ => XS.iload X128.here hx rfl (hb hby at_227) rfl zz_) ?_
                show DnW p e below s (own_Q n0) 24 1152 (T128.setTop (mkF m 229 #[.val (.int i0), .val (.int i1), .val (.int i2), .val (.int i3), .val (.int i4), .val (.int i5), .val (.int ik1), .val (.int ik2), .val (.int t0), .val (.int t1), .val (.int ec0), .val (.int ec1), .val (.int lt), .val (.int le), .val (.int nu), .val (.ref sa), .val (.ref ea), .val (.ref b121), .val (.int gr), .unset] [(.int lt)]))
                refine DnW.of (fun tt_ zz_ => XS.iload X128.here hx rfl (hb hby at_229) rfl zz_) ?_
                show DnW p e below s (own_Q n0) 24 1152 (T128.setTop (mkF m 231 #[.val (.int i0), .val (.int i1), .val (.int i2), .val (.int i3), .val (.int i4), .val (.int i5), .val (.int ik1), .val (.int ik2), .val (.int t0), .val (.int t1), .val (.int ec0), .val (.int ec1), .val (.int lt), .val (.int le), .val (.int nu), .val (.ref sa), .val (.ref ea), .val (.ref b121), .val (.int gr), .unset] [(.int le), (.int lt)]))
                by_cases qb : lt = le
                · skip
                  refine DnW.of (fun tt_ zz_ => XS.icmpNo X128.here hx rfl (hb hby at_231) rfl (teq qb).2 zz_) ?_
                  show DnW p e below s (own_Q n0) 24 1152 (T128.setTop (mkF m 234 #[.val (.int i0), .val (.int i1), .val (.int i2), .val (.int i3), .val (.int i4), .val (.int i5), .val (.int ik1), .val (.int ik2), .val (.int t0), .val (.int t1), .val (.int ec0), .val (.int ec1), .val (.int lt), .val (.int le), .val (.int nu), .val (.ref sa), .val (.ref ea), .val (.ref b121), .val (.int gr), .unset] []))
                  refine DnW.of (fun tt_ zz_ => XS.iload X128.here hx rfl (hb hby at_234) rfl zz_) ?_
                  show DnW p e below s (own_Q n0) 24 1152 (T128.setTop (mkF m 236 #[.val (.int i0), .val (.int i1), .val (.int i2), .val (.int i3), .val (.int i4), .val (.int i5), .val (.int ik1), .val (.int ik2), .val (.int t0), .val (.int t1), .val (.int ec0), .val (.int ec1), .val (.int lt), .val (.int le), .val (.int nu), .val (.ref sa), .val (.ref ea), .val (.ref b121), .val (.int gr), .unset] [(.int lt)]))
                  refine DnW.of (fun tt_ zz_ => XS.iconst X128.here hx rfl (hb hby at_236) zz_) ?_
                  show DnW p e below s (own_Q n0) 24 1152 (T128.setTop (mkF m 237 #[.val (.int i0), .val (.int i1), .val (.int i2), .val (.int i3), .val (.int i4), .val (.int i5), .val (.int ik1), .val (.int ik2), .val (.int t0), .val (.int t1), .val (.int ec0), .val (.int ec1), .val (.int lt), .val (.int le), .val (.int nu), .val (.ref sa), .val (.ref ea), .val (.ref b121), .val (.int gr), .unset] [(.int (1 : Int32)), (.int lt)]))
                  by_cases qc : lt < (1 : Int32)
                  · skip
                    refine DnW.of (fun tt_ zz_ => XS.icmpYes X128.here hx rfl (pc0 := 237) (pc' := 247) rfl (hb hby at_237) rfl (tlt qc).1 (by decide) (by decide) zz_) ?_
                    show DnW p e below s (own_Q n0) 24 1152 (T128.setTop (mkF m 247 #[.val (.int i0), .val (.int i1), .val (.int i2), .val (.int i3), .val (.int i4), .val (.int i5), .val (.int ik1), .val (.int ik2), .val (.int t0), .val (.int t1), .val (.int ec0), .val (.int ec1), .val (.int lt), .val (.int le), .val (.int nu), .val (.ref sa), .val (.ref ea), .val (.ref b121), .val (.int gr), .unset] []))
                    refine DnW.of (fun tt_ zz_ => XS.iload X128.here hx rfl (hb hby at_247) rfl zz_) ?_
                    show DnW p e below s (own_Q n0) 24 1152 (T128.setTop (mkF m 249 #[.val (.int i0), .val (.int i1), .val (.int i2), .val (.int i3), .val (.int i4), .val (.int i5), .val (.int ik1), .val (.int ik2), .val (.int t0), .val (.int t1), .val (.int ec0), .val (.int ec1), .val (.int lt), .val (.int le), .val (.int nu), .val (.ref sa), .val (.ref ea), .val (.ref b121), .val (.int gr), .unset] [(.int lt)]))
                    refine DnW.of (fun tt_ zz_ => XS.iconst X128.here hx rfl (hb hby at_249) zz_) ?_
                    show DnW p e below s (own_Q n0) 24 1152 (T128.setTop (mkF m 250 #[.val (.int i0), .val (.int i1), .val (.int i2), .val (.int i3), .val (.int i4), .val (.int i5), .val (.int ik1), .val (.int ik2), .val (.int t0), .val (.int t1), .val (.int ec0), .val (.int ec1), .val (.int lt), .val (.int le), .val (.int nu), .val (.ref sa), .val (.ref ea), .val (.ref b121), .val (.int gr), .unset] [(.int (2 : Int32)), (.int lt)]))
                    by_cases qd : lt < (2 : Int32)
                    · skip
                      refine DnW.of (fun tt_ zz_ => XS.icmpYes X128.here hx rfl (pc0 := 250) (pc' := 260) rfl (hb hby at_250) rfl (tlt qd).1 (by decide) (by decide) zz_) ?_
                      show DnW p e below s (own_Q n0) 24 1152 (T128.setTop (mkF m 260 #[.val (.int i0), .val (.int i1), .val (.int i2), .val (.int i3), .val (.int i4), .val (.int i5), .val (.int ik1), .val (.int ik2), .val (.int t0), .val (.int t1), .val (.int ec0), .val (.int ec1), .val (.int lt), .val (.int le), .val (.int nu), .val (.ref sa), .val (.ref ea), .val (.ref b121), .val (.int gr), .unset] []))
                      refine DnW.of (fun tt_ zz_ => XS.iconst X128.here hx rfl (hb hby at_260) zz_) ?_
                      show DnW p e below s (own_Q n0) 24 1152 (T128.setTop (mkF m 261 #[.val (.int i0), .val (.int i1), .val (.int i2), .val (.int i3), .val (.int i4), .val (.int i5), .val (.int ik1), .val (.int ik2), .val (.int t0), .val (.int t1), .val (.int ec0), .val (.int ec1), .val (.int lt), .val (.int le), .val (.int nu), .val (.ref sa), .val (.ref ea), .val (.ref b121), .val (.int gr), .unset] [(.int (1 : Int32))]))
                      refine DnW.of (fun tt_ zz_ => XS.goto X128.here hx rfl (pc0 := 261) (pc' := 265) rfl (hb hby at_261) (by decide) (by decide) zz_) ?_
                      show DnW p e below s (own_Q n0) 24 1152 (T128.setTop (mkF m 265 #[.val (.int i0), .val (.int i1), .val (.int i2), .val (.int i3), .val (.int i4), .val (.int i5), .val (.int ik1), .val (.int ik2), .val (.int t0), .val (.int t1), .val (.int ec0), .val (.int ec1), .val (.int lt), .val (.int le), .val (.int nu), .val (.ref sa), .val (.ref ea), .val (.ref b121), .val (.int gr), .unset] [(.int (1 : Int32))]))
                      exact K265 _ (hi.mpr ⟨qa, qb, fun y => absurd qc y, fun y => absurd qd y⟩).symm
                    · skip
                      refine DnW.of (fun tt_ zz_ => XS.icmpNo X128.here hx rfl (hb hby at_250) rfl (flt qd).1 zz_) ?_
                      show DnW p e below s (own_Q n0) 24 1152 (T128.setTop (mkF m 253 #[.val (.int i0), .val (.int i1), .val (.int i2), .val (.int i3), .val (.int i4), .val (.int i5), .val (.int ik1), .val (.int ik2), .val (.int t0), .val (.int t1), .val (.int ec0), .val (.int ec1), .val (.int lt), .val (.int le), .val (.int nu), .val (.ref sa), .val (.ref ea), .val (.ref b121), .val (.int gr), .unset] []))
                      refine DnW.of (fun tt_ zz_ => XS.iload X128.here hx rfl (hb hby at_253) rfl zz_) ?_
                      show DnW p e below s (own_Q n0) 24 1152 (T128.setTop (mkF m 255 #[.val (.int i0), .val (.int i1), .val (.int i2), .val (.int i3), .val (.int i4), .val (.int i5), .val (.int ik1), .val (.int ik2), .val (.int t0), .val (.int t1), .val (.int ec0), .val (.int ec1), .val (.int lt), .val (.int le), .val (.int nu), .val (.ref sa), .val (.ref ea), .val (.ref b121), .val (.int gr), .unset] [(.int t1)]))
                      refine DnW.of (fun tt_ zz_ => XS.iload X128.here hx rfl (hb hby at_255) rfl zz_) ?_
                      show DnW p e below s (own_Q n0) 24 1152 (T128.setTop (mkF m 257 #[.val (.int i0), .val (.int i1), .val (.int i2), .val (.int i3), .val (.int i4), .val (.int i5), .val (.int ik1), .val (.int ik2), .val (.int t0), .val (.int t1), .val (.int ec0), .val (.int ec1), .val (.int lt), .val (.int le), .val (.int nu), .val (.ref sa), .val (.ref ea), .val (.ref b121), .val (.int gr), .unset] [(.int ec1), (.int t1)]))
                      by_cases qf : t1 = ec1
                      · skip
                        refine DnW.of (fun tt_ zz_ => XS.icmpNo X128.here hx rfl (hb hby at_257) rfl (teq qf).2 zz_) ?_
                        show DnW p e below s (own_Q n0) 24 1152 (T128.setTop (mkF m 260 #[.val (.int i0), .val (.int i1), .val (.int i2), .val (.int i3), .val (.int i4), .val (.int i5), .val (.int ik1), .val (.int ik2), .val (.int t0), .val (.int t1), .val (.int ec0), .val (.int ec1), .val (.int lt), .val (.int le), .val (.int nu), .val (.ref sa), .val (.ref ea), .val (.ref b121), .val (.int gr), .unset] []))
                        refine DnW.of (fun tt_ zz_ => XS.iconst X128.here hx rfl (hb hby at_260) zz_) ?_
                        show DnW p e below s (own_Q n0) 24 1152 (T128.setTop (mkF m 261 #[.val (.int i0), .val (.int i1), .val (.int i2), .val (.int i3), .val (.int i4), .val (.int i5), .val (.int ik1), .val (.int ik2), .val (.int t0), .val (.int t1), .val (.int ec0), .val (.int ec1), .val (.int lt), .val (.int le), .val (.int nu), .val (.ref sa), .val (.ref ea), .val (.ref b121), .val (.int gr), .unset] [(.int (1 : Int32))]))
                        refine DnW.of (fun tt_ zz_ => XS.goto X128.here hx rfl (pc0 := 261) (pc' := 265) rfl (hb hby at_261) (by decide) (by decide) zz_) ?_
                        show DnW p e below s (own_Q n0) 24 1152 (T128.setTop (mkF m 265 #[.val (.int i0), .val (.int i1), .val (.int i2), .val (.int i3), .val (.int i4), .val (.int i5), .val (.int ik1), .val (.int ik2), .val (.int t0), .val (.int t1), .val (.int ec0), .val (.int ec1), .val (.int lt), .val (.int le), .val (.int nu), .val (.ref sa), .val (.ref ea), .val (.ref b121), .val (.int gr), .unset] [(.int (1 : Int32))]))
                        exact K265 _ (hi.mpr ⟨qa, qb, fun y => absurd qc y, fun y => qf⟩).symm
                      · skip
                        refine DnW.of (fun tt_ zz_ => XS.icmpYes X128.here hx rfl (pc0 := 257) (pc' := 264) rfl (hb hby at_257) rfl (feq qf).2 (by decide) (by decide) zz_) ?_
                        show DnW p e below s (own_Q n0) 24 1152 (T128.setTop (mkF m 264 #[.val (.int i0), .val (.int i1), .val (.int i2), .val (.int i3), .val (.int i4), .val (.int i5), .val (.int ik1), .val (.int ik2), .val (.int t0), .val (.int t1), .val (.int ec0), .val (.int ec1), .val (.int lt), .val (.int le), .val (.int nu), .val (.ref sa), .val (.ref ea), .val (.ref b121), .val (.int gr), .unset] []))
                        refine DnW.of (fun tt_ zz_ => XS.iconst X128.here hx rfl (hb hby at_264) zz_) ?_
                        show DnW p e below s (own_Q n0) 24 1152 (T128.setTop (mkF m 265 #[.val (.int i0), .val (.int i1), .val (.int i2), .val (.int i3), .val (.int i4), .val (.int i5), .val (.int ik1), .val (.int ik2), .val (.int t0), .val (.int t1), .val (.int ec0), .val (.int ec1), .val (.int lt), .val (.int le), .val (.int nu), .val (.ref sa), .val (.ref ea), .val (.ref b121), .val (.int gr), .unset] [(.int (0 : Int32))]))
                        exact K265 _ (own_zero hg01 (fun y => qf ((hi.mp y).2.2.2 qd)))
                  · skip
                    refine DnW.of (fun tt_ zz_ => XS.icmpNo X128.here hx rfl (hb hby at_237) rfl (flt qc).1 zz_) ?_
                    show DnW p e below s (own_Q n0) 24 1152 (T128.setTop (mkF m 240 #[.val (.int i0), .val (.int i1), .val (.int i2), .val (.int i3), .val (.int i4), .val (.int i5), .val (.int ik1), .val (.int ik2), .val (.int t0), .val (.int t1), .val (.int ec0), .val (.int ec1), .val (.int lt), .val (.int le), .val (.int nu), .val (.ref sa), .val (.ref ea), .val (.ref b121), .val (.int gr), .unset] []))
                    refine DnW.of (fun tt_ zz_ => XS.iload X128.here hx rfl (hb hby at_240) rfl zz_) ?_
                    show DnW p e below s (own_Q n0) 24 1152 (T128.setTop (mkF m 242 #[.val (.int i0), .val (.int i1), .val (.int i2), .val (.int i3), .val (.int i4), .val (.int i5), .val (.int ik1), .val (.int ik2), .val (.int t0), .val (.int t1), .val (.int ec0), .val (.int ec1), .val (.int lt), .val (.int le), .val (.int nu), .val (.ref sa), .val (.ref ea), .val (.ref b121), .val (.int gr), .unset] [(.int t0)]))
                    refine DnW.of (fun tt_ zz_ => XS.iload X128.here hx rfl (hb hby at_242) rfl zz_) ?_
                    show DnW p e below s (own_Q n0) 24 1152 (T128.setTop (mkF m 244 #[.val (.int i0), .val (.int i1), .val (.int i2), .val (.int i3), .val (.int i4), .val (.int i5), .val (.int ik1), .val (.int ik2), .val (.int t0), .val (.int t1), .val (.int ec0), .val (.int ec1), .val (.int lt), .val (.int le), .val (.int nu), .val (.ref sa), .val (.ref ea), .val (.ref b121), .val (.int gr), .unset] [(.int ec0), (.int t0)]))
                    by_cases qe : t0 = ec0
                    · skip
                      refine DnW.of (fun tt_ zz_ => XS.icmpNo X128.here hx rfl (hb hby at_244) rfl (teq qe).2 zz_) ?_
                      show DnW p e below s (own_Q n0) 24 1152 (T128.setTop (mkF m 247 #[.val (.int i0), .val (.int i1), .val (.int i2), .val (.int i3), .val (.int i4), .val (.int i5), .val (.int ik1), .val (.int ik2), .val (.int t0), .val (.int t1), .val (.int ec0), .val (.int ec1), .val (.int lt), .val (.int le), .val (.int nu), .val (.ref sa), .val (.ref ea), .val (.ref b121), .val (.int gr), .unset] []))
                      refine DnW.of (fun tt_ zz_ => XS.iload X128.here hx rfl (hb hby at_247) rfl zz_) ?_
                      show DnW p e below s (own_Q n0) 24 1152 (T128.setTop (mkF m 249 #[.val (.int i0), .val (.int i1), .val (.int i2), .val (.int i3), .val (.int i4), .val (.int i5), .val (.int ik1), .val (.int ik2), .val (.int t0), .val (.int t1), .val (.int ec0), .val (.int ec1), .val (.int lt), .val (.int le), .val (.int nu), .val (.ref sa), .val (.ref ea), .val (.ref b121), .val (.int gr), .unset] [(.int lt)]))
                      refine DnW.of (fun tt_ zz_ => XS.iconst X128.here hx rfl (hb hby at_249) zz_) ?_
                      show DnW p e below s (own_Q n0) 24 1152 (T128.setTop (mkF m 250 #[.val (.int i0), .val (.int i1), .val (.int i2), .val (.int i3), .val (.int i4), .val (.int i5), .val (.int ik1), .val (.int ik2), .val (.int t0), .val (.int t1), .val (.int ec0), .val (.int ec1), .val (.int lt), .val (.int le), .val (.int nu), .val (.ref sa), .val (.ref ea), .val (.ref b121), .val (.int gr), .unset] [(.int (2 : Int32)), (.int lt)]))
                      by_cases qd : lt < (2 : Int32)
                      · skip
                        refine DnW.of (fun tt_ zz_ => XS.icmpYes X128.here hx rfl (pc0 := 250) (pc' := 260) rfl (hb hby at_250) rfl (tlt qd).1 (by decide) (by decide) zz_) ?_
                        show DnW p e below s (own_Q n0) 24 1152 (T128.setTop (mkF m 260 #[.val (.int i0), .val (.int i1), .val (.int i2), .val (.int i3), .val (.int i4), .val (.int i5), .val (.int ik1), .val (.int ik2), .val (.int t0), .val (.int t1), .val (.int ec0), .val (.int ec1), .val (.int lt), .val (.int le), .val (.int nu), .val (.ref sa), .val (.ref ea), .val (.ref b121), .val (.int gr), .unset] []))
                        refine DnW.of (fun tt_ zz_ => XS.iconst X128.here hx rfl (hb hby at_260) zz_) ?_
                        show DnW p e below s (own_Q n0) 24 1152 (T128.setTop (mkF m 261 #[.val (.int i0), .val (.int i1), .val (.int i2), .val (.int i3), .val (.int i4), .val (.int i5), .val (.int ik1), .val (.int ik2), .val (.int t0), .val (.int t1), .val (.int ec0), .val (.int ec1), .val (.int lt), .val (.int le), .val (.int nu), .val (.ref sa), .val (.ref ea), .val (.ref b121), .val (.int gr), .unset] [(.int (1 : Int32))]))
                        refine DnW.of (fun tt_ zz_ => XS.goto X128.here hx rfl (pc0 := 261) (pc' := 265) rfl (hb hby at_261) (by decide) (by decide) zz_) ?_
                        show DnW p e below s (own_Q n0) 24 1152 (T128.setTop (mkF m 265 #[.val (.int i0), .val (.int i1), .val (.int i2), .val (.int i3), .val (.int i4), .val (.int i5), .val (.int ik1), .val (.int ik2), .val (.int t0), .val (.int t1), .val (.int ec0), .val (.int ec1), .val (.int lt), .val (.int le), .val (.int nu), .val (.ref sa), .val (.ref ea), .val (.ref b121), .val (.int gr), .unset] [(.int (1 : Int32))]))
                        exact K265 _ (hi.mpr ⟨qa, qb, fun y => qe, fun y => absurd qd y⟩).symm
                      · skip
                        refine DnW.of (fun tt_ zz_ => XS.icmpNo X128.here hx rfl (hb hby at_250) rfl (flt qd).1 zz_) ?_
                        show DnW p e below s (own_Q n0) 24 1152 (T128.setTop (mkF m 253 #[.val (.int i0), .val (.int i1), .val (.int i2), .val (.int i3), .val (.int i4), .val (.int i5), .val (.int ik1), .val (.int ik2), .val (.int t0), .val (.int t1), .val (.int ec0), .val (.int ec1), .val (.int lt), .val (.int le), .val (.int nu), .val (.ref sa), .val (.ref ea), .val (.ref b121), .val (.int gr), .unset] []))
                        refine DnW.of (fun tt_ zz_ => XS.iload X128.here hx rfl (hb hby at_253) rfl zz_) ?_
                        show DnW p e below s (own_Q n0) 24 1152 (T128.setTop (mkF m 255 #[.val (.int i0), .val (.int i1), .val (.int i2), .val (.int i3), .val (.int i4), .val (.int i5), .val (.int ik1), .val (.int ik2), .val (.int t0), .val (.int t1), .val (.int ec0), .val (.int ec1), .val (.int lt), .val (.int le), .val (.int nu), .val (.ref sa), .val (.ref ea), .val (.ref b121), .val (.int gr), .unset] [(.int t1)]))
                        refine DnW.of (fun tt_ zz_ => XS.iload X128.here hx rfl (hb hby at_255) rfl zz_) ?_
                        show DnW p e below s (own_Q n0) 24 1152 (T128.setTop (mkF m 257 #[.val (.int i0), .val (.int i1), .val (.int i2), .val (.int i3), .val (.int i4), .val (.int i5), .val (.int ik1), .val (.int ik2), .val (.int t0), .val (.int t1), .val (.int ec0), .val (.int ec1), .val (.int lt), .val (.int le), .val (.int nu), .val (.ref sa), .val (.ref ea), .val (.ref b121), .val (.int gr), .unset] [(.int ec1), (.int t1)]))
                        by_cases qf : t1 = ec1
                        · skip
                          refine DnW.of (fun tt_ zz_ => XS.icmpNo X128.here hx rfl (hb hby at_257) rfl (teq qf).2 zz_) ?_
                          show DnW p e below s (own_Q n0) 24 1152 (T128.setTop (mkF m 260 #[.val (.int i0), .val (.int i1), .val (.int i2), .val (.int i3), .val (.int i4), .val (.int i5), .val (.int ik1), .val (.int ik2), .val (.int t0), .val (.int t1), .val (.int ec0), .val (.int ec1), .val (.int lt), .val (.int le), .val (.int nu), .val (.ref sa), .val (.ref ea), .val (.ref b121), .val (.int gr), .unset] []))
                          refine DnW.of (fun tt_ zz_ => XS.iconst X128.here hx rfl (hb hby at_260) zz_) ?_
                          show DnW p e below s (own_Q n0) 24 1152 (T128.setTop (mkF m 261 #[.val (.int i0), .val (.int i1), .val (.int i2), .val (.int i3), .val (.int i4), .val (.int i5), .val (.int ik1), .val (.int ik2), .val (.int t0), .val (.int t1), .val (.int ec0), .val (.int ec1), .val (.int lt), .val (.int le), .val (.int nu), .val (.ref sa), .val (.ref ea), .val (.ref b121), .val (.int gr), .unset] [(.int (1 : Int32))]))
                          refine DnW.of (fun tt_ zz_ => XS.goto X128.here hx rfl (pc0 := 261) (pc' := 265) rfl (hb hby at_261) (by decide) (by decide) zz_) ?_
                          show DnW p e below s (own_Q n0) 24 1152 (T128.setTop (mkF m 265 #[.val (.int i0), .val (.int i1), .val (.int i2), .val (.int i3), .val (.int i4), .val (.int i5), .val (.int ik1), .val (.int ik2), .val (.int t0), .val (.int t1), .val (.int ec0), .val (.int ec1), .val (.int lt), .val (.int le), .val (.int nu), .val (.ref sa), .val (.ref ea), .val (.ref b121), .val (.int gr), .unset] [(.int (1 : Int32))]))
                          exact K265 _ (hi.mpr ⟨qa, qb, fun y => qe, fun y => qf⟩).symm
                        · skip
                          refine DnW.of (fun tt_ zz_ => XS.icmpYes X128.here hx rfl (pc0 := 257) (pc' := 264) rfl (hb hby at_257) rfl (feq qf).2 (by decide) (by decide) zz_) ?_
                          show DnW p e below s (own_Q n0) 24 1152 (T128.setTop (mkF m 264 #[.val (.int i0), .val (.int i1), .val (.int i2), .val (.int i3), .val (.int i4), .val (.int i5), .val (.int ik1), .val (.int ik2), .val (.int t0), .val (.int t1), .val (.int ec0), .val (.int ec1), .val (.int lt), .val (.int le), .val (.int nu), .val (.ref sa), .val (.ref ea), .val (.ref b121), .val (.int gr), .unset] []))
                          refine DnW.of (fun tt_ zz_ => XS.iconst X128.here hx rfl (hb hby at_264) zz_) ?_
                          show DnW p e below s (own_Q n0) 24 1152 (T128.setTop (mkF m 265 #[.val (.int i0), .val (.int i1), .val (.int i2), .val (.int i3), .val (.int i4), .val (.int i5), .val (.int ik1), .val (.int ik2), .val (.int t0), .val (.int t1), .val (.int ec0), .val (.int ec1), .val (.int lt), .val (.int le), .val (.int nu), .val (.ref sa), .val (.ref ea), .val (.ref b121), .val (.int gr), .unset] [(.int (0 : Int32))]))
                          exact K265 _ (own_zero hg01 (fun y => qf ((hi.mp y).2.2.2 qd)))
                    · skip
                      refine DnW.of (fun tt_ zz_ => XS.icmpYes X128.here hx rfl (pc0 := 244) (pc' := 264) rfl (hb hby at_244) rfl (feq qe).2 (by decide) (by decide) zz_) ?_
                      show DnW p e below s (own_Q n0) 24 1152 (T128.setTop (mkF m 264 #[.val (.int i0), .val (.int i1), .val (.int i2), .val (.int i3), .val (.int i4), .val (.int i5), .val (.int ik1), .val (.int ik2), .val (.int t0), .val (.int t1), .val (.int ec0), .val (.int ec1), .val (.int lt), .val (.int le), .val (.int nu), .val (.ref sa), .val (.ref ea), .val (.ref b121), .val (.int gr), .unset] []))
                      refine DnW.of (fun tt_ zz_ => XS.iconst X128.here hx rfl (hb hby at_264) zz_) ?_
                      show DnW p e below s (own_Q n0) 24 1152 (T128.setTop (mkF m 265 #[.val (.int i0), .val (.int i1), .val (.int i2), .val (.int i3), .val (.int i4), .val (.int i5), .val (.int ik1), .val (.int ik2), .val (.int t0), .val (.int t1), .val (.int ec0), .val (.int ec1), .val (.int lt), .val (.int le), .val (.int nu), .val (.ref sa), .val (.ref ea), .val (.ref b121), .val (.int gr), .unset] [(.int (0 : Int32))]))
                      exact K265 _ (own_zero hg01 (fun y => qe ((hi.mp y).2.2.1 qc)))
                · skip
                  refine DnW.of (fun tt_ zz_ => XS.icmpYes X128.here hx rfl (pc0 := 231) (pc' := 264) rfl (hb hby at_231) rfl (feq qb).2 (by decide) (by decide) zz_) ?_
                  show DnW p e below s (own_Q n0) 24 1152 (T128.setTop (mkF m 264 #[.val (.int i0), .val (.int i1), .val (.int i2), .val (.int i3), .val (.int i4), .val (.int i5), .val (.int ik1), .val (.int ik2), .val (.int t0), .val (.int t1), .val (.int ec0), .val (.int ec1), .val (.int lt), .val (.int le), .val (.int nu), .val (.ref sa), .val (.ref ea), .val (.ref b121), .val (.int gr), .unset] []))
                  refine DnW.of (fun tt_ zz_ => XS.iconst X128.here hx rfl (hb hby at_264) zz_) ?_
                  show DnW p e below s (own_Q n0) 24 1152 (T128.setTop (mkF m 265 #[.val (.int i0), .val (.int i1), .val (.int i2), .val (.int i3), .val (.int i4), .val (.int i5), .val (.int ik1), .val (.int ik2), .val (.int t0), .val (.int t1), .val (.int ec0), .val (.int ec1), .val (.int lt), .val (.int le), .val (.int nu), .val (.ref sa), .val (.ref ea), .val (.ref b121), .val (.int gr), .unset] [(.int (0 : Int32))]))
                  exact K265 _ (own_zero hg01 (fun y => qb (hi.mp y).2.1))
              · skip
                refine DnW.of (fun tt_ zz_ => XS.icmpYes X128.here hx rfl (pc0 := 219) (pc' := 264) rfl (hb hby at_219) rfl (feq qa).2 (by decide) (by decide) zz_) ?_
                show DnW p e below s (own_Q n0) 24 1152 (T128.setTop (mkF m 264 #[.val (.int i0), .val (.int i1), .val (.int i2), .val (.int i3), .val (.int i4), .val (.int i5), .val (.int ik1), .val (.int ik2), .val (.int t0), .val (.int t1), .val (.int ec0), .val (.int ec1), .val (.int lt), .val (.int le), .val (.int nu), .val (.ref sa), .val (.ref ea), .val (.ref b121), .val (.int gr), .unset] []))
                refine DnW.of (fun tt_ zz_ => XS.iconst X128.here hx rfl (hb hby at_264) zz_) ?_
                show DnW p e below s (own_Q n0) 24 1152 (T128.setTop (mkF m 265 #[.val (.int i0), .val (.int i1), .val (.int i2), .val (.int i3), .val (.int i4), .val (.int i5), .val (.int ik1), .val (.int ik2), .val (.int t0), .val (.int t1), .val (.int ec0), .val (.int ec1), .val (.int lt), .val (.int le), .val (.int nu), .val (.ref sa), .val (.ref ea), .val (.ref b121), .val (.int gr), .unset] [(.int (0 : Int32))]))
                exact K265 _ (own_zero hg01 (fun y => qa (hi.mp y).1))
            · skip
              refine DnW.of (fun tt_ zz_ => XS.ifNo X115.here hx rfl (hb hby at_160) rfl ((if0 _ _).trans (feq hnu).1) zz_) ?_
              show DnW p e below s (own_Q n0) 24 1152 (T115.setTop (mkF m 163 #[.val (.int i0), .val (.int i1), .val (.int i2), .val (.int i3), .val (.int i4), .val (.int i5), .val (.int ik1), .val (.int ik2), .val (.int t0), .val (.int t1), .val (.int ec0), .val (.int ec1), .val (.int lt), .val (.int le), .val (.int nu), .val (.ref sa), .unset, .unset, .unset, .unset] []))
              refine DnW.of (fun tt_ zz_ => XS.aconstNull X115.here hx rfl (hb hby at_163) zz_) ?_
              show DnW p e below s (own_Q n0) 24 1152 (T115.setTop (mkF m 164 #[.val (.int i0), .val (.int i1), .val (.int i2), .val (.int i3), .val (.int i4), .val (.int i5), .val (.int ik1), .val (.int ik2), .val (.int t0), .val (.int t1), .val (.int ec0), .val (.int ec1), .val (.int lt), .val (.int le), .val (.int nu), .val (.ref sa), .unset, .unset, .unset, .unset] [.null]))
              refine DnW.of (fun tt_ zz_ => XS.goto X115.here hx rfl (pc0 := 164) (pc' := 176) rfl (hb hby at_164) (by decide) (by decide) zz_) ?_
              show DnW p e below s (own_Q n0) 24 1152 (T115.setTop (mkF m 176 #[.val (.int i0), .val (.int i1), .val (.int i2), .val (.int i3), .val (.int i4), .val (.int i5), .val (.int ik1), .val (.int ik2), .val (.int t0), .val (.int t1), .val (.int ec0), .val (.int ec1), .val (.int lt), .val (.int le), .val (.int nu), .val (.ref sa), .unset, .unset, .unset, .unset] [.null]))
              refine DnW.of (fun tt_ zz_ => XS.astore X115.here hx rfl (hb hby at_176) rfl rfl (l' := #[.val (.int i0), .val (.int i1), .val (.int i2), .val (.int i3), .val (.int i4), .val (.int i5), .val (.int ik1), .val (.int ik2), .val (.int t0), .val (.int t1), .val (.int ec0), .val (.int ec1), .val (.int lt), .val (.int le), .val (.int nu), .val (.ref sa), .val .null, .unset, .unset, .unset]) rfl zz_) ?_
              show DnW p e below s (own_Q n0) 24 1152 (T115.setTop (mkF m 178 #[.val (.int i0), .val (.int i1), .val (.int i2), .val (.int i3), .val (.int i4), .val (.int i5), .val (.int ik1), .val (.int ik2), .val (.int t0), .val (.int t1), .val (.int ec0), .val (.int ec1), .val (.int lt), .val (.int le), .val (.int nu), .val (.ref sa), .val .null, .unset, .unset, .unset] []))
              have F129 := (Nat.le_trans Z0 X1.1)
              obtain ⟨T130, h130, X130, e130, E130, A130, D130, U130, st130⟩ := newO X115 hx hZ hown (hg 13 rfl) (hg 14 rfl) (hg 15 rfl) rfl (g := (mkF m 178 #[.val (.int i0), .val (.int i1), .val (.int i2), .val (.int i3), .val (.int i4), .val (.int i5), .val (.int ik1), .val (.int ik2), .val (.int t0), .val (.int t1), .val (.int ec0), .val (.int ec1), .val (.int lt), .val (.int le), .val (.int nu), .val (.ref sa), .val .null, .unset, .unset, .unset] [])) rfl (hb hby at_178) (by decide) (by decide)
              obtain ⟨b130, g130⟩ : ∃ z, z = T115.heap.size := ⟨_, rfl⟩
              rw [← g130] at A130 D130 U130 st130
              refine DnW.of st130 ?_
              show DnW p e below s (own_Q n0) 24 1152 (T130.setTop (mkF m 181 #[.val (.int i0), .val (.int i1), .val (.int i2), .val (.int i3), .val (.int i4), .val (.int i5), .val (.int ik1), .val (.int ik2), .val (.int t0), .val (.int t1), .val (.int ec0), .val (.int ec1), .val (.int lt), .val (.int le), .val (.int nu), .val (.ref sa), .val .null, .unset, .unset, .unset] [(.ref b130)]))
              have F_kind_130 : Fld Z h130 b130 "com/example/warmfront/warmfront/js/Token" "kind" "Lcom/example/warmfront/warmfront/js/Token$Kind;" .null := D130 (Or.inr (hg 34 rfl)) (ty := (.object "com/example/warmfront/warmfront/js/Token$Kind")) (by decide)
              have F_text_130 : Fld Z h130 b130 "com/example/warmfront/warmfront/js/Token" "text" "Ljava/lang/String;" .null := D130 (Or.inr (hg 36 rfl)) (ty := (.object "java/lang/String")) (by decide)
              have F_number_130 : Fld Z h130 b130 "com/example/warmfront/warmfront/js/Token" "number" "D" (.double (0 : UInt64)) := D130 (Or.inr (hg 38 rfl)) (ty := .double) (by decide)
              have F_start_130 : Fld Z h130 b130 "com/example/warmfront/warmfront/js/Token" "start" "I" (.int (0 : Int32)) := D130 (Or.inr (hg 40 rfl)) (ty := .int) (by decide)
              have F_end_130 : Fld Z h130 b130 "com/example/warmfront/warmfront/js/Token" "end" "I" (.int (0 : Int32)) := D130 (Or.inr (hg 42 rfl)) (ty := .int) (by decide)
              have F_line_130 : Fld Z h130 b130 "com/example/warmfront/warmfront/js/Token" "line" "I" (.int (0 : Int32)) := D130 (Or.inr (hg 44 rfl)) (ty := .int) (by decide)
              have F_column_130 : Fld Z h130 b130 "com/example/warmfront/warmfront/js/Token" "column" "I" (.int (0 : Int32)) := D130 (Or.inr (hg 46 rfl)) (ty := .int) (by decide)
              have F_newlineBefore_130 : Fld Z h130 b130 "com/example/warmfront/warmfront/js/Token" "newlineBefore" "Z" (.int (0 : Int32)) := D130 (Or.inr (hg 48 rfl)) (ty := .boolean) (by decide)
              have gt : n0 ≤ b130 := g130 ▸ F129
              have p1 : sa ≠ b130 := Nat.ne_of_lt (g130 ▸ S1.lt.1)
              have r1 : sb ≠ b130 := Nat.ne_of_lt (g130 ▸ S1.lt.2)
              refine DnW.of (fun tt_ zz_ => XS.dup X130.here hx rfl (hb hby at_181) rfl rfl zz_) ?_
              show DnW p e below s (own_Q n0) 24 1152 (T130.setTop (mkF m 182 #[.val (.int i0), .val (.int i1), .val (.int i2), .val (.int i3), .val (.int i4), .val (.int i5), .val (.int ik1), .val (.int ik2), .val (.int t0), .val (.int t1), .val (.int ec0), .val (.int ec1), .val (.int lt), .val (.int le), .val (.int nu), .val (.ref sa), .val .null, .unset, .unset, .unset] [(.ref b130), (.ref b130)]))
              refine DnW.of (fun tt_ zz_ => XS.iload X130.here hx rfl (hb hby at_182) rfl zz_) ?_
              show DnW p e below s (own_Q n0) 24 1152 (T130.setTop (mkF m 184 #[.val (.int i0), .val (.int i1), .val (.int i2), .val (.int i3), .val (.int i4), .val (.int i5), .val (.int ik1), .val (.int ik2), .val (.int t0), .val (.int t1), .val (.int ec0), .val (.int ec1), .val (.int lt), .val (.int le), .val (.int nu), .val (.ref sa), .val .null, .unset, .unset, .unset] [(.int ik1), (.ref b130), (.ref b130)]))
              have F131 := ((O0.ext X1).ext E130)
              have F132 := (Nat.le_trans F129 E130.1)
              obtain ⟨v133, T133, L133, Q133, X133, st133⟩ := cSt X130 hx hZ (y := (⟨"com/example/warmfront/warmfront/js/TokenIsPinLaw", "kind", "(I)Lcom/example/warmfront/warmfront/js/Token$Kind;"⟩ : MethodName)) hown (hg 16 rfl) (hg 17 rfl) (hg 3 rfl) (hg 18 rfl) (by decide) (argsL := [(.int ik1)]) (rest := [(.ref b130), (.ref b130)]) (rmK l Z a0 hw h130 n0 F132 ik1 a_IDENTIFIER a_KEYWORD a_NUMBER a_STRING a_PUNCTUATOR a_END S_IDENTIFIER S_KEYWORD S_NUMBER S_STRING S_PUNCTUATOR S_END F131) e130  2 (by decide) (by decide) (by decide) (by decide) (g := (mkF m 184 #[.val (.int i0), .val (.int i1), .val (.int i2), .val (.int i3), .val (.int i4), .val (.int i5), .val (.int ik1), .val (.int ik2), .val (.int t0), .val (.int t1), .val (.int ec0), .val (.int ec1), .val (.int lt), .val (.int le), .val (.int nu), .val (.ref sa), .val .null, .unset, .unset, .unset] [(.int ik1), (.ref b130), (.ref b130)])) rfl (by rw [hml]; rfl) (lenOf pd13 rfl) rfl (by show 2 * 0 + _ ≤ _; exact Nat.le_of_eq rfl) (hb hby at_184)
              obtain ⟨rfl, M3, e133⟩ := Q133
              refine DnW.of st133 ?_
              show DnW p e below s (own_Q n0) 24 1152 (T133.setTop (mkF m 187 #[.val (.int i0), .val (.int i1), .val (.int i2), .val (.int i3), .val (.int i4), .val (.int i5), .val (.int ik1), .val (.int ik2), .val (.int t0), .val (.int t1), .val (.int ec0), .val (.int ec1), .val (.int lt), .val (.int le), .val (.int nu), .val (.ref sa), .val .null, .unset, .unset, .unset] [(own_kind a_IDENTIFIER a_KEYWORD a_NUMBER a_STRING a_PUNCTUATOR a_END ik1), (.ref b130), (.ref b130)]))
              refine DnW.of (fun tt_ zz_ => XS.aload X133.here hx rfl (hb hby at_187) rfl rfl zz_) ?_
              show DnW p e below s (own_Q n0) 24 1152 (T133.setTop (mkF m 189 #[.val (.int i0), .val (.int i1), .val (.int i2), .val (.int i3), .val (.int i4), .val (.int i5), .val (.int ik1), .val (.int ik2), .val (.int t0), .val (.int t1), .val (.int ec0), .val (.int ec1), .val (.int lt), .val (.int le), .val (.int nu), .val (.ref sa), .val .null, .unset, .unset, .unset] [(.ref sa), (own_kind a_IDENTIFIER a_KEYWORD a_NUMBER a_STRING a_PUNCTUATOR a_END ik1), (.ref b130), (.ref b130)]))
              refine DnW.of (fun tt_ zz_ => XS.dconst0 X133.here hx rfl (v := (0 : UInt64)) (hb hby at_189) rfl zz_) ?_
              show DnW p e below s (own_Q n0) 24 1152 (T133.setTop (mkF m 190 #[.val (.int i0), .val (.int i1), .val (.int i2), .val (.int i3), .val (.int i4), .val (.int i5), .val (.int ik1), .val (.int ik2), .val (.int t0), .val (.int t1), .val (.int ec0), .val (.int ec1), .val (.int lt), .val (.int le), .val (.int nu), .val (.ref sa), .val .null, .unset, .unset, .unset] [(.double (0 : UInt64)), (.ref sa), (own_kind a_IDENTIFIER a_KEYWORD a_NUMBER a_STRING a_PUNCTUATOR a_END ik1), (.ref b130), (.ref b130)]))
              refine DnW.of (fun tt_ zz_ => XS.iconst X133.here hx rfl (hb hby at_190) zz_) ?_
              show DnW p e below s (own_Q n0) 24 1152 (T133.setTop (mkF m 191 #[.val (.int i0), .val (.int i1), .val (.int i2), .val (.int i3), .val (.int i4), .val (.int i5), .val (.int ik1), .val (.int ik2), .val (.int t0), .val (.int t1), .val (.int ec0), .val (.int ec1), .val (.int lt), .val (.int le), .val (.int nu), .val (.ref sa), .val .null, .unset, .unset, .unset] [(.int (0 : Int32)), (.double (0 : UInt64)), (.ref sa), (own_kind a_IDENTIFIER a_KEYWORD a_NUMBER a_STRING a_PUNCTUATOR a_END ik1), (.ref b130), (.ref b130)]))
              refine DnW.of (fun tt_ zz_ => XS.iload X133.here hx rfl (hb hby at_191) rfl zz_) ?_
              show DnW p e below s (own_Q n0) 24 1152 (T133.setTop (mkF m 193 #[.val (.int i0), .val (.int i1), .val (.int i2), .val (.int i3), .val (.int i4), .val (.int i5), .val (.int ik1), .val (.int ik2), .val (.int t0), .val (.int t1), .val (.int ec0), .val (.int ec1), .val (.int lt), .val (.int le), .val (.int nu), .val (.ref sa), .val .null, .unset, .unset, .unset] [(.int lt), (.int (0 : Int32)), (.double (0 : UInt64)), (.ref sa), (own_kind a_IDENTIFIER a_KEYWORD a_NUMBER a_STRING a_PUNCTUATOR a_END ik1), (.ref b130), (.ref b130)]))
              refine DnW.of (fun tt_ zz_ => XS.iconst X133.here hx rfl (hb hby at_193) zz_) ?_
              show DnW p e below s (own_Q n0) 24 1152 (T133.setTop (mkF m 194 #[.val (.int i0), .val (.int i1), .val (.int i2), .val (.int i3), .val (.int i4), .val (.int i5), .val (.int ik1), .val (.int ik2), .val (.int t0), .val (.int t1), .val (.int ec0), .val (.int ec1), .val (.int lt), .val (.int le), .val (.int nu), .val (.ref sa), .val .null, .unset, .unset, .unset] [(.int (1 : Int32)), (.int lt), (.int (0 : Int32)), (.double (0 : UInt64)), (.ref sa), (own_kind a_IDENTIFIER a_KEYWORD a_NUMBER a_STRING a_PUNCTUATOR a_END ik1), (.ref b130), (.ref b130)]))
              refine DnW.of (fun tt_ zz_ => XS.iconst X133.here hx rfl (hb hby at_194) zz_) ?_
              show DnW p e below s (own_Q n0) 24 1152 (T133.setTop (mkF m 195 #[.val (.int i0), .val (.int i1), .val (.int i2), .val (.int i3), .val (.int i4), .val (.int i5), .val (.int ik1), .val (.int ik2), .val (.int t0), .val (.int t1), .val (.int ec0), .val (.int ec1), .val (.int lt), .val (.int le), .val (.int nu), .val (.ref sa), .val .null, .unset, .unset, .unset] [(.int (1 : Int32)), (.int (1 : Int32)), (.int lt), (.int (0 : Int32)), (.double (0 : UInt64)), (.ref sa), (own_kind a_IDENTIFIER a_KEYWORD a_NUMBER a_STRING a_PUNCTUATOR a_END ik1), (.ref b130), (.ref b130)]))
              refine DnW.of (fun tt_ zz_ => XS.iconst X133.here hx rfl (hb hby at_195) zz_) ?_
              show DnW p e below s (own_Q n0) 24 1152 (T133.setTop (mkF m 196 #[.val (.int i0), .val (.int i1), .val (.int i2), .val (.int i3), .val (.int i4), .val (.int i5), .val (.int ik1), .val (.int ik2), .val (.int t0), .val (.int t1), .val (.int ec0), .val (.int ec1), .val (.int lt), .val (.int le), .val (.int nu), .val (.ref sa), .val .null, .unset, .unset, .unset] [(.int (0 : Int32)), (.int (1 : Int32)), (.int (1 : Int32)), (.int lt), (.int (0 : Int32)), (.double (0 : UInt64)), (.ref sa), (own_kind a_IDENTIFIER a_KEYWORD a_NUMBER a_STRING a_PUNCTUATOR a_END ik1), (.ref b130), (.ref b130)]))
              obtain ⟨v134, T134, L134, Q134, X134, st134⟩ := cIn X133 hx hZ (y := (⟨"com/example/warmfront/warmfront/js/Token", "<init>", "(Lcom/example/warmfront/warmfront/js/Token$Kind;Ljava/lang/String;DIIIIZ)V"⟩ : MethodName)) rfl hown (hg 22 rfl) (hg 23 rfl) (hg 15 rfl) (hg 24 rfl) (by decide) (a := b130) (argsL := [(own_kind a_IDENTIFIER a_KEYWORD a_NUMBER a_STRING a_PUNCTUATOR a_END ik1), (.ref sa), (.double (0 : UInt64)), (.int (0 : Int32)), (.int lt), (.int (1 : Int32)), (.int (1 : Int32)), (.int (0 : Int32))]) (rest := [(.ref b130)]) (rmT l Z a0 hw h130 n0 F132 b130 sa (own_kind a_IDENTIFIER a_KEYWORD a_NUMBER a_STRING a_PUNCTUATOR a_END ik1) (own_kr a_IDENTIFIER a_KEYWORD a_NUMBER a_STRING a_PUNCTUATOR a_END ik1) lt A130 F_kind_130 F_text_130 F_number_130 F_start_130 F_end_130 F_line_130 F_column_130 F_newlineBefore_130 gt) e133  1 (by decide) (by decide) (by decide) (by decide) (g := (mkF m 196 #[.val (.int i0), .val (.int i1), .val (.int i2), .val (.int i3), .val (.int i4), .val (.int i5), .val (.int ik1), .val (.int ik2), .val (.int t0), .val (.int t1), .val (.int ec0), .val (.int ec1), .val (.int lt), .val (.int le), .val (.int nu), .val (.ref sa), .val .null, .unset, .unset, .unset] [(.int (0 : Int32)), (.int (1 : Int32)), (.int (1 : Int32)), (.int lt), (.int (0 : Int32)), (.double (0 : UInt64)), (.ref sa), (own_kind a_IDENTIFIER a_KEYWORD a_NUMBER a_STRING a_PUNCTUATOR a_END ik1), (.ref b130), (.ref b130)])) rfl (by rw [hml]; rfl) (lenOf pd14 rfl) rfl (by show 2 * 0 + _ ≤ _; exact Nat.le_of_eq rfl) (hb hby at_196)
              obtain ⟨rfl, M4, K4, G0, G1⟩ := Q134
              refine DnW.of st134 ?_
              show DnW p e below s (own_Q n0) 24 1152 (T134.setTop (mkF m 199 #[.val (.int i0), .val (.int i1), .val (.int i2), .val (.int i3), .val (.int i4), .val (.int i5), .val (.int ik1), .val (.int ik2), .val (.int t0), .val (.int t1), .val (.int ec0), .val (.int ec1), .val (.int lt), .val (.int le), .val (.int nu), .val (.ref sa), .val .null, .unset, .unset, .unset] [(.ref b130)]))
              have S1' := (S1.ext E130).keep K4 (ninS p1 nin0) (ninS r1 nin0)
              have ET := A130.keep K4
              have O5 := F131.keep K4 (allS gt all0)
              have Z5 := Nat.le_trans F132 K4.1
              have F135 := (Nat.le_trans hk1 E130.1)
              have hk5 := Nat.le_trans F135 K4.1
              refine DnW.of (fun tt_ zz_ => XS.astore X134.here hx rfl (hb hby at_199) rfl rfl (l' := #[.val (.int i0), .val (.int i1), .val (.int i2), .val (.int i3), .val (.int i4), .val (.int i5), .val (.int ik1), .val (.int ik2), .val (.int t0), .val (.int t1), .val (.int ec0), .val (.int ec1), .val (.int lt), .val (.int le), .val (.int nu), .val (.ref sa), .val .null, .val (.ref b130), .unset, .unset]) rfl zz_) ?_
              show DnW p e below s (own_Q n0) 24 1152 (T134.setTop (mkF m 201 #[.val (.int i0), .val (.int i1), .val (.int i2), .val (.int i3), .val (.int i4), .val (.int i5), .val (.int ik1), .val (.int ik2), .val (.int t0), .val (.int t1), .val (.int ec0), .val (.int ec1), .val (.int lt), .val (.int le), .val (.int nu), .val (.ref sa), .val .null, .val (.ref b130), .unset, .unset] []))
              refine DnW.of (fun tt_ zz_ => XS.aload X134.here hx rfl (hb hby at_201) rfl rfl zz_) ?_
              show DnW p e below s (own_Q n0) 24 1152 (T134.setTop (mkF m 203 #[.val (.int i0), .val (.int i1), .val (.int i2), .val (.int i3), .val (.int i4), .val (.int i5), .val (.int ik1), .val (.int ik2), .val (.int t0), .val (.int t1), .val (.int ec0), .val (.int ec1), .val (.int lt), .val (.int le), .val (.int nu), .val (.ref sa), .val .null, .val (.ref b130), .unset, .unset] [(.ref b130)]))
              refine DnW.of (fun tt_ zz_ => XS.iload X134.here hx rfl (hb hby at_203) rfl zz_) ?_
              show DnW p e below s (own_Q n0) 24 1152 (T134.setTop (mkF m 205 #[.val (.int i0), .val (.int i1), .val (.int i2), .val (.int i3), .val (.int i4), .val (.int i5), .val (.int ik1), .val (.int ik2), .val (.int t0), .val (.int t1), .val (.int ec0), .val (.int ec1), .val (.int lt), .val (.int le), .val (.int nu), .val (.ref sa), .val .null, .val (.ref b130), .unset, .unset] [(.int ik2), (.ref b130)]))
              obtain ⟨v136, T136, L136, Q136, X136, st136⟩ := cSt X134 hx hZ (y := (⟨"com/example/warmfront/warmfront/js/TokenIsPinLaw", "kind", "(I)Lcom/example/warmfront/warmfront/js/Token$Kind;"⟩ : MethodName)) hown (hg 16 rfl) (hg 17 rfl) (hg 3 rfl) (hg 18 rfl) (by decide) (argsL := [(.int ik2)]) (rest := [(.ref b130)]) (rmK l Z a0 hw T134.heap n0 Z5 ik2 a_IDENTIFIER a_KEYWORD a_NUMBER a_STRING a_PUNCTUATOR a_END S_IDENTIFIER S_KEYWORD S_NUMBER S_STRING S_PUNCTUATOR S_END O5) rfl  1 (by decide) (by decide) (by decide) (by decide) (g := (mkF m 205 #[.val (.int i0), .val (.int i1), .val (.int i2), .val (.int i3), .val (.int i4), .val (.int i5), .val (.int ik1), .val (.int ik2), .val (.int t0), .val (.int t1), .val (.int ec0), .val (.int ec1), .val (.int lt), .val (.int le), .val (.int nu), .val (.ref sa), .val .null, .val (.ref b130), .unset, .unset] [(.int ik2), (.ref b130)])) rfl (by rw [hml]; rfl) (lenOf pd13 rfl) rfl (by show 2 * 0 + _ ≤ _; exact Nat.le_of_eq rfl) (hb hby at_205)
              obtain ⟨rfl, M5, e136⟩ := Q136
              refine DnW.of st136 ?_
              show DnW p e below s (own_Q n0) 24 1152 (T136.setTop (mkF m 208 #[.val (.int i0), .val (.int i1), .val (.int i2), .val (.int i3), .val (.int i4), .val (.int i5), .val (.int ik1), .val (.int ik2), .val (.int t0), .val (.int t1), .val (.int ec0), .val (.int ec1), .val (.int lt), .val (.int le), .val (.int nu), .val (.ref sa), .val .null, .val (.ref b130), .unset, .unset] [(own_kind a_IDENTIFIER a_KEYWORD a_NUMBER a_STRING a_PUNCTUATOR a_END ik2), (.ref b130)]))
              refine DnW.of (fun tt_ zz_ => XS.aload X136.here hx rfl (hb hby at_208) rfl rfl zz_) ?_
              show DnW p e below s (own_Q n0) 24 1152 (T136.setTop (mkF m 210 #[.val (.int i0), .val (.int i1), .val (.int i2), .val (.int i3), .val (.int i4), .val (.int i5), .val (.int ik1), .val (.int ik2), .val (.int t0), .val (.int t1), .val (.int ec0), .val (.int ec1), .val (.int lt), .val (.int le), .val (.int nu), .val (.ref sa), .val .null, .val (.ref b130), .unset, .unset] [.null, (own_kind a_IDENTIFIER a_KEYWORD a_NUMBER a_STRING a_PUNCTUATOR a_END ik2), (.ref b130)]))
              obtain ⟨v137, T137, L137, Q137, X137, st137⟩ := cVi X136 hx hZ (C := "com/example/warmfront/warmfront/js/Token") (y := (⟨"com/example/warmfront/warmfront/js/Token", "is", "(Lcom/example/warmfront/warmfront/js/Token$Kind;Ljava/lang/String;)Z"⟩ : MethodName)) (z := (⟨"com/example/warmfront/warmfront/js/Token", "is", "(Lcom/example/warmfront/warmfront/js/Token$Kind;Ljava/lang/String;)Z"⟩ : MethodName)) hown (hg 51 rfl) (hg 52 rfl) (notFace_of_selects (args := #[]) (mvT hZ (hg 54 rfl))) (hg 54 rfl) (hg 53 rfl) (hg 15 rfl) (hg 55 rfl) (by decide) (a := b130) (argsL := [(own_kind a_IDENTIFIER a_KEYWORD a_NUMBER a_STRING a_PUNCTUATOR a_END ik2), .null]) (rest := []) (rmIN l Z a0 hw T134.heap n0 Z5 b130 sa (own_kind a_IDENTIFIER a_KEYWORD a_NUMBER a_STRING a_PUNCTUATOR a_END ik1) (own_kind a_IDENTIFIER a_KEYWORD a_NUMBER a_STRING a_PUNCTUATOR a_END ik2) (own_kr a_IDENTIFIER a_KEYWORD a_NUMBER a_STRING a_PUNCTUATOR a_END ik1) (own_kr a_IDENTIFIER a_KEYWORD a_NUMBER a_STRING a_PUNCTUATOR a_END ik2) ET G0 G1 sb lt (own_fn t0 t1) S1') e136 ET 0 (by decide) (by decide) (by decide) (by decide) (g := (mkF m 210 #[.val (.int i0), .val (.int i1), .val (.int i2), .val (.int i3), .val (.int i4), .val (.int i5), .val (.int ik1), .val (.int ik2), .val (.int t0), .val (.int t1), .val (.int ec0), .val (.int ec1), .val (.int lt), .val (.int le), .val (.int nu), .val (.ref sa), .val .null, .val (.ref b130), .unset, .unset] [.null, (own_kind a_IDENTIFIER a_KEYWORD a_NUMBER a_STRING a_PUNCTUATOR a_END ik2), (.ref b130)])) rfl (by rw [hml]; rfl) (lenOf pd15 rfl) rfl (by show 2 * 0 + _ ≤ _; exact Nat.le_of_eq rfl) (hb hby at_210)
              obtain ⟨rfl, M6, e137⟩ := Q137
              refine DnW.of st137 ?_
              show DnW p e below s (own_Q n0) 24 1152 (T137.setTop (mkF m 213 #[.val (.int i0), .val (.int i1), .val (.int i2), .val (.int i3), .val (.int i4), .val (.int i5), .val (.int ik1), .val (.int ik2), .val (.int t0), .val (.int t1), .val (.int ec0), .val (.int ec1), .val (.int lt), .val (.int le), .val (.int nu), .val (.ref sa), .val .null, .val (.ref b130), .unset, .unset] [(.int (0 : Int32))]))
              refine DnW.of (fun tt_ zz_ => XS.istore X137.here hx rfl (hb hby at_213) rfl (l' := #[.val (.int i0), .val (.int i1), .val (.int i2), .val (.int i3), .val (.int i4), .val (.int i5), .val (.int ik1), .val (.int ik2), .val (.int t0), .val (.int t1), .val (.int ec0), .val (.int ec1), .val (.int lt), .val (.int le), .val (.int nu), .val (.ref sa), .val .null, .val (.ref b130), .val (.int (0 : Int32)), .unset]) rfl zz_) ?_
              show DnW p e below s (own_Q n0) 24 1152 (T137.setTop (mkF m 215 #[.val (.int i0), .val (.int i1), .val (.int i2), .val (.int i3), .val (.int i4), .val (.int i5), .val (.int ik1), .val (.int ik2), .val (.int t0), .val (.int t1), .val (.int ec0), .val (.int ec1), .val (.int lt), .val (.int le), .val (.int nu), .val (.ref sa), .val .null, .val (.ref b130), .val (.int (0 : Int32)), .unset] []))
              refine DnW.of (fun tt_ zz_ => XS.iload X137.here hx rfl (hb hby at_215) rfl zz_) ?_
              show DnW p e below s (own_Q n0) 24 1152 (T137.setTop (mkF m 217 #[.val (.int i0), .val (.int i1), .val (.int i2), .val (.int i3), .val (.int i4), .val (.int i5), .val (.int ik1), .val (.int ik2), .val (.int t0), .val (.int t1), .val (.int ec0), .val (.int ec1), .val (.int lt), .val (.int le), .val (.int nu), .val (.ref sa), .val .null, .val (.ref b130), .val (.int (0 : Int32)), .unset] [(.int ik1)]))
              refine DnW.of (fun tt_ zz_ => XS.iload X137.here hx rfl (hb hby at_217) rfl zz_) ?_
              show DnW p e below s (own_Q n0) 24 1152 (T137.setTop (mkF m 219 #[.val (.int i0), .val (.int i1), .val (.int i2), .val (.int i3), .val (.int i4), .val (.int i5), .val (.int ik1), .val (.int ik2), .val (.int t0), .val (.int t1), .val (.int ec0), .val (.int ec1), .val (.int lt), .val (.int le), .val (.int nu), .val (.ref sa), .val .null, .val (.ref b130), .val (.int (0 : Int32)), .unset] [(.int ik2), (.int ik1)]))
              by_cases qa : ik1 = ik2
              · skip
                refine DnW.of (fun tt_ zz_ => XS.icmpNo X137.here hx rfl (hb hby at_219) rfl (teq qa).2 zz_) ?_
                show DnW p e below s (own_Q n0) 24 1152 (T137.setTop (mkF m 222 #[.val (.int i0), .val (.int i1), .val (.int i2), .val (.int i3), .val (.int i4), .val (.int i5), .val (.int ik1), .val (.int ik2), .val (.int t0), .val (.int t1), .val (.int ec0), .val (.int ec1), .val (.int lt), .val (.int le), .val (.int nu), .val (.ref sa), .val .null, .val (.ref b130), .val (.int (0 : Int32)), .unset] []))
                refine DnW.of (fun tt_ zz_ => XS.iload X137.here hx rfl (hb hby at_222) rfl zz_) ?_
                show DnW p e below s (own_Q n0) 24 1152 (T137.setTop (mkF m 224 #[.val (.int i0), .val (.int i1), .val (.int i2), .val (.int i3), .val (.int i4), .val (.int i5), .val (.int ik1), .val (.int ik2), .val (.int t0), .val (.int t1), .val (.int ec0), .val (.int ec1), .val (.int lt), .val (.int le), .val (.int nu), .val (.ref sa), .val .null, .val (.ref b130), .val (.int (0 : Int32)), .unset] [(.int nu)]))
                refine DnW.of (fun tt_ zz_ => XS.ifYes X137.here hx rfl (pc0 := 224) (pc' := 264) rfl (hb hby at_224) rfl ((if0 _ _).trans (feq hnu).2) (by decide) (by decide) zz_) ?_
                show DnW p e below s (own_Q n0) 24 1152 (T137.setTop (mkF m 264 #[.val (.int i0), .val (.int i1), .val (.int i2), .val (.int i3), .val (.int i4), .val (.int i5), .val (.int ik1), .val (.int ik2), .val (.int t0), .val (.int t1), .val (.int ec0), .val (.int ec1), .val (.int lt), .val (.int le), .val (.int nu), .val (.ref sa), .val .null, .val (.ref b130), .val (.int (0 : Int32)), .unset] []))
                refine DnW.of (fun tt_ zz_ => XS.iconst X137.here hx rfl (hb hby at_264) zz_) ?_
                show DnW p e below s (own_Q n0) 24 1152 (T137.setTop (mkF m 265 #[.val (.int i0), .val (.int i1), .val (.int i2), .val (.int i3), .val (.int i4), .val (.int i5), .val (.int ik1), .val (.int ik2), .val (.int t0), .val (.int t1), .val (.int ec0), .val (.int ec1), .val (.int lt), .val (.int le), .val (.int nu), .val (.ref sa), .val .null, .val (.ref b130), .val (.int (0 : Int32)), .unset] [(.int (0 : Int32))]))
                refine DnW.of (fun tt_ zz_ => XS.istore X137.here hx rfl (hb hby at_265) rfl (l' := #[.val (.int i0), .val (.int i1), .val (.int i2), .val (.int i3), .val (.int i4), .val (.int i5), .val (.int ik1), .val (.int ik2), .val (.int t0), .val (.int t1), .val (.int ec0), .val (.int ec1), .val (.int lt), .val (.int le), .val (.int nu), .val (.ref sa), .val .null, .val (.ref b130), .val (.int (0 : Int32)), .val (.int (0 : Int32))]) rfl zz_) ?_
                show DnW p e below s (own_Q n0) 24 1152 (T137.setTop (mkF m 267 #[.val (.int i0), .val (.int i1), .val (.int i2), .val (.int i3), .val (.int i4), .val (.int i5), .val (.int ik1), .val (.int ik2), .val (.int t0), .val (.int t1), .val (.int ec0), .val (.int ec1), .val (.int lt), .val (.int le), .val (.int nu), .val (.ref sa), .val .null, .val (.ref b130), .val (.int (0 : Int32)), .val (.int (0 : Int32))] []))
                refine DnW.of (fun tt_ zz_ => XS.iload X137.here hx rfl (hb hby at_267) rfl zz_) ?_
                show DnW p e below s (own_Q n0) 24 1152 (T137.setTop (mkF m 269 #[.val (.int i0), .val (.int i1), .val (.int i2), .val (.int i3), .val (.int i4), .val (.int i5), .val (.int ik1), .val (.int ik2), .val (.int t0), .val (.int t1), .val (.int ec0), .val (.int ec1), .val (.int lt), .val (.int le), .val (.int nu), .val (.ref sa), .val .null, .val (.ref b130), .val (.int (0 : Int32)), .val (.int (0 : Int32))] [(.int (0 : Int32))]))
                refine DnW.of (fun tt_ zz_ => XS.iload X137.here hx rfl (hb hby at_269) rfl zz_) ?_
                show DnW p e below s (own_Q n0) 24 1152 (T137.setTop (mkF m 271 #[.val (.int i0), .val (.int i1), .val (.int i2), .val (.int i3), .val (.int i4), .val (.int i5), .val (.int ik1), .val (.int ik2), .val (.int t0), .val (.int t1), .val (.int ec0), .val (.int ec1), .val (.int lt), .val (.int le), .val (.int nu), .val (.ref sa), .val .null, .val (.ref b130), .val (.int (0 : Int32)), .val (.int (0 : Int32))] [(.int (0 : Int32)), (.int (0 : Int32))]))
                refine DnW.of (fun tt_ zz_ => XS.icmpNo X137.here hx rfl (hb hby at_271) rfl (teq rfl).2 zz_) ?_
                show DnW p e below s (own_Q n0) 24 1152 (T137.setTop (mkF m 274 #[.val (.int i0), .val (.int i1), .val (.int i2), .val (.int i3), .val (.int i4), .val (.int i5), .val (.int ik1), .val (.int ik2), .val (.int t0), .val (.int t1), .val (.int ec0), .val (.int ec1), .val (.int lt), .val (.int le), .val (.int nu), .val (.ref sa), .val .null, .val (.ref b130), .val (.int (0 : Int32)), .val (.int (0 : Int32))] []))
                refine DnW.of (fun tt_ zz_ => XS.iconst X137.here hx rfl (hb hby at_274) zz_) ?_
                show DnW p e below s (own_Q n0) 24 1152 (T137.setTop (mkF m 275 #[.val (.int i0), .val (.int i1), .val (.int i2), .val (.int i3), .val (.int i4), .val (.int i5), .val (.int ik1), .val (.int ik2), .val (.int t0), .val (.int t1), .val (.int ec0), .val (.int ec1), .val (.int lt), .val (.int le), .val (.int nu), .val (.ref sa), .val .null, .val (.ref b130), .val (.int (0 : Int32)), .val (.int (0 : Int32))] [(.int (1 : Int32))]))
                refine DnW.of (fun tt_ zz_ => XS.goto X137.here hx rfl (pc0 := 275) (pc' := 279) rfl (hb hby at_275) (by decide) (by decide) zz_) ?_
                show DnW p e below s (own_Q n0) 24 1152 (T137.setTop (mkF m 279 #[.val (.int i0), .val (.int i1), .val (.int i2), .val (.int i3), .val (.int i4), .val (.int i5), .val (.int ik1), .val (.int ik2), .val (.int t0), .val (.int t1), .val (.int ec0), .val (.int ec1), .val (.int lt), .val (.int le), .val (.int nu), .val (.ref sa), .val .null, .val (.ref b130), .val (.int (0 : Int32)), .val (.int (0 : Int32))] [(.int (1 : Int32))]))
                exact DnW.retN hS (by rw [e137]; exact hk5) X137 hx hlk (t := .boolean) hret (by simp) (hb hby at_279) (by decide) (by decide) (⟨rfl, (Fr.app (Fr.app (Fr.app (Fr.app (Fr.app N0 M1) M3) M4) M5) M6)⟩)
              · skip
                refine DnW.of (fun tt_ zz_ => XS.icmpYes X137.here hx rfl (pc0 := 219) (pc' := 264) rfl (hb hby at_219) rfl (feq qa).2 (by decide) (by decide) zz_) ?_
                show DnW p e below s (own_Q n0) 24 1152 (T137.setTop (mkF m 264 #[.val (.int i0), .val (.int i1), .val (.int i2), .val (.int i3), .val (.int i4), .val (.int i5), .val (.int ik1), .val (.int ik2), .val (.int t0), .val (.int t1), .val (.int ec0), .val (.int ec1), .val (.int lt), .val (.int le), .val (.int nu), .val (.ref sa), .val .null, .val (.ref b130), .val (.int (0 : Int32)), .unset] []))
                refine DnW.of (fun tt_ zz_ => XS.iconst X137.here hx rfl (hb hby at_264) zz_) ?_
                show DnW p e below s (own_Q n0) 24 1152 (T137.setTop (mkF m 265 #[.val (.int i0), .val (.int i1), .val (.int i2), .val (.int i3), .val (.int i4), .val (.int i5), .val (.int ik1), .val (.int ik2), .val (.int t0), .val (.int t1), .val (.int ec0), .val (.int ec1), .val (.int lt), .val (.int le), .val (.int nu), .val (.ref sa), .val .null, .val (.ref b130), .val (.int (0 : Int32)), .unset] [(.int (0 : Int32))]))
                refine DnW.of (fun tt_ zz_ => XS.istore X137.here hx rfl (hb hby at_265) rfl (l' := #[.val (.int i0), .val (.int i1), .val (.int i2), .val (.int i3), .val (.int i4), .val (.int i5), .val (.int ik1), .val (.int ik2), .val (.int t0), .val (.int t1), .val (.int ec0), .val (.int ec1), .val (.int lt), .val (.int le), .val (.int nu), .val (.ref sa), .val .null, .val (.ref b130), .val (.int (0 : Int32)), .val (.int (0 : Int32))]) rfl zz_) ?_
                show DnW p e below s (own_Q n0) 24 1152 (T137.setTop (mkF m 267 #[.val (.int i0), .val (.int i1), .val (.int i2), .val (.int i3), .val (.int i4), .val (.int i5), .val (.int ik1), .val (.int ik2), .val (.int t0), .val (.int t1), .val (.int ec0), .val (.int ec1), .val (.int lt), .val (.int le), .val (.int nu), .val (.ref sa), .val .null, .val (.ref b130), .val (.int (0 : Int32)), .val (.int (0 : Int32))] []))
                refine DnW.of (fun tt_ zz_ => XS.iload X137.here hx rfl (hb hby at_267) rfl zz_) ?_
                show DnW p e below s (own_Q n0) 24 1152 (T137.setTop (mkF m 269 #[.val (.int i0), .val (.int i1), .val (.int i2), .val (.int i3), .val (.int i4), .val (.int i5), .val (.int ik1), .val (.int ik2), .val (.int t0), .val (.int t1), .val (.int ec0), .val (.int ec1), .val (.int lt), .val (.int le), .val (.int nu), .val (.ref sa), .val .null, .val (.ref b130), .val (.int (0 : Int32)), .val (.int (0 : Int32))] [(.int (0 : Int32))]))
                refine DnW.of (fun tt_ zz_ => XS.iload X137.here hx rfl (hb hby at_269) rfl zz_) ?_
                show DnW p e below s (own_Q n0) 24 1152 (T137.setTop (mkF m 271 #[.val (.int i0), .val (.int i1), .val (.int i2), .val (.int i3), .val (.int i4), .val (.int i5), .val (.int ik1), .val (.int ik2), .val (.int t0), .val (.int t1), .val (.int ec0), .val (.int ec1), .val (.int lt), .val (.int le), .val (.int nu), .val (.ref sa), .val .null, .val (.ref b130), .val (.int (0 : Int32)), .val (.int (0 : Int32))] [(.int (0 : Int32)), (.int (0 : Int32))]))
                refine DnW.of (fun tt_ zz_ => XS.icmpNo X137.here hx rfl (hb hby at_271) rfl (teq rfl).2 zz_) ?_
                show DnW p e below s (own_Q n0) 24 1152 (T137.setTop (mkF m 274 #[.val (.int i0), .val (.int i1), .val (.int i2), .val (.int i3), .val (.int i4), .val (.int i5), .val (.int ik1), .val (.int ik2), .val (.int t0), .val (.int t1), .val (.int ec0), .val (.int ec1), .val (.int lt), .val (.int le), .val (.int nu), .val (.ref sa), .val .null, .val (.ref b130), .val (.int (0 : Int32)), .val (.int (0 : Int32))] []))
                refine DnW.of (fun tt_ zz_ => XS.iconst X137.here hx rfl (hb hby at_274) zz_) ?_
                show DnW p e below s (own_Q n0) 24 1152 (T137.setTop (mkF m 275 #[.val (.int i0), .val (.int i1), .val (.int i2), .val (.int i3), .val (.int i4), .val (.int i5), .val (.int ik1), .val (.int ik2), .val (.int t0), .val (.int t1), .val (.int ec0), .val (.int ec1), .val (.int lt), .val (.int le), .val (.int nu), .val (.ref sa), .val .null, .val (.ref b130), .val (.int (0 : Int32)), .val (.int (0 : Int32))] [(.int (1 : Int32))]))
                refine DnW.of (fun tt_ zz_ => XS.goto X137.here hx rfl (pc0 := 275) (pc' := 279) rfl (hb hby at_275) (by decide) (by decide) zz_) ?_
                show DnW p e below s (own_Q n0) 24 1152 (T137.setTop (mkF m 279 #[.val (.int i0), .val (.int i1), .val (.int i2), .val (.int i3), .val (.int i4), .val (.int i5), .val (.int ik1), .val (.int ik2), .val (.int t0), .val (.int t1), .val (.int ec0), .val (.int ec1), .val (.int lt), .val (.int le), .val (.int nu), .val (.ref sa), .val .null, .val (.ref b130), .val (.int (0 : Int32)), .val (.int (0 : Int32))] [(.int (1 : Int32))]))
                exact DnW.retN hS (by rw [e137]; exact hk5) X137 hx hlk (t := .boolean) hret (by simp) (hb hby at_279) (by decide) (by decide) (⟨rfl, (Fr.app (Fr.app (Fr.app (Fr.app (Fr.app N0 M1) M3) M4) M5) M6)⟩)
          by_cases qq : (i5 &&& (8 : Int32)) = (0 : Int32)
          · skip
            refine DnW.of (fun tt_ zz_ => XS.ifYes X0.here hx rfl (pc0 := 129) (pc' := 144) rfl (hb hby at_129) rfl ((if0 _ _).trans (teq qq).1) (by decide) (by decide) zz_) ?_
            show DnW p e below s (own_Q n0) 24 1152 (s₁.setTop (mkF m 144 #[.val (.int i0), .val (.int i1), .val (.int i2), .val (.int i3), .val (.int i4), .val (.int i5), .val (.int ik1), .val (.int ik2), .val (.int t0), .val (.int t1), .val (.int ec0), .val (.int ec1), .val (.int lt), .val (.int le), .unset, .unset, .unset, .unset, .unset, .unset] []))
            refine DnW.of (fun tt_ zz_ => XS.iconst X0.here hx rfl (hb hby at_144) zz_) ?_
            show DnW p e below s (own_Q n0) 24 1152 (s₁.setTop (mkF m 145 #[.val (.int i0), .val (.int i1), .val (.int i2), .val (.int i3), .val (.int i4), .val (.int i5), .val (.int ik1), .val (.int ik2), .val (.int t0), .val (.int t1), .val (.int ec0), .val (.int ec1), .val (.int lt), .val (.int le), .unset, .unset, .unset, .unset, .unset, .unset] [(.int (0 : Int32))]))
            exact K145 _
          · skip
            refine DnW.of (fun tt_ zz_ => XS.ifNo X0.here hx rfl (hb hby at_129) rfl ((if0 _ _).trans (feq qq).1) zz_) ?_
            show DnW p e below s (own_Q n0) 24 1152 (s₁.setTop (mkF m 132 #[.val (.int i0), .val (.int i1), .val (.int i2), .val (.int i3), .val (.int i4), .val (.int i5), .val (.int ik1), .val (.int ik2), .val (.int t0), .val (.int t1), .val (.int ec0), .val (.int ec1), .val (.int lt), .val (.int le), .unset, .unset, .unset, .unset, .unset, .unset] []))
            refine DnW.of (fun tt_ zz_ => XS.iload X0.here hx rfl (hb hby at_132) rfl zz_) ?_
            show DnW p e below s (own_Q n0) 24 1152 (s₁.setTop (mkF m 134 #[.val (.int i0), .val (.int i1), .val (.int i2), .val (.int i3), .val (.int i4), .val (.int i5), .val (.int ik1), .val (.int ik2), .val (.int t0), .val (.int t1), .val (.int ec0), .val (.int ec1), .val (.int lt), .val (.int le), .unset, .unset, .unset, .unset, .unset, .unset] [(.int i5)]))
            refine DnW.of (fun tt_ zz_ => XS.bipush X0.here hx rfl (hb hby at_134) zz_) ?_
            show DnW p e below s (own_Q n0) 24 1152 (s₁.setTop (mkF m 136 #[.val (.int i0), .val (.int i1), .val (.int i2), .val (.int i3), .val (.int i4), .val (.int i5), .val (.int ik1), .val (.int ik2), .val (.int t0), .val (.int t1), .val (.int ec0), .val (.int ec1), .val (.int lt), .val (.int le), .unset, .unset, .unset, .unset, .unset, .unset] [(.int (16 : Int32)), (.int i5)]))
            refine DnW.of (fun tt_ zz_ => XS.iand X0.here hx rfl (hb hby at_136) rfl zz_) ?_
            show DnW p e below s (own_Q n0) 24 1152 (s₁.setTop (mkF m 137 #[.val (.int i0), .val (.int i1), .val (.int i2), .val (.int i3), .val (.int i4), .val (.int i5), .val (.int ik1), .val (.int ik2), .val (.int t0), .val (.int t1), .val (.int ec0), .val (.int ec1), .val (.int lt), .val (.int le), .unset, .unset, .unset, .unset, .unset, .unset] [(.int (i5 &&& (16 : Int32)))]))
            by_cases qr : (i5 &&& (16 : Int32)) = (0 : Int32)
            · skip
              refine DnW.of (fun tt_ zz_ => XS.ifYes X0.here hx rfl (pc0 := 137) (pc' := 144) rfl (hb hby at_137) rfl ((if0 _ _).trans (teq qr).1) (by decide) (by decide) zz_) ?_
              show DnW p e below s (own_Q n0) 24 1152 (s₁.setTop (mkF m 144 #[.val (.int i0), .val (.int i1), .val (.int i2), .val (.int i3), .val (.int i4), .val (.int i5), .val (.int ik1), .val (.int ik2), .val (.int t0), .val (.int t1), .val (.int ec0), .val (.int ec1), .val (.int lt), .val (.int le), .unset, .unset, .unset, .unset, .unset, .unset] []))
              refine DnW.of (fun tt_ zz_ => XS.iconst X0.here hx rfl (hb hby at_144) zz_) ?_
              show DnW p e below s (own_Q n0) 24 1152 (s₁.setTop (mkF m 145 #[.val (.int i0), .val (.int i1), .val (.int i2), .val (.int i3), .val (.int i4), .val (.int i5), .val (.int ik1), .val (.int ik2), .val (.int t0), .val (.int t1), .val (.int ec0), .val (.int ec1), .val (.int lt), .val (.int le), .unset, .unset, .unset, .unset, .unset, .unset] [(.int (0 : Int32))]))
              exact K145 _
            · skip
              refine DnW.of (fun tt_ zz_ => XS.ifNo X0.here hx rfl (hb hby at_137) rfl ((if0 _ _).trans (feq qr).1) zz_) ?_
              show DnW p e below s (own_Q n0) 24 1152 (s₁.setTop (mkF m 140 #[.val (.int i0), .val (.int i1), .val (.int i2), .val (.int i3), .val (.int i4), .val (.int i5), .val (.int ik1), .val (.int ik2), .val (.int t0), .val (.int t1), .val (.int ec0), .val (.int ec1), .val (.int lt), .val (.int le), .unset, .unset, .unset, .unset, .unset, .unset] []))
              refine DnW.of (fun tt_ zz_ => XS.iconst X0.here hx rfl (hb hby at_140) zz_) ?_
              show DnW p e below s (own_Q n0) 24 1152 (s₁.setTop (mkF m 141 #[.val (.int i0), .val (.int i1), .val (.int i2), .val (.int i3), .val (.int i4), .val (.int i5), .val (.int ik1), .val (.int ik2), .val (.int t0), .val (.int t1), .val (.int ec0), .val (.int ec1), .val (.int lt), .val (.int le), .unset, .unset, .unset, .unset, .unset, .unset] [(.int (1 : Int32))]))
              refine DnW.of (fun tt_ zz_ => XS.goto X0.here hx rfl (pc0 := 141) (pc' := 145) rfl (hb hby at_141) (by decide) (by decide) zz_) ?_
              show DnW p e below s (own_Q n0) 24 1152 (s₁.setTop (mkF m 145 #[.val (.int i0), .val (.int i1), .val (.int i2), .val (.int i3), .val (.int i4), .val (.int i5), .val (.int ik1), .val (.int ik2), .val (.int t0), .val (.int t1), .val (.int ec0), .val (.int ec1), .val (.int lt), .val (.int le), .unset, .unset, .unset, .unset, .unset, .unset] [(.int (1 : Int32))]))
              exact K145 _
        by_cases qq : (i5 &&& (4 : Int32)) = (0 : Int32)
        · skip
          refine DnW.of (fun tt_ zz_ => XS.ifYes X0.here hx rfl (pc0 := 117) (pc' := 124) rfl (hb hby at_117) rfl ((if0 _ _).trans (teq qq).1) (by decide) (by decide) zz_) ?_
          show DnW p e below s (own_Q n0) 24 1152 (s₁.setTop (mkF m 124 #[.val (.int i0), .val (.int i1), .val (.int i2), .val (.int i3), .val (.int i4), .val (.int i5), .val (.int ik1), .val (.int ik2), .val (.int t0), .val (.int t1), .val (.int ec0), .val (.int ec1), .val (.int lt), .val (.int lx), .unset, .unset, .unset, .unset, .unset, .unset] []))
          exact K124 _ hl_lx
        · skip
          refine DnW.of (fun tt_ zz_ => XS.ifNo X0.here hx rfl (hb hby at_117) rfl ((if0 _ _).trans (feq qq).1) zz_) ?_
          show DnW p e below s (own_Q n0) 24 1152 (s₁.setTop (mkF m 120 #[.val (.int i0), .val (.int i1), .val (.int i2), .val (.int i3), .val (.int i4), .val (.int i5), .val (.int ik1), .val (.int ik2), .val (.int t0), .val (.int t1), .val (.int ec0), .val (.int ec1), .val (.int lt), .val (.int lx), .unset, .unset, .unset, .unset, .unset, .unset] []))
          refine DnW.of (fun tt_ zz_ => XS.iload X0.here hx rfl (hb hby at_120) rfl zz_) ?_
          show DnW p e below s (own_Q n0) 24 1152 (s₁.setTop (mkF m 122 #[.val (.int i0), .val (.int i1), .val (.int i2), .val (.int i3), .val (.int i4), .val (.int i5), .val (.int ik1), .val (.int ik2), .val (.int t0), .val (.int t1), .val (.int ec0), .val (.int ec1), .val (.int lt), .val (.int lx), .unset, .unset, .unset, .unset, .unset, .unset] [(.int lt)]))
          refine DnW.of (fun tt_ zz_ => XS.istore X0.here hx rfl (hb hby at_122) rfl (l' := #[.val (.int i0), .val (.int i1), .val (.int i2), .val (.int i3), .val (.int i4), .val (.int i5), .val (.int ik1), .val (.int ik2), .val (.int t0), .val (.int t1), .val (.int ec0), .val (.int ec1), .val (.int lt), .val (.int lt), .unset, .unset, .unset, .unset, .unset, .unset]) rfl zz_) ?_
          show DnW p e below s (own_Q n0) 24 1152 (s₁.setTop (mkF m 124 #[.val (.int i0), .val (.int i1), .val (.int i2), .val (.int i3), .val (.int i4), .val (.int i5), .val (.int ik1), .val (.int ik2), .val (.int t0), .val (.int t1), .val (.int ec0), .val (.int ec1), .val (.int lt), .val (.int lt), .unset, .unset, .unset, .unset, .unset, .unset] []))
          exact K124 _ hl_lt
      by_cases qq : (i5 &&& (2 : Int32)) = (0 : Int32)
      · skip
        refine DnW.of (fun tt_ zz_ => XS.ifYes X0.here hx rfl (pc0 := 83) (pc' := 90) rfl (hb hby at_83) rfl ((if0 _ _).trans (teq qq).1) (by decide) (by decide) zz_) ?_
        show DnW p e below s (own_Q n0) 24 1152 (s₁.setTop (mkF m 90 #[.val (.int i0), .val (.int i1), .val (.int i2), .val (.int i3), .val (.int i4), .val (.int i5), .val (.int ik1), .val (.int ik2), .val (.int t0), .val (.int t1), .val (.int ec0), .val (.int x1), .unset, .unset, .unset, .unset, .unset, .unset, .unset, .unset] []))
        exact K90 _ y_x1
      · skip
        refine DnW.of (fun tt_ zz_ => XS.ifNo X0.here hx rfl (hb hby at_83) rfl ((if0 _ _).trans (feq qq).1) zz_) ?_
        show DnW p e below s (own_Q n0) 24 1152 (s₁.setTop (mkF m 86 #[.val (.int i0), .val (.int i1), .val (.int i2), .val (.int i3), .val (.int i4), .val (.int i5), .val (.int ik1), .val (.int ik2), .val (.int t0), .val (.int t1), .val (.int ec0), .val (.int x1), .unset, .unset, .unset, .unset, .unset, .unset, .unset, .unset] []))
        refine DnW.of (fun tt_ zz_ => XS.iload X0.here hx rfl (hb hby at_86) rfl zz_) ?_
        show DnW p e below s (own_Q n0) 24 1152 (s₁.setTop (mkF m 88 #[.val (.int i0), .val (.int i1), .val (.int i2), .val (.int i3), .val (.int i4), .val (.int i5), .val (.int ik1), .val (.int ik2), .val (.int t0), .val (.int t1), .val (.int ec0), .val (.int x1), .unset, .unset, .unset, .unset, .unset, .unset, .unset, .unset] [(.int t1)]))
        refine DnW.of (fun tt_ zz_ => XS.istore X0.here hx rfl (hb hby at_88) rfl (l' := #[.val (.int i0), .val (.int i1), .val (.int i2), .val (.int i3), .val (.int i4), .val (.int i5), .val (.int ik1), .val (.int ik2), .val (.int t0), .val (.int t1), .val (.int ec0), .val (.int t1), .unset, .unset, .unset, .unset, .unset, .unset, .unset, .unset]) rfl zz_) ?_
        show DnW p e below s (own_Q n0) 24 1152 (s₁.setTop (mkF m 90 #[.val (.int i0), .val (.int i1), .val (.int i2), .val (.int i3), .val (.int i4), .val (.int i5), .val (.int ik1), .val (.int ik2), .val (.int t0), .val (.int t1), .val (.int ec0), .val (.int t1), .unset, .unset, .unset, .unset, .unset, .unset, .unset, .unset] []))
        exact K90 _ y_t1
    by_cases qq : (i5 &&& (1 : Int32)) = (0 : Int32)
    · skip
      refine DnW.of (fun tt_ zz_ => XS.ifYes X0.here hx rfl (pc0 := 72) (pc' := 79) rfl (hb hby at_72) rfl ((if0 _ _).trans (teq qq).1) (by decide) (by decide) zz_) ?_
      show DnW p e below s (own_Q n0) 24 1152 (s₁.setTop (mkF m 79 #[.val (.int i0), .val (.int i1), .val (.int i2), .val (.int i3), .val (.int i4), .val (.int i5), .val (.int ik1), .val (.int ik2), .val (.int t0), .val (.int t1), .val (.int x0), .val (.int x1), .unset, .unset, .unset, .unset, .unset, .unset, .unset, .unset] []))
      exact K79 _ y_x0
    · skip
      refine DnW.of (fun tt_ zz_ => XS.ifNo X0.here hx rfl (hb hby at_72) rfl ((if0 _ _).trans (feq qq).1) zz_) ?_
      show DnW p e below s (own_Q n0) 24 1152 (s₁.setTop (mkF m 75 #[.val (.int i0), .val (.int i1), .val (.int i2), .val (.int i3), .val (.int i4), .val (.int i5), .val (.int ik1), .val (.int ik2), .val (.int t0), .val (.int t1), .val (.int x0), .val (.int x1), .unset, .unset, .unset, .unset, .unset, .unset, .unset, .unset] []))
      refine DnW.of (fun tt_ zz_ => XS.iload X0.here hx rfl (hb hby at_75) rfl zz_) ?_
      show DnW p e below s (own_Q n0) 24 1152 (s₁.setTop (mkF m 77 #[.val (.int i0), .val (.int i1), .val (.int i2), .val (.int i3), .val (.int i4), .val (.int i5), .val (.int ik1), .val (.int ik2), .val (.int t0), .val (.int t1), .val (.int x0), .val (.int x1), .unset, .unset, .unset, .unset, .unset, .unset, .unset, .unset] [(.int t0)]))
      refine DnW.of (fun tt_ zz_ => XS.istore X0.here hx rfl (hb hby at_77) rfl (l' := #[.val (.int i0), .val (.int i1), .val (.int i2), .val (.int i3), .val (.int i4), .val (.int i5), .val (.int ik1), .val (.int ik2), .val (.int t0), .val (.int t1), .val (.int t0), .val (.int x1), .unset, .unset, .unset, .unset, .unset, .unset, .unset, .unset]) rfl zz_) ?_
      show DnW p e below s (own_Q n0) 24 1152 (s₁.setTop (mkF m 79 #[.val (.int i0), .val (.int i1), .val (.int i2), .val (.int i3), .val (.int i4), .val (.int i5), .val (.int ik1), .val (.int ik2), .val (.int t0), .val (.int t1), .val (.int t0), .val (.int x1), .unset, .unset, .unset, .unset, .unset, .unset, .unset, .unset] []))
      exact K79 _ y_t0
  by_cases qq : (i5 &&& (32 : Int32)) = (0 : Int32)
  · skip
    refine DnW.of (fun tt_ zz_ => XS.ifYes X0.here hx rfl (pc0 := 23) (pc' := 30) rfl (hb hby at_23) rfl ((if0 _ _).trans (teq qq).1) (by decide) (by decide) zz_) ?_
    show DnW p e below s (own_Q n0) 24 1152 (s₁.setTop (mkF m 30 #[.val (.int i0), .val (.int i1), .val (.int i2), .val (.int i3), .val (.int i4), .val (.int i5), .val (.int ik1), .val (.int ik0), .unset, .unset, .unset, .unset, .unset, .unset, .unset, .unset, .unset, .unset, .unset, .unset] []))
    exact K30 _ k2
  · skip
    refine DnW.of (fun tt_ zz_ => XS.ifNo X0.here hx rfl (hb hby at_23) rfl ((if0 _ _).trans (feq qq).1) zz_) ?_
    show DnW p e below s (own_Q n0) 24 1152 (s₁.setTop (mkF m 26 #[.val (.int i0), .val (.int i1), .val (.int i2), .val (.int i3), .val (.int i4), .val (.int i5), .val (.int ik1), .val (.int ik0), .unset, .unset, .unset, .unset, .unset, .unset, .unset, .unset, .unset, .unset, .unset, .unset] []))
    refine DnW.of (fun tt_ zz_ => XS.iload X0.here hx rfl (hb hby at_26) rfl zz_) ?_
    show DnW p e below s (own_Q n0) 24 1152 (s₁.setTop (mkF m 28 #[.val (.int i0), .val (.int i1), .val (.int i2), .val (.int i3), .val (.int i4), .val (.int i5), .val (.int ik1), .val (.int ik0), .unset, .unset, .unset, .unset, .unset, .unset, .unset, .unset, .unset, .unset, .unset, .unset] [(.int ik1)]))
    refine DnW.of (fun tt_ zz_ => XS.istore X0.here hx rfl (hb hby at_28) rfl (l' := #[.val (.int i0), .val (.int i1), .val (.int i2), .val (.int i3), .val (.int i4), .val (.int i5), .val (.int ik1), .val (.int ik1), .unset, .unset, .unset, .unset, .unset, .unset, .unset, .unset, .unset, .unset, .unset, .unset]) rfl zz_) ?_
    show DnW p e below s (own_Q n0) 24 1152 (s₁.setTop (mkF m 30 #[.val (.int i0), .val (.int i1), .val (.int i2), .val (.int i3), .val (.int i4), .val (.int i5), .val (.int ik1), .val (.int ik1), .unset, .unset, .unset, .unset, .unset, .unset, .unset, .unset, .unset, .unset, .unset, .unset] []))
    exact K30 _ ⟨k1.1, by omega⟩
set_option maxRecDepth 65536 in
set_option maxHeartbeats 40000000 in
theorem comes_1 {Post : Tables → Env → Array Value → State → Outcome → State → Prop} (hpost : ∀ tb e args s v u, (limb_1_1.after args s (.returned v) u = true ∧ limb_1_2.after args s (.returned v) u = true ∧ True) → ReturnedEndW s (.returned v) u (Jvm.fieldLocs frame_1_writes args s ++ Jvm.arrayLocs frame_1_arrays args s ++ Jvm.staticLocs frame_1_statics s) 24 1152 → Post tb e args s (.returned v) u) :
    ArmFor flags0 classFile x code maxLocals ret World_1 tables_1 room_1 Calls_1 rest_1 Pre_1 Post := by
  intro l hfl _ _ p e ha hc hk s m args below hf hA hF happ hP
  obtain ⟨hcalls, hrest, hpre⟩ := hP
  obtain ⟨-, -, -, hnamed, -, -, -, hat⟩ := (Spec.applies_iff hf).mp happ
  obtain ⟨hg, hn⟩ := and_e (Cond.before_iff.mp (show (Jvm.Cond.and given_1 narrow_1).before args s = true from hpre))
  obtain ⟨hcount, hr⟩ := and_e hg
  obtain ⟨w0, w1, w2, w3, w4, w5, rfl⟩ : ∃ w0 w1 w2 w3 w4 w5 : Value, args = #[w0, w1, w2, w3, w4, w5] := by
    have hs : args.size = 6 := by simpa [Cond.value, given_1] using hcount
    obtain ⟨L⟩ := args
    match L, hs with
    | [w0, w1, w2, w3, w4, w5], _ => exact ⟨w0, w1, w2, w3, w4, w5, rfl⟩
  have hw := fun d (hd : d ∈ tables_1) => atoms_spec (ws := Jvm.Cond.code x code maxLocals ret :: tables_1) hat d (List.mem_cons_of_mem _ hd)
  have hfit : Fit s := fun {y c} hc i hi => by
    obtain ⟨ha, rfl⟩ := Array.getElem?_eq_some_iff.mp hc
    have q := List.all_eq_true.mp ((Array.all_eq_true_iff_forall_mem.mp hF) _ (Array.getElem_mem ha)) i (List.mem_range.mpr hi)
    simpa [Array.getElem?_eq_getElem hi] using q
  obtain ⟨ha0, hr⟩ := and_e hr
  obtain ⟨i0, ei0⟩ := is_v ha0
  obtain rfl : w0 = (.int i0) := Option.some.inj ei0
  obtain ⟨ha1, hr⟩ := and_e hr
  obtain ⟨i1, ei1⟩ := is_v ha1
  obtain rfl : w1 = (.int i1) := Option.some.inj ei1
  obtain ⟨ha2, hr⟩ := and_e hr
  obtain ⟨i2, ei2⟩ := is_v ha2
  obtain rfl : w2 = (.int i2) := Option.some.inj ei2
  obtain ⟨ha3, hr⟩ := and_e hr
  obtain ⟨i3, ei3⟩ := is_v ha3
  obtain rfl : w3 = (.int i3) := Option.some.inj ei3
  obtain ⟨ha4, hr⟩ := and_e hr
  obtain ⟨i4, ei4⟩ := is_v ha4
  obtain rfl : w4 = (.int i4) := Option.some.inj ei4
  have ha5 := hr
  obtain ⟨i5, ei5⟩ := is_v ha5
  obtain rfl : w5 = (.int i5) := Option.some.inj ei5
  obtain ⟨hsets, hown0⟩ := atoms_of _ (rest_1_c_eq ▸ (show rest_1_c.before _ s = true from hrest))
  obtain ⟨cz, ez⟩ := is_v (Cond.before_iff.mp (hsets _ (List.mem_of_getElem? (i := 1) rfl)))
  have SZ := Sta.start ez (Or.inl (hsets _ (List.mem_of_getElem? (i := 0) rfl)))
  have hcz : ¬ cz = 0 := gotF (Cond.eq_ints ez (Term.int_eval 0)) (not_v (Cond.before_iff.mp (hsets _ (List.mem_of_getElem? (i := 2) rfl))))
  have hCH : CHv s consts_1 s.vm s.heap := CHv.start (own_EW hw) (fun p hp => hcalls.1 p hp) (hsets _ (List.mem_of_getElem? (i := 2) rfl)) (hw _ (List.mem_of_getElem? (i := 8) rfl)) (hw _ (List.mem_of_getElem? (i := 7) rfl))
  obtain ⟨c0, hn⟩ := and_e hn
  obtain ⟨a_IDENTIFIER, e_IDENTIFIER⟩ := exa_v c0
  have S_IDENTIFIER := Sta.start e_IDENTIFIER (Or.inr ⟨(hw _ (List.mem_of_getElem? (i := 20) rfl)), (hw _ (List.mem_of_getElem? (i := 21) rfl))⟩)
  have E_IDENTIFIER := Exa.start e_IDENTIFIER c0
  obtain ⟨c1, hn⟩ := and_e hn
  obtain ⟨a_STRING, e_STRING⟩ := exa_v c1
  have S_STRING := Sta.start e_STRING (Or.inr ⟨(hw _ (List.mem_of_getElem? (i := 20) rfl)), (hw _ (List.mem_of_getElem? (i := 50) rfl))⟩)
  have E_STRING := Exa.start e_STRING c1
  obtain ⟨c2, hn⟩ := and_e hn
  have F_IDENTIFIER_ordinal := own_fld e_IDENTIFIER c2
  obtain ⟨c3, hn⟩ := and_e hn
  have F_STRING_ordinal := own_fld e_STRING c3
  obtain ⟨c4, hn⟩ := and_e hn
  obtain ⟨a_PUNCTUATOR, e_PUNCTUATOR⟩ := exa_v c4
  have S_PUNCTUATOR := Sta.start e_PUNCTUATOR (Or.inr ⟨(hw _ (List.mem_of_getElem? (i := 20) rfl)), (hw _ (List.mem_of_getElem? (i := 80) rfl))⟩)
  have E_PUNCTUATOR := Exa.start e_PUNCTUATOR c4
  obtain ⟨c5, hn⟩ := and_e hn
  have F_PUNCTUATOR_ordinal := own_fld e_PUNCTUATOR c5
  obtain ⟨c6, hn⟩ := and_e hn
  obtain ⟨a_NUMBER, e_NUMBER⟩ := exa_v c6
  have S_NUMBER := Sta.start e_NUMBER (Or.inr ⟨(hw _ (List.mem_of_getElem? (i := 20) rfl)), (hw _ (List.mem_of_getElem? (i := 104) rfl))⟩)
  have E_NUMBER := Exa.start e_NUMBER c6
  obtain ⟨c7, hn⟩ := and_e hn
  have F_NUMBER_ordinal := own_fld e_NUMBER c7
  obtain ⟨c8, hn⟩ := and_e hn
  obtain ⟨a_KEYWORD, e_KEYWORD⟩ := exa_v c8
  have S_KEYWORD := Sta.start e_KEYWORD (Or.inr ⟨(hw _ (List.mem_of_getElem? (i := 20) rfl)), (hw _ (List.mem_of_getElem? (i := 106) rfl))⟩)
  have E_KEYWORD := Exa.start e_KEYWORD c8
  obtain ⟨c9, hn⟩ := and_e hn
  obtain ⟨a_END, e_END⟩ := exa_v c9
  have S_END := Sta.start e_END (Or.inr ⟨(hw _ (List.mem_of_getElem? (i := 20) rfl)), (hw _ (List.mem_of_getElem? (i := 108) rfl))⟩)
  have E_END := Exa.start e_END c9
  obtain ⟨c10, hn⟩ := and_e hn
  have F_END_ordinal := own_fld e_END c10
  have c11 := hn
  have F_KEYWORD_ordinal := own_fld e_KEYWORD c11
  obtain ⟨n, o, h1, h2, h3, _, L, rfl, ⟨rfl, N⟩, hq⟩ := rm0 l s _ hw tables_1 s.heap s.heap.size (Nat.le_refl _) i0 i1 i2 i3 i4 i5 cz hcz SZ (Old.start s) a_IDENTIFIER a_STRING a_PUNCTUATOR a_NUMBER a_KEYWORD a_END S_IDENTIFIER E_IDENTIFIER S_STRING E_STRING F_IDENTIFIER_ordinal F_STRING_ordinal S_PUNCTUATOR E_PUNCTUATOR F_PUNCTUATOR_ordinal S_NUMBER E_NUMBER F_NUMBER_ordinal S_KEYWORD E_KEYWORD S_END E_END F_END_ordinal F_KEYWORD_ordinal p e ha hc hk s m _ below hf ((Spec.applies_iff_loose hf).mp happ).1 ⟨rfl, State.Warmed39.refl s, rfl, hCH⟩ trivial
  refine ⟨n, _, h1, h2, h3, hpost _ _ _ _ _ _ ⟨Cond.after_iff.mpr rfl, Cond.after_iff.mpr (eq_i res_at (Term.int_eval (1)) rfl), trivial⟩ ⟨hq.1, hq.2.1, hq.2.2.1, (hq.2.2.2.sift fun y hy => Or.inr (N y hy)).mono (by decide) (by decide)⟩⟩
theorem main_1_1 : Claimed_1_1 := comes_1 fun _ _ _ _ _ _ h hF => ⟨h.1, hF⟩
theorem main_1_2 : Claimed_1_2 := comes_1 fun _ _ _ _ _ _ h hF => ⟨h.2.1, hF⟩
end Jvm.Pilot.@@N@@
namespace Jvm.Pilot.@@N@@
open Jvm Jvm.ClassFile Sem Op Lib Jvm.Free Jvm.Stand Jvm.Pilot.@@N@@.Jvm.D
/-! MADE BY PROGRAM (witnessworld.py) out of the Statement's table words and the real class files: 23 classes; the members and pool entries that the words name. The judged class is class 1, her method 3. -/
namespace start1
open Jvm.ClassFile
def u (s : String) : CpInfo := .utf8 (stringToUtf16 s)
/-- a pool by its gaps: so many unusable entries, then the entry; so many at the end -/
def gap : Nat → List CpInfo → List CpInfo
  | 0, r => r
  | n + 1, r => .unusable :: gap n r
def poolList (es : List (Nat × CpInfo)) (last : Nat) : List CpInfo := es.foldr (fun e r => gap e.1 (e.2 :: r)) (gap last [])
def pool (es : List (Nat × CpInfo)) (last : Nat) : Array CpInfo := ⟨poolList es last⟩
def fileOf (pool : Array CpInfo) (this : Nat) (attrs : Array Attribute := #[]) (ms : Array MethodInfo := #[]) (fl : Nat := 33) (sup : Nat := 0) (ifs : Array Nat := #[]) (fds : Array FieldInfo := #[]) : ClassFile where
  minorVersion := 0
  majorVersion := 65
  constantPool := pool
  accessFlags := fl
  thisClass := this
  superClass := sup
  interfaces := ifs
  fields := fds
  methods := ms
  attributes := attrs
def plain (name : String) (sup : Option ClassId) : Class where
  name := name
  kind := .ordinary
  loader := none
  accessFlags := 33
  super := sup
  interfaces := #[]
  cf := none
  fields := #[]
  methods := #[]
  instanceTypes := #[]
  staticTypes := #[]
  resolved := #[]
  callSites := []
  init := .initialized
  statics := none
  mirror := none

def pool0 : Array CpInfo := pool [(5, u "<init>"), (0, u "()V"), (1, .class_ 10), (1, u "java/lang/Object")] 113

def k0c0 : Code := { maxStack := 0, maxLocals := 1, code := object_method_1_code, exceptionTable := #[], attributes := #[] }
def k0m0 : Method := { name := "<init>", desc := "()V", sig := { parameters := [], returnType := none }, accessFlags := 1, code := some k0c0 }
/-- java/lang/Object -/
def k0 : Class := { plain "java/lang/Object" none with
  accessFlags := 33
  interfaces := #[]
  cf := some (fileOf pool0 8 #[] #[{ accessFlags := 1, nameIndex := 5, descriptorIndex := 6, attributes := #[] }] 33 0 #[] #[])
  fields := #[]
  methods := #[k0m0]
  instanceTypes := #[]
  staticTypes := #[]
  resolved := Array.replicate 124 none
  statics := none }

def pool1 : Array CpInfo := pool [(2, .class_ 4), (1, u "java/lang/Object"), (0, u "<init>"), (0, u "()V"), (0, .fieldref 8 9), (0, .class_ 10), (0, .nameAndType 11 12), (0, u "com/example/warmfront/warmfront/js/Token$Kind"), (0, u "IDENTIFIER"), (0, u "Lcom/example/warmfront/warmfront/js/Token$Kind;"), (0, .fieldref 8 14), (0, .nameAndType 15 12), (0, u "KEYWORD"), (0, .fieldref 8 17), (0, .nameAndType 18 12), (0, u "NUMBER"), (0, .fieldref 8 20), (0, .nameAndType 21 12), (0, u "STRING"), (0, .fieldref 8 23), (0, .nameAndType 24 12), (0, u "PUNCTUATOR"), (0, .fieldref 8 26), (0, .nameAndType 27 12), (0, u "END"), (0, .string 29), (0, u ""), (0, .methodref 31 32), (0, .class_ 33), (0, .nameAndType 34 35), (0, u "java/lang/String"), (0, u "valueOf"), (0, u "(C)Ljava/lang/String;"), (0, .methodref 31 37), (0, .nameAndType 5 38), (0, u "([C)V"), (0, .integer 2147483647), (0, .methodref 41 42), (0, .class_ 43), (0, .nameAndType 44 45), (0, u "com/example/warmfront/warmfront/js/TokenIsPinLaw"), (0, u "mk"), (0, u "(ICC)Ljava/lang/String;"), (0, .class_ 47), (0, u "com/example/warmfront/warmfront/js/Token"), (0, .methodref 41 49), (0, .nameAndType 50 51), (0, u "kind"), (0, u "(I)Lcom/example/warmfront/warmfront/js/Token$Kind;"), (0, .methodref 46 53), (0, .nameAndType 5 54), (0, u "(Lcom/example/warmfront/warmfront/js/Token$Kind;Ljava/lang/String;DIIIIZ)V"), (0, .methodref 46 56), (0, .nameAndType 57 58), (0, u "is"), (0, u "(Lcom/example/warmfront/warmfront/js/Token$Kind;Ljava/lang/String;)Z"), (3, u "law"), (0, u "(IIIIII)Z")] 4

def k1m0 : Method := { name := "<init>", desc := "()V", sig := { parameters := [], returnType := none }, accessFlags := 2, code := none }
def k1c1 : Code := { maxStack := 2, maxLocals := 1, code := method_2_code, exceptionTable := #[], attributes := #[] }
def k1m1 : Method := { name := "kind", desc := "(I)Lcom/example/warmfront/warmfront/js/Token$Kind;", sig := { parameters := [.int], returnType := some (.object "com/example/warmfront/warmfront/js/Token$Kind") }, accessFlags := 10, code := some k1c1 }
def k1c2 : Code := { maxStack := 3, maxLocals := 4, code := method_3_code, exceptionTable := #[], attributes := #[] }
def k1m2 : Method := { name := "mk", desc := "(ICC)Ljava/lang/String;", sig := { parameters := [.int, .char, .char], returnType := some (.object "java/lang/String") }, accessFlags := 10, code := some k1c2 }
def k1c3 : Code := { maxStack := 11, maxLocals := 20, code := code, exceptionTable := #[], attributes := #[] }
def k1m3 : Method := { name := "law", desc := "(IIIIII)Z", sig := { parameters := [.int, .int, .int, .int, .int, .int], returnType := some .boolean }, accessFlags := 9, code := some k1c3 }
/-- com/example/warmfront/warmfront/js/TokenIsPinLaw -/
def k1 : Class := { plain "com/example/warmfront/warmfront/js/TokenIsPinLaw" (some 0) with
  accessFlags := 49
  interfaces := #[]
  cf := some (fileOf pool1 41 #[] #[{ accessFlags := 2, nameIndex := 5, descriptorIndex := 6, attributes := #[] }, { accessFlags := 10, nameIndex := 50, descriptorIndex := 51, attributes := #[] }, { accessFlags := 10, nameIndex := 44, descriptorIndex := 45, attributes := #[] }, { accessFlags := 9, nameIndex := 62, descriptorIndex := 63, attributes := #[] }] 49 2 #[] #[])
  fields := #[]
  methods := #[k1m0, k1m1, k1m2, k1m3]
  instanceTypes := #[]
  staticTypes := #[]
  resolved := Array.replicate 68 none
  statics := none }

def pool2 : Array CpInfo := pool [(1, .class_ 2), (0, u "java/io/Serializable"), (0, .class_ 4), (0, u "java/lang/Object")] 2

/-- java/io/Serializable -/
def k2 : Class := { plain "java/io/Serializable" (some 0) with
  accessFlags := 1537
  interfaces := #[]
  cf := some (fileOf pool2 1 #[] #[] 1537 3 #[] #[])
  fields := #[]
  methods := #[]
  instanceTypes := #[]
  staticTypes := #[]
  resolved := Array.replicate 7 none
  statics := none }

def pool3 : Array CpInfo := pool [(1, .class_ 2), (0, u "java/lang/Comparable"), (0, .class_ 4), (0, u "java/lang/Object")] 7

/-- java/lang/Comparable -/
def k3 : Class := { plain "java/lang/Comparable" (some 0) with
  accessFlags := 1537
  interfaces := #[]
  cf := some (fileOf pool3 1 #[] #[] 1537 3 #[] #[])
  fields := #[]
  methods := #[]
  instanceTypes := #[]
  staticTypes := #[]
  resolved := Array.replicate 12 none
  statics := none }

def pool4 : Array CpInfo := pool [(2, .class_ 4), (1, u "java/lang/CharSequence"), (42, .class_ 48), (0, u "java/lang/CharSequence$1CodePointIterator"), (10, .class_ 60), (0, u "java/lang/CharSequence$1CharIterator"), (5, .class_ 67), (0, u "java/lang/Object")] 63

/-- java/lang/CharSequence -/
def k4 : Class := { plain "java/lang/CharSequence" (some 0) with
  accessFlags := 1537
  interfaces := #[]
  cf := some (fileOf pool4 2 #[.nestMembers #[47, 59]] #[] 1537 66 #[] #[])
  fields := #[]
  methods := #[]
  instanceTypes := #[]
  staticTypes := #[]
  resolved := Array.replicate 131 none
  statics := none }

def pool5 : Array CpInfo := pool [(1, .class_ 2), (0, u "java/lang/constant/Constable"), (0, .class_ 4), (0, u "java/lang/Object")] 6

/-- java/lang/constant/Constable -/
def k5 : Class := { plain "java/lang/constant/Constable" (some 0) with
  accessFlags := 1537
  interfaces := #[]
  cf := some (fileOf pool5 1 #[] #[] 1537 3 #[] #[])
  fields := #[]
  methods := #[]
  instanceTypes := #[]
  staticTypes := #[]
  resolved := Array.replicate 11 none
  statics := none }

def pool6 : Array CpInfo := pool [(1, .class_ 2), (0, u "java/lang/constant/ConstantDesc"), (0, .class_ 4), (0, u "java/lang/Object")] 32

/-- java/lang/constant/ConstantDesc -/
def k6 : Class := { plain "java/lang/constant/ConstantDesc" (some 0) with
  accessFlags := 1537
  interfaces := #[]
  cf := some (fileOf pool6 1 #[] #[] 1537 3 #[] #[])
  fields := #[]
  methods := #[]
  instanceTypes := #[]
  staticTypes := #[]
  resolved := Array.replicate 37 none
  statics := none }

def pool7 : Array CpInfo := pool [(1, .methodref 2 3), (0, .class_ 4), (0, .nameAndType 5 6), (0, u "java/lang/Object"), (0, u "<init>"), (0, u "()V"), (2, .fieldref 10 11), (0, .class_ 12), (0, .nameAndType 13 14), (0, u "java/lang/String"), (0, u "value"), (0, u "[B"), (0, .fieldref 10 16), (0, .nameAndType 17 18), (0, u "coder"), (0, u "B"), (2, u "hash"), (0, u "I"), (2, u "hashIsZero"), (0, u "Z"), (0, .methodref 10 28), (0, .nameAndType 5 29), (0, u "([CIILjava/lang/Void;)V"), (8, .fieldref 10 39), (0, .nameAndType 40 26), (0, u "COMPACT_STRINGS"), (1, .class_ 44), (1, u "java/lang/StringUTF16"), (0, u "compress"), (1, .methodref 42 48), (0, .nameAndType 49 50), (0, u "coderFromArrayLen"), (0, u "([BI)B"), (2, u "toBytes"), (53, .class_ 109), (1, u "java/lang/StringLatin1"), (67, .methodref 42 178), (0, .nameAndType 45 179), (0, u "([CII)[B"), (29, .methodref 10 210), (0, .nameAndType 5 211), (0, u "([BB)V"), (157, u "(C)Z"), (171, .methodref 107 542), (0, .nameAndType 543 544), (0, u "equals"), (0, u "([B[B)Z"), (28, u "(Ljava/lang/Object;)Z"), (1, .class_ 576), (0, u "java/lang/CharSequence"), (22, u "CASE_INSENSITIVE_ORDER"), (0, u "Ljava/util/Comparator;"), (181, u "valueOf"), (0, u "(C)Ljava/lang/String;"), (226, u "([C)V"), (4, .methodref 107 1016), (0, .nameAndType 1017 369), (0, u "canEncode"), (0, .methodref 107 1019), (0, .nameAndType 53 1020), (0, u "(C)[B"), (80, u "serialPersistentFields"), (0, u "[Ljava/io/ObjectStreamField;"), (0, .class_ 1104), (0, u "java/lang/String$CaseInsensitiveComparator"), (1, .class_ 1107), (0, u "java/io/Serializable"), (0, .class_ 1109), (0, u "java/lang/Comparable"), (0, .class_ 1111), (0, u "java/lang/constant/Constable"), (0, .class_ 1113), (0, u "java/lang/constant/ConstantDesc"), (2, u "serialVersionUID"), (0, u "J"), (3, u "REPL"), (0, u "C"), (2, u "LATIN1"), (1, u "UTF16")] 323

def k7m0 : Method := { name := "<init>", desc := "()V", sig := { parameters := [], returnType := none }, accessFlags := 1, code := none }
def k7c1 : Code := { maxStack := 5, maxLocals := 2, code := jdk_42_method_3_code, exceptionTable := #[], attributes := #[] }
def k7m1 : Method := { name := "<init>", desc := "([C)V", sig := { parameters := [(.array .char)], returnType := none }, accessFlags := 1, code := some k7c1 }
def k7c2 : Code := { maxStack := 2, maxLocals := 3, code := jdk_42_method_66_code, exceptionTable := #[], attributes := #[] }
def k7m2 : Method := { name := "equals", desc := "(Ljava/lang/Object;)Z", sig := { parameters := [(.object "java/lang/Object")], returnType := some .boolean }, accessFlags := 1, code := some k7c2 }
def k7c3 : Code := { maxStack := 4, maxLocals := 1, code := jdk_42_method_139_code, exceptionTable := #[], attributes := #[] }
def k7m3 : Method := { name := "valueOf", desc := "(C)Ljava/lang/String;", sig := { parameters := [.char], returnType := some (.object "java/lang/String") }, accessFlags := 9, code := some k7c3 }
def k7c4 : Code := { maxStack := 4, maxLocals := 6, code := jdk_42_method_149_code, exceptionTable := #[], attributes := #[] }
def k7m4 : Method := { name := "<init>", desc := "([CIILjava/lang/Void;)V", sig := { parameters := [(.array .char), .int, .int, (.object "java/lang/Void")], returnType := none }, accessFlags := 2, code := some k7c4 }
def k7c5 : Code := { maxStack := 2, maxLocals := 3, code := jdk_42_method_151_code, exceptionTable := #[], attributes := #[] }
def k7m5 : Method := { name := "<init>", desc := "([BB)V", sig := { parameters := [(.array .byte), .byte], returnType := none }, accessFlags := 0, code := some k7c5 }
/-- java/lang/String -/
def k7 : Class := { plain "java/lang/String" (some 0) with
  accessFlags := 49
  interfaces := #[2, 3, 4, 5, 6]
  cf := some (fileOf pool7 10 #[.nestMembers #[1103]] #[{ accessFlags := 1, nameIndex := 5, descriptorIndex := 6, attributes := #[] }, { accessFlags := 1, nameIndex := 5, descriptorIndex := 1010, attributes := #[] }, { accessFlags := 1, nameIndex := 543, descriptorIndex := 573, attributes := #[] }, { accessFlags := 9, nameIndex := 782, descriptorIndex := 783, attributes := #[] }, { accessFlags := 2, nameIndex := 5, descriptorIndex := 29, attributes := #[] }, { accessFlags := 0, nameIndex := 5, descriptorIndex := 211, attributes := #[] }] 49 2 #[1106, 1108, 575, 1110, 1112] #[{ accessFlags := 18, nameIndex := 13, descriptorIndex := 14, attributes := #[] }, { accessFlags := 18, nameIndex := 17, descriptorIndex := 18, attributes := #[] }, { accessFlags := 2, nameIndex := 21, descriptorIndex := 22, attributes := #[] }, { accessFlags := 2, nameIndex := 25, descriptorIndex := 26, attributes := #[] }, { accessFlags := 26, nameIndex := 1116, descriptorIndex := 1117, attributes := #[] }, { accessFlags := 24, nameIndex := 40, descriptorIndex := 26, attributes := #[] }, { accessFlags := 26, nameIndex := 1101, descriptorIndex := 1102, attributes := #[] }, { accessFlags := 26, nameIndex := 1121, descriptorIndex := 1122, attributes := #[] }, { accessFlags := 25, nameIndex := 599, descriptorIndex := 600, attributes := #[] }, { accessFlags := 24, nameIndex := 1125, descriptorIndex := 18, attributes := #[] }, { accessFlags := 24, nameIndex := 1127, descriptorIndex := 18, attributes := #[] }])
  fields := #[{ name := "value", type := (.array .byte), accessFlags := 18, slot := 0, constantValue := 0 }, { name := "coder", type := .byte, accessFlags := 18, slot := 1, constantValue := 0 }, { name := "hash", type := .int, accessFlags := 2, slot := 2, constantValue := 0 }, { name := "hashIsZero", type := .boolean, accessFlags := 2, slot := 3, constantValue := 0 }, { name := "serialVersionUID", type := .long, accessFlags := 26, slot := 0, constantValue := 0 }, { name := "COMPACT_STRINGS", type := .boolean, accessFlags := 24, slot := 1, constantValue := 0 }, { name := "serialPersistentFields", type := (.array (.object "java/io/ObjectStreamField")), accessFlags := 26, slot := 2, constantValue := 0 }, { name := "REPL", type := .char, accessFlags := 26, slot := 3, constantValue := 0 }, { name := "CASE_INSENSITIVE_ORDER", type := (.object "java/util/Comparator"), accessFlags := 25, slot := 4, constantValue := 0 }, { name := "LATIN1", type := .byte, accessFlags := 24, slot := 5, constantValue := 0 }, { name := "UTF16", type := .byte, accessFlags := 24, slot := 6, constantValue := 0 }]
  methods := #[k7m0, k7m1, k7m2, k7m3, k7m4, k7m5]
  instanceTypes := #[(.array .byte), .byte, .int, .boolean]
  staticTypes := #[.long, .boolean, (.array (.object "java/io/ObjectStreamField")), .char, (.object "java/util/Comparator"), .byte, .byte]
  resolved := Array.replicate 1451 none
  statics := some 0 }

def pool8 : Array CpInfo := pool [(1, .methodref 2 3), (0, .class_ 4), (0, .nameAndType 5 6), (0, u "java/lang/Object"), (0, u "<init>"), (0, u "()V"), (0, .class_ 8), (0, u "java/lang/Record")] 13

def k8c0 : Code := { maxStack := 1, maxLocals := 1, code := jdk_30_method_1_code, exceptionTable := #[], attributes := #[] }
def k8m0 : Method := { name := "<init>", desc := "()V", sig := { parameters := [], returnType := none }, accessFlags := 4, code := some k8c0 }
/-- java/lang/Record -/
def k8 : Class := { plain "java/lang/Record" (some 0) with
  accessFlags := 1057
  interfaces := #[]
  cf := some (fileOf pool8 7 #[] #[{ accessFlags := 4, nameIndex := 5, descriptorIndex := 6, attributes := #[] }] 1057 2 #[] #[])
  fields := #[]
  methods := #[k8m0]
  instanceTypes := #[]
  staticTypes := #[]
  resolved := Array.replicate 22 none
  statics := none }

def pool9 : Array CpInfo := pool [(1, .methodref 2 3), (0, .class_ 4), (0, .nameAndType 5 6), (0, u "java/lang/Record"), (0, u "<init>"), (0, u "()V"), (0, .fieldref 8 9), (0, .class_ 10), (0, .nameAndType 11 12), (0, u "com/example/warmfront/warmfront/js/Token"), (0, u "kind"), (0, u "Lcom/example/warmfront/warmfront/js/Token$Kind;"), (0, .fieldref 8 14), (0, .nameAndType 15 16), (0, u "text"), (0, u "Ljava/lang/String;"), (0, .fieldref 8 18), (0, .nameAndType 19 20), (0, u "number"), (0, u "D"), (0, .fieldref 8 22), (0, .nameAndType 23 24), (0, u "start"), (0, u "I"), (0, .fieldref 8 26), (0, .nameAndType 27 24), (0, u "end"), (0, .fieldref 8 29), (0, .nameAndType 30 24), (0, u "line"), (0, .fieldref 8 32), (0, .nameAndType 33 24), (0, u "column"), (0, .fieldref 8 35), (0, .nameAndType 36 37), (0, u "newlineBefore"), (0, u "Z"), (0, .methodref 39 40), (0, .class_ 41), (0, .nameAndType 42 43), (0, u "java/lang/String"), (0, u "equals"), (0, u "(Ljava/lang/Object;)Z"), (1, .class_ 47), (1, u "com/example/warmfront/warmfront/js/Token$Kind"), (3, u "is"), (0, u "(Lcom/example/warmfront/warmfront/js/Token$Kind;Ljava/lang/String;)Z"), (26, u "(Lcom/example/warmfront/warmfront/js/Token$Kind;Ljava/lang/String;DIIIIZ)V")] 49

def k9c0 : Code := { maxStack := 3, maxLocals := 10, code := prog_33_method_1_code, exceptionTable := #[], attributes := #[] }
def k9m0 : Method := { name := "<init>", desc := "(Lcom/example/warmfront/warmfront/js/Token$Kind;Ljava/lang/String;DIIIIZ)V", sig := { parameters := [(.object "com/example/warmfront/warmfront/js/Token$Kind"), (.object "java/lang/String"), .double, .int, .int, .int, .int, .boolean], returnType := none }, accessFlags := 0, code := some k9c0 }
def k9c1 : Code := { maxStack := 2, maxLocals := 3, code := prog_33_method_2_code, exceptionTable := #[], attributes := #[] }
def k9m1 : Method := { name := "is", desc := "(Lcom/example/warmfront/warmfront/js/Token$Kind;Ljava/lang/String;)Z", sig := { parameters := [(.object "com/example/warmfront/warmfront/js/Token$Kind"), (.object "java/lang/String")], returnType := some .boolean }, accessFlags := 0, code := some k9c1 }
/-- com/example/warmfront/warmfront/js/Token -/
def k9 : Class := { plain "com/example/warmfront/warmfront/js/Token" (some 8) with
  accessFlags := 48
  interfaces := #[]
  cf := some (fileOf pool9 8 #[.nestMembers #[45]] #[{ accessFlags := 0, nameIndex := 5, descriptorIndex := 79, attributes := #[] }, { accessFlags := 0, nameIndex := 51, descriptorIndex := 52, attributes := #[] }] 48 2 #[] #[{ accessFlags := 18, nameIndex := 11, descriptorIndex := 12, attributes := #[] }, { accessFlags := 18, nameIndex := 15, descriptorIndex := 16, attributes := #[] }, { accessFlags := 18, nameIndex := 19, descriptorIndex := 20, attributes := #[] }, { accessFlags := 18, nameIndex := 23, descriptorIndex := 24, attributes := #[] }, { accessFlags := 18, nameIndex := 27, descriptorIndex := 24, attributes := #[] }, { accessFlags := 18, nameIndex := 30, descriptorIndex := 24, attributes := #[] }, { accessFlags := 18, nameIndex := 33, descriptorIndex := 24, attributes := #[] }, { accessFlags := 18, nameIndex := 36, descriptorIndex := 37, attributes := #[] }])
  fields := #[{ name := "kind", type := (.object "com/example/warmfront/warmfront/js/Token$Kind"), accessFlags := 18, slot := 0, constantValue := 0 }, { name := "text", type := (.object "java/lang/String"), accessFlags := 18, slot := 1, constantValue := 0 }, { name := "number", type := .double, accessFlags := 18, slot := 2, constantValue := 0 }, { name := "start", type := .int, accessFlags := 18, slot := 3, constantValue := 0 }, { name := "end", type := .int, accessFlags := 18, slot := 4, constantValue := 0 }, { name := "line", type := .int, accessFlags := 18, slot := 5, constantValue := 0 }, { name := "column", type := .int, accessFlags := 18, slot := 6, constantValue := 0 }, { name := "newlineBefore", type := .boolean, accessFlags := 18, slot := 7, constantValue := 0 }]
  methods := #[k9m0, k9m1]
  instanceTypes := #[(.object "com/example/warmfront/warmfront/js/Token$Kind"), (.object "java/lang/String"), .double, .int, .int, .int, .int, .boolean]
  staticTypes := #[]
  resolved := Array.replicate 129 none
  statics := none }

def pool10 : Array CpInfo := pool [(2, .class_ 4), (1, u "java/lang/Enum"), (0, u "name"), (0, u "Ljava/lang/String;"), (2, u "ordinal"), (0, u "I"), (1, .class_ 14), (1, u "java/lang/Object"), (4, u "hash"), (86, .class_ 108), (1, u "java/lang/Enum$EnumDesc"), (2, .class_ 112), (0, u "java/lang/constant/Constable"), (0, .class_ 114), (0, u "java/lang/Comparable"), (0, .class_ 116), (0, u "java/io/Serializable")] 87

/-- java/lang/Enum -/
def k10 : Class := { plain "java/lang/Enum" (some 0) with
  accessFlags := 1057
  interfaces := #[5, 3, 2]
  cf := some (fileOf pool10 2 #[.nestMembers #[106]] #[] 1057 12 #[111, 113, 115] #[{ accessFlags := 18, nameIndex := 5, descriptorIndex := 6, attributes := #[] }, { accessFlags := 18, nameIndex := 9, descriptorIndex := 10, attributes := #[] }, { accessFlags := 2, nameIndex := 19, descriptorIndex := 10, attributes := #[] }])
  fields := #[{ name := "name", type := (.object "java/lang/String"), accessFlags := 18, slot := 0, constantValue := 0 }, { name := "ordinal", type := .int, accessFlags := 18, slot := 1, constantValue := 0 }, { name := "hash", type := .int, accessFlags := 2, slot := 2, constantValue := 0 }]
  methods := #[]
  instanceTypes := #[(.object "java/lang/String"), .int, .int]
  staticTypes := #[]
  resolved := Array.replicate 204 none
  statics := none }

def pool11 : Array CpInfo := pool [(1, .class_ 2), (0, u "com/example/warmfront/warmfront/js/Token$Kind"), (2, u "IDENTIFIER"), (0, u "Lcom/example/warmfront/warmfront/js/Token$Kind;"), (2, u "KEYWORD"), (2, u "NUMBER"), (2, u "STRING"), (2, u "PUNCTUATOR"), (2, u "END"), (2, u "$VALUES"), (0, u "[Lcom/example/warmfront/warmfront/js/Token$Kind;"), (6, .class_ 34), (1, u "java/lang/Enum"), (29, .class_ 65), (0, u "com/example/warmfront/warmfront/js/Token")] 2

/-- com/example/warmfront/warmfront/js/Token$Kind -/
def k11 : Class := { plain "com/example/warmfront/warmfront/js/Token$Kind" (some 10) with
  accessFlags := 16432
  interfaces := #[]
  cf := some (fileOf pool11 1 #[.nestHost 64] #[] 16432 32 #[] #[{ accessFlags := 16409, nameIndex := 5, descriptorIndex := 6, attributes := #[] }, { accessFlags := 16409, nameIndex := 9, descriptorIndex := 6, attributes := #[] }, { accessFlags := 16409, nameIndex := 12, descriptorIndex := 6, attributes := #[] }, { accessFlags := 16409, nameIndex := 15, descriptorIndex := 6, attributes := #[] }, { accessFlags := 16409, nameIndex := 18, descriptorIndex := 6, attributes := #[] }, { accessFlags := 16409, nameIndex := 21, descriptorIndex := 6, attributes := #[] }, { accessFlags := 4122, nameIndex := 24, descriptorIndex := 25, attributes := #[] }])
  fields := #[{ name := "IDENTIFIER", type := (.object "com/example/warmfront/warmfront/js/Token$Kind"), accessFlags := 16409, slot := 0, constantValue := 0 }, { name := "KEYWORD", type := (.object "com/example/warmfront/warmfront/js/Token$Kind"), accessFlags := 16409, slot := 1, constantValue := 0 }, { name := "NUMBER", type := (.object "com/example/warmfront/warmfront/js/Token$Kind"), accessFlags := 16409, slot := 2, constantValue := 0 }, { name := "STRING", type := (.object "com/example/warmfront/warmfront/js/Token$Kind"), accessFlags := 16409, slot := 3, constantValue := 0 }, { name := "PUNCTUATOR", type := (.object "com/example/warmfront/warmfront/js/Token$Kind"), accessFlags := 16409, slot := 4, constantValue := 0 }, { name := "END", type := (.object "com/example/warmfront/warmfront/js/Token$Kind"), accessFlags := 16409, slot := 5, constantValue := 0 }, { name := "$VALUES", type := (.array (.object "com/example/warmfront/warmfront/js/Token$Kind")), accessFlags := 4122, slot := 6, constantValue := 0 }]
  methods := #[]
  instanceTypes := #[(.object "java/lang/String"), .int, .int]
  staticTypes := #[(.object "com/example/warmfront/warmfront/js/Token$Kind"), (.object "com/example/warmfront/warmfront/js/Token$Kind"), (.object "com/example/warmfront/warmfront/js/Token$Kind"), (.object "com/example/warmfront/warmfront/js/Token$Kind"), (.object "com/example/warmfront/warmfront/js/Token$Kind"), (.object "com/example/warmfront/warmfront/js/Token$Kind"), (.array (.object "com/example/warmfront/warmfront/js/Token$Kind"))]
  resolved := Array.replicate 68 none
  statics := some 1 }

def pool12 : Array CpInfo := pool [(6, .class_ 8), (1, u "java/lang/Object"), (0, u "<init>"), (0, u "()V"), (1, .class_ 14), (1, u "java/lang/StringUTF16"), (31, u "$assertionsDisabled"), (0, u "Z"), (13, u "HI_BYTE_SHIFT"), (0, u "I"), (2, u "LO_BYTE_SHIFT"), (49, .methodref 12 116), (0, .nameAndType 117 118), (0, u "compress"), (0, u "([CI[BII)I"), (3, u "([CII)[B"), (138, u "coderFromArrayLen"), (0, u "([BI)B"), (106, .class_ 371), (1, u "java/lang/StringUTF16$LinesSpliterator"), (58, u "MAX_LENGTH"), (196, .class_ 628), (0, u "java/lang/StringUTF16$CodePointsSpliterator"), (0, .class_ 630), (0, u "java/lang/StringUTF16$CharsSpliterator")] 4

def k12m0 : Method := { name := "<init>", desc := "()V", sig := { parameters := [], returnType := none }, accessFlags := 0, code := none }
def k12c1 : Code := { maxStack := 2, maxLocals := 2, code := jdk_52_method_15_code, exceptionTable := #[], attributes := #[] }
def k12m1 : Method := { name := "coderFromArrayLen", desc := "([BI)B", sig := { parameters := [(.array .byte), .int], returnType := some .byte }, accessFlags := 8, code := some k12c1 }
def k12c2 : Code := { maxStack := 5, maxLocals := 6, code := jdk_52_method_16_code, exceptionTable := #[], attributes := #[] }
def k12m2 : Method := { name := "compress", desc := "([CII)[B", sig := { parameters := [(.array .char), .int, .int], returnType := some (.array .byte) }, accessFlags := 9, code := some k12c2 }
def k12c3 : Code := { maxStack := 3, maxLocals := 7, code := jdk_52_method_21_code, exceptionTable := #[], attributes := #[] }
def k12m3 : Method := { name := "compress", desc := "([CI[BII)I", sig := { parameters := [(.array .char), .int, (.array .byte), .int, .int], returnType := some .int }, accessFlags := 9, code := some k12c3 }
/-- java/lang/StringUTF16 -/
def k12 : Class := { plain "java/lang/StringUTF16" (some 0) with
  accessFlags := 48
  interfaces := #[]
  cf := some (fileOf pool12 12 #[.nestMembers #[627, 629, 369]] #[{ accessFlags := 0, nameIndex := 9, descriptorIndex := 10, attributes := #[] }, { accessFlags := 8, nameIndex := 261, descriptorIndex := 262, attributes := #[] }, { accessFlags := 9, nameIndex := 117, descriptorIndex := 122, attributes := #[] }, { accessFlags := 9, nameIndex := 117, descriptorIndex := 118, attributes := #[] }] 48 6 #[] #[{ accessFlags := 26, nameIndex := 61, descriptorIndex := 62, attributes := #[] }, { accessFlags := 26, nameIndex := 65, descriptorIndex := 62, attributes := #[] }, { accessFlags := 24, nameIndex := 430, descriptorIndex := 62, attributes := #[] }, { accessFlags := 4120, nameIndex := 46, descriptorIndex := 47, attributes := #[] }])
  fields := #[{ name := "HI_BYTE_SHIFT", type := .int, accessFlags := 26, slot := 0, constantValue := 0 }, { name := "LO_BYTE_SHIFT", type := .int, accessFlags := 26, slot := 1, constantValue := 0 }, { name := "MAX_LENGTH", type := .int, accessFlags := 24, slot := 2, constantValue := 0 }, { name := "$assertionsDisabled", type := .boolean, accessFlags := 4120, slot := 3, constantValue := 0 }]
  methods := #[k12m0, k12m1, k12m2, k12m3]
  instanceTypes := #[]
  staticTypes := #[.int, .int, .int, .boolean]
  resolved := Array.replicate 635 none
  statics := none }

def pool13 : Array CpInfo := pool [(4, .class_ 6), (1, u "java/lang/Object"), (0, u "<init>"), (0, u "()V"), (5, .class_ 16), (1, u "java/lang/StringLatin1"), (73, u "canEncode"), (14, u "(C)Z"), (15, u "$assertionsDisabled"), (0, u "Z"), (98, .class_ 223), (1, u "java/lang/StringLatin1$LinesSpliterator"), (57, u "equals"), (0, u "([B[B)Z"), (97, u "toBytes"), (1, u "(C)[B"), (7, .class_ 391), (0, u "java/lang/StringLatin1$CharsSpliterator")] 3

def k13m0 : Method := { name := "<init>", desc := "()V", sig := { parameters := [], returnType := none }, accessFlags := 0, code := none }
def k13c1 : Code := { maxStack := 2, maxLocals := 1, code := jdk_43_method_3_code, exceptionTable := #[], attributes := #[] }
def k13m1 : Method := { name := "canEncode", desc := "(C)Z", sig := { parameters := [.char], returnType := some .boolean }, accessFlags := 9, code := some k13c1 }
def k13c2 : Code := { maxStack := 3, maxLocals := 3, code := jdk_43_method_13_code, exceptionTable := #[], attributes := #[] }
def k13m2 : Method := { name := "equals", desc := "([B[B)Z", sig := { parameters := [(.array .byte), (.array .byte)], returnType := some .boolean }, accessFlags := 9, code := some k13c2 }
def k13c3 : Code := { maxStack := 4, maxLocals := 1, code := jdk_43_method_46_code, exceptionTable := #[], attributes := #[] }
def k13m3 : Method := { name := "toBytes", desc := "(C)[B", sig := { parameters := [.char], returnType := some (.array .byte) }, accessFlags := 9, code := some k13c3 }
/-- java/lang/StringLatin1 -/
def k13 : Class := { plain "java/lang/StringLatin1" (some 0) with
  accessFlags := 48
  interfaces := #[]
  cf := some (fileOf pool13 14 #[.nestMembers #[390, 221]] #[{ accessFlags := 0, nameIndex := 7, descriptorIndex := 8, attributes := #[] }, { accessFlags := 9, nameIndex := 90, descriptorIndex := 105, attributes := #[] }, { accessFlags := 9, nameIndex := 281, descriptorIndex := 282, attributes := #[] }, { accessFlags := 9, nameIndex := 380, descriptorIndex := 382, attributes := #[] }] 48 4 #[] #[{ accessFlags := 4120, nameIndex := 121, descriptorIndex := 122, attributes := #[] }])
  fields := #[{ name := "$assertionsDisabled", type := .boolean, accessFlags := 4120, slot := 0, constantValue := 0 }]
  methods := #[k13m0, k13m1, k13m2, k13m3]
  instanceTypes := #[]
  staticTypes := #[.boolean]
  resolved := Array.replicate 395 none
  statics := none }

def pool14 : Array CpInfo := pool [(2, .class_ 4), (1, u "java/lang/Object"), (0, u "<init>"), (0, u "()V"), (17, .class_ 26), (1, u "jdk/internal/util/Preconditions"), (28, .class_ 56), (0, u "jdk/internal/util/Preconditions$4"), (57, .class_ 115), (0, u "jdk/internal/util/Preconditions$1"), (7, u "SIOOBE_FORMATTER"), (0, u "Ljava/util/function/BiFunction;"), (0, .class_ 126), (0, u "jdk/internal/util/Preconditions$2"), (3, u "AIOOBE_FORMATTER"), (0, .class_ 132), (0, u "jdk/internal/util/Preconditions$3"), (3, u "IOOBE_FORMATTER")] 57

def k14m0 : Method := { name := "<init>", desc := "()V", sig := { parameters := [], returnType := none }, accessFlags := 1, code := none }
/-- jdk/internal/util/Preconditions -/
def k14 : Class := { plain "jdk/internal/util/Preconditions" (some 0) with
  accessFlags := 33
  interfaces := #[]
  cf := some (fileOf pool14 24 #[.nestMembers #[55, 131, 125, 114]] #[{ accessFlags := 1, nameIndex := 5, descriptorIndex := 6, attributes := #[] }] 33 2 #[] #[{ accessFlags := 25, nameIndex := 123, descriptorIndex := 124, attributes := #[] }, { accessFlags := 25, nameIndex := 130, descriptorIndex := 124, attributes := #[] }, { accessFlags := 25, nameIndex := 136, descriptorIndex := 124, attributes := #[] }])
  fields := #[{ name := "SIOOBE_FORMATTER", type := (.object "java/util/function/BiFunction"), accessFlags := 25, slot := 0, constantValue := 0 }, { name := "AIOOBE_FORMATTER", type := (.object "java/util/function/BiFunction"), accessFlags := 25, slot := 1, constantValue := 0 }, { name := "IOOBE_FORMATTER", type := (.object "java/util/function/BiFunction"), accessFlags := 25, slot := 2, constantValue := 0 }]
  methods := #[k14m0]
  instanceTypes := #[]
  staticTypes := #[(.object "java/util/function/BiFunction"), (.object "java/util/function/BiFunction"), (.object "java/util/function/BiFunction")]
  resolved := Array.replicate 194 none
  statics := some 2 }

def pool15 : Array CpInfo := pool [(9, u "<init>"), (6, .class_ 18), (1, u "java/lang/Object"), (0, u "()V"), (1, .class_ 23), (1, u "jdk/internal/util/ArraysSupport"), (0, u "LOG2_ARRAY_LONG_INDEX_SCALE"), (0, u "I"), (2, u "U"), (0, u "Ljdk/internal/misc/Unsafe;"), (8, u "BIG_ENDIAN"), (0, u "Z"), (8, u "LOG2_BYTE_BIT_SIZE"), (4, u "LOG2_ARRAY_INT_INDEX_SCALE"), (54, u "JLA"), (0, u "Ljdk/internal/access/JavaLangAccess;"), (11, u "LOG2_ARRAY_BOOLEAN_INDEX_SCALE"), (9, u "LOG2_ARRAY_BYTE_INDEX_SCALE"), (5, u "LOG2_ARRAY_CHAR_INDEX_SCALE"), (5, u "LOG2_ARRAY_SHORT_INDEX_SCALE"), (18, u "LOG2_ARRAY_FLOAT_INDEX_SCALE"), (24, u "LOG2_ARRAY_DOUBLE_INDEX_SCALE"), (89, u "T_BOOLEAN"), (2, u "T_CHAR"), (1, u "T_FLOAT"), (1, u "T_DOUBLE"), (1, u "T_BYTE"), (1, u "T_SHORT"), (1, u "T_INT"), (1, u "T_LONG"), (1, u "SOFT_MAX_ARRAY_LENGTH")] 83

def k15m0 : Method := { name := "<init>", desc := "()V", sig := { parameters := [], returnType := none }, accessFlags := 2, code := none }
/-- jdk/internal/util/ArraysSupport -/
def k15 : Class := { plain "jdk/internal/util/ArraysSupport" (some 0) with
  accessFlags := 33
  interfaces := #[]
  cf := some (fileOf pool15 21 #[] #[{ accessFlags := 2, nameIndex := 9, descriptorIndex := 19, attributes := #[] }] 33 16 #[] #[{ accessFlags := 24, nameIndex := 28, descriptorIndex := 29, attributes := #[] }, { accessFlags := 26, nameIndex := 38, descriptorIndex := 39, attributes := #[] }, { accessFlags := 25, nameIndex := 121, descriptorIndex := 25, attributes := #[] }, { accessFlags := 25, nameIndex := 131, descriptorIndex := 25, attributes := #[] }, { accessFlags := 25, nameIndex := 137, descriptorIndex := 25, attributes := #[] }, { accessFlags := 25, nameIndex := 143, descriptorIndex := 25, attributes := #[] }, { accessFlags := 25, nameIndex := 53, descriptorIndex := 25, attributes := #[] }, { accessFlags := 25, nameIndex := 24, descriptorIndex := 25, attributes := #[] }, { accessFlags := 25, nameIndex := 162, descriptorIndex := 25, attributes := #[] }, { accessFlags := 25, nameIndex := 187, descriptorIndex := 25, attributes := #[] }, { accessFlags := 26, nameIndex := 48, descriptorIndex := 25, attributes := #[] }, { accessFlags := 25, nameIndex := 277, descriptorIndex := 25, attributes := #[] }, { accessFlags := 25, nameIndex := 280, descriptorIndex := 25, attributes := #[] }, { accessFlags := 25, nameIndex := 282, descriptorIndex := 25, attributes := #[] }, { accessFlags := 25, nameIndex := 284, descriptorIndex := 25, attributes := #[] }, { accessFlags := 25, nameIndex := 286, descriptorIndex := 25, attributes := #[] }, { accessFlags := 25, nameIndex := 288, descriptorIndex := 25, attributes := #[] }, { accessFlags := 25, nameIndex := 290, descriptorIndex := 25, attributes := #[] }, { accessFlags := 25, nameIndex := 292, descriptorIndex := 25, attributes := #[] }, { accessFlags := 26, nameIndex := 108, descriptorIndex := 109, attributes := #[] }, { accessFlags := 25, nameIndex := 294, descriptorIndex := 25, attributes := #[] }])
  fields := #[{ name := "U", type := (.object "jdk/internal/misc/Unsafe"), accessFlags := 24, slot := 0, constantValue := 0 }, { name := "BIG_ENDIAN", type := .boolean, accessFlags := 26, slot := 1, constantValue := 0 }, { name := "LOG2_ARRAY_BOOLEAN_INDEX_SCALE", type := .int, accessFlags := 25, slot := 2, constantValue := 0 }, { name := "LOG2_ARRAY_BYTE_INDEX_SCALE", type := .int, accessFlags := 25, slot := 3, constantValue := 0 }, { name := "LOG2_ARRAY_CHAR_INDEX_SCALE", type := .int, accessFlags := 25, slot := 4, constantValue := 0 }, { name := "LOG2_ARRAY_SHORT_INDEX_SCALE", type := .int, accessFlags := 25, slot := 5, constantValue := 0 }, { name := "LOG2_ARRAY_INT_INDEX_SCALE", type := .int, accessFlags := 25, slot := 6, constantValue := 0 }, { name := "LOG2_ARRAY_LONG_INDEX_SCALE", type := .int, accessFlags := 25, slot := 7, constantValue := 0 }, { name := "LOG2_ARRAY_FLOAT_INDEX_SCALE", type := .int, accessFlags := 25, slot := 8, constantValue := 0 }, { name := "LOG2_ARRAY_DOUBLE_INDEX_SCALE", type := .int, accessFlags := 25, slot := 9, constantValue := 0 }, { name := "LOG2_BYTE_BIT_SIZE", type := .int, accessFlags := 26, slot := 10, constantValue := 0 }, { name := "T_BOOLEAN", type := .int, accessFlags := 25, slot := 11, constantValue := 0 }, { name := "T_CHAR", type := .int, accessFlags := 25, slot := 12, constantValue := 0 }, { name := "T_FLOAT", type := .int, accessFlags := 25, slot := 13, constantValue := 0 }, { name := "T_DOUBLE", type := .int, accessFlags := 25, slot := 14, constantValue := 0 }, { name := "T_BYTE", type := .int, accessFlags := 25, slot := 15, constantValue := 0 }, { name := "T_SHORT", type := .int, accessFlags := 25, slot := 16, constantValue := 0 }, { name := "T_INT", type := .int, accessFlags := 25, slot := 17, constantValue := 0 }, { name := "T_LONG", type := .int, accessFlags := 25, slot := 18, constantValue := 0 }, { name := "JLA", type := (.object "jdk/internal/access/JavaLangAccess"), accessFlags := 26, slot := 19, constantValue := 0 }, { name := "SOFT_MAX_ARRAY_LENGTH", type := .int, accessFlags := 25, slot := 20, constantValue := 0 }]
  methods := #[k15m0]
  instanceTypes := #[]
  staticTypes := #[(.object "jdk/internal/misc/Unsafe"), .boolean, .int, .int, .int, .int, .int, .int, .int, .int, .int, .int, .int, .int, .int, .int, .int, .int, .int, (.object "jdk/internal/access/JavaLangAccess"), .int]
  resolved := Array.replicate 378 none
  statics := none }

def pool16 : Array CpInfo := pool [(1, u "java/lang/Cloneable"), (0, .class_ 1), (0, u "java/lang/Object"), (0, .class_ 3)] 3

/-- java/lang/Cloneable -/
def k16 : Class := { plain "java/lang/Cloneable" (some 0) with
  accessFlags := 1537
  interfaces := #[]
  cf := some (fileOf pool16 2 #[] #[] 1537 4 #[] #[])
  fields := #[]
  methods := #[]
  instanceTypes := #[]
  staticTypes := #[]
  resolved := Array.replicate 8 none
  statics := none }

/-- the primitive byte -/
def k17 : Class := { plain "byte" none with kind := .primitive 'B', accessFlags := 0x411 }
/-- [B -/
def k18 : Class := { plain "[B" (some 0) with kind := .array 17 .byte, interfaces := #[16, 2], accessFlags := 1041 }

/-- the primitive char -/
def k19 : Class := { plain "char" none with kind := .primitive 'C', accessFlags := 0x411 }
/-- [C -/
def k20 : Class := { plain "[C" (some 0) with kind := .array 19 .char, interfaces := #[16, 2], accessFlags := 1041 }

/-- the primitive int -/
def k21 : Class := { plain "int" none with kind := .primitive 'I', accessFlags := 0x411 }
/-- [I -/
def k22 : Class := { plain "[I" (some 0) with kind := .array 21 .int, interfaces := #[16, 2], accessFlags := 1041 }

def heap : Heap := #[{ cls := 7, slots := #[.long 0, .int 1, .null, .int 0, .null, .int 0, .int 0], vm := .statics 7 },
  { cls := 11, slots := #[.ref 3, .ref 4, .ref 5, .ref 6, .ref 7, .ref 8, .null], vm := .statics 11 },
  { cls := 14, slots := #[.null, .null, .null], vm := .statics 14 },
  { cls := 11, slots := #[.null, .int 0, .int 0], vm := .none },
  { cls := 11, slots := #[.null, .int 1, .int 0], vm := .none },
  { cls := 11, slots := #[.null, .int 2, .int 0], vm := .none },
  { cls := 11, slots := #[.null, .int 3, .int 0], vm := .none },
  { cls := 11, slots := #[.null, .int 4, .int 0], vm := .none },
  { cls := 11, slots := #[.null, .int 5, .int 0], vm := .none }]
def classes : Array Class := #[k0, k1, k2, k3, k4, k5, k6, k7, k8, k9, k10, k11, k12, k13, k14, k15, k16, k17, k18, k19, k20, k21, k22]
def interned : List (Array UInt16 × Addr) := []
def slotsUsed : Nat := 35
def theMethod : MethodId := ⟨1, 3⟩
def args0 : Array Value := #[.int 5, .int 300, .int 7, .int 9, .int 5, .int 2]
def aboutOver (below : List Frame) : State where
  vm := { classes := classes, interned := interned.toArray }
  heap := heap
  slotsUsed := slotsUsed
  threads := #[{ frames := .invoking theMethod args0 :: below }]
def below0 : List Frame := [.native { method := ⟨0, 0⟩, args := #[] }]
def about1 : State := aboutOver below0
def p0 : Program := .bare "" "" ""
def e0 : Env := launch0.env 0 0 0
theorem w_frames : about1.frames = Frame.invoking theMethod args0 :: below0 := rfl
set_option maxRecDepth 65536 in
theorem w_args : argsFit about1.vm theMethod args0 = true := by decide +kernel
set_option maxRecDepth 65536 in
theorem w_heap : heapFits about1 = true := by decide +kernel
set_option maxRecDepth 65536 in
theorem w_runnable : about1.curStatus? = some .runnable := by decide +kernel
set_option maxRecDepth 65536 in
theorem w_alone : about1.alone = true := by decide +kernel
set_option maxRecDepth 65536 in
theorem w_named : about1.methodNamed? x = some theMethod := by decide +kernel
set_option maxRecDepth 65536 in
theorem w_hears : about1.hears theMethod below0 = true := by decide +kernel
set_option maxRecDepth 65536 in
theorem w_ripe : about1.ripe theMethod args0 below0 = true := by decide +kernel
theorem w_running : about1.status = .running := rfl
set_option maxRecDepth 65536 in
theorem w_room : about1.hasRoom e0.platform room_1 = true :=
  launch0.hasRoom_least _ room_1 (by decide +kernel) (by decide +kernel) (by decide +kernel) (by decide +kernel) (by decide +kernel) (by decide +kernel)
theorem allAtoms_all (ts : List Jvm.Cond) (a : Array Jvm.Value) (st : Jvm.State) : (allAtoms ts).before a st = ts.all (fun c => c.before a st) := by
  induction ts with
  | nil => rfl
  | cons c t ih =>
    show (Jvm.Cond.and c (allAtoms t)).before a st = _
    rw [Jvm.Cond.before_and, ih, List.all_cons]
def words1 : List Jvm.Cond := Jvm.Cond.code x code maxLocals ret :: tables_1
/-- a 'code' word, met by the world's own term for the bytes: nothing is compared byte by byte -/
theorem code_word {y : MethodName} {bytes : ByteArray} {mx : Nat} {rt : Option FieldType} {a : Array Value} {s : State} {m : MethodId} {meth : Method} {c : Code} (h1 : s.methodNamed? y = some m) (h2 : s.vm.method? m = some meth) (h3 : meth.code = some c) (h4 : c.code = bytes)
    (h5 : (c.maxLocals == mx && c.exceptionTable.isEmpty && decide (c.maxStack ≤ mostOperands) && decide (meth.sig.returnType = rt) && !meth.locks && decide (parseMethodDescriptor y.desc = some meth.sig)) = true) : (Jvm.Cond.code y bytes mx rt).before a s = true := by
  simp only [Bool.and_eq_true, beq_iff_eq, Bool.not_eq_true', decide_eq_true_eq] at h5
  obtain ⟨⟨⟨⟨⟨g1, g2⟩, g3⟩, g4⟩, g5⟩, g6⟩ := h5
  simp [Cond.before, Cond.holds, Cond.value, h1, h2, h3, h4, g1, g2, g3, g4, g5, g6]
def isCode : Jvm.Cond → Bool
  | .code _ _ _ _ => true
  | _ => false
theorem all_split {L : List Jvm.Cond} {P : Jvm.Cond → Bool} (h1 : L.all (fun c => isCode c || P c) = true) (h2 : ∀ c ∈ L.filter isCode, P c = true) : L.all P = true := by
  refine List.all_eq_true.mpr fun c hc => ?_
  have h := List.all_eq_true.mp h1 c hc
  rcases Bool.eq_false_or_eq_true (isCode c) with hi | hi
  · exact h2 c (List.mem_filter.mpr ⟨hc, hi⟩)
  · simpa [hi] using h
set_option maxRecDepth 65536 in
theorem w_c0 : (Jvm.Cond.code x code maxLocals ret).before args0 about1 = true := code_word (m := ⟨1, 3⟩) (meth := k1m3) (c := k1c3) (by decide +kernel) rfl rfl rfl (by decide +kernel)
set_option maxRecDepth 65536 in
theorem w_c1 : (Jvm.Cond.code ({ cls := "com/example/warmfront/warmfront/js/TokenIsPinLaw", name := "mk", desc := "(ICC)Ljava/lang/String;" } : Jvm.MethodName) method_3_code (4 : Nat) (Option.some (Jvm.ClassFile.FieldType.object "java/lang/String"))).before args0 about1 = true := code_word (m := ⟨1, 2⟩) (meth := k1m2) (c := k1c2) (by decide +kernel) rfl rfl rfl (by decide +kernel)
set_option maxRecDepth 65536 in
theorem w_c2 : (Jvm.Cond.code ({ cls := "com/example/warmfront/warmfront/js/TokenIsPinLaw", name := "kind", desc := "(I)Lcom/example/warmfront/warmfront/js/Token$Kind;" } : Jvm.MethodName) method_2_code (1 : Nat) (Option.some (Jvm.ClassFile.FieldType.object "com/example/warmfront/warmfront/js/Token$Kind"))).before args0 about1 = true := code_word (m := ⟨1, 1⟩) (meth := k1m1) (c := k1c1) (by decide +kernel) rfl rfl rfl (by decide +kernel)
set_option maxRecDepth 65536 in
theorem w_c3 : (Jvm.Cond.code ({ cls := "com/example/warmfront/warmfront/js/Token", name := "<init>", desc := "(Lcom/example/warmfront/warmfront/js/Token$Kind;Ljava/lang/String;DIIIIZ)V" } : Jvm.MethodName) prog_33_method_1_code (10 : Nat) (Option.none : Option Jvm.ClassFile.FieldType)).before args0 about1 = true := code_word (m := ⟨9, 0⟩) (meth := k9m0) (c := k9c0) (by decide +kernel) rfl rfl rfl (by decide +kernel)
set_option maxRecDepth 65536 in
theorem w_c4 : (Jvm.Cond.code ({ cls := "java/lang/Record", name := "<init>", desc := "()V" } : Jvm.MethodName) jdk_30_method_1_code (1 : Nat) (Option.none : Option Jvm.ClassFile.FieldType)).before args0 about1 = true := code_word (m := ⟨8, 0⟩) (meth := k8m0) (c := k8c0) (by decide +kernel) rfl rfl rfl (by decide +kernel)
set_option maxRecDepth 65536 in
theorem w_c5 : (Jvm.Cond.code ({ cls := "java/lang/Object", name := "<init>", desc := "()V" } : Jvm.MethodName) object_method_1_code (1 : Nat) (Option.none : Option Jvm.ClassFile.FieldType)).before args0 about1 = true := code_word (m := ⟨0, 0⟩) (meth := k0m0) (c := k0c0) (by decide +kernel) rfl rfl rfl (by decide +kernel)
set_option maxRecDepth 65536 in
theorem w_c6 : (Jvm.Cond.code ({ cls := "com/example/warmfront/warmfront/js/Token", name := "is", desc := "(Lcom/example/warmfront/warmfront/js/Token$Kind;Ljava/lang/String;)Z" } : Jvm.MethodName) prog_33_method_2_code (3 : Nat) (Option.some Jvm.ClassFile.FieldType.boolean)).before args0 about1 = true := code_word (m := ⟨9, 1⟩) (meth := k9m1) (c := k9c1) (by decide +kernel) rfl rfl rfl (by decide +kernel)
set_option maxRecDepth 65536 in
theorem w_c7 : (Jvm.Cond.code ({ cls := "java/lang/String", name := "<init>", desc := "([C)V" } : Jvm.MethodName) jdk_42_method_3_code (2 : Nat) (Option.none : Option Jvm.ClassFile.FieldType)).before args0 about1 = true := code_word (m := ⟨7, 1⟩) (meth := k7m1) (c := k7c1) (by decide +kernel) rfl rfl rfl (by decide +kernel)
set_option maxRecDepth 65536 in
theorem w_c8 : (Jvm.Cond.code ({ cls := "java/lang/String", name := "<init>", desc := "([CIILjava/lang/Void;)V" } : Jvm.MethodName) jdk_42_method_149_code (6 : Nat) (Option.none : Option Jvm.ClassFile.FieldType)).before args0 about1 = true := code_word (m := ⟨7, 4⟩) (meth := k7m4) (c := k7c4) (by decide +kernel) rfl rfl rfl (by decide +kernel)
set_option maxRecDepth 65536 in
theorem w_c9 : (Jvm.Cond.code ({ cls := "java/lang/StringUTF16", name := "compress", desc := "([CII)[B" } : Jvm.MethodName) jdk_52_method_16_code (6 : Nat) (Option.some (Jvm.ClassFile.FieldType.array Jvm.ClassFile.FieldType.byte))).before args0 about1 = true := code_word (m := ⟨12, 2⟩) (meth := k12m2) (c := k12c2) (by decide +kernel) rfl rfl rfl (by decide +kernel)
set_option maxRecDepth 65536 in
theorem w_c10 : (Jvm.Cond.code ({ cls := "java/lang/StringUTF16", name := "compress", desc := "([CI[BII)I" } : Jvm.MethodName) jdk_52_method_21_code (7 : Nat) (Option.some Jvm.ClassFile.FieldType.int)).before args0 about1 = true := code_word (m := ⟨12, 3⟩) (meth := k12m3) (c := k12c3) (by decide +kernel) rfl rfl rfl (by decide +kernel)
set_option maxRecDepth 65536 in
theorem w_c11 : (Jvm.Cond.code ({ cls := "java/lang/StringUTF16", name := "coderFromArrayLen", desc := "([BI)B" } : Jvm.MethodName) jdk_52_method_15_code (2 : Nat) (Option.some Jvm.ClassFile.FieldType.byte)).before args0 about1 = true := code_word (m := ⟨12, 1⟩) (meth := k12m1) (c := k12c1) (by decide +kernel) rfl rfl rfl (by decide +kernel)
set_option maxRecDepth 65536 in
theorem w_c12 : (Jvm.Cond.code ({ cls := "java/lang/String", name := "valueOf", desc := "(C)Ljava/lang/String;" } : Jvm.MethodName) jdk_42_method_139_code (1 : Nat) (Option.some (Jvm.ClassFile.FieldType.object "java/lang/String"))).before args0 about1 = true := code_word (m := ⟨7, 3⟩) (meth := k7m3) (c := k7c3) (by decide +kernel) rfl rfl rfl (by decide +kernel)
set_option maxRecDepth 65536 in
theorem w_c13 : (Jvm.Cond.code ({ cls := "java/lang/StringLatin1", name := "canEncode", desc := "(C)Z" } : Jvm.MethodName) jdk_43_method_3_code (1 : Nat) (Option.some Jvm.ClassFile.FieldType.boolean)).before args0 about1 = true := code_word (m := ⟨13, 1⟩) (meth := k13m1) (c := k13c1) (by decide +kernel) rfl rfl rfl (by decide +kernel)
set_option maxRecDepth 65536 in
theorem w_c14 : (Jvm.Cond.code ({ cls := "java/lang/StringLatin1", name := "toBytes", desc := "(C)[B" } : Jvm.MethodName) jdk_43_method_46_code (1 : Nat) (Option.some (Jvm.ClassFile.FieldType.array Jvm.ClassFile.FieldType.byte))).before args0 about1 = true := code_word (m := ⟨13, 3⟩) (meth := k13m3) (c := k13c3) (by decide +kernel) rfl rfl rfl (by decide +kernel)
set_option maxRecDepth 65536 in
theorem w_c15 : (Jvm.Cond.code ({ cls := "java/lang/String", name := "<init>", desc := "([BB)V" } : Jvm.MethodName) jdk_42_method_151_code (3 : Nat) (Option.none : Option Jvm.ClassFile.FieldType)).before args0 about1 = true := code_word (m := ⟨7, 5⟩) (meth := k7m5) (c := k7c5) (by decide +kernel) rfl rfl rfl (by decide +kernel)
set_option maxRecDepth 65536 in
theorem w_c16 : (Jvm.Cond.code ({ cls := "java/lang/String", name := "equals", desc := "(Ljava/lang/Object;)Z" } : Jvm.MethodName) jdk_42_method_66_code (3 : Nat) (Option.some Jvm.ClassFile.FieldType.boolean)).before args0 about1 = true := code_word (m := ⟨7, 2⟩) (meth := k7m2) (c := k7c2) (by decide +kernel) rfl rfl rfl (by decide +kernel)
set_option maxRecDepth 65536 in
theorem w_c17 : (Jvm.Cond.code ({ cls := "java/lang/StringLatin1", name := "equals", desc := "([B[B)Z" } : Jvm.MethodName) jdk_43_method_13_code (3 : Nat) (Option.some Jvm.ClassFile.FieldType.boolean)).before args0 about1 = true := code_word (m := ⟨13, 2⟩) (meth := k13m2) (c := k13c2) (by decide +kernel) rfl rfl rfl (by decide +kernel)
def codes1 : List Jvm.Cond := [Jvm.Cond.code x code maxLocals ret, Jvm.Cond.code ({ cls := "com/example/warmfront/warmfront/js/TokenIsPinLaw", name := "mk", desc := "(ICC)Ljava/lang/String;" } : Jvm.MethodName) method_3_code (4 : Nat) (Option.some (Jvm.ClassFile.FieldType.object "java/lang/String")), Jvm.Cond.code ({ cls := "com/example/warmfront/warmfront/js/TokenIsPinLaw", name := "kind", desc := "(I)Lcom/example/warmfront/warmfront/js/Token$Kind;" } : Jvm.MethodName) method_2_code (1 : Nat) (Option.some (Jvm.ClassFile.FieldType.object "com/example/warmfront/warmfront/js/Token$Kind")), Jvm.Cond.code ({ cls := "com/example/warmfront/warmfront/js/Token", name := "<init>", desc := "(Lcom/example/warmfront/warmfront/js/Token$Kind;Ljava/lang/String;DIIIIZ)V" } : Jvm.MethodName) prog_33_method_1_code (10 : Nat) (Option.none : Option Jvm.ClassFile.FieldType), Jvm.Cond.code ({ cls := "java/lang/Record", name := "<init>", desc := "()V" } : Jvm.MethodName) jdk_30_method_1_code (1 : Nat) (Option.none : Option Jvm.ClassFile.FieldType), Jvm.Cond.code ({ cls := "java/lang/Object", name := "<init>", desc := "()V" } : Jvm.MethodName) object_method_1_code (1 : Nat) (Option.none : Option Jvm.ClassFile.FieldType), Jvm.Cond.code ({ cls := "com/example/warmfront/warmfront/js/Token", name := "is", desc := "(Lcom/example/warmfront/warmfront/js/Token$Kind;Ljava/lang/String;)Z" } : Jvm.MethodName) prog_33_method_2_code (3 : Nat) (Option.some Jvm.ClassFile.FieldType.boolean), Jvm.Cond.code ({ cls := "java/lang/String", name := "<init>", desc := "([C)V" } : Jvm.MethodName) jdk_42_method_3_code (2 : Nat) (Option.none : Option Jvm.ClassFile.FieldType), Jvm.Cond.code ({ cls := "java/lang/String", name := "<init>", desc := "([CIILjava/lang/Void;)V" } : Jvm.MethodName) jdk_42_method_149_code (6 : Nat) (Option.none : Option Jvm.ClassFile.FieldType), Jvm.Cond.code ({ cls := "java/lang/StringUTF16", name := "compress", desc := "([CII)[B" } : Jvm.MethodName) jdk_52_method_16_code (6 : Nat) (Option.some (Jvm.ClassFile.FieldType.array Jvm.ClassFile.FieldType.byte)), Jvm.Cond.code ({ cls := "java/lang/StringUTF16", name := "compress", desc := "([CI[BII)I" } : Jvm.MethodName) jdk_52_method_21_code (7 : Nat) (Option.some Jvm.ClassFile.FieldType.int), Jvm.Cond.code ({ cls := "java/lang/StringUTF16", name := "coderFromArrayLen", desc := "([BI)B" } : Jvm.MethodName) jdk_52_method_15_code (2 : Nat) (Option.some Jvm.ClassFile.FieldType.byte), Jvm.Cond.code ({ cls := "java/lang/String", name := "valueOf", desc := "(C)Ljava/lang/String;" } : Jvm.MethodName) jdk_42_method_139_code (1 : Nat) (Option.some (Jvm.ClassFile.FieldType.object "java/lang/String")), Jvm.Cond.code ({ cls := "java/lang/StringLatin1", name := "canEncode", desc := "(C)Z" } : Jvm.MethodName) jdk_43_method_3_code (1 : Nat) (Option.some Jvm.ClassFile.FieldType.boolean), Jvm.Cond.code ({ cls := "java/lang/StringLatin1", name := "toBytes", desc := "(C)[B" } : Jvm.MethodName) jdk_43_method_46_code (1 : Nat) (Option.some (Jvm.ClassFile.FieldType.array Jvm.ClassFile.FieldType.byte)), Jvm.Cond.code ({ cls := "java/lang/String", name := "<init>", desc := "([BB)V" } : Jvm.MethodName) jdk_42_method_151_code (3 : Nat) (Option.none : Option Jvm.ClassFile.FieldType), Jvm.Cond.code ({ cls := "java/lang/String", name := "equals", desc := "(Ljava/lang/Object;)Z" } : Jvm.MethodName) jdk_42_method_66_code (3 : Nat) (Option.some Jvm.ClassFile.FieldType.boolean), Jvm.Cond.code ({ cls := "java/lang/StringLatin1", name := "equals", desc := "([B[B)Z" } : Jvm.MethodName) jdk_43_method_13_code (3 : Nat) (Option.some Jvm.ClassFile.FieldType.boolean)]
set_option maxRecDepth 65536 in
theorem codes_eq : words1.filter isCode = codes1 := rfl
theorem w_codes : ∀ c ∈ words1.filter isCode, c.before args0 about1 = true := by
  rw [codes_eq]
  intro c hc
  simp only [codes1, List.mem_cons, List.not_mem_nil, or_false] at hc
  rcases hc with rfl | rfl | rfl | rfl | rfl | rfl | rfl | rfl | rfl | rfl | rfl | rfl | rfl | rfl | rfl | rfl | rfl | rfl
  · exact w_c0
  · exact w_c1
  · exact w_c2
  · exact w_c3
  · exact w_c4
  · exact w_c5
  · exact w_c6
  · exact w_c7
  · exact w_c8
  · exact w_c9
  · exact w_c10
  · exact w_c11
  · exact w_c12
  · exact w_c13
  · exact w_c14
  · exact w_c15
  · exact w_c16
  · exact w_c17
set_option maxRecDepth 65536 in
theorem w_t1 : (words1.take 24).all (fun c => isCode c || c.before args0 about1) = true := by decide +kernel
set_option maxRecDepth 65536 in
theorem w_t2 : ((words1.drop 24).take 24).all (fun c => isCode c || c.before args0 about1) = true := by decide +kernel
set_option maxRecDepth 65536 in
theorem w_t3 : (((words1.drop 24).drop 24).take 24).all (fun c => isCode c || c.before args0 about1) = true := by decide +kernel
set_option maxRecDepth 65536 in
theorem w_t4 : ((((words1.drop 24).drop 24).drop 24).take 24).all (fun c => isCode c || c.before args0 about1) = true := by decide +kernel
set_option maxRecDepth 65536 in
theorem w_t5 : ((((words1.drop 24).drop 24).drop 24).drop 24).all (fun c => isCode c || c.before args0 about1) = true := by decide +kernel
theorem w_tables : (allAtoms (Jvm.Cond.code x code maxLocals ret :: tables_1)).before args0 about1 = true := by
  rw [allAtoms_all]
  show words1.all (fun c => c.before args0 about1) = true
  refine all_split ?_ w_codes
  rw [← List.take_append_drop 24 words1, List.all_append, w_t1, ← List.take_append_drop 24 (words1.drop 24), List.all_append, w_t2, ← List.take_append_drop 24 ((words1.drop 24).drop 24), List.all_append, w_t3, ← List.take_append_drop 24 (((words1.drop 24).drop 24).drop 24), List.all_append, w_t4, w_t5]
  rfl
set_option maxRecDepth 65536 in
theorem w_rest : rest_1_c.before args0 about1 = true := by decide +kernel
set_option maxRecDepth 65536 in
theorem w_case : (Jvm.Cond.and given_1 narrow_1).before args0 about1 = true := by decide +kernel
set_option maxRecDepth 65536 in
theorem w_consts : constsHeld consts_1 about1 := Jvm.Lit.constsHeldB_iff.mp (by decide +kernel)
theorem w_applies : (headSpec (Jvm.Cond.code x code maxLocals ret :: tables_1) room_1).applies x e0.platform about1 = true :=
  (Spec.applies_iff w_frames).mpr ⟨w_running, w_runnable, w_alone, w_named, w_hears, w_ripe, w_room, w_tables⟩
theorem atStart : AtStart classFile x code maxLocals ret World_1 tables_1 room_1 Calls_1 rest_1 Pre_1 launch0 p0 e0 about1 theMethod args0 below0 :=
  ⟨lists_1, trivial, launch0.admits_env _ _ _, launch0.least_env, fairChoices_fair.cas, fairChoices_fair.clock, w_frames, w_args, w_heap, w_applies, ⟨w_consts, trivial⟩, w_rest, w_case⟩
end start1
theorem witness_1 : WitnessClaimed_1 := ⟨start1.p0, start1.e0, start1.about1, start1.theMethod, start1.args0, start1.below0, start1.atStart⟩
end Jvm.Pilot.@@N@@
