import JvmDerived
import JvmDerived.Pilot.@@N@@Statement
import JvmDerived.Pilot.@@N@@Code
set_option linter.unusedVariables false
set_option linter.unusedSimpArgs false
namespace Jvm.RoadKit
open Sem ClassFile Op Lib Jvm.Stand Jvm.Free Jvm.LawKit
section Own
variable {p : Program} {l : Launch} {e : Env} {R : Room} {s : State} {m : MethodId} {args : Array Value} {below : List Frame} {meth : Method} {c : Code} {T : State} {locs : List Loc} {cells slots : Nat}
/-- from the state S the run comes to the end of this invocation, and Q says what it returned and left -/
def Dn (p : Program) (e : Env) (below : List Frame) (s : State) (Q : Option Value → Heap → List Loc → Prop) (k n : Nat) (S : State) : Prop :=
  ∃ U o, Steps p.tables e below S U ∧ U.status = .running ∧ Ended U below o ∧ ∃ v L, o = .returned v ∧ Q v U.heap L ∧ FrameEnd s o U L k n
variable {Q Q' : Option Value → Heap → List Loc → Prop} {k n : Nat} {S S' : State} {Z : State} {a0 : Array Value} {h : Heap}
theorem Dn.of (w : ∀ t, Steps p.tables e below S' t → Steps p.tables e below S t) (d : Dn p e below s Q k n S') : Dn p e below s Q k n S := by
  obtain ⟨U, o, st, r⟩ := d
  exact ⟨U, o, w U st, r⟩
theorem Dn.cast {g g' : JFrame} (q : g = g') (d : Dn p e below s Q k n (T.setTop g')) : Dn p e below s Q k n (T.setTop g) := q ▸ d
theorem Dn.ret (X : Stand p l e R s m args below meth c T locs cells slots) (hx : p.tables.exec = Jvm.exec) (hlk : meth.locks = false) {pc : Nat} {Ls : Array Slot} {w : Value} {t : FieldType} {i : Instr} {rest : List Value} (hret : meth.sig.returnType = some t) (hn : narrow t w = w)
    (hi : (i = .ireturn ∧ (t = .int ∨ t = .boolean ∨ t = .byte ∨ t = .char ∨ t = .short) ∧ ∃ z, w = .int z) ∨ (i = .lreturn ∧ t = .long ∧ ∃ z, w = .long z) ∨ (i = .dreturn ∧ t = .double ∧ ∃ z, w = .double z) ∨ (i = .freturn ∧ t = .float ∧ ∃ z, w = .float z) ∨ (i = .areturn ∧ t.isReference = true ∧ w.isRef = true))
    (hd : decode c.code pc = .ok (i, 1)) (hk : cells ≤ k) (hs : slots ≤ n) (hQ : Q (some w) T.heap locs) : Dn p e below s Q k n (T.setTop (mkF m pc Ls (w :: rest))) := by
  obtain ⟨fs, hr, hrun, hended, hW, hsame⟩ := X.leave (v := some w) (fun q => by rw [hret] at q; cases q) hlk
  exact ⟨_, _, retOut X hx hret hn hi hd hr, hrun, hended, _, _, rfl, hQ, ⟨_, rfl⟩, hW, hsame.mono hk hs⟩
theorem Dn.retI (X : Stand p l e R s m args below meth c T locs cells slots) (hx : p.tables.exec = Jvm.exec) (hlk : meth.locks = false) {pc : Nat} {Ls : Array Slot} {z : Int32} {rest : List Value} (hret : meth.sig.returnType = some .int)
    (hd : decode c.code pc = .ok (.ireturn, 1)) (hk : cells ≤ k) (hs : slots ≤ n) (hQ : Q (some (.int z)) T.heap locs) : Dn p e below s Q k n (T.setTop (mkF m pc Ls (.int z :: rest))) :=
  Dn.ret X hx hlk hret rfl (Or.inl ⟨rfl, Or.inl rfl, z, rfl⟩) hd hk hs hQ
theorem Dn.retA (X : Stand p l e R s m args below meth c T locs cells slots) (hx : p.tables.exec = Jvm.exec) (hlk : meth.locks = false) {pc : Nat} {Ls : Array Slot} {w : Value} {t : FieldType} {rest : List Value} (hret : meth.sig.returnType = some t) (ht : t.isReference = true) (hw : w.isRef = true)
    (hd : decode c.code pc = .ok (.areturn, 1)) (hk : cells ≤ k) (hs : slots ≤ n) (hQ : Q (some w) T.heap locs) : Dn p e below s Q k n (T.setTop (mkF m pc Ls (w :: rest))) :=
  Dn.ret X hx hlk hret (by cases t <;> simp [FieldType.isReference] at ht <;> rcases ref_cases hw with rfl | ⟨a, rfl⟩ <;> rfl) (Or.inr (Or.inr (Or.inr (Or.inr ⟨rfl, ht, hw⟩)))) hd hk hs hQ
theorem Dn.retN (X : Stand p l e R s m args below meth c T locs cells slots) (hx : p.tables.exec = Jvm.exec) (hlk : meth.locks = false) {pc : Nat} {Ls : Array Slot} {z : Int32} {t : FieldType} {rest : List Value} (hret : meth.sig.returnType = some t) (ht : t = .boolean ∨ t = .byte ∨ t = .char ∨ t = .short)
    (hd : decode c.code pc = .ok (.ireturn, 1)) (hk : cells ≤ k) (hs : slots ≤ n) (hQ : Q (some (.int (nar t z))) T.heap locs) : Dn p e below s Q k n (T.setTop (mkF m pc Ls (.int z :: rest))) := by
  obtain ⟨fs, hr, hrun, hended, hW, hsame⟩ := X.leave (v := some (.int (nar t z))) (fun q => by rw [hret] at q; cases q) hlk
  exact ⟨_, _, Jvm.RoadKit.retN X hx hret ht hd hr, hrun, hended, _, _, rfl, hQ, ⟨_, rfl⟩, hW, hsame.mono hk hs⟩
theorem Dn.retV (X : Stand p l e R s m args below meth c T locs cells slots) (hx : p.tables.exec = Jvm.exec) (hlk : meth.locks = false) {pc : Nat} {Ls : Array Slot} (hret : meth.sig.returnType = none)
    (hd : decode c.code pc = .ok (.return_, 1)) (hk : cells ≤ k) (hs : slots ≤ n) (hQ : Q none T.heap locs) : Dn p e below s Q k n (T.setTop (mkF m pc Ls [])) := by
  obtain ⟨fs, hr, hrun, hended, hW, hsame⟩ := X.leave (v := none) (fun _ => rfl) hlk
  exact ⟨_, _, X.returnOut hx hret hd hr, hrun, hended, _, _, rfl, hQ, ⟨_, rfl⟩, hW, hsame.mono hk hs⟩
/-- a body's contract: entered with the arguments as' at the heap h, it returns, and Q says what and what it left -/
abbrev ctr (l : Launch) (Z : State) (y : MethodName) (bytes : ByteArray) (maxL : Nat) (ret : Option FieldType) (ws : List Jvm.Cond) (rm : Room) (k n : Nat) (as' : Array Value) (h : Heap) (Q : Option Value → Heap → List Loc → Prop) : Prop :=
  MetFree l y (head1 (Jvm.Cond.code y bytes maxL ret :: ws) rm) (fun a U => a = as' ∧ Z.Warmed39 U.vm ∧ U.heap = h) (fun _ _ _ _ _ => True) (fun _ U o U' => ∃ v L, o = .returned v ∧ Q v U'.heap L ∧ FrameEnd U o U' L k n)
theorem ctr_of {y : MethodName} {bytes : ByteArray} {maxL : Nat} {ret : Option FieldType} {ws : List Jvm.Cond} {rm : Room} {as' : Array Value} (pn : plainFor y = true)
    (body : ∀ (p : Program) (e : Env) (s : State) (m : MethodId) (below : List Frame) (meth : Method) (c : Code) (s₁ : State), p.tables.exec = Jvm.exec → c.code = bytes → c.maxLocals = maxL → meth.sig.returnType = ret → meth.locks = false → meth.name = y.name → s.vm.findClass y.cls = some m.cls →
      Z.Warmed39 s.vm → s₁.heap = h → Stand p l e rm s m as' below meth c s₁ [] 0 0 → Dn p e below s Q k n (s₁.setTop (entryFrame m as' maxL))) : ctr l Z y bytes maxL ret ws rm k n as' h Q := by
  refine MetFree.of_bodySF pn hisR ?_
  intro p e s m args below meth c s₁ Bd hml0 hP hK
  obtain ⟨rfl, hZ, hh⟩ := hP
  exact body p e s m below meth c s₁ Bd.exec Bd.bytes hml0 Bd.returns Bd.notSynchronized (name_of_methodNamed Bd.named Bd.method).1 (findClass_of_methodNamed Bd.named) hZ (by rw [← hh, Bd.state]; rfl) (Stand.of_body Bd)
theorem cSt (X : Stand p l e R s m args below meth c T locs cells slots) (hx : p.tables.exec = Jvm.exec) (hZ : Z.Warmed39 s.vm) {own : String} {index : Nat} {y : MethodName} {bytes : ByteArray} {maxL : Nat} {ret : Option FieldType} (hown : s.vm.findClass own = some m.cls)
    (w1 : (Jvm.Cond.methodLink own index y).before a0 Z = true) (w2 : (Jvm.Cond.static y).before a0 Z = true) (w3 : (Jvm.Cond.initialized y.cls).before a0 Z = true) (w4 : (Jvm.Cond.code y bytes maxL ret).before a0 Z = true) (hy : y.cls ≠ "java/lang/invoke/MethodHandle" ∧ y.cls ≠ "java/lang/invoke/VarHandle")
    {rm : Room} {argsL rest : List Value} (hM : ctr l Z y bytes maxL ret [] rm rm.cells rm.slots argsL.toArray h Q) (eT : T.heap = h) (W : Nat) (hf : rm.frames + 1 ≤ R.frames) (hl : W + (maxL + 11) + rm.locals ≤ R.locals) (hc : cells + rm.cells ≤ R.cells) (hs : slots + rm.slots ≤ R.slots)
    {g : JFrame} (hg : g.method = m) (hsize : g.locals.size = c.maxLocals) (hlen : ∀ sig, parseMethodDescriptor y.desc = some sig → argsL.length = sig.parameters.length) (hstack : g.stack = argsL.reverse ++ rest) (hW : 2 * g.monitorRoom + (rest.map fun v => v.category).sum ≤ W) (hdg : decode c.code g.pc = .ok (.invokestatic index, 3)) :
    ∃ (v : Option Value) (T' : State) (L : List Loc), Q v T'.heap L ∧ Stand p l e R s m args below meth c T' (locs ++ L) (cells + rm.cells) (slots + rm.slots) ∧ ∀ target, Steps p.tables e below (T'.setTop { g with pc := g.pc + 3, stack := v.toList ++ rest }) target → Steps p.tables e below (T.setTop g) target := by
  obtain ⟨v, _, ⟨T', L', k', n'⟩, -, X', ⟨L, hQ, e1, e2, e3⟩, st⟩ := Jvm.LawKit.callS X hx (y := y) hown (mvT hZ w1) (mvT hZ w2) (mvT hZ w3) (mvT hZ w4) hy (backOf (W := W) hM hZ w4 w3 hf hl) hg hsize hlen hstack hW hdg (fun _ _ => ⟨rfl, eT, hc, hs⟩)
  dsimp only [Pt.U, Pt.locs, Pt.cells, Pt.slots] at X' e1 e2 e3 st hQ
  subst e1 e2 e3
  exact ⟨v, T', L, hQ, X', st⟩
theorem cIn (X : Stand p l e R s m args below meth c T locs cells slots) (hx : p.tables.exec = Jvm.exec) (hZ : Z.Warmed39 s.vm) {own : String} {index : Nat} {y : MethodName} {bytes : ByteArray} {maxL : Nat} (hy1 : y.name = "<init>") (hown : s.vm.findClass own = some m.cls)
    (w1 : (Jvm.Cond.methodLink own index y).before a0 Z = true) (w2 : (Jvm.Cond.instanceMethod y).before a0 Z = true) (w3 : (Jvm.Cond.initialized y.cls).before a0 Z = true) (w4 : (Jvm.Cond.code y bytes maxL none).before a0 Z = true) (hy : y.cls ≠ "java/lang/invoke/MethodHandle" ∧ y.cls ≠ "java/lang/invoke/VarHandle")
    {rm : Room} {a : Addr} {argsL rest : List Value} (hM : ctr l Z y bytes maxL none [] rm rm.cells rm.slots (.ref a :: argsL).toArray h Q) (eT : T.heap = h) (W : Nat) (hf : rm.frames + 1 ≤ R.frames) (hl : W + (maxL + 11) + rm.locals ≤ R.locals) (hc : cells + rm.cells ≤ R.cells) (hs : slots + rm.slots ≤ R.slots)
    {g : JFrame} (hg : g.method = m) (hsize : g.locals.size = c.maxLocals) (hlen : ∀ sig, parseMethodDescriptor y.desc = some sig → argsL.length = sig.parameters.length) (hstack : g.stack = argsL.reverse ++ .ref a :: rest) (hW : 2 * g.monitorRoom + (rest.map fun v => v.category).sum ≤ W) (hdg : decode c.code g.pc = .ok (.invokespecial index, 3)) :
    ∃ (v : Option Value) (T' : State) (L : List Loc), Q v T'.heap L ∧ Stand p l e R s m args below meth c T' (locs ++ L) (cells + rm.cells) (slots + rm.slots) ∧ ∀ target, Steps p.tables e below (T'.setTop { g with pc := g.pc + 3, stack := v.toList ++ rest }) target → Steps p.tables e below (T.setTop g) target := by
  obtain ⟨v, _, ⟨T', L', k', n'⟩, -, X', ⟨L, hQ, e1, e2, e3⟩, st⟩ := X.specialBack hx (y := y) hy1 hown (mvT hZ w1) (mvT hZ w2) (mvT hZ w4) hy (backOf (W := W) hM hZ w4 w3 hf hl) hg hsize (Steps.refl _) hlen hstack hW hdg (fun _ _ => ⟨rfl, eT, hc, hs⟩)
  dsimp only [Pt.U, Pt.locs, Pt.cells, Pt.slots] at X' e1 e2 e3 st hQ
  subst e1 e2 e3
  exact ⟨v, T', L, hQ, X', fun _ z => st.trans z⟩
theorem cVi (X : Stand p l e R s m args below meth c T locs cells slots) (hx : p.tables.exec = Jvm.exec) (hZ : Z.Warmed39 s.vm) {own C : String} {index : Nat} {y z : MethodName} {bytes : ByteArray} {maxL : Nat} {ret : Option FieldType} (hown : s.vm.findClass own = some m.cls)
    (w1 : (Jvm.Cond.methodLink own index y).before a0 Z = true) (w2 : (Jvm.Cond.declares y).before a0 Z = true) (nf : NotFace s y) (ws : (Jvm.Cond.selects C y z).before a0 Z = true) (wi : (Jvm.Cond.instanceMethod z).before a0 Z = true) (w3 : (Jvm.Cond.initialized z.cls).before a0 Z = true) (w4 : (Jvm.Cond.code z bytes maxL ret).before a0 Z = true)
    (hy : y.cls ≠ "java/lang/invoke/MethodHandle" ∧ y.cls ≠ "java/lang/invoke/VarHandle")
    {rm : Room} {a : Addr} {argsL rest : List Value} (hM : ctr l Z z bytes maxL ret [] rm rm.cells rm.slots (.ref a :: argsL).toArray h Q) (eT : T.heap = h) (E : Exa Z h a C) (W : Nat) (hf : rm.frames + 1 ≤ R.frames) (hl : W + (maxL + 11) + rm.locals ≤ R.locals) (hc : cells + rm.cells ≤ R.cells) (hs : slots + rm.slots ≤ R.slots)
    {g : JFrame} (hg : g.method = m) (hsize : g.locals.size = c.maxLocals) (hlen : ∀ sig, parseMethodDescriptor y.desc = some sig → argsL.length = sig.parameters.length) (hstack : g.stack = argsL.reverse ++ .ref a :: rest) (hW : 2 * g.monitorRoom + (rest.map fun v => v.category).sum ≤ W) (hdg : decode c.code g.pc = .ok (.invokevirtual index, 3)) :
    ∃ (v : Option Value) (T' : State) (L : List Loc), Q v T'.heap L ∧ Stand p l e R s m args below meth c T' (locs ++ L) (cells + rm.cells) (slots + rm.slots) ∧ ∀ target, Steps p.tables e below (T'.setTop { g with pc := g.pc + 3, stack := v.toList ++ rest }) target → Steps p.tables e below (T.setTop g) target := by
  obtain ⟨cq, kq, qa, qb, qc⟩ := isOf hZ eT E
  obtain ⟨v, _, ⟨T', L', k', n'⟩, -, X', ⟨L, hQ, e1, e2, e3⟩, st⟩ := X.virtualBack hx (y := y) (z := z) hown (mvT hZ w1) (mvT hZ w2) nf (mvT hZ ws) (mvT hZ wi) hy (backOf (W := W) hM hZ w4 w3 hf hl) qa qc hg hsize (Steps.refl _) hlen hstack hW hdg (fun _ _ => ⟨rfl, eT, hc, hs⟩)
  dsimp only [Pt.U, Pt.locs, Pt.cells, Pt.slots] at X' e1 e2 e3 st hQ
  subst e1 e2 e3
  exact ⟨v, T', L, hQ, X', fun _ z => st.trans z⟩
theorem cUp (X : Stand p l e R s m args below meth c T locs cells slots) (hx : p.tables.exec = Jvm.exec) (hZ : Z.Warmed39 s.vm) {own C owner : String} {index : Nat} {y z : MethodName} {bytes : ByteArray} {maxL : Nat} {ret : Option FieldType} (hown : s.vm.findClass own = some m.cls)
    (w1 : (Jvm.Cond.methodLink own index y).before a0 Z = true) (wm : (Jvm.Cond.sameMethod y.cls owner y.name y.desc).before a0 Z = true) (w2 : (Jvm.Cond.declares ⟨owner, y.name, y.desc⟩).before a0 Z = true) (ws : (Jvm.Cond.selects C y z).before a0 Z = true) (wi : (Jvm.Cond.instanceMethod z).before a0 Z = true) (w3 : (Jvm.Cond.initialized z.cls).before a0 Z = true) (w4 : (Jvm.Cond.code z bytes maxL ret).before a0 Z = true)
    (hy : owner ≠ "java/lang/invoke/MethodHandle" ∧ owner ≠ "java/lang/invoke/VarHandle")
    {rm : Room} {a : Addr} {argsL rest : List Value} (hM : ctr l Z z bytes maxL ret [] rm rm.cells rm.slots (.ref a :: argsL).toArray h Q) (eT : T.heap = h) (E : Exa Z h a C) (W : Nat) (hf : rm.frames + 1 ≤ R.frames) (hl : W + (maxL + 11) + rm.locals ≤ R.locals) (hc : cells + rm.cells ≤ R.cells) (hs : slots + rm.slots ≤ R.slots)
    {g : JFrame} (hg : g.method = m) (hsize : g.locals.size = c.maxLocals) (hlen : ∀ sig, parseMethodDescriptor y.desc = some sig → argsL.length = sig.parameters.length) (hstack : g.stack = argsL.reverse ++ .ref a :: rest) (hW : 2 * g.monitorRoom + (rest.map fun v => v.category).sum ≤ W) (hdg : decode c.code g.pc = .ok (.invokevirtual index, 3)) :
    ∃ (v : Option Value) (T' : State) (L : List Loc), Q v T'.heap L ∧ Stand p l e R s m args below meth c T' (locs ++ L) (cells + rm.cells) (slots + rm.slots) ∧ ∀ target, Steps p.tables e below (T'.setTop { g with pc := g.pc + 3, stack := v.toList ++ rest }) target → Steps p.tables e below (T.setTop g) target := by
  obtain ⟨cq, kq, qa, qb, qc⟩ := isOf hZ eT E
  obtain ⟨v, _, ⟨T', L', k', n'⟩, -, X', ⟨L, hQ, e1, e2, e3⟩, st⟩ := X.virtualBackUp hx (x := y) (y := z) (owner := owner) hown (mvT hZ w1) (mvT hZ wm) (mvT hZ w2) hy (mvT hZ ws) (mvT hZ wi) (backOf (W := W) hM hZ w4 w3 hf hl) qa qc hg hsize (Steps.refl _) hlen hstack hW hdg (fun _ _ => ⟨rfl, eT, hc, hs⟩)
  dsimp only [Pt.U, Pt.locs, Pt.cells, Pt.slots] at X' e1 e2 e3 st hQ
  subst e1 e2 e3
  exact ⟨v, T', L, hQ, X', fun _ z => st.trans z⟩
theorem cFa (X : Stand p l e R s m args below meth c T locs cells slots) (hx : p.tables.exec = Jvm.exec) (hZ : Z.Warmed39 s.vm) {own C : String} {index count : Nat} {y z : MethodName} {bytes : ByteArray} {maxL : Nat} {ret : Option FieldType} (hown : s.vm.findClass own = some m.cls)
    (w1 : (Jvm.Cond.methodLink own index y).before a0 Z = true) (w2 : (Jvm.Cond.declares y).before a0 Z = true) (wf : (Jvm.Cond.interfaceMethod y.cls y.cls y.name y.desc).before args s = true) (ws : (Jvm.Cond.selects C y z).before a0 Z = true) (wi : (Jvm.Cond.instanceMethod z).before a0 Z = true) (wp : (Jvm.Cond.publicMethod z).before a0 Z = true) (wu : (Jvm.Cond.unhidden C y.name y.desc).before a0 Z = true) (wk : (Jvm.Cond.castable C y.cls).before a0 Z = true) (w3 : (Jvm.Cond.initialized z.cls).before a0 Z = true) (w4 : (Jvm.Cond.code z bytes maxL ret).before a0 Z = true)
    (hy : y.cls ≠ "java/lang/invoke/MethodHandle" ∧ y.cls ≠ "java/lang/invoke/VarHandle")
    {rm : Room} {a : Addr} {argsL rest : List Value} (hM : ctr l Z z bytes maxL ret [] rm rm.cells rm.slots (.ref a :: argsL).toArray h Q) (eT : T.heap = h) (E : Exa Z h a C) (W : Nat) (hf : rm.frames + 1 ≤ R.frames) (hl : W + (maxL + 11) + rm.locals ≤ R.locals) (hc : cells + rm.cells ≤ R.cells) (hs : slots + rm.slots ≤ R.slots)
    {g : JFrame} (hg : g.method = m) (hsize : g.locals.size = c.maxLocals) (hlen : ∀ sig, parseMethodDescriptor y.desc = some sig → argsL.length = sig.parameters.length) (hstack : g.stack = argsL.reverse ++ .ref a :: rest) (hW : 2 * g.monitorRoom + (rest.map fun v => v.category).sum ≤ W) (hdg : decode c.code g.pc = .ok (.invokeinterface index count, 5)) :
    ∃ (v : Option Value) (T' : State) (L : List Loc), Q v T'.heap L ∧ Stand p l e R s m args below meth c T' (locs ++ L) (cells + rm.cells) (slots + rm.slots) ∧ ∀ target, Steps p.tables e below (T'.setTop { g with pc := g.pc + 5, stack := v.toList ++ rest }) target → Steps p.tables e below (T.setTop g) target := by
  obtain ⟨cq, kq, qa, qb, qc⟩ := isOf hZ eT E
  obtain ⟨v, _, ⟨T', L', k', n'⟩, -, X', ⟨L, hQ, e1, e2, e3⟩, st⟩ := X.interfaceBack hx (xi := y) (y := z) hown (mvT hZ w1) (mvT hZ w2) wf (mvT hZ ws) (mvT hZ wi) (mvT hZ wp) (mvT hZ wu) (mvT hZ wk) hy (backOf (W := W) hM hZ w4 w3 hf hl) qa qb qc hg hsize (Steps.refl _) hlen hstack hW hdg (fun _ _ => ⟨rfl, eT, hc, hs⟩)
  dsimp only [Pt.U, Pt.locs, Pt.cells, Pt.slots] at X' e1 e2 e3 st hQ
  subst e1 e2 e3
  exact ⟨v, T', L, hQ, X', fun _ z => st.trans z⟩
theorem cPr (X : Stand p l e R s m args below meth c T locs cells slots) (hx : p.tables.exec = Jvm.exec) (hZ : Z.Warmed39 s.vm) {own C : String} {index : Nat} {y : MethodName} {bytes : ByteArray} {maxL : Nat} {ret : Option FieldType} (hown : s.vm.findClass own = some m.cls)
    (w1 : (Jvm.Cond.methodLink own index y).before a0 Z = true) (wi : (Jvm.Cond.instanceMethod y).before a0 Z = true) (ws : (Jvm.Cond.selects y.cls y y).before a0 Z = true) (wp : (Jvm.Cond.privateMethod y).before a0 Z = true) (w3 : (Jvm.Cond.initialized y.cls).before a0 Z = true) (w4 : (Jvm.Cond.code y bytes maxL ret).before a0 Z = true)
    (hy : y.cls ≠ "java/lang/invoke/MethodHandle" ∧ y.cls ≠ "java/lang/invoke/VarHandle")
    {rm : Room} {a : Addr} {argsL rest : List Value} (hM : ctr l Z y bytes maxL ret [] rm rm.cells rm.slots (.ref a :: argsL).toArray h Q) (eT : T.heap = h) (E : Exa Z h a C) (W : Nat) (hf : rm.frames + 1 ≤ R.frames) (hl : W + (maxL + 11) + rm.locals ≤ R.locals) (hc : cells + rm.cells ≤ R.cells) (hs : slots + rm.slots ≤ R.slots)
    {g : JFrame} (hg : g.method = m) (hsize : g.locals.size = c.maxLocals) (hlen : ∀ sig, parseMethodDescriptor y.desc = some sig → argsL.length = sig.parameters.length) (hstack : g.stack = argsL.reverse ++ .ref a :: rest) (hW : 2 * g.monitorRoom + (rest.map fun v => v.category).sum ≤ W) (hdg : decode c.code g.pc = .ok (.invokevirtual index, 3)) :
    ∃ (v : Option Value) (T' : State) (L : List Loc), Q v T'.heap L ∧ Stand p l e R s m args below meth c T' (locs ++ L) (cells + rm.cells) (slots + rm.slots) ∧ ∀ target, Steps p.tables e below (T'.setTop { g with pc := g.pc + 3, stack := v.toList ++ rest }) target → Steps p.tables e below (T.setTop g) target := by
  obtain ⟨cl, qa, qb⟩ := E.cell
  obtain ⟨v, _, ⟨T', L', k', n'⟩, -, X', ⟨L, hQ, e1, e2, e3⟩, st⟩ := X.privateBack hx (y := y) hown (mvT hZ w1) (mvT hZ wi) (mvT hZ ws) (Cond.privateMethod_at (args := #[]) (mvP hZ wp)) (mvT hZ w4) hy (backOf (W := W) hM hZ w4 w3 hf hl) hg hsize (Steps.refl _) (cell := cl) (by rw [eT]; exact qa) qb hlen hstack hW hdg (fun _ _ => ⟨rfl, eT, hc, hs⟩)
  dsimp only [Pt.U, Pt.locs, Pt.cells, Pt.slots] at X' e1 e2 e3 st hQ
  subst e1 e2 e3
  exact ⟨v, T', L, hQ, X', fun _ z => st.trans z⟩
/-- a static's fact over a Keep: its holder's cell is none of the written -/
theorem Sta.keep {h' : Heap} {C n d : String} {v : Value} {ws : List Addr} (F : Sta Z h C n d v) (K : Keep h h' ws) (q : ∀ (x : Addr) (c : Cell), x ∈ ws → h[x]? = some c → c.vm.isStatics = false) : Sta Z h' C n d v := by
  obtain ⟨cf, i, k, f, st, cell, h1, h2, h3, h4, h5, h6, h7⟩ := F
  refine ⟨cf, i, k, f, st, cell, h1, h2, h3, h4, K.2.1 _ _ h5 (fun y => ?_), h6, h7⟩
  rw [q st cell y h5] at h6; cases h6
theorem own_ns {a : Addr} {C : String} (E : Exa Z h a C) : ∀ (x : Addr) (c : Cell), x ∈ [a] → h[x]? = some c → c.vm.isStatics = false := by
  intro x c hx hc
  cases List.mem_singleton.mp hx
  obtain ⟨cell, k, h1, -, -, h4, -⟩ := E
  rw [h1] at hc; cases hc; exact h4
/-- an int field of what a term names, out of an 'eq' of the case -/
theorem own_fld {args : Array Value} {a : Addr} {C n d : String} {t : Term} {x : Int32} (ev : t.eval args Z none [] Z = some (.ref a)) (hq : (Jvm.Cond.eq (.field t C n d) (.int x)).value args Z none Z [] = some true) : Fld Z Z.heap a C n d (.int x) := by
  obtain ⟨u, w, h1, h2, k1, k2⟩ := cmp_v (Or.inl hq)
  have h2' : w = .int x := by rw [Term.int_eval] at h2; exact (Option.some.inj h2).symm
  subst h2'
  obtain ⟨z, rfl⟩ : ∃ z, u = .int z := k2
  have : z = x := gotT (Cond.eq_ints h1 (Term.int_eval x)) hq
  subst this
  exact Fld.start (by rw [← fld_at ev]; exact h1)
theorem own_cat {v : Value} (r : v.isRef = true) : v.category = 1 := by rcases ref_cases r with rfl | ⟨a, rfl⟩ <;> rfl
theorem own_narO {C : String} {v : Value} (r : v.isRef = true) : narrow (.object C) v = v := by rcases ref_cases r with rfl | ⟨a, rfl⟩ <;> rfl
theorem own_fitO {C : String} {v : Value} (r : v.isRef = true) : fits (.object C) v = true := by rcases ref_cases r with rfl | ⟨a, rfl⟩ <;> rfl
theorem own_len {args : Array Value} {a : Addr} {cl : Cell} {ty : FieldType} {t : Term} {x : Int32} (ev : t.eval args Z none [] Z = some (.ref a)) (A : Arr Z Z.heap a cl ty) (hq : (Jvm.Cond.eq (.length t) (.int x)).value args Z none Z [] = some true) : cl.slots.size = x.toNatClampNeg ∧ cl.slots.size < 2 ^ 31 := by
  have ha : Z.arrayAt? a = some cl := IntBox.arrayAt_of A.1 A.2.1 A.2.2
  by_cases p : cl.slots.size < 2 ^ 31
  · have q := gotT (Cond.eq_ints (len_f ev ha p) (Term.int_eval x)) hq
    refine ⟨?_, p⟩
    rw [← q, Int32.toNatClampNeg, len_toInt p]; rfl
  · obtain ⟨u, w, h1, h2, -, -⟩ := cmp_v (Or.inl hq)
    exact absurd h1 (by simp [Term.eval, ev, ha, p])
theorem own_elem {args : Array Value} {a b : Addr} {cl : Cell} {ty : FieldType} {t u : Term} {j : Int32} (ev : t.eval args Z none [] Z = some (.ref a)) (A : Arr Z Z.heap a cl ty) (eu : u.eval args Z none [] Z = some (.ref b)) (hq : (Jvm.Cond.eq (.elem t (.int j)) u).value args Z none Z [] = some true) : cl.slots[j.toNatClampNeg]? = some (.ref b) := by
  obtain ⟨x, y, h1, h2, k1, k2⟩ := cmp_v (Or.inl hq)
  rw [eu] at h2; cases h2
  have e := gotT (eq_R h1 eu k2.2 rfl) hq
  rw [← e]; exact (elem_in h1 ev (Term.int_eval j) A.1).2
end Own
end Jvm.RoadKit
namespace Jvm.RoadKit
open Sem ClassFile Op Lib Bundle Jvm.Stand Jvm.Free Jvm.LawKit Jvm.Free.SB Jvm.Free.SBG
section OwnW
variable {p : Program} {l : Launch} {e : Env} {R : Room} {s : State} {m : MethodId} {args : Array Value} {below : List Frame} {meth : Method} {c : Code} {T : State} {locs : List Loc} {cells slots : Nat} {vm0 : Vm} {k0 : Nat}
/-- as Dn, where string constants may have been interned meanwhile -/
def DnW (p : Program) (e : Env) (below : List Frame) (s : State) (Q : Option Value → Heap → List Loc → Prop) (k n : Nat) (S : State) : Prop :=
  ∃ U o, Steps p.tables e below S U ∧ U.status = .running ∧ Ended U below o ∧ ∃ v L, o = .returned v ∧ Q v U.heap L ∧ ReturnedEndW s o U L k n
variable {Q Q' : Option Value → Heap → List Loc → Prop} {k n : Nat} {S S' : State} {Z : State} {a0 : Array Value} {h : Heap}
theorem DnW.of (w : ∀ t, Steps p.tables e below S' t → Steps p.tables e below S t) (d : DnW p e below s Q k n S') : DnW p e below s Q k n S := by
  obtain ⟨U, o, st, r⟩ := d
  exact ⟨U, o, w U st, r⟩
theorem DnW.cast {g g' : JFrame} (q : g = g') (d : DnW p e below s Q k n (T.setTop g')) : DnW p e below s Q k n (T.setTop g) := q ▸ d
theorem DnW.retN (hS : s.Since vm0 k0) (hk0 : k0 ≤ T.heap.size) (X : Stand p l e R (s.setVm vm0) m args below meth c T locs cells slots) (hx : p.tables.exec = Jvm.exec) (hlk : meth.locks = false) {pc : Nat} {Ls : Array Slot} {z : Int32} {t : FieldType} {rest : List Value} (hret : meth.sig.returnType = some t) (ht : t = .boolean ∨ t = .byte ∨ t = .char ∨ t = .short)
    (hd : decode c.code pc = .ok (.ireturn, 1)) (hk : cells ≤ k) (hs : slots ≤ n) (hQ : Q (some (.int (nar t z))) T.heap locs) : DnW p e below s Q k n (T.setTop (mkF m pc Ls (.int z :: rest))) := by
  obtain ⟨fs, hr, hrun, hended, hW, hsame⟩ := X.leave (v := some (.int (nar t z))) (fun q => by rw [hret] at q; cases q) hlk
  obtain ⟨r1, r2, r3⟩ := hS.ended (U := T.setFrames fs) hW hk0 hsame
  exact ⟨_, _, Jvm.RoadKit.retN X hx hret ht hd hr, hrun, hended, _, _, rfl, hQ, ⟨_, rfl⟩, r1, r2, r3.mono hk hs⟩
theorem DnW.ret (hS : s.Since vm0 k0) (hk0 : k0 ≤ T.heap.size) (X : Stand p l e R (s.setVm vm0) m args below meth c T locs cells slots) (hx : p.tables.exec = Jvm.exec) (hlk : meth.locks = false) {pc : Nat} {Ls : Array Slot} {w : Value} {t : FieldType} {i : Instr} {rest : List Value} (hret : meth.sig.returnType = some t) (hn : narrow t w = w)
    (hi : (i = .ireturn ∧ (t = .int ∨ t = .boolean ∨ t = .byte ∨ t = .char ∨ t = .short) ∧ ∃ z, w = .int z) ∨ (i = .lreturn ∧ t = .long ∧ ∃ z, w = .long z) ∨ (i = .dreturn ∧ t = .double ∧ ∃ z, w = .double z) ∨ (i = .freturn ∧ t = .float ∧ ∃ z, w = .float z) ∨ (i = .areturn ∧ t.isReference = true ∧ w.isRef = true))
    (hd : decode c.code pc = .ok (i, 1)) (hk : cells ≤ k) (hs : slots ≤ n) (hQ : Q (some w) T.heap locs) : DnW p e below s Q k n (T.setTop (mkF m pc Ls (w :: rest))) := by
  obtain ⟨fs, hr, hrun, hended, hW, hsame⟩ := X.leave (v := some w) (fun q => by rw [hret] at q; cases q) hlk
  obtain ⟨r1, r2, r3⟩ := hS.ended (U := T.setFrames fs) hW hk0 hsame
  exact ⟨_, _, retOut X hx hret hn hi hd hr, hrun, hended, _, _, rfl, hQ, ⟨_, rfl⟩, r1, r2, r3.mono hk hs⟩
theorem DnW.retA (hS : s.Since vm0 k0) (hk0 : k0 ≤ T.heap.size) (X : Stand p l e R (s.setVm vm0) m args below meth c T locs cells slots) (hx : p.tables.exec = Jvm.exec) (hlk : meth.locks = false) {pc : Nat} {Ls : Array Slot} {w : Value} {t : FieldType} {rest : List Value} (hret : meth.sig.returnType = some t) (ht : t.isReference = true) (hw : w.isRef = true)
    (hd : decode c.code pc = .ok (.areturn, 1)) (hk : cells ≤ k) (hs : slots ≤ n) (hQ : Q (some w) T.heap locs) : DnW p e below s Q k n (T.setTop (mkF m pc Ls (w :: rest))) :=
  DnW.ret hS hk0 X hx hlk hret (by cases t <;> simp [FieldType.isReference] at ht <;> rcases ref_cases hw with rfl | ⟨a, rfl⟩ <;> rfl) (Or.inr (Or.inr (Or.inr (Or.inr ⟨rfl, ht, hw⟩)))) hd hk hs hQ
theorem DnW.retV (hS : s.Since vm0 k0) (hk0 : k0 ≤ T.heap.size) (X : Stand p l e R (s.setVm vm0) m args below meth c T locs cells slots) (hx : p.tables.exec = Jvm.exec) (hlk : meth.locks = false) {pc : Nat} {Ls : Array Slot} (hret : meth.sig.returnType = none)
    (hd : decode c.code pc = .ok (.return_, 1)) (hk : cells ≤ k) (hs : slots ≤ n) (hQ : Q none T.heap locs) : DnW p e below s Q k n (T.setTop (mkF m pc Ls [])) := by
  obtain ⟨fs, hr, hrun, hended, hW, hsame⟩ := X.leave (v := none) (fun _ => rfl) hlk
  obtain ⟨r1, r2, r3⟩ := hS.ended (U := T.setFrames fs) hW hk0 hsame
  exact ⟨_, _, X.returnOut hx hret hd hr, hrun, hended, _, _, rfl, hQ, ⟨_, rfl⟩, r1, r2, r3.mono hk hs⟩
abbrev ctrW (l : Launch) (Z : State) (y : MethodName) (bytes : ByteArray) (maxL : Nat) (ret : Option FieldType) (ws : List Jvm.Cond) (rm : Room) (k n : Nat) (as' : Array Value) (h : Heap) (Q : Option Value → Heap → List Loc → Prop) : Prop :=
  MetFree l y (head1 (Jvm.Cond.code y bytes maxL ret :: ws) rm) (fun a U => a = as' ∧ Z.Warmed39 U.vm ∧ U.heap = h) (fun _ _ _ _ _ => True) (fun _ U o U' => ∃ v L, o = .returned v ∧ Q v U'.heap L ∧ ReturnedEndW U o U' L k n)
theorem ctrW_of {y : MethodName} {bytes : ByteArray} {maxL : Nat} {ret : Option FieldType} {ws : List Jvm.Cond} {rm : Room} {as' : Array Value} (pn : plainFor y = true)
    (body : ∀ (p : Program) (e : Env) (s : State) (m : MethodId) (below : List Frame) (meth : Method) (c : Code) (s₁ : State), p.tables.exec = Jvm.exec → c.code = bytes → c.maxLocals = maxL → meth.sig.returnType = ret → meth.locks = false → meth.name = y.name → s.vm.findClass y.cls = some m.cls →
      Z.Warmed39 s.vm → s₁.heap = h → s.Since s.vm h.size → Stand p l e rm (s.setVm s.vm) m as' below meth c s₁ [] 0 0 → DnW p e below s Q k n (s₁.setTop (entryFrame m as' maxL))) : ctrW l Z y bytes maxL ret ws rm k n as' h Q := by
  refine MetFree.of_bodySF pn hisR ?_
  intro p e s m args below meth c s₁ Bd hml0 hP hK
  obtain ⟨rfl, hZ, hh⟩ := hP
  exact body p e s m below meth c s₁ Bd.exec Bd.bytes hml0 Bd.returns Bd.notSynchronized (name_of_methodNamed Bd.named Bd.method).1 (findClass_of_methodNamed Bd.named) hZ (by rw [← hh, Bd.state]; rfl) ((State.WarmedH.refl s).since _) (Stand.of_body Bd)
end OwnW
end Jvm.RoadKit
namespace Jvm.RoadKit
open Jvm Jvm.ClassFile Sem Op Lib Jvm.Free Jvm.Stand Jvm.LawKit Jvm.RoadKit
def own_sh (x : Int64) (k : Int32) : Int64 := x <<< (k &&& 0x3f).toInt64
def own_mask (b : Int32) : Int64 := if b = (0 : Int32) then (0 : Int64) else (((-1 : Int64).toUInt64 >>> (((64 : Int32) - b) &&& 0x3f).toInt64.toUInt64).toInt64)
def own_val (w : Int64) (k : Int32) (mask : Int64) (l : Int32) : Int32 := ((((w.toUInt64 >>> (k &&& 0x3f).toInt64.toUInt64).toInt64) &&& mask).toInt32 + l)
theorem own_ofn {k : Int32} {n : Nat} (h : k.toInt = n) (hn : n < 2 ^ 31) : k = Int32.ofNat n := by
  apply Int32.toInt_inj.mp
  rw [h, Int32.toInt_ofNat_of_lt (by omega)]
theorem own_bv {k : Int32} {n : Nat} (h : k.toInt = n) (hn : n < 64) : k.toBitVec.toNat % 64 = n := by
  rw [own_ofn h (by omega)]
  have : ∀ i : Fin 64, (Int32.ofNat i.1).toBitVec.toNat % 64 = i.1 := by decide
  exact this ⟨n, hn⟩
theorem own_maskN {b : Int32} {n : Nat} (h : b.toInt = n) (hn : n ≤ 32) : (own_mask b).toBitVec.toNat = 2 ^ n - 1 := by
  rw [own_ofn h (by omega)]
  have : ∀ i : Fin 33, (own_mask (Int32.ofNat i.1)).toBitVec.toNat = 2 ^ i.1 - 1 := by decide +kernel
  exact this ⟨n, by omega⟩
theorem own_put (w x : Int64) (k : Int32) (n : Nat) (hk : k.toInt = n) (hn : n < 64) (hw : w.toInt % 18446744073709551616 < ((2 ^ n : Nat) : Int)) :
    (w ||| own_sh x k).toInt % 18446744073709551616 = (w.toInt % 18446744073709551616 + x.toInt * ((2 ^ n : Nat) : Int)) % 18446744073709551616 := by
  have hs := c_lshl x k n (own_bv hk hn)
  have hd : ((2 ^ n : Nat) : Int) ∣ 18446744073709551616 := ⟨((2 ^ (64 - n) : Nat) : Int), by
    rw [← Int.natCast_mul, ← Nat.pow_add, show n + (64 - n) = 64 by omega]; rfl⟩
  have hp : (2 ^ n : Nat) ≤ 2 ^ 63 := Nat.pow_le_pow_right (by decide) (by omega)
  have hw0 : 0 ≤ w.toInt ∧ w.toInt < ((2 ^ n : Nat) : Int) := by
    have := rng64 w
    omega
  have hz : (x <<< (k &&& 0x3f).toInt64).toInt % ((2 ^ n : Nat) : Int) = 0 := by
    have q : ((2 ^ n : Nat) : Int) ∣ (x <<< (k &&& 0x3f).toInt64).toInt - x.toInt * ((2 ^ n : Nat) : Int) := Int.dvd_trans hd (Int.dvd_of_emod_eq_zero hs)
    have q2 := Int.dvd_add q (Int.dvd_mul_left x.toInt ((2 ^ n : Nat) : Int))
    rw [Int.sub_add_cancel] at q2
    exact Int.emod_eq_zero_of_dvd q2
  have ho := c_orL (x <<< (k &&& 0x3f).toInt64) w n (by omega) _ rfl hz hw0.1 hw0.2
  rw [Int64.or_comm]
  show ((x <<< (k &&& 0x3f).toInt64) ||| w).toInt % _ = _
  generalize x.toInt * ((2 ^ n : Nat) : Int) = M at *
  omega
theorem own_read {w : Int64} {k b l v : Int32} {n m : Nat} (hk : k.toInt = n) (hn : n < 64) (hb : b.toInt = m) (hm : m ≤ 32) (hx : (w.toInt % 18446744073709551616) / ((2 ^ n : Nat) : Int) % ((2 ^ m : Nat) : Int) = v.toInt - l.toInt) : own_val w k (own_mask b) l = v := by
  unfold own_val
  generalize hy : ((w.toUInt64 >>> (k &&& 0x3f).toInt64.toUInt64).toInt64) = y
  have hyx : y.toInt % ((2 ^ m : Nat) : Int) = v.toInt - l.toInt := by
    rcases Nat.eq_zero_or_pos n with z | z
    · subst z
      have : k = 0 := own_ofn hk (by decide)
      subst this
      have : y = w := by
        rw [← hy, show ((0 : Int32) &&& 0x3f).toInt64.toUInt64 = 0 by decide]
        apply Int64.toBitVec_inj.mp
        simp
      subst this
      rw [show ((2 ^ 0 : Nat) : Int) = 1 by rfl, Int.ediv_one] at hx
      rw [← hx]
      refine (Int.emod_emod_of_dvd _ ⟨((2 ^ (64 - m) : Nat) : Int), ?_⟩).symm
      rw [← Int.natCast_mul, ← Nat.pow_add, show m + (64 - m) = 64 by omega]; rfl
    · have := c_lushr w k n (own_bv hk hn) z
      rw [hy] at this
      rw [this]; exact hx
  have hq := c_maskL y (own_mask b) m (by omega) (own_maskN hb hm)
  rw [hyx] at hq
  have h1 := c_l2i (y &&& own_mask b)
  have h2 := c_iadd (y &&& own_mask b).toInt32 l
  apply Int32.toInt_inj.mp
  have := rng32 ((y &&& own_mask b).toInt32 + l)
  have := rng32 v
  omega
theorem own_subL {v l : Int32} : (v.toInt64 - l.toInt64).toInt = v.toInt - l.toInt := by
  have := c_lsub v.toInt64 l.toInt64
  have := rng64 (v.toInt64 - l.toInt64)
  have := rng32 v
  have := rng32 l
  have := c_i2l v
  have := c_i2l l
  omega
theorem own_lt2 {x0 x1 : Int} {a b : Nat} (h0 : x0 < ((2 ^ a : Nat) : Int)) (h1 : x1 < ((2 ^ b : Nat) : Int)) : x0 + x1 * ((2 ^ a : Nat) : Int) < ((2 ^ (a + b) : Nat) : Int) := by
  have e : ((2 ^ (a + b) : Nat) : Int) = ((2 ^ b : Nat) : Int) * ((2 ^ a : Nat) : Int) := by rw [← Int.natCast_mul, ← Nat.pow_add, Nat.add_comm]
  rw [e]
  have hp : (0 : Int) ≤ ((2 ^ a : Nat) : Int) := Int.natCast_nonneg _
  have := Int.mul_le_mul_of_nonneg_right (show x1 + 1 ≤ ((2 ^ b : Nat) : Int) by omega) hp
  rw [Int.add_mul, Int.one_mul] at this
  omega
theorem own_hi {x0 x1 : Int} {a : Nat} (h : 0 ≤ x0) (h0 : x0 < ((2 ^ a : Nat) : Int)) : (x0 + x1 * ((2 ^ a : Nat) : Int)) / ((2 ^ a : Nat) : Int) = x1 := by
  have hp : ((2 ^ a : Nat) : Int) ≠ 0 := by have := Nat.two_pow_pos a; omega
  rw [Int.add_mul_ediv_right _ _ hp, Int.ediv_eq_zero_of_lt h h0, Int.zero_add]
theorem own_low {x0 x1 : Int} {a b : Nat} (h : 0 ≤ x0) (h0 : x0 < ((2 ^ a : Nat) : Int)) (hb : a ≤ b) : (x0 + x1 * ((2 ^ b : Nat) : Int)) % ((2 ^ a : Nat) : Int) = x0 := by
  obtain ⟨c, rfl⟩ := Nat.exists_eq_add_of_le hb
  rw [show ((2 ^ (a + c) : Nat) : Int) = ((2 ^ c : Nat) : Int) * ((2 ^ a : Nat) : Int) by rw [← Int.natCast_mul, ← Nat.pow_add, Nat.add_comm], ← Int.mul_assoc, Int.add_mul_emod_self_right]
  exact Int.emod_eq_of_lt h h0
theorem own_le64 {n : Nat} (h : n ≤ 64) : ((2 ^ n : Nat) : Int) ≤ 18446744073709551616 := by
  have := Nat.pow_le_pow_right (show 0 < 2 by decide) h
  rw [show (2 : Nat) ^ 64 = 18446744073709551616 by decide] at this
  omega
/-- the packed word of two or three parts -/
def own_w2 (x0 x1 : Int64) (k : Int32) : Int64 := ((0 : Int64) ||| own_sh x0 0) ||| own_sh x1 k
theorem own_w1v {x0 : Int64} (h : 0 ≤ x0.toInt) : ((0 : Int64) ||| own_sh x0 0).toInt % 18446744073709551616 = x0.toInt := by
  rw [own_put 0 x0 0 0 rfl (by decide) (by decide)]
  have := rng64 x0
  rw [show (0 : Int64).toInt = 0 by decide, show ((2 ^ 0 : Nat) : Int) = 1 by rfl]
  omega
theorem own_w2v {x0 x1 : Int64} {k : Int32} {a b : Nat} (hk : k.toInt = a) (ha : a ≤ 32) (hb : b ≤ 32) (p0 : 0 ≤ x0.toInt) (h0 : x0.toInt < ((2 ^ a : Nat) : Int)) (p1 : 0 ≤ x1.toInt) (h1 : x1.toInt < ((2 ^ b : Nat) : Int)) : (own_w2 x0 x1 k).toInt % 18446744073709551616 = x0.toInt + x1.toInt * ((2 ^ a : Nat) : Int) := by
  unfold own_w2
  rw [own_put _ x1 k a hk (by omega) (by rw [own_w1v p0]; exact h0), own_w1v p0]
  have q := own_lt2 h0 h1
  have r := own_le64 (n := a + b) (by omega)
  have s : 0 ≤ x1.toInt * ((2 ^ a : Nat) : Int) := Int.mul_nonneg p1 (Int.natCast_nonneg _)
  exact Int.emod_eq_of_lt (by omega) (by omega)
theorem own_w3v {x0 x1 x2 : Int64} {k j : Int32} {a b c : Nat} (hk : k.toInt = a) (hj : j.toInt = ((a + b : Nat) : Int)) (ha : a ≤ 32) (hb : b ≤ 32) (hc : 0 < c) (hs : a + b + c ≤ 64) (p0 : 0 ≤ x0.toInt) (h0 : x0.toInt < ((2 ^ a : Nat) : Int)) (p1 : 0 ≤ x1.toInt) (h1 : x1.toInt < ((2 ^ b : Nat) : Int)) (p2 : 0 ≤ x2.toInt) (h2 : x2.toInt < ((2 ^ c : Nat) : Int)) :
    (own_w2 x0 x1 k ||| own_sh x2 j).toInt % 18446744073709551616 = (x0.toInt + x1.toInt * ((2 ^ a : Nat) : Int)) + x2.toInt * ((2 ^ (a + b) : Nat) : Int) := by
  have w := own_w2v hk ha hb p0 h0 p1 h1
  have q := own_lt2 h0 h1
  rw [own_put _ x2 j (a + b) hj (by omega) (by rw [w]; exact q), w]
  have q2 := own_lt2 q h2
  have r := own_le64 (n := a + b + c) (by omega)
  have s : 0 ≤ x1.toInt * ((2 ^ a : Nat) : Int) := Int.mul_nonneg p1 (Int.natCast_nonneg _)
  have s2 : 0 ≤ x2.toInt * ((2 ^ (a + b) : Nat) : Int) := Int.mul_nonneg p2 (Int.natCast_nonneg _)
  exact Int.emod_eq_of_lt (by omega) (by omega)

def own_P (S : Int) (b : Int32) : Prop := 0 ≤ b.toInt ∧ b.toInt ≤ 32 ∧ S < ((2 ^ b.toInt.toNat : Nat) : Int)
def own_R (v l : Int32) (S : Int) : Prop := l.toInt ≤ v.toInt ∧ v.toInt - l.toInt ≤ S
def own_x (v l : Int32) : Int64 := v.toInt64 - l.toInt64
theorem own_nat {b : Int32} (h : 0 ≤ b.toInt) : b.toInt = ((b.toInt.toNat : Nat) : Int) := (Int.toNat_of_nonneg h).symm
theorem own_xr {v l b : Int32} {S : Int} (R : own_R v l S) (P : own_P S b) : 0 ≤ (own_x v l).toInt ∧ (own_x v l).toInt < ((2 ^ b.toInt.toNat : Nat) : Int) ∧ (own_x v l).toInt = v.toInt - l.toInt := by
  unfold own_x
  rw [own_subL]
  unfold own_R at R
  unfold own_P at P
  omega
theorem own_addI {a b : Int32} (ha : 0 ≤ a.toInt) (ha2 : a.toInt ≤ 1000) (hb : 0 ≤ b.toInt) (hb2 : b.toInt ≤ 1000) : (a + b).toInt = a.toInt + b.toInt := by
  have := c_iadd a b
  have := rng32 (a + b)
  omega
theorem own_spill {v0 v1 v2 l0 l1 l2 b0 b1 b2 : Int32} {S0 S1 S2 : Int} (R0 : own_R v0 l0 S0) (R1 : own_R v1 l1 S1) (R2 : own_R v2 l2 S2) (P0 : own_P S0 b0) (P1 : own_P S1 b1) (P2 : own_P S2 b2) :
    own_val (own_w2 (own_x v0 l0) (own_x v1 l1) b0) 0 (own_mask b0) l0 = v0 ∧ own_val (own_w2 (own_x v0 l0) (own_x v1 l1) b0) b0 (own_mask b1) l1 = v1 ∧ own_val ((0 : Int64) ||| own_sh (own_x v2 l2) 0) 0 (own_mask b2) l2 = v2 := by
  obtain ⟨p0, q0, e0⟩ := own_xr R0 P0
  obtain ⟨p1, q1, e1⟩ := own_xr R1 P1
  obtain ⟨p2, q2, e2⟩ := own_xr R2 P2
  have w := own_w2v (k := b0) (own_nat P0.1) (by have := P0.2.1; omega) (b := b1.toInt.toNat) (by have := P1.2.1; omega) p0 q0 p1 q1
  refine ⟨?_, ?_, ?_⟩
  · refine own_read (n := 0) (m := b0.toInt.toNat) rfl (by decide) (own_nat P0.1) (by have := P0.2.1; omega) ?_
    rw [w, ← e0, show ((2 ^ 0 : Nat) : Int) = 1 by rfl, Int.ediv_one]
    exact own_low p0 q0 (Nat.le_refl _)
  · refine own_read (n := b0.toInt.toNat) (m := b1.toInt.toNat) (own_nat P0.1) (by have := P0.2.1; omega) (own_nat P1.1) (by have := P1.2.1; omega) ?_
    rw [w, own_hi p0 q0, ← e1]
    exact Int.emod_eq_of_lt p1 q1
  · refine own_read (n := 0) (m := b2.toInt.toNat) rfl (by decide) (own_nat P2.1) (by have := P2.2.1; omega) ?_
    rw [own_w1v p2, ← e2, show ((2 ^ 0 : Nat) : Int) = 1 by rfl, Int.ediv_one]
    exact Int.emod_eq_of_lt p2 q2
theorem own_fit {v0 v1 v2 l0 l1 l2 b0 b1 b2 : Int32} {S0 S1 S2 : Int} (R0 : own_R v0 l0 S0) (R1 : own_R v1 l1 S1) (R2 : own_R v2 l2 S2) (P0 : own_P S0 b0) (P1 : own_P S1 b1) (P2 : own_P S2 b2) (h2 : 1 ≤ S2) (hs : ¬ (64 : Int32) < (b0 + b1) + b2) :
    own_val (own_w2 (own_x v0 l0) (own_x v1 l1) b0 ||| own_sh (own_x v2 l2) (b0 + b1)) 0 (own_mask b0) l0 = v0 ∧ own_val (own_w2 (own_x v0 l0) (own_x v1 l1) b0 ||| own_sh (own_x v2 l2) (b0 + b1)) b0 (own_mask b1) l1 = v1 ∧ own_val (own_w2 (own_x v0 l0) (own_x v1 l1) b0 ||| own_sh (own_x v2 l2) (b0 + b1)) (b0 + b1) (own_mask b2) l2 = v2 := by
  obtain ⟨p0, q0, e0⟩ := own_xr R0 P0
  obtain ⟨p1, q1, e1⟩ := own_xr R1 P1
  obtain ⟨p2, q2, e2⟩ := own_xr R2 P2
  have P0' := P0
  have P1' := P1
  have P2' := P2
  unfold own_P at P0' P1' P2'
  have ab := own_addI (a := b0) (b := b1) (by omega) (by omega) (by omega) (by omega)
  have abc := own_addI (a := b0 + b1) (b := b2) (by omega) (by omega) (by omega) (by omega)
  rw [Int32.lt_iff_toInt_lt, show (64 : Int32).toInt = 64 by decide] at hs
  have c0 : 0 < b2.toInt.toNat := by
    rcases Nat.eq_zero_or_pos b2.toInt.toNat with z | z
    · rw [z] at P2'
      have := P2'.2.2
      rw [show ((2 ^ 0 : Nat) : Int) = 1 by rfl] at this
      omega
    · exact z
  have hj : (b0 + b1).toInt = ((b0.toInt.toNat + b1.toInt.toNat : Nat) : Int) := by omega
  have w := own_w3v (k := b0) (j := b0 + b1) (x2 := own_x v2 l2) (c := b2.toInt.toNat) (own_nat P0.1) hj (by omega) (by omega) c0 (by omega) p0 q0 p1 q1 p2 q2
  have lt2 := own_lt2 q0 q1
  have s : 0 ≤ (own_x v1 l1).toInt * ((2 ^ b0.toInt.toNat : Nat) : Int) := Int.mul_nonneg p1 (Int.natCast_nonneg _)
  refine ⟨?_, ?_, ?_⟩
  · refine own_read (n := 0) (m := b0.toInt.toNat) rfl (by decide) (own_nat P0.1) (by omega) ?_
    rw [w, ← e0, show ((2 ^ 0 : Nat) : Int) = 1 by rfl, Int.ediv_one]
    rw [show ((2 ^ (b0.toInt.toNat + b1.toInt.toNat) : Nat) : Int) = ((2 ^ b1.toInt.toNat : Nat) : Int) * ((2 ^ b0.toInt.toNat : Nat) : Int) by rw [← Int.natCast_mul, ← Nat.pow_add, Nat.add_comm], ← Int.mul_assoc, Int.add_assoc, ← Int.add_mul]
    exact own_low p0 q0 (Nat.le_refl _)
  · refine own_read (n := b0.toInt.toNat) (m := b1.toInt.toNat) (own_nat P0.1) (by omega) (own_nat P1.1) (by omega) ?_
    rw [w, ← e1]
    rw [show ((2 ^ (b0.toInt.toNat + b1.toInt.toNat) : Nat) : Int) = ((2 ^ b1.toInt.toNat : Nat) : Int) * ((2 ^ b0.toInt.toNat : Nat) : Int) by rw [← Int.natCast_mul, ← Nat.pow_add, Nat.add_comm], ← Int.mul_assoc, Int.add_assoc, ← Int.add_mul, own_hi p0 q0]
    exact own_low p1 q1 (Nat.le_refl _)
  · refine own_read (n := b0.toInt.toNat + b1.toInt.toNat) (m := b2.toInt.toNat) hj (by omega) (own_nat P2.1) (by omega) ?_
    rw [w, own_hi (by omega) lt2, ← e2]
    exact Int.emod_eq_of_lt p2 q2
-- leading zeros
def own_nz (i r : Int32) : Prop := 0 ≤ r.toInt ∧ r.toInt ≤ 32 ∧ i.toInt % 4294967296 < ((2 ^ (32 - r.toInt.toNat) : Nat) : Int)
def own_I (x i n : Int32) (s : Nat) (B : Int) : Prop := 0 ≤ i.toInt ∧ i.toInt < B ∧ n.toInt = 31 - (s : Int) ∧ x.toInt < (i.toInt + 1) * ((2 ^ s : Nat) : Int)
theorem own_I0 {x : Int32} (h : 0 < x.toInt) : own_I x x 31 0 4294967296 := by
  have := rng32 x
  refine ⟨by omega, by omega, by decide, ?_⟩
  rw [show ((2 ^ 0 : Nat) : Int) = 1 by rfl]; omega
theorem own_Ikeep {x i n : Int32} {s : Nat} {B : Int} {C : Int32} (h : own_I x i n s B) (c : i < C) : own_I x i n s C.toInt := ⟨h.1, Int32.lt_iff_toInt_lt.mp c, h.2.2⟩
theorem own_Istep {x i n q d : Int32} {s k : Nat} {B B' : Int} (h : own_I x i n s B) (hk : q.toBitVec.toNat % 32 = k) (h0 : 0 < k) (hd : d.toInt = -(k : Int)) (hs : s + k ≤ 31) (hB : B ≤ B' * ((2 ^ k : Nat) : Int)) : own_I x ((i.toUInt32 >>> (q &&& 31).toUInt32).toInt32) (n + d) (s + k) B' := by
  obtain ⟨a, b, c, e⟩ := h
  have u := c_iushr i q k hk h0
  have ri := rng32 i
  rw [Int.emod_eq_of_lt a (by omega)] at u
  have hp : (0 : Int) < ((2 ^ k : Nat) : Int) := by have := Nat.two_pow_pos k; omega
  have e1 := Int.emod_add_mul_ediv i.toInt ((2 ^ k : Nat) : Int)
  have e2 := Int.emod_lt_of_pos i.toInt hp
  have e3 := Int.emod_nonneg i.toInt (Int.ne_of_gt hp)
  refine ⟨by rw [u]; exact Int.ediv_nonneg a (by omega), by rw [u]; exact Int.ediv_lt_of_lt_mul hp (by omega), ?_, ?_⟩
  · have := c_iadd n d
    have := rng32 (n + d)
    omega
  · rw [u, Nat.pow_add, Int.natCast_mul, Int.mul_comm ((2 ^ s : Nat) : Int), ← Int.mul_assoc]
    refine Int.lt_of_lt_of_le e (Int.mul_le_mul_of_nonneg_right ?_ (Int.natCast_nonneg _))
    rw [Int.add_mul, Int.one_mul, Int.mul_comm (i.toInt / _)]
    omega
theorem own_Iend {x i n q : Int32} {s : Nat} (h : own_I x i n s 4) (hk : q.toBitVec.toNat % 32 = 1) (hs : s ≤ 30) (hx : 0 ≤ x.toInt) : own_nz x (n - ((i.toUInt32 >>> (q &&& 31).toUInt32).toInt32)) := by
  obtain ⟨a, b, c, e⟩ := h
  have u := c_iushr i q 1 hk (by decide)
  rw [Int.emod_eq_of_lt a (by omega), show ((2 ^ 1 : Nat) : Int) = 2 by rfl] at u
  generalize ((i.toUInt32 >>> (q &&& 31).toUInt32).toInt32) = j at *
  have t : (n - j).toInt = 31 - (s : Int) - j.toInt := by
    have := c_isub n j
    have := rng32 (n - j)
    omega
  refine ⟨by omega, by omega, ?_⟩
  rw [Int.emod_eq_of_lt hx (by have := rng32 x; omega)]
  refine Int.lt_of_lt_of_le e ?_
  have hp : (0 : Int) ≤ ((2 ^ s : Nat) : Int) := Int.natCast_nonneg _
  rcases (show j.toInt = 0 ∨ j.toInt = 1 by omega) with z | z
  · rw [show 32 - (n - j).toInt.toNat = s + 1 by omega, Nat.pow_succ, Nat.mul_comm, Int.natCast_mul]
    exact Int.mul_le_mul_of_nonneg_right (by rw [show ((2 : Nat) : Int) = 2 by rfl]; omega) hp
  · rw [show 32 - (n - j).toInt.toNat = 2 + s by omega, Nat.pow_add, Int.natCast_mul]
    exact Int.mul_le_mul_of_nonneg_right (by rw [show ((2 ^ 2 : Nat) : Int) = 4 by rfl]; omega) hp
theorem own_nz0 : own_nz 0 32 := by unfold own_nz; decide
theorem own_nzn {i : Int32} : own_nz i 0 := by
  refine ⟨by decide, by decide, ?_⟩
  rw [show (0 : Int32).toInt.toNat = 0 by decide, show ((2 ^ (32 - 0) : Nat) : Int) = 4294967296 by rfl]; omega
theorem own_bits {x : Int64} {r : Int32} (h0 : 0 ≤ x.toInt) (h1 : x.toInt < 4294967296) (h : own_nz x.toInt32 r) : own_P x.toInt ((64 : Int32) - ((32 : Int32) + r)) := by
  obtain ⟨a, b, c⟩ := h
  have e : ((64 : Int32) - ((32 : Int32) + r)).toInt = 32 - r.toInt := by
    have := c_iadd 32 r
    have := rng32 (32 + r)
    have := c_isub 64 (32 + r)
    have := rng32 (64 - (32 + r))
    have : (64 : Int32).toInt = 64 := by decide
    have : (32 : Int32).toInt = 32 := by decide
    omega
  refine ⟨by omega, by omega, ?_⟩
  rw [e, show (32 - r.toInt).toNat = 32 - r.toInt.toNat by omega]
  have := c_l2i x
  have : x.toInt32.toInt % 4294967296 = x.toInt := by omega
  omega
theorem own_p31 : own_P 2147483647 31 := by unfold own_P; decide
-- the law's own numbers
def own_min (a b : Int32) : Int32 := if b < a then b else a
def own_max (a b : Int32) : Int32 := if a < b then b else a
theorem own_mm (a b : Int32) : (own_min a b).toInt ≤ (own_max a b).toInt := by
  unfold own_min own_max
  simp only [Int32.lt_iff_toInt_lt]
  split <;> split <;> omega
theorem own_sp {lo hi : Int32} (h : lo.toInt ≤ hi.toInt) : (hi.toInt64 - lo.toInt64).toInt = hi.toInt - lo.toInt ∧ 0 ≤ (hi.toInt64 - lo.toInt64).toInt ∧ (hi.toInt64 - lo.toInt64).toInt < 4294967296 := by
  rw [own_subL]
  have := rng32 lo
  have := rng32 hi
  omega
theorem own_m {lo hi : Int32} (h : lo.toInt ≤ hi.toInt) : ((hi.toInt64 - lo.toInt64) + (1 : Int64)).toInt = hi.toInt - lo.toInt + 1 := by
  obtain ⟨a, b, c⟩ := own_sp h
  have := c_ladd (hi.toInt64 - lo.toInt64) 1
  have := rng64 ((hi.toInt64 - lo.toInt64) + (1 : Int64))
  have : (1 : Int64).toInt = 1 := by decide
  omega
def own_rem (x y : Int64) : Int64 := x - (x / y) * y
theorem own_with {lo hi : Int32} (h : lo.toInt ≤ hi.toInt) (x : Int64) {m : Int64} (hm : m.toInt = hi.toInt - lo.toInt + 1) : m ≠ 0 ∧ lo.toInt ≤ (lo.toInt64 + own_rem (own_rem x m + m) m).toInt32.toInt ∧ (lo.toInt64 + own_rem (own_rem x m + m) m).toInt32.toInt ≤ hi.toInt := by
  have rl := rng32 lo
  have rh := rng32 hi
  have a := c_lrem x m _ hm
  have q1 := Int.emod_lt_of_pos x.toInt (show 0 < hi.toInt - lo.toInt + 1 by omega)
  have q2 := Int.emod_nonneg x.toInt (show hi.toInt - lo.toInt + 1 ≠ 0 by omega)
  have q3 := Int.emod_lt_of_pos (-x.toInt) (show 0 < hi.toInt - lo.toInt + 1 by omega)
  have q4 := Int.emod_nonneg (-x.toInt) (show hi.toInt - lo.toInt + 1 ≠ 0 by omega)
  have hr : -(hi.toInt - lo.toInt + 1) < (own_rem x m).toInt ∧ (own_rem x m).toInt < hi.toInt - lo.toInt + 1 := by
    unfold own_rem
    rcases Int.lt_or_le x.toInt 0 with z | z
    · rw [a.2 z]; omega
    · rw [a.1 z]; omega
  have hs := c_ladd (own_rem x m) m
  have hs2 := rng64 (own_rem x m + m)
  have hs3 : 0 ≤ (own_rem x m + m).toInt := by omega
  have b := (c_lrem (own_rem x m + m) m _ hm).1 hs3
  have q5 := Int.emod_lt_of_pos (own_rem x m + m).toInt (show 0 < hi.toInt - lo.toInt + 1 by omega)
  have q6 := Int.emod_nonneg (own_rem x m + m).toInt (show hi.toInt - lo.toInt + 1 ≠ 0 by omega)
  have e : (own_rem (own_rem x m + m) m).toInt = (own_rem x m + m).toInt % (hi.toInt - lo.toInt + 1) := b
  rw [← e] at q5 q6
  generalize own_rem (own_rem x m + m) m = r at *
  have f1 := c_ladd lo.toInt64 r
  have f2 := rng64 (lo.toInt64 + r)
  have f3 := c_l2i (lo.toInt64 + r)
  have f4 := rng32 (lo.toInt64 + r).toInt32
  rw [c_i2l] at f1
  refine ⟨fun z => ?_, ?_, ?_⟩
  · subst z
    rw [show (0 : Int64).toInt = 0 by decide] at hm
    omega
  · omega
  · omega
theorem own_hi0 {x : Int64} (h1 : 0 ≤ x.toInt) (h2 : x.toInt < 4294967296) : (((x.toUInt64 >>> ((32 : Int32) &&& 0x3f).toInt64.toUInt64).toInt64).toInt32) = (0 : Int32) := by
  have u := c_lushr x 32 32 (by decide) (by decide)
  rw [Int.emod_eq_of_lt h1 (by omega), Int.ediv_eq_zero_of_lt h1 (by rw [show ((2 ^ 32 : Nat) : Int) = 4294967296 by rfl]; exact h2)] at u
  rw [show ((x.toUInt64 >>> ((32 : Int32) &&& 0x3f).toInt64.toUInt64).toInt64) = 0 from Int64.toInt_inj.mp u]
  decide
theorem own_64 {b0 b1 : Int32} {S0 S1 : Int} (P0 : own_P S0 b0) (P1 : own_P S1 b1) : ¬ (64 : Int32) < b0 + b1 := by
  unfold own_P at P0 P1
  have ab := own_addI (a := b0) (b := b1) (by omega) (by omega) (by omega) (by omega)
  rw [Int32.lt_iff_toInt_lt, show (64 : Int32).toInt = 64 by decide]; omega
theorem own_in {j : Int32} (h0 : 0 ≤ j.toInt) (h : j.toInt < 6) : ¬ j < 0 ∧ j < 6 := by
  rw [Int32.lt_iff_toInt_lt, Int32.lt_iff_toInt_lt, show (0 : Int32).toInt = 0 by decide, show (6 : Int32).toInt = 6 by decide]; omega
theorem own_f {f : Int32} (h0 : 0 ≤ f.toInt) (h3 : f.toInt ≤ 3) : (f + 1).toInt = f.toInt + 1 ∧ ((f + 2).toInt = f.toInt + 2 ∧ (f + 1 + 1).toInt = f.toInt + 2) ∧ ¬ f < 0 ∧ (¬ (f + 0) < 0 ∧ (f + 0) < 6) ∧ (¬ (f + 1) < 0 ∧ (f + 1) < 6) := by
  have a := own_addI (a := f) (b := 1) h0 (by omega) (by decide) (by decide)
  have b := own_addI (a := f) (b := 2) h0 (by omega) (by decide) (by decide)
  rw [show (1 : Int32).toInt = 1 by decide] at a
  rw [show (2 : Int32).toInt = 2 by decide] at b
  have c := own_addI (a := f + 1) (b := 1) (by omega) (by omega) (by decide) (by decide)
  rw [show (1 : Int32).toInt = 1 by decide] at c
  refine ⟨a, ⟨b, by omega⟩, ?_, ?_, own_in (by omega) (by omega)⟩
  · rw [Int32.lt_iff_toInt_lt, show (0 : Int32).toInt = 0 by decide]; omega
  · rw [Int32.add_zero]; exact own_in (by omega) (by omega)
theorem own_f01 (f : Int32) : f + 1 ≠ f + 0 := by
  intro h
  have h1 := c_iadd f 1
  rw [h, Int32.add_zero, show (1 : Int32).toInt = 1 by decide] at h1
  omega
theorem own_f02 (f : Int32) : f + 0 ≠ f + 1 := fun h => own_f01 f h.symm
end Jvm.RoadKit
namespace Jvm.Pilot.@@N@@
open Jvm Jvm.ClassFile Sem Op Lib Jvm.Free Jvm.Stand Jvm.LawKit Jvm.RoadKit Bundle Jvm.Pilot.@@N@@.Jvm.D
abbrev vI (x : Int32) : Slot := .val (.int x)
abbrev vJ (x : Int64) : Slot := .val (.long x)
abbrev vA (x : Addr) : Slot := .val (.ref x)
theorem d1_0 : decode method_2_code 0 = .ok (.lload_n 0, 1) := by decide +kernel
theorem d1_1 : decode method_2_code 1 = .ok (.l2i, 1) := by decide +kernel
theorem d1_2 : decode method_2_code 2 = .ok (.lload_n 0, 1) := by decide +kernel
theorem d1_3 : decode method_2_code 3 = .ok (.bipush 32, 2) := by decide +kernel
theorem d1_5 : decode method_2_code 5 = .ok (.lushr, 1) := by decide +kernel
theorem d1_6 : decode method_2_code 6 = .ok (.l2i, 1) := by decide +kernel
theorem d1_7 : decode method_2_code 7 = .ok (.invokestatic 7, 3) := by decide +kernel
theorem d1_10 : decode method_2_code 10 = .ok (.ireturn, 1) := by decide +kernel
theorem d2_0 : decode jdk_29_method_69_code 0 = .ok (.iload_n 0, 1) := by decide +kernel
theorem d2_1 : decode jdk_29_method_69_code 1 = .ok (.iload_n 1, 1) := by decide +kernel
theorem d2_2 : decode jdk_29_method_69_code 2 = .ok (.if_icmp .gt 7, 3) := by decide +kernel
theorem d2_5 : decode jdk_29_method_69_code 5 = .ok (.iload_n 0, 1) := by decide +kernel
theorem d2_6 : decode jdk_29_method_69_code 6 = .ok (.goto 4, 3) := by decide +kernel
theorem d2_9 : decode jdk_29_method_69_code 9 = .ok (.iload_n 1, 1) := by decide +kernel
theorem d2_10 : decode jdk_29_method_69_code 10 = .ok (.ireturn, 1) := by decide +kernel
theorem d3_0 : decode method_3_code 0 = .ok (.lload_n 0, 1) := by decide +kernel
theorem d3_1 : decode method_3_code 1 = .ok (.l2i, 1) := by decide +kernel
theorem d3_2 : decode method_3_code 2 = .ok (.lload_n 0, 1) := by decide +kernel
theorem d3_3 : decode method_3_code 3 = .ok (.bipush 32, 2) := by decide +kernel
theorem d3_5 : decode method_3_code 5 = .ok (.lushr, 1) := by decide +kernel
theorem d3_6 : decode method_3_code 6 = .ok (.l2i, 1) := by decide +kernel
theorem d3_7 : decode method_3_code 7 = .ok (.invokestatic 13, 3) := by decide +kernel
theorem d3_10 : decode method_3_code 10 = .ok (.ireturn, 1) := by decide +kernel
theorem d4_0 : decode jdk_29_method_65_code 0 = .ok (.iload_n 0, 1) := by decide +kernel
theorem d4_1 : decode jdk_29_method_65_code 1 = .ok (.iload_n 1, 1) := by decide +kernel
theorem d4_2 : decode jdk_29_method_65_code 2 = .ok (.if_icmp .lt 7, 3) := by decide +kernel
theorem d4_5 : decode jdk_29_method_65_code 5 = .ok (.iload_n 0, 1) := by decide +kernel
theorem d4_6 : decode jdk_29_method_65_code 6 = .ok (.goto 4, 3) := by decide +kernel
theorem d4_9 : decode jdk_29_method_65_code 9 = .ok (.iload_n 1, 1) := by decide +kernel
theorem d4_10 : decode jdk_29_method_65_code 10 = .ok (.ireturn, 1) := by decide +kernel
theorem d5_0 : decode method_4_code 0 = .ok (.iload_n 1, 1) := by decide +kernel
theorem d5_1 : decode method_4_code 1 = .ok (.i2l, 1) := by decide +kernel
theorem d5_2 : decode method_4_code 2 = .ok (.iload_n 0, 1) := by decide +kernel
theorem d5_3 : decode method_4_code 3 = .ok (.i2l, 1) := by decide +kernel
theorem d5_4 : decode method_4_code 4 = .ok (.lsub, 1) := by decide +kernel
theorem d5_5 : decode method_4_code 5 = .ok (.lconst 1, 1) := by decide +kernel
theorem d5_6 : decode method_4_code 6 = .ok (.ladd, 1) := by decide +kernel
theorem d5_7 : decode method_4_code 7 = .ok (.lstore 4, 2) := by decide +kernel
theorem d5_9 : decode method_4_code 9 = .ok (.lload_n 2, 1) := by decide +kernel
theorem d5_10 : decode method_4_code 10 = .ok (.lload 4, 2) := by decide +kernel
theorem d5_12 : decode method_4_code 12 = .ok (.lrem, 1) := by decide +kernel
theorem d5_13 : decode method_4_code 13 = .ok (.lload 4, 2) := by decide +kernel
theorem d5_15 : decode method_4_code 15 = .ok (.ladd, 1) := by decide +kernel
theorem d5_16 : decode method_4_code 16 = .ok (.lload 4, 2) := by decide +kernel
theorem d5_18 : decode method_4_code 18 = .ok (.lrem, 1) := by decide +kernel
theorem d5_19 : decode method_4_code 19 = .ok (.lstore 6, 2) := by decide +kernel
theorem d5_21 : decode method_4_code 21 = .ok (.iload_n 0, 1) := by decide +kernel
theorem d5_22 : decode method_4_code 22 = .ok (.i2l, 1) := by decide +kernel
theorem d5_23 : decode method_4_code 23 = .ok (.lload 6, 2) := by decide +kernel
theorem d5_25 : decode method_4_code 25 = .ok (.ladd, 1) := by decide +kernel
theorem d5_26 : decode method_4_code 26 = .ok (.l2i, 1) := by decide +kernel
theorem d5_27 : decode method_4_code 27 = .ok (.ireturn, 1) := by decide +kernel
theorem d6_0 : decode jdk_38_method_2_code 0 = .ok (.aload_n 0, 1) := by decide +kernel
theorem d6_1 : decode jdk_38_method_2_code 1 = .ok (.invokespecial 1, 3) := by decide +kernel
theorem d6_4 : decode jdk_38_method_2_code 4 = .ok (.aload_n 0, 1) := by decide +kernel
theorem d6_5 : decode jdk_38_method_2_code 5 = .ok (.getstatic 39, 3) := by decide +kernel
theorem d6_8 : decode jdk_38_method_2_code 8 = .ok (.putfield 9, 3) := by decide +kernel
theorem d6_11 : decode jdk_38_method_2_code 11 = .ok (.return_, 1) := by decide +kernel
theorem d7_0 : decode jdk_39_method_1_code 0 = .ok (.aload_n 0, 1) := by decide +kernel
theorem d7_1 : decode jdk_39_method_1_code 1 = .ok (.invokespecial 1, 3) := by decide +kernel
theorem d7_4 : decode jdk_39_method_1_code 4 = .ok (.aload_n 0, 1) := by decide +kernel
theorem d7_5 : decode jdk_39_method_1_code 5 = .ok (.iconst 0, 1) := by decide +kernel
theorem d7_6 : decode jdk_39_method_1_code 6 = .ok (.putfield 7, 3) := by decide +kernel
theorem d7_9 : decode jdk_39_method_1_code 9 = .ok (.return_, 1) := by decide +kernel
theorem d8_0 : decode jdk_22_method_1_code 0 = .ok (.aload_n 0, 1) := by decide +kernel
theorem d8_1 : decode jdk_22_method_1_code 1 = .ok (.invokespecial 1, 3) := by decide +kernel
theorem d8_4 : decode jdk_22_method_1_code 4 = .ok (.return_, 1) := by decide +kernel
theorem d10_0 : decode prog_119_method_1_code 0 = .ok (.new 1, 3) := by decide +kernel
theorem d10_3 : decode prog_119_method_1_code 3 = .ok (.dup, 1) := by decide +kernel
theorem d10_4 : decode prog_119_method_1_code 4 = .ok (.aload_n 0, 1) := by decide +kernel
theorem d10_5 : decode prog_119_method_1_code 5 = .ok (.getstatic 3, 3) := by decide +kernel
theorem d10_8 : decode prog_119_method_1_code 8 = .ok (.iload_n 1, 1) := by decide +kernel
theorem d10_9 : decode prog_119_method_1_code 9 = .ok (.iload_n 2, 1) := by decide +kernel
theorem d10_10 : decode prog_119_method_1_code 10 = .ok (.iload_n 3, 1) := by decide +kernel
theorem d10_11 : decode prog_119_method_1_code 11 = .ok (.aconst_null, 1) := by decide +kernel
theorem d10_12 : decode prog_119_method_1_code 12 = .ok (.aconst_null, 1) := by decide +kernel
theorem d10_13 : decode prog_119_method_1_code 13 = .ok (.aconst_null, 1) := by decide +kernel
theorem d10_14 : decode prog_119_method_1_code 14 = .ok (.aconst_null, 1) := by decide +kernel
theorem d10_15 : decode prog_119_method_1_code 15 = .ok (.invokespecial 9, 3) := by decide +kernel
theorem d10_18 : decode prog_119_method_1_code 18 = .ok (.areturn, 1) := by decide +kernel
theorem d11_0 : decode prog_119_method_5_code 0 = .ok (.aload_n 0, 1) := by decide +kernel
theorem d11_1 : decode prog_119_method_5_code 1 = .ok (.invokespecial 52, 3) := by decide +kernel
theorem d11_4 : decode prog_119_method_5_code 4 = .ok (.iload_n 3, 1) := by decide +kernel
theorem d11_5 : decode prog_119_method_5_code 5 = .ok (.iload 4, 2) := by decide +kernel
theorem d11_7 : decode prog_119_method_5_code 7 = .ok (.if_icmp .gt 16, 3) := by decide +kernel
theorem d11_10 : decode prog_119_method_5_code 10 = .ok (.iload 5, 2) := by decide +kernel
theorem d11_12 : decode prog_119_method_5_code 12 = .ok (.iload_n 3, 1) := by decide +kernel
theorem d11_13 : decode prog_119_method_5_code 13 = .ok (.if_icmp .lt 10, 3) := by decide +kernel
theorem d11_16 : decode prog_119_method_5_code 16 = .ok (.iload 5, 2) := by decide +kernel
theorem d11_18 : decode prog_119_method_5_code 18 = .ok (.iload 4, 2) := by decide +kernel
theorem d11_20 : decode prog_119_method_5_code 20 = .ok (.if_icmp .le 47, 3) := by decide +kernel
theorem d11_67 : decode prog_119_method_5_code 67 = .ok (.aload_n 0, 1) := by decide +kernel
theorem d11_68 : decode prog_119_method_5_code 68 = .ok (.aload_n 1, 1) := by decide +kernel
theorem d11_69 : decode prog_119_method_5_code 69 = .ok (.putfield 63, 3) := by decide +kernel
theorem d11_72 : decode prog_119_method_5_code 72 = .ok (.aload_n 0, 1) := by decide +kernel
theorem d11_73 : decode prog_119_method_5_code 73 = .ok (.aload_n 2, 1) := by decide +kernel
theorem d11_74 : decode prog_119_method_5_code 74 = .ok (.putfield 67, 3) := by decide +kernel
theorem d11_77 : decode prog_119_method_5_code 77 = .ok (.aload_n 0, 1) := by decide +kernel
theorem d11_78 : decode prog_119_method_5_code 78 = .ok (.iload_n 3, 1) := by decide +kernel
theorem d11_79 : decode prog_119_method_5_code 79 = .ok (.putfield 70, 3) := by decide +kernel
theorem d11_82 : decode prog_119_method_5_code 82 = .ok (.aload_n 0, 1) := by decide +kernel
theorem d11_83 : decode prog_119_method_5_code 83 = .ok (.iload 4, 2) := by decide +kernel
theorem d11_85 : decode prog_119_method_5_code 85 = .ok (.putfield 74, 3) := by decide +kernel
theorem d11_88 : decode prog_119_method_5_code 88 = .ok (.aload_n 0, 1) := by decide +kernel
theorem d11_89 : decode prog_119_method_5_code 89 = .ok (.iload 5, 2) := by decide +kernel
theorem d11_91 : decode prog_119_method_5_code 91 = .ok (.putfield 77, 3) := by decide +kernel
theorem d11_94 : decode prog_119_method_5_code 94 = .ok (.aload_n 0, 1) := by decide +kernel
theorem d11_95 : decode prog_119_method_5_code 95 = .ok (.aload 6, 2) := by decide +kernel
theorem d11_97 : decode prog_119_method_5_code 97 = .ok (.putfield 80, 3) := by decide +kernel
theorem d11_100 : decode prog_119_method_5_code 100 = .ok (.aload_n 0, 1) := by decide +kernel
theorem d11_101 : decode prog_119_method_5_code 101 = .ok (.aload 7, 2) := by decide +kernel
theorem d11_103 : decode prog_119_method_5_code 103 = .ok (.putfield 84, 3) := by decide +kernel
theorem d11_106 : decode prog_119_method_5_code 106 = .ok (.aload_n 0, 1) := by decide +kernel
theorem d11_107 : decode prog_119_method_5_code 107 = .ok (.aload 8, 2) := by decide +kernel
theorem d11_109 : decode prog_119_method_5_code 109 = .ok (.putfield 88, 3) := by decide +kernel
theorem d11_112 : decode prog_119_method_5_code 112 = .ok (.aload_n 0, 1) := by decide +kernel
theorem d11_113 : decode prog_119_method_5_code 113 = .ok (.aload 9, 2) := by decide +kernel
theorem d11_115 : decode prog_119_method_5_code 115 = .ok (.putfield 91, 3) := by decide +kernel
theorem d11_118 : decode prog_119_method_5_code 118 = .ok (.return_, 1) := by decide +kernel
theorem d12_0 : decode jdk_38_method_25_code 0 = .ok (.aload_n 0, 1) := by decide +kernel
theorem d12_1 : decode jdk_38_method_25_code 1 = .ok (.dup, 1) := by decide +kernel
theorem d12_2 : decode jdk_38_method_25_code 2 = .ok (.getfield 63, 3) := by decide +kernel
theorem d12_5 : decode jdk_38_method_25_code 5 = .ok (.iconst 1, 1) := by decide +kernel
theorem d12_6 : decode jdk_38_method_25_code 6 = .ok (.iadd, 1) := by decide +kernel
theorem d12_7 : decode jdk_38_method_25_code 7 = .ok (.putfield 63, 3) := by decide +kernel
theorem d12_10 : decode jdk_38_method_25_code 10 = .ok (.aload_n 0, 1) := by decide +kernel
theorem d12_11 : decode jdk_38_method_25_code 11 = .ok (.aload_n 1, 1) := by decide +kernel
theorem d12_12 : decode jdk_38_method_25_code 12 = .ok (.aload_n 0, 1) := by decide +kernel
theorem d12_13 : decode jdk_38_method_25_code 13 = .ok (.getfield 9, 3) := by decide +kernel
theorem d12_16 : decode jdk_38_method_25_code 16 = .ok (.aload_n 0, 1) := by decide +kernel
theorem d12_17 : decode jdk_38_method_25_code 17 = .ok (.getfield 48, 3) := by decide +kernel
theorem d12_20 : decode jdk_38_method_25_code 20 = .ok (.invokevirtual 131, 3) := by decide +kernel
theorem d12_23 : decode jdk_38_method_25_code 23 = .ok (.iconst 1, 1) := by decide +kernel
theorem d12_24 : decode jdk_38_method_25_code 24 = .ok (.ireturn, 1) := by decide +kernel
theorem d13_0 : decode jdk_38_method_24_code 0 = .ok (.iload_n 3, 1) := by decide +kernel
theorem d13_1 : decode jdk_38_method_24_code 1 = .ok (.aload_n 2, 1) := by decide +kernel
theorem d13_2 : decode jdk_38_method_24_code 2 = .ok (.arraylength, 1) := by decide +kernel
theorem d13_3 : decode jdk_38_method_24_code 3 = .ok (.if_icmp .ne 8, 3) := by decide +kernel
theorem d13_6 : decode jdk_38_method_24_code 6 = .ok (.aload_n 0, 1) := by decide +kernel
theorem d13_7 : decode jdk_38_method_24_code 7 = .ok (.invokevirtual 129, 3) := by decide +kernel
theorem d13_10 : decode jdk_38_method_24_code 10 = .ok (.astore_n 2, 1) := by decide +kernel
theorem d13_11 : decode jdk_38_method_24_code 11 = .ok (.aload_n 2, 1) := by decide +kernel
theorem d13_12 : decode jdk_38_method_24_code 12 = .ok (.iload_n 3, 1) := by decide +kernel
theorem d13_13 : decode jdk_38_method_24_code 13 = .ok (.aload_n 1, 1) := by decide +kernel
theorem d13_14 : decode jdk_38_method_24_code 14 = .ok (.aastore, 1) := by decide +kernel
theorem d13_15 : decode jdk_38_method_24_code 15 = .ok (.aload_n 0, 1) := by decide +kernel
theorem d13_16 : decode jdk_38_method_24_code 16 = .ok (.iload_n 3, 1) := by decide +kernel
theorem d13_17 : decode jdk_38_method_24_code 17 = .ok (.iconst 1, 1) := by decide +kernel
theorem d13_18 : decode jdk_38_method_24_code 18 = .ok (.iadd, 1) := by decide +kernel
theorem d13_19 : decode jdk_38_method_24_code 19 = .ok (.putfield 48, 3) := by decide +kernel
theorem d13_22 : decode jdk_38_method_24_code 22 = .ok (.return_, 1) := by decide +kernel
theorem d14_0 : decode jdk_38_method_7_code 0 = .ok (.aload_n 0, 1) := by decide +kernel
theorem d14_1 : decode jdk_38_method_7_code 1 = .ok (.aload_n 0, 1) := by decide +kernel
theorem d14_2 : decode jdk_38_method_7_code 2 = .ok (.getfield 48, 3) := by decide +kernel
theorem d14_5 : decode jdk_38_method_7_code 5 = .ok (.iconst 1, 1) := by decide +kernel
theorem d14_6 : decode jdk_38_method_7_code 6 = .ok (.iadd, 1) := by decide +kernel
theorem d14_7 : decode jdk_38_method_7_code 7 = .ok (.invokevirtual 69, 3) := by decide +kernel
theorem d14_10 : decode jdk_38_method_7_code 10 = .ok (.areturn, 1) := by decide +kernel
theorem d15_0 : decode jdk_38_method_6_code 0 = .ok (.aload_n 0, 1) := by decide +kernel
theorem d15_1 : decode jdk_38_method_6_code 1 = .ok (.getfield 9, 3) := by decide +kernel
theorem d15_4 : decode jdk_38_method_6_code 4 = .ok (.arraylength, 1) := by decide +kernel
theorem d15_5 : decode jdk_38_method_6_code 5 = .ok (.istore_n 2, 1) := by decide +kernel
theorem d15_6 : decode jdk_38_method_6_code 6 = .ok (.iload_n 2, 1) := by decide +kernel
theorem d15_7 : decode jdk_38_method_6_code 7 = .ok (.ifCond .gt 13, 3) := by decide +kernel
theorem d15_10 : decode jdk_38_method_6_code 10 = .ok (.aload_n 0, 1) := by decide +kernel
theorem d15_11 : decode jdk_38_method_6_code 11 = .ok (.getfield 9, 3) := by decide +kernel
theorem d15_14 : decode jdk_38_method_6_code 14 = .ok (.getstatic 39, 3) := by decide +kernel
theorem d15_17 : decode jdk_38_method_6_code 17 = .ok (.if_acmp .eq 28, 3) := by decide +kernel
theorem d15_45 : decode jdk_38_method_6_code 45 = .ok (.aload_n 0, 1) := by decide +kernel
theorem d15_46 : decode jdk_38_method_6_code 46 = .ok (.bipush 10, 2) := by decide +kernel
theorem d15_48 : decode jdk_38_method_6_code 48 = .ok (.iload_n 1, 1) := by decide +kernel
theorem d15_49 : decode jdk_38_method_6_code 49 = .ok (.invokestatic 79, 3) := by decide +kernel
theorem d15_52 : decode jdk_38_method_6_code 52 = .ok (.anewarray 7, 3) := by decide +kernel
theorem d15_55 : decode jdk_38_method_6_code 55 = .ok (.dup_x1, 1) := by decide +kernel
theorem d15_56 : decode jdk_38_method_6_code 56 = .ok (.putfield 9, 3) := by decide +kernel
theorem d15_59 : decode jdk_38_method_6_code 59 = .ok (.areturn, 1) := by decide +kernel
theorem d16_0 : decode prog_119_method_4_code 0 = .ok (.new 1, 3) := by decide +kernel
theorem d16_3 : decode prog_119_method_4_code 3 = .ok (.dup, 1) := by decide +kernel
theorem d16_4 : decode prog_119_method_4_code 4 = .ok (.aload_n 0, 1) := by decide +kernel
theorem d16_5 : decode prog_119_method_4_code 5 = .ok (.getstatic 26, 3) := by decide +kernel
theorem d16_8 : decode prog_119_method_4_code 8 = .ok (.iconst 0, 1) := by decide +kernel
theorem d16_9 : decode prog_119_method_4_code 9 = .ok (.iconst 0, 1) := by decide +kernel
theorem d16_10 : decode prog_119_method_4_code 10 = .ok (.iconst 0, 1) := by decide +kernel
theorem d16_11 : decode prog_119_method_4_code 11 = .ok (.aconst_null, 1) := by decide +kernel
theorem d16_12 : decode prog_119_method_4_code 12 = .ok (.aload_n 1, 1) := by decide +kernel
theorem d16_13 : decode prog_119_method_4_code 13 = .ok (.aload_n 2, 1) := by decide +kernel
theorem d16_14 : decode prog_119_method_4_code 14 = .ok (.aload_n 3, 1) := by decide +kernel
theorem d16_15 : decode prog_119_method_4_code 15 = .ok (.invokespecial 9, 3) := by decide +kernel
theorem d16_18 : decode prog_119_method_4_code 18 = .ok (.astore 4, 2) := by decide +kernel
theorem d16_20 : decode prog_119_method_4_code 20 = .ok (.aload 4, 2) := by decide +kernel
theorem d16_22 : decode prog_119_method_4_code 22 = .ok (.aload_n 1, 1) := by decide +kernel
theorem d16_23 : decode prog_119_method_4_code 23 = .ok (.invokevirtual 29, 3) := by decide +kernel
theorem d16_26 : decode prog_119_method_4_code 26 = .ok (.ifCond .ne 36, 3) := by decide +kernel
theorem d16_62 : decode prog_119_method_4_code 62 = .ok (.aload 4, 2) := by decide +kernel
theorem d16_64 : decode prog_119_method_4_code 64 = .ok (.areturn, 1) := by decide +kernel
theorem d17_0 : decode prog_119_method_12_code 0 = .ok (.aload_n 0, 1) := by decide +kernel
theorem d17_1 : decode prog_119_method_12_code 1 = .ok (.getfield 67, 3) := by decide +kernel
theorem d17_4 : decode prog_119_method_12_code 4 = .ok (.getstatic 26, 3) := by decide +kernel
theorem d17_7 : decode prog_119_method_12_code 7 = .ok (.if_acmp .ne 45, 3) := by decide +kernel
theorem d17_10 : decode prog_119_method_12_code 10 = .ok (.aload_n 0, 1) := by decide +kernel
theorem d17_11 : decode prog_119_method_12_code 11 = .ok (.getfield 88, 3) := by decide +kernel
theorem d17_14 : decode prog_119_method_12_code 14 = .ok (.ifnull 14, 3) := by decide +kernel
theorem d17_28 : decode prog_119_method_12_code 28 = .ok (.aload_n 0, 1) := by decide +kernel
theorem d17_29 : decode prog_119_method_12_code 29 = .ok (.getfield 91, 3) := by decide +kernel
theorem d17_32 : decode prog_119_method_12_code 32 = .ok (.ifnull 14, 3) := by decide +kernel
theorem d17_46 : decode prog_119_method_12_code 46 = .ok (.iconst 1, 1) := by decide +kernel
theorem d17_47 : decode prog_119_method_12_code 47 = .ok (.goto 4, 3) := by decide +kernel
theorem d17_51 : decode prog_119_method_12_code 51 = .ok (.ireturn, 1) := by decide +kernel
theorem d18_0 : decode prog_51_method_1_code 0 = .ok (.aload_n 0, 1) := by decide +kernel
theorem d18_1 : decode prog_51_method_1_code 1 = .ok (.invokespecial 3, 3) := by decide +kernel
theorem d18_4 : decode prog_51_method_1_code 4 = .ok (.aload_n 1, 1) := by decide +kernel
theorem d18_5 : decode prog_51_method_1_code 5 = .ok (.invokeinterface 9 1, 5) := by decide +kernel
theorem d18_10 : decode prog_51_method_1_code 10 = .ok (.istore_n 2, 1) := by decide +kernel
theorem d18_11 : decode prog_51_method_1_code 11 = .ok (.aload_n 0, 1) := by decide +kernel
theorem d18_12 : decode prog_51_method_1_code 12 = .ok (.iload_n 2, 1) := by decide +kernel
theorem d18_13 : decode prog_51_method_1_code 13 = .ok (.newarray .int, 2) := by decide +kernel
theorem d18_15 : decode prog_51_method_1_code 15 = .ok (.putfield 15, 3) := by decide +kernel
theorem d18_18 : decode prog_51_method_1_code 18 = .ok (.aload_n 0, 1) := by decide +kernel
theorem d18_19 : decode prog_51_method_1_code 19 = .ok (.iload_n 2, 1) := by decide +kernel
theorem d18_20 : decode prog_51_method_1_code 20 = .ok (.newarray .int, 2) := by decide +kernel
theorem d18_22 : decode prog_51_method_1_code 22 = .ok (.putfield 21, 3) := by decide +kernel
theorem d18_25 : decode prog_51_method_1_code 25 = .ok (.aload_n 0, 1) := by decide +kernel
theorem d18_26 : decode prog_51_method_1_code 26 = .ok (.iload_n 2, 1) := by decide +kernel
theorem d18_27 : decode prog_51_method_1_code 27 = .ok (.newarray .long, 2) := by decide +kernel
theorem d18_29 : decode prog_51_method_1_code 29 = .ok (.putfield 24, 3) := by decide +kernel
theorem d18_32 : decode prog_51_method_1_code 32 = .ok (.aload_n 0, 1) := by decide +kernel
theorem d18_33 : decode prog_51_method_1_code 33 = .ok (.iload_n 2, 1) := by decide +kernel
theorem d18_34 : decode prog_51_method_1_code 34 = .ok (.newarray .int, 2) := by decide +kernel
theorem d18_36 : decode prog_51_method_1_code 36 = .ok (.putfield 28, 3) := by decide +kernel
theorem d18_39 : decode prog_51_method_1_code 39 = .ok (.iload_n 2, 1) := by decide +kernel
theorem d18_40 : decode prog_51_method_1_code 40 = .ok (.newarray .int, 2) := by decide +kernel
theorem d18_42 : decode prog_51_method_1_code 42 = .ok (.astore_n 3, 1) := by decide +kernel
theorem d18_43 : decode prog_51_method_1_code 43 = .ok (.iconst 0, 1) := by decide +kernel
theorem d18_44 : decode prog_51_method_1_code 44 = .ok (.istore 4, 2) := by decide +kernel
theorem d18_46 : decode prog_51_method_1_code 46 = .ok (.iconst 0, 1) := by decide +kernel
theorem d18_47 : decode prog_51_method_1_code 47 = .ok (.istore 5, 2) := by decide +kernel
theorem d18_49 : decode prog_51_method_1_code 49 = .ok (.iload 5, 2) := by decide +kernel
theorem d18_51 : decode prog_51_method_1_code 51 = .ok (.iload_n 2, 1) := by decide +kernel
theorem d18_52 : decode prog_51_method_1_code 52 = .ok (.if_icmp .ge 134, 3) := by decide +kernel
theorem d18_55 : decode prog_51_method_1_code 55 = .ok (.aload_n 1, 1) := by decide +kernel
theorem d18_56 : decode prog_51_method_1_code 56 = .ok (.iload 5, 2) := by decide +kernel
theorem d18_58 : decode prog_51_method_1_code 58 = .ok (.invokeinterface 31 2, 5) := by decide +kernel
theorem d18_63 : decode prog_51_method_1_code 63 = .ok (.checkcast 35, 3) := by decide +kernel
theorem d18_66 : decode prog_51_method_1_code 66 = .ok (.astore 6, 2) := by decide +kernel
theorem d18_68 : decode prog_51_method_1_code 68 = .ok (.aload 6, 2) := by decide +kernel
theorem d18_70 : decode prog_51_method_1_code 70 = .ok (.invokestatic 37, 3) := by decide +kernel
theorem d18_73 : decode prog_51_method_1_code 73 = .ok (.istore 7, 2) := by decide +kernel
theorem d18_75 : decode prog_51_method_1_code 75 = .ok (.iconst 0, 1) := by decide +kernel
theorem d18_76 : decode prog_51_method_1_code 76 = .ok (.istore 8, 2) := by decide +kernel
theorem d18_78 : decode prog_51_method_1_code 78 = .ok (.iload 8, 2) := by decide +kernel
theorem d18_80 : decode prog_51_method_1_code 80 = .ok (.iload 4, 2) := by decide +kernel
theorem d18_82 : decode prog_51_method_1_code 82 = .ok (.if_icmp .ge 21, 3) := by decide +kernel
theorem d18_85 : decode prog_51_method_1_code 85 = .ok (.aload_n 3, 1) := by decide +kernel
theorem d18_86 : decode prog_51_method_1_code 86 = .ok (.iload 8, 2) := by decide +kernel
theorem d18_88 : decode prog_51_method_1_code 88 = .ok (.iaload, 1) := by decide +kernel
theorem d18_89 : decode prog_51_method_1_code 89 = .ok (.iload 7, 2) := by decide +kernel
theorem d18_91 : decode prog_51_method_1_code 91 = .ok (.iadd, 1) := by decide +kernel
theorem d18_92 : decode prog_51_method_1_code 92 = .ok (.bipush 64, 2) := by decide +kernel
theorem d18_94 : decode prog_51_method_1_code 94 = .ok (.if_icmp .le 9, 3) := by decide +kernel
theorem d18_97 : decode prog_51_method_1_code 97 = .ok (.iinc 8 1, 3) := by decide +kernel
theorem d18_100 : decode prog_51_method_1_code 100 = .ok (.goto (-22), 3) := by decide +kernel
theorem d18_103 : decode prog_51_method_1_code 103 = .ok (.iload 4, 2) := by decide +kernel
theorem d18_105 : decode prog_51_method_1_code 105 = .ok (.iload 8, 2) := by decide +kernel
theorem d18_107 : decode prog_51_method_1_code 107 = .ok (.iconst 1, 1) := by decide +kernel
theorem d18_108 : decode prog_51_method_1_code 108 = .ok (.iadd, 1) := by decide +kernel
theorem d18_109 : decode prog_51_method_1_code 109 = .ok (.invokestatic 43, 3) := by decide +kernel
theorem d18_112 : decode prog_51_method_1_code 112 = .ok (.istore 4, 2) := by decide +kernel
theorem d18_114 : decode prog_51_method_1_code 114 = .ok (.aload_n 0, 1) := by decide +kernel
theorem d18_115 : decode prog_51_method_1_code 115 = .ok (.getfield 15, 3) := by decide +kernel
theorem d18_118 : decode prog_51_method_1_code 118 = .ok (.iload 5, 2) := by decide +kernel
theorem d18_120 : decode prog_51_method_1_code 120 = .ok (.iload 8, 2) := by decide +kernel
theorem d18_122 : decode prog_51_method_1_code 122 = .ok (.iastore, 1) := by decide +kernel
theorem d18_123 : decode prog_51_method_1_code 123 = .ok (.aload_n 0, 1) := by decide +kernel
theorem d18_124 : decode prog_51_method_1_code 124 = .ok (.getfield 21, 3) := by decide +kernel
theorem d18_127 : decode prog_51_method_1_code 127 = .ok (.iload 5, 2) := by decide +kernel
theorem d18_129 : decode prog_51_method_1_code 129 = .ok (.aload_n 3, 1) := by decide +kernel
theorem d18_130 : decode prog_51_method_1_code 130 = .ok (.iload 8, 2) := by decide +kernel
theorem d18_132 : decode prog_51_method_1_code 132 = .ok (.iaload, 1) := by decide +kernel
theorem d18_133 : decode prog_51_method_1_code 133 = .ok (.iastore, 1) := by decide +kernel
theorem d18_134 : decode prog_51_method_1_code 134 = .ok (.aload_n 0, 1) := by decide +kernel
theorem d18_135 : decode prog_51_method_1_code 135 = .ok (.getfield 24, 3) := by decide +kernel
theorem d18_138 : decode prog_51_method_1_code 138 = .ok (.iload 5, 2) := by decide +kernel
theorem d18_140 : decode prog_51_method_1_code 140 = .ok (.iload 7, 2) := by decide +kernel
theorem d18_142 : decode prog_51_method_1_code 142 = .ok (.ifCond .ne 7, 3) := by decide +kernel
theorem d18_145 : decode prog_51_method_1_code 145 = .ok (.lconst 0, 1) := by decide +kernel
theorem d18_146 : decode prog_51_method_1_code 146 = .ok (.goto 12, 3) := by decide +kernel
theorem d18_149 : decode prog_51_method_1_code 149 = .ok (.ldc2_w 49, 3) := by decide +kernel
theorem d18_152 : decode prog_51_method_1_code 152 = .ok (.bipush 64, 2) := by decide +kernel
theorem d18_154 : decode prog_51_method_1_code 154 = .ok (.iload 7, 2) := by decide +kernel
theorem d18_156 : decode prog_51_method_1_code 156 = .ok (.isub, 1) := by decide +kernel
theorem d18_157 : decode prog_51_method_1_code 157 = .ok (.lushr, 1) := by decide +kernel
theorem d18_158 : decode prog_51_method_1_code 158 = .ok (.lastore, 1) := by decide +kernel
theorem d18_159 : decode prog_51_method_1_code 159 = .ok (.aload_n 0, 1) := by decide +kernel
theorem d18_160 : decode prog_51_method_1_code 160 = .ok (.getfield 28, 3) := by decide +kernel
theorem d18_163 : decode prog_51_method_1_code 163 = .ok (.iload 5, 2) := by decide +kernel
theorem d18_165 : decode prog_51_method_1_code 165 = .ok (.aload 6, 2) := by decide +kernel
theorem d18_167 : decode prog_51_method_1_code 167 = .ok (.invokevirtual 51, 3) := by decide +kernel
theorem d18_170 : decode prog_51_method_1_code 170 = .ok (.iastore, 1) := by decide +kernel
theorem d18_171 : decode prog_51_method_1_code 171 = .ok (.aload_n 3, 1) := by decide +kernel
theorem d18_172 : decode prog_51_method_1_code 172 = .ok (.iload 8, 2) := by decide +kernel
theorem d18_174 : decode prog_51_method_1_code 174 = .ok (.dup2, 1) := by decide +kernel
theorem d18_175 : decode prog_51_method_1_code 175 = .ok (.iaload, 1) := by decide +kernel
theorem d18_176 : decode prog_51_method_1_code 176 = .ok (.iload 7, 2) := by decide +kernel
theorem d18_178 : decode prog_51_method_1_code 178 = .ok (.iadd, 1) := by decide +kernel
theorem d18_179 : decode prog_51_method_1_code 179 = .ok (.iastore, 1) := by decide +kernel
theorem d18_180 : decode prog_51_method_1_code 180 = .ok (.iinc 5 1, 3) := by decide +kernel
theorem d18_183 : decode prog_51_method_1_code 183 = .ok (.goto (-134), 3) := by decide +kernel
theorem d18_186 : decode prog_51_method_1_code 186 = .ok (.aload_n 0, 1) := by decide +kernel
theorem d18_187 : decode prog_51_method_1_code 187 = .ok (.iload 4, 2) := by decide +kernel
theorem d18_189 : decode prog_51_method_1_code 189 = .ok (.putfield 54, 3) := by decide +kernel
theorem d18_192 : decode prog_51_method_1_code 192 = .ok (.return_, 1) := by decide +kernel
theorem d19_0 : decode jdk_38_method_8_code 0 = .ok (.aload_n 0, 1) := by decide +kernel
theorem d19_1 : decode jdk_38_method_8_code 1 = .ok (.getfield 48, 3) := by decide +kernel
theorem d19_4 : decode jdk_38_method_8_code 4 = .ok (.ireturn, 1) := by decide +kernel
theorem d20_0 : decode jdk_38_method_20_code 0 = .ok (.iload_n 1, 1) := by decide +kernel
theorem d20_1 : decode jdk_38_method_20_code 1 = .ok (.aload_n 0, 1) := by decide +kernel
theorem d20_2 : decode jdk_38_method_20_code 2 = .ok (.getfield 48, 3) := by decide +kernel
theorem d20_5 : decode jdk_38_method_20_code 5 = .ok (.invokestatic 118, 3) := by decide +kernel
theorem d20_8 : decode jdk_38_method_20_code 8 = .ok (.pop, 1) := by decide +kernel
theorem d20_9 : decode jdk_38_method_20_code 9 = .ok (.aload_n 0, 1) := by decide +kernel
theorem d20_10 : decode jdk_38_method_20_code 10 = .ok (.iload_n 1, 1) := by decide +kernel
theorem d20_11 : decode jdk_38_method_20_code 11 = .ok (.invokevirtual 123, 3) := by decide +kernel
theorem d20_14 : decode jdk_38_method_20_code 14 = .ok (.areturn, 1) := by decide +kernel
theorem d21_0 : decode jdk_31_method_17_code 0 = .ok (.iload_n 0, 1) := by decide +kernel
theorem d21_1 : decode jdk_31_method_17_code 1 = .ok (.iload_n 1, 1) := by decide +kernel
theorem d21_2 : decode jdk_31_method_17_code 2 = .ok (.aconst_null, 1) := by decide +kernel
theorem d21_3 : decode jdk_31_method_17_code 3 = .ok (.invokestatic 105, 3) := by decide +kernel
theorem d21_6 : decode jdk_31_method_17_code 6 = .ok (.ireturn, 1) := by decide +kernel
theorem d22_0 : decode jdk_41_method_11_code 0 = .ok (.iload_n 0, 1) := by decide +kernel
theorem d22_1 : decode jdk_41_method_11_code 1 = .ok (.ifCond .lt 8, 3) := by decide +kernel
theorem d22_4 : decode jdk_41_method_11_code 4 = .ok (.iload_n 0, 1) := by decide +kernel
theorem d22_5 : decode jdk_41_method_11_code 5 = .ok (.iload_n 1, 1) := by decide +kernel
theorem d22_6 : decode jdk_41_method_11_code 6 = .ok (.if_icmp .lt 10, 3) := by decide +kernel
theorem d22_16 : decode jdk_41_method_11_code 16 = .ok (.iload_n 0, 1) := by decide +kernel
theorem d22_17 : decode jdk_41_method_11_code 17 = .ok (.ireturn, 1) := by decide +kernel
theorem d23_0 : decode jdk_38_method_18_code 0 = .ok (.aload_n 0, 1) := by decide +kernel
theorem d23_1 : decode jdk_38_method_18_code 1 = .ok (.getfield 9, 3) := by decide +kernel
theorem d23_4 : decode jdk_38_method_18_code 4 = .ok (.iload_n 1, 1) := by decide +kernel
theorem d23_5 : decode jdk_38_method_18_code 5 = .ok (.aaload, 1) := by decide +kernel
theorem d23_6 : decode jdk_38_method_18_code 6 = .ok (.areturn, 1) := by decide +kernel
theorem d24_0 : decode prog_51_method_2_code 0 = .ok (.aload_n 0, 1) := by decide +kernel
theorem d24_1 : decode prog_51_method_2_code 1 = .ok (.invokevirtual 58, 3) := by decide +kernel
theorem d24_4 : decode prog_51_method_2_code 4 = .ok (.getstatic 62, 3) := by decide +kernel
theorem d24_7 : decode prog_51_method_2_code 7 = .ok (.if_acmp .ne 6, 3) := by decide +kernel
theorem d24_10 : decode prog_51_method_2_code 10 = .ok (.bipush 31, 2) := by decide +kernel
theorem d24_12 : decode prog_51_method_2_code 12 = .ok (.ireturn, 1) := by decide +kernel
theorem d24_13 : decode prog_51_method_2_code 13 = .ok (.aload_n 0, 1) := by decide +kernel
theorem d24_14 : decode prog_51_method_2_code 14 = .ok (.invokevirtual 68, 3) := by decide +kernel
theorem d24_17 : decode prog_51_method_2_code 17 = .ok (.i2l, 1) := by decide +kernel
theorem d24_18 : decode prog_51_method_2_code 18 = .ok (.aload_n 0, 1) := by decide +kernel
theorem d24_19 : decode prog_51_method_2_code 19 = .ok (.invokevirtual 51, 3) := by decide +kernel
theorem d24_22 : decode prog_51_method_2_code 22 = .ok (.i2l, 1) := by decide +kernel
theorem d24_23 : decode prog_51_method_2_code 23 = .ok (.lsub, 1) := by decide +kernel
theorem d24_24 : decode prog_51_method_2_code 24 = .ok (.lstore_n 1, 1) := by decide +kernel
theorem d24_25 : decode prog_51_method_2_code 25 = .ok (.bipush 64, 2) := by decide +kernel
theorem d24_27 : decode prog_51_method_2_code 27 = .ok (.lload_n 1, 1) := by decide +kernel
theorem d24_28 : decode prog_51_method_2_code 28 = .ok (.invokestatic 71, 3) := by decide +kernel
theorem d24_31 : decode prog_51_method_2_code 31 = .ok (.isub, 1) := by decide +kernel
theorem d24_32 : decode prog_51_method_2_code 32 = .ok (.ireturn, 1) := by decide +kernel
theorem d25_0 : decode prog_119_method_7_code 0 = .ok (.aload_n 0, 1) := by decide +kernel
theorem d25_1 : decode prog_119_method_7_code 1 = .ok (.getfield 67, 3) := by decide +kernel
theorem d25_4 : decode prog_119_method_7_code 4 = .ok (.areturn, 1) := by decide +kernel
theorem d26_0 : decode prog_119_method_9_code 0 = .ok (.aload_n 0, 1) := by decide +kernel
theorem d26_1 : decode prog_119_method_9_code 1 = .ok (.getfield 74, 3) := by decide +kernel
theorem d26_4 : decode prog_119_method_9_code 4 = .ok (.ireturn, 1) := by decide +kernel
theorem d27_0 : decode prog_119_method_8_code 0 = .ok (.aload_n 0, 1) := by decide +kernel
theorem d27_1 : decode prog_119_method_8_code 1 = .ok (.getfield 70, 3) := by decide +kernel
theorem d27_4 : decode prog_119_method_8_code 4 = .ok (.ireturn, 1) := by decide +kernel
theorem d28_0 : decode jdk_35_method_48_code 0 = .ok (.lload_n 0, 1) := by decide +kernel
theorem d28_1 : decode jdk_35_method_48_code 1 = .ok (.bipush 32, 2) := by decide +kernel
theorem d28_3 : decode jdk_35_method_48_code 3 = .ok (.lushr, 1) := by decide +kernel
theorem d28_4 : decode jdk_35_method_48_code 4 = .ok (.l2i, 1) := by decide +kernel
theorem d28_5 : decode jdk_35_method_48_code 5 = .ok (.istore_n 2, 1) := by decide +kernel
theorem d28_6 : decode jdk_35_method_48_code 6 = .ok (.iload_n 2, 1) := by decide +kernel
theorem d28_7 : decode jdk_35_method_48_code 7 = .ok (.ifCond .ne 14, 3) := by decide +kernel
theorem d28_10 : decode jdk_35_method_48_code 10 = .ok (.bipush 32, 2) := by decide +kernel
theorem d28_12 : decode jdk_35_method_48_code 12 = .ok (.lload_n 0, 1) := by decide +kernel
theorem d28_13 : decode jdk_35_method_48_code 13 = .ok (.l2i, 1) := by decide +kernel
theorem d28_14 : decode jdk_35_method_48_code 14 = .ok (.invokestatic 308, 3) := by decide +kernel
theorem d28_17 : decode jdk_35_method_48_code 17 = .ok (.iadd, 1) := by decide +kernel
theorem d28_18 : decode jdk_35_method_48_code 18 = .ok (.goto 7, 3) := by decide +kernel
theorem d28_25 : decode jdk_35_method_48_code 25 = .ok (.ireturn, 1) := by decide +kernel
theorem d29_0 : decode jdk_33_method_47_code 0 = .ok (.iload_n 0, 1) := by decide +kernel
theorem d29_1 : decode jdk_33_method_47_code 1 = .ok (.ifCond .gt 14, 3) := by decide +kernel
theorem d29_4 : decode jdk_33_method_47_code 4 = .ok (.iload_n 0, 1) := by decide +kernel
theorem d29_5 : decode jdk_33_method_47_code 5 = .ok (.ifCond .ne 8, 3) := by decide +kernel
theorem d29_8 : decode jdk_33_method_47_code 8 = .ok (.bipush 32, 2) := by decide +kernel
theorem d29_10 : decode jdk_33_method_47_code 10 = .ok (.goto 4, 3) := by decide +kernel
theorem d29_13 : decode jdk_33_method_47_code 13 = .ok (.iconst 0, 1) := by decide +kernel
theorem d29_14 : decode jdk_33_method_47_code 14 = .ok (.ireturn, 1) := by decide +kernel
theorem d29_15 : decode jdk_33_method_47_code 15 = .ok (.bipush 31, 2) := by decide +kernel
theorem d29_17 : decode jdk_33_method_47_code 17 = .ok (.istore_n 1, 1) := by decide +kernel
theorem d29_18 : decode jdk_33_method_47_code 18 = .ok (.iload_n 0, 1) := by decide +kernel
theorem d29_19 : decode jdk_33_method_47_code 19 = .ok (.ldc_w 264, 3) := by decide +kernel
theorem d29_22 : decode jdk_33_method_47_code 22 = .ok (.if_icmp .lt 11, 3) := by decide +kernel
theorem d29_25 : decode jdk_33_method_47_code 25 = .ok (.iinc 1 (-16), 3) := by decide +kernel
theorem d29_28 : decode jdk_33_method_47_code 28 = .ok (.iload_n 0, 1) := by decide +kernel
theorem d29_29 : decode jdk_33_method_47_code 29 = .ok (.bipush 16, 2) := by decide +kernel
theorem d29_31 : decode jdk_33_method_47_code 31 = .ok (.iushr, 1) := by decide +kernel
theorem d29_32 : decode jdk_33_method_47_code 32 = .ok (.istore_n 0, 1) := by decide +kernel
theorem d29_33 : decode jdk_33_method_47_code 33 = .ok (.iload_n 0, 1) := by decide +kernel
theorem d29_34 : decode jdk_33_method_47_code 34 = .ok (.sipush 256, 3) := by decide +kernel
theorem d29_37 : decode jdk_33_method_47_code 37 = .ok (.if_icmp .lt 11, 3) := by decide +kernel
theorem d29_40 : decode jdk_33_method_47_code 40 = .ok (.iinc 1 (-8), 3) := by decide +kernel
theorem d29_43 : decode jdk_33_method_47_code 43 = .ok (.iload_n 0, 1) := by decide +kernel
theorem d29_44 : decode jdk_33_method_47_code 44 = .ok (.bipush 8, 2) := by decide +kernel
theorem d29_46 : decode jdk_33_method_47_code 46 = .ok (.iushr, 1) := by decide +kernel
theorem d29_47 : decode jdk_33_method_47_code 47 = .ok (.istore_n 0, 1) := by decide +kernel
theorem d29_48 : decode jdk_33_method_47_code 48 = .ok (.iload_n 0, 1) := by decide +kernel
theorem d29_49 : decode jdk_33_method_47_code 49 = .ok (.bipush 16, 2) := by decide +kernel
theorem d29_51 : decode jdk_33_method_47_code 51 = .ok (.if_icmp .lt 10, 3) := by decide +kernel
theorem d29_54 : decode jdk_33_method_47_code 54 = .ok (.iinc 1 (-4), 3) := by decide +kernel
theorem d29_57 : decode jdk_33_method_47_code 57 = .ok (.iload_n 0, 1) := by decide +kernel
theorem d29_58 : decode jdk_33_method_47_code 58 = .ok (.iconst 4, 1) := by decide +kernel
theorem d29_59 : decode jdk_33_method_47_code 59 = .ok (.iushr, 1) := by decide +kernel
theorem d29_60 : decode jdk_33_method_47_code 60 = .ok (.istore_n 0, 1) := by decide +kernel
theorem d29_61 : decode jdk_33_method_47_code 61 = .ok (.iload_n 0, 1) := by decide +kernel
theorem d29_62 : decode jdk_33_method_47_code 62 = .ok (.iconst 4, 1) := by decide +kernel
theorem d29_63 : decode jdk_33_method_47_code 63 = .ok (.if_icmp .lt 10, 3) := by decide +kernel
theorem d29_66 : decode jdk_33_method_47_code 66 = .ok (.iinc 1 (-2), 3) := by decide +kernel
theorem d29_69 : decode jdk_33_method_47_code 69 = .ok (.iload_n 0, 1) := by decide +kernel
theorem d29_70 : decode jdk_33_method_47_code 70 = .ok (.iconst 2, 1) := by decide +kernel
theorem d29_71 : decode jdk_33_method_47_code 71 = .ok (.iushr, 1) := by decide +kernel
theorem d29_72 : decode jdk_33_method_47_code 72 = .ok (.istore_n 0, 1) := by decide +kernel
theorem d29_73 : decode jdk_33_method_47_code 73 = .ok (.iload_n 1, 1) := by decide +kernel
theorem d29_74 : decode jdk_33_method_47_code 74 = .ok (.iload_n 0, 1) := by decide +kernel
theorem d29_75 : decode jdk_33_method_47_code 75 = .ok (.iconst 1, 1) := by decide +kernel
theorem d29_76 : decode jdk_33_method_47_code 76 = .ok (.iushr, 1) := by decide +kernel
theorem d29_77 : decode jdk_33_method_47_code 77 = .ok (.isub, 1) := by decide +kernel
theorem d29_78 : decode jdk_33_method_47_code 78 = .ok (.ireturn, 1) := by decide +kernel
theorem d30_0 : decode prog_51_method_4_code 0 = .ok (.aload_n 2, 1) := by decide +kernel
theorem d30_1 : decode prog_51_method_4_code 1 = .ok (.iload_n 3, 1) := by decide +kernel
theorem d30_2 : decode prog_51_method_4_code 2 = .ok (.iload_n 3, 1) := by decide +kernel
theorem d30_3 : decode prog_51_method_4_code 3 = .ok (.aload_n 0, 1) := by decide +kernel
theorem d30_4 : decode prog_51_method_4_code 4 = .ok (.getfield 54, 3) := by decide +kernel
theorem d30_7 : decode prog_51_method_4_code 7 = .ok (.iadd, 1) := by decide +kernel
theorem d30_8 : decode prog_51_method_4_code 8 = .ok (.lconst 0, 1) := by decide +kernel
theorem d30_9 : decode prog_51_method_4_code 9 = .ok (.invokestatic 75, 3) := by decide +kernel
theorem d30_12 : decode prog_51_method_4_code 12 = .ok (.iconst 0, 1) := by decide +kernel
theorem d30_13 : decode prog_51_method_4_code 13 = .ok (.istore 4, 2) := by decide +kernel
theorem d30_15 : decode prog_51_method_4_code 15 = .ok (.iload 4, 2) := by decide +kernel
theorem d30_17 : decode prog_51_method_4_code 17 = .ok (.aload_n 1, 1) := by decide +kernel
theorem d30_18 : decode prog_51_method_4_code 18 = .ok (.arraylength, 1) := by decide +kernel
theorem d30_19 : decode prog_51_method_4_code 19 = .ok (.if_icmp .ge 49, 3) := by decide +kernel
theorem d30_22 : decode prog_51_method_4_code 22 = .ok (.aload_n 1, 1) := by decide +kernel
theorem d30_23 : decode prog_51_method_4_code 23 = .ok (.iload 4, 2) := by decide +kernel
theorem d30_25 : decode prog_51_method_4_code 25 = .ok (.iaload, 1) := by decide +kernel
theorem d30_26 : decode prog_51_method_4_code 26 = .ok (.i2l, 1) := by decide +kernel
theorem d30_27 : decode prog_51_method_4_code 27 = .ok (.aload_n 0, 1) := by decide +kernel
theorem d30_28 : decode prog_51_method_4_code 28 = .ok (.getfield 28, 3) := by decide +kernel
theorem d30_31 : decode prog_51_method_4_code 31 = .ok (.iload 4, 2) := by decide +kernel
theorem d30_33 : decode prog_51_method_4_code 33 = .ok (.iaload, 1) := by decide +kernel
theorem d30_34 : decode prog_51_method_4_code 34 = .ok (.i2l, 1) := by decide +kernel
theorem d30_35 : decode prog_51_method_4_code 35 = .ok (.lsub, 1) := by decide +kernel
theorem d30_36 : decode prog_51_method_4_code 36 = .ok (.lstore 5, 2) := by decide +kernel
theorem d30_38 : decode prog_51_method_4_code 38 = .ok (.aload_n 2, 1) := by decide +kernel
theorem d30_39 : decode prog_51_method_4_code 39 = .ok (.iload_n 3, 1) := by decide +kernel
theorem d30_40 : decode prog_51_method_4_code 40 = .ok (.aload_n 0, 1) := by decide +kernel
theorem d30_41 : decode prog_51_method_4_code 41 = .ok (.getfield 15, 3) := by decide +kernel
theorem d30_44 : decode prog_51_method_4_code 44 = .ok (.iload 4, 2) := by decide +kernel
theorem d30_46 : decode prog_51_method_4_code 46 = .ok (.iaload, 1) := by decide +kernel
theorem d30_47 : decode prog_51_method_4_code 47 = .ok (.iadd, 1) := by decide +kernel
theorem d30_48 : decode prog_51_method_4_code 48 = .ok (.dup2, 1) := by decide +kernel
theorem d30_49 : decode prog_51_method_4_code 49 = .ok (.laload, 1) := by decide +kernel
theorem d30_50 : decode prog_51_method_4_code 50 = .ok (.lload 5, 2) := by decide +kernel
theorem d30_52 : decode prog_51_method_4_code 52 = .ok (.aload_n 0, 1) := by decide +kernel
theorem d30_53 : decode prog_51_method_4_code 53 = .ok (.getfield 21, 3) := by decide +kernel
theorem d30_56 : decode prog_51_method_4_code 56 = .ok (.iload 4, 2) := by decide +kernel
theorem d30_58 : decode prog_51_method_4_code 58 = .ok (.iaload, 1) := by decide +kernel
theorem d30_59 : decode prog_51_method_4_code 59 = .ok (.lshl, 1) := by decide +kernel
theorem d30_60 : decode prog_51_method_4_code 60 = .ok (.lor, 1) := by decide +kernel
theorem d30_61 : decode prog_51_method_4_code 61 = .ok (.lastore, 1) := by decide +kernel
theorem d30_62 : decode prog_51_method_4_code 62 = .ok (.iinc 4 1, 3) := by decide +kernel
theorem d30_65 : decode prog_51_method_4_code 65 = .ok (.goto (-50), 3) := by decide +kernel
theorem d30_68 : decode prog_51_method_4_code 68 = .ok (.return_, 1) := by decide +kernel
theorem d31_0 : decode jdk_65_method_102_code 0 = .ok (.aload_n 0, 1) := by decide +kernel
theorem d31_1 : decode jdk_65_method_102_code 1 = .ok (.arraylength, 1) := by decide +kernel
theorem d31_2 : decode jdk_65_method_102_code 2 = .ok (.iload_n 1, 1) := by decide +kernel
theorem d31_3 : decode jdk_65_method_102_code 3 = .ok (.iload_n 2, 1) := by decide +kernel
theorem d31_4 : decode jdk_65_method_102_code 4 = .ok (.invokestatic 13, 3) := by decide +kernel
theorem d31_7 : decode jdk_65_method_102_code 7 = .ok (.iload_n 1, 1) := by decide +kernel
theorem d31_8 : decode jdk_65_method_102_code 8 = .ok (.istore 5, 2) := by decide +kernel
theorem d31_10 : decode jdk_65_method_102_code 10 = .ok (.iload 5, 2) := by decide +kernel
theorem d31_12 : decode jdk_65_method_102_code 12 = .ok (.iload_n 2, 1) := by decide +kernel
theorem d31_13 : decode jdk_65_method_102_code 13 = .ok (.if_icmp .ge 14, 3) := by decide +kernel
theorem d31_16 : decode jdk_65_method_102_code 16 = .ok (.aload_n 0, 1) := by decide +kernel
theorem d31_17 : decode jdk_65_method_102_code 17 = .ok (.iload 5, 2) := by decide +kernel
theorem d31_19 : decode jdk_65_method_102_code 19 = .ok (.lload_n 3, 1) := by decide +kernel
theorem d31_20 : decode jdk_65_method_102_code 20 = .ok (.lastore, 1) := by decide +kernel
theorem d31_21 : decode jdk_65_method_102_code 21 = .ok (.iinc 5 1, 3) := by decide +kernel
theorem d31_24 : decode jdk_65_method_102_code 24 = .ok (.goto (-14), 3) := by decide +kernel
theorem d31_27 : decode jdk_65_method_102_code 27 = .ok (.return_, 1) := by decide +kernel
theorem d32_0 : decode jdk_65_method_30_code 0 = .ok (.iload_n 1, 1) := by decide +kernel
theorem d32_1 : decode jdk_65_method_30_code 1 = .ok (.iload_n 2, 1) := by decide +kernel
theorem d32_2 : decode jdk_65_method_30_code 2 = .ok (.if_icmp .le 44, 3) := by decide +kernel
theorem d32_46 : decode jdk_65_method_30_code 46 = .ok (.iload_n 1, 1) := by decide +kernel
theorem d32_47 : decode jdk_65_method_30_code 47 = .ok (.ifCond .ge 12, 3) := by decide +kernel
theorem d32_59 : decode jdk_65_method_30_code 59 = .ok (.iload_n 2, 1) := by decide +kernel
theorem d32_60 : decode jdk_65_method_30_code 60 = .ok (.iload_n 0, 1) := by decide +kernel
theorem d32_61 : decode jdk_65_method_30_code 61 = .ok (.if_icmp .le 12, 3) := by decide +kernel
theorem d32_73 : decode jdk_65_method_30_code 73 = .ok (.return_, 1) := by decide +kernel
theorem d33_0 : decode prog_51_method_5_code 0 = .ok (.aload_n 1, 1) := by decide +kernel
theorem d33_1 : decode prog_51_method_5_code 1 = .ok (.iload_n 2, 1) := by decide +kernel
theorem d33_2 : decode prog_51_method_5_code 2 = .ok (.aload_n 0, 1) := by decide +kernel
theorem d33_3 : decode prog_51_method_5_code 3 = .ok (.getfield 15, 3) := by decide +kernel
theorem d33_6 : decode prog_51_method_5_code 6 = .ok (.iload_n 3, 1) := by decide +kernel
theorem d33_7 : decode prog_51_method_5_code 7 = .ok (.iaload, 1) := by decide +kernel
theorem d33_8 : decode prog_51_method_5_code 8 = .ok (.iadd, 1) := by decide +kernel
theorem d33_9 : decode prog_51_method_5_code 9 = .ok (.laload, 1) := by decide +kernel
theorem d33_10 : decode prog_51_method_5_code 10 = .ok (.aload_n 0, 1) := by decide +kernel
theorem d33_11 : decode prog_51_method_5_code 11 = .ok (.getfield 21, 3) := by decide +kernel
theorem d33_14 : decode prog_51_method_5_code 14 = .ok (.iload_n 3, 1) := by decide +kernel
theorem d33_15 : decode prog_51_method_5_code 15 = .ok (.iaload, 1) := by decide +kernel
theorem d33_16 : decode prog_51_method_5_code 16 = .ok (.lushr, 1) := by decide +kernel
theorem d33_17 : decode prog_51_method_5_code 17 = .ok (.aload_n 0, 1) := by decide +kernel
theorem d33_18 : decode prog_51_method_5_code 18 = .ok (.getfield 24, 3) := by decide +kernel
theorem d33_21 : decode prog_51_method_5_code 21 = .ok (.iload_n 3, 1) := by decide +kernel
theorem d33_22 : decode prog_51_method_5_code 22 = .ok (.laload, 1) := by decide +kernel
theorem d33_23 : decode prog_51_method_5_code 23 = .ok (.land, 1) := by decide +kernel
theorem d33_24 : decode prog_51_method_5_code 24 = .ok (.lstore 4, 2) := by decide +kernel
theorem d33_26 : decode prog_51_method_5_code 26 = .ok (.lload 4, 2) := by decide +kernel
theorem d33_28 : decode prog_51_method_5_code 28 = .ok (.l2i, 1) := by decide +kernel
theorem d33_29 : decode prog_51_method_5_code 29 = .ok (.aload_n 0, 1) := by decide +kernel
theorem d33_30 : decode prog_51_method_5_code 30 = .ok (.getfield 28, 3) := by decide +kernel
theorem d33_33 : decode prog_51_method_5_code 33 = .ok (.iload_n 3, 1) := by decide +kernel
theorem d33_34 : decode prog_51_method_5_code 34 = .ok (.iaload, 1) := by decide +kernel
theorem d33_35 : decode prog_51_method_5_code 35 = .ok (.iadd, 1) := by decide +kernel
theorem d33_36 : decode prog_51_method_5_code 36 = .ok (.ireturn, 1) := by decide +kernel
theorem d34_0 : decode prog_119_method_2_code 0 = .ok (.new 1, 3) := by decide +kernel
theorem d34_3 : decode prog_119_method_2_code 3 = .ok (.dup, 1) := by decide +kernel
theorem d34_4 : decode prog_119_method_2_code 4 = .ok (.aload_n 0, 1) := by decide +kernel
theorem d34_5 : decode prog_119_method_2_code 5 = .ok (.getstatic 13, 3) := by decide +kernel
theorem d34_8 : decode prog_119_method_2_code 8 = .ok (.iconst 0, 1) := by decide +kernel
theorem d34_9 : decode prog_119_method_2_code 9 = .ok (.iconst 1, 1) := by decide +kernel
theorem d34_10 : decode prog_119_method_2_code 10 = .ok (.iload_n 1, 1) := by decide +kernel
theorem d34_11 : decode prog_119_method_2_code 11 = .ok (.ifCond .eq 7, 3) := by decide +kernel
theorem d34_18 : decode prog_119_method_2_code 18 = .ok (.iconst 0, 1) := by decide +kernel
theorem d34_19 : decode prog_119_method_2_code 19 = .ok (.aconst_null, 1) := by decide +kernel
theorem d34_20 : decode prog_119_method_2_code 20 = .ok (.aconst_null, 1) := by decide +kernel
theorem d34_21 : decode prog_119_method_2_code 21 = .ok (.aconst_null, 1) := by decide +kernel
theorem d34_22 : decode prog_119_method_2_code 22 = .ok (.aconst_null, 1) := by decide +kernel
theorem d34_23 : decode prog_119_method_2_code 23 = .ok (.invokespecial 9, 3) := by decide +kernel
theorem d34_26 : decode prog_119_method_2_code 26 = .ok (.areturn, 1) := by decide +kernel
theorem pn0 : plainName "com/example/verify_markov_chains/verifymarkovchains/explicit/StateLayoutValuePinLaw" = true := by first | (simp [plainName, overriddenIn]; done) | decide +kernel
theorem pn1 : plainName "java/util/AbstractCollection" = true := by first | (simp [plainName, overriddenIn]; done) | decide +kernel
theorem pn2 : plainName "java/util/AbstractList" = true := by first | (simp [plainName, overriddenIn]; done) | decide +kernel
theorem pn3 : plainName "java/util/ArrayList" = true := by first | (simp [plainName, overriddenIn]; done) | decide +kernel
theorem pn4 : plainName "com/example/verify_markov_chains/verifymarkovchains/model/Variable" = true := by first | (simp [plainName, overriddenIn]; done) | decide +kernel
theorem pn5 : plainName "jdk/internal/util/Preconditions" = true := by first | (simp [plainName, overriddenIn]; done) | decide +kernel
theorem pn6 : plainName "java/util/Objects" = true := by first | (simp [plainName, overriddenIn]; done) | decide +kernel
theorem pn7 : plainName "com/example/verify_markov_chains/verifymarkovchains/explicit/StateLayout" = true := by first | (simp [plainName, overriddenIn]; done) | decide +kernel
theorem pd0 : parseMethodDescriptor "(II)I" = some ⟨[.int, .int], some .int⟩ := by decide +kernel
theorem pd1 : parseMethodDescriptor "()V" = some ⟨[], none⟩ := by decide +kernel
theorem pd2 : parseMethodDescriptor "(Ljava/lang/String;Lcom/example/verify_markov_chains/verifymarkovchains/expression/Type;IIILjava/util/List;Lcom/example/verify_markov_chains/verifymarkovchains/numeric/Rational;Lcom/example/verify_markov_chains/verifymarkovchains/numeric/Rational;Lcom/example/verify_markov_chains/verifymarkovchains/numeric/Rational;)V" = some ⟨[(.object "java/lang/String"), (.object "com/example/verify_markov_chains/verifymarkovchains/expression/Type"), .int, .int, .int, (.object "java/util/List"), (.object "com/example/verify_markov_chains/verifymarkovchains/numeric/Rational"), (.object "com/example/verify_markov_chains/verifymarkovchains/numeric/Rational"), (.object "com/example/verify_markov_chains/verifymarkovchains/numeric/Rational")], none⟩ := by decide +kernel
theorem pd3 : parseMethodDescriptor "(Lcom/example/verify_markov_chains/verifymarkovchains/numeric/Rational;)Z" = some ⟨[(.object "com/example/verify_markov_chains/verifymarkovchains/numeric/Rational")], some .boolean⟩ := by decide +kernel
theorem pd4 : parseMethodDescriptor "(I)[Ljava/lang/Object;" = some ⟨[.int], some (.array (.object "java/lang/Object"))⟩ := by decide +kernel
theorem pd5 : parseMethodDescriptor "()[Ljava/lang/Object;" = some ⟨[], some (.array (.object "java/lang/Object"))⟩ := by decide +kernel
theorem pd6 : parseMethodDescriptor "(Ljava/lang/Object;[Ljava/lang/Object;I)V" = some ⟨[(.object "java/lang/Object"), (.array (.object "java/lang/Object")), .int], none⟩ := by decide +kernel
theorem pd7 : parseMethodDescriptor "(IILjava/util/function/BiFunction;)I" = some ⟨[.int, .int, (.object "java/util/function/BiFunction")], some .int⟩ := by decide +kernel
theorem pd8 : parseMethodDescriptor "(I)Ljava/lang/Object;" = some ⟨[.int], some (.object "java/lang/Object")⟩ := by decide +kernel
theorem pd9 : parseMethodDescriptor "(I)I" = some ⟨[.int], some .int⟩ := by decide +kernel
theorem pd10 : parseMethodDescriptor "()Lcom/example/verify_markov_chains/verifymarkovchains/expression/Type;" = some ⟨[], some (.object "com/example/verify_markov_chains/verifymarkovchains/expression/Type")⟩ := by decide +kernel
theorem pd11 : parseMethodDescriptor "()I" = some ⟨[], some .int⟩ := by decide +kernel
theorem pd12 : parseMethodDescriptor "(J)I" = some ⟨[.long], some .int⟩ := by decide +kernel
theorem pd13 : parseMethodDescriptor "(Lcom/example/verify_markov_chains/verifymarkovchains/model/Variable;)I" = some ⟨[(.object "com/example/verify_markov_chains/verifymarkovchains/model/Variable")], some .int⟩ := by decide +kernel
theorem pd14 : parseMethodDescriptor "(III)V" = some ⟨[.int, .int, .int], none⟩ := by decide +kernel
theorem pd15 : parseMethodDescriptor "([JIIJ)V" = some ⟨[(.array .long), .int, .int, .long], none⟩ := by decide +kernel
theorem pd16 : parseMethodDescriptor "(IIJ)I" = some ⟨[.int, .int, .long], some .int⟩ := by decide +kernel
theorem pd17 : parseMethodDescriptor "(Ljava/lang/String;III)Lcom/example/verify_markov_chains/verifymarkovchains/model/Variable;" = some ⟨[(.object "java/lang/String"), .int, .int, .int], some (.object "com/example/verify_markov_chains/verifymarkovchains/model/Variable")⟩ := by decide +kernel
theorem pd18 : parseMethodDescriptor "(Ljava/lang/Object;)Z" = some ⟨[(.object "java/lang/Object")], some .boolean⟩ := by decide +kernel
theorem pd19 : parseMethodDescriptor "(Ljava/lang/String;Z)Lcom/example/verify_markov_chains/verifymarkovchains/model/Variable;" = some ⟨[(.object "java/lang/String"), .boolean], some (.object "com/example/verify_markov_chains/verifymarkovchains/model/Variable")⟩ := by decide +kernel
theorem pd20 : parseMethodDescriptor "(Ljava/util/List;)V" = some ⟨[(.object "java/util/List")], none⟩ := by decide +kernel
theorem pd21 : parseMethodDescriptor "([I[JI)V" = some ⟨[(.array .int), (.array .long), .int], none⟩ := by decide +kernel
theorem pd22 : parseMethodDescriptor "([JII)I" = some ⟨[(.array .long), .int, .int], some .int⟩ := by decide +kernel
theorem pd23 : parseMethodDescriptor "(Ljava/lang/String;Lcom/example/verify_markov_chains/verifymarkovchains/numeric/Rational;Lcom/example/verify_markov_chains/verifymarkovchains/numeric/Rational;Lcom/example/verify_markov_chains/verifymarkovchains/numeric/Rational;)Lcom/example/verify_markov_chains/verifymarkovchains/model/Variable;" = some ⟨[(.object "java/lang/String"), (.object "com/example/verify_markov_chains/verifymarkovchains/numeric/Rational"), (.object "com/example/verify_markov_chains/verifymarkovchains/numeric/Rational"), (.object "com/example/verify_markov_chains/verifymarkovchains/numeric/Rational")], some (.object "com/example/verify_markov_chains/verifymarkovchains/model/Variable")⟩ := by decide +kernel
theorem own_wS {Z : State} {a0 : Array Value} (hw : ∀ d ∈ tables_1, d.before a0 Z = true) : ∀ a ∈ Bundle.stringAtoms, a.before a0 Z = true := fun d hd => by
  simp only [Bundle.stringAtoms, List.mem_cons, List.not_mem_nil, or_false] at hd
  rcases hd with rfl | rfl | rfl | rfl | rfl | rfl | rfl
  · exact hw _ (List.mem_of_getElem? (i := 44) rfl)
  · exact hw _ (List.mem_of_getElem? (i := 45) rfl)
  · exact hw _ (List.mem_of_getElem? (i := 46) rfl)
  · exact hw _ (List.mem_of_getElem? (i := 47) rfl)
  · exact hw _ (List.mem_of_getElem? (i := 48) rfl)
  · exact hw _ (List.mem_of_getElem? (i := 49) rfl)
  · exact hw _ (List.mem_of_getElem? (i := 50) rfl)
theorem ef2_II (m : MethodId) (x0 : Int32) (x1 : Int32) : entryFrame m #[(.int x0), (.int x1)] 2 = mkF m 0 #[(vI x0), (vI x1)] [] := by first | (simp [entryFrame, mkF, argsToLocals, Value.category]; done) | rfl
set_option maxRecDepth 65536 in
set_option maxHeartbeats 40000000 in
theorem rm_min (l : Launch) (Z : State) (a0 : Array Value) (hw : ∀ d ∈ tables_1, d.before a0 Z = true) (h0 : Heap) (n0 : Nat) (Z0 : n0 ≤ h0.size) (a b : Int32) :
    ctr l Z (⟨"java/lang/Math", "min", "(II)I"⟩ : MethodName) jdk_29_method_69_code 2 (some .int) [] ({ frames := 0, cells := 0, slots := 0, locals := 0 } : Room) 0 0 #[(.int a), (.int b)] h0 (fun v h L => v = some (.int (own_min a b)) ∧ Fr n0 L ∧ h = h0) := by
  refine ctr_of (by decide +kernel) ?_
  intro p e s m below meth jc s₁ hx hby hml hret hlk hnm hown hZ e0 X0
  have N0 := Fr.nil n0
  have hg : ∀ (i : Nat) {d : Jvm.Cond}, tables_1[i]? = some d → d.before a0 Z = true := fun i d q => hw d (List.mem_of_getElem? q)
  refine Dn.cast (ef2_II m a b) ?_
  show Dn p e below s _ _ _ (s₁.setTop (mkF m 0 #[(vI a), (vI b)] []))
  refine Dn.of (fun tt_ zz_ => XS.iloadN X0.here hx rfl (hb hby d2_0) rfl zz_) ?_
  refine Dn.of (fun tt_ zz_ => XS.iloadN X0.here hx rfl (hb hby d2_1) rfl zz_) ?_
  show Dn p e below s _ _ _ (s₁.setTop (mkF m 2 #[(vI a), (vI b)] [(.int b), (.int a)]))
  by_cases hq : b < a
  · skip
    refine Dn.of (fun tt_ zz_ => XS.icmpYes X0.here hx rfl (pc0 := 2) (pc' := 9) rfl (hb hby d2_2) rfl (tlt hq).2.2.1 (by decide) (by decide) zz_) ?_
    show Dn p e below s _ _ _ (s₁.setTop (mkF m 9 #[(vI a), (vI b)] []))
    refine Dn.of (fun tt_ zz_ => XS.iloadN X0.here hx rfl (hb hby d2_9) rfl zz_) ?_
    show Dn p e below s _ _ _ (s₁.setTop (mkF m 10 #[(vI a), (vI b)] [(.int b)]))
    exact Dn.retI X0 hx hlk hret (hb hby d2_10) (by decide) (by decide) (⟨by unfold own_min; rw [if_pos hq], N0, e0⟩)
  · skip
    refine Dn.of (fun tt_ zz_ => XS.icmpNo X0.here hx rfl (hb hby d2_2) rfl (flt hq).2.2.1 zz_) ?_
    show Dn p e below s _ _ _ (s₁.setTop (mkF m 5 #[(vI a), (vI b)] []))
    refine Dn.of (fun tt_ zz_ => XS.iloadN X0.here hx rfl (hb hby d2_5) rfl zz_) ?_
    refine Dn.of (fun tt_ zz_ => XS.goto X0.here hx rfl (pc0 := 6) (pc' := 10) rfl (hb hby d2_6) (by decide) (by decide) zz_) ?_
    show Dn p e below s _ _ _ (s₁.setTop (mkF m 10 #[(vI a), (vI b)] [(.int a)]))
    exact Dn.retI X0 hx hlk hret (hb hby d2_10) (by decide) (by decide) (⟨by unfold own_min; rw [if_neg hq], N0, e0⟩)
theorem ef4_II (m : MethodId) (x0 : Int32) (x1 : Int32) : entryFrame m #[(.int x0), (.int x1)] 2 = mkF m 0 #[(vI x0), (vI x1)] [] := by first | (simp [entryFrame, mkF, argsToLocals, Value.category]; done) | rfl
set_option maxRecDepth 65536 in
set_option maxHeartbeats 40000000 in
theorem rm_max (l : Launch) (Z : State) (a0 : Array Value) (hw : ∀ d ∈ tables_1, d.before a0 Z = true) (h0 : Heap) (n0 : Nat) (Z0 : n0 ≤ h0.size) (a b : Int32) :
    ctr l Z (⟨"java/lang/Math", "max", "(II)I"⟩ : MethodName) jdk_29_method_65_code 2 (some .int) [] ({ frames := 0, cells := 0, slots := 0, locals := 0 } : Room) 0 0 #[(.int a), (.int b)] h0 (fun v h L => v = some (.int (own_max a b)) ∧ Fr n0 L ∧ h = h0) := by
  refine ctr_of (by decide +kernel) ?_
  intro p e s m below meth jc s₁ hx hby hml hret hlk hnm hown hZ e0 X0
  have N0 := Fr.nil n0
  have hg : ∀ (i : Nat) {d : Jvm.Cond}, tables_1[i]? = some d → d.before a0 Z = true := fun i d q => hw d (List.mem_of_getElem? q)
  refine Dn.cast (ef4_II m a b) ?_
  show Dn p e below s _ _ _ (s₁.setTop (mkF m 0 #[(vI a), (vI b)] []))
  refine Dn.of (fun tt_ zz_ => XS.iloadN X0.here hx rfl (hb hby d4_0) rfl zz_) ?_
  refine Dn.of (fun tt_ zz_ => XS.iloadN X0.here hx rfl (hb hby d4_1) rfl zz_) ?_
  show Dn p e below s _ _ _ (s₁.setTop (mkF m 2 #[(vI a), (vI b)] [(.int b), (.int a)]))
  by_cases hq : a < b
  · skip
    refine Dn.of (fun tt_ zz_ => XS.icmpYes X0.here hx rfl (pc0 := 2) (pc' := 9) rfl (hb hby d4_2) rfl (tlt hq).1 (by decide) (by decide) zz_) ?_
    show Dn p e below s _ _ _ (s₁.setTop (mkF m 9 #[(vI a), (vI b)] []))
    refine Dn.of (fun tt_ zz_ => XS.iloadN X0.here hx rfl (hb hby d4_9) rfl zz_) ?_
    show Dn p e below s _ _ _ (s₁.setTop (mkF m 10 #[(vI a), (vI b)] [(.int b)]))
    exact Dn.retI X0 hx hlk hret (hb hby d4_10) (by decide) (by decide) (⟨by unfold own_max; rw [if_pos hq], N0, e0⟩)
  · skip
    refine Dn.of (fun tt_ zz_ => XS.icmpNo X0.here hx rfl (hb hby d4_2) rfl (flt hq).1 zz_) ?_
    show Dn p e below s _ _ _ (s₁.setTop (mkF m 5 #[(vI a), (vI b)] []))
    refine Dn.of (fun tt_ zz_ => XS.iloadN X0.here hx rfl (hb hby d4_5) rfl zz_) ?_
    refine Dn.of (fun tt_ zz_ => XS.goto X0.here hx rfl (pc0 := 6) (pc' := 10) rfl (hb hby d4_6) (by decide) (by decide) zz_) ?_
    show Dn p e below s _ _ _ (s₁.setTop (mkF m 10 #[(vI a), (vI b)] [(.int a)]))
    exact Dn.retI X0 hx hlk hret (hb hby d4_10) (by decide) (by decide) (⟨by unfold own_max; rw [if_neg hq], N0, e0⟩)
def own_hw (x : Int64) : Int32 := (((x.toUInt64 >>> ((32 : Int32) &&& 0x3f).toInt64.toUInt64).toInt64).toInt32)
theorem ef1_J (m : MethodId) (x0 : Int64) : entryFrame m #[(.long x0)] 2 = mkF m 0 #[(vJ x0), .second] [] := by first | (simp [entryFrame, mkF, argsToLocals, Value.category]; done) | rfl
set_option maxRecDepth 65536 in
set_option maxHeartbeats 40000000 in
theorem rm_lowOf (l : Launch) (Z : State) (a0 : Array Value) (hw : ∀ d ∈ tables_1, d.before a0 Z = true) (h0 : Heap) (n0 : Nat) (Z0 : n0 ≤ h0.size) (x : Int64) :
    ctr l Z (⟨"com/example/verify_markov_chains/verifymarkovchains/explicit/StateLayoutValuePinLaw", "lowOf", "(J)I"⟩ : MethodName) method_2_code 2 (some .int) [] ({ frames := 1, cells := 0, slots := 0, locals := 20 } : Room) 0 0 #[(.long x)] h0 (fun v h L => v = some (.int (own_min x.toInt32 (own_hw x))) ∧ Fr n0 L ∧ h = h0) := by
  refine ctr_of (plainFor_of_name pn0) ?_
  intro p e s m below meth jc s₁ hx hby hml hret hlk hnm hown hZ e0 X0
  have N0 := Fr.nil n0
  have hg : ∀ (i : Nat) {d : Jvm.Cond}, tables_1[i]? = some d → d.before a0 Z = true := fun i d q => hw d (List.mem_of_getElem? q)
  refine Dn.cast (ef1_J m x) ?_
  show Dn p e below s _ _ _ (s₁.setTop (mkF m 0 #[(vJ x), .second] []))
  refine Dn.of (fun tt_ zz_ => XS.lloadN X0.here hx rfl (hb hby d1_0) rfl zz_) ?_
  refine Dn.of (fun tt_ zz_ => XS.l2i X0.here hx rfl (hb hby d1_1) rfl zz_) ?_
  refine Dn.of (fun tt_ zz_ => XS.lloadN X0.here hx rfl (hb hby d1_2) rfl zz_) ?_
  refine Dn.of (fun tt_ zz_ => XS.bipush X0.here hx rfl (hb hby d1_3) zz_) ?_
  show Dn p e below s _ _ _ (s₁.setTop (mkF m 5 #[(vJ x), .second] [(.int (32 : Int32)), (.long x), (.int (x.toInt32))]))
  refine Dn.of (fun tt_ zz_ => XS.lushr X0.here hx rfl (hb hby d1_5) rfl zz_) ?_
  refine Dn.of (fun tt_ zz_ => XS.l2i X0.here hx rfl (hb hby d1_6) rfl zz_) ?_
  show Dn p e below s _ _ _ (s₁.setTop (mkF m 7 #[(vJ x), .second] [(.int (((x.toUInt64 >>> ((32 : Int32) &&& 0x3f).toInt64.toUInt64).toInt64).toInt32)), (.int (x.toInt32))]))
  obtain ⟨v1, T1, L1, Q1, X1, st1⟩ := cSt X0 hx hZ (y := (⟨"java/lang/Math", "min", "(II)I"⟩ : MethodName)) hown (hg 4 rfl) (hg 5 rfl) (hg 6 rfl) (hg 7 rfl) (by decide) (argsL := [(.int (x.toInt32)), (.int (((x.toUInt64 >>> ((32 : Int32) &&& 0x3f).toInt64.toUInt64).toInt64).toInt32))]) (rest := []) (rm_min l Z a0 hw h0 n0 Z0 x.toInt32 (((x.toUInt64 >>> ((32 : Int32) &&& 0x3f).toInt64.toUInt64).toInt64).toInt32)) e0  0 (by decide) (by decide) (by decide) (by decide) (g := (mkF m 7 #[(vJ x), .second] [(.int (((x.toUInt64 >>> ((32 : Int32) &&& 0x3f).toInt64.toUInt64).toInt64).toInt32)), (.int (x.toInt32))])) rfl (by rw [hml]; rfl) (lenOf pd0 rfl) rfl (by show 2 * 0 + _ ≤ _; exact Nat.le_of_eq rfl) (hb hby d1_7)
  obtain ⟨rfl, M1, e1⟩ := Q1
  refine Dn.of st1 ?_
  show Dn p e below s _ _ _ (T1.setTop (mkF m 10 #[(vJ x), .second] [(.int (own_min x.toInt32 (((x.toUInt64 >>> ((32 : Int32) &&& 0x3f).toInt64.toUInt64).toInt64).toInt32)))]))
  exact Dn.retI X1 hx hlk hret (hb hby d1_10) (by decide) (by decide) (⟨rfl, Fr.app N0 M1, e1⟩)
theorem ef3_J (m : MethodId) (x0 : Int64) : entryFrame m #[(.long x0)] 2 = mkF m 0 #[(vJ x0), .second] [] := by first | (simp [entryFrame, mkF, argsToLocals, Value.category]; done) | rfl
set_option maxRecDepth 65536 in
set_option maxHeartbeats 40000000 in
theorem rm_highOf (l : Launch) (Z : State) (a0 : Array Value) (hw : ∀ d ∈ tables_1, d.before a0 Z = true) (h0 : Heap) (n0 : Nat) (Z0 : n0 ≤ h0.size) (x : Int64) :
    ctr l Z (⟨"com/example/verify_markov_chains/verifymarkovchains/explicit/StateLayoutValuePinLaw", "highOf", "(J)I"⟩ : MethodName) method_3_code 2 (some .int) [] ({ frames := 1, cells := 0, slots := 0, locals := 20 } : Room) 0 0 #[(.long x)] h0 (fun v h L => v = some (.int (own_max x.toInt32 (own_hw x))) ∧ Fr n0 L ∧ h = h0) := by
  refine ctr_of (plainFor_of_name pn0) ?_
  intro p e s m below meth jc s₁ hx hby hml hret hlk hnm hown hZ e0 X0
  have N0 := Fr.nil n0
  have hg : ∀ (i : Nat) {d : Jvm.Cond}, tables_1[i]? = some d → d.before a0 Z = true := fun i d q => hw d (List.mem_of_getElem? q)
  refine Dn.cast (ef3_J m x) ?_
  show Dn p e below s _ _ _ (s₁.setTop (mkF m 0 #[(vJ x), .second] []))
  refine Dn.of (fun tt_ zz_ => XS.lloadN X0.here hx rfl (hb hby d3_0) rfl zz_) ?_
  refine Dn.of (fun tt_ zz_ => XS.l2i X0.here hx rfl (hb hby d3_1) rfl zz_) ?_
  refine Dn.of (fun tt_ zz_ => XS.lloadN X0.here hx rfl (hb hby d3_2) rfl zz_) ?_
  refine Dn.of (fun tt_ zz_ => XS.bipush X0.here hx rfl (hb hby d3_3) zz_) ?_
  show Dn p e below s _ _ _ (s₁.setTop (mkF m 5 #[(vJ x), .second] [(.int (32 : Int32)), (.long x), (.int (x.toInt32))]))
  refine Dn.of (fun tt_ zz_ => XS.lushr X0.here hx rfl (hb hby d3_5) rfl zz_) ?_
  refine Dn.of (fun tt_ zz_ => XS.l2i X0.here hx rfl (hb hby d3_6) rfl zz_) ?_
  show Dn p e below s _ _ _ (s₁.setTop (mkF m 7 #[(vJ x), .second] [(.int (((x.toUInt64 >>> ((32 : Int32) &&& 0x3f).toInt64.toUInt64).toInt64).toInt32)), (.int (x.toInt32))]))
  obtain ⟨v2, T2, L2, Q2, X2, st2⟩ := cSt X0 hx hZ (y := (⟨"java/lang/Math", "max", "(II)I"⟩ : MethodName)) hown (hg 11 rfl) (hg 12 rfl) (hg 6 rfl) (hg 13 rfl) (by decide) (argsL := [(.int (x.toInt32)), (.int (((x.toUInt64 >>> ((32 : Int32) &&& 0x3f).toInt64.toUInt64).toInt64).toInt32))]) (rest := []) (rm_max l Z a0 hw h0 n0 Z0 x.toInt32 (((x.toUInt64 >>> ((32 : Int32) &&& 0x3f).toInt64.toUInt64).toInt64).toInt32)) e0  0 (by decide) (by decide) (by decide) (by decide) (g := (mkF m 7 #[(vJ x), .second] [(.int (((x.toUInt64 >>> ((32 : Int32) &&& 0x3f).toInt64.toUInt64).toInt64).toInt32)), (.int (x.toInt32))])) rfl (by rw [hml]; rfl) (lenOf pd0 rfl) rfl (by show 2 * 0 + _ ≤ _; exact Nat.le_of_eq rfl) (hb hby d3_7)
  obtain ⟨rfl, M1, e2⟩ := Q2
  refine Dn.of st2 ?_
  show Dn p e below s _ _ _ (T2.setTop (mkF m 10 #[(vJ x), .second] [(.int (own_max x.toInt32 (((x.toUInt64 >>> ((32 : Int32) &&& 0x3f).toInt64.toUInt64).toInt64).toInt32)))]))
  exact Dn.retI X2 hx hlk hret (hb hby d3_10) (by decide) (by decide) (⟨rfl, Fr.app N0 M1, e2⟩)
theorem ef5_IIJ (m : MethodId) (x0 : Int32) (x1 : Int32) (x2 : Int64) : entryFrame m #[(.int x0), (.int x1), (.long x2)] 8 = mkF m 0 #[(vI x0), (vI x1), (vJ x2), .second, .unset, .unset, .unset, .unset] [] := by first | (simp [entryFrame, mkF, argsToLocals, Value.category]; done) | rfl
set_option maxRecDepth 65536 in
set_option maxHeartbeats 40000000 in
theorem rm_within (l : Launch) (Z : State) (a0 : Array Value) (hw : ∀ d ∈ tables_1, d.before a0 Z = true) (h0 : Heap) (n0 : Nat) (Z0 : n0 ≤ h0.size) (lo hi : Int32) (x : Int64) (hle : lo.toInt ≤ hi.toInt) :
    ctr l Z (⟨"com/example/verify_markov_chains/verifymarkovchains/explicit/StateLayoutValuePinLaw", "within", "(IIJ)I"⟩ : MethodName) method_4_code 8 (some .int) [] ({ frames := 0, cells := 0, slots := 0, locals := 0 } : Room) 0 0 #[(.int lo), (.int hi), (.long x)] h0 (fun v h L => (∃ r : Int32, v = some (.int r) ∧ lo.toInt ≤ r.toInt ∧ r.toInt ≤ hi.toInt) ∧ Fr n0 L ∧ h = h0) := by
  refine ctr_of (plainFor_of_name pn0) ?_
  intro p e s m below meth jc s₁ hx hby hml hret hlk hnm hown hZ e0 X0
  have N0 := Fr.nil n0
  have hg : ∀ (i : Nat) {d : Jvm.Cond}, tables_1[i]? = some d → d.before a0 Z = true := fun i d q => hw d (List.mem_of_getElem? q)
  refine Dn.cast (ef5_IIJ m lo hi x) ?_
  show Dn p e below s _ _ _ (s₁.setTop (mkF m 0 #[(vI lo), (vI hi), (vJ x), .second, .unset, .unset, .unset, .unset] []))
  have hW := own_with hle x (own_m hle)
  refine Dn.of (fun tt_ zz_ => XS.iloadN X0.here hx rfl (hb hby d5_0) rfl zz_) ?_
  refine Dn.of (fun tt_ zz_ => XS.i2l X0.here hx rfl (hb hby d5_1) rfl zz_) ?_
  refine Dn.of (fun tt_ zz_ => XS.iloadN X0.here hx rfl (hb hby d5_2) rfl zz_) ?_
  refine Dn.of (fun tt_ zz_ => XS.i2l X0.here hx rfl (hb hby d5_3) rfl zz_) ?_
  show Dn p e below s _ _ _ (s₁.setTop (mkF m 4 #[(vI lo), (vI hi), (vJ x), .second, .unset, .unset, .unset, .unset] [(.long (lo.toInt64)), (.long (hi.toInt64))]))
  refine Dn.of (fun tt_ zz_ => XS.lsub X0.here hx rfl (hb hby d5_4) rfl zz_) ?_
  refine Dn.of (fun tt_ zz_ => XS.lconst X0.here hx rfl (hb hby d5_5) zz_) ?_
  refine Dn.of (fun tt_ zz_ => XS.ladd X0.here hx rfl (hb hby d5_6) rfl zz_) ?_
  refine Dn.of (fun tt_ zz_ => XS.lstore X0.here hx rfl (hb hby d5_7) rfl (l' := #[(vI lo), (vI hi), (vJ x), .second, (vJ (((hi.toInt64) - (lo.toInt64)) + (1 : Int64))), .second, .unset, .unset]) rfl zz_) ?_
  show Dn p e below s _ _ _ (s₁.setTop (mkF m 9 #[(vI lo), (vI hi), (vJ x), .second, (vJ (((hi.toInt64) - (lo.toInt64)) + (1 : Int64))), .second, .unset, .unset] []))
  refine Dn.of (fun tt_ zz_ => XS.lloadN X0.here hx rfl (hb hby d5_9) rfl zz_) ?_
  refine Dn.of (fun tt_ zz_ => XS.lload X0.here hx rfl (hb hby d5_10) rfl zz_) ?_
  show Dn p e below s _ _ _ (s₁.setTop (mkF m 12 #[(vI lo), (vI hi), (vJ x), .second, (vJ (((hi.toInt64) - (lo.toInt64)) + (1 : Int64))), .second, .unset, .unset] [(.long (((hi.toInt64) - (lo.toInt64)) + (1 : Int64))), (.long x)]))
  refine Dn.of (fun tt_ zz_ => XS.lrem X0.here hx rfl (hb hby d5_12) rfl hW.1 zz_) ?_
  show Dn p e below s _ _ _ (s₁.setTop (mkF m 13 #[(vI lo), (vI hi), (vJ x), .second, (vJ (((hi.toInt64) - (lo.toInt64)) + (1 : Int64))), .second, .unset, .unset] [(.long (x - (x / (((hi.toInt64) - (lo.toInt64)) + (1 : Int64))) * (((hi.toInt64) - (lo.toInt64)) + (1 : Int64))))]))
  refine Dn.of (fun tt_ zz_ => XS.lload X0.here hx rfl (hb hby d5_13) rfl zz_) ?_
  refine Dn.of (fun tt_ zz_ => XS.ladd X0.here hx rfl (hb hby d5_15) rfl zz_) ?_
  refine Dn.of (fun tt_ zz_ => XS.lload X0.here hx rfl (hb hby d5_16) rfl zz_) ?_
  show Dn p e below s _ _ _ (s₁.setTop (mkF m 18 #[(vI lo), (vI hi), (vJ x), .second, (vJ (((hi.toInt64) - (lo.toInt64)) + (1 : Int64))), .second, .unset, .unset] [(.long (((hi.toInt64) - (lo.toInt64)) + (1 : Int64))), (.long ((x - (x / (((hi.toInt64) - (lo.toInt64)) + (1 : Int64))) * (((hi.toInt64) - (lo.toInt64)) + (1 : Int64))) + (((hi.toInt64) - (lo.toInt64)) + (1 : Int64))))]))
  refine Dn.of (fun tt_ zz_ => XS.lrem X0.here hx rfl (hb hby d5_18) rfl hW.1 zz_) ?_
  show Dn p e below s _ _ _ (s₁.setTop (mkF m 19 #[(vI lo), (vI hi), (vJ x), .second, (vJ (((hi.toInt64) - (lo.toInt64)) + (1 : Int64))), .second, .unset, .unset] [(.long (((x - (x / (((hi.toInt64) - (lo.toInt64)) + (1 : Int64))) * (((hi.toInt64) - (lo.toInt64)) + (1 : Int64))) + (((hi.toInt64) - (lo.toInt64)) + (1 : Int64))) - (((x - (x / (((hi.toInt64) - (lo.toInt64)) + (1 : Int64))) * (((hi.toInt64) - (lo.toInt64)) + (1 : Int64))) + (((hi.toInt64) - (lo.toInt64)) + (1 : Int64))) / (((hi.toInt64) - (lo.toInt64)) + (1 : Int64))) * (((hi.toInt64) - (lo.toInt64)) + (1 : Int64))))]))
  refine Dn.of (fun tt_ zz_ => XS.lstore X0.here hx rfl (hb hby d5_19) rfl (l' := #[(vI lo), (vI hi), (vJ x), .second, (vJ (((hi.toInt64) - (lo.toInt64)) + (1 : Int64))), .second, (vJ (((x - (x / (((hi.toInt64) - (lo.toInt64)) + (1 : Int64))) * (((hi.toInt64) - (lo.toInt64)) + (1 : Int64))) + (((hi.toInt64) - (lo.toInt64)) + (1 : Int64))) - (((x - (x / (((hi.toInt64) - (lo.toInt64)) + (1 : Int64))) * (((hi.toInt64) - (lo.toInt64)) + (1 : Int64))) + (((hi.toInt64) - (lo.toInt64)) + (1 : Int64))) / (((hi.toInt64) - (lo.toInt64)) + (1 : Int64))) * (((hi.toInt64) - (lo.toInt64)) + (1 : Int64)))), .second]) rfl zz_) ?_
  refine Dn.of (fun tt_ zz_ => XS.iloadN X0.here hx rfl (hb hby d5_21) rfl zz_) ?_
  refine Dn.of (fun tt_ zz_ => XS.i2l X0.here hx rfl (hb hby d5_22) rfl zz_) ?_
  refine Dn.of (fun tt_ zz_ => XS.lload X0.here hx rfl (hb hby d5_23) rfl zz_) ?_
  show Dn p e below s _ _ _ (s₁.setTop (mkF m 25 #[(vI lo), (vI hi), (vJ x), .second, (vJ (((hi.toInt64) - (lo.toInt64)) + (1 : Int64))), .second, (vJ (((x - (x / (((hi.toInt64) - (lo.toInt64)) + (1 : Int64))) * (((hi.toInt64) - (lo.toInt64)) + (1 : Int64))) + (((hi.toInt64) - (lo.toInt64)) + (1 : Int64))) - (((x - (x / (((hi.toInt64) - (lo.toInt64)) + (1 : Int64))) * (((hi.toInt64) - (lo.toInt64)) + (1 : Int64))) + (((hi.toInt64) - (lo.toInt64)) + (1 : Int64))) / (((hi.toInt64) - (lo.toInt64)) + (1 : Int64))) * (((hi.toInt64) - (lo.toInt64)) + (1 : Int64)))), .second] [(.long (((x - (x / (((hi.toInt64) - (lo.toInt64)) + (1 : Int64))) * (((hi.toInt64) - (lo.toInt64)) + (1 : Int64))) + (((hi.toInt64) - (lo.toInt64)) + (1 : Int64))) - (((x - (x / (((hi.toInt64) - (lo.toInt64)) + (1 : Int64))) * (((hi.toInt64) - (lo.toInt64)) + (1 : Int64))) + (((hi.toInt64) - (lo.toInt64)) + (1 : Int64))) / (((hi.toInt64) - (lo.toInt64)) + (1 : Int64))) * (((hi.toInt64) - (lo.toInt64)) + (1 : Int64)))), (.long (lo.toInt64))]))
  refine Dn.of (fun tt_ zz_ => XS.ladd X0.here hx rfl (hb hby d5_25) rfl zz_) ?_
  refine Dn.of (fun tt_ zz_ => XS.l2i X0.here hx rfl (hb hby d5_26) rfl zz_) ?_
  show Dn p e below s _ _ _ (s₁.setTop (mkF m 27 #[(vI lo), (vI hi), (vJ x), .second, (vJ (((hi.toInt64) - (lo.toInt64)) + (1 : Int64))), .second, (vJ (((x - (x / (((hi.toInt64) - (lo.toInt64)) + (1 : Int64))) * (((hi.toInt64) - (lo.toInt64)) + (1 : Int64))) + (((hi.toInt64) - (lo.toInt64)) + (1 : Int64))) - (((x - (x / (((hi.toInt64) - (lo.toInt64)) + (1 : Int64))) * (((hi.toInt64) - (lo.toInt64)) + (1 : Int64))) + (((hi.toInt64) - (lo.toInt64)) + (1 : Int64))) / (((hi.toInt64) - (lo.toInt64)) + (1 : Int64))) * (((hi.toInt64) - (lo.toInt64)) + (1 : Int64)))), .second] [(.int (((lo.toInt64) + (((x - (x / (((hi.toInt64) - (lo.toInt64)) + (1 : Int64))) * (((hi.toInt64) - (lo.toInt64)) + (1 : Int64))) + (((hi.toInt64) - (lo.toInt64)) + (1 : Int64))) - (((x - (x / (((hi.toInt64) - (lo.toInt64)) + (1 : Int64))) * (((hi.toInt64) - (lo.toInt64)) + (1 : Int64))) + (((hi.toInt64) - (lo.toInt64)) + (1 : Int64))) / (((hi.toInt64) - (lo.toInt64)) + (1 : Int64))) * (((hi.toInt64) - (lo.toInt64)) + (1 : Int64)))).toInt32))]))
  exact Dn.retI X0 hx hlk hret (hb hby d5_27) (by decide) (by decide) (⟨⟨_, rfl, hW.2⟩, N0, e0⟩)
theorem ef8_A (m : MethodId) (x0 : Addr) : entryFrame m #[(.ref x0)] 1 = mkF m 0 #[(vA x0)] [] := by first | (simp [entryFrame, mkF, argsToLocals, Value.category]; done) | rfl
set_option maxRecDepth 65536 in
set_option maxHeartbeats 40000000 in
theorem rmAC (l : Launch) (Z : State) (a0 : Array Value) (hw : ∀ d ∈ tables_1, d.before a0 Z = true) (h0 : Heap) (n0 : Nat) (Z0 : n0 ≤ h0.size) (a : Addr) :
    ctr l Z (⟨"java/util/AbstractCollection", "<init>", "()V"⟩ : MethodName) jdk_22_method_1_code 1 none [] ({ frames := 1, cells := 0, slots := 0, locals := 12 } : Room) 0 0 #[(.ref a)] h0 (fun v h L => v = none ∧ Fr n0 L ∧ h = h0) := by
  refine ctr_of (plainFor_of_name pn1) ?_
  intro p e s m below meth jc s₁ hx hby hml hret hlk hnm hown hZ e0 X0
  have N0 := Fr.nil n0
  have hg : ∀ (i : Nat) {d : Jvm.Cond}, tables_1[i]? = some d → d.before a0 Z = true := fun i d q => hw d (List.mem_of_getElem? q)
  refine Dn.cast (ef8_A m a) ?_
  show Dn p e below s _ _ _ (s₁.setTop (mkF m 0 #[(vA a)] []))
  refine Dn.of (fun tt_ zz_ => XS.aloadN X0.here hx rfl (hb hby d8_0) rfl rfl zz_) ?_
  show Dn p e below s _ _ _ (s₁.setTop (mkF m 1 #[(vA a)] [(.ref a)]))
  obtain ⟨T3, X3, e3, st3⟩ := initO X0 hx hZ hown (hg 35 rfl) (hg 36 rfl) (hg 37 rfl) e0 (g := (mkF m 1 #[(vA a)] [(.ref a)])) rfl (by rw [hml]; rfl) rfl (hb hby d8_1) (by decide) (W := 0) (by show 2 * 0 + _ ≤ _; exact Nat.le_of_eq rfl) (by decide)
  refine Dn.of st3 ?_
  show Dn p e below s _ _ _ (T3.setTop (mkF m 4 #[(vA a)] []))
  exact Dn.retV X3 hx hlk hret (hb hby d8_4) (by decide) (by decide) (⟨rfl, N0, e3⟩)
theorem ef7_A (m : MethodId) (x0 : Addr) : entryFrame m #[(.ref x0)] 1 = mkF m 0 #[(vA x0)] [] := by first | (simp [entryFrame, mkF, argsToLocals, Value.category]; done) | rfl
set_option maxRecDepth 65536 in
set_option maxHeartbeats 40000000 in
theorem rmAL0 (l : Launch) (Z : State) (a0 : Array Value) (hw : ∀ d ∈ tables_1, d.before a0 Z = true) (h0 : Heap) (n0 : Nat) (Z0 : n0 ≤ h0.size) (a : Addr) (E0 : Exa Z h0 a "java/util/ArrayList") (F1 : Fld Z h0 a "java/util/AbstractList" "modCount" "I" (.int (0 : Int32))) (F2 : Fld Z h0 a "java/util/ArrayList" "elementData" "[Ljava/lang/Object;" .null) (F3 : Fld Z h0 a "java/util/ArrayList" "size" "I" (.int (0 : Int32))) (g0 : n0 ≤ a) :
    ctr l Z (⟨"java/util/AbstractList", "<init>", "()V"⟩ : MethodName) jdk_39_method_1_code 1 none [] ({ frames := 2, cells := 0, slots := 0, locals := 24 } : Room) 0 0 #[(.ref a)] h0 (fun v h L => v = none ∧ Fr n0 L ∧ Keep h0 h [a] ∧ Fld Z h a "java/util/AbstractList" "modCount" "I" (.int (0 : Int32)) ∧ Fld Z h a "java/util/ArrayList" "elementData" "[Ljava/lang/Object;" .null ∧ Fld Z h a "java/util/ArrayList" "size" "I" (.int (0 : Int32))) := by
  refine ctr_of (plainFor_of_name pn2) ?_
  intro p e s m below meth jc s₁ hx hby hml hret hlk hnm hown hZ e0 X0
  have N0 := Fr.nil n0
  have hg : ∀ (i : Nat) {d : Jvm.Cond}, tables_1[i]? = some d → d.before a0 Z = true := fun i d q => hw d (List.mem_of_getElem? q)
  refine Dn.cast (ef7_A m a) ?_
  show Dn p e below s _ _ _ (s₁.setTop (mkF m 0 #[(vA a)] []))
  have sn : Jvm.RoadKit.slotOf Z "java/util/ArrayList" "elementData" "[Ljava/lang/Object;" ≠ Jvm.RoadKit.slotOf Z "java/util/AbstractList" "modCount" "I" := slot_ne (Or.inl (hg 42 rfl)) (Or.inl (hg 39 rfl)) (by decide) (t := (.array (.object "java/lang/Object"))) (t' := .int) (by decide) (by decide)
  have sn2 : Jvm.RoadKit.slotOf Z "java/util/ArrayList" "size" "I" ≠ Jvm.RoadKit.slotOf Z "java/util/AbstractList" "modCount" "I" := slot_ne (Or.inl (hg 90 rfl)) (Or.inl (hg 39 rfl)) (by decide) (t := .int) (t' := .int) (by decide) (by decide)
  refine Dn.of (fun tt_ zz_ => XS.aloadN X0.here hx rfl (hb hby d7_0) rfl rfl zz_) ?_
  show Dn p e below s _ _ _ (s₁.setTop (mkF m 1 #[(vA a)] [(.ref a)]))
  obtain ⟨v4, T4, L4, Q4, X4, st4⟩ := cIn X0 hx hZ (y := (⟨"java/util/AbstractCollection", "<init>", "()V"⟩ : MethodName)) rfl hown (hg 29 rfl) (hg 30 rfl) (hg 33 rfl) (hg 34 rfl) (by decide) (a := a) (argsL := []) (rest := []) (rmAC l Z a0 hw h0 n0 Z0 a) e0  0 (by decide) (by decide) (by decide) (by decide) (g := (mkF m 1 #[(vA a)] [(.ref a)])) rfl (by rw [hml]; rfl) (lenOf pd1 rfl) rfl (by show 2 * 0 + _ ≤ _; exact Nat.le_of_eq rfl) (hb hby d7_1)
  obtain ⟨rfl, M1, e4⟩ := Q4
  refine Dn.of st4 ?_
  show Dn p e below s _ _ _ (T4.setTop (mkF m 4 #[(vA a)] []))
  refine Dn.of (fun tt_ zz_ => XS.aloadN X4.here hx rfl (hb hby d7_4) rfl rfl zz_) ?_
  refine Dn.of (fun tt_ zz_ => XS.iconst X4.here hx rfl (hb hby d7_5) zz_) ?_
  show Dn p e below s _ _ _ (T4.setTop (mkF m 6 #[(vA a)] [(.int (0 : Int32)), (.ref a)]))
  obtain ⟨T5, h5, X5, e5, W5, st5⟩ := putF X4 hx hZ hown (host := "") (Or.inl (hg 38 rfl)) Via.refl e4 F1 E0 (Or.inl (hg 39 rfl)) (hg 18 rfl) (ty := .int) (by decide) rfl rfl (g := (mkF m 6 #[(vA a)] [(.int (0 : Int32)), (.ref a)])) rfl rfl (hb hby d7_6)
  refine Dn.of st5 ?_
  show Dn p e below s _ _ _ (T5.setTop (mkF m 9 #[(vA a)] []))
  have N1 := Fr.snoc X5 (Fr.app N0 M1) g0
  exact Dn.retV X5 hx hlk hret (hb hby d7_9) (by decide) (by decide) (by rw [e5]; exact ⟨rfl, N1, (Keep.refl h0 [a]).wr W5 (Or.inl (List.mem_of_getElem? (i := 0) rfl)), F1.same W5, F2.other W5 (Or.inr sn), F3.other W5 (Or.inr sn2)⟩)
theorem ef6_A (m : MethodId) (x0 : Addr) : entryFrame m #[(.ref x0)] 1 = mkF m 0 #[(vA x0)] [] := by first | (simp [entryFrame, mkF, argsToLocals, Value.category]; done) | rfl
set_option maxRecDepth 65536 in
set_option maxHeartbeats 40000000 in
theorem rmAL (l : Launch) (Z : State) (a0 : Array Value) (hw : ∀ d ∈ tables_1, d.before a0 Z = true) (h0 : Heap) (n0 : Nat) (Z0 : n0 ≤ h0.size) (a aD : Addr) (SD : Sta Z Z.heap "java/util/ArrayList" "DEFAULTCAPACITY_EMPTY_ELEMENTDATA" "[Ljava/lang/Object;" (.ref aD)) (O0 : Old Z n0 h0) (E0 : Exa Z h0 a "java/util/ArrayList") (F1 : Fld Z h0 a "java/util/AbstractList" "modCount" "I" (.int (0 : Int32))) (F2 : Fld Z h0 a "java/util/ArrayList" "elementData" "[Ljava/lang/Object;" .null) (F3 : Fld Z h0 a "java/util/ArrayList" "size" "I" (.int (0 : Int32))) (g0 : n0 ≤ a) :
    ctr l Z (⟨"java/util/ArrayList", "<init>", "()V"⟩ : MethodName) jdk_38_method_2_code 1 none [] ({ frames := 3, cells := 0, slots := 0, locals := 36 } : Room) 0 0 #[(.ref a)] h0 (fun v h L => v = none ∧ Fr n0 L ∧ Keep h0 h [a] ∧ Fld Z h a "java/util/AbstractList" "modCount" "I" (.int (0 : Int32)) ∧ Fld Z h a "java/util/ArrayList" "elementData" "[Ljava/lang/Object;" (.ref aD) ∧ Fld Z h a "java/util/ArrayList" "size" "I" (.int (0 : Int32))) := by
  refine ctr_of (plainFor_of_name pn3) ?_
  intro p e s m below meth jc s₁ hx hby hml hret hlk hnm hown hZ e0 X0
  have N0 := Fr.nil n0
  have hg : ∀ (i : Nat) {d : Jvm.Cond}, tables_1[i]? = some d → d.before a0 Z = true := fun i d q => hw d (List.mem_of_getElem? q)
  refine Dn.cast (ef6_A m a) ?_
  show Dn p e below s _ _ _ (s₁.setTop (mkF m 0 #[(vA a)] []))
  have sn : Jvm.RoadKit.slotOf Z "java/util/AbstractList" "modCount" "I" ≠ Jvm.RoadKit.slotOf Z "java/util/ArrayList" "elementData" "[Ljava/lang/Object;" := slot_ne (Or.inl (hg 39 rfl)) (Or.inl (hg 42 rfl)) (by decide) (t := .int) (t' := (.array (.object "java/lang/Object"))) (by decide) (by decide)
  have sn2 : Jvm.RoadKit.slotOf Z "java/util/ArrayList" "size" "I" ≠ Jvm.RoadKit.slotOf Z "java/util/ArrayList" "elementData" "[Ljava/lang/Object;" := slot_ne (Or.inl (hg 90 rfl)) (Or.inl (hg 42 rfl)) (by decide) (t := .int) (t' := (.array (.object "java/lang/Object"))) (by decide) (by decide)
  refine Dn.of (fun tt_ zz_ => XS.aloadN X0.here hx rfl (hb hby d6_0) rfl rfl zz_) ?_
  show Dn p e below s _ _ _ (s₁.setTop (mkF m 1 #[(vA a)] [(.ref a)]))
  obtain ⟨v6, T6, L6, Q6, X6, st6⟩ := cIn X0 hx hZ (y := (⟨"java/util/AbstractList", "<init>", "()V"⟩ : MethodName)) rfl hown (hg 23 rfl) (hg 24 rfl) (hg 27 rfl) (hg 28 rfl) (by decide) (a := a) (argsL := []) (rest := []) (rmAL0 l Z a0 hw h0 n0 Z0 a E0 F1 F2 F3 g0) e0  0 (by decide) (by decide) (by decide) (by decide) (g := (mkF m 1 #[(vA a)] [(.ref a)])) rfl (by rw [hml]; rfl) (lenOf pd1 rfl) rfl (by show 2 * 0 + _ ≤ _; exact Nat.le_of_eq rfl) (hb hby d6_1)
  obtain ⟨rfl, M1, K1, F1', F2', F3'⟩ := Q6
  refine Dn.of st6 ?_
  show Dn p e below s _ _ _ (T6.setTop (mkF m 4 #[(vA a)] []))
  have O1 := O0.keep K1 (allS g0 all0)
  refine Dn.of (fun tt_ zz_ => XS.aloadN X6.here hx rfl (hb hby d6_4) rfl rfl zz_) ?_
  show Dn p e below s _ _ _ (T6.setTop (mkF m 5 #[(vA a)] [(.ref a)]))
  obtain ⟨T7, X7, e7, st7⟩ := getS2 X6 hx hZ hown (host := "") (Or.inl (hg 40 rfl)) Via.refl rfl (SD.ext O1.2) (g := (mkF m 5 #[(vA a)] [(.ref a)])) rfl (hb hby d6_5)
  refine Dn.of st7 ?_
  show Dn p e below s _ _ _ (T7.setTop (mkF m 8 #[(vA a)] [(.ref aD), (.ref a)]))
  obtain ⟨T8, h8, X8, e8, W8, st8⟩ := putF X7 hx hZ hown (host := "") (Or.inl (hg 41 rfl)) Via.refl e7 F2' (E0.keep K1) (Or.inl (hg 42 rfl)) (hg 18 rfl) (ty := (.array (.object "java/lang/Object"))) (by decide) rfl rfl (g := (mkF m 8 #[(vA a)] [(.ref aD), (.ref a)])) rfl rfl (hb hby d6_8)
  refine Dn.of st8 ?_
  show Dn p e below s _ _ _ (T8.setTop (mkF m 11 #[(vA a)] []))
  have N1 := Fr.snoc X8 (Fr.app N0 M1) g0
  exact Dn.retV X8 hx hlk hret (hb hby d6_11) (by decide) (by decide) (by rw [e8]; exact ⟨rfl, N1, K1.wr W8 (Or.inl (List.mem_of_getElem? (i := 0) rfl)), F1'.other W8 (Or.inr sn), F2'.same W8, F3'.other W8 (Or.inr sn2)⟩)
def own_Var (Z : State) (h : Heap) (u ty : Addr) (lo up : Int32) : Prop := Exa Z h u "com/example/verify_markov_chains/verifymarkovchains/model/Variable" ∧ Fld Z h u "com/example/verify_markov_chains/verifymarkovchains/model/Variable" "type" "Lcom/example/verify_markov_chains/verifymarkovchains/expression/Type;" (.ref ty) ∧ Fld Z h u "com/example/verify_markov_chains/verifymarkovchains/model/Variable" "lower" "I" (.int lo) ∧ Fld Z h u "com/example/verify_markov_chains/verifymarkovchains/model/Variable" "upper" "I" (.int up) ∧ Fld Z h u "com/example/verify_markov_chains/verifymarkovchains/model/Variable" "realLower" "Lcom/example/verify_markov_chains/verifymarkovchains/numeric/Rational;" .null ∧ Fld Z h u "com/example/verify_markov_chains/verifymarkovchains/model/Variable" "realUpper" "Lcom/example/verify_markov_chains/verifymarkovchains/numeric/Rational;" .null
theorem own_Var.ext {Z : State} {h h' : Heap} {u ty : Addr} {lo up : Int32} (F : own_Var Z h u ty lo up) (E : Ext h h') : own_Var Z h' u ty lo up := ⟨F.1.ext E, F.2.1.ext E, F.2.2.1.ext E, F.2.2.2.1.ext E, F.2.2.2.2.1.ext E, F.2.2.2.2.2.ext E⟩
theorem own_Var.other {Z : State} {h h' : Heap} {u ty a : Addr} {sl : Nat} {v : Value} {lo up : Int32} (F : own_Var Z h u ty lo up) (W : Wr h h' a sl v) (n : u ≠ a) : own_Var Z h' u ty lo up := ⟨F.1.wr W, F.2.1.other W (Or.inl n), F.2.2.1.other W (Or.inl n), F.2.2.2.1.other W (Or.inl n), F.2.2.2.2.1.other W (Or.inl n), F.2.2.2.2.2.other W (Or.inl n)⟩
theorem own_Var.keep {Z : State} {h h' : Heap} {u ty : Addr} {ws : List Addr} {lo up : Int32} (F : own_Var Z h u ty lo up) (K : Keep h h' ws) (n : u ∉ ws) : own_Var Z h' u ty lo up := ⟨F.1.keep K, F.2.1.keep K n, F.2.2.1.keep K n, F.2.2.2.1.keep K n, F.2.2.2.2.1.keep K n, F.2.2.2.2.2.keep K n⟩
theorem own_Var.lt {Z : State} {h : Heap} {u ty : Addr} {lo up : Int32} (F : own_Var Z h u ty lo up) : u < h.size := F.1.lt
theorem own_extK {h0 h1 h2 : Heap} {b : Addr} (E : Ext h0 h1) (K : Keep h1 h2 [b]) (g : b = h0.size) : Ext h0 h2 := ⟨Nat.le_trans E.1 K.1, fun y cy hy => K.2.1 _ _ (E.2 _ _ hy) (ninS (Nat.ne_of_lt (g ▸ (Array.getElem?_eq_some_iff.mp hy).1)) nin0)⟩
theorem own_K1 {h0 h1 h2 : Heap} {a b : Addr} (K : Keep h0 h1 [a]) (K' : Keep h1 h2 [a, b]) : Keep h0 h2 [a, b] := by
  refine Keep.trans ⟨K.1, fun x c q r => K.2.1 x c q (fun z => r ?_), K.2.2⟩ K' (fun x hx => Or.inl hx)
  cases List.mem_singleton.mp z; exact List.mem_cons_self
theorem own_same {i j : Int32} {v : Value} {hs : List (Int32 × Value)} {vs : List Value} {d : Value} (h : ¬ j < 0) (e : i = j) : getH ((i, v) :: hs) vs d j.toNatClampNeg = v := by
  subst e
  rw [getH, if_pos]
  rw [Int32.lt_iff_toInt_lt, show (0 : Int32).toInt = 0 by decide] at h
  unfold Int32.toNatClampNeg; omega
theorem own_skip {i j : Int32} {v : Value} {hs : List (Int32 × Value)} {vs : List Value} {d : Value} (h : ¬ j < 0) (e : i ≠ j) : getH ((i, v) :: hs) vs d j.toNatClampNeg = getH hs vs d j.toNatClampNeg := by
  rw [getH, if_neg]
  rw [Int32.lt_iff_toInt_lt, show (0 : Int32).toInt = 0 by decide] at h
  intro q
  exact e (Int32.toInt_inj.mp (by unfold Int32.toNatClampNeg at q; omega))
set_option maxHeartbeats 4000000 in
theorem ef11_AAAIIINVNN (m : MethodId) (x0 : Addr) (x1 : Addr) (x2 : Addr) (x3 : Int32) (x4 : Int32) (x5 : Int32) (x7 : Value) (r7 : x7.isRef = true) : entryFrame m #[(.ref x0), (.ref x1), (.ref x2), (.int x3), (.int x4), (.int x5), .null, x7, .null, .null] 10 = mkF m 0 #[(vA x0), (vA x1), (vA x2), (vI x3), (vI x4), (vI x5), .val .null, .val x7, .val .null, .val .null] [] := by rcases ref_cases r7 with rfl | ⟨y7, rfl⟩ <;> first | (simp [entryFrame, mkF, argsToLocals, Value.category]; done) | rfl
set_option maxRecDepth 65536 in
set_option maxHeartbeats 40000000 in
theorem rmV (l : Launch) (Z : State) (a0 : Array Value) (hw : ∀ d ∈ tables_1, d.before a0 Z = true) (h0 : Heap) (n0 : Nat) (Z0 : n0 ≤ h0.size) (a nm ty : Addr) (lo up ini : Int32) (ri : Value) (rr : ri.isRef = true) (q1 : ¬ up < lo) (q2 : ¬ ini < lo) (q3 : ¬ up < ini) (E0 : Exa Z h0 a "com/example/verify_markov_chains/verifymarkovchains/model/Variable") (F0 : Fld Z h0 a "com/example/verify_markov_chains/verifymarkovchains/model/Variable" "name" "Ljava/lang/String;" .null) (F1 : Fld Z h0 a "com/example/verify_markov_chains/verifymarkovchains/model/Variable" "type" "Lcom/example/verify_markov_chains/verifymarkovchains/expression/Type;" .null) (F2 : Fld Z h0 a "com/example/verify_markov_chains/verifymarkovchains/model/Variable" "lower" "I" (.int (0 : Int32))) (F3 : Fld Z h0 a "com/example/verify_markov_chains/verifymarkovchains/model/Variable" "upper" "I" (.int (0 : Int32))) (F4 : Fld Z h0 a "com/example/verify_markov_chains/verifymarkovchains/model/Variable" "initial" "I" (.int (0 : Int32))) (F5 : Fld Z h0 a "com/example/verify_markov_chains/verifymarkovchains/model/Variable" "valueNames" "Ljava/util/List;" .null) (F6 : Fld Z h0 a "com/example/verify_markov_chains/verifymarkovchains/model/Variable" "realInitial" "Lcom/example/verify_markov_chains/verifymarkovchains/numeric/Rational;" .null) (F7 : Fld Z h0 a "com/example/verify_markov_chains/verifymarkovchains/model/Variable" "realLower" "Lcom/example/verify_markov_chains/verifymarkovchains/numeric/Rational;" .null) (F8 : Fld Z h0 a "com/example/verify_markov_chains/verifymarkovchains/model/Variable" "realUpper" "Lcom/example/verify_markov_chains/verifymarkovchains/numeric/Rational;" .null) (g0 : n0 ≤ a) :
    ctr l Z (⟨"com/example/verify_markov_chains/verifymarkovchains/model/Variable", "<init>", "(Ljava/lang/String;Lcom/example/verify_markov_chains/verifymarkovchains/expression/Type;IIILjava/util/List;Lcom/example/verify_markov_chains/verifymarkovchains/numeric/Rational;Lcom/example/verify_markov_chains/verifymarkovchains/numeric/Rational;Lcom/example/verify_markov_chains/verifymarkovchains/numeric/Rational;)V"⟩ : MethodName) prog_119_method_5_code 10 none [] ({ frames := 1, cells := 0, slots := 0, locals := 12 } : Room) 0 0 #[(.ref a), (.ref nm), (.ref ty), (.int lo), (.int up), (.int ini), .null, ri, .null, .null] h0 (fun v h L => v = none ∧ Fr n0 L ∧ Keep h0 h [a] ∧ own_Var Z h a ty lo up) := by
  refine ctr_of (plainFor_of_name pn4) ?_
  intro p e s m below meth jc s₁ hx hby hml hret hlk hnm hown hZ e0 X0
  have N0 := Fr.nil n0
  have hg : ∀ (i : Nat) {d : Jvm.Cond}, tables_1[i]? = some d → d.before a0 Z = true := fun i d q => hw d (List.mem_of_getElem? q)
  refine Dn.cast (ef11_AAAIIINVNN m a nm ty lo up ini ri rr) ?_
  show Dn p e below s _ _ _ (s₁.setTop (mkF m 0 #[(vA a), (vA nm), (vA ty), (vI lo), (vI up), (vI ini), .val .null, .val ri, .val .null, .val .null] []))
  refine Dn.of (fun tt_ zz_ => XS.aloadN X0.here hx rfl (hb hby d11_0) rfl rfl zz_) ?_
  show Dn p e below s _ _ _ (s₁.setTop (mkF m 1 #[(vA a), (vA nm), (vA ty), (vI lo), (vI up), (vI ini), .val .null, .val ri, .val .null, .val .null] [(.ref a)]))
  obtain ⟨T9, X9, e9, st9⟩ := initO X0 hx hZ hown (hg 63 rfl) (hg 36 rfl) (hg 37 rfl) e0 (g := (mkF m 1 #[(vA a), (vA nm), (vA ty), (vI lo), (vI up), (vI ini), .val .null, .val ri, .val .null, .val .null] [(.ref a)])) rfl (by rw [hml]; rfl) rfl (hb hby d11_1) (by decide) (W := 0) (by show 2 * 0 + _ ≤ _; exact Nat.le_of_eq rfl) (by decide)
  refine Dn.of st9 ?_
  show Dn p e below s _ _ _ (T9.setTop (mkF m 4 #[(vA a), (vA nm), (vA ty), (vI lo), (vI up), (vI ini), .val .null, .val ri, .val .null, .val .null] []))
  refine Dn.of (fun tt_ zz_ => XS.iloadN X9.here hx rfl (hb hby d11_4) rfl zz_) ?_
  refine Dn.of (fun tt_ zz_ => XS.iload X9.here hx rfl (hb hby d11_5) rfl zz_) ?_
  show Dn p e below s _ _ _ (T9.setTop (mkF m 7 #[(vA a), (vA nm), (vA ty), (vI lo), (vI up), (vI ini), .val .null, .val ri, .val .null, .val .null] [(.int up), (.int lo)]))
  refine Dn.of (fun tt_ zz_ => XS.icmpNo X9.here hx rfl (hb hby d11_7) rfl (flt q1).2.2.1 zz_) ?_
  show Dn p e below s _ _ _ (T9.setTop (mkF m 10 #[(vA a), (vA nm), (vA ty), (vI lo), (vI up), (vI ini), .val .null, .val ri, .val .null, .val .null] []))
  refine Dn.of (fun tt_ zz_ => XS.iload X9.here hx rfl (hb hby d11_10) rfl zz_) ?_
  refine Dn.of (fun tt_ zz_ => XS.iloadN X9.here hx rfl (hb hby d11_12) rfl zz_) ?_
  show Dn p e below s _ _ _ (T9.setTop (mkF m 13 #[(vA a), (vA nm), (vA ty), (vI lo), (vI up), (vI ini), .val .null, .val ri, .val .null, .val .null] [(.int lo), (.int ini)]))
  refine Dn.of (fun tt_ zz_ => XS.icmpNo X9.here hx rfl (hb hby d11_13) rfl (flt q2).1 zz_) ?_
  show Dn p e below s _ _ _ (T9.setTop (mkF m 16 #[(vA a), (vA nm), (vA ty), (vI lo), (vI up), (vI ini), .val .null, .val ri, .val .null, .val .null] []))
  refine Dn.of (fun tt_ zz_ => XS.iload X9.here hx rfl (hb hby d11_16) rfl zz_) ?_
  refine Dn.of (fun tt_ zz_ => XS.iload X9.here hx rfl (hb hby d11_18) rfl zz_) ?_
  show Dn p e below s _ _ _ (T9.setTop (mkF m 20 #[(vA a), (vA nm), (vA ty), (vI lo), (vI up), (vI ini), .val .null, .val ri, .val .null, .val .null] [(.int up), (.int ini)]))
  refine Dn.of (fun tt_ zz_ => XS.icmpYes X9.here hx rfl (pc0 := 20) (pc' := 67) rfl (hb hby d11_20) rfl (flt q3).2.2.2 (by decide) (by decide) zz_) ?_
  show Dn p e below s _ _ _ (T9.setTop (mkF m 67 #[(vA a), (vA nm), (vA ty), (vI lo), (vI up), (vI ini), .val .null, .val ri, .val .null, .val .null] []))
  refine Dn.of (fun tt_ zz_ => XS.aloadN X9.here hx rfl (hb hby d11_67) rfl rfl zz_) ?_
  refine Dn.of (fun tt_ zz_ => XS.aloadN X9.here hx rfl (hb hby d11_68) rfl rfl zz_) ?_
  show Dn p e below s _ _ _ (T9.setTop (mkF m 69 #[(vA a), (vA nm), (vA ty), (vI lo), (vI up), (vI ini), .val .null, .val ri, .val .null, .val .null] [(.ref nm), (.ref a)]))
  obtain ⟨T10, h10, X10, e10, W10, st10⟩ := putF X9 hx hZ hown (host := "") (Or.inl (hg 64 rfl)) Via.refl e9 F0 E0 (Or.inr ⟨(hg 65 rfl), rfl, hnm⟩) (hg 56 rfl) (ty := (.object "java/lang/String")) (by decide) rfl rfl (g := (mkF m 69 #[(vA a), (vA nm), (vA ty), (vI lo), (vI up), (vI ini), .val .null, .val ri, .val .null, .val .null] [(.ref nm), (.ref a)])) rfl rfl (hb hby d11_69)
  refine Dn.of st10 ?_
  show Dn p e below s _ _ _ (T10.setTop (mkF m 72 #[(vA a), (vA nm), (vA ty), (vI lo), (vI up), (vI ini), .val .null, .val ri, .val .null, .val .null] []))
  have Nv0 := Fr.snoc X10 N0 g0
  refine Dn.of (fun tt_ zz_ => XS.aloadN X10.here hx rfl (hb hby d11_72) rfl rfl zz_) ?_
  refine Dn.of (fun tt_ zz_ => XS.aloadN X10.here hx rfl (hb hby d11_73) rfl rfl zz_) ?_
  show Dn p e below s _ _ _ (T10.setTop (mkF m 74 #[(vA a), (vA nm), (vA ty), (vI lo), (vI up), (vI ini), .val .null, .val ri, .val .null, .val .null] [(.ref ty), (.ref a)]))
  have s1_0 : Jvm.RoadKit.slotOf Z "com/example/verify_markov_chains/verifymarkovchains/model/Variable" "type" "Lcom/example/verify_markov_chains/verifymarkovchains/expression/Type;" ≠ Jvm.RoadKit.slotOf Z "com/example/verify_markov_chains/verifymarkovchains/model/Variable" "name" "Ljava/lang/String;" := slot_ne (Or.inr (hg 67 rfl)) (Or.inr (hg 65 rfl)) (by decide) (t := (.object "com/example/verify_markov_chains/verifymarkovchains/expression/Type")) (t' := (.object "java/lang/String")) (by decide) (by decide)
  have F11 := (F1.other W10 (Or.inr s1_0))
  have F12 := (E0.wr W10)
  obtain ⟨T13, h13, X13, e13, W13, st13⟩ := putF X10 hx hZ hown (host := "") (Or.inl (hg 66 rfl)) Via.refl e10 F11 F12 (Or.inr ⟨(hg 67 rfl), rfl, hnm⟩) (hg 56 rfl) (ty := (.object "com/example/verify_markov_chains/verifymarkovchains/expression/Type")) (by decide) rfl rfl (g := (mkF m 74 #[(vA a), (vA nm), (vA ty), (vI lo), (vI up), (vI ini), .val .null, .val ri, .val .null, .val .null] [(.ref ty), (.ref a)])) rfl rfl (hb hby d11_74)
  refine Dn.of st13 ?_
  show Dn p e below s _ _ _ (T13.setTop (mkF m 77 #[(vA a), (vA nm), (vA ty), (vI lo), (vI up), (vI ini), .val .null, .val ri, .val .null, .val .null] []))
  have Nv1 := Fr.snoc X13 Nv0 g0
  refine Dn.of (fun tt_ zz_ => XS.aloadN X13.here hx rfl (hb hby d11_77) rfl rfl zz_) ?_
  refine Dn.of (fun tt_ zz_ => XS.iloadN X13.here hx rfl (hb hby d11_78) rfl zz_) ?_
  show Dn p e below s _ _ _ (T13.setTop (mkF m 79 #[(vA a), (vA nm), (vA ty), (vI lo), (vI up), (vI ini), .val .null, .val ri, .val .null, .val .null] [(.int lo), (.ref a)]))
  have s2_0 : Jvm.RoadKit.slotOf Z "com/example/verify_markov_chains/verifymarkovchains/model/Variable" "lower" "I" ≠ Jvm.RoadKit.slotOf Z "com/example/verify_markov_chains/verifymarkovchains/model/Variable" "name" "Ljava/lang/String;" := slot_ne (Or.inr (hg 69 rfl)) (Or.inr (hg 65 rfl)) (by decide) (t := .int) (t' := (.object "java/lang/String")) (by decide) (by decide)
  have s2_1 : Jvm.RoadKit.slotOf Z "com/example/verify_markov_chains/verifymarkovchains/model/Variable" "lower" "I" ≠ Jvm.RoadKit.slotOf Z "com/example/verify_markov_chains/verifymarkovchains/model/Variable" "type" "Lcom/example/verify_markov_chains/verifymarkovchains/expression/Type;" := slot_ne (Or.inr (hg 69 rfl)) (Or.inr (hg 67 rfl)) (by decide) (t := .int) (t' := (.object "com/example/verify_markov_chains/verifymarkovchains/expression/Type")) (by decide) (by decide)
  have F14 := ((F2.other W10 (Or.inr s2_0)).other W13 (Or.inr s2_1))
  have F15 := (F12.wr W13)
  obtain ⟨T16, h16, X16, e16, W16, st16⟩ := putF X13 hx hZ hown (host := "") (Or.inl (hg 68 rfl)) Via.refl e13 F14 F15 (Or.inr ⟨(hg 69 rfl), rfl, hnm⟩) (hg 56 rfl) (ty := .int) (by decide) rfl rfl (g := (mkF m 79 #[(vA a), (vA nm), (vA ty), (vI lo), (vI up), (vI ini), .val .null, .val ri, .val .null, .val .null] [(.int lo), (.ref a)])) rfl rfl (hb hby d11_79)
  refine Dn.of st16 ?_
  show Dn p e below s _ _ _ (T16.setTop (mkF m 82 #[(vA a), (vA nm), (vA ty), (vI lo), (vI up), (vI ini), .val .null, .val ri, .val .null, .val .null] []))
  have Nv2 := Fr.snoc X16 Nv1 g0
  refine Dn.of (fun tt_ zz_ => XS.aloadN X16.here hx rfl (hb hby d11_82) rfl rfl zz_) ?_
  refine Dn.of (fun tt_ zz_ => XS.iload X16.here hx rfl (hb hby d11_83) rfl zz_) ?_
  show Dn p e below s _ _ _ (T16.setTop (mkF m 85 #[(vA a), (vA nm), (vA ty), (vI lo), (vI up), (vI ini), .val .null, .val ri, .val .null, .val .null] [(.int up), (.ref a)]))
  have s3_0 : Jvm.RoadKit.slotOf Z "com/example/verify_markov_chains/verifymarkovchains/model/Variable" "upper" "I" ≠ Jvm.RoadKit.slotOf Z "com/example/verify_markov_chains/verifymarkovchains/model/Variable" "name" "Ljava/lang/String;" := slot_ne (Or.inr (hg 71 rfl)) (Or.inr (hg 65 rfl)) (by decide) (t := .int) (t' := (.object "java/lang/String")) (by decide) (by decide)
  have s3_1 : Jvm.RoadKit.slotOf Z "com/example/verify_markov_chains/verifymarkovchains/model/Variable" "upper" "I" ≠ Jvm.RoadKit.slotOf Z "com/example/verify_markov_chains/verifymarkovchains/model/Variable" "type" "Lcom/example/verify_markov_chains/verifymarkovchains/expression/Type;" := slot_ne (Or.inr (hg 71 rfl)) (Or.inr (hg 67 rfl)) (by decide) (t := .int) (t' := (.object "com/example/verify_markov_chains/verifymarkovchains/expression/Type")) (by decide) (by decide)
  have s3_2 : Jvm.RoadKit.slotOf Z "com/example/verify_markov_chains/verifymarkovchains/model/Variable" "upper" "I" ≠ Jvm.RoadKit.slotOf Z "com/example/verify_markov_chains/verifymarkovchains/model/Variable" "lower" "I" := slot_ne (Or.inr (hg 71 rfl)) (Or.inr (hg 69 rfl)) (by decide) (t := .int) (t' := .int) (by decide) (by decide)
  have F17 := (((F3.other W10 (Or.inr s3_0)).other W13 (Or.inr s3_1)).other W16 (Or.inr s3_2))
  have F18 := (F15.wr W16)
  obtain ⟨T19, h19, X19, e19, W19, st19⟩ := putF X16 hx hZ hown (host := "") (Or.inl (hg 70 rfl)) Via.refl e16 F17 F18 (Or.inr ⟨(hg 71 rfl), rfl, hnm⟩) (hg 56 rfl) (ty := .int) (by decide) rfl rfl (g := (mkF m 85 #[(vA a), (vA nm), (vA ty), (vI lo), (vI up), (vI ini), .val .null, .val ri, .val .null, .val .null] [(.int up), (.ref a)])) rfl rfl (hb hby d11_85)
  refine Dn.of st19 ?_
  show Dn p e below s _ _ _ (T19.setTop (mkF m 88 #[(vA a), (vA nm), (vA ty), (vI lo), (vI up), (vI ini), .val .null, .val ri, .val .null, .val .null] []))
  have Nv3 := Fr.snoc X19 Nv2 g0
  refine Dn.of (fun tt_ zz_ => XS.aloadN X19.here hx rfl (hb hby d11_88) rfl rfl zz_) ?_
  refine Dn.of (fun tt_ zz_ => XS.iload X19.here hx rfl (hb hby d11_89) rfl zz_) ?_
  show Dn p e below s _ _ _ (T19.setTop (mkF m 91 #[(vA a), (vA nm), (vA ty), (vI lo), (vI up), (vI ini), .val .null, .val ri, .val .null, .val .null] [(.int ini), (.ref a)]))
  have s4_0 : Jvm.RoadKit.slotOf Z "com/example/verify_markov_chains/verifymarkovchains/model/Variable" "initial" "I" ≠ Jvm.RoadKit.slotOf Z "com/example/verify_markov_chains/verifymarkovchains/model/Variable" "name" "Ljava/lang/String;" := slot_ne (Or.inr (hg 73 rfl)) (Or.inr (hg 65 rfl)) (by decide) (t := .int) (t' := (.object "java/lang/String")) (by decide) (by decide)
  have s4_1 : Jvm.RoadKit.slotOf Z "com/example/verify_markov_chains/verifymarkovchains/model/Variable" "initial" "I" ≠ Jvm.RoadKit.slotOf Z "com/example/verify_markov_chains/verifymarkovchains/model/Variable" "type" "Lcom/example/verify_markov_chains/verifymarkovchains/expression/Type;" := slot_ne (Or.inr (hg 73 rfl)) (Or.inr (hg 67 rfl)) (by decide) (t := .int) (t' := (.object "com/example/verify_markov_chains/verifymarkovchains/expression/Type")) (by decide) (by decide)
  have s4_2 : Jvm.RoadKit.slotOf Z "com/example/verify_markov_chains/verifymarkovchains/model/Variable" "initial" "I" ≠ Jvm.RoadKit.slotOf Z "com/example/verify_markov_chains/verifymarkovchains/model/Variable" "lower" "I" := slot_ne (Or.inr (hg 73 rfl)) (Or.inr (hg 69 rfl)) (by decide) (t := .int) (t' := .int) (by decide) (by decide)
  have s4_3 : Jvm.RoadKit.slotOf Z "com/example/verify_markov_chains/verifymarkovchains/model/Variable" "initial" "I" ≠ Jvm.RoadKit.slotOf Z "com/example/verify_markov_chains/verifymarkovchains/model/Variable" "upper" "I" := slot_ne (Or.inr (hg 73 rfl)) (Or.inr (hg 71 rfl)) (by decide) (t := .int) (t' := .int) (by decide) (by decide)
  have F20 := ((((F4.other W10 (Or.inr s4_0)).other W13 (Or.inr s4_1)).other W16 (Or.inr s4_2)).other W19 (Or.inr s4_3))
  have F21 := (F18.wr W19)
  obtain ⟨T22, h22, X22, e22, W22, st22⟩ := putF X19 hx hZ hown (host := "") (Or.inl (hg 72 rfl)) Via.refl e19 F20 F21 (Or.inr ⟨(hg 73 rfl), rfl, hnm⟩) (hg 56 rfl) (ty := .int) (by decide) rfl rfl (g := (mkF m 91 #[(vA a), (vA nm), (vA ty), (vI lo), (vI up), (vI ini), .val .null, .val ri, .val .null, .val .null] [(.int ini), (.ref a)])) rfl rfl (hb hby d11_91)
  refine Dn.of st22 ?_
  show Dn p e below s _ _ _ (T22.setTop (mkF m 94 #[(vA a), (vA nm), (vA ty), (vI lo), (vI up), (vI ini), .val .null, .val ri, .val .null, .val .null] []))
  have Nv4 := Fr.snoc X22 Nv3 g0
  refine Dn.of (fun tt_ zz_ => XS.aloadN X22.here hx rfl (hb hby d11_94) rfl rfl zz_) ?_
  refine Dn.of (fun tt_ zz_ => XS.aload X22.here hx rfl (hb hby d11_95) rfl rfl zz_) ?_
  show Dn p e below s _ _ _ (T22.setTop (mkF m 97 #[(vA a), (vA nm), (vA ty), (vI lo), (vI up), (vI ini), .val .null, .val ri, .val .null, .val .null] [.null, (.ref a)]))
  have s5_0 : Jvm.RoadKit.slotOf Z "com/example/verify_markov_chains/verifymarkovchains/model/Variable" "valueNames" "Ljava/util/List;" ≠ Jvm.RoadKit.slotOf Z "com/example/verify_markov_chains/verifymarkovchains/model/Variable" "name" "Ljava/lang/String;" := slot_ne (Or.inr (hg 75 rfl)) (Or.inr (hg 65 rfl)) (by decide) (t := (.object "java/util/List")) (t' := (.object "java/lang/String")) (by decide) (by decide)
  have s5_1 : Jvm.RoadKit.slotOf Z "com/example/verify_markov_chains/verifymarkovchains/model/Variable" "valueNames" "Ljava/util/List;" ≠ Jvm.RoadKit.slotOf Z "com/example/verify_markov_chains/verifymarkovchains/model/Variable" "type" "Lcom/example/verify_markov_chains/verifymarkovchains/expression/Type;" := slot_ne (Or.inr (hg 75 rfl)) (Or.inr (hg 67 rfl)) (by decide) (t := (.object "java/util/List")) (t' := (.object "com/example/verify_markov_chains/verifymarkovchains/expression/Type")) (by decide) (by decide)
  have s5_2 : Jvm.RoadKit.slotOf Z "com/example/verify_markov_chains/verifymarkovchains/model/Variable" "valueNames" "Ljava/util/List;" ≠ Jvm.RoadKit.slotOf Z "com/example/verify_markov_chains/verifymarkovchains/model/Variable" "lower" "I" := slot_ne (Or.inr (hg 75 rfl)) (Or.inr (hg 69 rfl)) (by decide) (t := (.object "java/util/List")) (t' := .int) (by decide) (by decide)
  have s5_3 : Jvm.RoadKit.slotOf Z "com/example/verify_markov_chains/verifymarkovchains/model/Variable" "valueNames" "Ljava/util/List;" ≠ Jvm.RoadKit.slotOf Z "com/example/verify_markov_chains/verifymarkovchains/model/Variable" "upper" "I" := slot_ne (Or.inr (hg 75 rfl)) (Or.inr (hg 71 rfl)) (by decide) (t := (.object "java/util/List")) (t' := .int) (by decide) (by decide)
  have s5_4 : Jvm.RoadKit.slotOf Z "com/example/verify_markov_chains/verifymarkovchains/model/Variable" "valueNames" "Ljava/util/List;" ≠ Jvm.RoadKit.slotOf Z "com/example/verify_markov_chains/verifymarkovchains/model/Variable" "initial" "I" := slot_ne (Or.inr (hg 75 rfl)) (Or.inr (hg 73 rfl)) (by decide) (t := (.object "java/util/List")) (t' := .int) (by decide) (by decide)
  have F23 := (((((F5.other W10 (Or.inr s5_0)).other W13 (Or.inr s5_1)).other W16 (Or.inr s5_2)).other W19 (Or.inr s5_3)).other W22 (Or.inr s5_4))
  have F24 := (F21.wr W22)
  obtain ⟨T25, h25, X25, e25, W25, st25⟩ := putF X22 hx hZ hown (host := "") (Or.inl (hg 74 rfl)) Via.refl e22 F23 F24 (Or.inr ⟨(hg 75 rfl), rfl, hnm⟩) (hg 56 rfl) (ty := (.object "java/util/List")) (by decide) rfl rfl (g := (mkF m 97 #[(vA a), (vA nm), (vA ty), (vI lo), (vI up), (vI ini), .val .null, .val ri, .val .null, .val .null] [.null, (.ref a)])) rfl rfl (hb hby d11_97)
  refine Dn.of st25 ?_
  show Dn p e below s _ _ _ (T25.setTop (mkF m 100 #[(vA a), (vA nm), (vA ty), (vI lo), (vI up), (vI ini), .val .null, .val ri, .val .null, .val .null] []))
  have Nv5 := Fr.snoc X25 Nv4 g0
  refine Dn.of (fun tt_ zz_ => XS.aloadN X25.here hx rfl (hb hby d11_100) rfl rfl zz_) ?_
  refine Dn.of (fun tt_ zz_ => XS.aload X25.here hx rfl (hb hby d11_101) rfl rr zz_) ?_
  show Dn p e below s _ _ _ (T25.setTop (mkF m 103 #[(vA a), (vA nm), (vA ty), (vI lo), (vI up), (vI ini), .val .null, .val ri, .val .null, .val .null] [ri, (.ref a)]))
  have s6_0 : Jvm.RoadKit.slotOf Z "com/example/verify_markov_chains/verifymarkovchains/model/Variable" "realInitial" "Lcom/example/verify_markov_chains/verifymarkovchains/numeric/Rational;" ≠ Jvm.RoadKit.slotOf Z "com/example/verify_markov_chains/verifymarkovchains/model/Variable" "name" "Ljava/lang/String;" := slot_ne (Or.inr (hg 77 rfl)) (Or.inr (hg 65 rfl)) (by decide) (t := (.object "com/example/verify_markov_chains/verifymarkovchains/numeric/Rational")) (t' := (.object "java/lang/String")) (by decide) (by decide)
  have s6_1 : Jvm.RoadKit.slotOf Z "com/example/verify_markov_chains/verifymarkovchains/model/Variable" "realInitial" "Lcom/example/verify_markov_chains/verifymarkovchains/numeric/Rational;" ≠ Jvm.RoadKit.slotOf Z "com/example/verify_markov_chains/verifymarkovchains/model/Variable" "type" "Lcom/example/verify_markov_chains/verifymarkovchains/expression/Type;" := slot_ne (Or.inr (hg 77 rfl)) (Or.inr (hg 67 rfl)) (by decide) (t := (.object "com/example/verify_markov_chains/verifymarkovchains/numeric/Rational")) (t' := (.object "com/example/verify_markov_chains/verifymarkovchains/expression/Type")) (by decide) (by decide)
  have s6_2 : Jvm.RoadKit.slotOf Z "com/example/verify_markov_chains/verifymarkovchains/model/Variable" "realInitial" "Lcom/example/verify_markov_chains/verifymarkovchains/numeric/Rational;" ≠ Jvm.RoadKit.slotOf Z "com/example/verify_markov_chains/verifymarkovchains/model/Variable" "lower" "I" := slot_ne (Or.inr (hg 77 rfl)) (Or.inr (hg 69 rfl)) (by decide) (t := (.object "com/example/verify_markov_chains/verifymarkovchains/numeric/Rational")) (t' := .int) (by decide) (by decide)
  have s6_3 : Jvm.RoadKit.slotOf Z "com/example/verify_markov_chains/verifymarkovchains/model/Variable" "realInitial" "Lcom/example/verify_markov_chains/verifymarkovchains/numeric/Rational;" ≠ Jvm.RoadKit.slotOf Z "com/example/verify_markov_chains/verifymarkovchains/model/Variable" "upper" "I" := slot_ne (Or.inr (hg 77 rfl)) (Or.inr (hg 71 rfl)) (by decide) (t := (.object "com/example/verify_markov_chains/verifymarkovchains/numeric/Rational")) (t' := .int) (by decide) (by decide)
  have s6_4 : Jvm.RoadKit.slotOf Z "com/example/verify_markov_chains/verifymarkovchains/model/Variable" "realInitial" "Lcom/example/verify_markov_chains/verifymarkovchains/numeric/Rational;" ≠ Jvm.RoadKit.slotOf Z "com/example/verify_markov_chains/verifymarkovchains/model/Variable" "initial" "I" := slot_ne (Or.inr (hg 77 rfl)) (Or.inr (hg 73 rfl)) (by decide) (t := (.object "com/example/verify_markov_chains/verifymarkovchains/numeric/Rational")) (t' := .int) (by decide) (by decide)
  have s6_5 : Jvm.RoadKit.slotOf Z "com/example/verify_markov_chains/verifymarkovchains/model/Variable" "realInitial" "Lcom/example/verify_markov_chains/verifymarkovchains/numeric/Rational;" ≠ Jvm.RoadKit.slotOf Z "com/example/verify_markov_chains/verifymarkovchains/model/Variable" "valueNames" "Ljava/util/List;" := slot_ne (Or.inr (hg 77 rfl)) (Or.inr (hg 75 rfl)) (by decide) (t := (.object "com/example/verify_markov_chains/verifymarkovchains/numeric/Rational")) (t' := (.object "java/util/List")) (by decide) (by decide)
  have F26 := ((((((F6.other W10 (Or.inr s6_0)).other W13 (Or.inr s6_1)).other W16 (Or.inr s6_2)).other W19 (Or.inr s6_3)).other W22 (Or.inr s6_4)).other W25 (Or.inr s6_5))
  have F27 := (F24.wr W25)
  obtain ⟨T28, h28, X28, e28, W28, st28⟩ := putF X25 hx hZ hown (host := "") (Or.inl (hg 76 rfl)) Via.refl e25 F26 F27 (Or.inr ⟨(hg 77 rfl), rfl, hnm⟩) (hg 56 rfl) (ty := (.object "com/example/verify_markov_chains/verifymarkovchains/numeric/Rational")) (by decide) (own_narO rr) (own_fitO rr) (g := (mkF m 103 #[(vA a), (vA nm), (vA ty), (vI lo), (vI up), (vI ini), .val .null, .val ri, .val .null, .val .null] [ri, (.ref a)])) rfl rfl (hb hby d11_103)
  refine Dn.of st28 ?_
  show Dn p e below s _ _ _ (T28.setTop (mkF m 106 #[(vA a), (vA nm), (vA ty), (vI lo), (vI up), (vI ini), .val .null, .val ri, .val .null, .val .null] []))
  have Nv6 := Fr.snoc X28 Nv5 g0
  refine Dn.of (fun tt_ zz_ => XS.aloadN X28.here hx rfl (hb hby d11_106) rfl rfl zz_) ?_
  refine Dn.of (fun tt_ zz_ => XS.aload X28.here hx rfl (hb hby d11_107) rfl rfl zz_) ?_
  show Dn p e below s _ _ _ (T28.setTop (mkF m 109 #[(vA a), (vA nm), (vA ty), (vI lo), (vI up), (vI ini), .val .null, .val ri, .val .null, .val .null] [.null, (.ref a)]))
  have s7_0 : Jvm.RoadKit.slotOf Z "com/example/verify_markov_chains/verifymarkovchains/model/Variable" "realLower" "Lcom/example/verify_markov_chains/verifymarkovchains/numeric/Rational;" ≠ Jvm.RoadKit.slotOf Z "com/example/verify_markov_chains/verifymarkovchains/model/Variable" "name" "Ljava/lang/String;" := slot_ne (Or.inr (hg 79 rfl)) (Or.inr (hg 65 rfl)) (by decide) (t := (.object "com/example/verify_markov_chains/verifymarkovchains/numeric/Rational")) (t' := (.object "java/lang/String")) (by decide) (by decide)
  have s7_1 : Jvm.RoadKit.slotOf Z "com/example/verify_markov_chains/verifymarkovchains/model/Variable" "realLower" "Lcom/example/verify_markov_chains/verifymarkovchains/numeric/Rational;" ≠ Jvm.RoadKit.slotOf Z "com/example/verify_markov_chains/verifymarkovchains/model/Variable" "type" "Lcom/example/verify_markov_chains/verifymarkovchains/expression/Type;" := slot_ne (Or.inr (hg 79 rfl)) (Or.inr (hg 67 rfl)) (by decide) (t := (.object "com/example/verify_markov_chains/verifymarkovchains/numeric/Rational")) (t' := (.object "com/example/verify_markov_chains/verifymarkovchains/expression/Type")) (by decide) (by decide)
  have s7_2 : Jvm.RoadKit.slotOf Z "com/example/verify_markov_chains/verifymarkovchains/model/Variable" "realLower" "Lcom/example/verify_markov_chains/verifymarkovchains/numeric/Rational;" ≠ Jvm.RoadKit.slotOf Z "com/example/verify_markov_chains/verifymarkovchains/model/Variable" "lower" "I" := slot_ne (Or.inr (hg 79 rfl)) (Or.inr (hg 69 rfl)) (by decide) (t := (.object "com/example/verify_markov_chains/verifymarkovchains/numeric/Rational")) (t' := .int) (by decide) (by decide)
  have s7_3 : Jvm.RoadKit.slotOf Z "com/example/verify_markov_chains/verifymarkovchains/model/Variable" "realLower" "Lcom/example/verify_markov_chains/verifymarkovchains/numeric/Rational;" ≠ Jvm.RoadKit.slotOf Z "com/example/verify_markov_chains/verifymarkovchains/model/Variable" "upper" "I" := slot_ne (Or.inr (hg 79 rfl)) (Or.inr (hg 71 rfl)) (by decide) (t := (.object "com/example/verify_markov_chains/verifymarkovchains/numeric/Rational")) (t' := .int) (by decide) (by decide)
  have s7_4 : Jvm.RoadKit.slotOf Z "com/example/verify_markov_chains/verifymarkovchains/model/Variable" "realLower" "Lcom/example/verify_markov_chains/verifymarkovchains/numeric/Rational;" ≠ Jvm.RoadKit.slotOf Z "com/example/verify_markov_chains/verifymarkovchains/model/Variable" "initial" "I" := slot_ne (Or.inr (hg 79 rfl)) (Or.inr (hg 73 rfl)) (by decide) (t := (.object "com/example/verify_markov_chains/verifymarkovchains/numeric/Rational")) (t' := .int) (by decide) (by decide)
  have s7_5 : Jvm.RoadKit.slotOf Z "com/example/verify_markov_chains/verifymarkovchains/model/Variable" "realLower" "Lcom/example/verify_markov_chains/verifymarkovchains/numeric/Rational;" ≠ Jvm.RoadKit.slotOf Z "com/example/verify_markov_chains/verifymarkovchains/model/Variable" "valueNames" "Ljava/util/List;" := slot_ne (Or.inr (hg 79 rfl)) (Or.inr (hg 75 rfl)) (by decide) (t := (.object "com/example/verify_markov_chains/verifymarkovchains/numeric/Rational")) (t' := (.object "java/util/List")) (by decide) (by decide)
  have s7_6 : Jvm.RoadKit.slotOf Z "com/example/verify_markov_chains/verifymarkovchains/model/Variable" "realLower" "Lcom/example/verify_markov_chains/verifymarkovchains/numeric/Rational;" ≠ Jvm.RoadKit.slotOf Z "com/example/verify_markov_chains/verifymarkovchains/model/Variable" "realInitial" "Lcom/example/verify_markov_chains/verifymarkovchains/numeric/Rational;" := slot_ne (Or.inr (hg 79 rfl)) (Or.inr (hg 77 rfl)) (by decide) (t := (.object "com/example/verify_markov_chains/verifymarkovchains/numeric/Rational")) (t' := (.object "com/example/verify_markov_chains/verifymarkovchains/numeric/Rational")) (by decide) (by decide)
  have F29 := (((((((F7.other W10 (Or.inr s7_0)).other W13 (Or.inr s7_1)).other W16 (Or.inr s7_2)).other W19 (Or.inr s7_3)).other W22 (Or.inr s7_4)).other W25 (Or.inr s7_5)).other W28 (Or.inr s7_6))
  have F30 := (F27.wr W28)
  obtain ⟨T31, h31, X31, e31, W31, st31⟩ := putF X28 hx hZ hown (host := "") (Or.inl (hg 78 rfl)) Via.refl e28 F29 F30 (Or.inr ⟨(hg 79 rfl), rfl, hnm⟩) (hg 56 rfl) (ty := (.object "com/example/verify_markov_chains/verifymarkovchains/numeric/Rational")) (by decide) rfl rfl (g := (mkF m 109 #[(vA a), (vA nm), (vA ty), (vI lo), (vI up), (vI ini), .val .null, .val ri, .val .null, .val .null] [.null, (.ref a)])) rfl rfl (hb hby d11_109)
  refine Dn.of st31 ?_
  show Dn p e below s _ _ _ (T31.setTop (mkF m 112 #[(vA a), (vA nm), (vA ty), (vI lo), (vI up), (vI ini), .val .null, .val ri, .val .null, .val .null] []))
  have Nv7 := Fr.snoc X31 Nv6 g0
  refine Dn.of (fun tt_ zz_ => XS.aloadN X31.here hx rfl (hb hby d11_112) rfl rfl zz_) ?_
  refine Dn.of (fun tt_ zz_ => XS.aload X31.here hx rfl (hb hby d11_113) rfl rfl zz_) ?_
  show Dn p e below s _ _ _ (T31.setTop (mkF m 115 #[(vA a), (vA nm), (vA ty), (vI lo), (vI up), (vI ini), .val .null, .val ri, .val .null, .val .null] [.null, (.ref a)]))
  have s8_0 : Jvm.RoadKit.slotOf Z "com/example/verify_markov_chains/verifymarkovchains/model/Variable" "realUpper" "Lcom/example/verify_markov_chains/verifymarkovchains/numeric/Rational;" ≠ Jvm.RoadKit.slotOf Z "com/example/verify_markov_chains/verifymarkovchains/model/Variable" "name" "Ljava/lang/String;" := slot_ne (Or.inr (hg 81 rfl)) (Or.inr (hg 65 rfl)) (by decide) (t := (.object "com/example/verify_markov_chains/verifymarkovchains/numeric/Rational")) (t' := (.object "java/lang/String")) (by decide) (by decide)
  have s8_1 : Jvm.RoadKit.slotOf Z "com/example/verify_markov_chains/verifymarkovchains/model/Variable" "realUpper" "Lcom/example/verify_markov_chains/verifymarkovchains/numeric/Rational;" ≠ Jvm.RoadKit.slotOf Z "com/example/verify_markov_chains/verifymarkovchains/model/Variable" "type" "Lcom/example/verify_markov_chains/verifymarkovchains/expression/Type;" := slot_ne (Or.inr (hg 81 rfl)) (Or.inr (hg 67 rfl)) (by decide) (t := (.object "com/example/verify_markov_chains/verifymarkovchains/numeric/Rational")) (t' := (.object "com/example/verify_markov_chains/verifymarkovchains/expression/Type")) (by decide) (by decide)
  have s8_2 : Jvm.RoadKit.slotOf Z "com/example/verify_markov_chains/verifymarkovchains/model/Variable" "realUpper" "Lcom/example/verify_markov_chains/verifymarkovchains/numeric/Rational;" ≠ Jvm.RoadKit.slotOf Z "com/example/verify_markov_chains/verifymarkovchains/model/Variable" "lower" "I" := slot_ne (Or.inr (hg 81 rfl)) (Or.inr (hg 69 rfl)) (by decide) (t := (.object "com/example/verify_markov_chains/verifymarkovchains/numeric/Rational")) (t' := .int) (by decide) (by decide)
  have s8_3 : Jvm.RoadKit.slotOf Z "com/example/verify_markov_chains/verifymarkovchains/model/Variable" "realUpper" "Lcom/example/verify_markov_chains/verifymarkovchains/numeric/Rational;" ≠ Jvm.RoadKit.slotOf Z "com/example/verify_markov_chains/verifymarkovchains/model/Variable" "upper" "I" := slot_ne (Or.inr (hg 81 rfl)) (Or.inr (hg 71 rfl)) (by decide) (t := (.object "com/example/verify_markov_chains/verifymarkovchains/numeric/Rational")) (t' := .int) (by decide) (by decide)
  have s8_4 : Jvm.RoadKit.slotOf Z "com/example/verify_markov_chains/verifymarkovchains/model/Variable" "realUpper" "Lcom/example/verify_markov_chains/verifymarkovchains/numeric/Rational;" ≠ Jvm.RoadKit.slotOf Z "com/example/verify_markov_chains/verifymarkovchains/model/Variable" "initial" "I" := slot_ne (Or.inr (hg 81 rfl)) (Or.inr (hg 73 rfl)) (by decide) (t := (.object "com/example/verify_markov_chains/verifymarkovchains/numeric/Rational")) (t' := .int) (by decide) (by decide)
  have s8_5 : Jvm.RoadKit.slotOf Z "com/example/verify_markov_chains/verifymarkovchains/model/Variable" "realUpper" "Lcom/example/verify_markov_chains/verifymarkovchains/numeric/Rational;" ≠ Jvm.RoadKit.slotOf Z "com/example/verify_markov_chains/verifymarkovchains/model/Variable" "valueNames" "Ljava/util/List;" := slot_ne (Or.inr (hg 81 rfl)) (Or.inr (hg 75 rfl)) (by decide) (t := (.object "com/example/verify_markov_chains/verifymarkovchains/numeric/Rational")) (t' := (.object "java/util/List")) (by decide) (by decide)
  have s8_6 : Jvm.RoadKit.slotOf Z "com/example/verify_markov_chains/verifymarkovchains/model/Variable" "realUpper" "Lcom/example/verify_markov_chains/verifymarkovchains/numeric/Rational;" ≠ Jvm.RoadKit.slotOf Z "com/example/verify_markov_chains/verifymarkovchains/model/Variable" "realInitial" "Lcom/example/verify_markov_chains/verifymarkovchains/numeric/Rational;" := slot_ne (Or.inr (hg 81 rfl)) (Or.inr (hg 77 rfl)) (by decide) (t := (.object "com/example/verify_markov_chains/verifymarkovchains/numeric/Rational")) (t' := (.object "com/example/verify_markov_chains/verifymarkovchains/numeric/Rational")) (by decide) (by decide)
  have s8_7 : Jvm.RoadKit.slotOf Z "com/example/verify_markov_chains/verifymarkovchains/model/Variable" "realUpper" "Lcom/example/verify_markov_chains/verifymarkovchains/numeric/Rational;" ≠ Jvm.RoadKit.slotOf Z "com/example/verify_markov_chains/verifymarkovchains/model/Variable" "realLower" "Lcom/example/verify_markov_chains/verifymarkovchains/numeric/Rational;" := slot_ne (Or.inr (hg 81 rfl)) (Or.inr (hg 79 rfl)) (by decide) (t := (.object "com/example/verify_markov_chains/verifymarkovchains/numeric/Rational")) (t' := (.object "com/example/verify_markov_chains/verifymarkovchains/numeric/Rational")) (by decide) (by decide)
  have F32 := ((((((((F8.other W10 (Or.inr s8_0)).other W13 (Or.inr s8_1)).other W16 (Or.inr s8_2)).other W19 (Or.inr s8_3)).other W22 (Or.inr s8_4)).other W25 (Or.inr s8_5)).other W28 (Or.inr s8_6)).other W31 (Or.inr s8_7))
  have F33 := (F30.wr W31)
  obtain ⟨T34, h34, X34, e34, W34, st34⟩ := putF X31 hx hZ hown (host := "") (Or.inl (hg 80 rfl)) Via.refl e31 F32 F33 (Or.inr ⟨(hg 81 rfl), rfl, hnm⟩) (hg 56 rfl) (ty := (.object "com/example/verify_markov_chains/verifymarkovchains/numeric/Rational")) (by decide) rfl rfl (g := (mkF m 115 #[(vA a), (vA nm), (vA ty), (vI lo), (vI up), (vI ini), .val .null, .val ri, .val .null, .val .null] [.null, (.ref a)])) rfl rfl (hb hby d11_115)
  refine Dn.of st34 ?_
  show Dn p e below s _ _ _ (T34.setTop (mkF m 118 #[(vA a), (vA nm), (vA ty), (vI lo), (vI up), (vI ini), .val .null, .val ri, .val .null, .val .null] []))
  have Nv8 := Fr.snoc X34 Nv7 g0
  have F35 := ((((((((((Keep.refl h0 [a]).wr W10 (Or.inl (List.mem_of_getElem? (i := 0) rfl))).wr W13 (Or.inl (List.mem_of_getElem? (i := 0) rfl))).wr W16 (Or.inl (List.mem_of_getElem? (i := 0) rfl))).wr W19 (Or.inl (List.mem_of_getElem? (i := 0) rfl))).wr W22 (Or.inl (List.mem_of_getElem? (i := 0) rfl))).wr W25 (Or.inl (List.mem_of_getElem? (i := 0) rfl))).wr W28 (Or.inl (List.mem_of_getElem? (i := 0) rfl))).wr W31 (Or.inl (List.mem_of_getElem? (i := 0) rfl))).wr W34 (Or.inl (List.mem_of_getElem? (i := 0) rfl)))
  have F36 := (F33.wr W34)
  have s1_2 : Jvm.RoadKit.slotOf Z "com/example/verify_markov_chains/verifymarkovchains/model/Variable" "type" "Lcom/example/verify_markov_chains/verifymarkovchains/expression/Type;" ≠ Jvm.RoadKit.slotOf Z "com/example/verify_markov_chains/verifymarkovchains/model/Variable" "lower" "I" := slot_ne (Or.inr (hg 67 rfl)) (Or.inr (hg 69 rfl)) (by decide) (t := (.object "com/example/verify_markov_chains/verifymarkovchains/expression/Type")) (t' := .int) (by decide) (by decide)
  have s1_3 : Jvm.RoadKit.slotOf Z "com/example/verify_markov_chains/verifymarkovchains/model/Variable" "type" "Lcom/example/verify_markov_chains/verifymarkovchains/expression/Type;" ≠ Jvm.RoadKit.slotOf Z "com/example/verify_markov_chains/verifymarkovchains/model/Variable" "upper" "I" := slot_ne (Or.inr (hg 67 rfl)) (Or.inr (hg 71 rfl)) (by decide) (t := (.object "com/example/verify_markov_chains/verifymarkovchains/expression/Type")) (t' := .int) (by decide) (by decide)
  have s1_4 : Jvm.RoadKit.slotOf Z "com/example/verify_markov_chains/verifymarkovchains/model/Variable" "type" "Lcom/example/verify_markov_chains/verifymarkovchains/expression/Type;" ≠ Jvm.RoadKit.slotOf Z "com/example/verify_markov_chains/verifymarkovchains/model/Variable" "initial" "I" := slot_ne (Or.inr (hg 67 rfl)) (Or.inr (hg 73 rfl)) (by decide) (t := (.object "com/example/verify_markov_chains/verifymarkovchains/expression/Type")) (t' := .int) (by decide) (by decide)
  have s1_5 : Jvm.RoadKit.slotOf Z "com/example/verify_markov_chains/verifymarkovchains/model/Variable" "type" "Lcom/example/verify_markov_chains/verifymarkovchains/expression/Type;" ≠ Jvm.RoadKit.slotOf Z "com/example/verify_markov_chains/verifymarkovchains/model/Variable" "valueNames" "Ljava/util/List;" := slot_ne (Or.inr (hg 67 rfl)) (Or.inr (hg 75 rfl)) (by decide) (t := (.object "com/example/verify_markov_chains/verifymarkovchains/expression/Type")) (t' := (.object "java/util/List")) (by decide) (by decide)
  have s1_6 : Jvm.RoadKit.slotOf Z "com/example/verify_markov_chains/verifymarkovchains/model/Variable" "type" "Lcom/example/verify_markov_chains/verifymarkovchains/expression/Type;" ≠ Jvm.RoadKit.slotOf Z "com/example/verify_markov_chains/verifymarkovchains/model/Variable" "realInitial" "Lcom/example/verify_markov_chains/verifymarkovchains/numeric/Rational;" := slot_ne (Or.inr (hg 67 rfl)) (Or.inr (hg 77 rfl)) (by decide) (t := (.object "com/example/verify_markov_chains/verifymarkovchains/expression/Type")) (t' := (.object "com/example/verify_markov_chains/verifymarkovchains/numeric/Rational")) (by decide) (by decide)
  have s1_7 : Jvm.RoadKit.slotOf Z "com/example/verify_markov_chains/verifymarkovchains/model/Variable" "type" "Lcom/example/verify_markov_chains/verifymarkovchains/expression/Type;" ≠ Jvm.RoadKit.slotOf Z "com/example/verify_markov_chains/verifymarkovchains/model/Variable" "realLower" "Lcom/example/verify_markov_chains/verifymarkovchains/numeric/Rational;" := slot_ne (Or.inr (hg 67 rfl)) (Or.inr (hg 79 rfl)) (by decide) (t := (.object "com/example/verify_markov_chains/verifymarkovchains/expression/Type")) (t' := (.object "com/example/verify_markov_chains/verifymarkovchains/numeric/Rational")) (by decide) (by decide)
  have s1_8 : Jvm.RoadKit.slotOf Z "com/example/verify_markov_chains/verifymarkovchains/model/Variable" "type" "Lcom/example/verify_markov_chains/verifymarkovchains/expression/Type;" ≠ Jvm.RoadKit.slotOf Z "com/example/verify_markov_chains/verifymarkovchains/model/Variable" "realUpper" "Lcom/example/verify_markov_chains/verifymarkovchains/numeric/Rational;" := slot_ne (Or.inr (hg 67 rfl)) (Or.inr (hg 81 rfl)) (by decide) (t := (.object "com/example/verify_markov_chains/verifymarkovchains/expression/Type")) (t' := (.object "com/example/verify_markov_chains/verifymarkovchains/numeric/Rational")) (by decide) (by decide)
  have F37 := ((((((((F11.same W13).other W16 (Or.inr s1_2)).other W19 (Or.inr s1_3)).other W22 (Or.inr s1_4)).other W25 (Or.inr s1_5)).other W28 (Or.inr s1_6)).other W31 (Or.inr s1_7)).other W34 (Or.inr s1_8))
  have s2_3 : Jvm.RoadKit.slotOf Z "com/example/verify_markov_chains/verifymarkovchains/model/Variable" "lower" "I" ≠ Jvm.RoadKit.slotOf Z "com/example/verify_markov_chains/verifymarkovchains/model/Variable" "upper" "I" := slot_ne (Or.inr (hg 69 rfl)) (Or.inr (hg 71 rfl)) (by decide) (t := .int) (t' := .int) (by decide) (by decide)
  have s2_4 : Jvm.RoadKit.slotOf Z "com/example/verify_markov_chains/verifymarkovchains/model/Variable" "lower" "I" ≠ Jvm.RoadKit.slotOf Z "com/example/verify_markov_chains/verifymarkovchains/model/Variable" "initial" "I" := slot_ne (Or.inr (hg 69 rfl)) (Or.inr (hg 73 rfl)) (by decide) (t := .int) (t' := .int) (by decide) (by decide)
  have s2_5 : Jvm.RoadKit.slotOf Z "com/example/verify_markov_chains/verifymarkovchains/model/Variable" "lower" "I" ≠ Jvm.RoadKit.slotOf Z "com/example/verify_markov_chains/verifymarkovchains/model/Variable" "valueNames" "Ljava/util/List;" := slot_ne (Or.inr (hg 69 rfl)) (Or.inr (hg 75 rfl)) (by decide) (t := .int) (t' := (.object "java/util/List")) (by decide) (by decide)
  have s2_6 : Jvm.RoadKit.slotOf Z "com/example/verify_markov_chains/verifymarkovchains/model/Variable" "lower" "I" ≠ Jvm.RoadKit.slotOf Z "com/example/verify_markov_chains/verifymarkovchains/model/Variable" "realInitial" "Lcom/example/verify_markov_chains/verifymarkovchains/numeric/Rational;" := slot_ne (Or.inr (hg 69 rfl)) (Or.inr (hg 77 rfl)) (by decide) (t := .int) (t' := (.object "com/example/verify_markov_chains/verifymarkovchains/numeric/Rational")) (by decide) (by decide)
  have s2_7 : Jvm.RoadKit.slotOf Z "com/example/verify_markov_chains/verifymarkovchains/model/Variable" "lower" "I" ≠ Jvm.RoadKit.slotOf Z "com/example/verify_markov_chains/verifymarkovchains/model/Variable" "realLower" "Lcom/example/verify_markov_chains/verifymarkovchains/numeric/Rational;" := slot_ne (Or.inr (hg 69 rfl)) (Or.inr (hg 79 rfl)) (by decide) (t := .int) (t' := (.object "com/example/verify_markov_chains/verifymarkovchains/numeric/Rational")) (by decide) (by decide)
  have s2_8 : Jvm.RoadKit.slotOf Z "com/example/verify_markov_chains/verifymarkovchains/model/Variable" "lower" "I" ≠ Jvm.RoadKit.slotOf Z "com/example/verify_markov_chains/verifymarkovchains/model/Variable" "realUpper" "Lcom/example/verify_markov_chains/verifymarkovchains/numeric/Rational;" := slot_ne (Or.inr (hg 69 rfl)) (Or.inr (hg 81 rfl)) (by decide) (t := .int) (t' := (.object "com/example/verify_markov_chains/verifymarkovchains/numeric/Rational")) (by decide) (by decide)
  have F38 := (((((((F14.same W16).other W19 (Or.inr s2_3)).other W22 (Or.inr s2_4)).other W25 (Or.inr s2_5)).other W28 (Or.inr s2_6)).other W31 (Or.inr s2_7)).other W34 (Or.inr s2_8))
  have s3_4 : Jvm.RoadKit.slotOf Z "com/example/verify_markov_chains/verifymarkovchains/model/Variable" "upper" "I" ≠ Jvm.RoadKit.slotOf Z "com/example/verify_markov_chains/verifymarkovchains/model/Variable" "initial" "I" := slot_ne (Or.inr (hg 71 rfl)) (Or.inr (hg 73 rfl)) (by decide) (t := .int) (t' := .int) (by decide) (by decide)
  have s3_5 : Jvm.RoadKit.slotOf Z "com/example/verify_markov_chains/verifymarkovchains/model/Variable" "upper" "I" ≠ Jvm.RoadKit.slotOf Z "com/example/verify_markov_chains/verifymarkovchains/model/Variable" "valueNames" "Ljava/util/List;" := slot_ne (Or.inr (hg 71 rfl)) (Or.inr (hg 75 rfl)) (by decide) (t := .int) (t' := (.object "java/util/List")) (by decide) (by decide)
  have s3_6 : Jvm.RoadKit.slotOf Z "com/example/verify_markov_chains/verifymarkovchains/model/Variable" "upper" "I" ≠ Jvm.RoadKit.slotOf Z "com/example/verify_markov_chains/verifymarkovchains/model/Variable" "realInitial" "Lcom/example/verify_markov_chains/verifymarkovchains/numeric/Rational;" := slot_ne (Or.inr (hg 71 rfl)) (Or.inr (hg 77 rfl)) (by decide) (t := .int) (t' := (.object "com/example/verify_markov_chains/verifymarkovchains/numeric/Rational")) (by decide) (by decide)
  have s3_7 : Jvm.RoadKit.slotOf Z "com/example/verify_markov_chains/verifymarkovchains/model/Variable" "upper" "I" ≠ Jvm.RoadKit.slotOf Z "com/example/verify_markov_chains/verifymarkovchains/model/Variable" "realLower" "Lcom/example/verify_markov_chains/verifymarkovchains/numeric/Rational;" := slot_ne (Or.inr (hg 71 rfl)) (Or.inr (hg 79 rfl)) (by decide) (t := .int) (t' := (.object "com/example/verify_markov_chains/verifymarkovchains/numeric/Rational")) (by decide) (by decide)
  have s3_8 : Jvm.RoadKit.slotOf Z "com/example/verify_markov_chains/verifymarkovchains/model/Variable" "upper" "I" ≠ Jvm.RoadKit.slotOf Z "com/example/verify_markov_chains/verifymarkovchains/model/Variable" "realUpper" "Lcom/example/verify_markov_chains/verifymarkovchains/numeric/Rational;" := slot_ne (Or.inr (hg 71 rfl)) (Or.inr (hg 81 rfl)) (by decide) (t := .int) (t' := (.object "com/example/verify_markov_chains/verifymarkovchains/numeric/Rational")) (by decide) (by decide)
  have F39 := ((((((F17.same W19).other W22 (Or.inr s3_4)).other W25 (Or.inr s3_5)).other W28 (Or.inr s3_6)).other W31 (Or.inr s3_7)).other W34 (Or.inr s3_8))
  have s7_8 : Jvm.RoadKit.slotOf Z "com/example/verify_markov_chains/verifymarkovchains/model/Variable" "realLower" "Lcom/example/verify_markov_chains/verifymarkovchains/numeric/Rational;" ≠ Jvm.RoadKit.slotOf Z "com/example/verify_markov_chains/verifymarkovchains/model/Variable" "realUpper" "Lcom/example/verify_markov_chains/verifymarkovchains/numeric/Rational;" := slot_ne (Or.inr (hg 79 rfl)) (Or.inr (hg 81 rfl)) (by decide) (t := (.object "com/example/verify_markov_chains/verifymarkovchains/numeric/Rational")) (t' := (.object "com/example/verify_markov_chains/verifymarkovchains/numeric/Rational")) (by decide) (by decide)
  have F40 := ((F29.same W31).other W34 (Or.inr s7_8))
  exact Dn.retV X34 hx hlk hret (hb hby d11_118) (by decide) (by decide) (by rw [e34]; exact ⟨rfl, Nv8, F35, F36, F37, F38, F39, F40, (F32.same W34)⟩)
theorem ef10_AIII (m : MethodId) (x0 : Addr) (x1 : Int32) (x2 : Int32) (x3 : Int32) : entryFrame m #[(.ref x0), (.int x1), (.int x2), (.int x3)] 4 = mkF m 0 #[(vA x0), (vI x1), (vI x2), (vI x3)] [] := by first | (simp [entryFrame, mkF, argsToLocals, Value.category]; done) | rfl
set_option maxRecDepth 65536 in
set_option maxHeartbeats 40000000 in
theorem rmOI (l : Launch) (Z : State) (a0 : Array Value) (hw : ∀ d ∈ tables_1, d.before a0 Z = true) (h0 : Heap) (n0 : Nat) (Z0 : n0 ≤ h0.size) (nm aT : Addr) (lo up : Int32) (ST : Sta Z Z.heap "com/example/verify_markov_chains/verifymarkovchains/expression/Type" "INT" "Lcom/example/verify_markov_chains/verifymarkovchains/expression/Type;" (.ref aT)) (O0 : Old Z n0 h0) (hle : lo.toInt ≤ up.toInt) :
    ctr l Z (⟨"com/example/verify_markov_chains/verifymarkovchains/model/Variable", "ofInt", "(Ljava/lang/String;III)Lcom/example/verify_markov_chains/verifymarkovchains/model/Variable;"⟩ : MethodName) prog_119_method_1_code 4 (some (.object "com/example/verify_markov_chains/verifymarkovchains/model/Variable")) [] ({ frames := 2, cells := 1, slots := 9, locals := 48 } : Room) 1 9 #[(.ref nm), (.int lo), (.int up), (.int lo)] h0 (fun v h L => ∃ u, v = some (.ref u) ∧ h0.size = u ∧ Fr n0 L ∧ Ext h0 h ∧ own_Var Z h u aT lo up) := by
  refine ctr_of (plainFor_of_name pn4) ?_
  intro p e s m below meth jc s₁ hx hby hml hret hlk hnm hown hZ e0 X0
  have N0 := Fr.nil n0
  have hg : ∀ (i : Nat) {d : Jvm.Cond}, tables_1[i]? = some d → d.before a0 Z = true := fun i d q => hw d (List.mem_of_getElem? q)
  refine Dn.cast (ef10_AIII m nm lo up lo) ?_
  show Dn p e below s _ _ _ (s₁.setTop (mkF m 0 #[(vA nm), (vI lo), (vI up), (vI lo)] []))
  have q1 : ¬ up < lo := fun y => absurd (Int32.lt_iff_toInt_lt.mp y) (by omega)
  have q2 : ¬ lo < lo := fun y => absurd (Int32.lt_iff_toInt_lt.mp y) (by omega)
  obtain ⟨T41, h41, X41, e41, E41, A41, D41, U41, st41⟩ := newO X0 hx hZ hown (hg 55 rfl) (hg 56 rfl) (hg 53 rfl) e0 (g := (mkF m 0 #[(vA nm), (vI lo), (vI up), (vI lo)] [])) rfl (hb hby d10_0) (by decide) (by decide)
  obtain ⟨b41, g41⟩ : ∃ z, z = h0.size := ⟨_, rfl⟩
  rw [← g41] at A41 D41 U41 st41
  refine Dn.of st41 ?_
  show Dn p e below s _ _ _ (T41.setTop (mkF m 3 #[(vA nm), (vI lo), (vI up), (vI lo)] [(.ref b41)]))
  have F_name_41 : Fld Z h41 b41 "com/example/verify_markov_chains/verifymarkovchains/model/Variable" "name" "Ljava/lang/String;" .null := D41 (Or.inr (hg 65 rfl)) (ty := (.object "java/lang/String")) (by decide)
  have F_type_41 : Fld Z h41 b41 "com/example/verify_markov_chains/verifymarkovchains/model/Variable" "type" "Lcom/example/verify_markov_chains/verifymarkovchains/expression/Type;" .null := D41 (Or.inr (hg 67 rfl)) (ty := (.object "com/example/verify_markov_chains/verifymarkovchains/expression/Type")) (by decide)
  have F_lower_41 : Fld Z h41 b41 "com/example/verify_markov_chains/verifymarkovchains/model/Variable" "lower" "I" (.int (0 : Int32)) := D41 (Or.inr (hg 69 rfl)) (ty := .int) (by decide)
  have F_upper_41 : Fld Z h41 b41 "com/example/verify_markov_chains/verifymarkovchains/model/Variable" "upper" "I" (.int (0 : Int32)) := D41 (Or.inr (hg 71 rfl)) (ty := .int) (by decide)
  have F_initial_41 : Fld Z h41 b41 "com/example/verify_markov_chains/verifymarkovchains/model/Variable" "initial" "I" (.int (0 : Int32)) := D41 (Or.inr (hg 73 rfl)) (ty := .int) (by decide)
  have F_valueNames_41 : Fld Z h41 b41 "com/example/verify_markov_chains/verifymarkovchains/model/Variable" "valueNames" "Ljava/util/List;" .null := D41 (Or.inr (hg 75 rfl)) (ty := (.object "java/util/List")) (by decide)
  have F_realInitial_41 : Fld Z h41 b41 "com/example/verify_markov_chains/verifymarkovchains/model/Variable" "realInitial" "Lcom/example/verify_markov_chains/verifymarkovchains/numeric/Rational;" .null := D41 (Or.inr (hg 77 rfl)) (ty := (.object "com/example/verify_markov_chains/verifymarkovchains/numeric/Rational")) (by decide)
  have F_realLower_41 : Fld Z h41 b41 "com/example/verify_markov_chains/verifymarkovchains/model/Variable" "realLower" "Lcom/example/verify_markov_chains/verifymarkovchains/numeric/Rational;" .null := D41 (Or.inr (hg 79 rfl)) (ty := (.object "com/example/verify_markov_chains/verifymarkovchains/numeric/Rational")) (by decide)
  have F_realUpper_41 : Fld Z h41 b41 "com/example/verify_markov_chains/verifymarkovchains/model/Variable" "realUpper" "Lcom/example/verify_markov_chains/verifymarkovchains/numeric/Rational;" .null := D41 (Or.inr (hg 81 rfl)) (ty := (.object "com/example/verify_markov_chains/verifymarkovchains/numeric/Rational")) (by decide)
  have O1 := O0.ext E41
  have gb : n0 ≤ b41 := g41 ▸ Z0
  refine Dn.of (fun tt_ zz_ => XS.dup X41.here hx rfl (hb hby d10_3) rfl rfl zz_) ?_
  refine Dn.of (fun tt_ zz_ => XS.aloadN X41.here hx rfl (hb hby d10_4) rfl rfl zz_) ?_
  show Dn p e below s _ _ _ (T41.setTop (mkF m 5 #[(vA nm), (vI lo), (vI up), (vI lo)] [(.ref nm), (.ref b41), (.ref b41)]))
  obtain ⟨T42, X42, e42, st42⟩ := getS2 X41 hx hZ hown (host := "") (Or.inl (hg 57 rfl)) Via.refl e41 (ST.ext O1.2) (g := (mkF m 5 #[(vA nm), (vI lo), (vI up), (vI lo)] [(.ref nm), (.ref b41), (.ref b41)])) rfl (hb hby d10_5)
  refine Dn.of st42 ?_
  show Dn p e below s _ _ _ (T42.setTop (mkF m 8 #[(vA nm), (vI lo), (vI up), (vI lo)] [(.ref aT), (.ref nm), (.ref b41), (.ref b41)]))
  refine Dn.of (fun tt_ zz_ => XS.iloadN X42.here hx rfl (hb hby d10_8) rfl zz_) ?_
  refine Dn.of (fun tt_ zz_ => XS.iloadN X42.here hx rfl (hb hby d10_9) rfl zz_) ?_
  refine Dn.of (fun tt_ zz_ => XS.iloadN X42.here hx rfl (hb hby d10_10) rfl zz_) ?_
  refine Dn.of (fun tt_ zz_ => XS.aconstNull X42.here hx rfl (hb hby d10_11) zz_) ?_
  show Dn p e below s _ _ _ (T42.setTop (mkF m 12 #[(vA nm), (vI lo), (vI up), (vI lo)] [.null, (.int lo), (.int up), (.int lo), (.ref aT), (.ref nm), (.ref b41), (.ref b41)]))
  refine Dn.of (fun tt_ zz_ => XS.aconstNull X42.here hx rfl (hb hby d10_12) zz_) ?_
  refine Dn.of (fun tt_ zz_ => XS.aconstNull X42.here hx rfl (hb hby d10_13) zz_) ?_
  refine Dn.of (fun tt_ zz_ => XS.aconstNull X42.here hx rfl (hb hby d10_14) zz_) ?_
  show Dn p e below s _ _ _ (T42.setTop (mkF m 15 #[(vA nm), (vI lo), (vI up), (vI lo)] [.null, .null, .null, .null, (.int lo), (.int up), (.int lo), (.ref aT), (.ref nm), (.ref b41), (.ref b41)]))
  obtain ⟨v43, T43, L43, Q43, X43, st43⟩ := cIn X42 hx hZ (y := (⟨"com/example/verify_markov_chains/verifymarkovchains/model/Variable", "<init>", "(Ljava/lang/String;Lcom/example/verify_markov_chains/verifymarkovchains/expression/Type;IIILjava/util/List;Lcom/example/verify_markov_chains/verifymarkovchains/numeric/Rational;Lcom/example/verify_markov_chains/verifymarkovchains/numeric/Rational;Lcom/example/verify_markov_chains/verifymarkovchains/numeric/Rational;)V"⟩ : MethodName)) rfl hown (hg 60 rfl) (hg 61 rfl) (hg 53 rfl) (hg 62 rfl) (by decide) (a := b41) (argsL := [(.ref nm), (.ref aT), (.int lo), (.int up), (.int lo), .null, .null, .null, .null]) (rest := [(.ref b41)]) (rmV l Z a0 hw h41 n0 (Nat.le_trans Z0 E41.1) b41 nm aT lo up lo .null rfl q1 q2 q1 A41 F_name_41 F_type_41 F_lower_41 F_upper_41 F_initial_41 F_valueNames_41 F_realInitial_41 F_realLower_41 F_realUpper_41 gb) e42  1 (by decide) (by decide) (by decide) (by decide) (g := (mkF m 15 #[(vA nm), (vI lo), (vI up), (vI lo)] [.null, .null, .null, .null, (.int lo), (.int up), (.int lo), (.ref aT), (.ref nm), (.ref b41), (.ref b41)])) rfl (by rw [hml]; rfl) (lenOf pd2 rfl) rfl (by show 2 * 0 + _ ≤ _; exact Nat.le_of_eq rfl) (hb hby d10_15)
  obtain ⟨rfl, M1, K1, V1⟩ := Q43
  refine Dn.of st43 ?_
  show Dn p e below s _ _ _ (T43.setTop (mkF m 18 #[(vA nm), (vI lo), (vI up), (vI lo)] [(.ref b41)]))
  exact Dn.retA X43 hx hlk hret rfl rfl (hb hby d10_18) (by decide) (by decide) (⟨_, rfl, g41.symm, Fr.app N0 M1, own_extK E41 K1 g41, V1⟩)
theorem ef34_AI (m : MethodId) (x0 : Addr) (x1 : Int32) : entryFrame m #[(.ref x0), (.int x1)] 2 = mkF m 0 #[(vA x0), (vI x1)] [] := by first | (simp [entryFrame, mkF, argsToLocals, Value.category]; done) | rfl
set_option maxRecDepth 65536 in
set_option maxHeartbeats 40000000 in
theorem rmOB (l : Launch) (Z : State) (a0 : Array Value) (hw : ∀ d ∈ tables_1, d.before a0 Z = true) (h0 : Heap) (n0 : Nat) (Z0 : n0 ≤ h0.size) (nm aT : Addr) (ST : Sta Z Z.heap "com/example/verify_markov_chains/verifymarkovchains/expression/Type" "BOOL" "Lcom/example/verify_markov_chains/verifymarkovchains/expression/Type;" (.ref aT)) (O0 : Old Z n0 h0) :
    ctr l Z (⟨"com/example/verify_markov_chains/verifymarkovchains/model/Variable", "ofBool", "(Ljava/lang/String;Z)Lcom/example/verify_markov_chains/verifymarkovchains/model/Variable;"⟩ : MethodName) prog_119_method_2_code 2 (some (.object "com/example/verify_markov_chains/verifymarkovchains/model/Variable")) [] ({ frames := 2, cells := 1, slots := 9, locals := 48 } : Room) 1 9 #[(.ref nm), (.int (0 : Int32))] h0 (fun v h L => ∃ u, v = some (.ref u) ∧ h0.size = u ∧ Fr n0 L ∧ Ext h0 h ∧ own_Var Z h u aT (0 : Int32) (1 : Int32)) := by
  refine ctr_of (plainFor_of_name pn4) ?_
  intro p e s m below meth jc s₁ hx hby hml hret hlk hnm hown hZ e0 X0
  have N0 := Fr.nil n0
  have hg : ∀ (i : Nat) {d : Jvm.Cond}, tables_1[i]? = some d → d.before a0 Z = true := fun i d q => hw d (List.mem_of_getElem? q)
  refine Dn.cast (ef34_AI m nm (0 : Int32)) ?_
  show Dn p e below s _ _ _ (s₁.setTop (mkF m 0 #[(vA nm), (vI (0 : Int32))] []))
  obtain ⟨T44, h44, X44, e44, E44, A44, D44, U44, st44⟩ := newO X0 hx hZ hown (hg 55 rfl) (hg 56 rfl) (hg 53 rfl) e0 (g := (mkF m 0 #[(vA nm), (vI (0 : Int32))] [])) rfl (hb hby d34_0) (by decide) (by decide)
  obtain ⟨b44, g44⟩ : ∃ z, z = h0.size := ⟨_, rfl⟩
  rw [← g44] at A44 D44 U44 st44
  refine Dn.of st44 ?_
  show Dn p e below s _ _ _ (T44.setTop (mkF m 3 #[(vA nm), (vI (0 : Int32))] [(.ref b44)]))
  have F_name_44 : Fld Z h44 b44 "com/example/verify_markov_chains/verifymarkovchains/model/Variable" "name" "Ljava/lang/String;" .null := D44 (Or.inr (hg 65 rfl)) (ty := (.object "java/lang/String")) (by decide)
  have F_type_44 : Fld Z h44 b44 "com/example/verify_markov_chains/verifymarkovchains/model/Variable" "type" "Lcom/example/verify_markov_chains/verifymarkovchains/expression/Type;" .null := D44 (Or.inr (hg 67 rfl)) (ty := (.object "com/example/verify_markov_chains/verifymarkovchains/expression/Type")) (by decide)
  have F_lower_44 : Fld Z h44 b44 "com/example/verify_markov_chains/verifymarkovchains/model/Variable" "lower" "I" (.int (0 : Int32)) := D44 (Or.inr (hg 69 rfl)) (ty := .int) (by decide)
  have F_upper_44 : Fld Z h44 b44 "com/example/verify_markov_chains/verifymarkovchains/model/Variable" "upper" "I" (.int (0 : Int32)) := D44 (Or.inr (hg 71 rfl)) (ty := .int) (by decide)
  have F_initial_44 : Fld Z h44 b44 "com/example/verify_markov_chains/verifymarkovchains/model/Variable" "initial" "I" (.int (0 : Int32)) := D44 (Or.inr (hg 73 rfl)) (ty := .int) (by decide)
  have F_valueNames_44 : Fld Z h44 b44 "com/example/verify_markov_chains/verifymarkovchains/model/Variable" "valueNames" "Ljava/util/List;" .null := D44 (Or.inr (hg 75 rfl)) (ty := (.object "java/util/List")) (by decide)
  have F_realInitial_44 : Fld Z h44 b44 "com/example/verify_markov_chains/verifymarkovchains/model/Variable" "realInitial" "Lcom/example/verify_markov_chains/verifymarkovchains/numeric/Rational;" .null := D44 (Or.inr (hg 77 rfl)) (ty := (.object "com/example/verify_markov_chains/verifymarkovchains/numeric/Rational")) (by decide)
  have F_realLower_44 : Fld Z h44 b44 "com/example/verify_markov_chains/verifymarkovchains/model/Variable" "realLower" "Lcom/example/verify_markov_chains/verifymarkovchains/numeric/Rational;" .null := D44 (Or.inr (hg 79 rfl)) (ty := (.object "com/example/verify_markov_chains/verifymarkovchains/numeric/Rational")) (by decide)
  have F_realUpper_44 : Fld Z h44 b44 "com/example/verify_markov_chains/verifymarkovchains/model/Variable" "realUpper" "Lcom/example/verify_markov_chains/verifymarkovchains/numeric/Rational;" .null := D44 (Or.inr (hg 81 rfl)) (ty := (.object "com/example/verify_markov_chains/verifymarkovchains/numeric/Rational")) (by decide)
  have O1 := O0.ext E44
  have gb : n0 ≤ b44 := g44 ▸ Z0
  refine Dn.of (fun tt_ zz_ => XS.dup X44.here hx rfl (hb hby d34_3) rfl rfl zz_) ?_
  refine Dn.of (fun tt_ zz_ => XS.aloadN X44.here hx rfl (hb hby d34_4) rfl rfl zz_) ?_
  show Dn p e below s _ _ _ (T44.setTop (mkF m 5 #[(vA nm), (vI (0 : Int32))] [(.ref nm), (.ref b44), (.ref b44)]))
  obtain ⟨T45, X45, e45, st45⟩ := getS2 X44 hx hZ hown (host := "") (Or.inl (hg 227 rfl)) Via.refl e44 (ST.ext O1.2) (g := (mkF m 5 #[(vA nm), (vI (0 : Int32))] [(.ref nm), (.ref b44), (.ref b44)])) rfl (hb hby d34_5)
  refine Dn.of st45 ?_
  show Dn p e below s _ _ _ (T45.setTop (mkF m 8 #[(vA nm), (vI (0 : Int32))] [(.ref aT), (.ref nm), (.ref b44), (.ref b44)]))
  refine Dn.of (fun tt_ zz_ => XS.iconst X45.here hx rfl (hb hby d34_8) zz_) ?_
  refine Dn.of (fun tt_ zz_ => XS.iconst X45.here hx rfl (hb hby d34_9) zz_) ?_
  refine Dn.of (fun tt_ zz_ => XS.iloadN X45.here hx rfl (hb hby d34_10) rfl zz_) ?_
  show Dn p e below s _ _ _ (T45.setTop (mkF m 11 #[(vA nm), (vI (0 : Int32))] [(.int (0 : Int32)), (.int (1 : Int32)), (.int (0 : Int32)), (.ref aT), (.ref nm), (.ref b44), (.ref b44)]))
  refine Dn.of (fun tt_ zz_ => XS.ifYes X45.here hx rfl (pc0 := 11) (pc' := 18) rfl (hb hby d34_11) rfl ((if0 _ _).trans (teq rfl).1) (by decide) (by decide) zz_) ?_
  show Dn p e below s _ _ _ (T45.setTop (mkF m 18 #[(vA nm), (vI (0 : Int32))] [(.int (1 : Int32)), (.int (0 : Int32)), (.ref aT), (.ref nm), (.ref b44), (.ref b44)]))
  refine Dn.of (fun tt_ zz_ => XS.iconst X45.here hx rfl (hb hby d34_18) zz_) ?_
  refine Dn.of (fun tt_ zz_ => XS.aconstNull X45.here hx rfl (hb hby d34_19) zz_) ?_
  refine Dn.of (fun tt_ zz_ => XS.aconstNull X45.here hx rfl (hb hby d34_20) zz_) ?_
  refine Dn.of (fun tt_ zz_ => XS.aconstNull X45.here hx rfl (hb hby d34_21) zz_) ?_
  show Dn p e below s _ _ _ (T45.setTop (mkF m 22 #[(vA nm), (vI (0 : Int32))] [.null, .null, .null, (.int (0 : Int32)), (.int (1 : Int32)), (.int (0 : Int32)), (.ref aT), (.ref nm), (.ref b44), (.ref b44)]))
  refine Dn.of (fun tt_ zz_ => XS.aconstNull X45.here hx rfl (hb hby d34_22) zz_) ?_
  show Dn p e below s _ _ _ (T45.setTop (mkF m 23 #[(vA nm), (vI (0 : Int32))] [.null, .null, .null, .null, (.int (0 : Int32)), (.int (1 : Int32)), (.int (0 : Int32)), (.ref aT), (.ref nm), (.ref b44), (.ref b44)]))
  obtain ⟨v46, T46, L46, Q46, X46, st46⟩ := cIn X45 hx hZ (y := (⟨"com/example/verify_markov_chains/verifymarkovchains/model/Variable", "<init>", "(Ljava/lang/String;Lcom/example/verify_markov_chains/verifymarkovchains/expression/Type;IIILjava/util/List;Lcom/example/verify_markov_chains/verifymarkovchains/numeric/Rational;Lcom/example/verify_markov_chains/verifymarkovchains/numeric/Rational;Lcom/example/verify_markov_chains/verifymarkovchains/numeric/Rational;)V"⟩ : MethodName)) rfl hown (hg 60 rfl) (hg 61 rfl) (hg 53 rfl) (hg 62 rfl) (by decide) (a := b44) (argsL := [(.ref nm), (.ref aT), (.int (0 : Int32)), (.int (1 : Int32)), (.int (0 : Int32)), .null, .null, .null, .null]) (rest := [(.ref b44)]) (rmV l Z a0 hw h44 n0 (Nat.le_trans Z0 E44.1) b44 nm aT 0 1 0 .null rfl (by decide) (by decide) (by decide) A44 F_name_44 F_type_44 F_lower_44 F_upper_44 F_initial_44 F_valueNames_44 F_realInitial_44 F_realLower_44 F_realUpper_44 gb) e45  1 (by decide) (by decide) (by decide) (by decide) (g := (mkF m 23 #[(vA nm), (vI (0 : Int32))] [.null, .null, .null, .null, (.int (0 : Int32)), (.int (1 : Int32)), (.int (0 : Int32)), (.ref aT), (.ref nm), (.ref b44), (.ref b44)])) rfl (by rw [hml]; rfl) (lenOf pd2 rfl) rfl (by show 2 * 0 + _ ≤ _; exact Nat.le_of_eq rfl) (hb hby d34_23)
  obtain ⟨rfl, M1, K1, V1⟩ := Q46
  refine Dn.of st46 ?_
  show Dn p e below s _ _ _ (T46.setTop (mkF m 26 #[(vA nm), (vI (0 : Int32))] [(.ref b44)]))
  exact Dn.retA X46 hx hlk hret rfl rfl (hb hby d34_26) (by decide) (by decide) (⟨_, rfl, g44.symm, Fr.app N0 M1, own_extK E44 K1 g44, V1⟩)
theorem ef17_AA (m : MethodId) (x0 : Addr) (x1 : Addr) : entryFrame m #[(.ref x0), (.ref x1)] 2 = mkF m 0 #[(vA x0), (vA x1)] [] := by first | (simp [entryFrame, mkF, argsToLocals, Value.category]; done) | rfl
set_option maxRecDepth 65536 in
set_option maxHeartbeats 40000000 in
theorem rmAd (l : Launch) (Z : State) (a0 : Array Value) (hw : ∀ d ∈ tables_1, d.before a0 Z = true) (h0 : Heap) (n0 : Nat) (Z0 : n0 ≤ h0.size) (u r aT : Addr) (lo up : Int32) (ST : Sta Z Z.heap "com/example/verify_markov_chains/verifymarkovchains/expression/Type" "DOUBLE" "Lcom/example/verify_markov_chains/verifymarkovchains/expression/Type;" (.ref aT)) (O0 : Old Z n0 h0) (V0 : own_Var Z h0 u aT lo up) :
    ctr l Z (⟨"com/example/verify_markov_chains/verifymarkovchains/model/Variable", "admits", "(Lcom/example/verify_markov_chains/verifymarkovchains/numeric/Rational;)Z"⟩ : MethodName) prog_119_method_12_code 2 (some .boolean) [] ({ frames := 0, cells := 0, slots := 0, locals := 0 } : Room) 0 0 #[(.ref u), (.ref r)] h0 (fun v h L => v = some (.int (1 : Int32)) ∧ Fr n0 L ∧ h = h0) := by
  refine ctr_of (plainFor_of_name pn4) ?_
  intro p e s m below meth jc s₁ hx hby hml hret hlk hnm hown hZ e0 X0
  have N0 := Fr.nil n0
  have hg : ∀ (i : Nat) {d : Jvm.Cond}, tables_1[i]? = some d → d.before a0 Z = true := fun i d q => hw d (List.mem_of_getElem? q)
  refine Dn.cast (ef17_AA m u r) ?_
  show Dn p e below s _ _ _ (s₁.setTop (mkF m 0 #[(vA u), (vA r)] []))
  refine Dn.of (fun tt_ zz_ => XS.aloadN X0.here hx rfl (hb hby d17_0) rfl rfl zz_) ?_
  show Dn p e below s _ _ _ (s₁.setTop (mkF m 1 #[(vA u), (vA r)] [(.ref u)]))
  obtain ⟨T47, X47, e47, st47⟩ := getF X0 hx hZ hown (host := "") (Or.inl (hg 66 rfl)) Via.refl e0 V0.2.1 (g := (mkF m 1 #[(vA u), (vA r)] [(.ref u)])) rfl rfl (hb hby d17_1)
  refine Dn.of st47 ?_
  show Dn p e below s _ _ _ (T47.setTop (mkF m 4 #[(vA u), (vA r)] [(.ref aT)]))
  obtain ⟨T48, X48, e48, st48⟩ := getS2 X47 hx hZ hown (host := "") (Or.inl (hg 118 rfl)) Via.refl e47 (ST.ext O0.2) (g := (mkF m 4 #[(vA u), (vA r)] [(.ref aT)])) rfl (hb hby d17_4)
  refine Dn.of st48 ?_
  show Dn p e below s _ _ _ (T48.setTop (mkF m 7 #[(vA u), (vA r)] [(.ref aT), (.ref aT)]))
  refine Dn.of (fun tt_ zz_ => Jvm.RoadKit.acmp (g := (mkF m 7 #[(vA u), (vA r)] [(.ref aT), (.ref aT)])) X48 hx rfl rfl rfl (pc0 := 7) (pc' := 10) (same := true) rfl (hb hby d17_7) rfl (decide_eq_true rfl) (by decide) (by decide) zz_) ?_
  show Dn p e below s _ _ _ (T48.setTop (mkF m 10 #[(vA u), (vA r)] []))
  refine Dn.of (fun tt_ zz_ => XS.aloadN X48.here hx rfl (hb hby d17_10) rfl rfl zz_) ?_
  show Dn p e below s _ _ _ (T48.setTop (mkF m 11 #[(vA u), (vA r)] [(.ref u)]))
  obtain ⟨T49, X49, e49, st49⟩ := getF X48 hx hZ hown (host := "") (Or.inl (hg 78 rfl)) Via.refl e48 V0.2.2.2.2.1 (g := (mkF m 11 #[(vA u), (vA r)] [(.ref u)])) rfl rfl (hb hby d17_11)
  refine Dn.of st49 ?_
  show Dn p e below s _ _ _ (T49.setTop (mkF m 14 #[(vA u), (vA r)] [.null]))
  refine Dn.of (fun tt_ zz_ => XS.ifnullYes X49.here hx rfl (pc0 := 14) (pc' := 28) rfl (hb hby d17_14) rfl (by decide) (by decide) zz_) ?_
  show Dn p e below s _ _ _ (T49.setTop (mkF m 28 #[(vA u), (vA r)] []))
  refine Dn.of (fun tt_ zz_ => XS.aloadN X49.here hx rfl (hb hby d17_28) rfl rfl zz_) ?_
  show Dn p e below s _ _ _ (T49.setTop (mkF m 29 #[(vA u), (vA r)] [(.ref u)]))
  obtain ⟨T50, X50, e50, st50⟩ := getF X49 hx hZ hown (host := "") (Or.inl (hg 80 rfl)) Via.refl e49 V0.2.2.2.2.2 (g := (mkF m 29 #[(vA u), (vA r)] [(.ref u)])) rfl rfl (hb hby d17_29)
  refine Dn.of st50 ?_
  show Dn p e below s _ _ _ (T50.setTop (mkF m 32 #[(vA u), (vA r)] [.null]))
  refine Dn.of (fun tt_ zz_ => XS.ifnullYes X50.here hx rfl (pc0 := 32) (pc' := 46) rfl (hb hby d17_32) rfl (by decide) (by decide) zz_) ?_
  show Dn p e below s _ _ _ (T50.setTop (mkF m 46 #[(vA u), (vA r)] []))
  refine Dn.of (fun tt_ zz_ => XS.iconst X50.here hx rfl (hb hby d17_46) zz_) ?_
  refine Dn.of (fun tt_ zz_ => XS.goto X50.here hx rfl (pc0 := 47) (pc' := 51) rfl (hb hby d17_47) (by decide) (by decide) zz_) ?_
  show Dn p e below s _ _ _ (T50.setTop (mkF m 51 #[(vA u), (vA r)] [(.int (1 : Int32))]))
  exact Dn.retN X50 hx hlk (t := .boolean) hret (by simp) (hb hby d17_51) (by decide) (by decide) (⟨rfl, N0, e50⟩)
theorem ef16_AANN (m : MethodId) (x0 : Addr) (x1 : Addr) : entryFrame m #[(.ref x0), (.ref x1), .null, .null] 5 = mkF m 0 #[(vA x0), (vA x1), .val .null, .val .null, .unset] [] := by first | (simp [entryFrame, mkF, argsToLocals, Value.category]; done) | rfl
set_option maxRecDepth 65536 in
set_option maxHeartbeats 40000000 in
theorem rmOR (l : Launch) (Z : State) (a0 : Array Value) (hw : ∀ d ∈ tables_1, d.before a0 Z = true) (h0 : Heap) (n0 : Nat) (Z0 : n0 ≤ h0.size) (nm aZ aT : Addr) (ST : Sta Z Z.heap "com/example/verify_markov_chains/verifymarkovchains/expression/Type" "DOUBLE" "Lcom/example/verify_markov_chains/verifymarkovchains/expression/Type;" (.ref aT)) (O0 : Old Z n0 h0) :
    ctr l Z (⟨"com/example/verify_markov_chains/verifymarkovchains/model/Variable", "ofReal", "(Ljava/lang/String;Lcom/example/verify_markov_chains/verifymarkovchains/numeric/Rational;Lcom/example/verify_markov_chains/verifymarkovchains/numeric/Rational;Lcom/example/verify_markov_chains/verifymarkovchains/numeric/Rational;)Lcom/example/verify_markov_chains/verifymarkovchains/model/Variable;"⟩ : MethodName) prog_119_method_4_code 5 (some (.object "com/example/verify_markov_chains/verifymarkovchains/model/Variable")) [] ({ frames := 2, cells := 1, slots := 9, locals := 48 } : Room) 1 9 #[(.ref nm), (.ref aZ), .null, .null] h0 (fun v h L => ∃ u, v = some (.ref u) ∧ h0.size = u ∧ Fr n0 L ∧ Ext h0 h ∧ own_Var Z h u aT (0 : Int32) (0 : Int32)) := by
  refine ctr_of (plainFor_of_name pn4) ?_
  intro p e s m below meth jc s₁ hx hby hml hret hlk hnm hown hZ e0 X0
  have N0 := Fr.nil n0
  have hg : ∀ (i : Nat) {d : Jvm.Cond}, tables_1[i]? = some d → d.before a0 Z = true := fun i d q => hw d (List.mem_of_getElem? q)
  refine Dn.cast (ef16_AANN m nm aZ) ?_
  show Dn p e below s _ _ _ (s₁.setTop (mkF m 0 #[(vA nm), (vA aZ), .val .null, .val .null, .unset] []))
  obtain ⟨T51, h51, X51, e51, E51, A51, D51, U51, st51⟩ := newO X0 hx hZ hown (hg 55 rfl) (hg 56 rfl) (hg 53 rfl) e0 (g := (mkF m 0 #[(vA nm), (vA aZ), .val .null, .val .null, .unset] [])) rfl (hb hby d16_0) (by decide) (by decide)
  obtain ⟨b51, g51⟩ : ∃ z, z = h0.size := ⟨_, rfl⟩
  rw [← g51] at A51 D51 U51 st51
  refine Dn.of st51 ?_
  show Dn p e below s _ _ _ (T51.setTop (mkF m 3 #[(vA nm), (vA aZ), .val .null, .val .null, .unset] [(.ref b51)]))
  have F_name_51 : Fld Z h51 b51 "com/example/verify_markov_chains/verifymarkovchains/model/Variable" "name" "Ljava/lang/String;" .null := D51 (Or.inr (hg 65 rfl)) (ty := (.object "java/lang/String")) (by decide)
  have F_type_51 : Fld Z h51 b51 "com/example/verify_markov_chains/verifymarkovchains/model/Variable" "type" "Lcom/example/verify_markov_chains/verifymarkovchains/expression/Type;" .null := D51 (Or.inr (hg 67 rfl)) (ty := (.object "com/example/verify_markov_chains/verifymarkovchains/expression/Type")) (by decide)
  have F_lower_51 : Fld Z h51 b51 "com/example/verify_markov_chains/verifymarkovchains/model/Variable" "lower" "I" (.int (0 : Int32)) := D51 (Or.inr (hg 69 rfl)) (ty := .int) (by decide)
  have F_upper_51 : Fld Z h51 b51 "com/example/verify_markov_chains/verifymarkovchains/model/Variable" "upper" "I" (.int (0 : Int32)) := D51 (Or.inr (hg 71 rfl)) (ty := .int) (by decide)
  have F_initial_51 : Fld Z h51 b51 "com/example/verify_markov_chains/verifymarkovchains/model/Variable" "initial" "I" (.int (0 : Int32)) := D51 (Or.inr (hg 73 rfl)) (ty := .int) (by decide)
  have F_valueNames_51 : Fld Z h51 b51 "com/example/verify_markov_chains/verifymarkovchains/model/Variable" "valueNames" "Ljava/util/List;" .null := D51 (Or.inr (hg 75 rfl)) (ty := (.object "java/util/List")) (by decide)
  have F_realInitial_51 : Fld Z h51 b51 "com/example/verify_markov_chains/verifymarkovchains/model/Variable" "realInitial" "Lcom/example/verify_markov_chains/verifymarkovchains/numeric/Rational;" .null := D51 (Or.inr (hg 77 rfl)) (ty := (.object "com/example/verify_markov_chains/verifymarkovchains/numeric/Rational")) (by decide)
  have F_realLower_51 : Fld Z h51 b51 "com/example/verify_markov_chains/verifymarkovchains/model/Variable" "realLower" "Lcom/example/verify_markov_chains/verifymarkovchains/numeric/Rational;" .null := D51 (Or.inr (hg 79 rfl)) (ty := (.object "com/example/verify_markov_chains/verifymarkovchains/numeric/Rational")) (by decide)
  have F_realUpper_51 : Fld Z h51 b51 "com/example/verify_markov_chains/verifymarkovchains/model/Variable" "realUpper" "Lcom/example/verify_markov_chains/verifymarkovchains/numeric/Rational;" .null := D51 (Or.inr (hg 81 rfl)) (ty := (.object "com/example/verify_markov_chains/verifymarkovchains/numeric/Rational")) (by decide)
  have O1 := O0.ext E51
  have gb : n0 ≤ b51 := g51 ▸ Z0
  refine Dn.of (fun tt_ zz_ => XS.dup X51.here hx rfl (hb hby d16_3) rfl rfl zz_) ?_
  refine Dn.of (fun tt_ zz_ => XS.aloadN X51.here hx rfl (hb hby d16_4) rfl rfl zz_) ?_
  show Dn p e below s _ _ _ (T51.setTop (mkF m 5 #[(vA nm), (vA aZ), .val .null, .val .null, .unset] [(.ref nm), (.ref b51), (.ref b51)]))
  obtain ⟨T52, X52, e52, st52⟩ := getS2 X51 hx hZ hown (host := "") (Or.inl (hg 118 rfl)) Via.refl e51 (ST.ext O1.2) (g := (mkF m 5 #[(vA nm), (vA aZ), .val .null, .val .null, .unset] [(.ref nm), (.ref b51), (.ref b51)])) rfl (hb hby d16_5)
  refine Dn.of st52 ?_
  show Dn p e below s _ _ _ (T52.setTop (mkF m 8 #[(vA nm), (vA aZ), .val .null, .val .null, .unset] [(.ref aT), (.ref nm), (.ref b51), (.ref b51)]))
  refine Dn.of (fun tt_ zz_ => XS.iconst X52.here hx rfl (hb hby d16_8) zz_) ?_
  refine Dn.of (fun tt_ zz_ => XS.iconst X52.here hx rfl (hb hby d16_9) zz_) ?_
  refine Dn.of (fun tt_ zz_ => XS.iconst X52.here hx rfl (hb hby d16_10) zz_) ?_
  refine Dn.of (fun tt_ zz_ => XS.aconstNull X52.here hx rfl (hb hby d16_11) zz_) ?_
  show Dn p e below s _ _ _ (T52.setTop (mkF m 12 #[(vA nm), (vA aZ), .val .null, .val .null, .unset] [.null, (.int (0 : Int32)), (.int (0 : Int32)), (.int (0 : Int32)), (.ref aT), (.ref nm), (.ref b51), (.ref b51)]))
  refine Dn.of (fun tt_ zz_ => XS.aloadN X52.here hx rfl (hb hby d16_12) rfl rfl zz_) ?_
  refine Dn.of (fun tt_ zz_ => XS.aloadN X52.here hx rfl (hb hby d16_13) rfl rfl zz_) ?_
  refine Dn.of (fun tt_ zz_ => XS.aloadN X52.here hx rfl (hb hby d16_14) rfl rfl zz_) ?_
  show Dn p e below s _ _ _ (T52.setTop (mkF m 15 #[(vA nm), (vA aZ), .val .null, .val .null, .unset] [.null, .null, (.ref aZ), .null, (.int (0 : Int32)), (.int (0 : Int32)), (.int (0 : Int32)), (.ref aT), (.ref nm), (.ref b51), (.ref b51)]))
  obtain ⟨v53, T53, L53, Q53, X53, st53⟩ := cIn X52 hx hZ (y := (⟨"com/example/verify_markov_chains/verifymarkovchains/model/Variable", "<init>", "(Ljava/lang/String;Lcom/example/verify_markov_chains/verifymarkovchains/expression/Type;IIILjava/util/List;Lcom/example/verify_markov_chains/verifymarkovchains/numeric/Rational;Lcom/example/verify_markov_chains/verifymarkovchains/numeric/Rational;Lcom/example/verify_markov_chains/verifymarkovchains/numeric/Rational;)V"⟩ : MethodName)) rfl hown (hg 60 rfl) (hg 61 rfl) (hg 53 rfl) (hg 62 rfl) (by decide) (a := b51) (argsL := [(.ref nm), (.ref aT), (.int (0 : Int32)), (.int (0 : Int32)), (.int (0 : Int32)), .null, (.ref aZ), .null, .null]) (rest := [(.ref b51)]) (rmV l Z a0 hw h51 n0 (Nat.le_trans Z0 E51.1) b51 nm aT 0 0 0 (.ref aZ) rfl (by decide) (by decide) (by decide) A51 F_name_51 F_type_51 F_lower_51 F_upper_51 F_initial_51 F_valueNames_51 F_realInitial_51 F_realLower_51 F_realUpper_51 gb) e52  1 (by decide) (by decide) (by decide) (by decide) (g := (mkF m 15 #[(vA nm), (vA aZ), .val .null, .val .null, .unset] [.null, .null, (.ref aZ), .null, (.int (0 : Int32)), (.int (0 : Int32)), (.int (0 : Int32)), (.ref aT), (.ref nm), (.ref b51), (.ref b51)])) rfl (by rw [hml]; rfl) (lenOf pd2 rfl) rfl (by show 2 * 0 + _ ≤ _; exact Nat.le_of_eq rfl) (hb hby d16_15)
  obtain ⟨rfl, M1, K1, V1⟩ := Q53
  refine Dn.of st53 ?_
  show Dn p e below s _ _ _ (T53.setTop (mkF m 18 #[(vA nm), (vA aZ), .val .null, .val .null, .unset] [(.ref b51)]))
  refine Dn.of (fun tt_ zz_ => XS.astore X53.here hx rfl (hb hby d16_18) rfl rfl (l' := #[(vA nm), (vA aZ), .val .null, .val .null, (vA b51)]) rfl zz_) ?_
  refine Dn.of (fun tt_ zz_ => XS.aload X53.here hx rfl (hb hby d16_20) rfl rfl zz_) ?_
  refine Dn.of (fun tt_ zz_ => XS.aloadN X53.here hx rfl (hb hby d16_22) rfl rfl zz_) ?_
  show Dn p e below s _ _ _ (T53.setTop (mkF m 23 #[(vA nm), (vA aZ), .val .null, .val .null, (vA b51)] [(.ref aZ), (.ref b51)]))
  have O2 := O1.keep K1 (allS gb all0)
  obtain ⟨v54, T54, L54, Q54, X54, st54⟩ := cVi X53 hx hZ (C := "com/example/verify_markov_chains/verifymarkovchains/model/Variable") (y := (⟨"com/example/verify_markov_chains/verifymarkovchains/model/Variable", "admits", "(Lcom/example/verify_markov_chains/verifymarkovchains/numeric/Rational;)Z"⟩ : MethodName)) (z := (⟨"com/example/verify_markov_chains/verifymarkovchains/model/Variable", "admits", "(Lcom/example/verify_markov_chains/verifymarkovchains/numeric/Rational;)Z"⟩ : MethodName)) hown (hg 120 rfl) (hg 121 rfl) (notFace_of_selects (args := #[]) (mvT hZ (hg 123 rfl))) (hg 123 rfl) (hg 122 rfl) (hg 53 rfl) (hg 124 rfl) (by decide) (a := b51) (argsL := [(.ref aZ)]) (rest := []) (rmAd l Z a0 hw T53.heap n0 (O2.1 ▸ O2.2.1) b51 aZ aT 0 0 ST O2 V1) rfl V1.1 0 (by decide) (by decide) (by decide) (by decide) (g := (mkF m 23 #[(vA nm), (vA aZ), .val .null, .val .null, (vA b51)] [(.ref aZ), (.ref b51)])) rfl (by rw [hml]; rfl) (lenOf pd3 rfl) rfl (by show 2 * 0 + _ ≤ _; exact Nat.le_of_eq rfl) (hb hby d16_23)
  obtain ⟨rfl, M2, e54⟩ := Q54
  refine Dn.of st54 ?_
  show Dn p e below s _ _ _ (T54.setTop (mkF m 26 #[(vA nm), (vA aZ), .val .null, .val .null, (vA b51)] [(.int (1 : Int32))]))
  refine Dn.of (fun tt_ zz_ => XS.ifYes X54.here hx rfl (pc0 := 26) (pc' := 62) rfl (hb hby d16_26) rfl ((if0 _ _).trans (feq (by decide)).2) (by decide) (by decide) zz_) ?_
  show Dn p e below s _ _ _ (T54.setTop (mkF m 62 #[(vA nm), (vA aZ), .val .null, .val .null, (vA b51)] []))
  refine Dn.of (fun tt_ zz_ => XS.aload X54.here hx rfl (hb hby d16_62) rfl rfl zz_) ?_
  show Dn p e below s _ _ _ (T54.setTop (mkF m 64 #[(vA nm), (vA aZ), .val .null, .val .null, (vA b51)] [(.ref b51)]))
  exact Dn.retA X54 hx hlk hret rfl rfl (hb hby d16_64) (by decide) (by decide) (by rw [e54]; exact ⟨_, rfl, g51.symm, Fr.app (Fr.app N0 M1) M2, own_extK E51 K1 g51, V1⟩)
theorem ef25_A (m : MethodId) (x0 : Addr) : entryFrame m #[(.ref x0)] 1 = mkF m 0 #[(vA x0)] [] := by first | (simp [entryFrame, mkF, argsToLocals, Value.category]; done) | rfl
set_option maxRecDepth 65536 in
set_option maxHeartbeats 40000000 in
theorem rm_getType (l : Launch) (Z : State) (a0 : Array Value) (hw : ∀ d ∈ tables_1, d.before a0 Z = true) (h0 : Heap) (n0 : Nat) (Z0 : n0 ≤ h0.size) (u ty : Addr) (lo up : Int32) (V0 : own_Var Z h0 u ty lo up) :
    ctr l Z (⟨"com/example/verify_markov_chains/verifymarkovchains/model/Variable", "getType", "()Lcom/example/verify_markov_chains/verifymarkovchains/expression/Type;"⟩ : MethodName) prog_119_method_7_code 1 (some (.object "com/example/verify_markov_chains/verifymarkovchains/expression/Type")) [] ({ frames := 0, cells := 0, slots := 0, locals := 0 } : Room) 0 0 #[(.ref u)] h0 (fun v h L => v = some (.ref ty) ∧ Fr n0 L ∧ h = h0) := by
  refine ctr_of (plainFor_of_name pn4) ?_
  intro p e s m below meth jc s₁ hx hby hml hret hlk hnm hown hZ e0 X0
  have N0 := Fr.nil n0
  have hg : ∀ (i : Nat) {d : Jvm.Cond}, tables_1[i]? = some d → d.before a0 Z = true := fun i d q => hw d (List.mem_of_getElem? q)
  refine Dn.cast (ef25_A m u) ?_
  show Dn p e below s _ _ _ (s₁.setTop (mkF m 0 #[(vA u)] []))
  refine Dn.of (fun tt_ zz_ => XS.aloadN X0.here hx rfl (hb hby d25_0) rfl rfl zz_) ?_
  show Dn p e below s _ _ _ (s₁.setTop (mkF m 1 #[(vA u)] [(.ref u)]))
  obtain ⟨T55, X55, e55, st55⟩ := getF X0 hx hZ hown (host := "") (Or.inl (hg 66 rfl)) Via.refl e0 V0.2.1 (g := (mkF m 1 #[(vA u)] [(.ref u)])) rfl rfl (hb hby d25_1)
  refine Dn.of st55 ?_
  show Dn p e below s _ _ _ (T55.setTop (mkF m 4 #[(vA u)] [(.ref ty)]))
  exact Dn.retA X55 hx hlk hret rfl rfl (hb hby d25_4) (by decide) (by decide) (⟨rfl, N0, e55⟩)
theorem ef26_A (m : MethodId) (x0 : Addr) : entryFrame m #[(.ref x0)] 1 = mkF m 0 #[(vA x0)] [] := by first | (simp [entryFrame, mkF, argsToLocals, Value.category]; done) | rfl
set_option maxRecDepth 65536 in
set_option maxHeartbeats 40000000 in
theorem rm_getUpper (l : Launch) (Z : State) (a0 : Array Value) (hw : ∀ d ∈ tables_1, d.before a0 Z = true) (h0 : Heap) (n0 : Nat) (Z0 : n0 ≤ h0.size) (u ty : Addr) (lo up : Int32) (V0 : own_Var Z h0 u ty lo up) :
    ctr l Z (⟨"com/example/verify_markov_chains/verifymarkovchains/model/Variable", "getUpper", "()I"⟩ : MethodName) prog_119_method_9_code 1 (some .int) [] ({ frames := 0, cells := 0, slots := 0, locals := 0 } : Room) 0 0 #[(.ref u)] h0 (fun v h L => v = some (.int up) ∧ Fr n0 L ∧ h = h0) := by
  refine ctr_of (plainFor_of_name pn4) ?_
  intro p e s m below meth jc s₁ hx hby hml hret hlk hnm hown hZ e0 X0
  have N0 := Fr.nil n0
  have hg : ∀ (i : Nat) {d : Jvm.Cond}, tables_1[i]? = some d → d.before a0 Z = true := fun i d q => hw d (List.mem_of_getElem? q)
  refine Dn.cast (ef26_A m u) ?_
  show Dn p e below s _ _ _ (s₁.setTop (mkF m 0 #[(vA u)] []))
  refine Dn.of (fun tt_ zz_ => XS.aloadN X0.here hx rfl (hb hby d26_0) rfl rfl zz_) ?_
  show Dn p e below s _ _ _ (s₁.setTop (mkF m 1 #[(vA u)] [(.ref u)]))
  obtain ⟨T56, X56, e56, st56⟩ := getF X0 hx hZ hown (host := "") (Or.inl (hg 70 rfl)) Via.refl e0 V0.2.2.2.1 (g := (mkF m 1 #[(vA u)] [(.ref u)])) rfl rfl (hb hby d26_1)
  refine Dn.of st56 ?_
  show Dn p e below s _ _ _ (T56.setTop (mkF m 4 #[(vA u)] [(.int up)]))
  exact Dn.retI X56 hx hlk hret (hb hby d26_4) (by decide) (by decide) (⟨rfl, N0, e56⟩)
theorem ef27_A (m : MethodId) (x0 : Addr) : entryFrame m #[(.ref x0)] 1 = mkF m 0 #[(vA x0)] [] := by first | (simp [entryFrame, mkF, argsToLocals, Value.category]; done) | rfl
set_option maxRecDepth 65536 in
set_option maxHeartbeats 40000000 in
theorem rm_getLower (l : Launch) (Z : State) (a0 : Array Value) (hw : ∀ d ∈ tables_1, d.before a0 Z = true) (h0 : Heap) (n0 : Nat) (Z0 : n0 ≤ h0.size) (u ty : Addr) (lo up : Int32) (V0 : own_Var Z h0 u ty lo up) :
    ctr l Z (⟨"com/example/verify_markov_chains/verifymarkovchains/model/Variable", "getLower", "()I"⟩ : MethodName) prog_119_method_8_code 1 (some .int) [] ({ frames := 0, cells := 0, slots := 0, locals := 0 } : Room) 0 0 #[(.ref u)] h0 (fun v h L => v = some (.int lo) ∧ Fr n0 L ∧ h = h0) := by
  refine ctr_of (plainFor_of_name pn4) ?_
  intro p e s m below meth jc s₁ hx hby hml hret hlk hnm hown hZ e0 X0
  have N0 := Fr.nil n0
  have hg : ∀ (i : Nat) {d : Jvm.Cond}, tables_1[i]? = some d → d.before a0 Z = true := fun i d q => hw d (List.mem_of_getElem? q)
  refine Dn.cast (ef27_A m u) ?_
  show Dn p e below s _ _ _ (s₁.setTop (mkF m 0 #[(vA u)] []))
  refine Dn.of (fun tt_ zz_ => XS.aloadN X0.here hx rfl (hb hby d27_0) rfl rfl zz_) ?_
  show Dn p e below s _ _ _ (s₁.setTop (mkF m 1 #[(vA u)] [(.ref u)]))
  obtain ⟨T57, X57, e57, st57⟩ := getF X0 hx hZ hown (host := "") (Or.inl (hg 68 rfl)) Via.refl e0 V0.2.2.1 (g := (mkF m 1 #[(vA u)] [(.ref u)])) rfl rfl (hb hby d27_1)
  refine Dn.of st57 ?_
  show Dn p e below s _ _ _ (T57.setTop (mkF m 4 #[(vA u)] [(.int lo)]))
  exact Dn.retI X57 hx hlk hret (hb hby d27_4) (by decide) (by decide) (⟨rfl, N0, e57⟩)
theorem ef15_AI (m : MethodId) (x0 : Addr) (x1 : Int32) : entryFrame m #[(.ref x0), (.int x1)] 4 = mkF m 0 #[(vA x0), (vI x1), .unset, .unset] [] := by first | (simp [entryFrame, mkF, argsToLocals, Value.category]; done) | rfl
set_option maxRecDepth 65536 in
set_option maxHeartbeats 40000000 in
theorem rmGI (l : Launch) (Z : State) (a0 : Array Value) (hw : ∀ d ∈ tables_1, d.before a0 Z = true) (h0 : Heap) (n0 : Nat) (Z0 : n0 ≤ h0.size) (a : Addr) (c mc : Int32) (hc : own_max 10 c = 10) (aD : Addr) (lD : Cell) (SD : Sta Z Z.heap "java/util/ArrayList" "DEFAULTCAPACITY_EMPTY_ELEMENTDATA" "[Ljava/lang/Object;" (.ref aD)) (RD : Arr Z Z.heap aD lD (.object "java/lang/Object")) (zD : lD.slots.size = 0) (O0 : Old Z n0 h0) (E0 : Exa Z h0 a "java/util/ArrayList") (F1 : Fld Z h0 a "java/util/AbstractList" "modCount" "I" (.int mc)) (F2 : Fld Z h0 a "java/util/ArrayList" "elementData" "[Ljava/lang/Object;" (.ref aD)) (F3 : Fld Z h0 a "java/util/ArrayList" "size" "I" (.int (0 : Int32))) (g0 : n0 ≤ a) :
    ctr l Z (⟨"java/util/ArrayList", "grow", "(I)[Ljava/lang/Object;"⟩ : MethodName) jdk_38_method_6_code 4 (some (.array (.object "java/lang/Object"))) [] ({ frames := 1, cells := 1, slots := 10, locals := 16 } : Room) 1 10 #[(.ref a), (.int c)] h0 (fun v h L => ∃ b k, v = some (.ref b) ∧ n0 ≤ b ∧ h0.size ≤ b ∧ Ovr Z k "java/lang/Object" ∧ Fr n0 L ∧ Keep h0 h [a] ∧ Fld Z h a "java/util/AbstractList" "modCount" "I" (.int mc) ∧ Fld Z h a "java/util/ArrayList" "elementData" "[Ljava/lang/Object;" (.ref b) ∧ Fld Z h a "java/util/ArrayList" "size" "I" (.int (0 : Int32)) ∧ Arh Z h b k (.object "java/lang/Object") 10 [] [] .null) := by
  refine ctr_of (plainFor_of_name pn3) ?_
  intro p e s m below meth jc s₁ hx hby hml hret hlk hnm hown hZ e0 X0
  have N0 := Fr.nil n0
  have hg : ∀ (i : Nat) {d : Jvm.Cond}, tables_1[i]? = some d → d.before a0 Z = true := fun i d q => hw d (List.mem_of_getElem? q)
  refine Dn.cast (ef15_AI m a c) ?_
  show Dn p e below s _ _ _ (s₁.setTop (mkF m 0 #[(vA a), (vI c), .unset, .unset] []))
  have sn : Jvm.RoadKit.slotOf Z "java/util/ArrayList" "size" "I" ≠ Jvm.RoadKit.slotOf Z "java/util/ArrayList" "elementData" "[Ljava/lang/Object;" := slot_ne (Or.inl (hg 90 rfl)) (Or.inl (hg 42 rfl)) (by decide) (t := .int) (t' := (.array (.object "java/lang/Object"))) (by decide) (by decide)
  have sm : Jvm.RoadKit.slotOf Z "java/util/AbstractList" "modCount" "I" ≠ Jvm.RoadKit.slotOf Z "java/util/ArrayList" "elementData" "[Ljava/lang/Object;" := slot_ne (Or.inl (hg 39 rfl)) (Or.inl (hg 42 rfl)) (by decide) (t := .int) (t' := (.array (.object "java/lang/Object"))) (by decide) (by decide)
  refine Dn.of (fun tt_ zz_ => XS.aloadN X0.here hx rfl (hb hby d15_0) rfl rfl zz_) ?_
  show Dn p e below s _ _ _ (s₁.setTop (mkF m 1 #[(vA a), (vI c), .unset, .unset] [(.ref a)]))
  obtain ⟨T58, X58, e58, st58⟩ := getF X0 hx hZ hown (host := "") (Or.inl (hg 41 rfl)) Via.refl e0 F2 (g := (mkF m 1 #[(vA a), (vI c), .unset, .unset] [(.ref a)])) rfl rfl (hb hby d15_1)
  refine Dn.of st58 ?_
  show Dn p e below s _ _ _ (T58.setTop (mkF m 4 #[(vA a), (vI c), .unset, .unset] [(.ref aD)]))
  refine Dn.of (fun tt_ zz_ => X58.arraylength hx (by rw [e58]; exact (RD.ext O0.2).1) (State.isArrayOf_alike hZ.alike (RD.ext O0.2).2.1) (g := (mkF m 4 #[(vA a), (vI c), .unset, .unset] [(.ref aD)])) rfl rfl (hb hby d15_4) tt_ zz_) ?_
  rw [zD, show (0 : Nat).toInt32 = (0 : Int32) by decide]
  show Dn p e below s _ _ _ (T58.setTop (mkF m 5 #[(vA a), (vI c), .unset, .unset] [(.int (0 : Int32))]))
  refine Dn.of (fun tt_ zz_ => XS.istoreN X58.here hx rfl (hb hby d15_5) rfl (l' := #[(vA a), (vI c), (vI (0 : Int32)), .unset]) rfl zz_) ?_
  refine Dn.of (fun tt_ zz_ => XS.iloadN X58.here hx rfl (hb hby d15_6) rfl zz_) ?_
  show Dn p e below s _ _ _ (T58.setTop (mkF m 7 #[(vA a), (vI c), (vI (0 : Int32)), .unset] [(.int (0 : Int32))]))
  refine Dn.of (fun tt_ zz_ => XS.ifNo X58.here hx rfl (hb hby d15_7) rfl ((if0 _ _).trans (flt (by decide)).2.2.1) zz_) ?_
  show Dn p e below s _ _ _ (T58.setTop (mkF m 10 #[(vA a), (vI c), (vI (0 : Int32)), .unset] []))
  refine Dn.of (fun tt_ zz_ => XS.aloadN X58.here hx rfl (hb hby d15_10) rfl rfl zz_) ?_
  show Dn p e below s _ _ _ (T58.setTop (mkF m 11 #[(vA a), (vI c), (vI (0 : Int32)), .unset] [(.ref a)]))
  obtain ⟨T59, X59, e59, st59⟩ := getF X58 hx hZ hown (host := "") (Or.inl (hg 41 rfl)) Via.refl e58 F2 (g := (mkF m 11 #[(vA a), (vI c), (vI (0 : Int32)), .unset] [(.ref a)])) rfl rfl (hb hby d15_11)
  refine Dn.of st59 ?_
  show Dn p e below s _ _ _ (T59.setTop (mkF m 14 #[(vA a), (vI c), (vI (0 : Int32)), .unset] [(.ref aD)]))
  obtain ⟨T60, X60, e60, st60⟩ := getS2 X59 hx hZ hown (host := "") (Or.inl (hg 40 rfl)) Via.refl e59 (SD.ext O0.2) (g := (mkF m 14 #[(vA a), (vI c), (vI (0 : Int32)), .unset] [(.ref aD)])) rfl (hb hby d15_14)
  refine Dn.of st60 ?_
  show Dn p e below s _ _ _ (T60.setTop (mkF m 17 #[(vA a), (vI c), (vI (0 : Int32)), .unset] [(.ref aD), (.ref aD)]))
  refine Dn.of (fun tt_ zz_ => Jvm.RoadKit.acmp (g := (mkF m 17 #[(vA a), (vI c), (vI (0 : Int32)), .unset] [(.ref aD), (.ref aD)])) X60 hx rfl rfl rfl (pc0 := 17) (pc' := 45) (same := true) rfl (hb hby d15_17) rfl (decide_eq_true rfl) (by decide) (by decide) zz_) ?_
  show Dn p e below s _ _ _ (T60.setTop (mkF m 45 #[(vA a), (vI c), (vI (0 : Int32)), .unset] []))
  refine Dn.of (fun tt_ zz_ => XS.aloadN X60.here hx rfl (hb hby d15_45) rfl rfl zz_) ?_
  refine Dn.of (fun tt_ zz_ => XS.bipush X60.here hx rfl (hb hby d15_46) zz_) ?_
  refine Dn.of (fun tt_ zz_ => XS.iloadN X60.here hx rfl (hb hby d15_48) rfl zz_) ?_
  show Dn p e below s _ _ _ (T60.setTop (mkF m 49 #[(vA a), (vI c), (vI (0 : Int32)), .unset] [(.int c), (.int (10 : Int32)), (.ref a)]))
  obtain ⟨v61, T61, L61, Q61, X61, st61⟩ := cSt X60 hx hZ (y := (⟨"java/lang/Math", "max", "(II)I"⟩ : MethodName)) hown (hg 106 rfl) (hg 12 rfl) (hg 6 rfl) (hg 13 rfl) (by decide) (argsL := [(.int (10 : Int32)), (.int c)]) (rest := [(.ref a)]) (rm_max l Z a0 hw h0 n0 Z0 10 c) e60  1 (by decide) (by decide) (by decide) (by decide) (g := (mkF m 49 #[(vA a), (vI c), (vI (0 : Int32)), .unset] [(.int c), (.int (10 : Int32)), (.ref a)])) rfl (by rw [hml]; rfl) (lenOf pd0 rfl) rfl (by show 2 * 0 + _ ≤ _; exact Nat.le_of_eq rfl) (hb hby d15_49)
  rw [hc] at Q61
  obtain ⟨rfl, M1, e61⟩ := Q61
  refine Dn.of st61 ?_
  show Dn p e below s _ _ _ (T61.setTop (mkF m 52 #[(vA a), (vI c), (vI (0 : Int32)), .unset] [(.int (10 : Int32)), (.ref a)]))
  obtain ⟨T62, h62, k62, X62, e62, E62, A62, O62, st62⟩ := newR X61 hx hZ hown (hg 107 rfl) (hg 108 rfl) e61 (g := (mkF m 52 #[(vA a), (vI c), (vI (0 : Int32)), .unset] [(.int (10 : Int32)), (.ref a)])) rfl (hb hby d15_52) rfl (by decide) (cap := 10) (by decide) (by decide) (by decide) (by decide)
  obtain ⟨b62, g62⟩ : ∃ z, z = h0.size := ⟨_, rfl⟩
  rw [← g62] at A62 st62
  refine Dn.of st62 ?_
  show Dn p e below s _ _ _ (T62.setTop (mkF m 55 #[(vA a), (vI c), (vI (0 : Int32)), .unset] [(.ref b62), (.ref a)]))
  have R0 := (Arv.new A62 (by decide)).arh
  have dn : b62 ≠ a := Ne.symm (Nat.ne_of_lt (g62 ▸ E0.lt))
  refine Dn.of (fun tt_ zz_ => XS.dupX1 X62.here hx rfl (hb hby d15_55) rfl rfl rfl zz_) ?_
  show Dn p e below s _ _ _ (T62.setTop (mkF m 56 #[(vA a), (vI c), (vI (0 : Int32)), .unset] [(.ref b62), (.ref a), (.ref b62)]))
  obtain ⟨T63, h63, X63, e63, W63, st63⟩ := putF X62 hx hZ hown (host := "") (Or.inl (hg 41 rfl)) Via.refl e62 (F2.ext E62) (E0.ext E62) (Or.inl (hg 42 rfl)) (hg 18 rfl) (ty := (.array (.object "java/lang/Object"))) (by decide) rfl rfl (g := (mkF m 56 #[(vA a), (vI c), (vI (0 : Int32)), .unset] [(.ref b62), (.ref a), (.ref b62)])) rfl rfl (hb hby d15_56)
  refine Dn.of st63 ?_
  show Dn p e below s _ _ _ (T63.setTop (mkF m 59 #[(vA a), (vI c), (vI (0 : Int32)), .unset] [(.ref b62)]))
  have N1 := Fr.snoc X63 (Fr.app N0 M1) g0
  exact Dn.retA X63 hx hlk hret rfl rfl (hb hby d15_59) (by decide) (by decide) (by rw [e63]; exact ⟨_, _, rfl, g62 ▸ Z0, Nat.le_of_eq g62.symm, O62, N1, ((Keep.refl h0 [a]).ext E62).wr W63 (Or.inl (List.mem_of_getElem? (i := 0) rfl)), (F1.ext E62).other W63 (Or.inr sm), (F2.ext E62).same W63, (F3.ext E62).other W63 (Or.inr sn), R0.other W63 dn⟩)
theorem ef14_A (m : MethodId) (x0 : Addr) : entryFrame m #[(.ref x0)] 1 = mkF m 0 #[(vA x0)] [] := by first | (simp [entryFrame, mkF, argsToLocals, Value.category]; done) | rfl
set_option maxRecDepth 65536 in
set_option maxHeartbeats 40000000 in
theorem rmG0 (l : Launch) (Z : State) (a0 : Array Value) (hw : ∀ d ∈ tables_1, d.before a0 Z = true) (h0 : Heap) (n0 : Nat) (Z0 : n0 ≤ h0.size) (a : Addr) (mc : Int32) (aD : Addr) (lD : Cell) (SD : Sta Z Z.heap "java/util/ArrayList" "DEFAULTCAPACITY_EMPTY_ELEMENTDATA" "[Ljava/lang/Object;" (.ref aD)) (RD : Arr Z Z.heap aD lD (.object "java/lang/Object")) (zD : lD.slots.size = 0) (O0 : Old Z n0 h0) (E0 : Exa Z h0 a "java/util/ArrayList") (F1 : Fld Z h0 a "java/util/AbstractList" "modCount" "I" (.int mc)) (F2 : Fld Z h0 a "java/util/ArrayList" "elementData" "[Ljava/lang/Object;" (.ref aD)) (F3 : Fld Z h0 a "java/util/ArrayList" "size" "I" (.int (0 : Int32))) (g0 : n0 ≤ a) :
    ctr l Z (⟨"java/util/ArrayList", "grow", "()[Ljava/lang/Object;"⟩ : MethodName) jdk_38_method_7_code 1 (some (.array (.object "java/lang/Object"))) [] ({ frames := 2, cells := 1, slots := 10, locals := 34 } : Room) 1 10 #[(.ref a)] h0 (fun v h L => ∃ b k, v = some (.ref b) ∧ n0 ≤ b ∧ h0.size ≤ b ∧ Ovr Z k "java/lang/Object" ∧ Fr n0 L ∧ Keep h0 h [a] ∧ Fld Z h a "java/util/AbstractList" "modCount" "I" (.int mc) ∧ Fld Z h a "java/util/ArrayList" "elementData" "[Ljava/lang/Object;" (.ref b) ∧ Fld Z h a "java/util/ArrayList" "size" "I" (.int (0 : Int32)) ∧ Arh Z h b k (.object "java/lang/Object") 10 [] [] .null) := by
  refine ctr_of (plainFor_of_name pn3) ?_
  intro p e s m below meth jc s₁ hx hby hml hret hlk hnm hown hZ e0 X0
  have N0 := Fr.nil n0
  have hg : ∀ (i : Nat) {d : Jvm.Cond}, tables_1[i]? = some d → d.before a0 Z = true := fun i d q => hw d (List.mem_of_getElem? q)
  refine Dn.cast (ef14_A m a) ?_
  show Dn p e below s _ _ _ (s₁.setTop (mkF m 0 #[(vA a)] []))
  refine Dn.of (fun tt_ zz_ => XS.aloadN X0.here hx rfl (hb hby d14_0) rfl rfl zz_) ?_
  refine Dn.of (fun tt_ zz_ => XS.aloadN X0.here hx rfl (hb hby d14_1) rfl rfl zz_) ?_
  show Dn p e below s _ _ _ (s₁.setTop (mkF m 2 #[(vA a)] [(.ref a), (.ref a)]))
  obtain ⟨T64, X64, e64, st64⟩ := getF X0 hx hZ hown (host := "") (Or.inl (hg 89 rfl)) Via.refl e0 F3 (g := (mkF m 2 #[(vA a)] [(.ref a), (.ref a)])) rfl rfl (hb hby d14_2)
  refine Dn.of st64 ?_
  show Dn p e below s _ _ _ (T64.setTop (mkF m 5 #[(vA a)] [(.int (0 : Int32)), (.ref a)]))
  refine Dn.of (fun tt_ zz_ => XS.iconst X64.here hx rfl (hb hby d14_5) zz_) ?_
  refine Dn.of (fun tt_ zz_ => XS.iadd X64.here hx rfl (hb hby d14_6) rfl zz_) ?_
  show Dn p e below s _ _ _ (T64.setTop (mkF m 7 #[(vA a)] [(.int ((0 : Int32) + (1 : Int32))), (.ref a)]))
  obtain ⟨v65, T65, L65, Q65, X65, st65⟩ := cPr X64 hx hZ (y := (⟨"java/util/ArrayList", "grow", "(I)[Ljava/lang/Object;"⟩ : MethodName)) hown (hg 101 rfl) (hg 102 rfl) (hg 104 rfl) (hg 103 rfl) (hg 19 rfl) (hg 105 rfl) (by decide) (a := a) (argsL := [(.int ((0 : Int32) + (1 : Int32)))]) (rest := []) (rmGI l Z a0 hw h0 n0 Z0 a ((0 : Int32) + (1 : Int32)) mc (by decide) aD lD SD RD zD O0 E0 F1 F2 F3 g0) e64 E0 0 (by decide) (by decide) (by decide) (by decide) (g := (mkF m 7 #[(vA a)] [(.int ((0 : Int32) + (1 : Int32))), (.ref a)])) rfl (by rw [hml]; rfl) (lenOf pd4 rfl) rfl (by show 2 * 0 + _ ≤ _; exact Nat.le_of_eq rfl) (hb hby d14_7)
  obtain ⟨b, k, rfl, r1, r2, r4, r3, r⟩ := Q65
  refine Dn.of st65 ?_
  show Dn p e below s _ _ _ (T65.setTop (mkF m 10 #[(vA a)] [(.ref b)]))
  exact Dn.retA X65 hx hlk hret rfl rfl (hb hby d14_10) (by decide) (by decide) (⟨b, k, rfl, r1, r2, r4, Fr.app N0 r3, r⟩)
theorem ef13_AAAI (m : MethodId) (x0 : Addr) (x1 : Addr) (x2 : Addr) (x3 : Int32) : entryFrame m #[(.ref x0), (.ref x1), (.ref x2), (.int x3)] 4 = mkF m 0 #[(vA x0), (vA x1), (vA x2), (vI x3)] [] := by first | (simp [entryFrame, mkF, argsToLocals, Value.category]; done) | rfl
set_option maxRecDepth 65536 in
set_option maxHeartbeats 40000000 in
theorem rmA3 (l : Launch) (Z : State) (a0 : Array Value) (hw : ∀ d ∈ tables_1, d.before a0 Z = true) (h0 : Heap) (n0 : Nat) (Z0 : n0 ≤ h0.size) (a u : Addr) (mc : Int32) (aD : Addr) (lD : Cell) (SD : Sta Z Z.heap "java/util/ArrayList" "DEFAULTCAPACITY_EMPTY_ELEMENTDATA" "[Ljava/lang/Object;" (.ref aD)) (RD : Arr Z Z.heap aD lD (.object "java/lang/Object")) (zD : lD.slots.size = 0) (O0 : Old Z n0 h0) (E0 : Exa Z h0 a "java/util/ArrayList") (F1 : Fld Z h0 a "java/util/AbstractList" "modCount" "I" (.int mc)) (F2 : Fld Z h0 a "java/util/ArrayList" "elementData" "[Ljava/lang/Object;" (.ref aD)) (F3 : Fld Z h0 a "java/util/ArrayList" "size" "I" (.int (0 : Int32))) (g0 : n0 ≤ a) (EU : Exa Z h0 u "com/example/verify_markov_chains/verifymarkovchains/model/Variable") :
    ctr l Z (⟨"java/util/ArrayList", "add", "(Ljava/lang/Object;[Ljava/lang/Object;I)V"⟩ : MethodName) jdk_38_method_24_code 4 none [] ({ frames := 3, cells := 1, slots := 10, locals := 50 } : Room) 1 10 #[(.ref a), (.ref u), (.ref aD), (.int (0 : Int32))] h0 (fun v h L => ∃ b k, v = none ∧ n0 ≤ b ∧ h0.size ≤ b ∧ Ovr Z k "java/lang/Object" ∧ Fr n0 L ∧ Keep h0 h [a] ∧ Fld Z h a "java/util/AbstractList" "modCount" "I" (.int mc) ∧ Fld Z h a "java/util/ArrayList" "elementData" "[Ljava/lang/Object;" (.ref b) ∧ Fld Z h a "java/util/ArrayList" "size" "I" (.int ((0 : Int32) + (1 : Int32))) ∧ Arh Z h b k (.object "java/lang/Object") 10 [((0 : Int32), .ref u)] [] .null) := by
  refine ctr_of (plainFor_of_name pn3) ?_
  intro p e s m below meth jc s₁ hx hby hml hret hlk hnm hown hZ e0 X0
  have N0 := Fr.nil n0
  have hg : ∀ (i : Nat) {d : Jvm.Cond}, tables_1[i]? = some d → d.before a0 Z = true := fun i d q => hw d (List.mem_of_getElem? q)
  refine Dn.cast (ef13_AAAI m a u aD (0 : Int32)) ?_
  show Dn p e below s _ _ _ (s₁.setTop (mkF m 0 #[(vA a), (vA u), (vA aD), (vI (0 : Int32))] []))
  refine Dn.of (fun tt_ zz_ => XS.iloadN X0.here hx rfl (hb hby d13_0) rfl zz_) ?_
  refine Dn.of (fun tt_ zz_ => XS.aloadN X0.here hx rfl (hb hby d13_1) rfl rfl zz_) ?_
  show Dn p e below s _ _ _ (s₁.setTop (mkF m 2 #[(vA a), (vA u), (vA aD), (vI (0 : Int32))] [(.ref aD), (.int (0 : Int32))]))
  refine Dn.of (fun tt_ zz_ => X0.arraylength hx (by rw [e0]; exact (RD.ext O0.2).1) (State.isArrayOf_alike hZ.alike (RD.ext O0.2).2.1) (g := (mkF m 2 #[(vA a), (vA u), (vA aD), (vI (0 : Int32))] [(.ref aD), (.int (0 : Int32))])) rfl rfl (hb hby d13_2) tt_ zz_) ?_
  rw [zD, show (0 : Nat).toInt32 = (0 : Int32) by decide]
  show Dn p e below s _ _ _ (s₁.setTop (mkF m 3 #[(vA a), (vA u), (vA aD), (vI (0 : Int32))] [(.int (0 : Int32)), (.int (0 : Int32))]))
  refine Dn.of (fun tt_ zz_ => XS.icmpNo X0.here hx rfl (hb hby d13_3) rfl (teq rfl).2 zz_) ?_
  show Dn p e below s _ _ _ (s₁.setTop (mkF m 6 #[(vA a), (vA u), (vA aD), (vI (0 : Int32))] []))
  refine Dn.of (fun tt_ zz_ => XS.aloadN X0.here hx rfl (hb hby d13_6) rfl rfl zz_) ?_
  show Dn p e below s _ _ _ (s₁.setTop (mkF m 7 #[(vA a), (vA u), (vA aD), (vI (0 : Int32))] [(.ref a)]))
  obtain ⟨v66, T66, L66, Q66, X66, st66⟩ := cPr X0 hx hZ (y := (⟨"java/util/ArrayList", "grow", "()[Ljava/lang/Object;"⟩ : MethodName)) hown (hg 96 rfl) (hg 97 rfl) (hg 99 rfl) (hg 98 rfl) (hg 19 rfl) (hg 100 rfl) (by decide) (a := a) (argsL := []) (rest := []) (rmG0 l Z a0 hw h0 n0 Z0 a mc aD lD SD RD zD O0 E0 F1 F2 F3 g0) e0 E0 0 (by decide) (by decide) (by decide) (by decide) (g := (mkF m 7 #[(vA a), (vA u), (vA aD), (vI (0 : Int32))] [(.ref a)])) rfl (by rw [hml]; rfl) (lenOf pd5 rfl) rfl (by show 2 * 0 + _ ≤ _; exact Nat.le_of_eq rfl) (hb hby d13_7)
  obtain ⟨b, k, rfl, r1, r2, O1, r3, K1, G0, G1, G2, R1⟩ := Q66
  refine Dn.of st66 ?_
  show Dn p e below s _ _ _ (T66.setTop (mkF m 10 #[(vA a), (vA u), (vA aD), (vI (0 : Int32))] [(.ref b)]))
  refine Dn.of (fun tt_ zz_ => XS.astoreN X66.here hx rfl (hb hby d13_10) rfl rfl (l' := #[(vA a), (vA u), (vA b), (vI (0 : Int32))]) rfl zz_) ?_
  refine Dn.of (fun tt_ zz_ => XS.aloadN X66.here hx rfl (hb hby d13_11) rfl rfl zz_) ?_
  refine Dn.of (fun tt_ zz_ => XS.iloadN X66.here hx rfl (hb hby d13_12) rfl zz_) ?_
  refine Dn.of (fun tt_ zz_ => XS.aloadN X66.here hx rfl (hb hby d13_13) rfl rfl zz_) ?_
  show Dn p e below s _ _ _ (T66.setTop (mkF m 14 #[(vA a), (vA u), (vA b), (vI (0 : Int32))] [(.ref u), (.int (0 : Int32)), (.ref b)]))
  have dn : b ≠ a := Ne.symm (Nat.ne_of_lt (Nat.lt_of_lt_of_le E0.lt r2))
  obtain ⟨c0, A_0, p0, S0, P0, H0, G_0⟩ := R1
  obtain ⟨T67, h67, X67, e67, W67, st67⟩ := stR X66 hx hZ rfl A_0 (j := (0 : Int32)) (inb_of S0 (by decide)) rfl (Sto.ofV A_0 p0 O1 (Ins.of_exa (EU.keep K1) (hg 109 rfl))) (g := (mkF m 14 #[(vA a), (vA u), (vA b), (vI (0 : Int32))] [(.ref u), (.int (0 : Int32)), (.ref b)])) rfl rfl (hb hby d13_14)
  refine Dn.of st67 ?_
  show Dn p e below s _ _ _ (T67.setTop (mkF m 15 #[(vA a), (vA u), (vA b), (vI (0 : Int32))] []))
  have R2 := Arh.push A_0 p0 S0 P0 H0 G_0 (v := .ref u) rfl W67 (inb_of S0 (by decide))
  have Nn1 := Fr.snoc X67 (Fr.app N0 r3) r1
  refine Dn.of (fun tt_ zz_ => XS.aloadN X67.here hx rfl (hb hby d13_15) rfl rfl zz_) ?_
  refine Dn.of (fun tt_ zz_ => XS.iloadN X67.here hx rfl (hb hby d13_16) rfl zz_) ?_
  refine Dn.of (fun tt_ zz_ => XS.iconst X67.here hx rfl (hb hby d13_17) zz_) ?_
  refine Dn.of (fun tt_ zz_ => XS.iadd X67.here hx rfl (hb hby d13_18) rfl zz_) ?_
  show Dn p e below s _ _ _ (T67.setTop (mkF m 19 #[(vA a), (vA u), (vA b), (vI (0 : Int32))] [(.int ((0 : Int32) + (1 : Int32))), (.ref a)]))
  obtain ⟨T68, h68, X68, e68, W68, st68⟩ := putF X67 hx hZ hown (host := "") (Or.inl (hg 89 rfl)) Via.refl e67 (G2.other W67 (Or.inl (Ne.symm dn))) ((E0.keep K1).wr W67) (Or.inl (hg 90 rfl)) (hg 18 rfl) (ty := .int) (by decide) rfl rfl (g := (mkF m 19 #[(vA a), (vA u), (vA b), (vI (0 : Int32))] [(.int ((0 : Int32) + (1 : Int32))), (.ref a)])) rfl rfl (hb hby d13_19)
  refine Dn.of st68 ?_
  show Dn p e below s _ _ _ (T68.setTop (mkF m 22 #[(vA a), (vA u), (vA b), (vI (0 : Int32))] []))
  have sn : Jvm.RoadKit.slotOf Z "java/util/ArrayList" "elementData" "[Ljava/lang/Object;" ≠ Jvm.RoadKit.slotOf Z "java/util/ArrayList" "size" "I" := slot_ne (Or.inl (hg 42 rfl)) (Or.inl (hg 90 rfl)) (by decide) (t := (.array (.object "java/lang/Object"))) (t' := .int) (by decide) (by decide)
  have sm : Jvm.RoadKit.slotOf Z "java/util/AbstractList" "modCount" "I" ≠ Jvm.RoadKit.slotOf Z "java/util/ArrayList" "size" "I" := slot_ne (Or.inl (hg 39 rfl)) (Or.inl (hg 90 rfl)) (by decide) (t := .int) (t' := .int) (by decide) (by decide)
  have Nn2 := Fr.snoc X68 Nn1 g0
  exact Dn.retV X68 hx hlk hret (hb hby d13_22) (by decide) (by decide) (by rw [e68]; exact ⟨b, k, rfl, r1, r2, O1, Nn2, (K1.wr W67 (Or.inr r2)).wr W68 (Or.inl (List.mem_of_getElem? (i := 0) rfl)), (G0.other W67 (Or.inl (Ne.symm dn))).other W68 (Or.inr sm), (G1.other W67 (Or.inl (Ne.symm dn))).other W68 (Or.inr sn), (G2.other W67 (Or.inl (Ne.symm dn))).same W68, R2.other W68 dn⟩)
theorem ef12_AA (m : MethodId) (x0 : Addr) (x1 : Addr) : entryFrame m #[(.ref x0), (.ref x1)] 2 = mkF m 0 #[(vA x0), (vA x1)] [] := by first | (simp [entryFrame, mkF, argsToLocals, Value.category]; done) | rfl
set_option maxRecDepth 65536 in
set_option maxHeartbeats 40000000 in
theorem rmA1 (l : Launch) (Z : State) (a0 : Array Value) (hw : ∀ d ∈ tables_1, d.before a0 Z = true) (h0 : Heap) (n0 : Nat) (Z0 : n0 ≤ h0.size) (a u : Addr) (mc : Int32) (aD : Addr) (lD : Cell) (SD : Sta Z Z.heap "java/util/ArrayList" "DEFAULTCAPACITY_EMPTY_ELEMENTDATA" "[Ljava/lang/Object;" (.ref aD)) (RD : Arr Z Z.heap aD lD (.object "java/lang/Object")) (zD : lD.slots.size = 0) (O0 : Old Z n0 h0) (E0 : Exa Z h0 a "java/util/ArrayList") (F1 : Fld Z h0 a "java/util/AbstractList" "modCount" "I" (.int mc)) (F2 : Fld Z h0 a "java/util/ArrayList" "elementData" "[Ljava/lang/Object;" (.ref aD)) (F3 : Fld Z h0 a "java/util/ArrayList" "size" "I" (.int (0 : Int32))) (g0 : n0 ≤ a) (EU : Exa Z h0 u "com/example/verify_markov_chains/verifymarkovchains/model/Variable") :
    ctr l Z (⟨"java/util/ArrayList", "add", "(Ljava/lang/Object;)Z"⟩ : MethodName) jdk_38_method_25_code 2 (some .boolean) [] ({ frames := 4, cells := 1, slots := 10, locals := 72 } : Room) 1 10 #[(.ref a), (.ref u)] h0 (fun v h L => ∃ b k, v = some (.int (1 : Int32)) ∧ n0 ≤ b ∧ h0.size ≤ b ∧ Ovr Z k "java/lang/Object" ∧ Fr n0 L ∧ Keep h0 h [a] ∧ Fld Z h a "java/util/AbstractList" "modCount" "I" (.int (mc + (1 : Int32))) ∧ Fld Z h a "java/util/ArrayList" "elementData" "[Ljava/lang/Object;" (.ref b) ∧ Fld Z h a "java/util/ArrayList" "size" "I" (.int (1 : Int32)) ∧ Arh Z h b k (.object "java/lang/Object") 10 [((0 : Int32), .ref u)] [] .null) := by
  refine ctr_of (plainFor_of_name pn3) ?_
  intro p e s m below meth jc s₁ hx hby hml hret hlk hnm hown hZ e0 X0
  have N0 := Fr.nil n0
  have hg : ∀ (i : Nat) {d : Jvm.Cond}, tables_1[i]? = some d → d.before a0 Z = true := fun i d q => hw d (List.mem_of_getElem? q)
  refine Dn.cast (ef12_AA m a u) ?_
  show Dn p e below s _ _ _ (s₁.setTop (mkF m 0 #[(vA a), (vA u)] []))
  have sn : Jvm.RoadKit.slotOf Z "java/util/ArrayList" "elementData" "[Ljava/lang/Object;" ≠ Jvm.RoadKit.slotOf Z "java/util/AbstractList" "modCount" "I" := slot_ne (Or.inl (hg 42 rfl)) (Or.inl (hg 39 rfl)) (by decide) (t := (.array (.object "java/lang/Object"))) (t' := .int) (by decide) (by decide)
  have sn2 : Jvm.RoadKit.slotOf Z "java/util/ArrayList" "size" "I" ≠ Jvm.RoadKit.slotOf Z "java/util/AbstractList" "modCount" "I" := slot_ne (Or.inl (hg 90 rfl)) (Or.inl (hg 39 rfl)) (by decide) (t := .int) (t' := .int) (by decide) (by decide)
  refine Dn.of (fun tt_ zz_ => XS.aloadN X0.here hx rfl (hb hby d12_0) rfl rfl zz_) ?_
  refine Dn.of (fun tt_ zz_ => XS.dup X0.here hx rfl (hb hby d12_1) rfl rfl zz_) ?_
  show Dn p e below s _ _ _ (s₁.setTop (mkF m 2 #[(vA a), (vA u)] [(.ref a), (.ref a)]))
  obtain ⟨T69, X69, e69, st69⟩ := getF X0 hx hZ hown (host := "") (Or.inl (hg 87 rfl)) (Via.of (hg 88 rfl)) e0 F1 (g := (mkF m 2 #[(vA a), (vA u)] [(.ref a), (.ref a)])) rfl rfl (hb hby d12_2)
  refine Dn.of st69 ?_
  show Dn p e below s _ _ _ (T69.setTop (mkF m 5 #[(vA a), (vA u)] [(.int mc), (.ref a)]))
  refine Dn.of (fun tt_ zz_ => XS.iconst X69.here hx rfl (hb hby d12_5) zz_) ?_
  refine Dn.of (fun tt_ zz_ => XS.iadd X69.here hx rfl (hb hby d12_6) rfl zz_) ?_
  show Dn p e below s _ _ _ (T69.setTop (mkF m 7 #[(vA a), (vA u)] [(.int (mc + (1 : Int32))), (.ref a)]))
  obtain ⟨T70, h70, X70, e70, W70, st70⟩ := putF X69 hx hZ hown (host := "") (Or.inl (hg 87 rfl)) (Via.of (hg 88 rfl)) e69 F1 E0 (Or.inl (hg 39 rfl)) (hg 18 rfl) (ty := .int) (by decide) rfl rfl (g := (mkF m 7 #[(vA a), (vA u)] [(.int (mc + (1 : Int32))), (.ref a)])) rfl rfl (hb hby d12_7)
  refine Dn.of st70 ?_
  show Dn p e below s _ _ _ (T70.setTop (mkF m 10 #[(vA a), (vA u)] []))
  have N1 := Fr.snoc X70 N0 g0
  have K0 := (Keep.refl h0 [a]).wr W70 (Or.inl (List.mem_of_getElem? (i := 0) rfl))
  have G1 := F1.same W70
  have G2 := F2.other W70 (Or.inr sn)
  have G3 := F3.other W70 (Or.inr sn2)
  have G4 := E0.wr W70
  refine Dn.of (fun tt_ zz_ => XS.aloadN X70.here hx rfl (hb hby d12_10) rfl rfl zz_) ?_
  refine Dn.of (fun tt_ zz_ => XS.aloadN X70.here hx rfl (hb hby d12_11) rfl rfl zz_) ?_
  refine Dn.of (fun tt_ zz_ => XS.aloadN X70.here hx rfl (hb hby d12_12) rfl rfl zz_) ?_
  show Dn p e below s _ _ _ (T70.setTop (mkF m 13 #[(vA a), (vA u)] [(.ref a), (.ref u), (.ref a)]))
  obtain ⟨T71, X71, e71, st71⟩ := getF X70 hx hZ hown (host := "") (Or.inl (hg 41 rfl)) Via.refl e70 G2 (g := (mkF m 13 #[(vA a), (vA u)] [(.ref a), (.ref u), (.ref a)])) rfl rfl (hb hby d12_13)
  refine Dn.of st71 ?_
  show Dn p e below s _ _ _ (T71.setTop (mkF m 16 #[(vA a), (vA u)] [(.ref aD), (.ref u), (.ref a)]))
  refine Dn.of (fun tt_ zz_ => XS.aloadN X71.here hx rfl (hb hby d12_16) rfl rfl zz_) ?_
  show Dn p e below s _ _ _ (T71.setTop (mkF m 17 #[(vA a), (vA u)] [(.ref a), (.ref aD), (.ref u), (.ref a)]))
  obtain ⟨T72, X72, e72, st72⟩ := getF X71 hx hZ hown (host := "") (Or.inl (hg 89 rfl)) Via.refl e71 G3 (g := (mkF m 17 #[(vA a), (vA u)] [(.ref a), (.ref aD), (.ref u), (.ref a)])) rfl rfl (hb hby d12_17)
  refine Dn.of st72 ?_
  show Dn p e below s _ _ _ (T72.setTop (mkF m 20 #[(vA a), (vA u)] [(.int (0 : Int32)), (.ref aD), (.ref u), (.ref a)]))
  have O1 := O0.wr W70 g0
  obtain ⟨v73, T73, L73, Q73, X73, st73⟩ := cPr X72 hx hZ (y := (⟨"java/util/ArrayList", "add", "(Ljava/lang/Object;[Ljava/lang/Object;I)V"⟩ : MethodName)) hown (hg 91 rfl) (hg 92 rfl) (hg 94 rfl) (hg 93 rfl) (hg 19 rfl) (hg 95 rfl) (by decide) (a := a) (argsL := [(.ref u), (.ref aD), (.int (0 : Int32))]) (rest := []) (rmA3 l Z a0 hw h70 n0 (O1.1 ▸ O1.2.1) a u _ aD lD SD RD zD O1 G4 G1 G2 G3 g0 (EU.wr W70)) e72 G4 0 (by decide) (by decide) (by decide) (by decide) (g := (mkF m 20 #[(vA a), (vA u)] [(.int (0 : Int32)), (.ref aD), (.ref u), (.ref a)])) rfl (by rw [hml]; rfl) (lenOf pd6 rfl) rfl (by show 2 * 0 + _ ≤ _; exact Nat.le_of_eq rfl) (hb hby d12_20)
  obtain ⟨b, k, rfl, r1, r2, r4, r3, K1, r⟩ := Q73
  refine Dn.of st73 ?_
  show Dn p e below s _ _ _ (T73.setTop (mkF m 23 #[(vA a), (vA u)] []))
  refine Dn.of (fun tt_ zz_ => XS.iconst X73.here hx rfl (hb hby d12_23) zz_) ?_
  show Dn p e below s _ _ _ (T73.setTop (mkF m 24 #[(vA a), (vA u)] [(.int (1 : Int32))]))
  exact Dn.retN X73 hx hlk (t := .boolean) hret (by simp) (hb hby d12_24) (by decide) (by decide) (⟨b, k, rfl, r1, Nat.le_trans K0.1 r2, r4, Fr.app N1 r3, K0.trans K1 (allS (Or.inl (List.mem_of_getElem? (i := 0) rfl)) all0), r⟩)
set_option maxRecDepth 65536 in
set_option maxHeartbeats 40000000 in
theorem rmB3 (l : Launch) (Z : State) (a0 : Array Value) (hw : ∀ d ∈ tables_1, d.before a0 Z = true) (h0 : Heap) (n0 : Nat) (Z0 : n0 ≤ h0.size) (a u b : Addr) (k : ClassId) (hs : List (Int32 × Value)) (mc j : Int32) (hj : ¬ j < 0 ∧ j < 10) (jn : ¬ j = 10) (O1 : Ovr Z k "java/lang/Object") (E0 : Exa Z h0 a "java/util/ArrayList") (F1 : Fld Z h0 a "java/util/AbstractList" "modCount" "I" (.int mc)) (F2 : Fld Z h0 a "java/util/ArrayList" "elementData" "[Ljava/lang/Object;" (.ref b)) (F3 : Fld Z h0 a "java/util/ArrayList" "size" "I" (.int j)) (g0 : n0 ≤ a) (EU : Exa Z h0 u "com/example/verify_markov_chains/verifymarkovchains/model/Variable") (dn : b ≠ a) (gb : n0 ≤ b) (R1 : Arh Z h0 b k (.object "java/lang/Object") 10 hs [] .null) :
    ctr l Z (⟨"java/util/ArrayList", "add", "(Ljava/lang/Object;[Ljava/lang/Object;I)V"⟩ : MethodName) jdk_38_method_24_code 4 none [] ({ frames := 0, cells := 0, slots := 0, locals := 0 } : Room) 0 0 #[(.ref a), (.ref u), (.ref b), (.int j)] h0 (fun v h L => v = none ∧ Fr n0 L ∧ Keep h0 h [a, b] ∧ Fld Z h a "java/util/AbstractList" "modCount" "I" (.int mc) ∧ Fld Z h a "java/util/ArrayList" "elementData" "[Ljava/lang/Object;" (.ref b) ∧ Fld Z h a "java/util/ArrayList" "size" "I" (.int (j + (1 : Int32))) ∧ Arh Z h b k (.object "java/lang/Object") 10 ((j, .ref u) :: hs) [] .null) := by
  refine ctr_of (plainFor_of_name pn3) ?_
  intro p e s m below meth jc s₁ hx hby hml hret hlk hnm hown hZ e0 X0
  have N0 := Fr.nil n0
  have hg : ∀ (i : Nat) {d : Jvm.Cond}, tables_1[i]? = some d → d.before a0 Z = true := fun i d q => hw d (List.mem_of_getElem? q)
  refine Dn.cast (ef13_AAAI m a u b j) ?_
  show Dn p e below s _ _ _ (s₁.setTop (mkF m 0 #[(vA a), (vA u), (vA b), (vI j)] []))
  refine Dn.of (fun tt_ zz_ => XS.iloadN X0.here hx rfl (hb hby d13_0) rfl zz_) ?_
  refine Dn.of (fun tt_ zz_ => XS.aloadN X0.here hx rfl (hb hby d13_1) rfl rfl zz_) ?_
  show Dn p e below s _ _ _ (s₁.setTop (mkF m 2 #[(vA a), (vA u), (vA b), (vI j)] [(.ref b), (.int j)]))
  have R1' := R1
  obtain ⟨c1, A_1, p1, S1, P1, H1, G_1⟩ := R1'
  refine Dn.of (fun tt_ zz_ => X0.arraylength hx (by rw [e0]; exact A_1.1) (State.isArrayOf_alike hZ.alike A_1.2.1) (g := (mkF m 2 #[(vA a), (vA u), (vA b), (vI j)] [(.ref b), (.int j)])) rfl rfl (hb hby d13_2) tt_ zz_) ?_
  rw [S1, show ((10 : Int32).toNatClampNeg).toInt32 = (10 : Int32) by decide]
  show Dn p e below s _ _ _ (s₁.setTop (mkF m 3 #[(vA a), (vA u), (vA b), (vI j)] [(.int (10 : Int32)), (.int j)]))
  refine Dn.of (fun tt_ zz_ => XS.icmpYes X0.here hx rfl (pc0 := 3) (pc' := 11) rfl (hb hby d13_3) rfl (feq jn).2 (by decide) (by decide) zz_) ?_
  show Dn p e below s _ _ _ (s₁.setTop (mkF m 11 #[(vA a), (vA u), (vA b), (vI j)] []))
  refine Dn.of (fun tt_ zz_ => XS.aloadN X0.here hx rfl (hb hby d13_11) rfl rfl zz_) ?_
  refine Dn.of (fun tt_ zz_ => XS.iloadN X0.here hx rfl (hb hby d13_12) rfl zz_) ?_
  refine Dn.of (fun tt_ zz_ => XS.aloadN X0.here hx rfl (hb hby d13_13) rfl rfl zz_) ?_
  show Dn p e below s _ _ _ (s₁.setTop (mkF m 14 #[(vA a), (vA u), (vA b), (vI j)] [(.ref u), (.int j), (.ref b)]))
  obtain ⟨c0, A_0, p0, S0, P0, H0, G_0⟩ := R1
  obtain ⟨T74, h74, X74, e74, W74, st74⟩ := stR X0 hx hZ e0 A_0 (j := j) (inb_of S0 hj) rfl (Sto.ofV A_0 p0 O1 (Ins.of_exa EU (hg 109 rfl))) (g := (mkF m 14 #[(vA a), (vA u), (vA b), (vI j)] [(.ref u), (.int j), (.ref b)])) rfl rfl (hb hby d13_14)
  refine Dn.of st74 ?_
  show Dn p e below s _ _ _ (T74.setTop (mkF m 15 #[(vA a), (vA u), (vA b), (vI j)] []))
  have R2 := Arh.push A_0 p0 S0 P0 H0 G_0 (v := .ref u) rfl W74 (inb_of S0 hj)
  have Nn1 := Fr.snoc X74 N0 gb
  refine Dn.of (fun tt_ zz_ => XS.aloadN X74.here hx rfl (hb hby d13_15) rfl rfl zz_) ?_
  refine Dn.of (fun tt_ zz_ => XS.iloadN X74.here hx rfl (hb hby d13_16) rfl zz_) ?_
  refine Dn.of (fun tt_ zz_ => XS.iconst X74.here hx rfl (hb hby d13_17) zz_) ?_
  refine Dn.of (fun tt_ zz_ => XS.iadd X74.here hx rfl (hb hby d13_18) rfl zz_) ?_
  show Dn p e below s _ _ _ (T74.setTop (mkF m 19 #[(vA a), (vA u), (vA b), (vI j)] [(.int (j + (1 : Int32))), (.ref a)]))
  obtain ⟨T75, h75, X75, e75, W75, st75⟩ := putF X74 hx hZ hown (host := "") (Or.inl (hg 89 rfl)) Via.refl e74 (F3.other W74 (Or.inl (Ne.symm dn))) (E0.wr W74) (Or.inl (hg 90 rfl)) (hg 18 rfl) (ty := .int) (by decide) rfl rfl (g := (mkF m 19 #[(vA a), (vA u), (vA b), (vI j)] [(.int (j + (1 : Int32))), (.ref a)])) rfl rfl (hb hby d13_19)
  refine Dn.of st75 ?_
  show Dn p e below s _ _ _ (T75.setTop (mkF m 22 #[(vA a), (vA u), (vA b), (vI j)] []))
  have sn : Jvm.RoadKit.slotOf Z "java/util/ArrayList" "elementData" "[Ljava/lang/Object;" ≠ Jvm.RoadKit.slotOf Z "java/util/ArrayList" "size" "I" := slot_ne (Or.inl (hg 42 rfl)) (Or.inl (hg 90 rfl)) (by decide) (t := (.array (.object "java/lang/Object"))) (t' := .int) (by decide) (by decide)
  have sm : Jvm.RoadKit.slotOf Z "java/util/AbstractList" "modCount" "I" ≠ Jvm.RoadKit.slotOf Z "java/util/ArrayList" "size" "I" := slot_ne (Or.inl (hg 39 rfl)) (Or.inl (hg 90 rfl)) (by decide) (t := .int) (t' := .int) (by decide) (by decide)
  have Nn2 := Fr.snoc X75 Nn1 g0
  exact Dn.retV X75 hx hlk hret (hb hby d13_22) (by decide) (by decide) (by rw [e75]; exact ⟨rfl, Nn2, ((Keep.refl h0 [a, b]).wr W74 (Or.inl (List.mem_of_getElem? (i := 1) rfl))).wr W75 (Or.inl (List.mem_of_getElem? (i := 0) rfl)), (F1.other W74 (Or.inl (Ne.symm dn))).other W75 (Or.inr sm), (F2.other W74 (Or.inl (Ne.symm dn))).other W75 (Or.inr sn), (F3.other W74 (Or.inl (Ne.symm dn))).same W75, R2.other W75 dn⟩)
set_option maxRecDepth 65536 in
set_option maxHeartbeats 40000000 in
theorem rmB1 (l : Launch) (Z : State) (a0 : Array Value) (hw : ∀ d ∈ tables_1, d.before a0 Z = true) (h0 : Heap) (n0 : Nat) (Z0 : n0 ≤ h0.size) (a u b : Addr) (k : ClassId) (hs : List (Int32 × Value)) (mc j : Int32) (hj : ¬ j < 0 ∧ j < 10) (jn : ¬ j = 10) (O1 : Ovr Z k "java/lang/Object") (E0 : Exa Z h0 a "java/util/ArrayList") (F1 : Fld Z h0 a "java/util/AbstractList" "modCount" "I" (.int mc)) (F2 : Fld Z h0 a "java/util/ArrayList" "elementData" "[Ljava/lang/Object;" (.ref b)) (F3 : Fld Z h0 a "java/util/ArrayList" "size" "I" (.int j)) (g0 : n0 ≤ a) (EU : Exa Z h0 u "com/example/verify_markov_chains/verifymarkovchains/model/Variable") (dn : b ≠ a) (gb : n0 ≤ b) (R1 : Arh Z h0 b k (.object "java/lang/Object") 10 hs [] .null) :
    ctr l Z (⟨"java/util/ArrayList", "add", "(Ljava/lang/Object;)Z"⟩ : MethodName) jdk_38_method_25_code 2 (some .boolean) [] ({ frames := 1, cells := 0, slots := 0, locals := 24 } : Room) 0 0 #[(.ref a), (.ref u)] h0 (fun v h L => v = some (.int (1 : Int32)) ∧ Fr n0 L ∧ Keep h0 h [a, b] ∧ Fld Z h a "java/util/AbstractList" "modCount" "I" (.int (mc + (1 : Int32))) ∧ Fld Z h a "java/util/ArrayList" "elementData" "[Ljava/lang/Object;" (.ref b) ∧ Fld Z h a "java/util/ArrayList" "size" "I" (.int (j + (1 : Int32))) ∧ Arh Z h b k (.object "java/lang/Object") 10 ((j, .ref u) :: hs) [] .null) := by
  refine ctr_of (plainFor_of_name pn3) ?_
  intro p e s m below meth jc s₁ hx hby hml hret hlk hnm hown hZ e0 X0
  have N0 := Fr.nil n0
  have hg : ∀ (i : Nat) {d : Jvm.Cond}, tables_1[i]? = some d → d.before a0 Z = true := fun i d q => hw d (List.mem_of_getElem? q)
  refine Dn.cast (ef12_AA m a u) ?_
  show Dn p e below s _ _ _ (s₁.setTop (mkF m 0 #[(vA a), (vA u)] []))
  have sn : Jvm.RoadKit.slotOf Z "java/util/ArrayList" "elementData" "[Ljava/lang/Object;" ≠ Jvm.RoadKit.slotOf Z "java/util/AbstractList" "modCount" "I" := slot_ne (Or.inl (hg 42 rfl)) (Or.inl (hg 39 rfl)) (by decide) (t := (.array (.object "java/lang/Object"))) (t' := .int) (by decide) (by decide)
  have sn2 : Jvm.RoadKit.slotOf Z "java/util/ArrayList" "size" "I" ≠ Jvm.RoadKit.slotOf Z "java/util/AbstractList" "modCount" "I" := slot_ne (Or.inl (hg 90 rfl)) (Or.inl (hg 39 rfl)) (by decide) (t := .int) (t' := .int) (by decide) (by decide)
  refine Dn.of (fun tt_ zz_ => XS.aloadN X0.here hx rfl (hb hby d12_0) rfl rfl zz_) ?_
  refine Dn.of (fun tt_ zz_ => XS.dup X0.here hx rfl (hb hby d12_1) rfl rfl zz_) ?_
  show Dn p e below s _ _ _ (s₁.setTop (mkF m 2 #[(vA a), (vA u)] [(.ref a), (.ref a)]))
  obtain ⟨T76, X76, e76, st76⟩ := getF X0 hx hZ hown (host := "") (Or.inl (hg 87 rfl)) (Via.of (hg 88 rfl)) e0 F1 (g := (mkF m 2 #[(vA a), (vA u)] [(.ref a), (.ref a)])) rfl rfl (hb hby d12_2)
  refine Dn.of st76 ?_
  show Dn p e below s _ _ _ (T76.setTop (mkF m 5 #[(vA a), (vA u)] [(.int mc), (.ref a)]))
  refine Dn.of (fun tt_ zz_ => XS.iconst X76.here hx rfl (hb hby d12_5) zz_) ?_
  refine Dn.of (fun tt_ zz_ => XS.iadd X76.here hx rfl (hb hby d12_6) rfl zz_) ?_
  show Dn p e below s _ _ _ (T76.setTop (mkF m 7 #[(vA a), (vA u)] [(.int (mc + (1 : Int32))), (.ref a)]))
  obtain ⟨T77, h77, X77, e77, W77, st77⟩ := putF X76 hx hZ hown (host := "") (Or.inl (hg 87 rfl)) (Via.of (hg 88 rfl)) e76 F1 E0 (Or.inl (hg 39 rfl)) (hg 18 rfl) (ty := .int) (by decide) rfl rfl (g := (mkF m 7 #[(vA a), (vA u)] [(.int (mc + (1 : Int32))), (.ref a)])) rfl rfl (hb hby d12_7)
  refine Dn.of st77 ?_
  show Dn p e below s _ _ _ (T77.setTop (mkF m 10 #[(vA a), (vA u)] []))
  have N1 := Fr.snoc X77 N0 g0
  have K0 := (Keep.refl h0 [a]).wr W77 (Or.inl (List.mem_of_getElem? (i := 0) rfl))
  have G1 := F1.same W77
  have G2 := F2.other W77 (Or.inr sn)
  have G3 := F3.other W77 (Or.inr sn2)
  have G4 := E0.wr W77
  refine Dn.of (fun tt_ zz_ => XS.aloadN X77.here hx rfl (hb hby d12_10) rfl rfl zz_) ?_
  refine Dn.of (fun tt_ zz_ => XS.aloadN X77.here hx rfl (hb hby d12_11) rfl rfl zz_) ?_
  refine Dn.of (fun tt_ zz_ => XS.aloadN X77.here hx rfl (hb hby d12_12) rfl rfl zz_) ?_
  show Dn p e below s _ _ _ (T77.setTop (mkF m 13 #[(vA a), (vA u)] [(.ref a), (.ref u), (.ref a)]))
  obtain ⟨T78, X78, e78, st78⟩ := getF X77 hx hZ hown (host := "") (Or.inl (hg 41 rfl)) Via.refl e77 G2 (g := (mkF m 13 #[(vA a), (vA u)] [(.ref a), (.ref u), (.ref a)])) rfl rfl (hb hby d12_13)
  refine Dn.of st78 ?_
  show Dn p e below s _ _ _ (T78.setTop (mkF m 16 #[(vA a), (vA u)] [(.ref b), (.ref u), (.ref a)]))
  refine Dn.of (fun tt_ zz_ => XS.aloadN X78.here hx rfl (hb hby d12_16) rfl rfl zz_) ?_
  show Dn p e below s _ _ _ (T78.setTop (mkF m 17 #[(vA a), (vA u)] [(.ref a), (.ref b), (.ref u), (.ref a)]))
  obtain ⟨T79, X79, e79, st79⟩ := getF X78 hx hZ hown (host := "") (Or.inl (hg 89 rfl)) Via.refl e78 G3 (g := (mkF m 17 #[(vA a), (vA u)] [(.ref a), (.ref b), (.ref u), (.ref a)])) rfl rfl (hb hby d12_17)
  refine Dn.of st79 ?_
  show Dn p e below s _ _ _ (T79.setTop (mkF m 20 #[(vA a), (vA u)] [(.int j), (.ref b), (.ref u), (.ref a)]))
  obtain ⟨v80, T80, L80, Q80, X80, st80⟩ := cPr X79 hx hZ (y := (⟨"java/util/ArrayList", "add", "(Ljava/lang/Object;[Ljava/lang/Object;I)V"⟩ : MethodName)) hown (hg 91 rfl) (hg 92 rfl) (hg 94 rfl) (hg 93 rfl) (hg 19 rfl) (hg 95 rfl) (by decide) (a := a) (argsL := [(.ref u), (.ref b), (.int j)]) (rest := []) (rmB3 l Z a0 hw h77 n0 (Nat.le_trans Z0 K0.1) a u b k hs _ j hj jn O1 G4 G1 G2 G3 g0 (EU.wr W77) dn gb (R1.other W77 dn)) e79 G4 0 (by decide) (by decide) (by decide) (by decide) (g := (mkF m 20 #[(vA a), (vA u)] [(.int j), (.ref b), (.ref u), (.ref a)])) rfl (by rw [hml]; rfl) (lenOf pd6 rfl) rfl (by show 2 * 0 + _ ≤ _; exact Nat.le_of_eq rfl) (hb hby d12_20)
  obtain ⟨rfl, r3, K1, r⟩ := Q80
  refine Dn.of st80 ?_
  show Dn p e below s _ _ _ (T80.setTop (mkF m 23 #[(vA a), (vA u)] []))
  refine Dn.of (fun tt_ zz_ => XS.iconst X80.here hx rfl (hb hby d12_23) zz_) ?_
  show Dn p e below s _ _ _ (T80.setTop (mkF m 24 #[(vA a), (vA u)] [(.int (1 : Int32))]))
  exact Dn.retN X80 hx hlk (t := .boolean) hret (by simp) (hb hby d12_24) (by decide) (by decide) (⟨rfl, Fr.app N1 r3, own_K1 K0 K1, r⟩)
theorem ef19_A (m : MethodId) (x0 : Addr) : entryFrame m #[(.ref x0)] 1 = mkF m 0 #[(vA x0)] [] := by first | (simp [entryFrame, mkF, argsToLocals, Value.category]; done) | rfl
set_option maxRecDepth 65536 in
set_option maxHeartbeats 40000000 in
theorem rmSz (l : Launch) (Z : State) (a0 : Array Value) (hw : ∀ d ∈ tables_1, d.before a0 Z = true) (h0 : Heap) (n0 : Nat) (Z0 : n0 ≤ h0.size) (a : Addr) (j : Int32) (F3 : Fld Z h0 a "java/util/ArrayList" "size" "I" (.int j)) :
    ctr l Z (⟨"java/util/ArrayList", "size", "()I"⟩ : MethodName) jdk_38_method_8_code 1 (some .int) [] ({ frames := 0, cells := 0, slots := 0, locals := 0 } : Room) 0 0 #[(.ref a)] h0 (fun v h L => v = some (.int j) ∧ Fr n0 L ∧ h = h0) := by
  refine ctr_of (plainFor_of_name pn3) ?_
  intro p e s m below meth jc s₁ hx hby hml hret hlk hnm hown hZ e0 X0
  have N0 := Fr.nil n0
  have hg : ∀ (i : Nat) {d : Jvm.Cond}, tables_1[i]? = some d → d.before a0 Z = true := fun i d q => hw d (List.mem_of_getElem? q)
  refine Dn.cast (ef19_A m a) ?_
  show Dn p e below s _ _ _ (s₁.setTop (mkF m 0 #[(vA a)] []))
  refine Dn.of (fun tt_ zz_ => XS.aloadN X0.here hx rfl (hb hby d19_0) rfl rfl zz_) ?_
  show Dn p e below s _ _ _ (s₁.setTop (mkF m 1 #[(vA a)] [(.ref a)]))
  obtain ⟨T81, X81, e81, st81⟩ := getF X0 hx hZ hown (host := "") (Or.inl (hg 89 rfl)) Via.refl e0 F3 (g := (mkF m 1 #[(vA a)] [(.ref a)])) rfl rfl (hb hby d19_1)
  refine Dn.of st81 ?_
  show Dn p e below s _ _ _ (T81.setTop (mkF m 4 #[(vA a)] [(.int j)]))
  exact Dn.retI X81 hx hlk hret (hb hby d19_4) (by decide) (by decide) (⟨rfl, N0, e81⟩)
theorem ef22_IIN (m : MethodId) (x0 : Int32) (x1 : Int32) : entryFrame m #[(.int x0), (.int x1), .null] 3 = mkF m 0 #[(vI x0), (vI x1), .val .null] [] := by first | (simp [entryFrame, mkF, argsToLocals, Value.category]; done) | rfl
set_option maxRecDepth 65536 in
set_option maxHeartbeats 40000000 in
theorem rmCP (l : Launch) (Z : State) (a0 : Array Value) (hw : ∀ d ∈ tables_1, d.before a0 Z = true) (h0 : Heap) (n0 : Nat) (Z0 : n0 ≤ h0.size) (i n : Int32) (h1 : ¬ i < 0) (h2 : i < n) :
    ctr l Z (⟨"jdk/internal/util/Preconditions", "checkIndex", "(IILjava/util/function/BiFunction;)I"⟩ : MethodName) jdk_41_method_11_code 3 (some .int) [] ({ frames := 0, cells := 0, slots := 0, locals := 0 } : Room) 0 0 #[(.int i), (.int n), .null] h0 (fun v h L => v = some (.int i) ∧ Fr n0 L ∧ h = h0) := by
  refine ctr_of (plainFor_of_name pn5) ?_
  intro p e s m below meth jc s₁ hx hby hml hret hlk hnm hown hZ e0 X0
  have N0 := Fr.nil n0
  have hg : ∀ (i : Nat) {d : Jvm.Cond}, tables_1[i]? = some d → d.before a0 Z = true := fun i d q => hw d (List.mem_of_getElem? q)
  refine Dn.cast (ef22_IIN m i n) ?_
  show Dn p e below s _ _ _ (s₁.setTop (mkF m 0 #[(vI i), (vI n), .val .null] []))
  refine Dn.of (fun tt_ zz_ => XS.iloadN X0.here hx rfl (hb hby d22_0) rfl zz_) ?_
  show Dn p e below s _ _ _ (s₁.setTop (mkF m 1 #[(vI i), (vI n), .val .null] [(.int i)]))
  refine Dn.of (fun tt_ zz_ => XS.ifNo X0.here hx rfl (hb hby d22_1) rfl ((if0 _ _).trans (flt h1).1) zz_) ?_
  show Dn p e below s _ _ _ (s₁.setTop (mkF m 4 #[(vI i), (vI n), .val .null] []))
  refine Dn.of (fun tt_ zz_ => XS.iloadN X0.here hx rfl (hb hby d22_4) rfl zz_) ?_
  refine Dn.of (fun tt_ zz_ => XS.iloadN X0.here hx rfl (hb hby d22_5) rfl zz_) ?_
  show Dn p e below s _ _ _ (s₁.setTop (mkF m 6 #[(vI i), (vI n), .val .null] [(.int n), (.int i)]))
  refine Dn.of (fun tt_ zz_ => XS.icmpYes X0.here hx rfl (pc0 := 6) (pc' := 16) rfl (hb hby d22_6) rfl (tlt h2).1 (by decide) (by decide) zz_) ?_
  show Dn p e below s _ _ _ (s₁.setTop (mkF m 16 #[(vI i), (vI n), .val .null] []))
  refine Dn.of (fun tt_ zz_ => XS.iloadN X0.here hx rfl (hb hby d22_16) rfl zz_) ?_
  show Dn p e below s _ _ _ (s₁.setTop (mkF m 17 #[(vI i), (vI n), .val .null] [(.int i)]))
  exact Dn.retI X0 hx hlk hret (hb hby d22_17) (by decide) (by decide) (⟨rfl, N0, e0⟩)
theorem ef21_II (m : MethodId) (x0 : Int32) (x1 : Int32) : entryFrame m #[(.int x0), (.int x1)] 2 = mkF m 0 #[(vI x0), (vI x1)] [] := by first | (simp [entryFrame, mkF, argsToLocals, Value.category]; done) | rfl
set_option maxRecDepth 65536 in
set_option maxHeartbeats 40000000 in
theorem rmCO (l : Launch) (Z : State) (a0 : Array Value) (hw : ∀ d ∈ tables_1, d.before a0 Z = true) (h0 : Heap) (n0 : Nat) (Z0 : n0 ≤ h0.size) (i n : Int32) (h1 : ¬ i < 0) (h2 : i < n) :
    ctr l Z (⟨"java/util/Objects", "checkIndex", "(II)I"⟩ : MethodName) jdk_31_method_17_code 2 (some .int) [] ({ frames := 1, cells := 0, slots := 0, locals := 16 } : Room) 0 0 #[(.int i), (.int n)] h0 (fun v h L => v = some (.int i) ∧ Fr n0 L ∧ h = h0) := by
  refine ctr_of (plainFor_of_name pn6) ?_
  intro p e s m below meth jc s₁ hx hby hml hret hlk hnm hown hZ e0 X0
  have N0 := Fr.nil n0
  have hg : ∀ (i : Nat) {d : Jvm.Cond}, tables_1[i]? = some d → d.before a0 Z = true := fun i d q => hw d (List.mem_of_getElem? q)
  refine Dn.cast (ef21_II m i n) ?_
  show Dn p e below s _ _ _ (s₁.setTop (mkF m 0 #[(vI i), (vI n)] []))
  refine Dn.of (fun tt_ zz_ => XS.iloadN X0.here hx rfl (hb hby d21_0) rfl zz_) ?_
  refine Dn.of (fun tt_ zz_ => XS.iloadN X0.here hx rfl (hb hby d21_1) rfl zz_) ?_
  refine Dn.of (fun tt_ zz_ => XS.aconstNull X0.here hx rfl (hb hby d21_2) zz_) ?_
  show Dn p e below s _ _ _ (s₁.setTop (mkF m 3 #[(vI i), (vI n)] [.null, (.int n), (.int i)]))
  obtain ⟨v82, T82, L82, Q82, X82, st82⟩ := cSt X0 hx hZ (y := (⟨"jdk/internal/util/Preconditions", "checkIndex", "(IILjava/util/function/BiFunction;)I"⟩ : MethodName)) hown (hg 163 rfl) (hg 164 rfl) (hg 165 rfl) (hg 166 rfl) (by decide) (argsL := [(.int i), (.int n), .null]) (rest := []) (rmCP l Z a0 hw h0 n0 Z0 i n h1 h2) e0  0 (by decide) (by decide) (by decide) (by decide) (g := (mkF m 3 #[(vI i), (vI n)] [.null, (.int n), (.int i)])) rfl (by rw [hml]; rfl) (lenOf pd7 rfl) rfl (by show 2 * 0 + _ ≤ _; exact Nat.le_of_eq rfl) (hb hby d21_3)
  obtain ⟨rfl, M1, e82⟩ := Q82
  refine Dn.of st82 ?_
  show Dn p e below s _ _ _ (T82.setTop (mkF m 6 #[(vI i), (vI n)] [(.int i)]))
  exact Dn.retI X82 hx hlk hret (hb hby d21_6) (by decide) (by decide) (⟨rfl, Fr.app N0 M1, e82⟩)
theorem ef23_AI (m : MethodId) (x0 : Addr) (x1 : Int32) : entryFrame m #[(.ref x0), (.int x1)] 2 = mkF m 0 #[(vA x0), (vI x1)] [] := by first | (simp [entryFrame, mkF, argsToLocals, Value.category]; done) | rfl
set_option maxRecDepth 65536 in
set_option maxHeartbeats 40000000 in
theorem rmEl (l : Launch) (Z : State) (a0 : Array Value) (hw : ∀ d ∈ tables_1, d.before a0 Z = true) (h0 : Heap) (n0 : Nat) (Z0 : n0 ≤ h0.size) (a b u : Addr) (k : ClassId) (hs : List (Int32 × Value)) (j n : Int32) (hj : ¬ j < 0 ∧ j < 10) (hn : j < n) (E0 : Exa Z h0 a "java/util/ArrayList") (F2 : Fld Z h0 a "java/util/ArrayList" "elementData" "[Ljava/lang/Object;" (.ref b)) (F3 : Fld Z h0 a "java/util/ArrayList" "size" "I" (.int n)) (R1 : Arh Z h0 b k (.object "java/lang/Object") 10 hs [] .null) (hgE : getH hs [] .null j.toNatClampNeg = .ref u) :
    ctr l Z (⟨"java/util/ArrayList", "elementData", "(I)Ljava/lang/Object;"⟩ : MethodName) jdk_38_method_18_code 2 (some (.object "java/lang/Object")) [] ({ frames := 0, cells := 0, slots := 0, locals := 0 } : Room) 0 0 #[(.ref a), (.int j)] h0 (fun v h L => v = some (.ref u) ∧ Fr n0 L ∧ h = h0) := by
  refine ctr_of (plainFor_of_name pn3) ?_
  intro p e s m below meth jc s₁ hx hby hml hret hlk hnm hown hZ e0 X0
  have N0 := Fr.nil n0
  have hg : ∀ (i : Nat) {d : Jvm.Cond}, tables_1[i]? = some d → d.before a0 Z = true := fun i d q => hw d (List.mem_of_getElem? q)
  refine Dn.cast (ef23_AI m a j) ?_
  show Dn p e below s _ _ _ (s₁.setTop (mkF m 0 #[(vA a), (vI j)] []))
  refine Dn.of (fun tt_ zz_ => XS.aloadN X0.here hx rfl (hb hby d23_0) rfl rfl zz_) ?_
  show Dn p e below s _ _ _ (s₁.setTop (mkF m 1 #[(vA a), (vI j)] [(.ref a)]))
  obtain ⟨T83, X83, e83, st83⟩ := getF X0 hx hZ hown (host := "") (Or.inl (hg 41 rfl)) Via.refl e0 F2 (g := (mkF m 1 #[(vA a), (vI j)] [(.ref a)])) rfl rfl (hb hby d23_1)
  refine Dn.of st83 ?_
  show Dn p e below s _ _ _ (T83.setTop (mkF m 4 #[(vA a), (vI j)] [(.ref b)]))
  refine Dn.of (fun tt_ zz_ => XS.iloadN X83.here hx rfl (hb hby d23_4) rfl zz_) ?_
  show Dn p e below s _ _ _ (T83.setTop (mkF m 5 #[(vA a), (vI j)] [(.int j), (.ref b)]))
  obtain ⟨c1, A_1, p1, S1, P1, H1, G_1⟩ := R1
  refine Dn.of (fun tt_ zz_ => X83.aaload hx (j := j) (v := (.ref u)) (by rw [e83]; exact A_1.1) (State.isArrayOf_alike hZ.alike A_1.2.1) rfl A_1.2.2 (inb_of S1 hj) (atH H1 (inb_of S1 hj) hgE) (g := (mkF m 5 #[(vA a), (vI j)] [(.int j), (.ref b)])) rfl rfl (hb hby d23_5) tt_ zz_) ?_
  show Dn p e below s _ _ _ (T83.setTop (mkF m 6 #[(vA a), (vI j)] [(.ref u)]))
  exact Dn.retA X83 hx hlk hret rfl rfl (hb hby d23_6) (by decide) (by decide) (⟨rfl, N0, e83⟩)
theorem ef20_AI (m : MethodId) (x0 : Addr) (x1 : Int32) : entryFrame m #[(.ref x0), (.int x1)] 2 = mkF m 0 #[(vA x0), (vI x1)] [] := by first | (simp [entryFrame, mkF, argsToLocals, Value.category]; done) | rfl
set_option maxRecDepth 65536 in
set_option maxHeartbeats 40000000 in
theorem rmGet (l : Launch) (Z : State) (a0 : Array Value) (hw : ∀ d ∈ tables_1, d.before a0 Z = true) (h0 : Heap) (n0 : Nat) (Z0 : n0 ≤ h0.size) (a b u : Addr) (k : ClassId) (hs : List (Int32 × Value)) (j n : Int32) (hj : ¬ j < 0 ∧ j < 10) (hn : j < n) (E0 : Exa Z h0 a "java/util/ArrayList") (F2 : Fld Z h0 a "java/util/ArrayList" "elementData" "[Ljava/lang/Object;" (.ref b)) (F3 : Fld Z h0 a "java/util/ArrayList" "size" "I" (.int n)) (R1 : Arh Z h0 b k (.object "java/lang/Object") 10 hs [] .null) (hgE : getH hs [] .null j.toNatClampNeg = .ref u) :
    ctr l Z (⟨"java/util/ArrayList", "get", "(I)Ljava/lang/Object;"⟩ : MethodName) jdk_38_method_20_code 2 (some (.object "java/lang/Object")) [] ({ frames := 2, cells := 0, slots := 0, locals := 36 } : Room) 0 0 #[(.ref a), (.int j)] h0 (fun v h L => v = some (.ref u) ∧ Fr n0 L ∧ h = h0) := by
  refine ctr_of (plainFor_of_name pn3) ?_
  intro p e s m below meth jc s₁ hx hby hml hret hlk hnm hown hZ e0 X0
  have N0 := Fr.nil n0
  have hg : ∀ (i : Nat) {d : Jvm.Cond}, tables_1[i]? = some d → d.before a0 Z = true := fun i d q => hw d (List.mem_of_getElem? q)
  refine Dn.cast (ef20_AI m a j) ?_
  show Dn p e below s _ _ _ (s₁.setTop (mkF m 0 #[(vA a), (vI j)] []))
  refine Dn.of (fun tt_ zz_ => XS.iloadN X0.here hx rfl (hb hby d20_0) rfl zz_) ?_
  refine Dn.of (fun tt_ zz_ => XS.aloadN X0.here hx rfl (hb hby d20_1) rfl rfl zz_) ?_
  show Dn p e below s _ _ _ (s₁.setTop (mkF m 2 #[(vA a), (vI j)] [(.ref a), (.int j)]))
  obtain ⟨T84, X84, e84, st84⟩ := getF X0 hx hZ hown (host := "") (Or.inl (hg 89 rfl)) Via.refl e0 F3 (g := (mkF m 2 #[(vA a), (vI j)] [(.ref a), (.int j)])) rfl rfl (hb hby d20_2)
  refine Dn.of st84 ?_
  show Dn p e below s _ _ _ (T84.setTop (mkF m 5 #[(vA a), (vI j)] [(.int n), (.int j)]))
  obtain ⟨v85, T85, L85, Q85, X85, st85⟩ := cSt X84 hx hZ (y := (⟨"java/util/Objects", "checkIndex", "(II)I"⟩ : MethodName)) hown (hg 159 rfl) (hg 160 rfl) (hg 161 rfl) (hg 162 rfl) (by decide) (argsL := [(.int j), (.int n)]) (rest := []) (rmCO l Z a0 hw h0 n0 Z0 j n hj.1 hn) e84  0 (by decide) (by decide) (by decide) (by decide) (g := (mkF m 5 #[(vA a), (vI j)] [(.int n), (.int j)])) rfl (by rw [hml]; rfl) (lenOf pd0 rfl) rfl (by show 2 * 0 + _ ≤ _; exact Nat.le_of_eq rfl) (hb hby d20_5)
  obtain ⟨rfl, M1, e85⟩ := Q85
  refine Dn.of st85 ?_
  show Dn p e below s _ _ _ (T85.setTop (mkF m 8 #[(vA a), (vI j)] [(.int j)]))
  refine Dn.of (fun tt_ zz_ => XS.pop X85.here hx rfl (hb hby d20_8) rfl rfl zz_) ?_
  refine Dn.of (fun tt_ zz_ => XS.aloadN X85.here hx rfl (hb hby d20_9) rfl rfl zz_) ?_
  refine Dn.of (fun tt_ zz_ => XS.iloadN X85.here hx rfl (hb hby d20_10) rfl zz_) ?_
  show Dn p e below s _ _ _ (T85.setTop (mkF m 11 #[(vA a), (vI j)] [(.int j), (.ref a)]))
  obtain ⟨v86, T86, L86, Q86, X86, st86⟩ := cVi X85 hx hZ (C := "java/util/ArrayList") (y := (⟨"java/util/ArrayList", "elementData", "(I)Ljava/lang/Object;"⟩ : MethodName)) (z := (⟨"java/util/ArrayList", "elementData", "(I)Ljava/lang/Object;"⟩ : MethodName)) hown (hg 167 rfl) (hg 168 rfl) (notFace_of_selects (args := #[]) (mvT hZ (hg 170 rfl))) (hg 170 rfl) (hg 169 rfl) (hg 19 rfl) (hg 171 rfl) (by decide) (a := a) (argsL := [(.int j)]) (rest := []) (rmEl l Z a0 hw h0 n0 Z0 a b u k hs j n hj hn E0 F2 F3 R1 hgE) e85 E0 0 (by decide) (by decide) (by decide) (by decide) (g := (mkF m 11 #[(vA a), (vI j)] [(.int j), (.ref a)])) rfl (by rw [hml]; rfl) (lenOf pd8 rfl) rfl (by show 2 * 0 + _ ≤ _; exact Nat.le_of_eq rfl) (hb hby d20_11)
  obtain ⟨rfl, M2, e86⟩ := Q86
  refine Dn.of st86 ?_
  show Dn p e below s _ _ _ (T86.setTop (mkF m 14 #[(vA a), (vI j)] [(.ref u)]))
  exact Dn.retA X86 hx hlk hret rfl rfl (hb hby d20_14) (by decide) (by decide) (⟨rfl, Fr.app (Fr.app N0 M1) M2, e86⟩)
abbrev own_QNI (i : Int32) (n0 : Nat) (h0 : Heap) (v : Option Value) (h : Heap) (L : List Loc) : Prop := (∃ r : Int32, v = some (.int r) ∧ own_nz i r) ∧ Fr n0 L ∧ h = h0
theorem ef29_I (m : MethodId) (x0 : Int32) : entryFrame m #[(.int x0)] 2 = mkF m 0 #[(vI x0), .unset] [] := by first | (simp [entryFrame, mkF, argsToLocals, Value.category]; done) | rfl
set_option maxRecDepth 65536 in
set_option maxHeartbeats 40000000 in
theorem rmNI (l : Launch) (Z : State) (a0 : Array Value) (hw : ∀ d ∈ tables_1, d.before a0 Z = true) (h0 : Heap) (n0 : Nat) (Z0 : n0 ≤ h0.size) (i : Int32) :
    ctr l Z (⟨"java/lang/Integer", "numberOfLeadingZeros", "(I)I"⟩ : MethodName) jdk_33_method_47_code 2 (some .int) [] ({ frames := 0, cells := 0, slots := 0, locals := 0 } : Room) 0 0 #[(.int i)] h0 (own_QNI i n0 h0) := by
  refine ctr_of (by decide +kernel) ?_
  intro p e s m below meth jc s₁ hx hby hml hret hlk hnm hown hZ e0 X0
  have N0 := Fr.nil n0
  have hg : ∀ (i : Nat) {d : Jvm.Cond}, tables_1[i]? = some d → d.before a0 Z = true := fun i d q => hw d (List.mem_of_getElem? q)
  refine Dn.cast (ef29_I m i) ?_
  show Dn p e below s _ _ _ (s₁.setTop (mkF m 0 #[(vI i), .unset] []))
  refine Dn.of (fun tt_ zz_ => XS.iloadN X0.here hx rfl (hb hby d29_0) rfl zz_) ?_
  show Dn p e below s (own_QNI i n0 h0) 0 0 (s₁.setTop (mkF m 1 #[(vI i), .unset] [(.int i)]))
  by_cases hq : (0 : Int32) < i
  · skip
    refine Dn.of (fun tt_ zz_ => XS.ifYes X0.here hx rfl (pc0 := 1) (pc' := 15) rfl (hb hby d29_1) rfl ((if0 _ _).trans (tlt hq).2.2.1) (by decide) (by decide) zz_) ?_
    show Dn p e below s (own_QNI i n0 h0) 0 0 (s₁.setTop (mkF m 15 #[(vI i), .unset] []))
    have hx0 : 0 < i.toInt := by have := Int32.lt_iff_toInt_lt.mp hq; rw [show (0 : Int32).toInt = 0 by decide] at this; exact this
    refine Dn.of (fun tt_ zz_ => XS.bipush X0.here hx rfl (hb hby d29_15) zz_) ?_
    refine Dn.of (fun tt_ zz_ => XS.istoreN X0.here hx rfl (hb hby d29_17) rfl (l' := #[(vI i), (vI (31 : Int32))]) rfl zz_) ?_
    refine Dn.of (fun tt_ zz_ => XS.iloadN X0.here hx rfl (hb hby d29_18) rfl zz_) ?_
    refine Dn.of (fun tt_ zz_ => X0.ldcWI hx hown (mvT hZ (hg 201 rfl)) rfl (hb hby d29_19) zz_) ?_
    show Dn p e below s (own_QNI i n0 h0) 0 0 (s₁.setTop (mkF m 22 #[(vI i), (vI (31 : Int32))] [(.int (65536 : Int32)), (.int i)]))
    have J0 := own_I0 hx0
    have K0 : ∀ (ci0 cn0 : Int32) (cs0 : Nat), own_I i ci0 cn0 cs0 65536 → cs0 ≤ 16 → Dn p e below s (own_QNI i n0 h0) 0 0 (s₁.setTop (mkF m 33 #[(vI ci0), (vI cn0)] [])) := by
      intro ci0 cn0 cs0 cI0 chs0
      show Dn p e below s (own_QNI i n0 h0) 0 0 (s₁.setTop (mkF m 33 #[(vI ci0), (vI cn0)] []))
      refine Dn.of (fun tt_ zz_ => XS.iloadN X0.here hx rfl (hb hby d29_33) rfl zz_) ?_
      refine Dn.of (fun tt_ zz_ => XS.sipush X0.here hx rfl (hb hby d29_34) zz_) ?_
      show Dn p e below s (own_QNI i n0 h0) 0 0 (s₁.setTop (mkF m 37 #[(vI ci0), (vI cn0)] [(.int (256 : Int32)), (.int ci0)]))
      have K1 : ∀ (ci1 cn1 : Int32) (cs1 : Nat), own_I i ci1 cn1 cs1 256 → cs1 ≤ 24 → Dn p e below s (own_QNI i n0 h0) 0 0 (s₁.setTop (mkF m 48 #[(vI ci1), (vI cn1)] [])) := by
        intro ci1 cn1 cs1 cI1 chs1
        show Dn p e below s (own_QNI i n0 h0) 0 0 (s₁.setTop (mkF m 48 #[(vI ci1), (vI cn1)] []))
        refine Dn.of (fun tt_ zz_ => XS.iloadN X0.here hx rfl (hb hby d29_48) rfl zz_) ?_
        refine Dn.of (fun tt_ zz_ => XS.bipush X0.here hx rfl (hb hby d29_49) zz_) ?_
        show Dn p e below s (own_QNI i n0 h0) 0 0 (s₁.setTop (mkF m 51 #[(vI ci1), (vI cn1)] [(.int (16 : Int32)), (.int ci1)]))
        have K2 : ∀ (ci2 cn2 : Int32) (cs2 : Nat), own_I i ci2 cn2 cs2 16 → cs2 ≤ 28 → Dn p e below s (own_QNI i n0 h0) 0 0 (s₁.setTop (mkF m 61 #[(vI ci2), (vI cn2)] [])) := by
          intro ci2 cn2 cs2 cI2 chs2
          show Dn p e below s (own_QNI i n0 h0) 0 0 (s₁.setTop (mkF m 61 #[(vI ci2), (vI cn2)] []))
          refine Dn.of (fun tt_ zz_ => XS.iloadN X0.here hx rfl (hb hby d29_61) rfl zz_) ?_
          refine Dn.of (fun tt_ zz_ => XS.iconst X0.here hx rfl (hb hby d29_62) zz_) ?_
          show Dn p e below s (own_QNI i n0 h0) 0 0 (s₁.setTop (mkF m 63 #[(vI ci2), (vI cn2)] [(.int (4 : Int32)), (.int ci2)]))
          have K3 : ∀ (ci3 cn3 : Int32) (cs3 : Nat), own_I i ci3 cn3 cs3 4 → cs3 ≤ 30 → Dn p e below s (own_QNI i n0 h0) 0 0 (s₁.setTop (mkF m 73 #[(vI ci3), (vI cn3)] [])) := by
            intro ci3 cn3 cs3 cI3 chs3
            show Dn p e below s (own_QNI i n0 h0) 0 0 (s₁.setTop (mkF m 73 #[(vI ci3), (vI cn3)] []))
            refine Dn.of (fun tt_ zz_ => XS.iloadN X0.here hx rfl (hb hby d29_73) rfl zz_) ?_
            refine Dn.of (fun tt_ zz_ => XS.iloadN X0.here hx rfl (hb hby d29_74) rfl zz_) ?_
            refine Dn.of (fun tt_ zz_ => XS.iconst X0.here hx rfl (hb hby d29_75) zz_) ?_
            refine Dn.of (fun tt_ zz_ => XS.iushr X0.here hx rfl (hb hby d29_76) rfl zz_) ?_
            show Dn p e below s (own_QNI i n0 h0) 0 0 (s₁.setTop (mkF m 77 #[(vI ci3), (vI cn3)] [(.int ((ci3.toUInt32 >>> ((1 : Int32) &&& 31).toUInt32).toInt32)), (.int cn3)]))
            refine Dn.of (fun tt_ zz_ => XS.isub X0.here hx rfl (hb hby d29_77) rfl zz_) ?_
            show Dn p e below s (own_QNI i n0 h0) 0 0 (s₁.setTop (mkF m 78 #[(vI ci3), (vI cn3)] [(.int (cn3 - ((ci3.toUInt32 >>> ((1 : Int32) &&& 31).toUInt32).toInt32)))]))
            exact Dn.retI X0 hx hlk hret (hb hby d29_78) (by decide) (by decide) (⟨⟨_, rfl, own_Iend cI3 (by decide) chs3 (Int.le_of_lt hx0)⟩, N0, e0⟩)
          by_cases hb3 : ci2 < (4 : Int32)
          · skip
            refine Dn.of (fun tt_ zz_ => XS.icmpYes X0.here hx rfl (pc0 := 63) (pc' := 73) rfl (hb hby d29_63) rfl (tlt hb3).1 (by decide) (by decide) zz_) ?_
            show Dn p e below s (own_QNI i n0 h0) 0 0 (s₁.setTop (mkF m 73 #[(vI ci2), (vI cn2)] []))
            exact K3 _ _ _ (own_Ikeep cI2 hb3) (by omega)
          · skip
            refine Dn.of (fun tt_ zz_ => XS.icmpNo X0.here hx rfl (hb hby d29_63) rfl (flt hb3).1 zz_) ?_
            show Dn p e below s (own_QNI i n0 h0) 0 0 (s₁.setTop (mkF m 66 #[(vI ci2), (vI cn2)] []))
            refine Dn.of (fun tt_ zz_ => XS.iinc X0.here hx rfl (hb hby d29_66) rfl (l' := #[(vI ci2), (vI (cn2 + (-2 : Int32)))]) rfl zz_) ?_
            refine Dn.of (fun tt_ zz_ => XS.iloadN X0.here hx rfl (hb hby d29_69) rfl zz_) ?_
            refine Dn.of (fun tt_ zz_ => XS.iconst X0.here hx rfl (hb hby d29_70) zz_) ?_
            refine Dn.of (fun tt_ zz_ => XS.iushr X0.here hx rfl (hb hby d29_71) rfl zz_) ?_
            show Dn p e below s (own_QNI i n0 h0) 0 0 (s₁.setTop (mkF m 72 #[(vI ci2), (vI (cn2 + (-2 : Int32)))] [(.int ((ci2.toUInt32 >>> ((2 : Int32) &&& 31).toUInt32).toInt32))]))
            refine Dn.of (fun tt_ zz_ => XS.istoreN X0.here hx rfl (hb hby d29_72) rfl (l' := #[(vI ((ci2.toUInt32 >>> ((2 : Int32) &&& 31).toUInt32).toInt32)), (vI (cn2 + (-2 : Int32)))]) rfl zz_) ?_
            show Dn p e below s (own_QNI i n0 h0) 0 0 (s₁.setTop (mkF m 73 #[(vI ((ci2.toUInt32 >>> ((2 : Int32) &&& 31).toUInt32).toInt32)), (vI (cn2 + (-2 : Int32)))] []))
            exact K3 _ _ _ (own_Istep cI2 (k := 2) (by decide) (by decide) (by decide) (by omega) (by decide)) (by omega)
        by_cases hb2 : ci1 < (16 : Int32)
        · skip
          refine Dn.of (fun tt_ zz_ => XS.icmpYes X0.here hx rfl (pc0 := 51) (pc' := 61) rfl (hb hby d29_51) rfl (tlt hb2).1 (by decide) (by decide) zz_) ?_
          show Dn p e below s (own_QNI i n0 h0) 0 0 (s₁.setTop (mkF m 61 #[(vI ci1), (vI cn1)] []))
          exact K2 _ _ _ (own_Ikeep cI1 hb2) (by omega)
        · skip
          refine Dn.of (fun tt_ zz_ => XS.icmpNo X0.here hx rfl (hb hby d29_51) rfl (flt hb2).1 zz_) ?_
          show Dn p e below s (own_QNI i n0 h0) 0 0 (s₁.setTop (mkF m 54 #[(vI ci1), (vI cn1)] []))
          refine Dn.of (fun tt_ zz_ => XS.iinc X0.here hx rfl (hb hby d29_54) rfl (l' := #[(vI ci1), (vI (cn1 + (-4 : Int32)))]) rfl zz_) ?_
          refine Dn.of (fun tt_ zz_ => XS.iloadN X0.here hx rfl (hb hby d29_57) rfl zz_) ?_
          refine Dn.of (fun tt_ zz_ => XS.iconst X0.here hx rfl (hb hby d29_58) zz_) ?_
          refine Dn.of (fun tt_ zz_ => XS.iushr X0.here hx rfl (hb hby d29_59) rfl zz_) ?_
          show Dn p e below s (own_QNI i n0 h0) 0 0 (s₁.setTop (mkF m 60 #[(vI ci1), (vI (cn1 + (-4 : Int32)))] [(.int ((ci1.toUInt32 >>> ((4 : Int32) &&& 31).toUInt32).toInt32))]))
          refine Dn.of (fun tt_ zz_ => XS.istoreN X0.here hx rfl (hb hby d29_60) rfl (l' := #[(vI ((ci1.toUInt32 >>> ((4 : Int32) &&& 31).toUInt32).toInt32)), (vI (cn1 + (-4 : Int32)))]) rfl zz_) ?_
          show Dn p e below s (own_QNI i n0 h0) 0 0 (s₁.setTop (mkF m 61 #[(vI ((ci1.toUInt32 >>> ((4 : Int32) &&& 31).toUInt32).toInt32)), (vI (cn1 + (-4 : Int32)))] []))
          exact K2 _ _ _ (own_Istep cI1 (k := 4) (by decide) (by decide) (by decide) (by omega) (by decide)) (by omega)
      by_cases hb1 : ci0 < (256 : Int32)
      · skip
        refine Dn.of (fun tt_ zz_ => XS.icmpYes X0.here hx rfl (pc0 := 37) (pc' := 48) rfl (hb hby d29_37) rfl (tlt hb1).1 (by decide) (by decide) zz_) ?_
        show Dn p e below s (own_QNI i n0 h0) 0 0 (s₁.setTop (mkF m 48 #[(vI ci0), (vI cn0)] []))
        exact K1 _ _ _ (own_Ikeep cI0 hb1) (by omega)
      · skip
        refine Dn.of (fun tt_ zz_ => XS.icmpNo X0.here hx rfl (hb hby d29_37) rfl (flt hb1).1 zz_) ?_
        show Dn p e below s (own_QNI i n0 h0) 0 0 (s₁.setTop (mkF m 40 #[(vI ci0), (vI cn0)] []))
        refine Dn.of (fun tt_ zz_ => XS.iinc X0.here hx rfl (hb hby d29_40) rfl (l' := #[(vI ci0), (vI (cn0 + (-8 : Int32)))]) rfl zz_) ?_
        refine Dn.of (fun tt_ zz_ => XS.iloadN X0.here hx rfl (hb hby d29_43) rfl zz_) ?_
        refine Dn.of (fun tt_ zz_ => XS.bipush X0.here hx rfl (hb hby d29_44) zz_) ?_
        refine Dn.of (fun tt_ zz_ => XS.iushr X0.here hx rfl (hb hby d29_46) rfl zz_) ?_
        show Dn p e below s (own_QNI i n0 h0) 0 0 (s₁.setTop (mkF m 47 #[(vI ci0), (vI (cn0 + (-8 : Int32)))] [(.int ((ci0.toUInt32 >>> ((8 : Int32) &&& 31).toUInt32).toInt32))]))
        refine Dn.of (fun tt_ zz_ => XS.istoreN X0.here hx rfl (hb hby d29_47) rfl (l' := #[(vI ((ci0.toUInt32 >>> ((8 : Int32) &&& 31).toUInt32).toInt32)), (vI (cn0 + (-8 : Int32)))]) rfl zz_) ?_
        show Dn p e below s (own_QNI i n0 h0) 0 0 (s₁.setTop (mkF m 48 #[(vI ((ci0.toUInt32 >>> ((8 : Int32) &&& 31).toUInt32).toInt32)), (vI (cn0 + (-8 : Int32)))] []))
        exact K1 _ _ _ (own_Istep cI0 (k := 8) (by decide) (by decide) (by decide) (by omega) (by decide)) (by omega)
    by_cases hb0 : i < (65536 : Int32)
    · skip
      refine Dn.of (fun tt_ zz_ => XS.icmpYes X0.here hx rfl (pc0 := 22) (pc' := 33) rfl (hb hby d29_22) rfl (tlt hb0).1 (by decide) (by decide) zz_) ?_
      show Dn p e below s (own_QNI i n0 h0) 0 0 (s₁.setTop (mkF m 33 #[(vI i), (vI (31 : Int32))] []))
      exact K0 _ _ _ (own_Ikeep J0 hb0) (by decide)
    · skip
      refine Dn.of (fun tt_ zz_ => XS.icmpNo X0.here hx rfl (hb hby d29_22) rfl (flt hb0).1 zz_) ?_
      show Dn p e below s (own_QNI i n0 h0) 0 0 (s₁.setTop (mkF m 25 #[(vI i), (vI (31 : Int32))] []))
      refine Dn.of (fun tt_ zz_ => XS.iinc X0.here hx rfl (hb hby d29_25) rfl (l' := #[(vI i), (vI ((31 : Int32) + (-16 : Int32)))]) rfl zz_) ?_
      refine Dn.of (fun tt_ zz_ => XS.iloadN X0.here hx rfl (hb hby d29_28) rfl zz_) ?_
      refine Dn.of (fun tt_ zz_ => XS.bipush X0.here hx rfl (hb hby d29_29) zz_) ?_
      refine Dn.of (fun tt_ zz_ => XS.iushr X0.here hx rfl (hb hby d29_31) rfl zz_) ?_
      show Dn p e below s (own_QNI i n0 h0) 0 0 (s₁.setTop (mkF m 32 #[(vI i), (vI ((31 : Int32) + (-16 : Int32)))] [(.int ((i.toUInt32 >>> ((16 : Int32) &&& 31).toUInt32).toInt32))]))
      refine Dn.of (fun tt_ zz_ => XS.istoreN X0.here hx rfl (hb hby d29_32) rfl (l' := #[(vI ((i.toUInt32 >>> ((16 : Int32) &&& 31).toUInt32).toInt32)), (vI ((31 : Int32) + (-16 : Int32)))]) rfl zz_) ?_
      show Dn p e below s (own_QNI i n0 h0) 0 0 (s₁.setTop (mkF m 33 #[(vI ((i.toUInt32 >>> ((16 : Int32) &&& 31).toUInt32).toInt32)), (vI ((31 : Int32) + (-16 : Int32)))] []))
      exact K0 _ _ _ (own_Istep J0 (k := 16) (by decide) (by decide) (by decide) (by decide) (by decide)) (by decide)
  · skip
    refine Dn.of (fun tt_ zz_ => XS.ifNo X0.here hx rfl (hb hby d29_1) rfl ((if0 _ _).trans (flt hq).2.2.1) zz_) ?_
    show Dn p e below s (own_QNI i n0 h0) 0 0 (s₁.setTop (mkF m 4 #[(vI i), .unset] []))
    refine Dn.of (fun tt_ zz_ => XS.iloadN X0.here hx rfl (hb hby d29_4) rfl zz_) ?_
    show Dn p e below s (own_QNI i n0 h0) 0 0 (s₁.setTop (mkF m 5 #[(vI i), .unset] [(.int i)]))
    by_cases hz : i = (0 : Int32)
    · skip
      refine Dn.of (fun tt_ zz_ => XS.ifNo X0.here hx rfl (hb hby d29_5) rfl ((if0 _ _).trans (teq hz).2) zz_) ?_
      show Dn p e below s (own_QNI i n0 h0) 0 0 (s₁.setTop (mkF m 8 #[(vI i), .unset] []))
      refine Dn.of (fun tt_ zz_ => XS.bipush X0.here hx rfl (hb hby d29_8) zz_) ?_
      refine Dn.of (fun tt_ zz_ => XS.goto X0.here hx rfl (pc0 := 10) (pc' := 14) rfl (hb hby d29_10) (by decide) (by decide) zz_) ?_
      show Dn p e below s (own_QNI i n0 h0) 0 0 (s₁.setTop (mkF m 14 #[(vI i), .unset] [(.int (32 : Int32))]))
      exact Dn.retI X0 hx hlk hret (hb hby d29_14) (by decide) (by decide) (⟨⟨_, rfl, hz ▸ own_nz0⟩, N0, e0⟩)
    · skip
      refine Dn.of (fun tt_ zz_ => XS.ifYes X0.here hx rfl (pc0 := 5) (pc' := 13) rfl (hb hby d29_5) rfl ((if0 _ _).trans (feq hz).2) (by decide) (by decide) zz_) ?_
      show Dn p e below s (own_QNI i n0 h0) 0 0 (s₁.setTop (mkF m 13 #[(vI i), .unset] []))
      refine Dn.of (fun tt_ zz_ => XS.iconst X0.here hx rfl (hb hby d29_13) zz_) ?_
      show Dn p e below s (own_QNI i n0 h0) 0 0 (s₁.setTop (mkF m 14 #[(vI i), .unset] [(.int (0 : Int32))]))
      exact Dn.retI X0 hx hlk hret (hb hby d29_14) (by decide) (by decide) (⟨⟨_, rfl, own_nzn⟩, N0, e0⟩)
theorem ef28_J (m : MethodId) (x0 : Int64) : entryFrame m #[(.long x0)] 3 = mkF m 0 #[(vJ x0), .second, .unset] [] := by first | (simp [entryFrame, mkF, argsToLocals, Value.category]; done) | rfl
set_option maxRecDepth 65536 in
set_option maxHeartbeats 40000000 in
theorem rmNL (l : Launch) (Z : State) (a0 : Array Value) (hw : ∀ d ∈ tables_1, d.before a0 Z = true) (h0 : Heap) (n0 : Nat) (Z0 : n0 ≤ h0.size) (x : Int64) (h1 : 0 ≤ x.toInt) (h2 : x.toInt < 4294967296) :
    ctr l Z (⟨"java/lang/Long", "numberOfLeadingZeros", "(J)I"⟩ : MethodName) jdk_35_method_48_code 3 (some .int) [] ({ frames := 1, cells := 0, slots := 0, locals := 16 } : Room) 0 0 #[(.long x)] h0 (fun v h L => (∃ r : Int32, v = some (.int ((32 : Int32) + r)) ∧ own_nz x.toInt32 r) ∧ Fr n0 L ∧ h = h0) := by
  refine ctr_of (by decide +kernel) ?_
  intro p e s m below meth jc s₁ hx hby hml hret hlk hnm hown hZ e0 X0
  have N0 := Fr.nil n0
  have hg : ∀ (i : Nat) {d : Jvm.Cond}, tables_1[i]? = some d → d.before a0 Z = true := fun i d q => hw d (List.mem_of_getElem? q)
  refine Dn.cast (ef28_J m x) ?_
  show Dn p e below s _ _ _ (s₁.setTop (mkF m 0 #[(vJ x), .second, .unset] []))
  refine Dn.of (fun tt_ zz_ => XS.lloadN X0.here hx rfl (hb hby d28_0) rfl zz_) ?_
  refine Dn.of (fun tt_ zz_ => XS.bipush X0.here hx rfl (hb hby d28_1) zz_) ?_
  refine Dn.of (fun tt_ zz_ => XS.lushr X0.here hx rfl (hb hby d28_3) rfl zz_) ?_
  refine Dn.of (fun tt_ zz_ => XS.l2i X0.here hx rfl (hb hby d28_4) rfl zz_) ?_
  show Dn p e below s _ _ _ (s₁.setTop (mkF m 5 #[(vJ x), .second, .unset] [(.int (((x.toUInt64 >>> ((32 : Int32) &&& 0x3f).toInt64.toUInt64).toInt64).toInt32))]))
  refine Dn.of (fun tt_ zz_ => XS.istoreN X0.here hx rfl (hb hby d28_5) rfl (l' := #[(vJ x), .second, (vI (((x.toUInt64 >>> ((32 : Int32) &&& 0x3f).toInt64.toUInt64).toInt64).toInt32))]) rfl zz_) ?_
  refine Dn.of (fun tt_ zz_ => XS.iloadN X0.here hx rfl (hb hby d28_6) rfl zz_) ?_
  show Dn p e below s _ _ _ (s₁.setTop (mkF m 7 #[(vJ x), .second, (vI (((x.toUInt64 >>> ((32 : Int32) &&& 0x3f).toInt64.toUInt64).toInt64).toInt32))] [(.int (((x.toUInt64 >>> ((32 : Int32) &&& 0x3f).toInt64.toUInt64).toInt64).toInt32))]))
  refine Dn.of (fun tt_ zz_ => XS.ifNo X0.here hx rfl (hb hby d28_7) rfl ((if0 _ _).trans (teq (own_hi0 h1 h2)).2) zz_) ?_
  show Dn p e below s _ _ _ (s₁.setTop (mkF m 10 #[(vJ x), .second, (vI (((x.toUInt64 >>> ((32 : Int32) &&& 0x3f).toInt64.toUInt64).toInt64).toInt32))] []))
  refine Dn.of (fun tt_ zz_ => XS.bipush X0.here hx rfl (hb hby d28_10) zz_) ?_
  refine Dn.of (fun tt_ zz_ => XS.lloadN X0.here hx rfl (hb hby d28_12) rfl zz_) ?_
  refine Dn.of (fun tt_ zz_ => XS.l2i X0.here hx rfl (hb hby d28_13) rfl zz_) ?_
  show Dn p e below s _ _ _ (s₁.setTop (mkF m 14 #[(vJ x), .second, (vI (((x.toUInt64 >>> ((32 : Int32) &&& 0x3f).toInt64.toUInt64).toInt64).toInt32))] [(.int (x.toInt32)), (.int (32 : Int32))]))
  obtain ⟨v87, T87, L87, Q87, X87, st87⟩ := cSt X0 hx hZ (y := (⟨"java/lang/Integer", "numberOfLeadingZeros", "(I)I"⟩ : MethodName)) hown (hg 197 rfl) (hg 198 rfl) (hg 199 rfl) (hg 200 rfl) (by decide) (argsL := [(.int (x.toInt32))]) (rest := [(.int (32 : Int32))]) (rmNI l Z a0 hw h0 n0 Z0 x.toInt32) e0  1 (by decide) (by decide) (by decide) (by decide) (g := (mkF m 14 #[(vJ x), .second, (vI (((x.toUInt64 >>> ((32 : Int32) &&& 0x3f).toInt64.toUInt64).toInt64).toInt32))] [(.int (x.toInt32)), (.int (32 : Int32))])) rfl (by rw [hml]; rfl) (lenOf pd9 rfl) rfl (by show 2 * 0 + _ ≤ _; exact Nat.le_of_eq rfl) (hb hby d28_14)
  obtain ⟨⟨r, rfl, hr⟩, M1, e87⟩ := Q87
  refine Dn.of st87 ?_
  show Dn p e below s _ _ _ (T87.setTop (mkF m 17 #[(vJ x), .second, (vI (((x.toUInt64 >>> ((32 : Int32) &&& 0x3f).toInt64.toUInt64).toInt64).toInt32))] [(.int r), (.int (32 : Int32))]))
  refine Dn.of (fun tt_ zz_ => XS.iadd X87.here hx rfl (hb hby d28_17) rfl zz_) ?_
  refine Dn.of (fun tt_ zz_ => XS.goto X87.here hx rfl (pc0 := 18) (pc' := 25) rfl (hb hby d28_18) (by decide) (by decide) zz_) ?_
  show Dn p e below s _ _ _ (T87.setTop (mkF m 25 #[(vJ x), .second, (vI (((x.toUInt64 >>> ((32 : Int32) &&& 0x3f).toInt64.toUInt64).toInt64).toInt32))] [(.int ((32 : Int32) + r))]))
  exact Dn.retI X87 hx hlk hret (hb hby d28_25) (by decide) (by decide) (⟨⟨r, rfl, hr⟩, Fr.app N0 M1, e87⟩)
def own_S (ty aDb : Addr) (lo up : Int32) : Int := if ty = aDb then 2147483647 else up.toInt - lo.toInt
theorem ef24_A (m : MethodId) (x0 : Addr) : entryFrame m #[(.ref x0)] 3 = mkF m 0 #[(vA x0), .unset, .unset] [] := by first | (simp [entryFrame, mkF, argsToLocals, Value.category]; done) | rfl
set_option maxRecDepth 65536 in
set_option maxHeartbeats 40000000 in
theorem rmBO (l : Launch) (Z : State) (a0 : Array Value) (hw : ∀ d ∈ tables_1, d.before a0 Z = true) (h0 : Heap) (n0 : Nat) (Z0 : n0 ≤ h0.size) (u ty aDb : Addr) (lo up : Int32) (hle : lo.toInt ≤ up.toInt) (SDb : Sta Z Z.heap "com/example/verify_markov_chains/verifymarkovchains/expression/Type" "DOUBLE" "Lcom/example/verify_markov_chains/verifymarkovchains/expression/Type;" (.ref aDb)) (O0 : Old Z n0 h0) (V0 : own_Var Z h0 u ty lo up) :
    ctr l Z (⟨"com/example/verify_markov_chains/verifymarkovchains/explicit/StateLayout", "bitsOf", "(Lcom/example/verify_markov_chains/verifymarkovchains/model/Variable;)I"⟩ : MethodName) prog_51_method_2_code 3 (some .int) [] ({ frames := 2, cells := 0, slots := 0, locals := 36 } : Room) 0 0 #[(.ref u)] h0 (fun v h L => (∃ r : Int32, v = some (.int r) ∧ own_P (own_S ty aDb lo up) r) ∧ Fr n0 L ∧ h = h0) := by
  refine ctr_of (plainFor_of_name pn7) ?_
  intro p e s m below meth jc s₁ hx hby hml hret hlk hnm hown hZ e0 X0
  have N0 := Fr.nil n0
  have hg : ∀ (i : Nat) {d : Jvm.Cond}, tables_1[i]? = some d → d.before a0 Z = true := fun i d q => hw d (List.mem_of_getElem? q)
  refine Dn.cast (ef24_A m u) ?_
  show Dn p e below s _ _ _ (s₁.setTop (mkF m 0 #[(vA u), .unset, .unset] []))
  refine Dn.of (fun tt_ zz_ => XS.aloadN X0.here hx rfl (hb hby d24_0) rfl rfl zz_) ?_
  show Dn p e below s _ _ _ (s₁.setTop (mkF m 1 #[(vA u), .unset, .unset] [(.ref u)]))
  obtain ⟨v88, T88, L88, Q88, X88, st88⟩ := cVi X0 hx hZ (C := "com/example/verify_markov_chains/verifymarkovchains/model/Variable") (y := (⟨"com/example/verify_markov_chains/verifymarkovchains/model/Variable", "getType", "()Lcom/example/verify_markov_chains/verifymarkovchains/expression/Type;"⟩ : MethodName)) (z := (⟨"com/example/verify_markov_chains/verifymarkovchains/model/Variable", "getType", "()Lcom/example/verify_markov_chains/verifymarkovchains/expression/Type;"⟩ : MethodName)) hown (hg 177 rfl) (hg 178 rfl) (notFace_of_selects (args := #[]) (mvT hZ (hg 180 rfl))) (hg 180 rfl) (hg 179 rfl) (hg 53 rfl) (hg 181 rfl) (by decide) (a := u) (argsL := []) (rest := []) (rm_getType l Z a0 hw h0 n0 Z0 u ty lo up V0) e0 V0.1 0 (by decide) (by decide) (by decide) (by decide) (g := (mkF m 1 #[(vA u), .unset, .unset] [(.ref u)])) rfl (by rw [hml]; rfl) (lenOf pd10 rfl) rfl (by show 2 * 0 + _ ≤ _; exact Nat.le_of_eq rfl) (hb hby d24_1)
  obtain ⟨rfl, M1, e88⟩ := Q88
  refine Dn.of st88 ?_
  show Dn p e below s _ _ _ (T88.setTop (mkF m 4 #[(vA u), .unset, .unset] [(.ref ty)]))
  obtain ⟨T89, X89, e89, st89⟩ := getS2 X88 hx hZ hown (host := "") (Or.inl (hg 182 rfl)) Via.refl e88 (SDb.ext O0.2) (g := (mkF m 4 #[(vA u), .unset, .unset] [(.ref ty)])) rfl (hb hby d24_4)
  refine Dn.of st89 ?_
  show Dn p e below s _ _ _ (T89.setTop (mkF m 7 #[(vA u), .unset, .unset] [(.ref aDb), (.ref ty)]))
  by_cases hq : ty = aDb
  · skip
    refine Dn.of (fun tt_ zz_ => Jvm.RoadKit.acmp (g := (mkF m 7 #[(vA u), .unset, .unset] [(.ref aDb), (.ref ty)])) X89 hx rfl rfl rfl (pc0 := 7) (pc' := 10) (same := true) rfl (hb hby d24_7) rfl (decide_eq_true (by rw [hq])) (by decide) (by decide) zz_) ?_
    show Dn p e below s _ _ _ (T89.setTop (mkF m 10 #[(vA u), .unset, .unset] []))
    refine Dn.of (fun tt_ zz_ => XS.bipush X89.here hx rfl (hb hby d24_10) zz_) ?_
    show Dn p e below s _ _ _ (T89.setTop (mkF m 12 #[(vA u), .unset, .unset] [(.int (31 : Int32))]))
    exact Dn.retI X89 hx hlk hret (hb hby d24_12) (by decide) (by decide) (⟨⟨_, rfl, by unfold own_S; rw [if_pos hq]; exact own_p31⟩, Fr.app N0 M1, e89⟩)
  · skip
    refine Dn.of (fun tt_ zz_ => Jvm.RoadKit.acmp (g := (mkF m 7 #[(vA u), .unset, .unset] [(.ref aDb), (.ref ty)])) X89 hx rfl rfl rfl (pc0 := 7) (pc' := 13) (same := false) rfl (hb hby d24_7) rfl (decide_eq_false (fun y => hq (by cases y; rfl))) (by decide) (by decide) zz_) ?_
    show Dn p e below s _ _ _ (T89.setTop (mkF m 13 #[(vA u), .unset, .unset] []))
    refine Dn.of (fun tt_ zz_ => XS.aloadN X89.here hx rfl (hb hby d24_13) rfl rfl zz_) ?_
    show Dn p e below s _ _ _ (T89.setTop (mkF m 14 #[(vA u), .unset, .unset] [(.ref u)]))
    obtain ⟨v90, T90, L90, Q90, X90, st90⟩ := cVi X89 hx hZ (C := "com/example/verify_markov_chains/verifymarkovchains/model/Variable") (y := (⟨"com/example/verify_markov_chains/verifymarkovchains/model/Variable", "getUpper", "()I"⟩ : MethodName)) (z := (⟨"com/example/verify_markov_chains/verifymarkovchains/model/Variable", "getUpper", "()I"⟩ : MethodName)) hown (hg 183 rfl) (hg 184 rfl) (notFace_of_selects (args := #[]) (mvT hZ (hg 186 rfl))) (hg 186 rfl) (hg 185 rfl) (hg 53 rfl) (hg 187 rfl) (by decide) (a := u) (argsL := []) (rest := []) (rm_getUpper l Z a0 hw h0 n0 Z0 u ty lo up V0) e89 V0.1 0 (by decide) (by decide) (by decide) (by decide) (g := (mkF m 14 #[(vA u), .unset, .unset] [(.ref u)])) rfl (by rw [hml]; rfl) (lenOf pd11 rfl) rfl (by show 2 * 0 + _ ≤ _; exact Nat.le_of_eq rfl) (hb hby d24_14)
    obtain ⟨rfl, M2, e90⟩ := Q90
    refine Dn.of st90 ?_
    show Dn p e below s _ _ _ (T90.setTop (mkF m 17 #[(vA u), .unset, .unset] [(.int up)]))
    refine Dn.of (fun tt_ zz_ => XS.i2l X90.here hx rfl (hb hby d24_17) rfl zz_) ?_
    refine Dn.of (fun tt_ zz_ => XS.aloadN X90.here hx rfl (hb hby d24_18) rfl rfl zz_) ?_
    show Dn p e below s _ _ _ (T90.setTop (mkF m 19 #[(vA u), .unset, .unset] [(.ref u), (.long (up.toInt64))]))
    obtain ⟨v91, T91, L91, Q91, X91, st91⟩ := cVi X90 hx hZ (C := "com/example/verify_markov_chains/verifymarkovchains/model/Variable") (y := (⟨"com/example/verify_markov_chains/verifymarkovchains/model/Variable", "getLower", "()I"⟩ : MethodName)) (z := (⟨"com/example/verify_markov_chains/verifymarkovchains/model/Variable", "getLower", "()I"⟩ : MethodName)) hown (hg 188 rfl) (hg 189 rfl) (notFace_of_selects (args := #[]) (mvT hZ (hg 191 rfl))) (hg 191 rfl) (hg 190 rfl) (hg 53 rfl) (hg 192 rfl) (by decide) (a := u) (argsL := []) (rest := [(.long (up.toInt64))]) (rm_getLower l Z a0 hw h0 n0 Z0 u ty lo up V0) e90 V0.1 2 (by decide) (by decide) (by decide) (by decide) (g := (mkF m 19 #[(vA u), .unset, .unset] [(.ref u), (.long (up.toInt64))])) rfl (by rw [hml]; rfl) (lenOf pd11 rfl) rfl (by show 2 * 0 + _ ≤ _; exact Nat.le_of_eq rfl) (hb hby d24_19)
    obtain ⟨rfl, M3, e91⟩ := Q91
    refine Dn.of st91 ?_
    show Dn p e below s _ _ _ (T91.setTop (mkF m 22 #[(vA u), .unset, .unset] [(.int lo), (.long (up.toInt64))]))
    refine Dn.of (fun tt_ zz_ => XS.i2l X91.here hx rfl (hb hby d24_22) rfl zz_) ?_
    refine Dn.of (fun tt_ zz_ => XS.lsub X91.here hx rfl (hb hby d24_23) rfl zz_) ?_
    refine Dn.of (fun tt_ zz_ => XS.lstoreN X91.here hx rfl (hb hby d24_24) rfl (l' := #[(vA u), (vJ ((up.toInt64) - (lo.toInt64))), .second]) rfl zz_) ?_
    refine Dn.of (fun tt_ zz_ => XS.bipush X91.here hx rfl (hb hby d24_25) zz_) ?_
    show Dn p e below s _ _ _ (T91.setTop (mkF m 27 #[(vA u), (vJ ((up.toInt64) - (lo.toInt64))), .second] [(.int (64 : Int32))]))
    refine Dn.of (fun tt_ zz_ => XS.lloadN X91.here hx rfl (hb hby d24_27) rfl zz_) ?_
    show Dn p e below s _ _ _ (T91.setTop (mkF m 28 #[(vA u), (vJ ((up.toInt64) - (lo.toInt64))), .second] [(.long ((up.toInt64) - (lo.toInt64))), (.int (64 : Int32))]))
    have hS_ := own_sp hle
    obtain ⟨v92, T92, L92, Q92, X92, st92⟩ := cSt X91 hx hZ (y := (⟨"java/lang/Long", "numberOfLeadingZeros", "(J)I"⟩ : MethodName)) hown (hg 193 rfl) (hg 194 rfl) (hg 195 rfl) (hg 196 rfl) (by decide) (argsL := [(.long ((up.toInt64) - (lo.toInt64)))]) (rest := [(.int (64 : Int32))]) (rmNL l Z a0 hw h0 n0 Z0 (up.toInt64 - lo.toInt64) hS_.2.1 hS_.2.2) e91  1 (by decide) (by decide) (by decide) (by decide) (g := (mkF m 28 #[(vA u), (vJ ((up.toInt64) - (lo.toInt64))), .second] [(.long ((up.toInt64) - (lo.toInt64))), (.int (64 : Int32))])) rfl (by rw [hml]; rfl) (lenOf pd12 rfl) rfl (by show 2 * 0 + _ ≤ _; exact Nat.le_of_eq rfl) (hb hby d24_28)
    obtain ⟨⟨r, rfl, hr⟩, M4, e92⟩ := Q92
    refine Dn.of st92 ?_
    show Dn p e below s _ _ _ (T92.setTop (mkF m 31 #[(vA u), (vJ ((up.toInt64) - (lo.toInt64))), .second] [(.int ((32 : Int32) + r)), (.int (64 : Int32))]))
    refine Dn.of (fun tt_ zz_ => XS.isub X92.here hx rfl (hb hby d24_31) rfl zz_) ?_
    show Dn p e below s _ _ _ (T92.setTop (mkF m 32 #[(vA u), (vJ ((up.toInt64) - (lo.toInt64))), .second] [(.int ((64 : Int32) - ((32 : Int32) + r)))]))
    exact Dn.retI X92 hx hlk hret (hb hby d24_32) (by decide) (by decide) (⟨⟨_, rfl, by unfold own_S; rw [if_neg hq, ← hS_.1]; exact own_bits hS_.2.1 hS_.2.2 hr⟩, Fr.app (Fr.app (Fr.app (Fr.app N0 M1) M2) M3) M4, e92⟩)
abbrev own_QSL (Z : State) (n0 : Nat) (h0 : Heap) (a t0 t1 t2 aDb : Addr) (l0 l1 l2 p0 p1 p2 : Int32) (v : Option Value) (h : Heap) (L : List Loc) : Prop := v = none ∧ Fr n0 L ∧ Keep h0 h [a] ∧ ∃ (bw bs bm bl : Addr) (kw ks km kl : ClassId) (b0 b1 b2 w2 wc s2 : Int32), own_P (own_S t0 aDb l0 p0) b0 ∧ own_P (own_S t1 aDb l1 p1) b1 ∧ own_P (own_S t2 aDb l2 p2) b2 ∧ ((w2 = 0 ∧ wc = 1 ∧ s2 = b0 + b1 ∧ ¬ (64 : Int32) < (b0 + b1) + b2) ∨ (w2 = 1 ∧ wc = 2 ∧ s2 = 0)) ∧ Fld Z h a "com/example/verify_markov_chains/verifymarkovchains/explicit/StateLayout" "words" "[I" (.ref bw) ∧ Fld Z h a "com/example/verify_markov_chains/verifymarkovchains/explicit/StateLayout" "shifts" "[I" (.ref bs) ∧ Fld Z h a "com/example/verify_markov_chains/verifymarkovchains/explicit/StateLayout" "masks" "[J" (.ref bm) ∧ Fld Z h a "com/example/verify_markov_chains/verifymarkovchains/explicit/StateLayout" "lowers" "[I" (.ref bl) ∧ Fld Z h a "com/example/verify_markov_chains/verifymarkovchains/explicit/StateLayout" "wordCount" "I" (.int wc) ∧ Arh Z h bw kw .int 3 [((2 : Int32), .int w2), ((1 : Int32), .int (0 : Int32)), ((0 : Int32), .int (0 : Int32))] [] (.int 0) ∧ Arh Z h bs ks .int 3 [((2 : Int32), .int s2), ((1 : Int32), .int b0), ((0 : Int32), .int (0 : Int32))] [] (.int 0) ∧ Arh Z h bm km .long 3 [((2 : Int32), .long (own_mask b2)), ((1 : Int32), .long (own_mask b1)), ((0 : Int32), .long (own_mask b0))] [] (.long 0) ∧ Arh Z h bl kl .int 3 [((2 : Int32), .int l2), ((1 : Int32), .int l1), ((0 : Int32), .int l0)] [] (.int 0)
theorem ef18_AA (m : MethodId) (x0 : Addr) (x1 : Addr) : entryFrame m #[(.ref x0), (.ref x1)] 9 = mkF m 0 #[(vA x0), (vA x1), .unset, .unset, .unset, .unset, .unset, .unset, .unset] [] := by first | (simp [entryFrame, mkF, argsToLocals, Value.category]; done) | rfl
set_option maxRecDepth 65536 in
set_option maxHeartbeats 40000000 in
theorem rmSL (l : Launch) (Z : State) (a0 : Array Value) (hw : ∀ d ∈ tables_1, d.before a0 Z = true) (h0 : Heap) (n0 : Nat) (Z0 : n0 ≤ h0.size) (a ls bE u0 u1 u2 t0 t1 t2 aDb : Addr) (k : ClassId) (l0 l1 l2 p0 p1 p2 : Int32) (c0 : l0.toInt ≤ p0.toInt) (c1 : l1.toInt ≤ p1.toInt) (c2 : l2.toInt ≤ p2.toInt) (SDb : Sta Z Z.heap "com/example/verify_markov_chains/verifymarkovchains/expression/Type" "DOUBLE" "Lcom/example/verify_markov_chains/verifymarkovchains/expression/Type;" (.ref aDb)) (O0 : Old Z n0 h0) (E0 : Exa Z h0 a "com/example/verify_markov_chains/verifymarkovchains/explicit/StateLayout") (F0 : Fld Z h0 a "com/example/verify_markov_chains/verifymarkovchains/explicit/StateLayout" "words" "[I" .null) (F1 : Fld Z h0 a "com/example/verify_markov_chains/verifymarkovchains/explicit/StateLayout" "shifts" "[I" .null) (F2 : Fld Z h0 a "com/example/verify_markov_chains/verifymarkovchains/explicit/StateLayout" "masks" "[J" .null) (F3 : Fld Z h0 a "com/example/verify_markov_chains/verifymarkovchains/explicit/StateLayout" "lowers" "[I" .null) (F4 : Fld Z h0 a "com/example/verify_markov_chains/verifymarkovchains/explicit/StateLayout" "wordCount" "I" (.int (0 : Int32))) (EL : Exa Z h0 ls "java/util/ArrayList") (LS : Fld Z h0 ls "java/util/ArrayList" "size" "I" (.int (3 : Int32))) (LE : Fld Z h0 ls "java/util/ArrayList" "elementData" "[Ljava/lang/Object;" (.ref bE)) (RE : Arh Z h0 bE k (.object "java/lang/Object") 10 [((2 : Int32), .ref u2), ((1 : Int32), .ref u1), ((0 : Int32), .ref u0)] [] .null) (V0 : own_Var Z h0 u0 t0 l0 p0) (V1 : own_Var Z h0 u1 t1 l1 p1) (V2 : own_Var Z h0 u2 t2 l2 p2) (d0 : ls ≠ a) (d1 : bE ≠ a) (d2 : u0 ≠ a) (d3 : u1 ≠ a) (d4 : u2 ≠ a) (g0 : n0 ≤ a) :
    ctr l Z (⟨"com/example/verify_markov_chains/verifymarkovchains/explicit/StateLayout", "<init>", "(Ljava/util/List;)V"⟩ : MethodName) prog_51_method_1_code 9 none [] ({ frames := 3, cells := 5, slots := 64, locals := 64 } : Room) 5 64 #[(.ref a), (.ref ls)] h0 (own_QSL Z n0 h0 a t0 t1 t2 aDb l0 l1 l2 p0 p1 p2) := by
  refine ctr_of (plainFor_of_name pn7) ?_
  intro p e s m below meth jc s₁ hx hby hml hret hlk hnm hown hZ e0 X0
  have N0 := Fr.nil n0
  have hg : ∀ (i : Nat) {d : Jvm.Cond}, tables_1[i]? = some d → d.before a0 Z = true := fun i d q => hw d (List.mem_of_getElem? q)
  refine Dn.cast (ef18_AA m a ls) ?_
  show Dn p e below s _ _ _ (s₁.setTop (mkF m 0 #[(vA a), (vA ls), .unset, .unset, .unset, .unset, .unset, .unset, .unset] []))
  have s0_1 : Jvm.RoadKit.slotOf Z "com/example/verify_markov_chains/verifymarkovchains/explicit/StateLayout" "words" "[I" ≠ Jvm.RoadKit.slotOf Z "com/example/verify_markov_chains/verifymarkovchains/explicit/StateLayout" "shifts" "[I" := slot_ne (Or.inr (hg 143 rfl)) (Or.inr (hg 145 rfl)) (by decide) (t := (.array .int)) (t' := (.array .int)) (by decide) (by decide)
  have s0_2 : Jvm.RoadKit.slotOf Z "com/example/verify_markov_chains/verifymarkovchains/explicit/StateLayout" "words" "[I" ≠ Jvm.RoadKit.slotOf Z "com/example/verify_markov_chains/verifymarkovchains/explicit/StateLayout" "masks" "[J" := slot_ne (Or.inr (hg 143 rfl)) (Or.inr (hg 148 rfl)) (by decide) (t := (.array .int)) (t' := (.array .long)) (by decide) (by decide)
  have s0_3 : Jvm.RoadKit.slotOf Z "com/example/verify_markov_chains/verifymarkovchains/explicit/StateLayout" "words" "[I" ≠ Jvm.RoadKit.slotOf Z "com/example/verify_markov_chains/verifymarkovchains/explicit/StateLayout" "lowers" "[I" := slot_ne (Or.inr (hg 143 rfl)) (Or.inr (hg 150 rfl)) (by decide) (t := (.array .int)) (t' := (.array .int)) (by decide) (by decide)
  have s0_4 : Jvm.RoadKit.slotOf Z "com/example/verify_markov_chains/verifymarkovchains/explicit/StateLayout" "words" "[I" ≠ Jvm.RoadKit.slotOf Z "com/example/verify_markov_chains/verifymarkovchains/explicit/StateLayout" "wordCount" "I" := slot_ne (Or.inr (hg 143 rfl)) (Or.inr (hg 205 rfl)) (by decide) (t := (.array .int)) (t' := .int) (by decide) (by decide)
  have s1_0 : Jvm.RoadKit.slotOf Z "com/example/verify_markov_chains/verifymarkovchains/explicit/StateLayout" "shifts" "[I" ≠ Jvm.RoadKit.slotOf Z "com/example/verify_markov_chains/verifymarkovchains/explicit/StateLayout" "words" "[I" := slot_ne (Or.inr (hg 145 rfl)) (Or.inr (hg 143 rfl)) (by decide) (t := (.array .int)) (t' := (.array .int)) (by decide) (by decide)
  have s1_2 : Jvm.RoadKit.slotOf Z "com/example/verify_markov_chains/verifymarkovchains/explicit/StateLayout" "shifts" "[I" ≠ Jvm.RoadKit.slotOf Z "com/example/verify_markov_chains/verifymarkovchains/explicit/StateLayout" "masks" "[J" := slot_ne (Or.inr (hg 145 rfl)) (Or.inr (hg 148 rfl)) (by decide) (t := (.array .int)) (t' := (.array .long)) (by decide) (by decide)
  have s1_3 : Jvm.RoadKit.slotOf Z "com/example/verify_markov_chains/verifymarkovchains/explicit/StateLayout" "shifts" "[I" ≠ Jvm.RoadKit.slotOf Z "com/example/verify_markov_chains/verifymarkovchains/explicit/StateLayout" "lowers" "[I" := slot_ne (Or.inr (hg 145 rfl)) (Or.inr (hg 150 rfl)) (by decide) (t := (.array .int)) (t' := (.array .int)) (by decide) (by decide)
  have s1_4 : Jvm.RoadKit.slotOf Z "com/example/verify_markov_chains/verifymarkovchains/explicit/StateLayout" "shifts" "[I" ≠ Jvm.RoadKit.slotOf Z "com/example/verify_markov_chains/verifymarkovchains/explicit/StateLayout" "wordCount" "I" := slot_ne (Or.inr (hg 145 rfl)) (Or.inr (hg 205 rfl)) (by decide) (t := (.array .int)) (t' := .int) (by decide) (by decide)
  have s2_0 : Jvm.RoadKit.slotOf Z "com/example/verify_markov_chains/verifymarkovchains/explicit/StateLayout" "masks" "[J" ≠ Jvm.RoadKit.slotOf Z "com/example/verify_markov_chains/verifymarkovchains/explicit/StateLayout" "words" "[I" := slot_ne (Or.inr (hg 148 rfl)) (Or.inr (hg 143 rfl)) (by decide) (t := (.array .long)) (t' := (.array .int)) (by decide) (by decide)
  have s2_1 : Jvm.RoadKit.slotOf Z "com/example/verify_markov_chains/verifymarkovchains/explicit/StateLayout" "masks" "[J" ≠ Jvm.RoadKit.slotOf Z "com/example/verify_markov_chains/verifymarkovchains/explicit/StateLayout" "shifts" "[I" := slot_ne (Or.inr (hg 148 rfl)) (Or.inr (hg 145 rfl)) (by decide) (t := (.array .long)) (t' := (.array .int)) (by decide) (by decide)
  have s2_3 : Jvm.RoadKit.slotOf Z "com/example/verify_markov_chains/verifymarkovchains/explicit/StateLayout" "masks" "[J" ≠ Jvm.RoadKit.slotOf Z "com/example/verify_markov_chains/verifymarkovchains/explicit/StateLayout" "lowers" "[I" := slot_ne (Or.inr (hg 148 rfl)) (Or.inr (hg 150 rfl)) (by decide) (t := (.array .long)) (t' := (.array .int)) (by decide) (by decide)
  have s2_4 : Jvm.RoadKit.slotOf Z "com/example/verify_markov_chains/verifymarkovchains/explicit/StateLayout" "masks" "[J" ≠ Jvm.RoadKit.slotOf Z "com/example/verify_markov_chains/verifymarkovchains/explicit/StateLayout" "wordCount" "I" := slot_ne (Or.inr (hg 148 rfl)) (Or.inr (hg 205 rfl)) (by decide) (t := (.array .long)) (t' := .int) (by decide) (by decide)
  have s3_0 : Jvm.RoadKit.slotOf Z "com/example/verify_markov_chains/verifymarkovchains/explicit/StateLayout" "lowers" "[I" ≠ Jvm.RoadKit.slotOf Z "com/example/verify_markov_chains/verifymarkovchains/explicit/StateLayout" "words" "[I" := slot_ne (Or.inr (hg 150 rfl)) (Or.inr (hg 143 rfl)) (by decide) (t := (.array .int)) (t' := (.array .int)) (by decide) (by decide)
  have s3_1 : Jvm.RoadKit.slotOf Z "com/example/verify_markov_chains/verifymarkovchains/explicit/StateLayout" "lowers" "[I" ≠ Jvm.RoadKit.slotOf Z "com/example/verify_markov_chains/verifymarkovchains/explicit/StateLayout" "shifts" "[I" := slot_ne (Or.inr (hg 150 rfl)) (Or.inr (hg 145 rfl)) (by decide) (t := (.array .int)) (t' := (.array .int)) (by decide) (by decide)
  have s3_2 : Jvm.RoadKit.slotOf Z "com/example/verify_markov_chains/verifymarkovchains/explicit/StateLayout" "lowers" "[I" ≠ Jvm.RoadKit.slotOf Z "com/example/verify_markov_chains/verifymarkovchains/explicit/StateLayout" "masks" "[J" := slot_ne (Or.inr (hg 150 rfl)) (Or.inr (hg 148 rfl)) (by decide) (t := (.array .int)) (t' := (.array .long)) (by decide) (by decide)
  have s3_4 : Jvm.RoadKit.slotOf Z "com/example/verify_markov_chains/verifymarkovchains/explicit/StateLayout" "lowers" "[I" ≠ Jvm.RoadKit.slotOf Z "com/example/verify_markov_chains/verifymarkovchains/explicit/StateLayout" "wordCount" "I" := slot_ne (Or.inr (hg 150 rfl)) (Or.inr (hg 205 rfl)) (by decide) (t := (.array .int)) (t' := .int) (by decide) (by decide)
  have s4_0 : Jvm.RoadKit.slotOf Z "com/example/verify_markov_chains/verifymarkovchains/explicit/StateLayout" "wordCount" "I" ≠ Jvm.RoadKit.slotOf Z "com/example/verify_markov_chains/verifymarkovchains/explicit/StateLayout" "words" "[I" := slot_ne (Or.inr (hg 205 rfl)) (Or.inr (hg 143 rfl)) (by decide) (t := .int) (t' := (.array .int)) (by decide) (by decide)
  have s4_1 : Jvm.RoadKit.slotOf Z "com/example/verify_markov_chains/verifymarkovchains/explicit/StateLayout" "wordCount" "I" ≠ Jvm.RoadKit.slotOf Z "com/example/verify_markov_chains/verifymarkovchains/explicit/StateLayout" "shifts" "[I" := slot_ne (Or.inr (hg 205 rfl)) (Or.inr (hg 145 rfl)) (by decide) (t := .int) (t' := (.array .int)) (by decide) (by decide)
  have s4_2 : Jvm.RoadKit.slotOf Z "com/example/verify_markov_chains/verifymarkovchains/explicit/StateLayout" "wordCount" "I" ≠ Jvm.RoadKit.slotOf Z "com/example/verify_markov_chains/verifymarkovchains/explicit/StateLayout" "masks" "[J" := slot_ne (Or.inr (hg 205 rfl)) (Or.inr (hg 148 rfl)) (by decide) (t := .int) (t' := (.array .long)) (by decide) (by decide)
  have s4_3 : Jvm.RoadKit.slotOf Z "com/example/verify_markov_chains/verifymarkovchains/explicit/StateLayout" "wordCount" "I" ≠ Jvm.RoadKit.slotOf Z "com/example/verify_markov_chains/verifymarkovchains/explicit/StateLayout" "lowers" "[I" := slot_ne (Or.inr (hg 205 rfl)) (Or.inr (hg 150 rfl)) (by decide) (t := .int) (t' := (.array .int)) (by decide) (by decide)
  refine Dn.of (fun tt_ zz_ => XS.aloadN X0.here hx rfl (hb hby d18_0) rfl rfl zz_) ?_
  show Dn p e below s (own_QSL Z n0 h0 a t0 t1 t2 aDb l0 l1 l2 p0 p1 p2) 5 64 (s₁.setTop (mkF m 1 #[(vA a), (vA ls), .unset, .unset, .unset, .unset, .unset, .unset, .unset] [(.ref a)]))
  obtain ⟨T93, X93, e93, st93⟩ := initO X0 hx hZ hown (hg 131 rfl) (hg 36 rfl) (hg 37 rfl) e0 (g := (mkF m 1 #[(vA a), (vA ls), .unset, .unset, .unset, .unset, .unset, .unset, .unset] [(.ref a)])) rfl (by rw [hml]; rfl) rfl (hb hby d18_1) (by decide) (W := 0) (by show 2 * 0 + _ ≤ _; exact Nat.le_of_eq rfl) (by decide)
  refine Dn.of st93 ?_
  show Dn p e below s (own_QSL Z n0 h0 a t0 t1 t2 aDb l0 l1 l2 p0 p1 p2) 5 64 (T93.setTop (mkF m 4 #[(vA a), (vA ls), .unset, .unset, .unset, .unset, .unset, .unset, .unset] []))
  refine Dn.of (fun tt_ zz_ => XS.aloadN X93.here hx rfl (hb hby d18_4) rfl rfl zz_) ?_
  show Dn p e below s (own_QSL Z n0 h0 a t0 t1 t2 aDb l0 l1 l2 p0 p1 p2) 5 64 (T93.setTop (mkF m 5 #[(vA a), (vA ls), .unset, .unset, .unset, .unset, .unset, .unset, .unset] [(.ref ls)]))
  obtain ⟨v94, T94, L94, Q94, X94, st94⟩ := cFa X93 hx hZ (C := "java/util/ArrayList") (y := (⟨"java/util/List", "size", "()I"⟩ : MethodName)) (z := (⟨"java/util/ArrayList", "size", "()I"⟩ : MethodName)) hown (hg 132 rfl) (hg 133 rfl) (mvT hZ (hg 134 rfl)) (hg 135 rfl) (hg 136 rfl) (hg 137 rfl) (hg 138 rfl) (hg 139 rfl) (hg 19 rfl) (hg 140 rfl) (by decide) (a := ls) (argsL := []) (rest := []) (rmSz l Z a0 hw h0 n0 Z0 ls (3 : Int32) LS) e93 EL 0 (by decide) (by decide) (by decide) (by decide) (g := (mkF m 5 #[(vA a), (vA ls), .unset, .unset, .unset, .unset, .unset, .unset, .unset] [(.ref ls)])) rfl (by rw [hml]; rfl) (lenOf pd11 rfl) rfl (by show 2 * 0 + _ ≤ _; exact Nat.le_of_eq rfl) (hb hby d18_5)
  obtain ⟨rfl, M0, e94⟩ := Q94
  refine Dn.of st94 ?_
  show Dn p e below s (own_QSL Z n0 h0 a t0 t1 t2 aDb l0 l1 l2 p0 p1 p2) 5 64 (T94.setTop (mkF m 10 #[(vA a), (vA ls), .unset, .unset, .unset, .unset, .unset, .unset, .unset] [(.int (3 : Int32))]))
  refine Dn.of (fun tt_ zz_ => XS.istoreN X94.here hx rfl (hb hby d18_10) rfl (l' := #[(vA a), (vA ls), (vI (3 : Int32)), .unset, .unset, .unset, .unset, .unset, .unset]) rfl zz_) ?_
  refine Dn.of (fun tt_ zz_ => XS.aloadN X94.here hx rfl (hb hby d18_11) rfl rfl zz_) ?_
  refine Dn.of (fun tt_ zz_ => XS.iloadN X94.here hx rfl (hb hby d18_12) rfl zz_) ?_
  show Dn p e below s (own_QSL Z n0 h0 a t0 t1 t2 aDb l0 l1 l2 p0 p1 p2) 5 64 (T94.setTop (mkF m 13 #[(vA a), (vA ls), (vI (3 : Int32)), .unset, .unset, .unset, .unset, .unset, .unset] [(.int (3 : Int32)), (.ref a)]))
  obtain ⟨T95, h95, k95, X95, e95, E95, A95, st95⟩ := newP X94 hx hZ (hg 141 rfl) e94 (g := (mkF m 13 #[(vA a), (vA ls), (vI (3 : Int32)), .unset, .unset, .unset, .unset, .unset, .unset] [(.int (3 : Int32)), (.ref a)])) rfl (hb hby d18_13) rfl (by decide) (cap := 3) (by decide) (by decide) (by decide) (by decide)
  obtain ⟨b95, g95⟩ : ∃ z, z = h0.size := ⟨_, rfl⟩
  rw [← g95] at A95 st95
  refine Dn.of st95 ?_
  show Dn p e below s (own_QSL Z n0 h0 a t0 t1 t2 aDb l0 l1 l2 p0 p1 p2) 5 64 (T95.setTop (mkF m 15 #[(vA a), (vA ls), (vI (3 : Int32)), .unset, .unset, .unset, .unset, .unset, .unset] [(.ref b95), (.ref a)]))
  have n96 : a ≠ b95 := Nat.ne_of_lt (g95 ▸ E0.lt)
  have n97 : ls ≠ b95 := Nat.ne_of_lt (g95 ▸ EL.lt)
  have n98 : bE ≠ b95 := Nat.ne_of_lt (g95 ▸ RE.lt)
  have n99 : u0 ≠ b95 := Nat.ne_of_lt (g95 ▸ V0.lt)
  have n100 : u1 ≠ b95 := Nat.ne_of_lt (g95 ▸ V1.lt)
  have n101 : u2 ≠ b95 := Nat.ne_of_lt (g95 ▸ V2.lt)
  have gb0 : n0 ≤ b95 := g95 ▸ O0.1 ▸ O0.2.1
  have kb0 : h0.size ≤ b95 := g95 ▸ (Keep.refl h0 [a]).1
  have R0_ : Arh Z h95 b95 k95 .int 3 [] [] (.int 0) := (Arv.new A95 (by decide)).arh
  have F102 := (F0.ext E95)
  have F103 := (E0.ext E95)
  obtain ⟨T104, h104, X104, e104, W104, st104⟩ := putF X95 hx hZ hown (host := "") (Or.inl (hg 142 rfl)) Via.refl e95 F102 F103 (Or.inr ⟨(hg 143 rfl), rfl, hnm⟩) (hg 126 rfl) (ty := (.array .int)) (by decide) rfl rfl (g := (mkF m 15 #[(vA a), (vA ls), (vI (3 : Int32)), .unset, .unset, .unset, .unset, .unset, .unset] [(.ref b95), (.ref a)])) rfl rfl (hb hby d18_15)
  refine Dn.of st104 ?_
  show Dn p e below s (own_QSL Z n0 h0 a t0 t1 t2 aDb l0 l1 l2 p0 p1 p2) 5 64 (T104.setTop (mkF m 18 #[(vA a), (vA ls), (vI (3 : Int32)), .unset, .unset, .unset, .unset, .unset, .unset] []))
  have Nw0 := Fr.snoc X104 (Fr.app N0 M0) g0
  refine Dn.of (fun tt_ zz_ => XS.aloadN X104.here hx rfl (hb hby d18_18) rfl rfl zz_) ?_
  refine Dn.of (fun tt_ zz_ => XS.iloadN X104.here hx rfl (hb hby d18_19) rfl zz_) ?_
  show Dn p e below s (own_QSL Z n0 h0 a t0 t1 t2 aDb l0 l1 l2 p0 p1 p2) 5 64 (T104.setTop (mkF m 20 #[(vA a), (vA ls), (vI (3 : Int32)), .unset, .unset, .unset, .unset, .unset, .unset] [(.int (3 : Int32)), (.ref a)]))
  have F105 := ((O0.ext E95).wr W104 g0)
  have F106 := (((Keep.refl h0 [a]).ext E95).wr W104 (Or.inl (List.mem_of_getElem? (i := 0) rfl)))
  obtain ⟨T107, h107, k107, X107, e107, E107, A107, st107⟩ := newP X104 hx hZ (hg 141 rfl) e104 (g := (mkF m 20 #[(vA a), (vA ls), (vI (3 : Int32)), .unset, .unset, .unset, .unset, .unset, .unset] [(.int (3 : Int32)), (.ref a)])) rfl (hb hby d18_20) rfl (by decide) (cap := 3) (by decide) (by decide) (by decide) (by decide)
  obtain ⟨b107, g107⟩ : ∃ z, z = h104.size := ⟨_, rfl⟩
  rw [← g107] at A107 st107
  refine Dn.of st107 ?_
  show Dn p e below s (own_QSL Z n0 h0 a t0 t1 t2 aDb l0 l1 l2 p0 p1 p2) 5 64 (T107.setTop (mkF m 22 #[(vA a), (vA ls), (vI (3 : Int32)), .unset, .unset, .unset, .unset, .unset, .unset] [(.ref b107), (.ref a)]))
  have F108 := (F103.wr W104)
  have n109 : a ≠ b107 := Nat.ne_of_lt (g107 ▸ F108.lt)
  have F110 := ((EL.ext E95).wr W104)
  have n111 : ls ≠ b107 := Nat.ne_of_lt (g107 ▸ F110.lt)
  have F112 := ((RE.ext E95).other W104 d1)
  have n113 : bE ≠ b107 := Nat.ne_of_lt (g107 ▸ F112.lt)
  have F114 := ((V0.ext E95).other W104 d2)
  have n115 : u0 ≠ b107 := Nat.ne_of_lt (g107 ▸ F114.lt)
  have F116 := ((V1.ext E95).other W104 d3)
  have n117 : u1 ≠ b107 := Nat.ne_of_lt (g107 ▸ F116.lt)
  have F118 := ((V2.ext E95).other W104 d4)
  have n119 : u2 ≠ b107 := Nat.ne_of_lt (g107 ▸ F118.lt)
  have F120 := (R0_.other W104 (Ne.symm n96))
  have n121 : b95 ≠ b107 := Nat.ne_of_lt (g107 ▸ F120.lt)
  have gb1 : n0 ≤ b107 := g107 ▸ F105.1 ▸ F105.2.1
  have kb1 : h0.size ≤ b107 := g107 ▸ F106.1
  have R1_ : Arh Z h107 b107 k107 .int 3 [] [] (.int 0) := (Arv.new A107 (by decide)).arh
  have F122 := (((F1.ext E95).other W104 (Or.inr s1_0)).ext E107)
  have F123 := (F108.ext E107)
  obtain ⟨T124, h124, X124, e124, W124, st124⟩ := putF X107 hx hZ hown (host := "") (Or.inl (hg 144 rfl)) Via.refl e107 F122 F123 (Or.inr ⟨(hg 145 rfl), rfl, hnm⟩) (hg 126 rfl) (ty := (.array .int)) (by decide) rfl rfl (g := (mkF m 22 #[(vA a), (vA ls), (vI (3 : Int32)), .unset, .unset, .unset, .unset, .unset, .unset] [(.ref b107), (.ref a)])) rfl rfl (hb hby d18_22)
  refine Dn.of st124 ?_
  show Dn p e below s (own_QSL Z n0 h0 a t0 t1 t2 aDb l0 l1 l2 p0 p1 p2) 5 64 (T124.setTop (mkF m 25 #[(vA a), (vA ls), (vI (3 : Int32)), .unset, .unset, .unset, .unset, .unset, .unset] []))
  have Nw1 := Fr.snoc X124 Nw0 g0
  refine Dn.of (fun tt_ zz_ => XS.aloadN X124.here hx rfl (hb hby d18_25) rfl rfl zz_) ?_
  refine Dn.of (fun tt_ zz_ => XS.iloadN X124.here hx rfl (hb hby d18_26) rfl zz_) ?_
  show Dn p e below s (own_QSL Z n0 h0 a t0 t1 t2 aDb l0 l1 l2 p0 p1 p2) 5 64 (T124.setTop (mkF m 27 #[(vA a), (vA ls), (vI (3 : Int32)), .unset, .unset, .unset, .unset, .unset, .unset] [(.int (3 : Int32)), (.ref a)]))
  have F125 := ((F105.ext E107).wr W124 g0)
  have F126 := ((F106.ext E107).wr W124 (Or.inl (List.mem_of_getElem? (i := 0) rfl)))
  obtain ⟨T127, h127, k127, X127, e127, E127, A127, st127⟩ := newP X124 hx hZ (hg 146 rfl) e124 (g := (mkF m 27 #[(vA a), (vA ls), (vI (3 : Int32)), .unset, .unset, .unset, .unset, .unset, .unset] [(.int (3 : Int32)), (.ref a)])) rfl (hb hby d18_27) rfl (by decide) (cap := 3) (by decide) (by decide) (by decide) (by decide)
  obtain ⟨b127, g127⟩ : ∃ z, z = h124.size := ⟨_, rfl⟩
  rw [← g127] at A127 st127
  refine Dn.of st127 ?_
  show Dn p e below s (own_QSL Z n0 h0 a t0 t1 t2 aDb l0 l1 l2 p0 p1 p2) 5 64 (T127.setTop (mkF m 29 #[(vA a), (vA ls), (vI (3 : Int32)), .unset, .unset, .unset, .unset, .unset, .unset] [(.ref b127), (.ref a)]))
  have F128 := (F123.wr W124)
  have n129 : a ≠ b127 := Nat.ne_of_lt (g127 ▸ F128.lt)
  have F130 := ((F110.ext E107).wr W124)
  have n131 : ls ≠ b127 := Nat.ne_of_lt (g127 ▸ F130.lt)
  have F132 := ((F112.ext E107).other W124 d1)
  have n133 : bE ≠ b127 := Nat.ne_of_lt (g127 ▸ F132.lt)
  have F134 := ((F114.ext E107).other W124 d2)
  have n135 : u0 ≠ b127 := Nat.ne_of_lt (g127 ▸ F134.lt)
  have F136 := ((F116.ext E107).other W124 d3)
  have n137 : u1 ≠ b127 := Nat.ne_of_lt (g127 ▸ F136.lt)
  have F138 := ((F118.ext E107).other W124 d4)
  have n139 : u2 ≠ b127 := Nat.ne_of_lt (g127 ▸ F138.lt)
  have F140 := ((F120.ext E107).other W124 (Ne.symm n96))
  have n141 : b95 ≠ b127 := Nat.ne_of_lt (g127 ▸ F140.lt)
  have F142 := (R1_.other W124 (Ne.symm n109))
  have n143 : b107 ≠ b127 := Nat.ne_of_lt (g127 ▸ F142.lt)
  have gb2 : n0 ≤ b127 := g127 ▸ F125.1 ▸ F125.2.1
  have kb2 : h0.size ≤ b127 := g127 ▸ F126.1
  have R2_ : Arh Z h127 b127 k127 .long 3 [] [] (.long 0) := (Arv.new A127 (by decide)).arh
  have F144 := (((((F2.ext E95).other W104 (Or.inr s2_0)).ext E107).other W124 (Or.inr s2_1)).ext E127)
  have F145 := (F128.ext E127)
  obtain ⟨T146, h146, X146, e146, W146, st146⟩ := putF X127 hx hZ hown (host := "") (Or.inl (hg 147 rfl)) Via.refl e127 F144 F145 (Or.inr ⟨(hg 148 rfl), rfl, hnm⟩) (hg 126 rfl) (ty := (.array .long)) (by decide) rfl rfl (g := (mkF m 29 #[(vA a), (vA ls), (vI (3 : Int32)), .unset, .unset, .unset, .unset, .unset, .unset] [(.ref b127), (.ref a)])) rfl rfl (hb hby d18_29)
  refine Dn.of st146 ?_
  show Dn p e below s (own_QSL Z n0 h0 a t0 t1 t2 aDb l0 l1 l2 p0 p1 p2) 5 64 (T146.setTop (mkF m 32 #[(vA a), (vA ls), (vI (3 : Int32)), .unset, .unset, .unset, .unset, .unset, .unset] []))
  have Nw2 := Fr.snoc X146 Nw1 g0
  refine Dn.of (fun tt_ zz_ => XS.aloadN X146.here hx rfl (hb hby d18_32) rfl rfl zz_) ?_
  refine Dn.of (fun tt_ zz_ => XS.iloadN X146.here hx rfl (hb hby d18_33) rfl zz_) ?_
  show Dn p e below s (own_QSL Z n0 h0 a t0 t1 t2 aDb l0 l1 l2 p0 p1 p2) 5 64 (T146.setTop (mkF m 34 #[(vA a), (vA ls), (vI (3 : Int32)), .unset, .unset, .unset, .unset, .unset, .unset] [(.int (3 : Int32)), (.ref a)]))
  have F147 := ((F125.ext E127).wr W146 g0)
  have F148 := ((F126.ext E127).wr W146 (Or.inl (List.mem_of_getElem? (i := 0) rfl)))
  obtain ⟨T149, h149, k149, X149, e149, E149, A149, st149⟩ := newP X146 hx hZ (hg 141 rfl) e146 (g := (mkF m 34 #[(vA a), (vA ls), (vI (3 : Int32)), .unset, .unset, .unset, .unset, .unset, .unset] [(.int (3 : Int32)), (.ref a)])) rfl (hb hby d18_34) rfl (by decide) (cap := 3) (by decide) (by decide) (by decide) (by decide)
  obtain ⟨b149, g149⟩ : ∃ z, z = h146.size := ⟨_, rfl⟩
  rw [← g149] at A149 st149
  refine Dn.of st149 ?_
  show Dn p e below s (own_QSL Z n0 h0 a t0 t1 t2 aDb l0 l1 l2 p0 p1 p2) 5 64 (T149.setTop (mkF m 36 #[(vA a), (vA ls), (vI (3 : Int32)), .unset, .unset, .unset, .unset, .unset, .unset] [(.ref b149), (.ref a)]))
  have F150 := (F145.wr W146)
  have n151 : a ≠ b149 := Nat.ne_of_lt (g149 ▸ F150.lt)
  have F152 := ((F130.ext E127).wr W146)
  have n153 : ls ≠ b149 := Nat.ne_of_lt (g149 ▸ F152.lt)
  have F154 := ((F132.ext E127).other W146 d1)
  have n155 : bE ≠ b149 := Nat.ne_of_lt (g149 ▸ F154.lt)
  have F156 := ((F134.ext E127).other W146 d2)
  have n157 : u0 ≠ b149 := Nat.ne_of_lt (g149 ▸ F156.lt)
  have F158 := ((F136.ext E127).other W146 d3)
  have n159 : u1 ≠ b149 := Nat.ne_of_lt (g149 ▸ F158.lt)
  have F160 := ((F138.ext E127).other W146 d4)
  have n161 : u2 ≠ b149 := Nat.ne_of_lt (g149 ▸ F160.lt)
  have F162 := ((F140.ext E127).other W146 (Ne.symm n96))
  have n163 : b95 ≠ b149 := Nat.ne_of_lt (g149 ▸ F162.lt)
  have F164 := ((F142.ext E127).other W146 (Ne.symm n109))
  have n165 : b107 ≠ b149 := Nat.ne_of_lt (g149 ▸ F164.lt)
  have F166 := (R2_.other W146 (Ne.symm n129))
  have n167 : b127 ≠ b149 := Nat.ne_of_lt (g149 ▸ F166.lt)
  have gb3 : n0 ≤ b149 := g149 ▸ F147.1 ▸ F147.2.1
  have kb3 : h0.size ≤ b149 := g149 ▸ F148.1
  have R3_ : Arh Z h149 b149 k149 .int 3 [] [] (.int 0) := (Arv.new A149 (by decide)).arh
  have F168 := (((((((F3.ext E95).other W104 (Or.inr s3_0)).ext E107).other W124 (Or.inr s3_1)).ext E127).other W146 (Or.inr s3_2)).ext E149)
  have F169 := (F150.ext E149)
  obtain ⟨T170, h170, X170, e170, W170, st170⟩ := putF X149 hx hZ hown (host := "") (Or.inl (hg 149 rfl)) Via.refl e149 F168 F169 (Or.inr ⟨(hg 150 rfl), rfl, hnm⟩) (hg 126 rfl) (ty := (.array .int)) (by decide) rfl rfl (g := (mkF m 36 #[(vA a), (vA ls), (vI (3 : Int32)), .unset, .unset, .unset, .unset, .unset, .unset] [(.ref b149), (.ref a)])) rfl rfl (hb hby d18_36)
  refine Dn.of st170 ?_
  show Dn p e below s (own_QSL Z n0 h0 a t0 t1 t2 aDb l0 l1 l2 p0 p1 p2) 5 64 (T170.setTop (mkF m 39 #[(vA a), (vA ls), (vI (3 : Int32)), .unset, .unset, .unset, .unset, .unset, .unset] []))
  have Nw3 := Fr.snoc X170 Nw2 g0
  refine Dn.of (fun tt_ zz_ => XS.iloadN X170.here hx rfl (hb hby d18_39) rfl zz_) ?_
  show Dn p e below s (own_QSL Z n0 h0 a t0 t1 t2 aDb l0 l1 l2 p0 p1 p2) 5 64 (T170.setTop (mkF m 40 #[(vA a), (vA ls), (vI (3 : Int32)), .unset, .unset, .unset, .unset, .unset, .unset] [(.int (3 : Int32))]))
  have F171 := ((F147.ext E149).wr W170 g0)
  have F172 := ((F148.ext E149).wr W170 (Or.inl (List.mem_of_getElem? (i := 0) rfl)))
  obtain ⟨T173, h173, k173, X173, e173, E173, A173, st173⟩ := newP X170 hx hZ (hg 141 rfl) e170 (g := (mkF m 40 #[(vA a), (vA ls), (vI (3 : Int32)), .unset, .unset, .unset, .unset, .unset, .unset] [(.int (3 : Int32))])) rfl (hb hby d18_40) rfl (by decide) (cap := 3) (by decide) (by decide) (by decide) (by decide)
  obtain ⟨b173, g173⟩ : ∃ z, z = h170.size := ⟨_, rfl⟩
  rw [← g173] at A173 st173
  refine Dn.of st173 ?_
  show Dn p e below s (own_QSL Z n0 h0 a t0 t1 t2 aDb l0 l1 l2 p0 p1 p2) 5 64 (T173.setTop (mkF m 42 #[(vA a), (vA ls), (vI (3 : Int32)), .unset, .unset, .unset, .unset, .unset, .unset] [(.ref b173)]))
  have F174 := (F169.wr W170)
  have n175 : a ≠ b173 := Nat.ne_of_lt (g173 ▸ F174.lt)
  have F176 := ((F152.ext E149).wr W170)
  have n177 : ls ≠ b173 := Nat.ne_of_lt (g173 ▸ F176.lt)
  have F178 := ((F154.ext E149).other W170 d1)
  have n179 : bE ≠ b173 := Nat.ne_of_lt (g173 ▸ F178.lt)
  have F180 := ((F156.ext E149).other W170 d2)
  have n181 : u0 ≠ b173 := Nat.ne_of_lt (g173 ▸ F180.lt)
  have F182 := ((F158.ext E149).other W170 d3)
  have n183 : u1 ≠ b173 := Nat.ne_of_lt (g173 ▸ F182.lt)
  have F184 := ((F160.ext E149).other W170 d4)
  have n185 : u2 ≠ b173 := Nat.ne_of_lt (g173 ▸ F184.lt)
  have F186 := ((F162.ext E149).other W170 (Ne.symm n96))
  have n187 : b95 ≠ b173 := Nat.ne_of_lt (g173 ▸ F186.lt)
  have F188 := ((F164.ext E149).other W170 (Ne.symm n109))
  have n189 : b107 ≠ b173 := Nat.ne_of_lt (g173 ▸ F188.lt)
  have F190 := ((F166.ext E149).other W170 (Ne.symm n129))
  have n191 : b127 ≠ b173 := Nat.ne_of_lt (g173 ▸ F190.lt)
  have F192 := (R3_.other W170 (Ne.symm n151))
  have n193 : b149 ≠ b173 := Nat.ne_of_lt (g173 ▸ F192.lt)
  have gb4 : n0 ≤ b173 := g173 ▸ F171.1 ▸ F171.2.1
  have kb4 : h0.size ≤ b173 := g173 ▸ F172.1
  have R4_ : Arh Z h173 b173 k173 .int 3 [] [] (.int 0) := (Arv.new A173 (by decide)).arh
  refine Dn.of (fun tt_ zz_ => XS.astoreN X173.here hx rfl (hb hby d18_42) rfl rfl (l' := #[(vA a), (vA ls), (vI (3 : Int32)), (vA b173), .unset, .unset, .unset, .unset, .unset]) rfl zz_) ?_
  refine Dn.of (fun tt_ zz_ => XS.iconst X173.here hx rfl (hb hby d18_43) zz_) ?_
  refine Dn.of (fun tt_ zz_ => XS.istore X173.here hx rfl (hb hby d18_44) rfl (l' := #[(vA a), (vA ls), (vI (3 : Int32)), (vA b173), (vI (0 : Int32)), .unset, .unset, .unset, .unset]) rfl zz_) ?_
  refine Dn.of (fun tt_ zz_ => XS.iconst X173.here hx rfl (hb hby d18_46) zz_) ?_
  show Dn p e below s (own_QSL Z n0 h0 a t0 t1 t2 aDb l0 l1 l2 p0 p1 p2) 5 64 (T173.setTop (mkF m 47 #[(vA a), (vA ls), (vI (3 : Int32)), (vA b173), (vI (0 : Int32)), .unset, .unset, .unset, .unset] [(.int (0 : Int32))]))
  refine Dn.of (fun tt_ zz_ => XS.istore X173.here hx rfl (hb hby d18_47) rfl (l' := #[(vA a), (vA ls), (vI (3 : Int32)), (vA b173), (vI (0 : Int32)), (vI (0 : Int32)), .unset, .unset, .unset]) rfl zz_) ?_
  refine Dn.of (fun tt_ zz_ => XS.iload X173.here hx rfl (hb hby d18_49) rfl zz_) ?_
  refine Dn.of (fun tt_ zz_ => XS.iloadN X173.here hx rfl (hb hby d18_51) rfl zz_) ?_
  show Dn p e below s (own_QSL Z n0 h0 a t0 t1 t2 aDb l0 l1 l2 p0 p1 p2) 5 64 (T173.setTop (mkF m 52 #[(vA a), (vA ls), (vI (3 : Int32)), (vA b173), (vI (0 : Int32)), (vI (0 : Int32)), .unset, .unset, .unset] [(.int (3 : Int32)), (.int (0 : Int32))]))

  refine Dn.of (fun tt_ zz_ => XS.icmpNo X173.here hx rfl (hb hby d18_52) rfl (tlt (by decide)).2.1 zz_) ?_
  show Dn p e below s (own_QSL Z n0 h0 a t0 t1 t2 aDb l0 l1 l2 p0 p1 p2) 5 64 (T173.setTop (mkF m 55 #[(vA a), (vA ls), (vI (3 : Int32)), (vA b173), (vI (0 : Int32)), (vI (0 : Int32)), .unset, .unset, .unset] []))
  refine Dn.of (fun tt_ zz_ => XS.aloadN X173.here hx rfl (hb hby d18_55) rfl rfl zz_) ?_
  refine Dn.of (fun tt_ zz_ => XS.iload X173.here hx rfl (hb hby d18_56) rfl zz_) ?_
  show Dn p e below s (own_QSL Z n0 h0 a t0 t1 t2 aDb l0 l1 l2 p0 p1 p2) 5 64 (T173.setTop (mkF m 58 #[(vA a), (vA ls), (vI (3 : Int32)), (vA b173), (vI (0 : Int32)), (vI (0 : Int32)), .unset, .unset, .unset] [(.int (0 : Int32)), (.ref ls)]))
  have F194 := (F176.ext E173)
  have F195 := (((((((((LE.ext E95).other W104 (Or.inl d0)).ext E107).other W124 (Or.inl d0)).ext E127).other W146 (Or.inl d0)).ext E149).other W170 (Or.inl d0)).ext E173)
  have F196 := (((((((((LS.ext E95).other W104 (Or.inl d0)).ext E107).other W124 (Or.inl d0)).ext E127).other W146 (Or.inl d0)).ext E149).other W170 (Or.inl d0)).ext E173)
  have F197 := (F178.ext E173)
  have F198 := (F180.ext E173)
  have F199 := (F171.ext E173)
  have F200 := (F172.ext E173)
  have Zc0 := F199.1 ▸ F199.2.1
  obtain ⟨v201, T201, L201, Q201, X201, st201⟩ := cFa X173 hx hZ (C := "java/util/ArrayList") (y := (⟨"java/util/List", "get", "(I)Ljava/lang/Object;"⟩ : MethodName)) (z := (⟨"java/util/ArrayList", "get", "(I)Ljava/lang/Object;"⟩ : MethodName)) hown (hg 151 rfl) (hg 152 rfl) (mvT hZ (hg 153 rfl)) (hg 154 rfl) (hg 155 rfl) (hg 156 rfl) (hg 157 rfl) (hg 139 rfl) (hg 19 rfl) (hg 158 rfl) (by decide) (a := ls) (argsL := [(.int (0 : Int32))]) (rest := []) (rmGet l Z a0 hw h173 n0 Zc0 ls bE u0 k [((2 : Int32), .ref u2), ((1 : Int32), .ref u1), ((0 : Int32), .ref u0)] (0 : Int32) (3 : Int32) (by decide) (by decide) F194 F195 F196 F197 rfl) e173 F194 0 (by decide) (by decide) (by decide) (by decide) (g := (mkF m 58 #[(vA a), (vA ls), (vI (3 : Int32)), (vA b173), (vI (0 : Int32)), (vI (0 : Int32)), .unset, .unset, .unset] [(.int (0 : Int32)), (.ref ls)])) rfl (by rw [hml]; rfl) (lenOf pd8 rfl) rfl (by show 2 * 0 + _ ≤ _; exact Nat.le_of_eq rfl) (hb hby d18_58)
  obtain ⟨rfl, Ma0, e201⟩ := Q201
  refine Dn.of st201 ?_
  show Dn p e below s (own_QSL Z n0 h0 a t0 t1 t2 aDb l0 l1 l2 p0 p1 p2) 5 64 (T201.setTop (mkF m 63 #[(vA a), (vA ls), (vI (3 : Int32)), (vA b173), (vI (0 : Int32)), (vI (0 : Int32)), .unset, .unset, .unset] [(.ref u0)]))
  obtain ⟨T202, X202, e202, st202⟩ := castY X201 hx hZ hown (hg 172 rfl) e201 (Ins.self F198.1) (g := (mkF m 63 #[(vA a), (vA ls), (vI (3 : Int32)), (vA b173), (vI (0 : Int32)), (vI (0 : Int32)), .unset, .unset, .unset] [(.ref u0)])) rfl rfl (hb hby d18_63)
  refine Dn.of st202 ?_
  show Dn p e below s (own_QSL Z n0 h0 a t0 t1 t2 aDb l0 l1 l2 p0 p1 p2) 5 64 (T202.setTop (mkF m 66 #[(vA a), (vA ls), (vI (3 : Int32)), (vA b173), (vI (0 : Int32)), (vI (0 : Int32)), .unset, .unset, .unset] [(.ref u0)]))
  refine Dn.of (fun tt_ zz_ => XS.astore X202.here hx rfl (hb hby d18_66) rfl rfl (l' := #[(vA a), (vA ls), (vI (3 : Int32)), (vA b173), (vI (0 : Int32)), (vI (0 : Int32)), (vA u0), .unset, .unset]) rfl zz_) ?_
  refine Dn.of (fun tt_ zz_ => XS.aload X202.here hx rfl (hb hby d18_68) rfl rfl zz_) ?_
  show Dn p e below s (own_QSL Z n0 h0 a t0 t1 t2 aDb l0 l1 l2 p0 p1 p2) 5 64 (T202.setTop (mkF m 70 #[(vA a), (vA ls), (vI (3 : Int32)), (vA b173), (vI (0 : Int32)), (vI (0 : Int32)), (vA u0), .unset, .unset] [(.ref u0)]))
  obtain ⟨v203, T203, L203, Q203, X203, st203⟩ := cSt X202 hx hZ (y := (⟨"com/example/verify_markov_chains/verifymarkovchains/explicit/StateLayout", "bitsOf", "(Lcom/example/verify_markov_chains/verifymarkovchains/model/Variable;)I"⟩ : MethodName)) hown (hg 174 rfl) (hg 175 rfl) (hg 127 rfl) (hg 176 rfl) (by decide) (argsL := [(.ref u0)]) (rest := []) (rmBO l Z a0 hw h173 n0 Zc0 u0 t0 aDb l0 p0 c0 SDb F199 F198) e202  0 (by decide) (by decide) (by decide) (by decide) (g := (mkF m 70 #[(vA a), (vA ls), (vI (3 : Int32)), (vA b173), (vI (0 : Int32)), (vI (0 : Int32)), (vA u0), .unset, .unset] [(.ref u0)])) rfl (by rw [hml]; rfl) (lenOf pd13 rfl) rfl (by show 2 * 0 + _ ≤ _; exact Nat.le_of_eq rfl) (hb hby d18_70)
  obtain ⟨⟨b0, rfl, B0⟩, Mb0, e203⟩ := Q203
  refine Dn.of st203 ?_
  show Dn p e below s (own_QSL Z n0 h0 a t0 t1 t2 aDb l0 l1 l2 p0 p1 p2) 5 64 (T203.setTop (mkF m 73 #[(vA a), (vA ls), (vI (3 : Int32)), (vA b173), (vI (0 : Int32)), (vI (0 : Int32)), (vA u0), .unset, .unset] [(.int b0)]))
  have Nx0 := Fr.app (Fr.app Nw3 Ma0) Mb0
  refine Dn.of (fun tt_ zz_ => XS.istore X203.here hx rfl (hb hby d18_73) rfl (l' := #[(vA a), (vA ls), (vI (3 : Int32)), (vA b173), (vI (0 : Int32)), (vI (0 : Int32)), (vA u0), (vI b0), .unset]) rfl zz_) ?_
  refine Dn.of (fun tt_ zz_ => XS.iconst X203.here hx rfl (hb hby d18_75) zz_) ?_
  refine Dn.of (fun tt_ zz_ => XS.istore X203.here hx rfl (hb hby d18_76) rfl (l' := #[(vA a), (vA ls), (vI (3 : Int32)), (vA b173), (vI (0 : Int32)), (vI (0 : Int32)), (vA u0), (vI b0), (vI (0 : Int32))]) rfl zz_) ?_
  refine Dn.of (fun tt_ zz_ => XS.iload X203.here hx rfl (hb hby d18_78) rfl zz_) ?_
  show Dn p e below s (own_QSL Z n0 h0 a t0 t1 t2 aDb l0 l1 l2 p0 p1 p2) 5 64 (T203.setTop (mkF m 80 #[(vA a), (vA ls), (vI (3 : Int32)), (vA b173), (vI (0 : Int32)), (vI (0 : Int32)), (vA u0), (vI b0), (vI (0 : Int32))] [(.int (0 : Int32))]))
  refine Dn.of (fun tt_ zz_ => XS.iload X203.here hx rfl (hb hby d18_80) rfl zz_) ?_
  show Dn p e below s (own_QSL Z n0 h0 a t0 t1 t2 aDb l0 l1 l2 p0 p1 p2) 5 64 (T203.setTop (mkF m 82 #[(vA a), (vA ls), (vI (3 : Int32)), (vA b173), (vI (0 : Int32)), (vI (0 : Int32)), (vA u0), (vI b0), (vI (0 : Int32))] [(.int (0 : Int32)), (.int (0 : Int32))]))
  refine Dn.of (fun tt_ zz_ => XS.icmpYes X203.here hx rfl (pc0 := 82) (pc' := 103) rfl (hb hby d18_82) rfl (flt (by decide)).2.1 (by decide) (by decide) zz_) ?_
  show Dn p e below s (own_QSL Z n0 h0 a t0 t1 t2 aDb l0 l1 l2 p0 p1 p2) 5 64 (T203.setTop (mkF m 103 #[(vA a), (vA ls), (vI (3 : Int32)), (vA b173), (vI (0 : Int32)), (vI (0 : Int32)), (vA u0), (vI b0), (vI (0 : Int32))] []))
  refine Dn.of (fun tt_ zz_ => XS.iload X203.here hx rfl (hb hby d18_103) rfl zz_) ?_
  refine Dn.of (fun tt_ zz_ => XS.iload X203.here hx rfl (hb hby d18_105) rfl zz_) ?_
  refine Dn.of (fun tt_ zz_ => XS.iconst X203.here hx rfl (hb hby d18_107) zz_) ?_
  refine Dn.of (fun tt_ zz_ => XS.iadd X203.here hx rfl (hb hby d18_108) rfl zz_) ?_
  show Dn p e below s (own_QSL Z n0 h0 a t0 t1 t2 aDb l0 l1 l2 p0 p1 p2) 5 64 (T203.setTop (mkF m 109 #[(vA a), (vA ls), (vI (3 : Int32)), (vA b173), (vI (0 : Int32)), (vI (0 : Int32)), (vA u0), (vI b0), (vI (0 : Int32))] [(.int ((0 : Int32) + (1 : Int32))), (.int (0 : Int32))]))
  have Zd0 := F199.1 ▸ F199.2.1
  obtain ⟨v204, T204, L204, Q204, X204, st204⟩ := cSt X203 hx hZ (y := (⟨"java/lang/Math", "max", "(II)I"⟩ : MethodName)) hown (hg 202 rfl) (hg 12 rfl) (hg 6 rfl) (hg 13 rfl) (by decide) (argsL := [(.int (0 : Int32)), (.int ((0 : Int32) + (1 : Int32)))]) (rest := []) (rm_max l Z a0 hw h173 n0 Zd0 (0 : Int32) ((0 : Int32) + (1 : Int32))) e203  0 (by decide) (by decide) (by decide) (by decide) (g := (mkF m 109 #[(vA a), (vA ls), (vI (3 : Int32)), (vA b173), (vI (0 : Int32)), (vI (0 : Int32)), (vA u0), (vI b0), (vI (0 : Int32))] [(.int ((0 : Int32) + (1 : Int32))), (.int (0 : Int32))])) rfl (by rw [hml]; rfl) (lenOf pd0 rfl) rfl (by show 2 * 0 + _ ≤ _; exact Nat.le_of_eq rfl) (hb hby d18_109)
  rw [show own_max (0 : Int32) ((0 : Int32) + (1 : Int32)) = (1 : Int32) by decide] at Q204
  obtain ⟨rfl, Mc0, e204⟩ := Q204
  refine Dn.of st204 ?_
  show Dn p e below s (own_QSL Z n0 h0 a t0 t1 t2 aDb l0 l1 l2 p0 p1 p2) 5 64 (T204.setTop (mkF m 112 #[(vA a), (vA ls), (vI (3 : Int32)), (vA b173), (vI (0 : Int32)), (vI (0 : Int32)), (vA u0), (vI b0), (vI (0 : Int32))] [(.int (1 : Int32))]))
  refine Dn.of (fun tt_ zz_ => XS.istore X204.here hx rfl (hb hby d18_112) rfl (l' := #[(vA a), (vA ls), (vI (3 : Int32)), (vA b173), (vI (1 : Int32)), (vI (0 : Int32)), (vA u0), (vI b0), (vI (0 : Int32))]) rfl zz_) ?_
  refine Dn.of (fun tt_ zz_ => XS.aloadN X204.here hx rfl (hb hby d18_114) rfl rfl zz_) ?_
  show Dn p e below s (own_QSL Z n0 h0 a t0 t1 t2 aDb l0 l1 l2 p0 p1 p2) 5 64 (T204.setTop (mkF m 115 #[(vA a), (vA ls), (vI (3 : Int32)), (vA b173), (vI (1 : Int32)), (vI (0 : Int32)), (vA u0), (vI b0), (vI (0 : Int32))] [(.ref a)]))
  have F205 := ((((((((F102.same W104).ext E107).other W124 (Or.inr s0_1)).ext E127).other W146 (Or.inr s0_2)).ext E149).other W170 (Or.inr s0_3)).ext E173)
  obtain ⟨T206, X206, e206, st206⟩ := getF X204 hx hZ hown (host := "") (Or.inl (hg 142 rfl)) Via.refl e204 F205 (g := (mkF m 115 #[(vA a), (vA ls), (vI (3 : Int32)), (vA b173), (vI (1 : Int32)), (vI (0 : Int32)), (vA u0), (vI b0), (vI (0 : Int32))] [(.ref a)])) rfl rfl (hb hby d18_115)
  refine Dn.of st206 ?_
  show Dn p e below s (own_QSL Z n0 h0 a t0 t1 t2 aDb l0 l1 l2 p0 p1 p2) 5 64 (T206.setTop (mkF m 118 #[(vA a), (vA ls), (vI (3 : Int32)), (vA b173), (vI (1 : Int32)), (vI (0 : Int32)), (vA u0), (vI b0), (vI (0 : Int32))] [(.ref b95)]))
  refine Dn.of (fun tt_ zz_ => XS.iload X206.here hx rfl (hb hby d18_118) rfl zz_) ?_
  refine Dn.of (fun tt_ zz_ => XS.iload X206.here hx rfl (hb hby d18_120) rfl zz_) ?_
  show Dn p e below s (own_QSL Z n0 h0 a t0 t1 t2 aDb l0 l1 l2 p0 p1 p2) 5 64 (T206.setTop (mkF m 122 #[(vA a), (vA ls), (vI (3 : Int32)), (vA b173), (vI (1 : Int32)), (vI (0 : Int32)), (vA u0), (vI b0), (vI (0 : Int32))] [(.int (0 : Int32)), (.int (0 : Int32)), (.ref b95)]))
  have F208 := (F186.ext E173)
  obtain ⟨c207, A_207, p207, S207, P207, H207, G207⟩ := F208
  obtain ⟨T209, h209, X209, e209, W209, st209⟩ := stI X206 hx hZ e206 A_207 (j := (0 : Int32)) (inb_of S207 (by decide)) (g := (mkF m 122 #[(vA a), (vA ls), (vI (3 : Int32)), (vA b173), (vI (1 : Int32)), (vI (0 : Int32)), (vA u0), (vI b0), (vI (0 : Int32))] [(.int (0 : Int32)), (.int (0 : Int32)), (.ref b95)])) rfl rfl (hb hby d18_122)
  refine Dn.of st209 ?_
  show Dn p e below s (own_QSL Z n0 h0 a t0 t1 t2 aDb l0 l1 l2 p0 p1 p2) 5 64 (T209.setTop (mkF m 123 #[(vA a), (vA ls), (vI (3 : Int32)), (vA b173), (vI (1 : Int32)), (vI (0 : Int32)), (vA u0), (vI b0), (vI (0 : Int32))] []))
  have R_207 := Arh.push A_207 p207 S207 P207 H207 G207 (v := (.int (0 : Int32))) rfl W209 (inb_of S207 (by decide))
  have N207 := Fr.snoc X209 (Fr.app Nx0 Mc0) gb0
  refine Dn.of (fun tt_ zz_ => XS.aloadN X209.here hx rfl (hb hby d18_123) rfl rfl zz_) ?_
  show Dn p e below s (own_QSL Z n0 h0 a t0 t1 t2 aDb l0 l1 l2 p0 p1 p2) 5 64 (T209.setTop (mkF m 124 #[(vA a), (vA ls), (vI (3 : Int32)), (vA b173), (vI (1 : Int32)), (vI (0 : Int32)), (vA u0), (vI b0), (vI (0 : Int32))] [(.ref a)]))
  have F210 := (((((((F122.same W124).ext E127).other W146 (Or.inr s1_2)).ext E149).other W170 (Or.inr s1_3)).ext E173).other W209 (Or.inl n96))
  obtain ⟨T211, X211, e211, st211⟩ := getF X209 hx hZ hown (host := "") (Or.inl (hg 144 rfl)) Via.refl e209 F210 (g := (mkF m 124 #[(vA a), (vA ls), (vI (3 : Int32)), (vA b173), (vI (1 : Int32)), (vI (0 : Int32)), (vA u0), (vI b0), (vI (0 : Int32))] [(.ref a)])) rfl rfl (hb hby d18_124)
  refine Dn.of st211 ?_
  show Dn p e below s (own_QSL Z n0 h0 a t0 t1 t2 aDb l0 l1 l2 p0 p1 p2) 5 64 (T211.setTop (mkF m 127 #[(vA a), (vA ls), (vI (3 : Int32)), (vA b173), (vI (1 : Int32)), (vI (0 : Int32)), (vA u0), (vI b0), (vI (0 : Int32))] [(.ref b107)]))
  refine Dn.of (fun tt_ zz_ => XS.iload X211.here hx rfl (hb hby d18_127) rfl zz_) ?_
  refine Dn.of (fun tt_ zz_ => XS.aloadN X211.here hx rfl (hb hby d18_129) rfl rfl zz_) ?_
  refine Dn.of (fun tt_ zz_ => XS.iload X211.here hx rfl (hb hby d18_130) rfl zz_) ?_
  show Dn p e below s (own_QSL Z n0 h0 a t0 t1 t2 aDb l0 l1 l2 p0 p1 p2) 5 64 (T211.setTop (mkF m 132 #[(vA a), (vA ls), (vI (3 : Int32)), (vA b173), (vI (1 : Int32)), (vI (0 : Int32)), (vA u0), (vI b0), (vI (0 : Int32))] [(.int (0 : Int32)), (.ref b173), (.int (0 : Int32)), (.ref b107)]))
  have F212 := (R4_.other W209 (Ne.symm n187))
  have Rr213 := F212
  obtain ⟨d213, B_213, _, Sd213, _, Hd213, _⟩ := Rr213
  refine Dn.of (fun tt_ zz_ => X211.iaload hx (j := (0 : Int32)) (v := (.int (0 : Int32))) (by rw [e211]; exact B_213.1) (State.isArrayOf_alike hZ.alike B_213.2.1) B_213.2.2 (inb_of Sd213 (by decide)) (atH Hd213 (inb_of Sd213 (by decide)) rfl) (g := (mkF m 132 #[(vA a), (vA ls), (vI (3 : Int32)), (vA b173), (vI (1 : Int32)), (vI (0 : Int32)), (vA u0), (vI b0), (vI (0 : Int32))] [(.int (0 : Int32)), (.ref b173), (.int (0 : Int32)), (.ref b107)])) rfl rfl (hb hby d18_132) tt_ zz_) ?_
  show Dn p e below s (own_QSL Z n0 h0 a t0 t1 t2 aDb l0 l1 l2 p0 p1 p2) 5 64 (T211.setTop (mkF m 133 #[(vA a), (vA ls), (vI (3 : Int32)), (vA b173), (vI (1 : Int32)), (vI (0 : Int32)), (vA u0), (vI b0), (vI (0 : Int32))] [(.int (0 : Int32)), (.int (0 : Int32)), (.ref b107)]))
  have F215 := ((F188.ext E173).other W209 (Ne.symm n121))
  obtain ⟨c214, A_214, p214, S214, P214, H214, G214⟩ := F215
  obtain ⟨T216, h216, X216, e216, W216, st216⟩ := stI X211 hx hZ e211 A_214 (j := (0 : Int32)) (inb_of S214 (by decide)) (g := (mkF m 133 #[(vA a), (vA ls), (vI (3 : Int32)), (vA b173), (vI (1 : Int32)), (vI (0 : Int32)), (vA u0), (vI b0), (vI (0 : Int32))] [(.int (0 : Int32)), (.int (0 : Int32)), (.ref b107)])) rfl rfl (hb hby d18_133)
  refine Dn.of st216 ?_
  show Dn p e below s (own_QSL Z n0 h0 a t0 t1 t2 aDb l0 l1 l2 p0 p1 p2) 5 64 (T216.setTop (mkF m 134 #[(vA a), (vA ls), (vI (3 : Int32)), (vA b173), (vI (1 : Int32)), (vI (0 : Int32)), (vA u0), (vI b0), (vI (0 : Int32))] []))
  have R_214 := Arh.push A_214 p214 S214 P214 H214 G214 (v := (.int (0 : Int32))) rfl W216 (inb_of S214 (by decide))
  have N214 := Fr.snoc X216 N207 gb1
  refine Dn.of (fun tt_ zz_ => XS.aloadN X216.here hx rfl (hb hby d18_134) rfl rfl zz_) ?_
  show Dn p e below s (own_QSL Z n0 h0 a t0 t1 t2 aDb l0 l1 l2 p0 p1 p2) 5 64 (T216.setTop (mkF m 135 #[(vA a), (vA ls), (vI (3 : Int32)), (vA b173), (vI (1 : Int32)), (vI (0 : Int32)), (vA u0), (vI b0), (vI (0 : Int32))] [(.ref a)]))
  have F217 := ((((((F144.same W146).ext E149).other W170 (Or.inr s2_3)).ext E173).other W209 (Or.inl n96)).other W216 (Or.inl n109))
  obtain ⟨T218, X218, e218, st218⟩ := getF X216 hx hZ hown (host := "") (Or.inl (hg 147 rfl)) Via.refl e216 F217 (g := (mkF m 135 #[(vA a), (vA ls), (vI (3 : Int32)), (vA b173), (vI (1 : Int32)), (vI (0 : Int32)), (vA u0), (vI b0), (vI (0 : Int32))] [(.ref a)])) rfl rfl (hb hby d18_135)
  refine Dn.of st218 ?_
  show Dn p e below s (own_QSL Z n0 h0 a t0 t1 t2 aDb l0 l1 l2 p0 p1 p2) 5 64 (T218.setTop (mkF m 138 #[(vA a), (vA ls), (vI (3 : Int32)), (vA b173), (vI (1 : Int32)), (vI (0 : Int32)), (vA u0), (vI b0), (vI (0 : Int32))] [(.ref b127)]))
  refine Dn.of (fun tt_ zz_ => XS.iload X218.here hx rfl (hb hby d18_138) rfl zz_) ?_
  refine Dn.of (fun tt_ zz_ => XS.iload X218.here hx rfl (hb hby d18_140) rfl zz_) ?_
  show Dn p e below s (own_QSL Z n0 h0 a t0 t1 t2 aDb l0 l1 l2 p0 p1 p2) 5 64 (T218.setTop (mkF m 142 #[(vA a), (vA ls), (vI (3 : Int32)), (vA b173), (vI (1 : Int32)), (vI (0 : Int32)), (vA u0), (vI b0), (vI (0 : Int32))] [(.int b0), (.int (0 : Int32)), (.ref b127)]))
  have F219 := (((F174.ext E173).wr W209).wr W216)
  have F220 := ((F194.wr W209).wr W216)
  have F221 := ((F196.other W209 (Or.inl n97)).other W216 (Or.inl n111))
  have F222 := ((F195.other W209 (Or.inl n97)).other W216 (Or.inl n111))
  have F223 := ((F197.other W209 n98).other W216 n113)
  have F224 := ((F198.other W209 n99).other W216 n115)
  have F225 := (((F182.ext E173).other W209 n100).other W216 n117)
  have F226 := (((F184.ext E173).other W209 n101).other W216 n119)
  have F227 := ((F199.wr W209 gb0).wr W216 gb1)
  have F228 := ((F200.wr W209 (Or.inr kb0)).wr W216 (Or.inr kb1))
  have F229 := ((F205.other W209 (Or.inl n96)).other W216 (Or.inl n109))
  have F230 := (F210.other W216 (Or.inl n109))
  have F231 := ((((F168.same W170).ext E173).other W209 (Or.inl n96)).other W216 (Or.inl n109))
  have F232 := (((((((((((F4.ext E95).other W104 (Or.inr s4_0)).ext E107).other W124 (Or.inr s4_1)).ext E127).other W146 (Or.inr s4_2)).ext E149).other W170 (Or.inr s4_3)).ext E173).other W209 (Or.inl n96)).other W216 (Or.inl n109))
  have F233 := (R_207.other W216 n121)
  have F234 := (((F190.ext E173).other W209 (Ne.symm n141)).other W216 (Ne.symm n143))
  have F235 := (((F192.ext E173).other W209 (Ne.symm n163)).other W216 (Ne.symm n165))
  have F236 := (F212.other W216 (Ne.symm n189))
  have K0 : ∀ mk : Int64, mk = own_mask b0 → Dn p e below s (own_QSL Z n0 h0 a t0 t1 t2 aDb l0 l1 l2 p0 p1 p2) 5 64 (T218.setTop (mkF m 158 #[(vA a), (vA ls), (vI (3 : Int32)), (vA b173), (vI (1 : Int32)), (vI (0 : Int32)), (vA u0), (vI b0), (vI (0 : Int32))] [(.long mk), (.int (0 : Int32)), (.ref b127)])) := by
    intro mk hmk
    subst hmk
    show Dn p e below s (own_QSL Z n0 h0 a t0 t1 t2 aDb l0 l1 l2 p0 p1 p2) 5 64 (T218.setTop (mkF m 158 #[(vA a), (vA ls), (vI (3 : Int32)), (vA b173), (vI (1 : Int32)), (vI (0 : Int32)), (vA u0), (vI b0), (vI (0 : Int32))] [(.long (own_mask b0)), (.int (0 : Int32)), (.ref b127)]))
    obtain ⟨c237, A_237, p237, S237, P237, H237, G237⟩ := F234
    obtain ⟨T238, h238, X238, e238, W238, st238⟩ := stJ X218 hx hZ e218 A_237 (j := (0 : Int32)) (inb_of S237 (by decide)) (g := (mkF m 158 #[(vA a), (vA ls), (vI (3 : Int32)), (vA b173), (vI (1 : Int32)), (vI (0 : Int32)), (vA u0), (vI b0), (vI (0 : Int32))] [(.long (own_mask b0)), (.int (0 : Int32)), (.ref b127)])) rfl rfl (hb hby d18_158)
    refine Dn.of st238 ?_
    show Dn p e below s (own_QSL Z n0 h0 a t0 t1 t2 aDb l0 l1 l2 p0 p1 p2) 5 64 (T238.setTop (mkF m 159 #[(vA a), (vA ls), (vI (3 : Int32)), (vA b173), (vI (1 : Int32)), (vI (0 : Int32)), (vA u0), (vI b0), (vI (0 : Int32))] []))
    have R_237 := Arh.push A_237 p237 S237 P237 H237 G237 (v := (.long (own_mask b0))) rfl W238 (inb_of S237 (by decide))
    have N237 := Fr.snoc X238 N214 gb2
    refine Dn.of (fun tt_ zz_ => XS.aloadN X238.here hx rfl (hb hby d18_159) rfl rfl zz_) ?_
    show Dn p e below s (own_QSL Z n0 h0 a t0 t1 t2 aDb l0 l1 l2 p0 p1 p2) 5 64 (T238.setTop (mkF m 160 #[(vA a), (vA ls), (vI (3 : Int32)), (vA b173), (vI (1 : Int32)), (vI (0 : Int32)), (vA u0), (vI b0), (vI (0 : Int32))] [(.ref a)]))
    have F239 := (F231.other W238 (Or.inl n129))
    obtain ⟨T240, X240, e240, st240⟩ := getF X238 hx hZ hown (host := "") (Or.inl (hg 149 rfl)) Via.refl e238 F239 (g := (mkF m 160 #[(vA a), (vA ls), (vI (3 : Int32)), (vA b173), (vI (1 : Int32)), (vI (0 : Int32)), (vA u0), (vI b0), (vI (0 : Int32))] [(.ref a)])) rfl rfl (hb hby d18_160)
    refine Dn.of st240 ?_
    show Dn p e below s (own_QSL Z n0 h0 a t0 t1 t2 aDb l0 l1 l2 p0 p1 p2) 5 64 (T240.setTop (mkF m 163 #[(vA a), (vA ls), (vI (3 : Int32)), (vA b173), (vI (1 : Int32)), (vI (0 : Int32)), (vA u0), (vI b0), (vI (0 : Int32))] [(.ref b149)]))
    refine Dn.of (fun tt_ zz_ => XS.iload X240.here hx rfl (hb hby d18_163) rfl zz_) ?_
    refine Dn.of (fun tt_ zz_ => XS.aload X240.here hx rfl (hb hby d18_165) rfl rfl zz_) ?_
    show Dn p e below s (own_QSL Z n0 h0 a t0 t1 t2 aDb l0 l1 l2 p0 p1 p2) 5 64 (T240.setTop (mkF m 167 #[(vA a), (vA ls), (vI (3 : Int32)), (vA b173), (vI (1 : Int32)), (vI (0 : Int32)), (vA u0), (vI b0), (vI (0 : Int32))] [(.ref u0), (.int (0 : Int32)), (.ref b149)]))
    have F241 := (F227.wr W238 gb2)
    have F242 := (F224.other W238 n135)
    have Ze0 := F241.1 ▸ F241.2.1
    obtain ⟨v243, T243, L243, Q243, X243, st243⟩ := cVi X240 hx hZ (C := "com/example/verify_markov_chains/verifymarkovchains/model/Variable") (y := (⟨"com/example/verify_markov_chains/verifymarkovchains/model/Variable", "getLower", "()I"⟩ : MethodName)) (z := (⟨"com/example/verify_markov_chains/verifymarkovchains/model/Variable", "getLower", "()I"⟩ : MethodName)) hown (hg 188 rfl) (hg 189 rfl) (notFace_of_selects (args := #[]) (mvT hZ (hg 191 rfl))) (hg 191 rfl) (hg 190 rfl) (hg 53 rfl) (hg 192 rfl) (by decide) (a := u0) (argsL := []) (rest := [(.int (0 : Int32)), (.ref b149)]) (rm_getLower l Z a0 hw h238 n0 Ze0 u0 t0 l0 p0 F242) e240 F242.1 2 (by decide) (by decide) (by decide) (by decide) (g := (mkF m 167 #[(vA a), (vA ls), (vI (3 : Int32)), (vA b173), (vI (1 : Int32)), (vI (0 : Int32)), (vA u0), (vI b0), (vI (0 : Int32))] [(.ref u0), (.int (0 : Int32)), (.ref b149)])) rfl (by rw [hml]; rfl) (lenOf pd11 rfl) rfl (by show 2 * 0 + _ ≤ _; exact Nat.le_of_eq rfl) (hb hby d18_167)
    obtain ⟨rfl, Md0, e243⟩ := Q243
    refine Dn.of st243 ?_
    show Dn p e below s (own_QSL Z n0 h0 a t0 t1 t2 aDb l0 l1 l2 p0 p1 p2) 5 64 (T243.setTop (mkF m 170 #[(vA a), (vA ls), (vI (3 : Int32)), (vA b173), (vI (1 : Int32)), (vI (0 : Int32)), (vA u0), (vI b0), (vI (0 : Int32))] [(.int l0), (.int (0 : Int32)), (.ref b149)]))
    have F245 := (F235.other W238 (Ne.symm n167))
    obtain ⟨c244, A_244, p244, S244, P244, H244, G244⟩ := F245
    obtain ⟨T246, h246, X246, e246, W246, st246⟩ := stI X243 hx hZ e243 A_244 (j := (0 : Int32)) (inb_of S244 (by decide)) (g := (mkF m 170 #[(vA a), (vA ls), (vI (3 : Int32)), (vA b173), (vI (1 : Int32)), (vI (0 : Int32)), (vA u0), (vI b0), (vI (0 : Int32))] [(.int l0), (.int (0 : Int32)), (.ref b149)])) rfl rfl (hb hby d18_170)
    refine Dn.of st246 ?_
    show Dn p e below s (own_QSL Z n0 h0 a t0 t1 t2 aDb l0 l1 l2 p0 p1 p2) 5 64 (T246.setTop (mkF m 171 #[(vA a), (vA ls), (vI (3 : Int32)), (vA b173), (vI (1 : Int32)), (vI (0 : Int32)), (vA u0), (vI b0), (vI (0 : Int32))] []))
    have R_244 := Arh.push A_244 p244 S244 P244 H244 G244 (v := (.int l0)) rfl W246 (inb_of S244 (by decide))
    have N244 := Fr.snoc X246 (Fr.app N237 Md0) gb3
    refine Dn.of (fun tt_ zz_ => XS.aloadN X246.here hx rfl (hb hby d18_171) rfl rfl zz_) ?_
    refine Dn.of (fun tt_ zz_ => XS.iload X246.here hx rfl (hb hby d18_172) rfl zz_) ?_
    refine Dn.of (fun tt_ zz_ => XT.dup2 X246.here hx rfl (hb hby d18_174) rfl rfl rfl zz_) ?_
    show Dn p e below s (own_QSL Z n0 h0 a t0 t1 t2 aDb l0 l1 l2 p0 p1 p2) 5 64 (T246.setTop (mkF m 175 #[(vA a), (vA ls), (vI (3 : Int32)), (vA b173), (vI (1 : Int32)), (vI (0 : Int32)), (vA u0), (vI b0), (vI (0 : Int32))] [(.int (0 : Int32)), (.ref b173), (.int (0 : Int32)), (.ref b173)]))
    have F247 := ((F236.other W238 (Ne.symm n191)).other W246 (Ne.symm n193))
    have Rr248 := F247
    obtain ⟨d248, B_248, _, Sd248, _, Hd248, _⟩ := Rr248
    refine Dn.of (fun tt_ zz_ => X246.iaload hx (j := (0 : Int32)) (v := (.int (0 : Int32))) (by rw [e246]; exact B_248.1) (State.isArrayOf_alike hZ.alike B_248.2.1) B_248.2.2 (inb_of Sd248 (by decide)) (atH Hd248 (inb_of Sd248 (by decide)) rfl) (g := (mkF m 175 #[(vA a), (vA ls), (vI (3 : Int32)), (vA b173), (vI (1 : Int32)), (vI (0 : Int32)), (vA u0), (vI b0), (vI (0 : Int32))] [(.int (0 : Int32)), (.ref b173), (.int (0 : Int32)), (.ref b173)])) rfl rfl (hb hby d18_175) tt_ zz_) ?_
    show Dn p e below s (own_QSL Z n0 h0 a t0 t1 t2 aDb l0 l1 l2 p0 p1 p2) 5 64 (T246.setTop (mkF m 176 #[(vA a), (vA ls), (vI (3 : Int32)), (vA b173), (vI (1 : Int32)), (vI (0 : Int32)), (vA u0), (vI b0), (vI (0 : Int32))] [(.int (0 : Int32)), (.int (0 : Int32)), (.ref b173)]))
    refine Dn.of (fun tt_ zz_ => XS.iload X246.here hx rfl (hb hby d18_176) rfl zz_) ?_
    refine Dn.of (fun tt_ zz_ => XS.iadd X246.here hx rfl (hb hby d18_178) rfl zz_) ?_
    show Dn p e below s (own_QSL Z n0 h0 a t0 t1 t2 aDb l0 l1 l2 p0 p1 p2) 5 64 (T246.setTop (mkF m 179 #[(vA a), (vA ls), (vI (3 : Int32)), (vA b173), (vI (1 : Int32)), (vI (0 : Int32)), (vA u0), (vI b0), (vI (0 : Int32))] [(.int ((0 : Int32) + b0)), (.int (0 : Int32)), (.ref b173)]))
    rw [show ((0 : Int32) + b0) = b0 from Int32.zero_add b0]
    show Dn p e below s (own_QSL Z n0 h0 a t0 t1 t2 aDb l0 l1 l2 p0 p1 p2) 5 64 (T246.setTop (mkF m 179 #[(vA a), (vA ls), (vI (3 : Int32)), (vA b173), (vI (1 : Int32)), (vI (0 : Int32)), (vA u0), (vI b0), (vI (0 : Int32))] [(.int b0), (.int (0 : Int32)), (.ref b173)]))
    obtain ⟨c249, A_249, p249, S249, P249, H249, G249⟩ := F247
    obtain ⟨T250, h250, X250, e250, W250, st250⟩ := stI X246 hx hZ e246 A_249 (j := (0 : Int32)) (inb_of S249 (by decide)) (g := (mkF m 179 #[(vA a), (vA ls), (vI (3 : Int32)), (vA b173), (vI (1 : Int32)), (vI (0 : Int32)), (vA u0), (vI b0), (vI (0 : Int32))] [(.int b0), (.int (0 : Int32)), (.ref b173)])) rfl rfl (hb hby d18_179)
    refine Dn.of st250 ?_
    show Dn p e below s (own_QSL Z n0 h0 a t0 t1 t2 aDb l0 l1 l2 p0 p1 p2) 5 64 (T250.setTop (mkF m 180 #[(vA a), (vA ls), (vI (3 : Int32)), (vA b173), (vI (1 : Int32)), (vI (0 : Int32)), (vA u0), (vI b0), (vI (0 : Int32))] []))
    have R_249 := Arh.push A_249 p249 S249 P249 H249 G249 (v := (.int b0)) rfl W250 (inb_of S249 (by decide))
    have N249 := Fr.snoc X250 N244 gb4
    refine Dn.of (fun tt_ zz_ => XS.iinc X250.here hx rfl (hb hby d18_180) rfl (l' := #[(vA a), (vA ls), (vI (3 : Int32)), (vA b173), (vI (1 : Int32)), (vI ((0 : Int32) + (1 : Int32))), (vA u0), (vI b0), (vI (0 : Int32))]) rfl zz_) ?_
    refine Dn.of (fun tt_ zz_ => XS.goto X250.here hx rfl (pc0 := 183) (pc' := 49) rfl (hb hby d18_183) (by decide) (by decide) zz_) ?_
    show Dn p e below s (own_QSL Z n0 h0 a t0 t1 t2 aDb l0 l1 l2 p0 p1 p2) 5 64 (T250.setTop (mkF m 49 #[(vA a), (vA ls), (vI (3 : Int32)), (vA b173), (vI (1 : Int32)), (vI ((0 : Int32) + (1 : Int32))), (vA u0), (vI b0), (vI (0 : Int32))] []))
    rw [show ((0 : Int32) + (1 : Int32)) = (1 : Int32) by decide]
    show Dn p e below s (own_QSL Z n0 h0 a t0 t1 t2 aDb l0 l1 l2 p0 p1 p2) 5 64 (T250.setTop (mkF m 49 #[(vA a), (vA ls), (vI (3 : Int32)), (vA b173), (vI (1 : Int32)), (vI (1 : Int32)), (vA u0), (vI b0), (vI (0 : Int32))] []))
    refine Dn.of (fun tt_ zz_ => XS.iload X250.here hx rfl (hb hby d18_49) rfl zz_) ?_
    refine Dn.of (fun tt_ zz_ => XS.iloadN X250.here hx rfl (hb hby d18_51) rfl zz_) ?_
    show Dn p e below s (own_QSL Z n0 h0 a t0 t1 t2 aDb l0 l1 l2 p0 p1 p2) 5 64 (T250.setTop (mkF m 52 #[(vA a), (vA ls), (vI (3 : Int32)), (vA b173), (vI (1 : Int32)), (vI (1 : Int32)), (vA u0), (vI b0), (vI (0 : Int32))] [(.int (3 : Int32)), (.int (1 : Int32))]))
    refine Dn.of (fun tt_ zz_ => XS.icmpNo X250.here hx rfl (hb hby d18_52) rfl (tlt (by decide)).2.1 zz_) ?_
    show Dn p e below s (own_QSL Z n0 h0 a t0 t1 t2 aDb l0 l1 l2 p0 p1 p2) 5 64 (T250.setTop (mkF m 55 #[(vA a), (vA ls), (vI (3 : Int32)), (vA b173), (vI (1 : Int32)), (vI (1 : Int32)), (vA u0), (vI b0), (vI (0 : Int32))] []))
    refine Dn.of (fun tt_ zz_ => XS.aloadN X250.here hx rfl (hb hby d18_55) rfl rfl zz_) ?_
    refine Dn.of (fun tt_ zz_ => XS.iload X250.here hx rfl (hb hby d18_56) rfl zz_) ?_
    show Dn p e below s (own_QSL Z n0 h0 a t0 t1 t2 aDb l0 l1 l2 p0 p1 p2) 5 64 (T250.setTop (mkF m 58 #[(vA a), (vA ls), (vI (3 : Int32)), (vA b173), (vI (1 : Int32)), (vI (1 : Int32)), (vA u0), (vI b0), (vI (0 : Int32))] [(.int (1 : Int32)), (.ref ls)]))
    have F251 := (((F220.wr W238).wr W246).wr W250)
    have F252 := (((F222.other W238 (Or.inl n131)).other W246 (Or.inl n153)).other W250 (Or.inl n177))
    have F253 := (((F221.other W238 (Or.inl n131)).other W246 (Or.inl n153)).other W250 (Or.inl n177))
    have F254 := (((F223.other W238 n133).other W246 n155).other W250 n179)
    have F255 := (((F225.other W238 n137).other W246 n159).other W250 n183)
    have F256 := ((F241.wr W246 gb3).wr W250 gb4)
    have F257 := (((F228.wr W238 (Or.inr kb2)).wr W246 (Or.inr kb3)).wr W250 (Or.inr kb4))
    have Zc1 := F256.1 ▸ F256.2.1
    obtain ⟨v258, T258, L258, Q258, X258, st258⟩ := cFa X250 hx hZ (C := "java/util/ArrayList") (y := (⟨"java/util/List", "get", "(I)Ljava/lang/Object;"⟩ : MethodName)) (z := (⟨"java/util/ArrayList", "get", "(I)Ljava/lang/Object;"⟩ : MethodName)) hown (hg 151 rfl) (hg 152 rfl) (mvT hZ (hg 153 rfl)) (hg 154 rfl) (hg 155 rfl) (hg 156 rfl) (hg 157 rfl) (hg 139 rfl) (hg 19 rfl) (hg 158 rfl) (by decide) (a := ls) (argsL := [(.int (1 : Int32))]) (rest := []) (rmGet l Z a0 hw h250 n0 Zc1 ls bE u1 k [((2 : Int32), .ref u2), ((1 : Int32), .ref u1), ((0 : Int32), .ref u0)] (1 : Int32) (3 : Int32) (by decide) (by decide) F251 F252 F253 F254 rfl) e250 F251 0 (by decide) (by decide) (by decide) (by decide) (g := (mkF m 58 #[(vA a), (vA ls), (vI (3 : Int32)), (vA b173), (vI (1 : Int32)), (vI (1 : Int32)), (vA u0), (vI b0), (vI (0 : Int32))] [(.int (1 : Int32)), (.ref ls)])) rfl (by rw [hml]; rfl) (lenOf pd8 rfl) rfl (by show 2 * 0 + _ ≤ _; exact Nat.le_of_eq rfl) (hb hby d18_58)
    obtain ⟨rfl, Ma1, e258⟩ := Q258
    refine Dn.of st258 ?_
    show Dn p e below s (own_QSL Z n0 h0 a t0 t1 t2 aDb l0 l1 l2 p0 p1 p2) 5 64 (T258.setTop (mkF m 63 #[(vA a), (vA ls), (vI (3 : Int32)), (vA b173), (vI (1 : Int32)), (vI (1 : Int32)), (vA u0), (vI b0), (vI (0 : Int32))] [(.ref u1)]))
    obtain ⟨T259, X259, e259, st259⟩ := castY X258 hx hZ hown (hg 172 rfl) e258 (Ins.self F255.1) (g := (mkF m 63 #[(vA a), (vA ls), (vI (3 : Int32)), (vA b173), (vI (1 : Int32)), (vI (1 : Int32)), (vA u0), (vI b0), (vI (0 : Int32))] [(.ref u1)])) rfl rfl (hb hby d18_63)
    refine Dn.of st259 ?_
    show Dn p e below s (own_QSL Z n0 h0 a t0 t1 t2 aDb l0 l1 l2 p0 p1 p2) 5 64 (T259.setTop (mkF m 66 #[(vA a), (vA ls), (vI (3 : Int32)), (vA b173), (vI (1 : Int32)), (vI (1 : Int32)), (vA u0), (vI b0), (vI (0 : Int32))] [(.ref u1)]))
    refine Dn.of (fun tt_ zz_ => XS.astore X259.here hx rfl (hb hby d18_66) rfl rfl (l' := #[(vA a), (vA ls), (vI (3 : Int32)), (vA b173), (vI (1 : Int32)), (vI (1 : Int32)), (vA u1), (vI b0), (vI (0 : Int32))]) rfl zz_) ?_
    refine Dn.of (fun tt_ zz_ => XS.aload X259.here hx rfl (hb hby d18_68) rfl rfl zz_) ?_
    show Dn p e below s (own_QSL Z n0 h0 a t0 t1 t2 aDb l0 l1 l2 p0 p1 p2) 5 64 (T259.setTop (mkF m 70 #[(vA a), (vA ls), (vI (3 : Int32)), (vA b173), (vI (1 : Int32)), (vI (1 : Int32)), (vA u1), (vI b0), (vI (0 : Int32))] [(.ref u1)]))
    obtain ⟨v260, T260, L260, Q260, X260, st260⟩ := cSt X259 hx hZ (y := (⟨"com/example/verify_markov_chains/verifymarkovchains/explicit/StateLayout", "bitsOf", "(Lcom/example/verify_markov_chains/verifymarkovchains/model/Variable;)I"⟩ : MethodName)) hown (hg 174 rfl) (hg 175 rfl) (hg 127 rfl) (hg 176 rfl) (by decide) (argsL := [(.ref u1)]) (rest := []) (rmBO l Z a0 hw h250 n0 Zc1 u1 t1 aDb l1 p1 c1 SDb F256 F255) e259  0 (by decide) (by decide) (by decide) (by decide) (g := (mkF m 70 #[(vA a), (vA ls), (vI (3 : Int32)), (vA b173), (vI (1 : Int32)), (vI (1 : Int32)), (vA u1), (vI b0), (vI (0 : Int32))] [(.ref u1)])) rfl (by rw [hml]; rfl) (lenOf pd13 rfl) rfl (by show 2 * 0 + _ ≤ _; exact Nat.le_of_eq rfl) (hb hby d18_70)
    obtain ⟨⟨b1, rfl, B1⟩, Mb1, e260⟩ := Q260
    refine Dn.of st260 ?_
    show Dn p e below s (own_QSL Z n0 h0 a t0 t1 t2 aDb l0 l1 l2 p0 p1 p2) 5 64 (T260.setTop (mkF m 73 #[(vA a), (vA ls), (vI (3 : Int32)), (vA b173), (vI (1 : Int32)), (vI (1 : Int32)), (vA u1), (vI b0), (vI (0 : Int32))] [(.int b1)]))
    have Nx1 := Fr.app (Fr.app N249 Ma1) Mb1
    refine Dn.of (fun tt_ zz_ => XS.istore X260.here hx rfl (hb hby d18_73) rfl (l' := #[(vA a), (vA ls), (vI (3 : Int32)), (vA b173), (vI (1 : Int32)), (vI (1 : Int32)), (vA u1), (vI b1), (vI (0 : Int32))]) rfl zz_) ?_
    refine Dn.of (fun tt_ zz_ => XS.iconst X260.here hx rfl (hb hby d18_75) zz_) ?_
    refine Dn.of (fun tt_ zz_ => XS.istore X260.here hx rfl (hb hby d18_76) rfl (l' := #[(vA a), (vA ls), (vI (3 : Int32)), (vA b173), (vI (1 : Int32)), (vI (1 : Int32)), (vA u1), (vI b1), (vI (0 : Int32))]) rfl zz_) ?_
    refine Dn.of (fun tt_ zz_ => XS.iload X260.here hx rfl (hb hby d18_78) rfl zz_) ?_
    show Dn p e below s (own_QSL Z n0 h0 a t0 t1 t2 aDb l0 l1 l2 p0 p1 p2) 5 64 (T260.setTop (mkF m 80 #[(vA a), (vA ls), (vI (3 : Int32)), (vA b173), (vI (1 : Int32)), (vI (1 : Int32)), (vA u1), (vI b1), (vI (0 : Int32))] [(.int (0 : Int32))]))
    refine Dn.of (fun tt_ zz_ => XS.iload X260.here hx rfl (hb hby d18_80) rfl zz_) ?_
    show Dn p e below s (own_QSL Z n0 h0 a t0 t1 t2 aDb l0 l1 l2 p0 p1 p2) 5 64 (T260.setTop (mkF m 82 #[(vA a), (vA ls), (vI (3 : Int32)), (vA b173), (vI (1 : Int32)), (vI (1 : Int32)), (vA u1), (vI b1), (vI (0 : Int32))] [(.int (1 : Int32)), (.int (0 : Int32))]))
    refine Dn.of (fun tt_ zz_ => XS.icmpNo X260.here hx rfl (hb hby d18_82) rfl (tlt (by decide)).2.1 zz_) ?_
    show Dn p e below s (own_QSL Z n0 h0 a t0 t1 t2 aDb l0 l1 l2 p0 p1 p2) 5 64 (T260.setTop (mkF m 85 #[(vA a), (vA ls), (vI (3 : Int32)), (vA b173), (vI (1 : Int32)), (vI (1 : Int32)), (vA u1), (vI b1), (vI (0 : Int32))] []))
    refine Dn.of (fun tt_ zz_ => XS.aloadN X260.here hx rfl (hb hby d18_85) rfl rfl zz_) ?_
    refine Dn.of (fun tt_ zz_ => XS.iload X260.here hx rfl (hb hby d18_86) rfl zz_) ?_
    show Dn p e below s (own_QSL Z n0 h0 a t0 t1 t2 aDb l0 l1 l2 p0 p1 p2) 5 64 (T260.setTop (mkF m 88 #[(vA a), (vA ls), (vI (3 : Int32)), (vA b173), (vI (1 : Int32)), (vI (1 : Int32)), (vA u1), (vI b1), (vI (0 : Int32))] [(.int (0 : Int32)), (.ref b173)]))
    have Rr261 := R_249
    obtain ⟨d261, B_261, _, Sd261, _, Hd261, _⟩ := Rr261
    refine Dn.of (fun tt_ zz_ => X260.iaload hx (j := (0 : Int32)) (v := (.int b0)) (by rw [e260]; exact B_261.1) (State.isArrayOf_alike hZ.alike B_261.2.1) B_261.2.2 (inb_of Sd261 (by decide)) (atH Hd261 (inb_of Sd261 (by decide)) rfl) (g := (mkF m 88 #[(vA a), (vA ls), (vI (3 : Int32)), (vA b173), (vI (1 : Int32)), (vI (1 : Int32)), (vA u1), (vI b1), (vI (0 : Int32))] [(.int (0 : Int32)), (.ref b173)])) rfl rfl (hb hby d18_88) tt_ zz_) ?_
    show Dn p e below s (own_QSL Z n0 h0 a t0 t1 t2 aDb l0 l1 l2 p0 p1 p2) 5 64 (T260.setTop (mkF m 89 #[(vA a), (vA ls), (vI (3 : Int32)), (vA b173), (vI (1 : Int32)), (vI (1 : Int32)), (vA u1), (vI b1), (vI (0 : Int32))] [(.int b0)]))
    refine Dn.of (fun tt_ zz_ => XS.iload X260.here hx rfl (hb hby d18_89) rfl zz_) ?_
    refine Dn.of (fun tt_ zz_ => XS.iadd X260.here hx rfl (hb hby d18_91) rfl zz_) ?_
    refine Dn.of (fun tt_ zz_ => XS.bipush X260.here hx rfl (hb hby d18_92) zz_) ?_
    show Dn p e below s (own_QSL Z n0 h0 a t0 t1 t2 aDb l0 l1 l2 p0 p1 p2) 5 64 (T260.setTop (mkF m 94 #[(vA a), (vA ls), (vI (3 : Int32)), (vA b173), (vI (1 : Int32)), (vI (1 : Int32)), (vA u1), (vI b1), (vI (0 : Int32))] [(.int (64 : Int32)), (.int (b0 + b1))]))
    refine Dn.of (fun tt_ zz_ => XS.icmpYes X260.here hx rfl (pc0 := 94) (pc' := 103) rfl (hb hby d18_94) rfl (flt (own_64 B0 B1)).2.2.2 (by decide) (by decide) zz_) ?_
    show Dn p e below s (own_QSL Z n0 h0 a t0 t1 t2 aDb l0 l1 l2 p0 p1 p2) 5 64 (T260.setTop (mkF m 103 #[(vA a), (vA ls), (vI (3 : Int32)), (vA b173), (vI (1 : Int32)), (vI (1 : Int32)), (vA u1), (vI b1), (vI (0 : Int32))] []))
    refine Dn.of (fun tt_ zz_ => XS.iload X260.here hx rfl (hb hby d18_103) rfl zz_) ?_
    refine Dn.of (fun tt_ zz_ => XS.iload X260.here hx rfl (hb hby d18_105) rfl zz_) ?_
    refine Dn.of (fun tt_ zz_ => XS.iconst X260.here hx rfl (hb hby d18_107) zz_) ?_
    refine Dn.of (fun tt_ zz_ => XS.iadd X260.here hx rfl (hb hby d18_108) rfl zz_) ?_
    show Dn p e below s (own_QSL Z n0 h0 a t0 t1 t2 aDb l0 l1 l2 p0 p1 p2) 5 64 (T260.setTop (mkF m 109 #[(vA a), (vA ls), (vI (3 : Int32)), (vA b173), (vI (1 : Int32)), (vI (1 : Int32)), (vA u1), (vI b1), (vI (0 : Int32))] [(.int ((0 : Int32) + (1 : Int32))), (.int (1 : Int32))]))
    have Zd1 := F256.1 ▸ F256.2.1
    obtain ⟨v262, T262, L262, Q262, X262, st262⟩ := cSt X260 hx hZ (y := (⟨"java/lang/Math", "max", "(II)I"⟩ : MethodName)) hown (hg 202 rfl) (hg 12 rfl) (hg 6 rfl) (hg 13 rfl) (by decide) (argsL := [(.int (1 : Int32)), (.int ((0 : Int32) + (1 : Int32)))]) (rest := []) (rm_max l Z a0 hw h250 n0 Zd1 (1 : Int32) ((0 : Int32) + (1 : Int32))) e260  0 (by decide) (by decide) (by decide) (by decide) (g := (mkF m 109 #[(vA a), (vA ls), (vI (3 : Int32)), (vA b173), (vI (1 : Int32)), (vI (1 : Int32)), (vA u1), (vI b1), (vI (0 : Int32))] [(.int ((0 : Int32) + (1 : Int32))), (.int (1 : Int32))])) rfl (by rw [hml]; rfl) (lenOf pd0 rfl) rfl (by show 2 * 0 + _ ≤ _; exact Nat.le_of_eq rfl) (hb hby d18_109)
    rw [show own_max (1 : Int32) ((0 : Int32) + (1 : Int32)) = (1 : Int32) by decide] at Q262
    obtain ⟨rfl, Mc1, e262⟩ := Q262
    refine Dn.of st262 ?_
    show Dn p e below s (own_QSL Z n0 h0 a t0 t1 t2 aDb l0 l1 l2 p0 p1 p2) 5 64 (T262.setTop (mkF m 112 #[(vA a), (vA ls), (vI (3 : Int32)), (vA b173), (vI (1 : Int32)), (vI (1 : Int32)), (vA u1), (vI b1), (vI (0 : Int32))] [(.int (1 : Int32))]))
    refine Dn.of (fun tt_ zz_ => XS.istore X262.here hx rfl (hb hby d18_112) rfl (l' := #[(vA a), (vA ls), (vI (3 : Int32)), (vA b173), (vI (1 : Int32)), (vI (1 : Int32)), (vA u1), (vI b1), (vI (0 : Int32))]) rfl zz_) ?_
    refine Dn.of (fun tt_ zz_ => XS.aloadN X262.here hx rfl (hb hby d18_114) rfl rfl zz_) ?_
    show Dn p e below s (own_QSL Z n0 h0 a t0 t1 t2 aDb l0 l1 l2 p0 p1 p2) 5 64 (T262.setTop (mkF m 115 #[(vA a), (vA ls), (vI (3 : Int32)), (vA b173), (vI (1 : Int32)), (vI (1 : Int32)), (vA u1), (vI b1), (vI (0 : Int32))] [(.ref a)]))
    have F263 := (((F229.other W238 (Or.inl n129)).other W246 (Or.inl n151)).other W250 (Or.inl n175))
    obtain ⟨T264, X264, e264, st264⟩ := getF X262 hx hZ hown (host := "") (Or.inl (hg 142 rfl)) Via.refl e262 F263 (g := (mkF m 115 #[(vA a), (vA ls), (vI (3 : Int32)), (vA b173), (vI (1 : Int32)), (vI (1 : Int32)), (vA u1), (vI b1), (vI (0 : Int32))] [(.ref a)])) rfl rfl (hb hby d18_115)
    refine Dn.of st264 ?_
    show Dn p e below s (own_QSL Z n0 h0 a t0 t1 t2 aDb l0 l1 l2 p0 p1 p2) 5 64 (T264.setTop (mkF m 118 #[(vA a), (vA ls), (vI (3 : Int32)), (vA b173), (vI (1 : Int32)), (vI (1 : Int32)), (vA u1), (vI b1), (vI (0 : Int32))] [(.ref b95)]))
    refine Dn.of (fun tt_ zz_ => XS.iload X264.here hx rfl (hb hby d18_118) rfl zz_) ?_
    refine Dn.of (fun tt_ zz_ => XS.iload X264.here hx rfl (hb hby d18_120) rfl zz_) ?_
    show Dn p e below s (own_QSL Z n0 h0 a t0 t1 t2 aDb l0 l1 l2 p0 p1 p2) 5 64 (T264.setTop (mkF m 122 #[(vA a), (vA ls), (vI (3 : Int32)), (vA b173), (vI (1 : Int32)), (vI (1 : Int32)), (vA u1), (vI b1), (vI (0 : Int32))] [(.int (0 : Int32)), (.int (1 : Int32)), (.ref b95)]))
    have F266 := (((F233.other W238 n141).other W246 n163).other W250 n187)
    obtain ⟨c265, A_265, p265, S265, P265, H265, G265⟩ := F266
    obtain ⟨T267, h267, X267, e267, W267, st267⟩ := stI X264 hx hZ e264 A_265 (j := (1 : Int32)) (inb_of S265 (by decide)) (g := (mkF m 122 #[(vA a), (vA ls), (vI (3 : Int32)), (vA b173), (vI (1 : Int32)), (vI (1 : Int32)), (vA u1), (vI b1), (vI (0 : Int32))] [(.int (0 : Int32)), (.int (1 : Int32)), (.ref b95)])) rfl rfl (hb hby d18_122)
    refine Dn.of st267 ?_
    show Dn p e below s (own_QSL Z n0 h0 a t0 t1 t2 aDb l0 l1 l2 p0 p1 p2) 5 64 (T267.setTop (mkF m 123 #[(vA a), (vA ls), (vI (3 : Int32)), (vA b173), (vI (1 : Int32)), (vI (1 : Int32)), (vA u1), (vI b1), (vI (0 : Int32))] []))
    have R_265 := Arh.push A_265 p265 S265 P265 H265 G265 (v := (.int (0 : Int32))) rfl W267 (inb_of S265 (by decide))
    have N265 := Fr.snoc X267 (Fr.app Nx1 Mc1) gb0
    refine Dn.of (fun tt_ zz_ => XS.aloadN X267.here hx rfl (hb hby d18_123) rfl rfl zz_) ?_
    show Dn p e below s (own_QSL Z n0 h0 a t0 t1 t2 aDb l0 l1 l2 p0 p1 p2) 5 64 (T267.setTop (mkF m 124 #[(vA a), (vA ls), (vI (3 : Int32)), (vA b173), (vI (1 : Int32)), (vI (1 : Int32)), (vA u1), (vI b1), (vI (0 : Int32))] [(.ref a)]))
    have F268 := ((((F230.other W238 (Or.inl n129)).other W246 (Or.inl n151)).other W250 (Or.inl n175)).other W267 (Or.inl n96))
    obtain ⟨T269, X269, e269, st269⟩ := getF X267 hx hZ hown (host := "") (Or.inl (hg 144 rfl)) Via.refl e267 F268 (g := (mkF m 124 #[(vA a), (vA ls), (vI (3 : Int32)), (vA b173), (vI (1 : Int32)), (vI (1 : Int32)), (vA u1), (vI b1), (vI (0 : Int32))] [(.ref a)])) rfl rfl (hb hby d18_124)
    refine Dn.of st269 ?_
    show Dn p e below s (own_QSL Z n0 h0 a t0 t1 t2 aDb l0 l1 l2 p0 p1 p2) 5 64 (T269.setTop (mkF m 127 #[(vA a), (vA ls), (vI (3 : Int32)), (vA b173), (vI (1 : Int32)), (vI (1 : Int32)), (vA u1), (vI b1), (vI (0 : Int32))] [(.ref b107)]))
    refine Dn.of (fun tt_ zz_ => XS.iload X269.here hx rfl (hb hby d18_127) rfl zz_) ?_
    refine Dn.of (fun tt_ zz_ => XS.aloadN X269.here hx rfl (hb hby d18_129) rfl rfl zz_) ?_
    refine Dn.of (fun tt_ zz_ => XS.iload X269.here hx rfl (hb hby d18_130) rfl zz_) ?_
    show Dn p e below s (own_QSL Z n0 h0 a t0 t1 t2 aDb l0 l1 l2 p0 p1 p2) 5 64 (T269.setTop (mkF m 132 #[(vA a), (vA ls), (vI (3 : Int32)), (vA b173), (vI (1 : Int32)), (vI (1 : Int32)), (vA u1), (vI b1), (vI (0 : Int32))] [(.int (0 : Int32)), (.ref b173), (.int (1 : Int32)), (.ref b107)]))
    have F270 := (R_249.other W267 (Ne.symm n187))
    have Rr271 := F270
    obtain ⟨d271, B_271, _, Sd271, _, Hd271, _⟩ := Rr271
    refine Dn.of (fun tt_ zz_ => X269.iaload hx (j := (0 : Int32)) (v := (.int b0)) (by rw [e269]; exact B_271.1) (State.isArrayOf_alike hZ.alike B_271.2.1) B_271.2.2 (inb_of Sd271 (by decide)) (atH Hd271 (inb_of Sd271 (by decide)) rfl) (g := (mkF m 132 #[(vA a), (vA ls), (vI (3 : Int32)), (vA b173), (vI (1 : Int32)), (vI (1 : Int32)), (vA u1), (vI b1), (vI (0 : Int32))] [(.int (0 : Int32)), (.ref b173), (.int (1 : Int32)), (.ref b107)])) rfl rfl (hb hby d18_132) tt_ zz_) ?_
    show Dn p e below s (own_QSL Z n0 h0 a t0 t1 t2 aDb l0 l1 l2 p0 p1 p2) 5 64 (T269.setTop (mkF m 133 #[(vA a), (vA ls), (vI (3 : Int32)), (vA b173), (vI (1 : Int32)), (vI (1 : Int32)), (vA u1), (vI b1), (vI (0 : Int32))] [(.int b0), (.int (1 : Int32)), (.ref b107)]))
    have F273 := ((((R_214.other W238 n143).other W246 n165).other W250 n189).other W267 (Ne.symm n121))
    obtain ⟨c272, A_272, p272, S272, P272, H272, G272⟩ := F273
    obtain ⟨T274, h274, X274, e274, W274, st274⟩ := stI X269 hx hZ e269 A_272 (j := (1 : Int32)) (inb_of S272 (by decide)) (g := (mkF m 133 #[(vA a), (vA ls), (vI (3 : Int32)), (vA b173), (vI (1 : Int32)), (vI (1 : Int32)), (vA u1), (vI b1), (vI (0 : Int32))] [(.int b0), (.int (1 : Int32)), (.ref b107)])) rfl rfl (hb hby d18_133)
    refine Dn.of st274 ?_
    show Dn p e below s (own_QSL Z n0 h0 a t0 t1 t2 aDb l0 l1 l2 p0 p1 p2) 5 64 (T274.setTop (mkF m 134 #[(vA a), (vA ls), (vI (3 : Int32)), (vA b173), (vI (1 : Int32)), (vI (1 : Int32)), (vA u1), (vI b1), (vI (0 : Int32))] []))
    have R_272 := Arh.push A_272 p272 S272 P272 H272 G272 (v := (.int b0)) rfl W274 (inb_of S272 (by decide))
    have N272 := Fr.snoc X274 N265 gb1
    refine Dn.of (fun tt_ zz_ => XS.aloadN X274.here hx rfl (hb hby d18_134) rfl rfl zz_) ?_
    show Dn p e below s (own_QSL Z n0 h0 a t0 t1 t2 aDb l0 l1 l2 p0 p1 p2) 5 64 (T274.setTop (mkF m 135 #[(vA a), (vA ls), (vI (3 : Int32)), (vA b173), (vI (1 : Int32)), (vI (1 : Int32)), (vA u1), (vI b1), (vI (0 : Int32))] [(.ref a)]))
    have F275 := (((((F217.other W238 (Or.inl n129)).other W246 (Or.inl n151)).other W250 (Or.inl n175)).other W267 (Or.inl n96)).other W274 (Or.inl n109))
    obtain ⟨T276, X276, e276, st276⟩ := getF X274 hx hZ hown (host := "") (Or.inl (hg 147 rfl)) Via.refl e274 F275 (g := (mkF m 135 #[(vA a), (vA ls), (vI (3 : Int32)), (vA b173), (vI (1 : Int32)), (vI (1 : Int32)), (vA u1), (vI b1), (vI (0 : Int32))] [(.ref a)])) rfl rfl (hb hby d18_135)
    refine Dn.of st276 ?_
    show Dn p e below s (own_QSL Z n0 h0 a t0 t1 t2 aDb l0 l1 l2 p0 p1 p2) 5 64 (T276.setTop (mkF m 138 #[(vA a), (vA ls), (vI (3 : Int32)), (vA b173), (vI (1 : Int32)), (vI (1 : Int32)), (vA u1), (vI b1), (vI (0 : Int32))] [(.ref b127)]))
    refine Dn.of (fun tt_ zz_ => XS.iload X276.here hx rfl (hb hby d18_138) rfl zz_) ?_
    refine Dn.of (fun tt_ zz_ => XS.iload X276.here hx rfl (hb hby d18_140) rfl zz_) ?_
    show Dn p e below s (own_QSL Z n0 h0 a t0 t1 t2 aDb l0 l1 l2 p0 p1 p2) 5 64 (T276.setTop (mkF m 142 #[(vA a), (vA ls), (vI (3 : Int32)), (vA b173), (vI (1 : Int32)), (vI (1 : Int32)), (vA u1), (vI b1), (vI (0 : Int32))] [(.int b1), (.int (1 : Int32)), (.ref b127)]))
    have F277 := (((((F219.wr W238).wr W246).wr W250).wr W267).wr W274)
    have F278 := ((F251.wr W267).wr W274)
    have F279 := ((F253.other W267 (Or.inl n97)).other W274 (Or.inl n111))
    have F280 := ((F252.other W267 (Or.inl n97)).other W274 (Or.inl n111))
    have F281 := ((F254.other W267 n98).other W274 n113)
    have F282 := ((((F242.other W246 n157).other W250 n181).other W267 n99).other W274 n115)
    have F283 := ((F255.other W267 n100).other W274 n117)
    have F284 := (((((F226.other W238 n139).other W246 n161).other W250 n185).other W267 n101).other W274 n119)
    have F285 := ((F256.wr W267 gb0).wr W274 gb1)
    have F286 := ((F257.wr W267 (Or.inr kb0)).wr W274 (Or.inr kb1))
    have F287 := ((F263.other W267 (Or.inl n96)).other W274 (Or.inl n109))
    have F288 := (F268.other W274 (Or.inl n109))
    have F289 := ((((F239.other W246 (Or.inl n151)).other W250 (Or.inl n175)).other W267 (Or.inl n96)).other W274 (Or.inl n109))
    have F290 := (((((F232.other W238 (Or.inl n129)).other W246 (Or.inl n151)).other W250 (Or.inl n175)).other W267 (Or.inl n96)).other W274 (Or.inl n109))
    have F291 := (R_265.other W274 n121)
    have F292 := ((((R_237.other W246 n167).other W250 n191).other W267 (Ne.symm n141)).other W274 (Ne.symm n143))
    have F293 := (((R_244.other W250 n193).other W267 (Ne.symm n163)).other W274 (Ne.symm n165))
    have F294 := (F270.other W274 (Ne.symm n189))
    have K1 : ∀ mk : Int64, mk = own_mask b1 → Dn p e below s (own_QSL Z n0 h0 a t0 t1 t2 aDb l0 l1 l2 p0 p1 p2) 5 64 (T276.setTop (mkF m 158 #[(vA a), (vA ls), (vI (3 : Int32)), (vA b173), (vI (1 : Int32)), (vI (1 : Int32)), (vA u1), (vI b1), (vI (0 : Int32))] [(.long mk), (.int (1 : Int32)), (.ref b127)])) := by
      intro mk hmk
      subst hmk
      show Dn p e below s (own_QSL Z n0 h0 a t0 t1 t2 aDb l0 l1 l2 p0 p1 p2) 5 64 (T276.setTop (mkF m 158 #[(vA a), (vA ls), (vI (3 : Int32)), (vA b173), (vI (1 : Int32)), (vI (1 : Int32)), (vA u1), (vI b1), (vI (0 : Int32))] [(.long (own_mask b1)), (.int (1 : Int32)), (.ref b127)]))
      obtain ⟨c295, A_295, p295, S295, P295, H295, G295⟩ := F292
      obtain ⟨T296, h296, X296, e296, W296, st296⟩ := stJ X276 hx hZ e276 A_295 (j := (1 : Int32)) (inb_of S295 (by decide)) (g := (mkF m 158 #[(vA a), (vA ls), (vI (3 : Int32)), (vA b173), (vI (1 : Int32)), (vI (1 : Int32)), (vA u1), (vI b1), (vI (0 : Int32))] [(.long (own_mask b1)), (.int (1 : Int32)), (.ref b127)])) rfl rfl (hb hby d18_158)
      refine Dn.of st296 ?_
      show Dn p e below s (own_QSL Z n0 h0 a t0 t1 t2 aDb l0 l1 l2 p0 p1 p2) 5 64 (T296.setTop (mkF m 159 #[(vA a), (vA ls), (vI (3 : Int32)), (vA b173), (vI (1 : Int32)), (vI (1 : Int32)), (vA u1), (vI b1), (vI (0 : Int32))] []))
      have R_295 := Arh.push A_295 p295 S295 P295 H295 G295 (v := (.long (own_mask b1))) rfl W296 (inb_of S295 (by decide))
      have N295 := Fr.snoc X296 N272 gb2
      refine Dn.of (fun tt_ zz_ => XS.aloadN X296.here hx rfl (hb hby d18_159) rfl rfl zz_) ?_
      show Dn p e below s (own_QSL Z n0 h0 a t0 t1 t2 aDb l0 l1 l2 p0 p1 p2) 5 64 (T296.setTop (mkF m 160 #[(vA a), (vA ls), (vI (3 : Int32)), (vA b173), (vI (1 : Int32)), (vI (1 : Int32)), (vA u1), (vI b1), (vI (0 : Int32))] [(.ref a)]))
      have F297 := (F289.other W296 (Or.inl n129))
      obtain ⟨T298, X298, e298, st298⟩ := getF X296 hx hZ hown (host := "") (Or.inl (hg 149 rfl)) Via.refl e296 F297 (g := (mkF m 160 #[(vA a), (vA ls), (vI (3 : Int32)), (vA b173), (vI (1 : Int32)), (vI (1 : Int32)), (vA u1), (vI b1), (vI (0 : Int32))] [(.ref a)])) rfl rfl (hb hby d18_160)
      refine Dn.of st298 ?_
      show Dn p e below s (own_QSL Z n0 h0 a t0 t1 t2 aDb l0 l1 l2 p0 p1 p2) 5 64 (T298.setTop (mkF m 163 #[(vA a), (vA ls), (vI (3 : Int32)), (vA b173), (vI (1 : Int32)), (vI (1 : Int32)), (vA u1), (vI b1), (vI (0 : Int32))] [(.ref b149)]))
      refine Dn.of (fun tt_ zz_ => XS.iload X298.here hx rfl (hb hby d18_163) rfl zz_) ?_
      refine Dn.of (fun tt_ zz_ => XS.aload X298.here hx rfl (hb hby d18_165) rfl rfl zz_) ?_
      show Dn p e below s (own_QSL Z n0 h0 a t0 t1 t2 aDb l0 l1 l2 p0 p1 p2) 5 64 (T298.setTop (mkF m 167 #[(vA a), (vA ls), (vI (3 : Int32)), (vA b173), (vI (1 : Int32)), (vI (1 : Int32)), (vA u1), (vI b1), (vI (0 : Int32))] [(.ref u1), (.int (1 : Int32)), (.ref b149)]))
      have F299 := (F285.wr W296 gb2)
      have F300 := (F283.other W296 n137)
      have Ze1 := F299.1 ▸ F299.2.1
      obtain ⟨v301, T301, L301, Q301, X301, st301⟩ := cVi X298 hx hZ (C := "com/example/verify_markov_chains/verifymarkovchains/model/Variable") (y := (⟨"com/example/verify_markov_chains/verifymarkovchains/model/Variable", "getLower", "()I"⟩ : MethodName)) (z := (⟨"com/example/verify_markov_chains/verifymarkovchains/model/Variable", "getLower", "()I"⟩ : MethodName)) hown (hg 188 rfl) (hg 189 rfl) (notFace_of_selects (args := #[]) (mvT hZ (hg 191 rfl))) (hg 191 rfl) (hg 190 rfl) (hg 53 rfl) (hg 192 rfl) (by decide) (a := u1) (argsL := []) (rest := [(.int (1 : Int32)), (.ref b149)]) (rm_getLower l Z a0 hw h296 n0 Ze1 u1 t1 l1 p1 F300) e298 F300.1 2 (by decide) (by decide) (by decide) (by decide) (g := (mkF m 167 #[(vA a), (vA ls), (vI (3 : Int32)), (vA b173), (vI (1 : Int32)), (vI (1 : Int32)), (vA u1), (vI b1), (vI (0 : Int32))] [(.ref u1), (.int (1 : Int32)), (.ref b149)])) rfl (by rw [hml]; rfl) (lenOf pd11 rfl) rfl (by show 2 * 0 + _ ≤ _; exact Nat.le_of_eq rfl) (hb hby d18_167)
      obtain ⟨rfl, Md1, e301⟩ := Q301
      refine Dn.of st301 ?_
      show Dn p e below s (own_QSL Z n0 h0 a t0 t1 t2 aDb l0 l1 l2 p0 p1 p2) 5 64 (T301.setTop (mkF m 170 #[(vA a), (vA ls), (vI (3 : Int32)), (vA b173), (vI (1 : Int32)), (vI (1 : Int32)), (vA u1), (vI b1), (vI (0 : Int32))] [(.int l1), (.int (1 : Int32)), (.ref b149)]))
      have F303 := (F293.other W296 (Ne.symm n167))
      obtain ⟨c302, A_302, p302, S302, P302, H302, G302⟩ := F303
      obtain ⟨T304, h304, X304, e304, W304, st304⟩ := stI X301 hx hZ e301 A_302 (j := (1 : Int32)) (inb_of S302 (by decide)) (g := (mkF m 170 #[(vA a), (vA ls), (vI (3 : Int32)), (vA b173), (vI (1 : Int32)), (vI (1 : Int32)), (vA u1), (vI b1), (vI (0 : Int32))] [(.int l1), (.int (1 : Int32)), (.ref b149)])) rfl rfl (hb hby d18_170)
      refine Dn.of st304 ?_
      show Dn p e below s (own_QSL Z n0 h0 a t0 t1 t2 aDb l0 l1 l2 p0 p1 p2) 5 64 (T304.setTop (mkF m 171 #[(vA a), (vA ls), (vI (3 : Int32)), (vA b173), (vI (1 : Int32)), (vI (1 : Int32)), (vA u1), (vI b1), (vI (0 : Int32))] []))
      have R_302 := Arh.push A_302 p302 S302 P302 H302 G302 (v := (.int l1)) rfl W304 (inb_of S302 (by decide))
      have N302 := Fr.snoc X304 (Fr.app N295 Md1) gb3
      refine Dn.of (fun tt_ zz_ => XS.aloadN X304.here hx rfl (hb hby d18_171) rfl rfl zz_) ?_
      refine Dn.of (fun tt_ zz_ => XS.iload X304.here hx rfl (hb hby d18_172) rfl zz_) ?_
      refine Dn.of (fun tt_ zz_ => XT.dup2 X304.here hx rfl (hb hby d18_174) rfl rfl rfl zz_) ?_
      show Dn p e below s (own_QSL Z n0 h0 a t0 t1 t2 aDb l0 l1 l2 p0 p1 p2) 5 64 (T304.setTop (mkF m 175 #[(vA a), (vA ls), (vI (3 : Int32)), (vA b173), (vI (1 : Int32)), (vI (1 : Int32)), (vA u1), (vI b1), (vI (0 : Int32))] [(.int (0 : Int32)), (.ref b173), (.int (0 : Int32)), (.ref b173)]))
      have F305 := ((F294.other W296 (Ne.symm n191)).other W304 (Ne.symm n193))
      have Rr306 := F305
      obtain ⟨d306, B_306, _, Sd306, _, Hd306, _⟩ := Rr306
      refine Dn.of (fun tt_ zz_ => X304.iaload hx (j := (0 : Int32)) (v := (.int b0)) (by rw [e304]; exact B_306.1) (State.isArrayOf_alike hZ.alike B_306.2.1) B_306.2.2 (inb_of Sd306 (by decide)) (atH Hd306 (inb_of Sd306 (by decide)) rfl) (g := (mkF m 175 #[(vA a), (vA ls), (vI (3 : Int32)), (vA b173), (vI (1 : Int32)), (vI (1 : Int32)), (vA u1), (vI b1), (vI (0 : Int32))] [(.int (0 : Int32)), (.ref b173), (.int (0 : Int32)), (.ref b173)])) rfl rfl (hb hby d18_175) tt_ zz_) ?_
      show Dn p e below s (own_QSL Z n0 h0 a t0 t1 t2 aDb l0 l1 l2 p0 p1 p2) 5 64 (T304.setTop (mkF m 176 #[(vA a), (vA ls), (vI (3 : Int32)), (vA b173), (vI (1 : Int32)), (vI (1 : Int32)), (vA u1), (vI b1), (vI (0 : Int32))] [(.int b0), (.int (0 : Int32)), (.ref b173)]))
      refine Dn.of (fun tt_ zz_ => XS.iload X304.here hx rfl (hb hby d18_176) rfl zz_) ?_
      refine Dn.of (fun tt_ zz_ => XS.iadd X304.here hx rfl (hb hby d18_178) rfl zz_) ?_
      show Dn p e below s (own_QSL Z n0 h0 a t0 t1 t2 aDb l0 l1 l2 p0 p1 p2) 5 64 (T304.setTop (mkF m 179 #[(vA a), (vA ls), (vI (3 : Int32)), (vA b173), (vI (1 : Int32)), (vI (1 : Int32)), (vA u1), (vI b1), (vI (0 : Int32))] [(.int (b0 + b1)), (.int (0 : Int32)), (.ref b173)]))
      obtain ⟨c307, A_307, p307, S307, P307, H307, G307⟩ := F305
      obtain ⟨T308, h308, X308, e308, W308, st308⟩ := stI X304 hx hZ e304 A_307 (j := (0 : Int32)) (inb_of S307 (by decide)) (g := (mkF m 179 #[(vA a), (vA ls), (vI (3 : Int32)), (vA b173), (vI (1 : Int32)), (vI (1 : Int32)), (vA u1), (vI b1), (vI (0 : Int32))] [(.int (b0 + b1)), (.int (0 : Int32)), (.ref b173)])) rfl rfl (hb hby d18_179)
      refine Dn.of st308 ?_
      show Dn p e below s (own_QSL Z n0 h0 a t0 t1 t2 aDb l0 l1 l2 p0 p1 p2) 5 64 (T308.setTop (mkF m 180 #[(vA a), (vA ls), (vI (3 : Int32)), (vA b173), (vI (1 : Int32)), (vI (1 : Int32)), (vA u1), (vI b1), (vI (0 : Int32))] []))
      have R_307 := Arh.push A_307 p307 S307 P307 H307 G307 (v := (.int (b0 + b1))) rfl W308 (inb_of S307 (by decide))
      have N307 := Fr.snoc X308 N302 gb4
      refine Dn.of (fun tt_ zz_ => XS.iinc X308.here hx rfl (hb hby d18_180) rfl (l' := #[(vA a), (vA ls), (vI (3 : Int32)), (vA b173), (vI (1 : Int32)), (vI ((1 : Int32) + (1 : Int32))), (vA u1), (vI b1), (vI (0 : Int32))]) rfl zz_) ?_
      refine Dn.of (fun tt_ zz_ => XS.goto X308.here hx rfl (pc0 := 183) (pc' := 49) rfl (hb hby d18_183) (by decide) (by decide) zz_) ?_
      show Dn p e below s (own_QSL Z n0 h0 a t0 t1 t2 aDb l0 l1 l2 p0 p1 p2) 5 64 (T308.setTop (mkF m 49 #[(vA a), (vA ls), (vI (3 : Int32)), (vA b173), (vI (1 : Int32)), (vI ((1 : Int32) + (1 : Int32))), (vA u1), (vI b1), (vI (0 : Int32))] []))
      rw [show ((1 : Int32) + (1 : Int32)) = (2 : Int32) by decide]
      show Dn p e below s (own_QSL Z n0 h0 a t0 t1 t2 aDb l0 l1 l2 p0 p1 p2) 5 64 (T308.setTop (mkF m 49 #[(vA a), (vA ls), (vI (3 : Int32)), (vA b173), (vI (1 : Int32)), (vI (2 : Int32)), (vA u1), (vI b1), (vI (0 : Int32))] []))
      refine Dn.of (fun tt_ zz_ => XS.iload X308.here hx rfl (hb hby d18_49) rfl zz_) ?_
      refine Dn.of (fun tt_ zz_ => XS.iloadN X308.here hx rfl (hb hby d18_51) rfl zz_) ?_
      show Dn p e below s (own_QSL Z n0 h0 a t0 t1 t2 aDb l0 l1 l2 p0 p1 p2) 5 64 (T308.setTop (mkF m 52 #[(vA a), (vA ls), (vI (3 : Int32)), (vA b173), (vI (1 : Int32)), (vI (2 : Int32)), (vA u1), (vI b1), (vI (0 : Int32))] [(.int (3 : Int32)), (.int (2 : Int32))]))
      refine Dn.of (fun tt_ zz_ => XS.icmpNo X308.here hx rfl (hb hby d18_52) rfl (tlt (by decide)).2.1 zz_) ?_
      show Dn p e below s (own_QSL Z n0 h0 a t0 t1 t2 aDb l0 l1 l2 p0 p1 p2) 5 64 (T308.setTop (mkF m 55 #[(vA a), (vA ls), (vI (3 : Int32)), (vA b173), (vI (1 : Int32)), (vI (2 : Int32)), (vA u1), (vI b1), (vI (0 : Int32))] []))
      refine Dn.of (fun tt_ zz_ => XS.aloadN X308.here hx rfl (hb hby d18_55) rfl rfl zz_) ?_
      refine Dn.of (fun tt_ zz_ => XS.iload X308.here hx rfl (hb hby d18_56) rfl zz_) ?_
      show Dn p e below s (own_QSL Z n0 h0 a t0 t1 t2 aDb l0 l1 l2 p0 p1 p2) 5 64 (T308.setTop (mkF m 58 #[(vA a), (vA ls), (vI (3 : Int32)), (vA b173), (vI (1 : Int32)), (vI (2 : Int32)), (vA u1), (vI b1), (vI (0 : Int32))] [(.int (2 : Int32)), (.ref ls)]))
      have F309 := (((F278.wr W296).wr W304).wr W308)
      have F310 := (((F280.other W296 (Or.inl n131)).other W304 (Or.inl n153)).other W308 (Or.inl n177))
      have F311 := (((F279.other W296 (Or.inl n131)).other W304 (Or.inl n153)).other W308 (Or.inl n177))
      have F312 := (((F281.other W296 n133).other W304 n155).other W308 n179)
      have F313 := (((F284.other W296 n139).other W304 n161).other W308 n185)
      have F314 := ((F299.wr W304 gb3).wr W308 gb4)
      have F315 := (((F286.wr W296 (Or.inr kb2)).wr W304 (Or.inr kb3)).wr W308 (Or.inr kb4))
      have Zc2 := F314.1 ▸ F314.2.1
      obtain ⟨v316, T316, L316, Q316, X316, st316⟩ := cFa X308 hx hZ (C := "java/util/ArrayList") (y := (⟨"java/util/List", "get", "(I)Ljava/lang/Object;"⟩ : MethodName)) (z := (⟨"java/util/ArrayList", "get", "(I)Ljava/lang/Object;"⟩ : MethodName)) hown (hg 151 rfl) (hg 152 rfl) (mvT hZ (hg 153 rfl)) (hg 154 rfl) (hg 155 rfl) (hg 156 rfl) (hg 157 rfl) (hg 139 rfl) (hg 19 rfl) (hg 158 rfl) (by decide) (a := ls) (argsL := [(.int (2 : Int32))]) (rest := []) (rmGet l Z a0 hw h308 n0 Zc2 ls bE u2 k [((2 : Int32), .ref u2), ((1 : Int32), .ref u1), ((0 : Int32), .ref u0)] (2 : Int32) (3 : Int32) (by decide) (by decide) F309 F310 F311 F312 rfl) e308 F309 0 (by decide) (by decide) (by decide) (by decide) (g := (mkF m 58 #[(vA a), (vA ls), (vI (3 : Int32)), (vA b173), (vI (1 : Int32)), (vI (2 : Int32)), (vA u1), (vI b1), (vI (0 : Int32))] [(.int (2 : Int32)), (.ref ls)])) rfl (by rw [hml]; rfl) (lenOf pd8 rfl) rfl (by show 2 * 0 + _ ≤ _; exact Nat.le_of_eq rfl) (hb hby d18_58)
      obtain ⟨rfl, Ma2, e316⟩ := Q316
      refine Dn.of st316 ?_
      show Dn p e below s (own_QSL Z n0 h0 a t0 t1 t2 aDb l0 l1 l2 p0 p1 p2) 5 64 (T316.setTop (mkF m 63 #[(vA a), (vA ls), (vI (3 : Int32)), (vA b173), (vI (1 : Int32)), (vI (2 : Int32)), (vA u1), (vI b1), (vI (0 : Int32))] [(.ref u2)]))
      obtain ⟨T317, X317, e317, st317⟩ := castY X316 hx hZ hown (hg 172 rfl) e316 (Ins.self F313.1) (g := (mkF m 63 #[(vA a), (vA ls), (vI (3 : Int32)), (vA b173), (vI (1 : Int32)), (vI (2 : Int32)), (vA u1), (vI b1), (vI (0 : Int32))] [(.ref u2)])) rfl rfl (hb hby d18_63)
      refine Dn.of st317 ?_
      show Dn p e below s (own_QSL Z n0 h0 a t0 t1 t2 aDb l0 l1 l2 p0 p1 p2) 5 64 (T317.setTop (mkF m 66 #[(vA a), (vA ls), (vI (3 : Int32)), (vA b173), (vI (1 : Int32)), (vI (2 : Int32)), (vA u1), (vI b1), (vI (0 : Int32))] [(.ref u2)]))
      refine Dn.of (fun tt_ zz_ => XS.astore X317.here hx rfl (hb hby d18_66) rfl rfl (l' := #[(vA a), (vA ls), (vI (3 : Int32)), (vA b173), (vI (1 : Int32)), (vI (2 : Int32)), (vA u2), (vI b1), (vI (0 : Int32))]) rfl zz_) ?_
      refine Dn.of (fun tt_ zz_ => XS.aload X317.here hx rfl (hb hby d18_68) rfl rfl zz_) ?_
      show Dn p e below s (own_QSL Z n0 h0 a t0 t1 t2 aDb l0 l1 l2 p0 p1 p2) 5 64 (T317.setTop (mkF m 70 #[(vA a), (vA ls), (vI (3 : Int32)), (vA b173), (vI (1 : Int32)), (vI (2 : Int32)), (vA u2), (vI b1), (vI (0 : Int32))] [(.ref u2)]))
      obtain ⟨v318, T318, L318, Q318, X318, st318⟩ := cSt X317 hx hZ (y := (⟨"com/example/verify_markov_chains/verifymarkovchains/explicit/StateLayout", "bitsOf", "(Lcom/example/verify_markov_chains/verifymarkovchains/model/Variable;)I"⟩ : MethodName)) hown (hg 174 rfl) (hg 175 rfl) (hg 127 rfl) (hg 176 rfl) (by decide) (argsL := [(.ref u2)]) (rest := []) (rmBO l Z a0 hw h308 n0 Zc2 u2 t2 aDb l2 p2 c2 SDb F314 F313) e317  0 (by decide) (by decide) (by decide) (by decide) (g := (mkF m 70 #[(vA a), (vA ls), (vI (3 : Int32)), (vA b173), (vI (1 : Int32)), (vI (2 : Int32)), (vA u2), (vI b1), (vI (0 : Int32))] [(.ref u2)])) rfl (by rw [hml]; rfl) (lenOf pd13 rfl) rfl (by show 2 * 0 + _ ≤ _; exact Nat.le_of_eq rfl) (hb hby d18_70)
      obtain ⟨⟨b2, rfl, B2⟩, Mb2, e318⟩ := Q318
      refine Dn.of st318 ?_
      show Dn p e below s (own_QSL Z n0 h0 a t0 t1 t2 aDb l0 l1 l2 p0 p1 p2) 5 64 (T318.setTop (mkF m 73 #[(vA a), (vA ls), (vI (3 : Int32)), (vA b173), (vI (1 : Int32)), (vI (2 : Int32)), (vA u2), (vI b1), (vI (0 : Int32))] [(.int b2)]))
      have Nx2 := Fr.app (Fr.app N307 Ma2) Mb2
      refine Dn.of (fun tt_ zz_ => XS.istore X318.here hx rfl (hb hby d18_73) rfl (l' := #[(vA a), (vA ls), (vI (3 : Int32)), (vA b173), (vI (1 : Int32)), (vI (2 : Int32)), (vA u2), (vI b2), (vI (0 : Int32))]) rfl zz_) ?_
      refine Dn.of (fun tt_ zz_ => XS.iconst X318.here hx rfl (hb hby d18_75) zz_) ?_
      refine Dn.of (fun tt_ zz_ => XS.istore X318.here hx rfl (hb hby d18_76) rfl (l' := #[(vA a), (vA ls), (vI (3 : Int32)), (vA b173), (vI (1 : Int32)), (vI (2 : Int32)), (vA u2), (vI b2), (vI (0 : Int32))]) rfl zz_) ?_
      refine Dn.of (fun tt_ zz_ => XS.iload X318.here hx rfl (hb hby d18_78) rfl zz_) ?_
      show Dn p e below s (own_QSL Z n0 h0 a t0 t1 t2 aDb l0 l1 l2 p0 p1 p2) 5 64 (T318.setTop (mkF m 80 #[(vA a), (vA ls), (vI (3 : Int32)), (vA b173), (vI (1 : Int32)), (vI (2 : Int32)), (vA u2), (vI b2), (vI (0 : Int32))] [(.int (0 : Int32))]))
      refine Dn.of (fun tt_ zz_ => XS.iload X318.here hx rfl (hb hby d18_80) rfl zz_) ?_
      show Dn p e below s (own_QSL Z n0 h0 a t0 t1 t2 aDb l0 l1 l2 p0 p1 p2) 5 64 (T318.setTop (mkF m 82 #[(vA a), (vA ls), (vI (3 : Int32)), (vA b173), (vI (1 : Int32)), (vI (2 : Int32)), (vA u2), (vI b2), (vI (0 : Int32))] [(.int (1 : Int32)), (.int (0 : Int32))]))
      refine Dn.of (fun tt_ zz_ => XS.icmpNo X318.here hx rfl (hb hby d18_82) rfl (tlt (by decide)).2.1 zz_) ?_
      show Dn p e below s (own_QSL Z n0 h0 a t0 t1 t2 aDb l0 l1 l2 p0 p1 p2) 5 64 (T318.setTop (mkF m 85 #[(vA a), (vA ls), (vI (3 : Int32)), (vA b173), (vI (1 : Int32)), (vI (2 : Int32)), (vA u2), (vI b2), (vI (0 : Int32))] []))
      refine Dn.of (fun tt_ zz_ => XS.aloadN X318.here hx rfl (hb hby d18_85) rfl rfl zz_) ?_
      refine Dn.of (fun tt_ zz_ => XS.iload X318.here hx rfl (hb hby d18_86) rfl zz_) ?_
      show Dn p e below s (own_QSL Z n0 h0 a t0 t1 t2 aDb l0 l1 l2 p0 p1 p2) 5 64 (T318.setTop (mkF m 88 #[(vA a), (vA ls), (vI (3 : Int32)), (vA b173), (vI (1 : Int32)), (vI (2 : Int32)), (vA u2), (vI b2), (vI (0 : Int32))] [(.int (0 : Int32)), (.ref b173)]))
      have Rr319 := R_307
      obtain ⟨d319, B_319, _, Sd319, _, Hd319, _⟩ := Rr319
      refine Dn.of (fun tt_ zz_ => X318.iaload hx (j := (0 : Int32)) (v := (.int (b0 + b1))) (by rw [e318]; exact B_319.1) (State.isArrayOf_alike hZ.alike B_319.2.1) B_319.2.2 (inb_of Sd319 (by decide)) (atH Hd319 (inb_of Sd319 (by decide)) rfl) (g := (mkF m 88 #[(vA a), (vA ls), (vI (3 : Int32)), (vA b173), (vI (1 : Int32)), (vI (2 : Int32)), (vA u2), (vI b2), (vI (0 : Int32))] [(.int (0 : Int32)), (.ref b173)])) rfl rfl (hb hby d18_88) tt_ zz_) ?_
      show Dn p e below s (own_QSL Z n0 h0 a t0 t1 t2 aDb l0 l1 l2 p0 p1 p2) 5 64 (T318.setTop (mkF m 89 #[(vA a), (vA ls), (vI (3 : Int32)), (vA b173), (vI (1 : Int32)), (vI (2 : Int32)), (vA u2), (vI b2), (vI (0 : Int32))] [(.int (b0 + b1))]))
      refine Dn.of (fun tt_ zz_ => XS.iload X318.here hx rfl (hb hby d18_89) rfl zz_) ?_
      refine Dn.of (fun tt_ zz_ => XS.iadd X318.here hx rfl (hb hby d18_91) rfl zz_) ?_
      refine Dn.of (fun tt_ zz_ => XS.bipush X318.here hx rfl (hb hby d18_92) zz_) ?_
      show Dn p e below s (own_QSL Z n0 h0 a t0 t1 t2 aDb l0 l1 l2 p0 p1 p2) 5 64 (T318.setTop (mkF m 94 #[(vA a), (vA ls), (vI (3 : Int32)), (vA b173), (vI (1 : Int32)), (vI (2 : Int32)), (vA u2), (vI b2), (vI (0 : Int32))] [(.int (64 : Int32)), (.int ((b0 + b1) + b2))]))
      by_cases hfit : (64 : Int32) < ((b0 + b1) + b2)
      · skip
        refine Dn.of (fun tt_ zz_ => XS.icmpNo X318.here hx rfl (hb hby d18_94) rfl (tlt hfit).2.2.2 zz_) ?_
        show Dn p e below s (own_QSL Z n0 h0 a t0 t1 t2 aDb l0 l1 l2 p0 p1 p2) 5 64 (T318.setTop (mkF m 97 #[(vA a), (vA ls), (vI (3 : Int32)), (vA b173), (vI (1 : Int32)), (vI (2 : Int32)), (vA u2), (vI b2), (vI (0 : Int32))] []))
        refine Dn.of (fun tt_ zz_ => XS.iinc X318.here hx rfl (hb hby d18_97) rfl (l' := #[(vA a), (vA ls), (vI (3 : Int32)), (vA b173), (vI (1 : Int32)), (vI (2 : Int32)), (vA u2), (vI b2), (vI ((0 : Int32) + (1 : Int32)))]) rfl zz_) ?_
        refine Dn.of (fun tt_ zz_ => XS.goto X318.here hx rfl (pc0 := 100) (pc' := 78) rfl (hb hby d18_100) (by decide) (by decide) zz_) ?_
        show Dn p e below s (own_QSL Z n0 h0 a t0 t1 t2 aDb l0 l1 l2 p0 p1 p2) 5 64 (T318.setTop (mkF m 78 #[(vA a), (vA ls), (vI (3 : Int32)), (vA b173), (vI (1 : Int32)), (vI (2 : Int32)), (vA u2), (vI b2), (vI ((0 : Int32) + (1 : Int32)))] []))
        rw [show ((0 : Int32) + (1 : Int32)) = (1 : Int32) by decide]
        show Dn p e below s (own_QSL Z n0 h0 a t0 t1 t2 aDb l0 l1 l2 p0 p1 p2) 5 64 (T318.setTop (mkF m 78 #[(vA a), (vA ls), (vI (3 : Int32)), (vA b173), (vI (1 : Int32)), (vI (2 : Int32)), (vA u2), (vI b2), (vI (1 : Int32))] []))
        refine Dn.of (fun tt_ zz_ => XS.iload X318.here hx rfl (hb hby d18_78) rfl zz_) ?_
        refine Dn.of (fun tt_ zz_ => XS.iload X318.here hx rfl (hb hby d18_80) rfl zz_) ?_
        show Dn p e below s (own_QSL Z n0 h0 a t0 t1 t2 aDb l0 l1 l2 p0 p1 p2) 5 64 (T318.setTop (mkF m 82 #[(vA a), (vA ls), (vI (3 : Int32)), (vA b173), (vI (1 : Int32)), (vI (2 : Int32)), (vA u2), (vI b2), (vI (1 : Int32))] [(.int (1 : Int32)), (.int (1 : Int32))]))
        refine Dn.of (fun tt_ zz_ => XS.icmpYes X318.here hx rfl (pc0 := 82) (pc' := 103) rfl (hb hby d18_82) rfl (flt (by decide)).2.1 (by decide) (by decide) zz_) ?_
        show Dn p e below s (own_QSL Z n0 h0 a t0 t1 t2 aDb l0 l1 l2 p0 p1 p2) 5 64 (T318.setTop (mkF m 103 #[(vA a), (vA ls), (vI (3 : Int32)), (vA b173), (vI (1 : Int32)), (vI (2 : Int32)), (vA u2), (vI b2), (vI (1 : Int32))] []))
        refine Dn.of (fun tt_ zz_ => XS.iload X318.here hx rfl (hb hby d18_103) rfl zz_) ?_
        refine Dn.of (fun tt_ zz_ => XS.iload X318.here hx rfl (hb hby d18_105) rfl zz_) ?_
        refine Dn.of (fun tt_ zz_ => XS.iconst X318.here hx rfl (hb hby d18_107) zz_) ?_
        refine Dn.of (fun tt_ zz_ => XS.iadd X318.here hx rfl (hb hby d18_108) rfl zz_) ?_
        show Dn p e below s (own_QSL Z n0 h0 a t0 t1 t2 aDb l0 l1 l2 p0 p1 p2) 5 64 (T318.setTop (mkF m 109 #[(vA a), (vA ls), (vI (3 : Int32)), (vA b173), (vI (1 : Int32)), (vI (2 : Int32)), (vA u2), (vI b2), (vI (1 : Int32))] [(.int ((1 : Int32) + (1 : Int32))), (.int (1 : Int32))]))
        have Zd2 := F314.1 ▸ F314.2.1
        obtain ⟨v320, T320, L320, Q320, X320, st320⟩ := cSt X318 hx hZ (y := (⟨"java/lang/Math", "max", "(II)I"⟩ : MethodName)) hown (hg 202 rfl) (hg 12 rfl) (hg 6 rfl) (hg 13 rfl) (by decide) (argsL := [(.int (1 : Int32)), (.int ((1 : Int32) + (1 : Int32)))]) (rest := []) (rm_max l Z a0 hw h308 n0 Zd2 (1 : Int32) ((1 : Int32) + (1 : Int32))) e318  0 (by decide) (by decide) (by decide) (by decide) (g := (mkF m 109 #[(vA a), (vA ls), (vI (3 : Int32)), (vA b173), (vI (1 : Int32)), (vI (2 : Int32)), (vA u2), (vI b2), (vI (1 : Int32))] [(.int ((1 : Int32) + (1 : Int32))), (.int (1 : Int32))])) rfl (by rw [hml]; rfl) (lenOf pd0 rfl) rfl (by show 2 * 0 + _ ≤ _; exact Nat.le_of_eq rfl) (hb hby d18_109)
        rw [show own_max (1 : Int32) ((1 : Int32) + (1 : Int32)) = (2 : Int32) by decide] at Q320
        obtain ⟨rfl, Mc2, e320⟩ := Q320
        refine Dn.of st320 ?_
        show Dn p e below s (own_QSL Z n0 h0 a t0 t1 t2 aDb l0 l1 l2 p0 p1 p2) 5 64 (T320.setTop (mkF m 112 #[(vA a), (vA ls), (vI (3 : Int32)), (vA b173), (vI (1 : Int32)), (vI (2 : Int32)), (vA u2), (vI b2), (vI (1 : Int32))] [(.int (2 : Int32))]))
        refine Dn.of (fun tt_ zz_ => XS.istore X320.here hx rfl (hb hby d18_112) rfl (l' := #[(vA a), (vA ls), (vI (3 : Int32)), (vA b173), (vI (2 : Int32)), (vI (2 : Int32)), (vA u2), (vI b2), (vI (1 : Int32))]) rfl zz_) ?_
        refine Dn.of (fun tt_ zz_ => XS.aloadN X320.here hx rfl (hb hby d18_114) rfl rfl zz_) ?_
        show Dn p e below s (own_QSL Z n0 h0 a t0 t1 t2 aDb l0 l1 l2 p0 p1 p2) 5 64 (T320.setTop (mkF m 115 #[(vA a), (vA ls), (vI (3 : Int32)), (vA b173), (vI (2 : Int32)), (vI (2 : Int32)), (vA u2), (vI b2), (vI (1 : Int32))] [(.ref a)]))
        have F321 := (((F287.other W296 (Or.inl n129)).other W304 (Or.inl n151)).other W308 (Or.inl n175))
        obtain ⟨T322, X322, e322, st322⟩ := getF X320 hx hZ hown (host := "") (Or.inl (hg 142 rfl)) Via.refl e320 F321 (g := (mkF m 115 #[(vA a), (vA ls), (vI (3 : Int32)), (vA b173), (vI (2 : Int32)), (vI (2 : Int32)), (vA u2), (vI b2), (vI (1 : Int32))] [(.ref a)])) rfl rfl (hb hby d18_115)
        refine Dn.of st322 ?_
        show Dn p e below s (own_QSL Z n0 h0 a t0 t1 t2 aDb l0 l1 l2 p0 p1 p2) 5 64 (T322.setTop (mkF m 118 #[(vA a), (vA ls), (vI (3 : Int32)), (vA b173), (vI (2 : Int32)), (vI (2 : Int32)), (vA u2), (vI b2), (vI (1 : Int32))] [(.ref b95)]))
        refine Dn.of (fun tt_ zz_ => XS.iload X322.here hx rfl (hb hby d18_118) rfl zz_) ?_
        refine Dn.of (fun tt_ zz_ => XS.iload X322.here hx rfl (hb hby d18_120) rfl zz_) ?_
        show Dn p e below s (own_QSL Z n0 h0 a t0 t1 t2 aDb l0 l1 l2 p0 p1 p2) 5 64 (T322.setTop (mkF m 122 #[(vA a), (vA ls), (vI (3 : Int32)), (vA b173), (vI (2 : Int32)), (vI (2 : Int32)), (vA u2), (vI b2), (vI (1 : Int32))] [(.int (1 : Int32)), (.int (2 : Int32)), (.ref b95)]))
        have F324 := (((F291.other W296 n141).other W304 n163).other W308 n187)
        obtain ⟨c323, A_323, p323, S323, P323, H323, G323⟩ := F324
        obtain ⟨T325, h325, X325, e325, W325, st325⟩ := stI X322 hx hZ e322 A_323 (j := (2 : Int32)) (inb_of S323 (by decide)) (g := (mkF m 122 #[(vA a), (vA ls), (vI (3 : Int32)), (vA b173), (vI (2 : Int32)), (vI (2 : Int32)), (vA u2), (vI b2), (vI (1 : Int32))] [(.int (1 : Int32)), (.int (2 : Int32)), (.ref b95)])) rfl rfl (hb hby d18_122)
        refine Dn.of st325 ?_
        show Dn p e below s (own_QSL Z n0 h0 a t0 t1 t2 aDb l0 l1 l2 p0 p1 p2) 5 64 (T325.setTop (mkF m 123 #[(vA a), (vA ls), (vI (3 : Int32)), (vA b173), (vI (2 : Int32)), (vI (2 : Int32)), (vA u2), (vI b2), (vI (1 : Int32))] []))
        have R_323 := Arh.push A_323 p323 S323 P323 H323 G323 (v := (.int (1 : Int32))) rfl W325 (inb_of S323 (by decide))
        have N323 := Fr.snoc X325 (Fr.app Nx2 Mc2) gb0
        refine Dn.of (fun tt_ zz_ => XS.aloadN X325.here hx rfl (hb hby d18_123) rfl rfl zz_) ?_
        show Dn p e below s (own_QSL Z n0 h0 a t0 t1 t2 aDb l0 l1 l2 p0 p1 p2) 5 64 (T325.setTop (mkF m 124 #[(vA a), (vA ls), (vI (3 : Int32)), (vA b173), (vI (2 : Int32)), (vI (2 : Int32)), (vA u2), (vI b2), (vI (1 : Int32))] [(.ref a)]))
        have F326 := ((((F288.other W296 (Or.inl n129)).other W304 (Or.inl n151)).other W308 (Or.inl n175)).other W325 (Or.inl n96))
        obtain ⟨T327, X327, e327, st327⟩ := getF X325 hx hZ hown (host := "") (Or.inl (hg 144 rfl)) Via.refl e325 F326 (g := (mkF m 124 #[(vA a), (vA ls), (vI (3 : Int32)), (vA b173), (vI (2 : Int32)), (vI (2 : Int32)), (vA u2), (vI b2), (vI (1 : Int32))] [(.ref a)])) rfl rfl (hb hby d18_124)
        refine Dn.of st327 ?_
        show Dn p e below s (own_QSL Z n0 h0 a t0 t1 t2 aDb l0 l1 l2 p0 p1 p2) 5 64 (T327.setTop (mkF m 127 #[(vA a), (vA ls), (vI (3 : Int32)), (vA b173), (vI (2 : Int32)), (vI (2 : Int32)), (vA u2), (vI b2), (vI (1 : Int32))] [(.ref b107)]))
        refine Dn.of (fun tt_ zz_ => XS.iload X327.here hx rfl (hb hby d18_127) rfl zz_) ?_
        refine Dn.of (fun tt_ zz_ => XS.aloadN X327.here hx rfl (hb hby d18_129) rfl rfl zz_) ?_
        refine Dn.of (fun tt_ zz_ => XS.iload X327.here hx rfl (hb hby d18_130) rfl zz_) ?_
        show Dn p e below s (own_QSL Z n0 h0 a t0 t1 t2 aDb l0 l1 l2 p0 p1 p2) 5 64 (T327.setTop (mkF m 132 #[(vA a), (vA ls), (vI (3 : Int32)), (vA b173), (vI (2 : Int32)), (vI (2 : Int32)), (vA u2), (vI b2), (vI (1 : Int32))] [(.int (1 : Int32)), (.ref b173), (.int (2 : Int32)), (.ref b107)]))
        have F328 := (R_307.other W325 (Ne.symm n187))
        have Rr329 := F328
        obtain ⟨d329, B_329, _, Sd329, _, Hd329, _⟩ := Rr329
        refine Dn.of (fun tt_ zz_ => X327.iaload hx (j := (1 : Int32)) (v := (.int (0 : Int32))) (by rw [e327]; exact B_329.1) (State.isArrayOf_alike hZ.alike B_329.2.1) B_329.2.2 (inb_of Sd329 (by decide)) (atH Hd329 (inb_of Sd329 (by decide)) rfl) (g := (mkF m 132 #[(vA a), (vA ls), (vI (3 : Int32)), (vA b173), (vI (2 : Int32)), (vI (2 : Int32)), (vA u2), (vI b2), (vI (1 : Int32))] [(.int (1 : Int32)), (.ref b173), (.int (2 : Int32)), (.ref b107)])) rfl rfl (hb hby d18_132) tt_ zz_) ?_
        show Dn p e below s (own_QSL Z n0 h0 a t0 t1 t2 aDb l0 l1 l2 p0 p1 p2) 5 64 (T327.setTop (mkF m 133 #[(vA a), (vA ls), (vI (3 : Int32)), (vA b173), (vI (2 : Int32)), (vI (2 : Int32)), (vA u2), (vI b2), (vI (1 : Int32))] [(.int (0 : Int32)), (.int (2 : Int32)), (.ref b107)]))
        have F331 := ((((R_272.other W296 n143).other W304 n165).other W308 n189).other W325 (Ne.symm n121))
        obtain ⟨c330, A_330, p330, S330, P330, H330, G330⟩ := F331
        obtain ⟨T332, h332, X332, e332, W332, st332⟩ := stI X327 hx hZ e327 A_330 (j := (2 : Int32)) (inb_of S330 (by decide)) (g := (mkF m 133 #[(vA a), (vA ls), (vI (3 : Int32)), (vA b173), (vI (2 : Int32)), (vI (2 : Int32)), (vA u2), (vI b2), (vI (1 : Int32))] [(.int (0 : Int32)), (.int (2 : Int32)), (.ref b107)])) rfl rfl (hb hby d18_133)
        refine Dn.of st332 ?_
        show Dn p e below s (own_QSL Z n0 h0 a t0 t1 t2 aDb l0 l1 l2 p0 p1 p2) 5 64 (T332.setTop (mkF m 134 #[(vA a), (vA ls), (vI (3 : Int32)), (vA b173), (vI (2 : Int32)), (vI (2 : Int32)), (vA u2), (vI b2), (vI (1 : Int32))] []))
        have R_330 := Arh.push A_330 p330 S330 P330 H330 G330 (v := (.int (0 : Int32))) rfl W332 (inb_of S330 (by decide))
        have N330 := Fr.snoc X332 N323 gb1
        refine Dn.of (fun tt_ zz_ => XS.aloadN X332.here hx rfl (hb hby d18_134) rfl rfl zz_) ?_
        show Dn p e below s (own_QSL Z n0 h0 a t0 t1 t2 aDb l0 l1 l2 p0 p1 p2) 5 64 (T332.setTop (mkF m 135 #[(vA a), (vA ls), (vI (3 : Int32)), (vA b173), (vI (2 : Int32)), (vI (2 : Int32)), (vA u2), (vI b2), (vI (1 : Int32))] [(.ref a)]))
        have F333 := (((((F275.other W296 (Or.inl n129)).other W304 (Or.inl n151)).other W308 (Or.inl n175)).other W325 (Or.inl n96)).other W332 (Or.inl n109))
        obtain ⟨T334, X334, e334, st334⟩ := getF X332 hx hZ hown (host := "") (Or.inl (hg 147 rfl)) Via.refl e332 F333 (g := (mkF m 135 #[(vA a), (vA ls), (vI (3 : Int32)), (vA b173), (vI (2 : Int32)), (vI (2 : Int32)), (vA u2), (vI b2), (vI (1 : Int32))] [(.ref a)])) rfl rfl (hb hby d18_135)
        refine Dn.of st334 ?_
        show Dn p e below s (own_QSL Z n0 h0 a t0 t1 t2 aDb l0 l1 l2 p0 p1 p2) 5 64 (T334.setTop (mkF m 138 #[(vA a), (vA ls), (vI (3 : Int32)), (vA b173), (vI (2 : Int32)), (vI (2 : Int32)), (vA u2), (vI b2), (vI (1 : Int32))] [(.ref b127)]))
        refine Dn.of (fun tt_ zz_ => XS.iload X334.here hx rfl (hb hby d18_138) rfl zz_) ?_
        refine Dn.of (fun tt_ zz_ => XS.iload X334.here hx rfl (hb hby d18_140) rfl zz_) ?_
        show Dn p e below s (own_QSL Z n0 h0 a t0 t1 t2 aDb l0 l1 l2 p0 p1 p2) 5 64 (T334.setTop (mkF m 142 #[(vA a), (vA ls), (vI (3 : Int32)), (vA b173), (vI (2 : Int32)), (vI (2 : Int32)), (vA u2), (vI b2), (vI (1 : Int32))] [(.int b2), (.int (2 : Int32)), (.ref b127)]))
        have F335 := (((((F277.wr W296).wr W304).wr W308).wr W325).wr W332)
        have F336 := ((F309.wr W325).wr W332)
        have F337 := ((F311.other W325 (Or.inl n97)).other W332 (Or.inl n111))
        have F338 := ((F310.other W325 (Or.inl n97)).other W332 (Or.inl n111))
        have F339 := ((F312.other W325 n98).other W332 n113)
        have F340 := (((((F282.other W296 n135).other W304 n157).other W308 n181).other W325 n99).other W332 n115)
        have F341 := ((((F300.other W304 n159).other W308 n183).other W325 n100).other W332 n117)
        have F342 := ((F313.other W325 n101).other W332 n119)
        have F343 := ((F314.wr W325 gb0).wr W332 gb1)
        have F344 := ((F315.wr W325 (Or.inr kb0)).wr W332 (Or.inr kb1))
        have F345 := ((F321.other W325 (Or.inl n96)).other W332 (Or.inl n109))
        have F346 := (F326.other W332 (Or.inl n109))
        have F347 := ((((F297.other W304 (Or.inl n151)).other W308 (Or.inl n175)).other W325 (Or.inl n96)).other W332 (Or.inl n109))
        have F348 := (((((F290.other W296 (Or.inl n129)).other W304 (Or.inl n151)).other W308 (Or.inl n175)).other W325 (Or.inl n96)).other W332 (Or.inl n109))
        have F349 := (R_323.other W332 n121)
        have F350 := ((((R_295.other W304 n167).other W308 n191).other W325 (Ne.symm n141)).other W332 (Ne.symm n143))
        have F351 := (((R_302.other W308 n193).other W325 (Ne.symm n163)).other W332 (Ne.symm n165))
        have F352 := (F328.other W332 (Ne.symm n189))
        have K2 : ∀ mk : Int64, mk = own_mask b2 → Dn p e below s (own_QSL Z n0 h0 a t0 t1 t2 aDb l0 l1 l2 p0 p1 p2) 5 64 (T334.setTop (mkF m 158 #[(vA a), (vA ls), (vI (3 : Int32)), (vA b173), (vI (2 : Int32)), (vI (2 : Int32)), (vA u2), (vI b2), (vI (1 : Int32))] [(.long mk), (.int (2 : Int32)), (.ref b127)])) := by
          intro mk hmk
          subst hmk
          show Dn p e below s (own_QSL Z n0 h0 a t0 t1 t2 aDb l0 l1 l2 p0 p1 p2) 5 64 (T334.setTop (mkF m 158 #[(vA a), (vA ls), (vI (3 : Int32)), (vA b173), (vI (2 : Int32)), (vI (2 : Int32)), (vA u2), (vI b2), (vI (1 : Int32))] [(.long (own_mask b2)), (.int (2 : Int32)), (.ref b127)]))
          obtain ⟨c353, A_353, p353, S353, P353, H353, G353⟩ := F350
          obtain ⟨T354, h354, X354, e354, W354, st354⟩ := stJ X334 hx hZ e334 A_353 (j := (2 : Int32)) (inb_of S353 (by decide)) (g := (mkF m 158 #[(vA a), (vA ls), (vI (3 : Int32)), (vA b173), (vI (2 : Int32)), (vI (2 : Int32)), (vA u2), (vI b2), (vI (1 : Int32))] [(.long (own_mask b2)), (.int (2 : Int32)), (.ref b127)])) rfl rfl (hb hby d18_158)
          refine Dn.of st354 ?_
          show Dn p e below s (own_QSL Z n0 h0 a t0 t1 t2 aDb l0 l1 l2 p0 p1 p2) 5 64 (T354.setTop (mkF m 159 #[(vA a), (vA ls), (vI (3 : Int32)), (vA b173), (vI (2 : Int32)), (vI (2 : Int32)), (vA u2), (vI b2), (vI (1 : Int32))] []))
          have R_353 := Arh.push A_353 p353 S353 P353 H353 G353 (v := (.long (own_mask b2))) rfl W354 (inb_of S353 (by decide))
          have N353 := Fr.snoc X354 N330 gb2
          refine Dn.of (fun tt_ zz_ => XS.aloadN X354.here hx rfl (hb hby d18_159) rfl rfl zz_) ?_
          show Dn p e below s (own_QSL Z n0 h0 a t0 t1 t2 aDb l0 l1 l2 p0 p1 p2) 5 64 (T354.setTop (mkF m 160 #[(vA a), (vA ls), (vI (3 : Int32)), (vA b173), (vI (2 : Int32)), (vI (2 : Int32)), (vA u2), (vI b2), (vI (1 : Int32))] [(.ref a)]))
          have F355 := (F347.other W354 (Or.inl n129))
          obtain ⟨T356, X356, e356, st356⟩ := getF X354 hx hZ hown (host := "") (Or.inl (hg 149 rfl)) Via.refl e354 F355 (g := (mkF m 160 #[(vA a), (vA ls), (vI (3 : Int32)), (vA b173), (vI (2 : Int32)), (vI (2 : Int32)), (vA u2), (vI b2), (vI (1 : Int32))] [(.ref a)])) rfl rfl (hb hby d18_160)
          refine Dn.of st356 ?_
          show Dn p e below s (own_QSL Z n0 h0 a t0 t1 t2 aDb l0 l1 l2 p0 p1 p2) 5 64 (T356.setTop (mkF m 163 #[(vA a), (vA ls), (vI (3 : Int32)), (vA b173), (vI (2 : Int32)), (vI (2 : Int32)), (vA u2), (vI b2), (vI (1 : Int32))] [(.ref b149)]))
          refine Dn.of (fun tt_ zz_ => XS.iload X356.here hx rfl (hb hby d18_163) rfl zz_) ?_
          refine Dn.of (fun tt_ zz_ => XS.aload X356.here hx rfl (hb hby d18_165) rfl rfl zz_) ?_
          show Dn p e below s (own_QSL Z n0 h0 a t0 t1 t2 aDb l0 l1 l2 p0 p1 p2) 5 64 (T356.setTop (mkF m 167 #[(vA a), (vA ls), (vI (3 : Int32)), (vA b173), (vI (2 : Int32)), (vI (2 : Int32)), (vA u2), (vI b2), (vI (1 : Int32))] [(.ref u2), (.int (2 : Int32)), (.ref b149)]))
          have F357 := (F343.wr W354 gb2)
          have F358 := (F342.other W354 n139)
          have Ze2 := F357.1 ▸ F357.2.1
          obtain ⟨v359, T359, L359, Q359, X359, st359⟩ := cVi X356 hx hZ (C := "com/example/verify_markov_chains/verifymarkovchains/model/Variable") (y := (⟨"com/example/verify_markov_chains/verifymarkovchains/model/Variable", "getLower", "()I"⟩ : MethodName)) (z := (⟨"com/example/verify_markov_chains/verifymarkovchains/model/Variable", "getLower", "()I"⟩ : MethodName)) hown (hg 188 rfl) (hg 189 rfl) (notFace_of_selects (args := #[]) (mvT hZ (hg 191 rfl))) (hg 191 rfl) (hg 190 rfl) (hg 53 rfl) (hg 192 rfl) (by decide) (a := u2) (argsL := []) (rest := [(.int (2 : Int32)), (.ref b149)]) (rm_getLower l Z a0 hw h354 n0 Ze2 u2 t2 l2 p2 F358) e356 F358.1 2 (by decide) (by decide) (by decide) (by decide) (g := (mkF m 167 #[(vA a), (vA ls), (vI (3 : Int32)), (vA b173), (vI (2 : Int32)), (vI (2 : Int32)), (vA u2), (vI b2), (vI (1 : Int32))] [(.ref u2), (.int (2 : Int32)), (.ref b149)])) rfl (by rw [hml]; rfl) (lenOf pd11 rfl) rfl (by show 2 * 0 + _ ≤ _; exact Nat.le_of_eq rfl) (hb hby d18_167)
          obtain ⟨rfl, Md2, e359⟩ := Q359
          refine Dn.of st359 ?_
          show Dn p e below s (own_QSL Z n0 h0 a t0 t1 t2 aDb l0 l1 l2 p0 p1 p2) 5 64 (T359.setTop (mkF m 170 #[(vA a), (vA ls), (vI (3 : Int32)), (vA b173), (vI (2 : Int32)), (vI (2 : Int32)), (vA u2), (vI b2), (vI (1 : Int32))] [(.int l2), (.int (2 : Int32)), (.ref b149)]))
          have F361 := (F351.other W354 (Ne.symm n167))
          obtain ⟨c360, A_360, p360, S360, P360, H360, G360⟩ := F361
          obtain ⟨T362, h362, X362, e362, W362, st362⟩ := stI X359 hx hZ e359 A_360 (j := (2 : Int32)) (inb_of S360 (by decide)) (g := (mkF m 170 #[(vA a), (vA ls), (vI (3 : Int32)), (vA b173), (vI (2 : Int32)), (vI (2 : Int32)), (vA u2), (vI b2), (vI (1 : Int32))] [(.int l2), (.int (2 : Int32)), (.ref b149)])) rfl rfl (hb hby d18_170)
          refine Dn.of st362 ?_
          show Dn p e below s (own_QSL Z n0 h0 a t0 t1 t2 aDb l0 l1 l2 p0 p1 p2) 5 64 (T362.setTop (mkF m 171 #[(vA a), (vA ls), (vI (3 : Int32)), (vA b173), (vI (2 : Int32)), (vI (2 : Int32)), (vA u2), (vI b2), (vI (1 : Int32))] []))
          have R_360 := Arh.push A_360 p360 S360 P360 H360 G360 (v := (.int l2)) rfl W362 (inb_of S360 (by decide))
          have N360 := Fr.snoc X362 (Fr.app N353 Md2) gb3
          refine Dn.of (fun tt_ zz_ => XS.aloadN X362.here hx rfl (hb hby d18_171) rfl rfl zz_) ?_
          refine Dn.of (fun tt_ zz_ => XS.iload X362.here hx rfl (hb hby d18_172) rfl zz_) ?_
          refine Dn.of (fun tt_ zz_ => XT.dup2 X362.here hx rfl (hb hby d18_174) rfl rfl rfl zz_) ?_
          show Dn p e below s (own_QSL Z n0 h0 a t0 t1 t2 aDb l0 l1 l2 p0 p1 p2) 5 64 (T362.setTop (mkF m 175 #[(vA a), (vA ls), (vI (3 : Int32)), (vA b173), (vI (2 : Int32)), (vI (2 : Int32)), (vA u2), (vI b2), (vI (1 : Int32))] [(.int (1 : Int32)), (.ref b173), (.int (1 : Int32)), (.ref b173)]))
          have F363 := ((F352.other W354 (Ne.symm n191)).other W362 (Ne.symm n193))
          have Rr364 := F363
          obtain ⟨d364, B_364, _, Sd364, _, Hd364, _⟩ := Rr364
          refine Dn.of (fun tt_ zz_ => X362.iaload hx (j := (1 : Int32)) (v := (.int (0 : Int32))) (by rw [e362]; exact B_364.1) (State.isArrayOf_alike hZ.alike B_364.2.1) B_364.2.2 (inb_of Sd364 (by decide)) (atH Hd364 (inb_of Sd364 (by decide)) rfl) (g := (mkF m 175 #[(vA a), (vA ls), (vI (3 : Int32)), (vA b173), (vI (2 : Int32)), (vI (2 : Int32)), (vA u2), (vI b2), (vI (1 : Int32))] [(.int (1 : Int32)), (.ref b173), (.int (1 : Int32)), (.ref b173)])) rfl rfl (hb hby d18_175) tt_ zz_) ?_
          show Dn p e below s (own_QSL Z n0 h0 a t0 t1 t2 aDb l0 l1 l2 p0 p1 p2) 5 64 (T362.setTop (mkF m 176 #[(vA a), (vA ls), (vI (3 : Int32)), (vA b173), (vI (2 : Int32)), (vI (2 : Int32)), (vA u2), (vI b2), (vI (1 : Int32))] [(.int (0 : Int32)), (.int (1 : Int32)), (.ref b173)]))
          refine Dn.of (fun tt_ zz_ => XS.iload X362.here hx rfl (hb hby d18_176) rfl zz_) ?_
          refine Dn.of (fun tt_ zz_ => XS.iadd X362.here hx rfl (hb hby d18_178) rfl zz_) ?_
          show Dn p e below s (own_QSL Z n0 h0 a t0 t1 t2 aDb l0 l1 l2 p0 p1 p2) 5 64 (T362.setTop (mkF m 179 #[(vA a), (vA ls), (vI (3 : Int32)), (vA b173), (vI (2 : Int32)), (vI (2 : Int32)), (vA u2), (vI b2), (vI (1 : Int32))] [(.int ((0 : Int32) + b2)), (.int (1 : Int32)), (.ref b173)]))
          obtain ⟨c365, A_365, p365, S365, P365, H365, G365⟩ := F363
          obtain ⟨T366, h366, X366, e366, W366, st366⟩ := stI X362 hx hZ e362 A_365 (j := (1 : Int32)) (inb_of S365 (by decide)) (g := (mkF m 179 #[(vA a), (vA ls), (vI (3 : Int32)), (vA b173), (vI (2 : Int32)), (vI (2 : Int32)), (vA u2), (vI b2), (vI (1 : Int32))] [(.int ((0 : Int32) + b2)), (.int (1 : Int32)), (.ref b173)])) rfl rfl (hb hby d18_179)
          refine Dn.of st366 ?_
          show Dn p e below s (own_QSL Z n0 h0 a t0 t1 t2 aDb l0 l1 l2 p0 p1 p2) 5 64 (T366.setTop (mkF m 180 #[(vA a), (vA ls), (vI (3 : Int32)), (vA b173), (vI (2 : Int32)), (vI (2 : Int32)), (vA u2), (vI b2), (vI (1 : Int32))] []))
          have R_365 := Arh.push A_365 p365 S365 P365 H365 G365 (v := (.int ((0 : Int32) + b2))) rfl W366 (inb_of S365 (by decide))
          have N365 := Fr.snoc X366 N360 gb4
          refine Dn.of (fun tt_ zz_ => XS.iinc X366.here hx rfl (hb hby d18_180) rfl (l' := #[(vA a), (vA ls), (vI (3 : Int32)), (vA b173), (vI (2 : Int32)), (vI ((2 : Int32) + (1 : Int32))), (vA u2), (vI b2), (vI (1 : Int32))]) rfl zz_) ?_
          refine Dn.of (fun tt_ zz_ => XS.goto X366.here hx rfl (pc0 := 183) (pc' := 49) rfl (hb hby d18_183) (by decide) (by decide) zz_) ?_
          show Dn p e below s (own_QSL Z n0 h0 a t0 t1 t2 aDb l0 l1 l2 p0 p1 p2) 5 64 (T366.setTop (mkF m 49 #[(vA a), (vA ls), (vI (3 : Int32)), (vA b173), (vI (2 : Int32)), (vI ((2 : Int32) + (1 : Int32))), (vA u2), (vI b2), (vI (1 : Int32))] []))
          rw [show ((2 : Int32) + (1 : Int32)) = (3 : Int32) by decide]
          show Dn p e below s (own_QSL Z n0 h0 a t0 t1 t2 aDb l0 l1 l2 p0 p1 p2) 5 64 (T366.setTop (mkF m 49 #[(vA a), (vA ls), (vI (3 : Int32)), (vA b173), (vI (2 : Int32)), (vI (3 : Int32)), (vA u2), (vI b2), (vI (1 : Int32))] []))
          refine Dn.of (fun tt_ zz_ => XS.iload X366.here hx rfl (hb hby d18_49) rfl zz_) ?_
          refine Dn.of (fun tt_ zz_ => XS.iloadN X366.here hx rfl (hb hby d18_51) rfl zz_) ?_
          show Dn p e below s (own_QSL Z n0 h0 a t0 t1 t2 aDb l0 l1 l2 p0 p1 p2) 5 64 (T366.setTop (mkF m 52 #[(vA a), (vA ls), (vI (3 : Int32)), (vA b173), (vI (2 : Int32)), (vI (3 : Int32)), (vA u2), (vI b2), (vI (1 : Int32))] [(.int (3 : Int32)), (.int (3 : Int32))]))
          refine Dn.of (fun tt_ zz_ => XS.icmpYes X366.here hx rfl (pc0 := 52) (pc' := 186) rfl (hb hby d18_52) rfl (flt (by decide)).2.1 (by decide) (by decide) zz_) ?_
          show Dn p e below s (own_QSL Z n0 h0 a t0 t1 t2 aDb l0 l1 l2 p0 p1 p2) 5 64 (T366.setTop (mkF m 186 #[(vA a), (vA ls), (vI (3 : Int32)), (vA b173), (vI (2 : Int32)), (vI (3 : Int32)), (vA u2), (vI b2), (vI (1 : Int32))] []))
          refine Dn.of (fun tt_ zz_ => XS.aloadN X366.here hx rfl (hb hby d18_186) rfl rfl zz_) ?_
          refine Dn.of (fun tt_ zz_ => XS.iload X366.here hx rfl (hb hby d18_187) rfl zz_) ?_
          show Dn p e below s (own_QSL Z n0 h0 a t0 t1 t2 aDb l0 l1 l2 p0 p1 p2) 5 64 (T366.setTop (mkF m 189 #[(vA a), (vA ls), (vI (3 : Int32)), (vA b173), (vI (2 : Int32)), (vI (3 : Int32)), (vA u2), (vI b2), (vI (1 : Int32))] [(.int (2 : Int32)), (.ref a)]))
          have F367 := (((F348.other W354 (Or.inl n129)).other W362 (Or.inl n151)).other W366 (Or.inl n175))
          have F368 := (((F335.wr W354).wr W362).wr W366)
          obtain ⟨T369, h369, X369, e369, W369, st369⟩ := putF X366 hx hZ hown (host := "") (Or.inl (hg 204 rfl)) Via.refl e366 F367 F368 (Or.inr ⟨(hg 205 rfl), rfl, hnm⟩) (hg 126 rfl) (ty := .int) (by decide) rfl rfl (g := (mkF m 189 #[(vA a), (vA ls), (vI (3 : Int32)), (vA b173), (vI (2 : Int32)), (vI (3 : Int32)), (vA u2), (vI b2), (vI (1 : Int32))] [(.int (2 : Int32)), (.ref a)])) rfl rfl (hb hby d18_189)
          refine Dn.of st369 ?_
          show Dn p e below s (own_QSL Z n0 h0 a t0 t1 t2 aDb l0 l1 l2 p0 p1 p2) 5 64 (T369.setTop (mkF m 192 #[(vA a), (vA ls), (vI (3 : Int32)), (vA b173), (vI (2 : Int32)), (vI (3 : Int32)), (vA u2), (vI b2), (vI (1 : Int32))] []))
          have Nz := Fr.snoc X369 N365 g0
          have F370 := ((((F345.other W354 (Or.inl n129)).other W362 (Or.inl n151)).other W366 (Or.inl n175)).other W369 (Or.inr s0_4))
          have F371 := ((((F346.other W354 (Or.inl n129)).other W362 (Or.inl n151)).other W366 (Or.inl n175)).other W369 (Or.inr s1_4))
          have F372 := ((((F333.other W354 (Or.inl n129)).other W362 (Or.inl n151)).other W366 (Or.inl n175)).other W369 (Or.inr s2_4))
          have F373 := (((F355.other W362 (Or.inl n151)).other W366 (Or.inl n175)).other W369 (Or.inr s3_4))
          have F374 := ((((F349.other W354 n141).other W362 n163).other W366 n187).other W369 (Ne.symm n96))
          have F375 := ((((R_330.other W354 n143).other W362 n165).other W366 n189).other W369 (Ne.symm n109))
          have F376 := (((R_353.other W362 n167).other W366 n191).other W369 (Ne.symm n129))
          have F377 := ((R_360.other W366 n193).other W369 (Ne.symm n151))
          have F378 := ((((F344.wr W354 (Or.inr kb2)).wr W362 (Or.inr kb3)).wr W366 (Or.inr kb4)).wr W369 (Or.inl (List.mem_of_getElem? (i := 0) rfl)))
          exact Dn.retV X369 hx hlk hret (hb hby d18_192) (by decide) (by decide) (by rw [e369]; exact ⟨rfl, Nz, F378, _, _, _, _, _, _, _, _, b0, b1, b2, _, _, _, B0, B1, B2, Or.inr ⟨rfl, rfl, rfl⟩, F370, F371, F372, F373, (F367.same W369), F374, F375, F376, F377⟩)
        by_cases hz2 : b2 = (0 : Int32)
        · skip
          refine Dn.of (fun tt_ zz_ => XS.ifNo X334.here hx rfl (hb hby d18_142) rfl ((if0 _ _).trans (teq hz2).2) zz_) ?_
          show Dn p e below s (own_QSL Z n0 h0 a t0 t1 t2 aDb l0 l1 l2 p0 p1 p2) 5 64 (T334.setTop (mkF m 145 #[(vA a), (vA ls), (vI (3 : Int32)), (vA b173), (vI (2 : Int32)), (vI (2 : Int32)), (vA u2), (vI b2), (vI (1 : Int32))] [(.int (2 : Int32)), (.ref b127)]))
          refine Dn.of (fun tt_ zz_ => XS.lconst X334.here hx rfl (hb hby d18_145) zz_) ?_
          refine Dn.of (fun tt_ zz_ => XS.goto X334.here hx rfl (pc0 := 146) (pc' := 158) rfl (hb hby d18_146) (by decide) (by decide) zz_) ?_
          show Dn p e below s (own_QSL Z n0 h0 a t0 t1 t2 aDb l0 l1 l2 p0 p1 p2) 5 64 (T334.setTop (mkF m 158 #[(vA a), (vA ls), (vI (3 : Int32)), (vA b173), (vI (2 : Int32)), (vI (2 : Int32)), (vA u2), (vI b2), (vI (1 : Int32))] [(.long (0 : Int64)), (.int (2 : Int32)), (.ref b127)]))
          exact K2 _ (by unfold own_mask; rw [if_pos hz2])
        · skip
          refine Dn.of (fun tt_ zz_ => XS.ifYes X334.here hx rfl (pc0 := 142) (pc' := 149) rfl (hb hby d18_142) rfl ((if0 _ _).trans (feq hz2).2) (by decide) (by decide) zz_) ?_
          show Dn p e below s (own_QSL Z n0 h0 a t0 t1 t2 aDb l0 l1 l2 p0 p1 p2) 5 64 (T334.setTop (mkF m 149 #[(vA a), (vA ls), (vI (3 : Int32)), (vA b173), (vI (2 : Int32)), (vI (2 : Int32)), (vA u2), (vI b2), (vI (1 : Int32))] [(.int (2 : Int32)), (.ref b127)]))
          refine Dn.of (fun tt_ zz_ => X334.ldc2J hx hown (mvT hZ (hg 203 rfl)) rfl (hb hby d18_149) zz_) ?_
          refine Dn.of (fun tt_ zz_ => XS.bipush X334.here hx rfl (hb hby d18_152) zz_) ?_
          refine Dn.of (fun tt_ zz_ => XS.iload X334.here hx rfl (hb hby d18_154) rfl zz_) ?_
          refine Dn.of (fun tt_ zz_ => XS.isub X334.here hx rfl (hb hby d18_156) rfl zz_) ?_
          show Dn p e below s (own_QSL Z n0 h0 a t0 t1 t2 aDb l0 l1 l2 p0 p1 p2) 5 64 (T334.setTop (mkF m 157 #[(vA a), (vA ls), (vI (3 : Int32)), (vA b173), (vI (2 : Int32)), (vI (2 : Int32)), (vA u2), (vI b2), (vI (1 : Int32))] [(.int ((64 : Int32) - b2)), (.long (-1 : Int64)), (.int (2 : Int32)), (.ref b127)]))
          refine Dn.of (fun tt_ zz_ => XS.lushr X334.here hx rfl (hb hby d18_157) rfl zz_) ?_
          show Dn p e below s (own_QSL Z n0 h0 a t0 t1 t2 aDb l0 l1 l2 p0 p1 p2) 5 64 (T334.setTop (mkF m 158 #[(vA a), (vA ls), (vI (3 : Int32)), (vA b173), (vI (2 : Int32)), (vI (2 : Int32)), (vA u2), (vI b2), (vI (1 : Int32))] [(.long (((-1 : Int64).toUInt64 >>> (((64 : Int32) - b2) &&& 0x3f).toInt64.toUInt64).toInt64)), (.int (2 : Int32)), (.ref b127)]))
          exact K2 _ (by unfold own_mask; rw [if_neg hz2])
      · skip
        refine Dn.of (fun tt_ zz_ => XS.icmpYes X318.here hx rfl (pc0 := 94) (pc' := 103) rfl (hb hby d18_94) rfl (flt hfit).2.2.2 (by decide) (by decide) zz_) ?_
        show Dn p e below s (own_QSL Z n0 h0 a t0 t1 t2 aDb l0 l1 l2 p0 p1 p2) 5 64 (T318.setTop (mkF m 103 #[(vA a), (vA ls), (vI (3 : Int32)), (vA b173), (vI (1 : Int32)), (vI (2 : Int32)), (vA u2), (vI b2), (vI (0 : Int32))] []))
        refine Dn.of (fun tt_ zz_ => XS.iload X318.here hx rfl (hb hby d18_103) rfl zz_) ?_
        refine Dn.of (fun tt_ zz_ => XS.iload X318.here hx rfl (hb hby d18_105) rfl zz_) ?_
        refine Dn.of (fun tt_ zz_ => XS.iconst X318.here hx rfl (hb hby d18_107) zz_) ?_
        refine Dn.of (fun tt_ zz_ => XS.iadd X318.here hx rfl (hb hby d18_108) rfl zz_) ?_
        show Dn p e below s (own_QSL Z n0 h0 a t0 t1 t2 aDb l0 l1 l2 p0 p1 p2) 5 64 (T318.setTop (mkF m 109 #[(vA a), (vA ls), (vI (3 : Int32)), (vA b173), (vI (1 : Int32)), (vI (2 : Int32)), (vA u2), (vI b2), (vI (0 : Int32))] [(.int ((0 : Int32) + (1 : Int32))), (.int (1 : Int32))]))
        have Zd2 := F314.1 ▸ F314.2.1
        obtain ⟨v379, T379, L379, Q379, X379, st379⟩ := cSt X318 hx hZ (y := (⟨"java/lang/Math", "max", "(II)I"⟩ : MethodName)) hown (hg 202 rfl) (hg 12 rfl) (hg 6 rfl) (hg 13 rfl) (by decide) (argsL := [(.int (1 : Int32)), (.int ((0 : Int32) + (1 : Int32)))]) (rest := []) (rm_max l Z a0 hw h308 n0 Zd2 (1 : Int32) ((0 : Int32) + (1 : Int32))) e318  0 (by decide) (by decide) (by decide) (by decide) (g := (mkF m 109 #[(vA a), (vA ls), (vI (3 : Int32)), (vA b173), (vI (1 : Int32)), (vI (2 : Int32)), (vA u2), (vI b2), (vI (0 : Int32))] [(.int ((0 : Int32) + (1 : Int32))), (.int (1 : Int32))])) rfl (by rw [hml]; rfl) (lenOf pd0 rfl) rfl (by show 2 * 0 + _ ≤ _; exact Nat.le_of_eq rfl) (hb hby d18_109)
        rw [show own_max (1 : Int32) ((0 : Int32) + (1 : Int32)) = (1 : Int32) by decide] at Q379
        obtain ⟨rfl, Mc2, e379⟩ := Q379
        refine Dn.of st379 ?_
        show Dn p e below s (own_QSL Z n0 h0 a t0 t1 t2 aDb l0 l1 l2 p0 p1 p2) 5 64 (T379.setTop (mkF m 112 #[(vA a), (vA ls), (vI (3 : Int32)), (vA b173), (vI (1 : Int32)), (vI (2 : Int32)), (vA u2), (vI b2), (vI (0 : Int32))] [(.int (1 : Int32))]))
        refine Dn.of (fun tt_ zz_ => XS.istore X379.here hx rfl (hb hby d18_112) rfl (l' := #[(vA a), (vA ls), (vI (3 : Int32)), (vA b173), (vI (1 : Int32)), (vI (2 : Int32)), (vA u2), (vI b2), (vI (0 : Int32))]) rfl zz_) ?_
        refine Dn.of (fun tt_ zz_ => XS.aloadN X379.here hx rfl (hb hby d18_114) rfl rfl zz_) ?_
        show Dn p e below s (own_QSL Z n0 h0 a t0 t1 t2 aDb l0 l1 l2 p0 p1 p2) 5 64 (T379.setTop (mkF m 115 #[(vA a), (vA ls), (vI (3 : Int32)), (vA b173), (vI (1 : Int32)), (vI (2 : Int32)), (vA u2), (vI b2), (vI (0 : Int32))] [(.ref a)]))
        have F380 := (((F287.other W296 (Or.inl n129)).other W304 (Or.inl n151)).other W308 (Or.inl n175))
        obtain ⟨T381, X381, e381, st381⟩ := getF X379 hx hZ hown (host := "") (Or.inl (hg 142 rfl)) Via.refl e379 F380 (g := (mkF m 115 #[(vA a), (vA ls), (vI (3 : Int32)), (vA b173), (vI (1 : Int32)), (vI (2 : Int32)), (vA u2), (vI b2), (vI (0 : Int32))] [(.ref a)])) rfl rfl (hb hby d18_115)
        refine Dn.of st381 ?_
        show Dn p e below s (own_QSL Z n0 h0 a t0 t1 t2 aDb l0 l1 l2 p0 p1 p2) 5 64 (T381.setTop (mkF m 118 #[(vA a), (vA ls), (vI (3 : Int32)), (vA b173), (vI (1 : Int32)), (vI (2 : Int32)), (vA u2), (vI b2), (vI (0 : Int32))] [(.ref b95)]))
        refine Dn.of (fun tt_ zz_ => XS.iload X381.here hx rfl (hb hby d18_118) rfl zz_) ?_
        refine Dn.of (fun tt_ zz_ => XS.iload X381.here hx rfl (hb hby d18_120) rfl zz_) ?_
        show Dn p e below s (own_QSL Z n0 h0 a t0 t1 t2 aDb l0 l1 l2 p0 p1 p2) 5 64 (T381.setTop (mkF m 122 #[(vA a), (vA ls), (vI (3 : Int32)), (vA b173), (vI (1 : Int32)), (vI (2 : Int32)), (vA u2), (vI b2), (vI (0 : Int32))] [(.int (0 : Int32)), (.int (2 : Int32)), (.ref b95)]))
        have F383 := (((F291.other W296 n141).other W304 n163).other W308 n187)
        obtain ⟨c382, A_382, p382, S382, P382, H382, G382⟩ := F383
        obtain ⟨T384, h384, X384, e384, W384, st384⟩ := stI X381 hx hZ e381 A_382 (j := (2 : Int32)) (inb_of S382 (by decide)) (g := (mkF m 122 #[(vA a), (vA ls), (vI (3 : Int32)), (vA b173), (vI (1 : Int32)), (vI (2 : Int32)), (vA u2), (vI b2), (vI (0 : Int32))] [(.int (0 : Int32)), (.int (2 : Int32)), (.ref b95)])) rfl rfl (hb hby d18_122)
        refine Dn.of st384 ?_
        show Dn p e below s (own_QSL Z n0 h0 a t0 t1 t2 aDb l0 l1 l2 p0 p1 p2) 5 64 (T384.setTop (mkF m 123 #[(vA a), (vA ls), (vI (3 : Int32)), (vA b173), (vI (1 : Int32)), (vI (2 : Int32)), (vA u2), (vI b2), (vI (0 : Int32))] []))
        have R_382 := Arh.push A_382 p382 S382 P382 H382 G382 (v := (.int (0 : Int32))) rfl W384 (inb_of S382 (by decide))
        have N382 := Fr.snoc X384 (Fr.app Nx2 Mc2) gb0
        refine Dn.of (fun tt_ zz_ => XS.aloadN X384.here hx rfl (hb hby d18_123) rfl rfl zz_) ?_
        show Dn p e below s (own_QSL Z n0 h0 a t0 t1 t2 aDb l0 l1 l2 p0 p1 p2) 5 64 (T384.setTop (mkF m 124 #[(vA a), (vA ls), (vI (3 : Int32)), (vA b173), (vI (1 : Int32)), (vI (2 : Int32)), (vA u2), (vI b2), (vI (0 : Int32))] [(.ref a)]))
        have F385 := ((((F288.other W296 (Or.inl n129)).other W304 (Or.inl n151)).other W308 (Or.inl n175)).other W384 (Or.inl n96))
        obtain ⟨T386, X386, e386, st386⟩ := getF X384 hx hZ hown (host := "") (Or.inl (hg 144 rfl)) Via.refl e384 F385 (g := (mkF m 124 #[(vA a), (vA ls), (vI (3 : Int32)), (vA b173), (vI (1 : Int32)), (vI (2 : Int32)), (vA u2), (vI b2), (vI (0 : Int32))] [(.ref a)])) rfl rfl (hb hby d18_124)
        refine Dn.of st386 ?_
        show Dn p e below s (own_QSL Z n0 h0 a t0 t1 t2 aDb l0 l1 l2 p0 p1 p2) 5 64 (T386.setTop (mkF m 127 #[(vA a), (vA ls), (vI (3 : Int32)), (vA b173), (vI (1 : Int32)), (vI (2 : Int32)), (vA u2), (vI b2), (vI (0 : Int32))] [(.ref b107)]))
        refine Dn.of (fun tt_ zz_ => XS.iload X386.here hx rfl (hb hby d18_127) rfl zz_) ?_
        refine Dn.of (fun tt_ zz_ => XS.aloadN X386.here hx rfl (hb hby d18_129) rfl rfl zz_) ?_
        refine Dn.of (fun tt_ zz_ => XS.iload X386.here hx rfl (hb hby d18_130) rfl zz_) ?_
        show Dn p e below s (own_QSL Z n0 h0 a t0 t1 t2 aDb l0 l1 l2 p0 p1 p2) 5 64 (T386.setTop (mkF m 132 #[(vA a), (vA ls), (vI (3 : Int32)), (vA b173), (vI (1 : Int32)), (vI (2 : Int32)), (vA u2), (vI b2), (vI (0 : Int32))] [(.int (0 : Int32)), (.ref b173), (.int (2 : Int32)), (.ref b107)]))
        have F387 := (R_307.other W384 (Ne.symm n187))
        have Rr388 := F387
        obtain ⟨d388, B_388, _, Sd388, _, Hd388, _⟩ := Rr388
        refine Dn.of (fun tt_ zz_ => X386.iaload hx (j := (0 : Int32)) (v := (.int (b0 + b1))) (by rw [e386]; exact B_388.1) (State.isArrayOf_alike hZ.alike B_388.2.1) B_388.2.2 (inb_of Sd388 (by decide)) (atH Hd388 (inb_of Sd388 (by decide)) rfl) (g := (mkF m 132 #[(vA a), (vA ls), (vI (3 : Int32)), (vA b173), (vI (1 : Int32)), (vI (2 : Int32)), (vA u2), (vI b2), (vI (0 : Int32))] [(.int (0 : Int32)), (.ref b173), (.int (2 : Int32)), (.ref b107)])) rfl rfl (hb hby d18_132) tt_ zz_) ?_
        show Dn p e below s (own_QSL Z n0 h0 a t0 t1 t2 aDb l0 l1 l2 p0 p1 p2) 5 64 (T386.setTop (mkF m 133 #[(vA a), (vA ls), (vI (3 : Int32)), (vA b173), (vI (1 : Int32)), (vI (2 : Int32)), (vA u2), (vI b2), (vI (0 : Int32))] [(.int (b0 + b1)), (.int (2 : Int32)), (.ref b107)]))
        have F390 := ((((R_272.other W296 n143).other W304 n165).other W308 n189).other W384 (Ne.symm n121))
        obtain ⟨c389, A_389, p389, S389, P389, H389, G389⟩ := F390
        obtain ⟨T391, h391, X391, e391, W391, st391⟩ := stI X386 hx hZ e386 A_389 (j := (2 : Int32)) (inb_of S389 (by decide)) (g := (mkF m 133 #[(vA a), (vA ls), (vI (3 : Int32)), (vA b173), (vI (1 : Int32)), (vI (2 : Int32)), (vA u2), (vI b2), (vI (0 : Int32))] [(.int (b0 + b1)), (.int (2 : Int32)), (.ref b107)])) rfl rfl (hb hby d18_133)
        refine Dn.of st391 ?_
        show Dn p e below s (own_QSL Z n0 h0 a t0 t1 t2 aDb l0 l1 l2 p0 p1 p2) 5 64 (T391.setTop (mkF m 134 #[(vA a), (vA ls), (vI (3 : Int32)), (vA b173), (vI (1 : Int32)), (vI (2 : Int32)), (vA u2), (vI b2), (vI (0 : Int32))] []))
        have R_389 := Arh.push A_389 p389 S389 P389 H389 G389 (v := (.int (b0 + b1))) rfl W391 (inb_of S389 (by decide))
        have N389 := Fr.snoc X391 N382 gb1
        refine Dn.of (fun tt_ zz_ => XS.aloadN X391.here hx rfl (hb hby d18_134) rfl rfl zz_) ?_
        show Dn p e below s (own_QSL Z n0 h0 a t0 t1 t2 aDb l0 l1 l2 p0 p1 p2) 5 64 (T391.setTop (mkF m 135 #[(vA a), (vA ls), (vI (3 : Int32)), (vA b173), (vI (1 : Int32)), (vI (2 : Int32)), (vA u2), (vI b2), (vI (0 : Int32))] [(.ref a)]))
        have F392 := (((((F275.other W296 (Or.inl n129)).other W304 (Or.inl n151)).other W308 (Or.inl n175)).other W384 (Or.inl n96)).other W391 (Or.inl n109))
        obtain ⟨T393, X393, e393, st393⟩ := getF X391 hx hZ hown (host := "") (Or.inl (hg 147 rfl)) Via.refl e391 F392 (g := (mkF m 135 #[(vA a), (vA ls), (vI (3 : Int32)), (vA b173), (vI (1 : Int32)), (vI (2 : Int32)), (vA u2), (vI b2), (vI (0 : Int32))] [(.ref a)])) rfl rfl (hb hby d18_135)
        refine Dn.of st393 ?_
        show Dn p e below s (own_QSL Z n0 h0 a t0 t1 t2 aDb l0 l1 l2 p0 p1 p2) 5 64 (T393.setTop (mkF m 138 #[(vA a), (vA ls), (vI (3 : Int32)), (vA b173), (vI (1 : Int32)), (vI (2 : Int32)), (vA u2), (vI b2), (vI (0 : Int32))] [(.ref b127)]))
        refine Dn.of (fun tt_ zz_ => XS.iload X393.here hx rfl (hb hby d18_138) rfl zz_) ?_
        refine Dn.of (fun tt_ zz_ => XS.iload X393.here hx rfl (hb hby d18_140) rfl zz_) ?_
        show Dn p e below s (own_QSL Z n0 h0 a t0 t1 t2 aDb l0 l1 l2 p0 p1 p2) 5 64 (T393.setTop (mkF m 142 #[(vA a), (vA ls), (vI (3 : Int32)), (vA b173), (vI (1 : Int32)), (vI (2 : Int32)), (vA u2), (vI b2), (vI (0 : Int32))] [(.int b2), (.int (2 : Int32)), (.ref b127)]))
        have F394 := (((((F277.wr W296).wr W304).wr W308).wr W384).wr W391)
        have F395 := ((F309.wr W384).wr W391)
        have F396 := ((F311.other W384 (Or.inl n97)).other W391 (Or.inl n111))
        have F397 := ((F310.other W384 (Or.inl n97)).other W391 (Or.inl n111))
        have F398 := ((F312.other W384 n98).other W391 n113)
        have F399 := (((((F282.other W296 n135).other W304 n157).other W308 n181).other W384 n99).other W391 n115)
        have F400 := ((((F300.other W304 n159).other W308 n183).other W384 n100).other W391 n117)
        have F401 := ((F313.other W384 n101).other W391 n119)
        have F402 := ((F314.wr W384 gb0).wr W391 gb1)
        have F403 := ((F315.wr W384 (Or.inr kb0)).wr W391 (Or.inr kb1))
        have F404 := ((F380.other W384 (Or.inl n96)).other W391 (Or.inl n109))
        have F405 := (F385.other W391 (Or.inl n109))
        have F406 := ((((F297.other W304 (Or.inl n151)).other W308 (Or.inl n175)).other W384 (Or.inl n96)).other W391 (Or.inl n109))
        have F407 := (((((F290.other W296 (Or.inl n129)).other W304 (Or.inl n151)).other W308 (Or.inl n175)).other W384 (Or.inl n96)).other W391 (Or.inl n109))
        have F408 := (R_382.other W391 n121)
        have F409 := ((((R_295.other W304 n167).other W308 n191).other W384 (Ne.symm n141)).other W391 (Ne.symm n143))
        have F410 := (((R_302.other W308 n193).other W384 (Ne.symm n163)).other W391 (Ne.symm n165))
        have F411 := (F387.other W391 (Ne.symm n189))
        have K2 : ∀ mk : Int64, mk = own_mask b2 → Dn p e below s (own_QSL Z n0 h0 a t0 t1 t2 aDb l0 l1 l2 p0 p1 p2) 5 64 (T393.setTop (mkF m 158 #[(vA a), (vA ls), (vI (3 : Int32)), (vA b173), (vI (1 : Int32)), (vI (2 : Int32)), (vA u2), (vI b2), (vI (0 : Int32))] [(.long mk), (.int (2 : Int32)), (.ref b127)])) := by
          intro mk hmk
          subst hmk
          show Dn p e below s (own_QSL Z n0 h0 a t0 t1 t2 aDb l0 l1 l2 p0 p1 p2) 5 64 (T393.setTop (mkF m 158 #[(vA a), (vA ls), (vI (3 : Int32)), (vA b173), (vI (1 : Int32)), (vI (2 : Int32)), (vA u2), (vI b2), (vI (0 : Int32))] [(.long (own_mask b2)), (.int (2 : Int32)), (.ref b127)]))
          obtain ⟨c412, A_412, p412, S412, P412, H412, G412⟩ := F409
          obtain ⟨T413, h413, X413, e413, W413, st413⟩ := stJ X393 hx hZ e393 A_412 (j := (2 : Int32)) (inb_of S412 (by decide)) (g := (mkF m 158 #[(vA a), (vA ls), (vI (3 : Int32)), (vA b173), (vI (1 : Int32)), (vI (2 : Int32)), (vA u2), (vI b2), (vI (0 : Int32))] [(.long (own_mask b2)), (.int (2 : Int32)), (.ref b127)])) rfl rfl (hb hby d18_158)
          refine Dn.of st413 ?_
          show Dn p e below s (own_QSL Z n0 h0 a t0 t1 t2 aDb l0 l1 l2 p0 p1 p2) 5 64 (T413.setTop (mkF m 159 #[(vA a), (vA ls), (vI (3 : Int32)), (vA b173), (vI (1 : Int32)), (vI (2 : Int32)), (vA u2), (vI b2), (vI (0 : Int32))] []))
          have R_412 := Arh.push A_412 p412 S412 P412 H412 G412 (v := (.long (own_mask b2))) rfl W413 (inb_of S412 (by decide))
          have N412 := Fr.snoc X413 N389 gb2
          refine Dn.of (fun tt_ zz_ => XS.aloadN X413.here hx rfl (hb hby d18_159) rfl rfl zz_) ?_
          show Dn p e below s (own_QSL Z n0 h0 a t0 t1 t2 aDb l0 l1 l2 p0 p1 p2) 5 64 (T413.setTop (mkF m 160 #[(vA a), (vA ls), (vI (3 : Int32)), (vA b173), (vI (1 : Int32)), (vI (2 : Int32)), (vA u2), (vI b2), (vI (0 : Int32))] [(.ref a)]))
          have F414 := (F406.other W413 (Or.inl n129))
          obtain ⟨T415, X415, e415, st415⟩ := getF X413 hx hZ hown (host := "") (Or.inl (hg 149 rfl)) Via.refl e413 F414 (g := (mkF m 160 #[(vA a), (vA ls), (vI (3 : Int32)), (vA b173), (vI (1 : Int32)), (vI (2 : Int32)), (vA u2), (vI b2), (vI (0 : Int32))] [(.ref a)])) rfl rfl (hb hby d18_160)
          refine Dn.of st415 ?_
          show Dn p e below s (own_QSL Z n0 h0 a t0 t1 t2 aDb l0 l1 l2 p0 p1 p2) 5 64 (T415.setTop (mkF m 163 #[(vA a), (vA ls), (vI (3 : Int32)), (vA b173), (vI (1 : Int32)), (vI (2 : Int32)), (vA u2), (vI b2), (vI (0 : Int32))] [(.ref b149)]))
          refine Dn.of (fun tt_ zz_ => XS.iload X415.here hx rfl (hb hby d18_163) rfl zz_) ?_
          refine Dn.of (fun tt_ zz_ => XS.aload X415.here hx rfl (hb hby d18_165) rfl rfl zz_) ?_
          show Dn p e below s (own_QSL Z n0 h0 a t0 t1 t2 aDb l0 l1 l2 p0 p1 p2) 5 64 (T415.setTop (mkF m 167 #[(vA a), (vA ls), (vI (3 : Int32)), (vA b173), (vI (1 : Int32)), (vI (2 : Int32)), (vA u2), (vI b2), (vI (0 : Int32))] [(.ref u2), (.int (2 : Int32)), (.ref b149)]))
          have F416 := (F402.wr W413 gb2)
          have F417 := (F401.other W413 n139)
          have Ze2 := F416.1 ▸ F416.2.1
          obtain ⟨v418, T418, L418, Q418, X418, st418⟩ := cVi X415 hx hZ (C := "com/example/verify_markov_chains/verifymarkovchains/model/Variable") (y := (⟨"com/example/verify_markov_chains/verifymarkovchains/model/Variable", "getLower", "()I"⟩ : MethodName)) (z := (⟨"com/example/verify_markov_chains/verifymarkovchains/model/Variable", "getLower", "()I"⟩ : MethodName)) hown (hg 188 rfl) (hg 189 rfl) (notFace_of_selects (args := #[]) (mvT hZ (hg 191 rfl))) (hg 191 rfl) (hg 190 rfl) (hg 53 rfl) (hg 192 rfl) (by decide) (a := u2) (argsL := []) (rest := [(.int (2 : Int32)), (.ref b149)]) (rm_getLower l Z a0 hw h413 n0 Ze2 u2 t2 l2 p2 F417) e415 F417.1 2 (by decide) (by decide) (by decide) (by decide) (g := (mkF m 167 #[(vA a), (vA ls), (vI (3 : Int32)), (vA b173), (vI (1 : Int32)), (vI (2 : Int32)), (vA u2), (vI b2), (vI (0 : Int32))] [(.ref u2), (.int (2 : Int32)), (.ref b149)])) rfl (by rw [hml]; rfl) (lenOf pd11 rfl) rfl (by show 2 * 0 + _ ≤ _; exact Nat.le_of_eq rfl) (hb hby d18_167)
          obtain ⟨rfl, Md2, e418⟩ := Q418
          refine Dn.of st418 ?_
          show Dn p e below s (own_QSL Z n0 h0 a t0 t1 t2 aDb l0 l1 l2 p0 p1 p2) 5 64 (T418.setTop (mkF m 170 #[(vA a), (vA ls), (vI (3 : Int32)), (vA b173), (vI (1 : Int32)), (vI (2 : Int32)), (vA u2), (vI b2), (vI (0 : Int32))] [(.int l2), (.int (2 : Int32)), (.ref b149)]))
          have F420 := (F410.other W413 (Ne.symm n167))
          obtain ⟨c419, A_419, p419, S419, P419, H419, G419⟩ := F420
          obtain ⟨T421, h421, X421, e421, W421, st421⟩ := stI X418 hx hZ e418 A_419 (j := (2 : Int32)) (inb_of S419 (by decide)) (g := (mkF m 170 #[(vA a), (vA ls), (vI (3 : Int32)), (vA b173), (vI (1 : Int32)), (vI (2 : Int32)), (vA u2), (vI b2), (vI (0 : Int32))] [(.int l2), (.int (2 : Int32)), (.ref b149)])) rfl rfl (hb hby d18_170)
          refine Dn.of st421 ?_
          show Dn p e below s (own_QSL Z n0 h0 a t0 t1 t2 aDb l0 l1 l2 p0 p1 p2) 5 64 (T421.setTop (mkF m 171 #[(vA a), (vA ls), (vI (3 : Int32)), (vA b173), (vI (1 : Int32)), (vI (2 : Int32)), (vA u2), (vI b2), (vI (0 : Int32))] []))
          have R_419 := Arh.push A_419 p419 S419 P419 H419 G419 (v := (.int l2)) rfl W421 (inb_of S419 (by decide))
          have N419 := Fr.snoc X421 (Fr.app N412 Md2) gb3
          refine Dn.of (fun tt_ zz_ => XS.aloadN X421.here hx rfl (hb hby d18_171) rfl rfl zz_) ?_
          refine Dn.of (fun tt_ zz_ => XS.iload X421.here hx rfl (hb hby d18_172) rfl zz_) ?_
          refine Dn.of (fun tt_ zz_ => XT.dup2 X421.here hx rfl (hb hby d18_174) rfl rfl rfl zz_) ?_
          show Dn p e below s (own_QSL Z n0 h0 a t0 t1 t2 aDb l0 l1 l2 p0 p1 p2) 5 64 (T421.setTop (mkF m 175 #[(vA a), (vA ls), (vI (3 : Int32)), (vA b173), (vI (1 : Int32)), (vI (2 : Int32)), (vA u2), (vI b2), (vI (0 : Int32))] [(.int (0 : Int32)), (.ref b173), (.int (0 : Int32)), (.ref b173)]))
          have F422 := ((F411.other W413 (Ne.symm n191)).other W421 (Ne.symm n193))
          have Rr423 := F422
          obtain ⟨d423, B_423, _, Sd423, _, Hd423, _⟩ := Rr423
          refine Dn.of (fun tt_ zz_ => X421.iaload hx (j := (0 : Int32)) (v := (.int (b0 + b1))) (by rw [e421]; exact B_423.1) (State.isArrayOf_alike hZ.alike B_423.2.1) B_423.2.2 (inb_of Sd423 (by decide)) (atH Hd423 (inb_of Sd423 (by decide)) rfl) (g := (mkF m 175 #[(vA a), (vA ls), (vI (3 : Int32)), (vA b173), (vI (1 : Int32)), (vI (2 : Int32)), (vA u2), (vI b2), (vI (0 : Int32))] [(.int (0 : Int32)), (.ref b173), (.int (0 : Int32)), (.ref b173)])) rfl rfl (hb hby d18_175) tt_ zz_) ?_
          show Dn p e below s (own_QSL Z n0 h0 a t0 t1 t2 aDb l0 l1 l2 p0 p1 p2) 5 64 (T421.setTop (mkF m 176 #[(vA a), (vA ls), (vI (3 : Int32)), (vA b173), (vI (1 : Int32)), (vI (2 : Int32)), (vA u2), (vI b2), (vI (0 : Int32))] [(.int (b0 + b1)), (.int (0 : Int32)), (.ref b173)]))
          refine Dn.of (fun tt_ zz_ => XS.iload X421.here hx rfl (hb hby d18_176) rfl zz_) ?_
          refine Dn.of (fun tt_ zz_ => XS.iadd X421.here hx rfl (hb hby d18_178) rfl zz_) ?_
          show Dn p e below s (own_QSL Z n0 h0 a t0 t1 t2 aDb l0 l1 l2 p0 p1 p2) 5 64 (T421.setTop (mkF m 179 #[(vA a), (vA ls), (vI (3 : Int32)), (vA b173), (vI (1 : Int32)), (vI (2 : Int32)), (vA u2), (vI b2), (vI (0 : Int32))] [(.int ((b0 + b1) + b2)), (.int (0 : Int32)), (.ref b173)]))
          obtain ⟨c424, A_424, p424, S424, P424, H424, G424⟩ := F422
          obtain ⟨T425, h425, X425, e425, W425, st425⟩ := stI X421 hx hZ e421 A_424 (j := (0 : Int32)) (inb_of S424 (by decide)) (g := (mkF m 179 #[(vA a), (vA ls), (vI (3 : Int32)), (vA b173), (vI (1 : Int32)), (vI (2 : Int32)), (vA u2), (vI b2), (vI (0 : Int32))] [(.int ((b0 + b1) + b2)), (.int (0 : Int32)), (.ref b173)])) rfl rfl (hb hby d18_179)
          refine Dn.of st425 ?_
          show Dn p e below s (own_QSL Z n0 h0 a t0 t1 t2 aDb l0 l1 l2 p0 p1 p2) 5 64 (T425.setTop (mkF m 180 #[(vA a), (vA ls), (vI (3 : Int32)), (vA b173), (vI (1 : Int32)), (vI (2 : Int32)), (vA u2), (vI b2), (vI (0 : Int32))] []))
          have R_424 := Arh.push A_424 p424 S424 P424 H424 G424 (v := (.int ((b0 + b1) + b2))) rfl W425 (inb_of S424 (by decide))
          have N424 := Fr.snoc X425 N419 gb4
          refine Dn.of (fun tt_ zz_ => XS.iinc X425.here hx rfl (hb hby d18_180) rfl (l' := #[(vA a), (vA ls), (vI (3 : Int32)), (vA b173), (vI (1 : Int32)), (vI ((2 : Int32) + (1 : Int32))), (vA u2), (vI b2), (vI (0 : Int32))]) rfl zz_) ?_
          refine Dn.of (fun tt_ zz_ => XS.goto X425.here hx rfl (pc0 := 183) (pc' := 49) rfl (hb hby d18_183) (by decide) (by decide) zz_) ?_
          show Dn p e below s (own_QSL Z n0 h0 a t0 t1 t2 aDb l0 l1 l2 p0 p1 p2) 5 64 (T425.setTop (mkF m 49 #[(vA a), (vA ls), (vI (3 : Int32)), (vA b173), (vI (1 : Int32)), (vI ((2 : Int32) + (1 : Int32))), (vA u2), (vI b2), (vI (0 : Int32))] []))
          rw [show ((2 : Int32) + (1 : Int32)) = (3 : Int32) by decide]
          show Dn p e below s (own_QSL Z n0 h0 a t0 t1 t2 aDb l0 l1 l2 p0 p1 p2) 5 64 (T425.setTop (mkF m 49 #[(vA a), (vA ls), (vI (3 : Int32)), (vA b173), (vI (1 : Int32)), (vI (3 : Int32)), (vA u2), (vI b2), (vI (0 : Int32))] []))
          refine Dn.of (fun tt_ zz_ => XS.iload X425.here hx rfl (hb hby d18_49) rfl zz_) ?_
          refine Dn.of (fun tt_ zz_ => XS.iloadN X425.here hx rfl (hb hby d18_51) rfl zz_) ?_
          show Dn p e below s (own_QSL Z n0 h0 a t0 t1 t2 aDb l0 l1 l2 p0 p1 p2) 5 64 (T425.setTop (mkF m 52 #[(vA a), (vA ls), (vI (3 : Int32)), (vA b173), (vI (1 : Int32)), (vI (3 : Int32)), (vA u2), (vI b2), (vI (0 : Int32))] [(.int (3 : Int32)), (.int (3 : Int32))]))
          refine Dn.of (fun tt_ zz_ => XS.icmpYes X425.here hx rfl (pc0 := 52) (pc' := 186) rfl (hb hby d18_52) rfl (flt (by decide)).2.1 (by decide) (by decide) zz_) ?_
          show Dn p e below s (own_QSL Z n0 h0 a t0 t1 t2 aDb l0 l1 l2 p0 p1 p2) 5 64 (T425.setTop (mkF m 186 #[(vA a), (vA ls), (vI (3 : Int32)), (vA b173), (vI (1 : Int32)), (vI (3 : Int32)), (vA u2), (vI b2), (vI (0 : Int32))] []))
          refine Dn.of (fun tt_ zz_ => XS.aloadN X425.here hx rfl (hb hby d18_186) rfl rfl zz_) ?_
          refine Dn.of (fun tt_ zz_ => XS.iload X425.here hx rfl (hb hby d18_187) rfl zz_) ?_
          show Dn p e below s (own_QSL Z n0 h0 a t0 t1 t2 aDb l0 l1 l2 p0 p1 p2) 5 64 (T425.setTop (mkF m 189 #[(vA a), (vA ls), (vI (3 : Int32)), (vA b173), (vI (1 : Int32)), (vI (3 : Int32)), (vA u2), (vI b2), (vI (0 : Int32))] [(.int (1 : Int32)), (.ref a)]))
          have F426 := (((F407.other W413 (Or.inl n129)).other W421 (Or.inl n151)).other W425 (Or.inl n175))
          have F427 := (((F394.wr W413).wr W421).wr W425)
          obtain ⟨T428, h428, X428, e428, W428, st428⟩ := putF X425 hx hZ hown (host := "") (Or.inl (hg 204 rfl)) Via.refl e425 F426 F427 (Or.inr ⟨(hg 205 rfl), rfl, hnm⟩) (hg 126 rfl) (ty := .int) (by decide) rfl rfl (g := (mkF m 189 #[(vA a), (vA ls), (vI (3 : Int32)), (vA b173), (vI (1 : Int32)), (vI (3 : Int32)), (vA u2), (vI b2), (vI (0 : Int32))] [(.int (1 : Int32)), (.ref a)])) rfl rfl (hb hby d18_189)
          refine Dn.of st428 ?_
          show Dn p e below s (own_QSL Z n0 h0 a t0 t1 t2 aDb l0 l1 l2 p0 p1 p2) 5 64 (T428.setTop (mkF m 192 #[(vA a), (vA ls), (vI (3 : Int32)), (vA b173), (vI (1 : Int32)), (vI (3 : Int32)), (vA u2), (vI b2), (vI (0 : Int32))] []))
          have Nz := Fr.snoc X428 N424 g0
          have F429 := ((((F404.other W413 (Or.inl n129)).other W421 (Or.inl n151)).other W425 (Or.inl n175)).other W428 (Or.inr s0_4))
          have F430 := ((((F405.other W413 (Or.inl n129)).other W421 (Or.inl n151)).other W425 (Or.inl n175)).other W428 (Or.inr s1_4))
          have F431 := ((((F392.other W413 (Or.inl n129)).other W421 (Or.inl n151)).other W425 (Or.inl n175)).other W428 (Or.inr s2_4))
          have F432 := (((F414.other W421 (Or.inl n151)).other W425 (Or.inl n175)).other W428 (Or.inr s3_4))
          have F433 := ((((F408.other W413 n141).other W421 n163).other W425 n187).other W428 (Ne.symm n96))
          have F434 := ((((R_389.other W413 n143).other W421 n165).other W425 n189).other W428 (Ne.symm n109))
          have F435 := (((R_412.other W421 n167).other W425 n191).other W428 (Ne.symm n129))
          have F436 := ((R_419.other W425 n193).other W428 (Ne.symm n151))
          have F437 := ((((F403.wr W413 (Or.inr kb2)).wr W421 (Or.inr kb3)).wr W425 (Or.inr kb4)).wr W428 (Or.inl (List.mem_of_getElem? (i := 0) rfl)))
          exact Dn.retV X428 hx hlk hret (hb hby d18_192) (by decide) (by decide) (by rw [e428]; exact ⟨rfl, Nz, F437, _, _, _, _, _, _, _, _, b0, b1, b2, _, _, _, B0, B1, B2, Or.inl ⟨rfl, rfl, rfl, hfit⟩, F429, F430, F431, F432, (F426.same W428), F433, F434, F435, F436⟩)
        by_cases hz2 : b2 = (0 : Int32)
        · skip
          refine Dn.of (fun tt_ zz_ => XS.ifNo X393.here hx rfl (hb hby d18_142) rfl ((if0 _ _).trans (teq hz2).2) zz_) ?_
          show Dn p e below s (own_QSL Z n0 h0 a t0 t1 t2 aDb l0 l1 l2 p0 p1 p2) 5 64 (T393.setTop (mkF m 145 #[(vA a), (vA ls), (vI (3 : Int32)), (vA b173), (vI (1 : Int32)), (vI (2 : Int32)), (vA u2), (vI b2), (vI (0 : Int32))] [(.int (2 : Int32)), (.ref b127)]))
          refine Dn.of (fun tt_ zz_ => XS.lconst X393.here hx rfl (hb hby d18_145) zz_) ?_
          refine Dn.of (fun tt_ zz_ => XS.goto X393.here hx rfl (pc0 := 146) (pc' := 158) rfl (hb hby d18_146) (by decide) (by decide) zz_) ?_
          show Dn p e below s (own_QSL Z n0 h0 a t0 t1 t2 aDb l0 l1 l2 p0 p1 p2) 5 64 (T393.setTop (mkF m 158 #[(vA a), (vA ls), (vI (3 : Int32)), (vA b173), (vI (1 : Int32)), (vI (2 : Int32)), (vA u2), (vI b2), (vI (0 : Int32))] [(.long (0 : Int64)), (.int (2 : Int32)), (.ref b127)]))
          exact K2 _ (by unfold own_mask; rw [if_pos hz2])
        · skip
          refine Dn.of (fun tt_ zz_ => XS.ifYes X393.here hx rfl (pc0 := 142) (pc' := 149) rfl (hb hby d18_142) rfl ((if0 _ _).trans (feq hz2).2) (by decide) (by decide) zz_) ?_
          show Dn p e below s (own_QSL Z n0 h0 a t0 t1 t2 aDb l0 l1 l2 p0 p1 p2) 5 64 (T393.setTop (mkF m 149 #[(vA a), (vA ls), (vI (3 : Int32)), (vA b173), (vI (1 : Int32)), (vI (2 : Int32)), (vA u2), (vI b2), (vI (0 : Int32))] [(.int (2 : Int32)), (.ref b127)]))
          refine Dn.of (fun tt_ zz_ => X393.ldc2J hx hown (mvT hZ (hg 203 rfl)) rfl (hb hby d18_149) zz_) ?_
          refine Dn.of (fun tt_ zz_ => XS.bipush X393.here hx rfl (hb hby d18_152) zz_) ?_
          refine Dn.of (fun tt_ zz_ => XS.iload X393.here hx rfl (hb hby d18_154) rfl zz_) ?_
          refine Dn.of (fun tt_ zz_ => XS.isub X393.here hx rfl (hb hby d18_156) rfl zz_) ?_
          show Dn p e below s (own_QSL Z n0 h0 a t0 t1 t2 aDb l0 l1 l2 p0 p1 p2) 5 64 (T393.setTop (mkF m 157 #[(vA a), (vA ls), (vI (3 : Int32)), (vA b173), (vI (1 : Int32)), (vI (2 : Int32)), (vA u2), (vI b2), (vI (0 : Int32))] [(.int ((64 : Int32) - b2)), (.long (-1 : Int64)), (.int (2 : Int32)), (.ref b127)]))
          refine Dn.of (fun tt_ zz_ => XS.lushr X393.here hx rfl (hb hby d18_157) rfl zz_) ?_
          show Dn p e below s (own_QSL Z n0 h0 a t0 t1 t2 aDb l0 l1 l2 p0 p1 p2) 5 64 (T393.setTop (mkF m 158 #[(vA a), (vA ls), (vI (3 : Int32)), (vA b173), (vI (1 : Int32)), (vI (2 : Int32)), (vA u2), (vI b2), (vI (0 : Int32))] [(.long (((-1 : Int64).toUInt64 >>> (((64 : Int32) - b2) &&& 0x3f).toInt64.toUInt64).toInt64)), (.int (2 : Int32)), (.ref b127)]))
          exact K2 _ (by unfold own_mask; rw [if_neg hz2])
    by_cases hz1 : b1 = (0 : Int32)
    · skip
      refine Dn.of (fun tt_ zz_ => XS.ifNo X276.here hx rfl (hb hby d18_142) rfl ((if0 _ _).trans (teq hz1).2) zz_) ?_
      show Dn p e below s (own_QSL Z n0 h0 a t0 t1 t2 aDb l0 l1 l2 p0 p1 p2) 5 64 (T276.setTop (mkF m 145 #[(vA a), (vA ls), (vI (3 : Int32)), (vA b173), (vI (1 : Int32)), (vI (1 : Int32)), (vA u1), (vI b1), (vI (0 : Int32))] [(.int (1 : Int32)), (.ref b127)]))
      refine Dn.of (fun tt_ zz_ => XS.lconst X276.here hx rfl (hb hby d18_145) zz_) ?_
      refine Dn.of (fun tt_ zz_ => XS.goto X276.here hx rfl (pc0 := 146) (pc' := 158) rfl (hb hby d18_146) (by decide) (by decide) zz_) ?_
      show Dn p e below s (own_QSL Z n0 h0 a t0 t1 t2 aDb l0 l1 l2 p0 p1 p2) 5 64 (T276.setTop (mkF m 158 #[(vA a), (vA ls), (vI (3 : Int32)), (vA b173), (vI (1 : Int32)), (vI (1 : Int32)), (vA u1), (vI b1), (vI (0 : Int32))] [(.long (0 : Int64)), (.int (1 : Int32)), (.ref b127)]))
      exact K1 _ (by unfold own_mask; rw [if_pos hz1])
    · skip
      refine Dn.of (fun tt_ zz_ => XS.ifYes X276.here hx rfl (pc0 := 142) (pc' := 149) rfl (hb hby d18_142) rfl ((if0 _ _).trans (feq hz1).2) (by decide) (by decide) zz_) ?_
      show Dn p e below s (own_QSL Z n0 h0 a t0 t1 t2 aDb l0 l1 l2 p0 p1 p2) 5 64 (T276.setTop (mkF m 149 #[(vA a), (vA ls), (vI (3 : Int32)), (vA b173), (vI (1 : Int32)), (vI (1 : Int32)), (vA u1), (vI b1), (vI (0 : Int32))] [(.int (1 : Int32)), (.ref b127)]))
      refine Dn.of (fun tt_ zz_ => X276.ldc2J hx hown (mvT hZ (hg 203 rfl)) rfl (hb hby d18_149) zz_) ?_
      refine Dn.of (fun tt_ zz_ => XS.bipush X276.here hx rfl (hb hby d18_152) zz_) ?_
      refine Dn.of (fun tt_ zz_ => XS.iload X276.here hx rfl (hb hby d18_154) rfl zz_) ?_
      refine Dn.of (fun tt_ zz_ => XS.isub X276.here hx rfl (hb hby d18_156) rfl zz_) ?_
      show Dn p e below s (own_QSL Z n0 h0 a t0 t1 t2 aDb l0 l1 l2 p0 p1 p2) 5 64 (T276.setTop (mkF m 157 #[(vA a), (vA ls), (vI (3 : Int32)), (vA b173), (vI (1 : Int32)), (vI (1 : Int32)), (vA u1), (vI b1), (vI (0 : Int32))] [(.int ((64 : Int32) - b1)), (.long (-1 : Int64)), (.int (1 : Int32)), (.ref b127)]))
      refine Dn.of (fun tt_ zz_ => XS.lushr X276.here hx rfl (hb hby d18_157) rfl zz_) ?_
      show Dn p e below s (own_QSL Z n0 h0 a t0 t1 t2 aDb l0 l1 l2 p0 p1 p2) 5 64 (T276.setTop (mkF m 158 #[(vA a), (vA ls), (vI (3 : Int32)), (vA b173), (vI (1 : Int32)), (vI (1 : Int32)), (vA u1), (vI b1), (vI (0 : Int32))] [(.long (((-1 : Int64).toUInt64 >>> (((64 : Int32) - b1) &&& 0x3f).toInt64.toUInt64).toInt64)), (.int (1 : Int32)), (.ref b127)]))
      exact K1 _ (by unfold own_mask; rw [if_neg hz1])
  by_cases hz0 : b0 = (0 : Int32)
  · skip
    refine Dn.of (fun tt_ zz_ => XS.ifNo X218.here hx rfl (hb hby d18_142) rfl ((if0 _ _).trans (teq hz0).2) zz_) ?_
    show Dn p e below s (own_QSL Z n0 h0 a t0 t1 t2 aDb l0 l1 l2 p0 p1 p2) 5 64 (T218.setTop (mkF m 145 #[(vA a), (vA ls), (vI (3 : Int32)), (vA b173), (vI (1 : Int32)), (vI (0 : Int32)), (vA u0), (vI b0), (vI (0 : Int32))] [(.int (0 : Int32)), (.ref b127)]))
    refine Dn.of (fun tt_ zz_ => XS.lconst X218.here hx rfl (hb hby d18_145) zz_) ?_
    refine Dn.of (fun tt_ zz_ => XS.goto X218.here hx rfl (pc0 := 146) (pc' := 158) rfl (hb hby d18_146) (by decide) (by decide) zz_) ?_
    show Dn p e below s (own_QSL Z n0 h0 a t0 t1 t2 aDb l0 l1 l2 p0 p1 p2) 5 64 (T218.setTop (mkF m 158 #[(vA a), (vA ls), (vI (3 : Int32)), (vA b173), (vI (1 : Int32)), (vI (0 : Int32)), (vA u0), (vI b0), (vI (0 : Int32))] [(.long (0 : Int64)), (.int (0 : Int32)), (.ref b127)]))
    exact K0 _ (by unfold own_mask; rw [if_pos hz0])
  · skip
    refine Dn.of (fun tt_ zz_ => XS.ifYes X218.here hx rfl (pc0 := 142) (pc' := 149) rfl (hb hby d18_142) rfl ((if0 _ _).trans (feq hz0).2) (by decide) (by decide) zz_) ?_
    show Dn p e below s (own_QSL Z n0 h0 a t0 t1 t2 aDb l0 l1 l2 p0 p1 p2) 5 64 (T218.setTop (mkF m 149 #[(vA a), (vA ls), (vI (3 : Int32)), (vA b173), (vI (1 : Int32)), (vI (0 : Int32)), (vA u0), (vI b0), (vI (0 : Int32))] [(.int (0 : Int32)), (.ref b127)]))
    refine Dn.of (fun tt_ zz_ => X218.ldc2J hx hown (mvT hZ (hg 203 rfl)) rfl (hb hby d18_149) zz_) ?_
    refine Dn.of (fun tt_ zz_ => XS.bipush X218.here hx rfl (hb hby d18_152) zz_) ?_
    refine Dn.of (fun tt_ zz_ => XS.iload X218.here hx rfl (hb hby d18_154) rfl zz_) ?_
    refine Dn.of (fun tt_ zz_ => XS.isub X218.here hx rfl (hb hby d18_156) rfl zz_) ?_
    show Dn p e below s (own_QSL Z n0 h0 a t0 t1 t2 aDb l0 l1 l2 p0 p1 p2) 5 64 (T218.setTop (mkF m 157 #[(vA a), (vA ls), (vI (3 : Int32)), (vA b173), (vI (1 : Int32)), (vI (0 : Int32)), (vA u0), (vI b0), (vI (0 : Int32))] [(.int ((64 : Int32) - b0)), (.long (-1 : Int64)), (.int (0 : Int32)), (.ref b127)]))
    refine Dn.of (fun tt_ zz_ => XS.lushr X218.here hx rfl (hb hby d18_157) rfl zz_) ?_
    show Dn p e below s (own_QSL Z n0 h0 a t0 t1 t2 aDb l0 l1 l2 p0 p1 p2) 5 64 (T218.setTop (mkF m 158 #[(vA a), (vA ls), (vI (3 : Int32)), (vA b173), (vI (1 : Int32)), (vI (0 : Int32)), (vA u0), (vI b0), (vI (0 : Int32))] [(.long (((-1 : Int64).toUInt64 >>> (((64 : Int32) - b0) &&& 0x3f).toInt64.toUInt64).toInt64)), (.int (0 : Int32)), (.ref b127)]))
    exact K0 _ (by unfold own_mask; rw [if_neg hz0])
theorem ef32_III (m : MethodId) (x0 : Int32) (x1 : Int32) (x2 : Int32) : entryFrame m #[(.int x0), (.int x1), (.int x2)] 3 = mkF m 0 #[(vI x0), (vI x1), (vI x2)] [] := by first | (simp [entryFrame, mkF, argsToLocals, Value.category]; done) | rfl
set_option maxRecDepth 65536 in
set_option maxHeartbeats 40000000 in
theorem rmRC (l : Launch) (Z : State) (a0 : Array Value) (hw : ∀ d ∈ tables_1, d.before a0 Z = true) (h0 : Heap) (n0 : Nat) (Z0 : n0 ≤ h0.size) (n f en : Int32) (h1 : ¬ en < f) (h2 : ¬ f < 0) (h3 : ¬ n < en) :
    ctr l Z (⟨"java/util/Arrays", "rangeCheck", "(III)V"⟩ : MethodName) jdk_65_method_30_code 3 none [] ({ frames := 0, cells := 0, slots := 0, locals := 0 } : Room) 0 0 #[(.int n), (.int f), (.int en)] h0 (fun v h L => v = none ∧ Fr n0 L ∧ h = h0) := by
  refine ctr_of (by decide +kernel) ?_
  intro p e s m below meth jc s₁ hx hby hml hret hlk hnm hown hZ e0 X0
  have N0 := Fr.nil n0
  have hg : ∀ (i : Nat) {d : Jvm.Cond}, tables_1[i]? = some d → d.before a0 Z = true := fun i d q => hw d (List.mem_of_getElem? q)
  refine Dn.cast (ef32_III m n f en) ?_
  show Dn p e below s _ _ _ (s₁.setTop (mkF m 0 #[(vI n), (vI f), (vI en)] []))
  have h2' := h2
  refine Dn.of (fun tt_ zz_ => XS.iloadN X0.here hx rfl (hb hby d32_0) rfl zz_) ?_
  refine Dn.of (fun tt_ zz_ => XS.iloadN X0.here hx rfl (hb hby d32_1) rfl zz_) ?_
  show Dn p e below s _ _ _ (s₁.setTop (mkF m 2 #[(vI n), (vI f), (vI en)] [(.int en), (.int f)]))
  refine Dn.of (fun tt_ zz_ => XS.icmpYes X0.here hx rfl (pc0 := 2) (pc' := 46) rfl (hb hby d32_2) rfl (flt h1).2.2.2 (by decide) (by decide) zz_) ?_
  show Dn p e below s _ _ _ (s₁.setTop (mkF m 46 #[(vI n), (vI f), (vI en)] []))
  refine Dn.of (fun tt_ zz_ => XS.iloadN X0.here hx rfl (hb hby d32_46) rfl zz_) ?_
  show Dn p e below s _ _ _ (s₁.setTop (mkF m 47 #[(vI n), (vI f), (vI en)] [(.int f)]))
  refine Dn.of (fun tt_ zz_ => XS.ifYes X0.here hx rfl (pc0 := 47) (pc' := 59) rfl (hb hby d32_47) rfl ((if0 _ _).trans (flt h2).2.1) (by decide) (by decide) zz_) ?_
  show Dn p e below s _ _ _ (s₁.setTop (mkF m 59 #[(vI n), (vI f), (vI en)] []))
  refine Dn.of (fun tt_ zz_ => XS.iloadN X0.here hx rfl (hb hby d32_59) rfl zz_) ?_
  refine Dn.of (fun tt_ zz_ => XS.iloadN X0.here hx rfl (hb hby d32_60) rfl zz_) ?_
  show Dn p e below s _ _ _ (s₁.setTop (mkF m 61 #[(vI n), (vI f), (vI en)] [(.int n), (.int en)]))
  refine Dn.of (fun tt_ zz_ => XS.icmpYes X0.here hx rfl (pc0 := 61) (pc' := 73) rfl (hb hby d32_61) rfl (flt h3).2.2.2 (by decide) (by decide) zz_) ?_
  show Dn p e below s _ _ _ (s₁.setTop (mkF m 73 #[(vI n), (vI f), (vI en)] []))
  exact Dn.retV X0 hx hlk hret (hb hby d32_73) (by decide) (by decide) (⟨rfl, N0, e0⟩)
theorem ef31_AIIJ (m : MethodId) (x0 : Addr) (x1 : Int32) (x2 : Int32) (x3 : Int64) : entryFrame m #[(.ref x0), (.int x1), (.int x2), (.long x3)] 6 = mkF m 0 #[(vA x0), (vI x1), (vI x2), (vJ x3), .second, .unset] [] := by first | (simp [entryFrame, mkF, argsToLocals, Value.category]; done) | rfl
set_option maxRecDepth 65536 in
set_option maxHeartbeats 40000000 in
theorem rmFl1 (l : Launch) (Z : State) (a0 : Array Value) (hw : ∀ d ∈ tables_1, d.before a0 Z = true) (h0 : Heap) (n0 : Nat) (Z0 : n0 ≤ h0.size) (a : Addr) (k : ClassId) (hs : List (Int32 × Value)) (f e_ : Int32) (h1 : ¬ e_ < f) (h3 : ¬ (6 : Int32) < e_) (i0 : ¬ f < 0 ∧ f < 6) (j0 : f < e_) (hz : ¬ (f + (1 : Int32)) < e_) (R0 : Arh Z h0 a k .long 6 hs [] (.long 0)) (g0 : n0 ≤ a) :
    ctr l Z (⟨"java/util/Arrays", "fill", "([JIIJ)V"⟩ : MethodName) jdk_65_method_102_code 6 none [] ({ frames := 1, cells := 0, slots := 0, locals := 16 } : Room) 0 0 #[(.ref a), (.int f), (.int e_), (.long (0 : Int64))] h0 (fun v h L => v = none ∧ Fr n0 L ∧ Keep h0 h [a] ∧ Arh Z h a k .long 6 ((f, .long (0 : Int64)) :: hs) [] (.long 0)) := by
  refine ctr_of (by decide +kernel) ?_
  intro p e s m below meth jc s₁ hx hby hml hret hlk hnm hown hZ e0 X0
  have N0 := Fr.nil n0
  have hg : ∀ (i : Nat) {d : Jvm.Cond}, tables_1[i]? = some d → d.before a0 Z = true := fun i d q => hw d (List.mem_of_getElem? q)
  refine Dn.cast (ef31_AIIJ m a f e_ (0 : Int64)) ?_
  show Dn p e below s _ _ _ (s₁.setTop (mkF m 0 #[(vA a), (vI f), (vI e_), (vJ (0 : Int64)), .second, .unset] []))
  refine Dn.of (fun tt_ zz_ => XS.aloadN X0.here hx rfl (hb hby d31_0) rfl rfl zz_) ?_
  show Dn p e below s _ _ _ (s₁.setTop (mkF m 1 #[(vA a), (vI f), (vI e_), (vJ (0 : Int64)), .second, .unset] [(.ref a)]))
  have R0' := R0
  obtain ⟨c1, A_1, p1, S1, P1, H1, G_1⟩ := R0'
  refine Dn.of (fun tt_ zz_ => X0.arraylength hx (by rw [e0]; exact A_1.1) (State.isArrayOf_alike hZ.alike A_1.2.1) (g := (mkF m 1 #[(vA a), (vI f), (vI e_), (vJ (0 : Int64)), .second, .unset] [(.ref a)])) rfl rfl (hb hby d31_1) tt_ zz_) ?_
  rw [S1, show ((6 : Int32).toNatClampNeg).toInt32 = (6 : Int32) by decide]
  show Dn p e below s _ _ _ (s₁.setTop (mkF m 2 #[(vA a), (vI f), (vI e_), (vJ (0 : Int64)), .second, .unset] [(.int (6 : Int32))]))
  refine Dn.of (fun tt_ zz_ => XS.iloadN X0.here hx rfl (hb hby d31_2) rfl zz_) ?_
  refine Dn.of (fun tt_ zz_ => XS.iloadN X0.here hx rfl (hb hby d31_3) rfl zz_) ?_
  show Dn p e below s _ _ _ (s₁.setTop (mkF m 4 #[(vA a), (vI f), (vI e_), (vJ (0 : Int64)), .second, .unset] [(.int e_), (.int f), (.int (6 : Int32))]))
  obtain ⟨v438, T438, L438, Q438, X438, st438⟩ := cSt X0 hx hZ (y := (⟨"java/util/Arrays", "rangeCheck", "(III)V"⟩ : MethodName)) hown (hg 216 rfl) (hg 217 rfl) (hg 214 rfl) (hg 218 rfl) (by decide) (argsL := [(.int (6 : Int32)), (.int f), (.int e_)]) (rest := []) (rmRC l Z a0 hw h0 n0 Z0 6 f e_ h1 i0.1 h3) e0  0 (by decide) (by decide) (by decide) (by decide) (g := (mkF m 4 #[(vA a), (vI f), (vI e_), (vJ (0 : Int64)), .second, .unset] [(.int e_), (.int f), (.int (6 : Int32))])) rfl (by rw [hml]; rfl) (lenOf pd14 rfl) rfl (by show 2 * 0 + _ ≤ _; exact Nat.le_of_eq rfl) (hb hby d31_4)
  obtain ⟨rfl, M1, e438⟩ := Q438
  refine Dn.of st438 ?_
  show Dn p e below s _ _ _ (T438.setTop (mkF m 7 #[(vA a), (vI f), (vI e_), (vJ (0 : Int64)), .second, .unset] []))
  refine Dn.of (fun tt_ zz_ => XS.iloadN X438.here hx rfl (hb hby d31_7) rfl zz_) ?_
  refine Dn.of (fun tt_ zz_ => XS.istore X438.here hx rfl (hb hby d31_8) rfl (l' := #[(vA a), (vI f), (vI e_), (vJ (0 : Int64)), .second, (vI f)]) rfl zz_) ?_
  refine Dn.of (fun tt_ zz_ => XS.iload X438.here hx rfl (hb hby d31_10) rfl zz_) ?_
  refine Dn.of (fun tt_ zz_ => XS.iloadN X438.here hx rfl (hb hby d31_12) rfl zz_) ?_
  show Dn p e below s _ _ _ (T438.setTop (mkF m 13 #[(vA a), (vI f), (vI e_), (vJ (0 : Int64)), .second, (vI f)] [(.int e_), (.int f)]))
  refine Dn.of (fun tt_ zz_ => XS.icmpNo X438.here hx rfl (hb hby d31_13) rfl (tlt j0).2.1 zz_) ?_
  show Dn p e below s _ _ _ (T438.setTop (mkF m 16 #[(vA a), (vI f), (vI e_), (vJ (0 : Int64)), .second, (vI f)] []))
  refine Dn.of (fun tt_ zz_ => XS.aloadN X438.here hx rfl (hb hby d31_16) rfl rfl zz_) ?_
  refine Dn.of (fun tt_ zz_ => XS.iload X438.here hx rfl (hb hby d31_17) rfl zz_) ?_
  refine Dn.of (fun tt_ zz_ => XS.lloadN X438.here hx rfl (hb hby d31_19) rfl zz_) ?_
  show Dn p e below s _ _ _ (T438.setTop (mkF m 20 #[(vA a), (vI f), (vI e_), (vJ (0 : Int64)), .second, (vI f)] [(.long (0 : Int64)), (.int f), (.ref a)]))
  obtain ⟨d0, B_0, q0, U0, V0, Y0, T_0⟩ := R0
  obtain ⟨T439, h439, X439, e439, W439, st439⟩ := stJ X438 hx hZ e438 B_0 (j := f) (inb_of U0 i0) (g := (mkF m 20 #[(vA a), (vI f), (vI e_), (vJ (0 : Int64)), .second, (vI f)] [(.long (0 : Int64)), (.int f), (.ref a)])) rfl rfl (hb hby d31_20)
  refine Dn.of st439 ?_
  show Dn p e below s _ _ _ (T439.setTop (mkF m 21 #[(vA a), (vI f), (vI e_), (vJ (0 : Int64)), .second, (vI f)] []))
  have R_0 := Arh.push B_0 q0 U0 V0 Y0 T_0 (v := .long (0 : Int64)) rfl W439 (inb_of U0 i0)
  have Nf0 := Fr.snoc X439 (Fr.app N0 M1) g0
  have Kf0 := (Keep.refl h0 [a]).wr W439 (Or.inl (List.mem_of_getElem? (i := 0) rfl))
  refine Dn.of (fun tt_ zz_ => XS.iinc X439.here hx rfl (hb hby d31_21) rfl (l' := #[(vA a), (vI f), (vI e_), (vJ (0 : Int64)), .second, (vI (f + (1 : Int32)))]) rfl zz_) ?_
  refine Dn.of (fun tt_ zz_ => XS.goto X439.here hx rfl (pc0 := 24) (pc' := 10) rfl (hb hby d31_24) (by decide) (by decide) zz_) ?_
  refine Dn.of (fun tt_ zz_ => XS.iload X439.here hx rfl (hb hby d31_10) rfl zz_) ?_
  refine Dn.of (fun tt_ zz_ => XS.iloadN X439.here hx rfl (hb hby d31_12) rfl zz_) ?_
  show Dn p e below s _ _ _ (T439.setTop (mkF m 13 #[(vA a), (vI f), (vI e_), (vJ (0 : Int64)), .second, (vI (f + (1 : Int32)))] [(.int e_), (.int (f + (1 : Int32)))]))
  refine Dn.of (fun tt_ zz_ => XS.icmpYes X439.here hx rfl (pc0 := 13) (pc' := 27) rfl (hb hby d31_13) rfl (flt hz).2.1 (by decide) (by decide) zz_) ?_
  show Dn p e below s _ _ _ (T439.setTop (mkF m 27 #[(vA a), (vI f), (vI e_), (vJ (0 : Int64)), .second, (vI (f + (1 : Int32)))] []))
  exact Dn.retV X439 hx hlk hret (hb hby d31_27) (by decide) (by decide) (by rw [e439]; exact ⟨rfl, Nf0, Kf0, R_0⟩)
set_option maxRecDepth 65536 in
set_option maxHeartbeats 40000000 in
theorem rmFl2 (l : Launch) (Z : State) (a0 : Array Value) (hw : ∀ d ∈ tables_1, d.before a0 Z = true) (h0 : Heap) (n0 : Nat) (Z0 : n0 ≤ h0.size) (a : Addr) (k : ClassId) (hs : List (Int32 × Value)) (f e_ : Int32) (h1 : ¬ e_ < f) (h3 : ¬ (6 : Int32) < e_) (i0 : ¬ f < 0 ∧ f < 6) (j0 : f < e_) (i1 : ¬ (f + (1 : Int32)) < 0 ∧ (f + (1 : Int32)) < 6) (j1 : (f + (1 : Int32)) < e_) (hz : ¬ ((f + (1 : Int32)) + (1 : Int32)) < e_) (R0 : Arh Z h0 a k .long 6 hs [] (.long 0)) (g0 : n0 ≤ a) :
    ctr l Z (⟨"java/util/Arrays", "fill", "([JIIJ)V"⟩ : MethodName) jdk_65_method_102_code 6 none [] ({ frames := 1, cells := 0, slots := 0, locals := 16 } : Room) 0 0 #[(.ref a), (.int f), (.int e_), (.long (0 : Int64))] h0 (fun v h L => v = none ∧ Fr n0 L ∧ Keep h0 h [a] ∧ Arh Z h a k .long 6 (((f + (1 : Int32)), .long (0 : Int64)) :: ((f, .long (0 : Int64)) :: hs)) [] (.long 0)) := by
  refine ctr_of (by decide +kernel) ?_
  intro p e s m below meth jc s₁ hx hby hml hret hlk hnm hown hZ e0 X0
  have N0 := Fr.nil n0
  have hg : ∀ (i : Nat) {d : Jvm.Cond}, tables_1[i]? = some d → d.before a0 Z = true := fun i d q => hw d (List.mem_of_getElem? q)
  refine Dn.cast (ef31_AIIJ m a f e_ (0 : Int64)) ?_
  show Dn p e below s _ _ _ (s₁.setTop (mkF m 0 #[(vA a), (vI f), (vI e_), (vJ (0 : Int64)), .second, .unset] []))
  refine Dn.of (fun tt_ zz_ => XS.aloadN X0.here hx rfl (hb hby d31_0) rfl rfl zz_) ?_
  show Dn p e below s _ _ _ (s₁.setTop (mkF m 1 #[(vA a), (vI f), (vI e_), (vJ (0 : Int64)), .second, .unset] [(.ref a)]))
  have R0' := R0
  obtain ⟨c1, A_1, p1, S1, P1, H1, G_1⟩ := R0'
  refine Dn.of (fun tt_ zz_ => X0.arraylength hx (by rw [e0]; exact A_1.1) (State.isArrayOf_alike hZ.alike A_1.2.1) (g := (mkF m 1 #[(vA a), (vI f), (vI e_), (vJ (0 : Int64)), .second, .unset] [(.ref a)])) rfl rfl (hb hby d31_1) tt_ zz_) ?_
  rw [S1, show ((6 : Int32).toNatClampNeg).toInt32 = (6 : Int32) by decide]
  show Dn p e below s _ _ _ (s₁.setTop (mkF m 2 #[(vA a), (vI f), (vI e_), (vJ (0 : Int64)), .second, .unset] [(.int (6 : Int32))]))
  refine Dn.of (fun tt_ zz_ => XS.iloadN X0.here hx rfl (hb hby d31_2) rfl zz_) ?_
  refine Dn.of (fun tt_ zz_ => XS.iloadN X0.here hx rfl (hb hby d31_3) rfl zz_) ?_
  show Dn p e below s _ _ _ (s₁.setTop (mkF m 4 #[(vA a), (vI f), (vI e_), (vJ (0 : Int64)), .second, .unset] [(.int e_), (.int f), (.int (6 : Int32))]))
  obtain ⟨v440, T440, L440, Q440, X440, st440⟩ := cSt X0 hx hZ (y := (⟨"java/util/Arrays", "rangeCheck", "(III)V"⟩ : MethodName)) hown (hg 216 rfl) (hg 217 rfl) (hg 214 rfl) (hg 218 rfl) (by decide) (argsL := [(.int (6 : Int32)), (.int f), (.int e_)]) (rest := []) (rmRC l Z a0 hw h0 n0 Z0 6 f e_ h1 i0.1 h3) e0  0 (by decide) (by decide) (by decide) (by decide) (g := (mkF m 4 #[(vA a), (vI f), (vI e_), (vJ (0 : Int64)), .second, .unset] [(.int e_), (.int f), (.int (6 : Int32))])) rfl (by rw [hml]; rfl) (lenOf pd14 rfl) rfl (by show 2 * 0 + _ ≤ _; exact Nat.le_of_eq rfl) (hb hby d31_4)
  obtain ⟨rfl, M1, e440⟩ := Q440
  refine Dn.of st440 ?_
  show Dn p e below s _ _ _ (T440.setTop (mkF m 7 #[(vA a), (vI f), (vI e_), (vJ (0 : Int64)), .second, .unset] []))
  refine Dn.of (fun tt_ zz_ => XS.iloadN X440.here hx rfl (hb hby d31_7) rfl zz_) ?_
  refine Dn.of (fun tt_ zz_ => XS.istore X440.here hx rfl (hb hby d31_8) rfl (l' := #[(vA a), (vI f), (vI e_), (vJ (0 : Int64)), .second, (vI f)]) rfl zz_) ?_
  refine Dn.of (fun tt_ zz_ => XS.iload X440.here hx rfl (hb hby d31_10) rfl zz_) ?_
  refine Dn.of (fun tt_ zz_ => XS.iloadN X440.here hx rfl (hb hby d31_12) rfl zz_) ?_
  show Dn p e below s _ _ _ (T440.setTop (mkF m 13 #[(vA a), (vI f), (vI e_), (vJ (0 : Int64)), .second, (vI f)] [(.int e_), (.int f)]))
  refine Dn.of (fun tt_ zz_ => XS.icmpNo X440.here hx rfl (hb hby d31_13) rfl (tlt j0).2.1 zz_) ?_
  show Dn p e below s _ _ _ (T440.setTop (mkF m 16 #[(vA a), (vI f), (vI e_), (vJ (0 : Int64)), .second, (vI f)] []))
  refine Dn.of (fun tt_ zz_ => XS.aloadN X440.here hx rfl (hb hby d31_16) rfl rfl zz_) ?_
  refine Dn.of (fun tt_ zz_ => XS.iload X440.here hx rfl (hb hby d31_17) rfl zz_) ?_
  refine Dn.of (fun tt_ zz_ => XS.lloadN X440.here hx rfl (hb hby d31_19) rfl zz_) ?_
  show Dn p e below s _ _ _ (T440.setTop (mkF m 20 #[(vA a), (vI f), (vI e_), (vJ (0 : Int64)), .second, (vI f)] [(.long (0 : Int64)), (.int f), (.ref a)]))
  obtain ⟨d0, B_0, q0, U0, V0, Y0, T_0⟩ := R0
  obtain ⟨T441, h441, X441, e441, W441, st441⟩ := stJ X440 hx hZ e440 B_0 (j := f) (inb_of U0 i0) (g := (mkF m 20 #[(vA a), (vI f), (vI e_), (vJ (0 : Int64)), .second, (vI f)] [(.long (0 : Int64)), (.int f), (.ref a)])) rfl rfl (hb hby d31_20)
  refine Dn.of st441 ?_
  show Dn p e below s _ _ _ (T441.setTop (mkF m 21 #[(vA a), (vI f), (vI e_), (vJ (0 : Int64)), .second, (vI f)] []))
  have R_0 := Arh.push B_0 q0 U0 V0 Y0 T_0 (v := .long (0 : Int64)) rfl W441 (inb_of U0 i0)
  have Nf0 := Fr.snoc X441 (Fr.app N0 M1) g0
  have Kf0 := (Keep.refl h0 [a]).wr W441 (Or.inl (List.mem_of_getElem? (i := 0) rfl))
  refine Dn.of (fun tt_ zz_ => XS.iinc X441.here hx rfl (hb hby d31_21) rfl (l' := #[(vA a), (vI f), (vI e_), (vJ (0 : Int64)), .second, (vI (f + (1 : Int32)))]) rfl zz_) ?_
  refine Dn.of (fun tt_ zz_ => XS.goto X441.here hx rfl (pc0 := 24) (pc' := 10) rfl (hb hby d31_24) (by decide) (by decide) zz_) ?_
  refine Dn.of (fun tt_ zz_ => XS.iload X441.here hx rfl (hb hby d31_10) rfl zz_) ?_
  refine Dn.of (fun tt_ zz_ => XS.iloadN X441.here hx rfl (hb hby d31_12) rfl zz_) ?_
  show Dn p e below s _ _ _ (T441.setTop (mkF m 13 #[(vA a), (vI f), (vI e_), (vJ (0 : Int64)), .second, (vI (f + (1 : Int32)))] [(.int e_), (.int (f + (1 : Int32)))]))
  refine Dn.of (fun tt_ zz_ => XS.icmpNo X441.here hx rfl (hb hby d31_13) rfl (tlt j1).2.1 zz_) ?_
  show Dn p e below s _ _ _ (T441.setTop (mkF m 16 #[(vA a), (vI f), (vI e_), (vJ (0 : Int64)), .second, (vI (f + (1 : Int32)))] []))
  refine Dn.of (fun tt_ zz_ => XS.aloadN X441.here hx rfl (hb hby d31_16) rfl rfl zz_) ?_
  refine Dn.of (fun tt_ zz_ => XS.iload X441.here hx rfl (hb hby d31_17) rfl zz_) ?_
  refine Dn.of (fun tt_ zz_ => XS.lloadN X441.here hx rfl (hb hby d31_19) rfl zz_) ?_
  show Dn p e below s _ _ _ (T441.setTop (mkF m 20 #[(vA a), (vI f), (vI e_), (vJ (0 : Int64)), .second, (vI (f + (1 : Int32)))] [(.long (0 : Int64)), (.int (f + (1 : Int32))), (.ref a)]))
  obtain ⟨d1, B_1, q1, U1, V1, Y1, T_1⟩ := R_0
  obtain ⟨T442, h442, X442, e442, W442, st442⟩ := stJ X441 hx hZ e441 B_1 (j := (f + (1 : Int32))) (inb_of U1 i1) (g := (mkF m 20 #[(vA a), (vI f), (vI e_), (vJ (0 : Int64)), .second, (vI (f + (1 : Int32)))] [(.long (0 : Int64)), (.int (f + (1 : Int32))), (.ref a)])) rfl rfl (hb hby d31_20)
  refine Dn.of st442 ?_
  show Dn p e below s _ _ _ (T442.setTop (mkF m 21 #[(vA a), (vI f), (vI e_), (vJ (0 : Int64)), .second, (vI (f + (1 : Int32)))] []))
  have R_1 := Arh.push B_1 q1 U1 V1 Y1 T_1 (v := .long (0 : Int64)) rfl W442 (inb_of U1 i1)
  have Nf1 := Fr.snoc X442 Nf0 g0
  have Kf1 := Kf0.wr W442 (Or.inl (List.mem_of_getElem? (i := 0) rfl))
  refine Dn.of (fun tt_ zz_ => XS.iinc X442.here hx rfl (hb hby d31_21) rfl (l' := #[(vA a), (vI f), (vI e_), (vJ (0 : Int64)), .second, (vI ((f + (1 : Int32)) + (1 : Int32)))]) rfl zz_) ?_
  refine Dn.of (fun tt_ zz_ => XS.goto X442.here hx rfl (pc0 := 24) (pc' := 10) rfl (hb hby d31_24) (by decide) (by decide) zz_) ?_
  refine Dn.of (fun tt_ zz_ => XS.iload X442.here hx rfl (hb hby d31_10) rfl zz_) ?_
  refine Dn.of (fun tt_ zz_ => XS.iloadN X442.here hx rfl (hb hby d31_12) rfl zz_) ?_
  show Dn p e below s _ _ _ (T442.setTop (mkF m 13 #[(vA a), (vI f), (vI e_), (vJ (0 : Int64)), .second, (vI ((f + (1 : Int32)) + (1 : Int32)))] [(.int e_), (.int ((f + (1 : Int32)) + (1 : Int32)))]))
  refine Dn.of (fun tt_ zz_ => XS.icmpYes X442.here hx rfl (pc0 := 13) (pc' := 27) rfl (hb hby d31_13) rfl (flt hz).2.1 (by decide) (by decide) zz_) ?_
  show Dn p e below s _ _ _ (T442.setTop (mkF m 27 #[(vA a), (vI f), (vI e_), (vJ (0 : Int64)), .second, (vI ((f + (1 : Int32)) + (1 : Int32)))] []))
  exact Dn.retV X442 hx hlk hret (hb hby d31_27) (by decide) (by decide) (by rw [e442]; exact ⟨rfl, Nf1, Kf1, R_1⟩)
theorem ef30_AAAI (m : MethodId) (x0 : Addr) (x1 : Addr) (x2 : Addr) (x3 : Int32) : entryFrame m #[(.ref x0), (.ref x1), (.ref x2), (.int x3)] 7 = mkF m 0 #[(vA x0), (vA x1), (vA x2), (vI x3), .unset, .unset, .unset] [] := by first | (simp [entryFrame, mkF, argsToLocals, Value.category]; done) | rfl
set_option maxRecDepth 65536 in
set_option maxHeartbeats 40000000 in
theorem rmPk1 (l : Launch) (Z : State) (a0 : Array Value) (hw : ∀ d ∈ tables_1, d.before a0 Z = true) (h0 : Heap) (n0 : Nat) (Z0 : n0 ≤ h0.size) (a bw bs bm bl : Addr) (kw ks km kl : ClassId) (b0 b1 b2 l0 l1 l2 s2 : Int32) (G0 : Fld Z h0 a "com/example/verify_markov_chains/verifymarkovchains/explicit/StateLayout" "words" "[I" (.ref bw)) (G1 : Fld Z h0 a "com/example/verify_markov_chains/verifymarkovchains/explicit/StateLayout" "shifts" "[I" (.ref bs)) (G2 : Fld Z h0 a "com/example/verify_markov_chains/verifymarkovchains/explicit/StateLayout" "masks" "[J" (.ref bm)) (G3 : Fld Z h0 a "com/example/verify_markov_chains/verifymarkovchains/explicit/StateLayout" "lowers" "[I" (.ref bl)) (G4 : Fld Z h0 a "com/example/verify_markov_chains/verifymarkovchains/explicit/StateLayout" "wordCount" "I" (.int (1 : Int32))) (RW : Arh Z h0 bw kw .int 3 [((2 : Int32), .int (0 : Int32)), ((1 : Int32), .int (0 : Int32)), ((0 : Int32), .int (0 : Int32))] [] (.int 0)) (RS : Arh Z h0 bs ks .int 3 [((2 : Int32), .int s2), ((1 : Int32), .int b0), ((0 : Int32), .int (0 : Int32))] [] (.int 0)) (RM : Arh Z h0 bm km .long 3 [((2 : Int32), .long (own_mask b2)), ((1 : Int32), .long (own_mask b1)), ((0 : Int32), .long (own_mask b0))] [] (.long 0)) (RL : Arh Z h0 bl kl .int 3 [((2 : Int32), .int l2), ((1 : Int32), .int l1), ((0 : Int32), .int l0)] [] (.int 0)) (E0 : Exa Z h0 a "com/example/verify_markov_chains/verifymarkovchains/explicit/StateLayout") (va pk : Addr) (kv kp : ClassId) (v0 v1 v2 f : Int32) (hs : List (Int32 × Value)) (f0 : 0 ≤ f.toInt) (f3 : f.toInt ≤ 3) (RV : Arh Z h0 va kv .int 3 [((2 : Int32), .int v2), ((1 : Int32), .int v1), ((0 : Int32), .int v0)] [] (.int 0)) (RP : Arh Z h0 pk kp .long 6 hs [] (.long 0)) (x0 : a ≠ pk) (x1 : bw ≠ pk) (x2 : bs ≠ pk) (x3 : bl ≠ pk) (x4 : va ≠ pk) (g0 : n0 ≤ pk) :
    ctr l Z (⟨"com/example/verify_markov_chains/verifymarkovchains/explicit/StateLayout", "pack", "([I[JI)V"⟩ : MethodName) prog_51_method_4_code 7 none [] ({ frames := 2, cells := 0, slots := 0, locals := 40 } : Room) 0 0 #[(.ref a), (.ref va), (.ref pk), (.int f)] h0 (fun v h L => v = none ∧ Fr n0 L ∧ Keep h0 h [pk] ∧ ∃ hs', Arh Z h pk kp .long 6 hs' [] (.long 0) ∧ getH hs' [] (.long 0) (f + (0 : Int32)).toNatClampNeg = .long (own_w2 (own_x v0 l0) (own_x v1 l1) b0 ||| own_sh (own_x v2 l2) s2) ∧ getH hs' [] (.long 0) (f + (0 : Int32)).toNatClampNeg = .long (own_w2 (own_x v0 l0) (own_x v1 l1) b0 ||| own_sh (own_x v2 l2) s2)) := by
  refine ctr_of (plainFor_of_name pn7) ?_
  intro p e s m below meth jc s₁ hx hby hml hret hlk hnm hown hZ e0 X0
  have N0 := Fr.nil n0
  have hg : ∀ (i : Nat) {d : Jvm.Cond}, tables_1[i]? = some d → d.before a0 Z = true := fun i d q => hw d (List.mem_of_getElem? q)
  refine Dn.cast (ef30_AAAI m a va pk f) ?_
  show Dn p e below s _ _ _ (s₁.setTop (mkF m 0 #[(vA a), (vA va), (vA pk), (vI f), .unset, .unset, .unset] []))
  have ff := own_f f0 f3
  refine Dn.of (fun tt_ zz_ => XS.aloadN X0.here hx rfl (hb hby d30_0) rfl rfl zz_) ?_
  refine Dn.of (fun tt_ zz_ => XS.iloadN X0.here hx rfl (hb hby d30_1) rfl zz_) ?_
  refine Dn.of (fun tt_ zz_ => XS.iloadN X0.here hx rfl (hb hby d30_2) rfl zz_) ?_
  refine Dn.of (fun tt_ zz_ => XS.aloadN X0.here hx rfl (hb hby d30_3) rfl rfl zz_) ?_
  show Dn p e below s _ _ _ (s₁.setTop (mkF m 4 #[(vA a), (vA va), (vA pk), (vI f), .unset, .unset, .unset] [(.ref a), (.int f), (.int f), (.ref pk)]))
  obtain ⟨T443, X443, e443, st443⟩ := getF X0 hx hZ hown (host := "") (Or.inl (hg 204 rfl)) Via.refl e0 G4 (g := (mkF m 4 #[(vA a), (vA va), (vA pk), (vI f), .unset, .unset, .unset] [(.ref a), (.int f), (.int f), (.ref pk)])) rfl rfl (hb hby d30_4)
  refine Dn.of st443 ?_
  show Dn p e below s _ _ _ (T443.setTop (mkF m 7 #[(vA a), (vA va), (vA pk), (vI f), .unset, .unset, .unset] [(.int (1 : Int32)), (.int f), (.int f), (.ref pk)]))
  refine Dn.of (fun tt_ zz_ => XS.iadd X443.here hx rfl (hb hby d30_7) rfl zz_) ?_
  refine Dn.of (fun tt_ zz_ => XS.lconst X443.here hx rfl (hb hby d30_8) zz_) ?_
  show Dn p e below s _ _ _ (T443.setTop (mkF m 9 #[(vA a), (vA va), (vA pk), (vI f), .unset, .unset, .unset] [(.long (0 : Int64)), (.int (f + (1 : Int32))), (.int f), (.ref pk)]))
  obtain ⟨v444, T444, L444, Q444, X444, st444⟩ := cSt X443 hx hZ (y := (⟨"java/util/Arrays", "fill", "([JIIJ)V"⟩ : MethodName)) hown (hg 212 rfl) (hg 213 rfl) (hg 214 rfl) (hg 215 rfl) (by decide) (argsL := [(.ref pk), (.int f), (.int (f + (1 : Int32))), (.long (0 : Int64))]) (rest := []) (rmFl1 l Z a0 hw h0 n0 Z0 pk kp hs f (f + (1 : Int32)) (by simp only [Int32.lt_iff_toInt_lt]; have := ff.1; omega) (by simp only [Int32.lt_iff_toInt_lt]; have := ff.1; rw [show (6 : Int32).toInt = 6 by decide]; omega) (own_in (by have := ff; omega) (by have := ff; omega)) (by simp only [Int32.lt_iff_toInt_lt]; have := ff; omega) (by simp only [Int32.lt_iff_toInt_lt]; have := ff; omega) RP g0) e443  0 (by decide) (by decide) (by decide) (by decide) (g := (mkF m 9 #[(vA a), (vA va), (vA pk), (vI f), .unset, .unset, .unset] [(.long (0 : Int64)), (.int (f + (1 : Int32))), (.int f), (.ref pk)])) rfl (by rw [hml]; rfl) (lenOf pd15 rfl) rfl (by show 2 * 0 + _ ≤ _; exact Nat.le_of_eq rfl) (hb hby d30_9)
  obtain ⟨rfl, M1, K1, R1⟩ := Q444
  refine Dn.of st444 ?_
  show Dn p e below s _ _ _ (T444.setTop (mkF m 12 #[(vA a), (vA va), (vA pk), (vI f), .unset, .unset, .unset] []))
  refine Dn.of (fun tt_ zz_ => XS.iconst X444.here hx rfl (hb hby d30_12) zz_) ?_
  refine Dn.of (fun tt_ zz_ => XS.istore X444.here hx rfl (hb hby d30_13) rfl (l' := #[(vA a), (vA va), (vA pk), (vI f), (vI (0 : Int32)), .unset, .unset]) rfl zz_) ?_
  refine Dn.of (fun tt_ zz_ => XS.iload X444.here hx rfl (hb hby d30_15) rfl zz_) ?_
  refine Dn.of (fun tt_ zz_ => XS.aloadN X444.here hx rfl (hb hby d30_17) rfl rfl zz_) ?_
  show Dn p e below s _ _ _ (T444.setTop (mkF m 18 #[(vA a), (vA va), (vA pk), (vI f), (vI (0 : Int32)), .unset, .unset] [(.ref va), (.int (0 : Int32))]))
  have F445 := (RV.keep K1 (ninS x4 nin0))
  have RvX0 := F445
  obtain ⟨dv0, Dv0, _, Sv0, _, _, _⟩ := RvX0
  refine Dn.of (fun tt_ zz_ => X444.arraylength hx Dv0.1 (State.isArrayOf_alike hZ.alike Dv0.2.1) (g := (mkF m 18 #[(vA a), (vA va), (vA pk), (vI f), (vI (0 : Int32)), .unset, .unset] [(.ref va), (.int (0 : Int32))])) rfl rfl (hb hby d30_18) tt_ zz_) ?_
  rw [Sv0, show ((3 : Int32).toNatClampNeg).toInt32 = (3 : Int32) by decide]
  show Dn p e below s _ _ _ (T444.setTop (mkF m 19 #[(vA a), (vA va), (vA pk), (vI f), (vI (0 : Int32)), .unset, .unset] [(.int (3 : Int32)), (.int (0 : Int32))]))
  refine Dn.of (fun tt_ zz_ => XS.icmpNo X444.here hx rfl (hb hby d30_19) rfl (tlt (by decide)).2.1 zz_) ?_
  show Dn p e below s _ _ _ (T444.setTop (mkF m 22 #[(vA a), (vA va), (vA pk), (vI f), (vI (0 : Int32)), .unset, .unset] []))
  refine Dn.of (fun tt_ zz_ => XS.aloadN X444.here hx rfl (hb hby d30_22) rfl rfl zz_) ?_
  refine Dn.of (fun tt_ zz_ => XS.iload X444.here hx rfl (hb hby d30_23) rfl zz_) ?_
  show Dn p e below s _ _ _ (T444.setTop (mkF m 25 #[(vA a), (vA va), (vA pk), (vI f), (vI (0 : Int32)), .unset, .unset] [(.int (0 : Int32)), (.ref va)]))
  have Rr446 := F445
  obtain ⟨d446, B_446, _, Sd446, _, Hd446, _⟩ := Rr446
  refine Dn.of (fun tt_ zz_ => X444.iaload hx (j := (0 : Int32)) (v := (.int v0)) B_446.1 (State.isArrayOf_alike hZ.alike B_446.2.1) B_446.2.2 (inb_of Sd446 (by decide)) (atH Hd446 (inb_of Sd446 (by decide)) rfl) (g := (mkF m 25 #[(vA a), (vA va), (vA pk), (vI f), (vI (0 : Int32)), .unset, .unset] [(.int (0 : Int32)), (.ref va)])) rfl rfl (hb hby d30_25) tt_ zz_) ?_
  show Dn p e below s _ _ _ (T444.setTop (mkF m 26 #[(vA a), (vA va), (vA pk), (vI f), (vI (0 : Int32)), .unset, .unset] [(.int v0)]))
  refine Dn.of (fun tt_ zz_ => XS.i2l X444.here hx rfl (hb hby d30_26) rfl zz_) ?_
  refine Dn.of (fun tt_ zz_ => XS.aloadN X444.here hx rfl (hb hby d30_27) rfl rfl zz_) ?_
  show Dn p e below s _ _ _ (T444.setTop (mkF m 28 #[(vA a), (vA va), (vA pk), (vI f), (vI (0 : Int32)), .unset, .unset] [(.ref a), (.long (v0.toInt64))]))
  have F447 := (G3.keep K1 (ninS x0 nin0))
  obtain ⟨T448, X448, e448, st448⟩ := getF X444 hx hZ hown (host := "") (Or.inl (hg 149 rfl)) Via.refl rfl F447 (g := (mkF m 28 #[(vA a), (vA va), (vA pk), (vI f), (vI (0 : Int32)), .unset, .unset] [(.ref a), (.long (v0.toInt64))])) rfl rfl (hb hby d30_28)
  refine Dn.of st448 ?_
  show Dn p e below s _ _ _ (T448.setTop (mkF m 31 #[(vA a), (vA va), (vA pk), (vI f), (vI (0 : Int32)), .unset, .unset] [(.ref bl), (.long (v0.toInt64))]))
  refine Dn.of (fun tt_ zz_ => XS.iload X448.here hx rfl (hb hby d30_31) rfl zz_) ?_
  show Dn p e below s _ _ _ (T448.setTop (mkF m 33 #[(vA a), (vA va), (vA pk), (vI f), (vI (0 : Int32)), .unset, .unset] [(.int (0 : Int32)), (.ref bl), (.long (v0.toInt64))]))
  have F449 := (RL.keep K1 (ninS x3 nin0))
  have Rr450 := F449
  obtain ⟨d450, B_450, _, Sd450, _, Hd450, _⟩ := Rr450
  refine Dn.of (fun tt_ zz_ => X448.iaload hx (j := (0 : Int32)) (v := (.int l0)) (by rw [e448]; exact B_450.1) (State.isArrayOf_alike hZ.alike B_450.2.1) B_450.2.2 (inb_of Sd450 (by decide)) (atH Hd450 (inb_of Sd450 (by decide)) rfl) (g := (mkF m 33 #[(vA a), (vA va), (vA pk), (vI f), (vI (0 : Int32)), .unset, .unset] [(.int (0 : Int32)), (.ref bl), (.long (v0.toInt64))])) rfl rfl (hb hby d30_33) tt_ zz_) ?_
  show Dn p e below s _ _ _ (T448.setTop (mkF m 34 #[(vA a), (vA va), (vA pk), (vI f), (vI (0 : Int32)), .unset, .unset] [(.int l0), (.long (v0.toInt64))]))
  refine Dn.of (fun tt_ zz_ => XS.i2l X448.here hx rfl (hb hby d30_34) rfl zz_) ?_
  refine Dn.of (fun tt_ zz_ => XS.lsub X448.here hx rfl (hb hby d30_35) rfl zz_) ?_
  refine Dn.of (fun tt_ zz_ => XS.lstore X448.here hx rfl (hb hby d30_36) rfl (l' := #[(vA a), (vA va), (vA pk), (vI f), (vI (0 : Int32)), (vJ ((v0.toInt64) - (l0.toInt64))), .second]) rfl zz_) ?_
  refine Dn.of (fun tt_ zz_ => XS.aloadN X448.here hx rfl (hb hby d30_38) rfl rfl zz_) ?_
  show Dn p e below s _ _ _ (T448.setTop (mkF m 39 #[(vA a), (vA va), (vA pk), (vI f), (vI (0 : Int32)), (vJ ((v0.toInt64) - (l0.toInt64))), .second] [(.ref pk)]))
  refine Dn.of (fun tt_ zz_ => XS.iloadN X448.here hx rfl (hb hby d30_39) rfl zz_) ?_
  refine Dn.of (fun tt_ zz_ => XS.aloadN X448.here hx rfl (hb hby d30_40) rfl rfl zz_) ?_
  show Dn p e below s _ _ _ (T448.setTop (mkF m 41 #[(vA a), (vA va), (vA pk), (vI f), (vI (0 : Int32)), (vJ ((v0.toInt64) - (l0.toInt64))), .second] [(.ref a), (.int f), (.ref pk)]))
  have F451 := (G0.keep K1 (ninS x0 nin0))
  obtain ⟨T452, X452, e452, st452⟩ := getF X448 hx hZ hown (host := "") (Or.inl (hg 142 rfl)) Via.refl e448 F451 (g := (mkF m 41 #[(vA a), (vA va), (vA pk), (vI f), (vI (0 : Int32)), (vJ ((v0.toInt64) - (l0.toInt64))), .second] [(.ref a), (.int f), (.ref pk)])) rfl rfl (hb hby d30_41)
  refine Dn.of st452 ?_
  show Dn p e below s _ _ _ (T452.setTop (mkF m 44 #[(vA a), (vA va), (vA pk), (vI f), (vI (0 : Int32)), (vJ ((v0.toInt64) - (l0.toInt64))), .second] [(.ref bw), (.int f), (.ref pk)]))
  refine Dn.of (fun tt_ zz_ => XS.iload X452.here hx rfl (hb hby d30_44) rfl zz_) ?_
  show Dn p e below s _ _ _ (T452.setTop (mkF m 46 #[(vA a), (vA va), (vA pk), (vI f), (vI (0 : Int32)), (vJ ((v0.toInt64) - (l0.toInt64))), .second] [(.int (0 : Int32)), (.ref bw), (.int f), (.ref pk)]))
  have F453 := (RW.keep K1 (ninS x1 nin0))
  have Rr454 := F453
  obtain ⟨d454, B_454, _, Sd454, _, Hd454, _⟩ := Rr454
  refine Dn.of (fun tt_ zz_ => X452.iaload hx (j := (0 : Int32)) (v := (.int (0 : Int32))) (by rw [e452]; exact B_454.1) (State.isArrayOf_alike hZ.alike B_454.2.1) B_454.2.2 (inb_of Sd454 (by decide)) (atH Hd454 (inb_of Sd454 (by decide)) rfl) (g := (mkF m 46 #[(vA a), (vA va), (vA pk), (vI f), (vI (0 : Int32)), (vJ ((v0.toInt64) - (l0.toInt64))), .second] [(.int (0 : Int32)), (.ref bw), (.int f), (.ref pk)])) rfl rfl (hb hby d30_46) tt_ zz_) ?_
  show Dn p e below s _ _ _ (T452.setTop (mkF m 47 #[(vA a), (vA va), (vA pk), (vI f), (vI (0 : Int32)), (vJ ((v0.toInt64) - (l0.toInt64))), .second] [(.int (0 : Int32)), (.int f), (.ref pk)]))
  refine Dn.of (fun tt_ zz_ => XS.iadd X452.here hx rfl (hb hby d30_47) rfl zz_) ?_
  refine Dn.of (fun tt_ zz_ => XT.dup2 X452.here hx rfl (hb hby d30_48) rfl rfl rfl zz_) ?_
  show Dn p e below s _ _ _ (T452.setTop (mkF m 49 #[(vA a), (vA va), (vA pk), (vI f), (vI (0 : Int32)), (vJ ((v0.toInt64) - (l0.toInt64))), .second] [(.int (f + (0 : Int32))), (.ref pk), (.int (f + (0 : Int32))), (.ref pk)]))
  have Rp0 := R1
  obtain ⟨dp0, Dp0, qp0, Sp0, Pp0, Hp0, Gp0⟩ := Rp0
  refine Dn.of (fun tt_ zz_ => X452.laload hx (j := (f + (0 : Int32))) (v := (.long (0 : Int64))) (by rw [e452]; exact Dp0.1) (State.isArrayOf_alike hZ.alike Dp0.2.1) Dp0.2.2 (inb_of Sp0 ff.2.2.2.1) (atH Hp0 (inb_of Sp0 ff.2.2.2.1) (own_same ff.2.2.2.1.1 (Int32.add_zero f).symm)) (g := (mkF m 49 #[(vA a), (vA va), (vA pk), (vI f), (vI (0 : Int32)), (vJ ((v0.toInt64) - (l0.toInt64))), .second] [(.int (f + (0 : Int32))), (.ref pk), (.int (f + (0 : Int32))), (.ref pk)])) rfl rfl (hb hby d30_49) tt_ zz_) ?_
  show Dn p e below s _ _ _ (T452.setTop (mkF m 50 #[(vA a), (vA va), (vA pk), (vI f), (vI (0 : Int32)), (vJ ((v0.toInt64) - (l0.toInt64))), .second] [(.long (0 : Int64)), (.int (f + (0 : Int32))), (.ref pk)]))
  refine Dn.of (fun tt_ zz_ => XS.lload X452.here hx rfl (hb hby d30_50) rfl zz_) ?_
  refine Dn.of (fun tt_ zz_ => XS.aloadN X452.here hx rfl (hb hby d30_52) rfl rfl zz_) ?_
  show Dn p e below s _ _ _ (T452.setTop (mkF m 53 #[(vA a), (vA va), (vA pk), (vI f), (vI (0 : Int32)), (vJ ((v0.toInt64) - (l0.toInt64))), .second] [(.ref a), (.long ((v0.toInt64) - (l0.toInt64))), (.long (0 : Int64)), (.int (f + (0 : Int32))), (.ref pk)]))
  have F455 := (G1.keep K1 (ninS x0 nin0))
  obtain ⟨T456, X456, e456, st456⟩ := getF X452 hx hZ hown (host := "") (Or.inl (hg 144 rfl)) Via.refl e452 F455 (g := (mkF m 53 #[(vA a), (vA va), (vA pk), (vI f), (vI (0 : Int32)), (vJ ((v0.toInt64) - (l0.toInt64))), .second] [(.ref a), (.long ((v0.toInt64) - (l0.toInt64))), (.long (0 : Int64)), (.int (f + (0 : Int32))), (.ref pk)])) rfl rfl (hb hby d30_53)
  refine Dn.of st456 ?_
  show Dn p e below s _ _ _ (T456.setTop (mkF m 56 #[(vA a), (vA va), (vA pk), (vI f), (vI (0 : Int32)), (vJ ((v0.toInt64) - (l0.toInt64))), .second] [(.ref bs), (.long ((v0.toInt64) - (l0.toInt64))), (.long (0 : Int64)), (.int (f + (0 : Int32))), (.ref pk)]))
  refine Dn.of (fun tt_ zz_ => XS.iload X456.here hx rfl (hb hby d30_56) rfl zz_) ?_
  show Dn p e below s _ _ _ (T456.setTop (mkF m 58 #[(vA a), (vA va), (vA pk), (vI f), (vI (0 : Int32)), (vJ ((v0.toInt64) - (l0.toInt64))), .second] [(.int (0 : Int32)), (.ref bs), (.long ((v0.toInt64) - (l0.toInt64))), (.long (0 : Int64)), (.int (f + (0 : Int32))), (.ref pk)]))
  have F457 := (RS.keep K1 (ninS x2 nin0))
  have Rr458 := F457
  obtain ⟨d458, B_458, _, Sd458, _, Hd458, _⟩ := Rr458
  refine Dn.of (fun tt_ zz_ => X456.iaload hx (j := (0 : Int32)) (v := (.int (0 : Int32))) (by rw [e456]; exact B_458.1) (State.isArrayOf_alike hZ.alike B_458.2.1) B_458.2.2 (inb_of Sd458 (by decide)) (atH Hd458 (inb_of Sd458 (by decide)) rfl) (g := (mkF m 58 #[(vA a), (vA va), (vA pk), (vI f), (vI (0 : Int32)), (vJ ((v0.toInt64) - (l0.toInt64))), .second] [(.int (0 : Int32)), (.ref bs), (.long ((v0.toInt64) - (l0.toInt64))), (.long (0 : Int64)), (.int (f + (0 : Int32))), (.ref pk)])) rfl rfl (hb hby d30_58) tt_ zz_) ?_
  show Dn p e below s _ _ _ (T456.setTop (mkF m 59 #[(vA a), (vA va), (vA pk), (vI f), (vI (0 : Int32)), (vJ ((v0.toInt64) - (l0.toInt64))), .second] [(.int (0 : Int32)), (.long ((v0.toInt64) - (l0.toInt64))), (.long (0 : Int64)), (.int (f + (0 : Int32))), (.ref pk)]))
  refine Dn.of (fun tt_ zz_ => XS.lshl X456.here hx rfl (hb hby d30_59) rfl zz_) ?_
  refine Dn.of (fun tt_ zz_ => XS.lor X456.here hx rfl (hb hby d30_60) rfl zz_) ?_
  show Dn p e below s _ _ _ (T456.setTop (mkF m 61 #[(vA a), (vA va), (vA pk), (vI f), (vI (0 : Int32)), (vJ ((v0.toInt64) - (l0.toInt64))), .second] [(.long ((0 : Int64) ||| (((v0.toInt64) - (l0.toInt64)) <<< ((0 : Int32) &&& 0x3f).toInt64))), (.int (f + (0 : Int32))), (.ref pk)]))
  obtain ⟨T459, h459, X459, e459, W459, st459⟩ := stJ X456 hx hZ e456 Dp0 (j := (f + (0 : Int32))) (inb_of Sp0 ff.2.2.2.1) (g := (mkF m 61 #[(vA a), (vA va), (vA pk), (vI f), (vI (0 : Int32)), (vJ ((v0.toInt64) - (l0.toInt64))), .second] [(.long ((0 : Int64) ||| (((v0.toInt64) - (l0.toInt64)) <<< ((0 : Int32) &&& 0x3f).toInt64))), (.int (f + (0 : Int32))), (.ref pk)])) rfl rfl (hb hby d30_61)
  refine Dn.of st459 ?_
  show Dn p e below s _ _ _ (T459.setTop (mkF m 62 #[(vA a), (vA va), (vA pk), (vI f), (vI (0 : Int32)), (vJ ((v0.toInt64) - (l0.toInt64))), .second] []))
  have Rq0 := Arh.push Dp0 qp0 Sp0 Pp0 Hp0 Gp0 (v := .long ((0 : Int64) ||| (((v0.toInt64) - (l0.toInt64)) <<< ((0 : Int32) &&& 0x3f).toInt64))) rfl W459 (inb_of Sp0 ff.2.2.2.1)
  have Np0 := Fr.snoc X459 (Fr.app N0 M1) g0
  refine Dn.of (fun tt_ zz_ => XS.iinc X459.here hx rfl (hb hby d30_62) rfl (l' := #[(vA a), (vA va), (vA pk), (vI f), (vI ((0 : Int32) + (1 : Int32))), (vJ ((v0.toInt64) - (l0.toInt64))), .second]) rfl zz_) ?_
  refine Dn.of (fun tt_ zz_ => XS.goto X459.here hx rfl (pc0 := 65) (pc' := 15) rfl (hb hby d30_65) (by decide) (by decide) zz_) ?_
  show Dn p e below s _ _ _ (T459.setTop (mkF m 15 #[(vA a), (vA va), (vA pk), (vI f), (vI ((0 : Int32) + (1 : Int32))), (vJ ((v0.toInt64) - (l0.toInt64))), .second] []))
  rw [show ((0 : Int32) + (1 : Int32)) = (1 : Int32) by decide]
  show Dn p e below s _ _ _ (T459.setTop (mkF m 15 #[(vA a), (vA va), (vA pk), (vI f), (vI (1 : Int32)), (vJ ((v0.toInt64) - (l0.toInt64))), .second] []))
  refine Dn.of (fun tt_ zz_ => XS.iload X459.here hx rfl (hb hby d30_15) rfl zz_) ?_
  refine Dn.of (fun tt_ zz_ => XS.aloadN X459.here hx rfl (hb hby d30_17) rfl rfl zz_) ?_
  show Dn p e below s _ _ _ (T459.setTop (mkF m 18 #[(vA a), (vA va), (vA pk), (vI f), (vI (1 : Int32)), (vJ ((v0.toInt64) - (l0.toInt64))), .second] [(.ref va), (.int (1 : Int32))]))
  have F460 := (F445.other W459 x4)
  have RvX1 := F460
  obtain ⟨dv1, Dv1, _, Sv1, _, _, _⟩ := RvX1
  refine Dn.of (fun tt_ zz_ => X459.arraylength hx (by rw [e459]; exact Dv1.1) (State.isArrayOf_alike hZ.alike Dv1.2.1) (g := (mkF m 18 #[(vA a), (vA va), (vA pk), (vI f), (vI (1 : Int32)), (vJ ((v0.toInt64) - (l0.toInt64))), .second] [(.ref va), (.int (1 : Int32))])) rfl rfl (hb hby d30_18) tt_ zz_) ?_
  rw [Sv1, show ((3 : Int32).toNatClampNeg).toInt32 = (3 : Int32) by decide]
  show Dn p e below s _ _ _ (T459.setTop (mkF m 19 #[(vA a), (vA va), (vA pk), (vI f), (vI (1 : Int32)), (vJ ((v0.toInt64) - (l0.toInt64))), .second] [(.int (3 : Int32)), (.int (1 : Int32))]))
  refine Dn.of (fun tt_ zz_ => XS.icmpNo X459.here hx rfl (hb hby d30_19) rfl (tlt (by decide)).2.1 zz_) ?_
  show Dn p e below s _ _ _ (T459.setTop (mkF m 22 #[(vA a), (vA va), (vA pk), (vI f), (vI (1 : Int32)), (vJ ((v0.toInt64) - (l0.toInt64))), .second] []))
  refine Dn.of (fun tt_ zz_ => XS.aloadN X459.here hx rfl (hb hby d30_22) rfl rfl zz_) ?_
  refine Dn.of (fun tt_ zz_ => XS.iload X459.here hx rfl (hb hby d30_23) rfl zz_) ?_
  show Dn p e below s _ _ _ (T459.setTop (mkF m 25 #[(vA a), (vA va), (vA pk), (vI f), (vI (1 : Int32)), (vJ ((v0.toInt64) - (l0.toInt64))), .second] [(.int (1 : Int32)), (.ref va)]))
  have Rr461 := F460
  obtain ⟨d461, B_461, _, Sd461, _, Hd461, _⟩ := Rr461
  refine Dn.of (fun tt_ zz_ => X459.iaload hx (j := (1 : Int32)) (v := (.int v1)) (by rw [e459]; exact B_461.1) (State.isArrayOf_alike hZ.alike B_461.2.1) B_461.2.2 (inb_of Sd461 (by decide)) (atH Hd461 (inb_of Sd461 (by decide)) rfl) (g := (mkF m 25 #[(vA a), (vA va), (vA pk), (vI f), (vI (1 : Int32)), (vJ ((v0.toInt64) - (l0.toInt64))), .second] [(.int (1 : Int32)), (.ref va)])) rfl rfl (hb hby d30_25) tt_ zz_) ?_
  show Dn p e below s _ _ _ (T459.setTop (mkF m 26 #[(vA a), (vA va), (vA pk), (vI f), (vI (1 : Int32)), (vJ ((v0.toInt64) - (l0.toInt64))), .second] [(.int v1)]))
  refine Dn.of (fun tt_ zz_ => XS.i2l X459.here hx rfl (hb hby d30_26) rfl zz_) ?_
  refine Dn.of (fun tt_ zz_ => XS.aloadN X459.here hx rfl (hb hby d30_27) rfl rfl zz_) ?_
  show Dn p e below s _ _ _ (T459.setTop (mkF m 28 #[(vA a), (vA va), (vA pk), (vI f), (vI (1 : Int32)), (vJ ((v0.toInt64) - (l0.toInt64))), .second] [(.ref a), (.long (v1.toInt64))]))
  have F462 := (F447.other W459 (Or.inl x0))
  obtain ⟨T463, X463, e463, st463⟩ := getF X459 hx hZ hown (host := "") (Or.inl (hg 149 rfl)) Via.refl e459 F462 (g := (mkF m 28 #[(vA a), (vA va), (vA pk), (vI f), (vI (1 : Int32)), (vJ ((v0.toInt64) - (l0.toInt64))), .second] [(.ref a), (.long (v1.toInt64))])) rfl rfl (hb hby d30_28)
  refine Dn.of st463 ?_
  show Dn p e below s _ _ _ (T463.setTop (mkF m 31 #[(vA a), (vA va), (vA pk), (vI f), (vI (1 : Int32)), (vJ ((v0.toInt64) - (l0.toInt64))), .second] [(.ref bl), (.long (v1.toInt64))]))
  refine Dn.of (fun tt_ zz_ => XS.iload X463.here hx rfl (hb hby d30_31) rfl zz_) ?_
  show Dn p e below s _ _ _ (T463.setTop (mkF m 33 #[(vA a), (vA va), (vA pk), (vI f), (vI (1 : Int32)), (vJ ((v0.toInt64) - (l0.toInt64))), .second] [(.int (1 : Int32)), (.ref bl), (.long (v1.toInt64))]))
  have F464 := (F449.other W459 x3)
  have Rr465 := F464
  obtain ⟨d465, B_465, _, Sd465, _, Hd465, _⟩ := Rr465
  refine Dn.of (fun tt_ zz_ => X463.iaload hx (j := (1 : Int32)) (v := (.int l1)) (by rw [e463]; exact B_465.1) (State.isArrayOf_alike hZ.alike B_465.2.1) B_465.2.2 (inb_of Sd465 (by decide)) (atH Hd465 (inb_of Sd465 (by decide)) rfl) (g := (mkF m 33 #[(vA a), (vA va), (vA pk), (vI f), (vI (1 : Int32)), (vJ ((v0.toInt64) - (l0.toInt64))), .second] [(.int (1 : Int32)), (.ref bl), (.long (v1.toInt64))])) rfl rfl (hb hby d30_33) tt_ zz_) ?_
  show Dn p e below s _ _ _ (T463.setTop (mkF m 34 #[(vA a), (vA va), (vA pk), (vI f), (vI (1 : Int32)), (vJ ((v0.toInt64) - (l0.toInt64))), .second] [(.int l1), (.long (v1.toInt64))]))
  refine Dn.of (fun tt_ zz_ => XS.i2l X463.here hx rfl (hb hby d30_34) rfl zz_) ?_
  refine Dn.of (fun tt_ zz_ => XS.lsub X463.here hx rfl (hb hby d30_35) rfl zz_) ?_
  refine Dn.of (fun tt_ zz_ => XS.lstore X463.here hx rfl (hb hby d30_36) rfl (l' := #[(vA a), (vA va), (vA pk), (vI f), (vI (1 : Int32)), (vJ ((v1.toInt64) - (l1.toInt64))), .second]) rfl zz_) ?_
  refine Dn.of (fun tt_ zz_ => XS.aloadN X463.here hx rfl (hb hby d30_38) rfl rfl zz_) ?_
  show Dn p e below s _ _ _ (T463.setTop (mkF m 39 #[(vA a), (vA va), (vA pk), (vI f), (vI (1 : Int32)), (vJ ((v1.toInt64) - (l1.toInt64))), .second] [(.ref pk)]))
  refine Dn.of (fun tt_ zz_ => XS.iloadN X463.here hx rfl (hb hby d30_39) rfl zz_) ?_
  refine Dn.of (fun tt_ zz_ => XS.aloadN X463.here hx rfl (hb hby d30_40) rfl rfl zz_) ?_
  show Dn p e below s _ _ _ (T463.setTop (mkF m 41 #[(vA a), (vA va), (vA pk), (vI f), (vI (1 : Int32)), (vJ ((v1.toInt64) - (l1.toInt64))), .second] [(.ref a), (.int f), (.ref pk)]))
  have F466 := (F451.other W459 (Or.inl x0))
  obtain ⟨T467, X467, e467, st467⟩ := getF X463 hx hZ hown (host := "") (Or.inl (hg 142 rfl)) Via.refl e463 F466 (g := (mkF m 41 #[(vA a), (vA va), (vA pk), (vI f), (vI (1 : Int32)), (vJ ((v1.toInt64) - (l1.toInt64))), .second] [(.ref a), (.int f), (.ref pk)])) rfl rfl (hb hby d30_41)
  refine Dn.of st467 ?_
  show Dn p e below s _ _ _ (T467.setTop (mkF m 44 #[(vA a), (vA va), (vA pk), (vI f), (vI (1 : Int32)), (vJ ((v1.toInt64) - (l1.toInt64))), .second] [(.ref bw), (.int f), (.ref pk)]))
  refine Dn.of (fun tt_ zz_ => XS.iload X467.here hx rfl (hb hby d30_44) rfl zz_) ?_
  show Dn p e below s _ _ _ (T467.setTop (mkF m 46 #[(vA a), (vA va), (vA pk), (vI f), (vI (1 : Int32)), (vJ ((v1.toInt64) - (l1.toInt64))), .second] [(.int (1 : Int32)), (.ref bw), (.int f), (.ref pk)]))
  have F468 := (F453.other W459 x1)
  have Rr469 := F468
  obtain ⟨d469, B_469, _, Sd469, _, Hd469, _⟩ := Rr469
  refine Dn.of (fun tt_ zz_ => X467.iaload hx (j := (1 : Int32)) (v := (.int (0 : Int32))) (by rw [e467]; exact B_469.1) (State.isArrayOf_alike hZ.alike B_469.2.1) B_469.2.2 (inb_of Sd469 (by decide)) (atH Hd469 (inb_of Sd469 (by decide)) rfl) (g := (mkF m 46 #[(vA a), (vA va), (vA pk), (vI f), (vI (1 : Int32)), (vJ ((v1.toInt64) - (l1.toInt64))), .second] [(.int (1 : Int32)), (.ref bw), (.int f), (.ref pk)])) rfl rfl (hb hby d30_46) tt_ zz_) ?_
  show Dn p e below s _ _ _ (T467.setTop (mkF m 47 #[(vA a), (vA va), (vA pk), (vI f), (vI (1 : Int32)), (vJ ((v1.toInt64) - (l1.toInt64))), .second] [(.int (0 : Int32)), (.int f), (.ref pk)]))
  refine Dn.of (fun tt_ zz_ => XS.iadd X467.here hx rfl (hb hby d30_47) rfl zz_) ?_
  refine Dn.of (fun tt_ zz_ => XT.dup2 X467.here hx rfl (hb hby d30_48) rfl rfl rfl zz_) ?_
  show Dn p e below s _ _ _ (T467.setTop (mkF m 49 #[(vA a), (vA va), (vA pk), (vI f), (vI (1 : Int32)), (vJ ((v1.toInt64) - (l1.toInt64))), .second] [(.int (f + (0 : Int32))), (.ref pk), (.int (f + (0 : Int32))), (.ref pk)]))
  have Rp1 := Rq0
  obtain ⟨dp1, Dp1, qp1, Sp1, Pp1, Hp1, Gp1⟩ := Rp1
  refine Dn.of (fun tt_ zz_ => X467.laload hx (j := (f + (0 : Int32))) (v := (.long ((0 : Int64) ||| (((v0.toInt64) - (l0.toInt64)) <<< ((0 : Int32) &&& 0x3f).toInt64)))) (by rw [e467]; exact Dp1.1) (State.isArrayOf_alike hZ.alike Dp1.2.1) Dp1.2.2 (inb_of Sp1 ff.2.2.2.1) (atH Hp1 (inb_of Sp1 ff.2.2.2.1) (own_same ff.2.2.2.1.1 rfl)) (g := (mkF m 49 #[(vA a), (vA va), (vA pk), (vI f), (vI (1 : Int32)), (vJ ((v1.toInt64) - (l1.toInt64))), .second] [(.int (f + (0 : Int32))), (.ref pk), (.int (f + (0 : Int32))), (.ref pk)])) rfl rfl (hb hby d30_49) tt_ zz_) ?_
  show Dn p e below s _ _ _ (T467.setTop (mkF m 50 #[(vA a), (vA va), (vA pk), (vI f), (vI (1 : Int32)), (vJ ((v1.toInt64) - (l1.toInt64))), .second] [(.long ((0 : Int64) ||| (((v0.toInt64) - (l0.toInt64)) <<< ((0 : Int32) &&& 0x3f).toInt64))), (.int (f + (0 : Int32))), (.ref pk)]))
  refine Dn.of (fun tt_ zz_ => XS.lload X467.here hx rfl (hb hby d30_50) rfl zz_) ?_
  refine Dn.of (fun tt_ zz_ => XS.aloadN X467.here hx rfl (hb hby d30_52) rfl rfl zz_) ?_
  show Dn p e below s _ _ _ (T467.setTop (mkF m 53 #[(vA a), (vA va), (vA pk), (vI f), (vI (1 : Int32)), (vJ ((v1.toInt64) - (l1.toInt64))), .second] [(.ref a), (.long ((v1.toInt64) - (l1.toInt64))), (.long ((0 : Int64) ||| (((v0.toInt64) - (l0.toInt64)) <<< ((0 : Int32) &&& 0x3f).toInt64))), (.int (f + (0 : Int32))), (.ref pk)]))
  have F470 := (F455.other W459 (Or.inl x0))
  obtain ⟨T471, X471, e471, st471⟩ := getF X467 hx hZ hown (host := "") (Or.inl (hg 144 rfl)) Via.refl e467 F470 (g := (mkF m 53 #[(vA a), (vA va), (vA pk), (vI f), (vI (1 : Int32)), (vJ ((v1.toInt64) - (l1.toInt64))), .second] [(.ref a), (.long ((v1.toInt64) - (l1.toInt64))), (.long ((0 : Int64) ||| (((v0.toInt64) - (l0.toInt64)) <<< ((0 : Int32) &&& 0x3f).toInt64))), (.int (f + (0 : Int32))), (.ref pk)])) rfl rfl (hb hby d30_53)
  refine Dn.of st471 ?_
  show Dn p e below s _ _ _ (T471.setTop (mkF m 56 #[(vA a), (vA va), (vA pk), (vI f), (vI (1 : Int32)), (vJ ((v1.toInt64) - (l1.toInt64))), .second] [(.ref bs), (.long ((v1.toInt64) - (l1.toInt64))), (.long ((0 : Int64) ||| (((v0.toInt64) - (l0.toInt64)) <<< ((0 : Int32) &&& 0x3f).toInt64))), (.int (f + (0 : Int32))), (.ref pk)]))
  refine Dn.of (fun tt_ zz_ => XS.iload X471.here hx rfl (hb hby d30_56) rfl zz_) ?_
  show Dn p e below s _ _ _ (T471.setTop (mkF m 58 #[(vA a), (vA va), (vA pk), (vI f), (vI (1 : Int32)), (vJ ((v1.toInt64) - (l1.toInt64))), .second] [(.int (1 : Int32)), (.ref bs), (.long ((v1.toInt64) - (l1.toInt64))), (.long ((0 : Int64) ||| (((v0.toInt64) - (l0.toInt64)) <<< ((0 : Int32) &&& 0x3f).toInt64))), (.int (f + (0 : Int32))), (.ref pk)]))
  have F472 := (F457.other W459 x2)
  have Rr473 := F472
  obtain ⟨d473, B_473, _, Sd473, _, Hd473, _⟩ := Rr473
  refine Dn.of (fun tt_ zz_ => X471.iaload hx (j := (1 : Int32)) (v := (.int b0)) (by rw [e471]; exact B_473.1) (State.isArrayOf_alike hZ.alike B_473.2.1) B_473.2.2 (inb_of Sd473 (by decide)) (atH Hd473 (inb_of Sd473 (by decide)) rfl) (g := (mkF m 58 #[(vA a), (vA va), (vA pk), (vI f), (vI (1 : Int32)), (vJ ((v1.toInt64) - (l1.toInt64))), .second] [(.int (1 : Int32)), (.ref bs), (.long ((v1.toInt64) - (l1.toInt64))), (.long ((0 : Int64) ||| (((v0.toInt64) - (l0.toInt64)) <<< ((0 : Int32) &&& 0x3f).toInt64))), (.int (f + (0 : Int32))), (.ref pk)])) rfl rfl (hb hby d30_58) tt_ zz_) ?_
  show Dn p e below s _ _ _ (T471.setTop (mkF m 59 #[(vA a), (vA va), (vA pk), (vI f), (vI (1 : Int32)), (vJ ((v1.toInt64) - (l1.toInt64))), .second] [(.int b0), (.long ((v1.toInt64) - (l1.toInt64))), (.long ((0 : Int64) ||| (((v0.toInt64) - (l0.toInt64)) <<< ((0 : Int32) &&& 0x3f).toInt64))), (.int (f + (0 : Int32))), (.ref pk)]))
  refine Dn.of (fun tt_ zz_ => XS.lshl X471.here hx rfl (hb hby d30_59) rfl zz_) ?_
  refine Dn.of (fun tt_ zz_ => XS.lor X471.here hx rfl (hb hby d30_60) rfl zz_) ?_
  show Dn p e below s _ _ _ (T471.setTop (mkF m 61 #[(vA a), (vA va), (vA pk), (vI f), (vI (1 : Int32)), (vJ ((v1.toInt64) - (l1.toInt64))), .second] [(.long (((0 : Int64) ||| (((v0.toInt64) - (l0.toInt64)) <<< ((0 : Int32) &&& 0x3f).toInt64)) ||| (((v1.toInt64) - (l1.toInt64)) <<< (b0 &&& 0x3f).toInt64))), (.int (f + (0 : Int32))), (.ref pk)]))
  obtain ⟨T474, h474, X474, e474, W474, st474⟩ := stJ X471 hx hZ e471 Dp1 (j := (f + (0 : Int32))) (inb_of Sp1 ff.2.2.2.1) (g := (mkF m 61 #[(vA a), (vA va), (vA pk), (vI f), (vI (1 : Int32)), (vJ ((v1.toInt64) - (l1.toInt64))), .second] [(.long (((0 : Int64) ||| (((v0.toInt64) - (l0.toInt64)) <<< ((0 : Int32) &&& 0x3f).toInt64)) ||| (((v1.toInt64) - (l1.toInt64)) <<< (b0 &&& 0x3f).toInt64))), (.int (f + (0 : Int32))), (.ref pk)])) rfl rfl (hb hby d30_61)
  refine Dn.of st474 ?_
  show Dn p e below s _ _ _ (T474.setTop (mkF m 62 #[(vA a), (vA va), (vA pk), (vI f), (vI (1 : Int32)), (vJ ((v1.toInt64) - (l1.toInt64))), .second] []))
  have Rq1 := Arh.push Dp1 qp1 Sp1 Pp1 Hp1 Gp1 (v := .long (((0 : Int64) ||| (((v0.toInt64) - (l0.toInt64)) <<< ((0 : Int32) &&& 0x3f).toInt64)) ||| (((v1.toInt64) - (l1.toInt64)) <<< (b0 &&& 0x3f).toInt64))) rfl W474 (inb_of Sp1 ff.2.2.2.1)
  have Np1 := Fr.snoc X474 Np0 g0
  refine Dn.of (fun tt_ zz_ => XS.iinc X474.here hx rfl (hb hby d30_62) rfl (l' := #[(vA a), (vA va), (vA pk), (vI f), (vI ((1 : Int32) + (1 : Int32))), (vJ ((v1.toInt64) - (l1.toInt64))), .second]) rfl zz_) ?_
  refine Dn.of (fun tt_ zz_ => XS.goto X474.here hx rfl (pc0 := 65) (pc' := 15) rfl (hb hby d30_65) (by decide) (by decide) zz_) ?_
  show Dn p e below s _ _ _ (T474.setTop (mkF m 15 #[(vA a), (vA va), (vA pk), (vI f), (vI ((1 : Int32) + (1 : Int32))), (vJ ((v1.toInt64) - (l1.toInt64))), .second] []))
  rw [show ((1 : Int32) + (1 : Int32)) = (2 : Int32) by decide]
  show Dn p e below s _ _ _ (T474.setTop (mkF m 15 #[(vA a), (vA va), (vA pk), (vI f), (vI (2 : Int32)), (vJ ((v1.toInt64) - (l1.toInt64))), .second] []))
  refine Dn.of (fun tt_ zz_ => XS.iload X474.here hx rfl (hb hby d30_15) rfl zz_) ?_
  refine Dn.of (fun tt_ zz_ => XS.aloadN X474.here hx rfl (hb hby d30_17) rfl rfl zz_) ?_
  show Dn p e below s _ _ _ (T474.setTop (mkF m 18 #[(vA a), (vA va), (vA pk), (vI f), (vI (2 : Int32)), (vJ ((v1.toInt64) - (l1.toInt64))), .second] [(.ref va), (.int (2 : Int32))]))
  have F475 := (F460.other W474 x4)
  have RvX2 := F475
  obtain ⟨dv2, Dv2, _, Sv2, _, _, _⟩ := RvX2
  refine Dn.of (fun tt_ zz_ => X474.arraylength hx (by rw [e474]; exact Dv2.1) (State.isArrayOf_alike hZ.alike Dv2.2.1) (g := (mkF m 18 #[(vA a), (vA va), (vA pk), (vI f), (vI (2 : Int32)), (vJ ((v1.toInt64) - (l1.toInt64))), .second] [(.ref va), (.int (2 : Int32))])) rfl rfl (hb hby d30_18) tt_ zz_) ?_
  rw [Sv2, show ((3 : Int32).toNatClampNeg).toInt32 = (3 : Int32) by decide]
  show Dn p e below s _ _ _ (T474.setTop (mkF m 19 #[(vA a), (vA va), (vA pk), (vI f), (vI (2 : Int32)), (vJ ((v1.toInt64) - (l1.toInt64))), .second] [(.int (3 : Int32)), (.int (2 : Int32))]))
  refine Dn.of (fun tt_ zz_ => XS.icmpNo X474.here hx rfl (hb hby d30_19) rfl (tlt (by decide)).2.1 zz_) ?_
  show Dn p e below s _ _ _ (T474.setTop (mkF m 22 #[(vA a), (vA va), (vA pk), (vI f), (vI (2 : Int32)), (vJ ((v1.toInt64) - (l1.toInt64))), .second] []))
  refine Dn.of (fun tt_ zz_ => XS.aloadN X474.here hx rfl (hb hby d30_22) rfl rfl zz_) ?_
  refine Dn.of (fun tt_ zz_ => XS.iload X474.here hx rfl (hb hby d30_23) rfl zz_) ?_
  show Dn p e below s _ _ _ (T474.setTop (mkF m 25 #[(vA a), (vA va), (vA pk), (vI f), (vI (2 : Int32)), (vJ ((v1.toInt64) - (l1.toInt64))), .second] [(.int (2 : Int32)), (.ref va)]))
  have Rr476 := F475
  obtain ⟨d476, B_476, _, Sd476, _, Hd476, _⟩ := Rr476
  refine Dn.of (fun tt_ zz_ => X474.iaload hx (j := (2 : Int32)) (v := (.int v2)) (by rw [e474]; exact B_476.1) (State.isArrayOf_alike hZ.alike B_476.2.1) B_476.2.2 (inb_of Sd476 (by decide)) (atH Hd476 (inb_of Sd476 (by decide)) rfl) (g := (mkF m 25 #[(vA a), (vA va), (vA pk), (vI f), (vI (2 : Int32)), (vJ ((v1.toInt64) - (l1.toInt64))), .second] [(.int (2 : Int32)), (.ref va)])) rfl rfl (hb hby d30_25) tt_ zz_) ?_
  show Dn p e below s _ _ _ (T474.setTop (mkF m 26 #[(vA a), (vA va), (vA pk), (vI f), (vI (2 : Int32)), (vJ ((v1.toInt64) - (l1.toInt64))), .second] [(.int v2)]))
  refine Dn.of (fun tt_ zz_ => XS.i2l X474.here hx rfl (hb hby d30_26) rfl zz_) ?_
  refine Dn.of (fun tt_ zz_ => XS.aloadN X474.here hx rfl (hb hby d30_27) rfl rfl zz_) ?_
  show Dn p e below s _ _ _ (T474.setTop (mkF m 28 #[(vA a), (vA va), (vA pk), (vI f), (vI (2 : Int32)), (vJ ((v1.toInt64) - (l1.toInt64))), .second] [(.ref a), (.long (v2.toInt64))]))
  have F477 := (F462.other W474 (Or.inl x0))
  obtain ⟨T478, X478, e478, st478⟩ := getF X474 hx hZ hown (host := "") (Or.inl (hg 149 rfl)) Via.refl e474 F477 (g := (mkF m 28 #[(vA a), (vA va), (vA pk), (vI f), (vI (2 : Int32)), (vJ ((v1.toInt64) - (l1.toInt64))), .second] [(.ref a), (.long (v2.toInt64))])) rfl rfl (hb hby d30_28)
  refine Dn.of st478 ?_
  show Dn p e below s _ _ _ (T478.setTop (mkF m 31 #[(vA a), (vA va), (vA pk), (vI f), (vI (2 : Int32)), (vJ ((v1.toInt64) - (l1.toInt64))), .second] [(.ref bl), (.long (v2.toInt64))]))
  refine Dn.of (fun tt_ zz_ => XS.iload X478.here hx rfl (hb hby d30_31) rfl zz_) ?_
  show Dn p e below s _ _ _ (T478.setTop (mkF m 33 #[(vA a), (vA va), (vA pk), (vI f), (vI (2 : Int32)), (vJ ((v1.toInt64) - (l1.toInt64))), .second] [(.int (2 : Int32)), (.ref bl), (.long (v2.toInt64))]))
  have F479 := (F464.other W474 x3)
  have Rr480 := F479
  obtain ⟨d480, B_480, _, Sd480, _, Hd480, _⟩ := Rr480
  refine Dn.of (fun tt_ zz_ => X478.iaload hx (j := (2 : Int32)) (v := (.int l2)) (by rw [e478]; exact B_480.1) (State.isArrayOf_alike hZ.alike B_480.2.1) B_480.2.2 (inb_of Sd480 (by decide)) (atH Hd480 (inb_of Sd480 (by decide)) rfl) (g := (mkF m 33 #[(vA a), (vA va), (vA pk), (vI f), (vI (2 : Int32)), (vJ ((v1.toInt64) - (l1.toInt64))), .second] [(.int (2 : Int32)), (.ref bl), (.long (v2.toInt64))])) rfl rfl (hb hby d30_33) tt_ zz_) ?_
  show Dn p e below s _ _ _ (T478.setTop (mkF m 34 #[(vA a), (vA va), (vA pk), (vI f), (vI (2 : Int32)), (vJ ((v1.toInt64) - (l1.toInt64))), .second] [(.int l2), (.long (v2.toInt64))]))
  refine Dn.of (fun tt_ zz_ => XS.i2l X478.here hx rfl (hb hby d30_34) rfl zz_) ?_
  refine Dn.of (fun tt_ zz_ => XS.lsub X478.here hx rfl (hb hby d30_35) rfl zz_) ?_
  refine Dn.of (fun tt_ zz_ => XS.lstore X478.here hx rfl (hb hby d30_36) rfl (l' := #[(vA a), (vA va), (vA pk), (vI f), (vI (2 : Int32)), (vJ ((v2.toInt64) - (l2.toInt64))), .second]) rfl zz_) ?_
  refine Dn.of (fun tt_ zz_ => XS.aloadN X478.here hx rfl (hb hby d30_38) rfl rfl zz_) ?_
  show Dn p e below s _ _ _ (T478.setTop (mkF m 39 #[(vA a), (vA va), (vA pk), (vI f), (vI (2 : Int32)), (vJ ((v2.toInt64) - (l2.toInt64))), .second] [(.ref pk)]))
  refine Dn.of (fun tt_ zz_ => XS.iloadN X478.here hx rfl (hb hby d30_39) rfl zz_) ?_
  refine Dn.of (fun tt_ zz_ => XS.aloadN X478.here hx rfl (hb hby d30_40) rfl rfl zz_) ?_
  show Dn p e below s _ _ _ (T478.setTop (mkF m 41 #[(vA a), (vA va), (vA pk), (vI f), (vI (2 : Int32)), (vJ ((v2.toInt64) - (l2.toInt64))), .second] [(.ref a), (.int f), (.ref pk)]))
  have F481 := (F466.other W474 (Or.inl x0))
  obtain ⟨T482, X482, e482, st482⟩ := getF X478 hx hZ hown (host := "") (Or.inl (hg 142 rfl)) Via.refl e478 F481 (g := (mkF m 41 #[(vA a), (vA va), (vA pk), (vI f), (vI (2 : Int32)), (vJ ((v2.toInt64) - (l2.toInt64))), .second] [(.ref a), (.int f), (.ref pk)])) rfl rfl (hb hby d30_41)
  refine Dn.of st482 ?_
  show Dn p e below s _ _ _ (T482.setTop (mkF m 44 #[(vA a), (vA va), (vA pk), (vI f), (vI (2 : Int32)), (vJ ((v2.toInt64) - (l2.toInt64))), .second] [(.ref bw), (.int f), (.ref pk)]))
  refine Dn.of (fun tt_ zz_ => XS.iload X482.here hx rfl (hb hby d30_44) rfl zz_) ?_
  show Dn p e below s _ _ _ (T482.setTop (mkF m 46 #[(vA a), (vA va), (vA pk), (vI f), (vI (2 : Int32)), (vJ ((v2.toInt64) - (l2.toInt64))), .second] [(.int (2 : Int32)), (.ref bw), (.int f), (.ref pk)]))
  have F483 := (F468.other W474 x1)
  have Rr484 := F483
  obtain ⟨d484, B_484, _, Sd484, _, Hd484, _⟩ := Rr484
  refine Dn.of (fun tt_ zz_ => X482.iaload hx (j := (2 : Int32)) (v := (.int (0 : Int32))) (by rw [e482]; exact B_484.1) (State.isArrayOf_alike hZ.alike B_484.2.1) B_484.2.2 (inb_of Sd484 (by decide)) (atH Hd484 (inb_of Sd484 (by decide)) rfl) (g := (mkF m 46 #[(vA a), (vA va), (vA pk), (vI f), (vI (2 : Int32)), (vJ ((v2.toInt64) - (l2.toInt64))), .second] [(.int (2 : Int32)), (.ref bw), (.int f), (.ref pk)])) rfl rfl (hb hby d30_46) tt_ zz_) ?_
  show Dn p e below s _ _ _ (T482.setTop (mkF m 47 #[(vA a), (vA va), (vA pk), (vI f), (vI (2 : Int32)), (vJ ((v2.toInt64) - (l2.toInt64))), .second] [(.int (0 : Int32)), (.int f), (.ref pk)]))
  refine Dn.of (fun tt_ zz_ => XS.iadd X482.here hx rfl (hb hby d30_47) rfl zz_) ?_
  refine Dn.of (fun tt_ zz_ => XT.dup2 X482.here hx rfl (hb hby d30_48) rfl rfl rfl zz_) ?_
  show Dn p e below s _ _ _ (T482.setTop (mkF m 49 #[(vA a), (vA va), (vA pk), (vI f), (vI (2 : Int32)), (vJ ((v2.toInt64) - (l2.toInt64))), .second] [(.int (f + (0 : Int32))), (.ref pk), (.int (f + (0 : Int32))), (.ref pk)]))
  have Rp2 := Rq1
  obtain ⟨dp2, Dp2, qp2, Sp2, Pp2, Hp2, Gp2⟩ := Rp2
  refine Dn.of (fun tt_ zz_ => X482.laload hx (j := (f + (0 : Int32))) (v := (.long (((0 : Int64) ||| (((v0.toInt64) - (l0.toInt64)) <<< ((0 : Int32) &&& 0x3f).toInt64)) ||| (((v1.toInt64) - (l1.toInt64)) <<< (b0 &&& 0x3f).toInt64)))) (by rw [e482]; exact Dp2.1) (State.isArrayOf_alike hZ.alike Dp2.2.1) Dp2.2.2 (inb_of Sp2 ff.2.2.2.1) (atH Hp2 (inb_of Sp2 ff.2.2.2.1) (own_same ff.2.2.2.1.1 rfl)) (g := (mkF m 49 #[(vA a), (vA va), (vA pk), (vI f), (vI (2 : Int32)), (vJ ((v2.toInt64) - (l2.toInt64))), .second] [(.int (f + (0 : Int32))), (.ref pk), (.int (f + (0 : Int32))), (.ref pk)])) rfl rfl (hb hby d30_49) tt_ zz_) ?_
  show Dn p e below s _ _ _ (T482.setTop (mkF m 50 #[(vA a), (vA va), (vA pk), (vI f), (vI (2 : Int32)), (vJ ((v2.toInt64) - (l2.toInt64))), .second] [(.long (((0 : Int64) ||| (((v0.toInt64) - (l0.toInt64)) <<< ((0 : Int32) &&& 0x3f).toInt64)) ||| (((v1.toInt64) - (l1.toInt64)) <<< (b0 &&& 0x3f).toInt64))), (.int (f + (0 : Int32))), (.ref pk)]))
  refine Dn.of (fun tt_ zz_ => XS.lload X482.here hx rfl (hb hby d30_50) rfl zz_) ?_
  refine Dn.of (fun tt_ zz_ => XS.aloadN X482.here hx rfl (hb hby d30_52) rfl rfl zz_) ?_
  show Dn p e below s _ _ _ (T482.setTop (mkF m 53 #[(vA a), (vA va), (vA pk), (vI f), (vI (2 : Int32)), (vJ ((v2.toInt64) - (l2.toInt64))), .second] [(.ref a), (.long ((v2.toInt64) - (l2.toInt64))), (.long (((0 : Int64) ||| (((v0.toInt64) - (l0.toInt64)) <<< ((0 : Int32) &&& 0x3f).toInt64)) ||| (((v1.toInt64) - (l1.toInt64)) <<< (b0 &&& 0x3f).toInt64))), (.int (f + (0 : Int32))), (.ref pk)]))
  have F485 := (F470.other W474 (Or.inl x0))
  obtain ⟨T486, X486, e486, st486⟩ := getF X482 hx hZ hown (host := "") (Or.inl (hg 144 rfl)) Via.refl e482 F485 (g := (mkF m 53 #[(vA a), (vA va), (vA pk), (vI f), (vI (2 : Int32)), (vJ ((v2.toInt64) - (l2.toInt64))), .second] [(.ref a), (.long ((v2.toInt64) - (l2.toInt64))), (.long (((0 : Int64) ||| (((v0.toInt64) - (l0.toInt64)) <<< ((0 : Int32) &&& 0x3f).toInt64)) ||| (((v1.toInt64) - (l1.toInt64)) <<< (b0 &&& 0x3f).toInt64))), (.int (f + (0 : Int32))), (.ref pk)])) rfl rfl (hb hby d30_53)
  refine Dn.of st486 ?_
  show Dn p e below s _ _ _ (T486.setTop (mkF m 56 #[(vA a), (vA va), (vA pk), (vI f), (vI (2 : Int32)), (vJ ((v2.toInt64) - (l2.toInt64))), .second] [(.ref bs), (.long ((v2.toInt64) - (l2.toInt64))), (.long (((0 : Int64) ||| (((v0.toInt64) - (l0.toInt64)) <<< ((0 : Int32) &&& 0x3f).toInt64)) ||| (((v1.toInt64) - (l1.toInt64)) <<< (b0 &&& 0x3f).toInt64))), (.int (f + (0 : Int32))), (.ref pk)]))
  refine Dn.of (fun tt_ zz_ => XS.iload X486.here hx rfl (hb hby d30_56) rfl zz_) ?_
  show Dn p e below s _ _ _ (T486.setTop (mkF m 58 #[(vA a), (vA va), (vA pk), (vI f), (vI (2 : Int32)), (vJ ((v2.toInt64) - (l2.toInt64))), .second] [(.int (2 : Int32)), (.ref bs), (.long ((v2.toInt64) - (l2.toInt64))), (.long (((0 : Int64) ||| (((v0.toInt64) - (l0.toInt64)) <<< ((0 : Int32) &&& 0x3f).toInt64)) ||| (((v1.toInt64) - (l1.toInt64)) <<< (b0 &&& 0x3f).toInt64))), (.int (f + (0 : Int32))), (.ref pk)]))
  have F487 := (F472.other W474 x2)
  have Rr488 := F487
  obtain ⟨d488, B_488, _, Sd488, _, Hd488, _⟩ := Rr488
  refine Dn.of (fun tt_ zz_ => X486.iaload hx (j := (2 : Int32)) (v := (.int s2)) (by rw [e486]; exact B_488.1) (State.isArrayOf_alike hZ.alike B_488.2.1) B_488.2.2 (inb_of Sd488 (by decide)) (atH Hd488 (inb_of Sd488 (by decide)) rfl) (g := (mkF m 58 #[(vA a), (vA va), (vA pk), (vI f), (vI (2 : Int32)), (vJ ((v2.toInt64) - (l2.toInt64))), .second] [(.int (2 : Int32)), (.ref bs), (.long ((v2.toInt64) - (l2.toInt64))), (.long (((0 : Int64) ||| (((v0.toInt64) - (l0.toInt64)) <<< ((0 : Int32) &&& 0x3f).toInt64)) ||| (((v1.toInt64) - (l1.toInt64)) <<< (b0 &&& 0x3f).toInt64))), (.int (f + (0 : Int32))), (.ref pk)])) rfl rfl (hb hby d30_58) tt_ zz_) ?_
  show Dn p e below s _ _ _ (T486.setTop (mkF m 59 #[(vA a), (vA va), (vA pk), (vI f), (vI (2 : Int32)), (vJ ((v2.toInt64) - (l2.toInt64))), .second] [(.int s2), (.long ((v2.toInt64) - (l2.toInt64))), (.long (((0 : Int64) ||| (((v0.toInt64) - (l0.toInt64)) <<< ((0 : Int32) &&& 0x3f).toInt64)) ||| (((v1.toInt64) - (l1.toInt64)) <<< (b0 &&& 0x3f).toInt64))), (.int (f + (0 : Int32))), (.ref pk)]))
  refine Dn.of (fun tt_ zz_ => XS.lshl X486.here hx rfl (hb hby d30_59) rfl zz_) ?_
  refine Dn.of (fun tt_ zz_ => XS.lor X486.here hx rfl (hb hby d30_60) rfl zz_) ?_
  show Dn p e below s _ _ _ (T486.setTop (mkF m 61 #[(vA a), (vA va), (vA pk), (vI f), (vI (2 : Int32)), (vJ ((v2.toInt64) - (l2.toInt64))), .second] [(.long ((((0 : Int64) ||| (((v0.toInt64) - (l0.toInt64)) <<< ((0 : Int32) &&& 0x3f).toInt64)) ||| (((v1.toInt64) - (l1.toInt64)) <<< (b0 &&& 0x3f).toInt64)) ||| (((v2.toInt64) - (l2.toInt64)) <<< (s2 &&& 0x3f).toInt64))), (.int (f + (0 : Int32))), (.ref pk)]))
  obtain ⟨T489, h489, X489, e489, W489, st489⟩ := stJ X486 hx hZ e486 Dp2 (j := (f + (0 : Int32))) (inb_of Sp2 ff.2.2.2.1) (g := (mkF m 61 #[(vA a), (vA va), (vA pk), (vI f), (vI (2 : Int32)), (vJ ((v2.toInt64) - (l2.toInt64))), .second] [(.long ((((0 : Int64) ||| (((v0.toInt64) - (l0.toInt64)) <<< ((0 : Int32) &&& 0x3f).toInt64)) ||| (((v1.toInt64) - (l1.toInt64)) <<< (b0 &&& 0x3f).toInt64)) ||| (((v2.toInt64) - (l2.toInt64)) <<< (s2 &&& 0x3f).toInt64))), (.int (f + (0 : Int32))), (.ref pk)])) rfl rfl (hb hby d30_61)
  refine Dn.of st489 ?_
  show Dn p e below s _ _ _ (T489.setTop (mkF m 62 #[(vA a), (vA va), (vA pk), (vI f), (vI (2 : Int32)), (vJ ((v2.toInt64) - (l2.toInt64))), .second] []))
  have Rq2 := Arh.push Dp2 qp2 Sp2 Pp2 Hp2 Gp2 (v := .long ((((0 : Int64) ||| (((v0.toInt64) - (l0.toInt64)) <<< ((0 : Int32) &&& 0x3f).toInt64)) ||| (((v1.toInt64) - (l1.toInt64)) <<< (b0 &&& 0x3f).toInt64)) ||| (((v2.toInt64) - (l2.toInt64)) <<< (s2 &&& 0x3f).toInt64))) rfl W489 (inb_of Sp2 ff.2.2.2.1)
  have Np2 := Fr.snoc X489 Np1 g0
  refine Dn.of (fun tt_ zz_ => XS.iinc X489.here hx rfl (hb hby d30_62) rfl (l' := #[(vA a), (vA va), (vA pk), (vI f), (vI ((2 : Int32) + (1 : Int32))), (vJ ((v2.toInt64) - (l2.toInt64))), .second]) rfl zz_) ?_
  refine Dn.of (fun tt_ zz_ => XS.goto X489.here hx rfl (pc0 := 65) (pc' := 15) rfl (hb hby d30_65) (by decide) (by decide) zz_) ?_
  show Dn p e below s _ _ _ (T489.setTop (mkF m 15 #[(vA a), (vA va), (vA pk), (vI f), (vI ((2 : Int32) + (1 : Int32))), (vJ ((v2.toInt64) - (l2.toInt64))), .second] []))
  rw [show ((2 : Int32) + (1 : Int32)) = (3 : Int32) by decide]
  show Dn p e below s _ _ _ (T489.setTop (mkF m 15 #[(vA a), (vA va), (vA pk), (vI f), (vI (3 : Int32)), (vJ ((v2.toInt64) - (l2.toInt64))), .second] []))
  refine Dn.of (fun tt_ zz_ => XS.iload X489.here hx rfl (hb hby d30_15) rfl zz_) ?_
  refine Dn.of (fun tt_ zz_ => XS.aloadN X489.here hx rfl (hb hby d30_17) rfl rfl zz_) ?_
  show Dn p e below s _ _ _ (T489.setTop (mkF m 18 #[(vA a), (vA va), (vA pk), (vI f), (vI (3 : Int32)), (vJ ((v2.toInt64) - (l2.toInt64))), .second] [(.ref va), (.int (3 : Int32))]))
  have F490 := (F475.other W489 x4)
  have RvX := F490
  obtain ⟨dv, Dv, _, Sv, _, _, _⟩ := RvX
  refine Dn.of (fun tt_ zz_ => X489.arraylength hx (by rw [e489]; exact Dv.1) (State.isArrayOf_alike hZ.alike Dv.2.1) (g := (mkF m 18 #[(vA a), (vA va), (vA pk), (vI f), (vI (3 : Int32)), (vJ ((v2.toInt64) - (l2.toInt64))), .second] [(.ref va), (.int (3 : Int32))])) rfl rfl (hb hby d30_18) tt_ zz_) ?_
  rw [Sv, show ((3 : Int32).toNatClampNeg).toInt32 = (3 : Int32) by decide]
  show Dn p e below s _ _ _ (T489.setTop (mkF m 19 #[(vA a), (vA va), (vA pk), (vI f), (vI (3 : Int32)), (vJ ((v2.toInt64) - (l2.toInt64))), .second] [(.int (3 : Int32)), (.int (3 : Int32))]))
  refine Dn.of (fun tt_ zz_ => XS.icmpYes X489.here hx rfl (pc0 := 19) (pc' := 68) rfl (hb hby d30_19) rfl (flt (by decide)).2.1 (by decide) (by decide) zz_) ?_
  show Dn p e below s _ _ _ (T489.setTop (mkF m 68 #[(vA a), (vA va), (vA pk), (vI f), (vI (3 : Int32)), (vJ ((v2.toInt64) - (l2.toInt64))), .second] []))
  have F491 := (((((Keep.refl h0 [pk]).trans K1 (allS (Or.inl (List.mem_of_getElem? (i := 0) rfl)) all0)).wr W459 (Or.inl (List.mem_of_getElem? (i := 0) rfl))).wr W474 (Or.inl (List.mem_of_getElem? (i := 0) rfl))).wr W489 (Or.inl (List.mem_of_getElem? (i := 0) rfl)))
  exact Dn.retV X489 hx hlk hret (hb hby d30_68) (by decide) (by decide) (by rw [e489]; exact ⟨rfl, Np2, F491, _, Rq2, own_same ff.2.2.2.1.1 rfl, own_same ff.2.2.2.1.1 rfl⟩)
set_option maxRecDepth 65536 in
set_option maxHeartbeats 40000000 in
theorem rmPk2 (l : Launch) (Z : State) (a0 : Array Value) (hw : ∀ d ∈ tables_1, d.before a0 Z = true) (h0 : Heap) (n0 : Nat) (Z0 : n0 ≤ h0.size) (a bw bs bm bl : Addr) (kw ks km kl : ClassId) (b0 b1 b2 l0 l1 l2 s2 : Int32) (G0 : Fld Z h0 a "com/example/verify_markov_chains/verifymarkovchains/explicit/StateLayout" "words" "[I" (.ref bw)) (G1 : Fld Z h0 a "com/example/verify_markov_chains/verifymarkovchains/explicit/StateLayout" "shifts" "[I" (.ref bs)) (G2 : Fld Z h0 a "com/example/verify_markov_chains/verifymarkovchains/explicit/StateLayout" "masks" "[J" (.ref bm)) (G3 : Fld Z h0 a "com/example/verify_markov_chains/verifymarkovchains/explicit/StateLayout" "lowers" "[I" (.ref bl)) (G4 : Fld Z h0 a "com/example/verify_markov_chains/verifymarkovchains/explicit/StateLayout" "wordCount" "I" (.int (2 : Int32))) (RW : Arh Z h0 bw kw .int 3 [((2 : Int32), .int (1 : Int32)), ((1 : Int32), .int (0 : Int32)), ((0 : Int32), .int (0 : Int32))] [] (.int 0)) (RS : Arh Z h0 bs ks .int 3 [((2 : Int32), .int s2), ((1 : Int32), .int b0), ((0 : Int32), .int (0 : Int32))] [] (.int 0)) (RM : Arh Z h0 bm km .long 3 [((2 : Int32), .long (own_mask b2)), ((1 : Int32), .long (own_mask b1)), ((0 : Int32), .long (own_mask b0))] [] (.long 0)) (RL : Arh Z h0 bl kl .int 3 [((2 : Int32), .int l2), ((1 : Int32), .int l1), ((0 : Int32), .int l0)] [] (.int 0)) (E0 : Exa Z h0 a "com/example/verify_markov_chains/verifymarkovchains/explicit/StateLayout") (va pk : Addr) (kv kp : ClassId) (v0 v1 v2 f : Int32) (hs : List (Int32 × Value)) (f0 : 0 ≤ f.toInt) (f3 : f.toInt ≤ 3) (RV : Arh Z h0 va kv .int 3 [((2 : Int32), .int v2), ((1 : Int32), .int v1), ((0 : Int32), .int v0)] [] (.int 0)) (RP : Arh Z h0 pk kp .long 6 hs [] (.long 0)) (x0 : a ≠ pk) (x1 : bw ≠ pk) (x2 : bs ≠ pk) (x3 : bl ≠ pk) (x4 : va ≠ pk) (g0 : n0 ≤ pk) :
    ctr l Z (⟨"com/example/verify_markov_chains/verifymarkovchains/explicit/StateLayout", "pack", "([I[JI)V"⟩ : MethodName) prog_51_method_4_code 7 none [] ({ frames := 2, cells := 0, slots := 0, locals := 40 } : Room) 0 0 #[(.ref a), (.ref va), (.ref pk), (.int f)] h0 (fun v h L => v = none ∧ Fr n0 L ∧ Keep h0 h [pk] ∧ ∃ hs', Arh Z h pk kp .long 6 hs' [] (.long 0) ∧ getH hs' [] (.long 0) (f + (0 : Int32)).toNatClampNeg = .long (own_w2 (own_x v0 l0) (own_x v1 l1) b0) ∧ getH hs' [] (.long 0) (f + (1 : Int32)).toNatClampNeg = .long ((0 : Int64) ||| own_sh (own_x v2 l2) s2)) := by
  refine ctr_of (plainFor_of_name pn7) ?_
  intro p e s m below meth jc s₁ hx hby hml hret hlk hnm hown hZ e0 X0
  have N0 := Fr.nil n0
  have hg : ∀ (i : Nat) {d : Jvm.Cond}, tables_1[i]? = some d → d.before a0 Z = true := fun i d q => hw d (List.mem_of_getElem? q)
  refine Dn.cast (ef30_AAAI m a va pk f) ?_
  show Dn p e below s _ _ _ (s₁.setTop (mkF m 0 #[(vA a), (vA va), (vA pk), (vI f), .unset, .unset, .unset] []))
  have ff := own_f f0 f3
  refine Dn.of (fun tt_ zz_ => XS.aloadN X0.here hx rfl (hb hby d30_0) rfl rfl zz_) ?_
  refine Dn.of (fun tt_ zz_ => XS.iloadN X0.here hx rfl (hb hby d30_1) rfl zz_) ?_
  refine Dn.of (fun tt_ zz_ => XS.iloadN X0.here hx rfl (hb hby d30_2) rfl zz_) ?_
  refine Dn.of (fun tt_ zz_ => XS.aloadN X0.here hx rfl (hb hby d30_3) rfl rfl zz_) ?_
  show Dn p e below s _ _ _ (s₁.setTop (mkF m 4 #[(vA a), (vA va), (vA pk), (vI f), .unset, .unset, .unset] [(.ref a), (.int f), (.int f), (.ref pk)]))
  obtain ⟨T492, X492, e492, st492⟩ := getF X0 hx hZ hown (host := "") (Or.inl (hg 204 rfl)) Via.refl e0 G4 (g := (mkF m 4 #[(vA a), (vA va), (vA pk), (vI f), .unset, .unset, .unset] [(.ref a), (.int f), (.int f), (.ref pk)])) rfl rfl (hb hby d30_4)
  refine Dn.of st492 ?_
  show Dn p e below s _ _ _ (T492.setTop (mkF m 7 #[(vA a), (vA va), (vA pk), (vI f), .unset, .unset, .unset] [(.int (2 : Int32)), (.int f), (.int f), (.ref pk)]))
  refine Dn.of (fun tt_ zz_ => XS.iadd X492.here hx rfl (hb hby d30_7) rfl zz_) ?_
  refine Dn.of (fun tt_ zz_ => XS.lconst X492.here hx rfl (hb hby d30_8) zz_) ?_
  show Dn p e below s _ _ _ (T492.setTop (mkF m 9 #[(vA a), (vA va), (vA pk), (vI f), .unset, .unset, .unset] [(.long (0 : Int64)), (.int (f + (2 : Int32))), (.int f), (.ref pk)]))
  obtain ⟨v493, T493, L493, Q493, X493, st493⟩ := cSt X492 hx hZ (y := (⟨"java/util/Arrays", "fill", "([JIIJ)V"⟩ : MethodName)) hown (hg 212 rfl) (hg 213 rfl) (hg 214 rfl) (hg 215 rfl) (by decide) (argsL := [(.ref pk), (.int f), (.int (f + (2 : Int32))), (.long (0 : Int64))]) (rest := []) (rmFl2 l Z a0 hw h0 n0 Z0 pk kp hs f (f + (2 : Int32)) (by simp only [Int32.lt_iff_toInt_lt]; have := ff.2.1; omega) (by simp only [Int32.lt_iff_toInt_lt]; have := ff.2.1; rw [show (6 : Int32).toInt = 6 by decide]; omega) (own_in (by have := ff; omega) (by have := ff; omega)) (by simp only [Int32.lt_iff_toInt_lt]; have := ff; omega) (own_in (by have := ff; omega) (by have := ff; omega)) (by simp only [Int32.lt_iff_toInt_lt]; have := ff; omega) (by simp only [Int32.lt_iff_toInt_lt]; have := ff; omega) RP g0) e492  0 (by decide) (by decide) (by decide) (by decide) (g := (mkF m 9 #[(vA a), (vA va), (vA pk), (vI f), .unset, .unset, .unset] [(.long (0 : Int64)), (.int (f + (2 : Int32))), (.int f), (.ref pk)])) rfl (by rw [hml]; rfl) (lenOf pd15 rfl) rfl (by show 2 * 0 + _ ≤ _; exact Nat.le_of_eq rfl) (hb hby d30_9)
  obtain ⟨rfl, M1, K1, R1⟩ := Q493
  refine Dn.of st493 ?_
  show Dn p e below s _ _ _ (T493.setTop (mkF m 12 #[(vA a), (vA va), (vA pk), (vI f), .unset, .unset, .unset] []))
  refine Dn.of (fun tt_ zz_ => XS.iconst X493.here hx rfl (hb hby d30_12) zz_) ?_
  refine Dn.of (fun tt_ zz_ => XS.istore X493.here hx rfl (hb hby d30_13) rfl (l' := #[(vA a), (vA va), (vA pk), (vI f), (vI (0 : Int32)), .unset, .unset]) rfl zz_) ?_
  refine Dn.of (fun tt_ zz_ => XS.iload X493.here hx rfl (hb hby d30_15) rfl zz_) ?_
  refine Dn.of (fun tt_ zz_ => XS.aloadN X493.here hx rfl (hb hby d30_17) rfl rfl zz_) ?_
  show Dn p e below s _ _ _ (T493.setTop (mkF m 18 #[(vA a), (vA va), (vA pk), (vI f), (vI (0 : Int32)), .unset, .unset] [(.ref va), (.int (0 : Int32))]))
  have F494 := (RV.keep K1 (ninS x4 nin0))
  have RvX0 := F494
  obtain ⟨dv0, Dv0, _, Sv0, _, _, _⟩ := RvX0
  refine Dn.of (fun tt_ zz_ => X493.arraylength hx Dv0.1 (State.isArrayOf_alike hZ.alike Dv0.2.1) (g := (mkF m 18 #[(vA a), (vA va), (vA pk), (vI f), (vI (0 : Int32)), .unset, .unset] [(.ref va), (.int (0 : Int32))])) rfl rfl (hb hby d30_18) tt_ zz_) ?_
  rw [Sv0, show ((3 : Int32).toNatClampNeg).toInt32 = (3 : Int32) by decide]
  show Dn p e below s _ _ _ (T493.setTop (mkF m 19 #[(vA a), (vA va), (vA pk), (vI f), (vI (0 : Int32)), .unset, .unset] [(.int (3 : Int32)), (.int (0 : Int32))]))
  refine Dn.of (fun tt_ zz_ => XS.icmpNo X493.here hx rfl (hb hby d30_19) rfl (tlt (by decide)).2.1 zz_) ?_
  show Dn p e below s _ _ _ (T493.setTop (mkF m 22 #[(vA a), (vA va), (vA pk), (vI f), (vI (0 : Int32)), .unset, .unset] []))
  refine Dn.of (fun tt_ zz_ => XS.aloadN X493.here hx rfl (hb hby d30_22) rfl rfl zz_) ?_
  refine Dn.of (fun tt_ zz_ => XS.iload X493.here hx rfl (hb hby d30_23) rfl zz_) ?_
  show Dn p e below s _ _ _ (T493.setTop (mkF m 25 #[(vA a), (vA va), (vA pk), (vI f), (vI (0 : Int32)), .unset, .unset] [(.int (0 : Int32)), (.ref va)]))
  have Rr495 := F494
  obtain ⟨d495, B_495, _, Sd495, _, Hd495, _⟩ := Rr495
  refine Dn.of (fun tt_ zz_ => X493.iaload hx (j := (0 : Int32)) (v := (.int v0)) B_495.1 (State.isArrayOf_alike hZ.alike B_495.2.1) B_495.2.2 (inb_of Sd495 (by decide)) (atH Hd495 (inb_of Sd495 (by decide)) rfl) (g := (mkF m 25 #[(vA a), (vA va), (vA pk), (vI f), (vI (0 : Int32)), .unset, .unset] [(.int (0 : Int32)), (.ref va)])) rfl rfl (hb hby d30_25) tt_ zz_) ?_
  show Dn p e below s _ _ _ (T493.setTop (mkF m 26 #[(vA a), (vA va), (vA pk), (vI f), (vI (0 : Int32)), .unset, .unset] [(.int v0)]))
  refine Dn.of (fun tt_ zz_ => XS.i2l X493.here hx rfl (hb hby d30_26) rfl zz_) ?_
  refine Dn.of (fun tt_ zz_ => XS.aloadN X493.here hx rfl (hb hby d30_27) rfl rfl zz_) ?_
  show Dn p e below s _ _ _ (T493.setTop (mkF m 28 #[(vA a), (vA va), (vA pk), (vI f), (vI (0 : Int32)), .unset, .unset] [(.ref a), (.long (v0.toInt64))]))
  have F496 := (G3.keep K1 (ninS x0 nin0))
  obtain ⟨T497, X497, e497, st497⟩ := getF X493 hx hZ hown (host := "") (Or.inl (hg 149 rfl)) Via.refl rfl F496 (g := (mkF m 28 #[(vA a), (vA va), (vA pk), (vI f), (vI (0 : Int32)), .unset, .unset] [(.ref a), (.long (v0.toInt64))])) rfl rfl (hb hby d30_28)
  refine Dn.of st497 ?_
  show Dn p e below s _ _ _ (T497.setTop (mkF m 31 #[(vA a), (vA va), (vA pk), (vI f), (vI (0 : Int32)), .unset, .unset] [(.ref bl), (.long (v0.toInt64))]))
  refine Dn.of (fun tt_ zz_ => XS.iload X497.here hx rfl (hb hby d30_31) rfl zz_) ?_
  show Dn p e below s _ _ _ (T497.setTop (mkF m 33 #[(vA a), (vA va), (vA pk), (vI f), (vI (0 : Int32)), .unset, .unset] [(.int (0 : Int32)), (.ref bl), (.long (v0.toInt64))]))
  have F498 := (RL.keep K1 (ninS x3 nin0))
  have Rr499 := F498
  obtain ⟨d499, B_499, _, Sd499, _, Hd499, _⟩ := Rr499
  refine Dn.of (fun tt_ zz_ => X497.iaload hx (j := (0 : Int32)) (v := (.int l0)) (by rw [e497]; exact B_499.1) (State.isArrayOf_alike hZ.alike B_499.2.1) B_499.2.2 (inb_of Sd499 (by decide)) (atH Hd499 (inb_of Sd499 (by decide)) rfl) (g := (mkF m 33 #[(vA a), (vA va), (vA pk), (vI f), (vI (0 : Int32)), .unset, .unset] [(.int (0 : Int32)), (.ref bl), (.long (v0.toInt64))])) rfl rfl (hb hby d30_33) tt_ zz_) ?_
  show Dn p e below s _ _ _ (T497.setTop (mkF m 34 #[(vA a), (vA va), (vA pk), (vI f), (vI (0 : Int32)), .unset, .unset] [(.int l0), (.long (v0.toInt64))]))
  refine Dn.of (fun tt_ zz_ => XS.i2l X497.here hx rfl (hb hby d30_34) rfl zz_) ?_
  refine Dn.of (fun tt_ zz_ => XS.lsub X497.here hx rfl (hb hby d30_35) rfl zz_) ?_
  refine Dn.of (fun tt_ zz_ => XS.lstore X497.here hx rfl (hb hby d30_36) rfl (l' := #[(vA a), (vA va), (vA pk), (vI f), (vI (0 : Int32)), (vJ ((v0.toInt64) - (l0.toInt64))), .second]) rfl zz_) ?_
  refine Dn.of (fun tt_ zz_ => XS.aloadN X497.here hx rfl (hb hby d30_38) rfl rfl zz_) ?_
  show Dn p e below s _ _ _ (T497.setTop (mkF m 39 #[(vA a), (vA va), (vA pk), (vI f), (vI (0 : Int32)), (vJ ((v0.toInt64) - (l0.toInt64))), .second] [(.ref pk)]))
  refine Dn.of (fun tt_ zz_ => XS.iloadN X497.here hx rfl (hb hby d30_39) rfl zz_) ?_
  refine Dn.of (fun tt_ zz_ => XS.aloadN X497.here hx rfl (hb hby d30_40) rfl rfl zz_) ?_
  show Dn p e below s _ _ _ (T497.setTop (mkF m 41 #[(vA a), (vA va), (vA pk), (vI f), (vI (0 : Int32)), (vJ ((v0.toInt64) - (l0.toInt64))), .second] [(.ref a), (.int f), (.ref pk)]))
  have F500 := (G0.keep K1 (ninS x0 nin0))
  obtain ⟨T501, X501, e501, st501⟩ := getF X497 hx hZ hown (host := "") (Or.inl (hg 142 rfl)) Via.refl e497 F500 (g := (mkF m 41 #[(vA a), (vA va), (vA pk), (vI f), (vI (0 : Int32)), (vJ ((v0.toInt64) - (l0.toInt64))), .second] [(.ref a), (.int f), (.ref pk)])) rfl rfl (hb hby d30_41)
  refine Dn.of st501 ?_
  show Dn p e below s _ _ _ (T501.setTop (mkF m 44 #[(vA a), (vA va), (vA pk), (vI f), (vI (0 : Int32)), (vJ ((v0.toInt64) - (l0.toInt64))), .second] [(.ref bw), (.int f), (.ref pk)]))
  refine Dn.of (fun tt_ zz_ => XS.iload X501.here hx rfl (hb hby d30_44) rfl zz_) ?_
  show Dn p e below s _ _ _ (T501.setTop (mkF m 46 #[(vA a), (vA va), (vA pk), (vI f), (vI (0 : Int32)), (vJ ((v0.toInt64) - (l0.toInt64))), .second] [(.int (0 : Int32)), (.ref bw), (.int f), (.ref pk)]))
  have F502 := (RW.keep K1 (ninS x1 nin0))
  have Rr503 := F502
  obtain ⟨d503, B_503, _, Sd503, _, Hd503, _⟩ := Rr503
  refine Dn.of (fun tt_ zz_ => X501.iaload hx (j := (0 : Int32)) (v := (.int (0 : Int32))) (by rw [e501]; exact B_503.1) (State.isArrayOf_alike hZ.alike B_503.2.1) B_503.2.2 (inb_of Sd503 (by decide)) (atH Hd503 (inb_of Sd503 (by decide)) rfl) (g := (mkF m 46 #[(vA a), (vA va), (vA pk), (vI f), (vI (0 : Int32)), (vJ ((v0.toInt64) - (l0.toInt64))), .second] [(.int (0 : Int32)), (.ref bw), (.int f), (.ref pk)])) rfl rfl (hb hby d30_46) tt_ zz_) ?_
  show Dn p e below s _ _ _ (T501.setTop (mkF m 47 #[(vA a), (vA va), (vA pk), (vI f), (vI (0 : Int32)), (vJ ((v0.toInt64) - (l0.toInt64))), .second] [(.int (0 : Int32)), (.int f), (.ref pk)]))
  refine Dn.of (fun tt_ zz_ => XS.iadd X501.here hx rfl (hb hby d30_47) rfl zz_) ?_
  refine Dn.of (fun tt_ zz_ => XT.dup2 X501.here hx rfl (hb hby d30_48) rfl rfl rfl zz_) ?_
  show Dn p e below s _ _ _ (T501.setTop (mkF m 49 #[(vA a), (vA va), (vA pk), (vI f), (vI (0 : Int32)), (vJ ((v0.toInt64) - (l0.toInt64))), .second] [(.int (f + (0 : Int32))), (.ref pk), (.int (f + (0 : Int32))), (.ref pk)]))
  have Rp0 := R1
  obtain ⟨dp0, Dp0, qp0, Sp0, Pp0, Hp0, Gp0⟩ := Rp0
  refine Dn.of (fun tt_ zz_ => X501.laload hx (j := (f + (0 : Int32))) (v := (.long (0 : Int64))) (by rw [e501]; exact Dp0.1) (State.isArrayOf_alike hZ.alike Dp0.2.1) Dp0.2.2 (inb_of Sp0 ff.2.2.2.1) (atH Hp0 (inb_of Sp0 ff.2.2.2.1) ((own_skip ff.2.2.2.1.1 (own_f01 f)).trans (own_same ff.2.2.2.1.1 (Int32.add_zero f).symm))) (g := (mkF m 49 #[(vA a), (vA va), (vA pk), (vI f), (vI (0 : Int32)), (vJ ((v0.toInt64) - (l0.toInt64))), .second] [(.int (f + (0 : Int32))), (.ref pk), (.int (f + (0 : Int32))), (.ref pk)])) rfl rfl (hb hby d30_49) tt_ zz_) ?_
  show Dn p e below s _ _ _ (T501.setTop (mkF m 50 #[(vA a), (vA va), (vA pk), (vI f), (vI (0 : Int32)), (vJ ((v0.toInt64) - (l0.toInt64))), .second] [(.long (0 : Int64)), (.int (f + (0 : Int32))), (.ref pk)]))
  refine Dn.of (fun tt_ zz_ => XS.lload X501.here hx rfl (hb hby d30_50) rfl zz_) ?_
  refine Dn.of (fun tt_ zz_ => XS.aloadN X501.here hx rfl (hb hby d30_52) rfl rfl zz_) ?_
  show Dn p e below s _ _ _ (T501.setTop (mkF m 53 #[(vA a), (vA va), (vA pk), (vI f), (vI (0 : Int32)), (vJ ((v0.toInt64) - (l0.toInt64))), .second] [(.ref a), (.long ((v0.toInt64) - (l0.toInt64))), (.long (0 : Int64)), (.int (f + (0 : Int32))), (.ref pk)]))
  have F504 := (G1.keep K1 (ninS x0 nin0))
  obtain ⟨T505, X505, e505, st505⟩ := getF X501 hx hZ hown (host := "") (Or.inl (hg 144 rfl)) Via.refl e501 F504 (g := (mkF m 53 #[(vA a), (vA va), (vA pk), (vI f), (vI (0 : Int32)), (vJ ((v0.toInt64) - (l0.toInt64))), .second] [(.ref a), (.long ((v0.toInt64) - (l0.toInt64))), (.long (0 : Int64)), (.int (f + (0 : Int32))), (.ref pk)])) rfl rfl (hb hby d30_53)
  refine Dn.of st505 ?_
  show Dn p e below s _ _ _ (T505.setTop (mkF m 56 #[(vA a), (vA va), (vA pk), (vI f), (vI (0 : Int32)), (vJ ((v0.toInt64) - (l0.toInt64))), .second] [(.ref bs), (.long ((v0.toInt64) - (l0.toInt64))), (.long (0 : Int64)), (.int (f + (0 : Int32))), (.ref pk)]))
  refine Dn.of (fun tt_ zz_ => XS.iload X505.here hx rfl (hb hby d30_56) rfl zz_) ?_
  show Dn p e below s _ _ _ (T505.setTop (mkF m 58 #[(vA a), (vA va), (vA pk), (vI f), (vI (0 : Int32)), (vJ ((v0.toInt64) - (l0.toInt64))), .second] [(.int (0 : Int32)), (.ref bs), (.long ((v0.toInt64) - (l0.toInt64))), (.long (0 : Int64)), (.int (f + (0 : Int32))), (.ref pk)]))
  have F506 := (RS.keep K1 (ninS x2 nin0))
  have Rr507 := F506
  obtain ⟨d507, B_507, _, Sd507, _, Hd507, _⟩ := Rr507
  refine Dn.of (fun tt_ zz_ => X505.iaload hx (j := (0 : Int32)) (v := (.int (0 : Int32))) (by rw [e505]; exact B_507.1) (State.isArrayOf_alike hZ.alike B_507.2.1) B_507.2.2 (inb_of Sd507 (by decide)) (atH Hd507 (inb_of Sd507 (by decide)) rfl) (g := (mkF m 58 #[(vA a), (vA va), (vA pk), (vI f), (vI (0 : Int32)), (vJ ((v0.toInt64) - (l0.toInt64))), .second] [(.int (0 : Int32)), (.ref bs), (.long ((v0.toInt64) - (l0.toInt64))), (.long (0 : Int64)), (.int (f + (0 : Int32))), (.ref pk)])) rfl rfl (hb hby d30_58) tt_ zz_) ?_
  show Dn p e below s _ _ _ (T505.setTop (mkF m 59 #[(vA a), (vA va), (vA pk), (vI f), (vI (0 : Int32)), (vJ ((v0.toInt64) - (l0.toInt64))), .second] [(.int (0 : Int32)), (.long ((v0.toInt64) - (l0.toInt64))), (.long (0 : Int64)), (.int (f + (0 : Int32))), (.ref pk)]))
  refine Dn.of (fun tt_ zz_ => XS.lshl X505.here hx rfl (hb hby d30_59) rfl zz_) ?_
  refine Dn.of (fun tt_ zz_ => XS.lor X505.here hx rfl (hb hby d30_60) rfl zz_) ?_
  show Dn p e below s _ _ _ (T505.setTop (mkF m 61 #[(vA a), (vA va), (vA pk), (vI f), (vI (0 : Int32)), (vJ ((v0.toInt64) - (l0.toInt64))), .second] [(.long ((0 : Int64) ||| (((v0.toInt64) - (l0.toInt64)) <<< ((0 : Int32) &&& 0x3f).toInt64))), (.int (f + (0 : Int32))), (.ref pk)]))
  obtain ⟨T508, h508, X508, e508, W508, st508⟩ := stJ X505 hx hZ e505 Dp0 (j := (f + (0 : Int32))) (inb_of Sp0 ff.2.2.2.1) (g := (mkF m 61 #[(vA a), (vA va), (vA pk), (vI f), (vI (0 : Int32)), (vJ ((v0.toInt64) - (l0.toInt64))), .second] [(.long ((0 : Int64) ||| (((v0.toInt64) - (l0.toInt64)) <<< ((0 : Int32) &&& 0x3f).toInt64))), (.int (f + (0 : Int32))), (.ref pk)])) rfl rfl (hb hby d30_61)
  refine Dn.of st508 ?_
  show Dn p e below s _ _ _ (T508.setTop (mkF m 62 #[(vA a), (vA va), (vA pk), (vI f), (vI (0 : Int32)), (vJ ((v0.toInt64) - (l0.toInt64))), .second] []))
  have Rq0 := Arh.push Dp0 qp0 Sp0 Pp0 Hp0 Gp0 (v := .long ((0 : Int64) ||| (((v0.toInt64) - (l0.toInt64)) <<< ((0 : Int32) &&& 0x3f).toInt64))) rfl W508 (inb_of Sp0 ff.2.2.2.1)
  have Np0 := Fr.snoc X508 (Fr.app N0 M1) g0
  refine Dn.of (fun tt_ zz_ => XS.iinc X508.here hx rfl (hb hby d30_62) rfl (l' := #[(vA a), (vA va), (vA pk), (vI f), (vI ((0 : Int32) + (1 : Int32))), (vJ ((v0.toInt64) - (l0.toInt64))), .second]) rfl zz_) ?_
  refine Dn.of (fun tt_ zz_ => XS.goto X508.here hx rfl (pc0 := 65) (pc' := 15) rfl (hb hby d30_65) (by decide) (by decide) zz_) ?_
  show Dn p e below s _ _ _ (T508.setTop (mkF m 15 #[(vA a), (vA va), (vA pk), (vI f), (vI ((0 : Int32) + (1 : Int32))), (vJ ((v0.toInt64) - (l0.toInt64))), .second] []))
  rw [show ((0 : Int32) + (1 : Int32)) = (1 : Int32) by decide]
  show Dn p e below s _ _ _ (T508.setTop (mkF m 15 #[(vA a), (vA va), (vA pk), (vI f), (vI (1 : Int32)), (vJ ((v0.toInt64) - (l0.toInt64))), .second] []))
  refine Dn.of (fun tt_ zz_ => XS.iload X508.here hx rfl (hb hby d30_15) rfl zz_) ?_
  refine Dn.of (fun tt_ zz_ => XS.aloadN X508.here hx rfl (hb hby d30_17) rfl rfl zz_) ?_
  show Dn p e below s _ _ _ (T508.setTop (mkF m 18 #[(vA a), (vA va), (vA pk), (vI f), (vI (1 : Int32)), (vJ ((v0.toInt64) - (l0.toInt64))), .second] [(.ref va), (.int (1 : Int32))]))
  have F509 := (F494.other W508 x4)
  have RvX1 := F509
  obtain ⟨dv1, Dv1, _, Sv1, _, _, _⟩ := RvX1
  refine Dn.of (fun tt_ zz_ => X508.arraylength hx (by rw [e508]; exact Dv1.1) (State.isArrayOf_alike hZ.alike Dv1.2.1) (g := (mkF m 18 #[(vA a), (vA va), (vA pk), (vI f), (vI (1 : Int32)), (vJ ((v0.toInt64) - (l0.toInt64))), .second] [(.ref va), (.int (1 : Int32))])) rfl rfl (hb hby d30_18) tt_ zz_) ?_
  rw [Sv1, show ((3 : Int32).toNatClampNeg).toInt32 = (3 : Int32) by decide]
  show Dn p e below s _ _ _ (T508.setTop (mkF m 19 #[(vA a), (vA va), (vA pk), (vI f), (vI (1 : Int32)), (vJ ((v0.toInt64) - (l0.toInt64))), .second] [(.int (3 : Int32)), (.int (1 : Int32))]))
  refine Dn.of (fun tt_ zz_ => XS.icmpNo X508.here hx rfl (hb hby d30_19) rfl (tlt (by decide)).2.1 zz_) ?_
  show Dn p e below s _ _ _ (T508.setTop (mkF m 22 #[(vA a), (vA va), (vA pk), (vI f), (vI (1 : Int32)), (vJ ((v0.toInt64) - (l0.toInt64))), .second] []))
  refine Dn.of (fun tt_ zz_ => XS.aloadN X508.here hx rfl (hb hby d30_22) rfl rfl zz_) ?_
  refine Dn.of (fun tt_ zz_ => XS.iload X508.here hx rfl (hb hby d30_23) rfl zz_) ?_
  show Dn p e below s _ _ _ (T508.setTop (mkF m 25 #[(vA a), (vA va), (vA pk), (vI f), (vI (1 : Int32)), (vJ ((v0.toInt64) - (l0.toInt64))), .second] [(.int (1 : Int32)), (.ref va)]))
  have Rr510 := F509
  obtain ⟨d510, B_510, _, Sd510, _, Hd510, _⟩ := Rr510
  refine Dn.of (fun tt_ zz_ => X508.iaload hx (j := (1 : Int32)) (v := (.int v1)) (by rw [e508]; exact B_510.1) (State.isArrayOf_alike hZ.alike B_510.2.1) B_510.2.2 (inb_of Sd510 (by decide)) (atH Hd510 (inb_of Sd510 (by decide)) rfl) (g := (mkF m 25 #[(vA a), (vA va), (vA pk), (vI f), (vI (1 : Int32)), (vJ ((v0.toInt64) - (l0.toInt64))), .second] [(.int (1 : Int32)), (.ref va)])) rfl rfl (hb hby d30_25) tt_ zz_) ?_
  show Dn p e below s _ _ _ (T508.setTop (mkF m 26 #[(vA a), (vA va), (vA pk), (vI f), (vI (1 : Int32)), (vJ ((v0.toInt64) - (l0.toInt64))), .second] [(.int v1)]))
  refine Dn.of (fun tt_ zz_ => XS.i2l X508.here hx rfl (hb hby d30_26) rfl zz_) ?_
  refine Dn.of (fun tt_ zz_ => XS.aloadN X508.here hx rfl (hb hby d30_27) rfl rfl zz_) ?_
  show Dn p e below s _ _ _ (T508.setTop (mkF m 28 #[(vA a), (vA va), (vA pk), (vI f), (vI (1 : Int32)), (vJ ((v0.toInt64) - (l0.toInt64))), .second] [(.ref a), (.long (v1.toInt64))]))
  have F511 := (F496.other W508 (Or.inl x0))
  obtain ⟨T512, X512, e512, st512⟩ := getF X508 hx hZ hown (host := "") (Or.inl (hg 149 rfl)) Via.refl e508 F511 (g := (mkF m 28 #[(vA a), (vA va), (vA pk), (vI f), (vI (1 : Int32)), (vJ ((v0.toInt64) - (l0.toInt64))), .second] [(.ref a), (.long (v1.toInt64))])) rfl rfl (hb hby d30_28)
  refine Dn.of st512 ?_
  show Dn p e below s _ _ _ (T512.setTop (mkF m 31 #[(vA a), (vA va), (vA pk), (vI f), (vI (1 : Int32)), (vJ ((v0.toInt64) - (l0.toInt64))), .second] [(.ref bl), (.long (v1.toInt64))]))
  refine Dn.of (fun tt_ zz_ => XS.iload X512.here hx rfl (hb hby d30_31) rfl zz_) ?_
  show Dn p e below s _ _ _ (T512.setTop (mkF m 33 #[(vA a), (vA va), (vA pk), (vI f), (vI (1 : Int32)), (vJ ((v0.toInt64) - (l0.toInt64))), .second] [(.int (1 : Int32)), (.ref bl), (.long (v1.toInt64))]))
  have F513 := (F498.other W508 x3)
  have Rr514 := F513
  obtain ⟨d514, B_514, _, Sd514, _, Hd514, _⟩ := Rr514
  refine Dn.of (fun tt_ zz_ => X512.iaload hx (j := (1 : Int32)) (v := (.int l1)) (by rw [e512]; exact B_514.1) (State.isArrayOf_alike hZ.alike B_514.2.1) B_514.2.2 (inb_of Sd514 (by decide)) (atH Hd514 (inb_of Sd514 (by decide)) rfl) (g := (mkF m 33 #[(vA a), (vA va), (vA pk), (vI f), (vI (1 : Int32)), (vJ ((v0.toInt64) - (l0.toInt64))), .second] [(.int (1 : Int32)), (.ref bl), (.long (v1.toInt64))])) rfl rfl (hb hby d30_33) tt_ zz_) ?_
  show Dn p e below s _ _ _ (T512.setTop (mkF m 34 #[(vA a), (vA va), (vA pk), (vI f), (vI (1 : Int32)), (vJ ((v0.toInt64) - (l0.toInt64))), .second] [(.int l1), (.long (v1.toInt64))]))
  refine Dn.of (fun tt_ zz_ => XS.i2l X512.here hx rfl (hb hby d30_34) rfl zz_) ?_
  refine Dn.of (fun tt_ zz_ => XS.lsub X512.here hx rfl (hb hby d30_35) rfl zz_) ?_
  refine Dn.of (fun tt_ zz_ => XS.lstore X512.here hx rfl (hb hby d30_36) rfl (l' := #[(vA a), (vA va), (vA pk), (vI f), (vI (1 : Int32)), (vJ ((v1.toInt64) - (l1.toInt64))), .second]) rfl zz_) ?_
  refine Dn.of (fun tt_ zz_ => XS.aloadN X512.here hx rfl (hb hby d30_38) rfl rfl zz_) ?_
  show Dn p e below s _ _ _ (T512.setTop (mkF m 39 #[(vA a), (vA va), (vA pk), (vI f), (vI (1 : Int32)), (vJ ((v1.toInt64) - (l1.toInt64))), .second] [(.ref pk)]))
  refine Dn.of (fun tt_ zz_ => XS.iloadN X512.here hx rfl (hb hby d30_39) rfl zz_) ?_
  refine Dn.of (fun tt_ zz_ => XS.aloadN X512.here hx rfl (hb hby d30_40) rfl rfl zz_) ?_
  show Dn p e below s _ _ _ (T512.setTop (mkF m 41 #[(vA a), (vA va), (vA pk), (vI f), (vI (1 : Int32)), (vJ ((v1.toInt64) - (l1.toInt64))), .second] [(.ref a), (.int f), (.ref pk)]))
  have F515 := (F500.other W508 (Or.inl x0))
  obtain ⟨T516, X516, e516, st516⟩ := getF X512 hx hZ hown (host := "") (Or.inl (hg 142 rfl)) Via.refl e512 F515 (g := (mkF m 41 #[(vA a), (vA va), (vA pk), (vI f), (vI (1 : Int32)), (vJ ((v1.toInt64) - (l1.toInt64))), .second] [(.ref a), (.int f), (.ref pk)])) rfl rfl (hb hby d30_41)
  refine Dn.of st516 ?_
  show Dn p e below s _ _ _ (T516.setTop (mkF m 44 #[(vA a), (vA va), (vA pk), (vI f), (vI (1 : Int32)), (vJ ((v1.toInt64) - (l1.toInt64))), .second] [(.ref bw), (.int f), (.ref pk)]))
  refine Dn.of (fun tt_ zz_ => XS.iload X516.here hx rfl (hb hby d30_44) rfl zz_) ?_
  show Dn p e below s _ _ _ (T516.setTop (mkF m 46 #[(vA a), (vA va), (vA pk), (vI f), (vI (1 : Int32)), (vJ ((v1.toInt64) - (l1.toInt64))), .second] [(.int (1 : Int32)), (.ref bw), (.int f), (.ref pk)]))
  have F517 := (F502.other W508 x1)
  have Rr518 := F517
  obtain ⟨d518, B_518, _, Sd518, _, Hd518, _⟩ := Rr518
  refine Dn.of (fun tt_ zz_ => X516.iaload hx (j := (1 : Int32)) (v := (.int (0 : Int32))) (by rw [e516]; exact B_518.1) (State.isArrayOf_alike hZ.alike B_518.2.1) B_518.2.2 (inb_of Sd518 (by decide)) (atH Hd518 (inb_of Sd518 (by decide)) rfl) (g := (mkF m 46 #[(vA a), (vA va), (vA pk), (vI f), (vI (1 : Int32)), (vJ ((v1.toInt64) - (l1.toInt64))), .second] [(.int (1 : Int32)), (.ref bw), (.int f), (.ref pk)])) rfl rfl (hb hby d30_46) tt_ zz_) ?_
  show Dn p e below s _ _ _ (T516.setTop (mkF m 47 #[(vA a), (vA va), (vA pk), (vI f), (vI (1 : Int32)), (vJ ((v1.toInt64) - (l1.toInt64))), .second] [(.int (0 : Int32)), (.int f), (.ref pk)]))
  refine Dn.of (fun tt_ zz_ => XS.iadd X516.here hx rfl (hb hby d30_47) rfl zz_) ?_
  refine Dn.of (fun tt_ zz_ => XT.dup2 X516.here hx rfl (hb hby d30_48) rfl rfl rfl zz_) ?_
  show Dn p e below s _ _ _ (T516.setTop (mkF m 49 #[(vA a), (vA va), (vA pk), (vI f), (vI (1 : Int32)), (vJ ((v1.toInt64) - (l1.toInt64))), .second] [(.int (f + (0 : Int32))), (.ref pk), (.int (f + (0 : Int32))), (.ref pk)]))
  have Rp1 := Rq0
  obtain ⟨dp1, Dp1, qp1, Sp1, Pp1, Hp1, Gp1⟩ := Rp1
  refine Dn.of (fun tt_ zz_ => X516.laload hx (j := (f + (0 : Int32))) (v := (.long ((0 : Int64) ||| (((v0.toInt64) - (l0.toInt64)) <<< ((0 : Int32) &&& 0x3f).toInt64)))) (by rw [e516]; exact Dp1.1) (State.isArrayOf_alike hZ.alike Dp1.2.1) Dp1.2.2 (inb_of Sp1 ff.2.2.2.1) (atH Hp1 (inb_of Sp1 ff.2.2.2.1) (own_same ff.2.2.2.1.1 rfl)) (g := (mkF m 49 #[(vA a), (vA va), (vA pk), (vI f), (vI (1 : Int32)), (vJ ((v1.toInt64) - (l1.toInt64))), .second] [(.int (f + (0 : Int32))), (.ref pk), (.int (f + (0 : Int32))), (.ref pk)])) rfl rfl (hb hby d30_49) tt_ zz_) ?_
  show Dn p e below s _ _ _ (T516.setTop (mkF m 50 #[(vA a), (vA va), (vA pk), (vI f), (vI (1 : Int32)), (vJ ((v1.toInt64) - (l1.toInt64))), .second] [(.long ((0 : Int64) ||| (((v0.toInt64) - (l0.toInt64)) <<< ((0 : Int32) &&& 0x3f).toInt64))), (.int (f + (0 : Int32))), (.ref pk)]))
  refine Dn.of (fun tt_ zz_ => XS.lload X516.here hx rfl (hb hby d30_50) rfl zz_) ?_
  refine Dn.of (fun tt_ zz_ => XS.aloadN X516.here hx rfl (hb hby d30_52) rfl rfl zz_) ?_
  show Dn p e below s _ _ _ (T516.setTop (mkF m 53 #[(vA a), (vA va), (vA pk), (vI f), (vI (1 : Int32)), (vJ ((v1.toInt64) - (l1.toInt64))), .second] [(.ref a), (.long ((v1.toInt64) - (l1.toInt64))), (.long ((0 : Int64) ||| (((v0.toInt64) - (l0.toInt64)) <<< ((0 : Int32) &&& 0x3f).toInt64))), (.int (f + (0 : Int32))), (.ref pk)]))
  have F519 := (F504.other W508 (Or.inl x0))
  obtain ⟨T520, X520, e520, st520⟩ := getF X516 hx hZ hown (host := "") (Or.inl (hg 144 rfl)) Via.refl e516 F519 (g := (mkF m 53 #[(vA a), (vA va), (vA pk), (vI f), (vI (1 : Int32)), (vJ ((v1.toInt64) - (l1.toInt64))), .second] [(.ref a), (.long ((v1.toInt64) - (l1.toInt64))), (.long ((0 : Int64) ||| (((v0.toInt64) - (l0.toInt64)) <<< ((0 : Int32) &&& 0x3f).toInt64))), (.int (f + (0 : Int32))), (.ref pk)])) rfl rfl (hb hby d30_53)
  refine Dn.of st520 ?_
  show Dn p e below s _ _ _ (T520.setTop (mkF m 56 #[(vA a), (vA va), (vA pk), (vI f), (vI (1 : Int32)), (vJ ((v1.toInt64) - (l1.toInt64))), .second] [(.ref bs), (.long ((v1.toInt64) - (l1.toInt64))), (.long ((0 : Int64) ||| (((v0.toInt64) - (l0.toInt64)) <<< ((0 : Int32) &&& 0x3f).toInt64))), (.int (f + (0 : Int32))), (.ref pk)]))
  refine Dn.of (fun tt_ zz_ => XS.iload X520.here hx rfl (hb hby d30_56) rfl zz_) ?_
  show Dn p e below s _ _ _ (T520.setTop (mkF m 58 #[(vA a), (vA va), (vA pk), (vI f), (vI (1 : Int32)), (vJ ((v1.toInt64) - (l1.toInt64))), .second] [(.int (1 : Int32)), (.ref bs), (.long ((v1.toInt64) - (l1.toInt64))), (.long ((0 : Int64) ||| (((v0.toInt64) - (l0.toInt64)) <<< ((0 : Int32) &&& 0x3f).toInt64))), (.int (f + (0 : Int32))), (.ref pk)]))
  have F521 := (F506.other W508 x2)
  have Rr522 := F521
  obtain ⟨d522, B_522, _, Sd522, _, Hd522, _⟩ := Rr522
  refine Dn.of (fun tt_ zz_ => X520.iaload hx (j := (1 : Int32)) (v := (.int b0)) (by rw [e520]; exact B_522.1) (State.isArrayOf_alike hZ.alike B_522.2.1) B_522.2.2 (inb_of Sd522 (by decide)) (atH Hd522 (inb_of Sd522 (by decide)) rfl) (g := (mkF m 58 #[(vA a), (vA va), (vA pk), (vI f), (vI (1 : Int32)), (vJ ((v1.toInt64) - (l1.toInt64))), .second] [(.int (1 : Int32)), (.ref bs), (.long ((v1.toInt64) - (l1.toInt64))), (.long ((0 : Int64) ||| (((v0.toInt64) - (l0.toInt64)) <<< ((0 : Int32) &&& 0x3f).toInt64))), (.int (f + (0 : Int32))), (.ref pk)])) rfl rfl (hb hby d30_58) tt_ zz_) ?_
  show Dn p e below s _ _ _ (T520.setTop (mkF m 59 #[(vA a), (vA va), (vA pk), (vI f), (vI (1 : Int32)), (vJ ((v1.toInt64) - (l1.toInt64))), .second] [(.int b0), (.long ((v1.toInt64) - (l1.toInt64))), (.long ((0 : Int64) ||| (((v0.toInt64) - (l0.toInt64)) <<< ((0 : Int32) &&& 0x3f).toInt64))), (.int (f + (0 : Int32))), (.ref pk)]))
  refine Dn.of (fun tt_ zz_ => XS.lshl X520.here hx rfl (hb hby d30_59) rfl zz_) ?_
  refine Dn.of (fun tt_ zz_ => XS.lor X520.here hx rfl (hb hby d30_60) rfl zz_) ?_
  show Dn p e below s _ _ _ (T520.setTop (mkF m 61 #[(vA a), (vA va), (vA pk), (vI f), (vI (1 : Int32)), (vJ ((v1.toInt64) - (l1.toInt64))), .second] [(.long (((0 : Int64) ||| (((v0.toInt64) - (l0.toInt64)) <<< ((0 : Int32) &&& 0x3f).toInt64)) ||| (((v1.toInt64) - (l1.toInt64)) <<< (b0 &&& 0x3f).toInt64))), (.int (f + (0 : Int32))), (.ref pk)]))
  obtain ⟨T523, h523, X523, e523, W523, st523⟩ := stJ X520 hx hZ e520 Dp1 (j := (f + (0 : Int32))) (inb_of Sp1 ff.2.2.2.1) (g := (mkF m 61 #[(vA a), (vA va), (vA pk), (vI f), (vI (1 : Int32)), (vJ ((v1.toInt64) - (l1.toInt64))), .second] [(.long (((0 : Int64) ||| (((v0.toInt64) - (l0.toInt64)) <<< ((0 : Int32) &&& 0x3f).toInt64)) ||| (((v1.toInt64) - (l1.toInt64)) <<< (b0 &&& 0x3f).toInt64))), (.int (f + (0 : Int32))), (.ref pk)])) rfl rfl (hb hby d30_61)
  refine Dn.of st523 ?_
  show Dn p e below s _ _ _ (T523.setTop (mkF m 62 #[(vA a), (vA va), (vA pk), (vI f), (vI (1 : Int32)), (vJ ((v1.toInt64) - (l1.toInt64))), .second] []))
  have Rq1 := Arh.push Dp1 qp1 Sp1 Pp1 Hp1 Gp1 (v := .long (((0 : Int64) ||| (((v0.toInt64) - (l0.toInt64)) <<< ((0 : Int32) &&& 0x3f).toInt64)) ||| (((v1.toInt64) - (l1.toInt64)) <<< (b0 &&& 0x3f).toInt64))) rfl W523 (inb_of Sp1 ff.2.2.2.1)
  have Np1 := Fr.snoc X523 Np0 g0
  refine Dn.of (fun tt_ zz_ => XS.iinc X523.here hx rfl (hb hby d30_62) rfl (l' := #[(vA a), (vA va), (vA pk), (vI f), (vI ((1 : Int32) + (1 : Int32))), (vJ ((v1.toInt64) - (l1.toInt64))), .second]) rfl zz_) ?_
  refine Dn.of (fun tt_ zz_ => XS.goto X523.here hx rfl (pc0 := 65) (pc' := 15) rfl (hb hby d30_65) (by decide) (by decide) zz_) ?_
  show Dn p e below s _ _ _ (T523.setTop (mkF m 15 #[(vA a), (vA va), (vA pk), (vI f), (vI ((1 : Int32) + (1 : Int32))), (vJ ((v1.toInt64) - (l1.toInt64))), .second] []))
  rw [show ((1 : Int32) + (1 : Int32)) = (2 : Int32) by decide]
  show Dn p e below s _ _ _ (T523.setTop (mkF m 15 #[(vA a), (vA va), (vA pk), (vI f), (vI (2 : Int32)), (vJ ((v1.toInt64) - (l1.toInt64))), .second] []))
  refine Dn.of (fun tt_ zz_ => XS.iload X523.here hx rfl (hb hby d30_15) rfl zz_) ?_
  refine Dn.of (fun tt_ zz_ => XS.aloadN X523.here hx rfl (hb hby d30_17) rfl rfl zz_) ?_
  show Dn p e below s _ _ _ (T523.setTop (mkF m 18 #[(vA a), (vA va), (vA pk), (vI f), (vI (2 : Int32)), (vJ ((v1.toInt64) - (l1.toInt64))), .second] [(.ref va), (.int (2 : Int32))]))
  have F524 := (F509.other W523 x4)
  have RvX2 := F524
  obtain ⟨dv2, Dv2, _, Sv2, _, _, _⟩ := RvX2
  refine Dn.of (fun tt_ zz_ => X523.arraylength hx (by rw [e523]; exact Dv2.1) (State.isArrayOf_alike hZ.alike Dv2.2.1) (g := (mkF m 18 #[(vA a), (vA va), (vA pk), (vI f), (vI (2 : Int32)), (vJ ((v1.toInt64) - (l1.toInt64))), .second] [(.ref va), (.int (2 : Int32))])) rfl rfl (hb hby d30_18) tt_ zz_) ?_
  rw [Sv2, show ((3 : Int32).toNatClampNeg).toInt32 = (3 : Int32) by decide]
  show Dn p e below s _ _ _ (T523.setTop (mkF m 19 #[(vA a), (vA va), (vA pk), (vI f), (vI (2 : Int32)), (vJ ((v1.toInt64) - (l1.toInt64))), .second] [(.int (3 : Int32)), (.int (2 : Int32))]))
  refine Dn.of (fun tt_ zz_ => XS.icmpNo X523.here hx rfl (hb hby d30_19) rfl (tlt (by decide)).2.1 zz_) ?_
  show Dn p e below s _ _ _ (T523.setTop (mkF m 22 #[(vA a), (vA va), (vA pk), (vI f), (vI (2 : Int32)), (vJ ((v1.toInt64) - (l1.toInt64))), .second] []))
  refine Dn.of (fun tt_ zz_ => XS.aloadN X523.here hx rfl (hb hby d30_22) rfl rfl zz_) ?_
  refine Dn.of (fun tt_ zz_ => XS.iload X523.here hx rfl (hb hby d30_23) rfl zz_) ?_
  show Dn p e below s _ _ _ (T523.setTop (mkF m 25 #[(vA a), (vA va), (vA pk), (vI f), (vI (2 : Int32)), (vJ ((v1.toInt64) - (l1.toInt64))), .second] [(.int (2 : Int32)), (.ref va)]))
  have Rr525 := F524
  obtain ⟨d525, B_525, _, Sd525, _, Hd525, _⟩ := Rr525
  refine Dn.of (fun tt_ zz_ => X523.iaload hx (j := (2 : Int32)) (v := (.int v2)) (by rw [e523]; exact B_525.1) (State.isArrayOf_alike hZ.alike B_525.2.1) B_525.2.2 (inb_of Sd525 (by decide)) (atH Hd525 (inb_of Sd525 (by decide)) rfl) (g := (mkF m 25 #[(vA a), (vA va), (vA pk), (vI f), (vI (2 : Int32)), (vJ ((v1.toInt64) - (l1.toInt64))), .second] [(.int (2 : Int32)), (.ref va)])) rfl rfl (hb hby d30_25) tt_ zz_) ?_
  show Dn p e below s _ _ _ (T523.setTop (mkF m 26 #[(vA a), (vA va), (vA pk), (vI f), (vI (2 : Int32)), (vJ ((v1.toInt64) - (l1.toInt64))), .second] [(.int v2)]))
  refine Dn.of (fun tt_ zz_ => XS.i2l X523.here hx rfl (hb hby d30_26) rfl zz_) ?_
  refine Dn.of (fun tt_ zz_ => XS.aloadN X523.here hx rfl (hb hby d30_27) rfl rfl zz_) ?_
  show Dn p e below s _ _ _ (T523.setTop (mkF m 28 #[(vA a), (vA va), (vA pk), (vI f), (vI (2 : Int32)), (vJ ((v1.toInt64) - (l1.toInt64))), .second] [(.ref a), (.long (v2.toInt64))]))
  have F526 := (F511.other W523 (Or.inl x0))
  obtain ⟨T527, X527, e527, st527⟩ := getF X523 hx hZ hown (host := "") (Or.inl (hg 149 rfl)) Via.refl e523 F526 (g := (mkF m 28 #[(vA a), (vA va), (vA pk), (vI f), (vI (2 : Int32)), (vJ ((v1.toInt64) - (l1.toInt64))), .second] [(.ref a), (.long (v2.toInt64))])) rfl rfl (hb hby d30_28)
  refine Dn.of st527 ?_
  show Dn p e below s _ _ _ (T527.setTop (mkF m 31 #[(vA a), (vA va), (vA pk), (vI f), (vI (2 : Int32)), (vJ ((v1.toInt64) - (l1.toInt64))), .second] [(.ref bl), (.long (v2.toInt64))]))
  refine Dn.of (fun tt_ zz_ => XS.iload X527.here hx rfl (hb hby d30_31) rfl zz_) ?_
  show Dn p e below s _ _ _ (T527.setTop (mkF m 33 #[(vA a), (vA va), (vA pk), (vI f), (vI (2 : Int32)), (vJ ((v1.toInt64) - (l1.toInt64))), .second] [(.int (2 : Int32)), (.ref bl), (.long (v2.toInt64))]))
  have F528 := (F513.other W523 x3)
  have Rr529 := F528
  obtain ⟨d529, B_529, _, Sd529, _, Hd529, _⟩ := Rr529
  refine Dn.of (fun tt_ zz_ => X527.iaload hx (j := (2 : Int32)) (v := (.int l2)) (by rw [e527]; exact B_529.1) (State.isArrayOf_alike hZ.alike B_529.2.1) B_529.2.2 (inb_of Sd529 (by decide)) (atH Hd529 (inb_of Sd529 (by decide)) rfl) (g := (mkF m 33 #[(vA a), (vA va), (vA pk), (vI f), (vI (2 : Int32)), (vJ ((v1.toInt64) - (l1.toInt64))), .second] [(.int (2 : Int32)), (.ref bl), (.long (v2.toInt64))])) rfl rfl (hb hby d30_33) tt_ zz_) ?_
  show Dn p e below s _ _ _ (T527.setTop (mkF m 34 #[(vA a), (vA va), (vA pk), (vI f), (vI (2 : Int32)), (vJ ((v1.toInt64) - (l1.toInt64))), .second] [(.int l2), (.long (v2.toInt64))]))
  refine Dn.of (fun tt_ zz_ => XS.i2l X527.here hx rfl (hb hby d30_34) rfl zz_) ?_
  refine Dn.of (fun tt_ zz_ => XS.lsub X527.here hx rfl (hb hby d30_35) rfl zz_) ?_
  refine Dn.of (fun tt_ zz_ => XS.lstore X527.here hx rfl (hb hby d30_36) rfl (l' := #[(vA a), (vA va), (vA pk), (vI f), (vI (2 : Int32)), (vJ ((v2.toInt64) - (l2.toInt64))), .second]) rfl zz_) ?_
  refine Dn.of (fun tt_ zz_ => XS.aloadN X527.here hx rfl (hb hby d30_38) rfl rfl zz_) ?_
  show Dn p e below s _ _ _ (T527.setTop (mkF m 39 #[(vA a), (vA va), (vA pk), (vI f), (vI (2 : Int32)), (vJ ((v2.toInt64) - (l2.toInt64))), .second] [(.ref pk)]))
  refine Dn.of (fun tt_ zz_ => XS.iloadN X527.here hx rfl (hb hby d30_39) rfl zz_) ?_
  refine Dn.of (fun tt_ zz_ => XS.aloadN X527.here hx rfl (hb hby d30_40) rfl rfl zz_) ?_
  show Dn p e below s _ _ _ (T527.setTop (mkF m 41 #[(vA a), (vA va), (vA pk), (vI f), (vI (2 : Int32)), (vJ ((v2.toInt64) - (l2.toInt64))), .second] [(.ref a), (.int f), (.ref pk)]))
  have F530 := (F515.other W523 (Or.inl x0))
  obtain ⟨T531, X531, e531, st531⟩ := getF X527 hx hZ hown (host := "") (Or.inl (hg 142 rfl)) Via.refl e527 F530 (g := (mkF m 41 #[(vA a), (vA va), (vA pk), (vI f), (vI (2 : Int32)), (vJ ((v2.toInt64) - (l2.toInt64))), .second] [(.ref a), (.int f), (.ref pk)])) rfl rfl (hb hby d30_41)
  refine Dn.of st531 ?_
  show Dn p e below s _ _ _ (T531.setTop (mkF m 44 #[(vA a), (vA va), (vA pk), (vI f), (vI (2 : Int32)), (vJ ((v2.toInt64) - (l2.toInt64))), .second] [(.ref bw), (.int f), (.ref pk)]))
  refine Dn.of (fun tt_ zz_ => XS.iload X531.here hx rfl (hb hby d30_44) rfl zz_) ?_
  show Dn p e below s _ _ _ (T531.setTop (mkF m 46 #[(vA a), (vA va), (vA pk), (vI f), (vI (2 : Int32)), (vJ ((v2.toInt64) - (l2.toInt64))), .second] [(.int (2 : Int32)), (.ref bw), (.int f), (.ref pk)]))
  have F532 := (F517.other W523 x1)
  have Rr533 := F532
  obtain ⟨d533, B_533, _, Sd533, _, Hd533, _⟩ := Rr533
  refine Dn.of (fun tt_ zz_ => X531.iaload hx (j := (2 : Int32)) (v := (.int (1 : Int32))) (by rw [e531]; exact B_533.1) (State.isArrayOf_alike hZ.alike B_533.2.1) B_533.2.2 (inb_of Sd533 (by decide)) (atH Hd533 (inb_of Sd533 (by decide)) rfl) (g := (mkF m 46 #[(vA a), (vA va), (vA pk), (vI f), (vI (2 : Int32)), (vJ ((v2.toInt64) - (l2.toInt64))), .second] [(.int (2 : Int32)), (.ref bw), (.int f), (.ref pk)])) rfl rfl (hb hby d30_46) tt_ zz_) ?_
  show Dn p e below s _ _ _ (T531.setTop (mkF m 47 #[(vA a), (vA va), (vA pk), (vI f), (vI (2 : Int32)), (vJ ((v2.toInt64) - (l2.toInt64))), .second] [(.int (1 : Int32)), (.int f), (.ref pk)]))
  refine Dn.of (fun tt_ zz_ => XS.iadd X531.here hx rfl (hb hby d30_47) rfl zz_) ?_
  refine Dn.of (fun tt_ zz_ => XT.dup2 X531.here hx rfl (hb hby d30_48) rfl rfl rfl zz_) ?_
  show Dn p e below s _ _ _ (T531.setTop (mkF m 49 #[(vA a), (vA va), (vA pk), (vI f), (vI (2 : Int32)), (vJ ((v2.toInt64) - (l2.toInt64))), .second] [(.int (f + (1 : Int32))), (.ref pk), (.int (f + (1 : Int32))), (.ref pk)]))
  have Rp2 := Rq1
  obtain ⟨dp2, Dp2, qp2, Sp2, Pp2, Hp2, Gp2⟩ := Rp2
  refine Dn.of (fun tt_ zz_ => X531.laload hx (j := (f + (1 : Int32))) (v := (.long (0 : Int64))) (by rw [e531]; exact Dp2.1) (State.isArrayOf_alike hZ.alike Dp2.2.1) Dp2.2.2 (inb_of Sp2 ff.2.2.2.2) (atH Hp2 (inb_of Sp2 ff.2.2.2.2) ((own_skip ff.2.2.2.2.1 (own_f02 f)).trans ((own_skip ff.2.2.2.2.1 (own_f02 f)).trans (own_same ff.2.2.2.2.1 rfl)))) (g := (mkF m 49 #[(vA a), (vA va), (vA pk), (vI f), (vI (2 : Int32)), (vJ ((v2.toInt64) - (l2.toInt64))), .second] [(.int (f + (1 : Int32))), (.ref pk), (.int (f + (1 : Int32))), (.ref pk)])) rfl rfl (hb hby d30_49) tt_ zz_) ?_
  show Dn p e below s _ _ _ (T531.setTop (mkF m 50 #[(vA a), (vA va), (vA pk), (vI f), (vI (2 : Int32)), (vJ ((v2.toInt64) - (l2.toInt64))), .second] [(.long (0 : Int64)), (.int (f + (1 : Int32))), (.ref pk)]))
  refine Dn.of (fun tt_ zz_ => XS.lload X531.here hx rfl (hb hby d30_50) rfl zz_) ?_
  refine Dn.of (fun tt_ zz_ => XS.aloadN X531.here hx rfl (hb hby d30_52) rfl rfl zz_) ?_
  show Dn p e below s _ _ _ (T531.setTop (mkF m 53 #[(vA a), (vA va), (vA pk), (vI f), (vI (2 : Int32)), (vJ ((v2.toInt64) - (l2.toInt64))), .second] [(.ref a), (.long ((v2.toInt64) - (l2.toInt64))), (.long (0 : Int64)), (.int (f + (1 : Int32))), (.ref pk)]))
  have F534 := (F519.other W523 (Or.inl x0))
  obtain ⟨T535, X535, e535, st535⟩ := getF X531 hx hZ hown (host := "") (Or.inl (hg 144 rfl)) Via.refl e531 F534 (g := (mkF m 53 #[(vA a), (vA va), (vA pk), (vI f), (vI (2 : Int32)), (vJ ((v2.toInt64) - (l2.toInt64))), .second] [(.ref a), (.long ((v2.toInt64) - (l2.toInt64))), (.long (0 : Int64)), (.int (f + (1 : Int32))), (.ref pk)])) rfl rfl (hb hby d30_53)
  refine Dn.of st535 ?_
  show Dn p e below s _ _ _ (T535.setTop (mkF m 56 #[(vA a), (vA va), (vA pk), (vI f), (vI (2 : Int32)), (vJ ((v2.toInt64) - (l2.toInt64))), .second] [(.ref bs), (.long ((v2.toInt64) - (l2.toInt64))), (.long (0 : Int64)), (.int (f + (1 : Int32))), (.ref pk)]))
  refine Dn.of (fun tt_ zz_ => XS.iload X535.here hx rfl (hb hby d30_56) rfl zz_) ?_
  show Dn p e below s _ _ _ (T535.setTop (mkF m 58 #[(vA a), (vA va), (vA pk), (vI f), (vI (2 : Int32)), (vJ ((v2.toInt64) - (l2.toInt64))), .second] [(.int (2 : Int32)), (.ref bs), (.long ((v2.toInt64) - (l2.toInt64))), (.long (0 : Int64)), (.int (f + (1 : Int32))), (.ref pk)]))
  have F536 := (F521.other W523 x2)
  have Rr537 := F536
  obtain ⟨d537, B_537, _, Sd537, _, Hd537, _⟩ := Rr537
  refine Dn.of (fun tt_ zz_ => X535.iaload hx (j := (2 : Int32)) (v := (.int s2)) (by rw [e535]; exact B_537.1) (State.isArrayOf_alike hZ.alike B_537.2.1) B_537.2.2 (inb_of Sd537 (by decide)) (atH Hd537 (inb_of Sd537 (by decide)) rfl) (g := (mkF m 58 #[(vA a), (vA va), (vA pk), (vI f), (vI (2 : Int32)), (vJ ((v2.toInt64) - (l2.toInt64))), .second] [(.int (2 : Int32)), (.ref bs), (.long ((v2.toInt64) - (l2.toInt64))), (.long (0 : Int64)), (.int (f + (1 : Int32))), (.ref pk)])) rfl rfl (hb hby d30_58) tt_ zz_) ?_
  show Dn p e below s _ _ _ (T535.setTop (mkF m 59 #[(vA a), (vA va), (vA pk), (vI f), (vI (2 : Int32)), (vJ ((v2.toInt64) - (l2.toInt64))), .second] [(.int s2), (.long ((v2.toInt64) - (l2.toInt64))), (.long (0 : Int64)), (.int (f + (1 : Int32))), (.ref pk)]))
  refine Dn.of (fun tt_ zz_ => XS.lshl X535.here hx rfl (hb hby d30_59) rfl zz_) ?_
  refine Dn.of (fun tt_ zz_ => XS.lor X535.here hx rfl (hb hby d30_60) rfl zz_) ?_
  show Dn p e below s _ _ _ (T535.setTop (mkF m 61 #[(vA a), (vA va), (vA pk), (vI f), (vI (2 : Int32)), (vJ ((v2.toInt64) - (l2.toInt64))), .second] [(.long ((0 : Int64) ||| (((v2.toInt64) - (l2.toInt64)) <<< (s2 &&& 0x3f).toInt64))), (.int (f + (1 : Int32))), (.ref pk)]))
  obtain ⟨T538, h538, X538, e538, W538, st538⟩ := stJ X535 hx hZ e535 Dp2 (j := (f + (1 : Int32))) (inb_of Sp2 ff.2.2.2.2) (g := (mkF m 61 #[(vA a), (vA va), (vA pk), (vI f), (vI (2 : Int32)), (vJ ((v2.toInt64) - (l2.toInt64))), .second] [(.long ((0 : Int64) ||| (((v2.toInt64) - (l2.toInt64)) <<< (s2 &&& 0x3f).toInt64))), (.int (f + (1 : Int32))), (.ref pk)])) rfl rfl (hb hby d30_61)
  refine Dn.of st538 ?_
  show Dn p e below s _ _ _ (T538.setTop (mkF m 62 #[(vA a), (vA va), (vA pk), (vI f), (vI (2 : Int32)), (vJ ((v2.toInt64) - (l2.toInt64))), .second] []))
  have Rq2 := Arh.push Dp2 qp2 Sp2 Pp2 Hp2 Gp2 (v := .long ((0 : Int64) ||| (((v2.toInt64) - (l2.toInt64)) <<< (s2 &&& 0x3f).toInt64))) rfl W538 (inb_of Sp2 ff.2.2.2.2)
  have Np2 := Fr.snoc X538 Np1 g0
  refine Dn.of (fun tt_ zz_ => XS.iinc X538.here hx rfl (hb hby d30_62) rfl (l' := #[(vA a), (vA va), (vA pk), (vI f), (vI ((2 : Int32) + (1 : Int32))), (vJ ((v2.toInt64) - (l2.toInt64))), .second]) rfl zz_) ?_
  refine Dn.of (fun tt_ zz_ => XS.goto X538.here hx rfl (pc0 := 65) (pc' := 15) rfl (hb hby d30_65) (by decide) (by decide) zz_) ?_
  show Dn p e below s _ _ _ (T538.setTop (mkF m 15 #[(vA a), (vA va), (vA pk), (vI f), (vI ((2 : Int32) + (1 : Int32))), (vJ ((v2.toInt64) - (l2.toInt64))), .second] []))
  rw [show ((2 : Int32) + (1 : Int32)) = (3 : Int32) by decide]
  show Dn p e below s _ _ _ (T538.setTop (mkF m 15 #[(vA a), (vA va), (vA pk), (vI f), (vI (3 : Int32)), (vJ ((v2.toInt64) - (l2.toInt64))), .second] []))
  refine Dn.of (fun tt_ zz_ => XS.iload X538.here hx rfl (hb hby d30_15) rfl zz_) ?_
  refine Dn.of (fun tt_ zz_ => XS.aloadN X538.here hx rfl (hb hby d30_17) rfl rfl zz_) ?_
  show Dn p e below s _ _ _ (T538.setTop (mkF m 18 #[(vA a), (vA va), (vA pk), (vI f), (vI (3 : Int32)), (vJ ((v2.toInt64) - (l2.toInt64))), .second] [(.ref va), (.int (3 : Int32))]))
  have F539 := (F524.other W538 x4)
  have RvX := F539
  obtain ⟨dv, Dv, _, Sv, _, _, _⟩ := RvX
  refine Dn.of (fun tt_ zz_ => X538.arraylength hx (by rw [e538]; exact Dv.1) (State.isArrayOf_alike hZ.alike Dv.2.1) (g := (mkF m 18 #[(vA a), (vA va), (vA pk), (vI f), (vI (3 : Int32)), (vJ ((v2.toInt64) - (l2.toInt64))), .second] [(.ref va), (.int (3 : Int32))])) rfl rfl (hb hby d30_18) tt_ zz_) ?_
  rw [Sv, show ((3 : Int32).toNatClampNeg).toInt32 = (3 : Int32) by decide]
  show Dn p e below s _ _ _ (T538.setTop (mkF m 19 #[(vA a), (vA va), (vA pk), (vI f), (vI (3 : Int32)), (vJ ((v2.toInt64) - (l2.toInt64))), .second] [(.int (3 : Int32)), (.int (3 : Int32))]))
  refine Dn.of (fun tt_ zz_ => XS.icmpYes X538.here hx rfl (pc0 := 19) (pc' := 68) rfl (hb hby d30_19) rfl (flt (by decide)).2.1 (by decide) (by decide) zz_) ?_
  show Dn p e below s _ _ _ (T538.setTop (mkF m 68 #[(vA a), (vA va), (vA pk), (vI f), (vI (3 : Int32)), (vJ ((v2.toInt64) - (l2.toInt64))), .second] []))
  have F540 := (((((Keep.refl h0 [pk]).trans K1 (allS (Or.inl (List.mem_of_getElem? (i := 0) rfl)) all0)).wr W508 (Or.inl (List.mem_of_getElem? (i := 0) rfl))).wr W523 (Or.inl (List.mem_of_getElem? (i := 0) rfl))).wr W538 (Or.inl (List.mem_of_getElem? (i := 0) rfl)))
  exact Dn.retV X538 hx hlk hret (hb hby d30_68) (by decide) (by decide) (by rw [e538]; exact ⟨rfl, Np2, F540, _, Rq2, (own_skip ff.2.2.2.1.1 (Ne.symm (own_f02 f))).trans (own_same ff.2.2.2.1.1 rfl), own_same ff.2.2.2.2.1 rfl⟩)
theorem ef33_AAII (m : MethodId) (x0 : Addr) (x1 : Addr) (x2 : Int32) (x3 : Int32) : entryFrame m #[(.ref x0), (.ref x1), (.int x2), (.int x3)] 6 = mkF m 0 #[(vA x0), (vA x1), (vI x2), (vI x3), .unset, .unset] [] := by first | (simp [entryFrame, mkF, argsToLocals, Value.category]; done) | rfl
set_option maxRecDepth 65536 in
set_option maxHeartbeats 40000000 in
theorem rmVal (l : Launch) (Z : State) (a0 : Array Value) (hw : ∀ d ∈ tables_1, d.before a0 Z = true) (h0 : Heap) (n0 : Nat) (Z0 : n0 ≤ h0.size) (a bw bs bm bl : Addr) (kw ks km kl : ClassId) (b0 b1 b2 l0 l1 l2 w2 wc s2 : Int32) (G0 : Fld Z h0 a "com/example/verify_markov_chains/verifymarkovchains/explicit/StateLayout" "words" "[I" (.ref bw)) (G1 : Fld Z h0 a "com/example/verify_markov_chains/verifymarkovchains/explicit/StateLayout" "shifts" "[I" (.ref bs)) (G2 : Fld Z h0 a "com/example/verify_markov_chains/verifymarkovchains/explicit/StateLayout" "masks" "[J" (.ref bm)) (G3 : Fld Z h0 a "com/example/verify_markov_chains/verifymarkovchains/explicit/StateLayout" "lowers" "[I" (.ref bl)) (G4 : Fld Z h0 a "com/example/verify_markov_chains/verifymarkovchains/explicit/StateLayout" "wordCount" "I" (.int wc)) (RW : Arh Z h0 bw kw .int 3 [((2 : Int32), .int w2), ((1 : Int32), .int (0 : Int32)), ((0 : Int32), .int (0 : Int32))] [] (.int 0)) (RS : Arh Z h0 bs ks .int 3 [((2 : Int32), .int s2), ((1 : Int32), .int b0), ((0 : Int32), .int (0 : Int32))] [] (.int 0)) (RM : Arh Z h0 bm km .long 3 [((2 : Int32), .long (own_mask b2)), ((1 : Int32), .long (own_mask b1)), ((0 : Int32), .long (own_mask b0))] [] (.long 0)) (RL : Arh Z h0 bl kl .int 3 [((2 : Int32), .int l2), ((1 : Int32), .int l1), ((0 : Int32), .int l0)] [] (.int 0)) (pk : Addr) (kp : ClassId) (hs : List (Int32 × Value)) (f j wi si li : Int32) (mi Wi : Int64) (hj : ¬ j < 0 ∧ j < 3) (e1 : getH [((2 : Int32), .int w2), ((1 : Int32), .int (0 : Int32)), ((0 : Int32), .int (0 : Int32))] [] (.int 0) j.toNatClampNeg = .int wi) (e2 : getH [((2 : Int32), .int s2), ((1 : Int32), .int b0), ((0 : Int32), .int (0 : Int32))] [] (.int 0) j.toNatClampNeg = .int si) (e3 : getH [((2 : Int32), .long (own_mask b2)), ((1 : Int32), .long (own_mask b1)), ((0 : Int32), .long (own_mask b0))] [] (.long 0) j.toNatClampNeg = .long mi) (e4 : getH [((2 : Int32), .int l2), ((1 : Int32), .int l1), ((0 : Int32), .int l0)] [] (.int 0) j.toNatClampNeg = .int li) (hf : ¬ (f + wi) < 0 ∧ (f + wi) < 6) (RP : Arh Z h0 pk kp .long 6 hs [] (.long 0)) (e5 : getH hs [] (.long 0) (f + wi).toNatClampNeg = .long Wi) :
    ctr l Z (⟨"com/example/verify_markov_chains/verifymarkovchains/explicit/StateLayout", "value", "([JII)I"⟩ : MethodName) prog_51_method_5_code 6 (some .int) [] ({ frames := 0, cells := 0, slots := 0, locals := 0 } : Room) 0 0 #[(.ref a), (.ref pk), (.int f), (.int j)] h0 (fun v h L => v = some (.int (own_val Wi si mi li)) ∧ Fr n0 L ∧ h = h0) := by
  refine ctr_of (plainFor_of_name pn7) ?_
  intro p e s m below meth jc s₁ hx hby hml hret hlk hnm hown hZ e0 X0
  have N0 := Fr.nil n0
  have hg : ∀ (i : Nat) {d : Jvm.Cond}, tables_1[i]? = some d → d.before a0 Z = true := fun i d q => hw d (List.mem_of_getElem? q)
  refine Dn.cast (ef33_AAII m a pk f j) ?_
  show Dn p e below s _ _ _ (s₁.setTop (mkF m 0 #[(vA a), (vA pk), (vI f), (vI j), .unset, .unset] []))
  refine Dn.of (fun tt_ zz_ => XS.aloadN X0.here hx rfl (hb hby d33_0) rfl rfl zz_) ?_
  refine Dn.of (fun tt_ zz_ => XS.iloadN X0.here hx rfl (hb hby d33_1) rfl zz_) ?_
  refine Dn.of (fun tt_ zz_ => XS.aloadN X0.here hx rfl (hb hby d33_2) rfl rfl zz_) ?_
  show Dn p e below s _ _ _ (s₁.setTop (mkF m 3 #[(vA a), (vA pk), (vI f), (vI j), .unset, .unset] [(.ref a), (.int f), (.ref pk)]))
  obtain ⟨T541, X541, e541, st541⟩ := getF X0 hx hZ hown (host := "") (Or.inl (hg 142 rfl)) Via.refl e0 G0 (g := (mkF m 3 #[(vA a), (vA pk), (vI f), (vI j), .unset, .unset] [(.ref a), (.int f), (.ref pk)])) rfl rfl (hb hby d33_3)
  refine Dn.of st541 ?_
  show Dn p e below s _ _ _ (T541.setTop (mkF m 6 #[(vA a), (vA pk), (vI f), (vI j), .unset, .unset] [(.ref bw), (.int f), (.ref pk)]))
  refine Dn.of (fun tt_ zz_ => XS.iloadN X541.here hx rfl (hb hby d33_6) rfl zz_) ?_
  show Dn p e below s _ _ _ (T541.setTop (mkF m 7 #[(vA a), (vA pk), (vI f), (vI j), .unset, .unset] [(.int j), (.ref bw), (.int f), (.ref pk)]))
  have Rr542 := RW
  obtain ⟨d542, B_542, _, Sd542, _, Hd542, _⟩ := Rr542
  refine Dn.of (fun tt_ zz_ => X541.iaload hx (j := j) (v := (.int wi)) (by rw [e541]; exact B_542.1) (State.isArrayOf_alike hZ.alike B_542.2.1) B_542.2.2 (inb_of Sd542 hj) (atH Hd542 (inb_of Sd542 hj) e1) (g := (mkF m 7 #[(vA a), (vA pk), (vI f), (vI j), .unset, .unset] [(.int j), (.ref bw), (.int f), (.ref pk)])) rfl rfl (hb hby d33_7) tt_ zz_) ?_
  show Dn p e below s _ _ _ (T541.setTop (mkF m 8 #[(vA a), (vA pk), (vI f), (vI j), .unset, .unset] [(.int wi), (.int f), (.ref pk)]))
  refine Dn.of (fun tt_ zz_ => XS.iadd X541.here hx rfl (hb hby d33_8) rfl zz_) ?_
  show Dn p e below s _ _ _ (T541.setTop (mkF m 9 #[(vA a), (vA pk), (vI f), (vI j), .unset, .unset] [(.int (f + wi)), (.ref pk)]))
  have Rr543 := RP
  obtain ⟨d543, B_543, _, Sd543, _, Hd543, _⟩ := Rr543
  refine Dn.of (fun tt_ zz_ => X541.laload hx (j := (f + wi)) (v := (.long Wi)) (by rw [e541]; exact B_543.1) (State.isArrayOf_alike hZ.alike B_543.2.1) B_543.2.2 (inb_of Sd543 hf) (atH Hd543 (inb_of Sd543 hf) e5) (g := (mkF m 9 #[(vA a), (vA pk), (vI f), (vI j), .unset, .unset] [(.int (f + wi)), (.ref pk)])) rfl rfl (hb hby d33_9) tt_ zz_) ?_
  show Dn p e below s _ _ _ (T541.setTop (mkF m 10 #[(vA a), (vA pk), (vI f), (vI j), .unset, .unset] [(.long Wi)]))
  refine Dn.of (fun tt_ zz_ => XS.aloadN X541.here hx rfl (hb hby d33_10) rfl rfl zz_) ?_
  show Dn p e below s _ _ _ (T541.setTop (mkF m 11 #[(vA a), (vA pk), (vI f), (vI j), .unset, .unset] [(.ref a), (.long Wi)]))
  obtain ⟨T544, X544, e544, st544⟩ := getF X541 hx hZ hown (host := "") (Or.inl (hg 144 rfl)) Via.refl e541 G1 (g := (mkF m 11 #[(vA a), (vA pk), (vI f), (vI j), .unset, .unset] [(.ref a), (.long Wi)])) rfl rfl (hb hby d33_11)
  refine Dn.of st544 ?_
  show Dn p e below s _ _ _ (T544.setTop (mkF m 14 #[(vA a), (vA pk), (vI f), (vI j), .unset, .unset] [(.ref bs), (.long Wi)]))
  refine Dn.of (fun tt_ zz_ => XS.iloadN X544.here hx rfl (hb hby d33_14) rfl zz_) ?_
  show Dn p e below s _ _ _ (T544.setTop (mkF m 15 #[(vA a), (vA pk), (vI f), (vI j), .unset, .unset] [(.int j), (.ref bs), (.long Wi)]))
  have Rr545 := RS
  obtain ⟨d545, B_545, _, Sd545, _, Hd545, _⟩ := Rr545
  refine Dn.of (fun tt_ zz_ => X544.iaload hx (j := j) (v := (.int si)) (by rw [e544]; exact B_545.1) (State.isArrayOf_alike hZ.alike B_545.2.1) B_545.2.2 (inb_of Sd545 hj) (atH Hd545 (inb_of Sd545 hj) e2) (g := (mkF m 15 #[(vA a), (vA pk), (vI f), (vI j), .unset, .unset] [(.int j), (.ref bs), (.long Wi)])) rfl rfl (hb hby d33_15) tt_ zz_) ?_
  show Dn p e below s _ _ _ (T544.setTop (mkF m 16 #[(vA a), (vA pk), (vI f), (vI j), .unset, .unset] [(.int si), (.long Wi)]))
  refine Dn.of (fun tt_ zz_ => XS.lushr X544.here hx rfl (hb hby d33_16) rfl zz_) ?_
  refine Dn.of (fun tt_ zz_ => XS.aloadN X544.here hx rfl (hb hby d33_17) rfl rfl zz_) ?_
  show Dn p e below s _ _ _ (T544.setTop (mkF m 18 #[(vA a), (vA pk), (vI f), (vI j), .unset, .unset] [(.ref a), (.long ((Wi.toUInt64 >>> (si &&& 0x3f).toInt64.toUInt64).toInt64))]))
  obtain ⟨T546, X546, e546, st546⟩ := getF X544 hx hZ hown (host := "") (Or.inl (hg 147 rfl)) Via.refl e544 G2 (g := (mkF m 18 #[(vA a), (vA pk), (vI f), (vI j), .unset, .unset] [(.ref a), (.long ((Wi.toUInt64 >>> (si &&& 0x3f).toInt64.toUInt64).toInt64))])) rfl rfl (hb hby d33_18)
  refine Dn.of st546 ?_
  show Dn p e below s _ _ _ (T546.setTop (mkF m 21 #[(vA a), (vA pk), (vI f), (vI j), .unset, .unset] [(.ref bm), (.long ((Wi.toUInt64 >>> (si &&& 0x3f).toInt64.toUInt64).toInt64))]))
  refine Dn.of (fun tt_ zz_ => XS.iloadN X546.here hx rfl (hb hby d33_21) rfl zz_) ?_
  show Dn p e below s _ _ _ (T546.setTop (mkF m 22 #[(vA a), (vA pk), (vI f), (vI j), .unset, .unset] [(.int j), (.ref bm), (.long ((Wi.toUInt64 >>> (si &&& 0x3f).toInt64.toUInt64).toInt64))]))
  have Rr547 := RM
  obtain ⟨d547, B_547, _, Sd547, _, Hd547, _⟩ := Rr547
  refine Dn.of (fun tt_ zz_ => X546.laload hx (j := j) (v := (.long mi)) (by rw [e546]; exact B_547.1) (State.isArrayOf_alike hZ.alike B_547.2.1) B_547.2.2 (inb_of Sd547 hj) (atH Hd547 (inb_of Sd547 hj) e3) (g := (mkF m 22 #[(vA a), (vA pk), (vI f), (vI j), .unset, .unset] [(.int j), (.ref bm), (.long ((Wi.toUInt64 >>> (si &&& 0x3f).toInt64.toUInt64).toInt64))])) rfl rfl (hb hby d33_22) tt_ zz_) ?_
  show Dn p e below s _ _ _ (T546.setTop (mkF m 23 #[(vA a), (vA pk), (vI f), (vI j), .unset, .unset] [(.long mi), (.long ((Wi.toUInt64 >>> (si &&& 0x3f).toInt64.toUInt64).toInt64))]))
  refine Dn.of (fun tt_ zz_ => XS.land X546.here hx rfl (hb hby d33_23) rfl zz_) ?_
  refine Dn.of (fun tt_ zz_ => XS.lstore X546.here hx rfl (hb hby d33_24) rfl (l' := #[(vA a), (vA pk), (vI f), (vI j), (vJ (((Wi.toUInt64 >>> (si &&& 0x3f).toInt64.toUInt64).toInt64) &&& mi)), .second]) rfl zz_) ?_
  refine Dn.of (fun tt_ zz_ => XS.lload X546.here hx rfl (hb hby d33_26) rfl zz_) ?_
  refine Dn.of (fun tt_ zz_ => XS.l2i X546.here hx rfl (hb hby d33_28) rfl zz_) ?_
  show Dn p e below s _ _ _ (T546.setTop (mkF m 29 #[(vA a), (vA pk), (vI f), (vI j), (vJ (((Wi.toUInt64 >>> (si &&& 0x3f).toInt64.toUInt64).toInt64) &&& mi)), .second] [(.int ((((Wi.toUInt64 >>> (si &&& 0x3f).toInt64.toUInt64).toInt64) &&& mi).toInt32))]))
  refine Dn.of (fun tt_ zz_ => XS.aloadN X546.here hx rfl (hb hby d33_29) rfl rfl zz_) ?_
  show Dn p e below s _ _ _ (T546.setTop (mkF m 30 #[(vA a), (vA pk), (vI f), (vI j), (vJ (((Wi.toUInt64 >>> (si &&& 0x3f).toInt64.toUInt64).toInt64) &&& mi)), .second] [(.ref a), (.int ((((Wi.toUInt64 >>> (si &&& 0x3f).toInt64.toUInt64).toInt64) &&& mi).toInt32))]))
  obtain ⟨T548, X548, e548, st548⟩ := getF X546 hx hZ hown (host := "") (Or.inl (hg 149 rfl)) Via.refl e546 G3 (g := (mkF m 30 #[(vA a), (vA pk), (vI f), (vI j), (vJ (((Wi.toUInt64 >>> (si &&& 0x3f).toInt64.toUInt64).toInt64) &&& mi)), .second] [(.ref a), (.int ((((Wi.toUInt64 >>> (si &&& 0x3f).toInt64.toUInt64).toInt64) &&& mi).toInt32))])) rfl rfl (hb hby d33_30)
  refine Dn.of st548 ?_
  show Dn p e below s _ _ _ (T548.setTop (mkF m 33 #[(vA a), (vA pk), (vI f), (vI j), (vJ (((Wi.toUInt64 >>> (si &&& 0x3f).toInt64.toUInt64).toInt64) &&& mi)), .second] [(.ref bl), (.int ((((Wi.toUInt64 >>> (si &&& 0x3f).toInt64.toUInt64).toInt64) &&& mi).toInt32))]))
  refine Dn.of (fun tt_ zz_ => XS.iloadN X548.here hx rfl (hb hby d33_33) rfl zz_) ?_
  show Dn p e below s _ _ _ (T548.setTop (mkF m 34 #[(vA a), (vA pk), (vI f), (vI j), (vJ (((Wi.toUInt64 >>> (si &&& 0x3f).toInt64.toUInt64).toInt64) &&& mi)), .second] [(.int j), (.ref bl), (.int ((((Wi.toUInt64 >>> (si &&& 0x3f).toInt64.toUInt64).toInt64) &&& mi).toInt32))]))
  have Rr549 := RL
  obtain ⟨d549, B_549, _, Sd549, _, Hd549, _⟩ := Rr549
  refine Dn.of (fun tt_ zz_ => X548.iaload hx (j := j) (v := (.int li)) (by rw [e548]; exact B_549.1) (State.isArrayOf_alike hZ.alike B_549.2.1) B_549.2.2 (inb_of Sd549 hj) (atH Hd549 (inb_of Sd549 hj) e4) (g := (mkF m 34 #[(vA a), (vA pk), (vI f), (vI j), (vJ (((Wi.toUInt64 >>> (si &&& 0x3f).toInt64.toUInt64).toInt64) &&& mi)), .second] [(.int j), (.ref bl), (.int ((((Wi.toUInt64 >>> (si &&& 0x3f).toInt64.toUInt64).toInt64) &&& mi).toInt32))])) rfl rfl (hb hby d33_34) tt_ zz_) ?_
  show Dn p e below s _ _ _ (T548.setTop (mkF m 35 #[(vA a), (vA pk), (vI f), (vI j), (vJ (((Wi.toUInt64 >>> (si &&& 0x3f).toInt64.toUInt64).toInt64) &&& mi)), .second] [(.int li), (.int ((((Wi.toUInt64 >>> (si &&& 0x3f).toInt64.toUInt64).toInt64) &&& mi).toInt32))]))
  refine Dn.of (fun tt_ zz_ => XS.iadd X548.here hx rfl (hb hby d33_35) rfl zz_) ?_
  show Dn p e below s _ _ _ (T548.setTop (mkF m 36 #[(vA a), (vA pk), (vI f), (vI j), (vJ (((Wi.toUInt64 >>> (si &&& 0x3f).toInt64.toUInt64).toInt64) &&& mi)), .second] [(.int (((((Wi.toUInt64 >>> (si &&& 0x3f).toInt64.toUInt64).toInt64) &&& mi).toInt32) + li))]))
  exact Dn.retI X548 hx hlk hret (hb hby d33_36) (by decide) (by decide) (⟨rfl, N0, e548⟩)
def own_Q (n0 : Nat) (v : Option Value) (h : Heap) (L : List Loc) : Prop := v = some (.int 1) ∧ Fr n0 L
theorem ef0_JJJJII (m : MethodId) (x0 : Int64) (x1 : Int64) (x2 : Int64) (x3 : Int64) (x4 : Int32) (x5 : Int32) : entryFrame m #[(.long x0), (.long x1), (.long x2), (.long x3), (.int x4), (.int x5)] maxLocals = mkF m 0 #[(vJ x0), .second, (vJ x1), .second, (vJ x2), .second, (vJ x3), .second, (vI x4), (vI x5), .unset, .unset, .unset, .unset, .unset, .unset, .unset, .unset, .unset, .unset, .unset, .unset, .unset, .unset, .unset, .unset, .unset, .unset] [] := by first | (simp [entryFrame, mkF, argsToLocals, Value.category, maxLocals]; done) | rfl
set_option maxRecDepth 65536 in
set_option maxHeartbeats 40000000 in
theorem rm0 (l : Launch) (Z : State) (a0 : Array Value) (hw : ∀ d ∈ tables_1, d.before a0 Z = true) (ws : List Jvm.Cond) (h0 : Heap) (n0 : Nat) (Z0 : n0 ≤ h0.size) (i0 i1 i2 i3 : Int64) (i4 i5 : Int32) (aD : Addr) (lD : Cell) (SD : Sta Z Z.heap "java/util/ArrayList" "DEFAULTCAPACITY_EMPTY_ELEMENTDATA" "[Ljava/lang/Object;" (.ref aD)) (RD : Arr Z Z.heap aD lD (.object "java/lang/Object")) (zD : lD.slots.size = 0) (a_INT a_ZERO a_DOUBLE a_BOOL : Addr) (S_INT : Sta Z Z.heap "com/example/verify_markov_chains/verifymarkovchains/expression/Type" "INT" "Lcom/example/verify_markov_chains/verifymarkovchains/expression/Type;" (.ref a_INT)) (E_INT : Exa Z Z.heap a_INT "com/example/verify_markov_chains/verifymarkovchains/expression/Type") (S_ZERO : Sta Z Z.heap "com/example/verify_markov_chains/verifymarkovchains/numeric/Rational" "ZERO" "Lcom/example/verify_markov_chains/verifymarkovchains/numeric/Rational;" (.ref a_ZERO)) (E_ZERO : Exa Z Z.heap a_ZERO "com/example/verify_markov_chains/verifymarkovchains/numeric/Rational") (S_DOUBLE : Sta Z Z.heap "com/example/verify_markov_chains/verifymarkovchains/expression/Type" "DOUBLE" "Lcom/example/verify_markov_chains/verifymarkovchains/expression/Type;" (.ref a_DOUBLE)) (E_DOUBLE : Exa Z Z.heap a_DOUBLE "com/example/verify_markov_chains/verifymarkovchains/expression/Type") (F_INT_ordinal : Fld Z Z.heap a_INT "java/lang/Enum" "ordinal" "I" (.int (1 : Int32))) (F_DOUBLE_ordinal : Fld Z Z.heap a_DOUBLE "java/lang/Enum" "ordinal" "I" (.int (2 : Int32))) (S_BOOL : Sta Z Z.heap "com/example/verify_markov_chains/verifymarkovchains/expression/Type" "BOOL" "Lcom/example/verify_markov_chains/verifymarkovchains/expression/Type;" (.ref a_BOOL)) (E_BOOL : Exa Z Z.heap a_BOOL "com/example/verify_markov_chains/verifymarkovchains/expression/Type") (F_BOOL_ordinal : Fld Z Z.heap a_BOOL "java/lang/Enum" "ordinal" "I" (.int (0 : Int32))) (O0 : Old Z n0 h0) :
    ctrW l Z x code maxLocals ret ws room_1 40 3328 #[(.long i0), (.long i1), (.long i2), (.long i3), (.int i4), (.int i5)] h0 (own_Q n0) := by
  refine ctrW_of (plainFor_of_name pn0) ?_
  intro p e s m below meth jc s₁ hx hby hml hret hlk hnm hown hZ e0 hS X0
  have hk := Nat.le_refl h0.size
  have N0 := Fr.nil n0
  have hg : ∀ (i : Nat) {d : Jvm.Cond}, tables_1[i]? = some d → d.before a0 Z = true := fun i d q => hw d (List.mem_of_getElem? q)
  refine DnW.cast (ef0_JJJJII m i0 i1 i2 i3 i4 i5) ?_
  show DnW p e below s _ _ _ (s₁.setTop (mkF m 0 #[(vJ i0), .second, (vJ i1), .second, (vJ i2), .second, (vJ i3), .second, (vI i4), (vI i5), .unset, .unset, .unset, .unset, .unset, .unset, .unset, .unset, .unset, .unset, .unset, .unset, .unset, .unset, .unset, .unset, .unset, .unset] []))
  have nID : a_INT ≠ a_DOUBLE := Fld.ne F_INT_ordinal F_DOUBLE_ordinal (by decide)
  have nBD : a_BOOL ≠ a_DOUBLE := Fld.ne F_BOOL_ordinal F_DOUBLE_ordinal (by decide)
  refine DnW.of (fun tt_ zz_ => XS.lloadN X0.here hx rfl (hb hby at_0) rfl zz_) ?_
  show DnW p e below s (own_Q n0) 40 3328 (s₁.setTop (mkF m 1 #[(vJ i0), .second, (vJ i1), .second, (vJ i2), .second, (vJ i3), .second, (vI i4), (vI i5), .unset, .unset, .unset, .unset, .unset, .unset, .unset, .unset, .unset, .unset, .unset, .unset, .unset, .unset, .unset, .unset, .unset, .unset] [(.long i0)]))
  obtain ⟨v550, T550, L550, Q550, X550, st550⟩ := cSt X0 hx hZ (y := (⟨"com/example/verify_markov_chains/verifymarkovchains/explicit/StateLayoutValuePinLaw", "lowOf", "(J)I"⟩ : MethodName)) hown (hg 0 rfl) (hg 1 rfl) (hg 2 rfl) (hg 3 rfl) (by decide) (argsL := [(.long i0)]) (rest := []) (rm_lowOf l Z a0 hw h0 n0 Z0 i0) e0  0 (by decide) (by decide) (by decide) (by decide) (g := (mkF m 1 #[(vJ i0), .second, (vJ i1), .second, (vJ i2), .second, (vJ i3), .second, (vI i4), (vI i5), .unset, .unset, .unset, .unset, .unset, .unset, .unset, .unset, .unset, .unset, .unset, .unset, .unset, .unset, .unset, .unset, .unset, .unset] [(.long i0)])) rfl (by rw [hml]; rfl) (lenOf pd12 rfl) rfl (by show 2 * 0 + _ ≤ _; exact Nat.le_of_eq rfl) (hb hby at_1)
  obtain ⟨rfl, Ms0, e550⟩ := Q550
  refine DnW.of st550 ?_
  show DnW p e below s (own_Q n0) 40 3328 (T550.setTop (mkF m 4 #[(vJ i0), .second, (vJ i1), .second, (vJ i2), .second, (vJ i3), .second, (vI i4), (vI i5), .unset, .unset, .unset, .unset, .unset, .unset, .unset, .unset, .unset, .unset, .unset, .unset, .unset, .unset, .unset, .unset, .unset, .unset] [(.int (own_min i0.toInt32 (own_hw i0)))]))
  refine DnW.of (fun tt_ zz_ => XS.istore X550.here hx rfl (hb hby at_4) rfl (l' := #[(vJ i0), .second, (vJ i1), .second, (vJ i2), .second, (vJ i3), .second, (vI i4), (vI i5), (vI (own_min i0.toInt32 (own_hw i0))), .unset, .unset, .unset, .unset, .unset, .unset, .unset, .unset, .unset, .unset, .unset, .unset, .unset, .unset, .unset, .unset, .unset]) rfl zz_) ?_
  refine DnW.of (fun tt_ zz_ => XS.lloadN X550.here hx rfl (hb hby at_6) rfl zz_) ?_
  show DnW p e below s (own_Q n0) 40 3328 (T550.setTop (mkF m 7 #[(vJ i0), .second, (vJ i1), .second, (vJ i2), .second, (vJ i3), .second, (vI i4), (vI i5), (vI (own_min i0.toInt32 (own_hw i0))), .unset, .unset, .unset, .unset, .unset, .unset, .unset, .unset, .unset, .unset, .unset, .unset, .unset, .unset, .unset, .unset, .unset] [(.long i0)]))
  obtain ⟨v551, T551, L551, Q551, X551, st551⟩ := cSt X550 hx hZ (y := (⟨"com/example/verify_markov_chains/verifymarkovchains/explicit/StateLayoutValuePinLaw", "highOf", "(J)I"⟩ : MethodName)) hown (hg 8 rfl) (hg 9 rfl) (hg 2 rfl) (hg 10 rfl) (by decide) (argsL := [(.long i0)]) (rest := []) (rm_highOf l Z a0 hw h0 n0 Z0 i0) e550  0 (by decide) (by decide) (by decide) (by decide) (g := (mkF m 7 #[(vJ i0), .second, (vJ i1), .second, (vJ i2), .second, (vJ i3), .second, (vI i4), (vI i5), (vI (own_min i0.toInt32 (own_hw i0))), .unset, .unset, .unset, .unset, .unset, .unset, .unset, .unset, .unset, .unset, .unset, .unset, .unset, .unset, .unset, .unset, .unset] [(.long i0)])) rfl (by rw [hml]; rfl) (lenOf pd12 rfl) rfl (by show 2 * 0 + _ ≤ _; exact Nat.le_of_eq rfl) (hb hby at_7)
  obtain ⟨rfl, Ms1, e551⟩ := Q551
  refine DnW.of st551 ?_
  show DnW p e below s (own_Q n0) 40 3328 (T551.setTop (mkF m 10 #[(vJ i0), .second, (vJ i1), .second, (vJ i2), .second, (vJ i3), .second, (vI i4), (vI i5), (vI (own_min i0.toInt32 (own_hw i0))), .unset, .unset, .unset, .unset, .unset, .unset, .unset, .unset, .unset, .unset, .unset, .unset, .unset, .unset, .unset, .unset, .unset] [(.int (own_max i0.toInt32 (own_hw i0)))]))
  refine DnW.of (fun tt_ zz_ => XS.istore X551.here hx rfl (hb hby at_10) rfl (l' := #[(vJ i0), .second, (vJ i1), .second, (vJ i2), .second, (vJ i3), .second, (vI i4), (vI i5), (vI (own_min i0.toInt32 (own_hw i0))), (vI (own_max i0.toInt32 (own_hw i0))), .unset, .unset, .unset, .unset, .unset, .unset, .unset, .unset, .unset, .unset, .unset, .unset, .unset, .unset, .unset, .unset]) rfl zz_) ?_
  refine DnW.of (fun tt_ zz_ => XS.lload X551.here hx rfl (hb hby at_12) rfl zz_) ?_
  show DnW p e below s (own_Q n0) 40 3328 (T551.setTop (mkF m 14 #[(vJ i0), .second, (vJ i1), .second, (vJ i2), .second, (vJ i3), .second, (vI i4), (vI i5), (vI (own_min i0.toInt32 (own_hw i0))), (vI (own_max i0.toInt32 (own_hw i0))), .unset, .unset, .unset, .unset, .unset, .unset, .unset, .unset, .unset, .unset, .unset, .unset, .unset, .unset, .unset, .unset] [(.long i2)]))
  obtain ⟨v552, T552, L552, Q552, X552, st552⟩ := cSt X551 hx hZ (y := (⟨"com/example/verify_markov_chains/verifymarkovchains/explicit/StateLayoutValuePinLaw", "lowOf", "(J)I"⟩ : MethodName)) hown (hg 0 rfl) (hg 1 rfl) (hg 2 rfl) (hg 3 rfl) (by decide) (argsL := [(.long i2)]) (rest := []) (rm_lowOf l Z a0 hw h0 n0 Z0 i2) e551  0 (by decide) (by decide) (by decide) (by decide) (g := (mkF m 14 #[(vJ i0), .second, (vJ i1), .second, (vJ i2), .second, (vJ i3), .second, (vI i4), (vI i5), (vI (own_min i0.toInt32 (own_hw i0))), (vI (own_max i0.toInt32 (own_hw i0))), .unset, .unset, .unset, .unset, .unset, .unset, .unset, .unset, .unset, .unset, .unset, .unset, .unset, .unset, .unset, .unset] [(.long i2)])) rfl (by rw [hml]; rfl) (lenOf pd12 rfl) rfl (by show 2 * 0 + _ ≤ _; exact Nat.le_of_eq rfl) (hb hby at_14)
  obtain ⟨rfl, Ms2, e552⟩ := Q552
  refine DnW.of st552 ?_
  show DnW p e below s (own_Q n0) 40 3328 (T552.setTop (mkF m 17 #[(vJ i0), .second, (vJ i1), .second, (vJ i2), .second, (vJ i3), .second, (vI i4), (vI i5), (vI (own_min i0.toInt32 (own_hw i0))), (vI (own_max i0.toInt32 (own_hw i0))), .unset, .unset, .unset, .unset, .unset, .unset, .unset, .unset, .unset, .unset, .unset, .unset, .unset, .unset, .unset, .unset] [(.int (own_min i2.toInt32 (own_hw i2)))]))
  refine DnW.of (fun tt_ zz_ => XS.istore X552.here hx rfl (hb hby at_17) rfl (l' := #[(vJ i0), .second, (vJ i1), .second, (vJ i2), .second, (vJ i3), .second, (vI i4), (vI i5), (vI (own_min i0.toInt32 (own_hw i0))), (vI (own_max i0.toInt32 (own_hw i0))), (vI (own_min i2.toInt32 (own_hw i2))), .unset, .unset, .unset, .unset, .unset, .unset, .unset, .unset, .unset, .unset, .unset, .unset, .unset, .unset, .unset]) rfl zz_) ?_
  refine DnW.of (fun tt_ zz_ => XS.lload X552.here hx rfl (hb hby at_19) rfl zz_) ?_
  show DnW p e below s (own_Q n0) 40 3328 (T552.setTop (mkF m 21 #[(vJ i0), .second, (vJ i1), .second, (vJ i2), .second, (vJ i3), .second, (vI i4), (vI i5), (vI (own_min i0.toInt32 (own_hw i0))), (vI (own_max i0.toInt32 (own_hw i0))), (vI (own_min i2.toInt32 (own_hw i2))), .unset, .unset, .unset, .unset, .unset, .unset, .unset, .unset, .unset, .unset, .unset, .unset, .unset, .unset, .unset] [(.long i2)]))
  obtain ⟨v553, T553, L553, Q553, X553, st553⟩ := cSt X552 hx hZ (y := (⟨"com/example/verify_markov_chains/verifymarkovchains/explicit/StateLayoutValuePinLaw", "highOf", "(J)I"⟩ : MethodName)) hown (hg 8 rfl) (hg 9 rfl) (hg 2 rfl) (hg 10 rfl) (by decide) (argsL := [(.long i2)]) (rest := []) (rm_highOf l Z a0 hw h0 n0 Z0 i2) e552  0 (by decide) (by decide) (by decide) (by decide) (g := (mkF m 21 #[(vJ i0), .second, (vJ i1), .second, (vJ i2), .second, (vJ i3), .second, (vI i4), (vI i5), (vI (own_min i0.toInt32 (own_hw i0))), (vI (own_max i0.toInt32 (own_hw i0))), (vI (own_min i2.toInt32 (own_hw i2))), .unset, .unset, .unset, .unset, .unset, .unset, .unset, .unset, .unset, .unset, .unset, .unset, .unset, .unset, .unset] [(.long i2)])) rfl (by rw [hml]; rfl) (lenOf pd12 rfl) rfl (by show 2 * 0 + _ ≤ _; exact Nat.le_of_eq rfl) (hb hby at_21)
  obtain ⟨rfl, Ms3, e553⟩ := Q553
  refine DnW.of st553 ?_
  show DnW p e below s (own_Q n0) 40 3328 (T553.setTop (mkF m 24 #[(vJ i0), .second, (vJ i1), .second, (vJ i2), .second, (vJ i3), .second, (vI i4), (vI i5), (vI (own_min i0.toInt32 (own_hw i0))), (vI (own_max i0.toInt32 (own_hw i0))), (vI (own_min i2.toInt32 (own_hw i2))), .unset, .unset, .unset, .unset, .unset, .unset, .unset, .unset, .unset, .unset, .unset, .unset, .unset, .unset, .unset] [(.int (own_max i2.toInt32 (own_hw i2)))]))
  refine DnW.of (fun tt_ zz_ => XS.istore X553.here hx rfl (hb hby at_24) rfl (l' := #[(vJ i0), .second, (vJ i1), .second, (vJ i2), .second, (vJ i3), .second, (vI i4), (vI i5), (vI (own_min i0.toInt32 (own_hw i0))), (vI (own_max i0.toInt32 (own_hw i0))), (vI (own_min i2.toInt32 (own_hw i2))), (vI (own_max i2.toInt32 (own_hw i2))), .unset, .unset, .unset, .unset, .unset, .unset, .unset, .unset, .unset, .unset, .unset, .unset, .unset, .unset]) rfl zz_) ?_
  refine DnW.of (fun tt_ zz_ => XS.iload X553.here hx rfl (hb hby at_26) rfl zz_) ?_
  refine DnW.of (fun tt_ zz_ => XS.iload X553.here hx rfl (hb hby at_28) rfl zz_) ?_
  refine DnW.of (fun tt_ zz_ => XS.lloadN X553.here hx rfl (hb hby at_30) rfl zz_) ?_
  show DnW p e below s (own_Q n0) 40 3328 (T553.setTop (mkF m 31 #[(vJ i0), .second, (vJ i1), .second, (vJ i2), .second, (vJ i3), .second, (vI i4), (vI i5), (vI (own_min i0.toInt32 (own_hw i0))), (vI (own_max i0.toInt32 (own_hw i0))), (vI (own_min i2.toInt32 (own_hw i2))), (vI (own_max i2.toInt32 (own_hw i2))), .unset, .unset, .unset, .unset, .unset, .unset, .unset, .unset, .unset, .unset, .unset, .unset, .unset, .unset] [(.long i1), (.int (own_max i0.toInt32 (own_hw i0))), (.int (own_min i0.toInt32 (own_hw i0)))]))
  have le0 := own_mm i0.toInt32 (own_hw i0)
  generalize own_min i0.toInt32 (own_hw i0) = lo0 at le0 ⊢
  generalize own_max i0.toInt32 (own_hw i0) = hi0 at le0 ⊢
  have le1 := own_mm i2.toInt32 (own_hw i2)
  generalize own_min i2.toInt32 (own_hw i2) = lo1 at le1 ⊢
  generalize own_max i2.toInt32 (own_hw i2) = hi1 at le1 ⊢
  show DnW p e below s (own_Q n0) 40 3328 (T553.setTop (mkF m 31 #[(vJ i0), .second, (vJ i1), .second, (vJ i2), .second, (vJ i3), .second, (vI i4), (vI i5), (vI lo0), (vI hi0), (vI lo1), (vI hi1), .unset, .unset, .unset, .unset, .unset, .unset, .unset, .unset, .unset, .unset, .unset, .unset, .unset, .unset] [(.long i1), (.int hi0), (.int lo0)]))
  obtain ⟨v554, T554, L554, Q554, X554, st554⟩ := cSt X553 hx hZ (y := (⟨"com/example/verify_markov_chains/verifymarkovchains/explicit/StateLayoutValuePinLaw", "within", "(IIJ)I"⟩ : MethodName)) hown (hg 14 rfl) (hg 15 rfl) (hg 2 rfl) (hg 16 rfl) (by decide) (argsL := [(.int lo0), (.int hi0), (.long i1)]) (rest := []) (rm_within l Z a0 hw h0 n0 Z0 lo0 hi0 i1 le0) e553  0 (by decide) (by decide) (by decide) (by decide) (g := (mkF m 31 #[(vJ i0), .second, (vJ i1), .second, (vJ i2), .second, (vJ i3), .second, (vI i4), (vI i5), (vI lo0), (vI hi0), (vI lo1), (vI hi1), .unset, .unset, .unset, .unset, .unset, .unset, .unset, .unset, .unset, .unset, .unset, .unset, .unset, .unset] [(.long i1), (.int hi0), (.int lo0)])) rfl (by rw [hml]; rfl) (lenOf pd16 rfl) rfl (by show 2 * 0 + _ ≤ _; exact Nat.le_of_eq rfl) (hb hby at_31)
  obtain ⟨⟨v0, rfl, r0⟩, Ms4, e554⟩ := Q554
  refine DnW.of st554 ?_
  show DnW p e below s (own_Q n0) 40 3328 (T554.setTop (mkF m 34 #[(vJ i0), .second, (vJ i1), .second, (vJ i2), .second, (vJ i3), .second, (vI i4), (vI i5), (vI lo0), (vI hi0), (vI lo1), (vI hi1), .unset, .unset, .unset, .unset, .unset, .unset, .unset, .unset, .unset, .unset, .unset, .unset, .unset, .unset] [(.int v0)]))
  refine DnW.of (fun tt_ zz_ => XS.istore X554.here hx rfl (hb hby at_34) rfl (l' := #[(vJ i0), .second, (vJ i1), .second, (vJ i2), .second, (vJ i3), .second, (vI i4), (vI i5), (vI lo0), (vI hi0), (vI lo1), (vI hi1), (vI v0), .unset, .unset, .unset, .unset, .unset, .unset, .unset, .unset, .unset, .unset, .unset, .unset, .unset]) rfl zz_) ?_
  refine DnW.of (fun tt_ zz_ => XS.iload X554.here hx rfl (hb hby at_36) rfl zz_) ?_
  refine DnW.of (fun tt_ zz_ => XS.iload X554.here hx rfl (hb hby at_38) rfl zz_) ?_
  refine DnW.of (fun tt_ zz_ => XS.lload X554.here hx rfl (hb hby at_40) rfl zz_) ?_
  show DnW p e below s (own_Q n0) 40 3328 (T554.setTop (mkF m 42 #[(vJ i0), .second, (vJ i1), .second, (vJ i2), .second, (vJ i3), .second, (vI i4), (vI i5), (vI lo0), (vI hi0), (vI lo1), (vI hi1), (vI v0), .unset, .unset, .unset, .unset, .unset, .unset, .unset, .unset, .unset, .unset, .unset, .unset, .unset] [(.long i3), (.int hi1), (.int lo1)]))
  obtain ⟨v555, T555, L555, Q555, X555, st555⟩ := cSt X554 hx hZ (y := (⟨"com/example/verify_markov_chains/verifymarkovchains/explicit/StateLayoutValuePinLaw", "within", "(IIJ)I"⟩ : MethodName)) hown (hg 14 rfl) (hg 15 rfl) (hg 2 rfl) (hg 16 rfl) (by decide) (argsL := [(.int lo1), (.int hi1), (.long i3)]) (rest := []) (rm_within l Z a0 hw h0 n0 Z0 lo1 hi1 i3 le1) e554  0 (by decide) (by decide) (by decide) (by decide) (g := (mkF m 42 #[(vJ i0), .second, (vJ i1), .second, (vJ i2), .second, (vJ i3), .second, (vI i4), (vI i5), (vI lo0), (vI hi0), (vI lo1), (vI hi1), (vI v0), .unset, .unset, .unset, .unset, .unset, .unset, .unset, .unset, .unset, .unset, .unset, .unset, .unset] [(.long i3), (.int hi1), (.int lo1)])) rfl (by rw [hml]; rfl) (lenOf pd16 rfl) rfl (by show 2 * 0 + _ ≤ _; exact Nat.le_of_eq rfl) (hb hby at_42)
  obtain ⟨⟨v1, rfl, r1⟩, Ms5, e555⟩ := Q555
  refine DnW.of st555 ?_
  show DnW p e below s (own_Q n0) 40 3328 (T555.setTop (mkF m 45 #[(vJ i0), .second, (vJ i1), .second, (vJ i2), .second, (vJ i3), .second, (vI i4), (vI i5), (vI lo0), (vI hi0), (vI lo1), (vI hi1), (vI v0), .unset, .unset, .unset, .unset, .unset, .unset, .unset, .unset, .unset, .unset, .unset, .unset, .unset] [(.int v1)]))
  refine DnW.of (fun tt_ zz_ => XS.istore X555.here hx rfl (hb hby at_45) rfl (l' := #[(vJ i0), .second, (vJ i1), .second, (vJ i2), .second, (vJ i3), .second, (vI i4), (vI i5), (vI lo0), (vI hi0), (vI lo1), (vI hi1), (vI v0), (vI v1), .unset, .unset, .unset, .unset, .unset, .unset, .unset, .unset, .unset, .unset, .unset, .unset]) rfl zz_) ?_
  refine DnW.of (fun tt_ zz_ => XS.iload X555.here hx rfl (hb hby at_47) rfl zz_) ?_
  refine DnW.of (fun tt_ zz_ => XS.iconst X555.here hx rfl (hb hby at_49) zz_) ?_
  refine DnW.of (fun tt_ zz_ => XS.iand X555.here hx rfl (hb hby at_50) rfl zz_) ?_
  show DnW p e below s (own_Q n0) 40 3328 (T555.setTop (mkF m 51 #[(vJ i0), .second, (vJ i1), .second, (vJ i2), .second, (vJ i3), .second, (vI i4), (vI i5), (vI lo0), (vI hi0), (vI lo1), (vI hi1), (vI v0), (vI v1), .unset, .unset, .unset, .unset, .unset, .unset, .unset, .unset, .unset, .unset, .unset, .unset] [(.int (i4 &&& (1 : Int32)))]))
  have R0 : own_R v0 lo0 (own_S a_INT a_DOUBLE lo0 hi0) := by unfold own_R own_S; rw [if_neg nID]; omega
  have R1 : own_R v1 lo1 (own_S a_INT a_DOUBLE lo1 hi1) := by unfold own_R own_S; rw [if_neg nID]; omega
  have cf := c_and i5 3 (by decide)
  rw [show (3 : Int32).toInt = 3 by decide] at cf
  have cu := c_iushr i4 (1 : Int32) 1 (by decide) (by decide)
  rw [show ((2 ^ 1 : Nat) : Int) = 2 by rfl] at cu
  have cv := c_and ((i4.toUInt32 >>> ((1 : Int32) &&& 31).toUInt32).toInt32) (1 : Int32) (by decide)
  rw [show (1 : Int32).toInt = 1 by decide] at cv
  by_cases hreal : (i4 &&& (1 : Int32)) = (0 : Int32)
  · skip
    refine DnW.of (fun tt_ zz_ => XS.ifYes X555.here hx rfl (pc0 := 51) (pc' := 58) rfl (hb hby at_51) rfl ((if0 _ _).trans (teq hreal).1) (by decide) (by decide) zz_) ?_
    show DnW p e below s (own_Q n0) 40 3328 (T555.setTop (mkF m 58 #[(vJ i0), .second, (vJ i1), .second, (vJ i2), .second, (vJ i3), .second, (vI i4), (vI i5), (vI lo0), (vI hi0), (vI lo1), (vI hi1), (vI v0), (vI v1), .unset, .unset, .unset, .unset, .unset, .unset, .unset, .unset, .unset, .unset, .unset, .unset] []))
    refine DnW.of (fun tt_ zz_ => XS.iconst X555.here hx rfl (hb hby at_58) zz_) ?_
    refine DnW.of (fun tt_ zz_ => XS.istore X555.here hx rfl (hb hby at_59) rfl (l' := #[(vJ i0), .second, (vJ i1), .second, (vJ i2), .second, (vJ i3), .second, (vI i4), (vI i5), (vI lo0), (vI hi0), (vI lo1), (vI hi1), (vI v0), (vI v1), (vI (0 : Int32)), .unset, .unset, .unset, .unset, .unset, .unset, .unset, .unset, .unset, .unset, .unset]) rfl zz_) ?_
    refine DnW.of (fun tt_ zz_ => XS.iload X555.here hx rfl (hb hby at_61) rfl zz_) ?_
    show DnW p e below s (own_Q n0) 40 3328 (T555.setTop (mkF m 63 #[(vJ i0), .second, (vJ i1), .second, (vJ i2), .second, (vJ i3), .second, (vI i4), (vI i5), (vI lo0), (vI hi0), (vI lo1), (vI hi1), (vI v0), (vI v1), (vI (0 : Int32)), .unset, .unset, .unset, .unset, .unset, .unset, .unset, .unset, .unset, .unset, .unset] [(.int (0 : Int32))]))
    refine DnW.of (fun tt_ zz_ => XS.ifYes X555.here hx rfl (pc0 := 63) (pc' := 73) rfl (hb hby at_63) rfl ((if0 _ _).trans (teq rfl).1) (by decide) (by decide) zz_) ?_
    show DnW p e below s (own_Q n0) 40 3328 (T555.setTop (mkF m 73 #[(vJ i0), .second, (vJ i1), .second, (vJ i2), .second, (vJ i3), .second, (vI i4), (vI i5), (vI lo0), (vI hi0), (vI lo1), (vI hi1), (vI v0), (vI v1), (vI (0 : Int32)), .unset, .unset, .unset, .unset, .unset, .unset, .unset, .unset, .unset, .unset, .unset] []))
    refine DnW.of (fun tt_ zz_ => XS.iload X555.here hx rfl (hb hby at_73) rfl zz_) ?_
    refine DnW.of (fun tt_ zz_ => XS.iconst X555.here hx rfl (hb hby at_75) zz_) ?_
    refine DnW.of (fun tt_ zz_ => XS.iushr X555.here hx rfl (hb hby at_76) rfl zz_) ?_
    refine DnW.of (fun tt_ zz_ => XS.iconst X555.here hx rfl (hb hby at_77) zz_) ?_
    show DnW p e below s (own_Q n0) 40 3328 (T555.setTop (mkF m 78 #[(vJ i0), .second, (vJ i1), .second, (vJ i2), .second, (vJ i3), .second, (vI i4), (vI i5), (vI lo0), (vI hi0), (vI lo1), (vI hi1), (vI v0), (vI v1), (vI (0 : Int32)), .unset, .unset, .unset, .unset, .unset, .unset, .unset, .unset, .unset, .unset, .unset] [(.int (1 : Int32)), (.int ((i4.toUInt32 >>> ((1 : Int32) &&& 31).toUInt32).toInt32))]))
    refine DnW.of (fun tt_ zz_ => XS.iand X555.here hx rfl (hb hby at_78) rfl zz_) ?_
    refine DnW.of (fun tt_ zz_ => XS.istore X555.here hx rfl (hb hby at_79) rfl (l' := #[(vJ i0), .second, (vJ i1), .second, (vJ i2), .second, (vJ i3), .second, (vI i4), (vI i5), (vI lo0), (vI hi0), (vI lo1), (vI hi1), (vI v0), (vI v1), (vI (0 : Int32)), (vI (((i4.toUInt32 >>> ((1 : Int32) &&& 31).toUInt32).toInt32) &&& (1 : Int32))), .unset, .unset, .unset, .unset, .unset, .unset, .unset, .unset, .unset, .unset]) rfl zz_) ?_
    show DnW p e below s (own_Q n0) 40 3328 (T555.setTop (mkF m 81 #[(vJ i0), .second, (vJ i1), .second, (vJ i2), .second, (vJ i3), .second, (vI i4), (vI i5), (vI lo0), (vI hi0), (vI lo1), (vI hi1), (vI v0), (vI v1), (vI (0 : Int32)), (vI (((i4.toUInt32 >>> ((1 : Int32) &&& 31).toUInt32).toInt32) &&& (1 : Int32))), .unset, .unset, .unset, .unset, .unset, .unset, .unset, .unset, .unset, .unset] []))
    generalize hv2 : (((i4.toUInt32 >>> ((1 : Int32) &&& 31).toUInt32).toInt32) &&& (1 : Int32)) = v2 at *
    show DnW p e below s (own_Q n0) 40 3328 (T555.setTop (mkF m 81 #[(vJ i0), .second, (vJ i1), .second, (vJ i2), .second, (vJ i3), .second, (vI i4), (vI i5), (vI lo0), (vI hi0), (vI lo1), (vI hi1), (vI v0), (vI v1), (vI (0 : Int32)), (vI v2), .unset, .unset, .unset, .unset, .unset, .unset, .unset, .unset, .unset, .unset] []))
    have R2 : own_R v2 (0 : Int32) (own_S a_BOOL a_DOUBLE (0 : Int32) (1 : Int32)) := by unfold own_R own_S; rw [if_neg nBD, show (0 : Int32).toInt = 0 by decide, show (1 : Int32).toInt = 1 by decide]; omega
    have S2 : 1 ≤ own_S a_BOOL a_DOUBLE (0 : Int32) (1 : Int32) := by unfold own_S; rw [if_neg nBD]; decide
    obtain ⟨T556, h556, X556, e556, E556, A556, D556, U556, st556⟩ := newO X555 hx hZ hown (hg 17 rfl) (hg 18 rfl) (hg 19 rfl) e555 (g := (mkF m 81 #[(vJ i0), .second, (vJ i1), .second, (vJ i2), .second, (vJ i3), .second, (vI i4), (vI i5), (vI lo0), (vI hi0), (vI lo1), (vI hi1), (vI v0), (vI v1), (vI (0 : Int32)), (vI v2), .unset, .unset, .unset, .unset, .unset, .unset, .unset, .unset, .unset, .unset] [])) rfl (hb hby at_81) (by decide) (by decide)
    obtain ⟨b556, g556⟩ : ∃ z, z = h0.size := ⟨_, rfl⟩
    rw [← g556] at A556 D556 U556 st556
    refine DnW.of st556 ?_
    show DnW p e below s (own_Q n0) 40 3328 (T556.setTop (mkF m 84 #[(vJ i0), .second, (vJ i1), .second, (vJ i2), .second, (vJ i3), .second, (vI i4), (vI i5), (vI lo0), (vI hi0), (vI lo1), (vI hi1), (vI v0), (vI v1), (vI (0 : Int32)), (vI v2), .unset, .unset, .unset, .unset, .unset, .unset, .unset, .unset, .unset, .unset] [(.ref b556)]))
    have F_modCount_556 : Fld Z h556 b556 "java/util/AbstractList" "modCount" "I" (.int (0 : Int32)) := D556 (Or.inl (hg 39 rfl)) (ty := .int) (by decide)
    have F_elementData_556 : Fld Z h556 b556 "java/util/ArrayList" "elementData" "[Ljava/lang/Object;" .null := D556 (Or.inl (hg 42 rfl)) (ty := (.array (.object "java/lang/Object"))) (by decide)
    have F_size_556 : Fld Z h556 b556 "java/util/ArrayList" "size" "I" (.int (0 : Int32)) := D556 (Or.inl (hg 90 rfl)) (ty := .int) (by decide)
    have gls : n0 ≤ b556 := g556 ▸ Z0
    refine DnW.of (fun tt_ zz_ => XS.dup X556.here hx rfl (hb hby at_84) rfl rfl zz_) ?_
    show DnW p e below s (own_Q n0) 40 3328 (T556.setTop (mkF m 85 #[(vJ i0), .second, (vJ i1), .second, (vJ i2), .second, (vJ i3), .second, (vI i4), (vI i5), (vI lo0), (vI hi0), (vI lo1), (vI hi1), (vI v0), (vI v1), (vI (0 : Int32)), (vI v2), .unset, .unset, .unset, .unset, .unset, .unset, .unset, .unset, .unset, .unset] [(.ref b556), (.ref b556)]))
    have F557 := (O0.ext E556)
    have F558 := (Nat.le_trans Z0 E556.1)
    obtain ⟨v559, T559, L559, Q559, X559, st559⟩ := cIn X556 hx hZ (y := (⟨"java/util/ArrayList", "<init>", "()V"⟩ : MethodName)) rfl hown (hg 20 rfl) (hg 21 rfl) (hg 19 rfl) (hg 22 rfl) (by decide) (a := b556) (argsL := []) (rest := [(.ref b556)]) (rmAL l Z a0 hw h556 n0 F558 b556 aD SD F557 A556 F_modCount_556 F_elementData_556 F_size_556 gls) e556  1 (by decide) (by decide) (by decide) (by decide) (g := (mkF m 85 #[(vJ i0), .second, (vJ i1), .second, (vJ i2), .second, (vJ i3), .second, (vI i4), (vI i5), (vI lo0), (vI hi0), (vI lo1), (vI hi1), (vI v0), (vI v1), (vI (0 : Int32)), (vI v2), .unset, .unset, .unset, .unset, .unset, .unset, .unset, .unset, .unset, .unset] [(.ref b556), (.ref b556)])) rfl (by rw [hml]; rfl) (lenOf pd1 rfl) rfl (by show 2 * 0 + _ ≤ _; exact Nat.le_of_eq rfl) (hb hby at_85)
    obtain ⟨rfl, Ml, Kl, G1, G2, G3⟩ := Q559
    refine DnW.of st559 ?_
    show DnW p e below s (own_Q n0) 40 3328 (T559.setTop (mkF m 88 #[(vJ i0), .second, (vJ i1), .second, (vJ i2), .second, (vJ i3), .second, (vI i4), (vI i5), (vI lo0), (vI hi0), (vI lo1), (vI hi1), (vI v0), (vI v1), (vI (0 : Int32)), (vI v2), .unset, .unset, .unset, .unset, .unset, .unset, .unset, .unset, .unset, .unset] [(.ref b556)]))
    refine DnW.of (fun tt_ zz_ => XS.astore X559.here hx rfl (hb hby at_88) rfl rfl (l' := #[(vJ i0), .second, (vJ i1), .second, (vJ i2), .second, (vJ i3), .second, (vI i4), (vI i5), (vI lo0), (vI hi0), (vI lo1), (vI hi1), (vI v0), (vI v1), (vI (0 : Int32)), (vI v2), (vA b556), .unset, .unset, .unset, .unset, .unset, .unset, .unset, .unset, .unset]) rfl zz_) ?_
    refine DnW.of (fun tt_ zz_ => XS.aload X559.here hx rfl (hb hby at_90) rfl rfl zz_) ?_
    show DnW p e below s (own_Q n0) 40 3328 (T559.setTop (mkF m 92 #[(vJ i0), .second, (vJ i1), .second, (vJ i2), .second, (vJ i3), .second, (vI i4), (vI i5), (vI lo0), (vI hi0), (vI lo1), (vI hi1), (vI v0), (vI v1), (vI (0 : Int32)), (vI v2), (vA b556), .unset, .unset, .unset, .unset, .unset, .unset, .unset, .unset, .unset] [(.ref b556)]))
    have F560 := (Nat.le_trans (Nat.le_trans hk E556.1) Kl.1)
    obtain ⟨b561, T561, h561, k561, X561, e561, E561, hS, hk561, hZ, hown, st561⟩ := ldcS X559 hx hZ hown (hg 43 rfl) (own_wS hw) rfl hS F560 (g := (mkF m 92 #[(vJ i0), .second, (vJ i1), .second, (vJ i2), .second, (vJ i3), .second, (vI i4), (vI i5), (vI lo0), (vI hi0), (vI lo1), (vI hi1), (vI v0), (vI v1), (vI (0 : Int32)), (vI v2), (vA b556), .unset, .unset, .unset, .unset, .unset, .unset, .unset, .unset, .unset] [(.ref b556)])) rfl (hb hby at_92) (n := 4) (by decide) (by decide) (by decide) (by decide)
    refine DnW.of st561 ?_
    show DnW p e below s (own_Q n0) 40 3328 (T561.setTop (mkF m 94 #[(vJ i0), .second, (vJ i1), .second, (vJ i2), .second, (vJ i3), .second, (vI i4), (vI i5), (vI lo0), (vI hi0), (vI lo1), (vI hi1), (vI v0), (vI v1), (vI (0 : Int32)), (vI v2), (vA b556), .unset, .unset, .unset, .unset, .unset, .unset, .unset, .unset, .unset] [(.ref b561), (.ref b556)]))
    refine DnW.of (fun tt_ zz_ => XS.iload X561.here hx rfl (hb hby at_94) rfl zz_) ?_
    refine DnW.of (fun tt_ zz_ => XS.iload X561.here hx rfl (hb hby at_96) rfl zz_) ?_
    refine DnW.of (fun tt_ zz_ => XS.iload X561.here hx rfl (hb hby at_98) rfl zz_) ?_
    show DnW p e below s (own_Q n0) 40 3328 (T561.setTop (mkF m 100 #[(vJ i0), .second, (vJ i1), .second, (vJ i2), .second, (vJ i3), .second, (vI i4), (vI i5), (vI lo0), (vI hi0), (vI lo1), (vI hi1), (vI v0), (vI v1), (vI (0 : Int32)), (vI v2), (vA b556), .unset, .unset, .unset, .unset, .unset, .unset, .unset, .unset, .unset] [(.int lo0), (.int hi0), (.int lo0), (.ref b561), (.ref b556)]))
    have F562 := ((F557.keep Kl (allS gls all0)).ext E561)
    have F563 := (Nat.le_trans (Nat.le_trans F558 Kl.1) E561.1)
    obtain ⟨v564, T564, L564, Q564, X564, st564⟩ := cSt X561 hx hZ (y := (⟨"com/example/verify_markov_chains/verifymarkovchains/model/Variable", "ofInt", "(Ljava/lang/String;III)Lcom/example/verify_markov_chains/verifymarkovchains/model/Variable;"⟩ : MethodName)) hown (hg 51 rfl) (hg 52 rfl) (hg 53 rfl) (hg 54 rfl) (by decide) (argsL := [(.ref b561), (.int lo0), (.int hi0), (.int lo0)]) (rest := [(.ref b556)]) (rmOI l Z a0 hw h561 n0 F563 b561 a_INT lo0 hi0 S_INT F562 le0) e561  1 (by decide) (by decide) (by decide) (by decide) (g := (mkF m 100 #[(vJ i0), .second, (vJ i1), .second, (vJ i2), .second, (vJ i3), .second, (vI i4), (vI i5), (vI lo0), (vI hi0), (vI lo1), (vI hi1), (vI v0), (vI v1), (vI (0 : Int32)), (vI v2), (vA b556), .unset, .unset, .unset, .unset, .unset, .unset, .unset, .unset, .unset] [(.int lo0), (.int hi0), (.int lo0), (.ref b561), (.ref b556)])) rfl (by rw [hml]; rfl) (lenOf pd17 rfl) rfl (by show 2 * 0 + _ ≤ _; exact Nat.le_of_eq rfl) (hb hby at_100)
    obtain ⟨u0, rfl, gu0, Mu0, Xu0, V0⟩ := Q564
    refine DnW.of st564 ?_
    show DnW p e below s (own_Q n0) 40 3328 (T564.setTop (mkF m 103 #[(vJ i0), .second, (vJ i1), .second, (vJ i2), .second, (vJ i3), .second, (vI i4), (vI i5), (vI lo0), (vI hi0), (vI lo1), (vI hi1), (vI v0), (vI v1), (vI (0 : Int32)), (vI v2), (vA b556), .unset, .unset, .unset, .unset, .unset, .unset, .unset, .unset, .unset] [(.ref u0), (.ref b556)]))
    have F565 := ((A556.keep Kl).ext E561)
    have n566 : b556 ≠ u0 := Nat.ne_of_lt (gu0.symm ▸ F565.lt)
    have F567 := (F562.ext Xu0)
    have F568 := (Nat.le_trans F563 Xu0.1)
    have F569 := (F565.ext Xu0)
    have F570 := ((G1.ext E561).ext Xu0)
    have F571 := ((G2.ext E561).ext Xu0)
    have F572 := ((G3.ext E561).ext Xu0)
    obtain ⟨v573, T573, L573, Q573, X573, st573⟩ := cVi X564 hx hZ (C := "java/util/ArrayList") (y := (⟨"java/util/ArrayList", "add", "(Ljava/lang/Object;)Z"⟩ : MethodName)) (z := (⟨"java/util/ArrayList", "add", "(Ljava/lang/Object;)Z"⟩ : MethodName)) hown (hg 82 rfl) (hg 83 rfl) (notFace_of_selects (args := #[]) (mvT hZ (hg 85 rfl))) (hg 85 rfl) (hg 84 rfl) (hg 19 rfl) (hg 86 rfl) (by decide) (a := b556) (argsL := [(.ref u0)]) (rest := []) (rmA1 l Z a0 hw T564.heap n0 F568 b556 u0 _ aD lD SD RD zD F567 F569 F570 F571 F572 gls V0.1) rfl F569 0 (by decide) (by decide) (by decide) (by decide) (g := (mkF m 103 #[(vJ i0), .second, (vJ i1), .second, (vJ i2), .second, (vJ i3), .second, (vI i4), (vI i5), (vI lo0), (vI hi0), (vI lo1), (vI hi1), (vI v0), (vI v1), (vI (0 : Int32)), (vI v2), (vA b556), .unset, .unset, .unset, .unset, .unset, .unset, .unset, .unset, .unset] [(.ref u0), (.ref b556)])) rfl (by rw [hml]; rfl) (lenOf pd18 rfl) rfl (by show 2 * 0 + _ ≤ _; exact Nat.le_of_eq rfl) (hb hby at_103)
    obtain ⟨bE, kE, rfl, gE, hE, OV, Ma0, Ka0, G1, G2, G3, RE⟩ := Q573
    refine DnW.of st573 ?_
    show DnW p e below s (own_Q n0) 40 3328 (T573.setTop (mkF m 106 #[(vJ i0), .second, (vJ i1), .second, (vJ i2), .second, (vJ i3), .second, (vI i4), (vI i5), (vI lo0), (vI hi0), (vI lo1), (vI hi1), (vI v0), (vI v1), (vI (0 : Int32)), (vI v2), (vA b556), .unset, .unset, .unset, .unset, .unset, .unset, .unset, .unset, .unset] [(.int (1 : Int32))]))
    have nEEL : b556 ≠ bE := Nat.ne_of_lt (Nat.lt_of_lt_of_le F569.lt hE)
    have nEV0 : u0 ≠ bE := Nat.ne_of_lt (Nat.lt_of_lt_of_le V0.lt hE)
    have G1_0 := G1
    have G2_0 := G2
    have G3_0 := G3
    have RE_0 := RE
    refine DnW.of (fun tt_ zz_ => XS.pop X573.here hx rfl (hb hby at_106) rfl rfl zz_) ?_
    refine DnW.of (fun tt_ zz_ => XS.aload X573.here hx rfl (hb hby at_107) rfl rfl zz_) ?_
    show DnW p e below s (own_Q n0) 40 3328 (T573.setTop (mkF m 109 #[(vJ i0), .second, (vJ i1), .second, (vJ i2), .second, (vJ i3), .second, (vI i4), (vI i5), (vI lo0), (vI hi0), (vI lo1), (vI hi1), (vI v0), (vI v1), (vI (0 : Int32)), (vI v2), (vA b556), .unset, .unset, .unset, .unset, .unset, .unset, .unset, .unset, .unset] [(.ref b556)]))
    have F574 := (Nat.le_trans (Nat.le_trans hk561 Xu0.1) Ka0.1)
    obtain ⟨b575, T575, h575, k575, X575, e575, E575, hS, hk575, hZ, hown, st575⟩ := ldcS X573 hx hZ hown (hg 110 rfl) (own_wS hw) rfl hS F574 (g := (mkF m 109 #[(vJ i0), .second, (vJ i1), .second, (vJ i2), .second, (vJ i3), .second, (vI i4), (vI i5), (vI lo0), (vI hi0), (vI lo1), (vI hi1), (vI v0), (vI v1), (vI (0 : Int32)), (vI v2), (vA b556), .unset, .unset, .unset, .unset, .unset, .unset, .unset, .unset, .unset] [(.ref b556)])) rfl (hb hby at_109) (n := 4) (by decide) (by decide) (by decide) (by decide)
    refine DnW.of st575 ?_
    show DnW p e below s (own_Q n0) 40 3328 (T575.setTop (mkF m 111 #[(vJ i0), .second, (vJ i1), .second, (vJ i2), .second, (vJ i3), .second, (vI i4), (vI i5), (vI lo0), (vI hi0), (vI lo1), (vI hi1), (vI v0), (vI v1), (vI (0 : Int32)), (vI v2), (vA b556), .unset, .unset, .unset, .unset, .unset, .unset, .unset, .unset, .unset] [(.ref b575), (.ref b556)]))
    refine DnW.of (fun tt_ zz_ => XS.iload X575.here hx rfl (hb hby at_111) rfl zz_) ?_
    refine DnW.of (fun tt_ zz_ => XS.iload X575.here hx rfl (hb hby at_113) rfl zz_) ?_
    refine DnW.of (fun tt_ zz_ => XS.iload X575.here hx rfl (hb hby at_115) rfl zz_) ?_
    show DnW p e below s (own_Q n0) 40 3328 (T575.setTop (mkF m 117 #[(vJ i0), .second, (vJ i1), .second, (vJ i2), .second, (vJ i3), .second, (vI i4), (vI i5), (vI lo0), (vI hi0), (vI lo1), (vI hi1), (vI v0), (vI v1), (vI (0 : Int32)), (vI v2), (vA b556), .unset, .unset, .unset, .unset, .unset, .unset, .unset, .unset, .unset] [(.int lo1), (.int hi1), (.int lo1), (.ref b575), (.ref b556)]))
    have F576 := ((F567.keep Ka0 (allS gls all0)).ext E575)
    have F577 := (Nat.le_trans (Nat.le_trans F568 Ka0.1) E575.1)
    obtain ⟨v578, T578, L578, Q578, X578, st578⟩ := cSt X575 hx hZ (y := (⟨"com/example/verify_markov_chains/verifymarkovchains/model/Variable", "ofInt", "(Ljava/lang/String;III)Lcom/example/verify_markov_chains/verifymarkovchains/model/Variable;"⟩ : MethodName)) hown (hg 51 rfl) (hg 52 rfl) (hg 53 rfl) (hg 54 rfl) (by decide) (argsL := [(.ref b575), (.int lo1), (.int hi1), (.int lo1)]) (rest := [(.ref b556)]) (rmOI l Z a0 hw h575 n0 F577 b575 a_INT lo1 hi1 S_INT F576 le1) e575  1 (by decide) (by decide) (by decide) (by decide) (g := (mkF m 117 #[(vJ i0), .second, (vJ i1), .second, (vJ i2), .second, (vJ i3), .second, (vI i4), (vI i5), (vI lo0), (vI hi0), (vI lo1), (vI hi1), (vI v0), (vI v1), (vI (0 : Int32)), (vI v2), (vA b556), .unset, .unset, .unset, .unset, .unset, .unset, .unset, .unset, .unset] [(.int lo1), (.int hi1), (.int lo1), (.ref b575), (.ref b556)])) rfl (by rw [hml]; rfl) (lenOf pd17 rfl) rfl (by show 2 * 0 + _ ≤ _; exact Nat.le_of_eq rfl) (hb hby at_117)
    obtain ⟨u1, rfl, gu1, Mu1, Xu1, V1⟩ := Q578
    refine DnW.of st578 ?_
    show DnW p e below s (own_Q n0) 40 3328 (T578.setTop (mkF m 120 #[(vJ i0), .second, (vJ i1), .second, (vJ i2), .second, (vJ i3), .second, (vI i4), (vI i5), (vI lo0), (vI hi0), (vI lo1), (vI hi1), (vI v0), (vI v1), (vI (0 : Int32)), (vI v2), (vA b556), .unset, .unset, .unset, .unset, .unset, .unset, .unset, .unset, .unset] [(.ref u1), (.ref b556)]))
    have F579 := ((F569.keep Ka0).ext E575)
    have n580 : b556 ≠ u1 := Nat.ne_of_lt (gu1.symm ▸ F579.lt)
    have F581 := ((V0.keep Ka0 (ninS (Ne.symm n566) nin0)).ext E575)
    have n582 : u0 ≠ u1 := Nat.ne_of_lt (gu1.symm ▸ F581.lt)
    have F583 := (RE_0.ext E575)
    have n584 : bE ≠ u1 := Nat.ne_of_lt (gu1.symm ▸ F583.lt)
    have F585 := (F576.ext Xu1)
    have F586 := (Nat.le_trans F577 Xu1.1)
    have F587 := (F579.ext Xu1)
    have F588 := ((G1_0.ext E575).ext Xu1)
    have F589 := ((G2_0.ext E575).ext Xu1)
    have F590 := ((G3_0.ext E575).ext Xu1)
    have F591 := (F583.ext Xu1)
    obtain ⟨v592, T592, L592, Q592, X592, st592⟩ := cVi X578 hx hZ (C := "java/util/ArrayList") (y := (⟨"java/util/ArrayList", "add", "(Ljava/lang/Object;)Z"⟩ : MethodName)) (z := (⟨"java/util/ArrayList", "add", "(Ljava/lang/Object;)Z"⟩ : MethodName)) hown (hg 82 rfl) (hg 83 rfl) (notFace_of_selects (args := #[]) (mvT hZ (hg 85 rfl))) (hg 85 rfl) (hg 84 rfl) (hg 19 rfl) (hg 86 rfl) (by decide) (a := b556) (argsL := [(.ref u1)]) (rest := []) (rmB1 l Z a0 hw T578.heap n0 F586 b556 u1 bE kE [((0 : Int32), .ref u0)] _ (1 : Int32) (by decide) (by decide) OV F587 F588 F589 F590 gls V1.1 (Ne.symm nEEL) gE F591) rfl F587 0 (by decide) (by decide) (by decide) (by decide) (g := (mkF m 120 #[(vJ i0), .second, (vJ i1), .second, (vJ i2), .second, (vJ i3), .second, (vI i4), (vI i5), (vI lo0), (vI hi0), (vI lo1), (vI hi1), (vI v0), (vI v1), (vI (0 : Int32)), (vI v2), (vA b556), .unset, .unset, .unset, .unset, .unset, .unset, .unset, .unset, .unset] [(.ref u1), (.ref b556)])) rfl (by rw [hml]; rfl) (lenOf pd18 rfl) rfl (by show 2 * 0 + _ ≤ _; exact Nat.le_of_eq rfl) (hb hby at_120)
    obtain ⟨rfl, Ma1, Ka1, G1, G2, G3, RE⟩ := Q592
    rw [show ((1 : Int32) + (1 : Int32)) = (2 : Int32) by decide] at G3
    refine DnW.of st592 ?_
    show DnW p e below s (own_Q n0) 40 3328 (T592.setTop (mkF m 123 #[(vJ i0), .second, (vJ i1), .second, (vJ i2), .second, (vJ i3), .second, (vI i4), (vI i5), (vI lo0), (vI hi0), (vI lo1), (vI hi1), (vI v0), (vI v1), (vI (0 : Int32)), (vI v2), (vA b556), .unset, .unset, .unset, .unset, .unset, .unset, .unset, .unset, .unset] [(.int (1 : Int32))]))
    have G1_1 := G1
    have G2_1 := G2
    have G3_1 := G3
    have RE_1 := RE
    refine DnW.of (fun tt_ zz_ => XS.pop X592.here hx rfl (hb hby at_123) rfl rfl zz_) ?_
    refine DnW.of (fun tt_ zz_ => XS.iload X592.here hx rfl (hb hby at_124) rfl zz_) ?_
    show DnW p e below s (own_Q n0) 40 3328 (T592.setTop (mkF m 126 #[(vJ i0), .second, (vJ i1), .second, (vJ i2), .second, (vJ i3), .second, (vI i4), (vI i5), (vI lo0), (vI hi0), (vI lo1), (vI hi1), (vI v0), (vI v1), (vI (0 : Int32)), (vI v2), (vA b556), .unset, .unset, .unset, .unset, .unset, .unset, .unset, .unset, .unset] [(.int (0 : Int32))]))
    refine DnW.of (fun tt_ zz_ => XS.ifYes X592.here hx rfl (pc0 := 126) (pc' := 148) rfl (hb hby at_126) rfl ((if0 _ _).trans (teq rfl).1) (by decide) (by decide) zz_) ?_
    show DnW p e below s (own_Q n0) 40 3328 (T592.setTop (mkF m 148 #[(vJ i0), .second, (vJ i1), .second, (vJ i2), .second, (vJ i3), .second, (vI i4), (vI i5), (vI lo0), (vI hi0), (vI lo1), (vI hi1), (vI v0), (vI v1), (vI (0 : Int32)), (vI v2), (vA b556), .unset, .unset, .unset, .unset, .unset, .unset, .unset, .unset, .unset] []))
    refine DnW.of (fun tt_ zz_ => XS.aload X592.here hx rfl (hb hby at_148) rfl rfl zz_) ?_
    show DnW p e below s (own_Q n0) 40 3328 (T592.setTop (mkF m 150 #[(vJ i0), .second, (vJ i1), .second, (vJ i2), .second, (vJ i3), .second, (vI i4), (vI i5), (vI lo0), (vI hi0), (vI lo1), (vI hi1), (vI v0), (vI v1), (vI (0 : Int32)), (vI v2), (vA b556), .unset, .unset, .unset, .unset, .unset, .unset, .unset, .unset, .unset] [(.ref b556)]))
    have F593 := (Nat.le_trans (Nat.le_trans hk575 Xu1.1) Ka1.1)
    obtain ⟨b594, T594, h594, k594, X594, e594, E594, hS, hk594, hZ, hown, st594⟩ := ldcS X592 hx hZ hown (hg 111 rfl) (own_wS hw) rfl hS F593 (g := (mkF m 150 #[(vJ i0), .second, (vJ i1), .second, (vJ i2), .second, (vJ i3), .second, (vI i4), (vI i5), (vI lo0), (vI hi0), (vI lo1), (vI hi1), (vI v0), (vI v1), (vI (0 : Int32)), (vI v2), (vA b556), .unset, .unset, .unset, .unset, .unset, .unset, .unset, .unset, .unset] [(.ref b556)])) rfl (hb hby at_150) (n := 4) (by decide) (by decide) (by decide) (by decide)
    refine DnW.of st594 ?_
    show DnW p e below s (own_Q n0) 40 3328 (T594.setTop (mkF m 152 #[(vJ i0), .second, (vJ i1), .second, (vJ i2), .second, (vJ i3), .second, (vI i4), (vI i5), (vI lo0), (vI hi0), (vI lo1), (vI hi1), (vI v0), (vI v1), (vI (0 : Int32)), (vI v2), (vA b556), .unset, .unset, .unset, .unset, .unset, .unset, .unset, .unset, .unset] [(.ref b594), (.ref b556)]))
    refine DnW.of (fun tt_ zz_ => XS.iconst X594.here hx rfl (hb hby at_152) zz_) ?_
    show DnW p e below s (own_Q n0) 40 3328 (T594.setTop (mkF m 153 #[(vJ i0), .second, (vJ i1), .second, (vJ i2), .second, (vJ i3), .second, (vI i4), (vI i5), (vI lo0), (vI hi0), (vI lo1), (vI hi1), (vI v0), (vI v1), (vI (0 : Int32)), (vI v2), (vA b556), .unset, .unset, .unset, .unset, .unset, .unset, .unset, .unset, .unset] [(.int (0 : Int32)), (.ref b594), (.ref b556)]))
    have F595 := ((F585.keep Ka1 (allS gls (allS gE all0))).ext E594)
    have F596 := (Nat.le_trans (Nat.le_trans F586 Ka1.1) E594.1)
    obtain ⟨v597, T597, L597, Q597, X597, st597⟩ := cSt X594 hx hZ (y := (⟨"com/example/verify_markov_chains/verifymarkovchains/model/Variable", "ofBool", "(Ljava/lang/String;Z)Lcom/example/verify_markov_chains/verifymarkovchains/model/Variable;"⟩ : MethodName)) hown (hg 224 rfl) (hg 225 rfl) (hg 53 rfl) (hg 226 rfl) (by decide) (argsL := [(.ref b594), (.int (0 : Int32))]) (rest := [(.ref b556)]) (rmOB l Z a0 hw h594 n0 F596 b594 a_BOOL S_BOOL F595) e594  1 (by decide) (by decide) (by decide) (by decide) (g := (mkF m 153 #[(vJ i0), .second, (vJ i1), .second, (vJ i2), .second, (vJ i3), .second, (vI i4), (vI i5), (vI lo0), (vI hi0), (vI lo1), (vI hi1), (vI v0), (vI v1), (vI (0 : Int32)), (vI v2), (vA b556), .unset, .unset, .unset, .unset, .unset, .unset, .unset, .unset, .unset] [(.int (0 : Int32)), (.ref b594), (.ref b556)])) rfl (by rw [hml]; rfl) (lenOf pd19 rfl) rfl (by show 2 * 0 + _ ≤ _; exact Nat.le_of_eq rfl) (hb hby at_153)
    obtain ⟨u2, rfl, gu2, Mu2, Xu2, V2⟩ := Q597
    refine DnW.of st597 ?_
    show DnW p e below s (own_Q n0) 40 3328 (T597.setTop (mkF m 156 #[(vJ i0), .second, (vJ i1), .second, (vJ i2), .second, (vJ i3), .second, (vI i4), (vI i5), (vI lo0), (vI hi0), (vI lo1), (vI hi1), (vI v0), (vI v1), (vI (0 : Int32)), (vI v2), (vA b556), .unset, .unset, .unset, .unset, .unset, .unset, .unset, .unset, .unset] [(.ref u2), (.ref b556)]))
    have F598 := ((F587.keep Ka1).ext E594)
    have n599 : b556 ≠ u2 := Nat.ne_of_lt (gu2.symm ▸ F598.lt)
    have F600 := (((F581.ext Xu1).keep Ka1 (ninS (Ne.symm n566) (ninS nEV0 nin0))).ext E594)
    have n601 : u0 ≠ u2 := Nat.ne_of_lt (gu2.symm ▸ F600.lt)
    have F602 := (RE_1.ext E594)
    have n603 : bE ≠ u2 := Nat.ne_of_lt (gu2.symm ▸ F602.lt)
    have F604 := ((V1.keep Ka1 (ninS (Ne.symm n580) (ninS (Ne.symm n584) nin0))).ext E594)
    have n605 : u1 ≠ u2 := Nat.ne_of_lt (gu2.symm ▸ F604.lt)
    have F606 := (F595.ext Xu2)
    have F607 := (Nat.le_trans F596 Xu2.1)
    have F608 := (F598.ext Xu2)
    have F609 := ((G1_1.ext E594).ext Xu2)
    have F610 := ((G2_1.ext E594).ext Xu2)
    have F611 := ((G3_1.ext E594).ext Xu2)
    have F612 := (F602.ext Xu2)
    obtain ⟨v613, T613, L613, Q613, X613, st613⟩ := cVi X597 hx hZ (C := "java/util/ArrayList") (y := (⟨"java/util/ArrayList", "add", "(Ljava/lang/Object;)Z"⟩ : MethodName)) (z := (⟨"java/util/ArrayList", "add", "(Ljava/lang/Object;)Z"⟩ : MethodName)) hown (hg 82 rfl) (hg 83 rfl) (notFace_of_selects (args := #[]) (mvT hZ (hg 85 rfl))) (hg 85 rfl) (hg 84 rfl) (hg 19 rfl) (hg 86 rfl) (by decide) (a := b556) (argsL := [(.ref u2)]) (rest := []) (rmB1 l Z a0 hw T597.heap n0 F607 b556 u2 bE kE (((1 : Int32), .ref u1) :: [((0 : Int32), .ref u0)]) _ (2 : Int32) (by decide) (by decide) OV F608 F609 F610 F611 gls V2.1 (Ne.symm nEEL) gE F612) rfl F608 0 (by decide) (by decide) (by decide) (by decide) (g := (mkF m 156 #[(vJ i0), .second, (vJ i1), .second, (vJ i2), .second, (vJ i3), .second, (vI i4), (vI i5), (vI lo0), (vI hi0), (vI lo1), (vI hi1), (vI v0), (vI v1), (vI (0 : Int32)), (vI v2), (vA b556), .unset, .unset, .unset, .unset, .unset, .unset, .unset, .unset, .unset] [(.ref u2), (.ref b556)])) rfl (by rw [hml]; rfl) (lenOf pd18 rfl) rfl (by show 2 * 0 + _ ≤ _; exact Nat.le_of_eq rfl) (hb hby at_156)
    obtain ⟨rfl, Ma2, Ka2, G1, G2, G3, RE⟩ := Q613
    rw [show ((2 : Int32) + (1 : Int32)) = (3 : Int32) by decide] at G3
    refine DnW.of st613 ?_
    show DnW p e below s (own_Q n0) 40 3328 (T613.setTop (mkF m 159 #[(vJ i0), .second, (vJ i1), .second, (vJ i2), .second, (vJ i3), .second, (vI i4), (vI i5), (vI lo0), (vI hi0), (vI lo1), (vI hi1), (vI v0), (vI v1), (vI (0 : Int32)), (vI v2), (vA b556), .unset, .unset, .unset, .unset, .unset, .unset, .unset, .unset, .unset] [(.int (1 : Int32))]))
    have G1_2 := G1
    have G2_2 := G2
    have G3_2 := G3
    have RE_2 := RE
    refine DnW.of (fun tt_ zz_ => XS.pop X613.here hx rfl (hb hby at_159) rfl rfl zz_) ?_
    show DnW p e below s (own_Q n0) 40 3328 (T613.setTop (mkF m 160 #[(vJ i0), .second, (vJ i1), .second, (vJ i2), .second, (vJ i3), .second, (vI i4), (vI i5), (vI lo0), (vI hi0), (vI lo1), (vI hi1), (vI v0), (vI v1), (vI (0 : Int32)), (vI v2), (vA b556), .unset, .unset, .unset, .unset, .unset, .unset, .unset, .unset, .unset] []))
    have F614 := (Nat.le_trans F607 Ka2.1)
    obtain ⟨T615, h615, X615, e615, E615, A615, D615, U615, st615⟩ := newO X613 hx hZ hown (hg 125 rfl) (hg 126 rfl) (hg 127 rfl) rfl (g := (mkF m 160 #[(vJ i0), .second, (vJ i1), .second, (vJ i2), .second, (vJ i3), .second, (vI i4), (vI i5), (vI lo0), (vI hi0), (vI lo1), (vI hi1), (vI v0), (vI v1), (vI (0 : Int32)), (vI v2), (vA b556), .unset, .unset, .unset, .unset, .unset, .unset, .unset, .unset, .unset] [])) rfl (hb hby at_160) (by decide) (by decide)
    obtain ⟨b615, g615⟩ : ∃ z, z = T613.heap.size := ⟨_, rfl⟩
    rw [← g615] at A615 D615 U615 st615
    refine DnW.of st615 ?_
    show DnW p e below s (own_Q n0) 40 3328 (T615.setTop (mkF m 163 #[(vJ i0), .second, (vJ i1), .second, (vJ i2), .second, (vJ i3), .second, (vI i4), (vI i5), (vI lo0), (vI hi0), (vI lo1), (vI hi1), (vI v0), (vI v1), (vI (0 : Int32)), (vI v2), (vA b556), .unset, .unset, .unset, .unset, .unset, .unset, .unset, .unset, .unset] [(.ref b615)]))
    have F_words_615 : Fld Z h615 b615 "com/example/verify_markov_chains/verifymarkovchains/explicit/StateLayout" "words" "[I" .null := D615 (Or.inr (hg 143 rfl)) (ty := (.array .int)) (by decide)
    have F_shifts_615 : Fld Z h615 b615 "com/example/verify_markov_chains/verifymarkovchains/explicit/StateLayout" "shifts" "[I" .null := D615 (Or.inr (hg 145 rfl)) (ty := (.array .int)) (by decide)
    have F_masks_615 : Fld Z h615 b615 "com/example/verify_markov_chains/verifymarkovchains/explicit/StateLayout" "masks" "[J" .null := D615 (Or.inr (hg 148 rfl)) (ty := (.array .long)) (by decide)
    have F_lowers_615 : Fld Z h615 b615 "com/example/verify_markov_chains/verifymarkovchains/explicit/StateLayout" "lowers" "[I" .null := D615 (Or.inr (hg 150 rfl)) (ty := (.array .int)) (by decide)
    have F_wordCount_615 : Fld Z h615 b615 "com/example/verify_markov_chains/verifymarkovchains/explicit/StateLayout" "wordCount" "I" (.int (0 : Int32)) := D615 (Or.inr (hg 205 rfl)) (ty := .int) (by decide)
    have F616 := (F608.keep Ka2)
    have n617 : b556 ≠ b615 := Nat.ne_of_lt (g615 ▸ F616.lt)
    have F618 := ((F600.ext Xu2).keep Ka2 (ninS (Ne.symm n566) (ninS nEV0 nin0)))
    have n619 : u0 ≠ b615 := Nat.ne_of_lt (g615 ▸ F618.lt)
    have n620 : bE ≠ b615 := Nat.ne_of_lt (g615 ▸ RE_2.lt)
    have F621 := ((F604.ext Xu2).keep Ka2 (ninS (Ne.symm n580) (ninS (Ne.symm n584) nin0)))
    have n622 : u1 ≠ b615 := Nat.ne_of_lt (g615 ▸ F621.lt)
    have F623 := (V2.keep Ka2 (ninS (Ne.symm n599) (ninS (Ne.symm n603) nin0)))
    have n624 : u2 ≠ b615 := Nat.ne_of_lt (g615 ▸ F623.lt)
    have ga : n0 ≤ b615 := g615 ▸ F614
    refine DnW.of (fun tt_ zz_ => XS.dup X615.here hx rfl (hb hby at_163) rfl rfl zz_) ?_
    refine DnW.of (fun tt_ zz_ => XS.aload X615.here hx rfl (hb hby at_164) rfl rfl zz_) ?_
    show DnW p e below s (own_Q n0) 40 3328 (T615.setTop (mkF m 166 #[(vJ i0), .second, (vJ i1), .second, (vJ i2), .second, (vJ i3), .second, (vI i4), (vI i5), (vI lo0), (vI hi0), (vI lo1), (vI hi1), (vI v0), (vI v1), (vI (0 : Int32)), (vI v2), (vA b556), .unset, .unset, .unset, .unset, .unset, .unset, .unset, .unset, .unset] [(.ref b556), (.ref b615), (.ref b615)]))
    have F625 := ((F606.keep Ka2 (allS gls (allS gE all0))).ext E615)
    have F626 := (Nat.le_trans F614 E615.1)
    have F627 := (F616.ext E615)
    have F628 := (G3_2.ext E615)
    have F629 := (G2_2.ext E615)
    have F630 := (RE_2.ext E615)
    have F631 := (F618.ext E615)
    have F632 := (F621.ext E615)
    have F633 := (F623.ext E615)
    obtain ⟨v634, T634, L634, Q634, X634, st634⟩ := cIn X615 hx hZ (y := (⟨"com/example/verify_markov_chains/verifymarkovchains/explicit/StateLayout", "<init>", "(Ljava/util/List;)V"⟩ : MethodName)) rfl hown (hg 128 rfl) (hg 129 rfl) (hg 127 rfl) (hg 130 rfl) (by decide) (a := b615) (argsL := [(.ref b556)]) (rest := [(.ref b615)]) (rmSL l Z a0 hw h615 n0 F626 b615 b556 bE u0 u1 u2 a_INT a_INT a_BOOL a_DOUBLE kE lo0 lo1 (0 : Int32) hi0 hi1 (1 : Int32) le0 le1 (by decide) S_DOUBLE F625 A615 F_words_615 F_shifts_615 F_masks_615 F_lowers_615 F_wordCount_615 F627 F628 F629 F630 F631 F632 F633 n617 n620 n619 n622 n624 ga) e615  1 (by decide) (by decide) (by decide) (by decide) (g := (mkF m 166 #[(vJ i0), .second, (vJ i1), .second, (vJ i2), .second, (vJ i3), .second, (vI i4), (vI i5), (vI lo0), (vI hi0), (vI lo1), (vI hi1), (vI v0), (vI v1), (vI (0 : Int32)), (vI v2), (vA b556), .unset, .unset, .unset, .unset, .unset, .unset, .unset, .unset, .unset] [(.ref b556), (.ref b615), (.ref b615)])) rfl (by rw [hml]; rfl) (lenOf pd20 rfl) rfl (by show 2 * 0 + _ ≤ _; exact Nat.le_of_eq rfl) (hb hby at_166)
    obtain ⟨rfl, Mi, Ki, bw, bs, bm, bl, kw, ks, km, kl, b0, b1, b2, w2, wc, s2, P0, P1, P2, hcase, G0, G1, G2, G3, G4, RW, RS, RM, RL⟩ := Q634
    refine DnW.of st634 ?_
    show DnW p e below s (own_Q n0) 40 3328 (T634.setTop (mkF m 169 #[(vJ i0), .second, (vJ i1), .second, (vJ i2), .second, (vJ i3), .second, (vI i4), (vI i5), (vI lo0), (vI hi0), (vI lo1), (vI hi1), (vI v0), (vI v1), (vI (0 : Int32)), (vI v2), (vA b556), .unset, .unset, .unset, .unset, .unset, .unset, .unset, .unset, .unset] [(.ref b615)]))
    have F635 := (F625.keep Ki (allS ga all0))
    have F636 := (Nat.le_trans (Nat.le_trans (Nat.le_trans (Nat.le_trans hk594 Xu2.1) Ka2.1) E615.1) Ki.1)
    have F637 := (Nat.le_trans F626 Ki.1)
    have F638 := (A615.keep Ki)
    rcases hcase with ⟨rfl, rfl, rfl, hfit⟩ | ⟨rfl, rfl, rfl⟩
    · skip
      show DnW p e below s (own_Q n0) 40 3328 (T634.setTop (mkF m 169 #[(vJ i0), .second, (vJ i1), .second, (vJ i2), .second, (vJ i3), .second, (vI i4), (vI i5), (vI lo0), (vI hi0), (vI lo1), (vI hi1), (vI v0), (vI v1), (vI (0 : Int32)), (vI v2), (vA b556), .unset, .unset, .unset, .unset, .unset, .unset, .unset, .unset, .unset] [(.ref b615)]))
      refine DnW.of (fun tt_ zz_ => XS.astore X634.here hx rfl (hb hby at_169) rfl rfl (l' := #[(vJ i0), .second, (vJ i1), .second, (vJ i2), .second, (vJ i3), .second, (vI i4), (vI i5), (vI lo0), (vI hi0), (vI lo1), (vI hi1), (vI v0), (vI v1), (vI (0 : Int32)), (vI v2), (vA b556), (vA b615), .unset, .unset, .unset, .unset, .unset, .unset, .unset, .unset]) rfl zz_) ?_
      refine DnW.of (fun tt_ zz_ => XS.iload X634.here hx rfl (hb hby at_171) rfl zz_) ?_
      refine DnW.of (fun tt_ zz_ => XS.iconst X634.here hx rfl (hb hby at_173) zz_) ?_
      refine DnW.of (fun tt_ zz_ => XS.iand X634.here hx rfl (hb hby at_174) rfl zz_) ?_
      show DnW p e below s (own_Q n0) 40 3328 (T634.setTop (mkF m 175 #[(vJ i0), .second, (vJ i1), .second, (vJ i2), .second, (vJ i3), .second, (vI i4), (vI i5), (vI lo0), (vI hi0), (vI lo1), (vI hi1), (vI v0), (vI v1), (vI (0 : Int32)), (vI v2), (vA b556), (vA b615), .unset, .unset, .unset, .unset, .unset, .unset, .unset, .unset] [(.int (i5 &&& (3 : Int32)))]))
      refine DnW.of (fun tt_ zz_ => XS.istore X634.here hx rfl (hb hby at_175) rfl (l' := #[(vJ i0), .second, (vJ i1), .second, (vJ i2), .second, (vJ i3), .second, (vI i4), (vI i5), (vI lo0), (vI hi0), (vI lo1), (vI hi1), (vI v0), (vI v1), (vI (0 : Int32)), (vI v2), (vA b556), (vA b615), (vI (i5 &&& (3 : Int32))), .unset, .unset, .unset, .unset, .unset, .unset, .unset]) rfl zz_) ?_
      refine DnW.of (fun tt_ zz_ => XS.iload X634.here hx rfl (hb hby at_177) rfl zz_) ?_
      refine DnW.of (fun tt_ zz_ => XS.i2l X634.here hx rfl (hb hby at_179) rfl zz_) ?_
      refine DnW.of (fun tt_ zz_ => X634.ldc2J hx hown (mvT hZ (hg 206 rfl)) rfl (hb hby at_180) zz_) ?_
      show DnW p e below s (own_Q n0) 40 3328 (T634.setTop (mkF m 183 #[(vJ i0), .second, (vJ i1), .second, (vJ i2), .second, (vJ i3), .second, (vI i4), (vI i5), (vI lo0), (vI hi0), (vI lo1), (vI hi1), (vI v0), (vI v1), (vI (0 : Int32)), (vI v2), (vA b556), (vA b615), (vI (i5 &&& (3 : Int32))), .unset, .unset, .unset, .unset, .unset, .unset, .unset] [(.long (-7046029254386353131 : Int64)), (.long (i5.toInt64))]))
      refine DnW.of (fun tt_ zz_ => XS.lmul X634.here hx rfl (hb hby at_183) rfl zz_) ?_
      refine DnW.of (fun tt_ zz_ => XS.lconst X634.here hx rfl (hb hby at_184) zz_) ?_
      refine DnW.of (fun tt_ zz_ => XS.lor X634.here hx rfl (hb hby at_185) rfl zz_) ?_
      refine DnW.of (fun tt_ zz_ => XS.lstore X634.here hx rfl (hb hby at_186) rfl (l' := #[(vJ i0), .second, (vJ i1), .second, (vJ i2), .second, (vJ i3), .second, (vI i4), (vI i5), (vI lo0), (vI hi0), (vI lo1), (vI hi1), (vI v0), (vI v1), (vI (0 : Int32)), (vI v2), (vA b556), (vA b615), (vI (i5 &&& (3 : Int32))), (vJ (((i5.toInt64) * (-7046029254386353131 : Int64)) ||| (1 : Int64))), .second, .unset, .unset, .unset, .unset, .unset]) rfl zz_) ?_
      show DnW p e below s (own_Q n0) 40 3328 (T634.setTop (mkF m 188 #[(vJ i0), .second, (vJ i1), .second, (vJ i2), .second, (vJ i3), .second, (vI i4), (vI i5), (vI lo0), (vI hi0), (vI lo1), (vI hi1), (vI v0), (vI v1), (vI (0 : Int32)), (vI v2), (vA b556), (vA b615), (vI (i5 &&& (3 : Int32))), (vJ (((i5.toInt64) * (-7046029254386353131 : Int64)) ||| (1 : Int64))), .second, .unset, .unset, .unset, .unset, .unset] []))
      generalize (((i5.toInt64) * (-7046029254386353131 : Int64)) ||| (1 : Int64)) = jk
      show DnW p e below s (own_Q n0) 40 3328 (T634.setTop (mkF m 188 #[(vJ i0), .second, (vJ i1), .second, (vJ i2), .second, (vJ i3), .second, (vI i4), (vI i5), (vI lo0), (vI hi0), (vI lo1), (vI hi1), (vI v0), (vI v1), (vI (0 : Int32)), (vI v2), (vA b556), (vA b615), (vI (i5 &&& (3 : Int32))), (vJ jk), .second, .unset, .unset, .unset, .unset, .unset] []))
      refine DnW.of (fun tt_ zz_ => XS.bipush X634.here hx rfl (hb hby at_188) zz_) ?_
      show DnW p e below s (own_Q n0) 40 3328 (T634.setTop (mkF m 190 #[(vJ i0), .second, (vJ i1), .second, (vJ i2), .second, (vJ i3), .second, (vI i4), (vI i5), (vI lo0), (vI hi0), (vI lo1), (vI hi1), (vI v0), (vI v1), (vI (0 : Int32)), (vI v2), (vA b556), (vA b615), (vI (i5 &&& (3 : Int32))), (vJ jk), .second, .unset, .unset, .unset, .unset, .unset] [(.int (6 : Int32))]))
      obtain ⟨T639, h639, k639, X639, e639, E639, A639, st639⟩ := newP X634 hx hZ (hg 146 rfl) rfl (g := (mkF m 190 #[(vJ i0), .second, (vJ i1), .second, (vJ i2), .second, (vJ i3), .second, (vI i4), (vI i5), (vI lo0), (vI hi0), (vI lo1), (vI hi1), (vI v0), (vI v1), (vI (0 : Int32)), (vI v2), (vA b556), (vA b615), (vI (i5 &&& (3 : Int32))), (vJ jk), .second, .unset, .unset, .unset, .unset, .unset] [(.int (6 : Int32))])) rfl (hb hby at_190) rfl (by decide) (cap := 6) (by decide) (by decide) (by decide) (by decide)
      obtain ⟨b639, g639⟩ : ∃ z, z = T634.heap.size := ⟨_, rfl⟩
      rw [← g639] at A639 st639
      refine DnW.of st639 ?_
      show DnW p e below s (own_Q n0) 40 3328 (T639.setTop (mkF m 192 #[(vJ i0), .second, (vJ i1), .second, (vJ i2), .second, (vJ i3), .second, (vI i4), (vI i5), (vI lo0), (vI hi0), (vI lo1), (vI hi1), (vI v0), (vI v1), (vI (0 : Int32)), (vI v2), (vA b556), (vA b615), (vI (i5 &&& (3 : Int32))), (vJ jk), .second, .unset, .unset, .unset, .unset, .unset] [(.ref b639)]))
      have n640 : b615 ≠ b639 := Nat.ne_of_lt (g639 ▸ F638.lt)
      have n641 : bw ≠ b639 := Nat.ne_of_lt (g639 ▸ RW.lt)
      have n642 : bs ≠ b639 := Nat.ne_of_lt (g639 ▸ RS.lt)
      have n643 : bm ≠ b639 := Nat.ne_of_lt (g639 ▸ RM.lt)
      have n644 : bl ≠ b639 := Nat.ne_of_lt (g639 ▸ RL.lt)
      have gpk : n0 ≤ b639 := g639 ▸ F637
      have RP : Arh Z h639 b639 k639 .long 6 [] [] (.long 0) := (Arv.new A639 (by decide)).arh
      refine DnW.of (fun tt_ zz_ => XS.astore X639.here hx rfl (hb hby at_192) rfl rfl (l' := #[(vJ i0), .second, (vJ i1), .second, (vJ i2), .second, (vJ i3), .second, (vI i4), (vI i5), (vI lo0), (vI hi0), (vI lo1), (vI hi1), (vI v0), (vI v1), (vI (0 : Int32)), (vI v2), (vA b556), (vA b615), (vI (i5 &&& (3 : Int32))), (vJ jk), .second, (vA b639), .unset, .unset, .unset, .unset]) rfl zz_) ?_
      refine DnW.of (fun tt_ zz_ => XS.aload X639.here hx rfl (hb hby at_194) rfl rfl zz_) ?_
      refine DnW.of (fun tt_ zz_ => XS.iconst X639.here hx rfl (hb hby at_196) zz_) ?_
      refine DnW.of (fun tt_ zz_ => XS.lload X639.here hx rfl (hb hby at_197) rfl zz_) ?_
      show DnW p e below s (own_Q n0) 40 3328 (T639.setTop (mkF m 199 #[(vJ i0), .second, (vJ i1), .second, (vJ i2), .second, (vJ i3), .second, (vI i4), (vI i5), (vI lo0), (vI hi0), (vI lo1), (vI hi1), (vI v0), (vI v1), (vI (0 : Int32)), (vI v2), (vA b556), (vA b615), (vI (i5 &&& (3 : Int32))), (vJ jk), .second, (vA b639), .unset, .unset, .unset, .unset] [(.long jk), (.int (0 : Int32)), (.ref b639)]))
      obtain ⟨c645, A_645, p645, S645, P645, H645, G645⟩ := RP
      obtain ⟨T646, h646, X646, e646, W646, st646⟩ := stJ X639 hx hZ e639 A_645 (j := (0 : Int32)) (inb_of S645 (by decide)) (g := (mkF m 199 #[(vJ i0), .second, (vJ i1), .second, (vJ i2), .second, (vJ i3), .second, (vI i4), (vI i5), (vI lo0), (vI hi0), (vI lo1), (vI hi1), (vI v0), (vI v1), (vI (0 : Int32)), (vI v2), (vA b556), (vA b615), (vI (i5 &&& (3 : Int32))), (vJ jk), .second, (vA b639), .unset, .unset, .unset, .unset] [(.long jk), (.int (0 : Int32)), (.ref b639)])) rfl rfl (hb hby at_199)
      refine DnW.of st646 ?_
      show DnW p e below s (own_Q n0) 40 3328 (T646.setTop (mkF m 200 #[(vJ i0), .second, (vJ i1), .second, (vJ i2), .second, (vJ i3), .second, (vI i4), (vI i5), (vI lo0), (vI hi0), (vI lo1), (vI hi1), (vI v0), (vI v1), (vI (0 : Int32)), (vI v2), (vA b556), (vA b615), (vI (i5 &&& (3 : Int32))), (vJ jk), .second, (vA b639), .unset, .unset, .unset, .unset] []))
      have R_645 := Arh.push A_645 p645 S645 P645 H645 G645 (v := (.long jk)) rfl W646 (inb_of S645 (by decide))
      have N645 := Fr.snoc X646 (Fr.app (Fr.app (Fr.app (Fr.app (Fr.app (Fr.app (Fr.app (Fr.app (Fr.app (Fr.app (Fr.app (Fr.app (Fr.app (Fr.app N0 Ms0) Ms1) Ms2) Ms3) Ms4) Ms5) Ml) Mu0) Ma0) Mu1) Ma1) Mu2) Ma2) Mi) gpk
      refine DnW.of (fun tt_ zz_ => XS.aload X646.here hx rfl (hb hby at_200) rfl rfl zz_) ?_
      refine DnW.of (fun tt_ zz_ => XS.iconst X646.here hx rfl (hb hby at_202) zz_) ?_
      refine DnW.of (fun tt_ zz_ => XS.lload X646.here hx rfl (hb hby at_203) rfl zz_) ?_
      show DnW p e below s (own_Q n0) 40 3328 (T646.setTop (mkF m 205 #[(vJ i0), .second, (vJ i1), .second, (vJ i2), .second, (vJ i3), .second, (vI i4), (vI i5), (vI lo0), (vI hi0), (vI lo1), (vI hi1), (vI v0), (vI v1), (vI (0 : Int32)), (vI v2), (vA b556), (vA b615), (vI (i5 &&& (3 : Int32))), (vJ jk), .second, (vA b639), .unset, .unset, .unset, .unset] [(.long jk), (.int (1 : Int32)), (.ref b639)]))
      obtain ⟨c647, A_647, p647, S647, P647, H647, G647⟩ := R_645
      obtain ⟨T648, h648, X648, e648, W648, st648⟩ := stJ X646 hx hZ e646 A_647 (j := (1 : Int32)) (inb_of S647 (by decide)) (g := (mkF m 205 #[(vJ i0), .second, (vJ i1), .second, (vJ i2), .second, (vJ i3), .second, (vI i4), (vI i5), (vI lo0), (vI hi0), (vI lo1), (vI hi1), (vI v0), (vI v1), (vI (0 : Int32)), (vI v2), (vA b556), (vA b615), (vI (i5 &&& (3 : Int32))), (vJ jk), .second, (vA b639), .unset, .unset, .unset, .unset] [(.long jk), (.int (1 : Int32)), (.ref b639)])) rfl rfl (hb hby at_205)
      refine DnW.of st648 ?_
      show DnW p e below s (own_Q n0) 40 3328 (T648.setTop (mkF m 206 #[(vJ i0), .second, (vJ i1), .second, (vJ i2), .second, (vJ i3), .second, (vI i4), (vI i5), (vI lo0), (vI hi0), (vI lo1), (vI hi1), (vI v0), (vI v1), (vI (0 : Int32)), (vI v2), (vA b556), (vA b615), (vI (i5 &&& (3 : Int32))), (vJ jk), .second, (vA b639), .unset, .unset, .unset, .unset] []))
      have R_647 := Arh.push A_647 p647 S647 P647 H647 G647 (v := (.long jk)) rfl W648 (inb_of S647 (by decide))
      have N647 := Fr.snoc X648 N645 gpk
      refine DnW.of (fun tt_ zz_ => XS.aload X648.here hx rfl (hb hby at_206) rfl rfl zz_) ?_
      refine DnW.of (fun tt_ zz_ => XS.iconst X648.here hx rfl (hb hby at_208) zz_) ?_
      refine DnW.of (fun tt_ zz_ => XS.lload X648.here hx rfl (hb hby at_209) rfl zz_) ?_
      show DnW p e below s (own_Q n0) 40 3328 (T648.setTop (mkF m 211 #[(vJ i0), .second, (vJ i1), .second, (vJ i2), .second, (vJ i3), .second, (vI i4), (vI i5), (vI lo0), (vI hi0), (vI lo1), (vI hi1), (vI v0), (vI v1), (vI (0 : Int32)), (vI v2), (vA b556), (vA b615), (vI (i5 &&& (3 : Int32))), (vJ jk), .second, (vA b639), .unset, .unset, .unset, .unset] [(.long jk), (.int (2 : Int32)), (.ref b639)]))
      obtain ⟨c649, A_649, p649, S649, P649, H649, G649⟩ := R_647
      obtain ⟨T650, h650, X650, e650, W650, st650⟩ := stJ X648 hx hZ e648 A_649 (j := (2 : Int32)) (inb_of S649 (by decide)) (g := (mkF m 211 #[(vJ i0), .second, (vJ i1), .second, (vJ i2), .second, (vJ i3), .second, (vI i4), (vI i5), (vI lo0), (vI hi0), (vI lo1), (vI hi1), (vI v0), (vI v1), (vI (0 : Int32)), (vI v2), (vA b556), (vA b615), (vI (i5 &&& (3 : Int32))), (vJ jk), .second, (vA b639), .unset, .unset, .unset, .unset] [(.long jk), (.int (2 : Int32)), (.ref b639)])) rfl rfl (hb hby at_211)
      refine DnW.of st650 ?_
      show DnW p e below s (own_Q n0) 40 3328 (T650.setTop (mkF m 212 #[(vJ i0), .second, (vJ i1), .second, (vJ i2), .second, (vJ i3), .second, (vI i4), (vI i5), (vI lo0), (vI hi0), (vI lo1), (vI hi1), (vI v0), (vI v1), (vI (0 : Int32)), (vI v2), (vA b556), (vA b615), (vI (i5 &&& (3 : Int32))), (vJ jk), .second, (vA b639), .unset, .unset, .unset, .unset] []))
      have R_649 := Arh.push A_649 p649 S649 P649 H649 G649 (v := (.long jk)) rfl W650 (inb_of S649 (by decide))
      have N649 := Fr.snoc X650 N647 gpk
      refine DnW.of (fun tt_ zz_ => XS.aload X650.here hx rfl (hb hby at_212) rfl rfl zz_) ?_
      refine DnW.of (fun tt_ zz_ => XS.iconst X650.here hx rfl (hb hby at_214) zz_) ?_
      refine DnW.of (fun tt_ zz_ => XS.lload X650.here hx rfl (hb hby at_215) rfl zz_) ?_
      show DnW p e below s (own_Q n0) 40 3328 (T650.setTop (mkF m 217 #[(vJ i0), .second, (vJ i1), .second, (vJ i2), .second, (vJ i3), .second, (vI i4), (vI i5), (vI lo0), (vI hi0), (vI lo1), (vI hi1), (vI v0), (vI v1), (vI (0 : Int32)), (vI v2), (vA b556), (vA b615), (vI (i5 &&& (3 : Int32))), (vJ jk), .second, (vA b639), .unset, .unset, .unset, .unset] [(.long jk), (.int (3 : Int32)), (.ref b639)]))
      obtain ⟨c651, A_651, p651, S651, P651, H651, G651⟩ := R_649
      obtain ⟨T652, h652, X652, e652, W652, st652⟩ := stJ X650 hx hZ e650 A_651 (j := (3 : Int32)) (inb_of S651 (by decide)) (g := (mkF m 217 #[(vJ i0), .second, (vJ i1), .second, (vJ i2), .second, (vJ i3), .second, (vI i4), (vI i5), (vI lo0), (vI hi0), (vI lo1), (vI hi1), (vI v0), (vI v1), (vI (0 : Int32)), (vI v2), (vA b556), (vA b615), (vI (i5 &&& (3 : Int32))), (vJ jk), .second, (vA b639), .unset, .unset, .unset, .unset] [(.long jk), (.int (3 : Int32)), (.ref b639)])) rfl rfl (hb hby at_217)
      refine DnW.of st652 ?_
      show DnW p e below s (own_Q n0) 40 3328 (T652.setTop (mkF m 218 #[(vJ i0), .second, (vJ i1), .second, (vJ i2), .second, (vJ i3), .second, (vI i4), (vI i5), (vI lo0), (vI hi0), (vI lo1), (vI hi1), (vI v0), (vI v1), (vI (0 : Int32)), (vI v2), (vA b556), (vA b615), (vI (i5 &&& (3 : Int32))), (vJ jk), .second, (vA b639), .unset, .unset, .unset, .unset] []))
      have R_651 := Arh.push A_651 p651 S651 P651 H651 G651 (v := (.long jk)) rfl W652 (inb_of S651 (by decide))
      have N651 := Fr.snoc X652 N649 gpk
      refine DnW.of (fun tt_ zz_ => XS.aload X652.here hx rfl (hb hby at_218) rfl rfl zz_) ?_
      refine DnW.of (fun tt_ zz_ => XS.iconst X652.here hx rfl (hb hby at_220) zz_) ?_
      refine DnW.of (fun tt_ zz_ => XS.lload X652.here hx rfl (hb hby at_221) rfl zz_) ?_
      show DnW p e below s (own_Q n0) 40 3328 (T652.setTop (mkF m 223 #[(vJ i0), .second, (vJ i1), .second, (vJ i2), .second, (vJ i3), .second, (vI i4), (vI i5), (vI lo0), (vI hi0), (vI lo1), (vI hi1), (vI v0), (vI v1), (vI (0 : Int32)), (vI v2), (vA b556), (vA b615), (vI (i5 &&& (3 : Int32))), (vJ jk), .second, (vA b639), .unset, .unset, .unset, .unset] [(.long jk), (.int (4 : Int32)), (.ref b639)]))
      obtain ⟨c653, A_653, p653, S653, P653, H653, G653⟩ := R_651
      obtain ⟨T654, h654, X654, e654, W654, st654⟩ := stJ X652 hx hZ e652 A_653 (j := (4 : Int32)) (inb_of S653 (by decide)) (g := (mkF m 223 #[(vJ i0), .second, (vJ i1), .second, (vJ i2), .second, (vJ i3), .second, (vI i4), (vI i5), (vI lo0), (vI hi0), (vI lo1), (vI hi1), (vI v0), (vI v1), (vI (0 : Int32)), (vI v2), (vA b556), (vA b615), (vI (i5 &&& (3 : Int32))), (vJ jk), .second, (vA b639), .unset, .unset, .unset, .unset] [(.long jk), (.int (4 : Int32)), (.ref b639)])) rfl rfl (hb hby at_223)
      refine DnW.of st654 ?_
      show DnW p e below s (own_Q n0) 40 3328 (T654.setTop (mkF m 224 #[(vJ i0), .second, (vJ i1), .second, (vJ i2), .second, (vJ i3), .second, (vI i4), (vI i5), (vI lo0), (vI hi0), (vI lo1), (vI hi1), (vI v0), (vI v1), (vI (0 : Int32)), (vI v2), (vA b556), (vA b615), (vI (i5 &&& (3 : Int32))), (vJ jk), .second, (vA b639), .unset, .unset, .unset, .unset] []))
      have R_653 := Arh.push A_653 p653 S653 P653 H653 G653 (v := (.long jk)) rfl W654 (inb_of S653 (by decide))
      have N653 := Fr.snoc X654 N651 gpk
      refine DnW.of (fun tt_ zz_ => XS.aload X654.here hx rfl (hb hby at_224) rfl rfl zz_) ?_
      refine DnW.of (fun tt_ zz_ => XS.iconst X654.here hx rfl (hb hby at_226) zz_) ?_
      refine DnW.of (fun tt_ zz_ => XS.lload X654.here hx rfl (hb hby at_227) rfl zz_) ?_
      show DnW p e below s (own_Q n0) 40 3328 (T654.setTop (mkF m 229 #[(vJ i0), .second, (vJ i1), .second, (vJ i2), .second, (vJ i3), .second, (vI i4), (vI i5), (vI lo0), (vI hi0), (vI lo1), (vI hi1), (vI v0), (vI v1), (vI (0 : Int32)), (vI v2), (vA b556), (vA b615), (vI (i5 &&& (3 : Int32))), (vJ jk), .second, (vA b639), .unset, .unset, .unset, .unset] [(.long jk), (.int (5 : Int32)), (.ref b639)]))
      obtain ⟨c655, A_655, p655, S655, P655, H655, G655⟩ := R_653
      obtain ⟨T656, h656, X656, e656, W656, st656⟩ := stJ X654 hx hZ e654 A_655 (j := (5 : Int32)) (inb_of S655 (by decide)) (g := (mkF m 229 #[(vJ i0), .second, (vJ i1), .second, (vJ i2), .second, (vJ i3), .second, (vI i4), (vI i5), (vI lo0), (vI hi0), (vI lo1), (vI hi1), (vI v0), (vI v1), (vI (0 : Int32)), (vI v2), (vA b556), (vA b615), (vI (i5 &&& (3 : Int32))), (vJ jk), .second, (vA b639), .unset, .unset, .unset, .unset] [(.long jk), (.int (5 : Int32)), (.ref b639)])) rfl rfl (hb hby at_229)
      refine DnW.of st656 ?_
      show DnW p e below s (own_Q n0) 40 3328 (T656.setTop (mkF m 230 #[(vJ i0), .second, (vJ i1), .second, (vJ i2), .second, (vJ i3), .second, (vI i4), (vI i5), (vI lo0), (vI hi0), (vI lo1), (vI hi1), (vI v0), (vI v1), (vI (0 : Int32)), (vI v2), (vA b556), (vA b615), (vI (i5 &&& (3 : Int32))), (vJ jk), .second, (vA b639), .unset, .unset, .unset, .unset] []))
      have R_655 := Arh.push A_655 p655 S655 P655 H655 G655 (v := (.long jk)) rfl W656 (inb_of S655 (by decide))
      have N655 := Fr.snoc X656 N653 gpk
      refine DnW.of (fun tt_ zz_ => XS.iconst X656.here hx rfl (hb hby at_230) zz_) ?_
      show DnW p e below s (own_Q n0) 40 3328 (T656.setTop (mkF m 231 #[(vJ i0), .second, (vJ i1), .second, (vJ i2), .second, (vJ i3), .second, (vI i4), (vI i5), (vI lo0), (vI hi0), (vI lo1), (vI hi1), (vI v0), (vI v1), (vI (0 : Int32)), (vI v2), (vA b556), (vA b615), (vI (i5 &&& (3 : Int32))), (vJ jk), .second, (vA b639), .unset, .unset, .unset, .unset] [(.int (3 : Int32))]))
      have F657 := (Nat.le_trans (Nat.le_trans (Nat.le_trans (Nat.le_trans (Nat.le_trans (Nat.le_trans (Nat.le_trans F637 E639.1) (Nat.le_of_eq W646.size.symm)) (Nat.le_of_eq W648.size.symm)) (Nat.le_of_eq W650.size.symm)) (Nat.le_of_eq W652.size.symm)) (Nat.le_of_eq W654.size.symm)) (Nat.le_of_eq W656.size.symm))
      obtain ⟨T658, h658, k658, X658, e658, E658, A658, st658⟩ := newP X656 hx hZ (hg 141 rfl) e656 (g := (mkF m 231 #[(vJ i0), .second, (vJ i1), .second, (vJ i2), .second, (vJ i3), .second, (vI i4), (vI i5), (vI lo0), (vI hi0), (vI lo1), (vI hi1), (vI v0), (vI v1), (vI (0 : Int32)), (vI v2), (vA b556), (vA b615), (vI (i5 &&& (3 : Int32))), (vJ jk), .second, (vA b639), .unset, .unset, .unset, .unset] [(.int (3 : Int32))])) rfl (hb hby at_231) rfl (by decide) (cap := 3) (by decide) (by decide) (by decide) (by decide)
      obtain ⟨b658, g658⟩ : ∃ z, z = h656.size := ⟨_, rfl⟩
      rw [← g658] at A658 st658
      refine DnW.of st658 ?_
      show DnW p e below s (own_Q n0) 40 3328 (T658.setTop (mkF m 233 #[(vJ i0), .second, (vJ i1), .second, (vJ i2), .second, (vJ i3), .second, (vI i4), (vI i5), (vI lo0), (vI hi0), (vI lo1), (vI hi1), (vI v0), (vI v1), (vI (0 : Int32)), (vI v2), (vA b556), (vA b615), (vI (i5 &&& (3 : Int32))), (vJ jk), .second, (vA b639), .unset, .unset, .unset, .unset] [(.ref b658)]))
      have F659 := (((((((F638.ext E639).wr W646).wr W648).wr W650).wr W652).wr W654).wr W656)
      have n660 : b615 ≠ b658 := Nat.ne_of_lt (g658 ▸ F659.lt)
      have F661 := (((((((RW.ext E639).other W646 n641).other W648 n641).other W650 n641).other W652 n641).other W654 n641).other W656 n641)
      have n662 : bw ≠ b658 := Nat.ne_of_lt (g658 ▸ F661.lt)
      have F663 := (((((((RS.ext E639).other W646 n642).other W648 n642).other W650 n642).other W652 n642).other W654 n642).other W656 n642)
      have n664 : bs ≠ b658 := Nat.ne_of_lt (g658 ▸ F663.lt)
      have F665 := (((((((RM.ext E639).other W646 n643).other W648 n643).other W650 n643).other W652 n643).other W654 n643).other W656 n643)
      have n666 : bm ≠ b658 := Nat.ne_of_lt (g658 ▸ F665.lt)
      have F667 := (((((((RL.ext E639).other W646 n644).other W648 n644).other W650 n644).other W652 n644).other W654 n644).other W656 n644)
      have n668 : bl ≠ b658 := Nat.ne_of_lt (g658 ▸ F667.lt)
      have n669 : b639 ≠ b658 := Nat.ne_of_lt (g658 ▸ R_655.lt)
      have gva : n0 ≤ b658 := g658 ▸ F657
      have RV : Arh Z h658 b658 k658 .int 3 [] [] (.int 0) := (Arv.new A658 (by decide)).arh
      refine DnW.of (fun tt_ zz_ => XS.astore X658.here hx rfl (hb hby at_233) rfl rfl (l' := #[(vJ i0), .second, (vJ i1), .second, (vJ i2), .second, (vJ i3), .second, (vI i4), (vI i5), (vI lo0), (vI hi0), (vI lo1), (vI hi1), (vI v0), (vI v1), (vI (0 : Int32)), (vI v2), (vA b556), (vA b615), (vI (i5 &&& (3 : Int32))), (vJ jk), .second, (vA b639), (vA b658), .unset, .unset, .unset]) rfl zz_) ?_
      refine DnW.of (fun tt_ zz_ => XS.aload X658.here hx rfl (hb hby at_235) rfl rfl zz_) ?_
      refine DnW.of (fun tt_ zz_ => XS.iconst X658.here hx rfl (hb hby at_237) zz_) ?_
      refine DnW.of (fun tt_ zz_ => XS.iload X658.here hx rfl (hb hby at_238) rfl zz_) ?_
      show DnW p e below s (own_Q n0) 40 3328 (T658.setTop (mkF m 240 #[(vJ i0), .second, (vJ i1), .second, (vJ i2), .second, (vJ i3), .second, (vI i4), (vI i5), (vI lo0), (vI hi0), (vI lo1), (vI hi1), (vI v0), (vI v1), (vI (0 : Int32)), (vI v2), (vA b556), (vA b615), (vI (i5 &&& (3 : Int32))), (vJ jk), .second, (vA b639), (vA b658), .unset, .unset, .unset] [(.int v0), (.int (0 : Int32)), (.ref b658)]))
      obtain ⟨c670, A_670, p670, S670, P670, H670, G670⟩ := RV
      obtain ⟨T671, h671, X671, e671, W671, st671⟩ := stI X658 hx hZ e658 A_670 (j := (0 : Int32)) (inb_of S670 (by decide)) (g := (mkF m 240 #[(vJ i0), .second, (vJ i1), .second, (vJ i2), .second, (vJ i3), .second, (vI i4), (vI i5), (vI lo0), (vI hi0), (vI lo1), (vI hi1), (vI v0), (vI v1), (vI (0 : Int32)), (vI v2), (vA b556), (vA b615), (vI (i5 &&& (3 : Int32))), (vJ jk), .second, (vA b639), (vA b658), .unset, .unset, .unset] [(.int v0), (.int (0 : Int32)), (.ref b658)])) rfl rfl (hb hby at_240)
      refine DnW.of st671 ?_
      show DnW p e below s (own_Q n0) 40 3328 (T671.setTop (mkF m 241 #[(vJ i0), .second, (vJ i1), .second, (vJ i2), .second, (vJ i3), .second, (vI i4), (vI i5), (vI lo0), (vI hi0), (vI lo1), (vI hi1), (vI v0), (vI v1), (vI (0 : Int32)), (vI v2), (vA b556), (vA b615), (vI (i5 &&& (3 : Int32))), (vJ jk), .second, (vA b639), (vA b658), .unset, .unset, .unset] []))
      have R_670 := Arh.push A_670 p670 S670 P670 H670 G670 (v := (.int v0)) rfl W671 (inb_of S670 (by decide))
      have N670 := Fr.snoc X671 N655 gva
      refine DnW.of (fun tt_ zz_ => XS.aload X671.here hx rfl (hb hby at_241) rfl rfl zz_) ?_
      refine DnW.of (fun tt_ zz_ => XS.iconst X671.here hx rfl (hb hby at_243) zz_) ?_
      refine DnW.of (fun tt_ zz_ => XS.iload X671.here hx rfl (hb hby at_244) rfl zz_) ?_
      show DnW p e below s (own_Q n0) 40 3328 (T671.setTop (mkF m 246 #[(vJ i0), .second, (vJ i1), .second, (vJ i2), .second, (vJ i3), .second, (vI i4), (vI i5), (vI lo0), (vI hi0), (vI lo1), (vI hi1), (vI v0), (vI v1), (vI (0 : Int32)), (vI v2), (vA b556), (vA b615), (vI (i5 &&& (3 : Int32))), (vJ jk), .second, (vA b639), (vA b658), .unset, .unset, .unset] [(.int v1), (.int (1 : Int32)), (.ref b658)]))
      obtain ⟨c672, A_672, p672, S672, P672, H672, G672⟩ := R_670
      obtain ⟨T673, h673, X673, e673, W673, st673⟩ := stI X671 hx hZ e671 A_672 (j := (1 : Int32)) (inb_of S672 (by decide)) (g := (mkF m 246 #[(vJ i0), .second, (vJ i1), .second, (vJ i2), .second, (vJ i3), .second, (vI i4), (vI i5), (vI lo0), (vI hi0), (vI lo1), (vI hi1), (vI v0), (vI v1), (vI (0 : Int32)), (vI v2), (vA b556), (vA b615), (vI (i5 &&& (3 : Int32))), (vJ jk), .second, (vA b639), (vA b658), .unset, .unset, .unset] [(.int v1), (.int (1 : Int32)), (.ref b658)])) rfl rfl (hb hby at_246)
      refine DnW.of st673 ?_
      show DnW p e below s (own_Q n0) 40 3328 (T673.setTop (mkF m 247 #[(vJ i0), .second, (vJ i1), .second, (vJ i2), .second, (vJ i3), .second, (vI i4), (vI i5), (vI lo0), (vI hi0), (vI lo1), (vI hi1), (vI v0), (vI v1), (vI (0 : Int32)), (vI v2), (vA b556), (vA b615), (vI (i5 &&& (3 : Int32))), (vJ jk), .second, (vA b639), (vA b658), .unset, .unset, .unset] []))
      have R_672 := Arh.push A_672 p672 S672 P672 H672 G672 (v := (.int v1)) rfl W673 (inb_of S672 (by decide))
      have N672 := Fr.snoc X673 N670 gva
      refine DnW.of (fun tt_ zz_ => XS.aload X673.here hx rfl (hb hby at_247) rfl rfl zz_) ?_
      refine DnW.of (fun tt_ zz_ => XS.iconst X673.here hx rfl (hb hby at_249) zz_) ?_
      refine DnW.of (fun tt_ zz_ => XS.iload X673.here hx rfl (hb hby at_250) rfl zz_) ?_
      show DnW p e below s (own_Q n0) 40 3328 (T673.setTop (mkF m 252 #[(vJ i0), .second, (vJ i1), .second, (vJ i2), .second, (vJ i3), .second, (vI i4), (vI i5), (vI lo0), (vI hi0), (vI lo1), (vI hi1), (vI v0), (vI v1), (vI (0 : Int32)), (vI v2), (vA b556), (vA b615), (vI (i5 &&& (3 : Int32))), (vJ jk), .second, (vA b639), (vA b658), .unset, .unset, .unset] [(.int v2), (.int (2 : Int32)), (.ref b658)]))
      obtain ⟨c674, A_674, p674, S674, P674, H674, G674⟩ := R_672
      obtain ⟨T675, h675, X675, e675, W675, st675⟩ := stI X673 hx hZ e673 A_674 (j := (2 : Int32)) (inb_of S674 (by decide)) (g := (mkF m 252 #[(vJ i0), .second, (vJ i1), .second, (vJ i2), .second, (vJ i3), .second, (vI i4), (vI i5), (vI lo0), (vI hi0), (vI lo1), (vI hi1), (vI v0), (vI v1), (vI (0 : Int32)), (vI v2), (vA b556), (vA b615), (vI (i5 &&& (3 : Int32))), (vJ jk), .second, (vA b639), (vA b658), .unset, .unset, .unset] [(.int v2), (.int (2 : Int32)), (.ref b658)])) rfl rfl (hb hby at_252)
      refine DnW.of st675 ?_
      show DnW p e below s (own_Q n0) 40 3328 (T675.setTop (mkF m 253 #[(vJ i0), .second, (vJ i1), .second, (vJ i2), .second, (vJ i3), .second, (vI i4), (vI i5), (vI lo0), (vI hi0), (vI lo1), (vI hi1), (vI v0), (vI v1), (vI (0 : Int32)), (vI v2), (vA b556), (vA b615), (vI (i5 &&& (3 : Int32))), (vJ jk), .second, (vA b639), (vA b658), .unset, .unset, .unset] []))
      have R_674 := Arh.push A_674 p674 S674 P674 H674 G674 (v := (.int v2)) rfl W675 (inb_of S674 (by decide))
      have N674 := Fr.snoc X675 N672 gva
      refine DnW.of (fun tt_ zz_ => XS.aload X675.here hx rfl (hb hby at_253) rfl rfl zz_) ?_
      refine DnW.of (fun tt_ zz_ => XS.aload X675.here hx rfl (hb hby at_255) rfl rfl zz_) ?_
      refine DnW.of (fun tt_ zz_ => XS.aload X675.here hx rfl (hb hby at_257) rfl rfl zz_) ?_
      refine DnW.of (fun tt_ zz_ => XS.iload X675.here hx rfl (hb hby at_259) rfl zz_) ?_
      show DnW p e below s (own_Q n0) 40 3328 (T675.setTop (mkF m 261 #[(vJ i0), .second, (vJ i1), .second, (vJ i2), .second, (vJ i3), .second, (vI i4), (vI i5), (vI lo0), (vI hi0), (vI lo1), (vI hi1), (vI v0), (vI v1), (vI (0 : Int32)), (vI v2), (vA b556), (vA b615), (vI (i5 &&& (3 : Int32))), (vJ jk), .second, (vA b639), (vA b658), .unset, .unset, .unset] [(.int (i5 &&& (3 : Int32))), (.ref b639), (.ref b658), (.ref b615)]))
      have F676 := (((((((((((F635.ext E639).wr W646 gpk).wr W648 gpk).wr W650 gpk).wr W652 gpk).wr W654 gpk).wr W656 gpk).ext E658).wr W671 gva).wr W673 gva).wr W675 gva)
      have F677 := (Nat.le_trans (Nat.le_trans (Nat.le_trans (Nat.le_trans F657 E658.1) (Nat.le_of_eq W671.size.symm)) (Nat.le_of_eq W673.size.symm)) (Nat.le_of_eq W675.size.symm))
      have F678 := (((((((((((G0.ext E639).other W646 (Or.inl n640)).other W648 (Or.inl n640)).other W650 (Or.inl n640)).other W652 (Or.inl n640)).other W654 (Or.inl n640)).other W656 (Or.inl n640)).ext E658).other W671 (Or.inl n660)).other W673 (Or.inl n660)).other W675 (Or.inl n660))
      have F679 := (((((((((((G1.ext E639).other W646 (Or.inl n640)).other W648 (Or.inl n640)).other W650 (Or.inl n640)).other W652 (Or.inl n640)).other W654 (Or.inl n640)).other W656 (Or.inl n640)).ext E658).other W671 (Or.inl n660)).other W673 (Or.inl n660)).other W675 (Or.inl n660))
      have F680 := (((((((((((G2.ext E639).other W646 (Or.inl n640)).other W648 (Or.inl n640)).other W650 (Or.inl n640)).other W652 (Or.inl n640)).other W654 (Or.inl n640)).other W656 (Or.inl n640)).ext E658).other W671 (Or.inl n660)).other W673 (Or.inl n660)).other W675 (Or.inl n660))
      have F681 := (((((((((((G3.ext E639).other W646 (Or.inl n640)).other W648 (Or.inl n640)).other W650 (Or.inl n640)).other W652 (Or.inl n640)).other W654 (Or.inl n640)).other W656 (Or.inl n640)).ext E658).other W671 (Or.inl n660)).other W673 (Or.inl n660)).other W675 (Or.inl n660))
      have F682 := (((((((((((G4.ext E639).other W646 (Or.inl n640)).other W648 (Or.inl n640)).other W650 (Or.inl n640)).other W652 (Or.inl n640)).other W654 (Or.inl n640)).other W656 (Or.inl n640)).ext E658).other W671 (Or.inl n660)).other W673 (Or.inl n660)).other W675 (Or.inl n660))
      have F683 := ((((F661.ext E658).other W671 n662).other W673 n662).other W675 n662)
      have F684 := ((((F663.ext E658).other W671 n664).other W673 n664).other W675 n664)
      have F685 := ((((F665.ext E658).other W671 n666).other W673 n666).other W675 n666)
      have F686 := ((((F667.ext E658).other W671 n668).other W673 n668).other W675 n668)
      have F687 := ((((F659.ext E658).wr W671).wr W673).wr W675)
      have F688 := ((((R_655.ext E658).other W671 n669).other W673 n669).other W675 n669)
      have hpk := rmPk1 l Z a0 hw h675 n0 F677 b615 bw bs bm bl kw ks km kl b0 b1 b2 lo0 lo1 (0 : Int32) (b0 + b1) F678 F679 F680 F681 F682 F683 F684 F685 F686 F687 b658 b639 _ _ v0 v1 v2 (i5 &&& (3 : Int32)) _ cf.1 cf.2 R_674 F688 n640 n641 n642 n644 (Ne.symm n669) gpk
      obtain ⟨v689, T689, L689, Q689, X689, st689⟩ := cVi X675 hx hZ (C := "com/example/verify_markov_chains/verifymarkovchains/explicit/StateLayout") (y := (⟨"com/example/verify_markov_chains/verifymarkovchains/explicit/StateLayout", "pack", "([I[JI)V"⟩ : MethodName)) (z := (⟨"com/example/verify_markov_chains/verifymarkovchains/explicit/StateLayout", "pack", "([I[JI)V"⟩ : MethodName)) hown (hg 207 rfl) (hg 208 rfl) (notFace_of_selects (args := #[]) (mvT hZ (hg 210 rfl))) (hg 210 rfl) (hg 209 rfl) (hg 127 rfl) (hg 211 rfl) (by decide) (a := b615) (argsL := [(.ref b658), (.ref b639), (.int (i5 &&& (3 : Int32)))]) (rest := []) (hpk) e675 F687 0 (by decide) (by decide) (by decide) (by decide) (g := (mkF m 261 #[(vJ i0), .second, (vJ i1), .second, (vJ i2), .second, (vJ i3), .second, (vI i4), (vI i5), (vI lo0), (vI hi0), (vI lo1), (vI hi1), (vI v0), (vI v1), (vI (0 : Int32)), (vI v2), (vA b556), (vA b615), (vI (i5 &&& (3 : Int32))), (vJ jk), .second, (vA b639), (vA b658), .unset, .unset, .unset] [(.int (i5 &&& (3 : Int32))), (.ref b639), (.ref b658), (.ref b615)])) rfl (by rw [hml]; rfl) (lenOf pd21 rfl) rfl (by show 2 * 0 + _ ≤ _; exact Nat.le_of_eq rfl) (hb hby at_261)
      obtain ⟨rfl, Mp, Kp, hs, RP', y1, y2⟩ := Q689
      refine DnW.of st689 ?_
      show DnW p e below s (own_Q n0) 40 3328 (T689.setTop (mkF m 264 #[(vJ i0), .second, (vJ i1), .second, (vJ i2), .second, (vJ i3), .second, (vI i4), (vI i5), (vI lo0), (vI hi0), (vI lo1), (vI hi1), (vI v0), (vI v1), (vI (0 : Int32)), (vI v2), (vA b556), (vA b615), (vI (i5 &&& (3 : Int32))), (vJ jk), .second, (vA b639), (vA b658), .unset, .unset, .unset] []))
      refine DnW.of (fun tt_ zz_ => XS.aload X689.here hx rfl (hb hby at_264) rfl rfl zz_) ?_
      refine DnW.of (fun tt_ zz_ => XS.aload X689.here hx rfl (hb hby at_266) rfl rfl zz_) ?_
      refine DnW.of (fun tt_ zz_ => XS.iload X689.here hx rfl (hb hby at_268) rfl zz_) ?_
      refine DnW.of (fun tt_ zz_ => XS.iconst X689.here hx rfl (hb hby at_270) zz_) ?_
      show DnW p e below s (own_Q n0) 40 3328 (T689.setTop (mkF m 271 #[(vJ i0), .second, (vJ i1), .second, (vJ i2), .second, (vJ i3), .second, (vI i4), (vI i5), (vI lo0), (vI hi0), (vI lo1), (vI hi1), (vI v0), (vI v1), (vI (0 : Int32)), (vI v2), (vA b556), (vA b615), (vI (i5 &&& (3 : Int32))), (vJ jk), .second, (vA b639), (vA b658), .unset, .unset, .unset] [(.int (0 : Int32)), (.int (i5 &&& (3 : Int32))), (.ref b639), (.ref b615)]))
      have F690 := (F678.keep Kp (ninS n640 nin0))
      have F691 := (F679.keep Kp (ninS n640 nin0))
      have F692 := (F680.keep Kp (ninS n640 nin0))
      have F693 := (F681.keep Kp (ninS n640 nin0))
      have F694 := (F682.keep Kp (ninS n640 nin0))
      have F695 := (F683.keep Kp (ninS n641 nin0))
      have F696 := (F684.keep Kp (ninS n642 nin0))
      have F697 := (F685.keep Kp (ninS n643 nin0))
      have F698 := (F686.keep Kp (ninS n644 nin0))
      have F699 := (F687.keep Kp)
      have F700 := (Nat.le_trans F677 Kp.1)
      have F701 := (Nat.le_trans (Nat.le_trans (Nat.le_trans (Nat.le_trans (Nat.le_trans (Nat.le_trans (Nat.le_trans (Nat.le_trans (Nat.le_trans (Nat.le_trans (Nat.le_trans (Nat.le_trans F636 E639.1) (Nat.le_of_eq W646.size.symm)) (Nat.le_of_eq W648.size.symm)) (Nat.le_of_eq W650.size.symm)) (Nat.le_of_eq W652.size.symm)) (Nat.le_of_eq W654.size.symm)) (Nat.le_of_eq W656.size.symm)) E658.1) (Nat.le_of_eq W671.size.symm)) (Nat.le_of_eq W673.size.symm)) (Nat.le_of_eq W675.size.symm)) Kp.1)
      have ff := own_f cf.1 cf.2
      have fin := own_fit R0 R1 R2 P0 P1 P2 S2 hfit
      obtain ⟨v702, T702, L702, Q702, X702, st702⟩ := cVi X689 hx hZ (C := "com/example/verify_markov_chains/verifymarkovchains/explicit/StateLayout") (y := (⟨"com/example/verify_markov_chains/verifymarkovchains/explicit/StateLayout", "value", "([JII)I"⟩ : MethodName)) (z := (⟨"com/example/verify_markov_chains/verifymarkovchains/explicit/StateLayout", "value", "([JII)I"⟩ : MethodName)) hown (hg 219 rfl) (hg 220 rfl) (notFace_of_selects (args := #[]) (mvT hZ (hg 222 rfl))) (hg 222 rfl) (hg 221 rfl) (hg 127 rfl) (hg 223 rfl) (by decide) (a := b615) (argsL := [(.ref b639), (.int (i5 &&& (3 : Int32))), (.int (0 : Int32))]) (rest := []) (rmVal l Z a0 hw T689.heap n0 F700 b615 bw bs bm bl kw ks km kl b0 b1 b2 lo0 lo1 (0 : Int32) (0 : Int32) (1 : Int32) (b0 + b1) F690 F691 F692 F693 F694 F695 F696 F697 F698 b639 _ hs (i5 &&& (3 : Int32)) (0 : Int32) (0 : Int32) (0 : Int32) lo0 (own_mask b0) ((own_w2 (own_x v0 lo0) (own_x v1 lo1) b0) ||| (own_sh (own_x v2 (0 : Int32)) (b0 + b1))) (by decide) rfl rfl rfl rfl ff.2.2.2.1 RP' y1) rfl F699 0 (by decide) (by decide) (by decide) (by decide) (g := (mkF m 271 #[(vJ i0), .second, (vJ i1), .second, (vJ i2), .second, (vJ i3), .second, (vI i4), (vI i5), (vI lo0), (vI hi0), (vI lo1), (vI hi1), (vI v0), (vI v1), (vI (0 : Int32)), (vI v2), (vA b556), (vA b615), (vI (i5 &&& (3 : Int32))), (vJ jk), .second, (vA b639), (vA b658), .unset, .unset, .unset] [(.int (0 : Int32)), (.int (i5 &&& (3 : Int32))), (.ref b639), (.ref b615)])) rfl (by rw [hml]; rfl) (lenOf pd22 rfl) rfl (by show 2 * 0 + _ ≤ _; exact Nat.le_of_eq rfl) (hb hby at_271)
      rw [fin.1] at Q702
      obtain ⟨rfl, Mv0, e702⟩ := Q702
      refine DnW.of st702 ?_
      show DnW p e below s (own_Q n0) 40 3328 (T702.setTop (mkF m 274 #[(vJ i0), .second, (vJ i1), .second, (vJ i2), .second, (vJ i3), .second, (vI i4), (vI i5), (vI lo0), (vI hi0), (vI lo1), (vI hi1), (vI v0), (vI v1), (vI (0 : Int32)), (vI v2), (vA b556), (vA b615), (vI (i5 &&& (3 : Int32))), (vJ jk), .second, (vA b639), (vA b658), .unset, .unset, .unset] [(.int v0)]))
      refine DnW.of (fun tt_ zz_ => XS.istore X702.here hx rfl (hb hby at_274) rfl (l' := #[(vJ i0), .second, (vJ i1), .second, (vJ i2), .second, (vJ i3), .second, (vI i4), (vI i5), (vI lo0), (vI hi0), (vI lo1), (vI hi1), (vI v0), (vI v1), (vI (0 : Int32)), (vI v2), (vA b556), (vA b615), (vI (i5 &&& (3 : Int32))), (vJ jk), .second, (vA b639), (vA b658), (vI v0), .unset, .unset]) rfl zz_) ?_
      refine DnW.of (fun tt_ zz_ => XS.aload X702.here hx rfl (hb hby at_276) rfl rfl zz_) ?_
      refine DnW.of (fun tt_ zz_ => XS.aload X702.here hx rfl (hb hby at_278) rfl rfl zz_) ?_
      refine DnW.of (fun tt_ zz_ => XS.iload X702.here hx rfl (hb hby at_280) rfl zz_) ?_
      show DnW p e below s (own_Q n0) 40 3328 (T702.setTop (mkF m 282 #[(vJ i0), .second, (vJ i1), .second, (vJ i2), .second, (vJ i3), .second, (vI i4), (vI i5), (vI lo0), (vI hi0), (vI lo1), (vI hi1), (vI v0), (vI v1), (vI (0 : Int32)), (vI v2), (vA b556), (vA b615), (vI (i5 &&& (3 : Int32))), (vJ jk), .second, (vA b639), (vA b658), (vI v0), .unset, .unset] [(.int (i5 &&& (3 : Int32))), (.ref b639), (.ref b615)]))
      refine DnW.of (fun tt_ zz_ => XS.iconst X702.here hx rfl (hb hby at_282) zz_) ?_
      show DnW p e below s (own_Q n0) 40 3328 (T702.setTop (mkF m 283 #[(vJ i0), .second, (vJ i1), .second, (vJ i2), .second, (vJ i3), .second, (vI i4), (vI i5), (vI lo0), (vI hi0), (vI lo1), (vI hi1), (vI v0), (vI v1), (vI (0 : Int32)), (vI v2), (vA b556), (vA b615), (vI (i5 &&& (3 : Int32))), (vJ jk), .second, (vA b639), (vA b658), (vI v0), .unset, .unset] [(.int (1 : Int32)), (.int (i5 &&& (3 : Int32))), (.ref b639), (.ref b615)]))
      obtain ⟨v703, T703, L703, Q703, X703, st703⟩ := cVi X702 hx hZ (C := "com/example/verify_markov_chains/verifymarkovchains/explicit/StateLayout") (y := (⟨"com/example/verify_markov_chains/verifymarkovchains/explicit/StateLayout", "value", "([JII)I"⟩ : MethodName)) (z := (⟨"com/example/verify_markov_chains/verifymarkovchains/explicit/StateLayout", "value", "([JII)I"⟩ : MethodName)) hown (hg 219 rfl) (hg 220 rfl) (notFace_of_selects (args := #[]) (mvT hZ (hg 222 rfl))) (hg 222 rfl) (hg 221 rfl) (hg 127 rfl) (hg 223 rfl) (by decide) (a := b615) (argsL := [(.ref b639), (.int (i5 &&& (3 : Int32))), (.int (1 : Int32))]) (rest := []) (rmVal l Z a0 hw T689.heap n0 F700 b615 bw bs bm bl kw ks km kl b0 b1 b2 lo0 lo1 (0 : Int32) (0 : Int32) (1 : Int32) (b0 + b1) F690 F691 F692 F693 F694 F695 F696 F697 F698 b639 _ hs (i5 &&& (3 : Int32)) (1 : Int32) (0 : Int32) b0 lo1 (own_mask b1) ((own_w2 (own_x v0 lo0) (own_x v1 lo1) b0) ||| (own_sh (own_x v2 (0 : Int32)) (b0 + b1))) (by decide) rfl rfl rfl rfl ff.2.2.2.1 RP' y1) e702 F699 0 (by decide) (by decide) (by decide) (by decide) (g := (mkF m 283 #[(vJ i0), .second, (vJ i1), .second, (vJ i2), .second, (vJ i3), .second, (vI i4), (vI i5), (vI lo0), (vI hi0), (vI lo1), (vI hi1), (vI v0), (vI v1), (vI (0 : Int32)), (vI v2), (vA b556), (vA b615), (vI (i5 &&& (3 : Int32))), (vJ jk), .second, (vA b639), (vA b658), (vI v0), .unset, .unset] [(.int (1 : Int32)), (.int (i5 &&& (3 : Int32))), (.ref b639), (.ref b615)])) rfl (by rw [hml]; rfl) (lenOf pd22 rfl) rfl (by show 2 * 0 + _ ≤ _; exact Nat.le_of_eq rfl) (hb hby at_283)
      rw [fin.2.1] at Q703
      obtain ⟨rfl, Mv1, e703⟩ := Q703
      refine DnW.of st703 ?_
      show DnW p e below s (own_Q n0) 40 3328 (T703.setTop (mkF m 286 #[(vJ i0), .second, (vJ i1), .second, (vJ i2), .second, (vJ i3), .second, (vI i4), (vI i5), (vI lo0), (vI hi0), (vI lo1), (vI hi1), (vI v0), (vI v1), (vI (0 : Int32)), (vI v2), (vA b556), (vA b615), (vI (i5 &&& (3 : Int32))), (vJ jk), .second, (vA b639), (vA b658), (vI v0), .unset, .unset] [(.int v1)]))
      refine DnW.of (fun tt_ zz_ => XS.istore X703.here hx rfl (hb hby at_286) rfl (l' := #[(vJ i0), .second, (vJ i1), .second, (vJ i2), .second, (vJ i3), .second, (vI i4), (vI i5), (vI lo0), (vI hi0), (vI lo1), (vI hi1), (vI v0), (vI v1), (vI (0 : Int32)), (vI v2), (vA b556), (vA b615), (vI (i5 &&& (3 : Int32))), (vJ jk), .second, (vA b639), (vA b658), (vI v0), (vI v1), .unset]) rfl zz_) ?_
      refine DnW.of (fun tt_ zz_ => XS.aload X703.here hx rfl (hb hby at_288) rfl rfl zz_) ?_
      refine DnW.of (fun tt_ zz_ => XS.aload X703.here hx rfl (hb hby at_290) rfl rfl zz_) ?_
      refine DnW.of (fun tt_ zz_ => XS.iload X703.here hx rfl (hb hby at_292) rfl zz_) ?_
      show DnW p e below s (own_Q n0) 40 3328 (T703.setTop (mkF m 294 #[(vJ i0), .second, (vJ i1), .second, (vJ i2), .second, (vJ i3), .second, (vI i4), (vI i5), (vI lo0), (vI hi0), (vI lo1), (vI hi1), (vI v0), (vI v1), (vI (0 : Int32)), (vI v2), (vA b556), (vA b615), (vI (i5 &&& (3 : Int32))), (vJ jk), .second, (vA b639), (vA b658), (vI v0), (vI v1), .unset] [(.int (i5 &&& (3 : Int32))), (.ref b639), (.ref b615)]))
      refine DnW.of (fun tt_ zz_ => XS.iconst X703.here hx rfl (hb hby at_294) zz_) ?_
      show DnW p e below s (own_Q n0) 40 3328 (T703.setTop (mkF m 295 #[(vJ i0), .second, (vJ i1), .second, (vJ i2), .second, (vJ i3), .second, (vI i4), (vI i5), (vI lo0), (vI hi0), (vI lo1), (vI hi1), (vI v0), (vI v1), (vI (0 : Int32)), (vI v2), (vA b556), (vA b615), (vI (i5 &&& (3 : Int32))), (vJ jk), .second, (vA b639), (vA b658), (vI v0), (vI v1), .unset] [(.int (2 : Int32)), (.int (i5 &&& (3 : Int32))), (.ref b639), (.ref b615)]))
      obtain ⟨v704, T704, L704, Q704, X704, st704⟩ := cVi X703 hx hZ (C := "com/example/verify_markov_chains/verifymarkovchains/explicit/StateLayout") (y := (⟨"com/example/verify_markov_chains/verifymarkovchains/explicit/StateLayout", "value", "([JII)I"⟩ : MethodName)) (z := (⟨"com/example/verify_markov_chains/verifymarkovchains/explicit/StateLayout", "value", "([JII)I"⟩ : MethodName)) hown (hg 219 rfl) (hg 220 rfl) (notFace_of_selects (args := #[]) (mvT hZ (hg 222 rfl))) (hg 222 rfl) (hg 221 rfl) (hg 127 rfl) (hg 223 rfl) (by decide) (a := b615) (argsL := [(.ref b639), (.int (i5 &&& (3 : Int32))), (.int (2 : Int32))]) (rest := []) (rmVal l Z a0 hw T689.heap n0 F700 b615 bw bs bm bl kw ks km kl b0 b1 b2 lo0 lo1 (0 : Int32) (0 : Int32) (1 : Int32) (b0 + b1) F690 F691 F692 F693 F694 F695 F696 F697 F698 b639 _ hs (i5 &&& (3 : Int32)) (2 : Int32) (0 : Int32) (b0 + b1) (0 : Int32) (own_mask b2) ((own_w2 (own_x v0 lo0) (own_x v1 lo1) b0) ||| (own_sh (own_x v2 (0 : Int32)) (b0 + b1))) (by decide) rfl rfl rfl rfl ff.2.2.2.1 RP' y2) e703 F699 0 (by decide) (by decide) (by decide) (by decide) (g := (mkF m 295 #[(vJ i0), .second, (vJ i1), .second, (vJ i2), .second, (vJ i3), .second, (vI i4), (vI i5), (vI lo0), (vI hi0), (vI lo1), (vI hi1), (vI v0), (vI v1), (vI (0 : Int32)), (vI v2), (vA b556), (vA b615), (vI (i5 &&& (3 : Int32))), (vJ jk), .second, (vA b639), (vA b658), (vI v0), (vI v1), .unset] [(.int (2 : Int32)), (.int (i5 &&& (3 : Int32))), (.ref b639), (.ref b615)])) rfl (by rw [hml]; rfl) (lenOf pd22 rfl) rfl (by show 2 * 0 + _ ≤ _; exact Nat.le_of_eq rfl) (hb hby at_295)
      rw [fin.2.2] at Q704
      obtain ⟨rfl, Mv2, e704⟩ := Q704
      refine DnW.of st704 ?_
      show DnW p e below s (own_Q n0) 40 3328 (T704.setTop (mkF m 298 #[(vJ i0), .second, (vJ i1), .second, (vJ i2), .second, (vJ i3), .second, (vI i4), (vI i5), (vI lo0), (vI hi0), (vI lo1), (vI hi1), (vI v0), (vI v1), (vI (0 : Int32)), (vI v2), (vA b556), (vA b615), (vI (i5 &&& (3 : Int32))), (vJ jk), .second, (vA b639), (vA b658), (vI v0), (vI v1), .unset] [(.int v2)]))
      refine DnW.of (fun tt_ zz_ => XS.istore X704.here hx rfl (hb hby at_298) rfl (l' := #[(vJ i0), .second, (vJ i1), .second, (vJ i2), .second, (vJ i3), .second, (vI i4), (vI i5), (vI lo0), (vI hi0), (vI lo1), (vI hi1), (vI v0), (vI v1), (vI (0 : Int32)), (vI v2), (vA b556), (vA b615), (vI (i5 &&& (3 : Int32))), (vJ jk), .second, (vA b639), (vA b658), (vI v0), (vI v1), (vI v2)]) rfl zz_) ?_
      refine DnW.of (fun tt_ zz_ => XS.iload X704.here hx rfl (hb hby at_300) rfl zz_) ?_
      refine DnW.of (fun tt_ zz_ => XS.iload X704.here hx rfl (hb hby at_302) rfl zz_) ?_
      show DnW p e below s (own_Q n0) 40 3328 (T704.setTop (mkF m 304 #[(vJ i0), .second, (vJ i1), .second, (vJ i2), .second, (vJ i3), .second, (vI i4), (vI i5), (vI lo0), (vI hi0), (vI lo1), (vI hi1), (vI v0), (vI v1), (vI (0 : Int32)), (vI v2), (vA b556), (vA b615), (vI (i5 &&& (3 : Int32))), (vJ jk), .second, (vA b639), (vA b658), (vI v0), (vI v1), (vI v2)] [(.int v0), (.int v0)]))
      refine DnW.of (fun tt_ zz_ => XS.icmpNo X704.here hx rfl (hb hby at_304) rfl (teq rfl).2 zz_) ?_
      show DnW p e below s (own_Q n0) 40 3328 (T704.setTop (mkF m 307 #[(vJ i0), .second, (vJ i1), .second, (vJ i2), .second, (vJ i3), .second, (vI i4), (vI i5), (vI lo0), (vI hi0), (vI lo1), (vI hi1), (vI v0), (vI v1), (vI (0 : Int32)), (vI v2), (vA b556), (vA b615), (vI (i5 &&& (3 : Int32))), (vJ jk), .second, (vA b639), (vA b658), (vI v0), (vI v1), (vI v2)] []))
      refine DnW.of (fun tt_ zz_ => XS.iload X704.here hx rfl (hb hby at_307) rfl zz_) ?_
      refine DnW.of (fun tt_ zz_ => XS.iload X704.here hx rfl (hb hby at_309) rfl zz_) ?_
      show DnW p e below s (own_Q n0) 40 3328 (T704.setTop (mkF m 311 #[(vJ i0), .second, (vJ i1), .second, (vJ i2), .second, (vJ i3), .second, (vI i4), (vI i5), (vI lo0), (vI hi0), (vI lo1), (vI hi1), (vI v0), (vI v1), (vI (0 : Int32)), (vI v2), (vA b556), (vA b615), (vI (i5 &&& (3 : Int32))), (vJ jk), .second, (vA b639), (vA b658), (vI v0), (vI v1), (vI v2)] [(.int v1), (.int v1)]))
      refine DnW.of (fun tt_ zz_ => XS.icmpNo X704.here hx rfl (hb hby at_311) rfl (teq rfl).2 zz_) ?_
      show DnW p e below s (own_Q n0) 40 3328 (T704.setTop (mkF m 314 #[(vJ i0), .second, (vJ i1), .second, (vJ i2), .second, (vJ i3), .second, (vI i4), (vI i5), (vI lo0), (vI hi0), (vI lo1), (vI hi1), (vI v0), (vI v1), (vI (0 : Int32)), (vI v2), (vA b556), (vA b615), (vI (i5 &&& (3 : Int32))), (vJ jk), .second, (vA b639), (vA b658), (vI v0), (vI v1), (vI v2)] []))
      refine DnW.of (fun tt_ zz_ => XS.iload X704.here hx rfl (hb hby at_314) rfl zz_) ?_
      refine DnW.of (fun tt_ zz_ => XS.iload X704.here hx rfl (hb hby at_316) rfl zz_) ?_
      show DnW p e below s (own_Q n0) 40 3328 (T704.setTop (mkF m 318 #[(vJ i0), .second, (vJ i1), .second, (vJ i2), .second, (vJ i3), .second, (vI i4), (vI i5), (vI lo0), (vI hi0), (vI lo1), (vI hi1), (vI v0), (vI v1), (vI (0 : Int32)), (vI v2), (vA b556), (vA b615), (vI (i5 &&& (3 : Int32))), (vJ jk), .second, (vA b639), (vA b658), (vI v0), (vI v1), (vI v2)] [(.int v2), (.int v2)]))
      refine DnW.of (fun tt_ zz_ => XS.icmpNo X704.here hx rfl (hb hby at_318) rfl (teq rfl).2 zz_) ?_
      show DnW p e below s (own_Q n0) 40 3328 (T704.setTop (mkF m 321 #[(vJ i0), .second, (vJ i1), .second, (vJ i2), .second, (vJ i3), .second, (vI i4), (vI i5), (vI lo0), (vI hi0), (vI lo1), (vI hi1), (vI v0), (vI v1), (vI (0 : Int32)), (vI v2), (vA b556), (vA b615), (vI (i5 &&& (3 : Int32))), (vJ jk), .second, (vA b639), (vA b658), (vI v0), (vI v1), (vI v2)] []))
      refine DnW.of (fun tt_ zz_ => XS.iconst X704.here hx rfl (hb hby at_321) zz_) ?_
      refine DnW.of (fun tt_ zz_ => XS.goto X704.here hx rfl (pc0 := 322) (pc' := 326) rfl (hb hby at_322) (by decide) (by decide) zz_) ?_
      show DnW p e below s (own_Q n0) 40 3328 (T704.setTop (mkF m 326 #[(vJ i0), .second, (vJ i1), .second, (vJ i2), .second, (vJ i3), .second, (vI i4), (vI i5), (vI lo0), (vI hi0), (vI lo1), (vI hi1), (vI v0), (vI v1), (vI (0 : Int32)), (vI v2), (vA b556), (vA b615), (vI (i5 &&& (3 : Int32))), (vJ jk), .second, (vA b639), (vA b658), (vI v0), (vI v1), (vI v2)] [(.int (1 : Int32))]))
      exact DnW.retN hS (by rw [e704]; exact F701) X704 hx hlk (t := .boolean) hret (by simp) (hb hby at_326) (by decide) (by decide) (⟨rfl, (Fr.app (Fr.app (Fr.app (Fr.app N674 Mp) Mv0) Mv1) Mv2)⟩)
    · skip
      show DnW p e below s (own_Q n0) 40 3328 (T634.setTop (mkF m 169 #[(vJ i0), .second, (vJ i1), .second, (vJ i2), .second, (vJ i3), .second, (vI i4), (vI i5), (vI lo0), (vI hi0), (vI lo1), (vI hi1), (vI v0), (vI v1), (vI (0 : Int32)), (vI v2), (vA b556), .unset, .unset, .unset, .unset, .unset, .unset, .unset, .unset, .unset] [(.ref b615)]))
      refine DnW.of (fun tt_ zz_ => XS.astore X634.here hx rfl (hb hby at_169) rfl rfl (l' := #[(vJ i0), .second, (vJ i1), .second, (vJ i2), .second, (vJ i3), .second, (vI i4), (vI i5), (vI lo0), (vI hi0), (vI lo1), (vI hi1), (vI v0), (vI v1), (vI (0 : Int32)), (vI v2), (vA b556), (vA b615), .unset, .unset, .unset, .unset, .unset, .unset, .unset, .unset]) rfl zz_) ?_
      refine DnW.of (fun tt_ zz_ => XS.iload X634.here hx rfl (hb hby at_171) rfl zz_) ?_
      refine DnW.of (fun tt_ zz_ => XS.iconst X634.here hx rfl (hb hby at_173) zz_) ?_
      refine DnW.of (fun tt_ zz_ => XS.iand X634.here hx rfl (hb hby at_174) rfl zz_) ?_
      show DnW p e below s (own_Q n0) 40 3328 (T634.setTop (mkF m 175 #[(vJ i0), .second, (vJ i1), .second, (vJ i2), .second, (vJ i3), .second, (vI i4), (vI i5), (vI lo0), (vI hi0), (vI lo1), (vI hi1), (vI v0), (vI v1), (vI (0 : Int32)), (vI v2), (vA b556), (vA b615), .unset, .unset, .unset, .unset, .unset, .unset, .unset, .unset] [(.int (i5 &&& (3 : Int32)))]))
      refine DnW.of (fun tt_ zz_ => XS.istore X634.here hx rfl (hb hby at_175) rfl (l' := #[(vJ i0), .second, (vJ i1), .second, (vJ i2), .second, (vJ i3), .second, (vI i4), (vI i5), (vI lo0), (vI hi0), (vI lo1), (vI hi1), (vI v0), (vI v1), (vI (0 : Int32)), (vI v2), (vA b556), (vA b615), (vI (i5 &&& (3 : Int32))), .unset, .unset, .unset, .unset, .unset, .unset, .unset]) rfl zz_) ?_
      refine DnW.of (fun tt_ zz_ => XS.iload X634.here hx rfl (hb hby at_177) rfl zz_) ?_
      refine DnW.of (fun tt_ zz_ => XS.i2l X634.here hx rfl (hb hby at_179) rfl zz_) ?_
      refine DnW.of (fun tt_ zz_ => X634.ldc2J hx hown (mvT hZ (hg 206 rfl)) rfl (hb hby at_180) zz_) ?_
      show DnW p e below s (own_Q n0) 40 3328 (T634.setTop (mkF m 183 #[(vJ i0), .second, (vJ i1), .second, (vJ i2), .second, (vJ i3), .second, (vI i4), (vI i5), (vI lo0), (vI hi0), (vI lo1), (vI hi1), (vI v0), (vI v1), (vI (0 : Int32)), (vI v2), (vA b556), (vA b615), (vI (i5 &&& (3 : Int32))), .unset, .unset, .unset, .unset, .unset, .unset, .unset] [(.long (-7046029254386353131 : Int64)), (.long (i5.toInt64))]))
      refine DnW.of (fun tt_ zz_ => XS.lmul X634.here hx rfl (hb hby at_183) rfl zz_) ?_
      refine DnW.of (fun tt_ zz_ => XS.lconst X634.here hx rfl (hb hby at_184) zz_) ?_
      refine DnW.of (fun tt_ zz_ => XS.lor X634.here hx rfl (hb hby at_185) rfl zz_) ?_
      refine DnW.of (fun tt_ zz_ => XS.lstore X634.here hx rfl (hb hby at_186) rfl (l' := #[(vJ i0), .second, (vJ i1), .second, (vJ i2), .second, (vJ i3), .second, (vI i4), (vI i5), (vI lo0), (vI hi0), (vI lo1), (vI hi1), (vI v0), (vI v1), (vI (0 : Int32)), (vI v2), (vA b556), (vA b615), (vI (i5 &&& (3 : Int32))), (vJ (((i5.toInt64) * (-7046029254386353131 : Int64)) ||| (1 : Int64))), .second, .unset, .unset, .unset, .unset, .unset]) rfl zz_) ?_
      show DnW p e below s (own_Q n0) 40 3328 (T634.setTop (mkF m 188 #[(vJ i0), .second, (vJ i1), .second, (vJ i2), .second, (vJ i3), .second, (vI i4), (vI i5), (vI lo0), (vI hi0), (vI lo1), (vI hi1), (vI v0), (vI v1), (vI (0 : Int32)), (vI v2), (vA b556), (vA b615), (vI (i5 &&& (3 : Int32))), (vJ (((i5.toInt64) * (-7046029254386353131 : Int64)) ||| (1 : Int64))), .second, .unset, .unset, .unset, .unset, .unset] []))
      generalize (((i5.toInt64) * (-7046029254386353131 : Int64)) ||| (1 : Int64)) = jk
      show DnW p e below s (own_Q n0) 40 3328 (T634.setTop (mkF m 188 #[(vJ i0), .second, (vJ i1), .second, (vJ i2), .second, (vJ i3), .second, (vI i4), (vI i5), (vI lo0), (vI hi0), (vI lo1), (vI hi1), (vI v0), (vI v1), (vI (0 : Int32)), (vI v2), (vA b556), (vA b615), (vI (i5 &&& (3 : Int32))), (vJ jk), .second, .unset, .unset, .unset, .unset, .unset] []))
      refine DnW.of (fun tt_ zz_ => XS.bipush X634.here hx rfl (hb hby at_188) zz_) ?_
      show DnW p e below s (own_Q n0) 40 3328 (T634.setTop (mkF m 190 #[(vJ i0), .second, (vJ i1), .second, (vJ i2), .second, (vJ i3), .second, (vI i4), (vI i5), (vI lo0), (vI hi0), (vI lo1), (vI hi1), (vI v0), (vI v1), (vI (0 : Int32)), (vI v2), (vA b556), (vA b615), (vI (i5 &&& (3 : Int32))), (vJ jk), .second, .unset, .unset, .unset, .unset, .unset] [(.int (6 : Int32))]))
      obtain ⟨T705, h705, k705, X705, e705, E705, A705, st705⟩ := newP X634 hx hZ (hg 146 rfl) rfl (g := (mkF m 190 #[(vJ i0), .second, (vJ i1), .second, (vJ i2), .second, (vJ i3), .second, (vI i4), (vI i5), (vI lo0), (vI hi0), (vI lo1), (vI hi1), (vI v0), (vI v1), (vI (0 : Int32)), (vI v2), (vA b556), (vA b615), (vI (i5 &&& (3 : Int32))), (vJ jk), .second, .unset, .unset, .unset, .unset, .unset] [(.int (6 : Int32))])) rfl (hb hby at_190) rfl (by decide) (cap := 6) (by decide) (by decide) (by decide) (by decide)
      obtain ⟨b705, g705⟩ : ∃ z, z = T634.heap.size := ⟨_, rfl⟩
      rw [← g705] at A705 st705
      refine DnW.of st705 ?_
      show DnW p e below s (own_Q n0) 40 3328 (T705.setTop (mkF m 192 #[(vJ i0), .second, (vJ i1), .second, (vJ i2), .second, (vJ i3), .second, (vI i4), (vI i5), (vI lo0), (vI hi0), (vI lo1), (vI hi1), (vI v0), (vI v1), (vI (0 : Int32)), (vI v2), (vA b556), (vA b615), (vI (i5 &&& (3 : Int32))), (vJ jk), .second, .unset, .unset, .unset, .unset, .unset] [(.ref b705)]))
      have n706 : b615 ≠ b705 := Nat.ne_of_lt (g705 ▸ F638.lt)
      have n707 : bw ≠ b705 := Nat.ne_of_lt (g705 ▸ RW.lt)
      have n708 : bs ≠ b705 := Nat.ne_of_lt (g705 ▸ RS.lt)
      have n709 : bm ≠ b705 := Nat.ne_of_lt (g705 ▸ RM.lt)
      have n710 : bl ≠ b705 := Nat.ne_of_lt (g705 ▸ RL.lt)
      have gpk : n0 ≤ b705 := g705 ▸ F637
      have RP : Arh Z h705 b705 k705 .long 6 [] [] (.long 0) := (Arv.new A705 (by decide)).arh
      refine DnW.of (fun tt_ zz_ => XS.astore X705.here hx rfl (hb hby at_192) rfl rfl (l' := #[(vJ i0), .second, (vJ i1), .second, (vJ i2), .second, (vJ i3), .second, (vI i4), (vI i5), (vI lo0), (vI hi0), (vI lo1), (vI hi1), (vI v0), (vI v1), (vI (0 : Int32)), (vI v2), (vA b556), (vA b615), (vI (i5 &&& (3 : Int32))), (vJ jk), .second, (vA b705), .unset, .unset, .unset, .unset]) rfl zz_) ?_
      refine DnW.of (fun tt_ zz_ => XS.aload X705.here hx rfl (hb hby at_194) rfl rfl zz_) ?_
      refine DnW.of (fun tt_ zz_ => XS.iconst X705.here hx rfl (hb hby at_196) zz_) ?_
      refine DnW.of (fun tt_ zz_ => XS.lload X705.here hx rfl (hb hby at_197) rfl zz_) ?_
      show DnW p e below s (own_Q n0) 40 3328 (T705.setTop (mkF m 199 #[(vJ i0), .second, (vJ i1), .second, (vJ i2), .second, (vJ i3), .second, (vI i4), (vI i5), (vI lo0), (vI hi0), (vI lo1), (vI hi1), (vI v0), (vI v1), (vI (0 : Int32)), (vI v2), (vA b556), (vA b615), (vI (i5 &&& (3 : Int32))), (vJ jk), .second, (vA b705), .unset, .unset, .unset, .unset] [(.long jk), (.int (0 : Int32)), (.ref b705)]))
      obtain ⟨c711, A_711, p711, S711, P711, H711, G711⟩ := RP
      obtain ⟨T712, h712, X712, e712, W712, st712⟩ := stJ X705 hx hZ e705 A_711 (j := (0 : Int32)) (inb_of S711 (by decide)) (g := (mkF m 199 #[(vJ i0), .second, (vJ i1), .second, (vJ i2), .second, (vJ i3), .second, (vI i4), (vI i5), (vI lo0), (vI hi0), (vI lo1), (vI hi1), (vI v0), (vI v1), (vI (0 : Int32)), (vI v2), (vA b556), (vA b615), (vI (i5 &&& (3 : Int32))), (vJ jk), .second, (vA b705), .unset, .unset, .unset, .unset] [(.long jk), (.int (0 : Int32)), (.ref b705)])) rfl rfl (hb hby at_199)
      refine DnW.of st712 ?_
      show DnW p e below s (own_Q n0) 40 3328 (T712.setTop (mkF m 200 #[(vJ i0), .second, (vJ i1), .second, (vJ i2), .second, (vJ i3), .second, (vI i4), (vI i5), (vI lo0), (vI hi0), (vI lo1), (vI hi1), (vI v0), (vI v1), (vI (0 : Int32)), (vI v2), (vA b556), (vA b615), (vI (i5 &&& (3 : Int32))), (vJ jk), .second, (vA b705), .unset, .unset, .unset, .unset] []))
      have R_711 := Arh.push A_711 p711 S711 P711 H711 G711 (v := (.long jk)) rfl W712 (inb_of S711 (by decide))
      have N711 := Fr.snoc X712 (Fr.app (Fr.app (Fr.app (Fr.app (Fr.app (Fr.app (Fr.app (Fr.app (Fr.app (Fr.app (Fr.app (Fr.app (Fr.app (Fr.app N0 Ms0) Ms1) Ms2) Ms3) Ms4) Ms5) Ml) Mu0) Ma0) Mu1) Ma1) Mu2) Ma2) Mi) gpk
      refine DnW.of (fun tt_ zz_ => XS.aload X712.here hx rfl (hb hby at_200) rfl rfl zz_) ?_
      refine DnW.of (fun tt_ zz_ => XS.iconst X712.here hx rfl (hb hby at_202) zz_) ?_
      refine DnW.of (fun tt_ zz_ => XS.lload X712.here hx rfl (hb hby at_203) rfl zz_) ?_
      show DnW p e below s (own_Q n0) 40 3328 (T712.setTop (mkF m 205 #[(vJ i0), .second, (vJ i1), .second, (vJ i2), .second, (vJ i3), .second, (vI i4), (vI i5), (vI lo0), (vI hi0), (vI lo1), (vI hi1), (vI v0), (vI v1), (vI (0 : Int32)), (vI v2), (vA b556), (vA b615), (vI (i5 &&& (3 : Int32))), (vJ jk), .second, (vA b705), .unset, .unset, .unset, .unset] [(.long jk), (.int (1 : Int32)), (.ref b705)]))
      obtain ⟨c713, A_713, p713, S713, P713, H713, G713⟩ := R_711
      obtain ⟨T714, h714, X714, e714, W714, st714⟩ := stJ X712 hx hZ e712 A_713 (j := (1 : Int32)) (inb_of S713 (by decide)) (g := (mkF m 205 #[(vJ i0), .second, (vJ i1), .second, (vJ i2), .second, (vJ i3), .second, (vI i4), (vI i5), (vI lo0), (vI hi0), (vI lo1), (vI hi1), (vI v0), (vI v1), (vI (0 : Int32)), (vI v2), (vA b556), (vA b615), (vI (i5 &&& (3 : Int32))), (vJ jk), .second, (vA b705), .unset, .unset, .unset, .unset] [(.long jk), (.int (1 : Int32)), (.ref b705)])) rfl rfl (hb hby at_205)
      refine DnW.of st714 ?_
      show DnW p e below s (own_Q n0) 40 3328 (T714.setTop (mkF m 206 #[(vJ i0), .second, (vJ i1), .second, (vJ i2), .second, (vJ i3), .second, (vI i4), (vI i5), (vI lo0), (vI hi0), (vI lo1), (vI hi1), (vI v0), (vI v1), (vI (0 : Int32)), (vI v2), (vA b556), (vA b615), (vI (i5 &&& (3 : Int32))), (vJ jk), .second, (vA b705), .unset, .unset, .unset, .unset] []))
      have R_713 := Arh.push A_713 p713 S713 P713 H713 G713 (v := (.long jk)) rfl W714 (inb_of S713 (by decide))
      have N713 := Fr.snoc X714 N711 gpk
      refine DnW.of (fun tt_ zz_ => XS.aload X714.here hx rfl (hb hby at_206) rfl rfl zz_) ?_
      refine DnW.of (fun tt_ zz_ => XS.iconst X714.here hx rfl (hb hby at_208) zz_) ?_
      refine DnW.of (fun tt_ zz_ => XS.lload X714.here hx rfl (hb hby at_209) rfl zz_) ?_
      show DnW p e below s (own_Q n0) 40 3328 (T714.setTop (mkF m 211 #[(vJ i0), .second, (vJ i1), .second, (vJ i2), .second, (vJ i3), .second, (vI i4), (vI i5), (vI lo0), (vI hi0), (vI lo1), (vI hi1), (vI v0), (vI v1), (vI (0 : Int32)), (vI v2), (vA b556), (vA b615), (vI (i5 &&& (3 : Int32))), (vJ jk), .second, (vA b705), .unset, .unset, .unset, .unset] [(.long jk), (.int (2 : Int32)), (.ref b705)]))
      obtain ⟨c715, A_715, p715, S715, P715, H715, G715⟩ := R_713
      obtain ⟨T716, h716, X716, e716, W716, st716⟩ := stJ X714 hx hZ e714 A_715 (j := (2 : Int32)) (inb_of S715 (by decide)) (g := (mkF m 211 #[(vJ i0), .second, (vJ i1), .second, (vJ i2), .second, (vJ i3), .second, (vI i4), (vI i5), (vI lo0), (vI hi0), (vI lo1), (vI hi1), (vI v0), (vI v1), (vI (0 : Int32)), (vI v2), (vA b556), (vA b615), (vI (i5 &&& (3 : Int32))), (vJ jk), .second, (vA b705), .unset, .unset, .unset, .unset] [(.long jk), (.int (2 : Int32)), (.ref b705)])) rfl rfl (hb hby at_211)
      refine DnW.of st716 ?_
      show DnW p e below s (own_Q n0) 40 3328 (T716.setTop (mkF m 212 #[(vJ i0), .second, (vJ i1), .second, (vJ i2), .second, (vJ i3), .second, (vI i4), (vI i5), (vI lo0), (vI hi0), (vI lo1), (vI hi1), (vI v0), (vI v1), (vI (0 : Int32)), (vI v2), (vA b556), (vA b615), (vI (i5 &&& (3 : Int32))), (vJ jk), .second, (vA b705), .unset, .unset, .unset, .unset] []))
      have R_715 := Arh.push A_715 p715 S715 P715 H715 G715 (v := (.long jk)) rfl W716 (inb_of S715 (by decide))
      have N715 := Fr.snoc X716 N713 gpk
      refine DnW.of (fun tt_ zz_ => XS.aload X716.here hx rfl (hb hby at_212) rfl rfl zz_) ?_
      refine DnW.of (fun tt_ zz_ => XS.iconst X716.here hx rfl (hb hby at_214) zz_) ?_
      refine DnW.of (fun tt_ zz_ => XS.lload X716.here hx rfl (hb hby at_215) rfl zz_) ?_
      show DnW p e below s (own_Q n0) 40 3328 (T716.setTop (mkF m 217 #[(vJ i0), .second, (vJ i1), .second, (vJ i2), .second, (vJ i3), .second, (vI i4), (vI i5), (vI lo0), (vI hi0), (vI lo1), (vI hi1), (vI v0), (vI v1), (vI (0 : Int32)), (vI v2), (vA b556), (vA b615), (vI (i5 &&& (3 : Int32))), (vJ jk), .second, (vA b705), .unset, .unset, .unset, .unset] [(.long jk), (.int (3 : Int32)), (.ref b705)]))
      obtain ⟨c717, A_717, p717, S717, P717, H717, G717⟩ := R_715
      obtain ⟨T718, h718, X718, e718, W718, st718⟩ := stJ X716 hx hZ e716 A_717 (j := (3 : Int32)) (inb_of S717 (by decide)) (g := (mkF m 217 #[(vJ i0), .second, (vJ i1), .second, (vJ i2), .second, (vJ i3), .second, (vI i4), (vI i5), (vI lo0), (vI hi0), (vI lo1), (vI hi1), (vI v0), (vI v1), (vI (0 : Int32)), (vI v2), (vA b556), (vA b615), (vI (i5 &&& (3 : Int32))), (vJ jk), .second, (vA b705), .unset, .unset, .unset, .unset] [(.long jk), (.int (3 : Int32)), (.ref b705)])) rfl rfl (hb hby at_217)
      refine DnW.of st718 ?_
      show DnW p e below s (own_Q n0) 40 3328 (T718.setTop (mkF m 218 #[(vJ i0), .second, (vJ i1), .second, (vJ i2), .second, (vJ i3), .second, (vI i4), (vI i5), (vI lo0), (vI hi0), (vI lo1), (vI hi1), (vI v0), (vI v1), (vI (0 : Int32)), (vI v2), (vA b556), (vA b615), (vI (i5 &&& (3 : Int32))), (vJ jk), .second, (vA b705), .unset, .unset, .unset, .unset] []))
      have R_717 := Arh.push A_717 p717 S717 P717 H717 G717 (v := (.long jk)) rfl W718 (inb_of S717 (by decide))
      have N717 := Fr.snoc X718 N715 gpk
      refine DnW.of (fun tt_ zz_ => XS.aload X718.here hx rfl (hb hby at_218) rfl rfl zz_) ?_
      refine DnW.of (fun tt_ zz_ => XS.iconst X718.here hx rfl (hb hby at_220) zz_) ?_
      refine DnW.of (fun tt_ zz_ => XS.lload X718.here hx rfl (hb hby at_221) rfl zz_) ?_
      show DnW p e below s (own_Q n0) 40 3328 (T718.setTop (mkF m 223 #[(vJ i0), .second, (vJ i1), .second, (vJ i2), .second, (vJ i3), .second, (vI i4), (vI i5), (vI lo0), (vI hi0), (vI lo1), (vI hi1), (vI v0), (vI v1), (vI (0 : Int32)), (vI v2), (vA b556), (vA b615), (vI (i5 &&& (3 : Int32))), (vJ jk), .second, (vA b705), .unset, .unset, .unset, .unset] [(.long jk), (.int (4 : Int32)), (.ref b705)]))
      obtain ⟨c719, A_719, p719, S719, P719, H719, G719⟩ := R_717
      obtain ⟨T720, h720, X720, e720, W720, st720⟩ := stJ X718 hx hZ e718 A_719 (j := (4 : Int32)) (inb_of S719 (by decide)) (g := (mkF m 223 #[(vJ i0), .second, (vJ i1), .second, (vJ i2), .second, (vJ i3), .second, (vI i4), (vI i5), (vI lo0), (vI hi0), (vI lo1), (vI hi1), (vI v0), (vI v1), (vI (0 : Int32)), (vI v2), (vA b556), (vA b615), (vI (i5 &&& (3 : Int32))), (vJ jk), .second, (vA b705), .unset, .unset, .unset, .unset] [(.long jk), (.int (4 : Int32)), (.ref b705)])) rfl rfl (hb hby at_223)
      refine DnW.of st720 ?_
      show DnW p e below s (own_Q n0) 40 3328 (T720.setTop (mkF m 224 #[(vJ i0), .second, (vJ i1), .second, (vJ i2), .second, (vJ i3), .second, (vI i4), (vI i5), (vI lo0), (vI hi0), (vI lo1), (vI hi1), (vI v0), (vI v1), (vI (0 : Int32)), (vI v2), (vA b556), (vA b615), (vI (i5 &&& (3 : Int32))), (vJ jk), .second, (vA b705), .unset, .unset, .unset, .unset] []))
      have R_719 := Arh.push A_719 p719 S719 P719 H719 G719 (v := (.long jk)) rfl W720 (inb_of S719 (by decide))
      have N719 := Fr.snoc X720 N717 gpk
      refine DnW.of (fun tt_ zz_ => XS.aload X720.here hx rfl (hb hby at_224) rfl rfl zz_) ?_
      refine DnW.of (fun tt_ zz_ => XS.iconst X720.here hx rfl (hb hby at_226) zz_) ?_
      refine DnW.of (fun tt_ zz_ => XS.lload X720.here hx rfl (hb hby at_227) rfl zz_) ?_
      show DnW p e below s (own_Q n0) 40 3328 (T720.setTop (mkF m 229 #[(vJ i0), .second, (vJ i1), .second, (vJ i2), .second, (vJ i3), .second, (vI i4), (vI i5), (vI lo0), (vI hi0), (vI lo1), (vI hi1), (vI v0), (vI v1), (vI (0 : Int32)), (vI v2), (vA b556), (vA b615), (vI (i5 &&& (3 : Int32))), (vJ jk), .second, (vA b705), .unset, .unset, .unset, .unset] [(.long jk), (.int (5 : Int32)), (.ref b705)]))
      obtain ⟨c721, A_721, p721, S721, P721, H721, G721⟩ := R_719
      obtain ⟨T722, h722, X722, e722, W722, st722⟩ := stJ X720 hx hZ e720 A_721 (j := (5 : Int32)) (inb_of S721 (by decide)) (g := (mkF m 229 #[(vJ i0), .second, (vJ i1), .second, (vJ i2), .second, (vJ i3), .second, (vI i4), (vI i5), (vI lo0), (vI hi0), (vI lo1), (vI hi1), (vI v0), (vI v1), (vI (0 : Int32)), (vI v2), (vA b556), (vA b615), (vI (i5 &&& (3 : Int32))), (vJ jk), .second, (vA b705), .unset, .unset, .unset, .unset] [(.long jk), (.int (5 : Int32)), (.ref b705)])) rfl rfl (hb hby at_229)
      refine DnW.of st722 ?_
      show DnW p e below s (own_Q n0) 40 3328 (T722.setTop (mkF m 230 #[(vJ i0), .second, (vJ i1), .second, (vJ i2), .second, (vJ i3), .second, (vI i4), (vI i5), (vI lo0), (vI hi0), (vI lo1), (vI hi1), (vI v0), (vI v1), (vI (0 : Int32)), (vI v2), (vA b556), (vA b615), (vI (i5 &&& (3 : Int32))), (vJ jk), .second, (vA b705), .unset, .unset, .unset, .unset] []))
      have R_721 := Arh.push A_721 p721 S721 P721 H721 G721 (v := (.long jk)) rfl W722 (inb_of S721 (by decide))
      have N721 := Fr.snoc X722 N719 gpk
      refine DnW.of (fun tt_ zz_ => XS.iconst X722.here hx rfl (hb hby at_230) zz_) ?_
      show DnW p e below s (own_Q n0) 40 3328 (T722.setTop (mkF m 231 #[(vJ i0), .second, (vJ i1), .second, (vJ i2), .second, (vJ i3), .second, (vI i4), (vI i5), (vI lo0), (vI hi0), (vI lo1), (vI hi1), (vI v0), (vI v1), (vI (0 : Int32)), (vI v2), (vA b556), (vA b615), (vI (i5 &&& (3 : Int32))), (vJ jk), .second, (vA b705), .unset, .unset, .unset, .unset] [(.int (3 : Int32))]))
      have F723 := (Nat.le_trans (Nat.le_trans (Nat.le_trans (Nat.le_trans (Nat.le_trans (Nat.le_trans (Nat.le_trans F637 E705.1) (Nat.le_of_eq W712.size.symm)) (Nat.le_of_eq W714.size.symm)) (Nat.le_of_eq W716.size.symm)) (Nat.le_of_eq W718.size.symm)) (Nat.le_of_eq W720.size.symm)) (Nat.le_of_eq W722.size.symm))
      obtain ⟨T724, h724, k724, X724, e724, E724, A724, st724⟩ := newP X722 hx hZ (hg 141 rfl) e722 (g := (mkF m 231 #[(vJ i0), .second, (vJ i1), .second, (vJ i2), .second, (vJ i3), .second, (vI i4), (vI i5), (vI lo0), (vI hi0), (vI lo1), (vI hi1), (vI v0), (vI v1), (vI (0 : Int32)), (vI v2), (vA b556), (vA b615), (vI (i5 &&& (3 : Int32))), (vJ jk), .second, (vA b705), .unset, .unset, .unset, .unset] [(.int (3 : Int32))])) rfl (hb hby at_231) rfl (by decide) (cap := 3) (by decide) (by decide) (by decide) (by decide)
      obtain ⟨b724, g724⟩ : ∃ z, z = h722.size := ⟨_, rfl⟩
      rw [← g724] at A724 st724
      refine DnW.of st724 ?_
      show DnW p e below s (own_Q n0) 40 3328 (T724.setTop (mkF m 233 #[(vJ i0), .second, (vJ i1), .second, (vJ i2), .second, (vJ i3), .second, (vI i4), (vI i5), (vI lo0), (vI hi0), (vI lo1), (vI hi1), (vI v0), (vI v1), (vI (0 : Int32)), (vI v2), (vA b556), (vA b615), (vI (i5 &&& (3 : Int32))), (vJ jk), .second, (vA b705), .unset, .unset, .unset, .unset] [(.ref b724)]))
      have F725 := (((((((F638.ext E705).wr W712).wr W714).wr W716).wr W718).wr W720).wr W722)
      have n726 : b615 ≠ b724 := Nat.ne_of_lt (g724 ▸ F725.lt)
      have F727 := (((((((RW.ext E705).other W712 n707).other W714 n707).other W716 n707).other W718 n707).other W720 n707).other W722 n707)
      have n728 : bw ≠ b724 := Nat.ne_of_lt (g724 ▸ F727.lt)
      have F729 := (((((((RS.ext E705).other W712 n708).other W714 n708).other W716 n708).other W718 n708).other W720 n708).other W722 n708)
      have n730 : bs ≠ b724 := Nat.ne_of_lt (g724 ▸ F729.lt)
      have F731 := (((((((RM.ext E705).other W712 n709).other W714 n709).other W716 n709).other W718 n709).other W720 n709).other W722 n709)
      have n732 : bm ≠ b724 := Nat.ne_of_lt (g724 ▸ F731.lt)
      have F733 := (((((((RL.ext E705).other W712 n710).other W714 n710).other W716 n710).other W718 n710).other W720 n710).other W722 n710)
      have n734 : bl ≠ b724 := Nat.ne_of_lt (g724 ▸ F733.lt)
      have n735 : b705 ≠ b724 := Nat.ne_of_lt (g724 ▸ R_721.lt)
      have gva : n0 ≤ b724 := g724 ▸ F723
      have RV : Arh Z h724 b724 k724 .int 3 [] [] (.int 0) := (Arv.new A724 (by decide)).arh
      refine DnW.of (fun tt_ zz_ => XS.astore X724.here hx rfl (hb hby at_233) rfl rfl (l' := #[(vJ i0), .second, (vJ i1), .second, (vJ i2), .second, (vJ i3), .second, (vI i4), (vI i5), (vI lo0), (vI hi0), (vI lo1), (vI hi1), (vI v0), (vI v1), (vI (0 : Int32)), (vI v2), (vA b556), (vA b615), (vI (i5 &&& (3 : Int32))), (vJ jk), .second, (vA b705), (vA b724), .unset, .unset, .unset]) rfl zz_) ?_
      refine DnW.of (fun tt_ zz_ => XS.aload X724.here hx rfl (hb hby at_235) rfl rfl zz_) ?_
      refine DnW.of (fun tt_ zz_ => XS.iconst X724.here hx rfl (hb hby at_237) zz_) ?_
      refine DnW.of (fun tt_ zz_ => XS.iload X724.here hx rfl (hb hby at_238) rfl zz_) ?_
      show DnW p e below s (own_Q n0) 40 3328 (T724.setTop (mkF m 240 #[(vJ i0), .second, (vJ i1), .second, (vJ i2), .second, (vJ i3), .second, (vI i4), (vI i5), (vI lo0), (vI hi0), (vI lo1), (vI hi1), (vI v0), (vI v1), (vI (0 : Int32)), (vI v2), (vA b556), (vA b615), (vI (i5 &&& (3 : Int32))), (vJ jk), .second, (vA b705), (vA b724), .unset, .unset, .unset] [(.int v0), (.int (0 : Int32)), (.ref b724)]))
      obtain ⟨c736, A_736, p736, S736, P736, H736, G736⟩ := RV
      obtain ⟨T737, h737, X737, e737, W737, st737⟩ := stI X724 hx hZ e724 A_736 (j := (0 : Int32)) (inb_of S736 (by decide)) (g := (mkF m 240 #[(vJ i0), .second, (vJ i1), .second, (vJ i2), .second, (vJ i3), .second, (vI i4), (vI i5), (vI lo0), (vI hi0), (vI lo1), (vI hi1), (vI v0), (vI v1), (vI (0 : Int32)), (vI v2), (vA b556), (vA b615), (vI (i5 &&& (3 : Int32))), (vJ jk), .second, (vA b705), (vA b724), .unset, .unset, .unset] [(.int v0), (.int (0 : Int32)), (.ref b724)])) rfl rfl (hb hby at_240)
      refine DnW.of st737 ?_
      show DnW p e below s (own_Q n0) 40 3328 (T737.setTop (mkF m 241 #[(vJ i0), .second, (vJ i1), .second, (vJ i2), .second, (vJ i3), .second, (vI i4), (vI i5), (vI lo0), (vI hi0), (vI lo1), (vI hi1), (vI v0), (vI v1), (vI (0 : Int32)), (vI v2), (vA b556), (vA b615), (vI (i5 &&& (3 : Int32))), (vJ jk), .second, (vA b705), (vA b724), .unset, .unset, .unset] []))
      have R_736 := Arh.push A_736 p736 S736 P736 H736 G736 (v := (.int v0)) rfl W737 (inb_of S736 (by decide))
      have N736 := Fr.snoc X737 N721 gva
      refine DnW.of (fun tt_ zz_ => XS.aload X737.here hx rfl (hb hby at_241) rfl rfl zz_) ?_
      refine DnW.of (fun tt_ zz_ => XS.iconst X737.here hx rfl (hb hby at_243) zz_) ?_
      refine DnW.of (fun tt_ zz_ => XS.iload X737.here hx rfl (hb hby at_244) rfl zz_) ?_
      show DnW p e below s (own_Q n0) 40 3328 (T737.setTop (mkF m 246 #[(vJ i0), .second, (vJ i1), .second, (vJ i2), .second, (vJ i3), .second, (vI i4), (vI i5), (vI lo0), (vI hi0), (vI lo1), (vI hi1), (vI v0), (vI v1), (vI (0 : Int32)), (vI v2), (vA b556), (vA b615), (vI (i5 &&& (3 : Int32))), (vJ jk), .second, (vA b705), (vA b724), .unset, .unset, .unset] [(.int v1), (.int (1 : Int32)), (.ref b724)]))
      obtain ⟨c738, A_738, p738, S738, P738, H738, G738⟩ := R_736
      obtain ⟨T739, h739, X739, e739, W739, st739⟩ := stI X737 hx hZ e737 A_738 (j := (1 : Int32)) (inb_of S738 (by decide)) (g := (mkF m 246 #[(vJ i0), .second, (vJ i1), .second, (vJ i2), .second, (vJ i3), .second, (vI i4), (vI i5), (vI lo0), (vI hi0), (vI lo1), (vI hi1), (vI v0), (vI v1), (vI (0 : Int32)), (vI v2), (vA b556), (vA b615), (vI (i5 &&& (3 : Int32))), (vJ jk), .second, (vA b705), (vA b724), .unset, .unset, .unset] [(.int v1), (.int (1 : Int32)), (.ref b724)])) rfl rfl (hb hby at_246)
      refine DnW.of st739 ?_
      show DnW p e below s (own_Q n0) 40 3328 (T739.setTop (mkF m 247 #[(vJ i0), .second, (vJ i1), .second, (vJ i2), .second, (vJ i3), .second, (vI i4), (vI i5), (vI lo0), (vI hi0), (vI lo1), (vI hi1), (vI v0), (vI v1), (vI (0 : Int32)), (vI v2), (vA b556), (vA b615), (vI (i5 &&& (3 : Int32))), (vJ jk), .second, (vA b705), (vA b724), .unset, .unset, .unset] []))
      have R_738 := Arh.push A_738 p738 S738 P738 H738 G738 (v := (.int v1)) rfl W739 (inb_of S738 (by decide))
      have N738 := Fr.snoc X739 N736 gva
      refine DnW.of (fun tt_ zz_ => XS.aload X739.here hx rfl (hb hby at_247) rfl rfl zz_) ?_
      refine DnW.of (fun tt_ zz_ => XS.iconst X739.here hx rfl (hb hby at_249) zz_) ?_
      refine DnW.of (fun tt_ zz_ => XS.iload X739.here hx rfl (hb hby at_250) rfl zz_) ?_
      show DnW p e below s (own_Q n0) 40 3328 (T739.setTop (mkF m 252 #[(vJ i0), .second, (vJ i1), .second, (vJ i2), .second, (vJ i3), .second, (vI i4), (vI i5), (vI lo0), (vI hi0), (vI lo1), (vI hi1), (vI v0), (vI v1), (vI (0 : Int32)), (vI v2), (vA b556), (vA b615), (vI (i5 &&& (3 : Int32))), (vJ jk), .second, (vA b705), (vA b724), .unset, .unset, .unset] [(.int v2), (.int (2 : Int32)), (.ref b724)]))
      obtain ⟨c740, A_740, p740, S740, P740, H740, G740⟩ := R_738
      obtain ⟨T741, h741, X741, e741, W741, st741⟩ := stI X739 hx hZ e739 A_740 (j := (2 : Int32)) (inb_of S740 (by decide)) (g := (mkF m 252 #[(vJ i0), .second, (vJ i1), .second, (vJ i2), .second, (vJ i3), .second, (vI i4), (vI i5), (vI lo0), (vI hi0), (vI lo1), (vI hi1), (vI v0), (vI v1), (vI (0 : Int32)), (vI v2), (vA b556), (vA b615), (vI (i5 &&& (3 : Int32))), (vJ jk), .second, (vA b705), (vA b724), .unset, .unset, .unset] [(.int v2), (.int (2 : Int32)), (.ref b724)])) rfl rfl (hb hby at_252)
      refine DnW.of st741 ?_
      show DnW p e below s (own_Q n0) 40 3328 (T741.setTop (mkF m 253 #[(vJ i0), .second, (vJ i1), .second, (vJ i2), .second, (vJ i3), .second, (vI i4), (vI i5), (vI lo0), (vI hi0), (vI lo1), (vI hi1), (vI v0), (vI v1), (vI (0 : Int32)), (vI v2), (vA b556), (vA b615), (vI (i5 &&& (3 : Int32))), (vJ jk), .second, (vA b705), (vA b724), .unset, .unset, .unset] []))
      have R_740 := Arh.push A_740 p740 S740 P740 H740 G740 (v := (.int v2)) rfl W741 (inb_of S740 (by decide))
      have N740 := Fr.snoc X741 N738 gva
      refine DnW.of (fun tt_ zz_ => XS.aload X741.here hx rfl (hb hby at_253) rfl rfl zz_) ?_
      refine DnW.of (fun tt_ zz_ => XS.aload X741.here hx rfl (hb hby at_255) rfl rfl zz_) ?_
      refine DnW.of (fun tt_ zz_ => XS.aload X741.here hx rfl (hb hby at_257) rfl rfl zz_) ?_
      refine DnW.of (fun tt_ zz_ => XS.iload X741.here hx rfl (hb hby at_259) rfl zz_) ?_
      show DnW p e below s (own_Q n0) 40 3328 (T741.setTop (mkF m 261 #[(vJ i0), .second, (vJ i1), .second, (vJ i2), .second, (vJ i3), .second, (vI i4), (vI i5), (vI lo0), (vI hi0), (vI lo1), (vI hi1), (vI v0), (vI v1), (vI (0 : Int32)), (vI v2), (vA b556), (vA b615), (vI (i5 &&& (3 : Int32))), (vJ jk), .second, (vA b705), (vA b724), .unset, .unset, .unset] [(.int (i5 &&& (3 : Int32))), (.ref b705), (.ref b724), (.ref b615)]))
      have F742 := (((((((((((F635.ext E705).wr W712 gpk).wr W714 gpk).wr W716 gpk).wr W718 gpk).wr W720 gpk).wr W722 gpk).ext E724).wr W737 gva).wr W739 gva).wr W741 gva)
      have F743 := (Nat.le_trans (Nat.le_trans (Nat.le_trans (Nat.le_trans F723 E724.1) (Nat.le_of_eq W737.size.symm)) (Nat.le_of_eq W739.size.symm)) (Nat.le_of_eq W741.size.symm))
      have F744 := (((((((((((G0.ext E705).other W712 (Or.inl n706)).other W714 (Or.inl n706)).other W716 (Or.inl n706)).other W718 (Or.inl n706)).other W720 (Or.inl n706)).other W722 (Or.inl n706)).ext E724).other W737 (Or.inl n726)).other W739 (Or.inl n726)).other W741 (Or.inl n726))
      have F745 := (((((((((((G1.ext E705).other W712 (Or.inl n706)).other W714 (Or.inl n706)).other W716 (Or.inl n706)).other W718 (Or.inl n706)).other W720 (Or.inl n706)).other W722 (Or.inl n706)).ext E724).other W737 (Or.inl n726)).other W739 (Or.inl n726)).other W741 (Or.inl n726))
      have F746 := (((((((((((G2.ext E705).other W712 (Or.inl n706)).other W714 (Or.inl n706)).other W716 (Or.inl n706)).other W718 (Or.inl n706)).other W720 (Or.inl n706)).other W722 (Or.inl n706)).ext E724).other W737 (Or.inl n726)).other W739 (Or.inl n726)).other W741 (Or.inl n726))
      have F747 := (((((((((((G3.ext E705).other W712 (Or.inl n706)).other W714 (Or.inl n706)).other W716 (Or.inl n706)).other W718 (Or.inl n706)).other W720 (Or.inl n706)).other W722 (Or.inl n706)).ext E724).other W737 (Or.inl n726)).other W739 (Or.inl n726)).other W741 (Or.inl n726))
      have F748 := (((((((((((G4.ext E705).other W712 (Or.inl n706)).other W714 (Or.inl n706)).other W716 (Or.inl n706)).other W718 (Or.inl n706)).other W720 (Or.inl n706)).other W722 (Or.inl n706)).ext E724).other W737 (Or.inl n726)).other W739 (Or.inl n726)).other W741 (Or.inl n726))
      have F749 := ((((F727.ext E724).other W737 n728).other W739 n728).other W741 n728)
      have F750 := ((((F729.ext E724).other W737 n730).other W739 n730).other W741 n730)
      have F751 := ((((F731.ext E724).other W737 n732).other W739 n732).other W741 n732)
      have F752 := ((((F733.ext E724).other W737 n734).other W739 n734).other W741 n734)
      have F753 := ((((F725.ext E724).wr W737).wr W739).wr W741)
      have F754 := ((((R_721.ext E724).other W737 n735).other W739 n735).other W741 n735)
      have hpk := rmPk2 l Z a0 hw h741 n0 F743 b615 bw bs bm bl kw ks km kl b0 b1 b2 lo0 lo1 (0 : Int32) (0 : Int32) F744 F745 F746 F747 F748 F749 F750 F751 F752 F753 b724 b705 _ _ v0 v1 v2 (i5 &&& (3 : Int32)) _ cf.1 cf.2 R_740 F754 n706 n707 n708 n710 (Ne.symm n735) gpk
      obtain ⟨v755, T755, L755, Q755, X755, st755⟩ := cVi X741 hx hZ (C := "com/example/verify_markov_chains/verifymarkovchains/explicit/StateLayout") (y := (⟨"com/example/verify_markov_chains/verifymarkovchains/explicit/StateLayout", "pack", "([I[JI)V"⟩ : MethodName)) (z := (⟨"com/example/verify_markov_chains/verifymarkovchains/explicit/StateLayout", "pack", "([I[JI)V"⟩ : MethodName)) hown (hg 207 rfl) (hg 208 rfl) (notFace_of_selects (args := #[]) (mvT hZ (hg 210 rfl))) (hg 210 rfl) (hg 209 rfl) (hg 127 rfl) (hg 211 rfl) (by decide) (a := b615) (argsL := [(.ref b724), (.ref b705), (.int (i5 &&& (3 : Int32)))]) (rest := []) (hpk) e741 F753 0 (by decide) (by decide) (by decide) (by decide) (g := (mkF m 261 #[(vJ i0), .second, (vJ i1), .second, (vJ i2), .second, (vJ i3), .second, (vI i4), (vI i5), (vI lo0), (vI hi0), (vI lo1), (vI hi1), (vI v0), (vI v1), (vI (0 : Int32)), (vI v2), (vA b556), (vA b615), (vI (i5 &&& (3 : Int32))), (vJ jk), .second, (vA b705), (vA b724), .unset, .unset, .unset] [(.int (i5 &&& (3 : Int32))), (.ref b705), (.ref b724), (.ref b615)])) rfl (by rw [hml]; rfl) (lenOf pd21 rfl) rfl (by show 2 * 0 + _ ≤ _; exact Nat.le_of_eq rfl) (hb hby at_261)
      obtain ⟨rfl, Mp, Kp, hs, RP', y1, y2⟩ := Q755
      refine DnW.of st755 ?_
      show DnW p e below s (own_Q n0) 40 3328 (T755.setTop (mkF m 264 #[(vJ i0), .second, (vJ i1), .second, (vJ i2), .second, (vJ i3), .second, (vI i4), (vI i5), (vI lo0), (vI hi0), (vI lo1), (vI hi1), (vI v0), (vI v1), (vI (0 : Int32)), (vI v2), (vA b556), (vA b615), (vI (i5 &&& (3 : Int32))), (vJ jk), .second, (vA b705), (vA b724), .unset, .unset, .unset] []))
      refine DnW.of (fun tt_ zz_ => XS.aload X755.here hx rfl (hb hby at_264) rfl rfl zz_) ?_
      refine DnW.of (fun tt_ zz_ => XS.aload X755.here hx rfl (hb hby at_266) rfl rfl zz_) ?_
      refine DnW.of (fun tt_ zz_ => XS.iload X755.here hx rfl (hb hby at_268) rfl zz_) ?_
      refine DnW.of (fun tt_ zz_ => XS.iconst X755.here hx rfl (hb hby at_270) zz_) ?_
      show DnW p e below s (own_Q n0) 40 3328 (T755.setTop (mkF m 271 #[(vJ i0), .second, (vJ i1), .second, (vJ i2), .second, (vJ i3), .second, (vI i4), (vI i5), (vI lo0), (vI hi0), (vI lo1), (vI hi1), (vI v0), (vI v1), (vI (0 : Int32)), (vI v2), (vA b556), (vA b615), (vI (i5 &&& (3 : Int32))), (vJ jk), .second, (vA b705), (vA b724), .unset, .unset, .unset] [(.int (0 : Int32)), (.int (i5 &&& (3 : Int32))), (.ref b705), (.ref b615)]))
      have F756 := (F744.keep Kp (ninS n706 nin0))
      have F757 := (F745.keep Kp (ninS n706 nin0))
      have F758 := (F746.keep Kp (ninS n706 nin0))
      have F759 := (F747.keep Kp (ninS n706 nin0))
      have F760 := (F748.keep Kp (ninS n706 nin0))
      have F761 := (F749.keep Kp (ninS n707 nin0))
      have F762 := (F750.keep Kp (ninS n708 nin0))
      have F763 := (F751.keep Kp (ninS n709 nin0))
      have F764 := (F752.keep Kp (ninS n710 nin0))
      have F765 := (F753.keep Kp)
      have F766 := (Nat.le_trans F743 Kp.1)
      have F767 := (Nat.le_trans (Nat.le_trans (Nat.le_trans (Nat.le_trans (Nat.le_trans (Nat.le_trans (Nat.le_trans (Nat.le_trans (Nat.le_trans (Nat.le_trans (Nat.le_trans (Nat.le_trans F636 E705.1) (Nat.le_of_eq W712.size.symm)) (Nat.le_of_eq W714.size.symm)) (Nat.le_of_eq W716.size.symm)) (Nat.le_of_eq W718.size.symm)) (Nat.le_of_eq W720.size.symm)) (Nat.le_of_eq W722.size.symm)) E724.1) (Nat.le_of_eq W737.size.symm)) (Nat.le_of_eq W739.size.symm)) (Nat.le_of_eq W741.size.symm)) Kp.1)
      have ff := own_f cf.1 cf.2
      have fin := own_spill R0 R1 R2 P0 P1 P2
      obtain ⟨v768, T768, L768, Q768, X768, st768⟩ := cVi X755 hx hZ (C := "com/example/verify_markov_chains/verifymarkovchains/explicit/StateLayout") (y := (⟨"com/example/verify_markov_chains/verifymarkovchains/explicit/StateLayout", "value", "([JII)I"⟩ : MethodName)) (z := (⟨"com/example/verify_markov_chains/verifymarkovchains/explicit/StateLayout", "value", "([JII)I"⟩ : MethodName)) hown (hg 219 rfl) (hg 220 rfl) (notFace_of_selects (args := #[]) (mvT hZ (hg 222 rfl))) (hg 222 rfl) (hg 221 rfl) (hg 127 rfl) (hg 223 rfl) (by decide) (a := b615) (argsL := [(.ref b705), (.int (i5 &&& (3 : Int32))), (.int (0 : Int32))]) (rest := []) (rmVal l Z a0 hw T755.heap n0 F766 b615 bw bs bm bl kw ks km kl b0 b1 b2 lo0 lo1 (0 : Int32) (1 : Int32) (2 : Int32) (0 : Int32) F756 F757 F758 F759 F760 F761 F762 F763 F764 b705 _ hs (i5 &&& (3 : Int32)) (0 : Int32) (0 : Int32) (0 : Int32) lo0 (own_mask b0) (own_w2 (own_x v0 lo0) (own_x v1 lo1) b0) (by decide) rfl rfl rfl rfl ff.2.2.2.1 RP' y1) rfl F765 0 (by decide) (by decide) (by decide) (by decide) (g := (mkF m 271 #[(vJ i0), .second, (vJ i1), .second, (vJ i2), .second, (vJ i3), .second, (vI i4), (vI i5), (vI lo0), (vI hi0), (vI lo1), (vI hi1), (vI v0), (vI v1), (vI (0 : Int32)), (vI v2), (vA b556), (vA b615), (vI (i5 &&& (3 : Int32))), (vJ jk), .second, (vA b705), (vA b724), .unset, .unset, .unset] [(.int (0 : Int32)), (.int (i5 &&& (3 : Int32))), (.ref b705), (.ref b615)])) rfl (by rw [hml]; rfl) (lenOf pd22 rfl) rfl (by show 2 * 0 + _ ≤ _; exact Nat.le_of_eq rfl) (hb hby at_271)
      rw [fin.1] at Q768
      obtain ⟨rfl, Mv0, e768⟩ := Q768
      refine DnW.of st768 ?_
      show DnW p e below s (own_Q n0) 40 3328 (T768.setTop (mkF m 274 #[(vJ i0), .second, (vJ i1), .second, (vJ i2), .second, (vJ i3), .second, (vI i4), (vI i5), (vI lo0), (vI hi0), (vI lo1), (vI hi1), (vI v0), (vI v1), (vI (0 : Int32)), (vI v2), (vA b556), (vA b615), (vI (i5 &&& (3 : Int32))), (vJ jk), .second, (vA b705), (vA b724), .unset, .unset, .unset] [(.int v0)]))
      refine DnW.of (fun tt_ zz_ => XS.istore X768.here hx rfl (hb hby at_274) rfl (l' := #[(vJ i0), .second, (vJ i1), .second, (vJ i2), .second, (vJ i3), .second, (vI i4), (vI i5), (vI lo0), (vI hi0), (vI lo1), (vI hi1), (vI v0), (vI v1), (vI (0 : Int32)), (vI v2), (vA b556), (vA b615), (vI (i5 &&& (3 : Int32))), (vJ jk), .second, (vA b705), (vA b724), (vI v0), .unset, .unset]) rfl zz_) ?_
      refine DnW.of (fun tt_ zz_ => XS.aload X768.here hx rfl (hb hby at_276) rfl rfl zz_) ?_
      refine DnW.of (fun tt_ zz_ => XS.aload X768.here hx rfl (hb hby at_278) rfl rfl zz_) ?_
      refine DnW.of (fun tt_ zz_ => XS.iload X768.here hx rfl (hb hby at_280) rfl zz_) ?_
      show DnW p e below s (own_Q n0) 40 3328 (T768.setTop (mkF m 282 #[(vJ i0), .second, (vJ i1), .second, (vJ i2), .second, (vJ i3), .second, (vI i4), (vI i5), (vI lo0), (vI hi0), (vI lo1), (vI hi1), (vI v0), (vI v1), (vI (0 : Int32)), (vI v2), (vA b556), (vA b615), (vI (i5 &&& (3 : Int32))), (vJ jk), .second, (vA b705), (vA b724), (vI v0), .unset, .unset] [(.int (i5 &&& (3 : Int32))), (.ref b705), (.ref b615)]))
      refine DnW.of (fun tt_ zz_ => XS.iconst X768.here hx rfl (hb hby at_282) zz_) ?_
      show DnW p e below s (own_Q n0) 40 3328 (T768.setTop (mkF m 283 #[(vJ i0), .second, (vJ i1), .second, (vJ i2), .second, (vJ i3), .second, (vI i4), (vI i5), (vI lo0), (vI hi0), (vI lo1), (vI hi1), (vI v0), (vI v1), (vI (0 : Int32)), (vI v2), (vA b556), (vA b615), (vI (i5 &&& (3 : Int32))), (vJ jk), .second, (vA b705), (vA b724), (vI v0), .unset, .unset] [(.int (1 : Int32)), (.int (i5 &&& (3 : Int32))), (.ref b705), (.ref b615)]))
      obtain ⟨v769, T769, L769, Q769, X769, st769⟩ := cVi X768 hx hZ (C := "com/example/verify_markov_chains/verifymarkovchains/explicit/StateLayout") (y := (⟨"com/example/verify_markov_chains/verifymarkovchains/explicit/StateLayout", "value", "([JII)I"⟩ : MethodName)) (z := (⟨"com/example/verify_markov_chains/verifymarkovchains/explicit/StateLayout", "value", "([JII)I"⟩ : MethodName)) hown (hg 219 rfl) (hg 220 rfl) (notFace_of_selects (args := #[]) (mvT hZ (hg 222 rfl))) (hg 222 rfl) (hg 221 rfl) (hg 127 rfl) (hg 223 rfl) (by decide) (a := b615) (argsL := [(.ref b705), (.int (i5 &&& (3 : Int32))), (.int (1 : Int32))]) (rest := []) (rmVal l Z a0 hw T755.heap n0 F766 b615 bw bs bm bl kw ks km kl b0 b1 b2 lo0 lo1 (0 : Int32) (1 : Int32) (2 : Int32) (0 : Int32) F756 F757 F758 F759 F760 F761 F762 F763 F764 b705 _ hs (i5 &&& (3 : Int32)) (1 : Int32) (0 : Int32) b0 lo1 (own_mask b1) (own_w2 (own_x v0 lo0) (own_x v1 lo1) b0) (by decide) rfl rfl rfl rfl ff.2.2.2.1 RP' y1) e768 F765 0 (by decide) (by decide) (by decide) (by decide) (g := (mkF m 283 #[(vJ i0), .second, (vJ i1), .second, (vJ i2), .second, (vJ i3), .second, (vI i4), (vI i5), (vI lo0), (vI hi0), (vI lo1), (vI hi1), (vI v0), (vI v1), (vI (0 : Int32)), (vI v2), (vA b556), (vA b615), (vI (i5 &&& (3 : Int32))), (vJ jk), .second, (vA b705), (vA b724), (vI v0), .unset, .unset] [(.int (1 : Int32)), (.int (i5 &&& (3 : Int32))), (.ref b705), (.ref b615)])) rfl (by rw [hml]; rfl) (lenOf pd22 rfl) rfl (by show 2 * 0 + _ ≤ _; exact Nat.le_of_eq rfl) (hb hby at_283)
      rw [fin.2.1] at Q769
      obtain ⟨rfl, Mv1, e769⟩ := Q769
      refine DnW.of st769 ?_
      show DnW p e below s (own_Q n0) 40 3328 (T769.setTop (mkF m 286 #[(vJ i0), .second, (vJ i1), .second, (vJ i2), .second, (vJ i3), .second, (vI i4), (vI i5), (vI lo0), (vI hi0), (vI lo1), (vI hi1), (vI v0), (vI v1), (vI (0 : Int32)), (vI v2), (vA b556), (vA b615), (vI (i5 &&& (3 : Int32))), (vJ jk), .second, (vA b705), (vA b724), (vI v0), .unset, .unset] [(.int v1)]))
      refine DnW.of (fun tt_ zz_ => XS.istore X769.here hx rfl (hb hby at_286) rfl (l' := #[(vJ i0), .second, (vJ i1), .second, (vJ i2), .second, (vJ i3), .second, (vI i4), (vI i5), (vI lo0), (vI hi0), (vI lo1), (vI hi1), (vI v0), (vI v1), (vI (0 : Int32)), (vI v2), (vA b556), (vA b615), (vI (i5 &&& (3 : Int32))), (vJ jk), .second, (vA b705), (vA b724), (vI v0), (vI v1), .unset]) rfl zz_) ?_
      refine DnW.of (fun tt_ zz_ => XS.aload X769.here hx rfl (hb hby at_288) rfl rfl zz_) ?_
      refine DnW.of (fun tt_ zz_ => XS.aload X769.here hx rfl (hb hby at_290) rfl rfl zz_) ?_
      refine DnW.of (fun tt_ zz_ => XS.iload X769.here hx rfl (hb hby at_292) rfl zz_) ?_
      show DnW p e below s (own_Q n0) 40 3328 (T769.setTop (mkF m 294 #[(vJ i0), .second, (vJ i1), .second, (vJ i2), .second, (vJ i3), .second, (vI i4), (vI i5), (vI lo0), (vI hi0), (vI lo1), (vI hi1), (vI v0), (vI v1), (vI (0 : Int32)), (vI v2), (vA b556), (vA b615), (vI (i5 &&& (3 : Int32))), (vJ jk), .second, (vA b705), (vA b724), (vI v0), (vI v1), .unset] [(.int (i5 &&& (3 : Int32))), (.ref b705), (.ref b615)]))
      refine DnW.of (fun tt_ zz_ => XS.iconst X769.here hx rfl (hb hby at_294) zz_) ?_
      show DnW p e below s (own_Q n0) 40 3328 (T769.setTop (mkF m 295 #[(vJ i0), .second, (vJ i1), .second, (vJ i2), .second, (vJ i3), .second, (vI i4), (vI i5), (vI lo0), (vI hi0), (vI lo1), (vI hi1), (vI v0), (vI v1), (vI (0 : Int32)), (vI v2), (vA b556), (vA b615), (vI (i5 &&& (3 : Int32))), (vJ jk), .second, (vA b705), (vA b724), (vI v0), (vI v1), .unset] [(.int (2 : Int32)), (.int (i5 &&& (3 : Int32))), (.ref b705), (.ref b615)]))
      obtain ⟨v770, T770, L770, Q770, X770, st770⟩ := cVi X769 hx hZ (C := "com/example/verify_markov_chains/verifymarkovchains/explicit/StateLayout") (y := (⟨"com/example/verify_markov_chains/verifymarkovchains/explicit/StateLayout", "value", "([JII)I"⟩ : MethodName)) (z := (⟨"com/example/verify_markov_chains/verifymarkovchains/explicit/StateLayout", "value", "([JII)I"⟩ : MethodName)) hown (hg 219 rfl) (hg 220 rfl) (notFace_of_selects (args := #[]) (mvT hZ (hg 222 rfl))) (hg 222 rfl) (hg 221 rfl) (hg 127 rfl) (hg 223 rfl) (by decide) (a := b615) (argsL := [(.ref b705), (.int (i5 &&& (3 : Int32))), (.int (2 : Int32))]) (rest := []) (rmVal l Z a0 hw T755.heap n0 F766 b615 bw bs bm bl kw ks km kl b0 b1 b2 lo0 lo1 (0 : Int32) (1 : Int32) (2 : Int32) (0 : Int32) F756 F757 F758 F759 F760 F761 F762 F763 F764 b705 _ hs (i5 &&& (3 : Int32)) (2 : Int32) (1 : Int32) (0 : Int32) (0 : Int32) (own_mask b2) ((0 : Int64) ||| (own_sh (own_x v2 (0 : Int32)) (0 : Int32))) (by decide) rfl rfl rfl rfl ff.2.2.2.2 RP' y2) e769 F765 0 (by decide) (by decide) (by decide) (by decide) (g := (mkF m 295 #[(vJ i0), .second, (vJ i1), .second, (vJ i2), .second, (vJ i3), .second, (vI i4), (vI i5), (vI lo0), (vI hi0), (vI lo1), (vI hi1), (vI v0), (vI v1), (vI (0 : Int32)), (vI v2), (vA b556), (vA b615), (vI (i5 &&& (3 : Int32))), (vJ jk), .second, (vA b705), (vA b724), (vI v0), (vI v1), .unset] [(.int (2 : Int32)), (.int (i5 &&& (3 : Int32))), (.ref b705), (.ref b615)])) rfl (by rw [hml]; rfl) (lenOf pd22 rfl) rfl (by show 2 * 0 + _ ≤ _; exact Nat.le_of_eq rfl) (hb hby at_295)
      rw [fin.2.2] at Q770
      obtain ⟨rfl, Mv2, e770⟩ := Q770
      refine DnW.of st770 ?_
      show DnW p e below s (own_Q n0) 40 3328 (T770.setTop (mkF m 298 #[(vJ i0), .second, (vJ i1), .second, (vJ i2), .second, (vJ i3), .second, (vI i4), (vI i5), (vI lo0), (vI hi0), (vI lo1), (vI hi1), (vI v0), (vI v1), (vI (0 : Int32)), (vI v2), (vA b556), (vA b615), (vI (i5 &&& (3 : Int32))), (vJ jk), .second, (vA b705), (vA b724), (vI v0), (vI v1), .unset] [(.int v2)]))
      refine DnW.of (fun tt_ zz_ => XS.istore X770.here hx rfl (hb hby at_298) rfl (l' := #[(vJ i0), .second, (vJ i1), .second, (vJ i2), .second, (vJ i3), .second, (vI i4), (vI i5), (vI lo0), (vI hi0), (vI lo1), (vI hi1), (vI v0), (vI v1), (vI (0 : Int32)), (vI v2), (vA b556), (vA b615), (vI (i5 &&& (3 : Int32))), (vJ jk), .second, (vA b705), (vA b724), (vI v0), (vI v1), (vI v2)]) rfl zz_) ?_
      refine DnW.of (fun tt_ zz_ => XS.iload X770.here hx rfl (hb hby at_300) rfl zz_) ?_
      refine DnW.of (fun tt_ zz_ => XS.iload X770.here hx rfl (hb hby at_302) rfl zz_) ?_
      show DnW p e below s (own_Q n0) 40 3328 (T770.setTop (mkF m 304 #[(vJ i0), .second, (vJ i1), .second, (vJ i2), .second, (vJ i3), .second, (vI i4), (vI i5), (vI lo0), (vI hi0), (vI lo1), (vI hi1), (vI v0), (vI v1), (vI (0 : Int32)), (vI v2), (vA b556), (vA b615), (vI (i5 &&& (3 : Int32))), (vJ jk), .second, (vA b705), (vA b724), (vI v0), (vI v1), (vI v2)] [(.int v0), (.int v0)]))
      refine DnW.of (fun tt_ zz_ => XS.icmpNo X770.here hx rfl (hb hby at_304) rfl (teq rfl).2 zz_) ?_
      show DnW p e below s (own_Q n0) 40 3328 (T770.setTop (mkF m 307 #[(vJ i0), .second, (vJ i1), .second, (vJ i2), .second, (vJ i3), .second, (vI i4), (vI i5), (vI lo0), (vI hi0), (vI lo1), (vI hi1), (vI v0), (vI v1), (vI (0 : Int32)), (vI v2), (vA b556), (vA b615), (vI (i5 &&& (3 : Int32))), (vJ jk), .second, (vA b705), (vA b724), (vI v0), (vI v1), (vI v2)] []))
      refine DnW.of (fun tt_ zz_ => XS.iload X770.here hx rfl (hb hby at_307) rfl zz_) ?_
      refine DnW.of (fun tt_ zz_ => XS.iload X770.here hx rfl (hb hby at_309) rfl zz_) ?_
      show DnW p e below s (own_Q n0) 40 3328 (T770.setTop (mkF m 311 #[(vJ i0), .second, (vJ i1), .second, (vJ i2), .second, (vJ i3), .second, (vI i4), (vI i5), (vI lo0), (vI hi0), (vI lo1), (vI hi1), (vI v0), (vI v1), (vI (0 : Int32)), (vI v2), (vA b556), (vA b615), (vI (i5 &&& (3 : Int32))), (vJ jk), .second, (vA b705), (vA b724), (vI v0), (vI v1), (vI v2)] [(.int v1), (.int v1)]))
      refine DnW.of (fun tt_ zz_ => XS.icmpNo X770.here hx rfl (hb hby at_311) rfl (teq rfl).2 zz_) ?_
      show DnW p e below s (own_Q n0) 40 3328 (T770.setTop (mkF m 314 #[(vJ i0), .second, (vJ i1), .second, (vJ i2), .second, (vJ i3), .second, (vI i4), (vI i5), (vI lo0), (vI hi0), (vI lo1), (vI hi1), (vI v0), (vI v1), (vI (0 : Int32)), (vI v2), (vA b556), (vA b615), (vI (i5 &&& (3 : Int32))), (vJ jk), .second, (vA b705), (vA b724), (vI v0), (vI v1), (vI v2)] []))
      refine DnW.of (fun tt_ zz_ => XS.iload X770.here hx rfl (hb hby at_314) rfl zz_) ?_
      refine DnW.of (fun tt_ zz_ => XS.iload X770.here hx rfl (hb hby at_316) rfl zz_) ?_
      show DnW p e below s (own_Q n0) 40 3328 (T770.setTop (mkF m 318 #[(vJ i0), .second, (vJ i1), .second, (vJ i2), .second, (vJ i3), .second, (vI i4), (vI i5), (vI lo0), (vI hi0), (vI lo1), (vI hi1), (vI v0), (vI v1), (vI (0 : Int32)), (vI v2), (vA b556), (vA b615), (vI (i5 &&& (3 : Int32))), (vJ jk), .second, (vA b705), (vA b724), (vI v0), (vI v1), (vI v2)] [(.int v2), (.int v2)]))
      refine DnW.of (fun tt_ zz_ => XS.icmpNo X770.here hx rfl (hb hby at_318) rfl (teq rfl).2 zz_) ?_
      show DnW p e below s (own_Q n0) 40 3328 (T770.setTop (mkF m 321 #[(vJ i0), .second, (vJ i1), .second, (vJ i2), .second, (vJ i3), .second, (vI i4), (vI i5), (vI lo0), (vI hi0), (vI lo1), (vI hi1), (vI v0), (vI v1), (vI (0 : Int32)), (vI v2), (vA b556), (vA b615), (vI (i5 &&& (3 : Int32))), (vJ jk), .second, (vA b705), (vA b724), (vI v0), (vI v1), (vI v2)] []))
      refine DnW.of (fun tt_ zz_ => XS.iconst X770.here hx rfl (hb hby at_321) zz_) ?_
      refine DnW.of (fun tt_ zz_ => XS.goto X770.here hx rfl (pc0 := 322) (pc' := 326) rfl (hb hby at_322) (by decide) (by decide) zz_) ?_
      show DnW p e below s (own_Q n0) 40 3328 (T770.setTop (mkF m 326 #[(vJ i0), .second, (vJ i1), .second, (vJ i2), .second, (vJ i3), .second, (vI i4), (vI i5), (vI lo0), (vI hi0), (vI lo1), (vI hi1), (vI v0), (vI v1), (vI (0 : Int32)), (vI v2), (vA b556), (vA b615), (vI (i5 &&& (3 : Int32))), (vJ jk), .second, (vA b705), (vA b724), (vI v0), (vI v1), (vI v2)] [(.int (1 : Int32))]))
      exact DnW.retN hS (by rw [e770]; exact F767) X770 hx hlk (t := .boolean) hret (by simp) (hb hby at_326) (by decide) (by decide) (⟨rfl, (Fr.app (Fr.app (Fr.app (Fr.app N740 Mp) Mv0) Mv1) Mv2)⟩)
  · skip
    refine DnW.of (fun tt_ zz_ => XS.ifNo X555.here hx rfl (hb hby at_51) rfl ((if0 _ _).trans (feq hreal).1) zz_) ?_
    show DnW p e below s (own_Q n0) 40 3328 (T555.setTop (mkF m 54 #[(vJ i0), .second, (vJ i1), .second, (vJ i2), .second, (vJ i3), .second, (vI i4), (vI i5), (vI lo0), (vI hi0), (vI lo1), (vI hi1), (vI v0), (vI v1), .unset, .unset, .unset, .unset, .unset, .unset, .unset, .unset, .unset, .unset, .unset, .unset] []))
    refine DnW.of (fun tt_ zz_ => XS.iconst X555.here hx rfl (hb hby at_54) zz_) ?_
    refine DnW.of (fun tt_ zz_ => XS.goto X555.here hx rfl (pc0 := 55) (pc' := 59) rfl (hb hby at_55) (by decide) (by decide) zz_) ?_
    refine DnW.of (fun tt_ zz_ => XS.istore X555.here hx rfl (hb hby at_59) rfl (l' := #[(vJ i0), .second, (vJ i1), .second, (vJ i2), .second, (vJ i3), .second, (vI i4), (vI i5), (vI lo0), (vI hi0), (vI lo1), (vI hi1), (vI v0), (vI v1), (vI (1 : Int32)), .unset, .unset, .unset, .unset, .unset, .unset, .unset, .unset, .unset, .unset, .unset]) rfl zz_) ?_
    refine DnW.of (fun tt_ zz_ => XS.iload X555.here hx rfl (hb hby at_61) rfl zz_) ?_
    show DnW p e below s (own_Q n0) 40 3328 (T555.setTop (mkF m 63 #[(vJ i0), .second, (vJ i1), .second, (vJ i2), .second, (vJ i3), .second, (vI i4), (vI i5), (vI lo0), (vI hi0), (vI lo1), (vI hi1), (vI v0), (vI v1), (vI (1 : Int32)), .unset, .unset, .unset, .unset, .unset, .unset, .unset, .unset, .unset, .unset, .unset] [(.int (1 : Int32))]))
    refine DnW.of (fun tt_ zz_ => XS.ifNo X555.here hx rfl (hb hby at_63) rfl ((if0 _ _).trans (feq (by decide)).1) zz_) ?_
    show DnW p e below s (own_Q n0) 40 3328 (T555.setTop (mkF m 66 #[(vJ i0), .second, (vJ i1), .second, (vJ i2), .second, (vJ i3), .second, (vI i4), (vI i5), (vI lo0), (vI hi0), (vI lo1), (vI hi1), (vI v0), (vI v1), (vI (1 : Int32)), .unset, .unset, .unset, .unset, .unset, .unset, .unset, .unset, .unset, .unset, .unset] []))
    refine DnW.of (fun tt_ zz_ => XS.iload X555.here hx rfl (hb hby at_66) rfl zz_) ?_
    refine DnW.of (fun tt_ zz_ => XS.iconst X555.here hx rfl (hb hby at_68) zz_) ?_
    refine DnW.of (fun tt_ zz_ => XS.iushr X555.here hx rfl (hb hby at_69) rfl zz_) ?_
    refine DnW.of (fun tt_ zz_ => XS.goto X555.here hx rfl (pc0 := 70) (pc' := 79) rfl (hb hby at_70) (by decide) (by decide) zz_) ?_
    show DnW p e below s (own_Q n0) 40 3328 (T555.setTop (mkF m 79 #[(vJ i0), .second, (vJ i1), .second, (vJ i2), .second, (vJ i3), .second, (vI i4), (vI i5), (vI lo0), (vI hi0), (vI lo1), (vI hi1), (vI v0), (vI v1), (vI (1 : Int32)), .unset, .unset, .unset, .unset, .unset, .unset, .unset, .unset, .unset, .unset, .unset] [(.int ((i4.toUInt32 >>> ((1 : Int32) &&& 31).toUInt32).toInt32))]))
    refine DnW.of (fun tt_ zz_ => XS.istore X555.here hx rfl (hb hby at_79) rfl (l' := #[(vJ i0), .second, (vJ i1), .second, (vJ i2), .second, (vJ i3), .second, (vI i4), (vI i5), (vI lo0), (vI hi0), (vI lo1), (vI hi1), (vI v0), (vI v1), (vI (1 : Int32)), (vI ((i4.toUInt32 >>> ((1 : Int32) &&& 31).toUInt32).toInt32)), .unset, .unset, .unset, .unset, .unset, .unset, .unset, .unset, .unset, .unset]) rfl zz_) ?_
    show DnW p e below s (own_Q n0) 40 3328 (T555.setTop (mkF m 81 #[(vJ i0), .second, (vJ i1), .second, (vJ i2), .second, (vJ i3), .second, (vI i4), (vI i5), (vI lo0), (vI hi0), (vI lo1), (vI hi1), (vI v0), (vI v1), (vI (1 : Int32)), (vI ((i4.toUInt32 >>> ((1 : Int32) &&& 31).toUInt32).toInt32)), .unset, .unset, .unset, .unset, .unset, .unset, .unset, .unset, .unset, .unset] []))
    generalize hv2 : ((i4.toUInt32 >>> ((1 : Int32) &&& 31).toUInt32).toInt32) = v2 at *
    show DnW p e below s (own_Q n0) 40 3328 (T555.setTop (mkF m 81 #[(vJ i0), .second, (vJ i1), .second, (vJ i2), .second, (vJ i3), .second, (vI i4), (vI i5), (vI lo0), (vI hi0), (vI lo1), (vI hi1), (vI v0), (vI v1), (vI (1 : Int32)), (vI v2), .unset, .unset, .unset, .unset, .unset, .unset, .unset, .unset, .unset, .unset] []))
    have R2 : own_R v2 (0 : Int32) (own_S a_DOUBLE a_DOUBLE (0 : Int32) (0 : Int32)) := by unfold own_R own_S; rw [if_pos rfl, show (0 : Int32).toInt = 0 by decide]; omega
    have S2 : 1 ≤ own_S a_DOUBLE a_DOUBLE (0 : Int32) (0 : Int32) := by unfold own_S; rw [if_pos rfl]; decide
    obtain ⟨T771, h771, X771, e771, E771, A771, D771, U771, st771⟩ := newO X555 hx hZ hown (hg 17 rfl) (hg 18 rfl) (hg 19 rfl) e555 (g := (mkF m 81 #[(vJ i0), .second, (vJ i1), .second, (vJ i2), .second, (vJ i3), .second, (vI i4), (vI i5), (vI lo0), (vI hi0), (vI lo1), (vI hi1), (vI v0), (vI v1), (vI (1 : Int32)), (vI v2), .unset, .unset, .unset, .unset, .unset, .unset, .unset, .unset, .unset, .unset] [])) rfl (hb hby at_81) (by decide) (by decide)
    obtain ⟨b771, g771⟩ : ∃ z, z = h0.size := ⟨_, rfl⟩
    rw [← g771] at A771 D771 U771 st771
    refine DnW.of st771 ?_
    show DnW p e below s (own_Q n0) 40 3328 (T771.setTop (mkF m 84 #[(vJ i0), .second, (vJ i1), .second, (vJ i2), .second, (vJ i3), .second, (vI i4), (vI i5), (vI lo0), (vI hi0), (vI lo1), (vI hi1), (vI v0), (vI v1), (vI (1 : Int32)), (vI v2), .unset, .unset, .unset, .unset, .unset, .unset, .unset, .unset, .unset, .unset] [(.ref b771)]))
    have F_modCount_771 : Fld Z h771 b771 "java/util/AbstractList" "modCount" "I" (.int (0 : Int32)) := D771 (Or.inl (hg 39 rfl)) (ty := .int) (by decide)
    have F_elementData_771 : Fld Z h771 b771 "java/util/ArrayList" "elementData" "[Ljava/lang/Object;" .null := D771 (Or.inl (hg 42 rfl)) (ty := (.array (.object "java/lang/Object"))) (by decide)
    have F_size_771 : Fld Z h771 b771 "java/util/ArrayList" "size" "I" (.int (0 : Int32)) := D771 (Or.inl (hg 90 rfl)) (ty := .int) (by decide)
    have gls : n0 ≤ b771 := g771 ▸ Z0
    refine DnW.of (fun tt_ zz_ => XS.dup X771.here hx rfl (hb hby at_84) rfl rfl zz_) ?_
    show DnW p e below s (own_Q n0) 40 3328 (T771.setTop (mkF m 85 #[(vJ i0), .second, (vJ i1), .second, (vJ i2), .second, (vJ i3), .second, (vI i4), (vI i5), (vI lo0), (vI hi0), (vI lo1), (vI hi1), (vI v0), (vI v1), (vI (1 : Int32)), (vI v2), .unset, .unset, .unset, .unset, .unset, .unset, .unset, .unset, .unset, .unset] [(.ref b771), (.ref b771)]))
    have F772 := (O0.ext E771)
    have F773 := (Nat.le_trans Z0 E771.1)
    obtain ⟨v774, T774, L774, Q774, X774, st774⟩ := cIn X771 hx hZ (y := (⟨"java/util/ArrayList", "<init>", "()V"⟩ : MethodName)) rfl hown (hg 20 rfl) (hg 21 rfl) (hg 19 rfl) (hg 22 rfl) (by decide) (a := b771) (argsL := []) (rest := [(.ref b771)]) (rmAL l Z a0 hw h771 n0 F773 b771 aD SD F772 A771 F_modCount_771 F_elementData_771 F_size_771 gls) e771  1 (by decide) (by decide) (by decide) (by decide) (g := (mkF m 85 #[(vJ i0), .second, (vJ i1), .second, (vJ i2), .second, (vJ i3), .second, (vI i4), (vI i5), (vI lo0), (vI hi0), (vI lo1), (vI hi1), (vI v0), (vI v1), (vI (1 : Int32)), (vI v2), .unset, .unset, .unset, .unset, .unset, .unset, .unset, .unset, .unset, .unset] [(.ref b771), (.ref b771)])) rfl (by rw [hml]; rfl) (lenOf pd1 rfl) rfl (by show 2 * 0 + _ ≤ _; exact Nat.le_of_eq rfl) (hb hby at_85)
    obtain ⟨rfl, Ml, Kl, G1, G2, G3⟩ := Q774
    refine DnW.of st774 ?_
    show DnW p e below s (own_Q n0) 40 3328 (T774.setTop (mkF m 88 #[(vJ i0), .second, (vJ i1), .second, (vJ i2), .second, (vJ i3), .second, (vI i4), (vI i5), (vI lo0), (vI hi0), (vI lo1), (vI hi1), (vI v0), (vI v1), (vI (1 : Int32)), (vI v2), .unset, .unset, .unset, .unset, .unset, .unset, .unset, .unset, .unset, .unset] [(.ref b771)]))
    refine DnW.of (fun tt_ zz_ => XS.astore X774.here hx rfl (hb hby at_88) rfl rfl (l' := #[(vJ i0), .second, (vJ i1), .second, (vJ i2), .second, (vJ i3), .second, (vI i4), (vI i5), (vI lo0), (vI hi0), (vI lo1), (vI hi1), (vI v0), (vI v1), (vI (1 : Int32)), (vI v2), (vA b771), .unset, .unset, .unset, .unset, .unset, .unset, .unset, .unset, .unset]) rfl zz_) ?_
    refine DnW.of (fun tt_ zz_ => XS.aload X774.here hx rfl (hb hby at_90) rfl rfl zz_) ?_
    show DnW p e below s (own_Q n0) 40 3328 (T774.setTop (mkF m 92 #[(vJ i0), .second, (vJ i1), .second, (vJ i2), .second, (vJ i3), .second, (vI i4), (vI i5), (vI lo0), (vI hi0), (vI lo1), (vI hi1), (vI v0), (vI v1), (vI (1 : Int32)), (vI v2), (vA b771), .unset, .unset, .unset, .unset, .unset, .unset, .unset, .unset, .unset] [(.ref b771)]))
    have F775 := (Nat.le_trans (Nat.le_trans hk E771.1) Kl.1)
    obtain ⟨b776, T776, h776, k776, X776, e776, E776, hS, hk776, hZ, hown, st776⟩ := ldcS X774 hx hZ hown (hg 43 rfl) (own_wS hw) rfl hS F775 (g := (mkF m 92 #[(vJ i0), .second, (vJ i1), .second, (vJ i2), .second, (vJ i3), .second, (vI i4), (vI i5), (vI lo0), (vI hi0), (vI lo1), (vI hi1), (vI v0), (vI v1), (vI (1 : Int32)), (vI v2), (vA b771), .unset, .unset, .unset, .unset, .unset, .unset, .unset, .unset, .unset] [(.ref b771)])) rfl (hb hby at_92) (n := 4) (by decide) (by decide) (by decide) (by decide)
    refine DnW.of st776 ?_
    show DnW p e below s (own_Q n0) 40 3328 (T776.setTop (mkF m 94 #[(vJ i0), .second, (vJ i1), .second, (vJ i2), .second, (vJ i3), .second, (vI i4), (vI i5), (vI lo0), (vI hi0), (vI lo1), (vI hi1), (vI v0), (vI v1), (vI (1 : Int32)), (vI v2), (vA b771), .unset, .unset, .unset, .unset, .unset, .unset, .unset, .unset, .unset] [(.ref b776), (.ref b771)]))
    refine DnW.of (fun tt_ zz_ => XS.iload X776.here hx rfl (hb hby at_94) rfl zz_) ?_
    refine DnW.of (fun tt_ zz_ => XS.iload X776.here hx rfl (hb hby at_96) rfl zz_) ?_
    refine DnW.of (fun tt_ zz_ => XS.iload X776.here hx rfl (hb hby at_98) rfl zz_) ?_
    show DnW p e below s (own_Q n0) 40 3328 (T776.setTop (mkF m 100 #[(vJ i0), .second, (vJ i1), .second, (vJ i2), .second, (vJ i3), .second, (vI i4), (vI i5), (vI lo0), (vI hi0), (vI lo1), (vI hi1), (vI v0), (vI v1), (vI (1 : Int32)), (vI v2), (vA b771), .unset, .unset, .unset, .unset, .unset, .unset, .unset, .unset, .unset] [(.int lo0), (.int hi0), (.int lo0), (.ref b776), (.ref b771)]))
    have F777 := ((F772.keep Kl (allS gls all0)).ext E776)
    have F778 := (Nat.le_trans (Nat.le_trans F773 Kl.1) E776.1)
    obtain ⟨v779, T779, L779, Q779, X779, st779⟩ := cSt X776 hx hZ (y := (⟨"com/example/verify_markov_chains/verifymarkovchains/model/Variable", "ofInt", "(Ljava/lang/String;III)Lcom/example/verify_markov_chains/verifymarkovchains/model/Variable;"⟩ : MethodName)) hown (hg 51 rfl) (hg 52 rfl) (hg 53 rfl) (hg 54 rfl) (by decide) (argsL := [(.ref b776), (.int lo0), (.int hi0), (.int lo0)]) (rest := [(.ref b771)]) (rmOI l Z a0 hw h776 n0 F778 b776 a_INT lo0 hi0 S_INT F777 le0) e776  1 (by decide) (by decide) (by decide) (by decide) (g := (mkF m 100 #[(vJ i0), .second, (vJ i1), .second, (vJ i2), .second, (vJ i3), .second, (vI i4), (vI i5), (vI lo0), (vI hi0), (vI lo1), (vI hi1), (vI v0), (vI v1), (vI (1 : Int32)), (vI v2), (vA b771), .unset, .unset, .unset, .unset, .unset, .unset, .unset, .unset, .unset] [(.int lo0), (.int hi0), (.int lo0), (.ref b776), (.ref b771)])) rfl (by rw [hml]; rfl) (lenOf pd17 rfl) rfl (by show 2 * 0 + _ ≤ _; exact Nat.le_of_eq rfl) (hb hby at_100)
    obtain ⟨u0, rfl, gu0, Mu0, Xu0, V0⟩ := Q779
    refine DnW.of st779 ?_
    show DnW p e below s (own_Q n0) 40 3328 (T779.setTop (mkF m 103 #[(vJ i0), .second, (vJ i1), .second, (vJ i2), .second, (vJ i3), .second, (vI i4), (vI i5), (vI lo0), (vI hi0), (vI lo1), (vI hi1), (vI v0), (vI v1), (vI (1 : Int32)), (vI v2), (vA b771), .unset, .unset, .unset, .unset, .unset, .unset, .unset, .unset, .unset] [(.ref u0), (.ref b771)]))
    have F780 := ((A771.keep Kl).ext E776)
    have n781 : b771 ≠ u0 := Nat.ne_of_lt (gu0.symm ▸ F780.lt)
    have F782 := (F777.ext Xu0)
    have F783 := (Nat.le_trans F778 Xu0.1)
    have F784 := (F780.ext Xu0)
    have F785 := ((G1.ext E776).ext Xu0)
    have F786 := ((G2.ext E776).ext Xu0)
    have F787 := ((G3.ext E776).ext Xu0)
    obtain ⟨v788, T788, L788, Q788, X788, st788⟩ := cVi X779 hx hZ (C := "java/util/ArrayList") (y := (⟨"java/util/ArrayList", "add", "(Ljava/lang/Object;)Z"⟩ : MethodName)) (z := (⟨"java/util/ArrayList", "add", "(Ljava/lang/Object;)Z"⟩ : MethodName)) hown (hg 82 rfl) (hg 83 rfl) (notFace_of_selects (args := #[]) (mvT hZ (hg 85 rfl))) (hg 85 rfl) (hg 84 rfl) (hg 19 rfl) (hg 86 rfl) (by decide) (a := b771) (argsL := [(.ref u0)]) (rest := []) (rmA1 l Z a0 hw T779.heap n0 F783 b771 u0 _ aD lD SD RD zD F782 F784 F785 F786 F787 gls V0.1) rfl F784 0 (by decide) (by decide) (by decide) (by decide) (g := (mkF m 103 #[(vJ i0), .second, (vJ i1), .second, (vJ i2), .second, (vJ i3), .second, (vI i4), (vI i5), (vI lo0), (vI hi0), (vI lo1), (vI hi1), (vI v0), (vI v1), (vI (1 : Int32)), (vI v2), (vA b771), .unset, .unset, .unset, .unset, .unset, .unset, .unset, .unset, .unset] [(.ref u0), (.ref b771)])) rfl (by rw [hml]; rfl) (lenOf pd18 rfl) rfl (by show 2 * 0 + _ ≤ _; exact Nat.le_of_eq rfl) (hb hby at_103)
    obtain ⟨bE, kE, rfl, gE, hE, OV, Ma0, Ka0, G1, G2, G3, RE⟩ := Q788
    refine DnW.of st788 ?_
    show DnW p e below s (own_Q n0) 40 3328 (T788.setTop (mkF m 106 #[(vJ i0), .second, (vJ i1), .second, (vJ i2), .second, (vJ i3), .second, (vI i4), (vI i5), (vI lo0), (vI hi0), (vI lo1), (vI hi1), (vI v0), (vI v1), (vI (1 : Int32)), (vI v2), (vA b771), .unset, .unset, .unset, .unset, .unset, .unset, .unset, .unset, .unset] [(.int (1 : Int32))]))
    have nEEL : b771 ≠ bE := Nat.ne_of_lt (Nat.lt_of_lt_of_le F784.lt hE)
    have nEV0 : u0 ≠ bE := Nat.ne_of_lt (Nat.lt_of_lt_of_le V0.lt hE)
    have G1_0 := G1
    have G2_0 := G2
    have G3_0 := G3
    have RE_0 := RE
    refine DnW.of (fun tt_ zz_ => XS.pop X788.here hx rfl (hb hby at_106) rfl rfl zz_) ?_
    refine DnW.of (fun tt_ zz_ => XS.aload X788.here hx rfl (hb hby at_107) rfl rfl zz_) ?_
    show DnW p e below s (own_Q n0) 40 3328 (T788.setTop (mkF m 109 #[(vJ i0), .second, (vJ i1), .second, (vJ i2), .second, (vJ i3), .second, (vI i4), (vI i5), (vI lo0), (vI hi0), (vI lo1), (vI hi1), (vI v0), (vI v1), (vI (1 : Int32)), (vI v2), (vA b771), .unset, .unset, .unset, .unset, .unset, .unset, .unset, .unset, .unset] [(.ref b771)]))
    have F789 := (Nat.le_trans (Nat.le_trans hk776 Xu0.1) Ka0.1)
    obtain ⟨b790, T790, h790, k790, X790, e790, E790, hS, hk790, hZ, hown, st790⟩ := ldcS X788 hx hZ hown (hg 110 rfl) (own_wS hw) rfl hS F789 (g := (mkF m 109 #[(vJ i0), .second, (vJ i1), .second, (vJ i2), .second, (vJ i3), .second, (vI i4), (vI i5), (vI lo0), (vI hi0), (vI lo1), (vI hi1), (vI v0), (vI v1), (vI (1 : Int32)), (vI v2), (vA b771), .unset, .unset, .unset, .unset, .unset, .unset, .unset, .unset, .unset] [(.ref b771)])) rfl (hb hby at_109) (n := 4) (by decide) (by decide) (by decide) (by decide)
    refine DnW.of st790 ?_
    show DnW p e below s (own_Q n0) 40 3328 (T790.setTop (mkF m 111 #[(vJ i0), .second, (vJ i1), .second, (vJ i2), .second, (vJ i3), .second, (vI i4), (vI i5), (vI lo0), (vI hi0), (vI lo1), (vI hi1), (vI v0), (vI v1), (vI (1 : Int32)), (vI v2), (vA b771), .unset, .unset, .unset, .unset, .unset, .unset, .unset, .unset, .unset] [(.ref b790), (.ref b771)]))
    refine DnW.of (fun tt_ zz_ => XS.iload X790.here hx rfl (hb hby at_111) rfl zz_) ?_
    refine DnW.of (fun tt_ zz_ => XS.iload X790.here hx rfl (hb hby at_113) rfl zz_) ?_
    refine DnW.of (fun tt_ zz_ => XS.iload X790.here hx rfl (hb hby at_115) rfl zz_) ?_
    show DnW p e below s (own_Q n0) 40 3328 (T790.setTop (mkF m 117 #[(vJ i0), .second, (vJ i1), .second, (vJ i2), .second, (vJ i3), .second, (vI i4), (vI i5), (vI lo0), (vI hi0), (vI lo1), (vI hi1), (vI v0), (vI v1), (vI (1 : Int32)), (vI v2), (vA b771), .unset, .unset, .unset, .unset, .unset, .unset, .unset, .unset, .unset] [(.int lo1), (.int hi1), (.int lo1), (.ref b790), (.ref b771)]))
    have F791 := ((F782.keep Ka0 (allS gls all0)).ext E790)
    have F792 := (Nat.le_trans (Nat.le_trans F783 Ka0.1) E790.1)
    obtain ⟨v793, T793, L793, Q793, X793, st793⟩ := cSt X790 hx hZ (y := (⟨"com/example/verify_markov_chains/verifymarkovchains/model/Variable", "ofInt", "(Ljava/lang/String;III)Lcom/example/verify_markov_chains/verifymarkovchains/model/Variable;"⟩ : MethodName)) hown (hg 51 rfl) (hg 52 rfl) (hg 53 rfl) (hg 54 rfl) (by decide) (argsL := [(.ref b790), (.int lo1), (.int hi1), (.int lo1)]) (rest := [(.ref b771)]) (rmOI l Z a0 hw h790 n0 F792 b790 a_INT lo1 hi1 S_INT F791 le1) e790  1 (by decide) (by decide) (by decide) (by decide) (g := (mkF m 117 #[(vJ i0), .second, (vJ i1), .second, (vJ i2), .second, (vJ i3), .second, (vI i4), (vI i5), (vI lo0), (vI hi0), (vI lo1), (vI hi1), (vI v0), (vI v1), (vI (1 : Int32)), (vI v2), (vA b771), .unset, .unset, .unset, .unset, .unset, .unset, .unset, .unset, .unset] [(.int lo1), (.int hi1), (.int lo1), (.ref b790), (.ref b771)])) rfl (by rw [hml]; rfl) (lenOf pd17 rfl) rfl (by show 2 * 0 + _ ≤ _; exact Nat.le_of_eq rfl) (hb hby at_117)
    obtain ⟨u1, rfl, gu1, Mu1, Xu1, V1⟩ := Q793
    refine DnW.of st793 ?_
    show DnW p e below s (own_Q n0) 40 3328 (T793.setTop (mkF m 120 #[(vJ i0), .second, (vJ i1), .second, (vJ i2), .second, (vJ i3), .second, (vI i4), (vI i5), (vI lo0), (vI hi0), (vI lo1), (vI hi1), (vI v0), (vI v1), (vI (1 : Int32)), (vI v2), (vA b771), .unset, .unset, .unset, .unset, .unset, .unset, .unset, .unset, .unset] [(.ref u1), (.ref b771)]))
    have F794 := ((F784.keep Ka0).ext E790)
    have n795 : b771 ≠ u1 := Nat.ne_of_lt (gu1.symm ▸ F794.lt)
    have F796 := ((V0.keep Ka0 (ninS (Ne.symm n781) nin0)).ext E790)
    have n797 : u0 ≠ u1 := Nat.ne_of_lt (gu1.symm ▸ F796.lt)
    have F798 := (RE_0.ext E790)
    have n799 : bE ≠ u1 := Nat.ne_of_lt (gu1.symm ▸ F798.lt)
    have F800 := (F791.ext Xu1)
    have F801 := (Nat.le_trans F792 Xu1.1)
    have F802 := (F794.ext Xu1)
    have F803 := ((G1_0.ext E790).ext Xu1)
    have F804 := ((G2_0.ext E790).ext Xu1)
    have F805 := ((G3_0.ext E790).ext Xu1)
    have F806 := (F798.ext Xu1)
    obtain ⟨v807, T807, L807, Q807, X807, st807⟩ := cVi X793 hx hZ (C := "java/util/ArrayList") (y := (⟨"java/util/ArrayList", "add", "(Ljava/lang/Object;)Z"⟩ : MethodName)) (z := (⟨"java/util/ArrayList", "add", "(Ljava/lang/Object;)Z"⟩ : MethodName)) hown (hg 82 rfl) (hg 83 rfl) (notFace_of_selects (args := #[]) (mvT hZ (hg 85 rfl))) (hg 85 rfl) (hg 84 rfl) (hg 19 rfl) (hg 86 rfl) (by decide) (a := b771) (argsL := [(.ref u1)]) (rest := []) (rmB1 l Z a0 hw T793.heap n0 F801 b771 u1 bE kE [((0 : Int32), .ref u0)] _ (1 : Int32) (by decide) (by decide) OV F802 F803 F804 F805 gls V1.1 (Ne.symm nEEL) gE F806) rfl F802 0 (by decide) (by decide) (by decide) (by decide) (g := (mkF m 120 #[(vJ i0), .second, (vJ i1), .second, (vJ i2), .second, (vJ i3), .second, (vI i4), (vI i5), (vI lo0), (vI hi0), (vI lo1), (vI hi1), (vI v0), (vI v1), (vI (1 : Int32)), (vI v2), (vA b771), .unset, .unset, .unset, .unset, .unset, .unset, .unset, .unset, .unset] [(.ref u1), (.ref b771)])) rfl (by rw [hml]; rfl) (lenOf pd18 rfl) rfl (by show 2 * 0 + _ ≤ _; exact Nat.le_of_eq rfl) (hb hby at_120)
    obtain ⟨rfl, Ma1, Ka1, G1, G2, G3, RE⟩ := Q807
    rw [show ((1 : Int32) + (1 : Int32)) = (2 : Int32) by decide] at G3
    refine DnW.of st807 ?_
    show DnW p e below s (own_Q n0) 40 3328 (T807.setTop (mkF m 123 #[(vJ i0), .second, (vJ i1), .second, (vJ i2), .second, (vJ i3), .second, (vI i4), (vI i5), (vI lo0), (vI hi0), (vI lo1), (vI hi1), (vI v0), (vI v1), (vI (1 : Int32)), (vI v2), (vA b771), .unset, .unset, .unset, .unset, .unset, .unset, .unset, .unset, .unset] [(.int (1 : Int32))]))
    have G1_1 := G1
    have G2_1 := G2
    have G3_1 := G3
    have RE_1 := RE
    refine DnW.of (fun tt_ zz_ => XS.pop X807.here hx rfl (hb hby at_123) rfl rfl zz_) ?_
    refine DnW.of (fun tt_ zz_ => XS.iload X807.here hx rfl (hb hby at_124) rfl zz_) ?_
    show DnW p e below s (own_Q n0) 40 3328 (T807.setTop (mkF m 126 #[(vJ i0), .second, (vJ i1), .second, (vJ i2), .second, (vJ i3), .second, (vI i4), (vI i5), (vI lo0), (vI hi0), (vI lo1), (vI hi1), (vI v0), (vI v1), (vI (1 : Int32)), (vI v2), (vA b771), .unset, .unset, .unset, .unset, .unset, .unset, .unset, .unset, .unset] [(.int (1 : Int32))]))
    refine DnW.of (fun tt_ zz_ => XS.ifNo X807.here hx rfl (hb hby at_126) rfl ((if0 _ _).trans (feq (by decide)).1) zz_) ?_
    show DnW p e below s (own_Q n0) 40 3328 (T807.setTop (mkF m 129 #[(vJ i0), .second, (vJ i1), .second, (vJ i2), .second, (vJ i3), .second, (vI i4), (vI i5), (vI lo0), (vI hi0), (vI lo1), (vI hi1), (vI v0), (vI v1), (vI (1 : Int32)), (vI v2), (vA b771), .unset, .unset, .unset, .unset, .unset, .unset, .unset, .unset, .unset] []))
    refine DnW.of (fun tt_ zz_ => XS.aload X807.here hx rfl (hb hby at_129) rfl rfl zz_) ?_
    show DnW p e below s (own_Q n0) 40 3328 (T807.setTop (mkF m 131 #[(vJ i0), .second, (vJ i1), .second, (vJ i2), .second, (vJ i3), .second, (vI i4), (vI i5), (vI lo0), (vI hi0), (vI lo1), (vI hi1), (vI v0), (vI v1), (vI (1 : Int32)), (vI v2), (vA b771), .unset, .unset, .unset, .unset, .unset, .unset, .unset, .unset, .unset] [(.ref b771)]))
    have F808 := (Nat.le_trans (Nat.le_trans hk790 Xu1.1) Ka1.1)
    obtain ⟨b809, T809, h809, k809, X809, e809, E809, hS, hk809, hZ, hown, st809⟩ := ldcS X807 hx hZ hown (hg 111 rfl) (own_wS hw) rfl hS F808 (g := (mkF m 131 #[(vJ i0), .second, (vJ i1), .second, (vJ i2), .second, (vJ i3), .second, (vI i4), (vI i5), (vI lo0), (vI hi0), (vI lo1), (vI hi1), (vI v0), (vI v1), (vI (1 : Int32)), (vI v2), (vA b771), .unset, .unset, .unset, .unset, .unset, .unset, .unset, .unset, .unset] [(.ref b771)])) rfl (hb hby at_131) (n := 4) (by decide) (by decide) (by decide) (by decide)
    refine DnW.of st809 ?_
    show DnW p e below s (own_Q n0) 40 3328 (T809.setTop (mkF m 133 #[(vJ i0), .second, (vJ i1), .second, (vJ i2), .second, (vJ i3), .second, (vI i4), (vI i5), (vI lo0), (vI hi0), (vI lo1), (vI hi1), (vI v0), (vI v1), (vI (1 : Int32)), (vI v2), (vA b771), .unset, .unset, .unset, .unset, .unset, .unset, .unset, .unset, .unset] [(.ref b809), (.ref b771)]))
    have F810 := ((F800.keep Ka1 (allS gls (allS gE all0))).ext E809)
    obtain ⟨T811, X811, e811, st811⟩ := getS2 X809 hx hZ hown (host := "") (Or.inl (hg 112 rfl)) Via.refl e809 (S_ZERO.ext F810.2) (g := (mkF m 133 #[(vJ i0), .second, (vJ i1), .second, (vJ i2), .second, (vJ i3), .second, (vI i4), (vI i5), (vI lo0), (vI hi0), (vI lo1), (vI hi1), (vI v0), (vI v1), (vI (1 : Int32)), (vI v2), (vA b771), .unset, .unset, .unset, .unset, .unset, .unset, .unset, .unset, .unset] [(.ref b809), (.ref b771)])) rfl (hb hby at_133)
    refine DnW.of st811 ?_
    show DnW p e below s (own_Q n0) 40 3328 (T811.setTop (mkF m 136 #[(vJ i0), .second, (vJ i1), .second, (vJ i2), .second, (vJ i3), .second, (vI i4), (vI i5), (vI lo0), (vI hi0), (vI lo1), (vI hi1), (vI v0), (vI v1), (vI (1 : Int32)), (vI v2), (vA b771), .unset, .unset, .unset, .unset, .unset, .unset, .unset, .unset, .unset] [(.ref a_ZERO), (.ref b809), (.ref b771)]))
    refine DnW.of (fun tt_ zz_ => XS.aconstNull X811.here hx rfl (hb hby at_136) zz_) ?_
    refine DnW.of (fun tt_ zz_ => XS.aconstNull X811.here hx rfl (hb hby at_137) zz_) ?_
    show DnW p e below s (own_Q n0) 40 3328 (T811.setTop (mkF m 138 #[(vJ i0), .second, (vJ i1), .second, (vJ i2), .second, (vJ i3), .second, (vI i4), (vI i5), (vI lo0), (vI hi0), (vI lo1), (vI hi1), (vI v0), (vI v1), (vI (1 : Int32)), (vI v2), (vA b771), .unset, .unset, .unset, .unset, .unset, .unset, .unset, .unset, .unset] [.null, .null, (.ref a_ZERO), (.ref b809), (.ref b771)]))
    have F812 := (Nat.le_trans (Nat.le_trans F801 Ka1.1) E809.1)
    obtain ⟨v813, T813, L813, Q813, X813, st813⟩ := cSt X811 hx hZ (y := (⟨"com/example/verify_markov_chains/verifymarkovchains/model/Variable", "ofReal", "(Ljava/lang/String;Lcom/example/verify_markov_chains/verifymarkovchains/numeric/Rational;Lcom/example/verify_markov_chains/verifymarkovchains/numeric/Rational;Lcom/example/verify_markov_chains/verifymarkovchains/numeric/Rational;)Lcom/example/verify_markov_chains/verifymarkovchains/model/Variable;"⟩ : MethodName)) hown (hg 115 rfl) (hg 116 rfl) (hg 53 rfl) (hg 117 rfl) (by decide) (argsL := [(.ref b809), (.ref a_ZERO), .null, .null]) (rest := [(.ref b771)]) (rmOR l Z a0 hw h809 n0 F812 b809 a_ZERO a_DOUBLE S_DOUBLE F810) e811  1 (by decide) (by decide) (by decide) (by decide) (g := (mkF m 138 #[(vJ i0), .second, (vJ i1), .second, (vJ i2), .second, (vJ i3), .second, (vI i4), (vI i5), (vI lo0), (vI hi0), (vI lo1), (vI hi1), (vI v0), (vI v1), (vI (1 : Int32)), (vI v2), (vA b771), .unset, .unset, .unset, .unset, .unset, .unset, .unset, .unset, .unset] [.null, .null, (.ref a_ZERO), (.ref b809), (.ref b771)])) rfl (by rw [hml]; rfl) (lenOf pd23 rfl) rfl (by show 2 * 0 + _ ≤ _; exact Nat.le_of_eq rfl) (hb hby at_138)
    obtain ⟨u2, rfl, gu2, Mu2, Xu2, V2⟩ := Q813
    refine DnW.of st813 ?_
    show DnW p e below s (own_Q n0) 40 3328 (T813.setTop (mkF m 141 #[(vJ i0), .second, (vJ i1), .second, (vJ i2), .second, (vJ i3), .second, (vI i4), (vI i5), (vI lo0), (vI hi0), (vI lo1), (vI hi1), (vI v0), (vI v1), (vI (1 : Int32)), (vI v2), (vA b771), .unset, .unset, .unset, .unset, .unset, .unset, .unset, .unset, .unset] [(.ref u2), (.ref b771)]))
    have F814 := ((F802.keep Ka1).ext E809)
    have n815 : b771 ≠ u2 := Nat.ne_of_lt (gu2.symm ▸ F814.lt)
    have F816 := (((F796.ext Xu1).keep Ka1 (ninS (Ne.symm n781) (ninS nEV0 nin0))).ext E809)
    have n817 : u0 ≠ u2 := Nat.ne_of_lt (gu2.symm ▸ F816.lt)
    have F818 := (RE_1.ext E809)
    have n819 : bE ≠ u2 := Nat.ne_of_lt (gu2.symm ▸ F818.lt)
    have F820 := ((V1.keep Ka1 (ninS (Ne.symm n795) (ninS (Ne.symm n799) nin0))).ext E809)
    have n821 : u1 ≠ u2 := Nat.ne_of_lt (gu2.symm ▸ F820.lt)
    have F822 := (F810.ext Xu2)
    have F823 := (Nat.le_trans F812 Xu2.1)
    have F824 := (F814.ext Xu2)
    have F825 := ((G1_1.ext E809).ext Xu2)
    have F826 := ((G2_1.ext E809).ext Xu2)
    have F827 := ((G3_1.ext E809).ext Xu2)
    have F828 := (F818.ext Xu2)
    obtain ⟨v829, T829, L829, Q829, X829, st829⟩ := cVi X813 hx hZ (C := "java/util/ArrayList") (y := (⟨"java/util/ArrayList", "add", "(Ljava/lang/Object;)Z"⟩ : MethodName)) (z := (⟨"java/util/ArrayList", "add", "(Ljava/lang/Object;)Z"⟩ : MethodName)) hown (hg 82 rfl) (hg 83 rfl) (notFace_of_selects (args := #[]) (mvT hZ (hg 85 rfl))) (hg 85 rfl) (hg 84 rfl) (hg 19 rfl) (hg 86 rfl) (by decide) (a := b771) (argsL := [(.ref u2)]) (rest := []) (rmB1 l Z a0 hw T813.heap n0 F823 b771 u2 bE kE (((1 : Int32), .ref u1) :: [((0 : Int32), .ref u0)]) _ (2 : Int32) (by decide) (by decide) OV F824 F825 F826 F827 gls V2.1 (Ne.symm nEEL) gE F828) rfl F824 0 (by decide) (by decide) (by decide) (by decide) (g := (mkF m 141 #[(vJ i0), .second, (vJ i1), .second, (vJ i2), .second, (vJ i3), .second, (vI i4), (vI i5), (vI lo0), (vI hi0), (vI lo1), (vI hi1), (vI v0), (vI v1), (vI (1 : Int32)), (vI v2), (vA b771), .unset, .unset, .unset, .unset, .unset, .unset, .unset, .unset, .unset] [(.ref u2), (.ref b771)])) rfl (by rw [hml]; rfl) (lenOf pd18 rfl) rfl (by show 2 * 0 + _ ≤ _; exact Nat.le_of_eq rfl) (hb hby at_141)
    obtain ⟨rfl, Ma2, Ka2, G1, G2, G3, RE⟩ := Q829
    rw [show ((2 : Int32) + (1 : Int32)) = (3 : Int32) by decide] at G3
    refine DnW.of st829 ?_
    show DnW p e below s (own_Q n0) 40 3328 (T829.setTop (mkF m 144 #[(vJ i0), .second, (vJ i1), .second, (vJ i2), .second, (vJ i3), .second, (vI i4), (vI i5), (vI lo0), (vI hi0), (vI lo1), (vI hi1), (vI v0), (vI v1), (vI (1 : Int32)), (vI v2), (vA b771), .unset, .unset, .unset, .unset, .unset, .unset, .unset, .unset, .unset] [(.int (1 : Int32))]))
    have G1_2 := G1
    have G2_2 := G2
    have G3_2 := G3
    have RE_2 := RE
    refine DnW.of (fun tt_ zz_ => XS.pop X829.here hx rfl (hb hby at_144) rfl rfl zz_) ?_
    refine DnW.of (fun tt_ zz_ => XS.goto X829.here hx rfl (pc0 := 145) (pc' := 160) rfl (hb hby at_145) (by decide) (by decide) zz_) ?_
    show DnW p e below s (own_Q n0) 40 3328 (T829.setTop (mkF m 160 #[(vJ i0), .second, (vJ i1), .second, (vJ i2), .second, (vJ i3), .second, (vI i4), (vI i5), (vI lo0), (vI hi0), (vI lo1), (vI hi1), (vI v0), (vI v1), (vI (1 : Int32)), (vI v2), (vA b771), .unset, .unset, .unset, .unset, .unset, .unset, .unset, .unset, .unset] []))
    have F830 := (Nat.le_trans F823 Ka2.1)
    obtain ⟨T831, h831, X831, e831, E831, A831, D831, U831, st831⟩ := newO X829 hx hZ hown (hg 125 rfl) (hg 126 rfl) (hg 127 rfl) rfl (g := (mkF m 160 #[(vJ i0), .second, (vJ i1), .second, (vJ i2), .second, (vJ i3), .second, (vI i4), (vI i5), (vI lo0), (vI hi0), (vI lo1), (vI hi1), (vI v0), (vI v1), (vI (1 : Int32)), (vI v2), (vA b771), .unset, .unset, .unset, .unset, .unset, .unset, .unset, .unset, .unset] [])) rfl (hb hby at_160) (by decide) (by decide)
    obtain ⟨b831, g831⟩ : ∃ z, z = T829.heap.size := ⟨_, rfl⟩
    rw [← g831] at A831 D831 U831 st831
    refine DnW.of st831 ?_
    show DnW p e below s (own_Q n0) 40 3328 (T831.setTop (mkF m 163 #[(vJ i0), .second, (vJ i1), .second, (vJ i2), .second, (vJ i3), .second, (vI i4), (vI i5), (vI lo0), (vI hi0), (vI lo1), (vI hi1), (vI v0), (vI v1), (vI (1 : Int32)), (vI v2), (vA b771), .unset, .unset, .unset, .unset, .unset, .unset, .unset, .unset, .unset] [(.ref b831)]))
    have F_words_831 : Fld Z h831 b831 "com/example/verify_markov_chains/verifymarkovchains/explicit/StateLayout" "words" "[I" .null := D831 (Or.inr (hg 143 rfl)) (ty := (.array .int)) (by decide)
    have F_shifts_831 : Fld Z h831 b831 "com/example/verify_markov_chains/verifymarkovchains/explicit/StateLayout" "shifts" "[I" .null := D831 (Or.inr (hg 145 rfl)) (ty := (.array .int)) (by decide)
    have F_masks_831 : Fld Z h831 b831 "com/example/verify_markov_chains/verifymarkovchains/explicit/StateLayout" "masks" "[J" .null := D831 (Or.inr (hg 148 rfl)) (ty := (.array .long)) (by decide)
    have F_lowers_831 : Fld Z h831 b831 "com/example/verify_markov_chains/verifymarkovchains/explicit/StateLayout" "lowers" "[I" .null := D831 (Or.inr (hg 150 rfl)) (ty := (.array .int)) (by decide)
    have F_wordCount_831 : Fld Z h831 b831 "com/example/verify_markov_chains/verifymarkovchains/explicit/StateLayout" "wordCount" "I" (.int (0 : Int32)) := D831 (Or.inr (hg 205 rfl)) (ty := .int) (by decide)
    have F832 := (F824.keep Ka2)
    have n833 : b771 ≠ b831 := Nat.ne_of_lt (g831 ▸ F832.lt)
    have F834 := ((F816.ext Xu2).keep Ka2 (ninS (Ne.symm n781) (ninS nEV0 nin0)))
    have n835 : u0 ≠ b831 := Nat.ne_of_lt (g831 ▸ F834.lt)
    have n836 : bE ≠ b831 := Nat.ne_of_lt (g831 ▸ RE_2.lt)
    have F837 := ((F820.ext Xu2).keep Ka2 (ninS (Ne.symm n795) (ninS (Ne.symm n799) nin0)))
    have n838 : u1 ≠ b831 := Nat.ne_of_lt (g831 ▸ F837.lt)
    have F839 := (V2.keep Ka2 (ninS (Ne.symm n815) (ninS (Ne.symm n819) nin0)))
    have n840 : u2 ≠ b831 := Nat.ne_of_lt (g831 ▸ F839.lt)
    have ga : n0 ≤ b831 := g831 ▸ F830
    refine DnW.of (fun tt_ zz_ => XS.dup X831.here hx rfl (hb hby at_163) rfl rfl zz_) ?_
    refine DnW.of (fun tt_ zz_ => XS.aload X831.here hx rfl (hb hby at_164) rfl rfl zz_) ?_
    show DnW p e below s (own_Q n0) 40 3328 (T831.setTop (mkF m 166 #[(vJ i0), .second, (vJ i1), .second, (vJ i2), .second, (vJ i3), .second, (vI i4), (vI i5), (vI lo0), (vI hi0), (vI lo1), (vI hi1), (vI v0), (vI v1), (vI (1 : Int32)), (vI v2), (vA b771), .unset, .unset, .unset, .unset, .unset, .unset, .unset, .unset, .unset] [(.ref b771), (.ref b831), (.ref b831)]))
    have F841 := ((F822.keep Ka2 (allS gls (allS gE all0))).ext E831)
    have F842 := (Nat.le_trans F830 E831.1)
    have F843 := (F832.ext E831)
    have F844 := (G3_2.ext E831)
    have F845 := (G2_2.ext E831)
    have F846 := (RE_2.ext E831)
    have F847 := (F834.ext E831)
    have F848 := (F837.ext E831)
    have F849 := (F839.ext E831)
    obtain ⟨v850, T850, L850, Q850, X850, st850⟩ := cIn X831 hx hZ (y := (⟨"com/example/verify_markov_chains/verifymarkovchains/explicit/StateLayout", "<init>", "(Ljava/util/List;)V"⟩ : MethodName)) rfl hown (hg 128 rfl) (hg 129 rfl) (hg 127 rfl) (hg 130 rfl) (by decide) (a := b831) (argsL := [(.ref b771)]) (rest := [(.ref b831)]) (rmSL l Z a0 hw h831 n0 F842 b831 b771 bE u0 u1 u2 a_INT a_INT a_DOUBLE a_DOUBLE kE lo0 lo1 (0 : Int32) hi0 hi1 (0 : Int32) le0 le1 (by decide) S_DOUBLE F841 A831 F_words_831 F_shifts_831 F_masks_831 F_lowers_831 F_wordCount_831 F843 F844 F845 F846 F847 F848 F849 n833 n836 n835 n838 n840 ga) e831  1 (by decide) (by decide) (by decide) (by decide) (g := (mkF m 166 #[(vJ i0), .second, (vJ i1), .second, (vJ i2), .second, (vJ i3), .second, (vI i4), (vI i5), (vI lo0), (vI hi0), (vI lo1), (vI hi1), (vI v0), (vI v1), (vI (1 : Int32)), (vI v2), (vA b771), .unset, .unset, .unset, .unset, .unset, .unset, .unset, .unset, .unset] [(.ref b771), (.ref b831), (.ref b831)])) rfl (by rw [hml]; rfl) (lenOf pd20 rfl) rfl (by show 2 * 0 + _ ≤ _; exact Nat.le_of_eq rfl) (hb hby at_166)
    obtain ⟨rfl, Mi, Ki, bw, bs, bm, bl, kw, ks, km, kl, b0, b1, b2, w2, wc, s2, P0, P1, P2, hcase, G0, G1, G2, G3, G4, RW, RS, RM, RL⟩ := Q850
    refine DnW.of st850 ?_
    show DnW p e below s (own_Q n0) 40 3328 (T850.setTop (mkF m 169 #[(vJ i0), .second, (vJ i1), .second, (vJ i2), .second, (vJ i3), .second, (vI i4), (vI i5), (vI lo0), (vI hi0), (vI lo1), (vI hi1), (vI v0), (vI v1), (vI (1 : Int32)), (vI v2), (vA b771), .unset, .unset, .unset, .unset, .unset, .unset, .unset, .unset, .unset] [(.ref b831)]))
    have F851 := (F841.keep Ki (allS ga all0))
    have F852 := (Nat.le_trans (Nat.le_trans (Nat.le_trans (Nat.le_trans hk809 Xu2.1) Ka2.1) E831.1) Ki.1)
    have F853 := (Nat.le_trans F842 Ki.1)
    have F854 := (A831.keep Ki)
    rcases hcase with ⟨rfl, rfl, rfl, hfit⟩ | ⟨rfl, rfl, rfl⟩
    · skip
      show DnW p e below s (own_Q n0) 40 3328 (T850.setTop (mkF m 169 #[(vJ i0), .second, (vJ i1), .second, (vJ i2), .second, (vJ i3), .second, (vI i4), (vI i5), (vI lo0), (vI hi0), (vI lo1), (vI hi1), (vI v0), (vI v1), (vI (1 : Int32)), (vI v2), (vA b771), .unset, .unset, .unset, .unset, .unset, .unset, .unset, .unset, .unset] [(.ref b831)]))
      refine DnW.of (fun tt_ zz_ => XS.astore X850.here hx rfl (hb hby at_169) rfl rfl (l' := #[(vJ i0), .second, (vJ i1), .second, (vJ i2), .second, (vJ i3), .second, (vI i4), (vI i5), (vI lo0), (vI hi0), (vI lo1), (vI hi1), (vI v0), (vI v1), (vI (1 : Int32)), (vI v2), (vA b771), (vA b831), .unset, .unset, .unset, .unset, .unset, .unset, .unset, .unset]) rfl zz_) ?_
      refine DnW.of (fun tt_ zz_ => XS.iload X850.here hx rfl (hb hby at_171) rfl zz_) ?_
      refine DnW.of (fun tt_ zz_ => XS.iconst X850.here hx rfl (hb hby at_173) zz_) ?_
      refine DnW.of (fun tt_ zz_ => XS.iand X850.here hx rfl (hb hby at_174) rfl zz_) ?_
      show DnW p e below s (own_Q n0) 40 3328 (T850.setTop (mkF m 175 #[(vJ i0), .second, (vJ i1), .second, (vJ i2), .second, (vJ i3), .second, (vI i4), (vI i5), (vI lo0), (vI hi0), (vI lo1), (vI hi1), (vI v0), (vI v1), (vI (1 : Int32)), (vI v2), (vA b771), (vA b831), .unset, .unset, .unset, .unset, .unset, .unset, .unset, .unset] [(.int (i5 &&& (3 : Int32)))]))
      refine DnW.of (fun tt_ zz_ => XS.istore X850.here hx rfl (hb hby at_175) rfl (l' := #[(vJ i0), .second, (vJ i1), .second, (vJ i2), .second, (vJ i3), .second, (vI i4), (vI i5), (vI lo0), (vI hi0), (vI lo1), (vI hi1), (vI v0), (vI v1), (vI (1 : Int32)), (vI v2), (vA b771), (vA b831), (vI (i5 &&& (3 : Int32))), .unset, .unset, .unset, .unset, .unset, .unset, .unset]) rfl zz_) ?_
      refine DnW.of (fun tt_ zz_ => XS.iload X850.here hx rfl (hb hby at_177) rfl zz_) ?_
      refine DnW.of (fun tt_ zz_ => XS.i2l X850.here hx rfl (hb hby at_179) rfl zz_) ?_
      refine DnW.of (fun tt_ zz_ => X850.ldc2J hx hown (mvT hZ (hg 206 rfl)) rfl (hb hby at_180) zz_) ?_
      show DnW p e below s (own_Q n0) 40 3328 (T850.setTop (mkF m 183 #[(vJ i0), .second, (vJ i1), .second, (vJ i2), .second, (vJ i3), .second, (vI i4), (vI i5), (vI lo0), (vI hi0), (vI lo1), (vI hi1), (vI v0), (vI v1), (vI (1 : Int32)), (vI v2), (vA b771), (vA b831), (vI (i5 &&& (3 : Int32))), .unset, .unset, .unset, .unset, .unset, .unset, .unset] [(.long (-7046029254386353131 : Int64)), (.long (i5.toInt64))]))
      refine DnW.of (fun tt_ zz_ => XS.lmul X850.here hx rfl (hb hby at_183) rfl zz_) ?_
      refine DnW.of (fun tt_ zz_ => XS.lconst X850.here hx rfl (hb hby at_184) zz_) ?_
      refine DnW.of (fun tt_ zz_ => XS.lor X850.here hx rfl (hb hby at_185) rfl zz_) ?_
      refine DnW.of (fun tt_ zz_ => XS.lstore X850.here hx rfl (hb hby at_186) rfl (l' := #[(vJ i0), .second, (vJ i1), .second, (vJ i2), .second, (vJ i3), .second, (vI i4), (vI i5), (vI lo0), (vI hi0), (vI lo1), (vI hi1), (vI v0), (vI v1), (vI (1 : Int32)), (vI v2), (vA b771), (vA b831), (vI (i5 &&& (3 : Int32))), (vJ (((i5.toInt64) * (-7046029254386353131 : Int64)) ||| (1 : Int64))), .second, .unset, .unset, .unset, .unset, .unset]) rfl zz_) ?_
      show DnW p e below s (own_Q n0) 40 3328 (T850.setTop (mkF m 188 #[(vJ i0), .second, (vJ i1), .second, (vJ i2), .second, (vJ i3), .second, (vI i4), (vI i5), (vI lo0), (vI hi0), (vI lo1), (vI hi1), (vI v0), (vI v1), (vI (1 : Int32)), (vI v2), (vA b771), (vA b831), (vI (i5 &&& (3 : Int32))), (vJ (((i5.toInt64) * (-7046029254386353131 : Int64)) ||| (1 : Int64))), .second, .unset, .unset, .unset, .unset, .unset] []))
      generalize (((i5.toInt64) * (-7046029254386353131 : Int64)) ||| (1 : Int64)) = jk
      show DnW p e below s (own_Q n0) 40 3328 (T850.setTop (mkF m 188 #[(vJ i0), .second, (vJ i1), .second, (vJ i2), .second, (vJ i3), .second, (vI i4), (vI i5), (vI lo0), (vI hi0), (vI lo1), (vI hi1), (vI v0), (vI v1), (vI (1 : Int32)), (vI v2), (vA b771), (vA b831), (vI (i5 &&& (3 : Int32))), (vJ jk), .second, .unset, .unset, .unset, .unset, .unset] []))
      refine DnW.of (fun tt_ zz_ => XS.bipush X850.here hx rfl (hb hby at_188) zz_) ?_
      show DnW p e below s (own_Q n0) 40 3328 (T850.setTop (mkF m 190 #[(vJ i0), .second, (vJ i1), .second, (vJ i2), .second, (vJ i3), .second, (vI i4), (vI i5), (vI lo0), (vI hi0), (vI lo1), (vI hi1), (vI v0), (vI v1), (vI (1 : Int32)), (vI v2), (vA b771), (vA b831), (vI (i5 &&& (3 : Int32))), (vJ jk), .second, .unset, .unset, .unset, .unset, .unset] [(.int (6 : Int32))]))
      obtain ⟨T855, h855, k855, X855, e855, E855, A855, st855⟩ := newP X850 hx hZ (hg 146 rfl) rfl (g := (mkF m 190 #[(vJ i0), .second, (vJ i1), .second, (vJ i2), .second, (vJ i3), .second, (vI i4), (vI i5), (vI lo0), (vI hi0), (vI lo1), (vI hi1), (vI v0), (vI v1), (vI (1 : Int32)), (vI v2), (vA b771), (vA b831), (vI (i5 &&& (3 : Int32))), (vJ jk), .second, .unset, .unset, .unset, .unset, .unset] [(.int (6 : Int32))])) rfl (hb hby at_190) rfl (by decide) (cap := 6) (by decide) (by decide) (by decide) (by decide)
      obtain ⟨b855, g855⟩ : ∃ z, z = T850.heap.size := ⟨_, rfl⟩
      rw [← g855] at A855 st855
      refine DnW.of st855 ?_
      show DnW p e below s (own_Q n0) 40 3328 (T855.setTop (mkF m 192 #[(vJ i0), .second, (vJ i1), .second, (vJ i2), .second, (vJ i3), .second, (vI i4), (vI i5), (vI lo0), (vI hi0), (vI lo1), (vI hi1), (vI v0), (vI v1), (vI (1 : Int32)), (vI v2), (vA b771), (vA b831), (vI (i5 &&& (3 : Int32))), (vJ jk), .second, .unset, .unset, .unset, .unset, .unset] [(.ref b855)]))
      have n856 : b831 ≠ b855 := Nat.ne_of_lt (g855 ▸ F854.lt)
      have n857 : bw ≠ b855 := Nat.ne_of_lt (g855 ▸ RW.lt)
      have n858 : bs ≠ b855 := Nat.ne_of_lt (g855 ▸ RS.lt)
      have n859 : bm ≠ b855 := Nat.ne_of_lt (g855 ▸ RM.lt)
      have n860 : bl ≠ b855 := Nat.ne_of_lt (g855 ▸ RL.lt)
      have gpk : n0 ≤ b855 := g855 ▸ F853
      have RP : Arh Z h855 b855 k855 .long 6 [] [] (.long 0) := (Arv.new A855 (by decide)).arh
      refine DnW.of (fun tt_ zz_ => XS.astore X855.here hx rfl (hb hby at_192) rfl rfl (l' := #[(vJ i0), .second, (vJ i1), .second, (vJ i2), .second, (vJ i3), .second, (vI i4), (vI i5), (vI lo0), (vI hi0), (vI lo1), (vI hi1), (vI v0), (vI v1), (vI (1 : Int32)), (vI v2), (vA b771), (vA b831), (vI (i5 &&& (3 : Int32))), (vJ jk), .second, (vA b855), .unset, .unset, .unset, .unset]) rfl zz_) ?_
      refine DnW.of (fun tt_ zz_ => XS.aload X855.here hx rfl (hb hby at_194) rfl rfl zz_) ?_
      refine DnW.of (fun tt_ zz_ => XS.iconst X855.here hx rfl (hb hby at_196) zz_) ?_
      refine DnW.of (fun tt_ zz_ => XS.lload X855.here hx rfl (hb hby at_197) rfl zz_) ?_
      show DnW p e below s (own_Q n0) 40 3328 (T855.setTop (mkF m 199 #[(vJ i0), .second, (vJ i1), .second, (vJ i2), .second, (vJ i3), .second, (vI i4), (vI i5), (vI lo0), (vI hi0), (vI lo1), (vI hi1), (vI v0), (vI v1), (vI (1 : Int32)), (vI v2), (vA b771), (vA b831), (vI (i5 &&& (3 : Int32))), (vJ jk), .second, (vA b855), .unset, .unset, .unset, .unset] [(.long jk), (.int (0 : Int32)), (.ref b855)]))
      obtain ⟨c861, A_861, p861, S861, P861, H861, G861⟩ := RP
      obtain ⟨T862, h862, X862, e862, W862, st862⟩ := stJ X855 hx hZ e855 A_861 (j := (0 : Int32)) (inb_of S861 (by decide)) (g := (mkF m 199 #[(vJ i0), .second, (vJ i1), .second, (vJ i2), .second, (vJ i3), .second, (vI i4), (vI i5), (vI lo0), (vI hi0), (vI lo1), (vI hi1), (vI v0), (vI v1), (vI (1 : Int32)), (vI v2), (vA b771), (vA b831), (vI (i5 &&& (3 : Int32))), (vJ jk), .second, (vA b855), .unset, .unset, .unset, .unset] [(.long jk), (.int (0 : Int32)), (.ref b855)])) rfl rfl (hb hby at_199)
      refine DnW.of st862 ?_
      show DnW p e below s (own_Q n0) 40 3328 (T862.setTop (mkF m 200 #[(vJ i0), .second, (vJ i1), .second, (vJ i2), .second, (vJ i3), .second, (vI i4), (vI i5), (vI lo0), (vI hi0), (vI lo1), (vI hi1), (vI v0), (vI v1), (vI (1 : Int32)), (vI v2), (vA b771), (vA b831), (vI (i5 &&& (3 : Int32))), (vJ jk), .second, (vA b855), .unset, .unset, .unset, .unset] []))
      have R_861 := Arh.push A_861 p861 S861 P861 H861 G861 (v := (.long jk)) rfl W862 (inb_of S861 (by decide))
      have N861 := Fr.snoc X862 (Fr.app (Fr.app (Fr.app (Fr.app (Fr.app (Fr.app (Fr.app (Fr.app (Fr.app (Fr.app (Fr.app (Fr.app (Fr.app (Fr.app N0 Ms0) Ms1) Ms2) Ms3) Ms4) Ms5) Ml) Mu0) Ma0) Mu1) Ma1) Mu2) Ma2) Mi) gpk
      refine DnW.of (fun tt_ zz_ => XS.aload X862.here hx rfl (hb hby at_200) rfl rfl zz_) ?_
      refine DnW.of (fun tt_ zz_ => XS.iconst X862.here hx rfl (hb hby at_202) zz_) ?_
      refine DnW.of (fun tt_ zz_ => XS.lload X862.here hx rfl (hb hby at_203) rfl zz_) ?_
      show DnW p e below s (own_Q n0) 40 3328 (T862.setTop (mkF m 205 #[(vJ i0), .second, (vJ i1), .second, (vJ i2), .second, (vJ i3), .second, (vI i4), (vI i5), (vI lo0), (vI hi0), (vI lo1), (vI hi1), (vI v0), (vI v1), (vI (1 : Int32)), (vI v2), (vA b771), (vA b831), (vI (i5 &&& (3 : Int32))), (vJ jk), .second, (vA b855), .unset, .unset, .unset, .unset] [(.long jk), (.int (1 : Int32)), (.ref b855)]))
      obtain ⟨c863, A_863, p863, S863, P863, H863, G863⟩ := R_861
      obtain ⟨T864, h864, X864, e864, W864, st864⟩ := stJ X862 hx hZ e862 A_863 (j := (1 : Int32)) (inb_of S863 (by decide)) (g := (mkF m 205 #[(vJ i0), .second, (vJ i1), .second, (vJ i2), .second, (vJ i3), .second, (vI i4), (vI i5), (vI lo0), (vI hi0), (vI lo1), (vI hi1), (vI v0), (vI v1), (vI (1 : Int32)), (vI v2), (vA b771), (vA b831), (vI (i5 &&& (3 : Int32))), (vJ jk), .second, (vA b855), .unset, .unset, .unset, .unset] [(.long jk), (.int (1 : Int32)), (.ref b855)])) rfl rfl (hb hby at_205)
      refine DnW.of st864 ?_
      show DnW p e below s (own_Q n0) 40 3328 (T864.setTop (mkF m 206 #[(vJ i0), .second, (vJ i1), .second, (vJ i2), .second, (vJ i3), .second, (vI i4), (vI i5), (vI lo0), (vI hi0), (vI lo1), (vI hi1), (vI v0), (vI v1), (vI (1 : Int32)), (vI v2), (vA b771), (vA b831), (vI (i5 &&& (3 : Int32))), (vJ jk), .second, (vA b855), .unset, .unset, .unset, .unset] []))
      have R_863 := Arh.push A_863 p863 S863 P863 H863 G863 (v := (.long jk)) rfl W864 (inb_of S863 (by decide))
      have N863 := Fr.snoc X864 N861 gpk
      refine DnW.of (fun tt_ zz_ => XS.aload X864.here hx rfl (hb hby at_206) rfl rfl zz_) ?_
      refine DnW.of (fun tt_ zz_ => XS.iconst X864.here hx rfl (hb hby at_208) zz_) ?_
      refine DnW.of (fun tt_ zz_ => XS.lload X864.here hx rfl (hb hby at_209) rfl zz_) ?_
      show DnW p e below s (own_Q n0) 40 3328 (T864.setTop (mkF m 211 #[(vJ i0), .second, (vJ i1), .second, (vJ i2), .second, (vJ i3), .second, (vI i4), (vI i5), (vI lo0), (vI hi0), (vI lo1), (vI hi1), (vI v0), (vI v1), (vI (1 : Int32)), (vI v2), (vA b771), (vA b831), (vI (i5 &&& (3 : Int32))), (vJ jk), .second, (vA b855), .unset, .unset, .unset, .unset] [(.long jk), (.int (2 : Int32)), (.ref b855)]))
      obtain ⟨c865, A_865, p865, S865, P865, H865, G865⟩ := R_863
      obtain ⟨T866, h866, X866, e866, W866, st866⟩ := stJ X864 hx hZ e864 A_865 (j := (2 : Int32)) (inb_of S865 (by decide)) (g := (mkF m 211 #[(vJ i0), .second, (vJ i1), .second, (vJ i2), .second, (vJ i3), .second, (vI i4), (vI i5), (vI lo0), (vI hi0), (vI lo1), (vI hi1), (vI v0), (vI v1), (vI (1 : Int32)), (vI v2), (vA b771), (vA b831), (vI (i5 &&& (3 : Int32))), (vJ jk), .second, (vA b855), .unset, .unset, .unset, .unset] [(.long jk), (.int (2 : Int32)), (.ref b855)])) rfl rfl (hb hby at_211)
      refine DnW.of st866 ?_
      show DnW p e below s (own_Q n0) 40 3328 (T866.setTop (mkF m 212 #[(vJ i0), .second, (vJ i1), .second, (vJ i2), .second, (vJ i3), .second, (vI i4), (vI i5), (vI lo0), (vI hi0), (vI lo1), (vI hi1), (vI v0), (vI v1), (vI (1 : Int32)), (vI v2), (vA b771), (vA b831), (vI (i5 &&& (3 : Int32))), (vJ jk), .second, (vA b855), .unset, .unset, .unset, .unset] []))
      have R_865 := Arh.push A_865 p865 S865 P865 H865 G865 (v := (.long jk)) rfl W866 (inb_of S865 (by decide))
      have N865 := Fr.snoc X866 N863 gpk
      refine DnW.of (fun tt_ zz_ => XS.aload X866.here hx rfl (hb hby at_212) rfl rfl zz_) ?_
      refine DnW.of (fun tt_ zz_ => XS.iconst X866.here hx rfl (hb hby at_214) zz_) ?_
      refine DnW.of (fun tt_ zz_ => XS.lload X866.here hx rfl (hb hby at_215) rfl zz_) ?_
      show DnW p e below s (own_Q n0) 40 3328 (T866.setTop (mkF m 217 #[(vJ i0), .second, (vJ i1), .second, (vJ i2), .second, (vJ i3), .second, (vI i4), (vI i5), (vI lo0), (vI hi0), (vI lo1), (vI hi1), (vI v0), (vI v1), (vI (1 : Int32)), (vI v2), (vA b771), (vA b831), (vI (i5 &&& (3 : Int32))), (vJ jk), .second, (vA b855), .unset, .unset, .unset, .unset] [(.long jk), (.int (3 : Int32)), (.ref b855)]))
      obtain ⟨c867, A_867, p867, S867, P867, H867, G867⟩ := R_865
      obtain ⟨T868, h868, X868, e868, W868, st868⟩ := stJ X866 hx hZ e866 A_867 (j := (3 : Int32)) (inb_of S867 (by decide)) (g := (mkF m 217 #[(vJ i0), .second, (vJ i1), .second, (vJ i2), .second, (vJ i3), .second, (vI i4), (vI i5), (vI lo0), (vI hi0), (vI lo1), (vI hi1), (vI v0), (vI v1), (vI (1 : Int32)), (vI v2), (vA b771), (vA b831), (vI (i5 &&& (3 : Int32))), (vJ jk), .second, (vA b855), .unset, .unset, .unset, .unset] [(.long jk), (.int (3 : Int32)), (.ref b855)])) rfl rfl (hb hby at_217)
      refine DnW.of st868 ?_
      show DnW p e below s (own_Q n0) 40 3328 (T868.setTop (mkF m 218 #[(vJ i0), .second, (vJ i1), .second, (vJ i2), .second, (vJ i3), .second, (vI i4), (vI i5), (vI lo0), (vI hi0), (vI lo1), (vI hi1), (vI v0), (vI v1), (vI (1 : Int32)), (vI v2), (vA b771), (vA b831), (vI (i5 &&& (3 : Int32))), (vJ jk), .second, (vA b855), .unset, .unset, .unset, .unset] []))
      have R_867 := Arh.push A_867 p867 S867 P867 H867 G867 (v := (.long jk)) rfl W868 (inb_of S867 (by decide))
      have N867 := Fr.snoc X868 N865 gpk
      refine DnW.of (fun tt_ zz_ => XS.aload X868.here hx rfl (hb hby at_218) rfl rfl zz_) ?_
      refine DnW.of (fun tt_ zz_ => XS.iconst X868.here hx rfl (hb hby at_220) zz_) ?_
      refine DnW.of (fun tt_ zz_ => XS.lload X868.here hx rfl (hb hby at_221) rfl zz_) ?_
      show DnW p e below s (own_Q n0) 40 3328 (T868.setTop (mkF m 223 #[(vJ i0), .second, (vJ i1), .second, (vJ i2), .second, (vJ i3), .second, (vI i4), (vI i5), (vI lo0), (vI hi0), (vI lo1), (vI hi1), (vI v0), (vI v1), (vI (1 : Int32)), (vI v2), (vA b771), (vA b831), (vI (i5 &&& (3 : Int32))), (vJ jk), .second, (vA b855), .unset, .unset, .unset, .unset] [(.long jk), (.int (4 : Int32)), (.ref b855)]))
      obtain ⟨c869, A_869, p869, S869, P869, H869, G869⟩ := R_867
      obtain ⟨T870, h870, X870, e870, W870, st870⟩ := stJ X868 hx hZ e868 A_869 (j := (4 : Int32)) (inb_of S869 (by decide)) (g := (mkF m 223 #[(vJ i0), .second, (vJ i1), .second, (vJ i2), .second, (vJ i3), .second, (vI i4), (vI i5), (vI lo0), (vI hi0), (vI lo1), (vI hi1), (vI v0), (vI v1), (vI (1 : Int32)), (vI v2), (vA b771), (vA b831), (vI (i5 &&& (3 : Int32))), (vJ jk), .second, (vA b855), .unset, .unset, .unset, .unset] [(.long jk), (.int (4 : Int32)), (.ref b855)])) rfl rfl (hb hby at_223)
      refine DnW.of st870 ?_
      show DnW p e below s (own_Q n0) 40 3328 (T870.setTop (mkF m 224 #[(vJ i0), .second, (vJ i1), .second, (vJ i2), .second, (vJ i3), .second, (vI i4), (vI i5), (vI lo0), (vI hi0), (vI lo1), (vI hi1), (vI v0), (vI v1), (vI (1 : Int32)), (vI v2), (vA b771), (vA b831), (vI (i5 &&& (3 : Int32))), (vJ jk), .second, (vA b855), .unset, .unset, .unset, .unset] []))
      have R_869 := Arh.push A_869 p869 S869 P869 H869 G869 (v := (.long jk)) rfl W870 (inb_of S869 (by decide))
      have N869 := Fr.snoc X870 N867 gpk
      refine DnW.of (fun tt_ zz_ => XS.aload X870.here hx rfl (hb hby at_224) rfl rfl zz_) ?_
      refine DnW.of (fun tt_ zz_ => XS.iconst X870.here hx rfl (hb hby at_226) zz_) ?_
      refine DnW.of (fun tt_ zz_ => XS.lload X870.here hx rfl (hb hby at_227) rfl zz_) ?_
      show DnW p e below s (own_Q n0) 40 3328 (T870.setTop (mkF m 229 #[(vJ i0), .second, (vJ i1), .second, (vJ i2), .second, (vJ i3), .second, (vI i4), (vI i5), (vI lo0), (vI hi0), (vI lo1), (vI hi1), (vI v0), (vI v1), (vI (1 : Int32)), (vI v2), (vA b771), (vA b831), (vI (i5 &&& (3 : Int32))), (vJ jk), .second, (vA b855), .unset, .unset, .unset, .unset] [(.long jk), (.int (5 : Int32)), (.ref b855)]))
      obtain ⟨c871, A_871, p871, S871, P871, H871, G871⟩ := R_869
      obtain ⟨T872, h872, X872, e872, W872, st872⟩ := stJ X870 hx hZ e870 A_871 (j := (5 : Int32)) (inb_of S871 (by decide)) (g := (mkF m 229 #[(vJ i0), .second, (vJ i1), .second, (vJ i2), .second, (vJ i3), .second, (vI i4), (vI i5), (vI lo0), (vI hi0), (vI lo1), (vI hi1), (vI v0), (vI v1), (vI (1 : Int32)), (vI v2), (vA b771), (vA b831), (vI (i5 &&& (3 : Int32))), (vJ jk), .second, (vA b855), .unset, .unset, .unset, .unset] [(.long jk), (.int (5 : Int32)), (.ref b855)])) rfl rfl (hb hby at_229)
      refine DnW.of st872 ?_
      show DnW p e below s (own_Q n0) 40 3328 (T872.setTop (mkF m 230 #[(vJ i0), .second, (vJ i1), .second, (vJ i2), .second, (vJ i3), .second, (vI i4), (vI i5), (vI lo0), (vI hi0), (vI lo1), (vI hi1), (vI v0), (vI v1), (vI (1 : Int32)), (vI v2), (vA b771), (vA b831), (vI (i5 &&& (3 : Int32))), (vJ jk), .second, (vA b855), .unset, .unset, .unset, .unset] []))
      have R_871 := Arh.push A_871 p871 S871 P871 H871 G871 (v := (.long jk)) rfl W872 (inb_of S871 (by decide))
      have N871 := Fr.snoc X872 N869 gpk
      refine DnW.of (fun tt_ zz_ => XS.iconst X872.here hx rfl (hb hby at_230) zz_) ?_
      show DnW p e below s (own_Q n0) 40 3328 (T872.setTop (mkF m 231 #[(vJ i0), .second, (vJ i1), .second, (vJ i2), .second, (vJ i3), .second, (vI i4), (vI i5), (vI lo0), (vI hi0), (vI lo1), (vI hi1), (vI v0), (vI v1), (vI (1 : Int32)), (vI v2), (vA b771), (vA b831), (vI (i5 &&& (3 : Int32))), (vJ jk), .second, (vA b855), .unset, .unset, .unset, .unset] [(.int (3 : Int32))]))
      have F873 := (Nat.le_trans (Nat.le_trans (Nat.le_trans (Nat.le_trans (Nat.le_trans (Nat.le_trans (Nat.le_trans F853 E855.1) (Nat.le_of_eq W862.size.symm)) (Nat.le_of_eq W864.size.symm)) (Nat.le_of_eq W866.size.symm)) (Nat.le_of_eq W868.size.symm)) (Nat.le_of_eq W870.size.symm)) (Nat.le_of_eq W872.size.symm))
      obtain ⟨T874, h874, k874, X874, e874, E874, A874, st874⟩ := newP X872 hx hZ (hg 141 rfl) e872 (g := (mkF m 231 #[(vJ i0), .second, (vJ i1), .second, (vJ i2), .second, (vJ i3), .second, (vI i4), (vI i5), (vI lo0), (vI hi0), (vI lo1), (vI hi1), (vI v0), (vI v1), (vI (1 : Int32)), (vI v2), (vA b771), (vA b831), (vI (i5 &&& (3 : Int32))), (vJ jk), .second, (vA b855), .unset, .unset, .unset, .unset] [(.int (3 : Int32))])) rfl (hb hby at_231) rfl (by decide) (cap := 3) (by decide) (by decide) (by decide) (by decide)
      obtain ⟨b874, g874⟩ : ∃ z, z = h872.size := ⟨_, rfl⟩
      rw [← g874] at A874 st874
      refine DnW.of st874 ?_
      show DnW p e below s (own_Q n0) 40 3328 (T874.setTop (mkF m 233 #[(vJ i0), .second, (vJ i1), .second, (vJ i2), .second, (vJ i3), .second, (vI i4), (vI i5), (vI lo0), (vI hi0), (vI lo1), (vI hi1), (vI v0), (vI v1), (vI (1 : Int32)), (vI v2), (vA b771), (vA b831), (vI (i5 &&& (3 : Int32))), (vJ jk), .second, (vA b855), .unset, .unset, .unset, .unset] [(.ref b874)]))
      have F875 := (((((((F854.ext E855).wr W862).wr W864).wr W866).wr W868).wr W870).wr W872)
      have n876 : b831 ≠ b874 := Nat.ne_of_lt (g874 ▸ F875.lt)
      have F877 := (((((((RW.ext E855).other W862 n857).other W864 n857).other W866 n857).other W868 n857).other W870 n857).other W872 n857)
      have n878 : bw ≠ b874 := Nat.ne_of_lt (g874 ▸ F877.lt)
      have F879 := (((((((RS.ext E855).other W862 n858).other W864 n858).other W866 n858).other W868 n858).other W870 n858).other W872 n858)
      have n880 : bs ≠ b874 := Nat.ne_of_lt (g874 ▸ F879.lt)
      have F881 := (((((((RM.ext E855).other W862 n859).other W864 n859).other W866 n859).other W868 n859).other W870 n859).other W872 n859)
      have n882 : bm ≠ b874 := Nat.ne_of_lt (g874 ▸ F881.lt)
      have F883 := (((((((RL.ext E855).other W862 n860).other W864 n860).other W866 n860).other W868 n860).other W870 n860).other W872 n860)
      have n884 : bl ≠ b874 := Nat.ne_of_lt (g874 ▸ F883.lt)
      have n885 : b855 ≠ b874 := Nat.ne_of_lt (g874 ▸ R_871.lt)
      have gva : n0 ≤ b874 := g874 ▸ F873
      have RV : Arh Z h874 b874 k874 .int 3 [] [] (.int 0) := (Arv.new A874 (by decide)).arh
      refine DnW.of (fun tt_ zz_ => XS.astore X874.here hx rfl (hb hby at_233) rfl rfl (l' := #[(vJ i0), .second, (vJ i1), .second, (vJ i2), .second, (vJ i3), .second, (vI i4), (vI i5), (vI lo0), (vI hi0), (vI lo1), (vI hi1), (vI v0), (vI v1), (vI (1 : Int32)), (vI v2), (vA b771), (vA b831), (vI (i5 &&& (3 : Int32))), (vJ jk), .second, (vA b855), (vA b874), .unset, .unset, .unset]) rfl zz_) ?_
      refine DnW.of (fun tt_ zz_ => XS.aload X874.here hx rfl (hb hby at_235) rfl rfl zz_) ?_
      refine DnW.of (fun tt_ zz_ => XS.iconst X874.here hx rfl (hb hby at_237) zz_) ?_
      refine DnW.of (fun tt_ zz_ => XS.iload X874.here hx rfl (hb hby at_238) rfl zz_) ?_
      show DnW p e below s (own_Q n0) 40 3328 (T874.setTop (mkF m 240 #[(vJ i0), .second, (vJ i1), .second, (vJ i2), .second, (vJ i3), .second, (vI i4), (vI i5), (vI lo0), (vI hi0), (vI lo1), (vI hi1), (vI v0), (vI v1), (vI (1 : Int32)), (vI v2), (vA b771), (vA b831), (vI (i5 &&& (3 : Int32))), (vJ jk), .second, (vA b855), (vA b874), .unset, .unset, .unset] [(.int v0), (.int (0 : Int32)), (.ref b874)]))
      obtain ⟨c886, A_886, p886, S886, P886, H886, G886⟩ := RV
      obtain ⟨T887, h887, X887, e887, W887, st887⟩ := stI X874 hx hZ e874 A_886 (j := (0 : Int32)) (inb_of S886 (by decide)) (g := (mkF m 240 #[(vJ i0), .second, (vJ i1), .second, (vJ i2), .second, (vJ i3), .second, (vI i4), (vI i5), (vI lo0), (vI hi0), (vI lo1), (vI hi1), (vI v0), (vI v1), (vI (1 : Int32)), (vI v2), (vA b771), (vA b831), (vI (i5 &&& (3 : Int32))), (vJ jk), .second, (vA b855), (vA b874), .unset, .unset, .unset] [(.int v0), (.int (0 : Int32)), (.ref b874)])) rfl rfl (hb hby at_240)
      refine DnW.of st887 ?_
      show DnW p e below s (own_Q n0) 40 3328 (T887.setTop (mkF m 241 #[(vJ i0), .second, (vJ i1), .second, (vJ i2), .second, (vJ i3), .second, (vI i4), (vI i5), (vI lo0), (vI hi0), (vI lo1), (vI hi1), (vI v0), (vI v1), (vI (1 : Int32)), (vI v2), (vA b771), (vA b831), (vI (i5 &&& (3 : Int32))), (vJ jk), .second, (vA b855), (vA b874), .unset, .unset, .unset] []))
      have R_886 := Arh.push A_886 p886 S886 P886 H886 G886 (v := (.int v0)) rfl W887 (inb_of S886 (by decide))
      have N886 := Fr.snoc X887 N871 gva
      refine DnW.of (fun tt_ zz_ => XS.aload X887.here hx rfl (hb hby at_241) rfl rfl zz_) ?_
      refine DnW.of (fun tt_ zz_ => XS.iconst X887.here hx rfl (hb hby at_243) zz_) ?_
      refine DnW.of (fun tt_ zz_ => XS.iload X887.here hx rfl (hb hby at_244) rfl zz_) ?_
      show DnW p e below s (own_Q n0) 40 3328 (T887.setTop (mkF m 246 #[(vJ i0), .second, (vJ i1), .second, (vJ i2), .second, (vJ i3), .second, (vI i4), (vI i5), (vI lo0), (vI hi0), (vI lo1), (vI hi1), (vI v0), (vI v1), (vI (1 : Int32)), (vI v2), (vA b771), (vA b831), (vI (i5 &&& (3 : Int32))), (vJ jk), .second, (vA b855), (vA b874), .unset, .unset, .unset] [(.int v1), (.int (1 : Int32)), (.ref b874)]))
      obtain ⟨c888, A_888, p888, S888, P888, H888, G888⟩ := R_886
      obtain ⟨T889, h889, X889, e889, W889, st889⟩ := stI X887 hx hZ e887 A_888 (j := (1 : Int32)) (inb_of S888 (by decide)) (g := (mkF m 246 #[(vJ i0), .second, (vJ i1), .second, (vJ i2), .second, (vJ i3), .second, (vI i4), (vI i5), (vI lo0), (vI hi0), (vI lo1), (vI hi1), (vI v0), (vI v1), (vI (1 : Int32)), (vI v2), (vA b771), (vA b831), (vI (i5 &&& (3 : Int32))), (vJ jk), .second, (vA b855), (vA b874), .unset, .unset, .unset] [(.int v1), (.int (1 : Int32)), (.ref b874)])) rfl rfl (hb hby at_246)
      refine DnW.of st889 ?_
      show DnW p e below s (own_Q n0) 40 3328 (T889.setTop (mkF m 247 #[(vJ i0), .second, (vJ i1), .second, (vJ i2), .second, (vJ i3), .second, (vI i4), (vI i5), (vI lo0), (vI hi0), (vI lo1), (vI hi1), (vI v0), (vI v1), (vI (1 : Int32)), (vI v2), (vA b771), (vA b831), (vI (i5 &&& (3 : Int32))), (vJ jk), .second, (vA b855), (vA b874), .unset, .unset, .unset] []))
      have R_888 := Arh.push A_888 p888 S888 P888 H888 G888 (v := (.int v1)) rfl W889 (inb_of S888 (by decide))
      have N888 := Fr.snoc X889 N886 gva
      refine DnW.of (fun tt_ zz_ => XS.aload X889.here hx rfl (hb hby at_247) rfl rfl zz_) ?_
      refine DnW.of (fun tt_ zz_ => XS.iconst X889.here hx rfl (hb hby at_249) zz_) ?_
      refine DnW.of (fun tt_ zz_ => XS.iload X889.here hx rfl (hb hby at_250) rfl zz_) ?_
      show DnW p e below s (own_Q n0) 40 3328 (T889.setTop (mkF m 252 #[(vJ i0), .second, (vJ i1), .second, (vJ i2), .second, (vJ i3), .second, (vI i4), (vI i5), (vI lo0), (vI hi0), (vI lo1), (vI hi1), (vI v0), (vI v1), (vI (1 : Int32)), (vI v2), (vA b771), (vA b831), (vI (i5 &&& (3 : Int32))), (vJ jk), .second, (vA b855), (vA b874), .unset, .unset, .unset] [(.int v2), (.int (2 : Int32)), (.ref b874)]))
      obtain ⟨c890, A_890, p890, S890, P890, H890, G890⟩ := R_888
      obtain ⟨T891, h891, X891, e891, W891, st891⟩ := stI X889 hx hZ e889 A_890 (j := (2 : Int32)) (inb_of S890 (by decide)) (g := (mkF m 252 #[(vJ i0), .second, (vJ i1), .second, (vJ i2), .second, (vJ i3), .second, (vI i4), (vI i5), (vI lo0), (vI hi0), (vI lo1), (vI hi1), (vI v0), (vI v1), (vI (1 : Int32)), (vI v2), (vA b771), (vA b831), (vI (i5 &&& (3 : Int32))), (vJ jk), .second, (vA b855), (vA b874), .unset, .unset, .unset] [(.int v2), (.int (2 : Int32)), (.ref b874)])) rfl rfl (hb hby at_252)
      refine DnW.of st891 ?_
      show DnW p e below s (own_Q n0) 40 3328 (T891.setTop (mkF m 253 #[(vJ i0), .second, (vJ i1), .second, (vJ i2), .second, (vJ i3), .second, (vI i4), (vI i5), (vI lo0), (vI hi0), (vI lo1), (vI hi1), (vI v0), (vI v1), (vI (1 : Int32)), (vI v2), (vA b771), (vA b831), (vI (i5 &&& (3 : Int32))), (vJ jk), .second, (vA b855), (vA b874), .unset, .unset, .unset] []))
      have R_890 := Arh.push A_890 p890 S890 P890 H890 G890 (v := (.int v2)) rfl W891 (inb_of S890 (by decide))
      have N890 := Fr.snoc X891 N888 gva
      refine DnW.of (fun tt_ zz_ => XS.aload X891.here hx rfl (hb hby at_253) rfl rfl zz_) ?_
      refine DnW.of (fun tt_ zz_ => XS.aload X891.here hx rfl (hb hby at_255) rfl rfl zz_) ?_
      refine DnW.of (fun tt_ zz_ => XS.aload X891.here hx rfl (hb hby at_257) rfl rfl zz_) ?_
      refine DnW.of (fun tt_ zz_ => XS.iload X891.here hx rfl (hb hby at_259) rfl zz_) ?_
      show DnW p e below s (own_Q n0) 40 3328 (T891.setTop (mkF m 261 #[(vJ i0), .second, (vJ i1), .second, (vJ i2), .second, (vJ i3), .second, (vI i4), (vI i5), (vI lo0), (vI hi0), (vI lo1), (vI hi1), (vI v0), (vI v1), (vI (1 : Int32)), (vI v2), (vA b771), (vA b831), (vI (i5 &&& (3 : Int32))), (vJ jk), .second, (vA b855), (vA b874), .unset, .unset, .unset] [(.int (i5 &&& (3 : Int32))), (.ref b855), (.ref b874), (.ref b831)]))
      have F892 := (((((((((((F851.ext E855).wr W862 gpk).wr W864 gpk).wr W866 gpk).wr W868 gpk).wr W870 gpk).wr W872 gpk).ext E874).wr W887 gva).wr W889 gva).wr W891 gva)
      have F893 := (Nat.le_trans (Nat.le_trans (Nat.le_trans (Nat.le_trans F873 E874.1) (Nat.le_of_eq W887.size.symm)) (Nat.le_of_eq W889.size.symm)) (Nat.le_of_eq W891.size.symm))
      have F894 := (((((((((((G0.ext E855).other W862 (Or.inl n856)).other W864 (Or.inl n856)).other W866 (Or.inl n856)).other W868 (Or.inl n856)).other W870 (Or.inl n856)).other W872 (Or.inl n856)).ext E874).other W887 (Or.inl n876)).other W889 (Or.inl n876)).other W891 (Or.inl n876))
      have F895 := (((((((((((G1.ext E855).other W862 (Or.inl n856)).other W864 (Or.inl n856)).other W866 (Or.inl n856)).other W868 (Or.inl n856)).other W870 (Or.inl n856)).other W872 (Or.inl n856)).ext E874).other W887 (Or.inl n876)).other W889 (Or.inl n876)).other W891 (Or.inl n876))
      have F896 := (((((((((((G2.ext E855).other W862 (Or.inl n856)).other W864 (Or.inl n856)).other W866 (Or.inl n856)).other W868 (Or.inl n856)).other W870 (Or.inl n856)).other W872 (Or.inl n856)).ext E874).other W887 (Or.inl n876)).other W889 (Or.inl n876)).other W891 (Or.inl n876))
      have F897 := (((((((((((G3.ext E855).other W862 (Or.inl n856)).other W864 (Or.inl n856)).other W866 (Or.inl n856)).other W868 (Or.inl n856)).other W870 (Or.inl n856)).other W872 (Or.inl n856)).ext E874).other W887 (Or.inl n876)).other W889 (Or.inl n876)).other W891 (Or.inl n876))
      have F898 := (((((((((((G4.ext E855).other W862 (Or.inl n856)).other W864 (Or.inl n856)).other W866 (Or.inl n856)).other W868 (Or.inl n856)).other W870 (Or.inl n856)).other W872 (Or.inl n856)).ext E874).other W887 (Or.inl n876)).other W889 (Or.inl n876)).other W891 (Or.inl n876))
      have F899 := ((((F877.ext E874).other W887 n878).other W889 n878).other W891 n878)
      have F900 := ((((F879.ext E874).other W887 n880).other W889 n880).other W891 n880)
      have F901 := ((((F881.ext E874).other W887 n882).other W889 n882).other W891 n882)
      have F902 := ((((F883.ext E874).other W887 n884).other W889 n884).other W891 n884)
      have F903 := ((((F875.ext E874).wr W887).wr W889).wr W891)
      have F904 := ((((R_871.ext E874).other W887 n885).other W889 n885).other W891 n885)
      have hpk := rmPk1 l Z a0 hw h891 n0 F893 b831 bw bs bm bl kw ks km kl b0 b1 b2 lo0 lo1 (0 : Int32) (b0 + b1) F894 F895 F896 F897 F898 F899 F900 F901 F902 F903 b874 b855 _ _ v0 v1 v2 (i5 &&& (3 : Int32)) _ cf.1 cf.2 R_890 F904 n856 n857 n858 n860 (Ne.symm n885) gpk
      obtain ⟨v905, T905, L905, Q905, X905, st905⟩ := cVi X891 hx hZ (C := "com/example/verify_markov_chains/verifymarkovchains/explicit/StateLayout") (y := (⟨"com/example/verify_markov_chains/verifymarkovchains/explicit/StateLayout", "pack", "([I[JI)V"⟩ : MethodName)) (z := (⟨"com/example/verify_markov_chains/verifymarkovchains/explicit/StateLayout", "pack", "([I[JI)V"⟩ : MethodName)) hown (hg 207 rfl) (hg 208 rfl) (notFace_of_selects (args := #[]) (mvT hZ (hg 210 rfl))) (hg 210 rfl) (hg 209 rfl) (hg 127 rfl) (hg 211 rfl) (by decide) (a := b831) (argsL := [(.ref b874), (.ref b855), (.int (i5 &&& (3 : Int32)))]) (rest := []) (hpk) e891 F903 0 (by decide) (by decide) (by decide) (by decide) (g := (mkF m 261 #[(vJ i0), .second, (vJ i1), .second, (vJ i2), .second, (vJ i3), .second, (vI i4), (vI i5), (vI lo0), (vI hi0), (vI lo1), (vI hi1), (vI v0), (vI v1), (vI (1 : Int32)), (vI v2), (vA b771), (vA b831), (vI (i5 &&& (3 : Int32))), (vJ jk), .second, (vA b855), (vA b874), .unset, .unset, .unset] [(.int (i5 &&& (3 : Int32))), (.ref b855), (.ref b874), (.ref b831)])) rfl (by rw [hml]; rfl) (lenOf pd21 rfl) rfl (by show 2 * 0 + _ ≤ _; exact Nat.le_of_eq rfl) (hb hby at_261)
      obtain ⟨rfl, Mp, Kp, hs, RP', y1, y2⟩ := Q905
      refine DnW.of st905 ?_
      show DnW p e below s (own_Q n0) 40 3328 (T905.setTop (mkF m 264 #[(vJ i0), .second, (vJ i1), .second, (vJ i2), .second, (vJ i3), .second, (vI i4), (vI i5), (vI lo0), (vI hi0), (vI lo1), (vI hi1), (vI v0), (vI v1), (vI (1 : Int32)), (vI v2), (vA b771), (vA b831), (vI (i5 &&& (3 : Int32))), (vJ jk), .second, (vA b855), (vA b874), .unset, .unset, .unset] []))
      refine DnW.of (fun tt_ zz_ => XS.aload X905.here hx rfl (hb hby at_264) rfl rfl zz_) ?_
      refine DnW.of (fun tt_ zz_ => XS.aload X905.here hx rfl (hb hby at_266) rfl rfl zz_) ?_
      refine DnW.of (fun tt_ zz_ => XS.iload X905.here hx rfl (hb hby at_268) rfl zz_) ?_
      refine DnW.of (fun tt_ zz_ => XS.iconst X905.here hx rfl (hb hby at_270) zz_) ?_
      show DnW p e below s (own_Q n0) 40 3328 (T905.setTop (mkF m 271 #[(vJ i0), .second, (vJ i1), .second, (vJ i2), .second, (vJ i3), .second, (vI i4), (vI i5), (vI lo0), (vI hi0), (vI lo1), (vI hi1), (vI v0), (vI v1), (vI (1 : Int32)), (vI v2), (vA b771), (vA b831), (vI (i5 &&& (3 : Int32))), (vJ jk), .second, (vA b855), (vA b874), .unset, .unset, .unset] [(.int (0 : Int32)), (.int (i5 &&& (3 : Int32))), (.ref b855), (.ref b831)]))
      have F906 := (F894.keep Kp (ninS n856 nin0))
      have F907 := (F895.keep Kp (ninS n856 nin0))
      have F908 := (F896.keep Kp (ninS n856 nin0))
      have F909 := (F897.keep Kp (ninS n856 nin0))
      have F910 := (F898.keep Kp (ninS n856 nin0))
      have F911 := (F899.keep Kp (ninS n857 nin0))
      have F912 := (F900.keep Kp (ninS n858 nin0))
      have F913 := (F901.keep Kp (ninS n859 nin0))
      have F914 := (F902.keep Kp (ninS n860 nin0))
      have F915 := (F903.keep Kp)
      have F916 := (Nat.le_trans F893 Kp.1)
      have F917 := (Nat.le_trans (Nat.le_trans (Nat.le_trans (Nat.le_trans (Nat.le_trans (Nat.le_trans (Nat.le_trans (Nat.le_trans (Nat.le_trans (Nat.le_trans (Nat.le_trans (Nat.le_trans F852 E855.1) (Nat.le_of_eq W862.size.symm)) (Nat.le_of_eq W864.size.symm)) (Nat.le_of_eq W866.size.symm)) (Nat.le_of_eq W868.size.symm)) (Nat.le_of_eq W870.size.symm)) (Nat.le_of_eq W872.size.symm)) E874.1) (Nat.le_of_eq W887.size.symm)) (Nat.le_of_eq W889.size.symm)) (Nat.le_of_eq W891.size.symm)) Kp.1)
      have ff := own_f cf.1 cf.2
      have fin := own_fit R0 R1 R2 P0 P1 P2 S2 hfit
      obtain ⟨v918, T918, L918, Q918, X918, st918⟩ := cVi X905 hx hZ (C := "com/example/verify_markov_chains/verifymarkovchains/explicit/StateLayout") (y := (⟨"com/example/verify_markov_chains/verifymarkovchains/explicit/StateLayout", "value", "([JII)I"⟩ : MethodName)) (z := (⟨"com/example/verify_markov_chains/verifymarkovchains/explicit/StateLayout", "value", "([JII)I"⟩ : MethodName)) hown (hg 219 rfl) (hg 220 rfl) (notFace_of_selects (args := #[]) (mvT hZ (hg 222 rfl))) (hg 222 rfl) (hg 221 rfl) (hg 127 rfl) (hg 223 rfl) (by decide) (a := b831) (argsL := [(.ref b855), (.int (i5 &&& (3 : Int32))), (.int (0 : Int32))]) (rest := []) (rmVal l Z a0 hw T905.heap n0 F916 b831 bw bs bm bl kw ks km kl b0 b1 b2 lo0 lo1 (0 : Int32) (0 : Int32) (1 : Int32) (b0 + b1) F906 F907 F908 F909 F910 F911 F912 F913 F914 b855 _ hs (i5 &&& (3 : Int32)) (0 : Int32) (0 : Int32) (0 : Int32) lo0 (own_mask b0) ((own_w2 (own_x v0 lo0) (own_x v1 lo1) b0) ||| (own_sh (own_x v2 (0 : Int32)) (b0 + b1))) (by decide) rfl rfl rfl rfl ff.2.2.2.1 RP' y1) rfl F915 0 (by decide) (by decide) (by decide) (by decide) (g := (mkF m 271 #[(vJ i0), .second, (vJ i1), .second, (vJ i2), .second, (vJ i3), .second, (vI i4), (vI i5), (vI lo0), (vI hi0), (vI lo1), (vI hi1), (vI v0), (vI v1), (vI (1 : Int32)), (vI v2), (vA b771), (vA b831), (vI (i5 &&& (3 : Int32))), (vJ jk), .second, (vA b855), (vA b874), .unset, .unset, .unset] [(.int (0 : Int32)), (.int (i5 &&& (3 : Int32))), (.ref b855), (.ref b831)])) rfl (by rw [hml]; rfl) (lenOf pd22 rfl) rfl (by show 2 * 0 + _ ≤ _; exact Nat.le_of_eq rfl) (hb hby at_271)
      rw [fin.1] at Q918
      obtain ⟨rfl, Mv0, e918⟩ := Q918
      refine DnW.of st918 ?_
      show DnW p e below s (own_Q n0) 40 3328 (T918.setTop (mkF m 274 #[(vJ i0), .second, (vJ i1), .second, (vJ i2), .second, (vJ i3), .second, (vI i4), (vI i5), (vI lo0), (vI hi0), (vI lo1), (vI hi1), (vI v0), (vI v1), (vI (1 : Int32)), (vI v2), (vA b771), (vA b831), (vI (i5 &&& (3 : Int32))), (vJ jk), .second, (vA b855), (vA b874), .unset, .unset, .unset] [(.int v0)]))
      refine DnW.of (fun tt_ zz_ => XS.istore X918.here hx rfl (hb hby at_274) rfl (l' := #[(vJ i0), .second, (vJ i1), .second, (vJ i2), .second, (vJ i3), .second, (vI i4), (vI i5), (vI lo0), (vI hi0), (vI lo1), (vI hi1), (vI v0), (vI v1), (vI (1 : Int32)), (vI v2), (vA b771), (vA b831), (vI (i5 &&& (3 : Int32))), (vJ jk), .second, (vA b855), (vA b874), (vI v0), .unset, .unset]) rfl zz_) ?_
      refine DnW.of (fun tt_ zz_ => XS.aload X918.here hx rfl (hb hby at_276) rfl rfl zz_) ?_
      refine DnW.of (fun tt_ zz_ => XS.aload X918.here hx rfl (hb hby at_278) rfl rfl zz_) ?_
      refine DnW.of (fun tt_ zz_ => XS.iload X918.here hx rfl (hb hby at_280) rfl zz_) ?_
      show DnW p e below s (own_Q n0) 40 3328 (T918.setTop (mkF m 282 #[(vJ i0), .second, (vJ i1), .second, (vJ i2), .second, (vJ i3), .second, (vI i4), (vI i5), (vI lo0), (vI hi0), (vI lo1), (vI hi1), (vI v0), (vI v1), (vI (1 : Int32)), (vI v2), (vA b771), (vA b831), (vI (i5 &&& (3 : Int32))), (vJ jk), .second, (vA b855), (vA b874), (vI v0), .unset, .unset] [(.int (i5 &&& (3 : Int32))), (.ref b855), (.ref b831)]))
      refine DnW.of (fun tt_ zz_ => XS.iconst X918.here hx rfl (hb hby at_282) zz_) ?_
      show DnW p e below s (own_Q n0) 40 3328 (T918.setTop (mkF m 283 #[(vJ i0), .second, (vJ i1), .second, (vJ i2), .second, (vJ i3), .second, (vI i4), (vI i5), (vI lo0), (vI hi0), (vI lo1), (vI hi1), (vI v0), (vI v1), (vI (1 : Int32)), (vI v2), (vA b771), (vA b831), (vI (i5 &&& (3 : Int32))), (vJ jk), .second, (vA b855), (vA b874), (vI v0), .unset, .unset] [(.int (1 : Int32)), (.int (i5 &&& (3 : Int32))), (.ref b855), (.ref b831)]))
      obtain ⟨v919, T919, L919, Q919, X919, st919⟩ := cVi X918 hx hZ (C := "com/example/verify_markov_chains/verifymarkovchains/explicit/StateLayout") (y := (⟨"com/example/verify_markov_chains/verifymarkovchains/explicit/StateLayout", "value", "([JII)I"⟩ : MethodName)) (z := (⟨"com/example/verify_markov_chains/verifymarkovchains/explicit/StateLayout", "value", "([JII)I"⟩ : MethodName)) hown (hg 219 rfl) (hg 220 rfl) (notFace_of_selects (args := #[]) (mvT hZ (hg 222 rfl))) (hg 222 rfl) (hg 221 rfl) (hg 127 rfl) (hg 223 rfl) (by decide) (a := b831) (argsL := [(.ref b855), (.int (i5 &&& (3 : Int32))), (.int (1 : Int32))]) (rest := []) (rmVal l Z a0 hw T905.heap n0 F916 b831 bw bs bm bl kw ks km kl b0 b1 b2 lo0 lo1 (0 : Int32) (0 : Int32) (1 : Int32) (b0 + b1) F906 F907 F908 F909 F910 F911 F912 F913 F914 b855 _ hs (i5 &&& (3 : Int32)) (1 : Int32) (0 : Int32) b0 lo1 (own_mask b1) ((own_w2 (own_x v0 lo0) (own_x v1 lo1) b0) ||| (own_sh (own_x v2 (0 : Int32)) (b0 + b1))) (by decide) rfl rfl rfl rfl ff.2.2.2.1 RP' y1) e918 F915 0 (by decide) (by decide) (by decide) (by decide) (g := (mkF m 283 #[(vJ i0), .second, (vJ i1), .second, (vJ i2), .second, (vJ i3), .second, (vI i4), (vI i5), (vI lo0), (vI hi0), (vI lo1), (vI hi1), (vI v0), (vI v1), (vI (1 : Int32)), (vI v2), (vA b771), (vA b831), (vI (i5 &&& (3 : Int32))), (vJ jk), .second, (vA b855), (vA b874), (vI v0), .unset, .unset] [(.int (1 : Int32)), (.int (i5 &&& (3 : Int32))), (.ref b855), (.ref b831)])) rfl (by rw [hml]; rfl) (lenOf pd22 rfl) rfl (by show 2 * 0 + _ ≤ _; exact Nat.le_of_eq rfl) (hb hby at_283)
      rw [fin.2.1] at Q919
      obtain ⟨rfl, Mv1, e919⟩ := Q919
      refine DnW.of st919 ?_
      show DnW p e below s (own_Q n0) 40 3328 (T919.setTop (mkF m 286 #[(vJ i0), .second, (vJ i1), .second, (vJ i2), .second, (vJ i3), .second, (vI i4), (vI i5), (vI lo0), (vI hi0), (vI lo1), (vI hi1), (vI v0), (vI v1), (vI (1 : Int32)), (vI v2), (vA b771), (vA b831), (vI (i5 &&& (3 : Int32))), (vJ jk), .second, (vA b855), (vA b874), (vI v0), .unset, .unset] [(.int v1)]))
      refine DnW.of (fun tt_ zz_ => XS.istore X919.here hx rfl (hb hby at_286) rfl (l' := #[(vJ i0), .second, (vJ i1), .second, (vJ i2), .second, (vJ i3), .second, (vI i4), (vI i5), (vI lo0), (vI hi0), (vI lo1), (vI hi1), (vI v0), (vI v1), (vI (1 : Int32)), (vI v2), (vA b771), (vA b831), (vI (i5 &&& (3 : Int32))), (vJ jk), .second, (vA b855), (vA b874), (vI v0), (vI v1), .unset]) rfl zz_) ?_
      refine DnW.of (fun tt_ zz_ => XS.aload X919.here hx rfl (hb hby at_288) rfl rfl zz_) ?_
      refine DnW.of (fun tt_ zz_ => XS.aload X919.here hx rfl (hb hby at_290) rfl rfl zz_) ?_
      refine DnW.of (fun tt_ zz_ => XS.iload X919.here hx rfl (hb hby at_292) rfl zz_) ?_
      show DnW p e below s (own_Q n0) 40 3328 (T919.setTop (mkF m 294 #[(vJ i0), .second, (vJ i1), .second, (vJ i2), .second, (vJ i3), .second, (vI i4), (vI i5), (vI lo0), (vI hi0), (vI lo1), (vI hi1), (vI v0), (vI v1), (vI (1 : Int32)), (vI v2), (vA b771), (vA b831), (vI (i5 &&& (3 : Int32))), (vJ jk), .second, (vA b855), (vA b874), (vI v0), (vI v1), .unset] [(.int (i5 &&& (3 : Int32))), (.ref b855), (.ref b831)]))
      refine DnW.of (fun tt_ zz_ => XS.iconst X919.here hx rfl (hb hby at_294) zz_) ?_
      show DnW p e below s (own_Q n0) 40 3328 (T919.setTop (mkF m 295 #[(vJ i0), .second, (vJ i1), .second, (vJ i2), .second, (vJ i3), .second, (vI i4), (vI i5), (vI lo0), (vI hi0), (vI lo1), (vI hi1), (vI v0), (vI v1), (vI (1 : Int32)), (vI v2), (vA b771), (vA b831), (vI (i5 &&& (3 : Int32))), (vJ jk), .second, (vA b855), (vA b874), (vI v0), (vI v1), .unset] [(.int (2 : Int32)), (.int (i5 &&& (3 : Int32))), (.ref b855), (.ref b831)]))
      obtain ⟨v920, T920, L920, Q920, X920, st920⟩ := cVi X919 hx hZ (C := "com/example/verify_markov_chains/verifymarkovchains/explicit/StateLayout") (y := (⟨"com/example/verify_markov_chains/verifymarkovchains/explicit/StateLayout", "value", "([JII)I"⟩ : MethodName)) (z := (⟨"com/example/verify_markov_chains/verifymarkovchains/explicit/StateLayout", "value", "([JII)I"⟩ : MethodName)) hown (hg 219 rfl) (hg 220 rfl) (notFace_of_selects (args := #[]) (mvT hZ (hg 222 rfl))) (hg 222 rfl) (hg 221 rfl) (hg 127 rfl) (hg 223 rfl) (by decide) (a := b831) (argsL := [(.ref b855), (.int (i5 &&& (3 : Int32))), (.int (2 : Int32))]) (rest := []) (rmVal l Z a0 hw T905.heap n0 F916 b831 bw bs bm bl kw ks km kl b0 b1 b2 lo0 lo1 (0 : Int32) (0 : Int32) (1 : Int32) (b0 + b1) F906 F907 F908 F909 F910 F911 F912 F913 F914 b855 _ hs (i5 &&& (3 : Int32)) (2 : Int32) (0 : Int32) (b0 + b1) (0 : Int32) (own_mask b2) ((own_w2 (own_x v0 lo0) (own_x v1 lo1) b0) ||| (own_sh (own_x v2 (0 : Int32)) (b0 + b1))) (by decide) rfl rfl rfl rfl ff.2.2.2.1 RP' y2) e919 F915 0 (by decide) (by decide) (by decide) (by decide) (g := (mkF m 295 #[(vJ i0), .second, (vJ i1), .second, (vJ i2), .second, (vJ i3), .second, (vI i4), (vI i5), (vI lo0), (vI hi0), (vI lo1), (vI hi1), (vI v0), (vI v1), (vI (1 : Int32)), (vI v2), (vA b771), (vA b831), (vI (i5 &&& (3 : Int32))), (vJ jk), .second, (vA b855), (vA b874), (vI v0), (vI v1), .unset] [(.int (2 : Int32)), (.int (i5 &&& (3 : Int32))), (.ref b855), (.ref b831)])) rfl (by rw [hml]; rfl) (lenOf pd22 rfl) rfl (by show 2 * 0 + _ ≤ _; exact Nat.le_of_eq rfl) (hb hby at_295)
      rw [fin.2.2] at Q920
      obtain ⟨rfl, Mv2, e920⟩ := Q920
      refine DnW.of st920 ?_
      show DnW p e below s (own_Q n0) 40 3328 (T920.setTop (mkF m 298 #[(vJ i0), .second, (vJ i1), .second, (vJ i2), .second, (vJ i3), .second, (vI i4), (vI i5), (vI lo0), (vI hi0), (vI lo1), (vI hi1), (vI v0), (vI v1), (vI (1 : Int32)), (vI v2), (vA b771), (vA b831), (vI (i5 &&& (3 : Int32))), (vJ jk), .second, (vA b855), (vA b874), (vI v0), (vI v1), .unset] [(.int v2)]))
      refine DnW.of (fun tt_ zz_ => XS.istore X920.here hx rfl (hb hby at_298) rfl (l' := #[(vJ i0), .second, (vJ i1), .second, (vJ i2), .second, (vJ i3), .second, (vI i4), (vI i5), (vI lo0), (vI hi0), (vI lo1), (vI hi1), (vI v0), (vI v1), (vI (1 : Int32)), (vI v2), (vA b771), (vA b831), (vI (i5 &&& (3 : Int32))), (vJ jk), .second, (vA b855), (vA b874), (vI v0), (vI v1), (vI v2)]) rfl zz_) ?_
      refine DnW.of (fun tt_ zz_ => XS.iload X920.here hx rfl (hb hby at_300) rfl zz_) ?_
      refine DnW.of (fun tt_ zz_ => XS.iload X920.here hx rfl (hb hby at_302) rfl zz_) ?_
      show DnW p e below s (own_Q n0) 40 3328 (T920.setTop (mkF m 304 #[(vJ i0), .second, (vJ i1), .second, (vJ i2), .second, (vJ i3), .second, (vI i4), (vI i5), (vI lo0), (vI hi0), (vI lo1), (vI hi1), (vI v0), (vI v1), (vI (1 : Int32)), (vI v2), (vA b771), (vA b831), (vI (i5 &&& (3 : Int32))), (vJ jk), .second, (vA b855), (vA b874), (vI v0), (vI v1), (vI v2)] [(.int v0), (.int v0)]))
      refine DnW.of (fun tt_ zz_ => XS.icmpNo X920.here hx rfl (hb hby at_304) rfl (teq rfl).2 zz_) ?_
      show DnW p e below s (own_Q n0) 40 3328 (T920.setTop (mkF m 307 #[(vJ i0), .second, (vJ i1), .second, (vJ i2), .second, (vJ i3), .second, (vI i4), (vI i5), (vI lo0), (vI hi0), (vI lo1), (vI hi1), (vI v0), (vI v1), (vI (1 : Int32)), (vI v2), (vA b771), (vA b831), (vI (i5 &&& (3 : Int32))), (vJ jk), .second, (vA b855), (vA b874), (vI v0), (vI v1), (vI v2)] []))
      refine DnW.of (fun tt_ zz_ => XS.iload X920.here hx rfl (hb hby at_307) rfl zz_) ?_
      refine DnW.of (fun tt_ zz_ => XS.iload X920.here hx rfl (hb hby at_309) rfl zz_) ?_
      show DnW p e below s (own_Q n0) 40 3328 (T920.setTop (mkF m 311 #[(vJ i0), .second, (vJ i1), .second, (vJ i2), .second, (vJ i3), .second, (vI i4), (vI i5), (vI lo0), (vI hi0), (vI lo1), (vI hi1), (vI v0), (vI v1), (vI (1 : Int32)), (vI v2), (vA b771), (vA b831), (vI (i5 &&& (3 : Int32))), (vJ jk), .second, (vA b855), (vA b874), (vI v0), (vI v1), (vI v2)] [(.int v1), (.int v1)]))
      refine DnW.of (fun tt_ zz_ => XS.icmpNo X920.here hx rfl (hb hby at_311) rfl (teq rfl).2 zz_) ?_
      show DnW p e below s (own_Q n0) 40 3328 (T920.setTop (mkF m 314 #[(vJ i0), .second, (vJ i1), .second, (vJ i2), .second, (vJ i3), .second, (vI i4), (vI i5), (vI lo0), (vI hi0), (vI lo1), (vI hi1), (vI v0), (vI v1), (vI (1 : Int32)), (vI v2), (vA b771), (vA b831), (vI (i5 &&& (3 : Int32))), (vJ jk), .second, (vA b855), (vA b874), (vI v0), (vI v1), (vI v2)] []))
      refine DnW.of (fun tt_ zz_ => XS.iload X920.here hx rfl (hb hby at_314) rfl zz_) ?_
      refine DnW.of (fun tt_ zz_ => XS.iload X920.here hx rfl (hb hby at_316) rfl zz_) ?_
      show DnW p e below s (own_Q n0) 40 3328 (T920.setTop (mkF m 318 #[(vJ i0), .second, (vJ i1), .second, (vJ i2), .second, (vJ i3), .second, (vI i4), (vI i5), (vI lo0), (vI hi0), (vI lo1), (vI hi1), (vI v0), (vI v1), (vI (1 : Int32)), (vI v2), (vA b771), (vA b831), (vI (i5 &&& (3 : Int32))), (vJ jk), .second, (vA b855), (vA b874), (vI v0), (vI v1), (vI v2)] [(.int v2), (.int v2)]))
      refine DnW.of (fun tt_ zz_ => XS.icmpNo X920.here hx rfl (hb hby at_318) rfl (teq rfl).2 zz_) ?_
      show DnW p e below s (own_Q n0) 40 3328 (T920.setTop (mkF m 321 #[(vJ i0), .second, (vJ i1), .second, (vJ i2), .second, (vJ i3), .second, (vI i4), (vI i5), (vI lo0), (vI hi0), (vI lo1), (vI hi1), (vI v0), (vI v1), (vI (1 : Int32)), (vI v2), (vA b771), (vA b831), (vI (i5 &&& (3 : Int32))), (vJ jk), .second, (vA b855), (vA b874), (vI v0), (vI v1), (vI v2)] []))
      refine DnW.of (fun tt_ zz_ => XS.iconst X920.here hx rfl (hb hby at_321) zz_) ?_
      refine DnW.of (fun tt_ zz_ => XS.goto X920.here hx rfl (pc0 := 322) (pc' := 326) rfl (hb hby at_322) (by decide) (by decide) zz_) ?_
      show DnW p e below s (own_Q n0) 40 3328 (T920.setTop (mkF m 326 #[(vJ i0), .second, (vJ i1), .second, (vJ i2), .second, (vJ i3), .second, (vI i4), (vI i5), (vI lo0), (vI hi0), (vI lo1), (vI hi1), (vI v0), (vI v1), (vI (1 : Int32)), (vI v2), (vA b771), (vA b831), (vI (i5 &&& (3 : Int32))), (vJ jk), .second, (vA b855), (vA b874), (vI v0), (vI v1), (vI v2)] [(.int (1 : Int32))]))
      exact DnW.retN hS (by rw [e920]; exact F917) X920 hx hlk (t := .boolean) hret (by simp) (hb hby at_326) (by decide) (by decide) (⟨rfl, (Fr.app (Fr.app (Fr.app (Fr.app N890 Mp) Mv0) Mv1) Mv2)⟩)
    · skip
      show DnW p e below s (own_Q n0) 40 3328 (T850.setTop (mkF m 169 #[(vJ i0), .second, (vJ i1), .second, (vJ i2), .second, (vJ i3), .second, (vI i4), (vI i5), (vI lo0), (vI hi0), (vI lo1), (vI hi1), (vI v0), (vI v1), (vI (1 : Int32)), (vI v2), (vA b771), .unset, .unset, .unset, .unset, .unset, .unset, .unset, .unset, .unset] [(.ref b831)]))
      refine DnW.of (fun tt_ zz_ => XS.astore X850.here hx rfl (hb hby at_169) rfl rfl (l' := #[(vJ i0), .second, (vJ i1), .second, (vJ i2), .second, (vJ i3), .second, (vI i4), (vI i5), (vI lo0), (vI hi0), (vI lo1), (vI hi1), (vI v0), (vI v1), (vI (1 : Int32)), (vI v2), (vA b771), (vA b831), .unset, .unset, .unset, .unset, .unset, .unset, .unset, .unset]) rfl zz_) ?_
      refine DnW.of (fun tt_ zz_ => XS.iload X850.here hx rfl (hb hby at_171) rfl zz_) ?_
      refine DnW.of (fun tt_ zz_ => XS.iconst X850.here hx rfl (hb hby at_173) zz_) ?_
      refine DnW.of (fun tt_ zz_ => XS.iand X850.here hx rfl (hb hby at_174) rfl zz_) ?_
      show DnW p e below s (own_Q n0) 40 3328 (T850.setTop (mkF m 175 #[(vJ i0), .second, (vJ i1), .second, (vJ i2), .second, (vJ i3), .second, (vI i4), (vI i5), (vI lo0), (vI hi0), (vI lo1), (vI hi1), (vI v0), (vI v1), (vI (1 : Int32)), (vI v2), (vA b771), (vA b831), .unset, .unset, .unset, .unset, .unset, .unset, .unset, .unset] [(.int (i5 &&& (3 : Int32)))]))
      refine DnW.of (fun tt_ zz_ => XS.istore X850.here hx rfl (hb hby at_175) rfl (l' := #[(vJ i0), .second, (vJ i1), .second, (vJ i2), .second, (vJ i3), .second, (vI i4), (vI i5), (vI lo0), (vI hi0), (vI lo1), (vI hi1), (vI v0), (vI v1), (vI (1 : Int32)), (vI v2), (vA b771), (vA b831), (vI (i5 &&& (3 : Int32))), .unset, .unset, .unset, .unset, .unset, .unset, .unset]) rfl zz_) ?_
      refine DnW.of (fun tt_ zz_ => XS.iload X850.here hx rfl (hb hby at_177) rfl zz_) ?_
      refine DnW.of (fun tt_ zz_ => XS.i2l X850.here hx rfl (hb hby at_179) rfl zz_) ?_
      refine DnW.of (fun tt_ zz_ => X850.ldc2J hx hown (mvT hZ (hg 206 rfl)) rfl (hb hby at_180) zz_) ?_
      show DnW p e below s (own_Q n0) 40 3328 (T850.setTop (mkF m 183 #[(vJ i0), .second, (vJ i1), .second, (vJ i2), .second, (vJ i3), .second, (vI i4), (vI i5), (vI lo0), (vI hi0), (vI lo1), (vI hi1), (vI v0), (vI v1), (vI (1 : Int32)), (vI v2), (vA b771), (vA b831), (vI (i5 &&& (3 : Int32))), .unset, .unset, .unset, .unset, .unset, .unset, .unset] [(.long (-7046029254386353131 : Int64)), (.long (i5.toInt64))]))
      refine DnW.of (fun tt_ zz_ => XS.lmul X850.here hx rfl (hb hby at_183) rfl zz_) ?_
      refine DnW.of (fun tt_ zz_ => XS.lconst X850.here hx rfl (hb hby at_184) zz_) ?_
      refine DnW.of (fun tt_ zz_ => XS.lor X850.here hx rfl (hb hby at_185) rfl zz_) ?_
      refine DnW.of (fun tt_ zz_ => XS.lstore X850.here hx rfl (hb hby at_186) rfl (l' := #[(vJ i0), .second, (vJ i1), .second, (vJ i2), .second, (vJ i3), .second, (vI i4), (vI i5), (vI lo0), (vI hi0), (vI lo1), (vI hi1), (vI v0), (vI v1), (vI (1 : Int32)), (vI v2), (vA b771), (vA b831), (vI (i5 &&& (3 : Int32))), (vJ (((i5.toInt64) * (-7046029254386353131 : Int64)) ||| (1 : Int64))), .second, .unset, .unset, .unset, .unset, .unset]) rfl zz_) ?_
      show DnW p e below s (own_Q n0) 40 3328 (T850.setTop (mkF m 188 #[(vJ i0), .second, (vJ i1), .second, (vJ i2), .second, (vJ i3), .second, (vI i4), (vI i5), (vI lo0), (vI hi0), (vI lo1), (vI hi1), (vI v0), (vI v1), (vI (1 : Int32)), (vI v2), (vA b771), (vA b831), (vI (i5 &&& (3 : Int32))), (vJ (((i5.toInt64) * (-7046029254386353131 : Int64)) ||| (1 : Int64))), .second, .unset, .unset, .unset, .unset, .unset] []))
      generalize (((i5.toInt64) * (-7046029254386353131 : Int64)) ||| (1 : Int64)) = jk
      show DnW p e below s (own_Q n0) 40 3328 (T850.setTop (mkF m 188 #[(vJ i0), .second, (vJ i1), .second, (vJ i2), .second, (vJ i3), .second, (vI i4), (vI i5), (vI lo0), (vI hi0), (vI lo1), (vI hi1), (vI v0), (vI v1), (vI (1 : Int32)), (vI v2), (vA b771), (vA b831), (vI (i5 &&& (3 : Int32))), (vJ jk), .second, .unset, .unset, .unset, .unset, .unset] []))
      refine DnW.of (fun tt_ zz_ => XS.bipush X850.here hx rfl (hb hby at_188) zz_) ?_
      show DnW p e below s (own_Q n0) 40 3328 (T850.setTop (mkF m 190 #[(vJ i0), .second, (vJ i1), .second, (vJ i2), .second, (vJ i3), .second, (vI i4), (vI i5), (vI lo0), (vI hi0), (vI lo1), (vI hi1), (vI v0), (vI v1), (vI (1 : Int32)), (vI v2), (vA b771), (vA b831), (vI (i5 &&& (3 : Int32))), (vJ jk), .second, .unset, .unset, .unset, .unset, .unset] [(.int (6 : Int32))]))
      obtain ⟨T921, h921, k921, X921, e921, E921, A921, st921⟩ := newP X850 hx hZ (hg 146 rfl) rfl (g := (mkF m 190 #[(vJ i0), .second, (vJ i1), .second, (vJ i2), .second, (vJ i3), .second, (vI i4), (vI i5), (vI lo0), (vI hi0), (vI lo1), (vI hi1), (vI v0), (vI v1), (vI (1 : Int32)), (vI v2), (vA b771), (vA b831), (vI (i5 &&& (3 : Int32))), (vJ jk), .second, .unset, .unset, .unset, .unset, .unset] [(.int (6 : Int32))])) rfl (hb hby at_190) rfl (by decide) (cap := 6) (by decide) (by decide) (by decide) (by decide)
      obtain ⟨b921, g921⟩ : ∃ z, z = T850.heap.size := ⟨_, rfl⟩
      rw [← g921] at A921 st921
      refine DnW.of st921 ?_
      show DnW p e below s (own_Q n0) 40 3328 (T921.setTop (mkF m 192 #[(vJ i0), .second, (vJ i1), .second, (vJ i2), .second, (vJ i3), .second, (vI i4), (vI i5), (vI lo0), (vI hi0), (vI lo1), (vI hi1), (vI v0), (vI v1), (vI (1 : Int32)), (vI v2), (vA b771), (vA b831), (vI (i5 &&& (3 : Int32))), (vJ jk), .second, .unset, .unset, .unset, .unset, .unset] [(.ref b921)]))
      have n922 : b831 ≠ b921 := Nat.ne_of_lt (g921 ▸ F854.lt)
      have n923 : bw ≠ b921 := Nat.ne_of_lt (g921 ▸ RW.lt)
      have n924 : bs ≠ b921 := Nat.ne_of_lt (g921 ▸ RS.lt)
      have n925 : bm ≠ b921 := Nat.ne_of_lt (g921 ▸ RM.lt)
      have n926 : bl ≠ b921 := Nat.ne_of_lt (g921 ▸ RL.lt)
      have gpk : n0 ≤ b921 := g921 ▸ F853
      have RP : Arh Z h921 b921 k921 .long 6 [] [] (.long 0) := (Arv.new A921 (by decide)).arh
      refine DnW.of (fun tt_ zz_ => XS.astore X921.here hx rfl (hb hby at_192) rfl rfl (l' := #[(vJ i0), .second, (vJ i1), .second, (vJ i2), .second, (vJ i3), .second, (vI i4), (vI i5), (vI lo0), (vI hi0), (vI lo1), (vI hi1), (vI v0), (vI v1), (vI (1 : Int32)), (vI v2), (vA b771), (vA b831), (vI (i5 &&& (3 : Int32))), (vJ jk), .second, (vA b921), .unset, .unset, .unset, .unset]) rfl zz_) ?_
      refine DnW.of (fun tt_ zz_ => XS.aload X921.here hx rfl (hb hby at_194) rfl rfl zz_) ?_
      refine DnW.of (fun tt_ zz_ => XS.iconst X921.here hx rfl (hb hby at_196) zz_) ?_
      refine DnW.of (fun tt_ zz_ => XS.lload X921.here hx rfl (hb hby at_197) rfl zz_) ?_
      show DnW p e below s (own_Q n0) 40 3328 (T921.setTop (mkF m 199 #[(vJ i0), .second, (vJ i1), .second, (vJ i2), .second, (vJ i3), .second, (vI i4), (vI i5), (vI lo0), (vI hi0), (vI lo1), (vI hi1), (vI v0), (vI v1), (vI (1 : Int32)), (vI v2), (vA b771), (vA b831), (vI (i5 &&& (3 : Int32))), (vJ jk), .second, (vA b921), .unset, .unset, .unset, .unset] [(.long jk), (.int (0 : Int32)), (.ref b921)]))
      obtain ⟨c927, A_927, p927, S927, P927, H927, G927⟩ := RP
      obtain ⟨T928, h928, X928, e928, W928, st928⟩ := stJ X921 hx hZ e921 A_927 (j := (0 : Int32)) (inb_of S927 (by decide)) (g := (mkF m 199 #[(vJ i0), .second, (vJ i1), .second, (vJ i2), .second, (vJ i3), .second, (vI i4), (vI i5), (vI lo0), (vI hi0), (vI lo1), (vI hi1), (vI v0), (vI v1), (vI (1 : Int32)), (vI v2), (vA b771), (vA b831), (vI (i5 &&& (3 : Int32))), (vJ jk), .second, (vA b921), .unset, .unset, .unset, .unset] [(.long jk), (.int (0 : Int32)), (.ref b921)])) rfl rfl (hb hby at_199)
      refine DnW.of st928 ?_
      show DnW p e below s (own_Q n0) 40 3328 (T928.setTop (mkF m 200 #[(vJ i0), .second, (vJ i1), .second, (vJ i2), .second, (vJ i3), .second, (vI i4), (vI i5), (vI lo0), (vI hi0), (vI lo1), (vI hi1), (vI v0), (vI v1), (vI (1 : Int32)), (vI v2), (vA b771), (vA b831), (vI (i5 &&& (3 : Int32))), (vJ jk), .second, (vA b921), .unset, .unset, .unset, .unset] []))
      have R_927 := Arh.push A_927 p927 S927 P927 H927 G927 (v := (.long jk)) rfl W928 (inb_of S927 (by decide))
      have N927 := Fr.snoc X928 (Fr.app (Fr.app (Fr.app (Fr.app (Fr.app (Fr.app (Fr.app (Fr.app (Fr.app (Fr.app (Fr.app (Fr.app (Fr.app (Fr.app N0 Ms0) Ms1) Ms2) Ms3) Ms4) Ms5) Ml) Mu0) Ma0) Mu1) Ma1) Mu2) Ma2) Mi) gpk
      refine DnW.of (fun tt_ zz_ => XS.aload X928.here hx rfl (hb hby at_200) rfl rfl zz_) ?_
      refine DnW.of (fun tt_ zz_ => XS.iconst X928.here hx rfl (hb hby at_202) zz_) ?_
      refine DnW.of (fun tt_ zz_ => XS.lload X928.here hx rfl (hb hby at_203) rfl zz_) ?_
      show DnW p e below s (own_Q n0) 40 3328 (T928.setTop (mkF m 205 #[(vJ i0), .second, (vJ i1), .second, (vJ i2), .second, (vJ i3), .second, (vI i4), (vI i5), (vI lo0), (vI hi0), (vI lo1), (vI hi1), (vI v0), (vI v1), (vI (1 : Int32)), (vI v2), (vA b771), (vA b831), (vI (i5 &&& (3 : Int32))), (vJ jk), .second, (vA b921), .unset, .unset, .unset, .unset] [(.long jk), (.int (1 : Int32)), (.ref b921)]))
      obtain ⟨c929, A_929, p929, S929, P929, H929, G929⟩ := R_927
      obtain ⟨T930, h930, X930, e930, W930, st930⟩ := stJ X928 hx hZ e928 A_929 (j := (1 : Int32)) (inb_of S929 (by decide)) (g := (mkF m 205 #[(vJ i0), .second, (vJ i1), .second, (vJ i2), .second, (vJ i3), .second, (vI i4), (vI i5), (vI lo0), (vI hi0), (vI lo1), (vI hi1), (vI v0), (vI v1), (vI (1 : Int32)), (vI v2), (vA b771), (vA b831), (vI (i5 &&& (3 : Int32))), (vJ jk), .second, (vA b921), .unset, .unset, .unset, .unset] [(.long jk), (.int (1 : Int32)), (.ref b921)])) rfl rfl (hb hby at_205)
      refine DnW.of st930 ?_
      show DnW p e below s (own_Q n0) 40 3328 (T930.setTop (mkF m 206 #[(vJ i0), .second, (vJ i1), .second, (vJ i2), .second, (vJ i3), .second, (vI i4), (vI i5), (vI lo0), (vI hi0), (vI lo1), (vI hi1), (vI v0), (vI v1), (vI (1 : Int32)), (vI v2), (vA b771), (vA b831), (vI (i5 &&& (3 : Int32))), (vJ jk), .second, (vA b921), .unset, .unset, .unset, .unset] []))
      have R_929 := Arh.push A_929 p929 S929 P929 H929 G929 (v := (.long jk)) rfl W930 (inb_of S929 (by decide))
      have N929 := Fr.snoc X930 N927 gpk
      refine DnW.of (fun tt_ zz_ => XS.aload X930.here hx rfl (hb hby at_206) rfl rfl zz_) ?_
      refine DnW.of (fun tt_ zz_ => XS.iconst X930.here hx rfl (hb hby at_208) zz_) ?_
      refine DnW.of (fun tt_ zz_ => XS.lload X930.here hx rfl (hb hby at_209) rfl zz_) ?_
      show DnW p e below s (own_Q n0) 40 3328 (T930.setTop (mkF m 211 #[(vJ i0), .second, (vJ i1), .second, (vJ i2), .second, (vJ i3), .second, (vI i4), (vI i5), (vI lo0), (vI hi0), (vI lo1), (vI hi1), (vI v0), (vI v1), (vI (1 : Int32)), (vI v2), (vA b771), (vA b831), (vI (i5 &&& (3 : Int32))), (vJ jk), .second, (vA b921), .unset, .unset, .unset, .unset] [(.long jk), (.int (2 : Int32)), (.ref b921)]))
      obtain ⟨c931, A_931, p931, S931, P931, H931, G931⟩ := R_929
      obtain ⟨T932, h932, X932, e932, W932, st932⟩ := stJ X930 hx hZ e930 A_931 (j := (2 : Int32)) (inb_of S931 (by decide)) (g := (mkF m 211 #[(vJ i0), .second, (vJ i1), .second, (vJ i2), .second, (vJ i3), .second, (vI i4), (vI i5), (vI lo0), (vI hi0), (vI lo1), (vI hi1), (vI v0), (vI v1), (vI (1 : Int32)), (vI v2), (vA b771), (vA b831), (vI (i5 &&& (3 : Int32))), (vJ jk), .second, (vA b921), .unset, .unset, .unset, .unset] [(.long jk), (.int (2 : Int32)), (.ref b921)])) rfl rfl (hb hby at_211)
      refine DnW.of st932 ?_
      show DnW p e below s (own_Q n0) 40 3328 (T932.setTop (mkF m 212 #[(vJ i0), .second, (vJ i1), .second, (vJ i2), .second, (vJ i3), .second, (vI i4), (vI i5), (vI lo0), (vI hi0), (vI lo1), (vI hi1), (vI v0), (vI v1), (vI (1 : Int32)), (vI v2), (vA b771), (vA b831), (vI (i5 &&& (3 : Int32))), (vJ jk), .second, (vA b921), .unset, .unset, .unset, .unset] []))
      have R_931 := Arh.push A_931 p931 S931 P931 H931 G931 (v := (.long jk)) rfl W932 (inb_of S931 (by decide))
      have N931 := Fr.snoc X932 N929 gpk
      refine DnW.of (fun tt_ zz_ => XS.aload X932.here hx rfl (hb hby at_212) rfl rfl zz_) ?_
      refine DnW.of (fun tt_ zz_ => XS.iconst X932.here hx rfl (hb hby at_214) zz_) ?_
      refine DnW.of (fun tt_ zz_ => XS.lload X932.here hx rfl (hb hby at_215) rfl zz_) ?_
      show DnW p e below s (own_Q n0) 40 3328 (T932.setTop (mkF m 217 #[(vJ i0), .second, (vJ i1), .second, (vJ i2), .second, (vJ i3), .second, (vI i4), (vI i5), (vI lo0), (vI hi0), (vI lo1), (vI hi1), (vI v0), (vI v1), (vI (1 : Int32)), (vI v2), (vA b771), (vA b831), (vI (i5 &&& (3 : Int32))), (vJ jk), .second, (vA b921), .unset, .unset, .unset, .unset] [(.long jk), (.int (3 : Int32)), (.ref b921)]))
      obtain ⟨c933, A_933, p933, S933, P933, H933, G933⟩ := R_931
      obtain ⟨T934, h934, X934, e934, W934, st934⟩ := stJ X932 hx hZ e932 A_933 (j := (3 : Int32)) (inb_of S933 (by decide)) (g := (mkF m 217 #[(vJ i0), .second, (vJ i1), .second, (vJ i2), .second, (vJ i3), .second, (vI i4), (vI i5), (vI lo0), (vI hi0), (vI lo1), (vI hi1), (vI v0), (vI v1), (vI (1 : Int32)), (vI v2), (vA b771), (vA b831), (vI (i5 &&& (3 : Int32))), (vJ jk), .second, (vA b921), .unset, .unset, .unset, .unset] [(.long jk), (.int (3 : Int32)), (.ref b921)])) rfl rfl (hb hby at_217)
      refine DnW.of st934 ?_
      show DnW p e below s (own_Q n0) 40 3328 (T934.setTop (mkF m 218 #[(vJ i0), .second, (vJ i1), .second, (vJ i2), .second, (vJ i3), .second, (vI i4), (vI i5), (vI lo0), (vI hi0), (vI lo1), (vI hi1), (vI v0), (vI v1), (vI (1 : Int32)), (vI v2), (vA b771), (vA b831), (vI (i5 &&& (3 : Int32))), (vJ jk), .second, (vA b921), .unset, .unset, .unset, .unset] []))
      have R_933 := Arh.push A_933 p933 S933 P933 H933 G933 (v := (.long jk)) rfl W934 (inb_of S933 (by decide))
      have N933 := Fr.snoc X934 N931 gpk
      refine DnW.of (fun tt_ zz_ => XS.aload X934.here hx rfl (hb hby at_218) rfl rfl zz_) ?_
      refine DnW.of (fun tt_ zz_ => XS.iconst X934.here hx rfl (hb hby at_220) zz_) ?_
      refine DnW.of (fun tt_ zz_ => XS.lload X934.here hx rfl (hb hby at_221) rfl zz_) ?_
      show DnW p e below s (own_Q n0) 40 3328 (T934.setTop (mkF m 223 #[(vJ i0), .second, (vJ i1), .second, (vJ i2), .second, (vJ i3), .second, (vI i4), (vI i5), (vI lo0), (vI hi0), (vI lo1), (vI hi1), (vI v0), (vI v1), (vI (1 : Int32)), (vI v2), (vA b771), (vA b831), (vI (i5 &&& (3 : Int32))), (vJ jk), .second, (vA b921), .unset, .unset, .unset, .unset] [(.long jk), (.int (4 : Int32)), (.ref b921)]))
      obtain ⟨c935, A_935, p935, S935, P935, H935, G935⟩ := R_933
      obtain ⟨T936, h936, X936, e936, W936, st936⟩ := stJ X934 hx hZ e934 A_935 (j := (4 : Int32)) (inb_of S935 (by decide)) (g := (mkF m 223 #[(vJ i0), .second, (vJ i1), .second, (vJ i2), .second, (vJ i3), .second, (vI i4), (vI i5), (vI lo0), (vI hi0), (vI lo1), (vI hi1), (vI v0), (vI v1), (vI (1 : Int32)), (vI v2), (vA b771), (vA b831), (vI (i5 &&& (3 : Int32))), (vJ jk), .second, (vA b921), .unset, .unset, .unset, .unset] [(.long jk), (.int (4 : Int32)), (.ref b921)])) rfl rfl (hb hby at_223)
      refine DnW.of st936 ?_
      show DnW p e below s (own_Q n0) 40 3328 (T936.setTop (mkF m 224 #[(vJ i0), .second, (vJ i1), .second, (vJ i2), .second, (vJ i3), .second, (vI i4), (vI i5), (vI lo0), (vI hi0), (vI lo1), (vI hi1), (vI v0), (vI v1), (vI (1 : Int32)), (vI v2), (vA b771), (vA b831), (vI (i5 &&& (3 : Int32))), (vJ jk), .second, (vA b921), .unset, .unset, .unset, .unset] []))
      have R_935 := Arh.push A_935 p935 S935 P935 H935 G935 (v := (.long jk)) rfl W936 (inb_of S935 (by decide))
      have N935 := Fr.snoc X936 N933 gpk
      refine DnW.of (fun tt_ zz_ => XS.aload X936.here hx rfl (hb hby at_224) rfl rfl zz_) ?_
      refine DnW.of (fun tt_ zz_ => XS.iconst X936.here hx rfl (hb hby at_226) zz_) ?_
      refine DnW.of (fun tt_ zz_ => XS.lload X936.here hx rfl (hb hby at_227) rfl zz_) ?_
      show DnW p e below s (own_Q n0) 40 3328 (T936.setTop (mkF m 229 #[(vJ i0), .second, (vJ i1), .second, (vJ i2), .second, (vJ i3), .second, (vI i4), (vI i5), (vI lo0), (vI hi0), (vI lo1), (vI hi1), (vI v0), (vI v1), (vI (1 : Int32)), (vI v2), (vA b771), (vA b831), (vI (i5 &&& (3 : Int32))), (vJ jk), .second, (vA b921), .unset, .unset, .unset, .unset] [(.long jk), (.int (5 : Int32)), (.ref b921)]))
      obtain ⟨c937, A_937, p937, S937, P937, H937, G937⟩ := R_935
      obtain ⟨T938, h938, X938, e938, W938, st938⟩ := stJ X936 hx hZ e936 A_937 (j := (5 : Int32)) (inb_of S937 (by decide)) (g := (mkF m 229 #[(vJ i0), .second, (vJ i1), .second, (vJ i2), .second, (vJ i3), .second, (vI i4), (vI i5), (vI lo0), (vI hi0), (vI lo1), (vI hi1), (vI v0), (vI v1), (vI (1 : Int32)), (vI v2), (vA b771), (vA b831), (vI (i5 &&& (3 : Int32))), (vJ jk), .second, (vA b921), .unset, .unset, .unset, .unset] [(.long jk), (.int (5 : Int32)), (.ref b921)])) rfl rfl (hb hby at_229)
      refine DnW.of st938 ?_
      show DnW p e below s (own_Q n0) 40 3328 (T938.setTop (mkF m 230 #[(vJ i0), .second, (vJ i1), .second, (vJ i2), .second, (vJ i3), .second, (vI i4), (vI i5), (vI lo0), (vI hi0), (vI lo1), (vI hi1), (vI v0), (vI v1), (vI (1 : Int32)), (vI v2), (vA b771), (vA b831), (vI (i5 &&& (3 : Int32))), (vJ jk), .second, (vA b921), .unset, .unset, .unset, .unset] []))
      have R_937 := Arh.push A_937 p937 S937 P937 H937 G937 (v := (.long jk)) rfl W938 (inb_of S937 (by decide))
      have N937 := Fr.snoc X938 N935 gpk
      refine DnW.of (fun tt_ zz_ => XS.iconst X938.here hx rfl (hb hby at_230) zz_) ?_
      show DnW p e below s (own_Q n0) 40 3328 (T938.setTop (mkF m 231 #[(vJ i0), .second, (vJ i1), .second, (vJ i2), .second, (vJ i3), .second, (vI i4), (vI i5), (vI lo0), (vI hi0), (vI lo1), (vI hi1), (vI v0), (vI v1), (vI (1 : Int32)), (vI v2), (vA b771), (vA b831), (vI (i5 &&& (3 : Int32))), (vJ jk), .second, (vA b921), .unset, .unset, .unset, .unset] [(.int (3 : Int32))]))
      have F939 := (Nat.le_trans (Nat.le_trans (Nat.le_trans (Nat.le_trans (Nat.le_trans (Nat.le_trans (Nat.le_trans F853 E921.1) (Nat.le_of_eq W928.size.symm)) (Nat.le_of_eq W930.size.symm)) (Nat.le_of_eq W932.size.symm)) (Nat.le_of_eq W934.size.symm)) (Nat.le_of_eq W936.size.symm)) (Nat.le_of_eq W938.size.symm))
      obtain ⟨T940, h940, k940, X940, e940, E940, A940, st940⟩ := newP X938 hx hZ (hg 141 rfl) e938 (g := (mkF m 231 #[(vJ i0), .second, (vJ i1), .second, (vJ i2), .second, (vJ i3), .second, (vI i4), (vI i5), (vI lo0), (vI hi0), (vI lo1), (vI hi1), (vI v0), (vI v1), (vI (1 : Int32)), (vI v2), (vA b771), (vA b831), (vI (i5 &&& (3 : Int32))), (vJ jk), .second, (vA b921), .unset, .unset, .unset, .unset] [(.int (3 : Int32))])) rfl (hb hby at_231) rfl (by decide) (cap := 3) (by decide) (by decide) (by decide) (by decide)
      obtain ⟨b940, g940⟩ : ∃ z, z = h938.size := ⟨_, rfl⟩
      rw [← g940] at A940 st940
      refine DnW.of st940 ?_
      show DnW p e below s (own_Q n0) 40 3328 (T940.setTop (mkF m 233 #[(vJ i0), .second, (vJ i1), .second, (vJ i2), .second, (vJ i3), .second, (vI i4), (vI i5), (vI lo0), (vI hi0), (vI lo1), (vI hi1), (vI v0), (vI v1), (vI (1 : Int32)), (vI v2), (vA b771), (vA b831), (vI (i5 &&& (3 : Int32))), (vJ jk), .second, (vA b921), .unset, .unset, .unset, .unset] [(.ref b940)]))
      have F941 := (((((((F854.ext E921).wr W928).wr W930).wr W932).wr W934).wr W936).wr W938)
      have n942 : b831 ≠ b940 := Nat.ne_of_lt (g940 ▸ F941.lt)
      have F943 := (((((((RW.ext E921).other W928 n923).other W930 n923).other W932 n923).other W934 n923).other W936 n923).other W938 n923)
      have n944 : bw ≠ b940 := Nat.ne_of_lt (g940 ▸ F943.lt)
      have F945 := (((((((RS.ext E921).other W928 n924).other W930 n924).other W932 n924).other W934 n924).other W936 n924).other W938 n924)
      have n946 : bs ≠ b940 := Nat.ne_of_lt (g940 ▸ F945.lt)
      have F947 := (((((((RM.ext E921).other W928 n925).other W930 n925).other W932 n925).other W934 n925).other W936 n925).other W938 n925)
      have n948 : bm ≠ b940 := Nat.ne_of_lt (g940 ▸ F947.lt)
      have F949 := (((((((RL.ext E921).other W928 n926).other W930 n926).other W932 n926).other W934 n926).other W936 n926).other W938 n926)
      have n950 : bl ≠ b940 := Nat.ne_of_lt (g940 ▸ F949.lt)
      have n951 : b921 ≠ b940 := Nat.ne_of_lt (g940 ▸ R_937.lt)
      have gva : n0 ≤ b940 := g940 ▸ F939
      have RV : Arh Z h940 b940 k940 .int 3 [] [] (.int 0) := (Arv.new A940 (by decide)).arh
      refine DnW.of (fun tt_ zz_ => XS.astore X940.here hx rfl (hb hby at_233) rfl rfl (l' := #[(vJ i0), .second, (vJ i1), .second, (vJ i2), .second, (vJ i3), .second, (vI i4), (vI i5), (vI lo0), (vI hi0), (vI lo1), (vI hi1), (vI v0), (vI v1), (vI (1 : Int32)), (vI v2), (vA b771), (vA b831), (vI (i5 &&& (3 : Int32))), (vJ jk), .second, (vA b921), (vA b940), .unset, .unset, .unset]) rfl zz_) ?_
      refine DnW.of (fun tt_ zz_ => XS.aload X940.here hx rfl (hb hby at_235) rfl rfl zz_) ?_
      refine DnW.of (fun tt_ zz_ => XS.iconst X940.here hx rfl (hb hby at_237) zz_) ?_
      refine DnW.of (fun tt_ zz_ => XS.iload X940.here hx rfl (hb hby at_238) rfl zz_) ?_
      show DnW p e below s (own_Q n0) 40 3328 (T940.setTop (mkF m 240 #[(vJ i0), .second, (vJ i1), .second, (vJ i2), .second, (vJ i3), .second, (vI i4), (vI i5), (vI lo0), (vI hi0), (vI lo1), (vI hi1), (vI v0), (vI v1), (vI (1 : Int32)), (vI v2), (vA b771), (vA b831), (vI (i5 &&& (3 : Int32))), (vJ jk), .second, (vA b921), (vA b940), .unset, .unset, .unset] [(.int v0), (.int (0 : Int32)), (.ref b940)]))
      obtain ⟨c952, A_952, p952, S952, P952, H952, G952⟩ := RV
      obtain ⟨T953, h953, X953, e953, W953, st953⟩ := stI X940 hx hZ e940 A_952 (j := (0 : Int32)) (inb_of S952 (by decide)) (g := (mkF m 240 #[(vJ i0), .second, (vJ i1), .second, (vJ i2), .second, (vJ i3), .second, (vI i4), (vI i5), (vI lo0), (vI hi0), (vI lo1), (vI hi1), (vI v0), (vI v1), (vI (1 : Int32)), (vI v2), (vA b771), (vA b831), (vI (i5 &&& (3 : Int32))), (vJ jk), .second, (vA b921), (vA b940), .unset, .unset, .unset] [(.int v0), (.int (0 : Int32)), (.ref b940)])) rfl rfl (hb hby at_240)
      refine DnW.of st953 ?_
      show DnW p e below s (own_Q n0) 40 3328 (T953.setTop (mkF m 241 #[(vJ i0), .second, (vJ i1), .second, (vJ i2), .second, (vJ i3), .second, (vI i4), (vI i5), (vI lo0), (vI hi0), (vI lo1), (vI hi1), (vI v0), (vI v1), (vI (1 : Int32)), (vI v2), (vA b771), (vA b831), (vI (i5 &&& (3 : Int32))), (vJ jk), .second, (vA b921), (vA b940), .unset, .unset, .unset] []))
      have R_952 := Arh.push A_952 p952 S952 P952 H952 G952 (v := (.int v0)) rfl W953 (inb_of S952 (by decide))
      have N952 := Fr.snoc X953 N937 gva
      refine DnW.of (fun tt_ zz_ => XS.aload X953.here hx rfl (hb hby at_241) rfl rfl zz_) ?_
      refine DnW.of (fun tt_ zz_ => XS.iconst X953.here hx rfl (hb hby at_243) zz_) ?_
      refine DnW.of (fun tt_ zz_ => XS.iload X953.here hx rfl (hb hby at_244) rfl zz_) ?_
      show DnW p e below s (own_Q n0) 40 3328 (T953.setTop (mkF m 246 #[(vJ i0), .second, (vJ i1), .second, (vJ i2), .second, (vJ i3), .second, (vI i4), (vI i5), (vI lo0), (vI hi0), (vI lo1), (vI hi1), (vI v0), (vI v1), (vI (1 : Int32)), (vI v2), (vA b771), (vA b831), (vI (i5 &&& (3 : Int32))), (vJ jk), .second, (vA b921), (vA b940), .unset, .unset, .unset] [(.int v1), (.int (1 : Int32)), (.ref b940)]))
      obtain ⟨c954, A_954, p954, S954, P954, H954, G954⟩ := R_952
      obtain ⟨T955, h955, X955, e955, W955, st955⟩ := stI X953 hx hZ e953 A_954 (j := (1 : Int32)) (inb_of S954 (by decide)) (g := (mkF m 246 #[(vJ i0), .second, (vJ i1), .second, (vJ i2), .second, (vJ i3), .second, (vI i4), (vI i5), (vI lo0), (vI hi0), (vI lo1), (vI hi1), (vI v0), (vI v1), (vI (1 : Int32)), (vI v2), (vA b771), (vA b831), (vI (i5 &&& (3 : Int32))), (vJ jk), .second, (vA b921), (vA b940), .unset, .unset, .unset] [(.int v1), (.int (1 : Int32)), (.ref b940)])) rfl rfl (hb hby at_246)
      refine DnW.of st955 ?_
      show DnW p e below s (own_Q n0) 40 3328 (T955.setTop (mkF m 247 #[(vJ i0), .second, (vJ i1), .second, (vJ i2), .second, (vJ i3), .second, (vI i4), (vI i5), (vI lo0), (vI hi0), (vI lo1), (vI hi1), (vI v0), (vI v1), (vI (1 : Int32)), (vI v2), (vA b771), (vA b831), (vI (i5 &&& (3 : Int32))), (vJ jk), .second, (vA b921), (vA b940), .unset, .unset, .unset] []))
      have R_954 := Arh.push A_954 p954 S954 P954 H954 G954 (v := (.int v1)) rfl W955 (inb_of S954 (by decide))
      have N954 := Fr.snoc X955 N952 gva
      refine DnW.of (fun tt_ zz_ => XS.aload X955.here hx rfl (hb hby at_247) rfl rfl zz_) ?_
      refine DnW.of (fun tt_ zz_ => XS.iconst X955.here hx rfl (hb hby at_249) zz_) ?_
      refine DnW.of (fun tt_ zz_ => XS.iload X955.here hx rfl (hb hby at_250) rfl zz_) ?_
      show DnW p e below s (own_Q n0) 40 3328 (T955.setTop (mkF m 252 #[(vJ i0), .second, (vJ i1), .second, (vJ i2), .second, (vJ i3), .second, (vI i4), (vI i5), (vI lo0), (vI hi0), (vI lo1), (vI hi1), (vI v0), (vI v1), (vI (1 : Int32)), (vI v2), (vA b771), (vA b831), (vI (i5 &&& (3 : Int32))), (vJ jk), .second, (vA b921), (vA b940), .unset, .unset, .unset] [(.int v2), (.int (2 : Int32)), (.ref b940)]))
      obtain ⟨c956, A_956, p956, S956, P956, H956, G956⟩ := R_954
      obtain ⟨T957, h957, X957, e957, W957, st957⟩ := stI X955 hx hZ e955 A_956 (j := (2 : Int32)) (inb_of S956 (by decide)) (g := (mkF m 252 #[(vJ i0), .second, (vJ i1), .second, (vJ i2), .second, (vJ i3), .second, (vI i4), (vI i5), (vI lo0), (vI hi0), (vI lo1), (vI hi1), (vI v0), (vI v1), (vI (1 : Int32)), (vI v2), (vA b771), (vA b831), (vI (i5 &&& (3 : Int32))), (vJ jk), .second, (vA b921), (vA b940), .unset, .unset, .unset] [(.int v2), (.int (2 : Int32)), (.ref b940)])) rfl rfl (hb hby at_252)
      refine DnW.of st957 ?_
      show DnW p e below s (own_Q n0) 40 3328 (T957.setTop (mkF m 253 #[(vJ i0), .second, (vJ i1), .second, (vJ i2), .second, (vJ i3), .second, (vI i4), (vI i5), (vI lo0), (vI hi0), (vI lo1), (vI hi1), (vI v0), (vI v1), (vI (1 : Int32)), (vI v2), (vA b771), (vA b831), (vI (i5 &&& (3 : Int32))), (vJ jk), .second, (vA b921), (vA b940), .unset, .unset, .unset] []))
      have R_956 := Arh.push A_956 p956 S956 P956 H956 G956 (v := (.int v2)) rfl W957 (inb_of S956 (by decide))
      have N956 := Fr.snoc X957 N954 gva
      refine DnW.of (fun tt_ zz_ => XS.aload X957.here hx rfl (hb hby at_253) rfl rfl zz_) ?_
      refine DnW.of (fun tt_ zz_ => XS.aload X957.here hx rfl (hb hby at_255) rfl rfl zz_) ?_
      refine DnW.of (fun tt_ zz_ => XS.aload X957.here hx rfl (hb hby at_257) rfl rfl zz_) ?_
      refine DnW.of (fun tt_ zz_ => XS.iload X957.here hx rfl (hb hby at_259) rfl zz_) ?_
      show DnW p e below s (own_Q n0) 40 3328 (T957.setTop (mkF m 261 #[(vJ i0), .second, (vJ i1), .second, (vJ i2), .second, (vJ i3), .second, (vI i4), (vI i5), (vI lo0), (vI hi0), (vI lo1), (vI hi1), (vI v0), (vI v1), (vI (1 : Int32)), (vI v2), (vA b771), (vA b831), (vI (i5 &&& (3 : Int32))), (vJ jk), .second, (vA b921), (vA b940), .unset, .unset, .unset] [(.int (i5 &&& (3 : Int32))), (.ref b921), (.ref b940), (.ref b831)]))
      have F958 := (((((((((((F851.ext E921).wr W928 gpk).wr W930 gpk).wr W932 gpk).wr W934 gpk).wr W936 gpk).wr W938 gpk).ext E940).wr W953 gva).wr W955 gva).wr W957 gva)
      have F959 := (Nat.le_trans (Nat.le_trans (Nat.le_trans (Nat.le_trans F939 E940.1) (Nat.le_of_eq W953.size.symm)) (Nat.le_of_eq W955.size.symm)) (Nat.le_of_eq W957.size.symm))
      have F960 := (((((((((((G0.ext E921).other W928 (Or.inl n922)).other W930 (Or.inl n922)).other W932 (Or.inl n922)).other W934 (Or.inl n922)).other W936 (Or.inl n922)).other W938 (Or.inl n922)).ext E940).other W953 (Or.inl n942)).other W955 (Or.inl n942)).other W957 (Or.inl n942))
      have F961 := (((((((((((G1.ext E921).other W928 (Or.inl n922)).other W930 (Or.inl n922)).other W932 (Or.inl n922)).other W934 (Or.inl n922)).other W936 (Or.inl n922)).other W938 (Or.inl n922)).ext E940).other W953 (Or.inl n942)).other W955 (Or.inl n942)).other W957 (Or.inl n942))
      have F962 := (((((((((((G2.ext E921).other W928 (Or.inl n922)).other W930 (Or.inl n922)).other W932 (Or.inl n922)).other W934 (Or.inl n922)).other W936 (Or.inl n922)).other W938 (Or.inl n922)).ext E940).other W953 (Or.inl n942)).other W955 (Or.inl n942)).other W957 (Or.inl n942))
      have F963 := (((((((((((G3.ext E921).other W928 (Or.inl n922)).other W930 (Or.inl n922)).other W932 (Or.inl n922)).other W934 (Or.inl n922)).other W936 (Or.inl n922)).other W938 (Or.inl n922)).ext E940).other W953 (Or.inl n942)).other W955 (Or.inl n942)).other W957 (Or.inl n942))
      have F964 := (((((((((((G4.ext E921).other W928 (Or.inl n922)).other W930 (Or.inl n922)).other W932 (Or.inl n922)).other W934 (Or.inl n922)).other W936 (Or.inl n922)).other W938 (Or.inl n922)).ext E940).other W953 (Or.inl n942)).other W955 (Or.inl n942)).other W957 (Or.inl n942))
      have F965 := ((((F943.ext E940).other W953 n944).other W955 n944).other W957 n944)
      have F966 := ((((F945.ext E940).other W953 n946).other W955 n946).other W957 n946)
      have F967 := ((((F947.ext E940).other W953 n948).other W955 n948).other W957 n948)
      have F968 := ((((F949.ext E940).other W953 n950).other W955 n950).other W957 n950)
      have F969 := ((((F941.ext E940).wr W953).wr W955).wr W957)
      have F970 := ((((R_937.ext E940).other W953 n951).other W955 n951).other W957 n951)
      have hpk := rmPk2 l Z a0 hw h957 n0 F959 b831 bw bs bm bl kw ks km kl b0 b1 b2 lo0 lo1 (0 : Int32) (0 : Int32) F960 F961 F962 F963 F964 F965 F966 F967 F968 F969 b940 b921 _ _ v0 v1 v2 (i5 &&& (3 : Int32)) _ cf.1 cf.2 R_956 F970 n922 n923 n924 n926 (Ne.symm n951) gpk
      obtain ⟨v971, T971, L971, Q971, X971, st971⟩ := cVi X957 hx hZ (C := "com/example/verify_markov_chains/verifymarkovchains/explicit/StateLayout") (y := (⟨"com/example/verify_markov_chains/verifymarkovchains/explicit/StateLayout", "pack", "([I[JI)V"⟩ : MethodName)) (z := (⟨"com/example/verify_markov_chains/verifymarkovchains/explicit/StateLayout", "pack", "([I[JI)V"⟩ : MethodName)) hown (hg 207 rfl) (hg 208 rfl) (notFace_of_selects (args := #[]) (mvT hZ (hg 210 rfl))) (hg 210 rfl) (hg 209 rfl) (hg 127 rfl) (hg 211 rfl) (by decide) (a := b831) (argsL := [(.ref b940), (.ref b921), (.int (i5 &&& (3 : Int32)))]) (rest := []) (hpk) e957 F969 0 (by decide) (by decide) (by decide) (by decide) (g := (mkF m 261 #[(vJ i0), .second, (vJ i1), .second, (vJ i2), .second, (vJ i3), .second, (vI i4), (vI i5), (vI lo0), (vI hi0), (vI lo1), (vI hi1), (vI v0), (vI v1), (vI (1 : Int32)), (vI v2), (vA b771), (vA b831), (vI (i5 &&& (3 : Int32))), (vJ jk), .second, (vA b921), (vA b940), .unset, .unset, .unset] [(.int (i5 &&& (3 : Int32))), (.ref b921), (.ref b940), (.ref b831)])) rfl (by rw [hml]; rfl) (lenOf pd21 rfl) rfl (by show 2 * 0 + _ ≤ _; exact Nat.le_of_eq rfl) (hb hby at_261)
      obtain ⟨rfl, Mp, Kp, hs, RP', y1, y2⟩ := Q971
      refine DnW.of st971 ?_
      show DnW p e below s (own_Q n0) 40 3328 (T971.setTop (mkF m 264 #[(vJ i0), .second, (vJ i1), .second, (vJ i2), .second, (vJ i3), .second, (vI i4), (vI i5), (vI lo0), (vI hi0), (vI lo1), (vI hi1), (vI v0), (vI v1), (vI (1 : Int32)), (vI v2), (vA b771), (vA b831), (vI (i5 &&& (3 : Int32))), (vJ jk), .second, (vA b921), (vA b940), .unset, .unset, .unset] []))
      refine DnW.of (fun tt_ zz_ => XS.aload X971.here hx rfl (hb hby at_264) rfl rfl zz_) ?_
      refine DnW.of (fun tt_ zz_ => XS.aload X971.here hx rfl (hb hby at_266) rfl rfl zz_) ?_
      refine DnW.of (fun tt_ zz_ => XS.iload X971.here hx rfl (hb hby at_268) rfl zz_) ?_
      refine DnW.of (fun tt_ zz_ => XS.iconst X971.here hx rfl (hb hby at_270) zz_) ?_
      show DnW p e below s (own_Q n0) 40 3328 (T971.setTop (mkF m 271 #[(vJ i0), .second, (vJ i1), .second, (vJ i2), .second, (vJ i3), .second, (vI i4), (vI i5), (vI lo0), (vI hi0), (vI lo1), (vI hi1), (vI v0), (vI v1), (vI (1 : Int32)), (vI v2), (vA b771), (vA b831), (vI (i5 &&& (3 : Int32))), (vJ jk), .second, (vA b921), (vA b940), .unset, .unset, .unset] [(.int (0 : Int32)), (.int (i5 &&& (3 : Int32))), (.ref b921), (.ref b831)]))
      have F972 := (F960.keep Kp (ninS n922 nin0))
      have F973 := (F961.keep Kp (ninS n922 nin0))
      have F974 := (F962.keep Kp (ninS n922 nin0))
      have F975 := (F963.keep Kp (ninS n922 nin0))
      have F976 := (F964.keep Kp (ninS n922 nin0))
      have F977 := (F965.keep Kp (ninS n923 nin0))
      have F978 := (F966.keep Kp (ninS n924 nin0))
      have F979 := (F967.keep Kp (ninS n925 nin0))
      have F980 := (F968.keep Kp (ninS n926 nin0))
      have F981 := (F969.keep Kp)
      have F982 := (Nat.le_trans F959 Kp.1)
      have F983 := (Nat.le_trans (Nat.le_trans (Nat.le_trans (Nat.le_trans (Nat.le_trans (Nat.le_trans (Nat.le_trans (Nat.le_trans (Nat.le_trans (Nat.le_trans (Nat.le_trans (Nat.le_trans F852 E921.1) (Nat.le_of_eq W928.size.symm)) (Nat.le_of_eq W930.size.symm)) (Nat.le_of_eq W932.size.symm)) (Nat.le_of_eq W934.size.symm)) (Nat.le_of_eq W936.size.symm)) (Nat.le_of_eq W938.size.symm)) E940.1) (Nat.le_of_eq W953.size.symm)) (Nat.le_of_eq W955.size.symm)) (Nat.le_of_eq W957.size.symm)) Kp.1)
      have ff := own_f cf.1 cf.2
      have fin := own_spill R0 R1 R2 P0 P1 P2
      obtain ⟨v984, T984, L984, Q984, X984, st984⟩ := cVi X971 hx hZ (C := "com/example/verify_markov_chains/verifymarkovchains/explicit/StateLayout") (y := (⟨"com/example/verify_markov_chains/verifymarkovchains/explicit/StateLayout", "value", "([JII)I"⟩ : MethodName)) (z := (⟨"com/example/verify_markov_chains/verifymarkovchains/explicit/StateLayout", "value", "([JII)I"⟩ : MethodName)) hown (hg 219 rfl) (hg 220 rfl) (notFace_of_selects (args := #[]) (mvT hZ (hg 222 rfl))) (hg 222 rfl) (hg 221 rfl) (hg 127 rfl) (hg 223 rfl) (by decide) (a := b831) (argsL := [(.ref b921), (.int (i5 &&& (3 : Int32))), (.int (0 : Int32))]) (rest := []) (rmVal l Z a0 hw T971.heap n0 F982 b831 bw bs bm bl kw ks km kl b0 b1 b2 lo0 lo1 (0 : Int32) (1 : Int32) (2 : Int32) (0 : Int32) F972 F973 F974 F975 F976 F977 F978 F979 F980 b921 _ hs (i5 &&& (3 : Int32)) (0 : Int32) (0 : Int32) (0 : Int32) lo0 (own_mask b0) (own_w2 (own_x v0 lo0) (own_x v1 lo1) b0) (by decide) rfl rfl rfl rfl ff.2.2.2.1 RP' y1) rfl F981 0 (by decide) (by decide) (by decide) (by decide) (g := (mkF m 271 #[(vJ i0), .second, (vJ i1), .second, (vJ i2), .second, (vJ i3), .second, (vI i4), (vI i5), (vI lo0), (vI hi0), (vI lo1), (vI hi1), (vI v0), (vI v1), (vI (1 : Int32)), (vI v2), (vA b771), (vA b831), (vI (i5 &&& (3 : Int32))), (vJ jk), .second, (vA b921), (vA b940), .unset, .unset, .unset] [(.int (0 : Int32)), (.int (i5 &&& (3 : Int32))), (.ref b921), (.ref b831)])) rfl (by rw [hml]; rfl) (lenOf pd22 rfl) rfl (by show 2 * 0 + _ ≤ _; exact Nat.le_of_eq rfl) (hb hby at_271)
      rw [fin.1] at Q984
      obtain ⟨rfl, Mv0, e984⟩ := Q984
      refine DnW.of st984 ?_
      show DnW p e below s (own_Q n0) 40 3328 (T984.setTop (mkF m 274 #[(vJ i0), .second, (vJ i1), .second, (vJ i2), .second, (vJ i3), .second, (vI i4), (vI i5), (vI lo0), (vI hi0), (vI lo1), (vI hi1), (vI v0), (vI v1), (vI (1 : Int32)), (vI v2), (vA b771), (vA b831), (vI (i5 &&& (3 : Int32))), (vJ jk), .second, (vA b921), (vA b940), .unset, .unset, .unset] [(.int v0)]))
      refine DnW.of (fun tt_ zz_ => XS.istore X984.here hx rfl (hb hby at_274) rfl (l' := #[(vJ i0), .second, (vJ i1), .second, (vJ i2), .second, (vJ i3), .second, (vI i4), (vI i5), (vI lo0), (vI hi0), (vI lo1), (vI hi1), (vI v0), (vI v1), (vI (1 : Int32)), (vI v2), (vA b771), (vA b831), (vI (i5 &&& (3 : Int32))), (vJ jk), .second, (vA b921), (vA b940), (vI v0), .unset, .unset]) rfl zz_) ?_
      refine DnW.of (fun tt_ zz_ => XS.aload X984.here hx rfl (hb hby at_276) rfl rfl zz_) ?_
      refine DnW.of (fun tt_ zz_ => XS.aload X984.here hx rfl (hb hby at_278) rfl rfl zz_) ?_
      refine DnW.of (fun tt_ zz_ => XS.iload X984.here hx rfl (hb hby at_280) rfl zz_) ?_
      show DnW p e below s (own_Q n0) 40 3328 (T984.setTop (mkF m 282 #[(vJ i0), .second, (vJ i1), .second, (vJ i2), .second, (vJ i3), .second, (vI i4), (vI i5), (vI lo0), (vI hi0), (vI lo1), (vI hi1), (vI v0), (vI v1), (vI (1 : Int32)), (vI v2), (vA b771), (vA b831), (vI (i5 &&& (3 : Int32))), (vJ jk), .second, (vA b921), (vA b940), (vI v0), .unset, .unset] [(.int (i5 &&& (3 : Int32))), (.ref b921), (.ref b831)]))
      refine DnW.of (fun tt_ zz_ => XS.iconst X984.here hx rfl (hb hby at_282) zz_) ?_
      show DnW p e below s (own_Q n0) 40 3328 (T984.setTop (mkF m 283 #[(vJ i0), .second, (vJ i1), .second, (vJ i2), .second, (vJ i3), .second, (vI i4), (vI i5), (vI lo0), (vI hi0), (vI lo1), (vI hi1), (vI v0), (vI v1), (vI (1 : Int32)), (vI v2), (vA b771), (vA b831), (vI (i5 &&& (3 : Int32))), (vJ jk), .second, (vA b921), (vA b940), (vI v0), .unset, .unset] [(.int (1 : Int32)), (.int (i5 &&& (3 : Int32))), (.ref b921), (.ref b831)]))
      obtain ⟨v985, T985, L985, Q985, X985, st985⟩ := cVi X984 hx hZ (C := "com/example/verify_markov_chains/verifymarkovchains/explicit/StateLayout") (y := (⟨"com/example/verify_markov_chains/verifymarkovchains/explicit/StateLayout", "value", "([JII)I"⟩ : MethodName)) (z := (⟨"com/example/verify_markov_chains/verifymarkovchains/explicit/StateLayout", "value", "([JII)I"⟩ : MethodName)) hown (hg 219 rfl) (hg 220 rfl) (notFace_of_selects (args := #[]) (mvT hZ (hg 222 rfl))) (hg 222 rfl) (hg 221 rfl) (hg 127 rfl) (hg 223 rfl) (by decide) (a := b831) (argsL := [(.ref b921), (.int (i5 &&& (3 : Int32))), (.int (1 : Int32))]) (rest := []) (rmVal l Z a0 hw T971.heap n0 F982 b831 bw bs bm bl kw ks km kl b0 b1 b2 lo0 lo1 (0 : Int32) (1 : Int32) (2 : Int32) (0 : Int32) F972 F973 F974 F975 F976 F977 F978 F979 F980 b921 _ hs (i5 &&& (3 : Int32)) (1 : Int32) (0 : Int32) b0 lo1 (own_mask b1) (own_w2 (own_x v0 lo0) (own_x v1 lo1) b0) (by decide) rfl rfl rfl rfl ff.2.2.2.1 RP' y1) e984 F981 0 (by decide) (by decide) (by decide) (by decide) (g := (mkF m 283 #[(vJ i0), .second, (vJ i1), .second, (vJ i2), .second, (vJ i3), .second, (vI i4), (vI i5), (vI lo0), (vI hi0), (vI lo1), (vI hi1), (vI v0), (vI v1), (vI (1 : Int32)), (vI v2), (vA b771), (vA b831), (vI (i5 &&& (3 : Int32))), (vJ jk), .second, (vA b921), (vA b940), (vI v0), .unset, .unset] [(.int (1 : Int32)), (.int (i5 &&& (3 : Int32))), (.ref b921), (.ref b831)])) rfl (by rw [hml]; rfl) (lenOf pd22 rfl) rfl (by show 2 * 0 + _ ≤ _; exact Nat.le_of_eq rfl) (hb hby at_283)
      rw [fin.2.1] at Q985
      obtain ⟨rfl, Mv1, e985⟩ := Q985
      refine DnW.of st985 ?_
      show DnW p e below s (own_Q n0) 40 3328 (T985.setTop (mkF m 286 #[(vJ i0), .second, (vJ i1), .second, (vJ i2), .second, (vJ i3), .second, (vI i4), (vI i5), (vI lo0), (vI hi0), (vI lo1), (vI hi1), (vI v0), (vI v1), (vI (1 : Int32)), (vI v2), (vA b771), (vA b831), (vI (i5 &&& (3 : Int32))), (vJ jk), .second, (vA b921), (vA b940), (vI v0), .unset, .unset] [(.int v1)]))
      refine DnW.of (fun tt_ zz_ => XS.istore X985.here hx rfl (hb hby at_286) rfl (l' := #[(vJ i0), .second, (vJ i1), .second, (vJ i2), .second, (vJ i3), .second, (vI i4), (vI i5), (vI lo0), (vI hi0), (vI lo1), (vI hi1), (vI v0), (vI v1), (vI (1 : Int32)), (vI v2), (vA b771), (vA b831), (vI (i5 &&& (3 : Int32))), (vJ jk), .second, (vA b921), (vA b940), (vI v0), (vI v1), .unset]) rfl zz_) ?_
      refine DnW.of (fun tt_ zz_ => XS.aload X985.here hx rfl (hb hby at_288) rfl rfl zz_) ?_
      refine DnW.of (fun tt_ zz_ => XS.aload X985.here hx rfl (hb hby at_290) rfl rfl zz_) ?_
      refine DnW.of (fun tt_ zz_ => XS.iload X985.here hx rfl (hb hby at_292) rfl zz_) ?_
      show DnW p e below s (own_Q n0) 40 3328 (T985.setTop (mkF m 294 #[(vJ i0), .second, (vJ i1), .second, (vJ i2), .second, (vJ i3), .second, (vI i4), (vI i5), (vI lo0), (vI hi0), (vI lo1), (vI hi1), (vI v0), (vI v1), (vI (1 : Int32)), (vI v2), (vA b771), (vA b831), (vI (i5 &&& (3 : Int32))), (vJ jk), .second, (vA b921), (vA b940), (vI v0), (vI v1), .unset] [(.int (i5 &&& (3 : Int32))), (.ref b921), (.ref b831)]))
      refine DnW.of (fun tt_ zz_ => XS.iconst X985.here hx rfl (hb hby at_294) zz_) ?_
      show DnW p e below s (own_Q n0) 40 3328 (T985.setTop (mkF m 295 #[(vJ i0), .second, (vJ i1), .second, (vJ i2), .second, (vJ i3), .second, (vI i4), (vI i5), (vI lo0), (vI hi0), (vI lo1), (vI hi1), (vI v0), (vI v1), (vI (1 : Int32)), (vI v2), (vA b771), (vA b831), (vI (i5 &&& (3 : Int32))), (vJ jk), .second, (vA b921), (vA b940), (vI v0), (vI v1), .unset] [(.int (2 : Int32)), (.int (i5 &&& (3 : Int32))), (.ref b921), (.ref b831)]))
      obtain ⟨v986, T986, L986, Q986, X986, st986⟩ := cVi X985 hx hZ (C := "com/example/verify_markov_chains/verifymarkovchains/explicit/StateLayout") (y := (⟨"com/example/verify_markov_chains/verifymarkovchains/explicit/StateLayout", "value", "([JII)I"⟩ : MethodName)) (z := (⟨"com/example/verify_markov_chains/verifymarkovchains/explicit/StateLayout", "value", "([JII)I"⟩ : MethodName)) hown (hg 219 rfl) (hg 220 rfl) (notFace_of_selects (args := #[]) (mvT hZ (hg 222 rfl))) (hg 222 rfl) (hg 221 rfl) (hg 127 rfl) (hg 223 rfl) (by decide) (a := b831) (argsL := [(.ref b921), (.int (i5 &&& (3 : Int32))), (.int (2 : Int32))]) (rest := []) (rmVal l Z a0 hw T971.heap n0 F982 b831 bw bs bm bl kw ks km kl b0 b1 b2 lo0 lo1 (0 : Int32) (1 : Int32) (2 : Int32) (0 : Int32) F972 F973 F974 F975 F976 F977 F978 F979 F980 b921 _ hs (i5 &&& (3 : Int32)) (2 : Int32) (1 : Int32) (0 : Int32) (0 : Int32) (own_mask b2) ((0 : Int64) ||| (own_sh (own_x v2 (0 : Int32)) (0 : Int32))) (by decide) rfl rfl rfl rfl ff.2.2.2.2 RP' y2) e985 F981 0 (by decide) (by decide) (by decide) (by decide) (g := (mkF m 295 #[(vJ i0), .second, (vJ i1), .second, (vJ i2), .second, (vJ i3), .second, (vI i4), (vI i5), (vI lo0), (vI hi0), (vI lo1), (vI hi1), (vI v0), (vI v1), (vI (1 : Int32)), (vI v2), (vA b771), (vA b831), (vI (i5 &&& (3 : Int32))), (vJ jk), .second, (vA b921), (vA b940), (vI v0), (vI v1), .unset] [(.int (2 : Int32)), (.int (i5 &&& (3 : Int32))), (.ref b921), (.ref b831)])) rfl (by rw [hml]; rfl) (lenOf pd22 rfl) rfl (by show 2 * 0 + _ ≤ _; exact Nat.le_of_eq rfl) (hb hby at_295)
      rw [fin.2.2] at Q986
      obtain ⟨rfl, Mv2, e986⟩ := Q986
      refine DnW.of st986 ?_
      show DnW p e below s (own_Q n0) 40 3328 (T986.setTop (mkF m 298 #[(vJ i0), .second, (vJ i1), .second, (vJ i2), .second, (vJ i3), .second, (vI i4), (vI i5), (vI lo0), (vI hi0), (vI lo1), (vI hi1), (vI v0), (vI v1), (vI (1 : Int32)), (vI v2), (vA b771), (vA b831), (vI (i5 &&& (3 : Int32))), (vJ jk), .second, (vA b921), (vA b940), (vI v0), (vI v1), .unset] [(.int v2)]))
      refine DnW.of (fun tt_ zz_ => XS.istore X986.here hx rfl (hb hby at_298) rfl (l' := #[(vJ i0), .second, (vJ i1), .second, (vJ i2), .second, (vJ i3), .second, (vI i4), (vI i5), (vI lo0), (vI hi0), (vI lo1), (vI hi1), (vI v0), (vI v1), (vI (1 : Int32)), (vI v2), (vA b771), (vA b831), (vI (i5 &&& (3 : Int32))), (vJ jk), .second, (vA b921), (vA b940), (vI v0), (vI v1), (vI v2)]) rfl zz_) ?_
      refine DnW.of (fun tt_ zz_ => XS.iload X986.here hx rfl (hb hby at_300) rfl zz_) ?_
      refine DnW.of (fun tt_ zz_ => XS.iload X986.here hx rfl (hb hby at_302) rfl zz_) ?_
      show DnW p e below s (own_Q n0) 40 3328 (T986.setTop (mkF m 304 #[(vJ i0), .second, (vJ i1), .second, (vJ i2), .second, (vJ i3), .second, (vI i4), (vI i5), (vI lo0), (vI hi0), (vI lo1), (vI hi1), (vI v0), (vI v1), (vI (1 : Int32)), (vI v2), (vA b771), (vA b831), (vI (i5 &&& (3 : Int32))), (vJ jk), .second, (vA b921), (vA b940), (vI v0), (vI v1), (vI v2)] [(.int v0), (.int v0)]))
      refine DnW.of (fun tt_ zz_ => XS.icmpNo X986.here hx rfl (hb hby at_304) rfl (teq rfl).2 zz_) ?_
      show DnW p e below s (own_Q n0) 40 3328 (T986.setTop (mkF m 307 #[(vJ i0), .second, (vJ i1), .second, (vJ i2), .second, (vJ i3), .second, (vI i4), (vI i5), (vI lo0), (vI hi0), (vI lo1), (vI hi1), (vI v0), (vI v1), (vI (1 : Int32)), (vI v2), (vA b771), (vA b831), (vI (i5 &&& (3 : Int32))), (vJ jk), .second, (vA b921), (vA b940), (vI v0), (vI v1), (vI v2)] []))
      refine DnW.of (fun tt_ zz_ => XS.iload X986.here hx rfl (hb hby at_307) rfl zz_) ?_
      refine DnW.of (fun tt_ zz_ => XS.iload X986.here hx rfl (hb hby at_309) rfl zz_) ?_
      show DnW p e below s (own_Q n0) 40 3328 (T986.setTop (mkF m 311 #[(vJ i0), .second, (vJ i1), .second, (vJ i2), .second, (vJ i3), .second, (vI i4), (vI i5), (vI lo0), (vI hi0), (vI lo1), (vI hi1), (vI v0), (vI v1), (vI (1 : Int32)), (vI v2), (vA b771), (vA b831), (vI (i5 &&& (3 : Int32))), (vJ jk), .second, (vA b921), (vA b940), (vI v0), (vI v1), (vI v2)] [(.int v1), (.int v1)]))
      refine DnW.of (fun tt_ zz_ => XS.icmpNo X986.here hx rfl (hb hby at_311) rfl (teq rfl).2 zz_) ?_
      show DnW p e below s (own_Q n0) 40 3328 (T986.setTop (mkF m 314 #[(vJ i0), .second, (vJ i1), .second, (vJ i2), .second, (vJ i3), .second, (vI i4), (vI i5), (vI lo0), (vI hi0), (vI lo1), (vI hi1), (vI v0), (vI v1), (vI (1 : Int32)), (vI v2), (vA b771), (vA b831), (vI (i5 &&& (3 : Int32))), (vJ jk), .second, (vA b921), (vA b940), (vI v0), (vI v1), (vI v2)] []))
      refine DnW.of (fun tt_ zz_ => XS.iload X986.here hx rfl (hb hby at_314) rfl zz_) ?_
      refine DnW.of (fun tt_ zz_ => XS.iload X986.here hx rfl (hb hby at_316) rfl zz_) ?_
      show DnW p e below s (own_Q n0) 40 3328 (T986.setTop (mkF m 318 #[(vJ i0), .second, (vJ i1), .second, (vJ i2), .second, (vJ i3), .second, (vI i4), (vI i5), (vI lo0), (vI hi0), (vI lo1), (vI hi1), (vI v0), (vI v1), (vI (1 : Int32)), (vI v2), (vA b771), (vA b831), (vI (i5 &&& (3 : Int32))), (vJ jk), .second, (vA b921), (vA b940), (vI v0), (vI v1), (vI v2)] [(.int v2), (.int v2)]))
      refine DnW.of (fun tt_ zz_ => XS.icmpNo X986.here hx rfl (hb hby at_318) rfl (teq rfl).2 zz_) ?_
      show DnW p e below s (own_Q n0) 40 3328 (T986.setTop (mkF m 321 #[(vJ i0), .second, (vJ i1), .second, (vJ i2), .second, (vJ i3), .second, (vI i4), (vI i5), (vI lo0), (vI hi0), (vI lo1), (vI hi1), (vI v0), (vI v1), (vI (1 : Int32)), (vI v2), (vA b771), (vA b831), (vI (i5 &&& (3 : Int32))), (vJ jk), .second, (vA b921), (vA b940), (vI v0), (vI v1), (vI v2)] []))
      refine DnW.of (fun tt_ zz_ => XS.iconst X986.here hx rfl (hb hby at_321) zz_) ?_
      refine DnW.of (fun tt_ zz_ => XS.goto X986.here hx rfl (pc0 := 322) (pc' := 326) rfl (hb hby at_322) (by decide) (by decide) zz_) ?_
      show DnW p e below s (own_Q n0) 40 3328 (T986.setTop (mkF m 326 #[(vJ i0), .second, (vJ i1), .second, (vJ i2), .second, (vJ i3), .second, (vI i4), (vI i5), (vI lo0), (vI hi0), (vI lo1), (vI hi1), (vI v0), (vI v1), (vI (1 : Int32)), (vI v2), (vA b771), (vA b831), (vI (i5 &&& (3 : Int32))), (vJ jk), .second, (vA b921), (vA b940), (vI v0), (vI v1), (vI v2)] [(.int (1 : Int32))]))
      exact DnW.retN hS (by rw [e986]; exact F983) X986 hx hlk (t := .boolean) hret (by simp) (hb hby at_326) (by decide) (by decide) (⟨rfl, (Fr.app (Fr.app (Fr.app (Fr.app N956 Mp) Mv0) Mv1) Mv2)⟩)
set_option maxRecDepth 65536 in
set_option maxHeartbeats 40000000 in
theorem comes_1 {Post : Tables → Env → Array Value → State → Outcome → State → Prop} (hpost : ∀ tb e args s v u, (limb_1_1.after args s (.returned v) u = true ∧ limb_1_2.after args s (.returned v) u = true ∧ True) → ReturnedEndW s (.returned v) u (Jvm.fieldLocs frame_1_writes args s ++ Jvm.arrayLocs frame_1_arrays args s ++ Jvm.staticLocs frame_1_statics s) 40 3328 → Post tb e args s (.returned v) u) :
    ArmFor flags0 classFile x code maxLocals ret World_1 tables_1 room_1 Calls_1 rest_1 Pre_1 Post := by
  intro l hfl _ _ p e ha hc hk s m args below hf hA hF happ hP
  obtain ⟨hcalls, hrest, hpre⟩ := hP
  obtain ⟨-, -, -, hnamed, -, -, -, hat⟩ := (Spec.applies_iff hf).mp happ
  obtain ⟨hg, hn⟩ := and_e (Cond.before_iff.mp (show (Jvm.Cond.and given_1 narrow_1).before args s = true from hpre))
  obtain ⟨hcount, hr⟩ := and_e hg
  obtain ⟨w0, w1, w2, w3, w4, w5, rfl⟩ : ∃ w0 w1 w2 w3 w4 w5 : Value, args = #[w0, w1, w2, w3, w4, w5] := by
    have hs : args.size = 6 := by simpa [Cond.value, given_1] using hcount
    obtain ⟨L⟩ := args
    match L, hs with
    | [w0, w1, w2, w3, w4, w5], _ => exact ⟨w0, w1, w2, w3, w4, w5, rfl⟩
  have hw := fun d (hd : d ∈ tables_1) => atoms_spec (ws := Jvm.Cond.code x code maxLocals ret :: tables_1) hat d (List.mem_cons_of_mem _ hd)
  have hfit : Fit s := fun {y c} hc i hi => by
    obtain ⟨ha, rfl⟩ := Array.getElem?_eq_some_iff.mp hc
    have q := List.all_eq_true.mp ((Array.all_eq_true_iff_forall_mem.mp hF) _ (Array.getElem_mem ha)) i (List.mem_range.mpr hi)
    simpa [Array.getElem?_eq_getElem hi] using q
  obtain ⟨ha0, hr⟩ := and_e hr
  obtain ⟨i0, ei0⟩ := isL_v ha0
  obtain rfl : w0 = (.long i0) := Option.some.inj ei0
  obtain ⟨ha1, hr⟩ := and_e hr
  obtain ⟨i1, ei1⟩ := isL_v ha1
  obtain rfl : w1 = (.long i1) := Option.some.inj ei1
  obtain ⟨ha2, hr⟩ := and_e hr
  obtain ⟨i2, ei2⟩ := isL_v ha2
  obtain rfl : w2 = (.long i2) := Option.some.inj ei2
  obtain ⟨ha3, hr⟩ := and_e hr
  obtain ⟨i3, ei3⟩ := isL_v ha3
  obtain rfl : w3 = (.long i3) := Option.some.inj ei3
  obtain ⟨ha4, hr⟩ := and_e hr
  obtain ⟨i4, ei4⟩ := is_v ha4
  obtain rfl : w4 = (.int i4) := Option.some.inj ei4
  have ha5 := hr
  obtain ⟨i5, ei5⟩ := is_v ha5
  obtain rfl : w5 = (.int i5) := Option.some.inj ei5
  obtain ⟨hsets, hown0⟩ := atoms_of _ (rest_1_c_eq ▸ (show rest_1_c.before _ s = true from hrest))
  obtain ⟨aD, eD⟩ := arr_v (Cond.before_iff.mp (hsets _ (List.mem_of_getElem? (i := 6) rfl)))
  have SD := Sta.start eD (Or.inr ⟨(hw _ (List.mem_of_getElem? (i := 19) rfl)), hsets _ (List.mem_of_getElem? (i := 2) rfl)⟩)
  obtain ⟨lD, RD⟩ := Arr.start eD (Cond.before_iff.mp (hsets _ (List.mem_of_getElem? (i := 6) rfl)))
  have zD : lD.slots.size = 0 := (own_len eD RD (Cond.before_iff.mp (hsets _ (List.mem_of_getElem? (i := 8) rfl)))).1
  obtain ⟨c0, hn⟩ := and_e hn
  obtain ⟨a_INT, e_INT⟩ := exa_v c0
  have S_INT := Sta.start e_INT (Or.inr ⟨(hw _ (List.mem_of_getElem? (i := 58) rfl)), (hw _ (List.mem_of_getElem? (i := 59) rfl))⟩)
  have E_INT := Exa.start e_INT c0
  obtain ⟨c1, hn⟩ := and_e hn
  obtain ⟨a_ZERO, e_ZERO⟩ := exa_v c1
  have S_ZERO := Sta.start e_ZERO (Or.inr ⟨(hw _ (List.mem_of_getElem? (i := 113) rfl)), (hw _ (List.mem_of_getElem? (i := 114) rfl))⟩)
  have E_ZERO := Exa.start e_ZERO c1
  obtain ⟨c2, hn⟩ := and_e hn
  obtain ⟨a_DOUBLE, e_DOUBLE⟩ := exa_v c2
  have S_DOUBLE := Sta.start e_DOUBLE (Or.inr ⟨(hw _ (List.mem_of_getElem? (i := 58) rfl)), (hw _ (List.mem_of_getElem? (i := 119) rfl))⟩)
  have E_DOUBLE := Exa.start e_DOUBLE c2
  obtain ⟨c3, hn⟩ := and_e hn
  have F_INT_ordinal := own_fld e_INT c3
  obtain ⟨c4, hn⟩ := and_e hn
  have F_DOUBLE_ordinal := own_fld e_DOUBLE c4
  obtain ⟨c5, hn⟩ := and_e hn
  obtain ⟨a_BOOL, e_BOOL⟩ := exa_v c5
  have S_BOOL := Sta.start e_BOOL (Or.inr ⟨(hw _ (List.mem_of_getElem? (i := 58) rfl)), (hw _ (List.mem_of_getElem? (i := 228) rfl))⟩)
  have E_BOOL := Exa.start e_BOOL c5
  have c6 := hn
  have F_BOOL_ordinal := own_fld e_BOOL c6
  obtain ⟨n, o, h1, h2, h3, _, L, rfl, ⟨rfl, N⟩, hq⟩ := rm0 l s _ hw tables_1 s.heap s.heap.size (Nat.le_refl _) i0 i1 i2 i3 i4 i5 aD lD SD RD zD a_INT a_ZERO a_DOUBLE a_BOOL S_INT E_INT S_ZERO E_ZERO S_DOUBLE E_DOUBLE F_INT_ordinal F_DOUBLE_ordinal S_BOOL E_BOOL F_BOOL_ordinal (Old.start s) p e ha hc hk s m _ below hf ((Spec.applies_iff_loose hf).mp happ).1 ⟨rfl, State.Warmed39.refl s, rfl⟩ trivial
  refine ⟨n, _, h1, h2, h3, hpost _ _ _ _ _ _ ⟨Cond.after_iff.mpr rfl, Cond.after_iff.mpr (eq_i res_at (Term.int_eval (1)) rfl), trivial⟩ ⟨hq.1, hq.2.1, hq.2.2.1, (hq.2.2.2.sift fun y hy => Or.inr (N y hy)).mono (by decide) (by decide)⟩⟩
theorem main_1_1 : Claimed_1_1 := comes_1 fun _ _ _ _ _ _ h hF => ⟨h.1, hF⟩
theorem main_1_2 : Claimed_1_2 := comes_1 fun _ _ _ _ _ _ h hF => ⟨h.2.1, hF⟩
end Jvm.Pilot.@@N@@
namespace Jvm.Pilot.@@N@@
open Jvm Jvm.ClassFile Sem Op Lib Jvm.Free Jvm.Stand Jvm.Pilot.@@N@@.Jvm.D
/-! MADE BY PROGRAM (witnessworld.py) out of the Statement's table words and the real class files: 36 classes; the members and pool entries that the words name. The judged class is class 1, her method 4. -/
namespace start1
open Jvm.ClassFile
def u (s : String) : CpInfo := .utf8 (stringToUtf16 s)
/-- a pool by its gaps: so many unusable entries, then the entry; so many at the end -/
def gap : Nat → List CpInfo → List CpInfo
  | 0, r => r
  | n + 1, r => .unusable :: gap n r
def poolList (es : List (Nat × CpInfo)) (last : Nat) : List CpInfo := es.foldr (fun e r => gap e.1 (e.2 :: r)) (gap last [])
def pool (es : List (Nat × CpInfo)) (last : Nat) : Array CpInfo := ⟨poolList es last⟩
def fileOf (pool : Array CpInfo) (this : Nat) (attrs : Array Attribute := #[]) (ms : Array MethodInfo := #[]) (fl : Nat := 33) (sup : Nat := 0) (ifs : Array Nat := #[]) (fds : Array FieldInfo := #[]) : ClassFile where
  minorVersion := 0
  majorVersion := 65
  constantPool := pool
  accessFlags := fl
  thisClass := this
  superClass := sup
  interfaces := ifs
  fields := fds
  methods := ms
  attributes := attrs
def plain (name : String) (sup : Option ClassId) : Class where
  name := name
  kind := .ordinary
  loader := none
  accessFlags := 33
  super := sup
  interfaces := #[]
  cf := none
  fields := #[]
  methods := #[]
  instanceTypes := #[]
  staticTypes := #[]
  resolved := #[]
  callSites := []
  init := .initialized
  statics := none
  mirror := none

def pool0 : Array CpInfo := pool [(5, u "<init>"), (0, u "()V"), (1, .class_ 10), (1, u "java/lang/Object")] 113

def k0c0 : Code := { maxStack := 0, maxLocals := 1, code := object_method_1_code, exceptionTable := #[], attributes := #[] }
def k0m0 : Method := { name := "<init>", desc := "()V", sig := { parameters := [], returnType := none }, accessFlags := 1, code := some k0c0 }
/-- java/lang/Object -/
def k0 : Class := { plain "java/lang/Object" none with
  accessFlags := 33
  interfaces := #[]
  cf := some (fileOf pool0 8 #[] #[{ accessFlags := 1, nameIndex := 5, descriptorIndex := 6, attributes := #[] }] 33 0 #[] #[])
  fields := #[]
  methods := #[k0m0]
  instanceTypes := #[]
  staticTypes := #[]
  resolved := Array.replicate 124 none
  statics := none }

def pool1 : Array CpInfo := pool [(2, .class_ 4), (0, .nameAndType 5 6), (0, u "java/lang/Object"), (0, u "<init>"), (0, u "()V"), (0, .methodref 8 9), (0, .class_ 10), (0, .nameAndType 11 12), (0, u "java/lang/Math"), (0, u "min"), (0, u "(II)I"), (0, .methodref 8 14), (0, .nameAndType 15 12), (0, u "max"), (0, .methodref 17 18), (0, .class_ 19), (0, .nameAndType 20 21), (0, u "com/example/verify_markov_chains/verifymarkovchains/explicit/StateLayoutValuePinLaw"), (0, u "lowOf"), (0, u "(J)I"), (0, .methodref 17 23), (0, .nameAndType 24 21), (0, u "highOf"), (0, .methodref 17 26), (0, .nameAndType 27 28), (0, u "within"), (0, u "(IIJ)I"), (0, .class_ 30), (0, u "java/util/ArrayList"), (0, .methodref 29 3), (0, .string 33), (0, u "a"), (0, .methodref 35 36), (0, .class_ 37), (0, .nameAndType 38 39), (0, u "com/example/verify_markov_chains/verifymarkovchains/model/Variable"), (0, u "ofInt"), (0, u "(Ljava/lang/String;III)Lcom/example/verify_markov_chains/verifymarkovchains/model/Variable;"), (0, .methodref 29 41), (0, .nameAndType 42 43), (0, u "add"), (0, u "(Ljava/lang/Object;)Z"), (0, .string 45), (0, u "b"), (0, .string 47), (0, u "c"), (0, .fieldref 49 50), (0, .class_ 51), (0, .nameAndType 52 53), (0, u "com/example/verify_markov_chains/verifymarkovchains/numeric/Rational"), (0, u "ZERO"), (0, u "Lcom/example/verify_markov_chains/verifymarkovchains/numeric/Rational;"), (0, .methodref 35 55), (0, .nameAndType 56 57), (0, u "ofReal"), (0, u "(Ljava/lang/String;Lcom/example/verify_markov_chains/verifymarkovchains/numeric/Rational;Lcom/example/verify_markov_chains/verifymarkovchains/numeric/Rational;Lcom/example/verify_markov_chains/verifymarkovchains/numeric/Rational;)Lcom/example/verify_markov_chains/verifymarkovchains/model/Variable;"), (0, .methodref 35 59), (0, .nameAndType 60 61), (0, u "ofBool"), (0, u "(Ljava/lang/String;Z)Lcom/example/verify_markov_chains/verifymarkovchains/model/Variable;"), (0, .class_ 63), (0, u "com/example/verify_markov_chains/verifymarkovchains/explicit/StateLayout"), (0, .methodref 62 65), (0, .nameAndType 5 66), (0, u "(Ljava/util/List;)V"), (0, .long 11400714819323198485), (1, .methodref 62 70), (0, .nameAndType 71 72), (0, u "pack"), (0, u "([I[JI)V"), (0, .methodref 62 74), (0, .nameAndType 75 76), (0, u "value"), (0, u "([JII)I"), (2, u "law"), (0, u "(JJJJII)Z")] 7

def k1m0 : Method := { name := "<init>", desc := "()V", sig := { parameters := [], returnType := none }, accessFlags := 2, code := none }
def k1c1 : Code := { maxStack := 4, maxLocals := 2, code := method_2_code, exceptionTable := #[], attributes := #[] }
def k1m1 : Method := { name := "lowOf", desc := "(J)I", sig := { parameters := [.long], returnType := some .int }, accessFlags := 10, code := some k1c1 }
def k1c2 : Code := { maxStack := 4, maxLocals := 2, code := method_3_code, exceptionTable := #[], attributes := #[] }
def k1m2 : Method := { name := "highOf", desc := "(J)I", sig := { parameters := [.long], returnType := some .int }, accessFlags := 10, code := some k1c2 }
def k1c3 : Code := { maxStack := 4, maxLocals := 8, code := method_4_code, exceptionTable := #[], attributes := #[] }
def k1m3 : Method := { name := "within", desc := "(IIJ)I", sig := { parameters := [.int, .int, .long], returnType := some .int }, accessFlags := 10, code := some k1c3 }
def k1c4 : Code := { maxStack := 5, maxLocals := 28, code := code, exceptionTable := #[], attributes := #[] }
def k1m4 : Method := { name := "law", desc := "(JJJJII)Z", sig := { parameters := [.long, .long, .long, .long, .int, .int], returnType := some .boolean }, accessFlags := 9, code := some k1c4 }
/-- com/example/verify_markov_chains/verifymarkovchains/explicit/StateLayoutValuePinLaw -/
def k1 : Class := { plain "com/example/verify_markov_chains/verifymarkovchains/explicit/StateLayoutValuePinLaw" (some 0) with
  accessFlags := 49
  interfaces := #[]
  cf := some (fileOf pool1 17 #[] #[{ accessFlags := 2, nameIndex := 5, descriptorIndex := 6, attributes := #[] }, { accessFlags := 10, nameIndex := 20, descriptorIndex := 21, attributes := #[] }, { accessFlags := 10, nameIndex := 24, descriptorIndex := 21, attributes := #[] }, { accessFlags := 10, nameIndex := 27, descriptorIndex := 28, attributes := #[] }, { accessFlags := 9, nameIndex := 79, descriptorIndex := 80, attributes := #[] }] 49 2 #[] #[])
  fields := #[]
  methods := #[k1m0, k1m1, k1m2, k1m3, k1m4]
  instanceTypes := #[]
  staticTypes := #[]
  resolved := Array.replicate 88 none
  statics := none }

def pool2 : Array CpInfo := pool [(1, .class_ 2), (0, u "java/lang/Math"), (1, .class_ 6), (1, u "java/lang/Object"), (0, u "<init>"), (0, u "()V"), (89, .class_ 100), (1, u "java/lang/Math$RandomNumberGeneratorHolder"), (71, u "negativeZeroFloatBits"), (0, u "J"), (2, u "negativeZeroDoubleBits"), (21, u "max"), (2, u "min"), (43, u "$assertionsDisabled"), (0, u "Z"), (88, u "(II)I"), (2, u "twoToTheDoubleScaleDown"), (0, u "D"), (4, u "twoToTheDoubleScaleUp"), (9, u "E"), (3, u "PI"), (2, u "TAU"), (2, u "DEGREES_TO_RADIANS"), (0, u "RADIANS_TO_DEGREES")] 94

def k2m0 : Method := { name := "<init>", desc := "()V", sig := { parameters := [], returnType := none }, accessFlags := 2, code := none }
def k2c1 : Code := { maxStack := 2, maxLocals := 2, code := jdk_29_method_65_code, exceptionTable := #[], attributes := #[] }
def k2m1 : Method := { name := "max", desc := "(II)I", sig := { parameters := [.int, .int], returnType := some .int }, accessFlags := 9, code := some k2c1 }
def k2c2 : Code := { maxStack := 2, maxLocals := 2, code := jdk_29_method_69_code, exceptionTable := #[], attributes := #[] }
def k2m2 : Method := { name := "min", desc := "(II)I", sig := { parameters := [.int, .int], returnType := some .int }, accessFlags := 9, code := some k2c2 }
/-- java/lang/Math -/
def k2 : Class := { plain "java/lang/Math" (some 0) with
  accessFlags := 49
  interfaces := #[]
  cf := some (fileOf pool2 1 #[.nestMembers #[98]] #[{ accessFlags := 2, nameIndex := 7, descriptorIndex := 8, attributes := #[] }, { accessFlags := 9, nameIndex := 198, descriptorIndex := 335, attributes := #[] }, { accessFlags := 9, nameIndex := 201, descriptorIndex := 335, attributes := #[] }] 49 4 #[] #[{ accessFlags := 25, nameIndex := 354, descriptorIndex := 339, attributes := #[] }, { accessFlags := 25, nameIndex := 358, descriptorIndex := 339, attributes := #[] }, { accessFlags := 25, nameIndex := 361, descriptorIndex := 339, attributes := #[] }, { accessFlags := 26, nameIndex := 364, descriptorIndex := 339, attributes := #[] }, { accessFlags := 26, nameIndex := 365, descriptorIndex := 339, attributes := #[] }, { accessFlags := 26, nameIndex := 172, descriptorIndex := 173, attributes := #[] }, { accessFlags := 26, nameIndex := 176, descriptorIndex := 173, attributes := #[] }, { accessFlags := 8, nameIndex := 344, descriptorIndex := 339, attributes := #[] }, { accessFlags := 8, nameIndex := 338, descriptorIndex := 339, attributes := #[] }, { accessFlags := 4120, nameIndex := 245, descriptorIndex := 246, attributes := #[] }])
  fields := #[{ name := "E", type := .double, accessFlags := 25, slot := 0, constantValue := 0 }, { name := "PI", type := .double, accessFlags := 25, slot := 1, constantValue := 0 }, { name := "TAU", type := .double, accessFlags := 25, slot := 2, constantValue := 0 }, { name := "DEGREES_TO_RADIANS", type := .double, accessFlags := 26, slot := 3, constantValue := 0 }, { name := "RADIANS_TO_DEGREES", type := .double, accessFlags := 26, slot := 4, constantValue := 0 }, { name := "negativeZeroFloatBits", type := .long, accessFlags := 26, slot := 5, constantValue := 0 }, { name := "negativeZeroDoubleBits", type := .long, accessFlags := 26, slot := 6, constantValue := 0 }, { name := "twoToTheDoubleScaleUp", type := .double, accessFlags := 8, slot := 7, constantValue := 0 }, { name := "twoToTheDoubleScaleDown", type := .double, accessFlags := 8, slot := 8, constantValue := 0 }, { name := "$assertionsDisabled", type := .boolean, accessFlags := 4120, slot := 9, constantValue := 0 }]
  methods := #[k2m0, k2m1, k2m2]
  instanceTypes := #[]
  staticTypes := #[.double, .double, .double, .double, .double, .long, .long, .double, .double, .boolean]
  resolved := Array.replicate 460 none
  statics := none }

def pool3 : Array CpInfo := pool [(8, .class_ 10), (1, u "java/lang/Iterable"), (24, .class_ 36), (0, u "java/lang/Object")] 25

/-- java/lang/Iterable -/
def k3 : Class := { plain "java/lang/Iterable" (some 0) with
  accessFlags := 1537
  interfaces := #[]
  cf := some (fileOf pool3 8 #[] #[] 1537 35 #[] #[])
  fields := #[]
  methods := #[]
  instanceTypes := #[]
  staticTypes := #[]
  resolved := Array.replicate 62 none
  statics := none }

def pool4 : Array CpInfo := pool [(10, .class_ 12), (1, u "java/util/Collection"), (47, .class_ 61), (0, u "java/lang/Object"), (0, .class_ 63), (0, u "java/lang/Iterable")] 51

/-- java/util/Collection -/
def k4 : Class := { plain "java/util/Collection" (some 0) with
  accessFlags := 1537
  interfaces := #[3]
  cf := some (fileOf pool4 10 #[] #[] 1537 60 #[62] #[])
  fields := #[]
  methods := #[]
  instanceTypes := #[]
  staticTypes := #[]
  resolved := Array.replicate 115 none
  statics := none }

def pool5 : Array CpInfo := pool [(1, .methodref 2 3), (0, .class_ 4), (0, .nameAndType 5 6), (0, u "java/lang/Object"), (0, u "<init>"), (0, u "()V"), (1, .class_ 10), (1, u "java/util/AbstractCollection"), (66, .class_ 78), (0, u "java/util/Collection")] 81

def k5c0 : Code := { maxStack := 1, maxLocals := 1, code := jdk_22_method_1_code, exceptionTable := #[], attributes := #[] }
def k5m0 : Method := { name := "<init>", desc := "()V", sig := { parameters := [], returnType := none }, accessFlags := 4, code := some k5c0 }
/-- java/util/AbstractCollection -/
def k5 : Class := { plain "java/util/AbstractCollection" (some 0) with
  accessFlags := 1057
  interfaces := #[4]
  cf := some (fileOf pool5 8 #[] #[{ accessFlags := 4, nameIndex := 5, descriptorIndex := 6, attributes := #[] }] 1057 2 #[77] #[])
  fields := #[]
  methods := #[k5m0]
  instanceTypes := #[]
  staticTypes := #[]
  resolved := Array.replicate 160 none
  statics := none }

def pool6 : Array CpInfo := pool [(8, .class_ 10), (1, u "java/util/SequencedCollection"), (15, .class_ 27), (0, u "java/lang/Object"), (0, .class_ 29), (0, u "java/util/Collection")] 27

/-- java/util/SequencedCollection -/
def k6 : Class := { plain "java/util/SequencedCollection" (some 0) with
  accessFlags := 1537
  interfaces := #[4]
  cf := some (fileOf pool6 8 #[] #[] 1537 26 #[28] #[])
  fields := #[]
  methods := #[]
  instanceTypes := #[]
  staticTypes := #[]
  resolved := Array.replicate 57 none
  statics := none }

def pool7 : Array CpInfo := pool [(8, .class_ 10), (1, u "java/util/List"), (64, u "get"), (0, u "(I)Ljava/lang/Object;"), (2, u "size"), (0, u "()I"), (22, .class_ 104), (0, u "java/lang/Object"), (15, .class_ 121), (0, u "java/util/SequencedCollection")] 129

def k7m0 : Method := { name := "size", desc := "()I", sig := { parameters := [], returnType := some .int }, accessFlags := 1025, code := none }
def k7m1 : Method := { name := "get", desc := "(I)Ljava/lang/Object;", sig := { parameters := [.int], returnType := some (.object "java/lang/Object") }, accessFlags := 1025, code := none }
/-- java/util/List -/
def k7 : Class := { plain "java/util/List" (some 0) with
  accessFlags := 1537
  interfaces := #[6]
  cf := some (fileOf pool7 8 #[] #[{ accessFlags := 1025, nameIndex := 79, descriptorIndex := 80, attributes := #[] }, { accessFlags := 1025, nameIndex := 75, descriptorIndex := 76, attributes := #[] }] 1537 103 #[120] #[])
  fields := #[]
  methods := #[k7m0, k7m1]
  instanceTypes := #[]
  staticTypes := #[]
  resolved := Array.replicate 251 none
  statics := none }

def pool8 : Array CpInfo := pool [(1, .methodref 2 3), (0, .class_ 4), (0, .nameAndType 5 6), (0, u "java/util/AbstractCollection"), (0, u "<init>"), (0, u "()V"), (0, .fieldref 8 9), (0, .class_ 10), (0, .nameAndType 11 12), (0, u "java/util/AbstractList"), (0, u "modCount"), (0, u "I"), (64, .class_ 78), (0, u "java/util/AbstractList$Itr"), (3, .class_ 83), (0, u "java/util/AbstractList$ListItr"), (9, .class_ 94), (0, u "java/util/AbstractList$RandomAccessSubList"), (3, .class_ 99), (0, u "java/util/AbstractList$SubList"), (33, .class_ 134), (0, u "java/util/List"), (73, .class_ 209), (0, u "java/util/AbstractList$SubList$1"), (0, .class_ 211), (0, u "java/util/AbstractList$RandomAccessSpliterator")] 6

def k8c0 : Code := { maxStack := 2, maxLocals := 1, code := jdk_39_method_1_code, exceptionTable := #[], attributes := #[] }
def k8m0 : Method := { name := "<init>", desc := "()V", sig := { parameters := [], returnType := none }, accessFlags := 4, code := some k8c0 }
/-- java/util/AbstractList -/
def k8 : Class := { plain "java/util/AbstractList" (some 5) with
  accessFlags := 1057
  interfaces := #[7]
  cf := some (fileOf pool8 8 #[.nestMembers #[93, 98, 208, 210, 82, 77]] #[{ accessFlags := 4, nameIndex := 5, descriptorIndex := 6, attributes := #[] }] 1057 2 #[133] #[{ accessFlags := 132, nameIndex := 11, descriptorIndex := 12, attributes := #[] }])
  fields := #[{ name := "modCount", type := .int, accessFlags := 132, slot := 0, constantValue := 0 }]
  methods := #[k8m0]
  instanceTypes := #[.int]
  staticTypes := #[]
  resolved := Array.replicate 218 none
  statics := none }

def pool9 : Array CpInfo := pool [(1, .class_ 2), (0, u "java/util/RandomAccess"), (0, .class_ 4), (0, u "java/lang/Object")] 2

/-- java/util/RandomAccess -/
def k9 : Class := { plain "java/util/RandomAccess" (some 0) with
  accessFlags := 1537
  interfaces := #[]
  cf := some (fileOf pool9 1 #[] #[] 1537 3 #[] #[])
  fields := #[]
  methods := #[]
  instanceTypes := #[]
  staticTypes := #[]
  resolved := Array.replicate 7 none
  statics := none }

def pool10 : Array CpInfo := pool [(1, .class_ 2), (0, u "java/lang/Cloneable"), (0, .class_ 4), (0, u "java/lang/Object")] 2

/-- java/lang/Cloneable -/
def k10 : Class := { plain "java/lang/Cloneable" (some 0) with
  accessFlags := 1537
  interfaces := #[]
  cf := some (fileOf pool10 1 #[] #[] 1537 3 #[] #[])
  fields := #[]
  methods := #[]
  instanceTypes := #[]
  staticTypes := #[]
  resolved := Array.replicate 7 none
  statics := none }

def pool11 : Array CpInfo := pool [(1, .class_ 2), (0, u "java/io/Serializable"), (0, .class_ 4), (0, u "java/lang/Object")] 2

/-- java/io/Serializable -/
def k11 : Class := { plain "java/io/Serializable" (some 0) with
  accessFlags := 1537
  interfaces := #[]
  cf := some (fileOf pool11 1 #[] #[] 1537 3 #[] #[])
  fields := #[]
  methods := #[]
  instanceTypes := #[]
  staticTypes := #[]
  resolved := Array.replicate 7 none
  statics := none }

def pool12 : Array CpInfo := pool [(1, .methodref 2 3), (0, .class_ 4), (0, .nameAndType 5 6), (0, u "java/util/AbstractList"), (0, u "<init>"), (0, u "()V"), (0, .class_ 8), (0, u "java/lang/Object"), (0, .fieldref 10 11), (0, .class_ 12), (0, .nameAndType 13 14), (0, u "java/util/ArrayList"), (0, u "elementData"), (0, u "[Ljava/lang/Object;"), (2, u "EMPTY_ELEMENTDATA"), (21, .fieldref 10 40), (0, .nameAndType 41 14), (0, u "DEFAULTCAPACITY_EMPTY_ELEMENTDATA"), (5, u "()[Ljava/lang/Object;"), (0, .fieldref 10 49), (0, .nameAndType 50 51), (0, u "size"), (0, u "I"), (11, .fieldref 10 64), (0, .nameAndType 65 51), (0, u "modCount"), (3, .methodref 10 70), (0, .nameAndType 71 72), (0, u "grow"), (0, u "(I)[Ljava/lang/Object;"), (6, .methodref 80 81), (0, .class_ 82), (0, .nameAndType 83 84), (0, u "java/lang/Math"), (0, u "max"), (0, u "(II)I"), (11, u "(Ljava/lang/Object;)Z"), (21, .methodref 119 120), (0, .class_ 121), (0, .nameAndType 122 84), (0, u "java/util/Objects"), (0, u "checkIndex"), (0, .methodref 10 124), (0, .nameAndType 13 125), (0, u "(I)Ljava/lang/Object;"), (3, .methodref 10 130), (0, .nameAndType 71 47), (0, .methodref 10 132), (0, .nameAndType 133 134), (0, u "add"), (0, u "(Ljava/lang/Object;[Ljava/lang/Object;I)V"), (13, .class_ 149), (0, u "java/util/List"), (36, u "()I"), (75, .class_ 263), (0, u "java/util/ArrayList$ListItr"), (3, .class_ 268), (0, u "java/util/ArrayList$Itr"), (7, .class_ 277), (0, u "java/util/ArrayList$SubList"), (12, .class_ 291), (0, u "java/util/ArrayList$ArrayListSpliterator"), (37, .class_ 330), (0, u "java/util/RandomAccess"), (0, .class_ 332), (0, u "java/lang/Cloneable"), (0, .class_ 334), (0, u "java/io/Serializable"), (0, u "serialVersionUID"), (0, u "J"), (3, u "DEFAULT_CAPACITY"), (40, u "get"), (118, .class_ 501), (0, u "java/util/ArrayList$SubList$2"), (0, .class_ 503), (0, u "java/util/ArrayList$SubList$1")] 5

def k12c0 : Code := { maxStack := 2, maxLocals := 1, code := jdk_38_method_2_code, exceptionTable := #[], attributes := #[] }
def k12m0 : Method := { name := "<init>", desc := "()V", sig := { parameters := [], returnType := none }, accessFlags := 1, code := some k12c0 }
def k12c1 : Code := { maxStack := 4, maxLocals := 4, code := jdk_38_method_6_code, exceptionTable := #[], attributes := #[] }
def k12m1 : Method := { name := "grow", desc := "(I)[Ljava/lang/Object;", sig := { parameters := [.int], returnType := some (.array (.object "java/lang/Object")) }, accessFlags := 2, code := some k12c1 }
def k12c2 : Code := { maxStack := 3, maxLocals := 1, code := jdk_38_method_7_code, exceptionTable := #[], attributes := #[] }
def k12m2 : Method := { name := "grow", desc := "()[Ljava/lang/Object;", sig := { parameters := [], returnType := some (.array (.object "java/lang/Object")) }, accessFlags := 2, code := some k12c2 }
def k12c3 : Code := { maxStack := 1, maxLocals := 1, code := jdk_38_method_8_code, exceptionTable := #[], attributes := #[] }
def k12m3 : Method := { name := "size", desc := "()I", sig := { parameters := [], returnType := some .int }, accessFlags := 1, code := some k12c3 }
def k12c4 : Code := { maxStack := 2, maxLocals := 2, code := jdk_38_method_18_code, exceptionTable := #[], attributes := #[] }
def k12m4 : Method := { name := "elementData", desc := "(I)Ljava/lang/Object;", sig := { parameters := [.int], returnType := some (.object "java/lang/Object") }, accessFlags := 0, code := some k12c4 }
def k12c5 : Code := { maxStack := 2, maxLocals := 2, code := jdk_38_method_20_code, exceptionTable := #[], attributes := #[] }
def k12m5 : Method := { name := "get", desc := "(I)Ljava/lang/Object;", sig := { parameters := [.int], returnType := some (.object "java/lang/Object") }, accessFlags := 1, code := some k12c5 }
def k12c6 : Code := { maxStack := 3, maxLocals := 4, code := jdk_38_method_24_code, exceptionTable := #[], attributes := #[] }
def k12m6 : Method := { name := "add", desc := "(Ljava/lang/Object;[Ljava/lang/Object;I)V", sig := { parameters := [(.object "java/lang/Object"), (.array (.object "java/lang/Object")), .int], returnType := none }, accessFlags := 2, code := some k12c6 }
def k12c7 : Code := { maxStack := 4, maxLocals := 2, code := jdk_38_method_25_code, exceptionTable := #[], attributes := #[] }
def k12m7 : Method := { name := "add", desc := "(Ljava/lang/Object;)Z", sig := { parameters := [(.object "java/lang/Object")], returnType := some .boolean }, accessFlags := 1, code := some k12c7 }
/-- java/util/ArrayList -/
def k12 : Class := { plain "java/util/ArrayList" (some 8) with
  accessFlags := 33
  interfaces := #[7, 9, 10, 11]
  cf := some (fileOf pool12 10 #[.nestMembers #[290, 276, 500, 502, 262, 267]] #[{ accessFlags := 1, nameIndex := 5, descriptorIndex := 6, attributes := #[] }, { accessFlags := 2, nameIndex := 71, descriptorIndex := 72, attributes := #[] }, { accessFlags := 2, nameIndex := 71, descriptorIndex := 47, attributes := #[] }, { accessFlags := 1, nameIndex := 50, descriptorIndex := 186, attributes := #[] }, { accessFlags := 0, nameIndex := 13, descriptorIndex := 125, attributes := #[] }, { accessFlags := 1, nameIndex := 381, descriptorIndex := 125, attributes := #[] }, { accessFlags := 2, nameIndex := 133, descriptorIndex := 134, attributes := #[] }, { accessFlags := 1, nameIndex := 133, descriptorIndex := 96, attributes := #[] }] 33 2 #[148, 329, 331, 333] #[{ accessFlags := 26, nameIndex := 335, descriptorIndex := 336, attributes := #[] }, { accessFlags := 26, nameIndex := 340, descriptorIndex := 51, attributes := #[] }, { accessFlags := 26, nameIndex := 17, descriptorIndex := 14, attributes := #[] }, { accessFlags := 26, nameIndex := 41, descriptorIndex := 14, attributes := #[] }, { accessFlags := 128, nameIndex := 13, descriptorIndex := 14, attributes := #[] }, { accessFlags := 2, nameIndex := 50, descriptorIndex := 51, attributes := #[] }])
  fields := #[{ name := "serialVersionUID", type := .long, accessFlags := 26, slot := 0, constantValue := 0 }, { name := "DEFAULT_CAPACITY", type := .int, accessFlags := 26, slot := 1, constantValue := 0 }, { name := "EMPTY_ELEMENTDATA", type := (.array (.object "java/lang/Object")), accessFlags := 26, slot := 2, constantValue := 0 }, { name := "DEFAULTCAPACITY_EMPTY_ELEMENTDATA", type := (.array (.object "java/lang/Object")), accessFlags := 26, slot := 3, constantValue := 0 }, { name := "elementData", type := (.array (.object "java/lang/Object")), accessFlags := 128, slot := 1, constantValue := 0 }, { name := "size", type := .int, accessFlags := 2, slot := 2, constantValue := 0 }]
  methods := #[k12m0, k12m1, k12m2, k12m3, k12m4, k12m5, k12m6, k12m7]
  instanceTypes := #[.int, (.array (.object "java/lang/Object")), .int]
  staticTypes := #[.long, .int, (.array (.object "java/lang/Object")), (.array (.object "java/lang/Object"))]
  resolved := Array.replicate 509 none
  statics := some 0 }

def pool13 : Array CpInfo := pool [(1, .class_ 2), (0, u "java/lang/Comparable"), (0, .class_ 4), (0, u "java/lang/Object")] 7

/-- java/lang/Comparable -/
def k13 : Class := { plain "java/lang/Comparable" (some 0) with
  accessFlags := 1537
  interfaces := #[]
  cf := some (fileOf pool13 1 #[] #[] 1537 3 #[] #[])
  fields := #[]
  methods := #[]
  instanceTypes := #[]
  staticTypes := #[]
  resolved := Array.replicate 12 none
  statics := none }

def pool14 : Array CpInfo := pool [(2, .class_ 4), (1, u "java/lang/CharSequence"), (42, .class_ 48), (0, u "java/lang/CharSequence$1CodePointIterator"), (10, .class_ 60), (0, u "java/lang/CharSequence$1CharIterator"), (5, .class_ 67), (0, u "java/lang/Object")] 63

/-- java/lang/CharSequence -/
def k14 : Class := { plain "java/lang/CharSequence" (some 0) with
  accessFlags := 1537
  interfaces := #[]
  cf := some (fileOf pool14 2 #[.nestMembers #[47, 59]] #[] 1537 66 #[] #[])
  fields := #[]
  methods := #[]
  instanceTypes := #[]
  staticTypes := #[]
  resolved := Array.replicate 131 none
  statics := none }

def pool15 : Array CpInfo := pool [(1, .class_ 2), (0, u "java/lang/constant/Constable"), (0, .class_ 4), (0, u "java/lang/Object")] 6

/-- java/lang/constant/Constable -/
def k15 : Class := { plain "java/lang/constant/Constable" (some 0) with
  accessFlags := 1537
  interfaces := #[]
  cf := some (fileOf pool15 1 #[] #[] 1537 3 #[] #[])
  fields := #[]
  methods := #[]
  instanceTypes := #[]
  staticTypes := #[]
  resolved := Array.replicate 11 none
  statics := none }

def pool16 : Array CpInfo := pool [(1, .class_ 2), (0, u "java/lang/constant/ConstantDesc"), (0, .class_ 4), (0, u "java/lang/Object")] 32

/-- java/lang/constant/ConstantDesc -/
def k16 : Class := { plain "java/lang/constant/ConstantDesc" (some 0) with
  accessFlags := 1537
  interfaces := #[]
  cf := some (fileOf pool16 1 #[] #[] 1537 3 #[] #[])
  fields := #[]
  methods := #[]
  instanceTypes := #[]
  staticTypes := #[]
  resolved := Array.replicate 37 none
  statics := none }

def pool17 : Array CpInfo := pool [(2, .class_ 4), (1, u "java/lang/Object"), (0, u "<init>"), (0, u "()V"), (3, .class_ 12), (1, u "java/lang/String"), (0, u "value"), (0, u "[B"), (2, u "coder"), (0, u "B"), (2, u "hash"), (0, u "I"), (2, u "hashIsZero"), (0, u "Z"), (13, u "COMPACT_STRINGS"), (534, .class_ 576), (0, u "java/lang/CharSequence"), (22, u "CASE_INSENSITIVE_ORDER"), (0, u "Ljava/util/Comparator;"), (500, u "serialPersistentFields"), (0, u "[Ljava/io/ObjectStreamField;"), (0, .class_ 1104), (0, u "java/lang/String$CaseInsensitiveComparator"), (1, .class_ 1107), (0, u "java/io/Serializable"), (0, .class_ 1109), (0, u "java/lang/Comparable"), (0, .class_ 1111), (0, u "java/lang/constant/Constable"), (0, .class_ 1113), (0, u "java/lang/constant/ConstantDesc"), (2, u "serialVersionUID"), (0, u "J"), (3, u "REPL"), (0, u "C"), (2, u "LATIN1"), (1, u "UTF16")] 323

def k17m0 : Method := { name := "<init>", desc := "()V", sig := { parameters := [], returnType := none }, accessFlags := 1, code := none }
/-- java/lang/String -/
def k17 : Class := { plain "java/lang/String" (some 0) with
  accessFlags := 49
  interfaces := #[11, 13, 14, 15, 16]
  cf := some (fileOf pool17 10 #[.nestMembers #[1103]] #[{ accessFlags := 1, nameIndex := 5, descriptorIndex := 6, attributes := #[] }] 49 2 #[1106, 1108, 575, 1110, 1112] #[{ accessFlags := 18, nameIndex := 13, descriptorIndex := 14, attributes := #[] }, { accessFlags := 18, nameIndex := 17, descriptorIndex := 18, attributes := #[] }, { accessFlags := 2, nameIndex := 21, descriptorIndex := 22, attributes := #[] }, { accessFlags := 2, nameIndex := 25, descriptorIndex := 26, attributes := #[] }, { accessFlags := 26, nameIndex := 1116, descriptorIndex := 1117, attributes := #[] }, { accessFlags := 24, nameIndex := 40, descriptorIndex := 26, attributes := #[] }, { accessFlags := 26, nameIndex := 1101, descriptorIndex := 1102, attributes := #[] }, { accessFlags := 26, nameIndex := 1121, descriptorIndex := 1122, attributes := #[] }, { accessFlags := 25, nameIndex := 599, descriptorIndex := 600, attributes := #[] }, { accessFlags := 24, nameIndex := 1125, descriptorIndex := 18, attributes := #[] }, { accessFlags := 24, nameIndex := 1127, descriptorIndex := 18, attributes := #[] }])
  fields := #[{ name := "value", type := (.array .byte), accessFlags := 18, slot := 0, constantValue := 0 }, { name := "coder", type := .byte, accessFlags := 18, slot := 1, constantValue := 0 }, { name := "hash", type := .int, accessFlags := 2, slot := 2, constantValue := 0 }, { name := "hashIsZero", type := .boolean, accessFlags := 2, slot := 3, constantValue := 0 }, { name := "serialVersionUID", type := .long, accessFlags := 26, slot := 0, constantValue := 0 }, { name := "COMPACT_STRINGS", type := .boolean, accessFlags := 24, slot := 1, constantValue := 0 }, { name := "serialPersistentFields", type := (.array (.object "java/io/ObjectStreamField")), accessFlags := 26, slot := 2, constantValue := 0 }, { name := "REPL", type := .char, accessFlags := 26, slot := 3, constantValue := 0 }, { name := "CASE_INSENSITIVE_ORDER", type := (.object "java/util/Comparator"), accessFlags := 25, slot := 4, constantValue := 0 }, { name := "LATIN1", type := .byte, accessFlags := 24, slot := 5, constantValue := 0 }, { name := "UTF16", type := .byte, accessFlags := 24, slot := 6, constantValue := 0 }]
  methods := #[k17m0]
  instanceTypes := #[(.array .byte), .byte, .int, .boolean]
  staticTypes := #[.long, .boolean, (.array (.object "java/io/ObjectStreamField")), .char, (.object "java/util/Comparator"), .byte, .byte]
  resolved := Array.replicate 1451 none
  statics := none }

def pool18 : Array CpInfo := pool [(1, .class_ 2), (0, u "com/example/verify_markov_chains/verifymarkovchains/model/Variable"), (0, .fieldref 4 5), (0, .class_ 6), (0, .nameAndType 7 8), (0, u "com/example/verify_markov_chains/verifymarkovchains/expression/Type"), (0, u "INT"), (0, u "Lcom/example/verify_markov_chains/verifymarkovchains/expression/Type;"), (0, .methodref 1 10), (0, .nameAndType 11 12), (0, u "<init>"), (0, u "(Ljava/lang/String;Lcom/example/verify_markov_chains/verifymarkovchains/expression/Type;IIILjava/util/List;Lcom/example/verify_markov_chains/verifymarkovchains/numeric/Rational;Lcom/example/verify_markov_chains/verifymarkovchains/numeric/Rational;Lcom/example/verify_markov_chains/verifymarkovchains/numeric/Rational;)V"), (0, .fieldref 4 14), (0, .nameAndType 15 8), (0, u "BOOL"), (5, u "()I"), (4, .fieldref 4 27), (0, .nameAndType 28 8), (0, u "DOUBLE"), (0, .methodref 1 30), (0, .nameAndType 31 32), (0, u "admits"), (0, u "(Lcom/example/verify_markov_chains/verifymarkovchains/numeric/Rational;)Z"), (4, .class_ 38), (0, u "java/lang/Object"), (13, .methodref 37 53), (0, .nameAndType 11 54), (0, u "()V"), (8, .fieldref 1 64), (0, .nameAndType 65 66), (0, u "name"), (0, u "Ljava/lang/String;"), (0, .fieldref 1 68), (0, .nameAndType 69 8), (0, u "type"), (0, .fieldref 1 71), (0, .nameAndType 72 73), (0, u "lower"), (0, u "I"), (0, .fieldref 1 75), (0, .nameAndType 76 73), (0, u "upper"), (0, .fieldref 1 78), (0, .nameAndType 79 73), (0, u "initial"), (0, .fieldref 1 81), (0, .nameAndType 82 83), (0, u "valueNames"), (0, u "Ljava/util/List;"), (0, .fieldref 1 85), (0, .nameAndType 86 87), (0, u "realInitial"), (0, u "Lcom/example/verify_markov_chains/verifymarkovchains/numeric/Rational;"), (0, .fieldref 1 89), (0, .nameAndType 90 87), (0, u "realLower"), (0, .fieldref 1 92), (0, .nameAndType 93 87), (0, u "realUpper"), (76, u "ofInt"), (0, u "(Ljava/lang/String;III)Lcom/example/verify_markov_chains/verifymarkovchains/model/Variable;"), (2, u "ofBool"), (0, u "(Ljava/lang/String;Z)Lcom/example/verify_markov_chains/verifymarkovchains/model/Variable;"), (4, u "ofReal"), (0, u "(Ljava/lang/String;Lcom/example/verify_markov_chains/verifymarkovchains/numeric/Rational;Lcom/example/verify_markov_chains/verifymarkovchains/numeric/Rational;Lcom/example/verify_markov_chains/verifymarkovchains/numeric/Rational;)Lcom/example/verify_markov_chains/verifymarkovchains/model/Variable;"), (1, u "getType"), (0, u "()Lcom/example/verify_markov_chains/verifymarkovchains/expression/Type;"), (0, u "getLower"), (0, u "getUpper")] 25

def k18c0 : Code := { maxStack := 11, maxLocals := 4, code := prog_119_method_1_code, exceptionTable := #[], attributes := #[] }
def k18m0 : Method := { name := "ofInt", desc := "(Ljava/lang/String;III)Lcom/example/verify_markov_chains/verifymarkovchains/model/Variable;", sig := { parameters := [(.object "java/lang/String"), .int, .int, .int], returnType := some (.object "com/example/verify_markov_chains/verifymarkovchains/model/Variable") }, accessFlags := 9, code := some k18c0 }
def k18c1 : Code := { maxStack := 11, maxLocals := 2, code := prog_119_method_2_code, exceptionTable := #[], attributes := #[] }
def k18m1 : Method := { name := "ofBool", desc := "(Ljava/lang/String;Z)Lcom/example/verify_markov_chains/verifymarkovchains/model/Variable;", sig := { parameters := [(.object "java/lang/String"), .boolean], returnType := some (.object "com/example/verify_markov_chains/verifymarkovchains/model/Variable") }, accessFlags := 9, code := some k18c1 }
def k18c2 : Code := { maxStack := 11, maxLocals := 5, code := prog_119_method_4_code, exceptionTable := #[], attributes := #[] }
def k18m2 : Method := { name := "ofReal", desc := "(Ljava/lang/String;Lcom/example/verify_markov_chains/verifymarkovchains/numeric/Rational;Lcom/example/verify_markov_chains/verifymarkovchains/numeric/Rational;Lcom/example/verify_markov_chains/verifymarkovchains/numeric/Rational;)Lcom/example/verify_markov_chains/verifymarkovchains/model/Variable;", sig := { parameters := [(.object "java/lang/String"), (.object "com/example/verify_markov_chains/verifymarkovchains/numeric/Rational"), (.object "com/example/verify_markov_chains/verifymarkovchains/numeric/Rational"), (.object "com/example/verify_markov_chains/verifymarkovchains/numeric/Rational")], returnType := some (.object "com/example/verify_markov_chains/verifymarkovchains/model/Variable") }, accessFlags := 9, code := some k18c2 }
def k18c3 : Code := { maxStack := 7, maxLocals := 10, code := prog_119_method_5_code, exceptionTable := #[], attributes := #[] }
def k18m3 : Method := { name := "<init>", desc := "(Ljava/lang/String;Lcom/example/verify_markov_chains/verifymarkovchains/expression/Type;IIILjava/util/List;Lcom/example/verify_markov_chains/verifymarkovchains/numeric/Rational;Lcom/example/verify_markov_chains/verifymarkovchains/numeric/Rational;Lcom/example/verify_markov_chains/verifymarkovchains/numeric/Rational;)V", sig := { parameters := [(.object "java/lang/String"), (.object "com/example/verify_markov_chains/verifymarkovchains/expression/Type"), .int, .int, .int, (.object "java/util/List"), (.object "com/example/verify_markov_chains/verifymarkovchains/numeric/Rational"), (.object "com/example/verify_markov_chains/verifymarkovchains/numeric/Rational"), (.object "com/example/verify_markov_chains/verifymarkovchains/numeric/Rational")], returnType := none }, accessFlags := 2, code := some k18c3 }
def k18c4 : Code := { maxStack := 1, maxLocals := 1, code := prog_119_method_7_code, exceptionTable := #[], attributes := #[] }
def k18m4 : Method := { name := "getType", desc := "()Lcom/example/verify_markov_chains/verifymarkovchains/expression/Type;", sig := { parameters := [], returnType := some (.object "com/example/verify_markov_chains/verifymarkovchains/expression/Type") }, accessFlags := 1, code := some k18c4 }
def k18c5 : Code := { maxStack := 1, maxLocals := 1, code := prog_119_method_8_code, exceptionTable := #[], attributes := #[] }
def k18m5 : Method := { name := "getLower", desc := "()I", sig := { parameters := [], returnType := some .int }, accessFlags := 1, code := some k18c5 }
def k18c6 : Code := { maxStack := 1, maxLocals := 1, code := prog_119_method_9_code, exceptionTable := #[], attributes := #[] }
def k18m6 : Method := { name := "getUpper", desc := "()I", sig := { parameters := [], returnType := some .int }, accessFlags := 1, code := some k18c6 }
def k18c7 : Code := { maxStack := 3, maxLocals := 2, code := prog_119_method_12_code, exceptionTable := #[], attributes := #[] }
def k18m7 : Method := { name := "admits", desc := "(Lcom/example/verify_markov_chains/verifymarkovchains/numeric/Rational;)Z", sig := { parameters := [(.object "com/example/verify_markov_chains/verifymarkovchains/numeric/Rational")], returnType := some .boolean }, accessFlags := 1, code := some k18c7 }
/-- com/example/verify_markov_chains/verifymarkovchains/model/Variable -/
def k18 : Class := { plain "com/example/verify_markov_chains/verifymarkovchains/model/Variable" (some 0) with
  accessFlags := 49
  interfaces := #[]
  cf := some (fileOf pool18 1 #[] #[{ accessFlags := 9, nameIndex := 170, descriptorIndex := 171, attributes := #[] }, { accessFlags := 9, nameIndex := 174, descriptorIndex := 175, attributes := #[] }, { accessFlags := 9, nameIndex := 180, descriptorIndex := 181, attributes := #[] }, { accessFlags := 2, nameIndex := 11, descriptorIndex := 12, attributes := #[] }, { accessFlags := 1, nameIndex := 183, descriptorIndex := 184, attributes := #[] }, { accessFlags := 1, nameIndex := 185, descriptorIndex := 21, attributes := #[] }, { accessFlags := 1, nameIndex := 186, descriptorIndex := 21, attributes := #[] }, { accessFlags := 1, nameIndex := 31, descriptorIndex := 32, attributes := #[] }] 49 37 #[] #[{ accessFlags := 18, nameIndex := 65, descriptorIndex := 66, attributes := #[] }, { accessFlags := 18, nameIndex := 69, descriptorIndex := 8, attributes := #[] }, { accessFlags := 18, nameIndex := 72, descriptorIndex := 73, attributes := #[] }, { accessFlags := 18, nameIndex := 76, descriptorIndex := 73, attributes := #[] }, { accessFlags := 18, nameIndex := 79, descriptorIndex := 73, attributes := #[] }, { accessFlags := 18, nameIndex := 82, descriptorIndex := 83, attributes := #[] }, { accessFlags := 18, nameIndex := 86, descriptorIndex := 87, attributes := #[] }, { accessFlags := 18, nameIndex := 90, descriptorIndex := 87, attributes := #[] }, { accessFlags := 18, nameIndex := 93, descriptorIndex := 87, attributes := #[] }])
  fields := #[{ name := "name", type := (.object "java/lang/String"), accessFlags := 18, slot := 0, constantValue := 0 }, { name := "type", type := (.object "com/example/verify_markov_chains/verifymarkovchains/expression/Type"), accessFlags := 18, slot := 1, constantValue := 0 }, { name := "lower", type := .int, accessFlags := 18, slot := 2, constantValue := 0 }, { name := "upper", type := .int, accessFlags := 18, slot := 3, constantValue := 0 }, { name := "initial", type := .int, accessFlags := 18, slot := 4, constantValue := 0 }, { name := "valueNames", type := (.object "java/util/List"), accessFlags := 18, slot := 5, constantValue := 0 }, { name := "realInitial", type := (.object "com/example/verify_markov_chains/verifymarkovchains/numeric/Rational"), accessFlags := 18, slot := 6, constantValue := 0 }, { name := "realLower", type := (.object "com/example/verify_markov_chains/verifymarkovchains/numeric/Rational"), accessFlags := 18, slot := 7, constantValue := 0 }, { name := "realUpper", type := (.object "com/example/verify_markov_chains/verifymarkovchains/numeric/Rational"), accessFlags := 18, slot := 8, constantValue := 0 }]
  methods := #[k18m0, k18m1, k18m2, k18m3, k18m4, k18m5, k18m6, k18m7]
  instanceTypes := #[(.object "java/lang/String"), (.object "com/example/verify_markov_chains/verifymarkovchains/expression/Type"), .int, .int, .int, (.object "java/util/List"), (.object "com/example/verify_markov_chains/verifymarkovchains/numeric/Rational"), (.object "com/example/verify_markov_chains/verifymarkovchains/numeric/Rational"), (.object "com/example/verify_markov_chains/verifymarkovchains/numeric/Rational")]
  staticTypes := #[]
  resolved := Array.replicate 212 none
  statics := none }

def pool19 : Array CpInfo := pool [(2, .class_ 4), (1, u "java/lang/Enum"), (0, u "name"), (0, u "Ljava/lang/String;"), (2, u "ordinal"), (0, u "I"), (1, .class_ 14), (1, u "java/lang/Object"), (4, u "hash"), (86, .class_ 108), (1, u "java/lang/Enum$EnumDesc"), (2, .class_ 112), (0, u "java/lang/constant/Constable"), (0, .class_ 114), (0, u "java/lang/Comparable"), (0, .class_ 116), (0, u "java/io/Serializable")] 87

/-- java/lang/Enum -/
def k19 : Class := { plain "java/lang/Enum" (some 0) with
  accessFlags := 1057
  interfaces := #[15, 13, 11]
  cf := some (fileOf pool19 2 #[.nestMembers #[106]] #[] 1057 12 #[111, 113, 115] #[{ accessFlags := 18, nameIndex := 5, descriptorIndex := 6, attributes := #[] }, { accessFlags := 18, nameIndex := 9, descriptorIndex := 10, attributes := #[] }, { accessFlags := 2, nameIndex := 19, descriptorIndex := 10, attributes := #[] }])
  fields := #[{ name := "name", type := (.object "java/lang/String"), accessFlags := 18, slot := 0, constantValue := 0 }, { name := "ordinal", type := .int, accessFlags := 18, slot := 1, constantValue := 0 }, { name := "hash", type := .int, accessFlags := 2, slot := 2, constantValue := 0 }]
  methods := #[]
  instanceTypes := #[(.object "java/lang/String"), .int, .int]
  staticTypes := #[]
  resolved := Array.replicate 204 none
  statics := none }

def pool20 : Array CpInfo := pool [(1, .class_ 2), (0, u "com/example/verify_markov_chains/verifymarkovchains/expression/Type"), (2, u "BOOL"), (0, u "Lcom/example/verify_markov_chains/verifymarkovchains/expression/Type;"), (2, u "INT"), (2, u "DOUBLE"), (2, u "$VALUES"), (0, u "[Lcom/example/verify_markov_chains/verifymarkovchains/expression/Type;"), (6, .class_ 25), (1, u "java/lang/Enum"), (8, u "keyword"), (0, u "Ljava/lang/String;")] 37

/-- com/example/verify_markov_chains/verifymarkovchains/expression/Type -/
def k20 : Class := { plain "com/example/verify_markov_chains/verifymarkovchains/expression/Type" (some 19) with
  accessFlags := 16433
  interfaces := #[]
  cf := some (fileOf pool20 1 #[] #[] 16433 23 #[] #[{ accessFlags := 16409, nameIndex := 5, descriptorIndex := 6, attributes := #[] }, { accessFlags := 16409, nameIndex := 9, descriptorIndex := 6, attributes := #[] }, { accessFlags := 16409, nameIndex := 12, descriptorIndex := 6, attributes := #[] }, { accessFlags := 18, nameIndex := 34, descriptorIndex := 35, attributes := #[] }, { accessFlags := 4122, nameIndex := 15, descriptorIndex := 16, attributes := #[] }])
  fields := #[{ name := "BOOL", type := (.object "com/example/verify_markov_chains/verifymarkovchains/expression/Type"), accessFlags := 16409, slot := 0, constantValue := 0 }, { name := "INT", type := (.object "com/example/verify_markov_chains/verifymarkovchains/expression/Type"), accessFlags := 16409, slot := 1, constantValue := 0 }, { name := "DOUBLE", type := (.object "com/example/verify_markov_chains/verifymarkovchains/expression/Type"), accessFlags := 16409, slot := 2, constantValue := 0 }, { name := "keyword", type := (.object "java/lang/String"), accessFlags := 18, slot := 3, constantValue := 0 }, { name := "$VALUES", type := (.array (.object "com/example/verify_markov_chains/verifymarkovchains/expression/Type")), accessFlags := 4122, slot := 3, constantValue := 0 }]
  methods := #[]
  instanceTypes := #[(.object "java/lang/String"), .int, .int, (.object "java/lang/String")]
  staticTypes := #[(.object "com/example/verify_markov_chains/verifymarkovchains/expression/Type"), (.object "com/example/verify_markov_chains/verifymarkovchains/expression/Type"), (.object "com/example/verify_markov_chains/verifymarkovchains/expression/Type"), (.array (.object "com/example/verify_markov_chains/verifymarkovchains/expression/Type"))]
  resolved := Array.replicate 73 none
  statics := some 1 }

def pool21 : Array CpInfo := pool [(2, .class_ 4), (1, u "java/lang/Object"), (3, .class_ 10), (1, u "com/example/verify_markov_chains/verifymarkovchains/numeric/Rational"), (0, u "numerator"), (0, u "Ljava/math/BigInteger;"), (2, u "denominator"), (8, u "ONE"), (27, u "ZERO"), (0, u "Lcom/example/verify_markov_chains/verifymarkovchains/numeric/Rational;"), (182, .class_ 237), (0, u "java/lang/Comparable"), (0, u "MAX_DECIMAL_EXPONENT"), (0, u "I"), (2, u "SIGNIFICAND_BITS"), (1, u "MIN_SUBNORMAL_EXPONENT")] 48

/-- com/example/verify_markov_chains/verifymarkovchains/numeric/Rational -/
def k21 : Class := { plain "com/example/verify_markov_chains/verifymarkovchains/numeric/Rational" (some 0) with
  accessFlags := 49
  interfaces := #[13]
  cf := some (fileOf pool21 8 #[] #[] 49 2 #[236] #[{ accessFlags := 25, nameIndex := 52, descriptorIndex := 53, attributes := #[] }, { accessFlags := 25, nameIndex := 24, descriptorIndex := 53, attributes := #[] }, { accessFlags := 26, nameIndex := 238, descriptorIndex := 239, attributes := #[] }, { accessFlags := 26, nameIndex := 242, descriptorIndex := 239, attributes := #[] }, { accessFlags := 26, nameIndex := 244, descriptorIndex := 239, attributes := #[] }, { accessFlags := 18, nameIndex := 11, descriptorIndex := 12, attributes := #[] }, { accessFlags := 18, nameIndex := 15, descriptorIndex := 12, attributes := #[] }])
  fields := #[{ name := "ZERO", type := (.object "com/example/verify_markov_chains/verifymarkovchains/numeric/Rational"), accessFlags := 25, slot := 0, constantValue := 0 }, { name := "ONE", type := (.object "com/example/verify_markov_chains/verifymarkovchains/numeric/Rational"), accessFlags := 25, slot := 1, constantValue := 0 }, { name := "MAX_DECIMAL_EXPONENT", type := .int, accessFlags := 26, slot := 2, constantValue := 0 }, { name := "SIGNIFICAND_BITS", type := .int, accessFlags := 26, slot := 3, constantValue := 0 }, { name := "MIN_SUBNORMAL_EXPONENT", type := .int, accessFlags := 26, slot := 4, constantValue := 0 }, { name := "numerator", type := (.object "java/math/BigInteger"), accessFlags := 18, slot := 0, constantValue := 0 }, { name := "denominator", type := (.object "java/math/BigInteger"), accessFlags := 18, slot := 1, constantValue := 0 }]
  methods := #[]
  instanceTypes := #[(.object "java/math/BigInteger"), (.object "java/math/BigInteger")]
  staticTypes := #[(.object "com/example/verify_markov_chains/verifymarkovchains/numeric/Rational"), (.object "com/example/verify_markov_chains/verifymarkovchains/numeric/Rational"), .int, .int, .int]
  resolved := Array.replicate 293 none
  statics := some 2 }

def pool22 : Array CpInfo := pool [(3, .methodref 4 5), (0, .class_ 6), (0, .nameAndType 7 8), (0, u "java/lang/Object"), (0, u "<init>"), (0, u "()V"), (0, .interfaceMethodref 10 11), (0, .class_ 12), (0, .nameAndType 13 14), (0, u "java/util/List"), (0, u "size"), (0, u "()I"), (0, .fieldref 16 17), (0, .class_ 18), (0, .nameAndType 19 20), (0, u "com/example/verify_markov_chains/verifymarkovchains/explicit/StateLayout"), (0, u "words"), (0, u "[I"), (0, .fieldref 16 22), (0, .nameAndType 23 20), (0, u "shifts"), (0, .fieldref 16 25), (0, .nameAndType 26 27), (0, u "masks"), (0, u "[J"), (0, .fieldref 16 29), (0, .nameAndType 30 20), (0, u "lowers"), (0, .interfaceMethodref 10 32), (0, .nameAndType 33 34), (0, u "get"), (0, u "(I)Ljava/lang/Object;"), (0, .class_ 36), (0, u "com/example/verify_markov_chains/verifymarkovchains/model/Variable"), (0, .methodref 16 38), (0, .nameAndType 39 40), (0, u "bitsOf"), (0, u "(Lcom/example/verify_markov_chains/verifymarkovchains/model/Variable;)I"), (0, .class_ 42), (0, u "java/lang/Long"), (0, .methodref 44 45), (0, .class_ 46), (0, .nameAndType 47 48), (0, u "java/lang/Math"), (0, u "max"), (0, u "(II)I"), (0, .long 18446744073709551615), (1, .methodref 35 52), (0, .nameAndType 53 14), (0, u "getLower"), (0, .fieldref 16 55), (0, .nameAndType 56 57), (0, u "wordCount"), (0, u "I"), (0, .methodref 35 59), (0, .nameAndType 60 61), (0, u "getType"), (0, u "()Lcom/example/verify_markov_chains/verifymarkovchains/expression/Type;"), (0, .fieldref 63 64), (0, .class_ 65), (0, .nameAndType 66 67), (0, u "com/example/verify_markov_chains/verifymarkovchains/expression/Type"), (0, u "DOUBLE"), (0, u "Lcom/example/verify_markov_chains/verifymarkovchains/expression/Type;"), (0, .methodref 35 69), (0, .nameAndType 70 14), (0, u "getUpper"), (0, .methodref 41 72), (0, .nameAndType 73 74), (0, u "numberOfLeadingZeros"), (0, u "(J)I"), (0, .methodref 76 77), (0, .class_ 78), (0, .nameAndType 79 80), (0, u "java/util/Arrays"), (0, u "fill"), (0, u "([JIIJ)V"), (2, u "value"), (0, u "([JII)I"), (0, u "REAL_BITS"), (2, u "(Ljava/util/List;)V"), (8, u "pack"), (0, u "([I[JI)V")] 4

def k22c0 : Code := { maxStack := 6, maxLocals := 9, code := prog_51_method_1_code, exceptionTable := #[], attributes := #[] }
def k22m0 : Method := { name := "<init>", desc := "(Ljava/util/List;)V", sig := { parameters := [(.object "java/util/List")], returnType := none }, accessFlags := 0, code := some k22c0 }
def k22c1 : Code := { maxStack := 4, maxLocals := 3, code := prog_51_method_2_code, exceptionTable := #[], attributes := #[] }
def k22m1 : Method := { name := "bitsOf", desc := "(Lcom/example/verify_markov_chains/verifymarkovchains/model/Variable;)I", sig := { parameters := [(.object "com/example/verify_markov_chains/verifymarkovchains/model/Variable")], returnType := some .int }, accessFlags := 10, code := some k22c1 }
def k22c2 : Code := { maxStack := 8, maxLocals := 7, code := prog_51_method_4_code, exceptionTable := #[], attributes := #[] }
def k22m2 : Method := { name := "pack", desc := "([I[JI)V", sig := { parameters := [(.array .int), (.array .long), .int], returnType := none }, accessFlags := 0, code := some k22c2 }
def k22c3 : Code := { maxStack := 4, maxLocals := 6, code := prog_51_method_5_code, exceptionTable := #[], attributes := #[] }
def k22m3 : Method := { name := "value", desc := "([JII)I", sig := { parameters := [(.array .long), .int, .int], returnType := some .int }, accessFlags := 0, code := some k22c3 }
/-- com/example/verify_markov_chains/verifymarkovchains/explicit/StateLayout -/
def k22 : Class := { plain "com/example/verify_markov_chains/verifymarkovchains/explicit/StateLayout" (some 0) with
  accessFlags := 48
  interfaces := #[]
  cf := some (fileOf pool22 16 #[] #[{ accessFlags := 0, nameIndex := 7, descriptorIndex := 88, attributes := #[] }, { accessFlags := 10, nameIndex := 39, descriptorIndex := 40, attributes := #[] }, { accessFlags := 0, nameIndex := 97, descriptorIndex := 98, attributes := #[] }, { accessFlags := 0, nameIndex := 83, descriptorIndex := 84, attributes := #[] }] 48 4 #[] #[{ accessFlags := 26, nameIndex := 85, descriptorIndex := 57, attributes := #[] }, { accessFlags := 18, nameIndex := 19, descriptorIndex := 20, attributes := #[] }, { accessFlags := 18, nameIndex := 23, descriptorIndex := 20, attributes := #[] }, { accessFlags := 18, nameIndex := 26, descriptorIndex := 27, attributes := #[] }, { accessFlags := 18, nameIndex := 30, descriptorIndex := 20, attributes := #[] }, { accessFlags := 18, nameIndex := 56, descriptorIndex := 57, attributes := #[] }])
  fields := #[{ name := "REAL_BITS", type := .int, accessFlags := 26, slot := 0, constantValue := 0 }, { name := "words", type := (.array .int), accessFlags := 18, slot := 0, constantValue := 0 }, { name := "shifts", type := (.array .int), accessFlags := 18, slot := 1, constantValue := 0 }, { name := "masks", type := (.array .long), accessFlags := 18, slot := 2, constantValue := 0 }, { name := "lowers", type := (.array .int), accessFlags := 18, slot := 3, constantValue := 0 }, { name := "wordCount", type := .int, accessFlags := 18, slot := 4, constantValue := 0 }]
  methods := #[k22m0, k22m1, k22m2, k22m3]
  instanceTypes := #[(.array .int), (.array .int), (.array .long), (.array .int), .int]
  staticTypes := #[.int]
  resolved := Array.replicate 103 none
  statics := none }

def pool23 : Array CpInfo := pool [(2, .class_ 4), (1, u "java/lang/Object"), (0, u "<init>"), (0, u "()V"), (35, .class_ 44), (1, u "java/util/Objects"), (60, .methodref 106 107), (0, .class_ 108), (0, .nameAndType 109 110), (0, u "jdk/internal/util/Preconditions"), (0, u "checkIndex"), (0, u "(IILjava/util/function/BiFunction;)I"), (60, u "(II)I")] 12

def k23m0 : Method := { name := "<init>", desc := "()V", sig := { parameters := [], returnType := none }, accessFlags := 2, code := none }
def k23c1 : Code := { maxStack := 3, maxLocals := 2, code := jdk_31_method_17_code, exceptionTable := #[], attributes := #[] }
def k23m1 : Method := { name := "checkIndex", desc := "(II)I", sig := { parameters := [.int, .int], returnType := some .int }, accessFlags := 9, code := some k23c1 }
/-- java/util/Objects -/
def k23 : Class := { plain "java/util/Objects" (some 0) with
  accessFlags := 49
  interfaces := #[]
  cf := some (fileOf pool23 42 #[] #[{ accessFlags := 2, nameIndex := 5, descriptorIndex := 6, attributes := #[] }, { accessFlags := 9, nameIndex := 109, descriptorIndex := 171, attributes := #[] }] 49 2 #[] #[])
  fields := #[]
  methods := #[k23m0, k23m1]
  instanceTypes := #[]
  staticTypes := #[]
  resolved := Array.replicate 184 none
  statics := none }

def pool24 : Array CpInfo := pool [(2, .class_ 4), (1, u "java/lang/Object"), (0, u "<init>"), (0, u "()V"), (17, .class_ 26), (1, u "jdk/internal/util/Preconditions"), (6, u "checkIndex"), (21, .class_ 56), (0, u "jdk/internal/util/Preconditions$4"), (57, .class_ 115), (0, u "jdk/internal/util/Preconditions$1"), (7, u "SIOOBE_FORMATTER"), (0, u "Ljava/util/function/BiFunction;"), (0, .class_ 126), (0, u "jdk/internal/util/Preconditions$2"), (3, u "AIOOBE_FORMATTER"), (0, .class_ 132), (0, u "jdk/internal/util/Preconditions$3"), (3, u "IOOBE_FORMATTER"), (41, u "(IILjava/util/function/BiFunction;)I")] 15

def k24m0 : Method := { name := "<init>", desc := "()V", sig := { parameters := [], returnType := none }, accessFlags := 1, code := none }
def k24c1 : Code := { maxStack := 3, maxLocals := 3, code := jdk_41_method_11_code, exceptionTable := #[], attributes := #[] }
def k24m1 : Method := { name := "checkIndex", desc := "(IILjava/util/function/BiFunction;)I", sig := { parameters := [.int, .int, (.object "java/util/function/BiFunction")], returnType := some .int }, accessFlags := 9, code := some k24c1 }
/-- jdk/internal/util/Preconditions -/
def k24 : Class := { plain "jdk/internal/util/Preconditions" (some 0) with
  accessFlags := 33
  interfaces := #[]
  cf := some (fileOf pool24 24 #[.nestMembers #[55, 131, 125, 114]] #[{ accessFlags := 1, nameIndex := 5, descriptorIndex := 6, attributes := #[] }, { accessFlags := 9, nameIndex := 33, descriptorIndex := 178, attributes := #[] }] 33 2 #[] #[{ accessFlags := 25, nameIndex := 123, descriptorIndex := 124, attributes := #[] }, { accessFlags := 25, nameIndex := 130, descriptorIndex := 124, attributes := #[] }, { accessFlags := 25, nameIndex := 136, descriptorIndex := 124, attributes := #[] }])
  fields := #[{ name := "SIOOBE_FORMATTER", type := (.object "java/util/function/BiFunction"), accessFlags := 25, slot := 0, constantValue := 0 }, { name := "AIOOBE_FORMATTER", type := (.object "java/util/function/BiFunction"), accessFlags := 25, slot := 1, constantValue := 0 }, { name := "IOOBE_FORMATTER", type := (.object "java/util/function/BiFunction"), accessFlags := 25, slot := 2, constantValue := 0 }]
  methods := #[k24m0, k24m1]
  instanceTypes := #[]
  staticTypes := #[(.object "java/util/function/BiFunction"), (.object "java/util/function/BiFunction"), (.object "java/util/function/BiFunction")]
  resolved := Array.replicate 194 none
  statics := none }

def pool25 : Array CpInfo := pool [(2, .class_ 4), (1, u "java/lang/Object"), (0, u "<init>"), (0, u "()V"), (1, .class_ 10), (1, u "java/lang/Number"), (2, .class_ 14), (0, u "java/io/Serializable"), (0, u "serialVersionUID"), (0, u "J")] 20

def k25m0 : Method := { name := "<init>", desc := "()V", sig := { parameters := [], returnType := none }, accessFlags := 1, code := none }
/-- java/lang/Number -/
def k25 : Class := { plain "java/lang/Number" (some 0) with
  accessFlags := 1057
  interfaces := #[11]
  cf := some (fileOf pool25 8 #[] #[{ accessFlags := 1, nameIndex := 5, descriptorIndex := 6, attributes := #[] }] 1057 2 #[13] #[{ accessFlags := 26, nameIndex := 15, descriptorIndex := 16, attributes := #[] }])
  fields := #[{ name := "serialVersionUID", type := .long, accessFlags := 26, slot := 0, constantValue := 0 }]
  methods := #[k25m0]
  instanceTypes := #[]
  staticTypes := #[.long]
  resolved := Array.replicate 37 none
  statics := none }

def pool26 : Array CpInfo := pool [(1, .class_ 2), (0, u "java/lang/Long"), (15, .class_ 20), (1, u "java/lang/Integer"), (79, u "numberOfLeadingZeros"), (0, u "(J)I"), (133, .class_ 237), (1, u "java/lang/Long$LongCache"), (33, .class_ 272), (0, u "java/lang/Number"), (2, u "value"), (0, u "J"), (31, .methodref 18 309), (0, .nameAndType 100 310), (0, u "(I)I"), (50, u "TYPE"), (0, u "Ljava/lang/Class;"), (0, .class_ 364), (0, u "java/lang/Comparable"), (0, .class_ 366), (0, u "java/lang/constant/Constable"), (0, .class_ 368), (0, u "java/lang/constant/ConstantDesc"), (0, u "MIN_VALUE"), (1, u "MAX_VALUE"), (4, u "SIZE"), (0, u "I"), (1, u "BYTES"), (1, u "serialVersionUID")] 142

def k26c0 : Code := { maxStack := 3, maxLocals := 3, code := jdk_35_method_48_code, exceptionTable := #[], attributes := #[] }
def k26m0 : Method := { name := "numberOfLeadingZeros", desc := "(J)I", sig := { parameters := [.long], returnType := some .int }, accessFlags := 9, code := some k26c0 }
/-- java/lang/Long -/
def k26 : Class := { plain "java/lang/Long" (some 25) with
  accessFlags := 49
  interfaces := #[13, 15, 16]
  cf := some (fileOf pool26 1 #[.nestMembers #[235]] #[{ accessFlags := 9, nameIndex := 100, descriptorIndex := 101, attributes := #[] }] 49 271 #[363, 365, 367] #[{ accessFlags := 25, nameIndex := 369, descriptorIndex := 276, attributes := #[] }, { accessFlags := 25, nameIndex := 371, descriptorIndex := 276, attributes := #[] }, { accessFlags := 25, nameIndex := 361, descriptorIndex := 362, attributes := #[] }, { accessFlags := 18, nameIndex := 275, descriptorIndex := 276, attributes := #[] }, { accessFlags := 25, nameIndex := 376, descriptorIndex := 377, attributes := #[] }, { accessFlags := 25, nameIndex := 379, descriptorIndex := 377, attributes := #[] }, { accessFlags := 26, nameIndex := 381, descriptorIndex := 276, attributes := #[] }])
  fields := #[{ name := "MIN_VALUE", type := .long, accessFlags := 25, slot := 0, constantValue := 0 }, { name := "MAX_VALUE", type := .long, accessFlags := 25, slot := 1, constantValue := 0 }, { name := "TYPE", type := (.object "java/lang/Class"), accessFlags := 25, slot := 2, constantValue := 0 }, { name := "value", type := .long, accessFlags := 18, slot := 0, constantValue := 0 }, { name := "SIZE", type := .int, accessFlags := 25, slot := 3, constantValue := 0 }, { name := "BYTES", type := .int, accessFlags := 25, slot := 4, constantValue := 0 }, { name := "serialVersionUID", type := .long, accessFlags := 26, slot := 5, constantValue := 0 }]
  methods := #[k26m0]
  instanceTypes := #[.long]
  staticTypes := #[.long, .long, (.object "java/lang/Class"), .int, .int, .long]
  resolved := Array.replicate 524 none
  statics := none }

def pool27 : Array CpInfo := pool [(1, .class_ 2), (0, u "java/lang/Integer"), (16, u "digits"), (0, u "[C"), (32, u "numberOfLeadingZeros"), (0, u "(I)I"), (30, u "DigitOnes"), (0, u "[B"), (2, u "DigitTens"), (99, .class_ 190), (0, u "java/lang/Integer$IntegerCache"), (3, u "I"), (8, .class_ 204), (0, u "java/lang/Number"), (2, u "value"), (56, .integer 65536), (37, u "TYPE"), (0, u "Ljava/lang/Class;"), (0, .class_ 305), (0, u "java/lang/Comparable"), (0, .class_ 307), (0, u "java/lang/constant/Constable"), (0, .class_ 309), (0, u "java/lang/constant/ConstantDesc"), (0, u "MIN_VALUE"), (1, u "MAX_VALUE"), (3, u "SIZE"), (1, u "BYTES"), (1, u "serialVersionUID"), (0, u "J")] 131

def k27c0 : Code := { maxStack := 3, maxLocals := 2, code := jdk_33_method_47_code, exceptionTable := #[], attributes := #[] }
def k27m0 : Method := { name := "numberOfLeadingZeros", desc := "(I)I", sig := { parameters := [.int], returnType := some .int }, accessFlags := 9, code := some k27c0 }
/-- java/lang/Integer -/
def k27 : Class := { plain "java/lang/Integer" (some 25) with
  accessFlags := 49
  interfaces := #[13, 15, 16]
  cf := some (fileOf pool27 1 #[.nestMembers #[189]] #[{ accessFlags := 9, nameIndex := 53, descriptorIndex := 54, attributes := #[] }] 49 203 #[304, 306, 308] #[{ accessFlags := 25, nameIndex := 310, descriptorIndex := 194, attributes := #[] }, { accessFlags := 25, nameIndex := 312, descriptorIndex := 194, attributes := #[] }, { accessFlags := 25, nameIndex := 302, descriptorIndex := 303, attributes := #[] }, { accessFlags := 24, nameIndex := 19, descriptorIndex := 20, attributes := #[] }, { accessFlags := 24, nameIndex := 89, descriptorIndex := 86, attributes := #[] }, { accessFlags := 24, nameIndex := 85, descriptorIndex := 86, attributes := #[] }, { accessFlags := 18, nameIndex := 207, descriptorIndex := 194, attributes := #[] }, { accessFlags := 25, nameIndex := 316, descriptorIndex := 194, attributes := #[] }, { accessFlags := 25, nameIndex := 318, descriptorIndex := 194, attributes := #[] }, { accessFlags := 26, nameIndex := 320, descriptorIndex := 321, attributes := #[] }])
  fields := #[{ name := "MIN_VALUE", type := .int, accessFlags := 25, slot := 0, constantValue := 0 }, { name := "MAX_VALUE", type := .int, accessFlags := 25, slot := 1, constantValue := 0 }, { name := "TYPE", type := (.object "java/lang/Class"), accessFlags := 25, slot := 2, constantValue := 0 }, { name := "digits", type := (.array .char), accessFlags := 24, slot := 3, constantValue := 0 }, { name := "DigitTens", type := (.array .byte), accessFlags := 24, slot := 4, constantValue := 0 }, { name := "DigitOnes", type := (.array .byte), accessFlags := 24, slot := 5, constantValue := 0 }, { name := "value", type := .int, accessFlags := 18, slot := 0, constantValue := 0 }, { name := "SIZE", type := .int, accessFlags := 25, slot := 6, constantValue := 0 }, { name := "BYTES", type := .int, accessFlags := 25, slot := 7, constantValue := 0 }, { name := "serialVersionUID", type := .long, accessFlags := 26, slot := 8, constantValue := 0 }]
  methods := #[k27m0]
  instanceTypes := #[.int]
  staticTypes := #[.int, .int, (.object "java/lang/Class"), (.array .char), (.array .byte), (.array .byte), .int, .int, .long]
  resolved := Array.replicate 453 none
  statics := none }

def pool28 : Array CpInfo := pool [(2, .class_ 4), (1, u "java/lang/Object"), (0, u "<init>"), (0, u "()V"), (6, .methodref 14 15), (0, .class_ 16), (0, .nameAndType 17 18), (0, u "java/util/Arrays"), (0, u "rangeCheck"), (0, u "(III)V"), (55, .class_ 76), (1, u "java/util/Arrays$NaturalOrder"), (36, .class_ 115), (1, u "java/util/Arrays$LegacyMergeSort"), (1, u "Z"), (257, .class_ 376), (0, u "java/util/Arrays$ArrayList"), (68, u "$assertionsDisabled"), (269, u "MIN_ARRAY_SORT_GRAN"), (0, u "I"), (2, u "INSERTIONSORT_THRESHOLD"), (120, u "fill"), (3, u "([JIIJ)V"), (130, .class_ 976), (0, u "java/util/Arrays$ArrayItr")] 52

def k28m0 : Method := { name := "<init>", desc := "()V", sig := { parameters := [], returnType := none }, accessFlags := 2, code := none }
def k28c1 : Code := { maxStack := 4, maxLocals := 3, code := jdk_65_method_30_code, exceptionTable := #[], attributes := #[] }
def k28m1 : Method := { name := "rangeCheck", desc := "(III)V", sig := { parameters := [.int, .int, .int], returnType := none }, accessFlags := 8, code := some k28c1 }
def k28c2 : Code := { maxStack := 4, maxLocals := 6, code := jdk_65_method_102_code, exceptionTable := #[], attributes := #[] }
def k28m2 : Method := { name := "fill", desc := "([JIIJ)V", sig := { parameters := [(.array .long), .int, .int, .long], returnType := none }, accessFlags := 9, code := some k28c2 }
/-- java/util/Arrays -/
def k28 : Class := { plain "java/util/Arrays" (some 0) with
  accessFlags := 49
  interfaces := #[]
  cf := some (fileOf pool28 14 #[.nestMembers #[975, 375, 113, 74]] #[{ accessFlags := 2, nameIndex := 5, descriptorIndex := 6, attributes := #[] }, { accessFlags := 8, nameIndex := 17, descriptorIndex := 18, attributes := #[] }, { accessFlags := 9, nameIndex := 840, descriptorIndex := 844, attributes := #[] }] 49 2 #[] #[{ accessFlags := 26, nameIndex := 715, descriptorIndex := 716, attributes := #[] }, { accessFlags := 26, nameIndex := 719, descriptorIndex := 716, attributes := #[] }, { accessFlags := 4120, nameIndex := 445, descriptorIndex := 117, attributes := #[] }])
  fields := #[{ name := "MIN_ARRAY_SORT_GRAN", type := .int, accessFlags := 26, slot := 0, constantValue := 0 }, { name := "INSERTIONSORT_THRESHOLD", type := .int, accessFlags := 26, slot := 1, constantValue := 0 }, { name := "$assertionsDisabled", type := .boolean, accessFlags := 4120, slot := 2, constantValue := 0 }]
  methods := #[k28m0, k28m1, k28m2]
  instanceTypes := #[]
  staticTypes := #[.int, .int, .boolean]
  resolved := Array.replicate 1029 none
  statics := none }

/-- the primitive byte -/
def k29 : Class := { plain "byte" none with kind := .primitive 'B', accessFlags := 0x411 }
/-- [B -/
def k30 : Class := { plain "[B" (some 0) with kind := .array 29 .byte, interfaces := #[10, 11], accessFlags := 1041 }

/-- the primitive int -/
def k31 : Class := { plain "int" none with kind := .primitive 'I', accessFlags := 0x411 }
/-- [I -/
def k32 : Class := { plain "[I" (some 0) with kind := .array 31 .int, interfaces := #[10, 11], accessFlags := 1041 }

/-- the primitive long -/
def k33 : Class := { plain "long" none with kind := .primitive 'J', accessFlags := 0x411 }
/-- [J -/
def k34 : Class := { plain "[J" (some 0) with kind := .array 33 .long, interfaces := #[10, 11], accessFlags := 1041 }

/-- [Ljava/lang/Object; -/
def k35 : Class := { plain "[Ljava/lang/Object;" (some 0) with kind := .array 0 (.object "java/lang/Object"), interfaces := #[10, 11], accessFlags := 1041 }

def heap : Heap := #[{ cls := 12, slots := #[.long 0, .int 0, .ref 7, .ref 8], vm := .statics 12 },
  { cls := 20, slots := #[.ref 3, .ref 4, .ref 5, .null], vm := .statics 20 },
  { cls := 21, slots := #[.ref 6, .null, .int 0, .int 0, .int 0], vm := .statics 21 },
  { cls := 20, slots := #[.null, .int 0, .int 0, .null], vm := .none },
  { cls := 20, slots := #[.null, .int 1, .int 0, .null], vm := .none },
  { cls := 20, slots := #[.null, .int 2, .int 0, .null], vm := .none },
  { cls := 21, slots := #[.null, .null], vm := .none },
  { cls := 35, slots := #[], vm := .none },
  { cls := 35, slots := #[], vm := .none }]
def classes : Array Class := #[k0, k1, k2, k3, k4, k5, k6, k7, k8, k9, k10, k11, k12, k13, k14, k15, k16, k17, k18, k19, k20, k21, k22, k23, k24, k25, k26, k27, k28, k29, k30, k31, k32, k33, k34, k35]
def interned : List (Array UInt16 × Addr) := []
def slotsUsed : Nat := 27
def theMethod : MethodId := ⟨1, 4⟩
def args0 : Array Value := #[.long 5, .long 300, .long 7, .long 9, .int 5, .int 2]
def aboutOver (below : List Frame) : State where
  vm := { classes := classes, interned := interned.toArray }
  heap := heap
  slotsUsed := slotsUsed
  threads := #[{ frames := .invoking theMethod args0 :: below }]
def below0 : List Frame := [.native { method := ⟨0, 0⟩, args := #[] }]
def about1 : State := aboutOver below0
def p0 : Program := .bare "" "" ""
def e0 : Env := launch0.env 0 0 0
theorem w_frames : about1.frames = Frame.invoking theMethod args0 :: below0 := rfl
set_option maxRecDepth 65536 in
theorem w_args : argsFit about1.vm theMethod args0 = true := by decide +kernel
set_option maxRecDepth 65536 in
theorem w_heap : heapFits about1 = true := by decide +kernel
set_option maxRecDepth 65536 in
theorem w_runnable : about1.curStatus? = some .runnable := by decide +kernel
set_option maxRecDepth 65536 in
theorem w_alone : about1.alone = true := by decide +kernel
set_option maxRecDepth 65536 in
theorem w_named : about1.methodNamed? x = some theMethod := by decide +kernel
set_option maxRecDepth 65536 in
theorem w_hears : about1.hears theMethod below0 = true := by decide +kernel
set_option maxRecDepth 65536 in
theorem w_ripe : about1.ripe theMethod args0 below0 = true := by decide +kernel
theorem w_running : about1.status = .running := rfl
set_option maxRecDepth 65536 in
theorem w_room : about1.hasRoom e0.platform room_1 = true :=
  launch0.hasRoom_least _ room_1 (by decide +kernel) (by decide +kernel) (by decide +kernel) (by decide +kernel) (by decide +kernel) (by decide +kernel)
theorem allAtoms_all (ts : List Jvm.Cond) (a : Array Jvm.Value) (st : Jvm.State) : (allAtoms ts).before a st = ts.all (fun c => c.before a st) := by
  induction ts with
  | nil => rfl
  | cons c t ih =>
    show (Jvm.Cond.and c (allAtoms t)).before a st = _
    rw [Jvm.Cond.before_and, ih, List.all_cons]
def words1 : List Jvm.Cond := Jvm.Cond.code x code maxLocals ret :: tables_1
/-- a 'code' word, met by the world's own term for the bytes: nothing is compared byte by byte -/
theorem code_word {y : MethodName} {bytes : ByteArray} {mx : Nat} {rt : Option FieldType} {a : Array Value} {s : State} {m : MethodId} {meth : Method} {c : Code} (h1 : s.methodNamed? y = some m) (h2 : s.vm.method? m = some meth) (h3 : meth.code = some c) (h4 : c.code = bytes)
    (h5 : (c.maxLocals == mx && c.exceptionTable.isEmpty && decide (c.maxStack ≤ mostOperands) && decide (meth.sig.returnType = rt) && !meth.locks && decide (parseMethodDescriptor y.desc = some meth.sig)) = true) : (Jvm.Cond.code y bytes mx rt).before a s = true := by
  simp only [Bool.and_eq_true, beq_iff_eq, Bool.not_eq_true', decide_eq_true_eq] at h5
  obtain ⟨⟨⟨⟨⟨g1, g2⟩, g3⟩, g4⟩, g5⟩, g6⟩ := h5
  simp [Cond.before, Cond.holds, Cond.value, h1, h2, h3, h4, g1, g2, g3, g4, g5, g6]
def isCode : Jvm.Cond → Bool
  | .code _ _ _ _ => true
  | _ => false
theorem all_split {L : List Jvm.Cond} {P : Jvm.Cond → Bool} (h1 : L.all (fun c => isCode c || P c) = true) (h2 : ∀ c ∈ L.filter isCode, P c = true) : L.all P = true := by
  refine List.all_eq_true.mpr fun c hc => ?_
  have h := List.all_eq_true.mp h1 c hc
  rcases Bool.eq_false_or_eq_true (isCode c) with hi | hi
  · exact h2 c (List.mem_filter.mpr ⟨hc, hi⟩)
  · simpa [hi] using h
set_option maxRecDepth 65536 in
theorem w_c0 : (Jvm.Cond.code x code maxLocals ret).before args0 about1 = true := code_word (m := ⟨1, 4⟩) (meth := k1m4) (c := k1c4) (by decide +kernel) rfl rfl rfl (by decide +kernel)
set_option maxRecDepth 65536 in
theorem w_c1 : (Jvm.Cond.code ({ cls := "com/example/verify_markov_chains/verifymarkovchains/explicit/StateLayoutValuePinLaw", name := "lowOf", desc := "(J)I" } : Jvm.MethodName) method_2_code (2 : Nat) (Option.some Jvm.ClassFile.FieldType.int)).before args0 about1 = true := code_word (m := ⟨1, 1⟩) (meth := k1m1) (c := k1c1) (by decide +kernel) rfl rfl rfl (by decide +kernel)
set_option maxRecDepth 65536 in
theorem w_c2 : (Jvm.Cond.code ({ cls := "java/lang/Math", name := "min", desc := "(II)I" } : Jvm.MethodName) jdk_29_method_69_code (2 : Nat) (Option.some Jvm.ClassFile.FieldType.int)).before args0 about1 = true := code_word (m := ⟨2, 2⟩) (meth := k2m2) (c := k2c2) (by decide +kernel) rfl rfl rfl (by decide +kernel)
set_option maxRecDepth 65536 in
theorem w_c3 : (Jvm.Cond.code ({ cls := "com/example/verify_markov_chains/verifymarkovchains/explicit/StateLayoutValuePinLaw", name := "highOf", desc := "(J)I" } : Jvm.MethodName) method_3_code (2 : Nat) (Option.some Jvm.ClassFile.FieldType.int)).before args0 about1 = true := code_word (m := ⟨1, 2⟩) (meth := k1m2) (c := k1c2) (by decide +kernel) rfl rfl rfl (by decide +kernel)
set_option maxRecDepth 65536 in
theorem w_c4 : (Jvm.Cond.code ({ cls := "java/lang/Math", name := "max", desc := "(II)I" } : Jvm.MethodName) jdk_29_method_65_code (2 : Nat) (Option.some Jvm.ClassFile.FieldType.int)).before args0 about1 = true := code_word (m := ⟨2, 1⟩) (meth := k2m1) (c := k2c1) (by decide +kernel) rfl rfl rfl (by decide +kernel)
set_option maxRecDepth 65536 in
theorem w_c5 : (Jvm.Cond.code ({ cls := "com/example/verify_markov_chains/verifymarkovchains/explicit/StateLayoutValuePinLaw", name := "within", desc := "(IIJ)I" } : Jvm.MethodName) method_4_code (8 : Nat) (Option.some Jvm.ClassFile.FieldType.int)).before args0 about1 = true := code_word (m := ⟨1, 3⟩) (meth := k1m3) (c := k1c3) (by decide +kernel) rfl rfl rfl (by decide +kernel)
set_option maxRecDepth 65536 in
theorem w_c6 : (Jvm.Cond.code ({ cls := "java/util/ArrayList", name := "<init>", desc := "()V" } : Jvm.MethodName) jdk_38_method_2_code (1 : Nat) (Option.none : Option Jvm.ClassFile.FieldType)).before args0 about1 = true := code_word (m := ⟨12, 0⟩) (meth := k12m0) (c := k12c0) (by decide +kernel) rfl rfl rfl (by decide +kernel)
set_option maxRecDepth 65536 in
theorem w_c7 : (Jvm.Cond.code ({ cls := "java/util/AbstractList", name := "<init>", desc := "()V" } : Jvm.MethodName) jdk_39_method_1_code (1 : Nat) (Option.none : Option Jvm.ClassFile.FieldType)).before args0 about1 = true := code_word (m := ⟨8, 0⟩) (meth := k8m0) (c := k8c0) (by decide +kernel) rfl rfl rfl (by decide +kernel)
set_option maxRecDepth 65536 in
theorem w_c8 : (Jvm.Cond.code ({ cls := "java/util/AbstractCollection", name := "<init>", desc := "()V" } : Jvm.MethodName) jdk_22_method_1_code (1 : Nat) (Option.none : Option Jvm.ClassFile.FieldType)).before args0 about1 = true := code_word (m := ⟨5, 0⟩) (meth := k5m0) (c := k5c0) (by decide +kernel) rfl rfl rfl (by decide +kernel)
set_option maxRecDepth 65536 in
theorem w_c9 : (Jvm.Cond.code ({ cls := "java/lang/Object", name := "<init>", desc := "()V" } : Jvm.MethodName) object_method_1_code (1 : Nat) (Option.none : Option Jvm.ClassFile.FieldType)).before args0 about1 = true := code_word (m := ⟨0, 0⟩) (meth := k0m0) (c := k0c0) (by decide +kernel) rfl rfl rfl (by decide +kernel)
set_option maxRecDepth 65536 in
theorem w_c10 : (Jvm.Cond.code ({ cls := "com/example/verify_markov_chains/verifymarkovchains/model/Variable", name := "ofInt", desc := "(Ljava/lang/String;III)Lcom/example/verify_markov_chains/verifymarkovchains/model/Variable;" } : Jvm.MethodName) prog_119_method_1_code (4 : Nat) (Option.some (Jvm.ClassFile.FieldType.object "com/example/verify_markov_chains/verifymarkovchains/model/Variable"))).before args0 about1 = true := code_word (m := ⟨18, 0⟩) (meth := k18m0) (c := k18c0) (by decide +kernel) rfl rfl rfl (by decide +kernel)
set_option maxRecDepth 65536 in
theorem w_c11 : (Jvm.Cond.code ({ cls := "com/example/verify_markov_chains/verifymarkovchains/model/Variable", name := "<init>", desc := "(Ljava/lang/String;Lcom/example/verify_markov_chains/verifymarkovchains/expression/Type;IIILjava/util/List;Lcom/example/verify_markov_chains/verifymarkovchains/numeric/Rational;Lcom/example/verify_markov_chains/verifymarkovchains/numeric/Rational;Lcom/example/verify_markov_chains/verifymarkovchains/numeric/Rational;)V" } : Jvm.MethodName) prog_119_method_5_code (10 : Nat) (Option.none : Option Jvm.ClassFile.FieldType)).before args0 about1 = true := code_word (m := ⟨18, 3⟩) (meth := k18m3) (c := k18c3) (by decide +kernel) rfl rfl rfl (by decide +kernel)
set_option maxRecDepth 65536 in
theorem w_c12 : (Jvm.Cond.code ({ cls := "java/util/ArrayList", name := "add", desc := "(Ljava/lang/Object;)Z" } : Jvm.MethodName) jdk_38_method_25_code (2 : Nat) (Option.some Jvm.ClassFile.FieldType.boolean)).before args0 about1 = true := code_word (m := ⟨12, 7⟩) (meth := k12m7) (c := k12c7) (by decide +kernel) rfl rfl rfl (by decide +kernel)
set_option maxRecDepth 65536 in
theorem w_c13 : (Jvm.Cond.code ({ cls := "java/util/ArrayList", name := "add", desc := "(Ljava/lang/Object;[Ljava/lang/Object;I)V" } : Jvm.MethodName) jdk_38_method_24_code (4 : Nat) (Option.none : Option Jvm.ClassFile.FieldType)).before args0 about1 = true := code_word (m := ⟨12, 6⟩) (meth := k12m6) (c := k12c6) (by decide +kernel) rfl rfl rfl (by decide +kernel)
set_option maxRecDepth 65536 in
theorem w_c14 : (Jvm.Cond.code ({ cls := "java/util/ArrayList", name := "grow", desc := "()[Ljava/lang/Object;" } : Jvm.MethodName) jdk_38_method_7_code (1 : Nat) (Option.some (Jvm.ClassFile.FieldType.array (Jvm.ClassFile.FieldType.object "java/lang/Object")))).before args0 about1 = true := code_word (m := ⟨12, 2⟩) (meth := k12m2) (c := k12c2) (by decide +kernel) rfl rfl rfl (by decide +kernel)
set_option maxRecDepth 65536 in
theorem w_c15 : (Jvm.Cond.code ({ cls := "java/util/ArrayList", name := "grow", desc := "(I)[Ljava/lang/Object;" } : Jvm.MethodName) jdk_38_method_6_code (4 : Nat) (Option.some (Jvm.ClassFile.FieldType.array (Jvm.ClassFile.FieldType.object "java/lang/Object")))).before args0 about1 = true := code_word (m := ⟨12, 1⟩) (meth := k12m1) (c := k12c1) (by decide +kernel) rfl rfl rfl (by decide +kernel)
set_option maxRecDepth 65536 in
theorem w_c16 : (Jvm.Cond.code ({ cls := "com/example/verify_markov_chains/verifymarkovchains/model/Variable", name := "ofReal", desc := "(Ljava/lang/String;Lcom/example/verify_markov_chains/verifymarkovchains/numeric/Rational;Lcom/example/verify_markov_chains/verifymarkovchains/numeric/Rational;Lcom/example/verify_markov_chains/verifymarkovchains/numeric/Rational;)Lcom/example/verify_markov_chains/verifymarkovchains/model/Variable;" } : Jvm.MethodName) prog_119_method_4_code (5 : Nat) (Option.some (Jvm.ClassFile.FieldType.object "com/example/verify_markov_chains/verifymarkovchains/model/Variable"))).before args0 about1 = true := code_word (m := ⟨18, 2⟩) (meth := k18m2) (c := k18c2) (by decide +kernel) rfl rfl rfl (by decide +kernel)
set_option maxRecDepth 65536 in
theorem w_c17 : (Jvm.Cond.code ({ cls := "com/example/verify_markov_chains/verifymarkovchains/model/Variable", name := "admits", desc := "(Lcom/example/verify_markov_chains/verifymarkovchains/numeric/Rational;)Z" } : Jvm.MethodName) prog_119_method_12_code (2 : Nat) (Option.some Jvm.ClassFile.FieldType.boolean)).before args0 about1 = true := code_word (m := ⟨18, 7⟩) (meth := k18m7) (c := k18c7) (by decide +kernel) rfl rfl rfl (by decide +kernel)
set_option maxRecDepth 65536 in
theorem w_c18 : (Jvm.Cond.code ({ cls := "com/example/verify_markov_chains/verifymarkovchains/explicit/StateLayout", name := "<init>", desc := "(Ljava/util/List;)V" } : Jvm.MethodName) prog_51_method_1_code (9 : Nat) (Option.none : Option Jvm.ClassFile.FieldType)).before args0 about1 = true := code_word (m := ⟨22, 0⟩) (meth := k22m0) (c := k22c0) (by decide +kernel) rfl rfl rfl (by decide +kernel)
set_option maxRecDepth 65536 in
theorem w_c19 : (Jvm.Cond.code ({ cls := "java/util/ArrayList", name := "size", desc := "()I" } : Jvm.MethodName) jdk_38_method_8_code (1 : Nat) (Option.some Jvm.ClassFile.FieldType.int)).before args0 about1 = true := code_word (m := ⟨12, 3⟩) (meth := k12m3) (c := k12c3) (by decide +kernel) rfl rfl rfl (by decide +kernel)
set_option maxRecDepth 65536 in
theorem w_c20 : (Jvm.Cond.code ({ cls := "java/util/ArrayList", name := "get", desc := "(I)Ljava/lang/Object;" } : Jvm.MethodName) jdk_38_method_20_code (2 : Nat) (Option.some (Jvm.ClassFile.FieldType.object "java/lang/Object"))).before args0 about1 = true := code_word (m := ⟨12, 5⟩) (meth := k12m5) (c := k12c5) (by decide +kernel) rfl rfl rfl (by decide +kernel)
set_option maxRecDepth 65536 in
theorem w_c21 : (Jvm.Cond.code ({ cls := "java/util/Objects", name := "checkIndex", desc := "(II)I" } : Jvm.MethodName) jdk_31_method_17_code (2 : Nat) (Option.some Jvm.ClassFile.FieldType.int)).before args0 about1 = true := code_word (m := ⟨23, 1⟩) (meth := k23m1) (c := k23c1) (by decide +kernel) rfl rfl rfl (by decide +kernel)
set_option maxRecDepth 65536 in
theorem w_c22 : (Jvm.Cond.code ({ cls := "jdk/internal/util/Preconditions", name := "checkIndex", desc := "(IILjava/util/function/BiFunction;)I" } : Jvm.MethodName) jdk_41_method_11_code (3 : Nat) (Option.some Jvm.ClassFile.FieldType.int)).before args0 about1 = true := code_word (m := ⟨24, 1⟩) (meth := k24m1) (c := k24c1) (by decide +kernel) rfl rfl rfl (by decide +kernel)
set_option maxRecDepth 65536 in
theorem w_c23 : (Jvm.Cond.code ({ cls := "java/util/ArrayList", name := "elementData", desc := "(I)Ljava/lang/Object;" } : Jvm.MethodName) jdk_38_method_18_code (2 : Nat) (Option.some (Jvm.ClassFile.FieldType.object "java/lang/Object"))).before args0 about1 = true := code_word (m := ⟨12, 4⟩) (meth := k12m4) (c := k12c4) (by decide +kernel) rfl rfl rfl (by decide +kernel)
set_option maxRecDepth 65536 in
theorem w_c24 : (Jvm.Cond.code ({ cls := "com/example/verify_markov_chains/verifymarkovchains/explicit/StateLayout", name := "bitsOf", desc := "(Lcom/example/verify_markov_chains/verifymarkovchains/model/Variable;)I" } : Jvm.MethodName) prog_51_method_2_code (3 : Nat) (Option.some Jvm.ClassFile.FieldType.int)).before args0 about1 = true := code_word (m := ⟨22, 1⟩) (meth := k22m1) (c := k22c1) (by decide +kernel) rfl rfl rfl (by decide +kernel)
set_option maxRecDepth 65536 in
theorem w_c25 : (Jvm.Cond.code ({ cls := "com/example/verify_markov_chains/verifymarkovchains/model/Variable", name := "getType", desc := "()Lcom/example/verify_markov_chains/verifymarkovchains/expression/Type;" } : Jvm.MethodName) prog_119_method_7_code (1 : Nat) (Option.some (Jvm.ClassFile.FieldType.object "com/example/verify_markov_chains/verifymarkovchains/expression/Type"))).before args0 about1 = true := code_word (m := ⟨18, 4⟩) (meth := k18m4) (c := k18c4) (by decide +kernel) rfl rfl rfl (by decide +kernel)
set_option maxRecDepth 65536 in
theorem w_c26 : (Jvm.Cond.code ({ cls := "com/example/verify_markov_chains/verifymarkovchains/model/Variable", name := "getUpper", desc := "()I" } : Jvm.MethodName) prog_119_method_9_code (1 : Nat) (Option.some Jvm.ClassFile.FieldType.int)).before args0 about1 = true := code_word (m := ⟨18, 6⟩) (meth := k18m6) (c := k18c6) (by decide +kernel) rfl rfl rfl (by decide +kernel)
set_option maxRecDepth 65536 in
theorem w_c27 : (Jvm.Cond.code ({ cls := "com/example/verify_markov_chains/verifymarkovchains/model/Variable", name := "getLower", desc := "()I" } : Jvm.MethodName) prog_119_method_8_code (1 : Nat) (Option.some Jvm.ClassFile.FieldType.int)).before args0 about1 = true := code_word (m := ⟨18, 5⟩) (meth := k18m5) (c := k18c5) (by decide +kernel) rfl rfl rfl (by decide +kernel)
set_option maxRecDepth 65536 in
theorem w_c28 : (Jvm.Cond.code ({ cls := "java/lang/Long", name := "numberOfLeadingZeros", desc := "(J)I" } : Jvm.MethodName) jdk_35_method_48_code (3 : Nat) (Option.some Jvm.ClassFile.FieldType.int)).before args0 about1 = true := code_word (m := ⟨26, 0⟩) (meth := k26m0) (c := k26c0) (by decide +kernel) rfl rfl rfl (by decide +kernel)
set_option maxRecDepth 65536 in
theorem w_c29 : (Jvm.Cond.code ({ cls := "java/lang/Integer", name := "numberOfLeadingZeros", desc := "(I)I" } : Jvm.MethodName) jdk_33_method_47_code (2 : Nat) (Option.some Jvm.ClassFile.FieldType.int)).before args0 about1 = true := code_word (m := ⟨27, 0⟩) (meth := k27m0) (c := k27c0) (by decide +kernel) rfl rfl rfl (by decide +kernel)
set_option maxRecDepth 65536 in
theorem w_c30 : (Jvm.Cond.code ({ cls := "com/example/verify_markov_chains/verifymarkovchains/explicit/StateLayout", name := "pack", desc := "([I[JI)V" } : Jvm.MethodName) prog_51_method_4_code (7 : Nat) (Option.none : Option Jvm.ClassFile.FieldType)).before args0 about1 = true := code_word (m := ⟨22, 2⟩) (meth := k22m2) (c := k22c2) (by decide +kernel) rfl rfl rfl (by decide +kernel)
set_option maxRecDepth 65536 in
theorem w_c31 : (Jvm.Cond.code ({ cls := "java/util/Arrays", name := "fill", desc := "([JIIJ)V" } : Jvm.MethodName) jdk_65_method_102_code (6 : Nat) (Option.none : Option Jvm.ClassFile.FieldType)).before args0 about1 = true := code_word (m := ⟨28, 2⟩) (meth := k28m2) (c := k28c2) (by decide +kernel) rfl rfl rfl (by decide +kernel)
set_option maxRecDepth 65536 in
theorem w_c32 : (Jvm.Cond.code ({ cls := "java/util/Arrays", name := "rangeCheck", desc := "(III)V" } : Jvm.MethodName) jdk_65_method_30_code (3 : Nat) (Option.none : Option Jvm.ClassFile.FieldType)).before args0 about1 = true := code_word (m := ⟨28, 1⟩) (meth := k28m1) (c := k28c1) (by decide +kernel) rfl rfl rfl (by decide +kernel)
set_option maxRecDepth 65536 in
theorem w_c33 : (Jvm.Cond.code ({ cls := "com/example/verify_markov_chains/verifymarkovchains/explicit/StateLayout", name := "value", desc := "([JII)I" } : Jvm.MethodName) prog_51_method_5_code (6 : Nat) (Option.some Jvm.ClassFile.FieldType.int)).before args0 about1 = true := code_word (m := ⟨22, 3⟩) (meth := k22m3) (c := k22c3) (by decide +kernel) rfl rfl rfl (by decide +kernel)
set_option maxRecDepth 65536 in
theorem w_c34 : (Jvm.Cond.code ({ cls := "com/example/verify_markov_chains/verifymarkovchains/model/Variable", name := "ofBool", desc := "(Ljava/lang/String;Z)Lcom/example/verify_markov_chains/verifymarkovchains/model/Variable;" } : Jvm.MethodName) prog_119_method_2_code (2 : Nat) (Option.some (Jvm.ClassFile.FieldType.object "com/example/verify_markov_chains/verifymarkovchains/model/Variable"))).before args0 about1 = true := code_word (m := ⟨18, 1⟩) (meth := k18m1) (c := k18c1) (by decide +kernel) rfl rfl rfl (by decide +kernel)
def codes1 : List Jvm.Cond := [Jvm.Cond.code x code maxLocals ret, Jvm.Cond.code ({ cls := "com/example/verify_markov_chains/verifymarkovchains/explicit/StateLayoutValuePinLaw", name := "lowOf", desc := "(J)I" } : Jvm.MethodName) method_2_code (2 : Nat) (Option.some Jvm.ClassFile.FieldType.int), Jvm.Cond.code ({ cls := "java/lang/Math", name := "min", desc := "(II)I" } : Jvm.MethodName) jdk_29_method_69_code (2 : Nat) (Option.some Jvm.ClassFile.FieldType.int), Jvm.Cond.code ({ cls := "com/example/verify_markov_chains/verifymarkovchains/explicit/StateLayoutValuePinLaw", name := "highOf", desc := "(J)I" } : Jvm.MethodName) method_3_code (2 : Nat) (Option.some Jvm.ClassFile.FieldType.int), Jvm.Cond.code ({ cls := "java/lang/Math", name := "max", desc := "(II)I" } : Jvm.MethodName) jdk_29_method_65_code (2 : Nat) (Option.some Jvm.ClassFile.FieldType.int), Jvm.Cond.code ({ cls := "com/example/verify_markov_chains/verifymarkovchains/explicit/StateLayoutValuePinLaw", name := "within", desc := "(IIJ)I" } : Jvm.MethodName) method_4_code (8 : Nat) (Option.some Jvm.ClassFile.FieldType.int), Jvm.Cond.code ({ cls := "java/util/ArrayList", name := "<init>", desc := "()V" } : Jvm.MethodName) jdk_38_method_2_code (1 : Nat) (Option.none : Option Jvm.ClassFile.FieldType), Jvm.Cond.code ({ cls := "java/util/AbstractList", name := "<init>", desc := "()V" } : Jvm.MethodName) jdk_39_method_1_code (1 : Nat) (Option.none : Option Jvm.ClassFile.FieldType), Jvm.Cond.code ({ cls := "java/util/AbstractCollection", name := "<init>", desc := "()V" } : Jvm.MethodName) jdk_22_method_1_code (1 : Nat) (Option.none : Option Jvm.ClassFile.FieldType), Jvm.Cond.code ({ cls := "java/lang/Object", name := "<init>", desc := "()V" } : Jvm.MethodName) object_method_1_code (1 : Nat) (Option.none : Option Jvm.ClassFile.FieldType), Jvm.Cond.code ({ cls := "com/example/verify_markov_chains/verifymarkovchains/model/Variable", name := "ofInt", desc := "(Ljava/lang/String;III)Lcom/example/verify_markov_chains/verifymarkovchains/model/Variable;" } : Jvm.MethodName) prog_119_method_1_code (4 : Nat) (Option.some (Jvm.ClassFile.FieldType.object "com/example/verify_markov_chains/verifymarkovchains/model/Variable")), Jvm.Cond.code ({ cls := "com/example/verify_markov_chains/verifymarkovchains/model/Variable", name := "<init>", desc := "(Ljava/lang/String;Lcom/example/verify_markov_chains/verifymarkovchains/expression/Type;IIILjava/util/List;Lcom/example/verify_markov_chains/verifymarkovchains/numeric/Rational;Lcom/example/verify_markov_chains/verifymarkovchains/numeric/Rational;Lcom/example/verify_markov_chains/verifymarkovchains/numeric/Rational;)V" } : Jvm.MethodName) prog_119_method_5_code (10 : Nat) (Option.none : Option Jvm.ClassFile.FieldType), Jvm.Cond.code ({ cls := "java/util/ArrayList", name := "add", desc := "(Ljava/lang/Object;)Z" } : Jvm.MethodName) jdk_38_method_25_code (2 : Nat) (Option.some Jvm.ClassFile.FieldType.boolean), Jvm.Cond.code ({ cls := "java/util/ArrayList", name := "add", desc := "(Ljava/lang/Object;[Ljava/lang/Object;I)V" } : Jvm.MethodName) jdk_38_method_24_code (4 : Nat) (Option.none : Option Jvm.ClassFile.FieldType), Jvm.Cond.code ({ cls := "java/util/ArrayList", name := "grow", desc := "()[Ljava/lang/Object;" } : Jvm.MethodName) jdk_38_method_7_code (1 : Nat) (Option.some (Jvm.ClassFile.FieldType.array (Jvm.ClassFile.FieldType.object "java/lang/Object"))), Jvm.Cond.code ({ cls := "java/util/ArrayList", name := "grow", desc := "(I)[Ljava/lang/Object;" } : Jvm.MethodName) jdk_38_method_6_code (4 : Nat) (Option.some (Jvm.ClassFile.FieldType.array (Jvm.ClassFile.FieldType.object "java/lang/Object"))), Jvm.Cond.code ({ cls := "com/example/verify_markov_chains/verifymarkovchains/model/Variable", name := "ofReal", desc := "(Ljava/lang/String;Lcom/example/verify_markov_chains/verifymarkovchains/numeric/Rational;Lcom/example/verify_markov_chains/verifymarkovchains/numeric/Rational;Lcom/example/verify_markov_chains/verifymarkovchains/numeric/Rational;)Lcom/example/verify_markov_chains/verifymarkovchains/model/Variable;" } : Jvm.MethodName) prog_119_method_4_code (5 : Nat) (Option.some (Jvm.ClassFile.FieldType.object "com/example/verify_markov_chains/verifymarkovchains/model/Variable")), Jvm.Cond.code ({ cls := "com/example/verify_markov_chains/verifymarkovchains/model/Variable", name := "admits", desc := "(Lcom/example/verify_markov_chains/verifymarkovchains/numeric/Rational;)Z" } : Jvm.MethodName) prog_119_method_12_code (2 : Nat) (Option.some Jvm.ClassFile.FieldType.boolean), Jvm.Cond.code ({ cls := "com/example/verify_markov_chains/verifymarkovchains/explicit/StateLayout", name := "<init>", desc := "(Ljava/util/List;)V" } : Jvm.MethodName) prog_51_method_1_code (9 : Nat) (Option.none : Option Jvm.ClassFile.FieldType), Jvm.Cond.code ({ cls := "java/util/ArrayList", name := "size", desc := "()I" } : Jvm.MethodName) jdk_38_method_8_code (1 : Nat) (Option.some Jvm.ClassFile.FieldType.int), Jvm.Cond.code ({ cls := "java/util/ArrayList", name := "get", desc := "(I)Ljava/lang/Object;" } : Jvm.MethodName) jdk_38_method_20_code (2 : Nat) (Option.some (Jvm.ClassFile.FieldType.object "java/lang/Object")), Jvm.Cond.code ({ cls := "java/util/Objects", name := "checkIndex", desc := "(II)I" } : Jvm.MethodName) jdk_31_method_17_code (2 : Nat) (Option.some Jvm.ClassFile.FieldType.int), Jvm.Cond.code ({ cls := "jdk/internal/util/Preconditions", name := "checkIndex", desc := "(IILjava/util/function/BiFunction;)I" } : Jvm.MethodName) jdk_41_method_11_code (3 : Nat) (Option.some Jvm.ClassFile.FieldType.int), Jvm.Cond.code ({ cls := "java/util/ArrayList", name := "elementData", desc := "(I)Ljava/lang/Object;" } : Jvm.MethodName) jdk_38_method_18_code (2 : Nat) (Option.some (Jvm.ClassFile.FieldType.object "java/lang/Object")), Jvm.Cond.code ({ cls := "com/example/verify_markov_chains/verifymarkovchains/explicit/StateLayout", name := "bitsOf", desc := "(Lcom/example/verify_markov_chains/verifymarkovchains/model/Variable;)I" } : Jvm.MethodName) prog_51_method_2_code (3 : Nat) (Option.some Jvm.ClassFile.FieldType.int), Jvm.Cond.code ({ cls := "com/example/verify_markov_chains/verifymarkovchains/model/Variable", name := "getType", desc := "()Lcom/example/verify_markov_chains/verifymarkovchains/expression/Type;" } : Jvm.MethodName) prog_119_method_7_code (1 : Nat) (Option.some (Jvm.ClassFile.FieldType.object "com/example/verify_markov_chains/verifymarkovchains/expression/Type")), Jvm.Cond.code ({ cls := "com/example/verify_markov_chains/verifymarkovchains/model/Variable", name := "getUpper", desc := "()I" } : Jvm.MethodName) prog_119_method_9_code (1 : Nat) (Option.some Jvm.ClassFile.FieldType.int), Jvm.Cond.code ({ cls := "com/example/verify_markov_chains/verifymarkovchains/model/Variable", name := "getLower", desc := "()I" } : Jvm.MethodName) prog_119_method_8_code (1 : Nat) (Option.some Jvm.ClassFile.FieldType.int), Jvm.Cond.code ({ cls := "java/lang/Long", name := "numberOfLeadingZeros", desc := "(J)I" } : Jvm.MethodName) jdk_35_method_48_code (3 : Nat) (Option.some Jvm.ClassFile.FieldType.int), Jvm.Cond.code ({ cls := "java/lang/Integer", name := "numberOfLeadingZeros", desc := "(I)I" } : Jvm.MethodName) jdk_33_method_47_code (2 : Nat) (Option.some Jvm.ClassFile.FieldType.int), Jvm.Cond.code ({ cls := "com/example/verify_markov_chains/verifymarkovchains/explicit/StateLayout", name := "pack", desc := "([I[JI)V" } : Jvm.MethodName) prog_51_method_4_code (7 : Nat) (Option.none : Option Jvm.ClassFile.FieldType), Jvm.Cond.code ({ cls := "java/util/Arrays", name := "fill", desc := "([JIIJ)V" } : Jvm.MethodName) jdk_65_method_102_code (6 : Nat) (Option.none : Option Jvm.ClassFile.FieldType), Jvm.Cond.code ({ cls := "java/util/Arrays", name := "rangeCheck", desc := "(III)V" } : Jvm.MethodName) jdk_65_method_30_code (3 : Nat) (Option.none : Option Jvm.ClassFile.FieldType), Jvm.Cond.code ({ cls := "com/example/verify_markov_chains/verifymarkovchains/explicit/StateLayout", name := "value", desc := "([JII)I" } : Jvm.MethodName) prog_51_method_5_code (6 : Nat) (Option.some Jvm.ClassFile.FieldType.int), Jvm.Cond.code ({ cls := "com/example/verify_markov_chains/verifymarkovchains/model/Variable", name := "ofBool", desc := "(Ljava/lang/String;Z)Lcom/example/verify_markov_chains/verifymarkovchains/model/Variable;" } : Jvm.MethodName) prog_119_method_2_code (2 : Nat) (Option.some (Jvm.ClassFile.FieldType.object "com/example/verify_markov_chains/verifymarkovchains/model/Variable"))]
set_option maxRecDepth 65536 in
theorem codes_eq : words1.filter isCode = codes1 := rfl
theorem w_codes : ∀ c ∈ words1.filter isCode, c.before args0 about1 = true := by
  rw [codes_eq]
  intro c hc
  simp only [codes1, List.mem_cons, List.not_mem_nil, or_false] at hc
  rcases hc with rfl | rfl | rfl | rfl | rfl | rfl | rfl | rfl | rfl | rfl | rfl | rfl | rfl | rfl | rfl | rfl | rfl | rfl | rfl | rfl | rfl | rfl | rfl | rfl | rfl | rfl | rfl | rfl | rfl | rfl | rfl | rfl | rfl | rfl | rfl
  · exact w_c0
  · exact w_c1
  · exact w_c2
  · exact w_c3
  · exact w_c4
  · exact w_c5
  · exact w_c6
  · exact w_c7
  · exact w_c8
  · exact w_c9
  · exact w_c10
  · exact w_c11
  · exact w_c12
  · exact w_c13
  · exact w_c14
  · exact w_c15
  · exact w_c16
  · exact w_c17
  · exact w_c18
  · exact w_c19
  · exact w_c20
  · exact w_c21
  · exact w_c22
  · exact w_c23
  · exact w_c24
  · exact w_c25
  · exact w_c26
  · exact w_c27
  · exact w_c28
  · exact w_c29
  · exact w_c30
  · exact w_c31
  · exact w_c32
  · exact w_c33
  · exact w_c34
set_option maxRecDepth 65536 in
theorem w_t1 : (words1.take 24).all (fun c => isCode c || c.before args0 about1) = true := by decide +kernel
set_option maxRecDepth 65536 in
theorem w_t2 : ((words1.drop 24).take 24).all (fun c => isCode c || c.before args0 about1) = true := by decide +kernel
set_option maxRecDepth 65536 in
theorem w_t3 : (((words1.drop 24).drop 24).take 24).all (fun c => isCode c || c.before args0 about1) = true := by decide +kernel
set_option maxRecDepth 65536 in
theorem w_t4 : ((((words1.drop 24).drop 24).drop 24).take 24).all (fun c => isCode c || c.before args0 about1) = true := by decide +kernel
set_option maxRecDepth 65536 in
theorem w_t5 : (((((words1.drop 24).drop 24).drop 24).drop 24).take 24).all (fun c => isCode c || c.before args0 about1) = true := by decide +kernel
set_option maxRecDepth 65536 in
theorem w_t6 : ((((((words1.drop 24).drop 24).drop 24).drop 24).drop 24).take 24).all (fun c => isCode c || c.before args0 about1) = true := by decide +kernel
set_option maxRecDepth 65536 in
theorem w_t7 : (((((((words1.drop 24).drop 24).drop 24).drop 24).drop 24).drop 24).take 24).all (fun c => isCode c || c.before args0 about1) = true := by decide +kernel
set_option maxRecDepth 65536 in
theorem w_t8 : ((((((((words1.drop 24).drop 24).drop 24).drop 24).drop 24).drop 24).drop 24).take 24).all (fun c => isCode c || c.before args0 about1) = true := by decide +kernel
set_option maxRecDepth 65536 in
theorem w_t9 : (((((((((words1.drop 24).drop 24).drop 24).drop 24).drop 24).drop 24).drop 24).drop 24).take 24).all (fun c => isCode c || c.before args0 about1) = true := by decide +kernel
set_option maxRecDepth 65536 in
theorem w_t10 : (((((((((words1.drop 24).drop 24).drop 24).drop 24).drop 24).drop 24).drop 24).drop 24).drop 24).all (fun c => isCode c || c.before args0 about1) = true := by decide +kernel
theorem w_tables : (allAtoms (Jvm.Cond.code x code maxLocals ret :: tables_1)).before args0 about1 = true := by
  rw [allAtoms_all]
  show words1.all (fun c => c.before args0 about1) = true
  refine all_split ?_ w_codes
  rw [← List.take_append_drop 24 words1, List.all_append, w_t1, ← List.take_append_drop 24 (words1.drop 24), List.all_append, w_t2, ← List.take_append_drop 24 ((words1.drop 24).drop 24), List.all_append, w_t3, ← List.take_append_drop 24 (((words1.drop 24).drop 24).drop 24), List.all_append, w_t4, ← List.take_append_drop 24 ((((words1.drop 24).drop 24).drop 24).drop 24), List.all_append, w_t5, ← List.take_append_drop 24 (((((words1.drop 24).drop 24).drop 24).drop 24).drop 24), List.all_append, w_t6, ← List.take_append_drop 24 ((((((words1.drop 24).drop 24).drop 24).drop 24).drop 24).drop 24), List.all_append, w_t7, ← List.take_append_drop 24 (((((((words1.drop 24).drop 24).drop 24).drop 24).drop 24).drop 24).drop 24), List.all_append, w_t8, ← List.take_append_drop 24 ((((((((words1.drop 24).drop 24).drop 24).drop 24).drop 24).drop 24).drop 24).drop 24), List.all_append, w_t9, w_t10]
  rfl
set_option maxRecDepth 65536 in
theorem w_rest : rest_1_c.before args0 about1 = true := by decide +kernel
set_option maxRecDepth 65536 in
theorem w_case : (Jvm.Cond.and given_1 narrow_1).before args0 about1 = true := by decide +kernel
theorem w_applies : (headSpec (Jvm.Cond.code x code maxLocals ret :: tables_1) room_1).applies x e0.platform about1 = true :=
  (Spec.applies_iff w_frames).mpr ⟨w_running, w_runnable, w_alone, w_named, w_hears, w_ripe, w_room, w_tables⟩
theorem atStart : AtStart classFile x code maxLocals ret World_1 tables_1 room_1 Calls_1 rest_1 Pre_1 launch0 p0 e0 about1 theMethod args0 below0 :=
  ⟨lists_1, trivial, launch0.admits_env _ _ _, launch0.least_env, fairChoices_fair.cas, fairChoices_fair.clock, w_frames, w_args, w_heap, w_applies, trivial, w_rest, w_case⟩
end start1
theorem witness_1 : WitnessClaimed_1 := ⟨start1.p0, start1.e0, start1.about1, start1.theMethod, start1.args0, start1.below0, start1.atStart⟩
end Jvm.Pilot.@@N@@
