import JvmDerived
import JvmDerived.Pilot.@@N@@Statement
import JvmDerived.Pilot.@@N@@Code
set_option linter.unusedVariables false
set_option linter.unusedSimpArgs false
namespace Jvm.RoadKit
open Sem ClassFile Op Lib Jvm.Stand Jvm.Free Jvm.LawKit
section Own
variable {p : Program} {l : Launch} {e : Env} {R : Room} {s : State} {m : MethodId} {args : Array Value} {below : List Frame} {meth : Method} {c : Code} {T : State} {locs : List Loc} {cells slots : Nat}
/-- from the state S the run comes to the end of this invocation, and Q says what it returned and left -/
def Dn (p : Program) (e : Env) (below : List Frame) (s : State) (Q : Option Value → Heap → List Loc → Prop) (k n : Nat) (S : State) : Prop :=
  ∃ U o, Steps p.tables e below S U ∧ U.status = .running ∧ Ended U below o ∧ ∃ v L, o = .returned v ∧ Q v U.heap L ∧ FrameEnd s o U L k n
variable {Q Q' : Option Value → Heap → List Loc → Prop} {k n : Nat} {S S' : State} {Z : State} {a0 : Array Value} {h : Heap}
theorem Dn.of (w : ∀ t, Steps p.tables e below S' t → Steps p.tables e below S t) (d : Dn p e below s Q k n S') : Dn p e below s Q k n S := by
  obtain ⟨U, o, st, r⟩ := d
  exact ⟨U, o, w U st, r⟩
theorem Dn.cast {g g' : JFrame} (q : g = g') (d : Dn p e below s Q k n (T.setTop g')) : Dn p e below s Q k n (T.setTop g) := q ▸ d
theorem Dn.ret (X : Stand p l e R s m args below meth c T locs cells slots) (hx : p.tables.exec = Jvm.exec) (hlk : meth.locks = false) {pc : Nat} {Ls : Array Slot} {w : Value} {t : FieldType} {i : Instr} {rest : List Value} (hret : meth.sig.returnType = some t) (hn : narrow t w = w)
    (hi : (i = .ireturn ∧ (t = .int ∨ t = .boolean ∨ t = .byte ∨ t = .char ∨ t = .short) ∧ ∃ z, w = .int z) ∨ (i = .lreturn ∧ t = .long ∧ ∃ z, w = .long z) ∨ (i = .dreturn ∧ t = .double ∧ ∃ z, w = .double z) ∨ (i = .freturn ∧ t = .float ∧ ∃ z, w = .float z) ∨ (i = .areturn ∧ t.isReference = true ∧ w.isRef = true))
    (hd : decode c.code pc = .ok (i, 1)) (hk : cells ≤ k) (hs : slots ≤ n) (hQ : Q (some w) T.heap locs) : Dn p e below s Q k n (T.setTop (mkF m pc Ls (w :: rest))) := by
  obtain ⟨fs, hr, hrun, hended, hW, hsame⟩ := X.leave (v := some w) (fun q => by rw [hret] at q; cases q) hlk
  exact ⟨_, _, retOut X hx hret hn hi hd hr, hrun, hended, _, _, rfl, hQ, ⟨_, rfl⟩, hW, hsame.mono hk hs⟩
theorem Dn.retI (X : Stand p l e R s m args below meth c T locs cells slots) (hx : p.tables.exec = Jvm.exec) (hlk : meth.locks = false) {pc : Nat} {Ls : Array Slot} {z : Int32} {rest : List Value} (hret : meth.sig.returnType = some .int)
    (hd : decode c.code pc = .ok (.ireturn, 1)) (hk : cells ≤ k) (hs : slots ≤ n) (hQ : Q (some (.int z)) T.heap locs) : Dn p e below s Q k n (T.setTop (mkF m pc Ls (.int z :: rest))) :=
  Dn.ret X hx hlk hret rfl (Or.inl ⟨rfl, Or.inl rfl, z, rfl⟩) hd hk hs hQ
theorem Dn.retA (X : Stand p l e R s m args below meth c T locs cells slots) (hx : p.tables.exec = Jvm.exec) (hlk : meth.locks = false) {pc : Nat} {Ls : Array Slot} {w : Value} {t : FieldType} {rest : List Value} (hret : meth.sig.returnType = some t) (ht : t.isReference = true) (hw : w.isRef = true)
    (hd : decode c.code pc = .ok (.areturn, 1)) (hk : cells ≤ k) (hs : slots ≤ n) (hQ : Q (some w) T.heap locs) : Dn p e below s Q k n (T.setTop (mkF m pc Ls (w :: rest))) :=
  Dn.ret X hx hlk hret (by cases t <;> simp [FieldType.isReference] at ht <;> rcases ref_cases hw with rfl | ⟨a, rfl⟩ <;> rfl) (Or.inr (Or.inr (Or.inr (Or.inr ⟨rfl, ht, hw⟩)))) hd hk hs hQ
theorem Dn.retN (X : Stand p l e R s m args below meth c T locs cells slots) (hx : p.tables.exec = Jvm.exec) (hlk : meth.locks = false) {pc : Nat} {Ls : Array Slot} {z : Int32} {t : FieldType} {rest : List Value} (hret : meth.sig.returnType = some t) (ht : t = .boolean ∨ t = .byte ∨ t = .char ∨ t = .short)
    (hd : decode c.code pc = .ok (.ireturn, 1)) (hk : cells ≤ k) (hs : slots ≤ n) (hQ : Q (some (.int (nar t z))) T.heap locs) : Dn p e below s Q k n (T.setTop (mkF m pc Ls (.int z :: rest))) := by
  obtain ⟨fs, hr, hrun, hended, hW, hsame⟩ := X.leave (v := some (.int (nar t z))) (fun q => by rw [hret] at q; cases q) hlk
  exact ⟨_, _, Jvm.RoadKit.retN X hx hret ht hd hr, hrun, hended, _, _, rfl, hQ, ⟨_, rfl⟩, hW, hsame.mono hk hs⟩
theorem Dn.retV (X : Stand p l e R s m args below meth c T locs cells slots) (hx : p.tables.exec = Jvm.exec) (hlk : meth.locks = false) {pc : Nat} {Ls : Array Slot} (hret : meth.sig.returnType = none)
    (hd : decode c.code pc = .ok (.return_, 1)) (hk : cells ≤ k) (hs : slots ≤ n) (hQ : Q none T.heap locs) : Dn p e below s Q k n (T.setTop (mkF m pc Ls [])) := by
  obtain ⟨fs, hr, hrun, hended, hW, hsame⟩ := X.leave (v := none) (fun _ => rfl) hlk
  exact ⟨_, _, X.returnOut hx hret hd hr, hrun, hended, _, _, rfl, hQ, ⟨_, rfl⟩, hW, hsame.mono hk hs⟩
/-- a body's contract: entered with the arguments as' at the heap h, it returns, and Q says what and what it left -/
abbrev ctr (l : Launch) (Z : State) (y : MethodName) (bytes : ByteArray) (maxL : Nat) (ret : Option FieldType) (ws : List Jvm.Cond) (rm : Room) (k n : Nat) (as' : Array Value) (h : Heap) (Q : Option Value → Heap → List Loc → Prop) : Prop :=
  MetFree l y (head1 (Jvm.Cond.code y bytes maxL ret :: ws) rm) (fun a U => a = as' ∧ Z.Warmed39 U.vm ∧ U.heap = h) (fun _ _ _ _ _ => True) (fun _ U o U' => ∃ v L, o = .returned v ∧ Q v U'.heap L ∧ FrameEnd U o U' L k n)
theorem ctr_of {y : MethodName} {bytes : ByteArray} {maxL : Nat} {ret : Option FieldType} {ws : List Jvm.Cond} {rm : Room} {as' : Array Value} (pn : plainFor y = true)
    (body : ∀ (p : Program) (e : Env) (s : State) (m : MethodId) (below : List Frame) (meth : Method) (c : Code) (s₁ : State), p.tables.exec = Jvm.exec → c.code = bytes → c.maxLocals = maxL → meth.sig.returnType = ret → meth.locks = false → meth.name = y.name → s.vm.findClass y.cls = some m.cls →
      Z.Warmed39 s.vm → s₁.heap = h → Stand p l e rm s m as' below meth c s₁ [] 0 0 → Dn p e below s Q k n (s₁.setTop (entryFrame m as' maxL))) : ctr l Z y bytes maxL ret ws rm k n as' h Q := by
  refine MetFree.of_bodySF pn hisR ?_
  intro p e s m args below meth c s₁ Bd hml0 hP hK
  obtain ⟨rfl, hZ, hh⟩ := hP
  exact body p e s m below meth c s₁ Bd.exec Bd.bytes hml0 Bd.returns Bd.notSynchronized (name_of_methodNamed Bd.named Bd.method).1 (findClass_of_methodNamed Bd.named) hZ (by rw [← hh, Bd.state]; rfl) (Stand.of_body Bd)
theorem cSt (X : Stand p l e R s m args below meth c T locs cells slots) (hx : p.tables.exec = Jvm.exec) (hZ : Z.Warmed39 s.vm) {own : String} {index : Nat} {y : MethodName} {bytes : ByteArray} {maxL : Nat} {ret : Option FieldType} (hown : s.vm.findClass own = some m.cls)
    (w1 : (Jvm.Cond.methodLink own index y).before a0 Z = true) (w2 : (Jvm.Cond.static y).before a0 Z = true) (w3 : (Jvm.Cond.initialized y.cls).before a0 Z = true) (w4 : (Jvm.Cond.code y bytes maxL ret).before a0 Z = true) (hy : y.cls ≠ "java/lang/invoke/MethodHandle" ∧ y.cls ≠ "java/lang/invoke/VarHandle")
    {rm : Room} {argsL rest : List Value} (hM : ctr l Z y bytes maxL ret [] rm rm.cells rm.slots argsL.toArray h Q) (eT : T.heap = h) (W : Nat) (hf : rm.frames + 1 ≤ R.frames) (hl : W + (maxL + 11) + rm.locals ≤ R.locals) (hc : cells + rm.cells ≤ R.cells) (hs : slots + rm.slots ≤ R.slots)
    {g : JFrame} (hg : g.method = m) (hsize : g.locals.size = c.maxLocals) (hlen : ∀ sig, parseMethodDescriptor y.desc = some sig → argsL.length = sig.parameters.length) (hstack : g.stack = argsL.reverse ++ rest) (hW : 2 * g.monitorRoom + (rest.map fun v => v.category).sum ≤ W) (hdg : decode c.code g.pc = .ok (.invokestatic index, 3)) :
    ∃ (v : Option Value) (T' : State) (L : List Loc), Q v T'.heap L ∧ Stand p l e R s m args below meth c T' (locs ++ L) (cells + rm.cells) (slots + rm.slots) ∧ ∀ target, Steps p.tables e below (T'.setTop { g with pc := g.pc + 3, stack := v.toList ++ rest }) target → Steps p.tables e below (T.setTop g) target := by
  obtain ⟨v, _, ⟨T', L', k', n'⟩, -, X', ⟨L, hQ, e1, e2, e3⟩, st⟩ := Jvm.LawKit.callS X hx (y := y) hown (mvT hZ w1) (mvT hZ w2) (mvT hZ w3) (mvT hZ w4) hy (backOf (W := W) hM hZ w4 w3 hf hl) hg hsize hlen hstack hW hdg (fun _ _ => ⟨rfl, eT, hc, hs⟩)
  dsimp only [Pt.U, Pt.locs, Pt.cells, Pt.slots] at X' e1 e2 e3 st hQ
  subst e1 e2 e3
  exact ⟨v, T', L, hQ, X', st⟩
theorem cIn (X : Stand p l e R s m args below meth c T locs cells slots) (hx : p.tables.exec = Jvm.exec) (hZ : Z.Warmed39 s.vm) {own : String} {index : Nat} {y : MethodName} {bytes : ByteArray} {maxL : Nat} (hy1 : y.name = "<init>") (hown : s.vm.findClass own = some m.cls)
    (w1 : (Jvm.Cond.methodLink own index y).before a0 Z = true) (w2 : (Jvm.Cond.instanceMethod y).before a0 Z = true) (w3 : (Jvm.Cond.initialized y.cls).before a0 Z = true) (w4 : (Jvm.Cond.code y bytes maxL none).before a0 Z = true) (hy : y.cls ≠ "java/lang/invoke/MethodHandle" ∧ y.cls ≠ "java/lang/invoke/VarHandle")
    {rm : Room} {a : Addr} {argsL rest : List Value} (hM : ctr l Z y bytes maxL none [] rm rm.cells rm.slots (.ref a :: argsL).toArray h Q) (eT : T.heap = h) (W : Nat) (hf : rm.frames + 1 ≤ R.frames) (hl : W + (maxL + 11) + rm.locals ≤ R.locals) (hc : cells + rm.cells ≤ R.cells) (hs : slots + rm.slots ≤ R.slots)
    {g : JFrame} (hg : g.method = m) (hsize : g.locals.size = c.maxLocals) (hlen : ∀ sig, parseMethodDescriptor y.desc = some sig → argsL.length = sig.parameters.length) (hstack : g.stack = argsL.reverse ++ .ref a :: rest) (hW : 2 * g.monitorRoom + (rest.map fun v => v.category).sum ≤ W) (hdg : decode c.code g.pc = .ok (.invokespecial index, 3)) :
    ∃ (v : Option Value) (T' : State) (L : List Loc), Q v T'.heap L ∧ Stand p l e R s m args below meth c T' (locs ++ L) (cells + rm.cells) (slots + rm.slots) ∧ ∀ target, Steps p.tables e below (T'.setTop { g with pc := g.pc + 3, stack := v.toList ++ rest }) target → Steps p.tables e below (T.setTop g) target := by
  obtain ⟨v, _, ⟨T', L', k', n'⟩, -, X', ⟨L, hQ, e1, e2, e3⟩, st⟩ := X.specialBack hx (y := y) hy1 hown (mvT hZ w1) (mvT hZ w2) (mvT hZ w4) hy (backOf (W := W) hM hZ w4 w3 hf hl) hg hsize (Steps.refl _) hlen hstack hW hdg (fun _ _ => ⟨rfl, eT, hc, hs⟩)
  dsimp only [Pt.U, Pt.locs, Pt.cells, Pt.slots] at X' e1 e2 e3 st hQ
  subst e1 e2 e3
  exact ⟨v, T', L, hQ, X', fun _ z => st.trans z⟩
theorem cVi (X : Stand p l e R s m args below meth c T locs cells slots) (hx : p.tables.exec = Jvm.exec) (hZ : Z.Warmed39 s.vm) {own C : String} {index : Nat} {y z : MethodName} {bytes : ByteArray} {maxL : Nat} {ret : Option FieldType} (hown : s.vm.findClass own = some m.cls)
    (w1 : (Jvm.Cond.methodLink own index y).before a0 Z = true) (w2 : (Jvm.Cond.declares y).before a0 Z = true) (nf : NotFace s y) (ws : (Jvm.Cond.selects C y z).before a0 Z = true) (wi : (Jvm.Cond.instanceMethod z).before a0 Z = true) (w3 : (Jvm.Cond.initialized z.cls).before a0 Z = true) (w4 : (Jvm.Cond.code z bytes maxL ret).before a0 Z = true)
    (hy : y.cls ≠ "java/lang/invoke/MethodHandle" ∧ y.cls ≠ "java/lang/invoke/VarHandle")
    {rm : Room} {a : Addr} {argsL rest : List Value} (hM : ctr l Z z bytes maxL ret [] rm rm.cells rm.slots (.ref a :: argsL).toArray h Q) (eT : T.heap = h) (E : Exa Z h a C) (W : Nat) (hf : rm.frames + 1 ≤ R.frames) (hl : W + (maxL + 11) + rm.locals ≤ R.locals) (hc : cells + rm.cells ≤ R.cells) (hs : slots + rm.slots ≤ R.slots)
    {g : JFrame} (hg : g.method = m) (hsize : g.locals.size = c.maxLocals) (hlen : ∀ sig, parseMethodDescriptor y.desc = some sig → argsL.length = sig.parameters.length) (hstack : g.stack = argsL.reverse ++ .ref a :: rest) (hW : 2 * g.monitorRoom + (rest.map fun v => v.category).sum ≤ W) (hdg : decode c.code g.pc = .ok (.invokevirtual index, 3)) :
    ∃ (v : Option Value) (T' : State) (L : List Loc), Q v T'.heap L ∧ Stand p l e R s m args below meth c T' (locs ++ L) (cells + rm.cells) (slots + rm.slots) ∧ ∀ target, Steps p.tables e below (T'.setTop { g with pc := g.pc + 3, stack := v.toList ++ rest }) target → Steps p.tables e below (T.setTop g) target := by
  obtain ⟨cq, kq, qa, qb, qc⟩ := isOf hZ eT E
  obtain ⟨v, _, ⟨T', L', k', n'⟩, -, X', ⟨L, hQ, e1, e2, e3⟩, st⟩ := X.virtualBack hx (y := y) (z := z) hown (mvT hZ w1) (mvT hZ w2) nf (mvT hZ ws) (mvT hZ wi) hy (backOf (W := W) hM hZ w4 w3 hf hl) qa qc hg hsize (Steps.refl _) hlen hstack hW hdg (fun _ _ => ⟨rfl, eT, hc, hs⟩)
  dsimp only [Pt.U, Pt.locs, Pt.cells, Pt.slots] at X' e1 e2 e3 st hQ
  subst e1 e2 e3
  exact ⟨v, T', L, hQ, X', fun _ z => st.trans z⟩
theorem cUp (X : Stand p l e R s m args below meth c T locs cells slots) (hx : p.tables.exec = Jvm.exec) (hZ : Z.Warmed39 s.vm) {own C owner : String} {index : Nat} {y z : MethodName} {bytes : ByteArray} {maxL : Nat} {ret : Option FieldType} (hown : s.vm.findClass own = some m.cls)
    (w1 : (Jvm.Cond.methodLink own index y).before a0 Z = true) (wm : (Jvm.Cond.sameMethod y.cls owner y.name y.desc).before a0 Z = true) (w2 : (Jvm.Cond.declares ⟨owner, y.name, y.desc⟩).before a0 Z = true) (ws : (Jvm.Cond.selects C y z).before a0 Z = true) (wi : (Jvm.Cond.instanceMethod z).before a0 Z = true) (w3 : (Jvm.Cond.initialized z.cls).before a0 Z = true) (w4 : (Jvm.Cond.code z bytes maxL ret).before a0 Z = true)
    (hy : owner ≠ "java/lang/invoke/MethodHandle" ∧ owner ≠ "java/lang/invoke/VarHandle")
    {rm : Room} {a : Addr} {argsL rest : List Value} (hM : ctr l Z z bytes maxL ret [] rm rm.cells rm.slots (.ref a :: argsL).toArray h Q) (eT : T.heap = h) (E : Exa Z h a C) (W : Nat) (hf : rm.frames + 1 ≤ R.frames) (hl : W + (maxL + 11) + rm.locals ≤ R.locals) (hc : cells + rm.cells ≤ R.cells) (hs : slots + rm.slots ≤ R.slots)
    {g : JFrame} (hg : g.method = m) (hsize : g.locals.size = c.maxLocals) (hlen : ∀ sig, parseMethodDescriptor y.desc = some sig → argsL.length = sig.parameters.length) (hstack : g.stack = argsL.reverse ++ .ref a :: rest) (hW : 2 * g.monitorRoom + (rest.map fun v => v.category).sum ≤ W) (hdg : decode c.code g.pc = .ok (.invokevirtual index, 3)) :
    ∃ (v : Option Value) (T' : State) (L : List Loc), Q v T'.heap L ∧ Stand p l e R s m args below meth c T' (locs ++ L) (cells + rm.cells) (slots + rm.slots) ∧ ∀ target, Steps p.tables e below (T'.setTop { g with pc := g.pc + 3, stack := v.toList ++ rest }) target → Steps p.tables e below (T.setTop g) target := by
  obtain ⟨cq, kq, qa, qb, qc⟩ := isOf hZ eT E
  obtain ⟨v, _, ⟨T', L', k', n'⟩, -, X', ⟨L, hQ, e1, e2, e3⟩, st⟩ := X.virtualBackUp hx (x := y) (y := z) (owner := owner) hown (mvT hZ w1) (mvT hZ wm) (mvT hZ w2) hy (mvT hZ ws) (mvT hZ wi) (backOf (W := W) hM hZ w4 w3 hf hl) qa qc hg hsize (Steps.refl _) hlen hstack hW hdg (fun _ _ => ⟨rfl, eT, hc, hs⟩)
  dsimp only [Pt.U, Pt.locs, Pt.cells, Pt.slots] at X' e1 e2 e3 st hQ
  subst e1 e2 e3
  exact ⟨v, T', L, hQ, X', fun _ z => st.trans z⟩
theorem cFa (X : Stand p l e R s m args below meth c T locs cells slots) (hx : p.tables.exec = Jvm.exec) (hZ : Z.Warmed39 s.vm) {own C : String} {index count : Nat} {y z : MethodName} {bytes : ByteArray} {maxL : Nat} {ret : Option FieldType} (hown : s.vm.findClass own = some m.cls)
    (w1 : (Jvm.Cond.methodLink own index y).before a0 Z = true) (w2 : (Jvm.Cond.declares y).before a0 Z = true) (wf : (Jvm.Cond.interfaceMethod y.cls y.cls y.name y.desc).before args s = true) (ws : (Jvm.Cond.selects C y z).before a0 Z = true) (wi : (Jvm.Cond.instanceMethod z).before a0 Z = true) (wp : (Jvm.Cond.publicMethod z).before a0 Z = true) (wu : (Jvm.Cond.unhidden C y.name y.desc).before a0 Z = true) (wk : (Jvm.Cond.castable C y.cls).before a0 Z = true) (w3 : (Jvm.Cond.initialized z.cls).before a0 Z = true) (w4 : (Jvm.Cond.code z bytes maxL ret).before a0 Z = true)
    (hy : y.cls ≠ "java/lang/invoke/MethodHandle" ∧ y.cls ≠ "java/lang/invoke/VarHandle")
    {rm : Room} {a : Addr} {argsL rest : List Value} (hM : ctr l Z z bytes maxL ret [] rm rm.cells rm.slots (.ref a :: argsL).toArray h Q) (eT : T.heap = h) (E : Exa Z h a C) (W : Nat) (hf : rm.frames + 1 ≤ R.frames) (hl : W + (maxL + 11) + rm.locals ≤ R.locals) (hc : cells + rm.cells ≤ R.cells) (hs : slots + rm.slots ≤ R.slots)
    {g : JFrame} (hg : g.method = m) (hsize : g.locals.size = c.maxLocals) (hlen : ∀ sig, parseMethodDescriptor y.desc = some sig → argsL.length = sig.parameters.length) (hstack : g.stack = argsL.reverse ++ .ref a :: rest) (hW : 2 * g.monitorRoom + (rest.map fun v => v.category).sum ≤ W) (hdg : decode c.code g.pc = .ok (.invokeinterface index count, 5)) :
    ∃ (v : Option Value) (T' : State) (L : List Loc), Q v T'.heap L ∧ Stand p l e R s m args below meth c T' (locs ++ L) (cells + rm.cells) (slots + rm.slots) ∧ ∀ target, Steps p.tables e below (T'.setTop { g with pc := g.pc + 5, stack := v.toList ++ rest }) target → Steps p.tables e below (T.setTop g) target := by
  obtain ⟨cq, kq, qa, qb, qc⟩ := isOf hZ eT E
  obtain ⟨v, _, ⟨T', L', k', n'⟩, -, X', ⟨L, hQ, e1, e2, e3⟩, st⟩ := X.interfaceBack hx (xi := y) (y := z) hown (mvT hZ w1) (mvT hZ w2) wf (mvT hZ ws) (mvT hZ wi) (mvT hZ wp) (mvT hZ wu) (mvT hZ wk) hy (backOf (W := W) hM hZ w4 w3 hf hl) qa qb qc hg hsize (Steps.refl _) hlen hstack hW hdg (fun _ _ => ⟨rfl, eT, hc, hs⟩)
  dsimp only [Pt.U, Pt.locs, Pt.cells, Pt.slots] at X' e1 e2 e3 st hQ
  subst e1 e2 e3
  exact ⟨v, T', L, hQ, X', fun _ z => st.trans z⟩
/-- a static's fact over a Keep: its holder's cell is none of the written -/
theorem Sta.keep {h' : Heap} {C n d : String} {v : Value} {ws : List Addr} (F : Sta Z h C n d v) (K : Keep h h' ws) (q : ∀ (x : Addr) (c : Cell), x ∈ ws → h[x]? = some c → c.vm.isStatics = false) : Sta Z h' C n d v := by
  obtain ⟨cf, i, k, f, st, cell, h1, h2, h3, h4, h5, h6, h7⟩ := F
  refine ⟨cf, i, k, f, st, cell, h1, h2, h3, h4, K.2.1 _ _ h5 (fun y => ?_), h6, h7⟩
  rw [q st cell y h5] at h6; cases h6
theorem own_ns {a : Addr} {C : String} (E : Exa Z h a C) : ∀ (x : Addr) (c : Cell), x ∈ [a] → h[x]? = some c → c.vm.isStatics = false := by
  intro x c hx hc
  cases List.mem_singleton.mp hx
  obtain ⟨cell, k, h1, -, -, h4, -⟩ := E
  rw [h1] at hc; cases hc; exact h4
/-- an int field of what a term names, out of an 'eq' of the case -/
theorem own_fld {args : Array Value} {a : Addr} {C n d : String} {t : Term} {x : Int32} (ev : t.eval args Z none [] Z = some (.ref a)) (hq : (Jvm.Cond.eq (.field t C n d) (.int x)).value args Z none Z [] = some true) : Fld Z Z.heap a C n d (.int x) := by
  obtain ⟨u, w, h1, h2, k1, k2⟩ := cmp_v (Or.inl hq)
  have h2' : w = .int x := by rw [Term.int_eval] at h2; exact (Option.some.inj h2).symm
  subst h2'
  obtain ⟨z, rfl⟩ : ∃ z, u = .int z := k2
  have : z = x := gotT (Cond.eq_ints h1 (Term.int_eval x)) hq
  subst this
  exact Fld.start (by rw [← fld_at ev]; exact h1)
theorem own_cat {v : Value} (r : v.isRef = true) : v.category = 1 := by rcases ref_cases r with rfl | ⟨a, rfl⟩ <;> rfl
theorem own_narO {C : String} {v : Value} (r : v.isRef = true) : narrow (.object C) v = v := by rcases ref_cases r with rfl | ⟨a, rfl⟩ <;> rfl
theorem own_fitO {C : String} {v : Value} (r : v.isRef = true) : fits (.object C) v = true := by rcases ref_cases r with rfl | ⟨a, rfl⟩ <;> rfl
theorem own_len {args : Array Value} {a : Addr} {cl : Cell} {ty : FieldType} {t : Term} {x : Int32} (ev : t.eval args Z none [] Z = some (.ref a)) (A : Arr Z Z.heap a cl ty) (hq : (Jvm.Cond.eq (.length t) (.int x)).value args Z none Z [] = some true) : cl.slots.size = x.toNatClampNeg ∧ cl.slots.size < 2 ^ 31 := by
  have ha : Z.arrayAt? a = some cl := IntBox.arrayAt_of A.1 A.2.1 A.2.2
  by_cases p : cl.slots.size < 2 ^ 31
  · have q := gotT (Cond.eq_ints (len_f ev ha p) (Term.int_eval x)) hq
    refine ⟨?_, p⟩
    rw [← q, Int32.toNatClampNeg, len_toInt p]; rfl
  · obtain ⟨u, w, h1, h2, -, -⟩ := cmp_v (Or.inl hq)
    exact absurd h1 (by simp [Term.eval, ev, ha, p])
theorem own_elem {args : Array Value} {a b : Addr} {cl : Cell} {ty : FieldType} {t u : Term} {j : Int32} (ev : t.eval args Z none [] Z = some (.ref a)) (A : Arr Z Z.heap a cl ty) (eu : u.eval args Z none [] Z = some (.ref b)) (hq : (Jvm.Cond.eq (.elem t (.int j)) u).value args Z none Z [] = some true) : cl.slots[j.toNatClampNeg]? = some (.ref b) := by
  obtain ⟨x, y, h1, h2, k1, k2⟩ := cmp_v (Or.inl hq)
  rw [eu] at h2; cases h2
  have e := gotT (eq_R h1 eu k2.2 rfl) hq
  rw [← e]; exact (elem_in h1 ev (Term.int_eval j) A.1).2
end Own
end Jvm.RoadKit
namespace Jvm.RoadKit
open Jvm.FP Jvm.FP.Core Jvm.Free.Fl
section OwnScale
/-- the double x is exactly i * 2^k -/
def Sc (i k : Int) (x : UInt64) : Prop := ∃ (s : Bool) (c : Nat) (q : Int), val64 x = .fin s c q ∧ Whole i (.fin s c (q - k))
theorem Sc.of_int {i : Int} {x : UInt64} (h : DInt i x) : Sc i 0 x := by
  unfold DInt at h
  match e : val64 x, h with
  | .fin s c q, h => exact ⟨s, c, q, e, by rw [Int.sub_zero]; exact h⟩
theorem Sc.noNaN {i k : Int} {x : UInt64} (h : Sc i k x) : NoNaN64 x := by
  obtain ⟨s, c, q, e, -⟩ := h
  rw [val64_no, e]; exact fun y => by cases y
theorem own_fit (s : Bool) {n : Nat} (h0 : 0 < n) (hn : n < 2 ^ 53) {k : Int} (k1 : -1000 ≤ k) (k2 : k ≤ 900) :
    ∃ L : Nat, L ≤ 52 ∧ Jvm.FP.Core.fits b64 (.fin s (n * 2 ^ (52 - L)) (((L : Int) - 52) + k)) := by
  have l1 : 2 ^ n.log2 ≤ n := Nat.log2_self_le (by omega)
  have l2 : n < 2 ^ (n.log2 + 1) := Nat.lt_log2_self
  have l3 : n.log2 < 53 := (Nat.pow_lt_pow_iff_right (by decide : 1 < 2)).mp (Nat.lt_of_le_of_lt l1 hn)
  generalize n.log2 = L at l1 l2 l3
  refine ⟨L, by omega, ?_, ?_, ?_, Or.inr ?_⟩
  · calc n * 2 ^ (52 - L) < 2 ^ (L + 1) * 2 ^ (52 - L) := Nat.mul_lt_mul_of_pos_right l2 (Nat.two_pow_pos _)
      _ = 2 ^ b64.p := by rw [← Nat.pow_add]; congr 1; show L + 1 + (52 - L) = 53; omega
  · show (-1074 : Int) ≤ _; omega
  · show _ ≤ (971 : Int); omega
  · calc b64.tails = 2 ^ L * 2 ^ (52 - L) := by rw [← Nat.pow_add]; show 2 ^ 52 = _; congr 1; omega
      _ ≤ n * 2 ^ (52 - L) := Nat.mul_le_mul_right _ l1
theorem own_pw {a b : Nat} (h : a = b) : 2 ^ a = 2 ^ b := by rw [h]
/-- the heart: c * 2^a = n (a of either sign), spelled with c' = n * 2^t at the exponent -t -/
theorem own_sp {c n t : Nat} {a : Int} (h : c * 2 ^ a.toNat = n * 2 ^ (-a).toNat) : c * 2 ^ (a - -(t : Int)).toNat = n * 2 ^ t * 1 * 2 ^ (-(t : Int) - a).toNat := by
  rw [Nat.mul_one]
  rcases Int.le_total 0 a with p | p
  · rw [show (-a).toNat = 0 by omega, Nat.pow_zero, Nat.mul_one] at h
    rw [show (a - -(t : Int)).toNat = a.toNat + t by omega, show (-(t : Int) - a).toNat = 0 by omega, Nat.pow_add, ← Nat.mul_assoc, h, Nat.pow_zero, Nat.mul_one]
  · rw [show a.toNat = 0 by omega, Nat.pow_zero, Nat.mul_one] at h
    subst h
    rw [Nat.mul_assoc, Nat.mul_assoc, ← Nat.pow_add, ← Nat.pow_add]
    congr 2; omega
theorem own_round {f : Fmt} (hf : f = b64) {s : Bool} {A B : Nat} {e i k : Int} {c : Nat} {q : Int} (hB : 0 < B) (hc : A * 1 * 2 ^ (e - q).toNat = c * B * 2 ^ (q - e).toNat) (h : Whole i (.fin s c (q - k))) (hi : i.natAbs < 2 ^ 53) (k1 : -1000 ≤ k) (k2 : k ≤ 900) :
    ∃ (s' : Bool) (c' : Nat) (q' : Int), roundRatio f s A B e = .fin s' c' q' ∧ Whole i (.fin s' c' (q' - k)) := by
  subst hf
  rw [roundRatio_congr (A' := c) (B' := 1) (e' := q) hB (by decide) hc]
  by_cases h0 : i = 0
  · have hz : c = 0 := (whole_zero h).mpr h0
    subst hz; subst h0
    refine ⟨s, 0, b64.qmin, rfl, ?_⟩
    show signed s (0 * _) = 0 * _
    rw [Nat.zero_mul, signed_zero, Int.zero_mul]
  · have hw := whole_natAbs h
    have hs := whole_sign h h0
    obtain ⟨L, hL, hfit⟩ := own_fit s (n := i.natAbs) (by omega) hi k1 k2
    refine ⟨s, _, _, roundRatio_exact good_b64 (by decide) hfit ?_, ?_⟩
    · have := own_sp (t := 52 - L) (a := q - k) hw
      rw [show ((q : Int) - (((L : Int) - 52) + k)) = q - k - -((52 - L : Nat) : Int) by omega, show ((((L : Int) - 52) + k) - q) = -((52 - L : Nat) : Int) - (q - k) by omega]
      exact this
    · show signed s (_ * _) = i * _
      rw [show (((L : Int) - 52) + k - k).toNat = 0 by omega, show (-(((L : Int) - 52) + k - k)).toNat = 52 - L by omega, Nat.pow_zero, Nat.mul_one, signed_mul]
      congr 1
      rw [hs]; unfold signed
      by_cases p : i < 0
      · simp [p]; omega
      · simp [p]; omega
theorem Sc.mul {i j k m : Int} {x y : UInt64} (hx : Sc i k x) (hy : Sc j m y) (hi : (i * j).natAbs < 2 ^ 53) (k1 : -1000 ≤ k + m) (k2 : k + m ≤ 900) : Sc (i * j) (k + m) (FP.dmul x y) := by
  obtain ⟨s, c, q, e1, w1⟩ := hx
  obtain ⟨t, d, r, e2, w2⟩ := hy
  have w := whole_product w1 w2
  have v := val64_dmul x y
  rw [e1, e2] at v
  obtain ⟨s', c', q', e3, w3⟩ := own_round (f := b64) rfl (s := (s != t)) (A := c * d) (B := 1) (e := q + r) (i := i * j) (k := k + m) (c := c * d) (q := q + r) (by decide) (by simp) (by
    have : q + r - (k + m) = q - k + (r - m) := by omega
    rw [this]; exact w) hi k1 k2
  exact ⟨s', c', q', v.trans e3, w3⟩
theorem own_shift_sum (s : Bool) (c : Nat) (q : Int) (t : Bool) (d : Nat) (r k : Int) :
    exactSum (.fin s c (q - k)) (.fin t d (r - k)) = .fin (sumSign s t (sumUnits s c q t d r (min q r))) (sumUnits s c q t d r (min q r)).natAbs (min q r - k) := by
  have hm : min (q - k) (r - k) = min q r - k := by omega
  have hu : sumUnits s c (q - k) t d (r - k) (min q r - k) = sumUnits s c q t d r (min q r) := by
    unfold sumUnits inUnits
    rw [show q - k - (min q r - k) = q - min q r by omega, show r - k - (min q r - k) = r - min q r by omega]
  show Datum.fin _ _ _ = _
  rw [hm, hu]
theorem Sc.add {i j k : Int} {x y : UInt64} (hx : Sc i k x) (hy : Sc j k y) (hi : (i + j).natAbs < 2 ^ 53) (k1 : -1000 ≤ k) (k2 : k ≤ 900) : Sc (i + j) k (FP.dadd x y) := by
  obtain ⟨s, c, q, e1, w1⟩ := hx
  obtain ⟨t, d, r, e2, w2⟩ := hy
  have w := whole_sum w1 w2
  have v := val64_dadd x y
  rw [e1, e2] at v
  rw [own_shift_sum] at w
  obtain ⟨s', c', q', e3, w3⟩ := own_round (f := b64) rfl (s := sumSign s t (sumUnits s c q t d r (min q r))) (A := (sumUnits s c q t d r (min q r)).natAbs) (B := 1) (e := min q r) (i := i + j) (k := k) (by decide) (by simp) w hi k1 k2
  exact ⟨s', c', q', v.trans e3, w3⟩
theorem Sc.neg' {i k : Int} {s : Bool} {c : Nat} {q : Int} (w : Whole i (.fin s c (q - k))) : Whole (-i) (.fin (!s) c (q - k)) := whole_negate w
theorem Sc.sub {i j k : Int} {x y : UInt64} (hx : Sc i k x) (hy : Sc j k y) (hi : (i - j).natAbs < 2 ^ 53) (k1 : -1000 ≤ k) (k2 : k ≤ 900) : Sc (i - j) k (FP.dsub x y) := by
  obtain ⟨s, c, q, e1, w1⟩ := hx
  obtain ⟨t, d, r, e2, w2⟩ := hy
  have w := whole_sum w1 (Sc.neg' w2)
  have v := val64_dsub x y
  rw [e1, e2] at v
  rw [own_shift_sum] at w
  rw [show i + -j = i - j by omega] at w
  obtain ⟨s', c', q', e3, w3⟩ := own_round (f := b64) rfl (s := sumSign s (!t) (sumUnits s c q (!t) d r (min q r))) (A := (sumUnits s c q (!t) d r (min q r)).natAbs) (B := 1) (e := min q r) (i := i - j) (k := k) (by decide) (by simp) w hi k1 k2
  exact ⟨s', c', q', v.trans e3, w3⟩
/-- by a power of two -/
theorem Sc.div {i k m : Int} {x y : UInt64} (hx : Sc i k x) (hy : Sc 1 m y) (hi : i.natAbs < 2 ^ 53) (k1 : -1000 ≤ k - m) (k2 : k - m ≤ 900) : Sc i (k - m) (FP.ddiv x y) := by
  obtain ⟨s, c, q, e1, w1⟩ := hx
  obtain ⟨t, d, r, e2, w2⟩ := hy
  have v := val64_ddiv x y
  rw [e1, e2] at v
  have hd : d ≠ 0 := fun y => absurd ((whole_zero w2).mp y) (by decide)
  have ht : t = false := (whole_sign w2 (by decide)).trans (by decide)
  subst ht
  have hv : val64 (FP.ddiv x y) = roundRatio b64 s c d (q - r) := by
    rw [v]; show (if d = 0 then _ else _) = _
    rw [if_neg hd]; congr 1; cases s <;> rfl
  have hw := whole_natAbs w2
  rw [show (1 : Int).natAbs = 1 from rfl, Nat.one_mul] at hw
  obtain ⟨s', c', q', e3, w3⟩ := own_round (f := b64) rfl (s := s) (A := c) (B := d) (e := q - r) (i := i) (k := k - m) (c := c) (q := q - m) (by omega) (by
    rw [Nat.mul_one, show (q - r - (q - m)) = -(r - m) by omega, show (q - m - (q - r)) = r - m by omega, Nat.mul_assoc, hw]) (by
    rw [show q - m - (k - m) = q - k by omega]; exact w1) hi k1 k2
  exact ⟨s', c', q', hv.trans e3, w3⟩
theorem Sc.down {i k : Int} {x : UInt64} (h : Sc i k x) (t : Nat) : Sc (i * (2 ^ t : Nat)) (k - t) x := by
  obtain ⟨s, c, q, e1, w1⟩ := h
  refine ⟨s, c, q, e1, ?_⟩
  have w1' : signed s (c * 2 ^ (q - k).toNat) = i * ((2 ^ (-(q - k)).toNat : Nat) : Int) := w1
  show signed s (c * 2 ^ (q - (k - t)).toNat) = i * (2 ^ t : Nat) * ((2 ^ (-(q - (k - t))).toNat : Nat) : Int)
  rw [signed_mul] at w1' ⊢
  rcases Int.le_total 0 (q - k) with p | p
  · rw [show (-(q - k)).toNat = 0 by omega] at w1'
    rw [show (-(q - (k - (t : Int)))).toNat = 0 by omega, show (q - (k - (t : Int))).toNat = (q - k).toNat + t by omega, Nat.pow_add, Int.natCast_mul, ← Int.mul_assoc, w1']
    simp
  · rw [show (q - k).toNat = 0 by omega] at w1'
    rcases Int.le_total 0 (q - (k - (t : Int))) with p' | p'
    · rw [show (-(q - (k - (t : Int)))).toNat = 0 by omega]
      have e : (2 ^ t : Nat) = 2 ^ (-(q - k)).toNat * 2 ^ (q - (k - (t : Int))).toNat := by rw [← Nat.pow_add]; congr 1; omega
      rw [e, Int.natCast_mul, ← Int.mul_assoc, ← w1']; simp
    · rw [show (q - (k - (t : Int))).toNat = 0 by omega]
      have e : 2 ^ (-(q - k)).toNat = (2 ^ t : Nat) * 2 ^ (-(q - (k - (t : Int)))).toNat := by rw [← Nat.pow_add]; congr 1; omega
      rw [w1', e, Int.natCast_mul, Int.mul_assoc]
theorem own_shift_ord (s : Bool) (c : Nat) (q : Int) (t : Bool) (d : Nat) (r k : Int) : order (.fin s c (q - k)) (.fin t d (r - k)) = order (.fin s c q) (.fin t d r) := by
  have hm : min (q - k) (r - k) = min q r - k := by omega
  show some (compare _ _) = some (compare _ _)
  rw [hm]; unfold inUnits
  rw [show q - k - (min q r - k) = q - min q r by omega, show r - k - (min q r - k) = r - min q r by omega]
theorem Sc.cmp {i j k : Int} {x y : UInt64} (hx : Sc i k x) (hy : Sc j k y) : FP.dcmp x y = some (compare i j) := by
  obtain ⟨s, c, q, e1, w1⟩ := hx
  obtain ⟨t, d, r, e2, w2⟩ := hy
  show order (val64 x) (val64 y) = _
  rw [e1, e2, ← own_shift_ord s c q t d r k]
  exact order_whole w1 w2
theorem Sc.fin {i k : Int} {x : UInt64} (h : Sc i k x) : Fin64 x := by
  obtain ⟨s, c, q, e1, -⟩ := h
  rw [fin64_core]
  exact ⟨s, c, q, e1⟩
end OwnScale
end Jvm.RoadKit
namespace Jvm.Pilot.@@N@@
open Jvm Jvm.ClassFile Sem Op Lib Jvm.Free Jvm.Stand Jvm.LawKit Jvm.RoadKit Bundle Jvm.Pilot.@@N@@.Jvm.D
theorem d1_0 : decode prog_35_method_8_code 0 = .ok (.dload_n 0, 1) := by decide +kernel
theorem d1_1 : decode prog_35_method_8_code 1 = .ok (.dload_n 2, 1) := by decide +kernel
theorem d1_2 : decode prog_35_method_8_code 2 = .ok (.dcmp .l, 1) := by decide +kernel
theorem d1_3 : decode prog_35_method_8_code 3 = .ok (.ifCond .eq 26, 3) := by decide +kernel
theorem d1_6 : decode prog_35_method_8_code 6 = .ok (.dload_n 2, 1) := by decide +kernel
theorem d1_7 : decode prog_35_method_8_code 7 = .ok (.ldc2_w 96, 3) := by decide +kernel
theorem d1_10 : decode prog_35_method_8_code 10 = .ok (.dcmp .g, 1) := by decide +kernel
theorem d1_11 : decode prog_35_method_8_code 11 = .ok (.ifCond .ge 22, 3) := by decide +kernel
theorem d1_14 : decode prog_35_method_8_code 14 = .ok (.dload_n 2, 1) := by decide +kernel
theorem d1_15 : decode prog_35_method_8_code 15 = .ok (.dload_n 0, 1) := by decide +kernel
theorem d1_16 : decode prog_35_method_8_code 16 = .ok (.dsub, 1) := by decide +kernel
theorem d1_17 : decode prog_35_method_8_code 17 = .ok (.ldc2_w 98, 3) := by decide +kernel
theorem d1_20 : decode prog_35_method_8_code 20 = .ok (.dload 4, 2) := by decide +kernel
theorem d1_22 : decode prog_35_method_8_code 22 = .ok (.dmul, 1) := by decide +kernel
theorem d1_23 : decode prog_35_method_8_code 23 = .ok (.dload_n 2, 1) := by decide +kernel
theorem d1_24 : decode prog_35_method_8_code 24 = .ok (.dmul, 1) := by decide +kernel
theorem d1_25 : decode prog_35_method_8_code 25 = .ok (.dcmp .g, 1) := by decide +kernel
theorem d1_26 : decode prog_35_method_8_code 26 = .ok (.ifCond .gt 7, 3) := by decide +kernel
theorem d1_29 : decode prog_35_method_8_code 29 = .ok (.iconst 1, 1) := by decide +kernel
theorem d1_30 : decode prog_35_method_8_code 30 = .ok (.goto 4, 3) := by decide +kernel
theorem d1_33 : decode prog_35_method_8_code 33 = .ok (.iconst 0, 1) := by decide +kernel
theorem d1_34 : decode prog_35_method_8_code 34 = .ok (.ireturn, 1) := by decide +kernel
theorem pn0 : plainName "com/example/verify_markov_chains/verifymarkovchains/engine/SparseEngine" = true := by first | (simp [plainName, overriddenIn]; done) | decide +kernel
theorem pn1 : plainName "com/example/verify_markov_chains/verifymarkovchains/engine/SparseEngineIsConvergedPinLaw" = true := by first | (simp [plainName, overriddenIn]; done) | decide +kernel
theorem pd0 : parseMethodDescriptor "(DDD)Z" = some ⟨[.double, .double, .double], some .boolean⟩ := by decide +kernel
open Jvm.FP Jvm.Free.Fl
theorem own_cv (a b : Int) (o : CmpOp) : cmpValue (some (compare a b)) o = if a < b then (-1 : Int32) else if a = b then 0 else 1 := by
  by_cases h : a < b
  · rw [if_pos h, show compare a b = .lt from compareOfLessAndEq_eq_lt.mpr h]; rfl
  · by_cases h' : a = b
    · subst h'; rw [if_neg h, if_pos rfl, show compare a a = .eq from compareOfLessAndEq_eq_eq (by omega) (by omega) |>.mpr rfl]; rfl
    · rw [if_neg h, if_neg h', show compare a b = .gt by
        show compareOfLessAndEq a b = .gt
        rw [compareOfLessAndEq, if_neg h, if_neg h']]; rfl
theorem own_eq0 (a b : Int) (o : CmpOp) : cmpValue (some (compare a b)) o = (0 : Int32) ↔ a = b := by
  rw [own_cv]
  by_cases h : a < b
  · rw [if_pos h]; exact ⟨fun q => absurd q (by decide), fun q => by omega⟩
  · rw [if_neg h]
    by_cases h' : a = b
    · rw [if_pos h']; exact ⟨fun _ => h', fun _ => rfl⟩
    · rw [if_neg h']; exact ⟨fun q => absurd q (by decide), fun q => absurd q h'⟩
theorem own_gt0 (a b : Int) (o : CmpOp) : (0 : Int32) < cmpValue (some (compare a b)) o ↔ b < a := by
  rw [own_cv]
  by_cases h : a < b
  · rw [if_pos h]; exact ⟨fun q => absurd q (by decide), fun q => by omega⟩
  · rw [if_neg h]
    by_cases h' : a = b
    · rw [if_pos h']; exact ⟨fun q => absurd q (by decide), fun q => by omega⟩
    · rw [if_neg h']; exact ⟨fun _ => by omega, fun _ => by decide⟩
theorem own_two : Sc 2 0 (4611686018427387904 : UInt64) := ⟨false, 2 ^ 52, -51, by decide +kernel, by
  show Core.signed false (2 ^ 52 * 2 ^ ((-51 - 0 : Int)).toNat) = 2 * ((2 ^ (-(-51 - 0 : Int)).toNat : Nat) : Int)
  decide +kernel⟩
theorem own_sc {i k i' k' : Int} {x : UInt64} (h : Sc i k x) (e1 : i = i') (e2 : k = k') : Sc i' k' x := by subst e1; subst e2; exact h
def own_conv (i j n : Int) (t : Nat) : Int32 := if i = j then 1 else if 2 * n * j < (j - i) * (2 ^ t : Nat) then 0 else 1
theorem own_bd {n j : Int} (h1 : 0 ≤ n ∧ n < 2097152) (h2 : -1048576 ≤ j ∧ j ≤ 1048576) : (2 * n * j).natAbs < 2 ^ 53 := by
  have a1 : (2 * n).natAbs ≤ 4194304 := by omega
  have a2 : j.natAbs ≤ 1048576 := by omega
  rw [Int.natAbs_mul]
  calc (2 * n).natAbs * j.natAbs ≤ 4194304 * 1048576 := Nat.mul_le_mul a1 a2
    _ < 2 ^ 53 := by decide
theorem own_m1 {n : Int} {t : Nat} {z : UInt64} (hz : Sc n (-t) z) (h1 : 0 ≤ n ∧ n < 2097152) (ht : t ≤ 31) : Sc (2 * n) (-t) (FP.dmul (4611686018427387904 : UInt64) z) :=
  own_sc (Sc.mul own_two hz (by omega) (by omega) (by omega)) rfl (by omega)
theorem own_m2 {n j : Int} {t : Nat} {y z : UInt64} (hy : Sc j 0 y) (hz : Sc n (-t) z) (h1 : 0 ≤ n ∧ n < 2097152) (h2 : -1048576 ≤ j ∧ j ≤ 1048576) (ht : t ≤ 31) : Sc (2 * n * j) (-t) (FP.dmul (FP.dmul (4611686018427387904 : UInt64) z) y) :=
  own_sc (Sc.mul (own_m1 hz h1 ht) hy (own_bd h1 h2) (by omega) (by omega)) rfl (by omega)
theorem own_d {i j : Int} {x y : UInt64} (hx : Sc i 0 x) (hy : Sc j 0 y) (h1 : -1048576 ≤ i ∧ i ≤ 1048576) (h2 : -1048576 ≤ j ∧ j ≤ 1048576) : Sc (j - i) 0 (FP.dsub y x) := Sc.sub hy hx (by omega) (by decide) (by decide)
theorem own_fin {i j n : Int} {t : Nat} {x y z : UInt64} (hx : Sc i 0 x) (hy : Sc j 0 y) (hz : Sc n (-t) z) (h1 : -1048576 ≤ i ∧ i ≤ 1048576) (h2 : -1048576 ≤ j ∧ j ≤ 1048576) (h3 : 0 ≤ n ∧ n < 2097152) (ht : t ≤ 31) :
    FP.dcmp (FP.dsub y x) (FP.dmul (FP.dmul (4611686018427387904 : UInt64) z) y) = some (compare ((j - i) * (2 ^ t : Nat)) (2 * n * j)) :=
  Sc.cmp (own_sc ((own_d hx hy h1 h2).down t) rfl (by omega)) (own_m2 hy hz h3 h2 ht)
theorem own_l (a : Int32) : -1048576 ≤ ((a <<< ((11 : Int32) &&& 31)) >>> ((11 : Int32) &&& 31)).toInt ∧ ((a <<< ((11 : Int32) &&& 31)) >>> ((11 : Int32) &&& 31)).toInt ≤ 1048576 := by
  rw [c_ishr _ 11 11 (by decide)]
  have r := rng32 (a <<< ((11 : Int32) &&& 31))
  omega
theorem own_e (a : Int32) : 0 ≤ (a &&& 2097151).toInt ∧ (a &&& 2097151).toInt < 2097152 := by
  have q := c_mask a 2097151 21 (by decide) (by decide)
  omega
theorem own_s (a : Int32) : ∃ t : Fin 32, a &&& 31 = Int32.ofNat t.1 := by
  have q := c_mask a 31 5 (by decide) (by decide)
  refine ⟨⟨(a &&& 31).toInt.toNat, by omega⟩, Int32.toInt_inj.mp ?_⟩
  rw [Int32.toInt_ofNat_of_lt (by show _ < 2 ^ 31; show (a &&& 31).toInt.toNat < 2 ^ 31; omega)]
  show (a &&& 31).toInt = (((a &&& 31).toInt.toNat : Nat) : Int)
  omega
theorem own_sh : ∀ t : Fin 32, ((1 : Int64) <<< ((Int32.ofNat t.1) &&& 0x3f).toInt64).toInt = (2 ^ t.1 : Nat) := by decide
theorem own_p2 (t : Fin 32) : Sc 1 t.1 (FP.l2d ((1 : Int64) <<< ((Int32.ofNat t.1) &&& 0x3f).toInt64)) := by
  have b : (2 : Nat) ^ t.1 ≤ 2 ^ 53 := Nat.pow_le_pow_right (by decide) (by omega)
  have h := Core.l2d_int (a := (1 : Int64) <<< ((Int32.ofNat t.1) &&& 0x3f).toInt64) (by rw [own_sh t, Int.natAbs_natCast]; exact b)
  rw [own_sh t] at h
  obtain ⟨s, c, q, e1, w⟩ := Sc.of_int h
  refine ⟨s, c, q, e1, ?_⟩
  have w' : Core.signed s (c * 2 ^ (q - 0).toNat) = ((2 ^ t.1 : Nat) : Int) * ((2 ^ (-(q - 0)).toNat : Nat) : Int) := w
  show Core.signed s (c * 2 ^ (q - (t.1 : Int)).toNat) = 1 * ((2 ^ (-(q - (t.1 : Int))).toNat : Nat) : Int)
  rw [Core.signed_mul] at w' ⊢
  generalize t.1 = n at *
  rw [Int.one_mul, Int.sub_zero] at *
  rcases Int.le_total 0 (q - (n : Int)) with p | p
  · have e : (2 ^ q.toNat : Nat) = 2 ^ (q - (n : Int)).toNat * 2 ^ n := by rw [← Nat.pow_add]; congr 1; omega
    rw [show (-q).toNat = 0 by omega, e, Int.natCast_mul, ← Int.mul_assoc, Int.mul_comm] at w'
    rw [show (-(q - (n : Int))).toNat = 0 by omega]
    exact Int.eq_of_mul_eq_mul_left (a := ((2 ^ n : Nat) : Int)) (by have := Nat.two_pow_pos n; omega) w'
  · rw [show (q - (n : Int)).toNat = 0 by omega, Nat.pow_zero]
    rcases Int.le_total 0 q with p' | p'
    · have e : (2 ^ n : Nat) = 2 ^ (-(q - (n : Int))).toNat * 2 ^ q.toNat := by rw [← Nat.pow_add]; congr 1; omega
      rw [show (-q).toNat = 0 by omega, e, Int.natCast_mul, Nat.pow_zero, Int.natCast_one, Int.mul_one] at w'
      rw [Int.natCast_one, Int.mul_one]
      exact Int.eq_of_mul_eq_mul_right (a := ((2 ^ q.toNat : Nat) : Int)) (by have := Nat.two_pow_pos q.toNat; omega) w'
    · have e : 2 ^ (-(q - (n : Int))).toNat = (2 ^ n : Nat) * 2 ^ (-q).toNat := by rw [← Nat.pow_add]; congr 1; omega
      rw [show q.toNat = 0 by omega, Nat.pow_zero] at w'
      rw [w', e, Int.natCast_mul]
theorem own_eps (a : Int32) (t : Fin 32) : Sc (a &&& 2097151).toInt (-(t.1 : Int)) (FP.ddiv (FP.i2d (a &&& 2097151)) (FP.l2d ((1 : Int64) <<< ((Int32.ofNat t.1) &&& 0x3f).toInt64))) := by
  have q := own_e a
  have ht := t.2
  exact own_sc (Sc.div (Sc.of_int (Core.i2d_int (a &&& 2097151))) (own_p2 t) (by omega) (by omega) (by omega)) rfl (by omega)
theorem own_long {u l : Int32} {t : Fin 32} (h1 : -1048576 ≤ l.toInt ∧ l.toInt ≤ 1048576) (h2 : -1048576 ≤ u.toInt ∧ u.toInt ≤ 1048576) :
    ((u.toInt64 - l.toInt64) * ((1 : Int64) <<< ((Int32.ofNat t.1) &&& 0x3f).toInt64)).toInt = (u.toInt - l.toInt) * (2 ^ t.1 : Nat) := by
  have e1 : (u.toInt64 - l.toInt64).toInt = u.toInt - l.toInt := by rw [Jvm.Free.XT.sub64 (by unfold Jvm.Free.XT.fits64; rw [c_i2l, c_i2l]; omega), c_i2l, c_i2l]
  have b : (2 : Nat) ^ t.1 ≤ 2 ^ 31 := Nat.pow_le_pow_right (by decide) (by omega)
  have b0 : 0 < (2 : Nat) ^ t.1 := Nat.two_pow_pos _
  have m := mc (a := u.toInt - l.toInt) (b := ((2 ^ t.1 : Nat) : Int)) (l1 := -2097152) (h1 := 2097152) (l2 := 0) (h2 := 2147483648) (by omega) (by omega) (by omega) (by omega)
  rw [Jvm.Free.XT.mul64 (by unfold Jvm.Free.XT.fits64; rw [e1, own_sh t]; omega), e1, own_sh t]
theorem own_long2 {u n : Int32} (h1 : 0 ≤ n.toInt ∧ n.toInt < 2097152) (h2 : -1048576 ≤ u.toInt ∧ u.toInt ≤ 1048576) : ((2 : Int64) * n.toInt64 * u.toInt64).toInt = 2 * n.toInt * u.toInt := by
  have e1 : ((2 : Int64) * n.toInt64).toInt = 2 * n.toInt := by rw [Jvm.Free.XT.mul64 (by unfold Jvm.Free.XT.fits64; rw [c_i2l, show (2 : Int64).toInt = 2 by decide]; omega), c_i2l, show (2 : Int64).toInt = 2 by decide]
  have m := mc (a := 2 * n.toInt) (b := u.toInt) (l1 := 0) (h1 := 4194304) (l2 := -1048576) (h2 := 1048576) (by omega) (by omega) (by omega) (by omega)
  rw [Jvm.Free.XT.mul64 (by unfold Jvm.Free.XT.fits64; rw [e1, c_i2l]; omega), e1, c_i2l]
theorem ef1_DDD (m : MethodId) (x0 : UInt64) (x1 : UInt64) (x2 : UInt64) : entryFrame m #[(.double x0), (.double x1), (.double x2)] 6 = mkF m 0 #[.val (.double x0), .second, .val (.double x1), .second, .val (.double x2), .second] [] := by first | (simp [entryFrame, mkF, argsToLocals, Value.category]; done) | rfl
set_option maxRecDepth 65536 in
set_option maxHeartbeats 40000000 in
theorem rmA (l : Launch) (Z : State) (a0 : Array Value) (hw : ∀ d ∈ tables_1, d.before a0 Z = true) (h0 : Heap) (n0 : Nat) (Z0 : n0 ≤ h0.size) (x y z : UInt64) (i j n : Int) (t : Nat) (hX : Sc i 0 x) (hY : Sc j 0 y) (hT : Sc n (-t) z) (b1 : -1048576 ≤ i ∧ i ≤ 1048576) (b2 : -1048576 ≤ j ∧ j ≤ 1048576) (b3 : 0 ≤ n ∧ n < 2097152) (b4 : t ≤ 31) :
    ctr l Z (⟨"com/example/verify_markov_chains/verifymarkovchains/engine/SparseEngine", "isConverged", "(DDD)Z"⟩ : MethodName) prog_35_method_8_code 6 (some .boolean) [] ({ frames := 0, cells := 0, slots := 0, locals := 0 } : Room) 0 0 #[(.double x), (.double y), (.double z)] h0 (fun v h L => v = some (.int (own_conv i j n t)) ∧ Fr n0 L ∧ h = h0) := by
  refine ctr_of (plainFor_of_name pn0) ?_
  intro p e s m below meth jc s₁ hx hby hml hret hlk hnm hown hZ e0 X0
  have N0 := Fr.nil n0
  refine Dn.cast (ef1_DDD m x y z) ?_
  show Dn p e below s _ _ _ (s₁.setTop (mkF m 0 #[.val (.double x), .second, .val (.double y), .second, .val (.double z), .second] []))
  refine Dn.of (fun tt_ zz_ => XS.dloadN X0.here hx rfl (hb hby d1_0) rfl zz_) ?_
  show Dn p e below s _ _ _ (s₁.setTop (mkF m 1 #[.val (.double x), .second, .val (.double y), .second, .val (.double z), .second] [(.double x)]))
  refine Dn.of (fun tt_ zz_ => XS.dloadN X0.here hx rfl (hb hby d1_1) rfl zz_) ?_
  show Dn p e below s _ _ _ (s₁.setTop (mkF m 2 #[.val (.double x), .second, .val (.double y), .second, .val (.double z), .second] [(.double y), (.double x)]))
  refine Dn.of (fun tt_ zz_ => XS.dcmpS X0.here hx rfl (v := (cmpValue (FP.dcmp x y) .l)) (hb hby d1_2) rfl rfl zz_) ?_
  show Dn p e below s _ _ _ (s₁.setTop (mkF m 3 #[.val (.double x), .second, .val (.double y), .second, .val (.double z), .second] [(.int (cmpValue (FP.dcmp x y) .l))]))
  by_cases h1 : (cmpValue (FP.dcmp x y) .l) = (0 : Int32)
  · skip
    refine Dn.of (fun tt_ zz_ => XS.ifYes X0.here hx rfl (pc0 := 3) (pc' := 29) rfl (hb hby d1_3) rfl ((if0 _ _).trans (teq h1).1) (by decide) (by decide) zz_) ?_
    show Dn p e below s _ _ _ (s₁.setTop (mkF m 29 #[.val (.double x), .second, .val (.double y), .second, .val (.double z), .second] []))
    rw [hX.cmp hY, own_eq0] at h1
    refine Dn.of (fun tt_ zz_ => XS.iconst X0.here hx rfl (hb hby d1_29) zz_) ?_
    show Dn p e below s _ _ _ (s₁.setTop (mkF m 30 #[.val (.double x), .second, .val (.double y), .second, .val (.double z), .second] [(.int (1 : Int32))]))
    refine Dn.of (fun tt_ zz_ => XS.goto X0.here hx rfl (pc0 := 30) (pc' := 34) rfl (hb hby d1_30) (by decide) (by decide) zz_) ?_
    show Dn p e below s _ _ _ (s₁.setTop (mkF m 34 #[.val (.double x), .second, .val (.double y), .second, .val (.double z), .second] [(.int (1 : Int32))]))
    exact Dn.retN X0 hx hlk (t := .boolean) hret (by simp) (hb hby d1_34) (by decide) (by decide) (⟨by rw [own_conv, if_pos h1]; rfl, N0, e0⟩)
  · skip
    refine Dn.of (fun tt_ zz_ => XS.ifNo X0.here hx rfl (hb hby d1_3) rfl ((if0 _ _).trans (feq h1).1) zz_) ?_
    show Dn p e below s _ _ _ (s₁.setTop (mkF m 6 #[.val (.double x), .second, .val (.double y), .second, .val (.double z), .second] []))
    rw [hX.cmp hY, own_eq0] at h1
    refine Dn.of (fun tt_ zz_ => XS.dloadN X0.here hx rfl (hb hby d1_6) rfl zz_) ?_
    show Dn p e below s _ _ _ (s₁.setTop (mkF m 7 #[.val (.double x), .second, .val (.double y), .second, .val (.double z), .second] [(.double y)]))
    refine Dn.of (X0.ldc2DoubleC hx hown (mvT hZ (hw _ (List.mem_of_getElem? (i := 7) rfl))) (g := (mkF m 7 #[.val (.double x), .second, .val (.double y), .second, .val (.double z), .second] [(.double y)])) rfl (hb hby d1_7)) ?_
    show Dn p e below s _ _ _ (s₁.setTop (mkF m 10 #[.val (.double x), .second, .val (.double y), .second, .val (.double z), .second] [(.double (9218868437227405312 : UInt64)), (.double y)]))
    refine Dn.of (fun tt_ zz_ => XS.dcmpS X0.here hx rfl (v := (cmpValue (FP.dcmp y (9218868437227405312 : UInt64)) .g)) (hb hby d1_10) rfl rfl zz_) ?_
    show Dn p e below s _ _ _ (s₁.setTop (mkF m 11 #[.val (.double x), .second, .val (.double y), .second, .val (.double z), .second] [(.int (cmpValue (FP.dcmp y (9218868437227405312 : UInt64)) .g))]))
    refine Dn.of (fun tt_ zz_ => XS.ifNo X0.here hx rfl (hb hby d1_11) rfl ((if0 _ _).trans (tlt (by rw [dcmp_pinf hY.fin .g]; decide)).2.1) zz_) ?_
    show Dn p e below s _ _ _ (s₁.setTop (mkF m 14 #[.val (.double x), .second, .val (.double y), .second, .val (.double z), .second] []))
    refine Dn.of (fun tt_ zz_ => XS.dloadN X0.here hx rfl (hb hby d1_14) rfl zz_) ?_
    show Dn p e below s _ _ _ (s₁.setTop (mkF m 15 #[.val (.double x), .second, .val (.double y), .second, .val (.double z), .second] [(.double y)]))
    refine Dn.of (fun tt_ zz_ => XS.dloadN X0.here hx rfl (hb hby d1_15) rfl zz_) ?_
    show Dn p e below s _ _ _ (s₁.setTop (mkF m 16 #[.val (.double x), .second, .val (.double y), .second, .val (.double z), .second] [(.double x), (.double y)]))
    refine Dn.of (fun tt_ zz_ => XS.dsubS X0.here hx rfl (v := (FP.dsub y x)) (hb hby d1_16) rfl (own_d hX hY b1 b2).noNaN rfl zz_) ?_
    show Dn p e below s _ _ _ (s₁.setTop (mkF m 17 #[.val (.double x), .second, .val (.double y), .second, .val (.double z), .second] [(.double (FP.dsub y x))]))
    refine Dn.of (X0.ldc2DoubleC hx hown (mvT hZ (hw _ (List.mem_of_getElem? (i := 8) rfl))) (g := (mkF m 17 #[.val (.double x), .second, .val (.double y), .second, .val (.double z), .second] [(.double (FP.dsub y x))])) rfl (hb hby d1_17)) ?_
    show Dn p e below s _ _ _ (s₁.setTop (mkF m 20 #[.val (.double x), .second, .val (.double y), .second, .val (.double z), .second] [(.double (4611686018427387904 : UInt64)), (.double (FP.dsub y x))]))
    refine Dn.of (fun tt_ zz_ => XS.dload X0.here hx rfl (hb hby d1_20) rfl zz_) ?_
    show Dn p e below s _ _ _ (s₁.setTop (mkF m 22 #[.val (.double x), .second, .val (.double y), .second, .val (.double z), .second] [(.double z), (.double (4611686018427387904 : UInt64)), (.double (FP.dsub y x))]))
    refine Dn.of (fun tt_ zz_ => XS.dmulS X0.here hx rfl (v := (FP.dmul (4611686018427387904 : UInt64) z)) (hb hby d1_22) rfl (own_m1 hT b3 b4).noNaN rfl zz_) ?_
    show Dn p e below s _ _ _ (s₁.setTop (mkF m 23 #[.val (.double x), .second, .val (.double y), .second, .val (.double z), .second] [(.double (FP.dmul (4611686018427387904 : UInt64) z)), (.double (FP.dsub y x))]))
    refine Dn.of (fun tt_ zz_ => XS.dloadN X0.here hx rfl (hb hby d1_23) rfl zz_) ?_
    show Dn p e below s _ _ _ (s₁.setTop (mkF m 24 #[.val (.double x), .second, .val (.double y), .second, .val (.double z), .second] [(.double y), (.double (FP.dmul (4611686018427387904 : UInt64) z)), (.double (FP.dsub y x))]))
    refine Dn.of (fun tt_ zz_ => XS.dmulS X0.here hx rfl (v := (FP.dmul (FP.dmul (4611686018427387904 : UInt64) z) y)) (hb hby d1_24) rfl (own_m2 hY hT b3 b2 b4).noNaN rfl zz_) ?_
    show Dn p e below s _ _ _ (s₁.setTop (mkF m 25 #[.val (.double x), .second, .val (.double y), .second, .val (.double z), .second] [(.double (FP.dmul (FP.dmul (4611686018427387904 : UInt64) z) y)), (.double (FP.dsub y x))]))
    refine Dn.of (fun tt_ zz_ => XS.dcmpS X0.here hx rfl (v := (cmpValue (FP.dcmp (FP.dsub y x) (FP.dmul (FP.dmul (4611686018427387904 : UInt64) z) y)) .g)) (hb hby d1_25) rfl rfl zz_) ?_
    show Dn p e below s _ _ _ (s₁.setTop (mkF m 26 #[.val (.double x), .second, .val (.double y), .second, .val (.double z), .second] [(.int (cmpValue (FP.dcmp (FP.dsub y x) (FP.dmul (FP.dmul (4611686018427387904 : UInt64) z) y)) .g))]))
    by_cases h2 : (0 : Int32) < (cmpValue (FP.dcmp (FP.dsub y x) (FP.dmul (FP.dmul (4611686018427387904 : UInt64) z) y)) .g)
    · skip
      refine Dn.of (fun tt_ zz_ => XS.ifYes X0.here hx rfl (pc0 := 26) (pc' := 33) rfl (hb hby d1_26) rfl ((if0 _ _).trans (tlt h2).2.2.1) (by decide) (by decide) zz_) ?_
      show Dn p e below s _ _ _ (s₁.setTop (mkF m 33 #[.val (.double x), .second, .val (.double y), .second, .val (.double z), .second] []))
      rw [own_fin hX hY hT b1 b2 b3 b4, own_gt0] at h2
      refine Dn.of (fun tt_ zz_ => XS.iconst X0.here hx rfl (hb hby d1_33) zz_) ?_
      show Dn p e below s _ _ _ (s₁.setTop (mkF m 34 #[.val (.double x), .second, .val (.double y), .second, .val (.double z), .second] [(.int (0 : Int32))]))
      exact Dn.retN X0 hx hlk (t := .boolean) hret (by simp) (hb hby d1_34) (by decide) (by decide) (⟨by rw [own_conv, if_neg h1, if_pos h2]; rfl, N0, e0⟩)
    · skip
      refine Dn.of (fun tt_ zz_ => XS.ifNo X0.here hx rfl (hb hby d1_26) rfl ((if0 _ _).trans (flt h2).2.2.1) zz_) ?_
      show Dn p e below s _ _ _ (s₁.setTop (mkF m 29 #[.val (.double x), .second, .val (.double y), .second, .val (.double z), .second] []))
      rw [own_fin hX hY hT b1 b2 b3 b4, own_gt0] at h2
      refine Dn.of (fun tt_ zz_ => XS.iconst X0.here hx rfl (hb hby d1_29) zz_) ?_
      show Dn p e below s _ _ _ (s₁.setTop (mkF m 30 #[.val (.double x), .second, .val (.double y), .second, .val (.double z), .second] [(.int (1 : Int32))]))
      refine Dn.of (fun tt_ zz_ => XS.goto X0.here hx rfl (pc0 := 30) (pc' := 34) rfl (hb hby d1_30) (by decide) (by decide) zz_) ?_
      show Dn p e below s _ _ _ (s₁.setTop (mkF m 34 #[.val (.double x), .second, .val (.double y), .second, .val (.double z), .second] [(.int (1 : Int32))]))
      exact Dn.retN X0 hx hlk (t := .boolean) hret (by simp) (hb hby d1_34) (by decide) (by decide) (⟨by rw [own_conv, if_neg h1, if_neg h2]; rfl, N0, e0⟩)
set_option maxRecDepth 65536 in
set_option maxHeartbeats 40000000 in
theorem rmB (l : Launch) (Z : State) (a0 : Array Value) (hw : ∀ d ∈ tables_1, d.before a0 Z = true) (h0 : Heap) (n0 : Nat) (Z0 : n0 ≤ h0.size) (x z : UInt64) (i : Int) (hX : Sc i 0 x) :
    ctr l Z (⟨"com/example/verify_markov_chains/verifymarkovchains/engine/SparseEngine", "isConverged", "(DDD)Z"⟩ : MethodName) prog_35_method_8_code 6 (some .boolean) [] ({ frames := 0, cells := 0, slots := 0, locals := 0 } : Room) 0 0 #[(.double x), (.double (9218868437227405312 : UInt64)), (.double z)] h0 (fun v h L => v = some (.int (0 : Int32)) ∧ Fr n0 L ∧ h = h0) := by
  refine ctr_of (plainFor_of_name pn0) ?_
  intro p e s m below meth jc s₁ hx hby hml hret hlk hnm hown hZ e0 X0
  have N0 := Fr.nil n0
  refine Dn.cast (ef1_DDD m x (9218868437227405312 : UInt64) z) ?_
  show Dn p e below s _ _ _ (s₁.setTop (mkF m 0 #[.val (.double x), .second, .val (.double (9218868437227405312 : UInt64)), .second, .val (.double z), .second] []))
  refine Dn.of (fun tt_ zz_ => XS.dloadN X0.here hx rfl (hb hby d1_0) rfl zz_) ?_
  show Dn p e below s _ _ _ (s₁.setTop (mkF m 1 #[.val (.double x), .second, .val (.double (9218868437227405312 : UInt64)), .second, .val (.double z), .second] [(.double x)]))
  refine Dn.of (fun tt_ zz_ => XS.dloadN X0.here hx rfl (hb hby d1_1) rfl zz_) ?_
  show Dn p e below s _ _ _ (s₁.setTop (mkF m 2 #[.val (.double x), .second, .val (.double (9218868437227405312 : UInt64)), .second, .val (.double z), .second] [(.double (9218868437227405312 : UInt64)), (.double x)]))
  refine Dn.of (fun tt_ zz_ => XS.dcmpS X0.here hx rfl (v := (cmpValue (FP.dcmp x (9218868437227405312 : UInt64)) .l)) (hb hby d1_2) rfl rfl zz_) ?_
  show Dn p e below s _ _ _ (s₁.setTop (mkF m 3 #[.val (.double x), .second, .val (.double (9218868437227405312 : UInt64)), .second, .val (.double z), .second] [(.int (cmpValue (FP.dcmp x (9218868437227405312 : UInt64)) .l))]))
  refine Dn.of (fun tt_ zz_ => XS.ifNo X0.here hx rfl (hb hby d1_3) rfl ((if0 _ _).trans (feq (by rw [dcmp_pinf hX.fin .l]; decide)).1) zz_) ?_
  show Dn p e below s _ _ _ (s₁.setTop (mkF m 6 #[.val (.double x), .second, .val (.double (9218868437227405312 : UInt64)), .second, .val (.double z), .second] []))
  refine Dn.of (fun tt_ zz_ => XS.dloadN X0.here hx rfl (hb hby d1_6) rfl zz_) ?_
  show Dn p e below s _ _ _ (s₁.setTop (mkF m 7 #[.val (.double x), .second, .val (.double (9218868437227405312 : UInt64)), .second, .val (.double z), .second] [(.double (9218868437227405312 : UInt64))]))
  refine Dn.of (X0.ldc2DoubleC hx hown (mvT hZ (hw _ (List.mem_of_getElem? (i := 7) rfl))) (g := (mkF m 7 #[.val (.double x), .second, .val (.double (9218868437227405312 : UInt64)), .second, .val (.double z), .second] [(.double (9218868437227405312 : UInt64))])) rfl (hb hby d1_7)) ?_
  show Dn p e below s _ _ _ (s₁.setTop (mkF m 10 #[.val (.double x), .second, .val (.double (9218868437227405312 : UInt64)), .second, .val (.double z), .second] [(.double (9218868437227405312 : UInt64)), (.double (9218868437227405312 : UInt64))]))
  refine Dn.of (fun tt_ zz_ => XS.dcmpS X0.here hx rfl (v := (cmpValue (FP.dcmp (9218868437227405312 : UInt64) (9218868437227405312 : UInt64)) .g)) (hb hby d1_10) rfl rfl zz_) ?_
  show Dn p e below s _ _ _ (s₁.setTop (mkF m 11 #[.val (.double x), .second, .val (.double (9218868437227405312 : UInt64)), .second, .val (.double z), .second] [(.int (cmpValue (FP.dcmp (9218868437227405312 : UInt64) (9218868437227405312 : UInt64)) .g))]))
  refine Dn.of (fun tt_ zz_ => XS.ifYes X0.here hx rfl (pc0 := 11) (pc' := 33) rfl (hb hby d1_11) rfl ((if0 _ _).trans (flt (by decide +kernel)).2.1) (by decide) (by decide) zz_) ?_
  show Dn p e below s _ _ _ (s₁.setTop (mkF m 33 #[.val (.double x), .second, .val (.double (9218868437227405312 : UInt64)), .second, .val (.double z), .second] []))
  refine Dn.of (fun tt_ zz_ => XS.iconst X0.here hx rfl (hb hby d1_33) zz_) ?_
  show Dn p e below s _ _ _ (s₁.setTop (mkF m 34 #[.val (.double x), .second, .val (.double (9218868437227405312 : UInt64)), .second, .val (.double z), .second] [(.int (0 : Int32))]))
  exact Dn.retN X0 hx hlk (t := .boolean) hret (by simp) (hb hby d1_34) (by decide) (by decide) (⟨rfl, N0, e0⟩)
set_option maxRecDepth 65536 in
set_option maxHeartbeats 40000000 in
theorem rmC (l : Launch) (Z : State) (a0 : Array Value) (hw : ∀ d ∈ tables_1, d.before a0 Z = true) (h0 : Heap) (n0 : Nat) (Z0 : n0 ≤ h0.size) (z : UInt64) :
    ctr l Z (⟨"com/example/verify_markov_chains/verifymarkovchains/engine/SparseEngine", "isConverged", "(DDD)Z"⟩ : MethodName) prog_35_method_8_code 6 (some .boolean) [] ({ frames := 0, cells := 0, slots := 0, locals := 0 } : Room) 0 0 #[(.double (9218868437227405312 : UInt64)), (.double (9218868437227405312 : UInt64)), (.double z)] h0 (fun v h L => v = some (.int (1 : Int32)) ∧ Fr n0 L ∧ h = h0) := by
  refine ctr_of (plainFor_of_name pn0) ?_
  intro p e s m below meth jc s₁ hx hby hml hret hlk hnm hown hZ e0 X0
  have N0 := Fr.nil n0
  refine Dn.cast (ef1_DDD m (9218868437227405312 : UInt64) (9218868437227405312 : UInt64) z) ?_
  show Dn p e below s _ _ _ (s₁.setTop (mkF m 0 #[.val (.double (9218868437227405312 : UInt64)), .second, .val (.double (9218868437227405312 : UInt64)), .second, .val (.double z), .second] []))
  refine Dn.of (fun tt_ zz_ => XS.dloadN X0.here hx rfl (hb hby d1_0) rfl zz_) ?_
  show Dn p e below s _ _ _ (s₁.setTop (mkF m 1 #[.val (.double (9218868437227405312 : UInt64)), .second, .val (.double (9218868437227405312 : UInt64)), .second, .val (.double z), .second] [(.double (9218868437227405312 : UInt64))]))
  refine Dn.of (fun tt_ zz_ => XS.dloadN X0.here hx rfl (hb hby d1_1) rfl zz_) ?_
  show Dn p e below s _ _ _ (s₁.setTop (mkF m 2 #[.val (.double (9218868437227405312 : UInt64)), .second, .val (.double (9218868437227405312 : UInt64)), .second, .val (.double z), .second] [(.double (9218868437227405312 : UInt64)), (.double (9218868437227405312 : UInt64))]))
  refine Dn.of (fun tt_ zz_ => XS.dcmpS X0.here hx rfl (v := (cmpValue (FP.dcmp (9218868437227405312 : UInt64) (9218868437227405312 : UInt64)) .l)) (hb hby d1_2) rfl rfl zz_) ?_
  show Dn p e below s _ _ _ (s₁.setTop (mkF m 3 #[.val (.double (9218868437227405312 : UInt64)), .second, .val (.double (9218868437227405312 : UInt64)), .second, .val (.double z), .second] [(.int (cmpValue (FP.dcmp (9218868437227405312 : UInt64) (9218868437227405312 : UInt64)) .l))]))
  refine Dn.of (fun tt_ zz_ => XS.ifYes X0.here hx rfl (pc0 := 3) (pc' := 29) rfl (hb hby d1_3) rfl ((if0 _ _).trans (teq (by decide +kernel)).1) (by decide) (by decide) zz_) ?_
  show Dn p e below s _ _ _ (s₁.setTop (mkF m 29 #[.val (.double (9218868437227405312 : UInt64)), .second, .val (.double (9218868437227405312 : UInt64)), .second, .val (.double z), .second] []))
  refine Dn.of (fun tt_ zz_ => XS.iconst X0.here hx rfl (hb hby d1_29) zz_) ?_
  show Dn p e below s _ _ _ (s₁.setTop (mkF m 30 #[.val (.double (9218868437227405312 : UInt64)), .second, .val (.double (9218868437227405312 : UInt64)), .second, .val (.double z), .second] [(.int (1 : Int32))]))
  refine Dn.of (fun tt_ zz_ => XS.goto X0.here hx rfl (pc0 := 30) (pc' := 34) rfl (hb hby d1_30) (by decide) (by decide) zz_) ?_
  show Dn p e below s _ _ _ (s₁.setTop (mkF m 34 #[.val (.double (9218868437227405312 : UInt64)), .second, .val (.double (9218868437227405312 : UInt64)), .second, .val (.double z), .second] [(.int (1 : Int32))]))
  exact Dn.retN X0 hx hlk (t := .boolean) hret (by simp) (hb hby d1_34) (by decide) (by decide) (⟨rfl, N0, e0⟩)
def own_Q (n0 : Nat) (v : Option Value) (h : Heap) (L : List Loc) : Prop := v = some (.int 1) ∧ Fr n0 L
theorem ef0_IIIII (m : MethodId) (x0 : Int32) (x1 : Int32) (x2 : Int32) (x3 : Int32) (x4 : Int32) : entryFrame m #[(.int x0), (.int x1), (.int x2), (.int x3), (.int x4)] maxLocals = mkF m 0 #[.val (.int x0), .val (.int x1), .val (.int x2), .val (.int x3), .val (.int x4), .unset, .unset, .unset, .unset, .unset, .unset, .unset, .unset, .unset, .unset] [] := by first | (simp [entryFrame, mkF, argsToLocals, Value.category, maxLocals]; done) | rfl
set_option maxRecDepth 65536 in
set_option maxHeartbeats 40000000 in
theorem rm0 (l : Launch) (Z : State) (a0 : Array Value) (hw : ∀ d ∈ tables_1, d.before a0 Z = true) (ws : List Jvm.Cond) (h0 : Heap) (n0 : Nat) (Z0 : n0 ≤ h0.size) (i0 i1 i2 i3 i4 : Int32) :
    ctr l Z x code maxLocals ret ws room_1 0 0 #[(.int i0), (.int i1), (.int i2), (.int i3), (.int i4)] h0 (own_Q n0) := by
  refine ctr_of (plainFor_of_name pn1) ?_
  intro p e s m below meth jc s₁ hx hby hml hret hlk hnm hown hZ e0 X0
  have N0 := Fr.nil n0
  refine Dn.cast (ef0_IIIII m i0 i1 i2 i3 i4) ?_
  show Dn p e below s _ _ _ (s₁.setTop (mkF m 0 #[.val (.int i0), .val (.int i1), .val (.int i2), .val (.int i3), .val (.int i4), .unset, .unset, .unset, .unset, .unset, .unset, .unset, .unset, .unset, .unset] []))
  have K : ∀ (a b g d q : Int32) (z : UInt64) (t : Fin 32), d = Int32.ofNat t.1 → (-1048576 ≤ a.toInt ∧ a.toInt ≤ 1048576) → (-1048576 ≤ b.toInt ∧ b.toInt ≤ 1048576) → (0 ≤ g.toInt ∧ g.toInt < 2097152) → Sc g.toInt (-(t.1 : Int)) z → Dn p e below s (own_Q n0) 0 0 (s₁.setTop (mkF m 103 #[.val (.int i0), .val (.int i1), .val (.int i2), .val (.int i3), .val (.int i4), .val (.int a), .val (.int b), .val (.int g), .val (.int d), .val (.double z), .second, .val (.double (9218868437227405312 : UInt64)), .second, .val (.int q), .unset] [])) := by
    intro a b g d q z t hd b1 b2 b3 hz
    have KE : ∀ ex : Int32, ex = own_conv a.toInt b.toInt g.toInt t.1 → Dn p e below s (own_Q n0) 0 0 (s₁.setTop (mkF m 144 #[.val (.int i0), .val (.int i1), .val (.int i2), .val (.int i3), .val (.int i4), .val (.int a), .val (.int b), .val (.int g), .val (.int d), .val (.double z), .second, .val (.double (9218868437227405312 : UInt64)), .second, .val (.int q), .val (.int ex)] [])) := by
      intro ex hex
      refine Dn.of (fun tt_ zz_ => XS.iload X0.here hx rfl (hb hby at_144) rfl zz_) ?_
      show Dn p e below s (own_Q n0) 0 0 (s₁.setTop (mkF m 146 #[.val (.int i0), .val (.int i1), .val (.int i2), .val (.int i3), .val (.int i4), .val (.int a), .val (.int b), .val (.int g), .val (.int d), .val (.double z), .second, .val (.double (9218868437227405312 : UInt64)), .second, .val (.int q), .val (.int ex)] [(.int a)]))
      refine Dn.of (fun tt_ zz_ => XS.i2dS X0.here hx rfl (v := FP.i2d a) (hb hby at_146) rfl rfl zz_) ?_
      show Dn p e below s (own_Q n0) 0 0 (s₁.setTop (mkF m 147 #[.val (.int i0), .val (.int i1), .val (.int i2), .val (.int i3), .val (.int i4), .val (.int a), .val (.int b), .val (.int g), .val (.int d), .val (.double z), .second, .val (.double (9218868437227405312 : UInt64)), .second, .val (.int q), .val (.int ex)] [(.double (FP.i2d a))]))
      refine Dn.of (fun tt_ zz_ => XS.iload X0.here hx rfl (hb hby at_147) rfl zz_) ?_
      show Dn p e below s (own_Q n0) 0 0 (s₁.setTop (mkF m 149 #[.val (.int i0), .val (.int i1), .val (.int i2), .val (.int i3), .val (.int i4), .val (.int a), .val (.int b), .val (.int g), .val (.int d), .val (.double z), .second, .val (.double (9218868437227405312 : UInt64)), .second, .val (.int q), .val (.int ex)] [(.int b), (.double (FP.i2d a))]))
      refine Dn.of (fun tt_ zz_ => XS.i2dS X0.here hx rfl (v := FP.i2d b) (hb hby at_149) rfl rfl zz_) ?_
      show Dn p e below s (own_Q n0) 0 0 (s₁.setTop (mkF m 150 #[.val (.int i0), .val (.int i1), .val (.int i2), .val (.int i3), .val (.int i4), .val (.int a), .val (.int b), .val (.int g), .val (.int d), .val (.double z), .second, .val (.double (9218868437227405312 : UInt64)), .second, .val (.int q), .val (.int ex)] [(.double (FP.i2d b)), (.double (FP.i2d a))]))
      refine Dn.of (fun tt_ zz_ => XS.dload X0.here hx rfl (hb hby at_150) rfl zz_) ?_
      show Dn p e below s (own_Q n0) 0 0 (s₁.setTop (mkF m 152 #[.val (.int i0), .val (.int i1), .val (.int i2), .val (.int i3), .val (.int i4), .val (.int a), .val (.int b), .val (.int g), .val (.int d), .val (.double z), .second, .val (.double (9218868437227405312 : UInt64)), .second, .val (.int q), .val (.int ex)] [(.double z), (.double (FP.i2d b)), (.double (FP.i2d a))]))
      obtain ⟨v1, T1, L1, Q1, X1, st1⟩ := cSt X0 hx hZ (y := (⟨"com/example/verify_markov_chains/verifymarkovchains/engine/SparseEngine", "isConverged", "(DDD)Z"⟩ : MethodName)) hown (hw _ (List.mem_of_getElem? (i := 3) rfl)) (hw _ (List.mem_of_getElem? (i := 4) rfl)) (hw _ (List.mem_of_getElem? (i := 5) rfl)) (hw _ (List.mem_of_getElem? (i := 6) rfl)) (by decide) (argsL := [(.double (FP.i2d a)), (.double (FP.i2d b)), (.double z)]) (rest := []) (rmA l Z a0 hw h0 n0 Z0 (FP.i2d a) (FP.i2d b) z a.toInt b.toInt g.toInt t.1 (Sc.of_int (Core.i2d_int a)) (Sc.of_int (Core.i2d_int b)) hz b1 b2 b3 (by omega)) e0  0 (by decide) (by decide) (by decide) (by decide) (g := (mkF m 152 #[.val (.int i0), .val (.int i1), .val (.int i2), .val (.int i3), .val (.int i4), .val (.int a), .val (.int b), .val (.int g), .val (.int d), .val (.double z), .second, .val (.double (9218868437227405312 : UInt64)), .second, .val (.int q), .val (.int ex)] [(.double z), (.double (FP.i2d b)), (.double (FP.i2d a))])) rfl (by rw [hml]; rfl) (lenOf pd0 rfl) rfl (by show 2 * 0 + _ ≤ _; exact Nat.le_of_eq rfl) (hb hby at_152)
      obtain ⟨rfl, M1, e1⟩ := Q1
      refine Dn.of st1 ?_
      show Dn p e below s (own_Q n0) 0 0 (T1.setTop (mkF m 155 #[.val (.int i0), .val (.int i1), .val (.int i2), .val (.int i3), .val (.int i4), .val (.int a), .val (.int b), .val (.int g), .val (.int d), .val (.double z), .second, .val (.double (9218868437227405312 : UInt64)), .second, .val (.int q), .val (.int ex)] [(.int (own_conv a.toInt b.toInt g.toInt t.1))]))
      refine Dn.of (fun tt_ zz_ => XS.iload X1.here hx rfl (hb hby at_155) rfl zz_) ?_
      show Dn p e below s (own_Q n0) 0 0 (T1.setTop (mkF m 157 #[.val (.int i0), .val (.int i1), .val (.int i2), .val (.int i3), .val (.int i4), .val (.int a), .val (.int b), .val (.int g), .val (.int d), .val (.double z), .second, .val (.double (9218868437227405312 : UInt64)), .second, .val (.int q), .val (.int ex)] [(.int ex), (.int (own_conv a.toInt b.toInt g.toInt t.1))]))
      refine Dn.of (fun tt_ zz_ => XS.icmpNo X1.here hx rfl (hb hby at_157) rfl (teq hex.symm).2 zz_) ?_
      show Dn p e below s (own_Q n0) 0 0 (T1.setTop (mkF m 160 #[.val (.int i0), .val (.int i1), .val (.int i2), .val (.int i3), .val (.int i4), .val (.int a), .val (.int b), .val (.int g), .val (.int d), .val (.double z), .second, .val (.double (9218868437227405312 : UInt64)), .second, .val (.int q), .val (.int ex)] []))
      refine Dn.of (fun tt_ zz_ => XS.iconst X1.here hx rfl (hb hby at_160) zz_) ?_
      show Dn p e below s (own_Q n0) 0 0 (T1.setTop (mkF m 161 #[.val (.int i0), .val (.int i1), .val (.int i2), .val (.int i3), .val (.int i4), .val (.int a), .val (.int b), .val (.int g), .val (.int d), .val (.double z), .second, .val (.double (9218868437227405312 : UInt64)), .second, .val (.int q), .val (.int ex)] [(.int (1 : Int32))]))
      refine Dn.of (fun tt_ zz_ => XS.goto X1.here hx rfl (pc0 := 161) (pc' := 165) rfl (hb hby at_161) (by decide) (by decide) zz_) ?_
      show Dn p e below s (own_Q n0) 0 0 (T1.setTop (mkF m 165 #[.val (.int i0), .val (.int i1), .val (.int i2), .val (.int i3), .val (.int i4), .val (.int a), .val (.int b), .val (.int g), .val (.int d), .val (.double z), .second, .val (.double (9218868437227405312 : UInt64)), .second, .val (.int q), .val (.int ex)] [(.int (1 : Int32))]))
      exact Dn.retN X1 hx hlk (t := .boolean) hret (by simp) (hb hby at_165) (by decide) (by decide) (⟨rfl, Fr.app N0 M1⟩)
    refine Dn.of (fun tt_ zz_ => XS.iload X0.here hx rfl (hb hby at_103) rfl zz_) ?_
    show Dn p e below s (own_Q n0) 0 0 (s₁.setTop (mkF m 105 #[.val (.int i0), .val (.int i1), .val (.int i2), .val (.int i3), .val (.int i4), .val (.int a), .val (.int b), .val (.int g), .val (.int d), .val (.double z), .second, .val (.double (9218868437227405312 : UInt64)), .second, .val (.int q), .unset] [(.int a)]))
    refine Dn.of (fun tt_ zz_ => XS.iload X0.here hx rfl (hb hby at_105) rfl zz_) ?_
    show Dn p e below s (own_Q n0) 0 0 (s₁.setTop (mkF m 107 #[.val (.int i0), .val (.int i1), .val (.int i2), .val (.int i3), .val (.int i4), .val (.int a), .val (.int b), .val (.int g), .val (.int d), .val (.double z), .second, .val (.double (9218868437227405312 : UInt64)), .second, .val (.int q), .unset] [(.int b), (.int a)]))
    by_cases h1 : a = b
    · skip
      refine Dn.of (fun tt_ zz_ => XS.icmpYes X0.here hx rfl (pc0 := 107) (pc' := 137) rfl (hb hby at_107) rfl (teq h1).1 (by decide) (by decide) zz_) ?_
      show Dn p e below s (own_Q n0) 0 0 (s₁.setTop (mkF m 137 #[.val (.int i0), .val (.int i1), .val (.int i2), .val (.int i3), .val (.int i4), .val (.int a), .val (.int b), .val (.int g), .val (.int d), .val (.double z), .second, .val (.double (9218868437227405312 : UInt64)), .second, .val (.int q), .unset] []))
      refine Dn.of (fun tt_ zz_ => XS.iconst X0.here hx rfl (hb hby at_137) zz_) ?_
      show Dn p e below s (own_Q n0) 0 0 (s₁.setTop (mkF m 138 #[.val (.int i0), .val (.int i1), .val (.int i2), .val (.int i3), .val (.int i4), .val (.int a), .val (.int b), .val (.int g), .val (.int d), .val (.double z), .second, .val (.double (9218868437227405312 : UInt64)), .second, .val (.int q), .unset] [(.int (1 : Int32))]))
      refine Dn.of (fun tt_ zz_ => XS.goto X0.here hx rfl (pc0 := 138) (pc' := 142) rfl (hb hby at_138) (by decide) (by decide) zz_) ?_
      show Dn p e below s (own_Q n0) 0 0 (s₁.setTop (mkF m 142 #[.val (.int i0), .val (.int i1), .val (.int i2), .val (.int i3), .val (.int i4), .val (.int a), .val (.int b), .val (.int g), .val (.int d), .val (.double z), .second, .val (.double (9218868437227405312 : UInt64)), .second, .val (.int q), .unset] [(.int (1 : Int32))]))
      refine Dn.of (fun tt_ zz_ => XS.istore X0.here hx rfl (hb hby at_142) rfl (l' := #[.val (.int i0), .val (.int i1), .val (.int i2), .val (.int i3), .val (.int i4), .val (.int a), .val (.int b), .val (.int g), .val (.int d), .val (.double z), .second, .val (.double (9218868437227405312 : UInt64)), .second, .val (.int q), .val (.int (1 : Int32))]) rfl zz_) ?_
      show Dn p e below s (own_Q n0) 0 0 (s₁.setTop (mkF m 144 #[.val (.int i0), .val (.int i1), .val (.int i2), .val (.int i3), .val (.int i4), .val (.int a), .val (.int b), .val (.int g), .val (.int d), .val (.double z), .second, .val (.double (9218868437227405312 : UInt64)), .second, .val (.int q), .val (.int (1 : Int32))] []))
      exact KE (1 : Int32) (by rw [own_conv, if_pos (congrArg Int32.toInt h1)])
    · skip
      refine Dn.of (fun tt_ zz_ => XS.icmpNo X0.here hx rfl (hb hby at_107) rfl (feq h1).1 zz_) ?_
      show Dn p e below s (own_Q n0) 0 0 (s₁.setTop (mkF m 110 #[.val (.int i0), .val (.int i1), .val (.int i2), .val (.int i3), .val (.int i4), .val (.int a), .val (.int b), .val (.int g), .val (.int d), .val (.double z), .second, .val (.double (9218868437227405312 : UInt64)), .second, .val (.int q), .unset] []))
      have h1' : ¬ a.toInt = b.toInt := fun y => h1 (Int32.toInt_inj.mp y)
      subst hd
      show Dn p e below s (own_Q n0) 0 0 (s₁.setTop (mkF m 110 #[.val (.int i0), .val (.int i1), .val (.int i2), .val (.int i3), .val (.int i4), .val (.int a), .val (.int b), .val (.int g), .val (.int (Int32.ofNat t.1)), .val (.double z), .second, .val (.double (9218868437227405312 : UInt64)), .second, .val (.int q), .unset] []))
      refine Dn.of (fun tt_ zz_ => XS.iload X0.here hx rfl (hb hby at_110) rfl zz_) ?_
      show Dn p e below s (own_Q n0) 0 0 (s₁.setTop (mkF m 112 #[.val (.int i0), .val (.int i1), .val (.int i2), .val (.int i3), .val (.int i4), .val (.int a), .val (.int b), .val (.int g), .val (.int (Int32.ofNat t.1)), .val (.double z), .second, .val (.double (9218868437227405312 : UInt64)), .second, .val (.int q), .unset] [(.int b)]))
      refine Dn.of (fun tt_ zz_ => XS.i2l X0.here hx rfl (hb hby at_112) rfl zz_) ?_
      show Dn p e below s (own_Q n0) 0 0 (s₁.setTop (mkF m 113 #[.val (.int i0), .val (.int i1), .val (.int i2), .val (.int i3), .val (.int i4), .val (.int a), .val (.int b), .val (.int g), .val (.int (Int32.ofNat t.1)), .val (.double z), .second, .val (.double (9218868437227405312 : UInt64)), .second, .val (.int q), .unset] [(.long (b.toInt64))]))
      refine Dn.of (fun tt_ zz_ => XS.iload X0.here hx rfl (hb hby at_113) rfl zz_) ?_
      show Dn p e below s (own_Q n0) 0 0 (s₁.setTop (mkF m 115 #[.val (.int i0), .val (.int i1), .val (.int i2), .val (.int i3), .val (.int i4), .val (.int a), .val (.int b), .val (.int g), .val (.int (Int32.ofNat t.1)), .val (.double z), .second, .val (.double (9218868437227405312 : UInt64)), .second, .val (.int q), .unset] [(.int a), (.long (b.toInt64))]))
      refine Dn.of (fun tt_ zz_ => XS.i2l X0.here hx rfl (hb hby at_115) rfl zz_) ?_
      show Dn p e below s (own_Q n0) 0 0 (s₁.setTop (mkF m 116 #[.val (.int i0), .val (.int i1), .val (.int i2), .val (.int i3), .val (.int i4), .val (.int a), .val (.int b), .val (.int g), .val (.int (Int32.ofNat t.1)), .val (.double z), .second, .val (.double (9218868437227405312 : UInt64)), .second, .val (.int q), .unset] [(.long (a.toInt64)), (.long (b.toInt64))]))
      refine Dn.of (fun tt_ zz_ => XS.lsub X0.here hx rfl (hb hby at_116) rfl zz_) ?_
      show Dn p e below s (own_Q n0) 0 0 (s₁.setTop (mkF m 117 #[.val (.int i0), .val (.int i1), .val (.int i2), .val (.int i3), .val (.int i4), .val (.int a), .val (.int b), .val (.int g), .val (.int (Int32.ofNat t.1)), .val (.double z), .second, .val (.double (9218868437227405312 : UInt64)), .second, .val (.int q), .unset] [(.long ((b.toInt64) - (a.toInt64)))]))
      refine Dn.of (fun tt_ zz_ => XS.lconst X0.here hx rfl (hb hby at_117) zz_) ?_
      show Dn p e below s (own_Q n0) 0 0 (s₁.setTop (mkF m 118 #[.val (.int i0), .val (.int i1), .val (.int i2), .val (.int i3), .val (.int i4), .val (.int a), .val (.int b), .val (.int g), .val (.int (Int32.ofNat t.1)), .val (.double z), .second, .val (.double (9218868437227405312 : UInt64)), .second, .val (.int q), .unset] [(.long (1 : Int64)), (.long ((b.toInt64) - (a.toInt64)))]))
      refine Dn.of (fun tt_ zz_ => XS.iload X0.here hx rfl (hb hby at_118) rfl zz_) ?_
      show Dn p e below s (own_Q n0) 0 0 (s₁.setTop (mkF m 120 #[.val (.int i0), .val (.int i1), .val (.int i2), .val (.int i3), .val (.int i4), .val (.int a), .val (.int b), .val (.int g), .val (.int (Int32.ofNat t.1)), .val (.double z), .second, .val (.double (9218868437227405312 : UInt64)), .second, .val (.int q), .unset] [(.int (Int32.ofNat t.1)), (.long (1 : Int64)), (.long ((b.toInt64) - (a.toInt64)))]))
      refine Dn.of (fun tt_ zz_ => XS.lshl X0.here hx rfl (hb hby at_120) rfl zz_) ?_
      show Dn p e below s (own_Q n0) 0 0 (s₁.setTop (mkF m 121 #[.val (.int i0), .val (.int i1), .val (.int i2), .val (.int i3), .val (.int i4), .val (.int a), .val (.int b), .val (.int g), .val (.int (Int32.ofNat t.1)), .val (.double z), .second, .val (.double (9218868437227405312 : UInt64)), .second, .val (.int q), .unset] [(.long ((1 : Int64) <<< ((Int32.ofNat t.1) &&& 0x3f).toInt64)), (.long ((b.toInt64) - (a.toInt64)))]))
      refine Dn.of (fun tt_ zz_ => XS.lmul X0.here hx rfl (hb hby at_121) rfl zz_) ?_
      show Dn p e below s (own_Q n0) 0 0 (s₁.setTop (mkF m 122 #[.val (.int i0), .val (.int i1), .val (.int i2), .val (.int i3), .val (.int i4), .val (.int a), .val (.int b), .val (.int g), .val (.int (Int32.ofNat t.1)), .val (.double z), .second, .val (.double (9218868437227405312 : UInt64)), .second, .val (.int q), .unset] [(.long (((b.toInt64) - (a.toInt64)) * ((1 : Int64) <<< ((Int32.ofNat t.1) &&& 0x3f).toInt64)))]))
      refine Dn.of (fun tt_ zz_ => X0.ldc2J hx hown (mvT hZ (hw _ (List.mem_of_getElem? (i := 2) rfl))) rfl (hb hby at_122) zz_) ?_
      show Dn p e below s (own_Q n0) 0 0 (s₁.setTop (mkF m 125 #[.val (.int i0), .val (.int i1), .val (.int i2), .val (.int i3), .val (.int i4), .val (.int a), .val (.int b), .val (.int g), .val (.int (Int32.ofNat t.1)), .val (.double z), .second, .val (.double (9218868437227405312 : UInt64)), .second, .val (.int q), .unset] [(.long (2 : Int64)), (.long (((b.toInt64) - (a.toInt64)) * ((1 : Int64) <<< ((Int32.ofNat t.1) &&& 0x3f).toInt64)))]))
      refine Dn.of (fun tt_ zz_ => XS.iload X0.here hx rfl (hb hby at_125) rfl zz_) ?_
      show Dn p e below s (own_Q n0) 0 0 (s₁.setTop (mkF m 127 #[.val (.int i0), .val (.int i1), .val (.int i2), .val (.int i3), .val (.int i4), .val (.int a), .val (.int b), .val (.int g), .val (.int (Int32.ofNat t.1)), .val (.double z), .second, .val (.double (9218868437227405312 : UInt64)), .second, .val (.int q), .unset] [(.int g), (.long (2 : Int64)), (.long (((b.toInt64) - (a.toInt64)) * ((1 : Int64) <<< ((Int32.ofNat t.1) &&& 0x3f).toInt64)))]))
      refine Dn.of (fun tt_ zz_ => XS.i2l X0.here hx rfl (hb hby at_127) rfl zz_) ?_
      show Dn p e below s (own_Q n0) 0 0 (s₁.setTop (mkF m 128 #[.val (.int i0), .val (.int i1), .val (.int i2), .val (.int i3), .val (.int i4), .val (.int a), .val (.int b), .val (.int g), .val (.int (Int32.ofNat t.1)), .val (.double z), .second, .val (.double (9218868437227405312 : UInt64)), .second, .val (.int q), .unset] [(.long (g.toInt64)), (.long (2 : Int64)), (.long (((b.toInt64) - (a.toInt64)) * ((1 : Int64) <<< ((Int32.ofNat t.1) &&& 0x3f).toInt64)))]))
      refine Dn.of (fun tt_ zz_ => XS.lmul X0.here hx rfl (hb hby at_128) rfl zz_) ?_
      show Dn p e below s (own_Q n0) 0 0 (s₁.setTop (mkF m 129 #[.val (.int i0), .val (.int i1), .val (.int i2), .val (.int i3), .val (.int i4), .val (.int a), .val (.int b), .val (.int g), .val (.int (Int32.ofNat t.1)), .val (.double z), .second, .val (.double (9218868437227405312 : UInt64)), .second, .val (.int q), .unset] [(.long ((2 : Int64) * (g.toInt64))), (.long (((b.toInt64) - (a.toInt64)) * ((1 : Int64) <<< ((Int32.ofNat t.1) &&& 0x3f).toInt64)))]))
      refine Dn.of (fun tt_ zz_ => XS.iload X0.here hx rfl (hb hby at_129) rfl zz_) ?_
      show Dn p e below s (own_Q n0) 0 0 (s₁.setTop (mkF m 131 #[.val (.int i0), .val (.int i1), .val (.int i2), .val (.int i3), .val (.int i4), .val (.int a), .val (.int b), .val (.int g), .val (.int (Int32.ofNat t.1)), .val (.double z), .second, .val (.double (9218868437227405312 : UInt64)), .second, .val (.int q), .unset] [(.int b), (.long ((2 : Int64) * (g.toInt64))), (.long (((b.toInt64) - (a.toInt64)) * ((1 : Int64) <<< ((Int32.ofNat t.1) &&& 0x3f).toInt64)))]))
      refine Dn.of (fun tt_ zz_ => XS.i2l X0.here hx rfl (hb hby at_131) rfl zz_) ?_
      show Dn p e below s (own_Q n0) 0 0 (s₁.setTop (mkF m 132 #[.val (.int i0), .val (.int i1), .val (.int i2), .val (.int i3), .val (.int i4), .val (.int a), .val (.int b), .val (.int g), .val (.int (Int32.ofNat t.1)), .val (.double z), .second, .val (.double (9218868437227405312 : UInt64)), .second, .val (.int q), .unset] [(.long (b.toInt64)), (.long ((2 : Int64) * (g.toInt64))), (.long (((b.toInt64) - (a.toInt64)) * ((1 : Int64) <<< ((Int32.ofNat t.1) &&& 0x3f).toInt64)))]))
      refine Dn.of (fun tt_ zz_ => XS.lmul X0.here hx rfl (hb hby at_132) rfl zz_) ?_
      show Dn p e below s (own_Q n0) 0 0 (s₁.setTop (mkF m 133 #[.val (.int i0), .val (.int i1), .val (.int i2), .val (.int i3), .val (.int i4), .val (.int a), .val (.int b), .val (.int g), .val (.int (Int32.ofNat t.1)), .val (.double z), .second, .val (.double (9218868437227405312 : UInt64)), .second, .val (.int q), .unset] [(.long (((2 : Int64) * (g.toInt64)) * (b.toInt64))), (.long (((b.toInt64) - (a.toInt64)) * ((1 : Int64) <<< ((Int32.ofNat t.1) &&& 0x3f).toInt64)))]))
      refine Dn.of (fun tt_ zz_ => XS.lcmp X0.here hx rfl (hb hby at_133) rfl zz_) ?_
      show Dn p e below s (own_Q n0) 0 0 (s₁.setTop (mkF m 134 #[.val (.int i0), .val (.int i1), .val (.int i2), .val (.int i3), .val (.int i4), .val (.int a), .val (.int b), .val (.int g), .val (.int (Int32.ofNat t.1)), .val (.double z), .second, .val (.double (9218868437227405312 : UInt64)), .second, .val (.int q), .unset] [(.int (lcmpW (((b.toInt64) - (a.toInt64)) * ((1 : Int64) <<< ((Int32.ofNat t.1) &&& 0x3f).toInt64)) (((2 : Int64) * (g.toInt64)) * (b.toInt64))))]))
      by_cases h2 : (0 : Int32) < (lcmpW (((b.toInt64) - (a.toInt64)) * ((1 : Int64) <<< ((Int32.ofNat t.1) &&& 0x3f).toInt64)) (((2 : Int64) * (g.toInt64)) * (b.toInt64)))
      · skip
        refine Dn.of (fun tt_ zz_ => XS.ifYes X0.here hx rfl (pc0 := 134) (pc' := 141) rfl (hb hby at_134) rfl ((if0 _ _).trans (tlt h2).2.2.1) (by decide) (by decide) zz_) ?_
        show Dn p e below s (own_Q n0) 0 0 (s₁.setTop (mkF m 141 #[.val (.int i0), .val (.int i1), .val (.int i2), .val (.int i3), .val (.int i4), .val (.int a), .val (.int b), .val (.int g), .val (.int (Int32.ofNat t.1)), .val (.double z), .second, .val (.double (9218868437227405312 : UInt64)), .second, .val (.int q), .unset] []))
        rw [lw_gt, Int64.lt_iff_toInt_lt, own_long b1 b2, own_long2 b3 b2] at h2
        refine Dn.of (fun tt_ zz_ => XS.iconst X0.here hx rfl (hb hby at_141) zz_) ?_
        show Dn p e below s (own_Q n0) 0 0 (s₁.setTop (mkF m 142 #[.val (.int i0), .val (.int i1), .val (.int i2), .val (.int i3), .val (.int i4), .val (.int a), .val (.int b), .val (.int g), .val (.int (Int32.ofNat t.1)), .val (.double z), .second, .val (.double (9218868437227405312 : UInt64)), .second, .val (.int q), .unset] [(.int (0 : Int32))]))
        refine Dn.of (fun tt_ zz_ => XS.istore X0.here hx rfl (hb hby at_142) rfl (l' := #[.val (.int i0), .val (.int i1), .val (.int i2), .val (.int i3), .val (.int i4), .val (.int a), .val (.int b), .val (.int g), .val (.int (Int32.ofNat t.1)), .val (.double z), .second, .val (.double (9218868437227405312 : UInt64)), .second, .val (.int q), .val (.int (0 : Int32))]) rfl zz_) ?_
        show Dn p e below s (own_Q n0) 0 0 (s₁.setTop (mkF m 144 #[.val (.int i0), .val (.int i1), .val (.int i2), .val (.int i3), .val (.int i4), .val (.int a), .val (.int b), .val (.int g), .val (.int (Int32.ofNat t.1)), .val (.double z), .second, .val (.double (9218868437227405312 : UInt64)), .second, .val (.int q), .val (.int (0 : Int32))] []))
        exact KE (0 : Int32) (by rw [own_conv, if_neg h1', if_pos h2])
      · skip
        refine Dn.of (fun tt_ zz_ => XS.ifNo X0.here hx rfl (hb hby at_134) rfl ((if0 _ _).trans (flt h2).2.2.1) zz_) ?_
        show Dn p e below s (own_Q n0) 0 0 (s₁.setTop (mkF m 137 #[.val (.int i0), .val (.int i1), .val (.int i2), .val (.int i3), .val (.int i4), .val (.int a), .val (.int b), .val (.int g), .val (.int (Int32.ofNat t.1)), .val (.double z), .second, .val (.double (9218868437227405312 : UInt64)), .second, .val (.int q), .unset] []))
        rw [lw_gt, Int64.lt_iff_toInt_lt, own_long b1 b2, own_long2 b3 b2] at h2
        refine Dn.of (fun tt_ zz_ => XS.iconst X0.here hx rfl (hb hby at_137) zz_) ?_
        show Dn p e below s (own_Q n0) 0 0 (s₁.setTop (mkF m 138 #[.val (.int i0), .val (.int i1), .val (.int i2), .val (.int i3), .val (.int i4), .val (.int a), .val (.int b), .val (.int g), .val (.int (Int32.ofNat t.1)), .val (.double z), .second, .val (.double (9218868437227405312 : UInt64)), .second, .val (.int q), .unset] [(.int (1 : Int32))]))
        refine Dn.of (fun tt_ zz_ => XS.goto X0.here hx rfl (pc0 := 138) (pc' := 142) rfl (hb hby at_138) (by decide) (by decide) zz_) ?_
        show Dn p e below s (own_Q n0) 0 0 (s₁.setTop (mkF m 142 #[.val (.int i0), .val (.int i1), .val (.int i2), .val (.int i3), .val (.int i4), .val (.int a), .val (.int b), .val (.int g), .val (.int (Int32.ofNat t.1)), .val (.double z), .second, .val (.double (9218868437227405312 : UInt64)), .second, .val (.int q), .unset] [(.int (1 : Int32))]))
        refine Dn.of (fun tt_ zz_ => XS.istore X0.here hx rfl (hb hby at_142) rfl (l' := #[.val (.int i0), .val (.int i1), .val (.int i2), .val (.int i3), .val (.int i4), .val (.int a), .val (.int b), .val (.int g), .val (.int (Int32.ofNat t.1)), .val (.double z), .second, .val (.double (9218868437227405312 : UInt64)), .second, .val (.int q), .val (.int (1 : Int32))]) rfl zz_) ?_
        show Dn p e below s (own_Q n0) 0 0 (s₁.setTop (mkF m 144 #[.val (.int i0), .val (.int i1), .val (.int i2), .val (.int i3), .val (.int i4), .val (.int a), .val (.int b), .val (.int g), .val (.int (Int32.ofNat t.1)), .val (.double z), .second, .val (.double (9218868437227405312 : UInt64)), .second, .val (.int q), .val (.int (1 : Int32))] []))
        exact KE (1 : Int32) (by rw [own_conv, if_neg h1', if_neg h2])
  obtain ⟨t, ht⟩ := own_s i3
  have b1 := own_l i0
  have b2 := own_l i1
  have b3 := own_e i2
  have hz := own_eps i2 t
  rw [← ht] at hz
  refine Dn.of (fun tt_ zz_ => XS.iloadN X0.here hx rfl (hb hby at_0) rfl zz_) ?_
  show Dn p e below s (own_Q n0) 0 0 (s₁.setTop (mkF m 1 #[.val (.int i0), .val (.int i1), .val (.int i2), .val (.int i3), .val (.int i4), .unset, .unset, .unset, .unset, .unset, .unset, .unset, .unset, .unset, .unset] [(.int i0)]))
  refine Dn.of (fun tt_ zz_ => XS.bipush X0.here hx rfl (hb hby at_1) zz_) ?_
  show Dn p e below s (own_Q n0) 0 0 (s₁.setTop (mkF m 3 #[.val (.int i0), .val (.int i1), .val (.int i2), .val (.int i3), .val (.int i4), .unset, .unset, .unset, .unset, .unset, .unset, .unset, .unset, .unset, .unset] [(.int (11 : Int32)), (.int i0)]))
  refine Dn.of (fun tt_ zz_ => XS.ishl X0.here hx rfl (hb hby at_3) rfl zz_) ?_
  show Dn p e below s (own_Q n0) 0 0 (s₁.setTop (mkF m 4 #[.val (.int i0), .val (.int i1), .val (.int i2), .val (.int i3), .val (.int i4), .unset, .unset, .unset, .unset, .unset, .unset, .unset, .unset, .unset, .unset] [(.int (i0 <<< ((11 : Int32) &&& 31)))]))
  refine Dn.of (fun tt_ zz_ => XS.bipush X0.here hx rfl (hb hby at_4) zz_) ?_
  show Dn p e below s (own_Q n0) 0 0 (s₁.setTop (mkF m 6 #[.val (.int i0), .val (.int i1), .val (.int i2), .val (.int i3), .val (.int i4), .unset, .unset, .unset, .unset, .unset, .unset, .unset, .unset, .unset, .unset] [(.int (11 : Int32)), (.int (i0 <<< ((11 : Int32) &&& 31)))]))
  refine Dn.of (fun tt_ zz_ => XS.ishr X0.here hx rfl (hb hby at_6) rfl zz_) ?_
  show Dn p e below s (own_Q n0) 0 0 (s₁.setTop (mkF m 7 #[.val (.int i0), .val (.int i1), .val (.int i2), .val (.int i3), .val (.int i4), .unset, .unset, .unset, .unset, .unset, .unset, .unset, .unset, .unset, .unset] [(.int ((i0 <<< ((11 : Int32) &&& 31)) >>> ((11 : Int32) &&& 31)))]))
  refine Dn.of (fun tt_ zz_ => XS.istore X0.here hx rfl (hb hby at_7) rfl (l' := #[.val (.int i0), .val (.int i1), .val (.int i2), .val (.int i3), .val (.int i4), .val (.int ((i0 <<< ((11 : Int32) &&& 31)) >>> ((11 : Int32) &&& 31))), .unset, .unset, .unset, .unset, .unset, .unset, .unset, .unset, .unset]) rfl zz_) ?_
  show Dn p e below s (own_Q n0) 0 0 (s₁.setTop (mkF m 9 #[.val (.int i0), .val (.int i1), .val (.int i2), .val (.int i3), .val (.int i4), .val (.int ((i0 <<< ((11 : Int32) &&& 31)) >>> ((11 : Int32) &&& 31))), .unset, .unset, .unset, .unset, .unset, .unset, .unset, .unset, .unset] []))
  refine Dn.of (fun tt_ zz_ => XS.iloadN X0.here hx rfl (hb hby at_9) rfl zz_) ?_
  show Dn p e below s (own_Q n0) 0 0 (s₁.setTop (mkF m 10 #[.val (.int i0), .val (.int i1), .val (.int i2), .val (.int i3), .val (.int i4), .val (.int ((i0 <<< ((11 : Int32) &&& 31)) >>> ((11 : Int32) &&& 31))), .unset, .unset, .unset, .unset, .unset, .unset, .unset, .unset, .unset] [(.int i1)]))
  refine Dn.of (fun tt_ zz_ => XS.bipush X0.here hx rfl (hb hby at_10) zz_) ?_
  show Dn p e below s (own_Q n0) 0 0 (s₁.setTop (mkF m 12 #[.val (.int i0), .val (.int i1), .val (.int i2), .val (.int i3), .val (.int i4), .val (.int ((i0 <<< ((11 : Int32) &&& 31)) >>> ((11 : Int32) &&& 31))), .unset, .unset, .unset, .unset, .unset, .unset, .unset, .unset, .unset] [(.int (11 : Int32)), (.int i1)]))
  refine Dn.of (fun tt_ zz_ => XS.ishl X0.here hx rfl (hb hby at_12) rfl zz_) ?_
  show Dn p e below s (own_Q n0) 0 0 (s₁.setTop (mkF m 13 #[.val (.int i0), .val (.int i1), .val (.int i2), .val (.int i3), .val (.int i4), .val (.int ((i0 <<< ((11 : Int32) &&& 31)) >>> ((11 : Int32) &&& 31))), .unset, .unset, .unset, .unset, .unset, .unset, .unset, .unset, .unset] [(.int (i1 <<< ((11 : Int32) &&& 31)))]))
  refine Dn.of (fun tt_ zz_ => XS.bipush X0.here hx rfl (hb hby at_13) zz_) ?_
  show Dn p e below s (own_Q n0) 0 0 (s₁.setTop (mkF m 15 #[.val (.int i0), .val (.int i1), .val (.int i2), .val (.int i3), .val (.int i4), .val (.int ((i0 <<< ((11 : Int32) &&& 31)) >>> ((11 : Int32) &&& 31))), .unset, .unset, .unset, .unset, .unset, .unset, .unset, .unset, .unset] [(.int (11 : Int32)), (.int (i1 <<< ((11 : Int32) &&& 31)))]))
  refine Dn.of (fun tt_ zz_ => XS.ishr X0.here hx rfl (hb hby at_15) rfl zz_) ?_
  show Dn p e below s (own_Q n0) 0 0 (s₁.setTop (mkF m 16 #[.val (.int i0), .val (.int i1), .val (.int i2), .val (.int i3), .val (.int i4), .val (.int ((i0 <<< ((11 : Int32) &&& 31)) >>> ((11 : Int32) &&& 31))), .unset, .unset, .unset, .unset, .unset, .unset, .unset, .unset, .unset] [(.int ((i1 <<< ((11 : Int32) &&& 31)) >>> ((11 : Int32) &&& 31)))]))
  refine Dn.of (fun tt_ zz_ => XS.istore X0.here hx rfl (hb hby at_16) rfl (l' := #[.val (.int i0), .val (.int i1), .val (.int i2), .val (.int i3), .val (.int i4), .val (.int ((i0 <<< ((11 : Int32) &&& 31)) >>> ((11 : Int32) &&& 31))), .val (.int ((i1 <<< ((11 : Int32) &&& 31)) >>> ((11 : Int32) &&& 31))), .unset, .unset, .unset, .unset, .unset, .unset, .unset, .unset]) rfl zz_) ?_
  show Dn p e below s (own_Q n0) 0 0 (s₁.setTop (mkF m 18 #[.val (.int i0), .val (.int i1), .val (.int i2), .val (.int i3), .val (.int i4), .val (.int ((i0 <<< ((11 : Int32) &&& 31)) >>> ((11 : Int32) &&& 31))), .val (.int ((i1 <<< ((11 : Int32) &&& 31)) >>> ((11 : Int32) &&& 31))), .unset, .unset, .unset, .unset, .unset, .unset, .unset, .unset] []))
  refine Dn.of (fun tt_ zz_ => XS.iloadN X0.here hx rfl (hb hby at_18) rfl zz_) ?_
  show Dn p e below s (own_Q n0) 0 0 (s₁.setTop (mkF m 19 #[.val (.int i0), .val (.int i1), .val (.int i2), .val (.int i3), .val (.int i4), .val (.int ((i0 <<< ((11 : Int32) &&& 31)) >>> ((11 : Int32) &&& 31))), .val (.int ((i1 <<< ((11 : Int32) &&& 31)) >>> ((11 : Int32) &&& 31))), .unset, .unset, .unset, .unset, .unset, .unset, .unset, .unset] [(.int i2)]))
  refine Dn.of (fun tt_ zz_ => X0.ldcI hx hown (mvT hZ (hw _ (List.mem_of_getElem? (i := 0) rfl))) rfl (hb hby at_19) zz_) ?_
  show Dn p e below s (own_Q n0) 0 0 (s₁.setTop (mkF m 21 #[.val (.int i0), .val (.int i1), .val (.int i2), .val (.int i3), .val (.int i4), .val (.int ((i0 <<< ((11 : Int32) &&& 31)) >>> ((11 : Int32) &&& 31))), .val (.int ((i1 <<< ((11 : Int32) &&& 31)) >>> ((11 : Int32) &&& 31))), .unset, .unset, .unset, .unset, .unset, .unset, .unset, .unset] [(.int (2097151 : Int32)), (.int i2)]))
  refine Dn.of (fun tt_ zz_ => XS.iand X0.here hx rfl (hb hby at_21) rfl zz_) ?_
  show Dn p e below s (own_Q n0) 0 0 (s₁.setTop (mkF m 22 #[.val (.int i0), .val (.int i1), .val (.int i2), .val (.int i3), .val (.int i4), .val (.int ((i0 <<< ((11 : Int32) &&& 31)) >>> ((11 : Int32) &&& 31))), .val (.int ((i1 <<< ((11 : Int32) &&& 31)) >>> ((11 : Int32) &&& 31))), .unset, .unset, .unset, .unset, .unset, .unset, .unset, .unset] [(.int (i2 &&& (2097151 : Int32)))]))
  refine Dn.of (fun tt_ zz_ => XS.istore X0.here hx rfl (hb hby at_22) rfl (l' := #[.val (.int i0), .val (.int i1), .val (.int i2), .val (.int i3), .val (.int i4), .val (.int ((i0 <<< ((11 : Int32) &&& 31)) >>> ((11 : Int32) &&& 31))), .val (.int ((i1 <<< ((11 : Int32) &&& 31)) >>> ((11 : Int32) &&& 31))), .val (.int (i2 &&& (2097151 : Int32))), .unset, .unset, .unset, .unset, .unset, .unset, .unset]) rfl zz_) ?_
  show Dn p e below s (own_Q n0) 0 0 (s₁.setTop (mkF m 24 #[.val (.int i0), .val (.int i1), .val (.int i2), .val (.int i3), .val (.int i4), .val (.int ((i0 <<< ((11 : Int32) &&& 31)) >>> ((11 : Int32) &&& 31))), .val (.int ((i1 <<< ((11 : Int32) &&& 31)) >>> ((11 : Int32) &&& 31))), .val (.int (i2 &&& (2097151 : Int32))), .unset, .unset, .unset, .unset, .unset, .unset, .unset] []))
  refine Dn.of (fun tt_ zz_ => XS.iloadN X0.here hx rfl (hb hby at_24) rfl zz_) ?_
  show Dn p e below s (own_Q n0) 0 0 (s₁.setTop (mkF m 25 #[.val (.int i0), .val (.int i1), .val (.int i2), .val (.int i3), .val (.int i4), .val (.int ((i0 <<< ((11 : Int32) &&& 31)) >>> ((11 : Int32) &&& 31))), .val (.int ((i1 <<< ((11 : Int32) &&& 31)) >>> ((11 : Int32) &&& 31))), .val (.int (i2 &&& (2097151 : Int32))), .unset, .unset, .unset, .unset, .unset, .unset, .unset] [(.int i3)]))
  refine Dn.of (fun tt_ zz_ => XS.bipush X0.here hx rfl (hb hby at_25) zz_) ?_
  show Dn p e below s (own_Q n0) 0 0 (s₁.setTop (mkF m 27 #[.val (.int i0), .val (.int i1), .val (.int i2), .val (.int i3), .val (.int i4), .val (.int ((i0 <<< ((11 : Int32) &&& 31)) >>> ((11 : Int32) &&& 31))), .val (.int ((i1 <<< ((11 : Int32) &&& 31)) >>> ((11 : Int32) &&& 31))), .val (.int (i2 &&& (2097151 : Int32))), .unset, .unset, .unset, .unset, .unset, .unset, .unset] [(.int (31 : Int32)), (.int i3)]))
  refine Dn.of (fun tt_ zz_ => XS.iand X0.here hx rfl (hb hby at_27) rfl zz_) ?_
  show Dn p e below s (own_Q n0) 0 0 (s₁.setTop (mkF m 28 #[.val (.int i0), .val (.int i1), .val (.int i2), .val (.int i3), .val (.int i4), .val (.int ((i0 <<< ((11 : Int32) &&& 31)) >>> ((11 : Int32) &&& 31))), .val (.int ((i1 <<< ((11 : Int32) &&& 31)) >>> ((11 : Int32) &&& 31))), .val (.int (i2 &&& (2097151 : Int32))), .unset, .unset, .unset, .unset, .unset, .unset, .unset] [(.int (i3 &&& (31 : Int32)))]))
  refine Dn.of (fun tt_ zz_ => XS.istore X0.here hx rfl (hb hby at_28) rfl (l' := #[.val (.int i0), .val (.int i1), .val (.int i2), .val (.int i3), .val (.int i4), .val (.int ((i0 <<< ((11 : Int32) &&& 31)) >>> ((11 : Int32) &&& 31))), .val (.int ((i1 <<< ((11 : Int32) &&& 31)) >>> ((11 : Int32) &&& 31))), .val (.int (i2 &&& (2097151 : Int32))), .val (.int (i3 &&& (31 : Int32))), .unset, .unset, .unset, .unset, .unset, .unset]) rfl zz_) ?_
  show Dn p e below s (own_Q n0) 0 0 (s₁.setTop (mkF m 30 #[.val (.int i0), .val (.int i1), .val (.int i2), .val (.int i3), .val (.int i4), .val (.int ((i0 <<< ((11 : Int32) &&& 31)) >>> ((11 : Int32) &&& 31))), .val (.int ((i1 <<< ((11 : Int32) &&& 31)) >>> ((11 : Int32) &&& 31))), .val (.int (i2 &&& (2097151 : Int32))), .val (.int (i3 &&& (31 : Int32))), .unset, .unset, .unset, .unset, .unset, .unset] []))
  refine Dn.of (fun tt_ zz_ => XS.iload X0.here hx rfl (hb hby at_30) rfl zz_) ?_
  show Dn p e below s (own_Q n0) 0 0 (s₁.setTop (mkF m 32 #[.val (.int i0), .val (.int i1), .val (.int i2), .val (.int i3), .val (.int i4), .val (.int ((i0 <<< ((11 : Int32) &&& 31)) >>> ((11 : Int32) &&& 31))), .val (.int ((i1 <<< ((11 : Int32) &&& 31)) >>> ((11 : Int32) &&& 31))), .val (.int (i2 &&& (2097151 : Int32))), .val (.int (i3 &&& (31 : Int32))), .unset, .unset, .unset, .unset, .unset, .unset] [(.int (i2 &&& (2097151 : Int32)))]))
  refine Dn.of (fun tt_ zz_ => XS.i2dS X0.here hx rfl (v := FP.i2d (i2 &&& (2097151 : Int32))) (hb hby at_32) rfl rfl zz_) ?_
  show Dn p e below s (own_Q n0) 0 0 (s₁.setTop (mkF m 33 #[.val (.int i0), .val (.int i1), .val (.int i2), .val (.int i3), .val (.int i4), .val (.int ((i0 <<< ((11 : Int32) &&& 31)) >>> ((11 : Int32) &&& 31))), .val (.int ((i1 <<< ((11 : Int32) &&& 31)) >>> ((11 : Int32) &&& 31))), .val (.int (i2 &&& (2097151 : Int32))), .val (.int (i3 &&& (31 : Int32))), .unset, .unset, .unset, .unset, .unset, .unset] [(.double (FP.i2d (i2 &&& (2097151 : Int32))))]))
  refine Dn.of (fun tt_ zz_ => XS.lconst X0.here hx rfl (hb hby at_33) zz_) ?_
  show Dn p e below s (own_Q n0) 0 0 (s₁.setTop (mkF m 34 #[.val (.int i0), .val (.int i1), .val (.int i2), .val (.int i3), .val (.int i4), .val (.int ((i0 <<< ((11 : Int32) &&& 31)) >>> ((11 : Int32) &&& 31))), .val (.int ((i1 <<< ((11 : Int32) &&& 31)) >>> ((11 : Int32) &&& 31))), .val (.int (i2 &&& (2097151 : Int32))), .val (.int (i3 &&& (31 : Int32))), .unset, .unset, .unset, .unset, .unset, .unset] [(.long (1 : Int64)), (.double (FP.i2d (i2 &&& (2097151 : Int32))))]))
  refine Dn.of (fun tt_ zz_ => XS.iload X0.here hx rfl (hb hby at_34) rfl zz_) ?_
  show Dn p e below s (own_Q n0) 0 0 (s₁.setTop (mkF m 36 #[.val (.int i0), .val (.int i1), .val (.int i2), .val (.int i3), .val (.int i4), .val (.int ((i0 <<< ((11 : Int32) &&& 31)) >>> ((11 : Int32) &&& 31))), .val (.int ((i1 <<< ((11 : Int32) &&& 31)) >>> ((11 : Int32) &&& 31))), .val (.int (i2 &&& (2097151 : Int32))), .val (.int (i3 &&& (31 : Int32))), .unset, .unset, .unset, .unset, .unset, .unset] [(.int (i3 &&& (31 : Int32))), (.long (1 : Int64)), (.double (FP.i2d (i2 &&& (2097151 : Int32))))]))
  refine Dn.of (fun tt_ zz_ => XS.lshl X0.here hx rfl (hb hby at_36) rfl zz_) ?_
  show Dn p e below s (own_Q n0) 0 0 (s₁.setTop (mkF m 37 #[.val (.int i0), .val (.int i1), .val (.int i2), .val (.int i3), .val (.int i4), .val (.int ((i0 <<< ((11 : Int32) &&& 31)) >>> ((11 : Int32) &&& 31))), .val (.int ((i1 <<< ((11 : Int32) &&& 31)) >>> ((11 : Int32) &&& 31))), .val (.int (i2 &&& (2097151 : Int32))), .val (.int (i3 &&& (31 : Int32))), .unset, .unset, .unset, .unset, .unset, .unset] [(.long ((1 : Int64) <<< ((i3 &&& (31 : Int32)) &&& 0x3f).toInt64)), (.double (FP.i2d (i2 &&& (2097151 : Int32))))]))
  refine Dn.of (fun tt_ zz_ => XS.l2dS X0.here hx rfl (v := FP.l2d ((1 : Int64) <<< ((i3 &&& (31 : Int32)) &&& 0x3f).toInt64)) (hb hby at_37) rfl rfl zz_) ?_
  show Dn p e below s (own_Q n0) 0 0 (s₁.setTop (mkF m 38 #[.val (.int i0), .val (.int i1), .val (.int i2), .val (.int i3), .val (.int i4), .val (.int ((i0 <<< ((11 : Int32) &&& 31)) >>> ((11 : Int32) &&& 31))), .val (.int ((i1 <<< ((11 : Int32) &&& 31)) >>> ((11 : Int32) &&& 31))), .val (.int (i2 &&& (2097151 : Int32))), .val (.int (i3 &&& (31 : Int32))), .unset, .unset, .unset, .unset, .unset, .unset] [(.double (FP.l2d ((1 : Int64) <<< ((i3 &&& (31 : Int32)) &&& 0x3f).toInt64))), (.double (FP.i2d (i2 &&& (2097151 : Int32))))]))
  refine Dn.of (fun tt_ zz_ => XS.ddivS X0.here hx rfl (v := (FP.ddiv (FP.i2d (i2 &&& (2097151 : Int32))) (FP.l2d ((1 : Int64) <<< ((i3 &&& (31 : Int32)) &&& 0x3f).toInt64)))) (hb hby at_38) rfl hz.noNaN rfl zz_) ?_
  show Dn p e below s (own_Q n0) 0 0 (s₁.setTop (mkF m 39 #[.val (.int i0), .val (.int i1), .val (.int i2), .val (.int i3), .val (.int i4), .val (.int ((i0 <<< ((11 : Int32) &&& 31)) >>> ((11 : Int32) &&& 31))), .val (.int ((i1 <<< ((11 : Int32) &&& 31)) >>> ((11 : Int32) &&& 31))), .val (.int (i2 &&& (2097151 : Int32))), .val (.int (i3 &&& (31 : Int32))), .unset, .unset, .unset, .unset, .unset, .unset] [(.double (FP.ddiv (FP.i2d (i2 &&& (2097151 : Int32))) (FP.l2d ((1 : Int64) <<< ((i3 &&& (31 : Int32)) &&& 0x3f).toInt64))))]))
  refine Dn.of (fun tt_ zz_ => XS.dstore X0.here hx rfl (hb hby at_39) rfl (l' := #[.val (.int i0), .val (.int i1), .val (.int i2), .val (.int i3), .val (.int i4), .val (.int ((i0 <<< ((11 : Int32) &&& 31)) >>> ((11 : Int32) &&& 31))), .val (.int ((i1 <<< ((11 : Int32) &&& 31)) >>> ((11 : Int32) &&& 31))), .val (.int (i2 &&& (2097151 : Int32))), .val (.int (i3 &&& (31 : Int32))), .val (.double (FP.ddiv (FP.i2d (i2 &&& (2097151 : Int32))) (FP.l2d ((1 : Int64) <<< ((i3 &&& (31 : Int32)) &&& 0x3f).toInt64)))), .second, .unset, .unset, .unset, .unset]) rfl zz_) ?_
  show Dn p e below s (own_Q n0) 0 0 (s₁.setTop (mkF m 41 #[.val (.int i0), .val (.int i1), .val (.int i2), .val (.int i3), .val (.int i4), .val (.int ((i0 <<< ((11 : Int32) &&& 31)) >>> ((11 : Int32) &&& 31))), .val (.int ((i1 <<< ((11 : Int32) &&& 31)) >>> ((11 : Int32) &&& 31))), .val (.int (i2 &&& (2097151 : Int32))), .val (.int (i3 &&& (31 : Int32))), .val (.double (FP.ddiv (FP.i2d (i2 &&& (2097151 : Int32))) (FP.l2d ((1 : Int64) <<< ((i3 &&& (31 : Int32)) &&& 0x3f).toInt64)))), .second, .unset, .unset, .unset, .unset] []))
  refine Dn.of (X0.ldc2DoubleC hx hown (mvT hZ (hw _ (List.mem_of_getElem? (i := 1) rfl))) (g := (mkF m 41 #[.val (.int i0), .val (.int i1), .val (.int i2), .val (.int i3), .val (.int i4), .val (.int ((i0 <<< ((11 : Int32) &&& 31)) >>> ((11 : Int32) &&& 31))), .val (.int ((i1 <<< ((11 : Int32) &&& 31)) >>> ((11 : Int32) &&& 31))), .val (.int (i2 &&& (2097151 : Int32))), .val (.int (i3 &&& (31 : Int32))), .val (.double (FP.ddiv (FP.i2d (i2 &&& (2097151 : Int32))) (FP.l2d ((1 : Int64) <<< ((i3 &&& (31 : Int32)) &&& 0x3f).toInt64)))), .second, .unset, .unset, .unset, .unset] [])) rfl (hb hby at_41)) ?_
  show Dn p e below s (own_Q n0) 0 0 (s₁.setTop (mkF m 44 #[.val (.int i0), .val (.int i1), .val (.int i2), .val (.int i3), .val (.int i4), .val (.int ((i0 <<< ((11 : Int32) &&& 31)) >>> ((11 : Int32) &&& 31))), .val (.int ((i1 <<< ((11 : Int32) &&& 31)) >>> ((11 : Int32) &&& 31))), .val (.int (i2 &&& (2097151 : Int32))), .val (.int (i3 &&& (31 : Int32))), .val (.double (FP.ddiv (FP.i2d (i2 &&& (2097151 : Int32))) (FP.l2d ((1 : Int64) <<< ((i3 &&& (31 : Int32)) &&& 0x3f).toInt64)))), .second, .unset, .unset, .unset, .unset] [(.double (9218868437227405312 : UInt64))]))
  refine Dn.of (fun tt_ zz_ => XS.dstore X0.here hx rfl (hb hby at_44) rfl (l' := #[.val (.int i0), .val (.int i1), .val (.int i2), .val (.int i3), .val (.int i4), .val (.int ((i0 <<< ((11 : Int32) &&& 31)) >>> ((11 : Int32) &&& 31))), .val (.int ((i1 <<< ((11 : Int32) &&& 31)) >>> ((11 : Int32) &&& 31))), .val (.int (i2 &&& (2097151 : Int32))), .val (.int (i3 &&& (31 : Int32))), .val (.double (FP.ddiv (FP.i2d (i2 &&& (2097151 : Int32))) (FP.l2d ((1 : Int64) <<< ((i3 &&& (31 : Int32)) &&& 0x3f).toInt64)))), .second, .val (.double (9218868437227405312 : UInt64)), .second, .unset, .unset]) rfl zz_) ?_
  show Dn p e below s (own_Q n0) 0 0 (s₁.setTop (mkF m 46 #[.val (.int i0), .val (.int i1), .val (.int i2), .val (.int i3), .val (.int i4), .val (.int ((i0 <<< ((11 : Int32) &&& 31)) >>> ((11 : Int32) &&& 31))), .val (.int ((i1 <<< ((11 : Int32) &&& 31)) >>> ((11 : Int32) &&& 31))), .val (.int (i2 &&& (2097151 : Int32))), .val (.int (i3 &&& (31 : Int32))), .val (.double (FP.ddiv (FP.i2d (i2 &&& (2097151 : Int32))) (FP.l2d ((1 : Int64) <<< ((i3 &&& (31 : Int32)) &&& 0x3f).toInt64)))), .second, .val (.double (9218868437227405312 : UInt64)), .second, .unset, .unset] []))
  refine Dn.of (fun tt_ zz_ => XS.iload X0.here hx rfl (hb hby at_46) rfl zz_) ?_
  show Dn p e below s (own_Q n0) 0 0 (s₁.setTop (mkF m 48 #[.val (.int i0), .val (.int i1), .val (.int i2), .val (.int i3), .val (.int i4), .val (.int ((i0 <<< ((11 : Int32) &&& 31)) >>> ((11 : Int32) &&& 31))), .val (.int ((i1 <<< ((11 : Int32) &&& 31)) >>> ((11 : Int32) &&& 31))), .val (.int (i2 &&& (2097151 : Int32))), .val (.int (i3 &&& (31 : Int32))), .val (.double (FP.ddiv (FP.i2d (i2 &&& (2097151 : Int32))) (FP.l2d ((1 : Int64) <<< ((i3 &&& (31 : Int32)) &&& 0x3f).toInt64)))), .second, .val (.double (9218868437227405312 : UInt64)), .second, .unset, .unset] [(.int i4)]))
  refine Dn.of (fun tt_ zz_ => XS.iconst X0.here hx rfl (hb hby at_48) zz_) ?_
  show Dn p e below s (own_Q n0) 0 0 (s₁.setTop (mkF m 49 #[.val (.int i0), .val (.int i1), .val (.int i2), .val (.int i3), .val (.int i4), .val (.int ((i0 <<< ((11 : Int32) &&& 31)) >>> ((11 : Int32) &&& 31))), .val (.int ((i1 <<< ((11 : Int32) &&& 31)) >>> ((11 : Int32) &&& 31))), .val (.int (i2 &&& (2097151 : Int32))), .val (.int (i3 &&& (31 : Int32))), .val (.double (FP.ddiv (FP.i2d (i2 &&& (2097151 : Int32))) (FP.l2d ((1 : Int64) <<< ((i3 &&& (31 : Int32)) &&& 0x3f).toInt64)))), .second, .val (.double (9218868437227405312 : UInt64)), .second, .unset, .unset] [(.int (3 : Int32)), (.int i4)]))
  refine Dn.of (fun tt_ zz_ => XS.iand X0.here hx rfl (hb hby at_49) rfl zz_) ?_
  show Dn p e below s (own_Q n0) 0 0 (s₁.setTop (mkF m 50 #[.val (.int i0), .val (.int i1), .val (.int i2), .val (.int i3), .val (.int i4), .val (.int ((i0 <<< ((11 : Int32) &&& 31)) >>> ((11 : Int32) &&& 31))), .val (.int ((i1 <<< ((11 : Int32) &&& 31)) >>> ((11 : Int32) &&& 31))), .val (.int (i2 &&& (2097151 : Int32))), .val (.int (i3 &&& (31 : Int32))), .val (.double (FP.ddiv (FP.i2d (i2 &&& (2097151 : Int32))) (FP.l2d ((1 : Int64) <<< ((i3 &&& (31 : Int32)) &&& 0x3f).toInt64)))), .second, .val (.double (9218868437227405312 : UInt64)), .second, .unset, .unset] [(.int (i4 &&& (3 : Int32)))]))
  refine Dn.of (fun tt_ zz_ => XS.istore X0.here hx rfl (hb hby at_50) rfl (l' := #[.val (.int i0), .val (.int i1), .val (.int i2), .val (.int i3), .val (.int i4), .val (.int ((i0 <<< ((11 : Int32) &&& 31)) >>> ((11 : Int32) &&& 31))), .val (.int ((i1 <<< ((11 : Int32) &&& 31)) >>> ((11 : Int32) &&& 31))), .val (.int (i2 &&& (2097151 : Int32))), .val (.int (i3 &&& (31 : Int32))), .val (.double (FP.ddiv (FP.i2d (i2 &&& (2097151 : Int32))) (FP.l2d ((1 : Int64) <<< ((i3 &&& (31 : Int32)) &&& 0x3f).toInt64)))), .second, .val (.double (9218868437227405312 : UInt64)), .second, .val (.int (i4 &&& (3 : Int32))), .unset]) rfl zz_) ?_
  show Dn p e below s (own_Q n0) 0 0 (s₁.setTop (mkF m 52 #[.val (.int i0), .val (.int i1), .val (.int i2), .val (.int i3), .val (.int i4), .val (.int ((i0 <<< ((11 : Int32) &&& 31)) >>> ((11 : Int32) &&& 31))), .val (.int ((i1 <<< ((11 : Int32) &&& 31)) >>> ((11 : Int32) &&& 31))), .val (.int (i2 &&& (2097151 : Int32))), .val (.int (i3 &&& (31 : Int32))), .val (.double (FP.ddiv (FP.i2d (i2 &&& (2097151 : Int32))) (FP.l2d ((1 : Int64) <<< ((i3 &&& (31 : Int32)) &&& 0x3f).toInt64)))), .second, .val (.double (9218868437227405312 : UInt64)), .second, .val (.int (i4 &&& (3 : Int32))), .unset] []))
  generalize (FP.ddiv (FP.i2d (i2 &&& (2097151 : Int32))) (FP.l2d ((1 : Int64) <<< ((i3 &&& (31 : Int32)) &&& 0x3f).toInt64))) = z at *
  show Dn p e below s (own_Q n0) 0 0 (s₁.setTop (mkF m 52 #[.val (.int i0), .val (.int i1), .val (.int i2), .val (.int i3), .val (.int i4), .val (.int ((i0 <<< ((11 : Int32) &&& 31)) >>> ((11 : Int32) &&& 31))), .val (.int ((i1 <<< ((11 : Int32) &&& 31)) >>> ((11 : Int32) &&& 31))), .val (.int (i2 &&& (2097151 : Int32))), .val (.int (i3 &&& (31 : Int32))), .val (.double z), .second, .val (.double (9218868437227405312 : UInt64)), .second, .val (.int (i4 &&& (3 : Int32))), .unset] []))
  generalize ((i0 <<< ((11 : Int32) &&& 31)) >>> ((11 : Int32) &&& 31)) = a at *
  generalize ((i1 <<< ((11 : Int32) &&& 31)) >>> ((11 : Int32) &&& 31)) = b at *
  generalize (i2 &&& (2097151 : Int32)) = g at *
  generalize (i3 &&& (31 : Int32)) = d at *
  generalize (i4 &&& (3 : Int32)) = q at *
  show Dn p e below s (own_Q n0) 0 0 (s₁.setTop (mkF m 52 #[.val (.int i0), .val (.int i1), .val (.int i2), .val (.int i3), .val (.int i4), .val (.int a), .val (.int b), .val (.int g), .val (.int d), .val (.double z), .second, .val (.double (9218868437227405312 : UInt64)), .second, .val (.int q), .unset] []))
  refine Dn.of (fun tt_ zz_ => XS.iload X0.here hx rfl (hb hby at_52) rfl zz_) ?_
  show Dn p e below s (own_Q n0) 0 0 (s₁.setTop (mkF m 54 #[.val (.int i0), .val (.int i1), .val (.int i2), .val (.int i3), .val (.int i4), .val (.int a), .val (.int b), .val (.int g), .val (.int d), .val (.double z), .second, .val (.double (9218868437227405312 : UInt64)), .second, .val (.int q), .unset] [(.int q)]))
  refine Dn.of (fun tt_ zz_ => XS.iconst X0.here hx rfl (hb hby at_54) zz_) ?_
  show Dn p e below s (own_Q n0) 0 0 (s₁.setTop (mkF m 55 #[.val (.int i0), .val (.int i1), .val (.int i2), .val (.int i3), .val (.int i4), .val (.int a), .val (.int b), .val (.int g), .val (.int d), .val (.double z), .second, .val (.double (9218868437227405312 : UInt64)), .second, .val (.int q), .unset] [(.int (2 : Int32)), (.int q)]))
  by_cases q2 : q = (2 : Int32)
  · skip
    refine Dn.of (fun tt_ zz_ => XS.icmpNo X0.here hx rfl (hb hby at_55) rfl (teq q2).2 zz_) ?_
    show Dn p e below s (own_Q n0) 0 0 (s₁.setTop (mkF m 58 #[.val (.int i0), .val (.int i1), .val (.int i2), .val (.int i3), .val (.int i4), .val (.int a), .val (.int b), .val (.int g), .val (.int d), .val (.double z), .second, .val (.double (9218868437227405312 : UInt64)), .second, .val (.int q), .unset] []))
    refine Dn.of (fun tt_ zz_ => XS.iload X0.here hx rfl (hb hby at_58) rfl zz_) ?_
    show Dn p e below s (own_Q n0) 0 0 (s₁.setTop (mkF m 60 #[.val (.int i0), .val (.int i1), .val (.int i2), .val (.int i3), .val (.int i4), .val (.int a), .val (.int b), .val (.int g), .val (.int d), .val (.double z), .second, .val (.double (9218868437227405312 : UInt64)), .second, .val (.int q), .unset] [(.int a)]))
    refine Dn.of (fun tt_ zz_ => XS.i2dS X0.here hx rfl (v := FP.i2d a) (hb hby at_60) rfl rfl zz_) ?_
    show Dn p e below s (own_Q n0) 0 0 (s₁.setTop (mkF m 61 #[.val (.int i0), .val (.int i1), .val (.int i2), .val (.int i3), .val (.int i4), .val (.int a), .val (.int b), .val (.int g), .val (.int d), .val (.double z), .second, .val (.double (9218868437227405312 : UInt64)), .second, .val (.int q), .unset] [(.double (FP.i2d a))]))
    refine Dn.of (fun tt_ zz_ => XS.dload X0.here hx rfl (hb hby at_61) rfl zz_) ?_
    show Dn p e below s (own_Q n0) 0 0 (s₁.setTop (mkF m 63 #[.val (.int i0), .val (.int i1), .val (.int i2), .val (.int i3), .val (.int i4), .val (.int a), .val (.int b), .val (.int g), .val (.int d), .val (.double z), .second, .val (.double (9218868437227405312 : UInt64)), .second, .val (.int q), .unset] [(.double (9218868437227405312 : UInt64)), (.double (FP.i2d a))]))
    refine Dn.of (fun tt_ zz_ => XS.dload X0.here hx rfl (hb hby at_63) rfl zz_) ?_
    show Dn p e below s (own_Q n0) 0 0 (s₁.setTop (mkF m 65 #[.val (.int i0), .val (.int i1), .val (.int i2), .val (.int i3), .val (.int i4), .val (.int a), .val (.int b), .val (.int g), .val (.int d), .val (.double z), .second, .val (.double (9218868437227405312 : UInt64)), .second, .val (.int q), .unset] [(.double z), (.double (9218868437227405312 : UInt64)), (.double (FP.i2d a))]))
    obtain ⟨v2, T2, L2, Q2, X2, st2⟩ := cSt X0 hx hZ (y := (⟨"com/example/verify_markov_chains/verifymarkovchains/engine/SparseEngine", "isConverged", "(DDD)Z"⟩ : MethodName)) hown (hw _ (List.mem_of_getElem? (i := 3) rfl)) (hw _ (List.mem_of_getElem? (i := 4) rfl)) (hw _ (List.mem_of_getElem? (i := 5) rfl)) (hw _ (List.mem_of_getElem? (i := 6) rfl)) (by decide) (argsL := [(.double (FP.i2d a)), (.double (9218868437227405312 : UInt64)), (.double z)]) (rest := []) (rmB l Z a0 hw h0 n0 Z0 (FP.i2d a) z a.toInt (Sc.of_int (Core.i2d_int a))) e0  0 (by decide) (by decide) (by decide) (by decide) (g := (mkF m 65 #[.val (.int i0), .val (.int i1), .val (.int i2), .val (.int i3), .val (.int i4), .val (.int a), .val (.int b), .val (.int g), .val (.int d), .val (.double z), .second, .val (.double (9218868437227405312 : UInt64)), .second, .val (.int q), .unset] [(.double z), (.double (9218868437227405312 : UInt64)), (.double (FP.i2d a))])) rfl (by rw [hml]; rfl) (lenOf pd0 rfl) rfl (by show 2 * 0 + _ ≤ _; exact Nat.le_of_eq rfl) (hb hby at_65)
    obtain ⟨rfl, M1, e2⟩ := Q2
    refine Dn.of st2 ?_
    show Dn p e below s (own_Q n0) 0 0 (T2.setTop (mkF m 68 #[.val (.int i0), .val (.int i1), .val (.int i2), .val (.int i3), .val (.int i4), .val (.int a), .val (.int b), .val (.int g), .val (.int d), .val (.double z), .second, .val (.double (9218868437227405312 : UInt64)), .second, .val (.int q), .unset] [(.int (0 : Int32))]))
    refine Dn.of (fun tt_ zz_ => XS.ifNo X2.here hx rfl (hb hby at_68) rfl ((if0 _ _).trans (teq rfl).2) zz_) ?_
    show Dn p e below s (own_Q n0) 0 0 (T2.setTop (mkF m 71 #[.val (.int i0), .val (.int i1), .val (.int i2), .val (.int i3), .val (.int i4), .val (.int a), .val (.int b), .val (.int g), .val (.int d), .val (.double z), .second, .val (.double (9218868437227405312 : UInt64)), .second, .val (.int q), .unset] []))
    refine Dn.of (fun tt_ zz_ => XS.iconst X2.here hx rfl (hb hby at_71) zz_) ?_
    show Dn p e below s (own_Q n0) 0 0 (T2.setTop (mkF m 72 #[.val (.int i0), .val (.int i1), .val (.int i2), .val (.int i3), .val (.int i4), .val (.int a), .val (.int b), .val (.int g), .val (.int d), .val (.double z), .second, .val (.double (9218868437227405312 : UInt64)), .second, .val (.int q), .unset] [(.int (1 : Int32))]))
    refine Dn.of (fun tt_ zz_ => XS.goto X2.here hx rfl (pc0 := 72) (pc' := 76) rfl (hb hby at_72) (by decide) (by decide) zz_) ?_
    show Dn p e below s (own_Q n0) 0 0 (T2.setTop (mkF m 76 #[.val (.int i0), .val (.int i1), .val (.int i2), .val (.int i3), .val (.int i4), .val (.int a), .val (.int b), .val (.int g), .val (.int d), .val (.double z), .second, .val (.double (9218868437227405312 : UInt64)), .second, .val (.int q), .unset] [(.int (1 : Int32))]))
    exact Dn.retN X2 hx hlk (t := .boolean) hret (by simp) (hb hby at_76) (by decide) (by decide) (⟨rfl, Fr.app N0 M1⟩)
  · skip
    refine Dn.of (fun tt_ zz_ => XS.icmpYes X0.here hx rfl (pc0 := 55) (pc' := 77) rfl (hb hby at_55) rfl (feq q2).2 (by decide) (by decide) zz_) ?_
    show Dn p e below s (own_Q n0) 0 0 (s₁.setTop (mkF m 77 #[.val (.int i0), .val (.int i1), .val (.int i2), .val (.int i3), .val (.int i4), .val (.int a), .val (.int b), .val (.int g), .val (.int d), .val (.double z), .second, .val (.double (9218868437227405312 : UInt64)), .second, .val (.int q), .unset] []))
    refine Dn.of (fun tt_ zz_ => XS.iload X0.here hx rfl (hb hby at_77) rfl zz_) ?_
    show Dn p e below s (own_Q n0) 0 0 (s₁.setTop (mkF m 79 #[.val (.int i0), .val (.int i1), .val (.int i2), .val (.int i3), .val (.int i4), .val (.int a), .val (.int b), .val (.int g), .val (.int d), .val (.double z), .second, .val (.double (9218868437227405312 : UInt64)), .second, .val (.int q), .unset] [(.int q)]))
    refine Dn.of (fun tt_ zz_ => XS.iconst X0.here hx rfl (hb hby at_79) zz_) ?_
    show Dn p e below s (own_Q n0) 0 0 (s₁.setTop (mkF m 80 #[.val (.int i0), .val (.int i1), .val (.int i2), .val (.int i3), .val (.int i4), .val (.int a), .val (.int b), .val (.int g), .val (.int d), .val (.double z), .second, .val (.double (9218868437227405312 : UInt64)), .second, .val (.int q), .unset] [(.int (3 : Int32)), (.int q)]))
    by_cases q3 : q = (3 : Int32)
    · skip
      refine Dn.of (fun tt_ zz_ => XS.icmpNo X0.here hx rfl (hb hby at_80) rfl (teq q3).2 zz_) ?_
      show Dn p e below s (own_Q n0) 0 0 (s₁.setTop (mkF m 83 #[.val (.int i0), .val (.int i1), .val (.int i2), .val (.int i3), .val (.int i4), .val (.int a), .val (.int b), .val (.int g), .val (.int d), .val (.double z), .second, .val (.double (9218868437227405312 : UInt64)), .second, .val (.int q), .unset] []))
      refine Dn.of (fun tt_ zz_ => XS.dload X0.here hx rfl (hb hby at_83) rfl zz_) ?_
      show Dn p e below s (own_Q n0) 0 0 (s₁.setTop (mkF m 85 #[.val (.int i0), .val (.int i1), .val (.int i2), .val (.int i3), .val (.int i4), .val (.int a), .val (.int b), .val (.int g), .val (.int d), .val (.double z), .second, .val (.double (9218868437227405312 : UInt64)), .second, .val (.int q), .unset] [(.double (9218868437227405312 : UInt64))]))
      refine Dn.of (fun tt_ zz_ => XS.dload X0.here hx rfl (hb hby at_85) rfl zz_) ?_
      show Dn p e below s (own_Q n0) 0 0 (s₁.setTop (mkF m 87 #[.val (.int i0), .val (.int i1), .val (.int i2), .val (.int i3), .val (.int i4), .val (.int a), .val (.int b), .val (.int g), .val (.int d), .val (.double z), .second, .val (.double (9218868437227405312 : UInt64)), .second, .val (.int q), .unset] [(.double (9218868437227405312 : UInt64)), (.double (9218868437227405312 : UInt64))]))
      refine Dn.of (fun tt_ zz_ => XS.dload X0.here hx rfl (hb hby at_87) rfl zz_) ?_
      show Dn p e below s (own_Q n0) 0 0 (s₁.setTop (mkF m 89 #[.val (.int i0), .val (.int i1), .val (.int i2), .val (.int i3), .val (.int i4), .val (.int a), .val (.int b), .val (.int g), .val (.int d), .val (.double z), .second, .val (.double (9218868437227405312 : UInt64)), .second, .val (.int q), .unset] [(.double z), (.double (9218868437227405312 : UInt64)), (.double (9218868437227405312 : UInt64))]))
      obtain ⟨v3, T3, L3, Q3, X3, st3⟩ := cSt X0 hx hZ (y := (⟨"com/example/verify_markov_chains/verifymarkovchains/engine/SparseEngine", "isConverged", "(DDD)Z"⟩ : MethodName)) hown (hw _ (List.mem_of_getElem? (i := 3) rfl)) (hw _ (List.mem_of_getElem? (i := 4) rfl)) (hw _ (List.mem_of_getElem? (i := 5) rfl)) (hw _ (List.mem_of_getElem? (i := 6) rfl)) (by decide) (argsL := [(.double (9218868437227405312 : UInt64)), (.double (9218868437227405312 : UInt64)), (.double z)]) (rest := []) (rmC l Z a0 hw h0 n0 Z0 z) e0  0 (by decide) (by decide) (by decide) (by decide) (g := (mkF m 89 #[.val (.int i0), .val (.int i1), .val (.int i2), .val (.int i3), .val (.int i4), .val (.int a), .val (.int b), .val (.int g), .val (.int d), .val (.double z), .second, .val (.double (9218868437227405312 : UInt64)), .second, .val (.int q), .unset] [(.double z), (.double (9218868437227405312 : UInt64)), (.double (9218868437227405312 : UInt64))])) rfl (by rw [hml]; rfl) (lenOf pd0 rfl) rfl (by show 2 * 0 + _ ≤ _; exact Nat.le_of_eq rfl) (hb hby at_89)
      obtain ⟨rfl, M1, e3⟩ := Q3
      refine Dn.of st3 ?_
      show Dn p e below s (own_Q n0) 0 0 (T3.setTop (mkF m 92 #[.val (.int i0), .val (.int i1), .val (.int i2), .val (.int i3), .val (.int i4), .val (.int a), .val (.int b), .val (.int g), .val (.int d), .val (.double z), .second, .val (.double (9218868437227405312 : UInt64)), .second, .val (.int q), .unset] [(.int (1 : Int32))]))
      exact Dn.retN X3 hx hlk (t := .boolean) hret (by simp) (hb hby at_92) (by decide) (by decide) (⟨rfl, Fr.app N0 M1⟩)
    · skip
      refine Dn.of (fun tt_ zz_ => XS.icmpYes X0.here hx rfl (pc0 := 80) (pc' := 93) rfl (hb hby at_80) rfl (feq q3).2 (by decide) (by decide) zz_) ?_
      show Dn p e below s (own_Q n0) 0 0 (s₁.setTop (mkF m 93 #[.val (.int i0), .val (.int i1), .val (.int i2), .val (.int i3), .val (.int i4), .val (.int a), .val (.int b), .val (.int g), .val (.int d), .val (.double z), .second, .val (.double (9218868437227405312 : UInt64)), .second, .val (.int q), .unset] []))
      refine Dn.of (fun tt_ zz_ => XS.iload X0.here hx rfl (hb hby at_93) rfl zz_) ?_
      show Dn p e below s (own_Q n0) 0 0 (s₁.setTop (mkF m 95 #[.val (.int i0), .val (.int i1), .val (.int i2), .val (.int i3), .val (.int i4), .val (.int a), .val (.int b), .val (.int g), .val (.int d), .val (.double z), .second, .val (.double (9218868437227405312 : UInt64)), .second, .val (.int q), .unset] [(.int q)]))
      refine Dn.of (fun tt_ zz_ => XS.iconst X0.here hx rfl (hb hby at_95) zz_) ?_
      show Dn p e below s (own_Q n0) 0 0 (s₁.setTop (mkF m 96 #[.val (.int i0), .val (.int i1), .val (.int i2), .val (.int i3), .val (.int i4), .val (.int a), .val (.int b), .val (.int g), .val (.int d), .val (.double z), .second, .val (.double (9218868437227405312 : UInt64)), .second, .val (.int q), .unset] [(.int (1 : Int32)), (.int q)]))
      by_cases q1 : q = (1 : Int32)
      · skip
        refine Dn.of (fun tt_ zz_ => XS.icmpNo X0.here hx rfl (hb hby at_96) rfl (teq q1).2 zz_) ?_
        show Dn p e below s (own_Q n0) 0 0 (s₁.setTop (mkF m 99 #[.val (.int i0), .val (.int i1), .val (.int i2), .val (.int i3), .val (.int i4), .val (.int a), .val (.int b), .val (.int g), .val (.int d), .val (.double z), .second, .val (.double (9218868437227405312 : UInt64)), .second, .val (.int q), .unset] []))
        refine Dn.of (fun tt_ zz_ => XS.iload X0.here hx rfl (hb hby at_99) rfl zz_) ?_
        show Dn p e below s (own_Q n0) 0 0 (s₁.setTop (mkF m 101 #[.val (.int i0), .val (.int i1), .val (.int i2), .val (.int i3), .val (.int i4), .val (.int a), .val (.int b), .val (.int g), .val (.int d), .val (.double z), .second, .val (.double (9218868437227405312 : UInt64)), .second, .val (.int q), .unset] [(.int a)]))
        refine Dn.of (fun tt_ zz_ => XS.istore X0.here hx rfl (hb hby at_101) rfl (l' := #[.val (.int i0), .val (.int i1), .val (.int i2), .val (.int i3), .val (.int i4), .val (.int a), .val (.int a), .val (.int g), .val (.int d), .val (.double z), .second, .val (.double (9218868437227405312 : UInt64)), .second, .val (.int q), .unset]) rfl zz_) ?_
        show Dn p e below s (own_Q n0) 0 0 (s₁.setTop (mkF m 103 #[.val (.int i0), .val (.int i1), .val (.int i2), .val (.int i3), .val (.int i4), .val (.int a), .val (.int a), .val (.int g), .val (.int d), .val (.double z), .second, .val (.double (9218868437227405312 : UInt64)), .second, .val (.int q), .unset] []))
        exact K _ _ _ _ _ _ t ht b1 b1 b3 hz
      · skip
        refine Dn.of (fun tt_ zz_ => XS.icmpYes X0.here hx rfl (pc0 := 96) (pc' := 103) rfl (hb hby at_96) rfl (feq q1).2 (by decide) (by decide) zz_) ?_
        show Dn p e below s (own_Q n0) 0 0 (s₁.setTop (mkF m 103 #[.val (.int i0), .val (.int i1), .val (.int i2), .val (.int i3), .val (.int i4), .val (.int a), .val (.int b), .val (.int g), .val (.int d), .val (.double z), .second, .val (.double (9218868437227405312 : UInt64)), .second, .val (.int q), .unset] []))
        exact K _ _ _ _ _ _ t ht b1 b2 b3 hz
set_option maxRecDepth 65536 in
set_option maxHeartbeats 40000000 in
theorem comes_1 {Post : Tables → Env → Array Value → State → Outcome → State → Prop} (hpost : ∀ tb e args s v u, (limb_1_1.after args s (.returned v) u = true ∧ limb_1_2.after args s (.returned v) u = true ∧ True) → FrameEnd s (.returned v) u (Jvm.fieldLocs frame_1_writes args s ++ Jvm.arrayLocs frame_1_arrays args s ++ Jvm.staticLocs frame_1_statics s) 0 0 → Post tb e args s (.returned v) u) :
    ArmFor flags0 classFile x code maxLocals ret World_1 tables_1 room_1 Calls_1 rest_1 Pre_1 Post := by
  intro l hfl _ _ p e ha hc hk s m args below hf hA hF happ hP
  obtain ⟨hcalls, hrest, hpre⟩ := hP
  obtain ⟨-, -, -, hnamed, -, -, -, hat⟩ := (Spec.applies_iff hf).mp happ
  obtain ⟨hg, hn⟩ := and_e (Cond.before_iff.mp (show (Jvm.Cond.and given_1 narrow_1).before args s = true from hpre))
  obtain ⟨hcount, hr⟩ := and_e hg
  obtain ⟨w0, w1, w2, w3, w4, rfl⟩ : ∃ w0 w1 w2 w3 w4 : Value, args = #[w0, w1, w2, w3, w4] := by
    have hs : args.size = 5 := by simpa [Cond.value, given_1] using hcount
    obtain ⟨L⟩ := args
    match L, hs with
    | [w0, w1, w2, w3, w4], _ => exact ⟨w0, w1, w2, w3, w4, rfl⟩
  have hw := fun d (hd : d ∈ tables_1) => atoms_spec (ws := Jvm.Cond.code x code maxLocals ret :: tables_1) hat d (List.mem_cons_of_mem _ hd)
  have hfit : Fit s := fun {y c} hc i hi => by
    obtain ⟨ha, rfl⟩ := Array.getElem?_eq_some_iff.mp hc
    have q := List.all_eq_true.mp ((Array.all_eq_true_iff_forall_mem.mp hF) _ (Array.getElem_mem ha)) i (List.mem_range.mpr hi)
    simpa [Array.getElem?_eq_getElem hi] using q
  obtain ⟨ha0, hr⟩ := and_e hr
  obtain ⟨i0, ei0⟩ := is_v ha0
  obtain rfl : w0 = (.int i0) := Option.some.inj ei0
  obtain ⟨ha1, hr⟩ := and_e hr
  obtain ⟨i1, ei1⟩ := is_v ha1
  obtain rfl : w1 = (.int i1) := Option.some.inj ei1
  obtain ⟨ha2, hr⟩ := and_e hr
  obtain ⟨i2, ei2⟩ := is_v ha2
  obtain rfl : w2 = (.int i2) := Option.some.inj ei2
  obtain ⟨ha3, hr⟩ := and_e hr
  obtain ⟨i3, ei3⟩ := is_v ha3
  obtain rfl : w3 = (.int i3) := Option.some.inj ei3
  have ha4 := hr
  obtain ⟨i4, ei4⟩ := is_v ha4
  obtain rfl : w4 = (.int i4) := Option.some.inj ei4
  obtain ⟨n, o, h1, h2, h3, _, L, rfl, ⟨rfl, N⟩, hq⟩ := rm0 l s _ hw tables_1 s.heap s.heap.size (Nat.le_refl _) i0 i1 i2 i3 i4 p e ha hc hk s m _ below hf ((Spec.applies_iff_loose hf).mp happ).1 ⟨rfl, State.Warmed39.refl s, rfl⟩ trivial
  refine ⟨n, _, h1, h2, h3, hpost _ _ _ _ _ _ ⟨Cond.after_iff.mpr rfl, Cond.after_iff.mpr (eq_i res_at (Term.int_eval (1)) rfl), trivial⟩ ⟨hq.1, hq.2.1, (hq.2.2.sift fun y hy => Or.inr (N y hy)).mono (by decide) (by decide)⟩⟩
theorem main_1_1 : Claimed_1_1 := comes_1 fun _ _ _ _ _ _ h hF => ⟨h.1, hF⟩
theorem main_1_2 : Claimed_1_2 := comes_1 fun _ _ _ _ _ _ h hF => ⟨h.2.1, hF⟩
end Jvm.Pilot.@@N@@
namespace Jvm.Pilot.@@N@@
open Jvm Jvm.ClassFile Sem Op Lib Jvm.Free Jvm.Stand Jvm.Pilot.@@N@@.Jvm.D
/-! MADE BY PROGRAM (witnessworld.py) out of the Statement's table words and the real class files: 9 classes; the members and pool entries that the words name. The judged class is class 1, her method 1. -/
namespace start1
open Jvm.ClassFile
def u (s : String) : CpInfo := .utf8 (stringToUtf16 s)
/-- a pool by its gaps: so many unusable entries, then the entry; so many at the end -/
def gap : Nat → List CpInfo → List CpInfo
  | 0, r => r
  | n + 1, r => .unusable :: gap n r
def poolList (es : List (Nat × CpInfo)) (last : Nat) : List CpInfo := es.foldr (fun e r => gap e.1 (e.2 :: r)) (gap last [])
def pool (es : List (Nat × CpInfo)) (last : Nat) : Array CpInfo := ⟨poolList es last⟩
def fileOf (pool : Array CpInfo) (this : Nat) (attrs : Array Attribute := #[]) (ms : Array MethodInfo := #[]) (fl : Nat := 33) (sup : Nat := 0) (ifs : Array Nat := #[]) (fds : Array FieldInfo := #[]) : ClassFile where
  minorVersion := 0
  majorVersion := 65
  constantPool := pool
  accessFlags := fl
  thisClass := this
  superClass := sup
  interfaces := ifs
  fields := fds
  methods := ms
  attributes := attrs
def plain (name : String) (sup : Option ClassId) : Class where
  name := name
  kind := .ordinary
  loader := none
  accessFlags := 33
  super := sup
  interfaces := #[]
  cf := none
  fields := #[]
  methods := #[]
  instanceTypes := #[]
  staticTypes := #[]
  resolved := #[]
  callSites := []
  init := .initialized
  statics := none
  mirror := none

def pool0 : Array CpInfo := pool [(5, u "<init>"), (0, u "()V"), (1, .class_ 10), (1, u "java/lang/Object")] 113

def k0m0 : Method := { name := "<init>", desc := "()V", sig := { parameters := [], returnType := none }, accessFlags := 1, code := none }
/-- java/lang/Object -/
def k0 : Class := { plain "java/lang/Object" none with
  accessFlags := 33
  interfaces := #[]
  cf := some (fileOf pool0 8 #[] #[{ accessFlags := 1, nameIndex := 5, descriptorIndex := 6, attributes := #[] }] 33 0 #[] #[])
  fields := #[]
  methods := #[k0m0]
  instanceTypes := #[]
  staticTypes := #[]
  resolved := Array.replicate 124 none
  statics := none }

def pool1 : Array CpInfo := pool [(2, .class_ 4), (1, u "java/lang/Object"), (0, u "<init>"), (0, u "()V"), (0, .integer 2097151), (0, .double 9218868437227405312), (1, .methodref 11 12), (0, .class_ 13), (0, .nameAndType 14 15), (0, u "com/example/verify_markov_chains/verifymarkovchains/engine/SparseEngine"), (0, u "isConverged"), (0, u "(DDD)Z"), (0, .long 2), (1, .class_ 19), (0, u "com/example/verify_markov_chains/verifymarkovchains/engine/SparseEngineIsConvergedPinLaw"), (2, u "law"), (0, u "(IIIII)Z")] 3

def k1m0 : Method := { name := "<init>", desc := "()V", sig := { parameters := [], returnType := none }, accessFlags := 2, code := none }
def k1c1 : Code := { maxStack := 6, maxLocals := 15, code := code, exceptionTable := #[], attributes := #[] }
def k1m1 : Method := { name := "law", desc := "(IIIII)Z", sig := { parameters := [.int, .int, .int, .int, .int], returnType := some .boolean }, accessFlags := 9, code := some k1c1 }
/-- com/example/verify_markov_chains/verifymarkovchains/engine/SparseEngineIsConvergedPinLaw -/
def k1 : Class := { plain "com/example/verify_markov_chains/verifymarkovchains/engine/SparseEngineIsConvergedPinLaw" (some 0) with
  accessFlags := 49
  interfaces := #[]
  cf := some (fileOf pool1 18 #[] #[{ accessFlags := 2, nameIndex := 5, descriptorIndex := 6, attributes := #[] }, { accessFlags := 9, nameIndex := 22, descriptorIndex := 23, attributes := #[] }] 49 2 #[] #[])
  fields := #[]
  methods := #[k1m0, k1m1]
  instanceTypes := #[]
  staticTypes := #[]
  resolved := Array.replicate 27 none
  statics := none }

def pool2 : Array CpInfo := pool [(1, .class_ 2), (0, u "com/example/verify_markov_chains/verifymarkovchains/engine/SparseEngine"), (8, .class_ 13), (1, u "java/lang/Object"), (15, u "epsilon"), (0, u "D"), (2, u "maxSweeps"), (0, u "I"), (2, u "fillLimit"), (0, u "J"), (26, .class_ 66), (0, u "com/example/verify_markov_chains/verifymarkovchains/engine/SparseEngine$Checker"), (29, .double 9218868437227405312), (1, .double 4611686018427387904), (1, u "DEFAULT_EPSILON"), (3, u "DEFAULT_MAX_SWEEPS"), (0, u "DEFAULT_FILL_LIMIT"), (0, u "TIGHTENING"), (2, u "LEAST_EPSILON"), (16, u "isConverged"), (0, u "(DDD)Z")] 21

def k2c0 : Code := { maxStack := 6, maxLocals := 6, code := prog_35_method_8_code, exceptionTable := #[], attributes := #[] }
def k2m0 : Method := { name := "isConverged", desc := "(DDD)Z", sig := { parameters := [.double, .double, .double], returnType := some .boolean }, accessFlags := 8, code := some k2c0 }
/-- com/example/verify_markov_chains/verifymarkovchains/engine/SparseEngine -/
def k2 : Class := { plain "com/example/verify_markov_chains/verifymarkovchains/engine/SparseEngine" (some 0) with
  accessFlags := 49
  interfaces := #[]
  cf := some (fileOf pool2 1 #[.nestMembers #[65]] #[{ accessFlags := 8, nameIndex := 126, descriptorIndex := 127, attributes := #[] }] 49 11 #[] #[{ accessFlags := 25, nameIndex := 100, descriptorIndex := 30, attributes := #[] }, { accessFlags := 25, nameIndex := 104, descriptorIndex := 34, attributes := #[] }, { accessFlags := 25, nameIndex := 105, descriptorIndex := 38, attributes := #[] }, { accessFlags := 26, nameIndex := 106, descriptorIndex := 30, attributes := #[] }, { accessFlags := 26, nameIndex := 109, descriptorIndex := 30, attributes := #[] }, { accessFlags := 18, nameIndex := 29, descriptorIndex := 30, attributes := #[] }, { accessFlags := 18, nameIndex := 33, descriptorIndex := 34, attributes := #[] }, { accessFlags := 18, nameIndex := 37, descriptorIndex := 38, attributes := #[] }])
  fields := #[{ name := "DEFAULT_EPSILON", type := .double, accessFlags := 25, slot := 0, constantValue := 0 }, { name := "DEFAULT_MAX_SWEEPS", type := .int, accessFlags := 25, slot := 1, constantValue := 0 }, { name := "DEFAULT_FILL_LIMIT", type := .long, accessFlags := 25, slot := 2, constantValue := 0 }, { name := "TIGHTENING", type := .double, accessFlags := 26, slot := 3, constantValue := 0 }, { name := "LEAST_EPSILON", type := .double, accessFlags := 26, slot := 4, constantValue := 0 }, { name := "epsilon", type := .double, accessFlags := 18, slot := 0, constantValue := 0 }, { name := "maxSweeps", type := .int, accessFlags := 18, slot := 1, constantValue := 0 }, { name := "fillLimit", type := .long, accessFlags := 18, slot := 2, constantValue := 0 }]
  methods := #[k2m0]
  instanceTypes := #[.double, .int, .long]
  staticTypes := #[.double, .int, .long, .double, .double]
  resolved := Array.replicate 149 none
  statics := none }

def pool3 : Array CpInfo := pool [(1, u "java/lang/Cloneable"), (0, .class_ 1), (0, u "java/lang/Object"), (0, .class_ 3)] 3

/-- java/lang/Cloneable -/
def k3 : Class := { plain "java/lang/Cloneable" (some 0) with
  accessFlags := 1537
  interfaces := #[]
  cf := some (fileOf pool3 2 #[] #[] 1537 4 #[] #[])
  fields := #[]
  methods := #[]
  instanceTypes := #[]
  staticTypes := #[]
  resolved := Array.replicate 8 none
  statics := none }

def pool4 : Array CpInfo := pool [(1, u "java/io/Serializable"), (0, .class_ 1), (0, u "java/lang/Object"), (0, .class_ 3)] 3

/-- java/io/Serializable -/
def k4 : Class := { plain "java/io/Serializable" (some 0) with
  accessFlags := 1537
  interfaces := #[]
  cf := some (fileOf pool4 2 #[] #[] 1537 4 #[] #[])
  fields := #[]
  methods := #[]
  instanceTypes := #[]
  staticTypes := #[]
  resolved := Array.replicate 8 none
  statics := none }

/-- the primitive byte -/
def k5 : Class := { plain "byte" none with kind := .primitive 'B', accessFlags := 0x411 }
/-- [B -/
def k6 : Class := { plain "[B" (some 0) with kind := .array 5 .byte, interfaces := #[3, 4], accessFlags := 1041 }

/-- the primitive int -/
def k7 : Class := { plain "int" none with kind := .primitive 'I', accessFlags := 0x411 }
/-- [I -/
def k8 : Class := { plain "[I" (some 0) with kind := .array 7 .int, interfaces := #[3, 4], accessFlags := 1041 }

def heap : Heap := #[]
def classes : Array Class := #[k0, k1, k2, k3, k4, k5, k6, k7, k8]
def interned : List (Array UInt16 × Addr) := []
def slotsUsed : Nat := 0
def theMethod : MethodId := ⟨1, 1⟩
def args0 : Array Value := #[.int 5, .int 300, .int 7, .int 8, .int 1]
def aboutOver (below : List Frame) : State where
  vm := { classes := classes, interned := interned.toArray }
  heap := heap
  slotsUsed := slotsUsed
  threads := #[{ frames := .invoking theMethod args0 :: below }]
def below0 : List Frame := [.native { method := ⟨0, 0⟩, args := #[] }]
def about1 : State := aboutOver below0
def p0 : Program := .bare "" "" ""
def e0 : Env := launch0.env 0 0 0
theorem w_frames : about1.frames = Frame.invoking theMethod args0 :: below0 := rfl
set_option maxRecDepth 65536 in
theorem w_args : argsFit about1.vm theMethod args0 = true := by decide +kernel
set_option maxRecDepth 65536 in
theorem w_heap : heapFits about1 = true := by decide +kernel
set_option maxRecDepth 65536 in
theorem w_runnable : about1.curStatus? = some .runnable := by decide +kernel
set_option maxRecDepth 65536 in
theorem w_alone : about1.alone = true := by decide +kernel
set_option maxRecDepth 65536 in
theorem w_named : about1.methodNamed? x = some theMethod := by decide +kernel
set_option maxRecDepth 65536 in
theorem w_hears : about1.hears theMethod below0 = true := by decide +kernel
set_option maxRecDepth 65536 in
theorem w_ripe : about1.ripe theMethod args0 below0 = true := by decide +kernel
theorem w_running : about1.status = .running := rfl
set_option maxRecDepth 65536 in
theorem w_room : about1.hasRoom e0.platform room_1 = true :=
  launch0.hasRoom_least _ room_1 (by decide +kernel) (by decide +kernel) (by decide +kernel) (by decide +kernel) (by decide +kernel) (by decide +kernel)
theorem allAtoms_all (ts : List Jvm.Cond) (a : Array Jvm.Value) (st : Jvm.State) : (allAtoms ts).before a st = ts.all (fun c => c.before a st) := by
  induction ts with
  | nil => rfl
  | cons c t ih =>
    show (Jvm.Cond.and c (allAtoms t)).before a st = _
    rw [Jvm.Cond.before_and, ih, List.all_cons]
def words1 : List Jvm.Cond := Jvm.Cond.code x code maxLocals ret :: tables_1
/-- a 'code' word, met by the world's own term for the bytes: nothing is compared byte by byte -/
theorem code_word {y : MethodName} {bytes : ByteArray} {mx : Nat} {rt : Option FieldType} {a : Array Value} {s : State} {m : MethodId} {meth : Method} {c : Code} (h1 : s.methodNamed? y = some m) (h2 : s.vm.method? m = some meth) (h3 : meth.code = some c) (h4 : c.code = bytes)
    (h5 : (c.maxLocals == mx && c.exceptionTable.isEmpty && decide (c.maxStack ≤ mostOperands) && decide (meth.sig.returnType = rt) && !meth.locks && decide (parseMethodDescriptor y.desc = some meth.sig)) = true) : (Jvm.Cond.code y bytes mx rt).before a s = true := by
  simp only [Bool.and_eq_true, beq_iff_eq, Bool.not_eq_true', decide_eq_true_eq] at h5
  obtain ⟨⟨⟨⟨⟨g1, g2⟩, g3⟩, g4⟩, g5⟩, g6⟩ := h5
  simp [Cond.before, Cond.holds, Cond.value, h1, h2, h3, h4, g1, g2, g3, g4, g5, g6]
def isCode : Jvm.Cond → Bool
  | .code _ _ _ _ => true
  | _ => false
theorem all_split {L : List Jvm.Cond} {P : Jvm.Cond → Bool} (h1 : L.all (fun c => isCode c || P c) = true) (h2 : ∀ c ∈ L.filter isCode, P c = true) : L.all P = true := by
  refine List.all_eq_true.mpr fun c hc => ?_
  have h := List.all_eq_true.mp h1 c hc
  rcases Bool.eq_false_or_eq_true (isCode c) with hi | hi
  · exact h2 c (List.mem_filter.mpr ⟨hc, hi⟩)
  · simpa [hi] using h
set_option maxRecDepth 65536 in
theorem w_c0 : (Jvm.Cond.code x code maxLocals ret).before args0 about1 = true := code_word (m := ⟨1, 1⟩) (meth := k1m1) (c := k1c1) (by decide +kernel) rfl rfl rfl (by decide +kernel)
set_option maxRecDepth 65536 in
theorem w_c1 : (Jvm.Cond.code ({ cls := "com/example/verify_markov_chains/verifymarkovchains/engine/SparseEngine", name := "isConverged", desc := "(DDD)Z" } : Jvm.MethodName) prog_35_method_8_code (6 : Nat) (Option.some Jvm.ClassFile.FieldType.boolean)).before args0 about1 = true := code_word (m := ⟨2, 0⟩) (meth := k2m0) (c := k2c0) (by decide +kernel) rfl rfl rfl (by decide +kernel)
def codes1 : List Jvm.Cond := [Jvm.Cond.code x code maxLocals ret, Jvm.Cond.code ({ cls := "com/example/verify_markov_chains/verifymarkovchains/engine/SparseEngine", name := "isConverged", desc := "(DDD)Z" } : Jvm.MethodName) prog_35_method_8_code (6 : Nat) (Option.some Jvm.ClassFile.FieldType.boolean)]
set_option maxRecDepth 65536 in
theorem codes_eq : words1.filter isCode = codes1 := rfl
theorem w_codes : ∀ c ∈ words1.filter isCode, c.before args0 about1 = true := by
  rw [codes_eq]
  intro c hc
  simp only [codes1, List.mem_cons, List.not_mem_nil, or_false] at hc
  rcases hc with rfl | rfl
  · exact w_c0
  · exact w_c1
set_option maxRecDepth 65536 in
theorem w_t1 : words1.all (fun c => isCode c || c.before args0 about1) = true := by decide +kernel
theorem w_tables : (allAtoms (Jvm.Cond.code x code maxLocals ret :: tables_1)).before args0 about1 = true := by
  rw [allAtoms_all]
  show words1.all (fun c => c.before args0 about1) = true
  refine all_split ?_ w_codes
  rw [w_t1]
set_option maxRecDepth 65536 in
theorem w_case : (Jvm.Cond.and given_1 narrow_1).before args0 about1 = true := by decide +kernel
theorem w_applies : (headSpec (Jvm.Cond.code x code maxLocals ret :: tables_1) room_1).applies x e0.platform about1 = true :=
  (Spec.applies_iff w_frames).mpr ⟨w_running, w_runnable, w_alone, w_named, w_hears, w_ripe, w_room, w_tables⟩
theorem atStart : AtStart classFile x code maxLocals ret World_1 tables_1 room_1 Calls_1 rest_1 Pre_1 launch0 p0 e0 about1 theMethod args0 below0 :=
  ⟨lists_1, trivial, launch0.admits_env _ _ _, launch0.least_env, fairChoices_fair.cas, fairChoices_fair.clock, w_frames, w_args, w_heap, w_applies, trivial, trivial, w_case⟩
end start1
theorem witness_1 : WitnessClaimed_1 := ⟨start1.p0, start1.e0, start1.about1, start1.theMethod, start1.args0, start1.below0, start1.atStart⟩
end Jvm.Pilot.@@N@@
