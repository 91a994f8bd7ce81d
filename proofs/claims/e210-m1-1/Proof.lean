import JvmDerived
import JvmDerived.Pilot.@@N@@Statement
import JvmDerived.Pilot.@@N@@Code
set_option linter.unusedVariables false
set_option linter.unusedSimpArgs false
namespace Jvm.RoadKit
open Sem ClassFile Op Lib Jvm.Stand Jvm.Free Jvm.LawKit
section Own
variable {p : Program} {l : Launch} {e : Env} {R : Room} {s : State} {m : MethodId} {args : Array Value} {below : List Frame} {meth : Method} {c : Code} {T : State} {locs : List Loc} {cells slots : Nat}
/-- from the state S the run comes to the end of this invocation, and Q says what it returned and left -/
def Dn (p : Program) (e : Env) (below : List Frame) (s : State) (Q : Option Value → Heap → List Loc → Prop) (k n : Nat) (S : State) : Prop :=
  ∃ U o, Steps p.tables e below S U ∧ U.status = .running ∧ Ended U below o ∧ ∃ v L, o = .returned v ∧ Q v U.heap L ∧ FrameEnd s o U L k n
variable {Q Q' : Option Value → Heap → List Loc → Prop} {k n : Nat} {S S' : State} {Z : State} {a0 : Array Value} {h : Heap}
theorem Dn.of (w : ∀ t, Steps p.tables e below S' t → Steps p.tables e below S t) (d : Dn p e below s Q k n S') : Dn p e below s Q k n S := by
  obtain ⟨U, o, st, r⟩ := d
  exact ⟨U, o, w U st, r⟩
theorem Dn.cast {g g' : JFrame} (q : g = g') (d : Dn p e below s Q k n (T.setTop g')) : Dn p e below s Q k n (T.setTop g) := q ▸ d
theorem Dn.ret (X : Stand p l e R s m args below meth c T locs cells slots) (hx : p.tables.exec = Jvm.exec) (hlk : meth.locks = false) {pc : Nat} {Ls : Array Slot} {w : Value} {t : FieldType} {i : Instr} {rest : List Value} (hret : meth.sig.returnType = some t) (hn : narrow t w = w)
    (hi : (i = .ireturn ∧ (t = .int ∨ t = .boolean ∨ t = .byte ∨ t = .char ∨ t = .short) ∧ ∃ z, w = .int z) ∨ (i = .lreturn ∧ t = .long ∧ ∃ z, w = .long z) ∨ (i = .dreturn ∧ t = .double ∧ ∃ z, w = .double z) ∨ (i = .freturn ∧ t = .float ∧ ∃ z, w = .float z) ∨ (i = .areturn ∧ t.isReference = true ∧ w.isRef = true))
    (hd : decode c.code pc = .ok (i, 1)) (hk : cells ≤ k) (hs : slots ≤ n) (hQ : Q (some w) T.heap locs) : Dn p e below s Q k n (T.setTop (mkF m pc Ls (w :: rest))) := by
  obtain ⟨fs, hr, hrun, hended, hW, hsame⟩ := X.leave (v := some w) (fun q => by rw [hret] at q; cases q) hlk
  exact ⟨_, _, retOut X hx hret hn hi hd hr, hrun, hended, _, _, rfl, hQ, ⟨_, rfl⟩, hW, hsame.mono hk hs⟩
theorem Dn.retI (X : Stand p l e R s m args below meth c T locs cells slots) (hx : p.tables.exec = Jvm.exec) (hlk : meth.locks = false) {pc : Nat} {Ls : Array Slot} {z : Int32} {rest : List Value} (hret : meth.sig.returnType = some .int)
    (hd : decode c.code pc = .ok (.ireturn, 1)) (hk : cells ≤ k) (hs : slots ≤ n) (hQ : Q (some (.int z)) T.heap locs) : Dn p e below s Q k n (T.setTop (mkF m pc Ls (.int z :: rest))) :=
  Dn.ret X hx hlk hret rfl (Or.inl ⟨rfl, Or.inl rfl, z, rfl⟩) hd hk hs hQ
theorem Dn.retA (X : Stand p l e R s m args below meth c T locs cells slots) (hx : p.tables.exec = Jvm.exec) (hlk : meth.locks = false) {pc : Nat} {Ls : Array Slot} {w : Value} {t : FieldType} {rest : List Value} (hret : meth.sig.returnType = some t) (ht : t.isReference = true) (hw : w.isRef = true)
    (hd : decode c.code pc = .ok (.areturn, 1)) (hk : cells ≤ k) (hs : slots ≤ n) (hQ : Q (some w) T.heap locs) : Dn p e below s Q k n (T.setTop (mkF m pc Ls (w :: rest))) :=
  Dn.ret X hx hlk hret (by cases t <;> simp [FieldType.isReference] at ht <;> rcases ref_cases hw with rfl | ⟨a, rfl⟩ <;> rfl) (Or.inr (Or.inr (Or.inr (Or.inr ⟨rfl, ht, hw⟩)))) hd hk hs hQ
theorem Dn.retN (X : Stand p l e R s m args below meth c T locs cells slots) (hx : p.tables.exec = Jvm.exec) (hlk : meth.locks = false) {pc : Nat} {Ls : Array Slot} {z : Int32} {t : FieldType} {rest : List Value} (hret : meth.sig.returnType = some t) (ht : t = .boolean ∨ t = .byte ∨ t = .char ∨ t = .short)
    (hd : decode c.code pc = .ok (.ireturn, 1)) (hk : cells ≤ k) (hs : slots ≤ n) (hQ : Q (some (.int (nar t z))) T.heap locs) : Dn p e below s Q k n (T.setTop (mkF m pc Ls (.int z :: rest))) := by
  obtain ⟨fs, hr, hrun, hended, hW, hsame⟩ := X.leave (v := some (.int (nar t z))) (fun q => by rw [hret] at q; cases q) hlk
  exact ⟨_, _, Jvm.RoadKit.retN X hx hret ht hd hr, hrun, hended, _, _, rfl, hQ, ⟨_, rfl⟩, hW, hsame.mono hk hs⟩
theorem Dn.retV (X : Stand p l e R s m args below meth c T locs cells slots) (hx : p.tables.exec = Jvm.exec) (hlk : meth.locks = false) {pc : Nat} {Ls : Array Slot} (hret : meth.sig.returnType = none)
    (hd : decode c.code pc = .ok (.return_, 1)) (hk : cells ≤ k) (hs : slots ≤ n) (hQ : Q none T.heap locs) : Dn p e below s Q k n (T.setTop (mkF m pc Ls [])) := by
  obtain ⟨fs, hr, hrun, hended, hW, hsame⟩ := X.leave (v := none) (fun _ => rfl) hlk
  exact ⟨_, _, X.returnOut hx hret hd hr, hrun, hended, _, _, rfl, hQ, ⟨_, rfl⟩, hW, hsame.mono hk hs⟩
/-- a body's contract: entered with the arguments as' at the heap h, it returns, and Q says what and what it left -/
abbrev ctr (l : Launch) (Z : State) (y : MethodName) (bytes : ByteArray) (maxL : Nat) (ret : Option FieldType) (ws : List Jvm.Cond) (rm : Room) (k n : Nat) (as' : Array Value) (h : Heap) (Q : Option Value → Heap → List Loc → Prop) : Prop :=
  MetFree l y (head1 (Jvm.Cond.code y bytes maxL ret :: ws) rm) (fun a U => a = as' ∧ Z.Warmed39 U.vm ∧ U.heap = h) (fun _ _ _ _ _ => True) (fun _ U o U' => ∃ v L, o = .returned v ∧ Q v U'.heap L ∧ FrameEnd U o U' L k n)
theorem ctr_of {y : MethodName} {bytes : ByteArray} {maxL : Nat} {ret : Option FieldType} {ws : List Jvm.Cond} {rm : Room} {as' : Array Value} (pn : plainFor y = true)
    (body : ∀ (p : Program) (e : Env) (s : State) (m : MethodId) (below : List Frame) (meth : Method) (c : Code) (s₁ : State), p.tables.exec = Jvm.exec → c.code = bytes → c.maxLocals = maxL → meth.sig.returnType = ret → meth.locks = false → meth.name = y.name → s.vm.findClass y.cls = some m.cls →
      Z.Warmed39 s.vm → s₁.heap = h → Stand p l e rm s m as' below meth c s₁ [] 0 0 → Dn p e below s Q k n (s₁.setTop (entryFrame m as' maxL))) : ctr l Z y bytes maxL ret ws rm k n as' h Q := by
  refine MetFree.of_bodySF pn hisR ?_
  intro p e s m args below meth c s₁ Bd hml0 hP hK
  obtain ⟨rfl, hZ, hh⟩ := hP
  exact body p e s m below meth c s₁ Bd.exec Bd.bytes hml0 Bd.returns Bd.notSynchronized (name_of_methodNamed Bd.named Bd.method).1 (findClass_of_methodNamed Bd.named) hZ (by rw [← hh, Bd.state]; rfl) (Stand.of_body Bd)
theorem cSt (X : Stand p l e R s m args below meth c T locs cells slots) (hx : p.tables.exec = Jvm.exec) (hZ : Z.Warmed39 s.vm) {own : String} {index : Nat} {y : MethodName} {bytes : ByteArray} {maxL : Nat} {ret : Option FieldType} (hown : s.vm.findClass own = some m.cls)
    (w1 : (Jvm.Cond.methodLink own index y).before a0 Z = true) (w2 : (Jvm.Cond.static y).before a0 Z = true) (w3 : (Jvm.Cond.initialized y.cls).before a0 Z = true) (w4 : (Jvm.Cond.code y bytes maxL ret).before a0 Z = true) (hy : y.cls ≠ "java/lang/invoke/MethodHandle" ∧ y.cls ≠ "java/lang/invoke/VarHandle")
    {rm : Room} {argsL rest : List Value} (hM : ctr l Z y bytes maxL ret [] rm rm.cells rm.slots argsL.toArray h Q) (eT : T.heap = h) (W : Nat) (hf : rm.frames + 1 ≤ R.frames) (hl : W + (maxL + 11) + rm.locals ≤ R.locals) (hc : cells + rm.cells ≤ R.cells) (hs : slots + rm.slots ≤ R.slots)
    {g : JFrame} (hg : g.method = m) (hsize : g.locals.size = c.maxLocals) (hlen : ∀ sig, parseMethodDescriptor y.desc = some sig → argsL.length = sig.parameters.length) (hstack : g.stack = argsL.reverse ++ rest) (hW : 2 * g.monitorRoom + (rest.map fun v => v.category).sum ≤ W) (hdg : decode c.code g.pc = .ok (.invokestatic index, 3)) :
    ∃ (v : Option Value) (T' : State) (L : List Loc), Q v T'.heap L ∧ Stand p l e R s m args below meth c T' (locs ++ L) (cells + rm.cells) (slots + rm.slots) ∧ ∀ target, Steps p.tables e below (T'.setTop { g with pc := g.pc + 3, stack := v.toList ++ rest }) target → Steps p.tables e below (T.setTop g) target := by
  obtain ⟨v, _, ⟨T', L', k', n'⟩, -, X', ⟨L, hQ, e1, e2, e3⟩, st⟩ := Jvm.LawKit.callS X hx (y := y) hown (mvT hZ w1) (mvT hZ w2) (mvT hZ w3) (mvT hZ w4) hy (backOf (W := W) hM hZ w4 w3 hf hl) hg hsize hlen hstack hW hdg (fun _ _ => ⟨rfl, eT, hc, hs⟩)
  dsimp only [Pt.U, Pt.locs, Pt.cells, Pt.slots] at X' e1 e2 e3 st hQ
  subst e1 e2 e3
  exact ⟨v, T', L, hQ, X', st⟩
theorem cIn (X : Stand p l e R s m args below meth c T locs cells slots) (hx : p.tables.exec = Jvm.exec) (hZ : Z.Warmed39 s.vm) {own : String} {index : Nat} {y : MethodName} {bytes : ByteArray} {maxL : Nat} (hy1 : y.name = "<init>") (hown : s.vm.findClass own = some m.cls)
    (w1 : (Jvm.Cond.methodLink own index y).before a0 Z = true) (w2 : (Jvm.Cond.instanceMethod y).before a0 Z = true) (w3 : (Jvm.Cond.initialized y.cls).before a0 Z = true) (w4 : (Jvm.Cond.code y bytes maxL none).before a0 Z = true) (hy : y.cls ≠ "java/lang/invoke/MethodHandle" ∧ y.cls ≠ "java/lang/invoke/VarHandle")
    {rm : Room} {a : Addr} {argsL rest : List Value} (hM : ctr l Z y bytes maxL none [] rm rm.cells rm.slots (.ref a :: argsL).toArray h Q) (eT : T.heap = h) (W : Nat) (hf : rm.frames + 1 ≤ R.frames) (hl : W + (maxL + 11) + rm.locals ≤ R.locals) (hc : cells + rm.cells ≤ R.cells) (hs : slots + rm.slots ≤ R.slots)
    {g : JFrame} (hg : g.method = m) (hsize : g.locals.size = c.maxLocals) (hlen : ∀ sig, parseMethodDescriptor y.desc = some sig → argsL.length = sig.parameters.length) (hstack : g.stack = argsL.reverse ++ .ref a :: rest) (hW : 2 * g.monitorRoom + (rest.map fun v => v.category).sum ≤ W) (hdg : decode c.code g.pc = .ok (.invokespecial index, 3)) :
    ∃ (v : Option Value) (T' : State) (L : List Loc), Q v T'.heap L ∧ Stand p l e R s m args below meth c T' (locs ++ L) (cells + rm.cells) (slots + rm.slots) ∧ ∀ target, Steps p.tables e below (T'.setTop { g with pc := g.pc + 3, stack := v.toList ++ rest }) target → Steps p.tables e below (T.setTop g) target := by
  obtain ⟨v, _, ⟨T', L', k', n'⟩, -, X', ⟨L, hQ, e1, e2, e3⟩, st⟩ := X.specialBack hx (y := y) hy1 hown (mvT hZ w1) (mvT hZ w2) (mvT hZ w4) hy (backOf (W := W) hM hZ w4 w3 hf hl) hg hsize (Steps.refl _) hlen hstack hW hdg (fun _ _ => ⟨rfl, eT, hc, hs⟩)
  dsimp only [Pt.U, Pt.locs, Pt.cells, Pt.slots] at X' e1 e2 e3 st hQ
  subst e1 e2 e3
  exact ⟨v, T', L, hQ, X', fun _ z => st.trans z⟩
theorem cVi (X : Stand p l e R s m args below meth c T locs cells slots) (hx : p.tables.exec = Jvm.exec) (hZ : Z.Warmed39 s.vm) {own C : String} {index : Nat} {y z : MethodName} {bytes : ByteArray} {maxL : Nat} {ret : Option FieldType} (hown : s.vm.findClass own = some m.cls)
    (w1 : (Jvm.Cond.methodLink own index y).before a0 Z = true) (w2 : (Jvm.Cond.declares y).before a0 Z = true) (nf : NotFace s y) (ws : (Jvm.Cond.selects C y z).before a0 Z = true) (wi : (Jvm.Cond.instanceMethod z).before a0 Z = true) (w3 : (Jvm.Cond.initialized z.cls).before a0 Z = true) (w4 : (Jvm.Cond.code z bytes maxL ret).before a0 Z = true)
    (hy : y.cls ≠ "java/lang/invoke/MethodHandle" ∧ y.cls ≠ "java/lang/invoke/VarHandle")
    {rm : Room} {a : Addr} {argsL rest : List Value} (hM : ctr l Z z bytes maxL ret [] rm rm.cells rm.slots (.ref a :: argsL).toArray h Q) (eT : T.heap = h) (E : Exa Z h a C) (W : Nat) (hf : rm.frames + 1 ≤ R.frames) (hl : W + (maxL + 11) + rm.locals ≤ R.locals) (hc : cells + rm.cells ≤ R.cells) (hs : slots + rm.slots ≤ R.slots)
    {g : JFrame} (hg : g.method = m) (hsize : g.locals.size = c.maxLocals) (hlen : ∀ sig, parseMethodDescriptor y.desc = some sig → argsL.length = sig.parameters.length) (hstack : g.stack = argsL.reverse ++ .ref a :: rest) (hW : 2 * g.monitorRoom + (rest.map fun v => v.category).sum ≤ W) (hdg : decode c.code g.pc = .ok (.invokevirtual index, 3)) :
    ∃ (v : Option Value) (T' : State) (L : List Loc), Q v T'.heap L ∧ Stand p l e R s m args below meth c T' (locs ++ L) (cells + rm.cells) (slots + rm.slots) ∧ ∀ target, Steps p.tables e below (T'.setTop { g with pc := g.pc + 3, stack := v.toList ++ rest }) target → Steps p.tables e below (T.setTop g) target := by
  obtain ⟨cq, kq, qa, qb, qc⟩ := isOf hZ eT E
  obtain ⟨v, _, ⟨T', L', k', n'⟩, -, X', ⟨L, hQ, e1, e2, e3⟩, st⟩ := X.virtualBack hx (y := y) (z := z) hown (mvT hZ w1) (mvT hZ w2) nf (mvT hZ ws) (mvT hZ wi) hy (backOf (W := W) hM hZ w4 w3 hf hl) qa qc hg hsize (Steps.refl _) hlen hstack hW hdg (fun _ _ => ⟨rfl, eT, hc, hs⟩)
  dsimp only [Pt.U, Pt.locs, Pt.cells, Pt.slots] at X' e1 e2 e3 st hQ
  subst e1 e2 e3
  exact ⟨v, T', L, hQ, X', fun _ z => st.trans z⟩
theorem cUp (X : Stand p l e R s m args below meth c T locs cells slots) (hx : p.tables.exec = Jvm.exec) (hZ : Z.Warmed39 s.vm) {own C owner : String} {index : Nat} {y z : MethodName} {bytes : ByteArray} {maxL : Nat} {ret : Option FieldType} (hown : s.vm.findClass own = some m.cls)
    (w1 : (Jvm.Cond.methodLink own index y).before a0 Z = true) (wm : (Jvm.Cond.sameMethod y.cls owner y.name y.desc).before a0 Z = true) (w2 : (Jvm.Cond.declares ⟨owner, y.name, y.desc⟩).before a0 Z = true) (ws : (Jvm.Cond.selects C y z).before a0 Z = true) (wi : (Jvm.Cond.instanceMethod z).before a0 Z = true) (w3 : (Jvm.Cond.initialized z.cls).before a0 Z = true) (w4 : (Jvm.Cond.code z bytes maxL ret).before a0 Z = true)
    (hy : owner ≠ "java/lang/invoke/MethodHandle" ∧ owner ≠ "java/lang/invoke/VarHandle")
    {rm : Room} {a : Addr} {argsL rest : List Value} (hM : ctr l Z z bytes maxL ret [] rm rm.cells rm.slots (.ref a :: argsL).toArray h Q) (eT : T.heap = h) (E : Exa Z h a C) (W : Nat) (hf : rm.frames + 1 ≤ R.frames) (hl : W + (maxL + 11) + rm.locals ≤ R.locals) (hc : cells + rm.cells ≤ R.cells) (hs : slots + rm.slots ≤ R.slots)
    {g : JFrame} (hg : g.method = m) (hsize : g.locals.size = c.maxLocals) (hlen : ∀ sig, parseMethodDescriptor y.desc = some sig → argsL.length = sig.parameters.length) (hstack : g.stack = argsL.reverse ++ .ref a :: rest) (hW : 2 * g.monitorRoom + (rest.map fun v => v.category).sum ≤ W) (hdg : decode c.code g.pc = .ok (.invokevirtual index, 3)) :
    ∃ (v : Option Value) (T' : State) (L : List Loc), Q v T'.heap L ∧ Stand p l e R s m args below meth c T' (locs ++ L) (cells + rm.cells) (slots + rm.slots) ∧ ∀ target, Steps p.tables e below (T'.setTop { g with pc := g.pc + 3, stack := v.toList ++ rest }) target → Steps p.tables e below (T.setTop g) target := by
  obtain ⟨cq, kq, qa, qb, qc⟩ := isOf hZ eT E
  obtain ⟨v, _, ⟨T', L', k', n'⟩, -, X', ⟨L, hQ, e1, e2, e3⟩, st⟩ := X.virtualBackUp hx (x := y) (y := z) (owner := owner) hown (mvT hZ w1) (mvT hZ wm) (mvT hZ w2) hy (mvT hZ ws) (mvT hZ wi) (backOf (W := W) hM hZ w4 w3 hf hl) qa qc hg hsize (Steps.refl _) hlen hstack hW hdg (fun _ _ => ⟨rfl, eT, hc, hs⟩)
  dsimp only [Pt.U, Pt.locs, Pt.cells, Pt.slots] at X' e1 e2 e3 st hQ
  subst e1 e2 e3
  exact ⟨v, T', L, hQ, X', fun _ z => st.trans z⟩
theorem cFa (X : Stand p l e R s m args below meth c T locs cells slots) (hx : p.tables.exec = Jvm.exec) (hZ : Z.Warmed39 s.vm) {own C : String} {index count : Nat} {y z : MethodName} {bytes : ByteArray} {maxL : Nat} {ret : Option FieldType} (hown : s.vm.findClass own = some m.cls)
    (w1 : (Jvm.Cond.methodLink own index y).before a0 Z = true) (w2 : (Jvm.Cond.declares y).before a0 Z = true) (wf : (Jvm.Cond.interfaceMethod y.cls y.cls y.name y.desc).before args s = true) (ws : (Jvm.Cond.selects C y z).before a0 Z = true) (wi : (Jvm.Cond.instanceMethod z).before a0 Z = true) (wp : (Jvm.Cond.publicMethod z).before a0 Z = true) (wu : (Jvm.Cond.unhidden C y.name y.desc).before a0 Z = true) (wk : (Jvm.Cond.castable C y.cls).before a0 Z = true) (w3 : (Jvm.Cond.initialized z.cls).before a0 Z = true) (w4 : (Jvm.Cond.code z bytes maxL ret).before a0 Z = true)
    (hy : y.cls ≠ "java/lang/invoke/MethodHandle" ∧ y.cls ≠ "java/lang/invoke/VarHandle")
    {rm : Room} {a : Addr} {argsL rest : List Value} (hM : ctr l Z z bytes maxL ret [] rm rm.cells rm.slots (.ref a :: argsL).toArray h Q) (eT : T.heap = h) (E : Exa Z h a C) (W : Nat) (hf : rm.frames + 1 ≤ R.frames) (hl : W + (maxL + 11) + rm.locals ≤ R.locals) (hc : cells + rm.cells ≤ R.cells) (hs : slots + rm.slots ≤ R.slots)
    {g : JFrame} (hg : g.method = m) (hsize : g.locals.size = c.maxLocals) (hlen : ∀ sig, parseMethodDescriptor y.desc = some sig → argsL.length = sig.parameters.length) (hstack : g.stack = argsL.reverse ++ .ref a :: rest) (hW : 2 * g.monitorRoom + (rest.map fun v => v.category).sum ≤ W) (hdg : decode c.code g.pc = .ok (.invokeinterface index count, 5)) :
    ∃ (v : Option Value) (T' : State) (L : List Loc), Q v T'.heap L ∧ Stand p l e R s m args below meth c T' (locs ++ L) (cells + rm.cells) (slots + rm.slots) ∧ ∀ target, Steps p.tables e below (T'.setTop { g with pc := g.pc + 5, stack := v.toList ++ rest }) target → Steps p.tables e below (T.setTop g) target := by
  obtain ⟨cq, kq, qa, qb, qc⟩ := isOf hZ eT E
  obtain ⟨v, _, ⟨T', L', k', n'⟩, -, X', ⟨L, hQ, e1, e2, e3⟩, st⟩ := X.interfaceBack hx (xi := y) (y := z) hown (mvT hZ w1) (mvT hZ w2) wf (mvT hZ ws) (mvT hZ wi) (mvT hZ wp) (mvT hZ wu) (mvT hZ wk) hy (backOf (W := W) hM hZ w4 w3 hf hl) qa qb qc hg hsize (Steps.refl _) hlen hstack hW hdg (fun _ _ => ⟨rfl, eT, hc, hs⟩)
  dsimp only [Pt.U, Pt.locs, Pt.cells, Pt.slots] at X' e1 e2 e3 st hQ
  subst e1 e2 e3
  exact ⟨v, T', L, hQ, X', fun _ z => st.trans z⟩
/-- a static's fact over a Keep: its holder's cell is none of the written -/
theorem Sta.keep {h' : Heap} {C n d : String} {v : Value} {ws : List Addr} (F : Sta Z h C n d v) (K : Keep h h' ws) (q : ∀ (x : Addr) (c : Cell), x ∈ ws → h[x]? = some c → c.vm.isStatics = false) : Sta Z h' C n d v := by
  obtain ⟨cf, i, k, f, st, cell, h1, h2, h3, h4, h5, h6, h7⟩ := F
  refine ⟨cf, i, k, f, st, cell, h1, h2, h3, h4, K.2.1 _ _ h5 (fun y => ?_), h6, h7⟩
  rw [q st cell y h5] at h6; cases h6
theorem own_ns {a : Addr} {C : String} (E : Exa Z h a C) : ∀ (x : Addr) (c : Cell), x ∈ [a] → h[x]? = some c → c.vm.isStatics = false := by
  intro x c hx hc
  cases List.mem_singleton.mp hx
  obtain ⟨cell, k, h1, -, -, h4, -⟩ := E
  rw [h1] at hc; cases hc; exact h4
/-- an int field of what a term names, out of an 'eq' of the case -/
theorem own_fld {args : Array Value} {a : Addr} {C n d : String} {t : Term} {x : Int32} (ev : t.eval args Z none [] Z = some (.ref a)) (hq : (Jvm.Cond.eq (.field t C n d) (.int x)).value args Z none Z [] = some true) : Fld Z Z.heap a C n d (.int x) := by
  obtain ⟨u, w, h1, h2, k1, k2⟩ := cmp_v (Or.inl hq)
  have h2' : w = .int x := by rw [Term.int_eval] at h2; exact (Option.some.inj h2).symm
  subst h2'
  obtain ⟨z, rfl⟩ : ∃ z, u = .int z := k2
  have : z = x := gotT (Cond.eq_ints h1 (Term.int_eval x)) hq
  subst this
  exact Fld.start (by rw [← fld_at ev]; exact h1)
theorem own_cat {v : Value} (r : v.isRef = true) : v.category = 1 := by rcases ref_cases r with rfl | ⟨a, rfl⟩ <;> rfl
theorem own_narO {C : String} {v : Value} (r : v.isRef = true) : narrow (.object C) v = v := by rcases ref_cases r with rfl | ⟨a, rfl⟩ <;> rfl
theorem own_fitO {C : String} {v : Value} (r : v.isRef = true) : fits (.object C) v = true := by rcases ref_cases r with rfl | ⟨a, rfl⟩ <;> rfl
theorem own_len {args : Array Value} {a : Addr} {cl : Cell} {ty : FieldType} {t : Term} {x : Int32} (ev : t.eval args Z none [] Z = some (.ref a)) (A : Arr Z Z.heap a cl ty) (hq : (Jvm.Cond.eq (.length t) (.int x)).value args Z none Z [] = some true) : cl.slots.size = x.toNatClampNeg ∧ cl.slots.size < 2 ^ 31 := by
  have ha : Z.arrayAt? a = some cl := IntBox.arrayAt_of A.1 A.2.1 A.2.2
  by_cases p : cl.slots.size < 2 ^ 31
  · have q := gotT (Cond.eq_ints (len_f ev ha p) (Term.int_eval x)) hq
    refine ⟨?_, p⟩
    rw [← q, Int32.toNatClampNeg, len_toInt p]; rfl
  · obtain ⟨u, w, h1, h2, -, -⟩ := cmp_v (Or.inl hq)
    exact absurd h1 (by simp [Term.eval, ev, ha, p])
theorem own_elem {args : Array Value} {a b : Addr} {cl : Cell} {ty : FieldType} {t u : Term} {j : Int32} (ev : t.eval args Z none [] Z = some (.ref a)) (A : Arr Z Z.heap a cl ty) (eu : u.eval args Z none [] Z = some (.ref b)) (hq : (Jvm.Cond.eq (.elem t (.int j)) u).value args Z none Z [] = some true) : cl.slots[j.toNatClampNeg]? = some (.ref b) := by
  obtain ⟨x, y, h1, h2, k1, k2⟩ := cmp_v (Or.inl hq)
  rw [eu] at h2; cases h2
  have e := gotT (eq_R h1 eu k2.2 rfl) hq
  rw [← e]; exact (elem_in h1 ev (Term.int_eval j) A.1).2
end Own
end Jvm.RoadKit
namespace Jvm.Pilot.@@N@@
open Jvm Jvm.ClassFile Sem Op Lib Jvm.Free Jvm.Stand Jvm.LawKit Jvm.RoadKit Bundle Jvm.Pilot.@@N@@.Jvm.D
theorem d1_0 : decode prog_102_method_1_code 0 = .ok (.aload_n 0, 1) := by decide +kernel
theorem d1_1 : decode prog_102_method_1_code 1 = .ok (.invokespecial 1, 3) := by decide +kernel
theorem d1_4 : decode prog_102_method_1_code 4 = .ok (.lload_n 1, 1) := by decide +kernel
theorem d1_5 : decode prog_102_method_1_code 5 = .ok (.ldc2_w 7, 3) := by decide +kernel
theorem d1_8 : decode prog_102_method_1_code 8 = .ok (.lcmp, 1) := by decide +kernel
theorem d1_9 : decode prog_102_method_1_code 9 = .ok (.ifCond .ge 17, 3) := by decide +kernel
theorem d1_26 : decode prog_102_method_1_code 26 = .ok (.dload_n 3, 1) := by decide +kernel
theorem d1_27 : decode prog_102_method_1_code 27 = .ok (.dconst 0, 1) := by decide +kernel
theorem d1_28 : decode prog_102_method_1_code 28 = .ok (.dcmp .l, 1) := by decide +kernel
theorem d1_29 : decode prog_102_method_1_code 29 = .ok (.ifCond .le 9, 3) := by decide +kernel
theorem d1_32 : decode prog_102_method_1_code 32 = .ok (.dload_n 3, 1) := by decide +kernel
theorem d1_33 : decode prog_102_method_1_code 33 = .ok (.dconst 1, 1) := by decide +kernel
theorem d1_34 : decode prog_102_method_1_code 34 = .ok (.dcmp .g, 1) := by decide +kernel
theorem d1_35 : decode prog_102_method_1_code 35 = .ok (.ifCond .lt 17, 3) := by decide +kernel
theorem d1_52 : decode prog_102_method_1_code 52 = .ok (.aload_n 0, 1) := by decide +kernel
theorem d1_53 : decode prog_102_method_1_code 53 = .ok (.lload_n 1, 1) := by decide +kernel
theorem d1_54 : decode prog_102_method_1_code 54 = .ok (.putfield 21, 3) := by decide +kernel
theorem d1_57 : decode prog_102_method_1_code 57 = .ok (.aload_n 0, 1) := by decide +kernel
theorem d1_58 : decode prog_102_method_1_code 58 = .ok (.dload_n 3, 1) := by decide +kernel
theorem d1_59 : decode prog_102_method_1_code 59 = .ok (.putfield 27, 3) := by decide +kernel
theorem d1_62 : decode prog_102_method_1_code 62 = .ok (.return_, 1) := by decide +kernel
theorem d3_0 : decode prog_102_method_3_code 0 = .ok (.aload_n 0, 1) := by decide +kernel
theorem d3_1 : decode prog_102_method_3_code 1 = .ok (.getfield 39, 3) := by decide +kernel
theorem d3_4 : decode prog_102_method_3_code 4 = .ok (.aload_n 0, 1) := by decide +kernel
theorem d3_5 : decode prog_102_method_3_code 5 = .ok (.getfield 21, 3) := by decide +kernel
theorem d3_8 : decode prog_102_method_3_code 8 = .ok (.lcmp, 1) := by decide +kernel
theorem d3_9 : decode prog_102_method_3_code 9 = .ok (.ifCond .ne 7, 3) := by decide +kernel
theorem d3_12 : decode prog_102_method_3_code 12 = .ok (.iconst 1, 1) := by decide +kernel
theorem d3_13 : decode prog_102_method_3_code 13 = .ok (.goto 4, 3) := by decide +kernel
theorem d3_16 : decode prog_102_method_3_code 16 = .ok (.iconst 0, 1) := by decide +kernel
theorem d3_17 : decode prog_102_method_3_code 17 = .ok (.ireturn, 1) := by decide +kernel
theorem d4_0 : decode method_3_code 0 = .ok (.lload_n 1, 1) := by decide +kernel
theorem d4_1 : decode method_3_code 1 = .ok (.lload_n 3, 1) := by decide +kernel
theorem d4_2 : decode method_3_code 2 = .ok (.lcmp, 1) := by decide +kernel
theorem d4_3 : decode method_3_code 3 = .ok (.ifCond .le 5, 3) := by decide +kernel
theorem d4_6 : decode method_3_code 6 = .ok (.iconst 1, 1) := by decide +kernel
theorem d4_7 : decode method_3_code 7 = .ok (.ireturn, 1) := by decide +kernel
theorem d4_8 : decode method_3_code 8 = .ok (.aload_n 0, 1) := by decide +kernel
theorem d4_9 : decode method_3_code 9 = .ok (.dload 5, 2) := by decide +kernel
theorem d4_11 : decode method_3_code 11 = .ok (.invokevirtual 40, 3) := by decide +kernel
theorem d4_14 : decode method_3_code 14 = .ok (.aload_n 0, 1) := by decide +kernel
theorem d4_15 : decode method_3_code 15 = .ok (.invokevirtual 28, 3) := by decide +kernel
theorem d4_18 : decode method_3_code 18 = .ok (.lload_n 1, 1) := by decide +kernel
theorem d4_19 : decode method_3_code 19 = .ok (.lload_n 3, 1) := by decide +kernel
theorem d4_20 : decode method_3_code 20 = .ok (.lcmp, 1) := by decide +kernel
theorem d4_21 : decode method_3_code 21 = .ok (.ifCond .ne 7, 3) := by decide +kernel
theorem d4_24 : decode method_3_code 24 = .ok (.iconst 1, 1) := by decide +kernel
theorem d4_25 : decode method_3_code 25 = .ok (.goto 4, 3) := by decide +kernel
theorem d4_28 : decode method_3_code 28 = .ok (.iconst 0, 1) := by decide +kernel
theorem d4_29 : decode method_3_code 29 = .ok (.if_icmp .ne 7, 3) := by decide +kernel
theorem d4_32 : decode method_3_code 32 = .ok (.iconst 1, 1) := by decide +kernel
theorem d4_33 : decode method_3_code 33 = .ok (.goto 4, 3) := by decide +kernel
theorem d4_37 : decode method_3_code 37 = .ok (.ireturn, 1) := by decide +kernel
theorem d5_0 : decode prog_102_method_2_code 0 = .ok (.aload_n 0, 1) := by decide +kernel
theorem d5_1 : decode prog_102_method_2_code 1 = .ok (.invokevirtual 31, 3) := by decide +kernel
theorem d5_4 : decode prog_102_method_2_code 4 = .ok (.ifCond .eq 20, 3) := by decide +kernel
theorem d5_24 : decode prog_102_method_2_code 24 = .ok (.aload_n 0, 1) := by decide +kernel
theorem d5_25 : decode prog_102_method_2_code 25 = .ok (.dup, 1) := by decide +kernel
theorem d5_26 : decode prog_102_method_2_code 26 = .ok (.getfield 39, 3) := by decide +kernel
theorem d5_29 : decode prog_102_method_2_code 29 = .ok (.lconst 1, 1) := by decide +kernel
theorem d5_30 : decode prog_102_method_2_code 30 = .ok (.ladd, 1) := by decide +kernel
theorem d5_31 : decode prog_102_method_2_code 31 = .ok (.putfield 39, 3) := by decide +kernel
theorem d5_34 : decode prog_102_method_2_code 34 = .ok (.dload_n 1, 1) := by decide +kernel
theorem d5_35 : decode prog_102_method_2_code 35 = .ok (.aload_n 0, 1) := by decide +kernel
theorem d5_36 : decode prog_102_method_2_code 36 = .ok (.getfield 42, 3) := by decide +kernel
theorem d5_39 : decode prog_102_method_2_code 39 = .ok (.dsub, 1) := by decide +kernel
theorem d5_40 : decode prog_102_method_2_code 40 = .ok (.dstore_n 3, 1) := by decide +kernel
theorem d5_41 : decode prog_102_method_2_code 41 = .ok (.aload_n 0, 1) := by decide +kernel
theorem d5_42 : decode prog_102_method_2_code 42 = .ok (.dup, 1) := by decide +kernel
theorem d5_43 : decode prog_102_method_2_code 43 = .ok (.getfield 42, 3) := by decide +kernel
theorem d5_46 : decode prog_102_method_2_code 46 = .ok (.dload_n 3, 1) := by decide +kernel
theorem d5_47 : decode prog_102_method_2_code 47 = .ok (.aload_n 0, 1) := by decide +kernel
theorem d5_48 : decode prog_102_method_2_code 48 = .ok (.getfield 39, 3) := by decide +kernel
theorem d5_51 : decode prog_102_method_2_code 51 = .ok (.l2d, 1) := by decide +kernel
theorem d5_52 : decode prog_102_method_2_code 52 = .ok (.ddiv, 1) := by decide +kernel
theorem d5_53 : decode prog_102_method_2_code 53 = .ok (.dadd, 1) := by decide +kernel
theorem d5_54 : decode prog_102_method_2_code 54 = .ok (.putfield 42, 3) := by decide +kernel
theorem d5_57 : decode prog_102_method_2_code 57 = .ok (.aload_n 0, 1) := by decide +kernel
theorem d5_58 : decode prog_102_method_2_code 58 = .ok (.dup, 1) := by decide +kernel
theorem d5_59 : decode prog_102_method_2_code 59 = .ok (.getfield 45, 3) := by decide +kernel
theorem d5_62 : decode prog_102_method_2_code 62 = .ok (.dload_n 3, 1) := by decide +kernel
theorem d5_63 : decode prog_102_method_2_code 63 = .ok (.dload_n 1, 1) := by decide +kernel
theorem d5_64 : decode prog_102_method_2_code 64 = .ok (.aload_n 0, 1) := by decide +kernel
theorem d5_65 : decode prog_102_method_2_code 65 = .ok (.getfield 42, 3) := by decide +kernel
theorem d5_68 : decode prog_102_method_2_code 68 = .ok (.dsub, 1) := by decide +kernel
theorem d5_69 : decode prog_102_method_2_code 69 = .ok (.dmul, 1) := by decide +kernel
theorem d5_70 : decode prog_102_method_2_code 70 = .ok (.dadd, 1) := by decide +kernel
theorem d5_71 : decode prog_102_method_2_code 71 = .ok (.putfield 45, 3) := by decide +kernel
theorem d5_74 : decode prog_102_method_2_code 74 = .ok (.return_, 1) := by decide +kernel
theorem d6_0 : decode jdk_29_method_66_code 0 = .ok (.lload_n 0, 1) := by decide +kernel
theorem d6_1 : decode jdk_29_method_66_code 1 = .ok (.lload_n 2, 1) := by decide +kernel
theorem d6_2 : decode jdk_29_method_66_code 2 = .ok (.lcmp, 1) := by decide +kernel
theorem d6_3 : decode jdk_29_method_66_code 3 = .ok (.ifCond .lt 7, 3) := by decide +kernel
theorem d6_6 : decode jdk_29_method_66_code 6 = .ok (.lload_n 0, 1) := by decide +kernel
theorem d6_7 : decode jdk_29_method_66_code 7 = .ok (.goto 4, 3) := by decide +kernel
theorem d6_10 : decode jdk_29_method_66_code 10 = .ok (.lload_n 2, 1) := by decide +kernel
theorem d6_11 : decode jdk_29_method_66_code 11 = .ok (.lreturn, 1) := by decide +kernel
theorem pn0 : plainName "com/example/wyrd/wyrd/service/ExpectationEstimator" = true := by first | (simp [plainName, overriddenIn]; done) | decide +kernel
theorem pn1 : plainName "com/example/wyrd/wyrd/service/ExpectationEstimatorIsDonePinLaw" = true := by first | (simp [plainName, overriddenIn]; done) | decide +kernel
theorem pd0 : parseMethodDescriptor "()Z" = some ⟨[], some .boolean⟩ := by decide +kernel
theorem pd1 : parseMethodDescriptor "(D)V" = some ⟨[.double], none⟩ := by decide +kernel
theorem pd2 : parseMethodDescriptor "(JD)V" = some ⟨[.long, .double], none⟩ := by decide +kernel
theorem pd3 : parseMethodDescriptor "(Lcom/example/wyrd/wyrd/service/ExpectationEstimator;JJD)Z" = some ⟨[(.object "com/example/wyrd/wyrd/service/ExpectationEstimator"), .long, .long, .double], some .boolean⟩ := by decide +kernel
theorem pd4 : parseMethodDescriptor "(JJ)J" = some ⟨[.long, .long], some .long⟩ := by decide +kernel
open Jvm.FP Jvm.Free.Fl
def own_done (c r : Int64) : Int32 := if c = r then 1 else 0
def own_max (a b : Int64) : Int64 := if a < b then b else a
theorem own_x (b : Int32) : 1 + (b &&& 7) = 1 ∨ 1 + (b &&& 7) = 2 ∨ 1 + (b &&& 7) = 3 ∨ 1 + (b &&& 7) = 4 ∨ 1 + (b &&& 7) = 5 ∨ 1 + (b &&& 7) = 6 ∨ 1 + (b &&& 7) = 7 ∨ 1 + (b &&& 7) = 8 := by
  have q := c_mask b 7 3 (by decide) (by decide)
  have u := c_iadd 1 (b &&& 7)
  have r := rng32 (1 + (b &&& 7))
  rw [show (1 : Int32).toInt = 1 by decide] at u
  have v : (1 + (b &&& 7)).toInt = 1 ∨ (1 + (b &&& 7)).toInt = 2 ∨ (1 + (b &&& 7)).toInt = 3 ∨ (1 + (b &&& 7)).toInt = 4 ∨ (1 + (b &&& 7)).toInt = 5 ∨ (1 + (b &&& 7)).toInt = 6 ∨ (1 + (b &&& 7)).toInt = 7 ∨ (1 + (b &&& 7)).toInt = 8 := by omega
  rcases v with v | v | v | v | v | v | v | v
  · exact Or.inl (Int32.toInt_inj.mp v)
  · exact Or.inr (Or.inl (Int32.toInt_inj.mp v))
  · exact Or.inr (Or.inr (Or.inl (Int32.toInt_inj.mp v)))
  · exact Or.inr (Or.inr (Or.inr (Or.inl (Int32.toInt_inj.mp v))))
  · exact Or.inr (Or.inr (Or.inr (Or.inr (Or.inl (Int32.toInt_inj.mp v)))))
  · exact Or.inr (Or.inr (Or.inr (Or.inr (Or.inr (Or.inl (Int32.toInt_inj.mp v))))))
  · exact Or.inr (Or.inr (Or.inr (Or.inr (Or.inr (Or.inr (Or.inl (Int32.toInt_inj.mp v)))))))
  · exact Or.inr (Or.inr (Or.inr (Or.inr (Or.inr (Or.inr (Or.inr (Int32.toInt_inj.mp v)))))))
def own_al (b : Int32) : UInt64 := FP.ddiv (FP.i2d (1 + (b &&& 7))) (4621819117588971520 : UInt64)
theorem own_al_n (b : Int32) : NoNaN64 (own_al b) := by unfold own_al; rcases own_x b with h | h | h | h | h | h | h | h <;> rw [h] <;> decide +kernel
theorem own_al_1 (b : Int32) : (0 : Int32) < cmpValue (FP.dcmp (own_al b) (0 : UInt64)) .l := by unfold own_al; rcases own_x b with h | h | h | h | h | h | h | h <;> rw [h] <;> decide +kernel
theorem own_al_2 (b : Int32) : cmpValue (FP.dcmp (own_al b) (4607182418800017408 : UInt64)) .g < (0 : Int32) := by unfold own_al; rcases own_x b with h | h | h | h | h | h | h | h <;> rw [h] <;> decide +kernel
theorem own_r0 (r : Int64) : ¬ (2 + ((r &&& 2147483647) - ((r &&& 2147483647) / 3) * 3)) < 2 := by
  have q := c_maskL r 2147483647 31 (by decide) (by decide)
  have u := (c_lrem (r &&& 2147483647) 3 3 (by decide)).1 (by omega)
  have v := c_ladd 2 ((r &&& 2147483647) - ((r &&& 2147483647) / 3) * 3)
  have w := rng64 (2 + ((r &&& 2147483647) - ((r &&& 2147483647) / 3) * 3))
  rw [show (2 : Int64).toInt = 2 by decide] at v
  rw [Int64.lt_iff_toInt_lt, show (2 : Int64).toInt = 2 by decide]; omega
theorem own_r1 (r : Int64) : ¬ own_max 5 r < 2 := by
  unfold own_max
  split
  · rename_i h
    rw [Int64.lt_iff_toInt_lt, show (5 : Int64).toInt = 5 by decide] at h
    rw [Int64.lt_iff_toInt_lt, show (2 : Int64).toInt = 2 by decide]; omega
  · decide
theorem own_mag0 : Mag64 1056 0 := by unfold Mag64; decide
theorem own_nb {K : Nat} {x : UInt64} (h : Mag64 K x) (hK : K ≤ 2047) : NoNaN64 x := (h.fin hK).noNaN
theorem ef6_JJ (m : MethodId) (x0 : Int64) (x1 : Int64) : entryFrame m #[(.long x0), (.long x1)] 4 = mkF m 0 #[.val (.long x0), .second, .val (.long x1), .second] [] := by first | (simp [entryFrame, mkF, argsToLocals, Value.category]; done) | rfl
set_option maxRecDepth 65536 in
set_option maxHeartbeats 40000000 in
theorem rmM (l : Launch) (Z : State) (a0 : Array Value) (hw : ∀ d ∈ tables_1, d.before a0 Z = true) (h0 : Heap) (n0 : Nat) (Z0 : n0 ≤ h0.size) (x y : Int64) :
    ctr l Z (⟨"java/lang/Math", "max", "(JJ)J"⟩ : MethodName) jdk_29_method_66_code 4 (some .long) [] ({ frames := 0, cells := 0, slots := 0, locals := 0 } : Room) 0 0 #[(.long x), (.long y)] h0 (fun v h L => v = some (.long (own_max x y)) ∧ Fr n0 L ∧ h = h0) := by
  refine ctr_of (by decide +kernel) ?_
  intro p e s m below meth jc s₁ hx hby hml hret hlk hnm hown hZ e0 X0
  have N0 := Fr.nil n0
  refine Dn.cast (ef6_JJ m x y) ?_
  show Dn p e below s _ _ _ (s₁.setTop (mkF m 0 #[.val (.long x), .second, .val (.long y), .second] []))
  refine Dn.of (fun tt_ zz_ => XS.lloadN X0.here hx rfl (hb hby d6_0) rfl zz_) ?_
  show Dn p e below s _ _ _ (s₁.setTop (mkF m 1 #[.val (.long x), .second, .val (.long y), .second] [(.long x)]))
  refine Dn.of (fun tt_ zz_ => XS.lloadN X0.here hx rfl (hb hby d6_1) rfl zz_) ?_
  show Dn p e below s _ _ _ (s₁.setTop (mkF m 2 #[.val (.long x), .second, .val (.long y), .second] [(.long y), (.long x)]))
  refine Dn.of (fun tt_ zz_ => XS.lcmp X0.here hx rfl (hb hby d6_2) rfl zz_) ?_
  show Dn p e below s _ _ _ (s₁.setTop (mkF m 3 #[.val (.long x), .second, .val (.long y), .second] [(.int (lcmpW x y))]))
  by_cases h1 : (lcmpW x y) < (0 : Int32)
  · skip
    refine Dn.of (fun tt_ zz_ => XS.ifYes X0.here hx rfl (pc0 := 3) (pc' := 10) rfl (hb hby d6_3) rfl ((if0 _ _).trans (tlt h1).1) (by decide) (by decide) zz_) ?_
    show Dn p e below s _ _ _ (s₁.setTop (mkF m 10 #[.val (.long x), .second, .val (.long y), .second] []))
    refine Dn.of (fun tt_ zz_ => XS.lloadN X0.here hx rfl (hb hby d6_10) rfl zz_) ?_
    show Dn p e below s _ _ _ (s₁.setTop (mkF m 11 #[.val (.long x), .second, .val (.long y), .second] [(.long y)]))
    exact Dn.ret X0 hx hlk hret rfl (Or.inr (Or.inl ⟨rfl, rfl, _, rfl⟩)) (hb hby d6_11) (by decide) (by decide) (⟨by rw [own_max, if_pos ((lw_lt _ _).mp h1)], N0, e0⟩)
  · skip
    refine Dn.of (fun tt_ zz_ => XS.ifNo X0.here hx rfl (hb hby d6_3) rfl ((if0 _ _).trans (flt h1).1) zz_) ?_
    show Dn p e below s _ _ _ (s₁.setTop (mkF m 6 #[.val (.long x), .second, .val (.long y), .second] []))
    refine Dn.of (fun tt_ zz_ => XS.lloadN X0.here hx rfl (hb hby d6_6) rfl zz_) ?_
    show Dn p e below s _ _ _ (s₁.setTop (mkF m 7 #[.val (.long x), .second, .val (.long y), .second] [(.long x)]))
    refine Dn.of (fun tt_ zz_ => XS.goto X0.here hx rfl (pc0 := 7) (pc' := 11) rfl (hb hby d6_7) (by decide) (by decide) zz_) ?_
    show Dn p e below s _ _ _ (s₁.setTop (mkF m 11 #[.val (.long x), .second, .val (.long y), .second] [(.long x)]))
    exact Dn.ret X0 hx hlk hret rfl (Or.inr (Or.inl ⟨rfl, rfl, _, rfl⟩)) (hb hby d6_11) (by decide) (by decide) (⟨by rw [own_max, if_neg (fun z => h1 ((lw_lt _ _).mpr z))], N0, e0⟩)
theorem ef1_AJD (m : MethodId) (x0 : Addr) (x1 : Int64) (x2 : UInt64) : entryFrame m #[(.ref x0), (.long x1), (.double x2)] 5 = mkF m 0 #[.val (.ref x0), .val (.long x1), .second, .val (.double x2), .second] [] := by first | (simp [entryFrame, mkF, argsToLocals, Value.category]; done) | rfl
set_option maxRecDepth 65536 in
set_option maxHeartbeats 40000000 in
theorem rmI (l : Launch) (Z : State) (a0 : Array Value) (hw : ∀ d ∈ tables_1, d.before a0 Z = true) (h0 : Heap) (n0 : Nat) (Z0 : n0 ≤ h0.size) (a : Addr) (r : Int64) (al : UInt64) (E0 : Exa Z h0 a "com/example/wyrd/wyrd/service/ExpectationEstimator") (F0 : Fld Z h0 a "com/example/wyrd/wyrd/service/ExpectationEstimator" "runs" "J" (.long (0 : Int64))) (F1 : Fld Z h0 a "com/example/wyrd/wyrd/service/ExpectationEstimator" "alpha" "D" (.double (0 : UInt64))) (F2 : Fld Z h0 a "com/example/wyrd/wyrd/service/ExpectationEstimator" "recorded" "J" (.long (0 : Int64))) (F3 : Fld Z h0 a "com/example/wyrd/wyrd/service/ExpectationEstimator" "mean" "D" (.double (0 : UInt64))) (F4 : Fld Z h0 a "com/example/wyrd/wyrd/service/ExpectationEstimator" "squares" "D" (.double (0 : UInt64))) (g0 : n0 ≤ a) (c1 : ¬ r < 2) (c2 : (0 : Int32) < cmpValue (FP.dcmp al (0 : UInt64)) .l) (c3 : cmpValue (FP.dcmp al (4607182418800017408 : UInt64)) .g < (0 : Int32)) :
    ctr l Z (⟨"com/example/wyrd/wyrd/service/ExpectationEstimator", "<init>", "(JD)V"⟩ : MethodName) prog_102_method_1_code 5 none [] ({ frames := 1, cells := 0, slots := 0, locals := 12 } : Room) 0 0 #[(.ref a), (.long r), (.double al)] h0 (fun v h L => v = none ∧ Fr n0 L ∧ Keep h0 h [a] ∧ Fld Z h a "com/example/wyrd/wyrd/service/ExpectationEstimator" "runs" "J" (.long r) ∧ Fld Z h a "com/example/wyrd/wyrd/service/ExpectationEstimator" "recorded" "J" (.long (0 : Int64)) ∧ Fld Z h a "com/example/wyrd/wyrd/service/ExpectationEstimator" "mean" "D" (.double (0 : UInt64)) ∧ Fld Z h a "com/example/wyrd/wyrd/service/ExpectationEstimator" "squares" "D" (.double (0 : UInt64))) := by
  refine ctr_of (plainFor_of_name pn0) ?_
  intro p e s m below meth jc s₁ hx hby hml hret hlk hnm hown hZ e0 X0
  have N0 := Fr.nil n0
  refine Dn.cast (ef1_AJD m a r al) ?_
  show Dn p e below s _ _ _ (s₁.setTop (mkF m 0 #[.val (.ref a), .val (.long r), .second, .val (.double al), .second] []))
  have s01 : Jvm.RoadKit.slotOf Z "com/example/wyrd/wyrd/service/ExpectationEstimator" "runs" "J" ≠ Jvm.RoadKit.slotOf Z "com/example/wyrd/wyrd/service/ExpectationEstimator" "alpha" "D" := slot_ne (Or.inr (hw _ (List.mem_of_getElem? (i := 15) rfl))) (Or.inr (hw _ (List.mem_of_getElem? (i := 17) rfl))) (by decide) (t := .long) (t' := .double) (by decide) (by decide)
  have s10 : Jvm.RoadKit.slotOf Z "com/example/wyrd/wyrd/service/ExpectationEstimator" "alpha" "D" ≠ Jvm.RoadKit.slotOf Z "com/example/wyrd/wyrd/service/ExpectationEstimator" "runs" "J" := slot_ne (Or.inr (hw _ (List.mem_of_getElem? (i := 17) rfl))) (Or.inr (hw _ (List.mem_of_getElem? (i := 15) rfl))) (by decide) (t := .double) (t' := .long) (by decide) (by decide)
  have s20 : Jvm.RoadKit.slotOf Z "com/example/wyrd/wyrd/service/ExpectationEstimator" "recorded" "J" ≠ Jvm.RoadKit.slotOf Z "com/example/wyrd/wyrd/service/ExpectationEstimator" "runs" "J" := slot_ne (Or.inl (hw _ (List.mem_of_getElem? (i := 24) rfl))) (Or.inr (hw _ (List.mem_of_getElem? (i := 15) rfl))) (by decide) (t := .long) (t' := .long) (by decide) (by decide)
  have s21 : Jvm.RoadKit.slotOf Z "com/example/wyrd/wyrd/service/ExpectationEstimator" "recorded" "J" ≠ Jvm.RoadKit.slotOf Z "com/example/wyrd/wyrd/service/ExpectationEstimator" "alpha" "D" := slot_ne (Or.inl (hw _ (List.mem_of_getElem? (i := 24) rfl))) (Or.inr (hw _ (List.mem_of_getElem? (i := 17) rfl))) (by decide) (t := .long) (t' := .double) (by decide) (by decide)
  have s30 : Jvm.RoadKit.slotOf Z "com/example/wyrd/wyrd/service/ExpectationEstimator" "mean" "D" ≠ Jvm.RoadKit.slotOf Z "com/example/wyrd/wyrd/service/ExpectationEstimator" "runs" "J" := slot_ne (Or.inl (hw _ (List.mem_of_getElem? (i := 36) rfl))) (Or.inr (hw _ (List.mem_of_getElem? (i := 15) rfl))) (by decide) (t := .double) (t' := .long) (by decide) (by decide)
  have s31 : Jvm.RoadKit.slotOf Z "com/example/wyrd/wyrd/service/ExpectationEstimator" "mean" "D" ≠ Jvm.RoadKit.slotOf Z "com/example/wyrd/wyrd/service/ExpectationEstimator" "alpha" "D" := slot_ne (Or.inl (hw _ (List.mem_of_getElem? (i := 36) rfl))) (Or.inr (hw _ (List.mem_of_getElem? (i := 17) rfl))) (by decide) (t := .double) (t' := .double) (by decide) (by decide)
  have s40 : Jvm.RoadKit.slotOf Z "com/example/wyrd/wyrd/service/ExpectationEstimator" "squares" "D" ≠ Jvm.RoadKit.slotOf Z "com/example/wyrd/wyrd/service/ExpectationEstimator" "runs" "J" := slot_ne (Or.inl (hw _ (List.mem_of_getElem? (i := 38) rfl))) (Or.inr (hw _ (List.mem_of_getElem? (i := 15) rfl))) (by decide) (t := .double) (t' := .long) (by decide) (by decide)
  have s41 : Jvm.RoadKit.slotOf Z "com/example/wyrd/wyrd/service/ExpectationEstimator" "squares" "D" ≠ Jvm.RoadKit.slotOf Z "com/example/wyrd/wyrd/service/ExpectationEstimator" "alpha" "D" := slot_ne (Or.inl (hw _ (List.mem_of_getElem? (i := 38) rfl))) (Or.inr (hw _ (List.mem_of_getElem? (i := 17) rfl))) (by decide) (t := .double) (t' := .double) (by decide) (by decide)
  refine Dn.of (fun tt_ zz_ => XS.aloadN X0.here hx rfl (hb hby d1_0) rfl rfl zz_) ?_
  show Dn p e below s _ _ _ (s₁.setTop (mkF m 1 #[.val (.ref a), .val (.long r), .second, .val (.double al), .second] [(.ref a)]))
  obtain ⟨T1, X1, e1, st1⟩ := initO X0 hx hZ hown (hw _ (List.mem_of_getElem? (i := 10) rfl)) (hw _ (List.mem_of_getElem? (i := 11) rfl)) (hw _ (List.mem_of_getElem? (i := 12) rfl)) e0 (g := (mkF m 1 #[.val (.ref a), .val (.long r), .second, .val (.double al), .second] [(.ref a)])) rfl (by rw [hml]; rfl) rfl (hb hby d1_1) (by decide) (W := 0) (by show 2 * 0 + _ ≤ _; exact Nat.le_of_eq rfl) (by decide)
  refine Dn.of st1 ?_
  show Dn p e below s _ _ _ (T1.setTop (mkF m 4 #[.val (.ref a), .val (.long r), .second, .val (.double al), .second] []))
  refine Dn.of (fun tt_ zz_ => XS.lloadN X1.here hx rfl (hb hby d1_4) rfl zz_) ?_
  show Dn p e below s _ _ _ (T1.setTop (mkF m 5 #[.val (.ref a), .val (.long r), .second, .val (.double al), .second] [(.long r)]))
  refine Dn.of (fun tt_ zz_ => X1.ldc2J hx hown (mvT hZ (hw _ (List.mem_of_getElem? (i := 13) rfl))) rfl (hb hby d1_5) zz_) ?_
  show Dn p e below s _ _ _ (T1.setTop (mkF m 8 #[.val (.ref a), .val (.long r), .second, .val (.double al), .second] [(.long (2 : Int64)), (.long r)]))
  refine Dn.of (fun tt_ zz_ => XS.lcmp X1.here hx rfl (hb hby d1_8) rfl zz_) ?_
  show Dn p e below s _ _ _ (T1.setTop (mkF m 9 #[.val (.ref a), .val (.long r), .second, .val (.double al), .second] [(.int (lcmpW r (2 : Int64)))]))
  refine Dn.of (fun tt_ zz_ => XS.ifYes X1.here hx rfl (pc0 := 9) (pc' := 26) rfl (hb hby d1_9) rfl ((if0 _ _).trans (flt (fun z => c1 ((lw_lt _ _).mp z))).2.1) (by decide) (by decide) zz_) ?_
  show Dn p e below s _ _ _ (T1.setTop (mkF m 26 #[.val (.ref a), .val (.long r), .second, .val (.double al), .second] []))
  refine Dn.of (fun tt_ zz_ => XS.dloadN X1.here hx rfl (hb hby d1_26) rfl zz_) ?_
  show Dn p e below s _ _ _ (T1.setTop (mkF m 27 #[.val (.ref a), .val (.long r), .second, .val (.double al), .second] [(.double al)]))
  refine Dn.of (fun tt_ zz_ => XS.dconst0 X1.here hx rfl (v := (0 : UInt64)) (hb hby d1_27) rfl zz_) ?_
  show Dn p e below s _ _ _ (T1.setTop (mkF m 28 #[.val (.ref a), .val (.long r), .second, .val (.double al), .second] [(.double (0 : UInt64)), (.double al)]))
  refine Dn.of (fun tt_ zz_ => XS.dcmpS X1.here hx rfl (v := (cmpValue (FP.dcmp al (0 : UInt64)) .l)) (hb hby d1_28) rfl rfl zz_) ?_
  show Dn p e below s _ _ _ (T1.setTop (mkF m 29 #[.val (.ref a), .val (.long r), .second, .val (.double al), .second] [(.int (cmpValue (FP.dcmp al (0 : UInt64)) .l))]))
  refine Dn.of (fun tt_ zz_ => XS.ifNo X1.here hx rfl (hb hby d1_29) rfl ((if0 _ _).trans (tlt c2).2.2.2) zz_) ?_
  show Dn p e below s _ _ _ (T1.setTop (mkF m 32 #[.val (.ref a), .val (.long r), .second, .val (.double al), .second] []))
  refine Dn.of (fun tt_ zz_ => XS.dloadN X1.here hx rfl (hb hby d1_32) rfl zz_) ?_
  show Dn p e below s _ _ _ (T1.setTop (mkF m 33 #[.val (.ref a), .val (.long r), .second, .val (.double al), .second] [(.double al)]))
  refine Dn.of (fun tt_ zz_ => XS.dconst1 X1.here hx rfl (v := (4607182418800017408 : UInt64)) (hb hby d1_33) rfl zz_) ?_
  show Dn p e below s _ _ _ (T1.setTop (mkF m 34 #[.val (.ref a), .val (.long r), .second, .val (.double al), .second] [(.double (4607182418800017408 : UInt64)), (.double al)]))
  refine Dn.of (fun tt_ zz_ => XS.dcmpS X1.here hx rfl (v := (cmpValue (FP.dcmp al (4607182418800017408 : UInt64)) .g)) (hb hby d1_34) rfl rfl zz_) ?_
  show Dn p e below s _ _ _ (T1.setTop (mkF m 35 #[.val (.ref a), .val (.long r), .second, .val (.double al), .second] [(.int (cmpValue (FP.dcmp al (4607182418800017408 : UInt64)) .g))]))
  refine Dn.of (fun tt_ zz_ => XS.ifYes X1.here hx rfl (pc0 := 35) (pc' := 52) rfl (hb hby d1_35) rfl ((if0 _ _).trans (tlt c3).1) (by decide) (by decide) zz_) ?_
  show Dn p e below s _ _ _ (T1.setTop (mkF m 52 #[.val (.ref a), .val (.long r), .second, .val (.double al), .second] []))
  refine Dn.of (fun tt_ zz_ => XS.aloadN X1.here hx rfl (hb hby d1_52) rfl rfl zz_) ?_
  show Dn p e below s _ _ _ (T1.setTop (mkF m 53 #[.val (.ref a), .val (.long r), .second, .val (.double al), .second] [(.ref a)]))
  refine Dn.of (fun tt_ zz_ => XS.lloadN X1.here hx rfl (hb hby d1_53) rfl zz_) ?_
  show Dn p e below s _ _ _ (T1.setTop (mkF m 54 #[.val (.ref a), .val (.long r), .second, .val (.double al), .second] [(.long r), (.ref a)]))
  obtain ⟨T2, h2, X2, e2, W2, st2⟩ := putF X1 hx hZ hown (host := "") (Or.inl (hw _ (List.mem_of_getElem? (i := 14) rfl))) Via.refl e1 F0 E0 (Or.inr ⟨(hw _ (List.mem_of_getElem? (i := 15) rfl)), rfl, hnm⟩) (hw _ (List.mem_of_getElem? (i := 5) rfl)) (ty := .long) (by decide) rfl rfl (g := (mkF m 54 #[.val (.ref a), .val (.long r), .second, .val (.double al), .second] [(.long r), (.ref a)])) rfl rfl (hb hby d1_54)
  refine Dn.of st2 ?_
  show Dn p e below s _ _ _ (T2.setTop (mkF m 57 #[.val (.ref a), .val (.long r), .second, .val (.double al), .second] []))
  refine Dn.of (fun tt_ zz_ => XS.aloadN X2.here hx rfl (hb hby d1_57) rfl rfl zz_) ?_
  show Dn p e below s _ _ _ (T2.setTop (mkF m 58 #[.val (.ref a), .val (.long r), .second, .val (.double al), .second] [(.ref a)]))
  refine Dn.of (fun tt_ zz_ => XS.dloadN X2.here hx rfl (hb hby d1_58) rfl zz_) ?_
  show Dn p e below s _ _ _ (T2.setTop (mkF m 59 #[.val (.ref a), .val (.long r), .second, .val (.double al), .second] [(.double al), (.ref a)]))
  obtain ⟨T3, h3, X3, e3, W3, st3⟩ := putF X2 hx hZ hown (host := "") (Or.inl (hw _ (List.mem_of_getElem? (i := 16) rfl))) Via.refl e2 (F1.other W2 (Or.inr s10)) (E0.wr W2) (Or.inr ⟨(hw _ (List.mem_of_getElem? (i := 17) rfl)), rfl, hnm⟩) (hw _ (List.mem_of_getElem? (i := 5) rfl)) (ty := .double) (by decide) rfl rfl (g := (mkF m 59 #[.val (.ref a), .val (.long r), .second, .val (.double al), .second] [(.double al), (.ref a)])) rfl rfl (hb hby d1_59)
  refine Dn.of st3 ?_
  show Dn p e below s _ _ _ (T3.setTop (mkF m 62 #[.val (.ref a), .val (.long r), .second, .val (.double al), .second] []))
  have N1 := Fr.snoc X2 N0 g0
  have N2 := Fr.snoc X3 N1 g0
  exact Dn.retV X3 hx hlk hret (hb hby d1_62) (by decide) (by decide) (by rw [e3]; exact ⟨rfl, N2, ((Keep.refl h0 [a]).wr W2 (Or.inl (List.mem_of_getElem? (i := 0) rfl))).wr W3 (Or.inl (List.mem_of_getElem? (i := 0) rfl)), (F0.same W2).other W3 (Or.inr s01), (F2.other W2 (Or.inr s20)).other W3 (Or.inr s21), (F3.other W2 (Or.inr s30)).other W3 (Or.inr s31), (F4.other W2 (Or.inr s40)).other W3 (Or.inr s41)⟩)
theorem ef3_A (m : MethodId) (x0 : Addr) : entryFrame m #[(.ref x0)] 1 = mkF m 0 #[.val (.ref x0)] [] := by first | (simp [entryFrame, mkF, argsToLocals, Value.category]; done) | rfl
set_option maxRecDepth 65536 in
set_option maxHeartbeats 40000000 in
theorem rmD (l : Launch) (Z : State) (a0 : Array Value) (hw : ∀ d ∈ tables_1, d.before a0 Z = true) (h0 : Heap) (n0 : Nat) (Z0 : n0 ≤ h0.size) (a : Addr) (c r : Int64) (F0 : Fld Z h0 a "com/example/wyrd/wyrd/service/ExpectationEstimator" "runs" "J" (.long r)) (F2 : Fld Z h0 a "com/example/wyrd/wyrd/service/ExpectationEstimator" "recorded" "J" (.long c)) :
    ctr l Z (⟨"com/example/wyrd/wyrd/service/ExpectationEstimator", "isDone", "()Z"⟩ : MethodName) prog_102_method_3_code 1 (some .boolean) [] ({ frames := 0, cells := 0, slots := 0, locals := 0 } : Room) 0 0 #[(.ref a)] h0 (fun v h L => v = some (.int (own_done c r)) ∧ Fr n0 L ∧ h = h0) := by
  refine ctr_of (plainFor_of_name pn0) ?_
  intro p e s m below meth jc s₁ hx hby hml hret hlk hnm hown hZ e0 X0
  have N0 := Fr.nil n0
  refine Dn.cast (ef3_A m a) ?_
  show Dn p e below s _ _ _ (s₁.setTop (mkF m 0 #[.val (.ref a)] []))
  refine Dn.of (fun tt_ zz_ => XS.aloadN X0.here hx rfl (hb hby d3_0) rfl rfl zz_) ?_
  show Dn p e below s _ _ _ (s₁.setTop (mkF m 1 #[.val (.ref a)] [(.ref a)]))
  obtain ⟨T4, X4, e4, st4⟩ := getF X0 hx hZ hown (host := "") (Or.inl (hw _ (List.mem_of_getElem? (i := 23) rfl))) Via.refl e0 F2 (g := (mkF m 1 #[.val (.ref a)] [(.ref a)])) rfl rfl (hb hby d3_1)
  refine Dn.of st4 ?_
  show Dn p e below s _ _ _ (T4.setTop (mkF m 4 #[.val (.ref a)] [(.long c)]))
  refine Dn.of (fun tt_ zz_ => XS.aloadN X4.here hx rfl (hb hby d3_4) rfl rfl zz_) ?_
  show Dn p e below s _ _ _ (T4.setTop (mkF m 5 #[.val (.ref a)] [(.ref a), (.long c)]))
  obtain ⟨T5, X5, e5, st5⟩ := getF X4 hx hZ hown (host := "") (Or.inl (hw _ (List.mem_of_getElem? (i := 14) rfl))) Via.refl e4 F0 (g := (mkF m 5 #[.val (.ref a)] [(.ref a), (.long c)])) rfl rfl (hb hby d3_5)
  refine Dn.of st5 ?_
  show Dn p e below s _ _ _ (T5.setTop (mkF m 8 #[.val (.ref a)] [(.long r), (.long c)]))
  refine Dn.of (fun tt_ zz_ => XS.lcmp X5.here hx rfl (hb hby d3_8) rfl zz_) ?_
  show Dn p e below s _ _ _ (T5.setTop (mkF m 9 #[.val (.ref a)] [(.int (lcmpW c r))]))
  by_cases h1 : (lcmpW c r) = (0 : Int32)
  · skip
    refine Dn.of (fun tt_ zz_ => XS.ifNo X5.here hx rfl (hb hby d3_9) rfl ((if0 _ _).trans (teq h1).2) zz_) ?_
    show Dn p e below s _ _ _ (T5.setTop (mkF m 12 #[.val (.ref a)] []))
    refine Dn.of (fun tt_ zz_ => XS.iconst X5.here hx rfl (hb hby d3_12) zz_) ?_
    show Dn p e below s _ _ _ (T5.setTop (mkF m 13 #[.val (.ref a)] [(.int (1 : Int32))]))
    refine Dn.of (fun tt_ zz_ => XS.goto X5.here hx rfl (pc0 := 13) (pc' := 17) rfl (hb hby d3_13) (by decide) (by decide) zz_) ?_
    show Dn p e below s _ _ _ (T5.setTop (mkF m 17 #[.val (.ref a)] [(.int (1 : Int32))]))
    exact Dn.retN X5 hx hlk (t := .boolean) hret (by simp) (hb hby d3_17) (by decide) (by decide) (⟨by rw [own_done, if_pos ((lw_eq _ _).mp h1)]; rfl, N0, e5⟩)
  · skip
    refine Dn.of (fun tt_ zz_ => XS.ifYes X5.here hx rfl (pc0 := 9) (pc' := 16) rfl (hb hby d3_9) rfl ((if0 _ _).trans (feq h1).2) (by decide) (by decide) zz_) ?_
    show Dn p e below s _ _ _ (T5.setTop (mkF m 16 #[.val (.ref a)] []))
    refine Dn.of (fun tt_ zz_ => XS.iconst X5.here hx rfl (hb hby d3_16) zz_) ?_
    show Dn p e below s _ _ _ (T5.setTop (mkF m 17 #[.val (.ref a)] [(.int (0 : Int32))]))
    exact Dn.retN X5 hx hlk (t := .boolean) hret (by simp) (hb hby d3_17) (by decide) (by decide) (⟨by rw [own_done, if_neg (fun z => h1 ((lw_eq _ _).mpr z))]; rfl, N0, e5⟩)
theorem ef5_AD (m : MethodId) (x0 : Addr) (x1 : UInt64) : entryFrame m #[(.ref x0), (.double x1)] 5 = mkF m 0 #[.val (.ref x0), .val (.double x1), .second, .unset, .unset] [] := by first | (simp [entryFrame, mkF, argsToLocals, Value.category]; done) | rfl
set_option maxRecDepth 65536 in
set_option maxHeartbeats 40000000 in
theorem rmA (l : Launch) (Z : State) (a0 : Array Value) (hw : ∀ d ∈ tables_1, d.before a0 Z = true) (h0 : Heap) (n0 : Nat) (Z0 : n0 ≤ h0.size) (a : Addr) (c r : Int64) (mu sq : UInt64) (E0 : Exa Z h0 a "com/example/wyrd/wyrd/service/ExpectationEstimator") (F0 : Fld Z h0 a "com/example/wyrd/wyrd/service/ExpectationEstimator" "runs" "J" (.long r)) (F2 : Fld Z h0 a "com/example/wyrd/wyrd/service/ExpectationEstimator" "recorded" "J" (.long c)) (F3 : Fld Z h0 a "com/example/wyrd/wyrd/service/ExpectationEstimator" "mean" "D" (.double mu)) (F4 : Fld Z h0 a "com/example/wyrd/wyrd/service/ExpectationEstimator" "squares" "D" (.double sq)) (x : UInt64) (K M : Nat) (m1 : Mag64 K x) (m2 : Mag64 K mu) (m3 : Mag64 M sq) (hK : K ≤ 1100) (hM1 : 1187 ≤ M) (hM2 : M ≤ 1300) (g0 : n0 ≤ a) (nc : ¬ c = r) (nz : ¬ c + 1 = 0) :
    ctr l Z (⟨"com/example/wyrd/wyrd/service/ExpectationEstimator", "add", "(D)V"⟩ : MethodName) prog_102_method_2_code 5 none [] ({ frames := 1, cells := 0, slots := 0, locals := 12 } : Room) 0 0 #[(.ref a), (.double x)] h0 (fun v h L => v = none ∧ Fr n0 L ∧ Keep h0 h [a] ∧ Fld Z h a "com/example/wyrd/wyrd/service/ExpectationEstimator" "runs" "J" (.long r) ∧ Fld Z h a "com/example/wyrd/wyrd/service/ExpectationEstimator" "recorded" "J" (.long (c + 1)) ∧ ∃ mu' sq', Fld Z h a "com/example/wyrd/wyrd/service/ExpectationEstimator" "mean" "D" (.double mu') ∧ Fld Z h a "com/example/wyrd/wyrd/service/ExpectationEstimator" "squares" "D" (.double sq') ∧ Mag64 (K + 5) mu' ∧ Mag64 (M + 2) sq') := by
  refine ctr_of (plainFor_of_name pn0) ?_
  intro p e s m below meth jc s₁ hx hby hml hret hlk hnm hown hZ e0 X0
  have N0 := Fr.nil n0
  refine Dn.cast (ef5_AD m a x) ?_
  show Dn p e below s _ _ _ (s₁.setTop (mkF m 0 #[.val (.ref a), .val (.double x), .second, .unset, .unset] []))
  have s02 : Jvm.RoadKit.slotOf Z "com/example/wyrd/wyrd/service/ExpectationEstimator" "runs" "J" ≠ Jvm.RoadKit.slotOf Z "com/example/wyrd/wyrd/service/ExpectationEstimator" "recorded" "J" := slot_ne (Or.inr (hw _ (List.mem_of_getElem? (i := 15) rfl))) (Or.inl (hw _ (List.mem_of_getElem? (i := 24) rfl))) (by decide) (t := .long) (t' := .long) (by decide) (by decide)
  have s03 : Jvm.RoadKit.slotOf Z "com/example/wyrd/wyrd/service/ExpectationEstimator" "runs" "J" ≠ Jvm.RoadKit.slotOf Z "com/example/wyrd/wyrd/service/ExpectationEstimator" "mean" "D" := slot_ne (Or.inr (hw _ (List.mem_of_getElem? (i := 15) rfl))) (Or.inl (hw _ (List.mem_of_getElem? (i := 36) rfl))) (by decide) (t := .long) (t' := .double) (by decide) (by decide)
  have s04 : Jvm.RoadKit.slotOf Z "com/example/wyrd/wyrd/service/ExpectationEstimator" "runs" "J" ≠ Jvm.RoadKit.slotOf Z "com/example/wyrd/wyrd/service/ExpectationEstimator" "squares" "D" := slot_ne (Or.inr (hw _ (List.mem_of_getElem? (i := 15) rfl))) (Or.inl (hw _ (List.mem_of_getElem? (i := 38) rfl))) (by decide) (t := .long) (t' := .double) (by decide) (by decide)
  have s23 : Jvm.RoadKit.slotOf Z "com/example/wyrd/wyrd/service/ExpectationEstimator" "recorded" "J" ≠ Jvm.RoadKit.slotOf Z "com/example/wyrd/wyrd/service/ExpectationEstimator" "mean" "D" := slot_ne (Or.inl (hw _ (List.mem_of_getElem? (i := 24) rfl))) (Or.inl (hw _ (List.mem_of_getElem? (i := 36) rfl))) (by decide) (t := .long) (t' := .double) (by decide) (by decide)
  have s24 : Jvm.RoadKit.slotOf Z "com/example/wyrd/wyrd/service/ExpectationEstimator" "recorded" "J" ≠ Jvm.RoadKit.slotOf Z "com/example/wyrd/wyrd/service/ExpectationEstimator" "squares" "D" := slot_ne (Or.inl (hw _ (List.mem_of_getElem? (i := 24) rfl))) (Or.inl (hw _ (List.mem_of_getElem? (i := 38) rfl))) (by decide) (t := .long) (t' := .double) (by decide) (by decide)
  have s32 : Jvm.RoadKit.slotOf Z "com/example/wyrd/wyrd/service/ExpectationEstimator" "mean" "D" ≠ Jvm.RoadKit.slotOf Z "com/example/wyrd/wyrd/service/ExpectationEstimator" "recorded" "J" := slot_ne (Or.inl (hw _ (List.mem_of_getElem? (i := 36) rfl))) (Or.inl (hw _ (List.mem_of_getElem? (i := 24) rfl))) (by decide) (t := .double) (t' := .long) (by decide) (by decide)
  have s34 : Jvm.RoadKit.slotOf Z "com/example/wyrd/wyrd/service/ExpectationEstimator" "mean" "D" ≠ Jvm.RoadKit.slotOf Z "com/example/wyrd/wyrd/service/ExpectationEstimator" "squares" "D" := slot_ne (Or.inl (hw _ (List.mem_of_getElem? (i := 36) rfl))) (Or.inl (hw _ (List.mem_of_getElem? (i := 38) rfl))) (by decide) (t := .double) (t' := .double) (by decide) (by decide)
  have s42 : Jvm.RoadKit.slotOf Z "com/example/wyrd/wyrd/service/ExpectationEstimator" "squares" "D" ≠ Jvm.RoadKit.slotOf Z "com/example/wyrd/wyrd/service/ExpectationEstimator" "recorded" "J" := slot_ne (Or.inl (hw _ (List.mem_of_getElem? (i := 38) rfl))) (Or.inl (hw _ (List.mem_of_getElem? (i := 24) rfl))) (by decide) (t := .double) (t' := .long) (by decide) (by decide)
  have s43 : Jvm.RoadKit.slotOf Z "com/example/wyrd/wyrd/service/ExpectationEstimator" "squares" "D" ≠ Jvm.RoadKit.slotOf Z "com/example/wyrd/wyrd/service/ExpectationEstimator" "mean" "D" := slot_ne (Or.inl (hw _ (List.mem_of_getElem? (i := 38) rfl))) (Or.inl (hw _ (List.mem_of_getElem? (i := 36) rfl))) (by decide) (t := .double) (t' := .double) (by decide) (by decide)
  refine Dn.of (fun tt_ zz_ => XS.aloadN X0.here hx rfl (hb hby d5_0) rfl rfl zz_) ?_
  show Dn p e below s _ _ _ (s₁.setTop (mkF m 1 #[.val (.ref a), .val (.double x), .second, .unset, .unset] [(.ref a)]))
  obtain ⟨v6, T6, L6, Q6, X6, st6⟩ := cVi X0 hx hZ (C := "com/example/wyrd/wyrd/service/ExpectationEstimator") (y := (⟨"com/example/wyrd/wyrd/service/ExpectationEstimator", "isDone", "()Z"⟩ : MethodName)) (z := (⟨"com/example/wyrd/wyrd/service/ExpectationEstimator", "isDone", "()Z"⟩ : MethodName)) hown (hw _ (List.mem_of_getElem? (i := 34) rfl)) (hw _ (List.mem_of_getElem? (i := 19) rfl)) (notFace_of_selects (args := #[]) (mvT hZ (hw _ (List.mem_of_getElem? (i := 21) rfl)))) (hw _ (List.mem_of_getElem? (i := 21) rfl)) (hw _ (List.mem_of_getElem? (i := 20) rfl)) (hw _ (List.mem_of_getElem? (i := 6) rfl)) (hw _ (List.mem_of_getElem? (i := 22) rfl)) (by decide) (a := a) (argsL := []) (rest := []) (rmD l Z a0 hw h0 n0 Z0 a c r F0 F2) e0 E0 0 (by decide) (by decide) (by decide) (by decide) (g := (mkF m 1 #[.val (.ref a), .val (.double x), .second, .unset, .unset] [(.ref a)])) rfl (by rw [hml]; rfl) (lenOf pd0 rfl) rfl (by show 2 * 0 + _ ≤ _; exact Nat.le_of_eq rfl) (hb hby d5_1)
  obtain ⟨rfl, M1, e6⟩ := Q6
  refine Dn.of st6 ?_
  show Dn p e below s _ _ _ (T6.setTop (mkF m 4 #[.val (.ref a), .val (.double x), .second, .unset, .unset] [(.int (own_done c r))]))
  refine Dn.of (fun tt_ zz_ => XS.ifYes X6.here hx rfl (pc0 := 4) (pc' := 24) rfl (hb hby d5_4) rfl ((if0 _ _).trans (teq (if_neg nc)).1) (by decide) (by decide) zz_) ?_
  show Dn p e below s _ _ _ (T6.setTop (mkF m 24 #[.val (.ref a), .val (.double x), .second, .unset, .unset] []))
  refine Dn.of (fun tt_ zz_ => XS.aloadN X6.here hx rfl (hb hby d5_24) rfl rfl zz_) ?_
  show Dn p e below s _ _ _ (T6.setTop (mkF m 25 #[.val (.ref a), .val (.double x), .second, .unset, .unset] [(.ref a)]))
  refine Dn.of (fun tt_ zz_ => XS.dup X6.here hx rfl (hb hby d5_25) rfl rfl zz_) ?_
  show Dn p e below s _ _ _ (T6.setTop (mkF m 26 #[.val (.ref a), .val (.double x), .second, .unset, .unset] [(.ref a), (.ref a)]))
  obtain ⟨T7, X7, e7, st7⟩ := getF X6 hx hZ hown (host := "") (Or.inl (hw _ (List.mem_of_getElem? (i := 23) rfl))) Via.refl e6 F2 (g := (mkF m 26 #[.val (.ref a), .val (.double x), .second, .unset, .unset] [(.ref a), (.ref a)])) rfl rfl (hb hby d5_26)
  refine Dn.of st7 ?_
  show Dn p e below s _ _ _ (T7.setTop (mkF m 29 #[.val (.ref a), .val (.double x), .second, .unset, .unset] [(.long c), (.ref a)]))
  refine Dn.of (fun tt_ zz_ => XS.lconst X7.here hx rfl (hb hby d5_29) zz_) ?_
  show Dn p e below s _ _ _ (T7.setTop (mkF m 30 #[.val (.ref a), .val (.double x), .second, .unset, .unset] [(.long (1 : Int64)), (.long c), (.ref a)]))
  refine Dn.of (fun tt_ zz_ => XS.ladd X7.here hx rfl (hb hby d5_30) rfl zz_) ?_
  show Dn p e below s _ _ _ (T7.setTop (mkF m 31 #[.val (.ref a), .val (.double x), .second, .unset, .unset] [(.long (c + (1 : Int64))), (.ref a)]))
  obtain ⟨T8, h8, X8, e8, W8, st8⟩ := putF X7 hx hZ hown (host := "") (Or.inl (hw _ (List.mem_of_getElem? (i := 23) rfl))) Via.refl e7 F2 E0 (Or.inl (hw _ (List.mem_of_getElem? (i := 24) rfl))) (hw _ (List.mem_of_getElem? (i := 5) rfl)) (ty := .long) (by decide) rfl rfl (g := (mkF m 31 #[.val (.ref a), .val (.double x), .second, .unset, .unset] [(.long (c + (1 : Int64))), (.ref a)])) rfl rfl (hb hby d5_31)
  refine Dn.of st8 ?_
  show Dn p e below s _ _ _ (T8.setTop (mkF m 34 #[.val (.ref a), .val (.double x), .second, .unset, .unset] []))
  have F0a := F0.other W8 (Or.inr s02)
  have F2a := F2.same W8
  have F3a := F3.other W8 (Or.inr s32)
  have F4a := F4.other W8 (Or.inr s42)
  have E1 := E0.wr W8
  have d1 : Mag64 (K + 2) (FP.dsub x mu) := dsub_mag m1 m2 (by omega)
  refine Dn.of (fun tt_ zz_ => XS.dloadN X8.here hx rfl (hb hby d5_34) rfl zz_) ?_
  show Dn p e below s _ _ _ (T8.setTop (mkF m 35 #[.val (.ref a), .val (.double x), .second, .unset, .unset] [(.double x)]))
  refine Dn.of (fun tt_ zz_ => XS.aloadN X8.here hx rfl (hb hby d5_35) rfl rfl zz_) ?_
  show Dn p e below s _ _ _ (T8.setTop (mkF m 36 #[.val (.ref a), .val (.double x), .second, .unset, .unset] [(.ref a), (.double x)]))
  obtain ⟨T9, X9, e9, st9⟩ := getF X8 hx hZ hown (host := "") (Or.inl (hw _ (List.mem_of_getElem? (i := 35) rfl))) Via.refl e8 F3a (g := (mkF m 36 #[.val (.ref a), .val (.double x), .second, .unset, .unset] [(.ref a), (.double x)])) rfl rfl (hb hby d5_36)
  refine Dn.of st9 ?_
  show Dn p e below s _ _ _ (T9.setTop (mkF m 39 #[.val (.ref a), .val (.double x), .second, .unset, .unset] [(.double mu), (.double x)]))
  refine Dn.of (fun tt_ zz_ => XS.dsubS X9.here hx rfl (v := (FP.dsub x mu)) (hb hby d5_39) rfl (own_nb d1 (by omega)) rfl zz_) ?_
  show Dn p e below s _ _ _ (T9.setTop (mkF m 40 #[.val (.ref a), .val (.double x), .second, .unset, .unset] [(.double (FP.dsub x mu))]))
  refine Dn.of (fun tt_ zz_ => XS.dstoreN X9.here hx rfl (hb hby d5_40) rfl (l' := #[.val (.ref a), .val (.double x), .second, .val (.double (FP.dsub x mu)), .second]) rfl zz_) ?_
  show Dn p e below s _ _ _ (T9.setTop (mkF m 41 #[.val (.ref a), .val (.double x), .second, .val (.double (FP.dsub x mu)), .second] []))
  refine Dn.of (fun tt_ zz_ => XS.aloadN X9.here hx rfl (hb hby d5_41) rfl rfl zz_) ?_
  show Dn p e below s _ _ _ (T9.setTop (mkF m 42 #[.val (.ref a), .val (.double x), .second, .val (.double (FP.dsub x mu)), .second] [(.ref a)]))
  refine Dn.of (fun tt_ zz_ => XS.dup X9.here hx rfl (hb hby d5_42) rfl rfl zz_) ?_
  show Dn p e below s _ _ _ (T9.setTop (mkF m 43 #[.val (.ref a), .val (.double x), .second, .val (.double (FP.dsub x mu)), .second] [(.ref a), (.ref a)]))
  obtain ⟨T10, X10, e10, st10⟩ := getF X9 hx hZ hown (host := "") (Or.inl (hw _ (List.mem_of_getElem? (i := 35) rfl))) Via.refl e9 F3a (g := (mkF m 43 #[.val (.ref a), .val (.double x), .second, .val (.double (FP.dsub x mu)), .second] [(.ref a), (.ref a)])) rfl rfl (hb hby d5_43)
  refine Dn.of st10 ?_
  show Dn p e below s _ _ _ (T10.setTop (mkF m 46 #[.val (.ref a), .val (.double x), .second, .val (.double (FP.dsub x mu)), .second] [(.double mu), (.ref a)]))
  refine Dn.of (fun tt_ zz_ => XS.dloadN X10.here hx rfl (hb hby d5_46) rfl zz_) ?_
  show Dn p e below s _ _ _ (T10.setTop (mkF m 47 #[.val (.ref a), .val (.double x), .second, .val (.double (FP.dsub x mu)), .second] [(.double (FP.dsub x mu)), (.double mu), (.ref a)]))
  refine Dn.of (fun tt_ zz_ => XS.aloadN X10.here hx rfl (hb hby d5_47) rfl rfl zz_) ?_
  show Dn p e below s _ _ _ (T10.setTop (mkF m 48 #[.val (.ref a), .val (.double x), .second, .val (.double (FP.dsub x mu)), .second] [(.ref a), (.double (FP.dsub x mu)), (.double mu), (.ref a)]))
  obtain ⟨T11, X11, e11, st11⟩ := getF X10 hx hZ hown (host := "") (Or.inl (hw _ (List.mem_of_getElem? (i := 23) rfl))) Via.refl e10 F2a (g := (mkF m 48 #[.val (.ref a), .val (.double x), .second, .val (.double (FP.dsub x mu)), .second] [(.ref a), (.double (FP.dsub x mu)), (.double mu), (.ref a)])) rfl rfl (hb hby d5_48)
  refine Dn.of st11 ?_
  show Dn p e below s _ _ _ (T11.setTop (mkF m 51 #[.val (.ref a), .val (.double x), .second, .val (.double (FP.dsub x mu)), .second] [(.long (c + 1)), (.double (FP.dsub x mu)), (.double mu), (.ref a)]))
  refine Dn.of (fun tt_ zz_ => XS.l2dS X11.here hx rfl (v := FP.l2d (c + 1)) (hb hby d5_51) rfl rfl zz_) ?_
  show Dn p e below s _ _ _ (T11.setTop (mkF m 52 #[.val (.ref a), .val (.double x), .second, .val (.double (FP.dsub x mu)), .second] [(.double (FP.l2d (c + 1))), (.double (FP.dsub x mu)), (.double mu), (.ref a)]))
  have d2 : Mag64 (K + 3) (FP.ddiv (FP.dsub x mu) (FP.l2d (c + 1))) := (ddiv_mag d1 (l2d_big nz) (by omega) (by omega)).mono (by omega)
  refine Dn.of (fun tt_ zz_ => XS.ddivS X11.here hx rfl (v := (FP.ddiv (FP.dsub x mu) (FP.l2d (c + 1)))) (hb hby d5_52) rfl (own_nb d2 (by omega)) rfl zz_) ?_
  show Dn p e below s _ _ _ (T11.setTop (mkF m 53 #[.val (.ref a), .val (.double x), .second, .val (.double (FP.dsub x mu)), .second] [(.double (FP.ddiv (FP.dsub x mu) (FP.l2d (c + 1)))), (.double mu), (.ref a)]))
  have d3 : Mag64 (K + 5) (FP.dadd mu (FP.ddiv (FP.dsub x mu) (FP.l2d (c + 1)))) := dadd_mag (m2.mono (by omega)) d2 (by omega)
  refine Dn.of (fun tt_ zz_ => XS.daddS X11.here hx rfl (v := (FP.dadd mu (FP.ddiv (FP.dsub x mu) (FP.l2d (c + 1))))) (hb hby d5_53) rfl (own_nb d3 (by omega)) rfl zz_) ?_
  show Dn p e below s _ _ _ (T11.setTop (mkF m 54 #[.val (.ref a), .val (.double x), .second, .val (.double (FP.dsub x mu)), .second] [(.double (FP.dadd mu (FP.ddiv (FP.dsub x mu) (FP.l2d (c + 1))))), (.ref a)]))
  generalize FP.dadd mu (FP.ddiv (FP.dsub x mu) (FP.l2d (c + 1))) = mu' at *
  show Dn p e below s _ _ _ (T11.setTop (mkF m 54 #[.val (.ref a), .val (.double x), .second, .val (.double (FP.dsub x mu)), .second] [(.double mu'), (.ref a)]))
  obtain ⟨T12, h12, X12, e12, W12, st12⟩ := putF X11 hx hZ hown (host := "") (Or.inl (hw _ (List.mem_of_getElem? (i := 35) rfl))) Via.refl e11 F3a E1 (Or.inl (hw _ (List.mem_of_getElem? (i := 36) rfl))) (hw _ (List.mem_of_getElem? (i := 5) rfl)) (ty := .double) (by decide) rfl rfl (g := (mkF m 54 #[.val (.ref a), .val (.double x), .second, .val (.double (FP.dsub x mu)), .second] [(.double mu'), (.ref a)])) rfl rfl (hb hby d5_54)
  refine Dn.of st12 ?_
  show Dn p e below s _ _ _ (T12.setTop (mkF m 57 #[.val (.ref a), .val (.double x), .second, .val (.double (FP.dsub x mu)), .second] []))
  have F0b := F0a.other W12 (Or.inr s03)
  have F2b := F2a.other W12 (Or.inr s23)
  have F3b := F3a.same W12
  have F4b := F4a.other W12 (Or.inr s43)
  have E2 := E1.wr W12
  refine Dn.of (fun tt_ zz_ => XS.aloadN X12.here hx rfl (hb hby d5_57) rfl rfl zz_) ?_
  show Dn p e below s _ _ _ (T12.setTop (mkF m 58 #[.val (.ref a), .val (.double x), .second, .val (.double (FP.dsub x mu)), .second] [(.ref a)]))
  refine Dn.of (fun tt_ zz_ => XS.dup X12.here hx rfl (hb hby d5_58) rfl rfl zz_) ?_
  show Dn p e below s _ _ _ (T12.setTop (mkF m 59 #[.val (.ref a), .val (.double x), .second, .val (.double (FP.dsub x mu)), .second] [(.ref a), (.ref a)]))
  obtain ⟨T13, X13, e13, st13⟩ := getF X12 hx hZ hown (host := "") (Or.inl (hw _ (List.mem_of_getElem? (i := 37) rfl))) Via.refl e12 F4b (g := (mkF m 59 #[.val (.ref a), .val (.double x), .second, .val (.double (FP.dsub x mu)), .second] [(.ref a), (.ref a)])) rfl rfl (hb hby d5_59)
  refine Dn.of st13 ?_
  show Dn p e below s _ _ _ (T13.setTop (mkF m 62 #[.val (.ref a), .val (.double x), .second, .val (.double (FP.dsub x mu)), .second] [(.double sq), (.ref a)]))
  refine Dn.of (fun tt_ zz_ => XS.dloadN X13.here hx rfl (hb hby d5_62) rfl zz_) ?_
  show Dn p e below s _ _ _ (T13.setTop (mkF m 63 #[.val (.ref a), .val (.double x), .second, .val (.double (FP.dsub x mu)), .second] [(.double (FP.dsub x mu)), (.double sq), (.ref a)]))
  refine Dn.of (fun tt_ zz_ => XS.dloadN X13.here hx rfl (hb hby d5_63) rfl zz_) ?_
  show Dn p e below s _ _ _ (T13.setTop (mkF m 64 #[.val (.ref a), .val (.double x), .second, .val (.double (FP.dsub x mu)), .second] [(.double x), (.double (FP.dsub x mu)), (.double sq), (.ref a)]))
  refine Dn.of (fun tt_ zz_ => XS.aloadN X13.here hx rfl (hb hby d5_64) rfl rfl zz_) ?_
  show Dn p e below s _ _ _ (T13.setTop (mkF m 65 #[.val (.ref a), .val (.double x), .second, .val (.double (FP.dsub x mu)), .second] [(.ref a), (.double x), (.double (FP.dsub x mu)), (.double sq), (.ref a)]))
  obtain ⟨T14, X14, e14, st14⟩ := getF X13 hx hZ hown (host := "") (Or.inl (hw _ (List.mem_of_getElem? (i := 35) rfl))) Via.refl e13 F3b (g := (mkF m 65 #[.val (.ref a), .val (.double x), .second, .val (.double (FP.dsub x mu)), .second] [(.ref a), (.double x), (.double (FP.dsub x mu)), (.double sq), (.ref a)])) rfl rfl (hb hby d5_65)
  refine Dn.of st14 ?_
  show Dn p e below s _ _ _ (T14.setTop (mkF m 68 #[.val (.ref a), .val (.double x), .second, .val (.double (FP.dsub x mu)), .second] [(.double mu'), (.double x), (.double (FP.dsub x mu)), (.double sq), (.ref a)]))
  have d4 : Mag64 (K + 7) (FP.dsub x mu') := dsub_mag (m1.mono (by omega)) d3 (by omega)
  refine Dn.of (fun tt_ zz_ => XS.dsubS X14.here hx rfl (v := (FP.dsub x mu')) (hb hby d5_68) rfl (own_nb d4 (by omega)) rfl zz_) ?_
  show Dn p e below s _ _ _ (T14.setTop (mkF m 69 #[.val (.ref a), .val (.double x), .second, .val (.double (FP.dsub x mu)), .second] [(.double (FP.dsub x mu')), (.double (FP.dsub x mu)), (.double sq), (.ref a)]))
  have d5 : Mag64 M (FP.dmul (FP.dsub x mu) (FP.dsub x mu')) := (dmul_mag d1 d4 (by omega) (by omega)).mono (by omega)
  refine Dn.of (fun tt_ zz_ => XS.dmulS X14.here hx rfl (v := (FP.dmul (FP.dsub x mu) (FP.dsub x mu'))) (hb hby d5_69) rfl (own_nb d5 (by omega)) rfl zz_) ?_
  show Dn p e below s _ _ _ (T14.setTop (mkF m 70 #[.val (.ref a), .val (.double x), .second, .val (.double (FP.dsub x mu)), .second] [(.double (FP.dmul (FP.dsub x mu) (FP.dsub x mu'))), (.double sq), (.ref a)]))
  have d6 : Mag64 (M + 2) (FP.dadd sq (FP.dmul (FP.dsub x mu) (FP.dsub x mu'))) := dadd_mag m3 d5 (by omega)
  refine Dn.of (fun tt_ zz_ => XS.daddS X14.here hx rfl (v := (FP.dadd sq (FP.dmul (FP.dsub x mu) (FP.dsub x mu')))) (hb hby d5_70) rfl (own_nb d6 (by omega)) rfl zz_) ?_
  show Dn p e below s _ _ _ (T14.setTop (mkF m 71 #[.val (.ref a), .val (.double x), .second, .val (.double (FP.dsub x mu)), .second] [(.double (FP.dadd sq (FP.dmul (FP.dsub x mu) (FP.dsub x mu')))), (.ref a)]))
  generalize FP.dadd sq (FP.dmul (FP.dsub x mu) (FP.dsub x mu')) = sq' at *
  show Dn p e below s _ _ _ (T14.setTop (mkF m 71 #[.val (.ref a), .val (.double x), .second, .val (.double (FP.dsub x mu)), .second] [(.double sq'), (.ref a)]))
  obtain ⟨T15, h15, X15, e15, W15, st15⟩ := putF X14 hx hZ hown (host := "") (Or.inl (hw _ (List.mem_of_getElem? (i := 37) rfl))) Via.refl e14 F4b E2 (Or.inl (hw _ (List.mem_of_getElem? (i := 38) rfl))) (hw _ (List.mem_of_getElem? (i := 5) rfl)) (ty := .double) (by decide) rfl rfl (g := (mkF m 71 #[.val (.ref a), .val (.double x), .second, .val (.double (FP.dsub x mu)), .second] [(.double sq'), (.ref a)])) rfl rfl (hb hby d5_71)
  refine Dn.of st15 ?_
  show Dn p e below s _ _ _ (T15.setTop (mkF m 74 #[.val (.ref a), .val (.double x), .second, .val (.double (FP.dsub x mu)), .second] []))
  have N1 := Fr.snoc X8 (Fr.app N0 M1) g0
  have N2 := Fr.snoc X12 N1 g0
  have N3 := Fr.snoc X15 N2 g0
  exact Dn.retV X15 hx hlk hret (hb hby d5_74) (by decide) (by decide) (by rw [e15]; exact ⟨rfl, N3, (((Keep.refl h0 [a]).wr W8 (Or.inl (List.mem_of_getElem? (i := 0) rfl))).wr W12 (Or.inl (List.mem_of_getElem? (i := 0) rfl))).wr W15 (Or.inl (List.mem_of_getElem? (i := 0) rfl)), F0b.other W15 (Or.inr s04), F2b.other W15 (Or.inr s24), mu', sq', F3b.other W15 (Or.inr s34), F4b.same W15, d3, d6⟩)
theorem ef4_AJJD (m : MethodId) (x0 : Addr) (x1 : Int64) (x2 : Int64) (x3 : UInt64) : entryFrame m #[(.ref x0), (.long x1), (.long x2), (.double x3)] 7 = mkF m 0 #[.val (.ref x0), .val (.long x1), .second, .val (.long x2), .second, .val (.double x3), .second] [] := by first | (simp [entryFrame, mkF, argsToLocals, Value.category]; done) | rfl
set_option maxRecDepth 65536 in
set_option maxHeartbeats 40000000 in
theorem rmS0 (l : Launch) (Z : State) (a0 : Array Value) (hw : ∀ d ∈ tables_1, d.before a0 Z = true) (h0 : Heap) (n0 : Nat) (Z0 : n0 ≤ h0.size) (a : Addr) (i r : Int64) (x : UInt64) (hi : r < i) :
    ctr l Z (⟨"com/example/wyrd/wyrd/service/ExpectationEstimatorIsDonePinLaw", "step", "(Lcom/example/wyrd/wyrd/service/ExpectationEstimator;JJD)Z"⟩ : MethodName) method_3_code 7 (some .boolean) [] ({ frames := 0, cells := 0, slots := 0, locals := 0 } : Room) 0 0 #[(.ref a), (.long i), (.long r), (.double x)] h0 (fun v h L => v = some (.int 1) ∧ Fr n0 L ∧ h = h0) := by
  refine ctr_of (plainFor_of_name pn1) ?_
  intro p e s m below meth jc s₁ hx hby hml hret hlk hnm hown hZ e0 X0
  have N0 := Fr.nil n0
  refine Dn.cast (ef4_AJJD m a i r x) ?_
  show Dn p e below s _ _ _ (s₁.setTop (mkF m 0 #[.val (.ref a), .val (.long i), .second, .val (.long r), .second, .val (.double x), .second] []))
  refine Dn.of (fun tt_ zz_ => XS.lloadN X0.here hx rfl (hb hby d4_0) rfl zz_) ?_
  show Dn p e below s _ _ _ (s₁.setTop (mkF m 1 #[.val (.ref a), .val (.long i), .second, .val (.long r), .second, .val (.double x), .second] [(.long i)]))
  refine Dn.of (fun tt_ zz_ => XS.lloadN X0.here hx rfl (hb hby d4_1) rfl zz_) ?_
  show Dn p e below s _ _ _ (s₁.setTop (mkF m 2 #[.val (.ref a), .val (.long i), .second, .val (.long r), .second, .val (.double x), .second] [(.long r), (.long i)]))
  refine Dn.of (fun tt_ zz_ => XS.lcmp X0.here hx rfl (hb hby d4_2) rfl zz_) ?_
  show Dn p e below s _ _ _ (s₁.setTop (mkF m 3 #[.val (.ref a), .val (.long i), .second, .val (.long r), .second, .val (.double x), .second] [(.int (lcmpW i r))]))
  refine Dn.of (fun tt_ zz_ => XS.ifNo X0.here hx rfl (hb hby d4_3) rfl ((if0 _ _).trans (tlt ((lw_gt _ _).mpr hi)).2.2.2) zz_) ?_
  show Dn p e below s _ _ _ (s₁.setTop (mkF m 6 #[.val (.ref a), .val (.long i), .second, .val (.long r), .second, .val (.double x), .second] []))
  refine Dn.of (fun tt_ zz_ => XS.iconst X0.here hx rfl (hb hby d4_6) zz_) ?_
  show Dn p e below s _ _ _ (s₁.setTop (mkF m 7 #[.val (.ref a), .val (.long i), .second, .val (.long r), .second, .val (.double x), .second] [(.int (1 : Int32))]))
  exact Dn.retN X0 hx hlk (t := .boolean) hret (by simp) (hb hby d4_7) (by decide) (by decide) (⟨rfl, N0, e0⟩)
set_option maxRecDepth 65536 in
set_option maxHeartbeats 40000000 in
theorem rmS1 (l : Launch) (Z : State) (a0 : Array Value) (hw : ∀ d ∈ tables_1, d.before a0 Z = true) (h0 : Heap) (n0 : Nat) (Z0 : n0 ≤ h0.size) (a : Addr) (c r : Int64) (mu sq : UInt64) (E0 : Exa Z h0 a "com/example/wyrd/wyrd/service/ExpectationEstimator") (F0 : Fld Z h0 a "com/example/wyrd/wyrd/service/ExpectationEstimator" "runs" "J" (.long r)) (F2 : Fld Z h0 a "com/example/wyrd/wyrd/service/ExpectationEstimator" "recorded" "J" (.long c)) (F3 : Fld Z h0 a "com/example/wyrd/wyrd/service/ExpectationEstimator" "mean" "D" (.double mu)) (F4 : Fld Z h0 a "com/example/wyrd/wyrd/service/ExpectationEstimator" "squares" "D" (.double sq)) (x : UInt64) (K M : Nat) (m1 : Mag64 K x) (m2 : Mag64 K mu) (m3 : Mag64 M sq) (hK : K ≤ 1100) (hM1 : 1187 ≤ M) (hM2 : M ≤ 1300) (g0 : n0 ≤ a) (nc : ¬ c = r) (nz : ¬ c + 1 = 0) (i : Int64) (ei : c + 1 = i) (hi : ¬ r < i) :
    ctr l Z (⟨"com/example/wyrd/wyrd/service/ExpectationEstimatorIsDonePinLaw", "step", "(Lcom/example/wyrd/wyrd/service/ExpectationEstimator;JJD)Z"⟩ : MethodName) method_3_code 7 (some .boolean) [] ({ frames := 2, cells := 0, slots := 0, locals := 40 } : Room) 0 0 #[(.ref a), (.long i), (.long r), (.double x)] h0 (fun v h L => v = some (.int 1) ∧ Fr n0 L ∧ Keep h0 h [a] ∧ Fld Z h a "com/example/wyrd/wyrd/service/ExpectationEstimator" "runs" "J" (.long r) ∧ Fld Z h a "com/example/wyrd/wyrd/service/ExpectationEstimator" "recorded" "J" (.long (c + 1)) ∧ ∃ mu' sq', Fld Z h a "com/example/wyrd/wyrd/service/ExpectationEstimator" "mean" "D" (.double mu') ∧ Fld Z h a "com/example/wyrd/wyrd/service/ExpectationEstimator" "squares" "D" (.double sq') ∧ Mag64 (K + 5) mu' ∧ Mag64 (M + 2) sq') := by
  refine ctr_of (plainFor_of_name pn1) ?_
  intro p e s m below meth jc s₁ hx hby hml hret hlk hnm hown hZ e0 X0
  have N0 := Fr.nil n0
  refine Dn.cast (ef4_AJJD m a i r x) ?_
  show Dn p e below s _ _ _ (s₁.setTop (mkF m 0 #[.val (.ref a), .val (.long i), .second, .val (.long r), .second, .val (.double x), .second] []))
  refine Dn.of (fun tt_ zz_ => XS.lloadN X0.here hx rfl (hb hby d4_0) rfl zz_) ?_
  show Dn p e below s _ _ _ (s₁.setTop (mkF m 1 #[.val (.ref a), .val (.long i), .second, .val (.long r), .second, .val (.double x), .second] [(.long i)]))
  refine Dn.of (fun tt_ zz_ => XS.lloadN X0.here hx rfl (hb hby d4_1) rfl zz_) ?_
  show Dn p e below s _ _ _ (s₁.setTop (mkF m 2 #[.val (.ref a), .val (.long i), .second, .val (.long r), .second, .val (.double x), .second] [(.long r), (.long i)]))
  refine Dn.of (fun tt_ zz_ => XS.lcmp X0.here hx rfl (hb hby d4_2) rfl zz_) ?_
  show Dn p e below s _ _ _ (s₁.setTop (mkF m 3 #[.val (.ref a), .val (.long i), .second, .val (.long r), .second, .val (.double x), .second] [(.int (lcmpW i r))]))
  refine Dn.of (fun tt_ zz_ => XS.ifYes X0.here hx rfl (pc0 := 3) (pc' := 8) rfl (hb hby d4_3) rfl ((if0 _ _).trans (flt (fun z => hi ((lw_gt _ _).mp z))).2.2.2) (by decide) (by decide) zz_) ?_
  show Dn p e below s _ _ _ (s₁.setTop (mkF m 8 #[.val (.ref a), .val (.long i), .second, .val (.long r), .second, .val (.double x), .second] []))
  refine Dn.of (fun tt_ zz_ => XS.aloadN X0.here hx rfl (hb hby d4_8) rfl rfl zz_) ?_
  show Dn p e below s _ _ _ (s₁.setTop (mkF m 9 #[.val (.ref a), .val (.long i), .second, .val (.long r), .second, .val (.double x), .second] [(.ref a)]))
  refine Dn.of (fun tt_ zz_ => XS.dload X0.here hx rfl (hb hby d4_9) rfl zz_) ?_
  show Dn p e below s _ _ _ (s₁.setTop (mkF m 11 #[.val (.ref a), .val (.long i), .second, .val (.long r), .second, .val (.double x), .second] [(.double x), (.ref a)]))
  obtain ⟨v16, T16, L16, Q16, X16, st16⟩ := cVi X0 hx hZ (C := "com/example/wyrd/wyrd/service/ExpectationEstimator") (y := (⟨"com/example/wyrd/wyrd/service/ExpectationEstimator", "add", "(D)V"⟩ : MethodName)) (z := (⟨"com/example/wyrd/wyrd/service/ExpectationEstimator", "add", "(D)V"⟩ : MethodName)) hown (hw _ (List.mem_of_getElem? (i := 29) rfl)) (hw _ (List.mem_of_getElem? (i := 30) rfl)) (notFace_of_selects (args := #[]) (mvT hZ (hw _ (List.mem_of_getElem? (i := 32) rfl)))) (hw _ (List.mem_of_getElem? (i := 32) rfl)) (hw _ (List.mem_of_getElem? (i := 31) rfl)) (hw _ (List.mem_of_getElem? (i := 6) rfl)) (hw _ (List.mem_of_getElem? (i := 33) rfl)) (by decide) (a := a) (argsL := [(.double x)]) (rest := []) (rmA l Z a0 hw h0 n0 Z0 a c r mu sq E0 F0 F2 F3 F4 x K M m1 m2 m3 hK hM1 hM2 g0 nc nz) e0 E0 0 (by decide) (by decide) (by decide) (by decide) (g := (mkF m 11 #[.val (.ref a), .val (.long i), .second, .val (.long r), .second, .val (.double x), .second] [(.double x), (.ref a)])) rfl (by rw [hml]; rfl) (lenOf pd1 rfl) rfl (by show 2 * 0 + _ ≤ _; exact Nat.le_of_eq rfl) (hb hby d4_11)
  obtain ⟨rfl, M1, K1, G0, G2, mu', sq', G3, G4, m4, m5⟩ := Q16
  refine Dn.of st16 ?_
  show Dn p e below s _ _ _ (T16.setTop (mkF m 14 #[.val (.ref a), .val (.long i), .second, .val (.long r), .second, .val (.double x), .second] []))
  refine Dn.of (fun tt_ zz_ => XS.aloadN X16.here hx rfl (hb hby d4_14) rfl rfl zz_) ?_
  show Dn p e below s _ _ _ (T16.setTop (mkF m 15 #[.val (.ref a), .val (.long i), .second, .val (.long r), .second, .val (.double x), .second] [(.ref a)]))
  obtain ⟨v17, T17, L17, Q17, X17, st17⟩ := cVi X16 hx hZ (C := "com/example/wyrd/wyrd/service/ExpectationEstimator") (y := (⟨"com/example/wyrd/wyrd/service/ExpectationEstimator", "isDone", "()Z"⟩ : MethodName)) (z := (⟨"com/example/wyrd/wyrd/service/ExpectationEstimator", "isDone", "()Z"⟩ : MethodName)) hown (hw _ (List.mem_of_getElem? (i := 18) rfl)) (hw _ (List.mem_of_getElem? (i := 19) rfl)) (notFace_of_selects (args := #[]) (mvT hZ (hw _ (List.mem_of_getElem? (i := 21) rfl)))) (hw _ (List.mem_of_getElem? (i := 21) rfl)) (hw _ (List.mem_of_getElem? (i := 20) rfl)) (hw _ (List.mem_of_getElem? (i := 6) rfl)) (hw _ (List.mem_of_getElem? (i := 22) rfl)) (by decide) (a := a) (argsL := []) (rest := []) (rmD l Z a0 hw T16.heap n0 (Nat.le_trans Z0 K1.1) a (c + 1) r G0 G2) rfl (E0.keep K1) 0 (by decide) (by decide) (by decide) (by decide) (g := (mkF m 15 #[.val (.ref a), .val (.long i), .second, .val (.long r), .second, .val (.double x), .second] [(.ref a)])) rfl (by rw [hml]; rfl) (lenOf pd0 rfl) rfl (by show 2 * 0 + _ ≤ _; exact Nat.le_of_eq rfl) (hb hby d4_15)
  obtain ⟨rfl, M2, e17⟩ := Q17
  refine Dn.of st17 ?_
  show Dn p e below s _ _ _ (T17.setTop (mkF m 18 #[.val (.ref a), .val (.long i), .second, .val (.long r), .second, .val (.double x), .second] [(.int (own_done (c + 1) r))]))
  refine Dn.of (fun tt_ zz_ => XS.lloadN X17.here hx rfl (hb hby d4_18) rfl zz_) ?_
  show Dn p e below s _ _ _ (T17.setTop (mkF m 19 #[.val (.ref a), .val (.long i), .second, .val (.long r), .second, .val (.double x), .second] [(.long i), (.int (own_done (c + 1) r))]))
  refine Dn.of (fun tt_ zz_ => XS.lloadN X17.here hx rfl (hb hby d4_19) rfl zz_) ?_
  show Dn p e below s _ _ _ (T17.setTop (mkF m 20 #[.val (.ref a), .val (.long i), .second, .val (.long r), .second, .val (.double x), .second] [(.long r), (.long i), (.int (own_done (c + 1) r))]))
  refine Dn.of (fun tt_ zz_ => XS.lcmp X17.here hx rfl (hb hby d4_20) rfl zz_) ?_
  show Dn p e below s _ _ _ (T17.setTop (mkF m 21 #[.val (.ref a), .val (.long i), .second, .val (.long r), .second, .val (.double x), .second] [(.int (lcmpW i r)), (.int (own_done (c + 1) r))]))
  by_cases h1 : (lcmpW i r) = (0 : Int32)
  · skip
    refine Dn.of (fun tt_ zz_ => XS.ifNo X17.here hx rfl (hb hby d4_21) rfl ((if0 _ _).trans (teq h1).2) zz_) ?_
    show Dn p e below s _ _ _ (T17.setTop (mkF m 24 #[.val (.ref a), .val (.long i), .second, .val (.long r), .second, .val (.double x), .second] [(.int (own_done (c + 1) r))]))
    refine Dn.of (fun tt_ zz_ => XS.iconst X17.here hx rfl (hb hby d4_24) zz_) ?_
    show Dn p e below s _ _ _ (T17.setTop (mkF m 25 #[.val (.ref a), .val (.long i), .second, .val (.long r), .second, .val (.double x), .second] [(.int (1 : Int32)), (.int (own_done (c + 1) r))]))
    refine Dn.of (fun tt_ zz_ => XS.goto X17.here hx rfl (pc0 := 25) (pc' := 29) rfl (hb hby d4_25) (by decide) (by decide) zz_) ?_
    show Dn p e below s _ _ _ (T17.setTop (mkF m 29 #[.val (.ref a), .val (.long i), .second, .val (.long r), .second, .val (.double x), .second] [(.int (1 : Int32)), (.int (own_done (c + 1) r))]))
    refine Dn.of (fun tt_ zz_ => XS.icmpNo X17.here hx rfl (hb hby d4_29) rfl (teq (if_pos (ei.trans ((lw_eq _ _).mp h1)))).2 zz_) ?_
    show Dn p e below s _ _ _ (T17.setTop (mkF m 32 #[.val (.ref a), .val (.long i), .second, .val (.long r), .second, .val (.double x), .second] []))
    refine Dn.of (fun tt_ zz_ => XS.iconst X17.here hx rfl (hb hby d4_32) zz_) ?_
    show Dn p e below s _ _ _ (T17.setTop (mkF m 33 #[.val (.ref a), .val (.long i), .second, .val (.long r), .second, .val (.double x), .second] [(.int (1 : Int32))]))
    refine Dn.of (fun tt_ zz_ => XS.goto X17.here hx rfl (pc0 := 33) (pc' := 37) rfl (hb hby d4_33) (by decide) (by decide) zz_) ?_
    show Dn p e below s _ _ _ (T17.setTop (mkF m 37 #[.val (.ref a), .val (.long i), .second, .val (.long r), .second, .val (.double x), .second] [(.int (1 : Int32))]))
    exact Dn.retN X17 hx hlk (t := .boolean) hret (by simp) (hb hby d4_37) (by decide) (by decide) (by rw [e17]; exact ⟨rfl, Fr.app (Fr.app N0 M1) M2, K1, G0, G2, mu', sq', G3, G4, m4, m5⟩)
  · skip
    refine Dn.of (fun tt_ zz_ => XS.ifYes X17.here hx rfl (pc0 := 21) (pc' := 28) rfl (hb hby d4_21) rfl ((if0 _ _).trans (feq h1).2) (by decide) (by decide) zz_) ?_
    show Dn p e below s _ _ _ (T17.setTop (mkF m 28 #[.val (.ref a), .val (.long i), .second, .val (.long r), .second, .val (.double x), .second] [(.int (own_done (c + 1) r))]))
    refine Dn.of (fun tt_ zz_ => XS.iconst X17.here hx rfl (hb hby d4_28) zz_) ?_
    show Dn p e below s _ _ _ (T17.setTop (mkF m 29 #[.val (.ref a), .val (.long i), .second, .val (.long r), .second, .val (.double x), .second] [(.int (0 : Int32)), (.int (own_done (c + 1) r))]))
    refine Dn.of (fun tt_ zz_ => XS.icmpNo X17.here hx rfl (hb hby d4_29) rfl (teq (if_neg (fun z => h1 ((lw_eq _ _).mpr (ei.symm.trans z))))).2 zz_) ?_
    show Dn p e below s _ _ _ (T17.setTop (mkF m 32 #[.val (.ref a), .val (.long i), .second, .val (.long r), .second, .val (.double x), .second] []))
    refine Dn.of (fun tt_ zz_ => XS.iconst X17.here hx rfl (hb hby d4_32) zz_) ?_
    show Dn p e below s _ _ _ (T17.setTop (mkF m 33 #[.val (.ref a), .val (.long i), .second, .val (.long r), .second, .val (.double x), .second] [(.int (1 : Int32))]))
    refine Dn.of (fun tt_ zz_ => XS.goto X17.here hx rfl (pc0 := 33) (pc' := 37) rfl (hb hby d4_33) (by decide) (by decide) zz_) ?_
    show Dn p e below s _ _ _ (T17.setTop (mkF m 37 #[.val (.ref a), .val (.long i), .second, .val (.long r), .second, .val (.double x), .second] [(.int (1 : Int32))]))
    exact Dn.retN X17 hx hlk (t := .boolean) hret (by simp) (hb hby d4_37) (by decide) (by decide) (by rw [e17]; exact ⟨rfl, Fr.app (Fr.app N0 M1) M2, K1, G0, G2, mu', sq', G3, G4, m4, m5⟩)
def own_Q (n0 : Nat) (v : Option Value) (h : Heap) (L : List Loc) : Prop := v = some (.int 1) ∧ Fr n0 L
theorem ef0_JIII (m : MethodId) (x0 : Int64) (x1 : Int32) (x2 : Int32) (x3 : Int32) : entryFrame m #[(.long x0), (.int x1), (.int x2), (.int x3)] maxLocals = mkF m 0 #[.val (.long x0), .second, .val (.int x1), .val (.int x2), .val (.int x3), .unset, .unset, .unset, .unset, .unset, .unset] [] := by first | (simp [entryFrame, mkF, argsToLocals, Value.category, maxLocals]; done) | rfl
set_option maxRecDepth 65536 in
set_option maxHeartbeats 40000000 in
theorem rm0 (l : Launch) (Z : State) (a0 : Array Value) (hw : ∀ d ∈ tables_1, d.before a0 Z = true) (ws : List Jvm.Cond) (h0 : Heap) (n0 : Nat) (Z0 : n0 ≤ h0.size) (i0 : Int64) (i1 i2 i3 : Int32) :
    ctr l Z x code maxLocals ret ws room_1 16 128 #[(.long i0), (.int i1), (.int i2), (.int i3)] h0 (own_Q n0) := by
  refine ctr_of (plainFor_of_name pn1) ?_
  intro p e s m below meth jc s₁ hx hby hml hret hlk hnm hown hZ e0 X0
  have N0 := Fr.nil n0
  refine Dn.cast (ef0_JIII m i0 i1 i2 i3) ?_
  show Dn p e below s _ _ _ (s₁.setTop (mkF m 0 #[.val (.long i0), .second, .val (.int i1), .val (.int i2), .val (.int i3), .unset, .unset, .unset, .unset, .unset, .unset] []))
  refine Dn.of (fun tt_ zz_ => XS.iloadN X0.here hx rfl (hb hby at_0) rfl zz_) ?_
  show Dn p e below s (own_Q n0) 16 128 (s₁.setTop (mkF m 1 #[.val (.long i0), .second, .val (.int i1), .val (.int i2), .val (.int i3), .unset, .unset, .unset, .unset, .unset, .unset] [(.int i1)]))
  refine Dn.of (fun tt_ zz_ => XS.iconst X0.here hx rfl (hb hby at_1) zz_) ?_
  show Dn p e below s (own_Q n0) 16 128 (s₁.setTop (mkF m 2 #[.val (.long i0), .second, .val (.int i1), .val (.int i2), .val (.int i3), .unset, .unset, .unset, .unset, .unset, .unset] [(.int (1 : Int32)), (.int i1)]))
  refine Dn.of (fun tt_ zz_ => XS.iand X0.here hx rfl (hb hby at_2) rfl zz_) ?_
  show Dn p e below s (own_Q n0) 16 128 (s₁.setTop (mkF m 3 #[.val (.long i0), .second, .val (.int i1), .val (.int i2), .val (.int i3), .unset, .unset, .unset, .unset, .unset, .unset] [(.int (i1 &&& (1 : Int32)))]))
  by_cases hf : (i1 &&& (1 : Int32)) = (0 : Int32)
  · skip
    refine Dn.of (fun tt_ zz_ => XS.ifNo X0.here hx rfl (hb hby at_3) rfl ((if0 _ _).trans (teq hf).2) zz_) ?_
    show Dn p e below s (own_Q n0) 16 128 (s₁.setTop (mkF m 6 #[.val (.long i0), .second, .val (.int i1), .val (.int i2), .val (.int i3), .unset, .unset, .unset, .unset, .unset, .unset] []))
    refine Dn.of (fun tt_ zz_ => X0.ldc2J hx hown (mvT hZ (hw _ (List.mem_of_getElem? (i := 0) rfl))) rfl (hb hby at_6) zz_) ?_
    show Dn p e below s (own_Q n0) 16 128 (s₁.setTop (mkF m 9 #[.val (.long i0), .second, .val (.int i1), .val (.int i2), .val (.int i3), .unset, .unset, .unset, .unset, .unset, .unset] [(.long (2 : Int64))]))
    refine Dn.of (fun tt_ zz_ => XS.lloadN X0.here hx rfl (hb hby at_9) rfl zz_) ?_
    show Dn p e below s (own_Q n0) 16 128 (s₁.setTop (mkF m 10 #[.val (.long i0), .second, .val (.int i1), .val (.int i2), .val (.int i3), .unset, .unset, .unset, .unset, .unset, .unset] [(.long i0), (.long (2 : Int64))]))
    refine Dn.of (fun tt_ zz_ => X0.ldc2J hx hown (mvT hZ (hw _ (List.mem_of_getElem? (i := 1) rfl))) rfl (hb hby at_10) zz_) ?_
    show Dn p e below s (own_Q n0) 16 128 (s₁.setTop (mkF m 13 #[.val (.long i0), .second, .val (.int i1), .val (.int i2), .val (.int i3), .unset, .unset, .unset, .unset, .unset, .unset] [(.long (2147483647 : Int64)), (.long i0), (.long (2 : Int64))]))
    refine Dn.of (fun tt_ zz_ => XS.land X0.here hx rfl (hb hby at_13) rfl zz_) ?_
    show Dn p e below s (own_Q n0) 16 128 (s₁.setTop (mkF m 14 #[.val (.long i0), .second, .val (.int i1), .val (.int i2), .val (.int i3), .unset, .unset, .unset, .unset, .unset, .unset] [(.long (i0 &&& (2147483647 : Int64))), (.long (2 : Int64))]))
    refine Dn.of (fun tt_ zz_ => X0.ldc2J hx hown (mvT hZ (hw _ (List.mem_of_getElem? (i := 2) rfl))) rfl (hb hby at_14) zz_) ?_
    show Dn p e below s (own_Q n0) 16 128 (s₁.setTop (mkF m 17 #[.val (.long i0), .second, .val (.int i1), .val (.int i2), .val (.int i3), .unset, .unset, .unset, .unset, .unset, .unset] [(.long (3 : Int64)), (.long (i0 &&& (2147483647 : Int64))), (.long (2 : Int64))]))
    refine Dn.of (fun tt_ zz_ => XS.lrem X0.here hx rfl (hb hby at_17) rfl (by decide) zz_) ?_
    show Dn p e below s (own_Q n0) 16 128 (s₁.setTop (mkF m 18 #[.val (.long i0), .second, .val (.int i1), .val (.int i2), .val (.int i3), .unset, .unset, .unset, .unset, .unset, .unset] [(.long ((i0 &&& (2147483647 : Int64)) - ((i0 &&& (2147483647 : Int64)) / (3 : Int64)) * (3 : Int64))), (.long (2 : Int64))]))
    refine Dn.of (fun tt_ zz_ => XS.ladd X0.here hx rfl (hb hby at_18) rfl zz_) ?_
    show Dn p e below s (own_Q n0) 16 128 (s₁.setTop (mkF m 19 #[.val (.long i0), .second, .val (.int i1), .val (.int i2), .val (.int i3), .unset, .unset, .unset, .unset, .unset, .unset] [(.long ((2 : Int64) + ((i0 &&& (2147483647 : Int64)) - ((i0 &&& (2147483647 : Int64)) / (3 : Int64)) * (3 : Int64))))]))
    refine Dn.of (fun tt_ zz_ => XS.lstore X0.here hx rfl (hb hby at_19) rfl (l' := #[.val (.long i0), .second, .val (.int i1), .val (.int i2), .val (.int i3), .val (.long ((2 : Int64) + ((i0 &&& (2147483647 : Int64)) - ((i0 &&& (2147483647 : Int64)) / (3 : Int64)) * (3 : Int64)))), .second, .unset, .unset, .unset, .unset]) rfl zz_) ?_
    show Dn p e below s (own_Q n0) 16 128 (s₁.setTop (mkF m 21 #[.val (.long i0), .second, .val (.int i1), .val (.int i2), .val (.int i3), .val (.long ((2 : Int64) + ((i0 &&& (2147483647 : Int64)) - ((i0 &&& (2147483647 : Int64)) / (3 : Int64)) * (3 : Int64)))), .second, .unset, .unset, .unset, .unset] []))
    refine Dn.of (fun tt_ zz_ => XS.goto X0.here hx rfl (pc0 := 21) (pc' := 33) rfl (hb hby at_21) (by decide) (by decide) zz_) ?_
    show Dn p e below s (own_Q n0) 16 128 (s₁.setTop (mkF m 33 #[.val (.long i0), .second, .val (.int i1), .val (.int i2), .val (.int i3), .val (.long ((2 : Int64) + ((i0 &&& (2147483647 : Int64)) - ((i0 &&& (2147483647 : Int64)) / (3 : Int64)) * (3 : Int64)))), .second, .unset, .unset, .unset, .unset] []))
    have c1 := own_r0 i0
    generalize ((2 : Int64) + ((i0 &&& (2147483647 : Int64)) - ((i0 &&& (2147483647 : Int64)) / (3 : Int64)) * (3 : Int64))) = r at *
    show Dn p e below s (own_Q n0) 16 128 (s₁.setTop (mkF m 33 #[.val (.long i0), .second, .val (.int i1), .val (.int i2), .val (.int i3), .val (.long r), .second, .unset, .unset, .unset, .unset] []))
    refine Dn.of (fun tt_ zz_ => XS.iconst X0.here hx rfl (hb hby at_33) zz_) ?_
    show Dn p e below s (own_Q n0) 16 128 (s₁.setTop (mkF m 34 #[.val (.long i0), .second, .val (.int i1), .val (.int i2), .val (.int i3), .val (.long r), .second, .unset, .unset, .unset, .unset] [(.int (1 : Int32))]))
    refine Dn.of (fun tt_ zz_ => XS.iloadN X0.here hx rfl (hb hby at_34) rfl zz_) ?_
    show Dn p e below s (own_Q n0) 16 128 (s₁.setTop (mkF m 35 #[.val (.long i0), .second, .val (.int i1), .val (.int i2), .val (.int i3), .val (.long r), .second, .unset, .unset, .unset, .unset] [(.int i2), (.int (1 : Int32))]))
    refine Dn.of (fun tt_ zz_ => XS.bipush X0.here hx rfl (hb hby at_35) zz_) ?_
    show Dn p e below s (own_Q n0) 16 128 (s₁.setTop (mkF m 37 #[.val (.long i0), .second, .val (.int i1), .val (.int i2), .val (.int i3), .val (.long r), .second, .unset, .unset, .unset, .unset] [(.int (7 : Int32)), (.int i2), (.int (1 : Int32))]))
    refine Dn.of (fun tt_ zz_ => XS.iand X0.here hx rfl (hb hby at_37) rfl zz_) ?_
    show Dn p e below s (own_Q n0) 16 128 (s₁.setTop (mkF m 38 #[.val (.long i0), .second, .val (.int i1), .val (.int i2), .val (.int i3), .val (.long r), .second, .unset, .unset, .unset, .unset] [(.int (i2 &&& (7 : Int32))), (.int (1 : Int32))]))
    refine Dn.of (fun tt_ zz_ => XS.iadd X0.here hx rfl (hb hby at_38) rfl zz_) ?_
    show Dn p e below s (own_Q n0) 16 128 (s₁.setTop (mkF m 39 #[.val (.long i0), .second, .val (.int i1), .val (.int i2), .val (.int i3), .val (.long r), .second, .unset, .unset, .unset, .unset] [(.int ((1 : Int32) + (i2 &&& (7 : Int32))))]))
    refine Dn.of (fun tt_ zz_ => XS.i2dS X0.here hx rfl (v := FP.i2d ((1 : Int32) + (i2 &&& (7 : Int32)))) (hb hby at_39) rfl rfl zz_) ?_
    show Dn p e below s (own_Q n0) 16 128 (s₁.setTop (mkF m 40 #[.val (.long i0), .second, .val (.int i1), .val (.int i2), .val (.int i3), .val (.long r), .second, .unset, .unset, .unset, .unset] [(.double (FP.i2d ((1 : Int32) + (i2 &&& (7 : Int32)))))]))
    refine Dn.of (X0.ldc2DoubleC hx hown (mvT hZ (hw _ (List.mem_of_getElem? (i := 3) rfl))) (g := (mkF m 40 #[.val (.long i0), .second, .val (.int i1), .val (.int i2), .val (.int i3), .val (.long r), .second, .unset, .unset, .unset, .unset] [(.double (FP.i2d ((1 : Int32) + (i2 &&& (7 : Int32)))))])) rfl (hb hby at_40)) ?_
    show Dn p e below s (own_Q n0) 16 128 (s₁.setTop (mkF m 43 #[.val (.long i0), .second, .val (.int i1), .val (.int i2), .val (.int i3), .val (.long r), .second, .unset, .unset, .unset, .unset] [(.double (4621819117588971520 : UInt64)), (.double (FP.i2d ((1 : Int32) + (i2 &&& (7 : Int32)))))]))
    refine Dn.of (fun tt_ zz_ => XS.ddivS X0.here hx rfl (v := (FP.ddiv (FP.i2d ((1 : Int32) + (i2 &&& (7 : Int32)))) (4621819117588971520 : UInt64))) (hb hby at_43) rfl (own_al_n i2) rfl zz_) ?_
    show Dn p e below s (own_Q n0) 16 128 (s₁.setTop (mkF m 44 #[.val (.long i0), .second, .val (.int i1), .val (.int i2), .val (.int i3), .val (.long r), .second, .unset, .unset, .unset, .unset] [(.double (FP.ddiv (FP.i2d ((1 : Int32) + (i2 &&& (7 : Int32)))) (4621819117588971520 : UInt64)))]))
    show Dn p e below s (own_Q n0) 16 128 (s₁.setTop (mkF m 44 #[.val (.long i0), .second, .val (.int i1), .val (.int i2), .val (.int i3), .val (.long r), .second, .unset, .unset, .unset, .unset] [(.double (own_al i2))]))
    refine Dn.of (fun tt_ zz_ => XS.dstore X0.here hx rfl (hb hby at_44) rfl (l' := #[.val (.long i0), .second, .val (.int i1), .val (.int i2), .val (.int i3), .val (.long r), .second, .val (.double (own_al i2)), .second, .unset, .unset]) rfl zz_) ?_
    show Dn p e below s (own_Q n0) 16 128 (s₁.setTop (mkF m 46 #[.val (.long i0), .second, .val (.int i1), .val (.int i2), .val (.int i3), .val (.long r), .second, .val (.double (own_al i2)), .second, .unset, .unset] []))
    obtain ⟨T18, h18, X18, e18, E18, A18, D18, U18, st18⟩ := newO X0 hx hZ hown (hw _ (List.mem_of_getElem? (i := 4) rfl)) (hw _ (List.mem_of_getElem? (i := 5) rfl)) (hw _ (List.mem_of_getElem? (i := 6) rfl)) e0 (g := (mkF m 46 #[.val (.long i0), .second, .val (.int i1), .val (.int i2), .val (.int i3), .val (.long r), .second, .val (.double (own_al i2)), .second, .unset, .unset] [])) rfl (hb hby at_46) (by decide) (by decide)
    obtain ⟨b18, g18⟩ : ∃ z, z = h0.size := ⟨_, rfl⟩
    rw [← g18] at A18 D18 U18 st18
    refine Dn.of st18 ?_
    show Dn p e below s (own_Q n0) 16 128 (T18.setTop (mkF m 49 #[.val (.long i0), .second, .val (.int i1), .val (.int i2), .val (.int i3), .val (.long r), .second, .val (.double (own_al i2)), .second, .unset, .unset] [(.ref b18)]))
    have F_runs_18 : Fld Z h18 b18 "com/example/wyrd/wyrd/service/ExpectationEstimator" "runs" "J" (.long (0 : Int64)) := D18 (Or.inr (hw _ (List.mem_of_getElem? (i := 15) rfl))) (ty := .long) (by decide)
    have F_alpha_18 : Fld Z h18 b18 "com/example/wyrd/wyrd/service/ExpectationEstimator" "alpha" "D" (.double (0 : UInt64)) := D18 (Or.inr (hw _ (List.mem_of_getElem? (i := 17) rfl))) (ty := .double) (by decide)
    have F_recorded_18 : Fld Z h18 b18 "com/example/wyrd/wyrd/service/ExpectationEstimator" "recorded" "J" (.long (0 : Int64)) := D18 (Or.inl (hw _ (List.mem_of_getElem? (i := 24) rfl))) (ty := .long) (by decide)
    have F_mean_18 : Fld Z h18 b18 "com/example/wyrd/wyrd/service/ExpectationEstimator" "mean" "D" (.double (0 : UInt64)) := D18 (Or.inl (hw _ (List.mem_of_getElem? (i := 36) rfl))) (ty := .double) (by decide)
    have F_squares_18 : Fld Z h18 b18 "com/example/wyrd/wyrd/service/ExpectationEstimator" "squares" "D" (.double (0 : UInt64)) := D18 (Or.inl (hw _ (List.mem_of_getElem? (i := 38) rfl))) (ty := .double) (by decide)
    have Z1 : n0 ≤ h18.size := Nat.le_trans Z0 E18.1
    have gb : n0 ≤ b18 := g18 ▸ Z0
    refine Dn.of (fun tt_ zz_ => XS.dup X18.here hx rfl (hb hby at_49) rfl rfl zz_) ?_
    show Dn p e below s (own_Q n0) 16 128 (T18.setTop (mkF m 50 #[.val (.long i0), .second, .val (.int i1), .val (.int i2), .val (.int i3), .val (.long r), .second, .val (.double (own_al i2)), .second, .unset, .unset] [(.ref b18), (.ref b18)]))
    refine Dn.of (fun tt_ zz_ => XS.lload X18.here hx rfl (hb hby at_50) rfl zz_) ?_
    show Dn p e below s (own_Q n0) 16 128 (T18.setTop (mkF m 52 #[.val (.long i0), .second, .val (.int i1), .val (.int i2), .val (.int i3), .val (.long r), .second, .val (.double (own_al i2)), .second, .unset, .unset] [(.long r), (.ref b18), (.ref b18)]))
    refine Dn.of (fun tt_ zz_ => XS.dload X18.here hx rfl (hb hby at_52) rfl zz_) ?_
    show Dn p e below s (own_Q n0) 16 128 (T18.setTop (mkF m 54 #[.val (.long i0), .second, .val (.int i1), .val (.int i2), .val (.int i3), .val (.long r), .second, .val (.double (own_al i2)), .second, .unset, .unset] [(.double (own_al i2)), (.long r), (.ref b18), (.ref b18)]))
    obtain ⟨v19, T19, L19, Q19, X19, st19⟩ := cIn X18 hx hZ (y := (⟨"com/example/wyrd/wyrd/service/ExpectationEstimator", "<init>", "(JD)V"⟩ : MethodName)) rfl hown (hw _ (List.mem_of_getElem? (i := 7) rfl)) (hw _ (List.mem_of_getElem? (i := 8) rfl)) (hw _ (List.mem_of_getElem? (i := 6) rfl)) (hw _ (List.mem_of_getElem? (i := 9) rfl)) (by decide) (a := b18) (argsL := [(.long r), (.double (own_al i2))]) (rest := [(.ref b18)]) (rmI l Z a0 hw h18 n0 Z1 b18 r (own_al i2) A18 F_runs_18 F_alpha_18 F_recorded_18 F_mean_18 F_squares_18 gb c1 (own_al_1 i2) (own_al_2 i2)) e18  1 (by decide) (by decide) (by decide) (by decide) (g := (mkF m 54 #[.val (.long i0), .second, .val (.int i1), .val (.int i2), .val (.int i3), .val (.long r), .second, .val (.double (own_al i2)), .second, .unset, .unset] [(.double (own_al i2)), (.long r), (.ref b18), (.ref b18)])) rfl (by rw [hml]; rfl) (lenOf pd2 rfl) rfl (by show 2 * 0 + _ ≤ _; exact Nat.le_of_eq rfl) (hb hby at_54)
    obtain ⟨rfl, M1, K1, G0, G2, G3, G4⟩ := Q19
    refine Dn.of st19 ?_
    show Dn p e below s (own_Q n0) 16 128 (T19.setTop (mkF m 57 #[.val (.long i0), .second, .val (.int i1), .val (.int i2), .val (.int i3), .val (.long r), .second, .val (.double (own_al i2)), .second, .unset, .unset] [(.ref b18)]))
    have E1 := A18.keep K1
    have Z2 := Nat.le_trans Z1 K1.1
    refine Dn.of (fun tt_ zz_ => XS.astore X19.here hx rfl (hb hby at_57) rfl rfl (l' := #[.val (.long i0), .second, .val (.int i1), .val (.int i2), .val (.int i3), .val (.long r), .second, .val (.double (own_al i2)), .second, .val (.ref b18), .unset]) rfl zz_) ?_
    show Dn p e below s (own_Q n0) 16 128 (T19.setTop (mkF m 59 #[.val (.long i0), .second, .val (.int i1), .val (.int i2), .val (.int i3), .val (.long r), .second, .val (.double (own_al i2)), .second, .val (.ref b18), .unset] []))
    refine Dn.of (fun tt_ zz_ => XS.aload X19.here hx rfl (hb hby at_59) rfl rfl zz_) ?_
    show Dn p e below s (own_Q n0) 16 128 (T19.setTop (mkF m 61 #[.val (.long i0), .second, .val (.int i1), .val (.int i2), .val (.int i3), .val (.long r), .second, .val (.double (own_al i2)), .second, .val (.ref b18), .unset] [(.ref b18)]))
    obtain ⟨v20, T20, L20, Q20, X20, st20⟩ := cVi X19 hx hZ (C := "com/example/wyrd/wyrd/service/ExpectationEstimator") (y := (⟨"com/example/wyrd/wyrd/service/ExpectationEstimator", "isDone", "()Z"⟩ : MethodName)) (z := (⟨"com/example/wyrd/wyrd/service/ExpectationEstimator", "isDone", "()Z"⟩ : MethodName)) hown (hw _ (List.mem_of_getElem? (i := 18) rfl)) (hw _ (List.mem_of_getElem? (i := 19) rfl)) (notFace_of_selects (args := #[]) (mvT hZ (hw _ (List.mem_of_getElem? (i := 21) rfl)))) (hw _ (List.mem_of_getElem? (i := 21) rfl)) (hw _ (List.mem_of_getElem? (i := 20) rfl)) (hw _ (List.mem_of_getElem? (i := 6) rfl)) (hw _ (List.mem_of_getElem? (i := 22) rfl)) (by decide) (a := b18) (argsL := []) (rest := []) (rmD l Z a0 hw T19.heap n0 Z2 b18 0 r G0 G2) rfl E1 0 (by decide) (by decide) (by decide) (by decide) (g := (mkF m 61 #[.val (.long i0), .second, .val (.int i1), .val (.int i2), .val (.int i3), .val (.long r), .second, .val (.double (own_al i2)), .second, .val (.ref b18), .unset] [(.ref b18)])) rfl (by rw [hml]; rfl) (lenOf pd0 rfl) rfl (by show 2 * 0 + _ ≤ _; exact Nat.le_of_eq rfl) (hb hby at_61)
    obtain ⟨rfl, M2, e20⟩ := Q20
    refine Dn.of st20 ?_
    show Dn p e below s (own_Q n0) 16 128 (T20.setTop (mkF m 64 #[.val (.long i0), .second, .val (.int i1), .val (.int i2), .val (.int i3), .val (.long r), .second, .val (.double (own_al i2)), .second, .val (.ref b18), .unset] [(.int (own_done 0 r))]))
    have l1 : ¬ r < 1 := fun z => c1 (Int64.lt_trans z (by decide))
    have n0r : ¬ (0 : Int64) = r := by rintro rfl; exact c1 (by decide)
    have n1r : ¬ (1 : Int64) = r := by rintro rfl; exact c1 (by decide)
    refine Dn.of (fun tt_ zz_ => XS.ifNo X20.here hx rfl (hb hby at_64) rfl ((if0 _ _).trans (teq (if_neg n0r)).2) zz_) ?_
    show Dn p e below s (own_Q n0) 16 128 (T20.setTop (mkF m 67 #[.val (.long i0), .second, .val (.int i1), .val (.int i2), .val (.int i3), .val (.long r), .second, .val (.double (own_al i2)), .second, .val (.ref b18), .unset] []))
    refine Dn.of (fun tt_ zz_ => XS.iconst X20.here hx rfl (hb hby at_67) zz_) ?_
    show Dn p e below s (own_Q n0) 16 128 (T20.setTop (mkF m 68 #[.val (.long i0), .second, .val (.int i1), .val (.int i2), .val (.int i3), .val (.long r), .second, .val (.double (own_al i2)), .second, .val (.ref b18), .unset] [(.int (1 : Int32))]))
    refine Dn.of (fun tt_ zz_ => XS.goto X20.here hx rfl (pc0 := 68) (pc' := 72) rfl (hb hby at_68) (by decide) (by decide) zz_) ?_
    show Dn p e below s (own_Q n0) 16 128 (T20.setTop (mkF m 72 #[.val (.long i0), .second, .val (.int i1), .val (.int i2), .val (.int i3), .val (.long r), .second, .val (.double (own_al i2)), .second, .val (.ref b18), .unset] [(.int (1 : Int32))]))
    refine Dn.of (fun tt_ zz_ => XS.istore X20.here hx rfl (hb hby at_72) rfl (l' := #[.val (.long i0), .second, .val (.int i1), .val (.int i2), .val (.int i3), .val (.long r), .second, .val (.double (own_al i2)), .second, .val (.ref b18), .val (.int (1 : Int32))]) rfl zz_) ?_
    show Dn p e below s (own_Q n0) 16 128 (T20.setTop (mkF m 74 #[.val (.long i0), .second, .val (.int i1), .val (.int i2), .val (.int i3), .val (.long r), .second, .val (.double (own_al i2)), .second, .val (.ref b18), .val (.int (1 : Int32))] []))
    refine Dn.of (fun tt_ zz_ => XS.iload X20.here hx rfl (hb hby at_74) rfl zz_) ?_
    show Dn p e below s (own_Q n0) 16 128 (T20.setTop (mkF m 76 #[.val (.long i0), .second, .val (.int i1), .val (.int i2), .val (.int i3), .val (.long r), .second, .val (.double (own_al i2)), .second, .val (.ref b18), .val (.int (1 : Int32))] [(.int (1 : Int32))]))
    refine Dn.of (fun tt_ zz_ => XS.ifNo X20.here hx rfl (hb hby at_76) rfl ((if0 _ _).trans (feq (by decide)).1) zz_) ?_
    show Dn p e below s (own_Q n0) 16 128 (T20.setTop (mkF m 79 #[.val (.long i0), .second, .val (.int i1), .val (.int i2), .val (.int i3), .val (.long r), .second, .val (.double (own_al i2)), .second, .val (.ref b18), .val (.int (1 : Int32))] []))
    refine Dn.of (fun tt_ zz_ => XS.aload X20.here hx rfl (hb hby at_79) rfl rfl zz_) ?_
    show Dn p e below s (own_Q n0) 16 128 (T20.setTop (mkF m 81 #[.val (.long i0), .second, .val (.int i1), .val (.int i2), .val (.int i3), .val (.long r), .second, .val (.double (own_al i2)), .second, .val (.ref b18), .val (.int (1 : Int32))] [(.ref b18)]))
    refine Dn.of (fun tt_ zz_ => XS.lconst X20.here hx rfl (hb hby at_81) zz_) ?_
    show Dn p e below s (own_Q n0) 16 128 (T20.setTop (mkF m 82 #[.val (.long i0), .second, .val (.int i1), .val (.int i2), .val (.int i3), .val (.long r), .second, .val (.double (own_al i2)), .second, .val (.ref b18), .val (.int (1 : Int32))] [(.long (1 : Int64)), (.ref b18)]))
    refine Dn.of (fun tt_ zz_ => XS.lload X20.here hx rfl (hb hby at_82) rfl zz_) ?_
    show Dn p e below s (own_Q n0) 16 128 (T20.setTop (mkF m 84 #[.val (.long i0), .second, .val (.int i1), .val (.int i2), .val (.int i3), .val (.long r), .second, .val (.double (own_al i2)), .second, .val (.ref b18), .val (.int (1 : Int32))] [(.long r), (.long (1 : Int64)), (.ref b18)]))
    refine Dn.of (fun tt_ zz_ => XS.iload X20.here hx rfl (hb hby at_84) rfl zz_) ?_
    show Dn p e below s (own_Q n0) 16 128 (T20.setTop (mkF m 86 #[.val (.long i0), .second, .val (.int i1), .val (.int i2), .val (.int i3), .val (.long r), .second, .val (.double (own_al i2)), .second, .val (.ref b18), .val (.int (1 : Int32))] [(.int i3), (.long r), (.long (1 : Int64)), (.ref b18)]))
    refine Dn.of (fun tt_ zz_ => XS.i2dS X20.here hx rfl (v := FP.i2d i3) (hb hby at_86) rfl rfl zz_) ?_
    show Dn p e below s (own_Q n0) 16 128 (T20.setTop (mkF m 87 #[.val (.long i0), .second, .val (.int i1), .val (.int i2), .val (.int i3), .val (.long r), .second, .val (.double (own_al i2)), .second, .val (.ref b18), .val (.int (1 : Int32))] [(.double (FP.i2d i3)), (.long r), (.long (1 : Int64)), (.ref b18)]))
    have NN := Fr.app (Fr.app N0 M1) M2
    obtain ⟨v21, T21, L21, Q21, X21, st21⟩ := cSt X20 hx hZ (y := (⟨"com/example/wyrd/wyrd/service/ExpectationEstimatorIsDonePinLaw", "step", "(Lcom/example/wyrd/wyrd/service/ExpectationEstimator;JJD)Z"⟩ : MethodName)) hown (hw _ (List.mem_of_getElem? (i := 25) rfl)) (hw _ (List.mem_of_getElem? (i := 26) rfl)) (hw _ (List.mem_of_getElem? (i := 27) rfl)) (hw _ (List.mem_of_getElem? (i := 28) rfl)) (by decide) (argsL := [(.ref b18), (.long (1 : Int64)), (.long r), (.double (FP.i2d i3))]) (rest := []) (rmS1 l Z a0 hw T19.heap n0 Z2 b18 0 r (0 : UInt64) (0 : UInt64) E1 G0 G2 G3 G4 (FP.i2d i3) 1056 1187 (i2d_mag _) own_mag0 (own_mag0.mono (by decide)) (by decide) (by decide) (by decide) gb n0r (by decide) 1 (by decide) l1) e20  0 (by decide) (by decide) (by decide) (by decide) (g := (mkF m 87 #[.val (.long i0), .second, .val (.int i1), .val (.int i2), .val (.int i3), .val (.long r), .second, .val (.double (own_al i2)), .second, .val (.ref b18), .val (.int (1 : Int32))] [(.double (FP.i2d i3)), (.long r), (.long (1 : Int64)), (.ref b18)])) rfl (by rw [hml]; rfl) (lenOf pd3 rfl) rfl (by show 2 * 0 + _ ≤ _; exact Nat.le_of_eq rfl) (hb hby at_87)
    obtain ⟨rfl, Ms1, Ks1, Ga1, Gb1, mu1, sq1, Gc1, Gd1, ma1, mb1⟩ := Q21
    refine Dn.of st21 ?_
    show Dn p e below s (own_Q n0) 16 128 (T21.setTop (mkF m 90 #[.val (.long i0), .second, .val (.int i1), .val (.int i2), .val (.int i3), .val (.long r), .second, .val (.double (own_al i2)), .second, .val (.ref b18), .val (.int (1 : Int32))] [(.int (1 : Int32))]))
    have Ee1 := E1.keep Ks1
    have Zz1 := Nat.le_trans Z2 Ks1.1
    have Nn1 := Fr.app NN Ms1
    refine Dn.of (fun tt_ zz_ => XS.ifNo X21.here hx rfl (hb hby at_90) rfl ((if0 _ _).trans (feq (by decide)).1) zz_) ?_
    show Dn p e below s (own_Q n0) 16 128 (T21.setTop (mkF m 93 #[.val (.long i0), .second, .val (.int i1), .val (.int i2), .val (.int i3), .val (.long r), .second, .val (.double (own_al i2)), .second, .val (.ref b18), .val (.int (1 : Int32))] []))
    refine Dn.of (fun tt_ zz_ => XS.iconst X21.here hx rfl (hb hby at_93) zz_) ?_
    show Dn p e below s (own_Q n0) 16 128 (T21.setTop (mkF m 94 #[.val (.long i0), .second, .val (.int i1), .val (.int i2), .val (.int i3), .val (.long r), .second, .val (.double (own_al i2)), .second, .val (.ref b18), .val (.int (1 : Int32))] [(.int (1 : Int32))]))
    refine Dn.of (fun tt_ zz_ => XS.goto X21.here hx rfl (pc0 := 94) (pc' := 98) rfl (hb hby at_94) (by decide) (by decide) zz_) ?_
    show Dn p e below s (own_Q n0) 16 128 (T21.setTop (mkF m 98 #[.val (.long i0), .second, .val (.int i1), .val (.int i2), .val (.int i3), .val (.long r), .second, .val (.double (own_al i2)), .second, .val (.ref b18), .val (.int (1 : Int32))] [(.int (1 : Int32))]))
    refine Dn.of (fun tt_ zz_ => XS.istore X21.here hx rfl (hb hby at_98) rfl (l' := #[.val (.long i0), .second, .val (.int i1), .val (.int i2), .val (.int i3), .val (.long r), .second, .val (.double (own_al i2)), .second, .val (.ref b18), .val (.int (1 : Int32))]) rfl zz_) ?_
    show Dn p e below s (own_Q n0) 16 128 (T21.setTop (mkF m 100 #[.val (.long i0), .second, .val (.int i1), .val (.int i2), .val (.int i3), .val (.long r), .second, .val (.double (own_al i2)), .second, .val (.ref b18), .val (.int (1 : Int32))] []))
    refine Dn.of (fun tt_ zz_ => XS.iload X21.here hx rfl (hb hby at_100) rfl zz_) ?_
    show Dn p e below s (own_Q n0) 16 128 (T21.setTop (mkF m 102 #[.val (.long i0), .second, .val (.int i1), .val (.int i2), .val (.int i3), .val (.long r), .second, .val (.double (own_al i2)), .second, .val (.ref b18), .val (.int (1 : Int32))] [(.int (1 : Int32))]))
    refine Dn.of (fun tt_ zz_ => XS.ifNo X21.here hx rfl (hb hby at_102) rfl ((if0 _ _).trans (feq (by decide)).1) zz_) ?_
    show Dn p e below s (own_Q n0) 16 128 (T21.setTop (mkF m 105 #[.val (.long i0), .second, .val (.int i1), .val (.int i2), .val (.int i3), .val (.long r), .second, .val (.double (own_al i2)), .second, .val (.ref b18), .val (.int (1 : Int32))] []))
    refine Dn.of (fun tt_ zz_ => XS.aload X21.here hx rfl (hb hby at_105) rfl rfl zz_) ?_
    show Dn p e below s (own_Q n0) 16 128 (T21.setTop (mkF m 107 #[.val (.long i0), .second, .val (.int i1), .val (.int i2), .val (.int i3), .val (.long r), .second, .val (.double (own_al i2)), .second, .val (.ref b18), .val (.int (1 : Int32))] [(.ref b18)]))
    refine Dn.of (fun tt_ zz_ => X21.ldc2J hx hown (mvT hZ (hw _ (List.mem_of_getElem? (i := 0) rfl))) rfl (hb hby at_107) zz_) ?_
    show Dn p e below s (own_Q n0) 16 128 (T21.setTop (mkF m 110 #[.val (.long i0), .second, .val (.int i1), .val (.int i2), .val (.int i3), .val (.long r), .second, .val (.double (own_al i2)), .second, .val (.ref b18), .val (.int (1 : Int32))] [(.long (2 : Int64)), (.ref b18)]))
    refine Dn.of (fun tt_ zz_ => XS.lload X21.here hx rfl (hb hby at_110) rfl zz_) ?_
    show Dn p e below s (own_Q n0) 16 128 (T21.setTop (mkF m 112 #[.val (.long i0), .second, .val (.int i1), .val (.int i2), .val (.int i3), .val (.long r), .second, .val (.double (own_al i2)), .second, .val (.ref b18), .val (.int (1 : Int32))] [(.long r), (.long (2 : Int64)), (.ref b18)]))
    refine Dn.of (fun tt_ zz_ => XS.iload X21.here hx rfl (hb hby at_112) rfl zz_) ?_
    show Dn p e below s (own_Q n0) 16 128 (T21.setTop (mkF m 114 #[.val (.long i0), .second, .val (.int i1), .val (.int i2), .val (.int i3), .val (.long r), .second, .val (.double (own_al i2)), .second, .val (.ref b18), .val (.int (1 : Int32))] [(.int i3), (.long r), (.long (2 : Int64)), (.ref b18)]))
    refine Dn.of (fun tt_ zz_ => XS.bipush X21.here hx rfl (hb hby at_114) zz_) ?_
    show Dn p e below s (own_Q n0) 16 128 (T21.setTop (mkF m 116 #[.val (.long i0), .second, .val (.int i1), .val (.int i2), .val (.int i3), .val (.long r), .second, .val (.double (own_al i2)), .second, .val (.ref b18), .val (.int (1 : Int32))] [(.int (7 : Int32)), (.int i3), (.long r), (.long (2 : Int64)), (.ref b18)]))
    refine Dn.of (fun tt_ zz_ => XS.ishr X21.here hx rfl (hb hby at_116) rfl zz_) ?_
    show Dn p e below s (own_Q n0) 16 128 (T21.setTop (mkF m 117 #[.val (.long i0), .second, .val (.int i1), .val (.int i2), .val (.int i3), .val (.long r), .second, .val (.double (own_al i2)), .second, .val (.ref b18), .val (.int (1 : Int32))] [(.int (i3 >>> ((7 : Int32) &&& 31))), (.long r), (.long (2 : Int64)), (.ref b18)]))
    refine Dn.of (fun tt_ zz_ => XS.i2dS X21.here hx rfl (v := FP.i2d (i3 >>> ((7 : Int32) &&& 31))) (hb hby at_117) rfl rfl zz_) ?_
    show Dn p e below s (own_Q n0) 16 128 (T21.setTop (mkF m 118 #[.val (.long i0), .second, .val (.int i1), .val (.int i2), .val (.int i3), .val (.long r), .second, .val (.double (own_al i2)), .second, .val (.ref b18), .val (.int (1 : Int32))] [(.double (FP.i2d (i3 >>> ((7 : Int32) &&& 31)))), (.long r), (.long (2 : Int64)), (.ref b18)]))
    obtain ⟨v22, T22, L22, Q22, X22, st22⟩ := cSt X21 hx hZ (y := (⟨"com/example/wyrd/wyrd/service/ExpectationEstimatorIsDonePinLaw", "step", "(Lcom/example/wyrd/wyrd/service/ExpectationEstimator;JJD)Z"⟩ : MethodName)) hown (hw _ (List.mem_of_getElem? (i := 25) rfl)) (hw _ (List.mem_of_getElem? (i := 26) rfl)) (hw _ (List.mem_of_getElem? (i := 27) rfl)) (hw _ (List.mem_of_getElem? (i := 28) rfl)) (by decide) (argsL := [(.ref b18), (.long (2 : Int64)), (.long r), (.double (FP.i2d (i3 >>> ((7 : Int32) &&& 31))))]) (rest := []) (rmS1 l Z a0 hw T21.heap n0 Zz1 b18 1 r mu1 sq1 Ee1 Ga1 Gb1 Gc1 Gd1 (FP.i2d (i3 >>> ((7 : Int32) &&& 31))) 1061 1189 ((i2d_mag _).mono (by decide)) ma1 mb1 (by decide) (by decide) (by decide) gb n1r (by decide) 2 (by decide) c1) rfl  0 (by decide) (by decide) (by decide) (by decide) (g := (mkF m 118 #[.val (.long i0), .second, .val (.int i1), .val (.int i2), .val (.int i3), .val (.long r), .second, .val (.double (own_al i2)), .second, .val (.ref b18), .val (.int (1 : Int32))] [(.double (FP.i2d (i3 >>> ((7 : Int32) &&& 31)))), (.long r), (.long (2 : Int64)), (.ref b18)])) rfl (by rw [hml]; rfl) (lenOf pd3 rfl) rfl (by show 2 * 0 + _ ≤ _; exact Nat.le_of_eq rfl) (hb hby at_118)
    obtain ⟨rfl, Ms2, Ks2, Ga2, Gb2, mu2, sq2, Gc2, Gd2, ma2, mb2⟩ := Q22
    refine Dn.of st22 ?_
    show Dn p e below s (own_Q n0) 16 128 (T22.setTop (mkF m 121 #[.val (.long i0), .second, .val (.int i1), .val (.int i2), .val (.int i3), .val (.long r), .second, .val (.double (own_al i2)), .second, .val (.ref b18), .val (.int (1 : Int32))] [(.int (1 : Int32))]))
    have Ee2 := Ee1.keep Ks2
    have Zz2 := Nat.le_trans Zz1 Ks2.1
    have Nn2 := Fr.app Nn1 Ms2
    refine Dn.of (fun tt_ zz_ => XS.ifNo X22.here hx rfl (hb hby at_121) rfl ((if0 _ _).trans (feq (by decide)).1) zz_) ?_
    show Dn p e below s (own_Q n0) 16 128 (T22.setTop (mkF m 124 #[.val (.long i0), .second, .val (.int i1), .val (.int i2), .val (.int i3), .val (.long r), .second, .val (.double (own_al i2)), .second, .val (.ref b18), .val (.int (1 : Int32))] []))
    refine Dn.of (fun tt_ zz_ => XS.iconst X22.here hx rfl (hb hby at_124) zz_) ?_
    show Dn p e below s (own_Q n0) 16 128 (T22.setTop (mkF m 125 #[.val (.long i0), .second, .val (.int i1), .val (.int i2), .val (.int i3), .val (.long r), .second, .val (.double (own_al i2)), .second, .val (.ref b18), .val (.int (1 : Int32))] [(.int (1 : Int32))]))
    refine Dn.of (fun tt_ zz_ => XS.goto X22.here hx rfl (pc0 := 125) (pc' := 129) rfl (hb hby at_125) (by decide) (by decide) zz_) ?_
    show Dn p e below s (own_Q n0) 16 128 (T22.setTop (mkF m 129 #[.val (.long i0), .second, .val (.int i1), .val (.int i2), .val (.int i3), .val (.long r), .second, .val (.double (own_al i2)), .second, .val (.ref b18), .val (.int (1 : Int32))] [(.int (1 : Int32))]))
    refine Dn.of (fun tt_ zz_ => XS.istore X22.here hx rfl (hb hby at_129) rfl (l' := #[.val (.long i0), .second, .val (.int i1), .val (.int i2), .val (.int i3), .val (.long r), .second, .val (.double (own_al i2)), .second, .val (.ref b18), .val (.int (1 : Int32))]) rfl zz_) ?_
    show Dn p e below s (own_Q n0) 16 128 (T22.setTop (mkF m 131 #[.val (.long i0), .second, .val (.int i1), .val (.int i2), .val (.int i3), .val (.long r), .second, .val (.double (own_al i2)), .second, .val (.ref b18), .val (.int (1 : Int32))] []))
    refine Dn.of (fun tt_ zz_ => XS.iload X22.here hx rfl (hb hby at_131) rfl zz_) ?_
    show Dn p e below s (own_Q n0) 16 128 (T22.setTop (mkF m 133 #[.val (.long i0), .second, .val (.int i1), .val (.int i2), .val (.int i3), .val (.long r), .second, .val (.double (own_al i2)), .second, .val (.ref b18), .val (.int (1 : Int32))] [(.int (1 : Int32))]))
    refine Dn.of (fun tt_ zz_ => XS.ifNo X22.here hx rfl (hb hby at_133) rfl ((if0 _ _).trans (feq (by decide)).1) zz_) ?_
    show Dn p e below s (own_Q n0) 16 128 (T22.setTop (mkF m 136 #[.val (.long i0), .second, .val (.int i1), .val (.int i2), .val (.int i3), .val (.long r), .second, .val (.double (own_al i2)), .second, .val (.ref b18), .val (.int (1 : Int32))] []))
    refine Dn.of (fun tt_ zz_ => XS.aload X22.here hx rfl (hb hby at_136) rfl rfl zz_) ?_
    show Dn p e below s (own_Q n0) 16 128 (T22.setTop (mkF m 138 #[.val (.long i0), .second, .val (.int i1), .val (.int i2), .val (.int i3), .val (.long r), .second, .val (.double (own_al i2)), .second, .val (.ref b18), .val (.int (1 : Int32))] [(.ref b18)]))
    refine Dn.of (fun tt_ zz_ => X22.ldc2J hx hown (mvT hZ (hw _ (List.mem_of_getElem? (i := 2) rfl))) rfl (hb hby at_138) zz_) ?_
    show Dn p e below s (own_Q n0) 16 128 (T22.setTop (mkF m 141 #[.val (.long i0), .second, .val (.int i1), .val (.int i2), .val (.int i3), .val (.long r), .second, .val (.double (own_al i2)), .second, .val (.ref b18), .val (.int (1 : Int32))] [(.long (3 : Int64)), (.ref b18)]))
    refine Dn.of (fun tt_ zz_ => XS.lload X22.here hx rfl (hb hby at_141) rfl zz_) ?_
    show Dn p e below s (own_Q n0) 16 128 (T22.setTop (mkF m 143 #[.val (.long i0), .second, .val (.int i1), .val (.int i2), .val (.int i3), .val (.long r), .second, .val (.double (own_al i2)), .second, .val (.ref b18), .val (.int (1 : Int32))] [(.long r), (.long (3 : Int64)), (.ref b18)]))
    refine Dn.of (fun tt_ zz_ => XS.iload X22.here hx rfl (hb hby at_143) rfl zz_) ?_
    show Dn p e below s (own_Q n0) 16 128 (T22.setTop (mkF m 145 #[.val (.long i0), .second, .val (.int i1), .val (.int i2), .val (.int i3), .val (.long r), .second, .val (.double (own_al i2)), .second, .val (.ref b18), .val (.int (1 : Int32))] [(.int i3), (.long r), (.long (3 : Int64)), (.ref b18)]))
    refine Dn.of (fun tt_ zz_ => XS.iloadN X22.here hx rfl (hb hby at_145) rfl zz_) ?_
    show Dn p e below s (own_Q n0) 16 128 (T22.setTop (mkF m 146 #[.val (.long i0), .second, .val (.int i1), .val (.int i2), .val (.int i3), .val (.long r), .second, .val (.double (own_al i2)), .second, .val (.ref b18), .val (.int (1 : Int32))] [(.int i1), (.int i3), (.long r), (.long (3 : Int64)), (.ref b18)]))
    refine Dn.of (fun tt_ zz_ => XS.ixor X22.here hx rfl (hb hby at_146) rfl zz_) ?_
    show Dn p e below s (own_Q n0) 16 128 (T22.setTop (mkF m 147 #[.val (.long i0), .second, .val (.int i1), .val (.int i2), .val (.int i3), .val (.long r), .second, .val (.double (own_al i2)), .second, .val (.ref b18), .val (.int (1 : Int32))] [(.int (i3 ^^^ i1)), (.long r), (.long (3 : Int64)), (.ref b18)]))
    refine Dn.of (fun tt_ zz_ => XS.i2dS X22.here hx rfl (v := FP.i2d (i3 ^^^ i1)) (hb hby at_147) rfl rfl zz_) ?_
    show Dn p e below s (own_Q n0) 16 128 (T22.setTop (mkF m 148 #[.val (.long i0), .second, .val (.int i1), .val (.int i2), .val (.int i3), .val (.long r), .second, .val (.double (own_al i2)), .second, .val (.ref b18), .val (.int (1 : Int32))] [(.double (FP.i2d (i3 ^^^ i1))), (.long r), (.long (3 : Int64)), (.ref b18)]))
    by_cases q3 : r < 3
    · skip
      obtain ⟨v23, T23, L23, Q23, X23, st23⟩ := cSt X22 hx hZ (y := (⟨"com/example/wyrd/wyrd/service/ExpectationEstimatorIsDonePinLaw", "step", "(Lcom/example/wyrd/wyrd/service/ExpectationEstimator;JJD)Z"⟩ : MethodName)) hown (hw _ (List.mem_of_getElem? (i := 25) rfl)) (hw _ (List.mem_of_getElem? (i := 26) rfl)) (hw _ (List.mem_of_getElem? (i := 27) rfl)) (hw _ (List.mem_of_getElem? (i := 28) rfl)) (by decide) (argsL := [(.ref b18), (.long (3 : Int64)), (.long r), (.double (FP.i2d (i3 ^^^ i1)))]) (rest := []) (rmS0 l Z a0 hw T22.heap n0 Zz2 b18 3 r (FP.i2d (i3 ^^^ i1)) q3) rfl  0 (by decide) (by decide) (by decide) (by decide) (g := (mkF m 148 #[.val (.long i0), .second, .val (.int i1), .val (.int i2), .val (.int i3), .val (.long r), .second, .val (.double (own_al i2)), .second, .val (.ref b18), .val (.int (1 : Int32))] [(.double (FP.i2d (i3 ^^^ i1))), (.long r), (.long (3 : Int64)), (.ref b18)])) rfl (by rw [hml]; rfl) (lenOf pd3 rfl) rfl (by show 2 * 0 + _ ≤ _; exact Nat.le_of_eq rfl) (hb hby at_148)
      obtain ⟨rfl, Ms3, e23⟩ := Q23
      refine Dn.of st23 ?_
      show Dn p e below s (own_Q n0) 16 128 (T23.setTop (mkF m 151 #[.val (.long i0), .second, .val (.int i1), .val (.int i2), .val (.int i3), .val (.long r), .second, .val (.double (own_al i2)), .second, .val (.ref b18), .val (.int (1 : Int32))] [(.int (1 : Int32))]))
      have Nn3 := Fr.app Nn2 Ms3
      refine Dn.of (fun tt_ zz_ => XS.ifNo X23.here hx rfl (hb hby at_151) rfl ((if0 _ _).trans (feq (by decide)).1) zz_) ?_
      show Dn p e below s (own_Q n0) 16 128 (T23.setTop (mkF m 154 #[.val (.long i0), .second, .val (.int i1), .val (.int i2), .val (.int i3), .val (.long r), .second, .val (.double (own_al i2)), .second, .val (.ref b18), .val (.int (1 : Int32))] []))
      refine Dn.of (fun tt_ zz_ => XS.iconst X23.here hx rfl (hb hby at_154) zz_) ?_
      show Dn p e below s (own_Q n0) 16 128 (T23.setTop (mkF m 155 #[.val (.long i0), .second, .val (.int i1), .val (.int i2), .val (.int i3), .val (.long r), .second, .val (.double (own_al i2)), .second, .val (.ref b18), .val (.int (1 : Int32))] [(.int (1 : Int32))]))
      refine Dn.of (fun tt_ zz_ => XS.goto X23.here hx rfl (pc0 := 155) (pc' := 159) rfl (hb hby at_155) (by decide) (by decide) zz_) ?_
      show Dn p e below s (own_Q n0) 16 128 (T23.setTop (mkF m 159 #[.val (.long i0), .second, .val (.int i1), .val (.int i2), .val (.int i3), .val (.long r), .second, .val (.double (own_al i2)), .second, .val (.ref b18), .val (.int (1 : Int32))] [(.int (1 : Int32))]))
      refine Dn.of (fun tt_ zz_ => XS.istore X23.here hx rfl (hb hby at_159) rfl (l' := #[.val (.long i0), .second, .val (.int i1), .val (.int i2), .val (.int i3), .val (.long r), .second, .val (.double (own_al i2)), .second, .val (.ref b18), .val (.int (1 : Int32))]) rfl zz_) ?_
      show Dn p e below s (own_Q n0) 16 128 (T23.setTop (mkF m 161 #[.val (.long i0), .second, .val (.int i1), .val (.int i2), .val (.int i3), .val (.long r), .second, .val (.double (own_al i2)), .second, .val (.ref b18), .val (.int (1 : Int32))] []))
      refine Dn.of (fun tt_ zz_ => XS.iload X23.here hx rfl (hb hby at_161) rfl zz_) ?_
      show Dn p e below s (own_Q n0) 16 128 (T23.setTop (mkF m 163 #[.val (.long i0), .second, .val (.int i1), .val (.int i2), .val (.int i3), .val (.long r), .second, .val (.double (own_al i2)), .second, .val (.ref b18), .val (.int (1 : Int32))] [(.int (1 : Int32))]))
      refine Dn.of (fun tt_ zz_ => XS.ifNo X23.here hx rfl (hb hby at_163) rfl ((if0 _ _).trans (feq (by decide)).1) zz_) ?_
      show Dn p e below s (own_Q n0) 16 128 (T23.setTop (mkF m 166 #[.val (.long i0), .second, .val (.int i1), .val (.int i2), .val (.int i3), .val (.long r), .second, .val (.double (own_al i2)), .second, .val (.ref b18), .val (.int (1 : Int32))] []))
      refine Dn.of (fun tt_ zz_ => XS.aload X23.here hx rfl (hb hby at_166) rfl rfl zz_) ?_
      show Dn p e below s (own_Q n0) 16 128 (T23.setTop (mkF m 168 #[.val (.long i0), .second, .val (.int i1), .val (.int i2), .val (.int i3), .val (.long r), .second, .val (.double (own_al i2)), .second, .val (.ref b18), .val (.int (1 : Int32))] [(.ref b18)]))
      refine Dn.of (fun tt_ zz_ => X23.ldc2J hx hown (mvT hZ (hw _ (List.mem_of_getElem? (i := 39) rfl))) rfl (hb hby at_168) zz_) ?_
      show Dn p e below s (own_Q n0) 16 128 (T23.setTop (mkF m 171 #[.val (.long i0), .second, .val (.int i1), .val (.int i2), .val (.int i3), .val (.long r), .second, .val (.double (own_al i2)), .second, .val (.ref b18), .val (.int (1 : Int32))] [(.long (4 : Int64)), (.ref b18)]))
      refine Dn.of (fun tt_ zz_ => XS.lload X23.here hx rfl (hb hby at_171) rfl zz_) ?_
      show Dn p e below s (own_Q n0) 16 128 (T23.setTop (mkF m 173 #[.val (.long i0), .second, .val (.int i1), .val (.int i2), .val (.int i3), .val (.long r), .second, .val (.double (own_al i2)), .second, .val (.ref b18), .val (.int (1 : Int32))] [(.long r), (.long (4 : Int64)), (.ref b18)]))
      refine Dn.of (fun tt_ zz_ => XS.iloadN X23.here hx rfl (hb hby at_173) rfl zz_) ?_
      show Dn p e below s (own_Q n0) 16 128 (T23.setTop (mkF m 174 #[.val (.long i0), .second, .val (.int i1), .val (.int i2), .val (.int i3), .val (.long r), .second, .val (.double (own_al i2)), .second, .val (.ref b18), .val (.int (1 : Int32))] [(.int i2), (.long r), (.long (4 : Int64)), (.ref b18)]))
      refine Dn.of (fun tt_ zz_ => XS.iload X23.here hx rfl (hb hby at_174) rfl zz_) ?_
      show Dn p e below s (own_Q n0) 16 128 (T23.setTop (mkF m 176 #[.val (.long i0), .second, .val (.int i1), .val (.int i2), .val (.int i3), .val (.long r), .second, .val (.double (own_al i2)), .second, .val (.ref b18), .val (.int (1 : Int32))] [(.int i3), (.int i2), (.long r), (.long (4 : Int64)), (.ref b18)]))
      refine Dn.of (fun tt_ zz_ => XS.isub X23.here hx rfl (hb hby at_176) rfl zz_) ?_
      show Dn p e below s (own_Q n0) 16 128 (T23.setTop (mkF m 177 #[.val (.long i0), .second, .val (.int i1), .val (.int i2), .val (.int i3), .val (.long r), .second, .val (.double (own_al i2)), .second, .val (.ref b18), .val (.int (1 : Int32))] [(.int (i2 - i3)), (.long r), (.long (4 : Int64)), (.ref b18)]))
      refine Dn.of (fun tt_ zz_ => XS.i2dS X23.here hx rfl (v := FP.i2d (i2 - i3)) (hb hby at_177) rfl rfl zz_) ?_
      show Dn p e below s (own_Q n0) 16 128 (T23.setTop (mkF m 178 #[.val (.long i0), .second, .val (.int i1), .val (.int i2), .val (.int i3), .val (.long r), .second, .val (.double (own_al i2)), .second, .val (.ref b18), .val (.int (1 : Int32))] [(.double (FP.i2d (i2 - i3))), (.long r), (.long (4 : Int64)), (.ref b18)]))
      obtain ⟨v24, T24, L24, Q24, X24, st24⟩ := cSt X23 hx hZ (y := (⟨"com/example/wyrd/wyrd/service/ExpectationEstimatorIsDonePinLaw", "step", "(Lcom/example/wyrd/wyrd/service/ExpectationEstimator;JJD)Z"⟩ : MethodName)) hown (hw _ (List.mem_of_getElem? (i := 25) rfl)) (hw _ (List.mem_of_getElem? (i := 26) rfl)) (hw _ (List.mem_of_getElem? (i := 27) rfl)) (hw _ (List.mem_of_getElem? (i := 28) rfl)) (by decide) (argsL := [(.ref b18), (.long (4 : Int64)), (.long r), (.double (FP.i2d (i2 - i3)))]) (rest := []) (rmS0 l Z a0 hw T22.heap n0 Zz2 b18 4 r (FP.i2d (i2 - i3)) (Int64.lt_trans q3 (by decide))) e23  0 (by decide) (by decide) (by decide) (by decide) (g := (mkF m 178 #[.val (.long i0), .second, .val (.int i1), .val (.int i2), .val (.int i3), .val (.long r), .second, .val (.double (own_al i2)), .second, .val (.ref b18), .val (.int (1 : Int32))] [(.double (FP.i2d (i2 - i3))), (.long r), (.long (4 : Int64)), (.ref b18)])) rfl (by rw [hml]; rfl) (lenOf pd3 rfl) rfl (by show 2 * 0 + _ ≤ _; exact Nat.le_of_eq rfl) (hb hby at_178)
      obtain ⟨rfl, Ms4, e24⟩ := Q24
      refine Dn.of st24 ?_
      show Dn p e below s (own_Q n0) 16 128 (T24.setTop (mkF m 181 #[.val (.long i0), .second, .val (.int i1), .val (.int i2), .val (.int i3), .val (.long r), .second, .val (.double (own_al i2)), .second, .val (.ref b18), .val (.int (1 : Int32))] [(.int (1 : Int32))]))
      have Nn4 := Fr.app Nn3 Ms4
      refine Dn.of (fun tt_ zz_ => XS.ifNo X24.here hx rfl (hb hby at_181) rfl ((if0 _ _).trans (feq (by decide)).1) zz_) ?_
      show Dn p e below s (own_Q n0) 16 128 (T24.setTop (mkF m 184 #[.val (.long i0), .second, .val (.int i1), .val (.int i2), .val (.int i3), .val (.long r), .second, .val (.double (own_al i2)), .second, .val (.ref b18), .val (.int (1 : Int32))] []))
      refine Dn.of (fun tt_ zz_ => XS.iconst X24.here hx rfl (hb hby at_184) zz_) ?_
      show Dn p e below s (own_Q n0) 16 128 (T24.setTop (mkF m 185 #[.val (.long i0), .second, .val (.int i1), .val (.int i2), .val (.int i3), .val (.long r), .second, .val (.double (own_al i2)), .second, .val (.ref b18), .val (.int (1 : Int32))] [(.int (1 : Int32))]))
      refine Dn.of (fun tt_ zz_ => XS.goto X24.here hx rfl (pc0 := 185) (pc' := 189) rfl (hb hby at_185) (by decide) (by decide) zz_) ?_
      show Dn p e below s (own_Q n0) 16 128 (T24.setTop (mkF m 189 #[.val (.long i0), .second, .val (.int i1), .val (.int i2), .val (.int i3), .val (.long r), .second, .val (.double (own_al i2)), .second, .val (.ref b18), .val (.int (1 : Int32))] [(.int (1 : Int32))]))
      refine Dn.of (fun tt_ zz_ => XS.istore X24.here hx rfl (hb hby at_189) rfl (l' := #[.val (.long i0), .second, .val (.int i1), .val (.int i2), .val (.int i3), .val (.long r), .second, .val (.double (own_al i2)), .second, .val (.ref b18), .val (.int (1 : Int32))]) rfl zz_) ?_
      show Dn p e below s (own_Q n0) 16 128 (T24.setTop (mkF m 191 #[.val (.long i0), .second, .val (.int i1), .val (.int i2), .val (.int i3), .val (.long r), .second, .val (.double (own_al i2)), .second, .val (.ref b18), .val (.int (1 : Int32))] []))
      refine Dn.of (fun tt_ zz_ => XS.iload X24.here hx rfl (hb hby at_191) rfl zz_) ?_
      show Dn p e below s (own_Q n0) 16 128 (T24.setTop (mkF m 193 #[.val (.long i0), .second, .val (.int i1), .val (.int i2), .val (.int i3), .val (.long r), .second, .val (.double (own_al i2)), .second, .val (.ref b18), .val (.int (1 : Int32))] [(.int (1 : Int32))]))
      exact Dn.retN X24 hx hlk (t := .boolean) hret (by simp) (hb hby at_193) (by decide) (by decide) (⟨rfl, Nn4⟩)
    · skip
      have n2r : ¬ (2 : Int64) = r := by rintro rfl; exact q3 (by decide)
      obtain ⟨v25, T25, L25, Q25, X25, st25⟩ := cSt X22 hx hZ (y := (⟨"com/example/wyrd/wyrd/service/ExpectationEstimatorIsDonePinLaw", "step", "(Lcom/example/wyrd/wyrd/service/ExpectationEstimator;JJD)Z"⟩ : MethodName)) hown (hw _ (List.mem_of_getElem? (i := 25) rfl)) (hw _ (List.mem_of_getElem? (i := 26) rfl)) (hw _ (List.mem_of_getElem? (i := 27) rfl)) (hw _ (List.mem_of_getElem? (i := 28) rfl)) (by decide) (argsL := [(.ref b18), (.long (3 : Int64)), (.long r), (.double (FP.i2d (i3 ^^^ i1)))]) (rest := []) (rmS1 l Z a0 hw T22.heap n0 Zz2 b18 2 r mu2 sq2 Ee2 Ga2 Gb2 Gc2 Gd2 (FP.i2d (i3 ^^^ i1)) 1066 1191 ((i2d_mag _).mono (by decide)) ma2 mb2 (by decide) (by decide) (by decide) gb n2r (by decide) 3 (by decide) q3) rfl  0 (by decide) (by decide) (by decide) (by decide) (g := (mkF m 148 #[.val (.long i0), .second, .val (.int i1), .val (.int i2), .val (.int i3), .val (.long r), .second, .val (.double (own_al i2)), .second, .val (.ref b18), .val (.int (1 : Int32))] [(.double (FP.i2d (i3 ^^^ i1))), (.long r), (.long (3 : Int64)), (.ref b18)])) rfl (by rw [hml]; rfl) (lenOf pd3 rfl) rfl (by show 2 * 0 + _ ≤ _; exact Nat.le_of_eq rfl) (hb hby at_148)
      obtain ⟨rfl, Ms3, Ks3, Ga3, Gb3, mu3, sq3, Gc3, Gd3, ma3, mb3⟩ := Q25
      refine Dn.of st25 ?_
      show Dn p e below s (own_Q n0) 16 128 (T25.setTop (mkF m 151 #[.val (.long i0), .second, .val (.int i1), .val (.int i2), .val (.int i3), .val (.long r), .second, .val (.double (own_al i2)), .second, .val (.ref b18), .val (.int (1 : Int32))] [(.int (1 : Int32))]))
      have Ee3 := Ee2.keep Ks3
      have Zz3 := Nat.le_trans Zz2 Ks3.1
      have Nn3 := Fr.app Nn2 Ms3
      refine Dn.of (fun tt_ zz_ => XS.ifNo X25.here hx rfl (hb hby at_151) rfl ((if0 _ _).trans (feq (by decide)).1) zz_) ?_
      show Dn p e below s (own_Q n0) 16 128 (T25.setTop (mkF m 154 #[.val (.long i0), .second, .val (.int i1), .val (.int i2), .val (.int i3), .val (.long r), .second, .val (.double (own_al i2)), .second, .val (.ref b18), .val (.int (1 : Int32))] []))
      refine Dn.of (fun tt_ zz_ => XS.iconst X25.here hx rfl (hb hby at_154) zz_) ?_
      show Dn p e below s (own_Q n0) 16 128 (T25.setTop (mkF m 155 #[.val (.long i0), .second, .val (.int i1), .val (.int i2), .val (.int i3), .val (.long r), .second, .val (.double (own_al i2)), .second, .val (.ref b18), .val (.int (1 : Int32))] [(.int (1 : Int32))]))
      refine Dn.of (fun tt_ zz_ => XS.goto X25.here hx rfl (pc0 := 155) (pc' := 159) rfl (hb hby at_155) (by decide) (by decide) zz_) ?_
      show Dn p e below s (own_Q n0) 16 128 (T25.setTop (mkF m 159 #[.val (.long i0), .second, .val (.int i1), .val (.int i2), .val (.int i3), .val (.long r), .second, .val (.double (own_al i2)), .second, .val (.ref b18), .val (.int (1 : Int32))] [(.int (1 : Int32))]))
      refine Dn.of (fun tt_ zz_ => XS.istore X25.here hx rfl (hb hby at_159) rfl (l' := #[.val (.long i0), .second, .val (.int i1), .val (.int i2), .val (.int i3), .val (.long r), .second, .val (.double (own_al i2)), .second, .val (.ref b18), .val (.int (1 : Int32))]) rfl zz_) ?_
      show Dn p e below s (own_Q n0) 16 128 (T25.setTop (mkF m 161 #[.val (.long i0), .second, .val (.int i1), .val (.int i2), .val (.int i3), .val (.long r), .second, .val (.double (own_al i2)), .second, .val (.ref b18), .val (.int (1 : Int32))] []))
      refine Dn.of (fun tt_ zz_ => XS.iload X25.here hx rfl (hb hby at_161) rfl zz_) ?_
      show Dn p e below s (own_Q n0) 16 128 (T25.setTop (mkF m 163 #[.val (.long i0), .second, .val (.int i1), .val (.int i2), .val (.int i3), .val (.long r), .second, .val (.double (own_al i2)), .second, .val (.ref b18), .val (.int (1 : Int32))] [(.int (1 : Int32))]))
      refine Dn.of (fun tt_ zz_ => XS.ifNo X25.here hx rfl (hb hby at_163) rfl ((if0 _ _).trans (feq (by decide)).1) zz_) ?_
      show Dn p e below s (own_Q n0) 16 128 (T25.setTop (mkF m 166 #[.val (.long i0), .second, .val (.int i1), .val (.int i2), .val (.int i3), .val (.long r), .second, .val (.double (own_al i2)), .second, .val (.ref b18), .val (.int (1 : Int32))] []))
      refine Dn.of (fun tt_ zz_ => XS.aload X25.here hx rfl (hb hby at_166) rfl rfl zz_) ?_
      show Dn p e below s (own_Q n0) 16 128 (T25.setTop (mkF m 168 #[.val (.long i0), .second, .val (.int i1), .val (.int i2), .val (.int i3), .val (.long r), .second, .val (.double (own_al i2)), .second, .val (.ref b18), .val (.int (1 : Int32))] [(.ref b18)]))
      refine Dn.of (fun tt_ zz_ => X25.ldc2J hx hown (mvT hZ (hw _ (List.mem_of_getElem? (i := 39) rfl))) rfl (hb hby at_168) zz_) ?_
      show Dn p e below s (own_Q n0) 16 128 (T25.setTop (mkF m 171 #[.val (.long i0), .second, .val (.int i1), .val (.int i2), .val (.int i3), .val (.long r), .second, .val (.double (own_al i2)), .second, .val (.ref b18), .val (.int (1 : Int32))] [(.long (4 : Int64)), (.ref b18)]))
      refine Dn.of (fun tt_ zz_ => XS.lload X25.here hx rfl (hb hby at_171) rfl zz_) ?_
      show Dn p e below s (own_Q n0) 16 128 (T25.setTop (mkF m 173 #[.val (.long i0), .second, .val (.int i1), .val (.int i2), .val (.int i3), .val (.long r), .second, .val (.double (own_al i2)), .second, .val (.ref b18), .val (.int (1 : Int32))] [(.long r), (.long (4 : Int64)), (.ref b18)]))
      refine Dn.of (fun tt_ zz_ => XS.iloadN X25.here hx rfl (hb hby at_173) rfl zz_) ?_
      show Dn p e below s (own_Q n0) 16 128 (T25.setTop (mkF m 174 #[.val (.long i0), .second, .val (.int i1), .val (.int i2), .val (.int i3), .val (.long r), .second, .val (.double (own_al i2)), .second, .val (.ref b18), .val (.int (1 : Int32))] [(.int i2), (.long r), (.long (4 : Int64)), (.ref b18)]))
      refine Dn.of (fun tt_ zz_ => XS.iload X25.here hx rfl (hb hby at_174) rfl zz_) ?_
      show Dn p e below s (own_Q n0) 16 128 (T25.setTop (mkF m 176 #[.val (.long i0), .second, .val (.int i1), .val (.int i2), .val (.int i3), .val (.long r), .second, .val (.double (own_al i2)), .second, .val (.ref b18), .val (.int (1 : Int32))] [(.int i3), (.int i2), (.long r), (.long (4 : Int64)), (.ref b18)]))
      refine Dn.of (fun tt_ zz_ => XS.isub X25.here hx rfl (hb hby at_176) rfl zz_) ?_
      show Dn p e below s (own_Q n0) 16 128 (T25.setTop (mkF m 177 #[.val (.long i0), .second, .val (.int i1), .val (.int i2), .val (.int i3), .val (.long r), .second, .val (.double (own_al i2)), .second, .val (.ref b18), .val (.int (1 : Int32))] [(.int (i2 - i3)), (.long r), (.long (4 : Int64)), (.ref b18)]))
      refine Dn.of (fun tt_ zz_ => XS.i2dS X25.here hx rfl (v := FP.i2d (i2 - i3)) (hb hby at_177) rfl rfl zz_) ?_
      show Dn p e below s (own_Q n0) 16 128 (T25.setTop (mkF m 178 #[.val (.long i0), .second, .val (.int i1), .val (.int i2), .val (.int i3), .val (.long r), .second, .val (.double (own_al i2)), .second, .val (.ref b18), .val (.int (1 : Int32))] [(.double (FP.i2d (i2 - i3))), (.long r), (.long (4 : Int64)), (.ref b18)]))
      by_cases q4 : r < 4
      · skip
        obtain ⟨v26, T26, L26, Q26, X26, st26⟩ := cSt X25 hx hZ (y := (⟨"com/example/wyrd/wyrd/service/ExpectationEstimatorIsDonePinLaw", "step", "(Lcom/example/wyrd/wyrd/service/ExpectationEstimator;JJD)Z"⟩ : MethodName)) hown (hw _ (List.mem_of_getElem? (i := 25) rfl)) (hw _ (List.mem_of_getElem? (i := 26) rfl)) (hw _ (List.mem_of_getElem? (i := 27) rfl)) (hw _ (List.mem_of_getElem? (i := 28) rfl)) (by decide) (argsL := [(.ref b18), (.long (4 : Int64)), (.long r), (.double (FP.i2d (i2 - i3)))]) (rest := []) (rmS0 l Z a0 hw T25.heap n0 Zz3 b18 4 r (FP.i2d (i2 - i3)) q4) rfl  0 (by decide) (by decide) (by decide) (by decide) (g := (mkF m 178 #[.val (.long i0), .second, .val (.int i1), .val (.int i2), .val (.int i3), .val (.long r), .second, .val (.double (own_al i2)), .second, .val (.ref b18), .val (.int (1 : Int32))] [(.double (FP.i2d (i2 - i3))), (.long r), (.long (4 : Int64)), (.ref b18)])) rfl (by rw [hml]; rfl) (lenOf pd3 rfl) rfl (by show 2 * 0 + _ ≤ _; exact Nat.le_of_eq rfl) (hb hby at_178)
        obtain ⟨rfl, Ms4, e26⟩ := Q26
        refine Dn.of st26 ?_
        show Dn p e below s (own_Q n0) 16 128 (T26.setTop (mkF m 181 #[.val (.long i0), .second, .val (.int i1), .val (.int i2), .val (.int i3), .val (.long r), .second, .val (.double (own_al i2)), .second, .val (.ref b18), .val (.int (1 : Int32))] [(.int (1 : Int32))]))
        have Nn4 := Fr.app Nn3 Ms4
        refine Dn.of (fun tt_ zz_ => XS.ifNo X26.here hx rfl (hb hby at_181) rfl ((if0 _ _).trans (feq (by decide)).1) zz_) ?_
        show Dn p e below s (own_Q n0) 16 128 (T26.setTop (mkF m 184 #[.val (.long i0), .second, .val (.int i1), .val (.int i2), .val (.int i3), .val (.long r), .second, .val (.double (own_al i2)), .second, .val (.ref b18), .val (.int (1 : Int32))] []))
        refine Dn.of (fun tt_ zz_ => XS.iconst X26.here hx rfl (hb hby at_184) zz_) ?_
        show Dn p e below s (own_Q n0) 16 128 (T26.setTop (mkF m 185 #[.val (.long i0), .second, .val (.int i1), .val (.int i2), .val (.int i3), .val (.long r), .second, .val (.double (own_al i2)), .second, .val (.ref b18), .val (.int (1 : Int32))] [(.int (1 : Int32))]))
        refine Dn.of (fun tt_ zz_ => XS.goto X26.here hx rfl (pc0 := 185) (pc' := 189) rfl (hb hby at_185) (by decide) (by decide) zz_) ?_
        show Dn p e below s (own_Q n0) 16 128 (T26.setTop (mkF m 189 #[.val (.long i0), .second, .val (.int i1), .val (.int i2), .val (.int i3), .val (.long r), .second, .val (.double (own_al i2)), .second, .val (.ref b18), .val (.int (1 : Int32))] [(.int (1 : Int32))]))
        refine Dn.of (fun tt_ zz_ => XS.istore X26.here hx rfl (hb hby at_189) rfl (l' := #[.val (.long i0), .second, .val (.int i1), .val (.int i2), .val (.int i3), .val (.long r), .second, .val (.double (own_al i2)), .second, .val (.ref b18), .val (.int (1 : Int32))]) rfl zz_) ?_
        show Dn p e below s (own_Q n0) 16 128 (T26.setTop (mkF m 191 #[.val (.long i0), .second, .val (.int i1), .val (.int i2), .val (.int i3), .val (.long r), .second, .val (.double (own_al i2)), .second, .val (.ref b18), .val (.int (1 : Int32))] []))
        refine Dn.of (fun tt_ zz_ => XS.iload X26.here hx rfl (hb hby at_191) rfl zz_) ?_
        show Dn p e below s (own_Q n0) 16 128 (T26.setTop (mkF m 193 #[.val (.long i0), .second, .val (.int i1), .val (.int i2), .val (.int i3), .val (.long r), .second, .val (.double (own_al i2)), .second, .val (.ref b18), .val (.int (1 : Int32))] [(.int (1 : Int32))]))
        exact Dn.retN X26 hx hlk (t := .boolean) hret (by simp) (hb hby at_193) (by decide) (by decide) (⟨rfl, Nn4⟩)
      · skip
        have n3r : ¬ (3 : Int64) = r := by rintro rfl; exact q4 (by decide)
        obtain ⟨v27, T27, L27, Q27, X27, st27⟩ := cSt X25 hx hZ (y := (⟨"com/example/wyrd/wyrd/service/ExpectationEstimatorIsDonePinLaw", "step", "(Lcom/example/wyrd/wyrd/service/ExpectationEstimator;JJD)Z"⟩ : MethodName)) hown (hw _ (List.mem_of_getElem? (i := 25) rfl)) (hw _ (List.mem_of_getElem? (i := 26) rfl)) (hw _ (List.mem_of_getElem? (i := 27) rfl)) (hw _ (List.mem_of_getElem? (i := 28) rfl)) (by decide) (argsL := [(.ref b18), (.long (4 : Int64)), (.long r), (.double (FP.i2d (i2 - i3)))]) (rest := []) (rmS1 l Z a0 hw T25.heap n0 Zz3 b18 3 r mu3 sq3 Ee3 Ga3 Gb3 Gc3 Gd3 (FP.i2d (i2 - i3)) 1071 1193 ((i2d_mag _).mono (by decide)) ma3 mb3 (by decide) (by decide) (by decide) gb n3r (by decide) 4 (by decide) q4) rfl  0 (by decide) (by decide) (by decide) (by decide) (g := (mkF m 178 #[.val (.long i0), .second, .val (.int i1), .val (.int i2), .val (.int i3), .val (.long r), .second, .val (.double (own_al i2)), .second, .val (.ref b18), .val (.int (1 : Int32))] [(.double (FP.i2d (i2 - i3))), (.long r), (.long (4 : Int64)), (.ref b18)])) rfl (by rw [hml]; rfl) (lenOf pd3 rfl) rfl (by show 2 * 0 + _ ≤ _; exact Nat.le_of_eq rfl) (hb hby at_178)
        obtain ⟨rfl, Ms4, Ks4, Ga4, Gb4, mu4, sq4, Gc4, Gd4, ma4, mb4⟩ := Q27
        refine Dn.of st27 ?_
        show Dn p e below s (own_Q n0) 16 128 (T27.setTop (mkF m 181 #[.val (.long i0), .second, .val (.int i1), .val (.int i2), .val (.int i3), .val (.long r), .second, .val (.double (own_al i2)), .second, .val (.ref b18), .val (.int (1 : Int32))] [(.int (1 : Int32))]))
        have Ee4 := Ee3.keep Ks4
        have Zz4 := Nat.le_trans Zz3 Ks4.1
        have Nn4 := Fr.app Nn3 Ms4
        refine Dn.of (fun tt_ zz_ => XS.ifNo X27.here hx rfl (hb hby at_181) rfl ((if0 _ _).trans (feq (by decide)).1) zz_) ?_
        show Dn p e below s (own_Q n0) 16 128 (T27.setTop (mkF m 184 #[.val (.long i0), .second, .val (.int i1), .val (.int i2), .val (.int i3), .val (.long r), .second, .val (.double (own_al i2)), .second, .val (.ref b18), .val (.int (1 : Int32))] []))
        refine Dn.of (fun tt_ zz_ => XS.iconst X27.here hx rfl (hb hby at_184) zz_) ?_
        show Dn p e below s (own_Q n0) 16 128 (T27.setTop (mkF m 185 #[.val (.long i0), .second, .val (.int i1), .val (.int i2), .val (.int i3), .val (.long r), .second, .val (.double (own_al i2)), .second, .val (.ref b18), .val (.int (1 : Int32))] [(.int (1 : Int32))]))
        refine Dn.of (fun tt_ zz_ => XS.goto X27.here hx rfl (pc0 := 185) (pc' := 189) rfl (hb hby at_185) (by decide) (by decide) zz_) ?_
        show Dn p e below s (own_Q n0) 16 128 (T27.setTop (mkF m 189 #[.val (.long i0), .second, .val (.int i1), .val (.int i2), .val (.int i3), .val (.long r), .second, .val (.double (own_al i2)), .second, .val (.ref b18), .val (.int (1 : Int32))] [(.int (1 : Int32))]))
        refine Dn.of (fun tt_ zz_ => XS.istore X27.here hx rfl (hb hby at_189) rfl (l' := #[.val (.long i0), .second, .val (.int i1), .val (.int i2), .val (.int i3), .val (.long r), .second, .val (.double (own_al i2)), .second, .val (.ref b18), .val (.int (1 : Int32))]) rfl zz_) ?_
        show Dn p e below s (own_Q n0) 16 128 (T27.setTop (mkF m 191 #[.val (.long i0), .second, .val (.int i1), .val (.int i2), .val (.int i3), .val (.long r), .second, .val (.double (own_al i2)), .second, .val (.ref b18), .val (.int (1 : Int32))] []))
        refine Dn.of (fun tt_ zz_ => XS.iload X27.here hx rfl (hb hby at_191) rfl zz_) ?_
        show Dn p e below s (own_Q n0) 16 128 (T27.setTop (mkF m 193 #[.val (.long i0), .second, .val (.int i1), .val (.int i2), .val (.int i3), .val (.long r), .second, .val (.double (own_al i2)), .second, .val (.ref b18), .val (.int (1 : Int32))] [(.int (1 : Int32))]))
        exact Dn.retN X27 hx hlk (t := .boolean) hret (by simp) (hb hby at_193) (by decide) (by decide) (⟨rfl, Nn4⟩)
  · skip
    refine Dn.of (fun tt_ zz_ => XS.ifYes X0.here hx rfl (pc0 := 3) (pc' := 24) rfl (hb hby at_3) rfl ((if0 _ _).trans (feq hf).2) (by decide) (by decide) zz_) ?_
    show Dn p e below s (own_Q n0) 16 128 (s₁.setTop (mkF m 24 #[.val (.long i0), .second, .val (.int i1), .val (.int i2), .val (.int i3), .unset, .unset, .unset, .unset, .unset, .unset] []))
    refine Dn.of (fun tt_ zz_ => X0.ldc2J hx hown (mvT hZ (hw _ (List.mem_of_getElem? (i := 40) rfl))) rfl (hb hby at_24) zz_) ?_
    show Dn p e below s (own_Q n0) 16 128 (s₁.setTop (mkF m 27 #[.val (.long i0), .second, .val (.int i1), .val (.int i2), .val (.int i3), .unset, .unset, .unset, .unset, .unset, .unset] [(.long (5 : Int64))]))
    refine Dn.of (fun tt_ zz_ => XS.lloadN X0.here hx rfl (hb hby at_27) rfl zz_) ?_
    show Dn p e below s (own_Q n0) 16 128 (s₁.setTop (mkF m 28 #[.val (.long i0), .second, .val (.int i1), .val (.int i2), .val (.int i3), .unset, .unset, .unset, .unset, .unset, .unset] [(.long i0), (.long (5 : Int64))]))
    obtain ⟨v28, T28, L28, Q28, X28, st28⟩ := cSt X0 hx hZ (y := (⟨"java/lang/Math", "max", "(JJ)J"⟩ : MethodName)) hown (hw _ (List.mem_of_getElem? (i := 41) rfl)) (hw _ (List.mem_of_getElem? (i := 42) rfl)) (hw _ (List.mem_of_getElem? (i := 43) rfl)) (hw _ (List.mem_of_getElem? (i := 44) rfl)) (by decide) (argsL := [(.long (5 : Int64)), (.long i0)]) (rest := []) (rmM l Z a0 hw h0 n0 Z0 5 i0) e0  0 (by decide) (by decide) (by decide) (by decide) (g := (mkF m 28 #[.val (.long i0), .second, .val (.int i1), .val (.int i2), .val (.int i3), .unset, .unset, .unset, .unset, .unset, .unset] [(.long i0), (.long (5 : Int64))])) rfl (by rw [hml]; rfl) (lenOf pd4 rfl) rfl (by show 2 * 0 + _ ≤ _; exact Nat.le_of_eq rfl) (hb hby at_28)
    obtain ⟨rfl, M0, e28⟩ := Q28
    refine Dn.of st28 ?_
    show Dn p e below s (own_Q n0) 16 128 (T28.setTop (mkF m 31 #[.val (.long i0), .second, .val (.int i1), .val (.int i2), .val (.int i3), .unset, .unset, .unset, .unset, .unset, .unset] [(.long (own_max (5 : Int64) i0))]))
    refine Dn.of (fun tt_ zz_ => XS.lstore X28.here hx rfl (hb hby at_31) rfl (l' := #[.val (.long i0), .second, .val (.int i1), .val (.int i2), .val (.int i3), .val (.long (own_max (5 : Int64) i0)), .second, .unset, .unset, .unset, .unset]) rfl zz_) ?_
    show Dn p e below s (own_Q n0) 16 128 (T28.setTop (mkF m 33 #[.val (.long i0), .second, .val (.int i1), .val (.int i2), .val (.int i3), .val (.long (own_max (5 : Int64) i0)), .second, .unset, .unset, .unset, .unset] []))
    have c1 := own_r1 i0
    generalize own_max (5 : Int64) i0 = r at *
    show Dn p e below s (own_Q n0) 16 128 (T28.setTop (mkF m 33 #[.val (.long i0), .second, .val (.int i1), .val (.int i2), .val (.int i3), .val (.long r), .second, .unset, .unset, .unset, .unset] []))
    have N9 := Fr.app N0 M0
    refine Dn.of (fun tt_ zz_ => XS.iconst X28.here hx rfl (hb hby at_33) zz_) ?_
    show Dn p e below s (own_Q n0) 16 128 (T28.setTop (mkF m 34 #[.val (.long i0), .second, .val (.int i1), .val (.int i2), .val (.int i3), .val (.long r), .second, .unset, .unset, .unset, .unset] [(.int (1 : Int32))]))
    refine Dn.of (fun tt_ zz_ => XS.iloadN X28.here hx rfl (hb hby at_34) rfl zz_) ?_
    show Dn p e below s (own_Q n0) 16 128 (T28.setTop (mkF m 35 #[.val (.long i0), .second, .val (.int i1), .val (.int i2), .val (.int i3), .val (.long r), .second, .unset, .unset, .unset, .unset] [(.int i2), (.int (1 : Int32))]))
    refine Dn.of (fun tt_ zz_ => XS.bipush X28.here hx rfl (hb hby at_35) zz_) ?_
    show Dn p e below s (own_Q n0) 16 128 (T28.setTop (mkF m 37 #[.val (.long i0), .second, .val (.int i1), .val (.int i2), .val (.int i3), .val (.long r), .second, .unset, .unset, .unset, .unset] [(.int (7 : Int32)), (.int i2), (.int (1 : Int32))]))
    refine Dn.of (fun tt_ zz_ => XS.iand X28.here hx rfl (hb hby at_37) rfl zz_) ?_
    show Dn p e below s (own_Q n0) 16 128 (T28.setTop (mkF m 38 #[.val (.long i0), .second, .val (.int i1), .val (.int i2), .val (.int i3), .val (.long r), .second, .unset, .unset, .unset, .unset] [(.int (i2 &&& (7 : Int32))), (.int (1 : Int32))]))
    refine Dn.of (fun tt_ zz_ => XS.iadd X28.here hx rfl (hb hby at_38) rfl zz_) ?_
    show Dn p e below s (own_Q n0) 16 128 (T28.setTop (mkF m 39 #[.val (.long i0), .second, .val (.int i1), .val (.int i2), .val (.int i3), .val (.long r), .second, .unset, .unset, .unset, .unset] [(.int ((1 : Int32) + (i2 &&& (7 : Int32))))]))
    refine Dn.of (fun tt_ zz_ => XS.i2dS X28.here hx rfl (v := FP.i2d ((1 : Int32) + (i2 &&& (7 : Int32)))) (hb hby at_39) rfl rfl zz_) ?_
    show Dn p e below s (own_Q n0) 16 128 (T28.setTop (mkF m 40 #[.val (.long i0), .second, .val (.int i1), .val (.int i2), .val (.int i3), .val (.long r), .second, .unset, .unset, .unset, .unset] [(.double (FP.i2d ((1 : Int32) + (i2 &&& (7 : Int32)))))]))
    refine Dn.of (X28.ldc2DoubleC hx hown (mvT hZ (hw _ (List.mem_of_getElem? (i := 3) rfl))) (g := (mkF m 40 #[.val (.long i0), .second, .val (.int i1), .val (.int i2), .val (.int i3), .val (.long r), .second, .unset, .unset, .unset, .unset] [(.double (FP.i2d ((1 : Int32) + (i2 &&& (7 : Int32)))))])) rfl (hb hby at_40)) ?_
    show Dn p e below s (own_Q n0) 16 128 (T28.setTop (mkF m 43 #[.val (.long i0), .second, .val (.int i1), .val (.int i2), .val (.int i3), .val (.long r), .second, .unset, .unset, .unset, .unset] [(.double (4621819117588971520 : UInt64)), (.double (FP.i2d ((1 : Int32) + (i2 &&& (7 : Int32)))))]))
    refine Dn.of (fun tt_ zz_ => XS.ddivS X28.here hx rfl (v := (FP.ddiv (FP.i2d ((1 : Int32) + (i2 &&& (7 : Int32)))) (4621819117588971520 : UInt64))) (hb hby at_43) rfl (own_al_n i2) rfl zz_) ?_
    show Dn p e below s (own_Q n0) 16 128 (T28.setTop (mkF m 44 #[.val (.long i0), .second, .val (.int i1), .val (.int i2), .val (.int i3), .val (.long r), .second, .unset, .unset, .unset, .unset] [(.double (FP.ddiv (FP.i2d ((1 : Int32) + (i2 &&& (7 : Int32)))) (4621819117588971520 : UInt64)))]))
    show Dn p e below s (own_Q n0) 16 128 (T28.setTop (mkF m 44 #[.val (.long i0), .second, .val (.int i1), .val (.int i2), .val (.int i3), .val (.long r), .second, .unset, .unset, .unset, .unset] [(.double (own_al i2))]))
    refine Dn.of (fun tt_ zz_ => XS.dstore X28.here hx rfl (hb hby at_44) rfl (l' := #[.val (.long i0), .second, .val (.int i1), .val (.int i2), .val (.int i3), .val (.long r), .second, .val (.double (own_al i2)), .second, .unset, .unset]) rfl zz_) ?_
    show Dn p e below s (own_Q n0) 16 128 (T28.setTop (mkF m 46 #[.val (.long i0), .second, .val (.int i1), .val (.int i2), .val (.int i3), .val (.long r), .second, .val (.double (own_al i2)), .second, .unset, .unset] []))
    obtain ⟨T29, h29, X29, e29, E29, A29, D29, U29, st29⟩ := newO X28 hx hZ hown (hw _ (List.mem_of_getElem? (i := 4) rfl)) (hw _ (List.mem_of_getElem? (i := 5) rfl)) (hw _ (List.mem_of_getElem? (i := 6) rfl)) e28 (g := (mkF m 46 #[.val (.long i0), .second, .val (.int i1), .val (.int i2), .val (.int i3), .val (.long r), .second, .val (.double (own_al i2)), .second, .unset, .unset] [])) rfl (hb hby at_46) (by decide) (by decide)
    obtain ⟨b29, g29⟩ : ∃ z, z = h0.size := ⟨_, rfl⟩
    rw [← g29] at A29 D29 U29 st29
    refine Dn.of st29 ?_
    show Dn p e below s (own_Q n0) 16 128 (T29.setTop (mkF m 49 #[.val (.long i0), .second, .val (.int i1), .val (.int i2), .val (.int i3), .val (.long r), .second, .val (.double (own_al i2)), .second, .unset, .unset] [(.ref b29)]))
    have F_runs_29 : Fld Z h29 b29 "com/example/wyrd/wyrd/service/ExpectationEstimator" "runs" "J" (.long (0 : Int64)) := D29 (Or.inr (hw _ (List.mem_of_getElem? (i := 15) rfl))) (ty := .long) (by decide)
    have F_alpha_29 : Fld Z h29 b29 "com/example/wyrd/wyrd/service/ExpectationEstimator" "alpha" "D" (.double (0 : UInt64)) := D29 (Or.inr (hw _ (List.mem_of_getElem? (i := 17) rfl))) (ty := .double) (by decide)
    have F_recorded_29 : Fld Z h29 b29 "com/example/wyrd/wyrd/service/ExpectationEstimator" "recorded" "J" (.long (0 : Int64)) := D29 (Or.inl (hw _ (List.mem_of_getElem? (i := 24) rfl))) (ty := .long) (by decide)
    have F_mean_29 : Fld Z h29 b29 "com/example/wyrd/wyrd/service/ExpectationEstimator" "mean" "D" (.double (0 : UInt64)) := D29 (Or.inl (hw _ (List.mem_of_getElem? (i := 36) rfl))) (ty := .double) (by decide)
    have F_squares_29 : Fld Z h29 b29 "com/example/wyrd/wyrd/service/ExpectationEstimator" "squares" "D" (.double (0 : UInt64)) := D29 (Or.inl (hw _ (List.mem_of_getElem? (i := 38) rfl))) (ty := .double) (by decide)
    have Z1 : n0 ≤ h29.size := Nat.le_trans Z0 E29.1
    have gb : n0 ≤ b29 := g29 ▸ Z0
    refine Dn.of (fun tt_ zz_ => XS.dup X29.here hx rfl (hb hby at_49) rfl rfl zz_) ?_
    show Dn p e below s (own_Q n0) 16 128 (T29.setTop (mkF m 50 #[.val (.long i0), .second, .val (.int i1), .val (.int i2), .val (.int i3), .val (.long r), .second, .val (.double (own_al i2)), .second, .unset, .unset] [(.ref b29), (.ref b29)]))
    refine Dn.of (fun tt_ zz_ => XS.lload X29.here hx rfl (hb hby at_50) rfl zz_) ?_
    show Dn p e below s (own_Q n0) 16 128 (T29.setTop (mkF m 52 #[.val (.long i0), .second, .val (.int i1), .val (.int i2), .val (.int i3), .val (.long r), .second, .val (.double (own_al i2)), .second, .unset, .unset] [(.long r), (.ref b29), (.ref b29)]))
    refine Dn.of (fun tt_ zz_ => XS.dload X29.here hx rfl (hb hby at_52) rfl zz_) ?_
    show Dn p e below s (own_Q n0) 16 128 (T29.setTop (mkF m 54 #[.val (.long i0), .second, .val (.int i1), .val (.int i2), .val (.int i3), .val (.long r), .second, .val (.double (own_al i2)), .second, .unset, .unset] [(.double (own_al i2)), (.long r), (.ref b29), (.ref b29)]))
    obtain ⟨v30, T30, L30, Q30, X30, st30⟩ := cIn X29 hx hZ (y := (⟨"com/example/wyrd/wyrd/service/ExpectationEstimator", "<init>", "(JD)V"⟩ : MethodName)) rfl hown (hw _ (List.mem_of_getElem? (i := 7) rfl)) (hw _ (List.mem_of_getElem? (i := 8) rfl)) (hw _ (List.mem_of_getElem? (i := 6) rfl)) (hw _ (List.mem_of_getElem? (i := 9) rfl)) (by decide) (a := b29) (argsL := [(.long r), (.double (own_al i2))]) (rest := [(.ref b29)]) (rmI l Z a0 hw h29 n0 Z1 b29 r (own_al i2) A29 F_runs_29 F_alpha_29 F_recorded_29 F_mean_29 F_squares_29 gb c1 (own_al_1 i2) (own_al_2 i2)) e29  1 (by decide) (by decide) (by decide) (by decide) (g := (mkF m 54 #[.val (.long i0), .second, .val (.int i1), .val (.int i2), .val (.int i3), .val (.long r), .second, .val (.double (own_al i2)), .second, .unset, .unset] [(.double (own_al i2)), (.long r), (.ref b29), (.ref b29)])) rfl (by rw [hml]; rfl) (lenOf pd2 rfl) rfl (by show 2 * 0 + _ ≤ _; exact Nat.le_of_eq rfl) (hb hby at_54)
    obtain ⟨rfl, M1, K1, G0, G2, G3, G4⟩ := Q30
    refine Dn.of st30 ?_
    show Dn p e below s (own_Q n0) 16 128 (T30.setTop (mkF m 57 #[.val (.long i0), .second, .val (.int i1), .val (.int i2), .val (.int i3), .val (.long r), .second, .val (.double (own_al i2)), .second, .unset, .unset] [(.ref b29)]))
    have E1 := A29.keep K1
    have Z2 := Nat.le_trans Z1 K1.1
    refine Dn.of (fun tt_ zz_ => XS.astore X30.here hx rfl (hb hby at_57) rfl rfl (l' := #[.val (.long i0), .second, .val (.int i1), .val (.int i2), .val (.int i3), .val (.long r), .second, .val (.double (own_al i2)), .second, .val (.ref b29), .unset]) rfl zz_) ?_
    show Dn p e below s (own_Q n0) 16 128 (T30.setTop (mkF m 59 #[.val (.long i0), .second, .val (.int i1), .val (.int i2), .val (.int i3), .val (.long r), .second, .val (.double (own_al i2)), .second, .val (.ref b29), .unset] []))
    refine Dn.of (fun tt_ zz_ => XS.aload X30.here hx rfl (hb hby at_59) rfl rfl zz_) ?_
    show Dn p e below s (own_Q n0) 16 128 (T30.setTop (mkF m 61 #[.val (.long i0), .second, .val (.int i1), .val (.int i2), .val (.int i3), .val (.long r), .second, .val (.double (own_al i2)), .second, .val (.ref b29), .unset] [(.ref b29)]))
    obtain ⟨v31, T31, L31, Q31, X31, st31⟩ := cVi X30 hx hZ (C := "com/example/wyrd/wyrd/service/ExpectationEstimator") (y := (⟨"com/example/wyrd/wyrd/service/ExpectationEstimator", "isDone", "()Z"⟩ : MethodName)) (z := (⟨"com/example/wyrd/wyrd/service/ExpectationEstimator", "isDone", "()Z"⟩ : MethodName)) hown (hw _ (List.mem_of_getElem? (i := 18) rfl)) (hw _ (List.mem_of_getElem? (i := 19) rfl)) (notFace_of_selects (args := #[]) (mvT hZ (hw _ (List.mem_of_getElem? (i := 21) rfl)))) (hw _ (List.mem_of_getElem? (i := 21) rfl)) (hw _ (List.mem_of_getElem? (i := 20) rfl)) (hw _ (List.mem_of_getElem? (i := 6) rfl)) (hw _ (List.mem_of_getElem? (i := 22) rfl)) (by decide) (a := b29) (argsL := []) (rest := []) (rmD l Z a0 hw T30.heap n0 Z2 b29 0 r G0 G2) rfl E1 0 (by decide) (by decide) (by decide) (by decide) (g := (mkF m 61 #[.val (.long i0), .second, .val (.int i1), .val (.int i2), .val (.int i3), .val (.long r), .second, .val (.double (own_al i2)), .second, .val (.ref b29), .unset] [(.ref b29)])) rfl (by rw [hml]; rfl) (lenOf pd0 rfl) rfl (by show 2 * 0 + _ ≤ _; exact Nat.le_of_eq rfl) (hb hby at_61)
    obtain ⟨rfl, M2, e31⟩ := Q31
    refine Dn.of st31 ?_
    show Dn p e below s (own_Q n0) 16 128 (T31.setTop (mkF m 64 #[.val (.long i0), .second, .val (.int i1), .val (.int i2), .val (.int i3), .val (.long r), .second, .val (.double (own_al i2)), .second, .val (.ref b29), .unset] [(.int (own_done 0 r))]))
    have l1 : ¬ r < 1 := fun z => c1 (Int64.lt_trans z (by decide))
    have n0r : ¬ (0 : Int64) = r := by rintro rfl; exact c1 (by decide)
    have n1r : ¬ (1 : Int64) = r := by rintro rfl; exact c1 (by decide)
    refine Dn.of (fun tt_ zz_ => XS.ifNo X31.here hx rfl (hb hby at_64) rfl ((if0 _ _).trans (teq (if_neg n0r)).2) zz_) ?_
    show Dn p e below s (own_Q n0) 16 128 (T31.setTop (mkF m 67 #[.val (.long i0), .second, .val (.int i1), .val (.int i2), .val (.int i3), .val (.long r), .second, .val (.double (own_al i2)), .second, .val (.ref b29), .unset] []))
    refine Dn.of (fun tt_ zz_ => XS.iconst X31.here hx rfl (hb hby at_67) zz_) ?_
    show Dn p e below s (own_Q n0) 16 128 (T31.setTop (mkF m 68 #[.val (.long i0), .second, .val (.int i1), .val (.int i2), .val (.int i3), .val (.long r), .second, .val (.double (own_al i2)), .second, .val (.ref b29), .unset] [(.int (1 : Int32))]))
    refine Dn.of (fun tt_ zz_ => XS.goto X31.here hx rfl (pc0 := 68) (pc' := 72) rfl (hb hby at_68) (by decide) (by decide) zz_) ?_
    show Dn p e below s (own_Q n0) 16 128 (T31.setTop (mkF m 72 #[.val (.long i0), .second, .val (.int i1), .val (.int i2), .val (.int i3), .val (.long r), .second, .val (.double (own_al i2)), .second, .val (.ref b29), .unset] [(.int (1 : Int32))]))
    refine Dn.of (fun tt_ zz_ => XS.istore X31.here hx rfl (hb hby at_72) rfl (l' := #[.val (.long i0), .second, .val (.int i1), .val (.int i2), .val (.int i3), .val (.long r), .second, .val (.double (own_al i2)), .second, .val (.ref b29), .val (.int (1 : Int32))]) rfl zz_) ?_
    show Dn p e below s (own_Q n0) 16 128 (T31.setTop (mkF m 74 #[.val (.long i0), .second, .val (.int i1), .val (.int i2), .val (.int i3), .val (.long r), .second, .val (.double (own_al i2)), .second, .val (.ref b29), .val (.int (1 : Int32))] []))
    refine Dn.of (fun tt_ zz_ => XS.iload X31.here hx rfl (hb hby at_74) rfl zz_) ?_
    show Dn p e below s (own_Q n0) 16 128 (T31.setTop (mkF m 76 #[.val (.long i0), .second, .val (.int i1), .val (.int i2), .val (.int i3), .val (.long r), .second, .val (.double (own_al i2)), .second, .val (.ref b29), .val (.int (1 : Int32))] [(.int (1 : Int32))]))
    refine Dn.of (fun tt_ zz_ => XS.ifNo X31.here hx rfl (hb hby at_76) rfl ((if0 _ _).trans (feq (by decide)).1) zz_) ?_
    show Dn p e below s (own_Q n0) 16 128 (T31.setTop (mkF m 79 #[.val (.long i0), .second, .val (.int i1), .val (.int i2), .val (.int i3), .val (.long r), .second, .val (.double (own_al i2)), .second, .val (.ref b29), .val (.int (1 : Int32))] []))
    refine Dn.of (fun tt_ zz_ => XS.aload X31.here hx rfl (hb hby at_79) rfl rfl zz_) ?_
    show Dn p e below s (own_Q n0) 16 128 (T31.setTop (mkF m 81 #[.val (.long i0), .second, .val (.int i1), .val (.int i2), .val (.int i3), .val (.long r), .second, .val (.double (own_al i2)), .second, .val (.ref b29), .val (.int (1 : Int32))] [(.ref b29)]))
    refine Dn.of (fun tt_ zz_ => XS.lconst X31.here hx rfl (hb hby at_81) zz_) ?_
    show Dn p e below s (own_Q n0) 16 128 (T31.setTop (mkF m 82 #[.val (.long i0), .second, .val (.int i1), .val (.int i2), .val (.int i3), .val (.long r), .second, .val (.double (own_al i2)), .second, .val (.ref b29), .val (.int (1 : Int32))] [(.long (1 : Int64)), (.ref b29)]))
    refine Dn.of (fun tt_ zz_ => XS.lload X31.here hx rfl (hb hby at_82) rfl zz_) ?_
    show Dn p e below s (own_Q n0) 16 128 (T31.setTop (mkF m 84 #[.val (.long i0), .second, .val (.int i1), .val (.int i2), .val (.int i3), .val (.long r), .second, .val (.double (own_al i2)), .second, .val (.ref b29), .val (.int (1 : Int32))] [(.long r), (.long (1 : Int64)), (.ref b29)]))
    refine Dn.of (fun tt_ zz_ => XS.iload X31.here hx rfl (hb hby at_84) rfl zz_) ?_
    show Dn p e below s (own_Q n0) 16 128 (T31.setTop (mkF m 86 #[.val (.long i0), .second, .val (.int i1), .val (.int i2), .val (.int i3), .val (.long r), .second, .val (.double (own_al i2)), .second, .val (.ref b29), .val (.int (1 : Int32))] [(.int i3), (.long r), (.long (1 : Int64)), (.ref b29)]))
    refine Dn.of (fun tt_ zz_ => XS.i2dS X31.here hx rfl (v := FP.i2d i3) (hb hby at_86) rfl rfl zz_) ?_
    show Dn p e below s (own_Q n0) 16 128 (T31.setTop (mkF m 87 #[.val (.long i0), .second, .val (.int i1), .val (.int i2), .val (.int i3), .val (.long r), .second, .val (.double (own_al i2)), .second, .val (.ref b29), .val (.int (1 : Int32))] [(.double (FP.i2d i3)), (.long r), (.long (1 : Int64)), (.ref b29)]))
    have NN := Fr.app (Fr.app N9 M1) M2
    obtain ⟨v32, T32, L32, Q32, X32, st32⟩ := cSt X31 hx hZ (y := (⟨"com/example/wyrd/wyrd/service/ExpectationEstimatorIsDonePinLaw", "step", "(Lcom/example/wyrd/wyrd/service/ExpectationEstimator;JJD)Z"⟩ : MethodName)) hown (hw _ (List.mem_of_getElem? (i := 25) rfl)) (hw _ (List.mem_of_getElem? (i := 26) rfl)) (hw _ (List.mem_of_getElem? (i := 27) rfl)) (hw _ (List.mem_of_getElem? (i := 28) rfl)) (by decide) (argsL := [(.ref b29), (.long (1 : Int64)), (.long r), (.double (FP.i2d i3))]) (rest := []) (rmS1 l Z a0 hw T30.heap n0 Z2 b29 0 r (0 : UInt64) (0 : UInt64) E1 G0 G2 G3 G4 (FP.i2d i3) 1056 1187 (i2d_mag _) own_mag0 (own_mag0.mono (by decide)) (by decide) (by decide) (by decide) gb n0r (by decide) 1 (by decide) l1) e31  0 (by decide) (by decide) (by decide) (by decide) (g := (mkF m 87 #[.val (.long i0), .second, .val (.int i1), .val (.int i2), .val (.int i3), .val (.long r), .second, .val (.double (own_al i2)), .second, .val (.ref b29), .val (.int (1 : Int32))] [(.double (FP.i2d i3)), (.long r), (.long (1 : Int64)), (.ref b29)])) rfl (by rw [hml]; rfl) (lenOf pd3 rfl) rfl (by show 2 * 0 + _ ≤ _; exact Nat.le_of_eq rfl) (hb hby at_87)
    obtain ⟨rfl, Ms1, Ks1, Ga1, Gb1, mu1, sq1, Gc1, Gd1, ma1, mb1⟩ := Q32
    refine Dn.of st32 ?_
    show Dn p e below s (own_Q n0) 16 128 (T32.setTop (mkF m 90 #[.val (.long i0), .second, .val (.int i1), .val (.int i2), .val (.int i3), .val (.long r), .second, .val (.double (own_al i2)), .second, .val (.ref b29), .val (.int (1 : Int32))] [(.int (1 : Int32))]))
    have Ee1 := E1.keep Ks1
    have Zz1 := Nat.le_trans Z2 Ks1.1
    have Nn1 := Fr.app NN Ms1
    refine Dn.of (fun tt_ zz_ => XS.ifNo X32.here hx rfl (hb hby at_90) rfl ((if0 _ _).trans (feq (by decide)).1) zz_) ?_
    show Dn p e below s (own_Q n0) 16 128 (T32.setTop (mkF m 93 #[.val (.long i0), .second, .val (.int i1), .val (.int i2), .val (.int i3), .val (.long r), .second, .val (.double (own_al i2)), .second, .val (.ref b29), .val (.int (1 : Int32))] []))
    refine Dn.of (fun tt_ zz_ => XS.iconst X32.here hx rfl (hb hby at_93) zz_) ?_
    show Dn p e below s (own_Q n0) 16 128 (T32.setTop (mkF m 94 #[.val (.long i0), .second, .val (.int i1), .val (.int i2), .val (.int i3), .val (.long r), .second, .val (.double (own_al i2)), .second, .val (.ref b29), .val (.int (1 : Int32))] [(.int (1 : Int32))]))
    refine Dn.of (fun tt_ zz_ => XS.goto X32.here hx rfl (pc0 := 94) (pc' := 98) rfl (hb hby at_94) (by decide) (by decide) zz_) ?_
    show Dn p e below s (own_Q n0) 16 128 (T32.setTop (mkF m 98 #[.val (.long i0), .second, .val (.int i1), .val (.int i2), .val (.int i3), .val (.long r), .second, .val (.double (own_al i2)), .second, .val (.ref b29), .val (.int (1 : Int32))] [(.int (1 : Int32))]))
    refine Dn.of (fun tt_ zz_ => XS.istore X32.here hx rfl (hb hby at_98) rfl (l' := #[.val (.long i0), .second, .val (.int i1), .val (.int i2), .val (.int i3), .val (.long r), .second, .val (.double (own_al i2)), .second, .val (.ref b29), .val (.int (1 : Int32))]) rfl zz_) ?_
    show Dn p e below s (own_Q n0) 16 128 (T32.setTop (mkF m 100 #[.val (.long i0), .second, .val (.int i1), .val (.int i2), .val (.int i3), .val (.long r), .second, .val (.double (own_al i2)), .second, .val (.ref b29), .val (.int (1 : Int32))] []))
    refine Dn.of (fun tt_ zz_ => XS.iload X32.here hx rfl (hb hby at_100) rfl zz_) ?_
    show Dn p e below s (own_Q n0) 16 128 (T32.setTop (mkF m 102 #[.val (.long i0), .second, .val (.int i1), .val (.int i2), .val (.int i3), .val (.long r), .second, .val (.double (own_al i2)), .second, .val (.ref b29), .val (.int (1 : Int32))] [(.int (1 : Int32))]))
    refine Dn.of (fun tt_ zz_ => XS.ifNo X32.here hx rfl (hb hby at_102) rfl ((if0 _ _).trans (feq (by decide)).1) zz_) ?_
    show Dn p e below s (own_Q n0) 16 128 (T32.setTop (mkF m 105 #[.val (.long i0), .second, .val (.int i1), .val (.int i2), .val (.int i3), .val (.long r), .second, .val (.double (own_al i2)), .second, .val (.ref b29), .val (.int (1 : Int32))] []))
    refine Dn.of (fun tt_ zz_ => XS.aload X32.here hx rfl (hb hby at_105) rfl rfl zz_) ?_
    show Dn p e below s (own_Q n0) 16 128 (T32.setTop (mkF m 107 #[.val (.long i0), .second, .val (.int i1), .val (.int i2), .val (.int i3), .val (.long r), .second, .val (.double (own_al i2)), .second, .val (.ref b29), .val (.int (1 : Int32))] [(.ref b29)]))
    refine Dn.of (fun tt_ zz_ => X32.ldc2J hx hown (mvT hZ (hw _ (List.mem_of_getElem? (i := 0) rfl))) rfl (hb hby at_107) zz_) ?_
    show Dn p e below s (own_Q n0) 16 128 (T32.setTop (mkF m 110 #[.val (.long i0), .second, .val (.int i1), .val (.int i2), .val (.int i3), .val (.long r), .second, .val (.double (own_al i2)), .second, .val (.ref b29), .val (.int (1 : Int32))] [(.long (2 : Int64)), (.ref b29)]))
    refine Dn.of (fun tt_ zz_ => XS.lload X32.here hx rfl (hb hby at_110) rfl zz_) ?_
    show Dn p e below s (own_Q n0) 16 128 (T32.setTop (mkF m 112 #[.val (.long i0), .second, .val (.int i1), .val (.int i2), .val (.int i3), .val (.long r), .second, .val (.double (own_al i2)), .second, .val (.ref b29), .val (.int (1 : Int32))] [(.long r), (.long (2 : Int64)), (.ref b29)]))
    refine Dn.of (fun tt_ zz_ => XS.iload X32.here hx rfl (hb hby at_112) rfl zz_) ?_
    show Dn p e below s (own_Q n0) 16 128 (T32.setTop (mkF m 114 #[.val (.long i0), .second, .val (.int i1), .val (.int i2), .val (.int i3), .val (.long r), .second, .val (.double (own_al i2)), .second, .val (.ref b29), .val (.int (1 : Int32))] [(.int i3), (.long r), (.long (2 : Int64)), (.ref b29)]))
    refine Dn.of (fun tt_ zz_ => XS.bipush X32.here hx rfl (hb hby at_114) zz_) ?_
    show Dn p e below s (own_Q n0) 16 128 (T32.setTop (mkF m 116 #[.val (.long i0), .second, .val (.int i1), .val (.int i2), .val (.int i3), .val (.long r), .second, .val (.double (own_al i2)), .second, .val (.ref b29), .val (.int (1 : Int32))] [(.int (7 : Int32)), (.int i3), (.long r), (.long (2 : Int64)), (.ref b29)]))
    refine Dn.of (fun tt_ zz_ => XS.ishr X32.here hx rfl (hb hby at_116) rfl zz_) ?_
    show Dn p e below s (own_Q n0) 16 128 (T32.setTop (mkF m 117 #[.val (.long i0), .second, .val (.int i1), .val (.int i2), .val (.int i3), .val (.long r), .second, .val (.double (own_al i2)), .second, .val (.ref b29), .val (.int (1 : Int32))] [(.int (i3 >>> ((7 : Int32) &&& 31))), (.long r), (.long (2 : Int64)), (.ref b29)]))
    refine Dn.of (fun tt_ zz_ => XS.i2dS X32.here hx rfl (v := FP.i2d (i3 >>> ((7 : Int32) &&& 31))) (hb hby at_117) rfl rfl zz_) ?_
    show Dn p e below s (own_Q n0) 16 128 (T32.setTop (mkF m 118 #[.val (.long i0), .second, .val (.int i1), .val (.int i2), .val (.int i3), .val (.long r), .second, .val (.double (own_al i2)), .second, .val (.ref b29), .val (.int (1 : Int32))] [(.double (FP.i2d (i3 >>> ((7 : Int32) &&& 31)))), (.long r), (.long (2 : Int64)), (.ref b29)]))
    obtain ⟨v33, T33, L33, Q33, X33, st33⟩ := cSt X32 hx hZ (y := (⟨"com/example/wyrd/wyrd/service/ExpectationEstimatorIsDonePinLaw", "step", "(Lcom/example/wyrd/wyrd/service/ExpectationEstimator;JJD)Z"⟩ : MethodName)) hown (hw _ (List.mem_of_getElem? (i := 25) rfl)) (hw _ (List.mem_of_getElem? (i := 26) rfl)) (hw _ (List.mem_of_getElem? (i := 27) rfl)) (hw _ (List.mem_of_getElem? (i := 28) rfl)) (by decide) (argsL := [(.ref b29), (.long (2 : Int64)), (.long r), (.double (FP.i2d (i3 >>> ((7 : Int32) &&& 31))))]) (rest := []) (rmS1 l Z a0 hw T32.heap n0 Zz1 b29 1 r mu1 sq1 Ee1 Ga1 Gb1 Gc1 Gd1 (FP.i2d (i3 >>> ((7 : Int32) &&& 31))) 1061 1189 ((i2d_mag _).mono (by decide)) ma1 mb1 (by decide) (by decide) (by decide) gb n1r (by decide) 2 (by decide) c1) rfl  0 (by decide) (by decide) (by decide) (by decide) (g := (mkF m 118 #[.val (.long i0), .second, .val (.int i1), .val (.int i2), .val (.int i3), .val (.long r), .second, .val (.double (own_al i2)), .second, .val (.ref b29), .val (.int (1 : Int32))] [(.double (FP.i2d (i3 >>> ((7 : Int32) &&& 31)))), (.long r), (.long (2 : Int64)), (.ref b29)])) rfl (by rw [hml]; rfl) (lenOf pd3 rfl) rfl (by show 2 * 0 + _ ≤ _; exact Nat.le_of_eq rfl) (hb hby at_118)
    obtain ⟨rfl, Ms2, Ks2, Ga2, Gb2, mu2, sq2, Gc2, Gd2, ma2, mb2⟩ := Q33
    refine Dn.of st33 ?_
    show Dn p e below s (own_Q n0) 16 128 (T33.setTop (mkF m 121 #[.val (.long i0), .second, .val (.int i1), .val (.int i2), .val (.int i3), .val (.long r), .second, .val (.double (own_al i2)), .second, .val (.ref b29), .val (.int (1 : Int32))] [(.int (1 : Int32))]))
    have Ee2 := Ee1.keep Ks2
    have Zz2 := Nat.le_trans Zz1 Ks2.1
    have Nn2 := Fr.app Nn1 Ms2
    refine Dn.of (fun tt_ zz_ => XS.ifNo X33.here hx rfl (hb hby at_121) rfl ((if0 _ _).trans (feq (by decide)).1) zz_) ?_
    show Dn p e below s (own_Q n0) 16 128 (T33.setTop (mkF m 124 #[.val (.long i0), .second, .val (.int i1), .val (.int i2), .val (.int i3), .val (.long r), .second, .val (.double (own_al i2)), .second, .val (.ref b29), .val (.int (1 : Int32))] []))
    refine Dn.of (fun tt_ zz_ => XS.iconst X33.here hx rfl (hb hby at_124) zz_) ?_
    show Dn p e below s (own_Q n0) 16 128 (T33.setTop (mkF m 125 #[.val (.long i0), .second, .val (.int i1), .val (.int i2), .val (.int i3), .val (.long r), .second, .val (.double (own_al i2)), .second, .val (.ref b29), .val (.int (1 : Int32))] [(.int (1 : Int32))]))
    refine Dn.of (fun tt_ zz_ => XS.goto X33.here hx rfl (pc0 := 125) (pc' := 129) rfl (hb hby at_125) (by decide) (by decide) zz_) ?_
    show Dn p e below s (own_Q n0) 16 128 (T33.setTop (mkF m 129 #[.val (.long i0), .second, .val (.int i1), .val (.int i2), .val (.int i3), .val (.long r), .second, .val (.double (own_al i2)), .second, .val (.ref b29), .val (.int (1 : Int32))] [(.int (1 : Int32))]))
    refine Dn.of (fun tt_ zz_ => XS.istore X33.here hx rfl (hb hby at_129) rfl (l' := #[.val (.long i0), .second, .val (.int i1), .val (.int i2), .val (.int i3), .val (.long r), .second, .val (.double (own_al i2)), .second, .val (.ref b29), .val (.int (1 : Int32))]) rfl zz_) ?_
    show Dn p e below s (own_Q n0) 16 128 (T33.setTop (mkF m 131 #[.val (.long i0), .second, .val (.int i1), .val (.int i2), .val (.int i3), .val (.long r), .second, .val (.double (own_al i2)), .second, .val (.ref b29), .val (.int (1 : Int32))] []))
    refine Dn.of (fun tt_ zz_ => XS.iload X33.here hx rfl (hb hby at_131) rfl zz_) ?_
    show Dn p e below s (own_Q n0) 16 128 (T33.setTop (mkF m 133 #[.val (.long i0), .second, .val (.int i1), .val (.int i2), .val (.int i3), .val (.long r), .second, .val (.double (own_al i2)), .second, .val (.ref b29), .val (.int (1 : Int32))] [(.int (1 : Int32))]))
    refine Dn.of (fun tt_ zz_ => XS.ifNo X33.here hx rfl (hb hby at_133) rfl ((if0 _ _).trans (feq (by decide)).1) zz_) ?_
    show Dn p e below s (own_Q n0) 16 128 (T33.setTop (mkF m 136 #[.val (.long i0), .second, .val (.int i1), .val (.int i2), .val (.int i3), .val (.long r), .second, .val (.double (own_al i2)), .second, .val (.ref b29), .val (.int (1 : Int32))] []))
    refine Dn.of (fun tt_ zz_ => XS.aload X33.here hx rfl (hb hby at_136) rfl rfl zz_) ?_
    show Dn p e below s (own_Q n0) 16 128 (T33.setTop (mkF m 138 #[.val (.long i0), .second, .val (.int i1), .val (.int i2), .val (.int i3), .val (.long r), .second, .val (.double (own_al i2)), .second, .val (.ref b29), .val (.int (1 : Int32))] [(.ref b29)]))
    refine Dn.of (fun tt_ zz_ => X33.ldc2J hx hown (mvT hZ (hw _ (List.mem_of_getElem? (i := 2) rfl))) rfl (hb hby at_138) zz_) ?_
    show Dn p e below s (own_Q n0) 16 128 (T33.setTop (mkF m 141 #[.val (.long i0), .second, .val (.int i1), .val (.int i2), .val (.int i3), .val (.long r), .second, .val (.double (own_al i2)), .second, .val (.ref b29), .val (.int (1 : Int32))] [(.long (3 : Int64)), (.ref b29)]))
    refine Dn.of (fun tt_ zz_ => XS.lload X33.here hx rfl (hb hby at_141) rfl zz_) ?_
    show Dn p e below s (own_Q n0) 16 128 (T33.setTop (mkF m 143 #[.val (.long i0), .second, .val (.int i1), .val (.int i2), .val (.int i3), .val (.long r), .second, .val (.double (own_al i2)), .second, .val (.ref b29), .val (.int (1 : Int32))] [(.long r), (.long (3 : Int64)), (.ref b29)]))
    refine Dn.of (fun tt_ zz_ => XS.iload X33.here hx rfl (hb hby at_143) rfl zz_) ?_
    show Dn p e below s (own_Q n0) 16 128 (T33.setTop (mkF m 145 #[.val (.long i0), .second, .val (.int i1), .val (.int i2), .val (.int i3), .val (.long r), .second, .val (.double (own_al i2)), .second, .val (.ref b29), .val (.int (1 : Int32))] [(.int i3), (.long r), (.long (3 : Int64)), (.ref b29)]))
    refine Dn.of (fun tt_ zz_ => XS.iloadN X33.here hx rfl (hb hby at_145) rfl zz_) ?_
    show Dn p e below s (own_Q n0) 16 128 (T33.setTop (mkF m 146 #[.val (.long i0), .second, .val (.int i1), .val (.int i2), .val (.int i3), .val (.long r), .second, .val (.double (own_al i2)), .second, .val (.ref b29), .val (.int (1 : Int32))] [(.int i1), (.int i3), (.long r), (.long (3 : Int64)), (.ref b29)]))
    refine Dn.of (fun tt_ zz_ => XS.ixor X33.here hx rfl (hb hby at_146) rfl zz_) ?_
    show Dn p e below s (own_Q n0) 16 128 (T33.setTop (mkF m 147 #[.val (.long i0), .second, .val (.int i1), .val (.int i2), .val (.int i3), .val (.long r), .second, .val (.double (own_al i2)), .second, .val (.ref b29), .val (.int (1 : Int32))] [(.int (i3 ^^^ i1)), (.long r), (.long (3 : Int64)), (.ref b29)]))
    refine Dn.of (fun tt_ zz_ => XS.i2dS X33.here hx rfl (v := FP.i2d (i3 ^^^ i1)) (hb hby at_147) rfl rfl zz_) ?_
    show Dn p e below s (own_Q n0) 16 128 (T33.setTop (mkF m 148 #[.val (.long i0), .second, .val (.int i1), .val (.int i2), .val (.int i3), .val (.long r), .second, .val (.double (own_al i2)), .second, .val (.ref b29), .val (.int (1 : Int32))] [(.double (FP.i2d (i3 ^^^ i1))), (.long r), (.long (3 : Int64)), (.ref b29)]))
    by_cases q3 : r < 3
    · skip
      obtain ⟨v34, T34, L34, Q34, X34, st34⟩ := cSt X33 hx hZ (y := (⟨"com/example/wyrd/wyrd/service/ExpectationEstimatorIsDonePinLaw", "step", "(Lcom/example/wyrd/wyrd/service/ExpectationEstimator;JJD)Z"⟩ : MethodName)) hown (hw _ (List.mem_of_getElem? (i := 25) rfl)) (hw _ (List.mem_of_getElem? (i := 26) rfl)) (hw _ (List.mem_of_getElem? (i := 27) rfl)) (hw _ (List.mem_of_getElem? (i := 28) rfl)) (by decide) (argsL := [(.ref b29), (.long (3 : Int64)), (.long r), (.double (FP.i2d (i3 ^^^ i1)))]) (rest := []) (rmS0 l Z a0 hw T33.heap n0 Zz2 b29 3 r (FP.i2d (i3 ^^^ i1)) q3) rfl  0 (by decide) (by decide) (by decide) (by decide) (g := (mkF m 148 #[.val (.long i0), .second, .val (.int i1), .val (.int i2), .val (.int i3), .val (.long r), .second, .val (.double (own_al i2)), .second, .val (.ref b29), .val (.int (1 : Int32))] [(.double (FP.i2d (i3 ^^^ i1))), (.long r), (.long (3 : Int64)), (.ref b29)])) rfl (by rw [hml]; rfl) (lenOf pd3 rfl) rfl (by show 2 * 0 + _ ≤ _; exact Nat.le_of_eq rfl) (hb hby at_148)
      obtain ⟨rfl, Ms3, e34⟩ := Q34
      refine Dn.of st34 ?_
      show Dn p e below s (own_Q n0) 16 128 (T34.setTop (mkF m 151 #[.val (.long i0), .second, .val (.int i1), .val (.int i2), .val (.int i3), .val (.long r), .second, .val (.double (own_al i2)), .second, .val (.ref b29), .val (.int (1 : Int32))] [(.int (1 : Int32))]))
      have Nn3 := Fr.app Nn2 Ms3
      refine Dn.of (fun tt_ zz_ => XS.ifNo X34.here hx rfl (hb hby at_151) rfl ((if0 _ _).trans (feq (by decide)).1) zz_) ?_
      show Dn p e below s (own_Q n0) 16 128 (T34.setTop (mkF m 154 #[.val (.long i0), .second, .val (.int i1), .val (.int i2), .val (.int i3), .val (.long r), .second, .val (.double (own_al i2)), .second, .val (.ref b29), .val (.int (1 : Int32))] []))
      refine Dn.of (fun tt_ zz_ => XS.iconst X34.here hx rfl (hb hby at_154) zz_) ?_
      show Dn p e below s (own_Q n0) 16 128 (T34.setTop (mkF m 155 #[.val (.long i0), .second, .val (.int i1), .val (.int i2), .val (.int i3), .val (.long r), .second, .val (.double (own_al i2)), .second, .val (.ref b29), .val (.int (1 : Int32))] [(.int (1 : Int32))]))
      refine Dn.of (fun tt_ zz_ => XS.goto X34.here hx rfl (pc0 := 155) (pc' := 159) rfl (hb hby at_155) (by decide) (by decide) zz_) ?_
      show Dn p e below s (own_Q n0) 16 128 (T34.setTop (mkF m 159 #[.val (.long i0), .second, .val (.int i1), .val (.int i2), .val (.int i3), .val (.long r), .second, .val (.double (own_al i2)), .second, .val (.ref b29), .val (.int (1 : Int32))] [(.int (1 : Int32))]))
      refine Dn.of (fun tt_ zz_ => XS.istore X34.here hx rfl (hb hby at_159) rfl (l' := #[.val (.long i0), .second, .val (.int i1), .val (.int i2), .val (.int i3), .val (.long r), .second, .val (.double (own_al i2)), .second, .val (.ref b29), .val (.int (1 : Int32))]) rfl zz_) ?_
      show Dn p e below s (own_Q n0) 16 128 (T34.setTop (mkF m 161 #[.val (.long i0), .second, .val (.int i1), .val (.int i2), .val (.int i3), .val (.long r), .second, .val (.double (own_al i2)), .second, .val (.ref b29), .val (.int (1 : Int32))] []))
      refine Dn.of (fun tt_ zz_ => XS.iload X34.here hx rfl (hb hby at_161) rfl zz_) ?_
      show Dn p e below s (own_Q n0) 16 128 (T34.setTop (mkF m 163 #[.val (.long i0), .second, .val (.int i1), .val (.int i2), .val (.int i3), .val (.long r), .second, .val (.double (own_al i2)), .second, .val (.ref b29), .val (.int (1 : Int32))] [(.int (1 : Int32))]))
      refine Dn.of (fun tt_ zz_ => XS.ifNo X34.here hx rfl (hb hby at_163) rfl ((if0 _ _).trans (feq (by decide)).1) zz_) ?_
      show Dn p e below s (own_Q n0) 16 128 (T34.setTop (mkF m 166 #[.val (.long i0), .second, .val (.int i1), .val (.int i2), .val (.int i3), .val (.long r), .second, .val (.double (own_al i2)), .second, .val (.ref b29), .val (.int (1 : Int32))] []))
      refine Dn.of (fun tt_ zz_ => XS.aload X34.here hx rfl (hb hby at_166) rfl rfl zz_) ?_
      show Dn p e below s (own_Q n0) 16 128 (T34.setTop (mkF m 168 #[.val (.long i0), .second, .val (.int i1), .val (.int i2), .val (.int i3), .val (.long r), .second, .val (.double (own_al i2)), .second, .val (.ref b29), .val (.int (1 : Int32))] [(.ref b29)]))
      refine Dn.of (fun tt_ zz_ => X34.ldc2J hx hown (mvT hZ (hw _ (List.mem_of_getElem? (i := 39) rfl))) rfl (hb hby at_168) zz_) ?_
      show Dn p e below s (own_Q n0) 16 128 (T34.setTop (mkF m 171 #[.val (.long i0), .second, .val (.int i1), .val (.int i2), .val (.int i3), .val (.long r), .second, .val (.double (own_al i2)), .second, .val (.ref b29), .val (.int (1 : Int32))] [(.long (4 : Int64)), (.ref b29)]))
      refine Dn.of (fun tt_ zz_ => XS.lload X34.here hx rfl (hb hby at_171) rfl zz_) ?_
      show Dn p e below s (own_Q n0) 16 128 (T34.setTop (mkF m 173 #[.val (.long i0), .second, .val (.int i1), .val (.int i2), .val (.int i3), .val (.long r), .second, .val (.double (own_al i2)), .second, .val (.ref b29), .val (.int (1 : Int32))] [(.long r), (.long (4 : Int64)), (.ref b29)]))
      refine Dn.of (fun tt_ zz_ => XS.iloadN X34.here hx rfl (hb hby at_173) rfl zz_) ?_
      show Dn p e below s (own_Q n0) 16 128 (T34.setTop (mkF m 174 #[.val (.long i0), .second, .val (.int i1), .val (.int i2), .val (.int i3), .val (.long r), .second, .val (.double (own_al i2)), .second, .val (.ref b29), .val (.int (1 : Int32))] [(.int i2), (.long r), (.long (4 : Int64)), (.ref b29)]))
      refine Dn.of (fun tt_ zz_ => XS.iload X34.here hx rfl (hb hby at_174) rfl zz_) ?_
      show Dn p e below s (own_Q n0) 16 128 (T34.setTop (mkF m 176 #[.val (.long i0), .second, .val (.int i1), .val (.int i2), .val (.int i3), .val (.long r), .second, .val (.double (own_al i2)), .second, .val (.ref b29), .val (.int (1 : Int32))] [(.int i3), (.int i2), (.long r), (.long (4 : Int64)), (.ref b29)]))
      refine Dn.of (fun tt_ zz_ => XS.isub X34.here hx rfl (hb hby at_176) rfl zz_) ?_
      show Dn p e below s (own_Q n0) 16 128 (T34.setTop (mkF m 177 #[.val (.long i0), .second, .val (.int i1), .val (.int i2), .val (.int i3), .val (.long r), .second, .val (.double (own_al i2)), .second, .val (.ref b29), .val (.int (1 : Int32))] [(.int (i2 - i3)), (.long r), (.long (4 : Int64)), (.ref b29)]))
      refine Dn.of (fun tt_ zz_ => XS.i2dS X34.here hx rfl (v := FP.i2d (i2 - i3)) (hb hby at_177) rfl rfl zz_) ?_
      show Dn p e below s (own_Q n0) 16 128 (T34.setTop (mkF m 178 #[.val (.long i0), .second, .val (.int i1), .val (.int i2), .val (.int i3), .val (.long r), .second, .val (.double (own_al i2)), .second, .val (.ref b29), .val (.int (1 : Int32))] [(.double (FP.i2d (i2 - i3))), (.long r), (.long (4 : Int64)), (.ref b29)]))
      obtain ⟨v35, T35, L35, Q35, X35, st35⟩ := cSt X34 hx hZ (y := (⟨"com/example/wyrd/wyrd/service/ExpectationEstimatorIsDonePinLaw", "step", "(Lcom/example/wyrd/wyrd/service/ExpectationEstimator;JJD)Z"⟩ : MethodName)) hown (hw _ (List.mem_of_getElem? (i := 25) rfl)) (hw _ (List.mem_of_getElem? (i := 26) rfl)) (hw _ (List.mem_of_getElem? (i := 27) rfl)) (hw _ (List.mem_of_getElem? (i := 28) rfl)) (by decide) (argsL := [(.ref b29), (.long (4 : Int64)), (.long r), (.double (FP.i2d (i2 - i3)))]) (rest := []) (rmS0 l Z a0 hw T33.heap n0 Zz2 b29 4 r (FP.i2d (i2 - i3)) (Int64.lt_trans q3 (by decide))) e34  0 (by decide) (by decide) (by decide) (by decide) (g := (mkF m 178 #[.val (.long i0), .second, .val (.int i1), .val (.int i2), .val (.int i3), .val (.long r), .second, .val (.double (own_al i2)), .second, .val (.ref b29), .val (.int (1 : Int32))] [(.double (FP.i2d (i2 - i3))), (.long r), (.long (4 : Int64)), (.ref b29)])) rfl (by rw [hml]; rfl) (lenOf pd3 rfl) rfl (by show 2 * 0 + _ ≤ _; exact Nat.le_of_eq rfl) (hb hby at_178)
      obtain ⟨rfl, Ms4, e35⟩ := Q35
      refine Dn.of st35 ?_
      show Dn p e below s (own_Q n0) 16 128 (T35.setTop (mkF m 181 #[.val (.long i0), .second, .val (.int i1), .val (.int i2), .val (.int i3), .val (.long r), .second, .val (.double (own_al i2)), .second, .val (.ref b29), .val (.int (1 : Int32))] [(.int (1 : Int32))]))
      have Nn4 := Fr.app Nn3 Ms4
      refine Dn.of (fun tt_ zz_ => XS.ifNo X35.here hx rfl (hb hby at_181) rfl ((if0 _ _).trans (feq (by decide)).1) zz_) ?_
      show Dn p e below s (own_Q n0) 16 128 (T35.setTop (mkF m 184 #[.val (.long i0), .second, .val (.int i1), .val (.int i2), .val (.int i3), .val (.long r), .second, .val (.double (own_al i2)), .second, .val (.ref b29), .val (.int (1 : Int32))] []))
      refine Dn.of (fun tt_ zz_ => XS.iconst X35.here hx rfl (hb hby at_184) zz_) ?_
      show Dn p e below s (own_Q n0) 16 128 (T35.setTop (mkF m 185 #[.val (.long i0), .second, .val (.int i1), .val (.int i2), .val (.int i3), .val (.long r), .second, .val (.double (own_al i2)), .second, .val (.ref b29), .val (.int (1 : Int32))] [(.int (1 : Int32))]))
      refine Dn.of (fun tt_ zz_ => XS.goto X35.here hx rfl (pc0 := 185) (pc' := 189) rfl (hb hby at_185) (by decide) (by decide) zz_) ?_
      show Dn p e below s (own_Q n0) 16 128 (T35.setTop (mkF m 189 #[.val (.long i0), .second, .val (.int i1), .val (.int i2), .val (.int i3), .val (.long r), .second, .val (.double (own_al i2)), .second, .val (.ref b29), .val (.int (1 : Int32))] [(.int (1 : Int32))]))
      refine Dn.of (fun tt_ zz_ => XS.istore X35.here hx rfl (hb hby at_189) rfl (l' := #[.val (.long i0), .second, .val (.int i1), .val (.int i2), .val (.int i3), .val (.long r), .second, .val (.double (own_al i2)), .second, .val (.ref b29), .val (.int (1 : Int32))]) rfl zz_) ?_
      show Dn p e below s (own_Q n0) 16 128 (T35.setTop (mkF m 191 #[.val (.long i0), .second, .val (.int i1), .val (.int i2), .val (.int i3), .val (.long r), .second, .val (.double (own_al i2)), .second, .val (.ref b29), .val (.int (1 : Int32))] []))
      refine Dn.of (fun tt_ zz_ => XS.iload X35.here hx rfl (hb hby at_191) rfl zz_) ?_
      show Dn p e below s (own_Q n0) 16 128 (T35.setTop (mkF m 193 #[.val (.long i0), .second, .val (.int i1), .val (.int i2), .val (.int i3), .val (.long r), .second, .val (.double (own_al i2)), .second, .val (.ref b29), .val (.int (1 : Int32))] [(.int (1 : Int32))]))
      exact Dn.retN X35 hx hlk (t := .boolean) hret (by simp) (hb hby at_193) (by decide) (by decide) (⟨rfl, Nn4⟩)
    · skip
      have n2r : ¬ (2 : Int64) = r := by rintro rfl; exact q3 (by decide)
      obtain ⟨v36, T36, L36, Q36, X36, st36⟩ := cSt X33 hx hZ (y := (⟨"com/example/wyrd/wyrd/service/ExpectationEstimatorIsDonePinLaw", "step", "(Lcom/example/wyrd/wyrd/service/ExpectationEstimator;JJD)Z"⟩ : MethodName)) hown (hw _ (List.mem_of_getElem? (i := 25) rfl)) (hw _ (List.mem_of_getElem? (i := 26) rfl)) (hw _ (List.mem_of_getElem? (i := 27) rfl)) (hw _ (List.mem_of_getElem? (i := 28) rfl)) (by decide) (argsL := [(.ref b29), (.long (3 : Int64)), (.long r), (.double (FP.i2d (i3 ^^^ i1)))]) (rest := []) (rmS1 l Z a0 hw T33.heap n0 Zz2 b29 2 r mu2 sq2 Ee2 Ga2 Gb2 Gc2 Gd2 (FP.i2d (i3 ^^^ i1)) 1066 1191 ((i2d_mag _).mono (by decide)) ma2 mb2 (by decide) (by decide) (by decide) gb n2r (by decide) 3 (by decide) q3) rfl  0 (by decide) (by decide) (by decide) (by decide) (g := (mkF m 148 #[.val (.long i0), .second, .val (.int i1), .val (.int i2), .val (.int i3), .val (.long r), .second, .val (.double (own_al i2)), .second, .val (.ref b29), .val (.int (1 : Int32))] [(.double (FP.i2d (i3 ^^^ i1))), (.long r), (.long (3 : Int64)), (.ref b29)])) rfl (by rw [hml]; rfl) (lenOf pd3 rfl) rfl (by show 2 * 0 + _ ≤ _; exact Nat.le_of_eq rfl) (hb hby at_148)
      obtain ⟨rfl, Ms3, Ks3, Ga3, Gb3, mu3, sq3, Gc3, Gd3, ma3, mb3⟩ := Q36
      refine Dn.of st36 ?_
      show Dn p e below s (own_Q n0) 16 128 (T36.setTop (mkF m 151 #[.val (.long i0), .second, .val (.int i1), .val (.int i2), .val (.int i3), .val (.long r), .second, .val (.double (own_al i2)), .second, .val (.ref b29), .val (.int (1 : Int32))] [(.int (1 : Int32))]))
      have Ee3 := Ee2.keep Ks3
      have Zz3 := Nat.le_trans Zz2 Ks3.1
      have Nn3 := Fr.app Nn2 Ms3
      refine Dn.of (fun tt_ zz_ => XS.ifNo X36.here hx rfl (hb hby at_151) rfl ((if0 _ _).trans (feq (by decide)).1) zz_) ?_
      show Dn p e below s (own_Q n0) 16 128 (T36.setTop (mkF m 154 #[.val (.long i0), .second, .val (.int i1), .val (.int i2), .val (.int i3), .val (.long r), .second, .val (.double (own_al i2)), .second, .val (.ref b29), .val (.int (1 : Int32))] []))
      refine Dn.of (fun tt_ zz_ => XS.iconst X36.here hx rfl (hb hby at_154) zz_) ?_
      show Dn p e below s (own_Q n0) 16 128 (T36.setTop (mkF m 155 #[.val (.long i0), .second, .val (.int i1), .val (.int i2), .val (.int i3), .val (.long r), .second, .val (.double (own_al i2)), .second, .val (.ref b29), .val (.int (1 : Int32))] [(.int (1 : Int32))]))
      refine Dn.of (fun tt_ zz_ => XS.goto X36.here hx rfl (pc0 := 155) (pc' := 159) rfl (hb hby at_155) (by decide) (by decide) zz_) ?_
      show Dn p e below s (own_Q n0) 16 128 (T36.setTop (mkF m 159 #[.val (.long i0), .second, .val (.int i1), .val (.int i2), .val (.int i3), .val (.long r), .second, .val (.double (own_al i2)), .second, .val (.ref b29), .val (.int (1 : Int32))] [(.int (1 : Int32))]))
      refine Dn.of (fun tt_ zz_ => XS.istore X36.here hx rfl (hb hby at_159) rfl (l' := #[.val (.long i0), .second, .val (.int i1), .val (.int i2), .val (.int i3), .val (.long r), .second, .val (.double (own_al i2)), .second, .val (.ref b29), .val (.int (1 : Int32))]) rfl zz_) ?_
      show Dn p e below s (own_Q n0) 16 128 (T36.setTop (mkF m 161 #[.val (.long i0), .second, .val (.int i1), .val (.int i2), .val (.int i3), .val (.long r), .second, .val (.double (own_al i2)), .second, .val (.ref b29), .val (.int (1 : Int32))] []))
      refine Dn.of (fun tt_ zz_ => XS.iload X36.here hx rfl (hb hby at_161) rfl zz_) ?_
      show Dn p e below s (own_Q n0) 16 128 (T36.setTop (mkF m 163 #[.val (.long i0), .second, .val (.int i1), .val (.int i2), .val (.int i3), .val (.long r), .second, .val (.double (own_al i2)), .second, .val (.ref b29), .val (.int (1 : Int32))] [(.int (1 : Int32))]))
      refine Dn.of (fun tt_ zz_ => XS.ifNo X36.here hx rfl (hb hby at_163) rfl ((if0 _ _).trans (feq (by decide)).1) zz_) ?_
      show Dn p e below s (own_Q n0) 16 128 (T36.setTop (mkF m 166 #[.val (.long i0), .second, .val (.int i1), .val (.int i2), .val (.int i3), .val (.long r), .second, .val (.double (own_al i2)), .second, .val (.ref b29), .val (.int (1 : Int32))] []))
      refine Dn.of (fun tt_ zz_ => XS.aload X36.here hx rfl (hb hby at_166) rfl rfl zz_) ?_
      show Dn p e below s (own_Q n0) 16 128 (T36.setTop (mkF m 168 #[.val (.long i0), .second, .val (.int i1), .val (.int i2), .val (.int i3), .val (.long r), .second, .val (.double (own_al i2)), .second, .val (.ref b29), .val (.int (1 : Int32))] [(.ref b29)]))
      refine Dn.of (fun tt_ zz_ => X36.ldc2J hx hown (mvT hZ (hw _ (List.mem_of_getElem? (i := 39) rfl))) rfl (hb hby at_168) zz_) ?_
      show Dn p e below s (own_Q n0) 16 128 (T36.setTop (mkF m 171 #[.val (.long i0), .second, .val (.int i1), .val (.int i2), .val (.int i3), .val (.long r), .second, .val (.double (own_al i2)), .second, .val (.ref b29), .val (.int (1 : Int32))] [(.long (4 : Int64)), (.ref b29)]))
      refine Dn.of (fun tt_ zz_ => XS.lload X36.here hx rfl (hb hby at_171) rfl zz_) ?_
      show Dn p e below s (own_Q n0) 16 128 (T36.setTop (mkF m 173 #[.val (.long i0), .second, .val (.int i1), .val (.int i2), .val (.int i3), .val (.long r), .second, .val (.double (own_al i2)), .second, .val (.ref b29), .val (.int (1 : Int32))] [(.long r), (.long (4 : Int64)), (.ref b29)]))
      refine Dn.of (fun tt_ zz_ => XS.iloadN X36.here hx rfl (hb hby at_173) rfl zz_) ?_
      show Dn p e below s (own_Q n0) 16 128 (T36.setTop (mkF m 174 #[.val (.long i0), .second, .val (.int i1), .val (.int i2), .val (.int i3), .val (.long r), .second, .val (.double (own_al i2)), .second, .val (.ref b29), .val (.int (1 : Int32))] [(.int i2), (.long r), (.long (4 : Int64)), (.ref b29)]))
      refine Dn.of (fun tt_ zz_ => XS.iload X36.here hx rfl (hb hby at_174) rfl zz_) ?_
      show Dn p e below s (own_Q n0) 16 128 (T36.setTop (mkF m 176 #[.val (.long i0), .second, .val (.int i1), .val (.int i2), .val (.int i3), .val (.long r), .second, .val (.double (own_al i2)), .second, .val (.ref b29), .val (.int (1 : Int32))] [(.int i3), (.int i2), (.long r), (.long (4 : Int64)), (.ref b29)]))
      refine Dn.of (fun tt_ zz_ => XS.isub X36.here hx rfl (hb hby at_176) rfl zz_) ?_
      show Dn p e below s (own_Q n0) 16 128 (T36.setTop (mkF m 177 #[.val (.long i0), .second, .val (.int i1), .val (.int i2), .val (.int i3), .val (.long r), .second, .val (.double (own_al i2)), .second, .val (.ref b29), .val (.int (1 : Int32))] [(.int (i2 - i3)), (.long r), (.long (4 : Int64)), (.ref b29)]))
      refine Dn.of (fun tt_ zz_ => XS.i2dS X36.here hx rfl (v := FP.i2d (i2 - i3)) (hb hby at_177) rfl rfl zz_) ?_
      show Dn p e below s (own_Q n0) 16 128 (T36.setTop (mkF m 178 #[.val (.long i0), .second, .val (.int i1), .val (.int i2), .val (.int i3), .val (.long r), .second, .val (.double (own_al i2)), .second, .val (.ref b29), .val (.int (1 : Int32))] [(.double (FP.i2d (i2 - i3))), (.long r), (.long (4 : Int64)), (.ref b29)]))
      by_cases q4 : r < 4
      · skip
        obtain ⟨v37, T37, L37, Q37, X37, st37⟩ := cSt X36 hx hZ (y := (⟨"com/example/wyrd/wyrd/service/ExpectationEstimatorIsDonePinLaw", "step", "(Lcom/example/wyrd/wyrd/service/ExpectationEstimator;JJD)Z"⟩ : MethodName)) hown (hw _ (List.mem_of_getElem? (i := 25) rfl)) (hw _ (List.mem_of_getElem? (i := 26) rfl)) (hw _ (List.mem_of_getElem? (i := 27) rfl)) (hw _ (List.mem_of_getElem? (i := 28) rfl)) (by decide) (argsL := [(.ref b29), (.long (4 : Int64)), (.long r), (.double (FP.i2d (i2 - i3)))]) (rest := []) (rmS0 l Z a0 hw T36.heap n0 Zz3 b29 4 r (FP.i2d (i2 - i3)) q4) rfl  0 (by decide) (by decide) (by decide) (by decide) (g := (mkF m 178 #[.val (.long i0), .second, .val (.int i1), .val (.int i2), .val (.int i3), .val (.long r), .second, .val (.double (own_al i2)), .second, .val (.ref b29), .val (.int (1 : Int32))] [(.double (FP.i2d (i2 - i3))), (.long r), (.long (4 : Int64)), (.ref b29)])) rfl (by rw [hml]; rfl) (lenOf pd3 rfl) rfl (by show 2 * 0 + _ ≤ _; exact Nat.le_of_eq rfl) (hb hby at_178)
        obtain ⟨rfl, Ms4, e37⟩ := Q37
        refine Dn.of st37 ?_
        show Dn p e below s (own_Q n0) 16 128 (T37.setTop (mkF m 181 #[.val (.long i0), .second, .val (.int i1), .val (.int i2), .val (.int i3), .val (.long r), .second, .val (.double (own_al i2)), .second, .val (.ref b29), .val (.int (1 : Int32))] [(.int (1 : Int32))]))
        have Nn4 := Fr.app Nn3 Ms4
        refine Dn.of (fun tt_ zz_ => XS.ifNo X37.here hx rfl (hb hby at_181) rfl ((if0 _ _).trans (feq (by decide)).1) zz_) ?_
        show Dn p e below s (own_Q n0) 16 128 (T37.setTop (mkF m 184 #[.val (.long i0), .second, .val (.int i1), .val (.int i2), .val (.int i3), .val (.long r), .second, .val (.double (own_al i2)), .second, .val (.ref b29), .val (.int (1 : Int32))] []))
        refine Dn.of (fun tt_ zz_ => XS.iconst X37.here hx rfl (hb hby at_184) zz_) ?_
        show Dn p e below s (own_Q n0) 16 128 (T37.setTop (mkF m 185 #[.val (.long i0), .second, .val (.int i1), .val (.int i2), .val (.int i3), .val (.long r), .second, .val (.double (own_al i2)), .second, .val (.ref b29), .val (.int (1 : Int32))] [(.int (1 : Int32))]))
        refine Dn.of (fun tt_ zz_ => XS.goto X37.here hx rfl (pc0 := 185) (pc' := 189) rfl (hb hby at_185) (by decide) (by decide) zz_) ?_
        show Dn p e below s (own_Q n0) 16 128 (T37.setTop (mkF m 189 #[.val (.long i0), .second, .val (.int i1), .val (.int i2), .val (.int i3), .val (.long r), .second, .val (.double (own_al i2)), .second, .val (.ref b29), .val (.int (1 : Int32))] [(.int (1 : Int32))]))
        refine Dn.of (fun tt_ zz_ => XS.istore X37.here hx rfl (hb hby at_189) rfl (l' := #[.val (.long i0), .second, .val (.int i1), .val (.int i2), .val (.int i3), .val (.long r), .second, .val (.double (own_al i2)), .second, .val (.ref b29), .val (.int (1 : Int32))]) rfl zz_) ?_
        show Dn p e below s (own_Q n0) 16 128 (T37.setTop (mkF m 191 #[.val (.long i0), .second, .val (.int i1), .val (.int i2), .val (.int i3), .val (.long r), .second, .val (.double (own_al i2)), .second, .val (.ref b29), .val (.int (1 : Int32))] []))
        refine Dn.of (fun tt_ zz_ => XS.iload X37.here hx rfl (hb hby at_191) rfl zz_) ?_
        show Dn p e below s (own_Q n0) 16 128 (T37.setTop (mkF m 193 #[.val (.long i0), .second, .val (.int i1), .val (.int i2), .val (.int i3), .val (.long r), .second, .val (.double (own_al i2)), .second, .val (.ref b29), .val (.int (1 : Int32))] [(.int (1 : Int32))]))
        exact Dn.retN X37 hx hlk (t := .boolean) hret (by simp) (hb hby at_193) (by decide) (by decide) (⟨rfl, Nn4⟩)
      · skip
        have n3r : ¬ (3 : Int64) = r := by rintro rfl; exact q4 (by decide)
        obtain ⟨v38, T38, L38, Q38, X38, st38⟩ := cSt X36 hx hZ (y := (⟨"com/example/wyrd/wyrd/service/ExpectationEstimatorIsDonePinLaw", "step", "(Lcom/example/wyrd/wyrd/service/ExpectationEstimator;JJD)Z"⟩ : MethodName)) hown (hw _ (List.mem_of_getElem? (i := 25) rfl)) (hw _ (List.mem_of_getElem? (i := 26) rfl)) (hw _ (List.mem_of_getElem? (i := 27) rfl)) (hw _ (List.mem_of_getElem? (i := 28) rfl)) (by decide) (argsL := [(.ref b29), (.long (4 : Int64)), (.long r), (.double (FP.i2d (i2 - i3)))]) (rest := []) (rmS1 l Z a0 hw T36.heap n0 Zz3 b29 3 r mu3 sq3 Ee3 Ga3 Gb3 Gc3 Gd3 (FP.i2d (i2 - i3)) 1071 1193 ((i2d_mag _).mono (by decide)) ma3 mb3 (by decide) (by decide) (by decide) gb n3r (by decide) 4 (by decide) q4) rfl  0 (by decide) (by decide) (by decide) (by decide) (g := (mkF m 178 #[.val (.long i0), .second, .val (.int i1), .val (.int i2), .val (.int i3), .val (.long r), .second, .val (.double (own_al i2)), .second, .val (.ref b29), .val (.int (1 : Int32))] [(.double (FP.i2d (i2 - i3))), (.long r), (.long (4 : Int64)), (.ref b29)])) rfl (by rw [hml]; rfl) (lenOf pd3 rfl) rfl (by show 2 * 0 + _ ≤ _; exact Nat.le_of_eq rfl) (hb hby at_178)
        obtain ⟨rfl, Ms4, Ks4, Ga4, Gb4, mu4, sq4, Gc4, Gd4, ma4, mb4⟩ := Q38
        refine Dn.of st38 ?_
        show Dn p e below s (own_Q n0) 16 128 (T38.setTop (mkF m 181 #[.val (.long i0), .second, .val (.int i1), .val (.int i2), .val (.int i3), .val (.long r), .second, .val (.double (own_al i2)), .second, .val (.ref b29), .val (.int (1 : Int32))] [(.int (1 : Int32))]))
        have Ee4 := Ee3.keep Ks4
        have Zz4 := Nat.le_trans Zz3 Ks4.1
        have Nn4 := Fr.app Nn3 Ms4
        refine Dn.of (fun tt_ zz_ => XS.ifNo X38.here hx rfl (hb hby at_181) rfl ((if0 _ _).trans (feq (by decide)).1) zz_) ?_
        show Dn p e below s (own_Q n0) 16 128 (T38.setTop (mkF m 184 #[.val (.long i0), .second, .val (.int i1), .val (.int i2), .val (.int i3), .val (.long r), .second, .val (.double (own_al i2)), .second, .val (.ref b29), .val (.int (1 : Int32))] []))
        refine Dn.of (fun tt_ zz_ => XS.iconst X38.here hx rfl (hb hby at_184) zz_) ?_
        show Dn p e below s (own_Q n0) 16 128 (T38.setTop (mkF m 185 #[.val (.long i0), .second, .val (.int i1), .val (.int i2), .val (.int i3), .val (.long r), .second, .val (.double (own_al i2)), .second, .val (.ref b29), .val (.int (1 : Int32))] [(.int (1 : Int32))]))
        refine Dn.of (fun tt_ zz_ => XS.goto X38.here hx rfl (pc0 := 185) (pc' := 189) rfl (hb hby at_185) (by decide) (by decide) zz_) ?_
        show Dn p e below s (own_Q n0) 16 128 (T38.setTop (mkF m 189 #[.val (.long i0), .second, .val (.int i1), .val (.int i2), .val (.int i3), .val (.long r), .second, .val (.double (own_al i2)), .second, .val (.ref b29), .val (.int (1 : Int32))] [(.int (1 : Int32))]))
        refine Dn.of (fun tt_ zz_ => XS.istore X38.here hx rfl (hb hby at_189) rfl (l' := #[.val (.long i0), .second, .val (.int i1), .val (.int i2), .val (.int i3), .val (.long r), .second, .val (.double (own_al i2)), .second, .val (.ref b29), .val (.int (1 : Int32))]) rfl zz_) ?_
        show Dn p e below s (own_Q n0) 16 128 (T38.setTop (mkF m 191 #[.val (.long i0), .second, .val (.int i1), .val (.int i2), .val (.int i3), .val (.long r), .second, .val (.double (own_al i2)), .second, .val (.ref b29), .val (.int (1 : Int32))] []))
        refine Dn.of (fun tt_ zz_ => XS.iload X38.here hx rfl (hb hby at_191) rfl zz_) ?_
        show Dn p e below s (own_Q n0) 16 128 (T38.setTop (mkF m 193 #[.val (.long i0), .second, .val (.int i1), .val (.int i2), .val (.int i3), .val (.long r), .second, .val (.double (own_al i2)), .second, .val (.ref b29), .val (.int (1 : Int32))] [(.int (1 : Int32))]))
        exact Dn.retN X38 hx hlk (t := .boolean) hret (by simp) (hb hby at_193) (by decide) (by decide) (⟨rfl, Nn4⟩)
set_option maxRecDepth 65536 in
set_option maxHeartbeats 40000000 in
theorem comes_1 {Post : Tables → Env → Array Value → State → Outcome → State → Prop} (hpost : ∀ tb e args s v u, (limb_1_1.after args s (.returned v) u = true ∧ limb_1_2.after args s (.returned v) u = true ∧ True) → FrameEnd s (.returned v) u (Jvm.fieldLocs frame_1_writes args s ++ Jvm.arrayLocs frame_1_arrays args s ++ Jvm.staticLocs frame_1_statics s) 16 128 → Post tb e args s (.returned v) u) :
    ArmFor flags0 classFile x code maxLocals ret World_1 tables_1 room_1 Calls_1 rest_1 Pre_1 Post := by
  intro l hfl _ _ p e ha hc hk s m args below hf hA hF happ hP
  obtain ⟨hcalls, hrest, hpre⟩ := hP
  obtain ⟨-, -, -, hnamed, -, -, -, hat⟩ := (Spec.applies_iff hf).mp happ
  obtain ⟨hg, hn⟩ := and_e (Cond.before_iff.mp (show (Jvm.Cond.and given_1 narrow_1).before args s = true from hpre))
  obtain ⟨hcount, hr⟩ := and_e hg
  obtain ⟨w0, w1, w2, w3, rfl⟩ : ∃ w0 w1 w2 w3 : Value, args = #[w0, w1, w2, w3] := by
    have hs : args.size = 4 := by simpa [Cond.value, given_1] using hcount
    obtain ⟨L⟩ := args
    match L, hs with
    | [w0, w1, w2, w3], _ => exact ⟨w0, w1, w2, w3, rfl⟩
  have hw := fun d (hd : d ∈ tables_1) => atoms_spec (ws := Jvm.Cond.code x code maxLocals ret :: tables_1) hat d (List.mem_cons_of_mem _ hd)
  have hfit : Fit s := fun {y c} hc i hi => by
    obtain ⟨ha, rfl⟩ := Array.getElem?_eq_some_iff.mp hc
    have q := List.all_eq_true.mp ((Array.all_eq_true_iff_forall_mem.mp hF) _ (Array.getElem_mem ha)) i (List.mem_range.mpr hi)
    simpa [Array.getElem?_eq_getElem hi] using q
  obtain ⟨ha0, hr⟩ := and_e hr
  obtain ⟨i0, ei0⟩ := isL_v ha0
  obtain rfl : w0 = (.long i0) := Option.some.inj ei0
  obtain ⟨ha1, hr⟩ := and_e hr
  obtain ⟨i1, ei1⟩ := is_v ha1
  obtain rfl : w1 = (.int i1) := Option.some.inj ei1
  obtain ⟨ha2, hr⟩ := and_e hr
  obtain ⟨i2, ei2⟩ := is_v ha2
  obtain rfl : w2 = (.int i2) := Option.some.inj ei2
  have ha3 := hr
  obtain ⟨i3, ei3⟩ := is_v ha3
  obtain rfl : w3 = (.int i3) := Option.some.inj ei3
  obtain ⟨n, o, h1, h2, h3, _, L, rfl, ⟨rfl, N⟩, hq⟩ := rm0 l s _ hw tables_1 s.heap s.heap.size (Nat.le_refl _) i0 i1 i2 i3 p e ha hc hk s m _ below hf ((Spec.applies_iff_loose hf).mp happ).1 ⟨rfl, State.Warmed39.refl s, rfl⟩ trivial
  refine ⟨n, _, h1, h2, h3, hpost _ _ _ _ _ _ ⟨Cond.after_iff.mpr rfl, Cond.after_iff.mpr (eq_i res_at (Term.int_eval (1)) rfl), trivial⟩ ⟨hq.1, hq.2.1, (hq.2.2.sift fun y hy => Or.inr (N y hy)).mono (by decide) (by decide)⟩⟩
theorem main_1_1 : Claimed_1_1 := comes_1 fun _ _ _ _ _ _ h hF => ⟨h.1, hF⟩
theorem main_1_2 : Claimed_1_2 := comes_1 fun _ _ _ _ _ _ h hF => ⟨h.2.1, hF⟩
end Jvm.Pilot.@@N@@
namespace Jvm.Pilot.@@N@@
open Jvm Jvm.ClassFile Sem Op Lib Jvm.Free Jvm.Stand Jvm.Pilot.@@N@@.Jvm.D
/-! MADE BY PROGRAM (witnessworld.py) out of the Statement's table words and the real class files: 10 classes; the members and pool entries that the words name. The judged class is class 1, her method 1. -/
namespace start1
open Jvm.ClassFile
def u (s : String) : CpInfo := .utf8 (stringToUtf16 s)
/-- a pool by its gaps: so many unusable entries, then the entry; so many at the end -/
def gap : Nat → List CpInfo → List CpInfo
  | 0, r => r
  | n + 1, r => .unusable :: gap n r
def poolList (es : List (Nat × CpInfo)) (last : Nat) : List CpInfo := es.foldr (fun e r => gap e.1 (e.2 :: r)) (gap last [])
def pool (es : List (Nat × CpInfo)) (last : Nat) : Array CpInfo := ⟨poolList es last⟩
def fileOf (pool : Array CpInfo) (this : Nat) (attrs : Array Attribute := #[]) (ms : Array MethodInfo := #[]) (fl : Nat := 33) (sup : Nat := 0) (ifs : Array Nat := #[]) (fds : Array FieldInfo := #[]) : ClassFile where
  minorVersion := 0
  majorVersion := 65
  constantPool := pool
  accessFlags := fl
  thisClass := this
  superClass := sup
  interfaces := ifs
  fields := fds
  methods := ms
  attributes := attrs
def plain (name : String) (sup : Option ClassId) : Class where
  name := name
  kind := .ordinary
  loader := none
  accessFlags := 33
  super := sup
  interfaces := #[]
  cf := none
  fields := #[]
  methods := #[]
  instanceTypes := #[]
  staticTypes := #[]
  resolved := #[]
  callSites := []
  init := .initialized
  statics := none
  mirror := none

def pool0 : Array CpInfo := pool [(5, u "<init>"), (0, u "()V"), (1, .class_ 10), (1, u "java/lang/Object")] 113

def k0c0 : Code := { maxStack := 0, maxLocals := 1, code := object_method_1_code, exceptionTable := #[], attributes := #[] }
def k0m0 : Method := { name := "<init>", desc := "()V", sig := { parameters := [], returnType := none }, accessFlags := 1, code := some k0c0 }
/-- java/lang/Object -/
def k0 : Class := { plain "java/lang/Object" none with
  accessFlags := 33
  interfaces := #[]
  cf := some (fileOf pool0 8 #[] #[{ accessFlags := 1, nameIndex := 5, descriptorIndex := 6, attributes := #[] }] 33 0 #[] #[])
  fields := #[]
  methods := #[k0m0]
  instanceTypes := #[]
  staticTypes := #[]
  resolved := Array.replicate 124 none
  statics := none }

def pool1 : Array CpInfo := pool [(2, .class_ 4), (1, u "java/lang/Object"), (0, u "<init>"), (0, u "()V"), (0, .long 2), (1, .long 2147483647), (1, .long 3), (1, .long 5), (1, .methodref 16 17), (0, .class_ 18), (0, .nameAndType 19 20), (0, u "java/lang/Math"), (0, u "max"), (0, u "(JJ)J"), (0, .double 4621819117588971520), (1, .class_ 24), (0, u "com/example/wyrd/wyrd/service/ExpectationEstimator"), (0, .methodref 23 26), (0, .nameAndType 5 27), (0, u "(JD)V"), (0, .methodref 23 29), (0, .nameAndType 30 31), (0, u "isDone"), (0, u "()Z"), (0, .methodref 33 34), (0, .class_ 35), (0, .nameAndType 36 37), (0, u "com/example/wyrd/wyrd/service/ExpectationEstimatorIsDonePinLaw"), (0, u "step"), (0, u "(Lcom/example/wyrd/wyrd/service/ExpectationEstimator;JJD)Z"), (0, .long 4), (1, .methodref 23 41), (0, .nameAndType 42 43), (0, u "add"), (0, u "(D)V"), (2, u "law"), (0, u "(JIII)Z")] 3

def k1m0 : Method := { name := "<init>", desc := "()V", sig := { parameters := [], returnType := none }, accessFlags := 1, code := none }
def k1c1 : Code := { maxStack := 7, maxLocals := 11, code := code, exceptionTable := #[], attributes := #[] }
def k1m1 : Method := { name := "law", desc := "(JIII)Z", sig := { parameters := [.long, .int, .int, .int], returnType := some .boolean }, accessFlags := 9, code := some k1c1 }
def k1c2 : Code := { maxStack := 5, maxLocals := 7, code := method_3_code, exceptionTable := #[], attributes := #[] }
def k1m2 : Method := { name := "step", desc := "(Lcom/example/wyrd/wyrd/service/ExpectationEstimator;JJD)Z", sig := { parameters := [(.object "com/example/wyrd/wyrd/service/ExpectationEstimator"), .long, .long, .double], returnType := some .boolean }, accessFlags := 10, code := some k1c2 }
/-- com/example/wyrd/wyrd/service/ExpectationEstimatorIsDonePinLaw -/
def k1 : Class := { plain "com/example/wyrd/wyrd/service/ExpectationEstimatorIsDonePinLaw" (some 0) with
  accessFlags := 49
  interfaces := #[]
  cf := some (fileOf pool1 33 #[] #[{ accessFlags := 1, nameIndex := 5, descriptorIndex := 6, attributes := #[] }, { accessFlags := 9, nameIndex := 46, descriptorIndex := 47, attributes := #[] }, { accessFlags := 10, nameIndex := 36, descriptorIndex := 37, attributes := #[] }] 49 2 #[] #[])
  fields := #[]
  methods := #[k1m0, k1m1, k1m2]
  instanceTypes := #[]
  staticTypes := #[]
  resolved := Array.replicate 51 none
  statics := none }

def pool2 : Array CpInfo := pool [(1, .methodref 2 3), (0, .class_ 4), (0, .nameAndType 5 6), (0, u "java/lang/Object"), (0, u "<init>"), (0, u "()V"), (0, .long 2), (13, .fieldref 22 23), (0, .class_ 24), (0, .nameAndType 25 26), (0, u "com/example/wyrd/wyrd/service/ExpectationEstimator"), (0, u "runs"), (0, u "J"), (0, .fieldref 22 28), (0, .nameAndType 29 30), (0, u "alpha"), (0, u "D"), (0, .methodref 22 32), (0, .nameAndType 33 34), (0, u "isDone"), (0, u "()Z"), (4, .fieldref 22 40), (0, .nameAndType 41 26), (0, u "recorded"), (0, .fieldref 22 43), (0, .nameAndType 44 30), (0, u "mean"), (0, .fieldref 22 46), (0, .nameAndType 47 30), (0, u "squares"), (19, u "(JD)V"), (3, u "add"), (0, u "(D)V")] 26

def k2c0 : Code := { maxStack := 4, maxLocals := 5, code := prog_102_method_1_code, exceptionTable := #[], attributes := #[] }
def k2m0 : Method := { name := "<init>", desc := "(JD)V", sig := { parameters := [.long, .double], returnType := none }, accessFlags := 1, code := some k2c0 }
def k2c1 : Code := { maxStack := 9, maxLocals := 5, code := prog_102_method_2_code, exceptionTable := #[], attributes := #[] }
def k2m1 : Method := { name := "add", desc := "(D)V", sig := { parameters := [.double], returnType := none }, accessFlags := 1, code := some k2c1 }
def k2c2 : Code := { maxStack := 4, maxLocals := 1, code := prog_102_method_3_code, exceptionTable := #[], attributes := #[] }
def k2m2 : Method := { name := "isDone", desc := "()Z", sig := { parameters := [], returnType := some .boolean }, accessFlags := 1, code := some k2c2 }
/-- com/example/wyrd/wyrd/service/ExpectationEstimator -/
def k2 : Class := { plain "com/example/wyrd/wyrd/service/ExpectationEstimator" (some 0) with
  accessFlags := 49
  interfaces := #[]
  cf := some (fileOf pool2 22 #[] #[{ accessFlags := 1, nameIndex := 5, descriptorIndex := 67, attributes := #[] }, { accessFlags := 1, nameIndex := 71, descriptorIndex := 72, attributes := #[] }, { accessFlags := 1, nameIndex := 33, descriptorIndex := 34, attributes := #[] }] 49 2 #[] #[{ accessFlags := 18, nameIndex := 25, descriptorIndex := 26, attributes := #[] }, { accessFlags := 18, nameIndex := 29, descriptorIndex := 30, attributes := #[] }, { accessFlags := 2, nameIndex := 41, descriptorIndex := 26, attributes := #[] }, { accessFlags := 2, nameIndex := 44, descriptorIndex := 30, attributes := #[] }, { accessFlags := 2, nameIndex := 47, descriptorIndex := 30, attributes := #[] }])
  fields := #[{ name := "runs", type := .long, accessFlags := 18, slot := 0, constantValue := 0 }, { name := "alpha", type := .double, accessFlags := 18, slot := 1, constantValue := 0 }, { name := "recorded", type := .long, accessFlags := 2, slot := 2, constantValue := 0 }, { name := "mean", type := .double, accessFlags := 2, slot := 3, constantValue := 0 }, { name := "squares", type := .double, accessFlags := 2, slot := 4, constantValue := 0 }]
  methods := #[k2m0, k2m1, k2m2]
  instanceTypes := #[.long, .double, .long, .double, .double]
  staticTypes := #[]
  resolved := Array.replicate 99 none
  statics := none }

def pool3 : Array CpInfo := pool [(1, .class_ 2), (0, u "java/lang/Math"), (1, .class_ 6), (1, u "java/lang/Object"), (0, u "<init>"), (0, u "()V"), (89, .class_ 100), (1, u "java/lang/Math$RandomNumberGeneratorHolder"), (20, u "(JJ)J"), (50, u "negativeZeroFloatBits"), (0, u "J"), (2, u "negativeZeroDoubleBits"), (21, u "max"), (46, u "$assertionsDisabled"), (0, u "Z"), (91, u "twoToTheDoubleScaleDown"), (0, u "D"), (4, u "twoToTheDoubleScaleUp"), (9, u "E"), (3, u "PI"), (2, u "TAU"), (2, u "DEGREES_TO_RADIANS"), (0, u "RADIANS_TO_DEGREES")] 94

def k3m0 : Method := { name := "<init>", desc := "()V", sig := { parameters := [], returnType := none }, accessFlags := 2, code := none }
def k3c1 : Code := { maxStack := 4, maxLocals := 4, code := jdk_29_method_66_code, exceptionTable := #[], attributes := #[] }
def k3m1 : Method := { name := "max", desc := "(JJ)J", sig := { parameters := [.long, .long], returnType := some .long }, accessFlags := 9, code := some k3c1 }
/-- java/lang/Math -/
def k3 : Class := { plain "java/lang/Math" (some 0) with
  accessFlags := 49
  interfaces := #[]
  cf := some (fileOf pool3 1 #[.nestMembers #[98]] #[{ accessFlags := 2, nameIndex := 7, descriptorIndex := 8, attributes := #[] }, { accessFlags := 9, nameIndex := 198, descriptorIndex := 121, attributes := #[] }] 49 4 #[] #[{ accessFlags := 25, nameIndex := 354, descriptorIndex := 339, attributes := #[] }, { accessFlags := 25, nameIndex := 358, descriptorIndex := 339, attributes := #[] }, { accessFlags := 25, nameIndex := 361, descriptorIndex := 339, attributes := #[] }, { accessFlags := 26, nameIndex := 364, descriptorIndex := 339, attributes := #[] }, { accessFlags := 26, nameIndex := 365, descriptorIndex := 339, attributes := #[] }, { accessFlags := 26, nameIndex := 172, descriptorIndex := 173, attributes := #[] }, { accessFlags := 26, nameIndex := 176, descriptorIndex := 173, attributes := #[] }, { accessFlags := 8, nameIndex := 344, descriptorIndex := 339, attributes := #[] }, { accessFlags := 8, nameIndex := 338, descriptorIndex := 339, attributes := #[] }, { accessFlags := 4120, nameIndex := 245, descriptorIndex := 246, attributes := #[] }])
  fields := #[{ name := "E", type := .double, accessFlags := 25, slot := 0, constantValue := 0 }, { name := "PI", type := .double, accessFlags := 25, slot := 1, constantValue := 0 }, { name := "TAU", type := .double, accessFlags := 25, slot := 2, constantValue := 0 }, { name := "DEGREES_TO_RADIANS", type := .double, accessFlags := 26, slot := 3, constantValue := 0 }, { name := "RADIANS_TO_DEGREES", type := .double, accessFlags := 26, slot := 4, constantValue := 0 }, { name := "negativeZeroFloatBits", type := .long, accessFlags := 26, slot := 5, constantValue := 0 }, { name := "negativeZeroDoubleBits", type := .long, accessFlags := 26, slot := 6, constantValue := 0 }, { name := "twoToTheDoubleScaleUp", type := .double, accessFlags := 8, slot := 7, constantValue := 0 }, { name := "twoToTheDoubleScaleDown", type := .double, accessFlags := 8, slot := 8, constantValue := 0 }, { name := "$assertionsDisabled", type := .boolean, accessFlags := 4120, slot := 9, constantValue := 0 }]
  methods := #[k3m0, k3m1]
  instanceTypes := #[]
  staticTypes := #[.double, .double, .double, .double, .double, .long, .long, .double, .double, .boolean]
  resolved := Array.replicate 460 none
  statics := none }

def pool4 : Array CpInfo := pool [(1, u "java/lang/Cloneable"), (0, .class_ 1), (0, u "java/lang/Object"), (0, .class_ 3)] 3

/-- java/lang/Cloneable -/
def k4 : Class := { plain "java/lang/Cloneable" (some 0) with
  accessFlags := 1537
  interfaces := #[]
  cf := some (fileOf pool4 2 #[] #[] 1537 4 #[] #[])
  fields := #[]
  methods := #[]
  instanceTypes := #[]
  staticTypes := #[]
  resolved := Array.replicate 8 none
  statics := none }

def pool5 : Array CpInfo := pool [(1, u "java/io/Serializable"), (0, .class_ 1), (0, u "java/lang/Object"), (0, .class_ 3)] 3

/-- java/io/Serializable -/
def k5 : Class := { plain "java/io/Serializable" (some 0) with
  accessFlags := 1537
  interfaces := #[]
  cf := some (fileOf pool5 2 #[] #[] 1537 4 #[] #[])
  fields := #[]
  methods := #[]
  instanceTypes := #[]
  staticTypes := #[]
  resolved := Array.replicate 8 none
  statics := none }

/-- the primitive byte -/
def k6 : Class := { plain "byte" none with kind := .primitive 'B', accessFlags := 0x411 }
/-- [B -/
def k7 : Class := { plain "[B" (some 0) with kind := .array 6 .byte, interfaces := #[4, 5], accessFlags := 1041 }

/-- the primitive int -/
def k8 : Class := { plain "int" none with kind := .primitive 'I', accessFlags := 0x411 }
/-- [I -/
def k9 : Class := { plain "[I" (some 0) with kind := .array 8 .int, interfaces := #[4, 5], accessFlags := 1041 }

def heap : Heap := #[]
def classes : Array Class := #[k0, k1, k2, k3, k4, k5, k6, k7, k8, k9]
def interned : List (Array UInt16 × Addr) := []
def slotsUsed : Nat := 0
def theMethod : MethodId := ⟨1, 1⟩
def args0 : Array Value := #[.long 5, .int 300, .int 7, .int 8]
def aboutOver (below : List Frame) : State where
  vm := { classes := classes, interned := interned.toArray }
  heap := heap
  slotsUsed := slotsUsed
  threads := #[{ frames := .invoking theMethod args0 :: below }]
def below0 : List Frame := [.native { method := ⟨0, 0⟩, args := #[] }]
def about1 : State := aboutOver below0
def p0 : Program := .bare "" "" ""
def e0 : Env := launch0.env 0 0 0
theorem w_frames : about1.frames = Frame.invoking theMethod args0 :: below0 := rfl
set_option maxRecDepth 65536 in
theorem w_args : argsFit about1.vm theMethod args0 = true := by decide +kernel
set_option maxRecDepth 65536 in
theorem w_heap : heapFits about1 = true := by decide +kernel
set_option maxRecDepth 65536 in
theorem w_runnable : about1.curStatus? = some .runnable := by decide +kernel
set_option maxRecDepth 65536 in
theorem w_alone : about1.alone = true := by decide +kernel
set_option maxRecDepth 65536 in
theorem w_named : about1.methodNamed? x = some theMethod := by decide +kernel
set_option maxRecDepth 65536 in
theorem w_hears : about1.hears theMethod below0 = true := by decide +kernel
set_option maxRecDepth 65536 in
theorem w_ripe : about1.ripe theMethod args0 below0 = true := by decide +kernel
theorem w_running : about1.status = .running := rfl
set_option maxRecDepth 65536 in
theorem w_room : about1.hasRoom e0.platform room_1 = true :=
  launch0.hasRoom_least _ room_1 (by decide +kernel) (by decide +kernel) (by decide +kernel) (by decide +kernel) (by decide +kernel) (by decide +kernel)
theorem allAtoms_all (ts : List Jvm.Cond) (a : Array Jvm.Value) (st : Jvm.State) : (allAtoms ts).before a st = ts.all (fun c => c.before a st) := by
  induction ts with
  | nil => rfl
  | cons c t ih =>
    show (Jvm.Cond.and c (allAtoms t)).before a st = _
    rw [Jvm.Cond.before_and, ih, List.all_cons]
def words1 : List Jvm.Cond := Jvm.Cond.code x code maxLocals ret :: tables_1
/-- a 'code' word, met by the world's own term for the bytes: nothing is compared byte by byte -/
theorem code_word {y : MethodName} {bytes : ByteArray} {mx : Nat} {rt : Option FieldType} {a : Array Value} {s : State} {m : MethodId} {meth : Method} {c : Code} (h1 : s.methodNamed? y = some m) (h2 : s.vm.method? m = some meth) (h3 : meth.code = some c) (h4 : c.code = bytes)
    (h5 : (c.maxLocals == mx && c.exceptionTable.isEmpty && decide (c.maxStack ≤ mostOperands) && decide (meth.sig.returnType = rt) && !meth.locks && decide (parseMethodDescriptor y.desc = some meth.sig)) = true) : (Jvm.Cond.code y bytes mx rt).before a s = true := by
  simp only [Bool.and_eq_true, beq_iff_eq, Bool.not_eq_true', decide_eq_true_eq] at h5
  obtain ⟨⟨⟨⟨⟨g1, g2⟩, g3⟩, g4⟩, g5⟩, g6⟩ := h5
  simp [Cond.before, Cond.holds, Cond.value, h1, h2, h3, h4, g1, g2, g3, g4, g5, g6]
def isCode : Jvm.Cond → Bool
  | .code _ _ _ _ => true
  | _ => false
theorem all_split {L : List Jvm.Cond} {P : Jvm.Cond → Bool} (h1 : L.all (fun c => isCode c || P c) = true) (h2 : ∀ c ∈ L.filter isCode, P c = true) : L.all P = true := by
  refine List.all_eq_true.mpr fun c hc => ?_
  have h := List.all_eq_true.mp h1 c hc
  rcases Bool.eq_false_or_eq_true (isCode c) with hi | hi
  · exact h2 c (List.mem_filter.mpr ⟨hc, hi⟩)
  · simpa [hi] using h
set_option maxRecDepth 65536 in
theorem w_c0 : (Jvm.Cond.code x code maxLocals ret).before args0 about1 = true := code_word (m := ⟨1, 1⟩) (meth := k1m1) (c := k1c1) (by decide +kernel) rfl rfl rfl (by decide +kernel)
set_option maxRecDepth 65536 in
theorem w_c1 : (Jvm.Cond.code ({ cls := "com/example/wyrd/wyrd/service/ExpectationEstimator", name := "<init>", desc := "(JD)V" } : Jvm.MethodName) prog_102_method_1_code (5 : Nat) (Option.none : Option Jvm.ClassFile.FieldType)).before args0 about1 = true := code_word (m := ⟨2, 0⟩) (meth := k2m0) (c := k2c0) (by decide +kernel) rfl rfl rfl (by decide +kernel)
set_option maxRecDepth 65536 in
theorem w_c2 : (Jvm.Cond.code ({ cls := "java/lang/Object", name := "<init>", desc := "()V" } : Jvm.MethodName) object_method_1_code (1 : Nat) (Option.none : Option Jvm.ClassFile.FieldType)).before args0 about1 = true := code_word (m := ⟨0, 0⟩) (meth := k0m0) (c := k0c0) (by decide +kernel) rfl rfl rfl (by decide +kernel)
set_option maxRecDepth 65536 in
theorem w_c3 : (Jvm.Cond.code ({ cls := "com/example/wyrd/wyrd/service/ExpectationEstimator", name := "isDone", desc := "()Z" } : Jvm.MethodName) prog_102_method_3_code (1 : Nat) (Option.some Jvm.ClassFile.FieldType.boolean)).before args0 about1 = true := code_word (m := ⟨2, 2⟩) (meth := k2m2) (c := k2c2) (by decide +kernel) rfl rfl rfl (by decide +kernel)
set_option maxRecDepth 65536 in
theorem w_c4 : (Jvm.Cond.code ({ cls := "com/example/wyrd/wyrd/service/ExpectationEstimatorIsDonePinLaw", name := "step", desc := "(Lcom/example/wyrd/wyrd/service/ExpectationEstimator;JJD)Z" } : Jvm.MethodName) method_3_code (7 : Nat) (Option.some Jvm.ClassFile.FieldType.boolean)).before args0 about1 = true := code_word (m := ⟨1, 2⟩) (meth := k1m2) (c := k1c2) (by decide +kernel) rfl rfl rfl (by decide +kernel)
set_option maxRecDepth 65536 in
theorem w_c5 : (Jvm.Cond.code ({ cls := "com/example/wyrd/wyrd/service/ExpectationEstimator", name := "add", desc := "(D)V" } : Jvm.MethodName) prog_102_method_2_code (5 : Nat) (Option.none : Option Jvm.ClassFile.FieldType)).before args0 about1 = true := code_word (m := ⟨2, 1⟩) (meth := k2m1) (c := k2c1) (by decide +kernel) rfl rfl rfl (by decide +kernel)
set_option maxRecDepth 65536 in
theorem w_c6 : (Jvm.Cond.code ({ cls := "java/lang/Math", name := "max", desc := "(JJ)J" } : Jvm.MethodName) jdk_29_method_66_code (4 : Nat) (Option.some Jvm.ClassFile.FieldType.long)).before args0 about1 = true := code_word (m := ⟨3, 1⟩) (meth := k3m1) (c := k3c1) (by decide +kernel) rfl rfl rfl (by decide +kernel)
def codes1 : List Jvm.Cond := [Jvm.Cond.code x code maxLocals ret, Jvm.Cond.code ({ cls := "com/example/wyrd/wyrd/service/ExpectationEstimator", name := "<init>", desc := "(JD)V" } : Jvm.MethodName) prog_102_method_1_code (5 : Nat) (Option.none : Option Jvm.ClassFile.FieldType), Jvm.Cond.code ({ cls := "java/lang/Object", name := "<init>", desc := "()V" } : Jvm.MethodName) object_method_1_code (1 : Nat) (Option.none : Option Jvm.ClassFile.FieldType), Jvm.Cond.code ({ cls := "com/example/wyrd/wyrd/service/ExpectationEstimator", name := "isDone", desc := "()Z" } : Jvm.MethodName) prog_102_method_3_code (1 : Nat) (Option.some Jvm.ClassFile.FieldType.boolean), Jvm.Cond.code ({ cls := "com/example/wyrd/wyrd/service/ExpectationEstimatorIsDonePinLaw", name := "step", desc := "(Lcom/example/wyrd/wyrd/service/ExpectationEstimator;JJD)Z" } : Jvm.MethodName) method_3_code (7 : Nat) (Option.some Jvm.ClassFile.FieldType.boolean), Jvm.Cond.code ({ cls := "com/example/wyrd/wyrd/service/ExpectationEstimator", name := "add", desc := "(D)V" } : Jvm.MethodName) prog_102_method_2_code (5 : Nat) (Option.none : Option Jvm.ClassFile.FieldType), Jvm.Cond.code ({ cls := "java/lang/Math", name := "max", desc := "(JJ)J" } : Jvm.MethodName) jdk_29_method_66_code (4 : Nat) (Option.some Jvm.ClassFile.FieldType.long)]
set_option maxRecDepth 65536 in
theorem codes_eq : words1.filter isCode = codes1 := rfl
theorem w_codes : ∀ c ∈ words1.filter isCode, c.before args0 about1 = true := by
  rw [codes_eq]
  intro c hc
  simp only [codes1, List.mem_cons, List.not_mem_nil, or_false] at hc
  rcases hc with rfl | rfl | rfl | rfl | rfl | rfl | rfl
  · exact w_c0
  · exact w_c1
  · exact w_c2
  · exact w_c3
  · exact w_c4
  · exact w_c5
  · exact w_c6
set_option maxRecDepth 65536 in
theorem w_t1 : (words1.take 24).all (fun c => isCode c || c.before args0 about1) = true := by decide +kernel
set_option maxRecDepth 65536 in
theorem w_t2 : (words1.drop 24).all (fun c => isCode c || c.before args0 about1) = true := by decide +kernel
theorem w_tables : (allAtoms (Jvm.Cond.code x code maxLocals ret :: tables_1)).before args0 about1 = true := by
  rw [allAtoms_all]
  show words1.all (fun c => c.before args0 about1) = true
  refine all_split ?_ w_codes
  rw [← List.take_append_drop 24 words1, List.all_append, w_t1, w_t2]
  rfl
set_option maxRecDepth 65536 in
theorem w_case : (Jvm.Cond.and given_1 narrow_1).before args0 about1 = true := by decide +kernel
theorem w_applies : (headSpec (Jvm.Cond.code x code maxLocals ret :: tables_1) room_1).applies x e0.platform about1 = true :=
  (Spec.applies_iff w_frames).mpr ⟨w_running, w_runnable, w_alone, w_named, w_hears, w_ripe, w_room, w_tables⟩
theorem atStart : AtStart classFile x code maxLocals ret World_1 tables_1 room_1 Calls_1 rest_1 Pre_1 launch0 p0 e0 about1 theMethod args0 below0 :=
  ⟨lists_1, trivial, launch0.admits_env _ _ _, launch0.least_env, fairChoices_fair.cas, fairChoices_fair.clock, w_frames, w_args, w_heap, w_applies, trivial, trivial, w_case⟩
end start1
theorem witness_1 : WitnessClaimed_1 := ⟨start1.p0, start1.e0, start1.about1, start1.theMethod, start1.args0, start1.below0, start1.atStart⟩
end Jvm.Pilot.@@N@@
