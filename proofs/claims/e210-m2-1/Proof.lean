import JvmDerived
import JvmDerived.Pilot.@@N@@Statement
import JvmDerived.Pilot.@@N@@Code
set_option linter.unusedVariables false
set_option linter.unusedSimpArgs false
namespace Jvm.RoadKit
open Sem ClassFile Op Lib Jvm.Stand Jvm.Free Jvm.LawKit
section Own
variable {p : Program} {l : Launch} {e : Env} {R : Room} {s : State} {m : MethodId} {args : Array Value} {below : List Frame} {meth : Method} {c : Code} {T : State} {locs : List Loc} {cells slots : Nat}
/-- from the state S the run comes to the end of this invocation, and Q says what it returned and left -/
def Dn (p : Program) (e : Env) (below : List Frame) (s : State) (Q : Option Value → Heap → List Loc → Prop) (k n : Nat) (S : State) : Prop :=
  ∃ U o, Steps p.tables e below S U ∧ U.status = .running ∧ Ended U below o ∧ ∃ v L, o = .returned v ∧ Q v U.heap L ∧ FrameEnd s o U L k n
variable {Q Q' : Option Value → Heap → List Loc → Prop} {k n : Nat} {S S' : State} {Z : State} {a0 : Array Value} {h : Heap}
theorem Dn.of (w : ∀ t, Steps p.tables e below S' t → Steps p.tables e below S t) (d : Dn p e below s Q k n S') : Dn p e below s Q k n S := by
  obtain ⟨U, o, st, r⟩ := d
  exact ⟨U, o, w U st, r⟩
theorem Dn.cast {g g' : JFrame} (q : g = g') (d : Dn p e below s Q k n (T.setTop g')) : Dn p e below s Q k n (T.setTop g) := q ▸ d
theorem Dn.ret (X : Stand p l e R s m args below meth c T locs cells slots) (hx : p.tables.exec = Jvm.exec) (hlk : meth.locks = false) {pc : Nat} {Ls : Array Slot} {w : Value} {t : FieldType} {i : Instr} {rest : List Value} (hret : meth.sig.returnType = some t) (hn : narrow t w = w)
    (hi : (i = .ireturn ∧ (t = .int ∨ t = .boolean ∨ t = .byte ∨ t = .char ∨ t = .short) ∧ ∃ z, w = .int z) ∨ (i = .lreturn ∧ t = .long ∧ ∃ z, w = .long z) ∨ (i = .dreturn ∧ t = .double ∧ ∃ z, w = .double z) ∨ (i = .freturn ∧ t = .float ∧ ∃ z, w = .float z) ∨ (i = .areturn ∧ t.isReference = true ∧ w.isRef = true))
    (hd : decode c.code pc = .ok (i, 1)) (hk : cells ≤ k) (hs : slots ≤ n) (hQ : Q (some w) T.heap locs) : Dn p e below s Q k n (T.setTop (mkF m pc Ls (w :: rest))) := by
  obtain ⟨fs, hr, hrun, hended, hW, hsame⟩ := X.leave (v := some w) (fun q => by rw [hret] at q; cases q) hlk
  exact ⟨_, _, retOut X hx hret hn hi hd hr, hrun, hended, _, _, rfl, hQ, ⟨_, rfl⟩, hW, hsame.mono hk hs⟩
theorem Dn.retI (X : Stand p l e R s m args below meth c T locs cells slots) (hx : p.tables.exec = Jvm.exec) (hlk : meth.locks = false) {pc : Nat} {Ls : Array Slot} {z : Int32} {rest : List Value} (hret : meth.sig.returnType = some .int)
    (hd : decode c.code pc = .ok (.ireturn, 1)) (hk : cells ≤ k) (hs : slots ≤ n) (hQ : Q (some (.int z)) T.heap locs) : Dn p e below s Q k n (T.setTop (mkF m pc Ls (.int z :: rest))) :=
  Dn.ret X hx hlk hret rfl (Or.inl ⟨rfl, Or.inl rfl, z, rfl⟩) hd hk hs hQ
theorem Dn.retA (X : Stand p l e R s m args below meth c T locs cells slots) (hx : p.tables.exec = Jvm.exec) (hlk : meth.locks = false) {pc : Nat} {Ls : Array Slot} {w : Value} {t : FieldType} {rest : List Value} (hret : meth.sig.returnType = some t) (ht : t.isReference = true) (hw : w.isRef = true)
    (hd : decode c.code pc = .ok (.areturn, 1)) (hk : cells ≤ k) (hs : slots ≤ n) (hQ : Q (some w) T.heap locs) : Dn p e below s Q k n (T.setTop (mkF m pc Ls (w :: rest))) :=
  Dn.ret X hx hlk hret (by cases t <;> simp [FieldType.isReference] at ht <;> rcases ref_cases hw with rfl | ⟨a, rfl⟩ <;> rfl) (Or.inr (Or.inr (Or.inr (Or.inr ⟨rfl, ht, hw⟩)))) hd hk hs hQ
theorem Dn.retN (X : Stand p l e R s m args below meth c T locs cells slots) (hx : p.tables.exec = Jvm.exec) (hlk : meth.locks = false) {pc : Nat} {Ls : Array Slot} {z : Int32} {t : FieldType} {rest : List Value} (hret : meth.sig.returnType = some t) (ht : t = .boolean ∨ t = .byte ∨ t = .char ∨ t = .short)
    (hd : decode c.code pc = .ok (.ireturn, 1)) (hk : cells ≤ k) (hs : slots ≤ n) (hQ : Q (some (.int (nar t z))) T.heap locs) : Dn p e below s Q k n (T.setTop (mkF m pc Ls (.int z :: rest))) := by
  obtain ⟨fs, hr, hrun, hended, hW, hsame⟩ := X.leave (v := some (.int (nar t z))) (fun q => by rw [hret] at q; cases q) hlk
  exact ⟨_, _, Jvm.RoadKit.retN X hx hret ht hd hr, hrun, hended, _, _, rfl, hQ, ⟨_, rfl⟩, hW, hsame.mono hk hs⟩
theorem Dn.retV (X : Stand p l e R s m args below meth c T locs cells slots) (hx : p.tables.exec = Jvm.exec) (hlk : meth.locks = false) {pc : Nat} {Ls : Array Slot} (hret : meth.sig.returnType = none)
    (hd : decode c.code pc = .ok (.return_, 1)) (hk : cells ≤ k) (hs : slots ≤ n) (hQ : Q none T.heap locs) : Dn p e below s Q k n (T.setTop (mkF m pc Ls [])) := by
  obtain ⟨fs, hr, hrun, hended, hW, hsame⟩ := X.leave (v := none) (fun _ => rfl) hlk
  exact ⟨_, _, X.returnOut hx hret hd hr, hrun, hended, _, _, rfl, hQ, ⟨_, rfl⟩, hW, hsame.mono hk hs⟩
/-- a body's contract: entered with the arguments as' at the heap h, it returns, and Q says what and what it left -/
abbrev ctr (l : Launch) (Z : State) (y : MethodName) (bytes : ByteArray) (maxL : Nat) (ret : Option FieldType) (ws : List Jvm.Cond) (rm : Room) (k n : Nat) (as' : Array Value) (h : Heap) (Q : Option Value → Heap → List Loc → Prop) : Prop :=
  MetFree l y (head1 (Jvm.Cond.code y bytes maxL ret :: ws) rm) (fun a U => a = as' ∧ Z.Warmed39 U.vm ∧ U.heap = h) (fun _ _ _ _ _ => True) (fun _ U o U' => ∃ v L, o = .returned v ∧ Q v U'.heap L ∧ FrameEnd U o U' L k n)
theorem ctr_of {y : MethodName} {bytes : ByteArray} {maxL : Nat} {ret : Option FieldType} {ws : List Jvm.Cond} {rm : Room} {as' : Array Value} (pn : plainFor y = true)
    (body : ∀ (p : Program) (e : Env) (s : State) (m : MethodId) (below : List Frame) (meth : Method) (c : Code) (s₁ : State), p.tables.exec = Jvm.exec → c.code = bytes → c.maxLocals = maxL → meth.sig.returnType = ret → meth.locks = false → meth.name = y.name → s.vm.findClass y.cls = some m.cls →
      Z.Warmed39 s.vm → s₁.heap = h → Stand p l e rm s m as' below meth c s₁ [] 0 0 → Dn p e below s Q k n (s₁.setTop (entryFrame m as' maxL))) : ctr l Z y bytes maxL ret ws rm k n as' h Q := by
  refine MetFree.of_bodySF pn hisR ?_
  intro p e s m args below meth c s₁ Bd hml0 hP hK
  obtain ⟨rfl, hZ, hh⟩ := hP
  exact body p e s m below meth c s₁ Bd.exec Bd.bytes hml0 Bd.returns Bd.notSynchronized (name_of_methodNamed Bd.named Bd.method).1 (findClass_of_methodNamed Bd.named) hZ (by rw [← hh, Bd.state]; rfl) (Stand.of_body Bd)
theorem cSt (X : Stand p l e R s m args below meth c T locs cells slots) (hx : p.tables.exec = Jvm.exec) (hZ : Z.Warmed39 s.vm) {own : String} {index : Nat} {y : MethodName} {bytes : ByteArray} {maxL : Nat} {ret : Option FieldType} (hown : s.vm.findClass own = some m.cls)
    (w1 : (Jvm.Cond.methodLink own index y).before a0 Z = true) (w2 : (Jvm.Cond.static y).before a0 Z = true) (w3 : (Jvm.Cond.initialized y.cls).before a0 Z = true) (w4 : (Jvm.Cond.code y bytes maxL ret).before a0 Z = true) (hy : y.cls ≠ "java/lang/invoke/MethodHandle" ∧ y.cls ≠ "java/lang/invoke/VarHandle")
    {rm : Room} {argsL rest : List Value} (hM : ctr l Z y bytes maxL ret [] rm rm.cells rm.slots argsL.toArray h Q) (eT : T.heap = h) (W : Nat) (hf : rm.frames + 1 ≤ R.frames) (hl : W + (maxL + 11) + rm.locals ≤ R.locals) (hc : cells + rm.cells ≤ R.cells) (hs : slots + rm.slots ≤ R.slots)
    {g : JFrame} (hg : g.method = m) (hsize : g.locals.size = c.maxLocals) (hlen : ∀ sig, parseMethodDescriptor y.desc = some sig → argsL.length = sig.parameters.length) (hstack : g.stack = argsL.reverse ++ rest) (hW : 2 * g.monitorRoom + (rest.map fun v => v.category).sum ≤ W) (hdg : decode c.code g.pc = .ok (.invokestatic index, 3)) :
    ∃ (v : Option Value) (T' : State) (L : List Loc), Q v T'.heap L ∧ Stand p l e R s m args below meth c T' (locs ++ L) (cells + rm.cells) (slots + rm.slots) ∧ ∀ target, Steps p.tables e below (T'.setTop { g with pc := g.pc + 3, stack := v.toList ++ rest }) target → Steps p.tables e below (T.setTop g) target := by
  obtain ⟨v, _, ⟨T', L', k', n'⟩, -, X', ⟨L, hQ, e1, e2, e3⟩, st⟩ := Jvm.LawKit.callS X hx (y := y) hown (mvT hZ w1) (mvT hZ w2) (mvT hZ w3) (mvT hZ w4) hy (backOf (W := W) hM hZ w4 w3 hf hl) hg hsize hlen hstack hW hdg (fun _ _ => ⟨rfl, eT, hc, hs⟩)
  dsimp only [Pt.U, Pt.locs, Pt.cells, Pt.slots] at X' e1 e2 e3 st hQ
  subst e1 e2 e3
  exact ⟨v, T', L, hQ, X', st⟩
theorem cIn (X : Stand p l e R s m args below meth c T locs cells slots) (hx : p.tables.exec = Jvm.exec) (hZ : Z.Warmed39 s.vm) {own : String} {index : Nat} {y : MethodName} {bytes : ByteArray} {maxL : Nat} (hy1 : y.name = "<init>") (hown : s.vm.findClass own = some m.cls)
    (w1 : (Jvm.Cond.methodLink own index y).before a0 Z = true) (w2 : (Jvm.Cond.instanceMethod y).before a0 Z = true) (w3 : (Jvm.Cond.initialized y.cls).before a0 Z = true) (w4 : (Jvm.Cond.code y bytes maxL none).before a0 Z = true) (hy : y.cls ≠ "java/lang/invoke/MethodHandle" ∧ y.cls ≠ "java/lang/invoke/VarHandle")
    {rm : Room} {a : Addr} {argsL rest : List Value} (hM : ctr l Z y bytes maxL none [] rm rm.cells rm.slots (.ref a :: argsL).toArray h Q) (eT : T.heap = h) (W : Nat) (hf : rm.frames + 1 ≤ R.frames) (hl : W + (maxL + 11) + rm.locals ≤ R.locals) (hc : cells + rm.cells ≤ R.cells) (hs : slots + rm.slots ≤ R.slots)
    {g : JFrame} (hg : g.method = m) (hsize : g.locals.size = c.maxLocals) (hlen : ∀ sig, parseMethodDescriptor y.desc = some sig → argsL.length = sig.parameters.length) (hstack : g.stack = argsL.reverse ++ .ref a :: rest) (hW : 2 * g.monitorRoom + (rest.map fun v => v.category).sum ≤ W) (hdg : decode c.code g.pc = .ok (.invokespecial index, 3)) :
    ∃ (v : Option Value) (T' : State) (L : List Loc), Q v T'.heap L ∧ Stand p l e R s m args below meth c T' (locs ++ L) (cells + rm.cells) (slots + rm.slots) ∧ ∀ target, Steps p.tables e below (T'.setTop { g with pc := g.pc + 3, stack := v.toList ++ rest }) target → Steps p.tables e below (T.setTop g) target := by
  obtain ⟨v, _, ⟨T', L', k', n'⟩, -, X', ⟨L, hQ, e1, e2, e3⟩, st⟩ := X.specialBack hx (y := y) hy1 hown (mvT hZ w1) (mvT hZ w2) (mvT hZ w4) hy (backOf (W := W) hM hZ w4 w3 hf hl) hg hsize (Steps.refl _) hlen hstack hW hdg (fun _ _ => ⟨rfl, eT, hc, hs⟩)
  dsimp only [Pt.U, Pt.locs, Pt.cells, Pt.slots] at X' e1 e2 e3 st hQ
  subst e1 e2 e3
  exact ⟨v, T', L, hQ, X', fun _ z => st.trans z⟩
theorem cVi (X : Stand p l e R s m args below meth c T locs cells slots) (hx : p.tables.exec = Jvm.exec) (hZ : Z.Warmed39 s.vm) {own C : String} {index : Nat} {y z : MethodName} {bytes : ByteArray} {maxL : Nat} {ret : Option FieldType} (hown : s.vm.findClass own = some m.cls)
    (w1 : (Jvm.Cond.methodLink own index y).before a0 Z = true) (w2 : (Jvm.Cond.declares y).before a0 Z = true) (nf : NotFace s y) (ws : (Jvm.Cond.selects C y z).before a0 Z = true) (wi : (Jvm.Cond.instanceMethod z).before a0 Z = true) (w3 : (Jvm.Cond.initialized z.cls).before a0 Z = true) (w4 : (Jvm.Cond.code z bytes maxL ret).before a0 Z = true)
    (hy : y.cls ≠ "java/lang/invoke/MethodHandle" ∧ y.cls ≠ "java/lang/invoke/VarHandle")
    {rm : Room} {a : Addr} {argsL rest : List Value} (hM : ctr l Z z bytes maxL ret [] rm rm.cells rm.slots (.ref a :: argsL).toArray h Q) (eT : T.heap = h) (E : Exa Z h a C) (W : Nat) (hf : rm.frames + 1 ≤ R.frames) (hl : W + (maxL + 11) + rm.locals ≤ R.locals) (hc : cells + rm.cells ≤ R.cells) (hs : slots + rm.slots ≤ R.slots)
    {g : JFrame} (hg : g.method = m) (hsize : g.locals.size = c.maxLocals) (hlen : ∀ sig, parseMethodDescriptor y.desc = some sig → argsL.length = sig.parameters.length) (hstack : g.stack = argsL.reverse ++ .ref a :: rest) (hW : 2 * g.monitorRoom + (rest.map fun v => v.category).sum ≤ W) (hdg : decode c.code g.pc = .ok (.invokevirtual index, 3)) :
    ∃ (v : Option Value) (T' : State) (L : List Loc), Q v T'.heap L ∧ Stand p l e R s m args below meth c T' (locs ++ L) (cells + rm.cells) (slots + rm.slots) ∧ ∀ target, Steps p.tables e below (T'.setTop { g with pc := g.pc + 3, stack := v.toList ++ rest }) target → Steps p.tables e below (T.setTop g) target := by
  obtain ⟨cq, kq, qa, qb, qc⟩ := isOf hZ eT E
  obtain ⟨v, _, ⟨T', L', k', n'⟩, -, X', ⟨L, hQ, e1, e2, e3⟩, st⟩ := X.virtualBack hx (y := y) (z := z) hown (mvT hZ w1) (mvT hZ w2) nf (mvT hZ ws) (mvT hZ wi) hy (backOf (W := W) hM hZ w4 w3 hf hl) qa qc hg hsize (Steps.refl _) hlen hstack hW hdg (fun _ _ => ⟨rfl, eT, hc, hs⟩)
  dsimp only [Pt.U, Pt.locs, Pt.cells, Pt.slots] at X' e1 e2 e3 st hQ
  subst e1 e2 e3
  exact ⟨v, T', L, hQ, X', fun _ z => st.trans z⟩
theorem cUp (X : Stand p l e R s m args below meth c T locs cells slots) (hx : p.tables.exec = Jvm.exec) (hZ : Z.Warmed39 s.vm) {own C owner : String} {index : Nat} {y z : MethodName} {bytes : ByteArray} {maxL : Nat} {ret : Option FieldType} (hown : s.vm.findClass own = some m.cls)
    (w1 : (Jvm.Cond.methodLink own index y).before a0 Z = true) (wm : (Jvm.Cond.sameMethod y.cls owner y.name y.desc).before a0 Z = true) (w2 : (Jvm.Cond.declares ⟨owner, y.name, y.desc⟩).before a0 Z = true) (ws : (Jvm.Cond.selects C y z).before a0 Z = true) (wi : (Jvm.Cond.instanceMethod z).before a0 Z = true) (w3 : (Jvm.Cond.initialized z.cls).before a0 Z = true) (w4 : (Jvm.Cond.code z bytes maxL ret).before a0 Z = true)
    (hy : owner ≠ "java/lang/invoke/MethodHandle" ∧ owner ≠ "java/lang/invoke/VarHandle")
    {rm : Room} {a : Addr} {argsL rest : List Value} (hM : ctr l Z z bytes maxL ret [] rm rm.cells rm.slots (.ref a :: argsL).toArray h Q) (eT : T.heap = h) (E : Exa Z h a C) (W : Nat) (hf : rm.frames + 1 ≤ R.frames) (hl : W + (maxL + 11) + rm.locals ≤ R.locals) (hc : cells + rm.cells ≤ R.cells) (hs : slots + rm.slots ≤ R.slots)
    {g : JFrame} (hg : g.method = m) (hsize : g.locals.size = c.maxLocals) (hlen : ∀ sig, parseMethodDescriptor y.desc = some sig → argsL.length = sig.parameters.length) (hstack : g.stack = argsL.reverse ++ .ref a :: rest) (hW : 2 * g.monitorRoom + (rest.map fun v => v.category).sum ≤ W) (hdg : decode c.code g.pc = .ok (.invokevirtual index, 3)) :
    ∃ (v : Option Value) (T' : State) (L : List Loc), Q v T'.heap L ∧ Stand p l e R s m args below meth c T' (locs ++ L) (cells + rm.cells) (slots + rm.slots) ∧ ∀ target, Steps p.tables e below (T'.setTop { g with pc := g.pc + 3, stack := v.toList ++ rest }) target → Steps p.tables e below (T.setTop g) target := by
  obtain ⟨cq, kq, qa, qb, qc⟩ := isOf hZ eT E
  obtain ⟨v, _, ⟨T', L', k', n'⟩, -, X', ⟨L, hQ, e1, e2, e3⟩, st⟩ := X.virtualBackUp hx (x := y) (y := z) (owner := owner) hown (mvT hZ w1) (mvT hZ wm) (mvT hZ w2) hy (mvT hZ ws) (mvT hZ wi) (backOf (W := W) hM hZ w4 w3 hf hl) qa qc hg hsize (Steps.refl _) hlen hstack hW hdg (fun _ _ => ⟨rfl, eT, hc, hs⟩)
  dsimp only [Pt.U, Pt.locs, Pt.cells, Pt.slots] at X' e1 e2 e3 st hQ
  subst e1 e2 e3
  exact ⟨v, T', L, hQ, X', fun _ z => st.trans z⟩
theorem cFa (X : Stand p l e R s m args below meth c T locs cells slots) (hx : p.tables.exec = Jvm.exec) (hZ : Z.Warmed39 s.vm) {own C : String} {index count : Nat} {y z : MethodName} {bytes : ByteArray} {maxL : Nat} {ret : Option FieldType} (hown : s.vm.findClass own = some m.cls)
    (w1 : (Jvm.Cond.methodLink own index y).before a0 Z = true) (w2 : (Jvm.Cond.declares y).before a0 Z = true) (wf : (Jvm.Cond.interfaceMethod y.cls y.cls y.name y.desc).before args s = true) (ws : (Jvm.Cond.selects C y z).before a0 Z = true) (wi : (Jvm.Cond.instanceMethod z).before a0 Z = true) (wp : (Jvm.Cond.publicMethod z).before a0 Z = true) (wu : (Jvm.Cond.unhidden C y.name y.desc).before a0 Z = true) (wk : (Jvm.Cond.castable C y.cls).before a0 Z = true) (w3 : (Jvm.Cond.initialized z.cls).before a0 Z = true) (w4 : (Jvm.Cond.code z bytes maxL ret).before a0 Z = true)
    (hy : y.cls ≠ "java/lang/invoke/MethodHandle" ∧ y.cls ≠ "java/lang/invoke/VarHandle")
    {rm : Room} {a : Addr} {argsL rest : List Value} (hM : ctr l Z z bytes maxL ret [] rm rm.cells rm.slots (.ref a :: argsL).toArray h Q) (eT : T.heap = h) (E : Exa Z h a C) (W : Nat) (hf : rm.frames + 1 ≤ R.frames) (hl : W + (maxL + 11) + rm.locals ≤ R.locals) (hc : cells + rm.cells ≤ R.cells) (hs : slots + rm.slots ≤ R.slots)
    {g : JFrame} (hg : g.method = m) (hsize : g.locals.size = c.maxLocals) (hlen : ∀ sig, parseMethodDescriptor y.desc = some sig → argsL.length = sig.parameters.length) (hstack : g.stack = argsL.reverse ++ .ref a :: rest) (hW : 2 * g.monitorRoom + (rest.map fun v => v.category).sum ≤ W) (hdg : decode c.code g.pc = .ok (.invokeinterface index count, 5)) :
    ∃ (v : Option Value) (T' : State) (L : List Loc), Q v T'.heap L ∧ Stand p l e R s m args below meth c T' (locs ++ L) (cells + rm.cells) (slots + rm.slots) ∧ ∀ target, Steps p.tables e below (T'.setTop { g with pc := g.pc + 5, stack := v.toList ++ rest }) target → Steps p.tables e below (T.setTop g) target := by
  obtain ⟨cq, kq, qa, qb, qc⟩ := isOf hZ eT E
  obtain ⟨v, _, ⟨T', L', k', n'⟩, -, X', ⟨L, hQ, e1, e2, e3⟩, st⟩ := X.interfaceBack hx (xi := y) (y := z) hown (mvT hZ w1) (mvT hZ w2) wf (mvT hZ ws) (mvT hZ wi) (mvT hZ wp) (mvT hZ wu) (mvT hZ wk) hy (backOf (W := W) hM hZ w4 w3 hf hl) qa qb qc hg hsize (Steps.refl _) hlen hstack hW hdg (fun _ _ => ⟨rfl, eT, hc, hs⟩)
  dsimp only [Pt.U, Pt.locs, Pt.cells, Pt.slots] at X' e1 e2 e3 st hQ
  subst e1 e2 e3
  exact ⟨v, T', L, hQ, X', fun _ z => st.trans z⟩
/-- a static's fact over a Keep: its holder's cell is none of the written -/
theorem Sta.keep {h' : Heap} {C n d : String} {v : Value} {ws : List Addr} (F : Sta Z h C n d v) (K : Keep h h' ws) (q : ∀ (x : Addr) (c : Cell), x ∈ ws → h[x]? = some c → c.vm.isStatics = false) : Sta Z h' C n d v := by
  obtain ⟨cf, i, k, f, st, cell, h1, h2, h3, h4, h5, h6, h7⟩ := F
  refine ⟨cf, i, k, f, st, cell, h1, h2, h3, h4, K.2.1 _ _ h5 (fun y => ?_), h6, h7⟩
  rw [q st cell y h5] at h6; cases h6
theorem own_ns {a : Addr} {C : String} (E : Exa Z h a C) : ∀ (x : Addr) (c : Cell), x ∈ [a] → h[x]? = some c → c.vm.isStatics = false := by
  intro x c hx hc
  cases List.mem_singleton.mp hx
  obtain ⟨cell, k, h1, -, -, h4, -⟩ := E
  rw [h1] at hc; cases hc; exact h4
/-- an int field of what a term names, out of an 'eq' of the case -/
theorem own_fld {args : Array Value} {a : Addr} {C n d : String} {t : Term} {x : Int32} (ev : t.eval args Z none [] Z = some (.ref a)) (hq : (Jvm.Cond.eq (.field t C n d) (.int x)).value args Z none Z [] = some true) : Fld Z Z.heap a C n d (.int x) := by
  obtain ⟨u, w, h1, h2, k1, k2⟩ := cmp_v (Or.inl hq)
  have h2' : w = .int x := by rw [Term.int_eval] at h2; exact (Option.some.inj h2).symm
  subst h2'
  obtain ⟨z, rfl⟩ : ∃ z, u = .int z := k2
  have : z = x := gotT (Cond.eq_ints h1 (Term.int_eval x)) hq
  subst this
  exact Fld.start (by rw [← fld_at ev]; exact h1)
theorem own_cat {v : Value} (r : v.isRef = true) : v.category = 1 := by rcases ref_cases r with rfl | ⟨a, rfl⟩ <;> rfl
theorem own_narO {C : String} {v : Value} (r : v.isRef = true) : narrow (.object C) v = v := by rcases ref_cases r with rfl | ⟨a, rfl⟩ <;> rfl
theorem own_fitO {C : String} {v : Value} (r : v.isRef = true) : fits (.object C) v = true := by rcases ref_cases r with rfl | ⟨a, rfl⟩ <;> rfl
theorem own_len {args : Array Value} {a : Addr} {cl : Cell} {ty : FieldType} {t : Term} {x : Int32} (ev : t.eval args Z none [] Z = some (.ref a)) (A : Arr Z Z.heap a cl ty) (hq : (Jvm.Cond.eq (.length t) (.int x)).value args Z none Z [] = some true) : cl.slots.size = x.toNatClampNeg ∧ cl.slots.size < 2 ^ 31 := by
  have ha : Z.arrayAt? a = some cl := IntBox.arrayAt_of A.1 A.2.1 A.2.2
  by_cases p : cl.slots.size < 2 ^ 31
  · have q := gotT (Cond.eq_ints (len_f ev ha p) (Term.int_eval x)) hq
    refine ⟨?_, p⟩
    rw [← q, Int32.toNatClampNeg, len_toInt p]; rfl
  · obtain ⟨u, w, h1, h2, -, -⟩ := cmp_v (Or.inl hq)
    exact absurd h1 (by simp [Term.eval, ev, ha, p])
theorem own_elem {args : Array Value} {a b : Addr} {cl : Cell} {ty : FieldType} {t u : Term} {j : Int32} (ev : t.eval args Z none [] Z = some (.ref a)) (A : Arr Z Z.heap a cl ty) (eu : u.eval args Z none [] Z = some (.ref b)) (hq : (Jvm.Cond.eq (.elem t (.int j)) u).value args Z none Z [] = some true) : cl.slots[j.toNatClampNeg]? = some (.ref b) := by
  obtain ⟨x, y, h1, h2, k1, k2⟩ := cmp_v (Or.inl hq)
  rw [eu] at h2; cases h2
  have e := gotT (eq_R h1 eu k2.2 rfl) hq
  rw [← e]; exact (elem_in h1 ev (Term.int_eval j) A.1).2
end Own
end Jvm.RoadKit
namespace Jvm.Pilot.@@N@@
open Jvm Jvm.ClassFile Sem Op Lib Jvm.Free Jvm.Stand Jvm.LawKit Jvm.RoadKit Bundle Jvm.Pilot.@@N@@.Jvm.D
theorem d1_0 : decode method_3_code 0 = .ok (.iload_n 0, 1) := by decide +kernel
theorem d1_1 : decode method_3_code 1 = .ok (.bipush 16, 2) := by decide +kernel
theorem d1_3 : decode method_3_code 3 = .ok (.imul, 1) := by decide +kernel
theorem d1_4 : decode method_3_code 4 = .ok (.iload_n 1, 1) := by decide +kernel
theorem d1_5 : decode method_3_code 5 = .ok (.bipush 8, 2) := by decide +kernel
theorem d1_7 : decode method_3_code 7 = .ok (.imul, 1) := by decide +kernel
theorem d1_8 : decode method_3_code 8 = .ok (.iadd, 1) := by decide +kernel
theorem d1_9 : decode method_3_code 9 = .ok (.istore_n 2, 1) := by decide +kernel
theorem d1_10 : decode method_3_code 10 = .ok (.iconst 4, 1) := by decide +kernel
theorem d1_11 : decode method_3_code 11 = .ok (.newarray .double, 2) := by decide +kernel
theorem d1_13 : decode method_3_code 13 = .ok (.dup, 1) := by decide +kernel
theorem d1_14 : decode method_3_code 14 = .ok (.iconst 0, 1) := by decide +kernel
theorem d1_15 : decode method_3_code 15 = .ok (.iload_n 2, 1) := by decide +kernel
theorem d1_16 : decode method_3_code 16 = .ok (.i2d, 1) := by decide +kernel
theorem d1_17 : decode method_3_code 17 = .ok (.dastore, 1) := by decide +kernel
theorem d1_18 : decode method_3_code 18 = .ok (.dup, 1) := by decide +kernel
theorem d1_19 : decode method_3_code 19 = .ok (.iconst 1, 1) := by decide +kernel
theorem d1_20 : decode method_3_code 20 = .ok (.iload_n 2, 1) := by decide +kernel
theorem d1_21 : decode method_3_code 21 = .ok (.iconst 1, 1) := by decide +kernel
theorem d1_22 : decode method_3_code 22 = .ok (.iadd, 1) := by decide +kernel
theorem d1_23 : decode method_3_code 23 = .ok (.i2d, 1) := by decide +kernel
theorem d1_24 : decode method_3_code 24 = .ok (.dastore, 1) := by decide +kernel
theorem d1_25 : decode method_3_code 25 = .ok (.dup, 1) := by decide +kernel
theorem d1_26 : decode method_3_code 26 = .ok (.iconst 2, 1) := by decide +kernel
theorem d1_27 : decode method_3_code 27 = .ok (.iload_n 2, 1) := by decide +kernel
theorem d1_28 : decode method_3_code 28 = .ok (.iconst 2, 1) := by decide +kernel
theorem d1_29 : decode method_3_code 29 = .ok (.iadd, 1) := by decide +kernel
theorem d1_30 : decode method_3_code 30 = .ok (.i2d, 1) := by decide +kernel
theorem d1_31 : decode method_3_code 31 = .ok (.dastore, 1) := by decide +kernel
theorem d1_32 : decode method_3_code 32 = .ok (.dup, 1) := by decide +kernel
theorem d1_33 : decode method_3_code 33 = .ok (.iconst 3, 1) := by decide +kernel
theorem d1_34 : decode method_3_code 34 = .ok (.iload_n 2, 1) := by decide +kernel
theorem d1_35 : decode method_3_code 35 = .ok (.iconst 3, 1) := by decide +kernel
theorem d1_36 : decode method_3_code 36 = .ok (.iadd, 1) := by decide +kernel
theorem d1_37 : decode method_3_code 37 = .ok (.i2d, 1) := by decide +kernel
theorem d1_38 : decode method_3_code 38 = .ok (.dastore, 1) := by decide +kernel
theorem d1_39 : decode method_3_code 39 = .ok (.areturn, 1) := by decide +kernel
theorem d2_0 : decode prog_128_method_1_code 0 = .ok (.aload_n 0, 1) := by decide +kernel
theorem d2_1 : decode prog_128_method_1_code 1 = .ok (.invokespecial 1, 3) := by decide +kernel
theorem d2_4 : decode prog_128_method_1_code 4 = .ok (.aload_n 0, 1) := by decide +kernel
theorem d2_5 : decode prog_128_method_1_code 5 = .ok (.lload_n 1, 1) := by decide +kernel
theorem d2_6 : decode prog_128_method_1_code 6 = .ok (.putfield 7, 3) := by decide +kernel
theorem d2_9 : decode prog_128_method_1_code 9 = .ok (.aload_n 0, 1) := by decide +kernel
theorem d2_10 : decode prog_128_method_1_code 10 = .ok (.iload_n 3, 1) := by decide +kernel
theorem d2_11 : decode prog_128_method_1_code 11 = .ok (.iconst 1, 1) := by decide +kernel
theorem d2_12 : decode prog_128_method_1_code 12 = .ok (.iadd, 1) := by decide +kernel
theorem d2_13 : decode prog_128_method_1_code 13 = .ok (.putfield 13, 3) := by decide +kernel
theorem d2_16 : decode prog_128_method_1_code 16 = .ok (.aload_n 0, 1) := by decide +kernel
theorem d2_17 : decode prog_128_method_1_code 17 = .ok (.ldc2_w 17, 3) := by decide +kernel
theorem d2_20 : decode prog_128_method_1_code 20 = .ok (.aload_n 0, 1) := by decide +kernel
theorem d2_21 : decode prog_128_method_1_code 21 = .ok (.getfield 13, 3) := by decide +kernel
theorem d2_24 : decode prog_128_method_1_code 24 = .ok (.i2l, 1) := by decide +kernel
theorem d2_25 : decode prog_128_method_1_code 25 = .ok (.lmul, 1) := by decide +kernel
theorem d2_26 : decode prog_128_method_1_code 26 = .ok (.ldc2_w 19, 3) := by decide +kernel
theorem d2_29 : decode prog_128_method_1_code 29 = .ok (.invokestatic 21, 3) := by decide +kernel
theorem d2_32 : decode prog_128_method_1_code 32 = .ok (.l2i, 1) := by decide +kernel
theorem d2_33 : decode prog_128_method_1_code 33 = .ok (.newarray .double, 2) := by decide +kernel
theorem d2_35 : decode prog_128_method_1_code 35 = .ok (.putfield 27, 3) := by decide +kernel
theorem d2_38 : decode prog_128_method_1_code 38 = .ok (.return_, 1) := by decide +kernel
theorem d4_0 : decode jdk_29_method_70_code 0 = .ok (.lload_n 0, 1) := by decide +kernel
theorem d4_1 : decode jdk_29_method_70_code 1 = .ok (.lload_n 2, 1) := by decide +kernel
theorem d4_2 : decode jdk_29_method_70_code 2 = .ok (.lcmp, 1) := by decide +kernel
theorem d4_3 : decode jdk_29_method_70_code 3 = .ok (.ifCond .gt 7, 3) := by decide +kernel
theorem d4_6 : decode jdk_29_method_70_code 6 = .ok (.lload_n 0, 1) := by decide +kernel
theorem d4_7 : decode jdk_29_method_70_code 7 = .ok (.goto 4, 3) := by decide +kernel
theorem d4_10 : decode jdk_29_method_70_code 10 = .ok (.lload_n 2, 1) := by decide +kernel
theorem d4_11 : decode jdk_29_method_70_code 11 = .ok (.lreturn, 1) := by decide +kernel
theorem d5_0 : decode prog_128_method_7_code 0 = .ok (.aload_n 0, 1) := by decide +kernel
theorem d5_1 : decode prog_128_method_7_code 1 = .ok (.getfield 31, 3) := by decide +kernel
theorem d5_4 : decode prog_128_method_7_code 4 = .ok (.ldc 34, 2) := by decide +kernel
theorem d5_6 : decode prog_128_method_7_code 6 = .ok (.aload_n 0, 1) := by decide +kernel
theorem d5_7 : decode prog_128_method_7_code 7 = .ok (.getfield 13, 3) := by decide +kernel
theorem d5_10 : decode prog_128_method_7_code 10 = .ok (.isub, 1) := by decide +kernel
theorem d5_11 : decode prog_128_method_7_code 11 = .ok (.if_icmp .gt 7, 3) := by decide +kernel
theorem d5_14 : decode prog_128_method_7_code 14 = .ok (.iconst 1, 1) := by decide +kernel
theorem d5_15 : decode prog_128_method_7_code 15 = .ok (.goto 4, 3) := by decide +kernel
theorem d5_19 : decode prog_128_method_7_code 19 = .ok (.istore 4, 2) := by decide +kernel
theorem d5_21 : decode prog_128_method_7_code 21 = .ok (.iload 4, 2) := by decide +kernel
theorem d5_23 : decode prog_128_method_7_code 23 = .ok (.ifCond .eq 92, 3) := by decide +kernel
theorem d5_26 : decode prog_128_method_7_code 26 = .ok (.aload_n 0, 1) := by decide +kernel
theorem d5_27 : decode prog_128_method_7_code 27 = .ok (.getfield 31, 3) := by decide +kernel
theorem d5_30 : decode prog_128_method_7_code 30 = .ok (.aload_n 0, 1) := by decide +kernel
theorem d5_31 : decode prog_128_method_7_code 31 = .ok (.getfield 13, 3) := by decide +kernel
theorem d5_34 : decode prog_128_method_7_code 34 = .ok (.iadd, 1) := by decide +kernel
theorem d5_35 : decode prog_128_method_7_code 35 = .ok (.aload_n 0, 1) := by decide +kernel
theorem d5_36 : decode prog_128_method_7_code 36 = .ok (.getfield 27, 3) := by decide +kernel
theorem d5_39 : decode prog_128_method_7_code 39 = .ok (.arraylength, 1) := by decide +kernel
theorem d5_40 : decode prog_128_method_7_code 40 = .ok (.if_icmp .le 31, 3) := by decide +kernel
theorem d5_71 : decode prog_128_method_7_code 71 = .ok (.aload_n 0, 1) := by decide +kernel
theorem d5_72 : decode prog_128_method_7_code 72 = .ok (.getfield 27, 3) := by decide +kernel
theorem d5_75 : decode prog_128_method_7_code 75 = .ok (.aload_n 0, 1) := by decide +kernel
theorem d5_76 : decode prog_128_method_7_code 76 = .ok (.getfield 31, 3) := by decide +kernel
theorem d5_79 : decode prog_128_method_7_code 79 = .ok (.dload_n 1, 1) := by decide +kernel
theorem d5_80 : decode prog_128_method_7_code 80 = .ok (.dastore, 1) := by decide +kernel
theorem d5_81 : decode prog_128_method_7_code 81 = .ok (.aload_n 3, 1) := by decide +kernel
theorem d5_82 : decode prog_128_method_7_code 82 = .ok (.iconst 0, 1) := by decide +kernel
theorem d5_83 : decode prog_128_method_7_code 83 = .ok (.aload_n 0, 1) := by decide +kernel
theorem d5_84 : decode prog_128_method_7_code 84 = .ok (.getfield 27, 3) := by decide +kernel
theorem d5_87 : decode prog_128_method_7_code 87 = .ok (.aload_n 0, 1) := by decide +kernel
theorem d5_88 : decode prog_128_method_7_code 88 = .ok (.getfield 31, 3) := by decide +kernel
theorem d5_91 : decode prog_128_method_7_code 91 = .ok (.iconst 1, 1) := by decide +kernel
theorem d5_92 : decode prog_128_method_7_code 92 = .ok (.iadd, 1) := by decide +kernel
theorem d5_93 : decode prog_128_method_7_code 93 = .ok (.aload_n 0, 1) := by decide +kernel
theorem d5_94 : decode prog_128_method_7_code 94 = .ok (.getfield 13, 3) := by decide +kernel
theorem d5_97 : decode prog_128_method_7_code 97 = .ok (.iconst 1, 1) := by decide +kernel
theorem d5_98 : decode prog_128_method_7_code 98 = .ok (.isub, 1) := by decide +kernel
theorem d5_99 : decode prog_128_method_7_code 99 = .ok (.invokestatic 43, 3) := by decide +kernel
theorem d5_102 : decode prog_128_method_7_code 102 = .ok (.aload_n 0, 1) := by decide +kernel
theorem d5_103 : decode prog_128_method_7_code 103 = .ok (.dup, 1) := by decide +kernel
theorem d5_104 : decode prog_128_method_7_code 104 = .ok (.getfield 31, 3) := by decide +kernel
theorem d5_107 : decode prog_128_method_7_code 107 = .ok (.aload_n 0, 1) := by decide +kernel
theorem d5_108 : decode prog_128_method_7_code 108 = .ok (.getfield 13, 3) := by decide +kernel
theorem d5_111 : decode prog_128_method_7_code 111 = .ok (.iadd, 1) := by decide +kernel
theorem d5_112 : decode prog_128_method_7_code 112 = .ok (.putfield 31, 3) := by decide +kernel
theorem d5_115 : decode prog_128_method_7_code 115 = .ok (.iload 4, 2) := by decide +kernel
theorem d5_117 : decode prog_128_method_7_code 117 = .ok (.ireturn, 1) := by decide +kernel
theorem d6_0 : decode prog_128_method_6_code 0 = .ok (.aload_n 0, 1) := by decide +kernel
theorem d6_1 : decode prog_128_method_6_code 1 = .ok (.getfield 27, 3) := by decide +kernel
theorem d6_4 : decode prog_128_method_6_code 4 = .ok (.iload_n 1, 1) := by decide +kernel
theorem d6_5 : decode prog_128_method_6_code 5 = .ok (.aload_n 0, 1) := by decide +kernel
theorem d6_6 : decode prog_128_method_6_code 6 = .ok (.getfield 13, 3) := by decide +kernel
theorem d6_9 : decode prog_128_method_6_code 9 = .ok (.imul, 1) := by decide +kernel
theorem d6_10 : decode prog_128_method_6_code 10 = .ok (.iload_n 2, 1) := by decide +kernel
theorem d6_11 : decode prog_128_method_6_code 11 = .ok (.iadd, 1) := by decide +kernel
theorem d6_12 : decode prog_128_method_6_code 12 = .ok (.iconst 1, 1) := by decide +kernel
theorem d6_13 : decode prog_128_method_6_code 13 = .ok (.iadd, 1) := by decide +kernel
theorem d6_14 : decode prog_128_method_6_code 14 = .ok (.daload, 1) := by decide +kernel
theorem d6_15 : decode prog_128_method_6_code 15 = .ok (.dreturn, 1) := by decide +kernel
theorem pn0 : plainName "com/example/wyrd/wyrd/service/TrajectoryValuePinLaw" = true := by first | (simp [plainName, overriddenIn]; done) | decide +kernel
theorem pn1 : plainName "com/example/wyrd/wyrd/service/Trajectory" = true := by first | (simp [plainName, overriddenIn]; done) | decide +kernel
theorem pd0 : parseMethodDescriptor "(JJ)J" = some ⟨[.long, .long], some .long⟩ := by decide +kernel
theorem pd1 : parseMethodDescriptor "(II)[D" = some ⟨[.int, .int], some (.array .double)⟩ := by decide +kernel
theorem pd2 : parseMethodDescriptor "(JI)V" = some ⟨[.long, .int], none⟩ := by decide +kernel
theorem pd3 : parseMethodDescriptor "(II)D" = some ⟨[.int, .int], some .double⟩ := by decide +kernel
theorem pd4 : parseMethodDescriptor "(D[D)Z" = some ⟨[.double, (.array .double)], some .boolean⟩ := by decide +kernel
open Jvm.FP Jvm.Free.Fl
def own_min (a b : Int64) : Int64 := if b < a then b else a
def own_z (n : Int32) : Int32 := (own_min (16 * (n + 1).toInt64) 16777216).toInt32
def own_N (n : Int32) : Prop := n = 1 ∨ n = 2 ∨ n = 3 ∨ n = 4
theorem own_z1 {n : Int32} (h : own_N n) : ¬ own_z n < 0 := by rcases h with rfl | rfl | rfl | rfl <;> decide
theorem own_z2 {n : Int32} (h : own_N n) : (own_z n).toNatClampNeg ≤ 80 := by rcases h with rfl | rfl | rfl | rfl <;> decide
/-- how many values lie there: none, one record's, two records' -/
def own_S (n sz : Int32) : Prop := sz = 0 ∨ sz = 0 + (n + 1) ∨ sz = 0 + (n + 1) + (n + 1)
theorem own_a1 {n sz : Int32} (h : own_N n) (k : own_S n sz) : ¬ 16777216 - (n + 1) < sz := by rcases h with rfl | rfl | rfl | rfl <;> rcases k with rfl | rfl | rfl <;> decide
theorem own_a2 {n sz : Int32} (h : own_N n) (k : own_S n sz) : ¬ own_z n < sz + (n + 1) := by rcases h with rfl | rfl | rfl | rfl <;> rcases k with rfl | rfl | rfl <;> decide
theorem own_a3 {n sz : Int32} (h : own_N n) (k : own_S n sz) : ¬ sz < 0 ∧ sz < own_z n := by rcases h with rfl | rfl | rfl | rfl <;> rcases k with rfl | rfl | rfl <;> decide
theorem own_a4 {n sz : Int32} (h : own_N n) (k : own_S n sz) : ¬ sz + 1 < 0 := by rcases h with rfl | rfl | rfl | rfl <;> rcases k with rfl | rfl | rfl <;> decide
theorem own_a5 {n : Int32} (h : own_N n) : ¬ n + 1 - 1 < 0 := by rcases h with rfl | rfl | rfl | rfl <;> decide
theorem own_a6 {n : Int32} (h : own_N n) : (0 : Int32).toNatClampNeg + (n + 1 - 1).toNatClampNeg ≤ (4 : Int32).toNatClampNeg := by rcases h with rfl | rfl | rfl | rfl <;> decide
theorem own_a7 {n sz : Int32} (h : own_N n) (k : own_S n sz) : (sz + 1).toNatClampNeg + (n + 1 - 1).toNatClampNeg ≤ (own_z n).toNatClampNeg := by rcases h with rfl | rfl | rfl | rfl <;> rcases k with rfl | rfl | rfl <;> decide
theorem own_a8 {n sz : Int32} (h : own_N n) (k : own_S n sz) : (sz + 1).toNatClampNeg + (n + 1 - 1).toNatClampNeg ≤ 15 ∧ sz.toNatClampNeg < 15 := by rcases h with rfl | rfl | rfl | rfl <;> rcases k with rfl | rfl | rfl <;> decide
def own_put (n sz : Int32) (x : Value) (vs vd : List Value) : List Value :=
  (vd.set sz.toNatClampNeg x).take (sz + 1).toNatClampNeg ++ ((List.range (n + 1 - 1).toNatClampNeg).map fun i => vs.getD ((0 : Int32).toNatClampNeg + i) (.double (FP.l2d 0))) ++ (vd.set sz.toNatClampNeg x).drop ((sz + 1).toNatClampNeg + (n + 1 - 1).toNatClampNeg)
theorem own_put_len {n sz : Int32} (h : own_N n) (k : own_S n sz) (x : Value) (vs vd : List Value) (hl : vd.length = 15) : (own_put n sz x vs vd).length = 15 := by
  have q := own_a8 h k
  simp only [own_put, List.length_append, List.length_take, List.length_drop, List.length_map, List.length_range, List.length_set, hl]
  omega
def own_row (g : Int32 → Value) : List Value := [g 0, g 1, g 2, g 3]
def own_new : List Value := [(.double (FP.l2d 0)), (.double (FP.l2d 0)), (.double (FP.l2d 0)), (.double (FP.l2d 0)), (.double (FP.l2d 0)), (.double (FP.l2d 0)), (.double (FP.l2d 0)), (.double (FP.l2d 0)), (.double (FP.l2d 0)), (.double (FP.l2d 0)), (.double (FP.l2d 0)), (.double (FP.l2d 0)), (.double (FP.l2d 0)), (.double (FP.l2d 0)), (.double (FP.l2d 0))]
def own_l1 (n : Int32) (f : Int32 → Value) (x : Value) : List Value := own_put n 0 x (own_row f) own_new
def own_l2 (n : Int32) (f g : Int32 → Value) (x y : Value) : List Value := own_put n (0 + (n + 1)) y (own_row g) (own_l1 n f x)
def own_l3 (n : Int32) (f g h : Int32 → Value) (x y z : Value) : List Value := own_put n (0 + (n + 1) + (n + 1)) z (own_row h) (own_l2 n f g x y)
def own_E (n e : Int32) : Prop := (n = 1 ∧ e = 0) ∨ (n = 2 ∧ (e = 0 ∨ e = 1)) ∨ (n = 3 ∧ (e = 0 ∨ e = 1 ∨ e = 2)) ∨ (n = 4 ∧ (e = 0 ∨ e = 1 ∨ e = 2 ∨ e = 3))
def own_ix (n : Int32) (vd : List Value) (r e : Int32) (v : Value) : Prop := (¬ r * (n + 1) + e + 1 < 0 ∧ r * (n + 1) + e + 1 < own_z n) ∧ vd.getD (r * (n + 1) + e + 1).toNatClampNeg (.double (FP.l2d 0)) = v
set_option maxRecDepth 65536 in
set_option maxHeartbeats 40000000 in
theorem own_ix1 {n e : Int32} (f : Int32 → Value) (x : Value) (h : own_E n e) : own_ix n (own_l1 n f x) 0 e (f e) := by
  rcases h with ⟨rfl, rfl⟩ | ⟨rfl, rfl | rfl⟩ | ⟨rfl, rfl | rfl | rfl⟩ | ⟨rfl, rfl | rfl | rfl | rfl⟩ <;> exact ⟨by decide, rfl⟩
set_option maxRecDepth 65536 in
set_option maxHeartbeats 40000000 in
theorem own_ix2 {n e r : Int32} (f g : Int32 → Value) (x y : Value) (h : own_E n e) : own_ix n (own_l2 n f g x y) 0 e (f e) ∧ own_ix n (own_l2 n f g x y) 1 e (g e) := by
  rcases h with ⟨rfl, rfl⟩ | ⟨rfl, rfl | rfl⟩ | ⟨rfl, rfl | rfl | rfl⟩ | ⟨rfl, rfl | rfl | rfl | rfl⟩ <;> exact ⟨⟨by decide, rfl⟩, by decide, rfl⟩
set_option maxRecDepth 65536 in
set_option maxHeartbeats 40000000 in
theorem own_ix3 {n e r : Int32} (f g h : Int32 → Value) (x y z : Value) (k : own_E n e) : own_ix n (own_l3 n f g h x y z) 0 e (f e) ∧ own_ix n (own_l3 n f g h x y z) 1 e (g e) ∧ own_ix n (own_l3 n f g h x y z) 2 e (h e) := by
  rcases k with ⟨rfl, rfl⟩ | ⟨rfl, rfl | rfl⟩ | ⟨rfl, rfl | rfl | rfl⟩ | ⟨rfl, rfl | rfl | rfl | rfl⟩ <;> exact ⟨⟨by decide, rfl⟩, ⟨by decide, rfl⟩, by decide, rfl⟩
def own_g (b r e : Int32) : Value := .double (FP.i2d (b * 16 + r * 8 + e))
def own_at (n b : Int32) (vd : List Value) (r e : Int32) : Prop := own_ix n vd r e (own_g b r e)
theorem own_at1 {n e : Int32} (b : Int32) (x : Value) (h : own_E n e) : own_at n b (own_l1 n (own_g b 0) x) 0 e := own_ix1 _ _ h
theorem own_at2 {n e r : Int32} (b : Int32) (x y : Value) (h : own_E n e) (hr : r = 0 ∨ r = 1) : own_at n b (own_l2 n (own_g b 0) (own_g b 1) x y) r e := by
  rcases hr with rfl | rfl
  · exact (own_ix2 (r := 0) _ _ _ _ h).1
  · exact (own_ix2 (r := 0) _ _ _ _ h).2
theorem own_at3 {n e r : Int32} (b : Int32) (x y z : Value) (h : own_E n e) (hr : r = 0 ∨ r = 1 ∨ r = 2) : own_at n b (own_l3 n (own_g b 0) (own_g b 1) (own_g b 2) x y z) r e := by
  rcases hr with rfl | rfl | rfl
  · exact (own_ix3 (r := 0) _ _ _ _ _ _ h).1
  · exact (own_ix3 (r := 0) _ _ _ _ _ _ h).2.1
  · exact (own_ix3 (r := 0) _ _ _ _ _ _ h).2.2
theorem own_lt1 {r : Int32} (h : ¬ r < 0 ∧ r < 1) : r = 0 := by
  rw [Int32.lt_iff_toInt_lt, Int32.lt_iff_toInt_lt, show (0 : Int32).toInt = 0 by decide, show (1 : Int32).toInt = 1 by decide] at h
  exact Int32.toInt_inj.mp (by rw [show (0 : Int32).toInt = 0 by decide]; omega)
theorem own_lt2 {r : Int32} (h : ¬ r < 0 ∧ r < 2) : r = 0 ∨ r = 1 := by
  rw [Int32.lt_iff_toInt_lt, Int32.lt_iff_toInt_lt, show (0 : Int32).toInt = 0 by decide, show (2 : Int32).toInt = 2 by decide] at h
  have u : r.toInt = 0 ∨ r.toInt = 1 := by omega
  exact u.imp (fun u => Int32.toInt_inj.mp u) (fun u => Int32.toInt_inj.mp u)
theorem own_lt3 {r : Int32} (h : ¬ r < 0 ∧ r < 3) : r = 0 ∨ r = 1 ∨ r = 2 := by
  rw [Int32.lt_iff_toInt_lt, Int32.lt_iff_toInt_lt, show (0 : Int32).toInt = 0 by decide, show (3 : Int32).toInt = 3 by decide] at h
  have u : r.toInt = 0 ∨ r.toInt = 1 ∨ r.toInt = 2 := by omega
  exact u.imp (fun u => Int32.toInt_inj.mp u) fun u => u.imp (fun u => Int32.toInt_inj.mp u) (fun u => Int32.toInt_inj.mp u)
theorem own_lt4 {r : Int32} (h : ¬ r < 0 ∧ r < 4) : r = 0 ∨ r = 1 ∨ r = 2 ∨ r = 3 := by
  rw [Int32.lt_iff_toInt_lt, Int32.lt_iff_toInt_lt, show (0 : Int32).toInt = 0 by decide, show (4 : Int32).toInt = 4 by decide] at h
  have u : r.toInt = 0 ∨ r.toInt = 1 ∨ r.toInt = 2 ∨ r.toInt = 3 := by omega
  exact u.imp (fun u => Int32.toInt_inj.mp u) fun u => u.imp (fun u => Int32.toInt_inj.mp u) fun u => u.imp (fun u => Int32.toInt_inj.mp u) (fun u => Int32.toInt_inj.mp u)
theorem own_En {n e : Int32} (h : own_N n) (k : ¬ e < 0 ∧ e < n) : own_E n e := by
  rcases h with rfl | rfl | rfl | rfl
  · exact Or.inl ⟨rfl, own_lt1 k⟩
  · exact Or.inr (Or.inl ⟨rfl, own_lt2 k⟩)
  · exact Or.inr (Or.inr (Or.inl ⟨rfl, own_lt3 k⟩))
  · exact Or.inr (Or.inr (Or.inr ⟨rfl, own_lt4 k⟩))
theorem own_n (a : Int32) : own_N ((a &&& 3) + 1) := by
  have q := c_mask a 3 2 (by decide) (by decide)
  rcases own_lt4 (r := a &&& 3) (by rw [Int32.lt_iff_toInt_lt, Int32.lt_iff_toInt_lt, show (0 : Int32).toInt = 0 by decide, show (4 : Int32).toInt = 4 by decide]; omega) with h | h | h | h <;> rw [h]
  · exact Or.inl (by decide)
  · exact Or.inr (Or.inl (by decide))
  · exact Or.inr (Or.inr (Or.inl (by decide)))
  · exact Or.inr (Or.inr (Or.inr (by decide)))
theorem own_sh (a q : Int32) (k : Nat) (hk : q.toBitVec.toNat % 32 = k) (h0 : 0 < k) : 0 ≤ ((a.toUInt32 >>> (q &&& 31).toUInt32).toInt32).toInt := by
  rw [c_iushr a q k hk h0]; exact Int.ediv_nonneg (Int.emod_nonneg _ (by decide)) (Int.ofNat_nonneg _)
theorem own_rem (x n : Int32) (hx : 0 ≤ x.toInt) (hn : 0 < n.toInt) : ¬ (x % n) < 0 ∧ (x % n) < n := by
  have q := (c_iremV x n).1 hx hn
  rw [Int32.lt_iff_toInt_lt, Int32.lt_iff_toInt_lt, show (0 : Int32).toInt = 0 by decide]; omega
def own_C (c : Int32) : Prop := c = 1 ∨ c = 2 ∨ c = 3
theorem own_c (a : Int32) : own_C (((a.toUInt32 >>> ((2 : Int32) &&& 31).toUInt32).toInt32) % 3 + 1) := by
  rcases own_lt3 (own_rem _ 3 (own_sh a 2 2 (by decide) (by decide)) (by decide)) with h | h | h <;> rw [h]
  · exact Or.inl (by decide)
  · exact Or.inr (Or.inl (by decide))
  · exact Or.inr (Or.inr (by decide))
theorem own_c1 {d : Int32} (h : own_C d) (q : ¬ 1 < d) : d = 1 := by
  rcases h with rfl | rfl | rfl
  · rfl
  · exact absurd (by decide) q
  · exact absurd (by decide) q
theorem own_c2 {d : Int32} (h : own_C d) (q : 1 < d) (q' : ¬ 2 < d) : d = 2 := by
  rcases h with rfl | rfl | rfl
  · exact absurd q (by decide)
  · rfl
  · exact absurd (by decide) q'
theorem own_c3 {d : Int32} (h : own_C d) (q : 2 < d) : d = 3 := by
  rcases h with rfl | rfl | rfl
  · exact absurd q (by decide)
  · exact absurd q (by decide)
  · rfl
theorem own_Np {n : Int32} (h : own_N n) : 0 < n.toInt ∧ n ≠ 0 := by rcases h with rfl | rfl | rfl | rfl <;> decide
theorem own_Cp {n : Int32} (h : own_C n) : 0 < n.toInt ∧ n ≠ 0 := by rcases h with rfl | rfl | rfl <;> decide
theorem own_sub (x : UInt64) (y : Int32) (h : Fin64 x) : NoNaN64 (FP.dsub x (FP.i2d y)) := dsub_out h.noNaN (i2d_fin y)
theorem ef1_II (m : MethodId) (x0 : Int32) (x1 : Int32) : entryFrame m #[(.int x0), (.int x1)] 3 = mkF m 0 #[.val (.int x0), .val (.int x1), .unset] [] := by first | (simp [entryFrame, mkF, argsToLocals, Value.category]; done) | rfl
set_option maxRecDepth 65536 in
set_option maxHeartbeats 40000000 in
theorem rmR (l : Launch) (Z : State) (a0 : Array Value) (hw : ∀ d ∈ tables_1, d.before a0 Z = true) (h0 : Heap) (n0 : Nat) (Z0 : n0 ≤ h0.size) (b r : Int32) :
    ctr l Z (⟨"com/example/wyrd/wyrd/service/TrajectoryValuePinLaw", "rec", "(II)[D"⟩ : MethodName) method_3_code 3 (some (.array .double)) [] ({ frames := 0, cells := 1, slots := 4, locals := 0 } : Room) 1 4 #[(.int b), (.int r)] h0 (fun v h L => v = some (.ref h0.size) ∧ Fr n0 L ∧ Keep h0 h [] ∧ ∃ k, Arv Z h h0.size k .double 4 (own_row (own_g b r)) (.double (FP.l2d 0))) := by
  refine ctr_of (plainFor_of_name pn0) ?_
  intro p e s m below meth jc s₁ hx hby hml hret hlk hnm hown hZ e0 X0
  have N0 := Fr.nil n0
  refine Dn.cast (ef1_II m b r) ?_
  show Dn p e below s _ _ _ (s₁.setTop (mkF m 0 #[.val (.int b), .val (.int r), .unset] []))
  refine Dn.of (fun tt_ zz_ => XS.iloadN X0.here hx rfl (hb hby d1_0) rfl zz_) ?_
  show Dn p e below s _ _ _ (s₁.setTop (mkF m 1 #[.val (.int b), .val (.int r), .unset] [(.int b)]))
  refine Dn.of (fun tt_ zz_ => XS.bipush X0.here hx rfl (hb hby d1_1) zz_) ?_
  show Dn p e below s _ _ _ (s₁.setTop (mkF m 3 #[.val (.int b), .val (.int r), .unset] [(.int (16 : Int32)), (.int b)]))
  refine Dn.of (fun tt_ zz_ => XS.imul X0.here hx rfl (hb hby d1_3) rfl zz_) ?_
  show Dn p e below s _ _ _ (s₁.setTop (mkF m 4 #[.val (.int b), .val (.int r), .unset] [(.int (b * (16 : Int32)))]))
  refine Dn.of (fun tt_ zz_ => XS.iloadN X0.here hx rfl (hb hby d1_4) rfl zz_) ?_
  show Dn p e below s _ _ _ (s₁.setTop (mkF m 5 #[.val (.int b), .val (.int r), .unset] [(.int r), (.int (b * (16 : Int32)))]))
  refine Dn.of (fun tt_ zz_ => XS.bipush X0.here hx rfl (hb hby d1_5) zz_) ?_
  show Dn p e below s _ _ _ (s₁.setTop (mkF m 7 #[.val (.int b), .val (.int r), .unset] [(.int (8 : Int32)), (.int r), (.int (b * (16 : Int32)))]))
  refine Dn.of (fun tt_ zz_ => XS.imul X0.here hx rfl (hb hby d1_7) rfl zz_) ?_
  show Dn p e below s _ _ _ (s₁.setTop (mkF m 8 #[.val (.int b), .val (.int r), .unset] [(.int (r * (8 : Int32))), (.int (b * (16 : Int32)))]))
  refine Dn.of (fun tt_ zz_ => XS.iadd X0.here hx rfl (hb hby d1_8) rfl zz_) ?_
  show Dn p e below s _ _ _ (s₁.setTop (mkF m 9 #[.val (.int b), .val (.int r), .unset] [(.int ((b * (16 : Int32)) + (r * (8 : Int32))))]))
  refine Dn.of (fun tt_ zz_ => XS.istoreN X0.here hx rfl (hb hby d1_9) rfl (l' := #[.val (.int b), .val (.int r), .val (.int ((b * (16 : Int32)) + (r * (8 : Int32))))]) rfl zz_) ?_
  show Dn p e below s _ _ _ (s₁.setTop (mkF m 10 #[.val (.int b), .val (.int r), .val (.int ((b * (16 : Int32)) + (r * (8 : Int32))))] []))
  refine Dn.of (fun tt_ zz_ => XS.iconst X0.here hx rfl (hb hby d1_10) zz_) ?_
  show Dn p e below s _ _ _ (s₁.setTop (mkF m 11 #[.val (.int b), .val (.int r), .val (.int ((b * (16 : Int32)) + (r * (8 : Int32))))] [(.int (4 : Int32))]))
  obtain ⟨T1, h1, k1, X1, e1, E1, A1, st1⟩ := newP X0 hx hZ (hw _ (List.mem_of_getElem? (i := 5) rfl)) e0 (g := (mkF m 11 #[.val (.int b), .val (.int r), .val (.int ((b * (16 : Int32)) + (r * (8 : Int32))))] [(.int (4 : Int32))])) rfl (hb hby d1_11) rfl (by decide) (cap := 4) (by decide) (by decide) (by decide) (by decide)
  obtain ⟨b1, g1⟩ : ∃ z, z = h0.size := ⟨_, rfl⟩
  rw [← g1] at A1 st1
  refine Dn.of st1 ?_
  show Dn p e below s _ _ _ (T1.setTop (mkF m 13 #[.val (.int b), .val (.int r), .val (.int ((b * (16 : Int32)) + (r * (8 : Int32))))] [(.ref b1)]))
  have V0 : Arv Z h1 b1 k1 .double 4 [(.double (FP.l2d 0)), (.double (FP.l2d 0)), (.double (FP.l2d 0)), (.double (FP.l2d 0))] (.double (FP.l2d 0)) := Arv.pad (Arv.newD A1 (by decide)) (pad_rep [] _ 4)
  have lb : h0.size ≤ b1 := Nat.le_of_eq g1.symm
  have gb : n0 ≤ b1 := Nat.le_trans Z0 lb
  have K0 := (Keep.refl h0 []).ext E1
  refine Dn.of (fun tt_ zz_ => XS.dup X1.here hx rfl (hb hby d1_13) rfl rfl zz_) ?_
  show Dn p e below s _ _ _ (T1.setTop (mkF m 14 #[.val (.int b), .val (.int r), .val (.int ((b * (16 : Int32)) + (r * (8 : Int32))))] [(.ref b1), (.ref b1)]))
  refine Dn.of (fun tt_ zz_ => XS.iconst X1.here hx rfl (hb hby d1_14) zz_) ?_
  show Dn p e below s _ _ _ (T1.setTop (mkF m 15 #[.val (.int b), .val (.int r), .val (.int ((b * (16 : Int32)) + (r * (8 : Int32))))] [(.int (0 : Int32)), (.ref b1), (.ref b1)]))
  refine Dn.of (fun tt_ zz_ => XS.iloadN X1.here hx rfl (hb hby d1_15) rfl zz_) ?_
  show Dn p e below s _ _ _ (T1.setTop (mkF m 16 #[.val (.int b), .val (.int r), .val (.int ((b * (16 : Int32)) + (r * (8 : Int32))))] [(.int ((b * (16 : Int32)) + (r * (8 : Int32)))), (.int (0 : Int32)), (.ref b1), (.ref b1)]))
  refine Dn.of (fun tt_ zz_ => XS.i2dS X1.here hx rfl (v := FP.i2d ((b * (16 : Int32)) + (r * (8 : Int32)))) (hb hby d1_16) rfl rfl zz_) ?_
  show Dn p e below s _ _ _ (T1.setTop (mkF m 17 #[.val (.int b), .val (.int r), .val (.int ((b * (16 : Int32)) + (r * (8 : Int32))))] [(.double (FP.i2d ((b * (16 : Int32)) + (r * (8 : Int32))))), (.int (0 : Int32)), (.ref b1), (.ref b1)]))
  obtain ⟨c0, A_0, p0, S0, P0, H0, G0⟩ := V0
  obtain ⟨T2, h2, X2, e2, W2, st2⟩ := stD X1 hx hZ e1 A_0 (j := (0 : Int32)) (inb_of S0 (by decide)) (g := (mkF m 17 #[.val (.int b), .val (.int r), .val (.int ((b * (16 : Int32)) + (r * (8 : Int32))))] [(.double (FP.i2d ((b * (16 : Int32)) + (r * (8 : Int32))))), (.int (0 : Int32)), (.ref b1), (.ref b1)])) rfl rfl (hb hby d1_17)
  refine Dn.of st2 ?_
  show Dn p e below s _ _ _ (T2.setTop (mkF m 18 #[.val (.int b), .val (.int r), .val (.int ((b * (16 : Int32)) + (r * (8 : Int32))))] [(.ref b1)]))
  have V1 : Arv Z h2 b1 k1 .double 4 [(.double (FP.i2d ((b * (16 : Int32)) + (r * (8 : Int32))))), (.double (FP.l2d 0)), (.double (FP.l2d 0)), (.double (FP.l2d 0))] (.double (FP.l2d 0)) := Arv.set A_0 p0 S0 P0 H0 G0 rfl W2 0 (by decide) (Nat.le_of_ble_eq_true rfl)
  have K1 := K0.wr W2 (Or.inr lb)
  have N1 := Fr.snoc X2 N0 gb
  refine Dn.of (fun tt_ zz_ => XS.dup X2.here hx rfl (hb hby d1_18) rfl rfl zz_) ?_
  show Dn p e below s _ _ _ (T2.setTop (mkF m 19 #[.val (.int b), .val (.int r), .val (.int ((b * (16 : Int32)) + (r * (8 : Int32))))] [(.ref b1), (.ref b1)]))
  refine Dn.of (fun tt_ zz_ => XS.iconst X2.here hx rfl (hb hby d1_19) zz_) ?_
  show Dn p e below s _ _ _ (T2.setTop (mkF m 20 #[.val (.int b), .val (.int r), .val (.int ((b * (16 : Int32)) + (r * (8 : Int32))))] [(.int (1 : Int32)), (.ref b1), (.ref b1)]))
  refine Dn.of (fun tt_ zz_ => XS.iloadN X2.here hx rfl (hb hby d1_20) rfl zz_) ?_
  show Dn p e below s _ _ _ (T2.setTop (mkF m 21 #[.val (.int b), .val (.int r), .val (.int ((b * (16 : Int32)) + (r * (8 : Int32))))] [(.int ((b * (16 : Int32)) + (r * (8 : Int32)))), (.int (1 : Int32)), (.ref b1), (.ref b1)]))
  refine Dn.of (fun tt_ zz_ => XS.iconst X2.here hx rfl (hb hby d1_21) zz_) ?_
  show Dn p e below s _ _ _ (T2.setTop (mkF m 22 #[.val (.int b), .val (.int r), .val (.int ((b * (16 : Int32)) + (r * (8 : Int32))))] [(.int (1 : Int32)), (.int ((b * (16 : Int32)) + (r * (8 : Int32)))), (.int (1 : Int32)), (.ref b1), (.ref b1)]))
  refine Dn.of (fun tt_ zz_ => XS.iadd X2.here hx rfl (hb hby d1_22) rfl zz_) ?_
  show Dn p e below s _ _ _ (T2.setTop (mkF m 23 #[.val (.int b), .val (.int r), .val (.int ((b * (16 : Int32)) + (r * (8 : Int32))))] [(.int (((b * (16 : Int32)) + (r * (8 : Int32))) + (1 : Int32))), (.int (1 : Int32)), (.ref b1), (.ref b1)]))
  refine Dn.of (fun tt_ zz_ => XS.i2dS X2.here hx rfl (v := FP.i2d (((b * (16 : Int32)) + (r * (8 : Int32))) + (1 : Int32))) (hb hby d1_23) rfl rfl zz_) ?_
  show Dn p e below s _ _ _ (T2.setTop (mkF m 24 #[.val (.int b), .val (.int r), .val (.int ((b * (16 : Int32)) + (r * (8 : Int32))))] [(.double (FP.i2d (((b * (16 : Int32)) + (r * (8 : Int32))) + (1 : Int32)))), (.int (1 : Int32)), (.ref b1), (.ref b1)]))
  obtain ⟨c1, A_1, p1, S1, P1, H1, G1⟩ := V1
  obtain ⟨T3, h3, X3, e3, W3, st3⟩ := stD X2 hx hZ e2 A_1 (j := (1 : Int32)) (inb_of S1 (by decide)) (g := (mkF m 24 #[.val (.int b), .val (.int r), .val (.int ((b * (16 : Int32)) + (r * (8 : Int32))))] [(.double (FP.i2d (((b * (16 : Int32)) + (r * (8 : Int32))) + (1 : Int32)))), (.int (1 : Int32)), (.ref b1), (.ref b1)])) rfl rfl (hb hby d1_24)
  refine Dn.of st3 ?_
  show Dn p e below s _ _ _ (T3.setTop (mkF m 25 #[.val (.int b), .val (.int r), .val (.int ((b * (16 : Int32)) + (r * (8 : Int32))))] [(.ref b1)]))
  have V2 : Arv Z h3 b1 k1 .double 4 [(.double (FP.i2d ((b * (16 : Int32)) + (r * (8 : Int32))))), (.double (FP.i2d (((b * (16 : Int32)) + (r * (8 : Int32))) + (1 : Int32)))), (.double (FP.l2d 0)), (.double (FP.l2d 0))] (.double (FP.l2d 0)) := Arv.set A_1 p1 S1 P1 H1 G1 rfl W3 1 (by decide) (Nat.le_of_ble_eq_true rfl)
  have K2 := K1.wr W3 (Or.inr lb)
  have N2 := Fr.snoc X3 N1 gb
  refine Dn.of (fun tt_ zz_ => XS.dup X3.here hx rfl (hb hby d1_25) rfl rfl zz_) ?_
  show Dn p e below s _ _ _ (T3.setTop (mkF m 26 #[.val (.int b), .val (.int r), .val (.int ((b * (16 : Int32)) + (r * (8 : Int32))))] [(.ref b1), (.ref b1)]))
  refine Dn.of (fun tt_ zz_ => XS.iconst X3.here hx rfl (hb hby d1_26) zz_) ?_
  show Dn p e below s _ _ _ (T3.setTop (mkF m 27 #[.val (.int b), .val (.int r), .val (.int ((b * (16 : Int32)) + (r * (8 : Int32))))] [(.int (2 : Int32)), (.ref b1), (.ref b1)]))
  refine Dn.of (fun tt_ zz_ => XS.iloadN X3.here hx rfl (hb hby d1_27) rfl zz_) ?_
  show Dn p e below s _ _ _ (T3.setTop (mkF m 28 #[.val (.int b), .val (.int r), .val (.int ((b * (16 : Int32)) + (r * (8 : Int32))))] [(.int ((b * (16 : Int32)) + (r * (8 : Int32)))), (.int (2 : Int32)), (.ref b1), (.ref b1)]))
  refine Dn.of (fun tt_ zz_ => XS.iconst X3.here hx rfl (hb hby d1_28) zz_) ?_
  show Dn p e below s _ _ _ (T3.setTop (mkF m 29 #[.val (.int b), .val (.int r), .val (.int ((b * (16 : Int32)) + (r * (8 : Int32))))] [(.int (2 : Int32)), (.int ((b * (16 : Int32)) + (r * (8 : Int32)))), (.int (2 : Int32)), (.ref b1), (.ref b1)]))
  refine Dn.of (fun tt_ zz_ => XS.iadd X3.here hx rfl (hb hby d1_29) rfl zz_) ?_
  show Dn p e below s _ _ _ (T3.setTop (mkF m 30 #[.val (.int b), .val (.int r), .val (.int ((b * (16 : Int32)) + (r * (8 : Int32))))] [(.int (((b * (16 : Int32)) + (r * (8 : Int32))) + (2 : Int32))), (.int (2 : Int32)), (.ref b1), (.ref b1)]))
  refine Dn.of (fun tt_ zz_ => XS.i2dS X3.here hx rfl (v := FP.i2d (((b * (16 : Int32)) + (r * (8 : Int32))) + (2 : Int32))) (hb hby d1_30) rfl rfl zz_) ?_
  show Dn p e below s _ _ _ (T3.setTop (mkF m 31 #[.val (.int b), .val (.int r), .val (.int ((b * (16 : Int32)) + (r * (8 : Int32))))] [(.double (FP.i2d (((b * (16 : Int32)) + (r * (8 : Int32))) + (2 : Int32)))), (.int (2 : Int32)), (.ref b1), (.ref b1)]))
  obtain ⟨c2, A_2, p2, S2, P2, H2, G2⟩ := V2
  obtain ⟨T4, h4, X4, e4, W4, st4⟩ := stD X3 hx hZ e3 A_2 (j := (2 : Int32)) (inb_of S2 (by decide)) (g := (mkF m 31 #[.val (.int b), .val (.int r), .val (.int ((b * (16 : Int32)) + (r * (8 : Int32))))] [(.double (FP.i2d (((b * (16 : Int32)) + (r * (8 : Int32))) + (2 : Int32)))), (.int (2 : Int32)), (.ref b1), (.ref b1)])) rfl rfl (hb hby d1_31)
  refine Dn.of st4 ?_
  show Dn p e below s _ _ _ (T4.setTop (mkF m 32 #[.val (.int b), .val (.int r), .val (.int ((b * (16 : Int32)) + (r * (8 : Int32))))] [(.ref b1)]))
  have V3 : Arv Z h4 b1 k1 .double 4 [(.double (FP.i2d ((b * (16 : Int32)) + (r * (8 : Int32))))), (.double (FP.i2d (((b * (16 : Int32)) + (r * (8 : Int32))) + (1 : Int32)))), (.double (FP.i2d (((b * (16 : Int32)) + (r * (8 : Int32))) + (2 : Int32)))), (.double (FP.l2d 0))] (.double (FP.l2d 0)) := Arv.set A_2 p2 S2 P2 H2 G2 rfl W4 2 (by decide) (Nat.le_of_ble_eq_true rfl)
  have K3 := K2.wr W4 (Or.inr lb)
  have N3 := Fr.snoc X4 N2 gb
  refine Dn.of (fun tt_ zz_ => XS.dup X4.here hx rfl (hb hby d1_32) rfl rfl zz_) ?_
  show Dn p e below s _ _ _ (T4.setTop (mkF m 33 #[.val (.int b), .val (.int r), .val (.int ((b * (16 : Int32)) + (r * (8 : Int32))))] [(.ref b1), (.ref b1)]))
  refine Dn.of (fun tt_ zz_ => XS.iconst X4.here hx rfl (hb hby d1_33) zz_) ?_
  show Dn p e below s _ _ _ (T4.setTop (mkF m 34 #[.val (.int b), .val (.int r), .val (.int ((b * (16 : Int32)) + (r * (8 : Int32))))] [(.int (3 : Int32)), (.ref b1), (.ref b1)]))
  refine Dn.of (fun tt_ zz_ => XS.iloadN X4.here hx rfl (hb hby d1_34) rfl zz_) ?_
  show Dn p e below s _ _ _ (T4.setTop (mkF m 35 #[.val (.int b), .val (.int r), .val (.int ((b * (16 : Int32)) + (r * (8 : Int32))))] [(.int ((b * (16 : Int32)) + (r * (8 : Int32)))), (.int (3 : Int32)), (.ref b1), (.ref b1)]))
  refine Dn.of (fun tt_ zz_ => XS.iconst X4.here hx rfl (hb hby d1_35) zz_) ?_
  show Dn p e below s _ _ _ (T4.setTop (mkF m 36 #[.val (.int b), .val (.int r), .val (.int ((b * (16 : Int32)) + (r * (8 : Int32))))] [(.int (3 : Int32)), (.int ((b * (16 : Int32)) + (r * (8 : Int32)))), (.int (3 : Int32)), (.ref b1), (.ref b1)]))
  refine Dn.of (fun tt_ zz_ => XS.iadd X4.here hx rfl (hb hby d1_36) rfl zz_) ?_
  show Dn p e below s _ _ _ (T4.setTop (mkF m 37 #[.val (.int b), .val (.int r), .val (.int ((b * (16 : Int32)) + (r * (8 : Int32))))] [(.int (((b * (16 : Int32)) + (r * (8 : Int32))) + (3 : Int32))), (.int (3 : Int32)), (.ref b1), (.ref b1)]))
  refine Dn.of (fun tt_ zz_ => XS.i2dS X4.here hx rfl (v := FP.i2d (((b * (16 : Int32)) + (r * (8 : Int32))) + (3 : Int32))) (hb hby d1_37) rfl rfl zz_) ?_
  show Dn p e below s _ _ _ (T4.setTop (mkF m 38 #[.val (.int b), .val (.int r), .val (.int ((b * (16 : Int32)) + (r * (8 : Int32))))] [(.double (FP.i2d (((b * (16 : Int32)) + (r * (8 : Int32))) + (3 : Int32)))), (.int (3 : Int32)), (.ref b1), (.ref b1)]))
  obtain ⟨c3, A_3, p3, S3, P3, H3, G3⟩ := V3
  obtain ⟨T5, h5, X5, e5, W5, st5⟩ := stD X4 hx hZ e4 A_3 (j := (3 : Int32)) (inb_of S3 (by decide)) (g := (mkF m 38 #[.val (.int b), .val (.int r), .val (.int ((b * (16 : Int32)) + (r * (8 : Int32))))] [(.double (FP.i2d (((b * (16 : Int32)) + (r * (8 : Int32))) + (3 : Int32)))), (.int (3 : Int32)), (.ref b1), (.ref b1)])) rfl rfl (hb hby d1_38)
  refine Dn.of st5 ?_
  show Dn p e below s _ _ _ (T5.setTop (mkF m 39 #[.val (.int b), .val (.int r), .val (.int ((b * (16 : Int32)) + (r * (8 : Int32))))] [(.ref b1)]))
  have V4 : Arv Z h5 b1 k1 .double 4 [(.double (FP.i2d ((b * (16 : Int32)) + (r * (8 : Int32))))), (.double (FP.i2d (((b * (16 : Int32)) + (r * (8 : Int32))) + (1 : Int32)))), (.double (FP.i2d (((b * (16 : Int32)) + (r * (8 : Int32))) + (2 : Int32)))), (.double (FP.i2d (((b * (16 : Int32)) + (r * (8 : Int32))) + (3 : Int32))))] (.double (FP.l2d 0)) := Arv.set A_3 p3 S3 P3 H3 G3 rfl W5 3 (by decide) (Nat.le_of_ble_eq_true rfl)
  have K4 := K3.wr W5 (Or.inr lb)
  have N4 := Fr.snoc X5 N3 gb
  have V5 : Arv Z h5 b1 k1 .double 4 (own_row (own_g b r)) (.double (FP.l2d 0)) := by unfold own_row own_g; rw [Int32.add_zero]; exact V4
  subst g1
  show Dn p e below s _ _ _ (T5.setTop (mkF m 39 #[.val (.int b), .val (.int r), .val (.int ((b * (16 : Int32)) + (r * (8 : Int32))))] [(.ref h0.size)]))
  exact Dn.retA X5 hx hlk hret rfl rfl (hb hby d1_39) (by decide) (by decide) (by rw [e5]; exact ⟨rfl, N4, K4, k1, V5⟩)
theorem ef4_JJ (m : MethodId) (x0 : Int64) (x1 : Int64) : entryFrame m #[(.long x0), (.long x1)] 4 = mkF m 0 #[.val (.long x0), .second, .val (.long x1), .second] [] := by first | (simp [entryFrame, mkF, argsToLocals, Value.category]; done) | rfl
set_option maxRecDepth 65536 in
set_option maxHeartbeats 40000000 in
theorem rmM (l : Launch) (Z : State) (a0 : Array Value) (hw : ∀ d ∈ tables_1, d.before a0 Z = true) (h0 : Heap) (n0 : Nat) (Z0 : n0 ≤ h0.size) (x y : Int64) :
    ctr l Z (⟨"java/lang/Math", "min", "(JJ)J"⟩ : MethodName) jdk_29_method_70_code 4 (some .long) [] ({ frames := 0, cells := 0, slots := 0, locals := 0 } : Room) 0 0 #[(.long x), (.long y)] h0 (fun v h L => v = some (.long (own_min x y)) ∧ Fr n0 L ∧ h = h0) := by
  refine ctr_of (by decide +kernel) ?_
  intro p e s m below meth jc s₁ hx hby hml hret hlk hnm hown hZ e0 X0
  have N0 := Fr.nil n0
  refine Dn.cast (ef4_JJ m x y) ?_
  show Dn p e below s _ _ _ (s₁.setTop (mkF m 0 #[.val (.long x), .second, .val (.long y), .second] []))
  refine Dn.of (fun tt_ zz_ => XS.lloadN X0.here hx rfl (hb hby d4_0) rfl zz_) ?_
  show Dn p e below s _ _ _ (s₁.setTop (mkF m 1 #[.val (.long x), .second, .val (.long y), .second] [(.long x)]))
  refine Dn.of (fun tt_ zz_ => XS.lloadN X0.here hx rfl (hb hby d4_1) rfl zz_) ?_
  show Dn p e below s _ _ _ (s₁.setTop (mkF m 2 #[.val (.long x), .second, .val (.long y), .second] [(.long y), (.long x)]))
  refine Dn.of (fun tt_ zz_ => XS.lcmp X0.here hx rfl (hb hby d4_2) rfl zz_) ?_
  show Dn p e below s _ _ _ (s₁.setTop (mkF m 3 #[.val (.long x), .second, .val (.long y), .second] [(.int (lcmpW x y))]))
  by_cases h1 : (0 : Int32) < (lcmpW x y)
  · skip
    refine Dn.of (fun tt_ zz_ => XS.ifYes X0.here hx rfl (pc0 := 3) (pc' := 10) rfl (hb hby d4_3) rfl ((if0 _ _).trans (tlt h1).2.2.1) (by decide) (by decide) zz_) ?_
    show Dn p e below s _ _ _ (s₁.setTop (mkF m 10 #[.val (.long x), .second, .val (.long y), .second] []))
    refine Dn.of (fun tt_ zz_ => XS.lloadN X0.here hx rfl (hb hby d4_10) rfl zz_) ?_
    show Dn p e below s _ _ _ (s₁.setTop (mkF m 11 #[.val (.long x), .second, .val (.long y), .second] [(.long y)]))
    exact Dn.ret X0 hx hlk hret rfl (Or.inr (Or.inl ⟨rfl, rfl, _, rfl⟩)) (hb hby d4_11) (by decide) (by decide) (⟨by rw [own_min, if_pos ((lw_gt _ _).mp h1)], N0, e0⟩)
  · skip
    refine Dn.of (fun tt_ zz_ => XS.ifNo X0.here hx rfl (hb hby d4_3) rfl ((if0 _ _).trans (flt h1).2.2.1) zz_) ?_
    show Dn p e below s _ _ _ (s₁.setTop (mkF m 6 #[.val (.long x), .second, .val (.long y), .second] []))
    refine Dn.of (fun tt_ zz_ => XS.lloadN X0.here hx rfl (hb hby d4_6) rfl zz_) ?_
    show Dn p e below s _ _ _ (s₁.setTop (mkF m 7 #[.val (.long x), .second, .val (.long y), .second] [(.long x)]))
    refine Dn.of (fun tt_ zz_ => XS.goto X0.here hx rfl (pc0 := 7) (pc' := 11) rfl (hb hby d4_7) (by decide) (by decide) zz_) ?_
    show Dn p e below s _ _ _ (s₁.setTop (mkF m 11 #[.val (.long x), .second, .val (.long y), .second] [(.long x)]))
    exact Dn.ret X0 hx hlk hret rfl (Or.inr (Or.inl ⟨rfl, rfl, _, rfl⟩)) (hb hby d4_11) (by decide) (by decide) (⟨by rw [own_min, if_neg (fun z => h1 ((lw_gt _ _).mpr z))], N0, e0⟩)
theorem ef2_AJI (m : MethodId) (x0 : Addr) (x1 : Int64) (x2 : Int32) : entryFrame m #[(.ref x0), (.long x1), (.int x2)] 4 = mkF m 0 #[.val (.ref x0), .val (.long x1), .second, .val (.int x2)] [] := by first | (simp [entryFrame, mkF, argsToLocals, Value.category]; done) | rfl
set_option maxRecDepth 65536 in
set_option maxHeartbeats 40000000 in
theorem rmI (l : Launch) (Z : State) (a0 : Array Value) (hw : ∀ d ∈ tables_1, d.before a0 Z = true) (h0 : Heap) (n0 : Nat) (Z0 : n0 ≤ h0.size) (a : Addr) (u : Int64) (n : Int32) (E0 : Exa Z h0 a "com/example/wyrd/wyrd/service/Trajectory") (F0 : Fld Z h0 a "com/example/wyrd/wyrd/service/Trajectory" "run" "J" (.long (0 : Int64))) (F1 : Fld Z h0 a "com/example/wyrd/wyrd/service/Trajectory" "width" "I" (.int (0 : Int32))) (F2 : Fld Z h0 a "com/example/wyrd/wyrd/service/Trajectory" "values" "[D" .null) (F3 : Fld Z h0 a "com/example/wyrd/wyrd/service/Trajectory" "size" "I" (.int (0 : Int32))) (g0 : n0 ≤ a) (hn : own_N n) :
    ctr l Z (⟨"com/example/wyrd/wyrd/service/Trajectory", "<init>", "(JI)V"⟩ : MethodName) prog_128_method_1_code 4 none [] ({ frames := 1, cells := 1, slots := 80, locals := 30 } : Room) 1 80 #[(.ref a), (.long u), (.int n)] h0 (fun v h L => v = none ∧ Fr n0 L ∧ Keep h0 h [a] ∧ Fld Z h a "com/example/wyrd/wyrd/service/Trajectory" "width" "I" (.int (n + 1)) ∧ Fld Z h a "com/example/wyrd/wyrd/service/Trajectory" "size" "I" (.int (0 : Int32)) ∧ ∃ vv k, Fld Z h a "com/example/wyrd/wyrd/service/Trajectory" "values" "[D" (.ref vv) ∧ h0.size ≤ vv ∧ Arv Z h vv k .double (own_z n) own_new (.double (FP.l2d 0))) := by
  refine ctr_of (plainFor_of_name pn1) ?_
  intro p e s m below meth jc s₁ hx hby hml hret hlk hnm hown hZ e0 X0
  have N0 := Fr.nil n0
  refine Dn.cast (ef2_AJI m a u n) ?_
  show Dn p e below s _ _ _ (s₁.setTop (mkF m 0 #[.val (.ref a), .val (.long u), .second, .val (.int n)] []))
  have s10 : Jvm.RoadKit.slotOf Z "com/example/wyrd/wyrd/service/Trajectory" "width" "I" ≠ Jvm.RoadKit.slotOf Z "com/example/wyrd/wyrd/service/Trajectory" "run" "J" := slot_ne (Or.inr (hw _ (List.mem_of_getElem? (i := 18) rfl))) (Or.inr (hw _ (List.mem_of_getElem? (i := 16) rfl))) (by decide) (t := .int) (t' := .long) (by decide) (by decide)
  have s20 : Jvm.RoadKit.slotOf Z "com/example/wyrd/wyrd/service/Trajectory" "values" "[D" ≠ Jvm.RoadKit.slotOf Z "com/example/wyrd/wyrd/service/Trajectory" "run" "J" := slot_ne (Or.inl (hw _ (List.mem_of_getElem? (i := 26) rfl))) (Or.inr (hw _ (List.mem_of_getElem? (i := 16) rfl))) (by decide) (t := (.array .double)) (t' := .long) (by decide) (by decide)
  have s30 : Jvm.RoadKit.slotOf Z "com/example/wyrd/wyrd/service/Trajectory" "size" "I" ≠ Jvm.RoadKit.slotOf Z "com/example/wyrd/wyrd/service/Trajectory" "run" "J" := slot_ne (Or.inl (hw _ (List.mem_of_getElem? (i := 34) rfl))) (Or.inr (hw _ (List.mem_of_getElem? (i := 16) rfl))) (by decide) (t := .int) (t' := .long) (by decide) (by decide)
  have s12 : Jvm.RoadKit.slotOf Z "com/example/wyrd/wyrd/service/Trajectory" "width" "I" ≠ Jvm.RoadKit.slotOf Z "com/example/wyrd/wyrd/service/Trajectory" "values" "[D" := slot_ne (Or.inr (hw _ (List.mem_of_getElem? (i := 18) rfl))) (Or.inl (hw _ (List.mem_of_getElem? (i := 26) rfl))) (by decide) (t := .int) (t' := (.array .double)) (by decide) (by decide)
  have s21 : Jvm.RoadKit.slotOf Z "com/example/wyrd/wyrd/service/Trajectory" "values" "[D" ≠ Jvm.RoadKit.slotOf Z "com/example/wyrd/wyrd/service/Trajectory" "width" "I" := slot_ne (Or.inl (hw _ (List.mem_of_getElem? (i := 26) rfl))) (Or.inr (hw _ (List.mem_of_getElem? (i := 18) rfl))) (by decide) (t := (.array .double)) (t' := .int) (by decide) (by decide)
  have s31 : Jvm.RoadKit.slotOf Z "com/example/wyrd/wyrd/service/Trajectory" "size" "I" ≠ Jvm.RoadKit.slotOf Z "com/example/wyrd/wyrd/service/Trajectory" "width" "I" := slot_ne (Or.inl (hw _ (List.mem_of_getElem? (i := 34) rfl))) (Or.inr (hw _ (List.mem_of_getElem? (i := 18) rfl))) (by decide) (t := .int) (t' := .int) (by decide) (by decide)
  have s32 : Jvm.RoadKit.slotOf Z "com/example/wyrd/wyrd/service/Trajectory" "size" "I" ≠ Jvm.RoadKit.slotOf Z "com/example/wyrd/wyrd/service/Trajectory" "values" "[D" := slot_ne (Or.inl (hw _ (List.mem_of_getElem? (i := 34) rfl))) (Or.inl (hw _ (List.mem_of_getElem? (i := 26) rfl))) (by decide) (t := .int) (t' := (.array .double)) (by decide) (by decide)
  refine Dn.of (fun tt_ zz_ => XS.aloadN X0.here hx rfl (hb hby d2_0) rfl rfl zz_) ?_
  show Dn p e below s _ _ _ (s₁.setTop (mkF m 1 #[.val (.ref a), .val (.long u), .second, .val (.int n)] [(.ref a)]))
  obtain ⟨T6, X6, e6, st6⟩ := initO X0 hx hZ hown (hw _ (List.mem_of_getElem? (i := 12) rfl)) (hw _ (List.mem_of_getElem? (i := 13) rfl)) (hw _ (List.mem_of_getElem? (i := 14) rfl)) e0 (g := (mkF m 1 #[.val (.ref a), .val (.long u), .second, .val (.int n)] [(.ref a)])) rfl (by rw [hml]; rfl) rfl (hb hby d2_1) (by decide) (W := 0) (by show 2 * 0 + _ ≤ _; exact Nat.le_of_eq rfl) (by decide)
  refine Dn.of st6 ?_
  show Dn p e below s _ _ _ (T6.setTop (mkF m 4 #[.val (.ref a), .val (.long u), .second, .val (.int n)] []))
  refine Dn.of (fun tt_ zz_ => XS.aloadN X6.here hx rfl (hb hby d2_4) rfl rfl zz_) ?_
  show Dn p e below s _ _ _ (T6.setTop (mkF m 5 #[.val (.ref a), .val (.long u), .second, .val (.int n)] [(.ref a)]))
  refine Dn.of (fun tt_ zz_ => XS.lloadN X6.here hx rfl (hb hby d2_5) rfl zz_) ?_
  show Dn p e below s _ _ _ (T6.setTop (mkF m 6 #[.val (.ref a), .val (.long u), .second, .val (.int n)] [(.long u), (.ref a)]))
  obtain ⟨T7, h7, X7, e7, W7, st7⟩ := putF X6 hx hZ hown (host := "") (Or.inl (hw _ (List.mem_of_getElem? (i := 15) rfl))) Via.refl e6 F0 E0 (Or.inr ⟨(hw _ (List.mem_of_getElem? (i := 16) rfl)), rfl, hnm⟩) (hw _ (List.mem_of_getElem? (i := 7) rfl)) (ty := .long) (by decide) rfl rfl (g := (mkF m 6 #[.val (.ref a), .val (.long u), .second, .val (.int n)] [(.long u), (.ref a)])) rfl rfl (hb hby d2_6)
  refine Dn.of st7 ?_
  show Dn p e below s _ _ _ (T7.setTop (mkF m 9 #[.val (.ref a), .val (.long u), .second, .val (.int n)] []))
  refine Dn.of (fun tt_ zz_ => XS.aloadN X7.here hx rfl (hb hby d2_9) rfl rfl zz_) ?_
  show Dn p e below s _ _ _ (T7.setTop (mkF m 10 #[.val (.ref a), .val (.long u), .second, .val (.int n)] [(.ref a)]))
  refine Dn.of (fun tt_ zz_ => XS.iloadN X7.here hx rfl (hb hby d2_10) rfl zz_) ?_
  show Dn p e below s _ _ _ (T7.setTop (mkF m 11 #[.val (.ref a), .val (.long u), .second, .val (.int n)] [(.int n), (.ref a)]))
  refine Dn.of (fun tt_ zz_ => XS.iconst X7.here hx rfl (hb hby d2_11) zz_) ?_
  show Dn p e below s _ _ _ (T7.setTop (mkF m 12 #[.val (.ref a), .val (.long u), .second, .val (.int n)] [(.int (1 : Int32)), (.int n), (.ref a)]))
  refine Dn.of (fun tt_ zz_ => XS.iadd X7.here hx rfl (hb hby d2_12) rfl zz_) ?_
  show Dn p e below s _ _ _ (T7.setTop (mkF m 13 #[.val (.ref a), .val (.long u), .second, .val (.int n)] [(.int (n + (1 : Int32))), (.ref a)]))
  obtain ⟨T8, h8, X8, e8, W8, st8⟩ := putF X7 hx hZ hown (host := "") (Or.inl (hw _ (List.mem_of_getElem? (i := 17) rfl))) Via.refl e7 (F1.other W7 (Or.inr s10)) (E0.wr W7) (Or.inr ⟨(hw _ (List.mem_of_getElem? (i := 18) rfl)), rfl, hnm⟩) (hw _ (List.mem_of_getElem? (i := 7) rfl)) (ty := .int) (by decide) rfl rfl (g := (mkF m 13 #[.val (.ref a), .val (.long u), .second, .val (.int n)] [(.int (n + (1 : Int32))), (.ref a)])) rfl rfl (hb hby d2_13)
  refine Dn.of st8 ?_
  show Dn p e below s _ _ _ (T8.setTop (mkF m 16 #[.val (.ref a), .val (.long u), .second, .val (.int n)] []))
  have G1 := (F1.other W7 (Or.inr s10)).same W8
  have G2 := (F2.other W7 (Or.inr s20)).other W8 (Or.inr s21)
  have G3 := (F3.other W7 (Or.inr s30)).other W8 (Or.inr s31)
  have E1 := (E0.wr W7).wr W8
  have K1 := ((Keep.refl h0 [a]).wr W7 (Or.inl (List.mem_of_getElem? (i := 0) rfl))).wr W8 (Or.inl (List.mem_of_getElem? (i := 0) rfl))
  have N1 := Fr.snoc X8 (Fr.snoc X7 N0 g0) g0
  refine Dn.of (fun tt_ zz_ => XS.aloadN X8.here hx rfl (hb hby d2_16) rfl rfl zz_) ?_
  show Dn p e below s _ _ _ (T8.setTop (mkF m 17 #[.val (.ref a), .val (.long u), .second, .val (.int n)] [(.ref a)]))
  refine Dn.of (fun tt_ zz_ => X8.ldc2J hx hown (mvT hZ (hw _ (List.mem_of_getElem? (i := 19) rfl))) rfl (hb hby d2_17) zz_) ?_
  show Dn p e below s _ _ _ (T8.setTop (mkF m 20 #[.val (.ref a), .val (.long u), .second, .val (.int n)] [(.long (16 : Int64)), (.ref a)]))
  refine Dn.of (fun tt_ zz_ => XS.aloadN X8.here hx rfl (hb hby d2_20) rfl rfl zz_) ?_
  show Dn p e below s _ _ _ (T8.setTop (mkF m 21 #[.val (.ref a), .val (.long u), .second, .val (.int n)] [(.ref a), (.long (16 : Int64)), (.ref a)]))
  obtain ⟨T9, X9, e9, st9⟩ := getF X8 hx hZ hown (host := "") (Or.inl (hw _ (List.mem_of_getElem? (i := 17) rfl))) Via.refl e8 G1 (g := (mkF m 21 #[.val (.ref a), .val (.long u), .second, .val (.int n)] [(.ref a), (.long (16 : Int64)), (.ref a)])) rfl rfl (hb hby d2_21)
  refine Dn.of st9 ?_
  show Dn p e below s _ _ _ (T9.setTop (mkF m 24 #[.val (.ref a), .val (.long u), .second, .val (.int n)] [(.int (n + (1 : Int32))), (.long (16 : Int64)), (.ref a)]))
  refine Dn.of (fun tt_ zz_ => XS.i2l X9.here hx rfl (hb hby d2_24) rfl zz_) ?_
  show Dn p e below s _ _ _ (T9.setTop (mkF m 25 #[.val (.ref a), .val (.long u), .second, .val (.int n)] [(.long ((n + (1 : Int32)).toInt64)), (.long (16 : Int64)), (.ref a)]))
  refine Dn.of (fun tt_ zz_ => XS.lmul X9.here hx rfl (hb hby d2_25) rfl zz_) ?_
  show Dn p e below s _ _ _ (T9.setTop (mkF m 26 #[.val (.ref a), .val (.long u), .second, .val (.int n)] [(.long ((16 : Int64) * ((n + (1 : Int32)).toInt64))), (.ref a)]))
  refine Dn.of (fun tt_ zz_ => X9.ldc2J hx hown (mvT hZ (hw _ (List.mem_of_getElem? (i := 20) rfl))) rfl (hb hby d2_26) zz_) ?_
  show Dn p e below s _ _ _ (T9.setTop (mkF m 29 #[.val (.ref a), .val (.long u), .second, .val (.int n)] [(.long (16777216 : Int64)), (.long ((16 : Int64) * ((n + (1 : Int32)).toInt64))), (.ref a)]))
  obtain ⟨v10, T10, L10, Q10, X10, st10⟩ := cSt X9 hx hZ (y := (⟨"java/lang/Math", "min", "(JJ)J"⟩ : MethodName)) hown (hw _ (List.mem_of_getElem? (i := 21) rfl)) (hw _ (List.mem_of_getElem? (i := 22) rfl)) (hw _ (List.mem_of_getElem? (i := 23) rfl)) (hw _ (List.mem_of_getElem? (i := 24) rfl)) (by decide) (argsL := [(.long ((16 : Int64) * ((n + (1 : Int32)).toInt64))), (.long (16777216 : Int64))]) (rest := [(.ref a)]) (rmM l Z a0 hw h8 n0 (Nat.le_trans Z0 K1.1) (16 * (n + 1).toInt64) 16777216) e9  1 (by decide) (by decide) (by decide) (by decide) (g := (mkF m 29 #[.val (.ref a), .val (.long u), .second, .val (.int n)] [(.long (16777216 : Int64)), (.long ((16 : Int64) * ((n + (1 : Int32)).toInt64))), (.ref a)])) rfl (by rw [hml]; rfl) (lenOf pd0 rfl) rfl (by show 2 * 0 + _ ≤ _; exact Nat.le_of_eq rfl) (hb hby d2_29)
  obtain ⟨rfl, M1, e10⟩ := Q10
  refine Dn.of st10 ?_
  show Dn p e below s _ _ _ (T10.setTop (mkF m 32 #[.val (.ref a), .val (.long u), .second, .val (.int n)] [(.long (own_min (16 * (n + 1).toInt64) 16777216)), (.ref a)]))
  refine Dn.of (fun tt_ zz_ => XS.l2i X10.here hx rfl (hb hby d2_32) rfl zz_) ?_
  show Dn p e below s _ _ _ (T10.setTop (mkF m 33 #[.val (.ref a), .val (.long u), .second, .val (.int n)] [(.int ((own_min (16 * (n + 1).toInt64) 16777216).toInt32)), (.ref a)]))
  show Dn p e below s _ _ _ (T10.setTop (mkF m 33 #[.val (.ref a), .val (.long u), .second, .val (.int n)] [(.int (own_z n)), (.ref a)]))
  obtain ⟨T11, h11, k11, X11, e11, E11, A11, st11⟩ := newP X10 hx hZ (hw _ (List.mem_of_getElem? (i := 5) rfl)) e10 (g := (mkF m 33 #[.val (.ref a), .val (.long u), .second, .val (.int n)] [(.int (own_z n)), (.ref a)])) rfl (hb hby d2_33) rfl (own_z1 hn) (cap := 80) (own_z2 hn) (by decide) (by decide) (by decide)
  obtain ⟨b11, g11⟩ : ∃ z, z = h8.size := ⟨_, rfl⟩
  rw [← g11] at A11 st11
  refine Dn.of st11 ?_
  show Dn p e below s _ _ _ (T11.setTop (mkF m 35 #[.val (.ref a), .val (.long u), .second, .val (.int n)] [(.ref b11), (.ref a)]))
  have lv : h0.size ≤ b11 := g11 ▸ K1.1
  have V0 : Arv Z h11 b11 k11 .double (own_z n) own_new (.double (FP.l2d 0)) := Arv.pad (Arv.newD A11 (own_z1 hn)) (pad_rep [] _ 15)
  obtain ⟨T12, h12, X12, e12, W12, st12⟩ := putF X11 hx hZ hown (host := "") (Or.inl (hw _ (List.mem_of_getElem? (i := 25) rfl))) Via.refl e11 (G2.ext E11) (E1.ext E11) (Or.inl (hw _ (List.mem_of_getElem? (i := 26) rfl))) (hw _ (List.mem_of_getElem? (i := 7) rfl)) (ty := (.array .double)) (by decide) rfl rfl (g := (mkF m 35 #[.val (.ref a), .val (.long u), .second, .val (.int n)] [(.ref b11), (.ref a)])) rfl rfl (hb hby d2_35)
  refine Dn.of st12 ?_
  show Dn p e below s _ _ _ (T12.setTop (mkF m 38 #[.val (.ref a), .val (.long u), .second, .val (.int n)] []))
  have N2 := Fr.snoc X12 (Fr.app N1 M1) g0
  have nv : b11 ≠ a := Nat.ne_of_gt (Nat.lt_of_lt_of_le E0.lt lv)
  exact Dn.retV X12 hx hlk hret (hb hby d2_38) (by decide) (by decide) (by rw [e12]; exact ⟨rfl, N2, (K1.ext E11).wr W12 (Or.inl (List.mem_of_getElem? (i := 0) rfl)), (G1.ext E11).other W12 (Or.inr s12), (G3.ext E11).other W12 (Or.inr s32), b11, k11, (G2.ext E11).same W12, lv, V0.other W12 nv⟩)
theorem ef5_ADA (m : MethodId) (x0 : Addr) (x1 : UInt64) (x2 : Addr) : entryFrame m #[(.ref x0), (.double x1), (.ref x2)] 5 = mkF m 0 #[.val (.ref x0), .val (.double x1), .second, .val (.ref x2), .unset] [] := by first | (simp [entryFrame, mkF, argsToLocals, Value.category]; done) | rfl
set_option maxRecDepth 65536 in
set_option maxHeartbeats 40000000 in
theorem rmA (l : Launch) (Z : State) (a0 : Array Value) (hw : ∀ d ∈ tables_1, d.before a0 Z = true) (h0 : Heap) (n0 : Nat) (Z0 : n0 ≤ h0.size) (a vv rc : Addr) (k kr : ClassId) (n sz : Int32) (x : UInt64) (vs vd : List Value) (E0 : Exa Z h0 a "com/example/wyrd/wyrd/service/Trajectory") (F1 : Fld Z h0 a "com/example/wyrd/wyrd/service/Trajectory" "width" "I" (.int (n + 1))) (F2 : Fld Z h0 a "com/example/wyrd/wyrd/service/Trajectory" "values" "[D" (.ref vv)) (F3 : Fld Z h0 a "com/example/wyrd/wyrd/service/Trajectory" "size" "I" (.int sz)) (V1 : Arv Z h0 vv k .double (own_z n) vd (.double (FP.l2d 0))) (V2 : Arv Z h0 rc kr .double 4 vs (.double (FP.l2d 0))) (g0 : n0 ≤ a) (g1 : n0 ≤ vv) (q1 : a ≠ vv) (q2 : rc ≠ vv) (hn : own_N n) (hz : own_S n sz) (hl : vd.length = 15) :
    ctr l Z (⟨"com/example/wyrd/wyrd/service/Trajectory", "add", "(D[D)Z"⟩ : MethodName) prog_128_method_7_code 5 (some .boolean) [] ({ frames := 1, cells := 0, slots := 0, locals := 40 } : Room) 0 0 #[(.ref a), (.double x), (.ref rc)] h0 (fun v h L => v = some (.int (1 : Int32)) ∧ Fr n0 L ∧ Keep h0 h [a, vv] ∧ Fld Z h a "com/example/wyrd/wyrd/service/Trajectory" "width" "I" (.int (n + 1)) ∧ Fld Z h a "com/example/wyrd/wyrd/service/Trajectory" "values" "[D" (.ref vv) ∧ Fld Z h a "com/example/wyrd/wyrd/service/Trajectory" "size" "I" (.int (sz + (n + 1))) ∧ Arv Z h vv k .double (own_z n) (own_put n sz (.double x) vs vd) (.double (FP.l2d 0))) := by
  refine ctr_of (plainFor_of_name pn1) ?_
  intro p e s m below meth jc s₁ hx hby hml hret hlk hnm hown hZ e0 X0
  have N0 := Fr.nil n0
  refine Dn.cast (ef5_ADA m a x rc) ?_
  show Dn p e below s _ _ _ (s₁.setTop (mkF m 0 #[.val (.ref a), .val (.double x), .second, .val (.ref rc), .unset] []))
  have s13 : Jvm.RoadKit.slotOf Z "com/example/wyrd/wyrd/service/Trajectory" "width" "I" ≠ Jvm.RoadKit.slotOf Z "com/example/wyrd/wyrd/service/Trajectory" "size" "I" := slot_ne (Or.inr (hw _ (List.mem_of_getElem? (i := 18) rfl))) (Or.inl (hw _ (List.mem_of_getElem? (i := 34) rfl))) (by decide) (t := .int) (t' := .int) (by decide) (by decide)
  have s23 : Jvm.RoadKit.slotOf Z "com/example/wyrd/wyrd/service/Trajectory" "values" "[D" ≠ Jvm.RoadKit.slotOf Z "com/example/wyrd/wyrd/service/Trajectory" "size" "I" := slot_ne (Or.inl (hw _ (List.mem_of_getElem? (i := 26) rfl))) (Or.inl (hw _ (List.mem_of_getElem? (i := 34) rfl))) (by decide) (t := (.array .double)) (t' := .int) (by decide) (by decide)
  refine Dn.of (fun tt_ zz_ => XS.aloadN X0.here hx rfl (hb hby d5_0) rfl rfl zz_) ?_
  show Dn p e below s _ _ _ (s₁.setTop (mkF m 1 #[.val (.ref a), .val (.double x), .second, .val (.ref rc), .unset] [(.ref a)]))
  obtain ⟨T13, X13, e13, st13⟩ := getF X0 hx hZ hown (host := "") (Or.inl (hw _ (List.mem_of_getElem? (i := 33) rfl))) Via.refl e0 F3 (g := (mkF m 1 #[.val (.ref a), .val (.double x), .second, .val (.ref rc), .unset] [(.ref a)])) rfl rfl (hb hby d5_1)
  refine Dn.of st13 ?_
  show Dn p e below s _ _ _ (T13.setTop (mkF m 4 #[.val (.ref a), .val (.double x), .second, .val (.ref rc), .unset] [(.int sz)]))
  refine Dn.of (fun tt_ zz_ => X13.ldcI hx hown (mvT hZ (hw _ (List.mem_of_getElem? (i := 35) rfl))) rfl (hb hby d5_4) zz_) ?_
  show Dn p e below s _ _ _ (T13.setTop (mkF m 6 #[.val (.ref a), .val (.double x), .second, .val (.ref rc), .unset] [(.int (16777216 : Int32)), (.int sz)]))
  refine Dn.of (fun tt_ zz_ => XS.aloadN X13.here hx rfl (hb hby d5_6) rfl rfl zz_) ?_
  show Dn p e below s _ _ _ (T13.setTop (mkF m 7 #[.val (.ref a), .val (.double x), .second, .val (.ref rc), .unset] [(.ref a), (.int (16777216 : Int32)), (.int sz)]))
  obtain ⟨T14, X14, e14, st14⟩ := getF X13 hx hZ hown (host := "") (Or.inl (hw _ (List.mem_of_getElem? (i := 17) rfl))) Via.refl e13 F1 (g := (mkF m 7 #[.val (.ref a), .val (.double x), .second, .val (.ref rc), .unset] [(.ref a), (.int (16777216 : Int32)), (.int sz)])) rfl rfl (hb hby d5_7)
  refine Dn.of st14 ?_
  show Dn p e below s _ _ _ (T14.setTop (mkF m 10 #[.val (.ref a), .val (.double x), .second, .val (.ref rc), .unset] [(.int (n + (1 : Int32))), (.int (16777216 : Int32)), (.int sz)]))
  refine Dn.of (fun tt_ zz_ => XS.isub X14.here hx rfl (hb hby d5_10) rfl zz_) ?_
  show Dn p e below s _ _ _ (T14.setTop (mkF m 11 #[.val (.ref a), .val (.double x), .second, .val (.ref rc), .unset] [(.int ((16777216 : Int32) - (n + (1 : Int32)))), (.int sz)]))
  refine Dn.of (fun tt_ zz_ => XS.icmpNo X14.here hx rfl (hb hby d5_11) rfl (flt (own_a1 hn hz)).2.2.1 zz_) ?_
  show Dn p e below s _ _ _ (T14.setTop (mkF m 14 #[.val (.ref a), .val (.double x), .second, .val (.ref rc), .unset] []))
  refine Dn.of (fun tt_ zz_ => XS.iconst X14.here hx rfl (hb hby d5_14) zz_) ?_
  show Dn p e below s _ _ _ (T14.setTop (mkF m 15 #[.val (.ref a), .val (.double x), .second, .val (.ref rc), .unset] [(.int (1 : Int32))]))
  refine Dn.of (fun tt_ zz_ => XS.goto X14.here hx rfl (pc0 := 15) (pc' := 19) rfl (hb hby d5_15) (by decide) (by decide) zz_) ?_
  show Dn p e below s _ _ _ (T14.setTop (mkF m 19 #[.val (.ref a), .val (.double x), .second, .val (.ref rc), .unset] [(.int (1 : Int32))]))
  refine Dn.of (fun tt_ zz_ => XS.istore X14.here hx rfl (hb hby d5_19) rfl (l' := #[.val (.ref a), .val (.double x), .second, .val (.ref rc), .val (.int (1 : Int32))]) rfl zz_) ?_
  show Dn p e below s _ _ _ (T14.setTop (mkF m 21 #[.val (.ref a), .val (.double x), .second, .val (.ref rc), .val (.int (1 : Int32))] []))
  refine Dn.of (fun tt_ zz_ => XS.iload X14.here hx rfl (hb hby d5_21) rfl zz_) ?_
  show Dn p e below s _ _ _ (T14.setTop (mkF m 23 #[.val (.ref a), .val (.double x), .second, .val (.ref rc), .val (.int (1 : Int32))] [(.int (1 : Int32))]))
  refine Dn.of (fun tt_ zz_ => XS.ifNo X14.here hx rfl (hb hby d5_23) rfl ((if0 _ _).trans (feq (by decide)).1) zz_) ?_
  show Dn p e below s _ _ _ (T14.setTop (mkF m 26 #[.val (.ref a), .val (.double x), .second, .val (.ref rc), .val (.int (1 : Int32))] []))
  refine Dn.of (fun tt_ zz_ => XS.aloadN X14.here hx rfl (hb hby d5_26) rfl rfl zz_) ?_
  show Dn p e below s _ _ _ (T14.setTop (mkF m 27 #[.val (.ref a), .val (.double x), .second, .val (.ref rc), .val (.int (1 : Int32))] [(.ref a)]))
  obtain ⟨T15, X15, e15, st15⟩ := getF X14 hx hZ hown (host := "") (Or.inl (hw _ (List.mem_of_getElem? (i := 33) rfl))) Via.refl e14 F3 (g := (mkF m 27 #[.val (.ref a), .val (.double x), .second, .val (.ref rc), .val (.int (1 : Int32))] [(.ref a)])) rfl rfl (hb hby d5_27)
  refine Dn.of st15 ?_
  show Dn p e below s _ _ _ (T15.setTop (mkF m 30 #[.val (.ref a), .val (.double x), .second, .val (.ref rc), .val (.int (1 : Int32))] [(.int sz)]))
  refine Dn.of (fun tt_ zz_ => XS.aloadN X15.here hx rfl (hb hby d5_30) rfl rfl zz_) ?_
  show Dn p e below s _ _ _ (T15.setTop (mkF m 31 #[.val (.ref a), .val (.double x), .second, .val (.ref rc), .val (.int (1 : Int32))] [(.ref a), (.int sz)]))
  obtain ⟨T16, X16, e16, st16⟩ := getF X15 hx hZ hown (host := "") (Or.inl (hw _ (List.mem_of_getElem? (i := 17) rfl))) Via.refl e15 F1 (g := (mkF m 31 #[.val (.ref a), .val (.double x), .second, .val (.ref rc), .val (.int (1 : Int32))] [(.ref a), (.int sz)])) rfl rfl (hb hby d5_31)
  refine Dn.of st16 ?_
  show Dn p e below s _ _ _ (T16.setTop (mkF m 34 #[.val (.ref a), .val (.double x), .second, .val (.ref rc), .val (.int (1 : Int32))] [(.int (n + (1 : Int32))), (.int sz)]))
  refine Dn.of (fun tt_ zz_ => XS.iadd X16.here hx rfl (hb hby d5_34) rfl zz_) ?_
  show Dn p e below s _ _ _ (T16.setTop (mkF m 35 #[.val (.ref a), .val (.double x), .second, .val (.ref rc), .val (.int (1 : Int32))] [(.int (sz + (n + (1 : Int32))))]))
  refine Dn.of (fun tt_ zz_ => XS.aloadN X16.here hx rfl (hb hby d5_35) rfl rfl zz_) ?_
  show Dn p e below s _ _ _ (T16.setTop (mkF m 36 #[.val (.ref a), .val (.double x), .second, .val (.ref rc), .val (.int (1 : Int32))] [(.ref a), (.int (sz + (n + (1 : Int32))))]))
  obtain ⟨T17, X17, e17, st17⟩ := getF X16 hx hZ hown (host := "") (Or.inl (hw _ (List.mem_of_getElem? (i := 25) rfl))) Via.refl e16 F2 (g := (mkF m 36 #[.val (.ref a), .val (.double x), .second, .val (.ref rc), .val (.int (1 : Int32))] [(.ref a), (.int (sz + (n + (1 : Int32))))])) rfl rfl (hb hby d5_36)
  refine Dn.of st17 ?_
  show Dn p e below s _ _ _ (T17.setTop (mkF m 39 #[.val (.ref a), .val (.double x), .second, .val (.ref rc), .val (.int (1 : Int32))] [(.ref vv), (.int (sz + (n + (1 : Int32))))]))
  obtain ⟨c1, A1, p1, S1, P1, H1, G1⟩ := V1
  refine Dn.of (fun tt_ zz_ => X17.arraylength hx (by rw [e17]; exact A1.1) (State.isArrayOf_alike hZ.alike A1.2.1) (g := (mkF m 39 #[.val (.ref a), .val (.double x), .second, .val (.ref rc), .val (.int (1 : Int32))] [(.ref vv), (.int (sz + (n + (1 : Int32))))])) rfl rfl (hb hby d5_39) tt_ zz_) ?_
  rw [len_of S1 P1]
  show Dn p e below s _ _ _ (T17.setTop (mkF m 40 #[.val (.ref a), .val (.double x), .second, .val (.ref rc), .val (.int (1 : Int32))] [(.int (own_z n)), (.int (sz + (n + (1 : Int32))))]))
  refine Dn.of (fun tt_ zz_ => XS.icmpYes X17.here hx rfl (pc0 := 40) (pc' := 71) rfl (hb hby d5_40) rfl (flt (own_a2 hn hz)).2.2.2 (by decide) (by decide) zz_) ?_
  show Dn p e below s _ _ _ (T17.setTop (mkF m 71 #[.val (.ref a), .val (.double x), .second, .val (.ref rc), .val (.int (1 : Int32))] []))
  refine Dn.of (fun tt_ zz_ => XS.aloadN X17.here hx rfl (hb hby d5_71) rfl rfl zz_) ?_
  show Dn p e below s _ _ _ (T17.setTop (mkF m 72 #[.val (.ref a), .val (.double x), .second, .val (.ref rc), .val (.int (1 : Int32))] [(.ref a)]))
  obtain ⟨T18, X18, e18, st18⟩ := getF X17 hx hZ hown (host := "") (Or.inl (hw _ (List.mem_of_getElem? (i := 25) rfl))) Via.refl e17 F2 (g := (mkF m 72 #[.val (.ref a), .val (.double x), .second, .val (.ref rc), .val (.int (1 : Int32))] [(.ref a)])) rfl rfl (hb hby d5_72)
  refine Dn.of st18 ?_
  show Dn p e below s _ _ _ (T18.setTop (mkF m 75 #[.val (.ref a), .val (.double x), .second, .val (.ref rc), .val (.int (1 : Int32))] [(.ref vv)]))
  refine Dn.of (fun tt_ zz_ => XS.aloadN X18.here hx rfl (hb hby d5_75) rfl rfl zz_) ?_
  show Dn p e below s _ _ _ (T18.setTop (mkF m 76 #[.val (.ref a), .val (.double x), .second, .val (.ref rc), .val (.int (1 : Int32))] [(.ref a), (.ref vv)]))
  obtain ⟨T19, X19, e19, st19⟩ := getF X18 hx hZ hown (host := "") (Or.inl (hw _ (List.mem_of_getElem? (i := 33) rfl))) Via.refl e18 F3 (g := (mkF m 76 #[.val (.ref a), .val (.double x), .second, .val (.ref rc), .val (.int (1 : Int32))] [(.ref a), (.ref vv)])) rfl rfl (hb hby d5_76)
  refine Dn.of st19 ?_
  show Dn p e below s _ _ _ (T19.setTop (mkF m 79 #[.val (.ref a), .val (.double x), .second, .val (.ref rc), .val (.int (1 : Int32))] [(.int sz), (.ref vv)]))
  refine Dn.of (fun tt_ zz_ => XS.dloadN X19.here hx rfl (hb hby d5_79) rfl zz_) ?_
  show Dn p e below s _ _ _ (T19.setTop (mkF m 80 #[.val (.ref a), .val (.double x), .second, .val (.ref rc), .val (.int (1 : Int32))] [(.double x), (.int sz), (.ref vv)]))
  obtain ⟨T20, h20, X20, e20, W20, st20⟩ := stD X19 hx hZ e19 A1 (j := sz) (inb_of S1 (own_a3 hn hz)) (g := (mkF m 80 #[.val (.ref a), .val (.double x), .second, .val (.ref rc), .val (.int (1 : Int32))] [(.double x), (.int sz), (.ref vv)])) rfl rfl (hb hby d5_80)
  refine Dn.of st20 ?_
  show Dn p e below s _ _ _ (T20.setTop (mkF m 81 #[.val (.ref a), .val (.double x), .second, .val (.ref rc), .val (.int (1 : Int32))] []))
  have V1' := Arv.set A1 p1 S1 P1 H1 G1 (v := .double x) rfl W20 sz.toNatClampNeg rfl (by rw [hl]; exact (own_a8 hn hz).2)
  have V2' := V2.other W20 q2
  have N1 := Fr.snoc X20 N0 g1
  have Fa1 := F1.other W20 (Or.inl q1)
  have Fa2 := F2.other W20 (Or.inl q1)
  have Fa3 := F3.other W20 (Or.inl q1)
  refine Dn.of (fun tt_ zz_ => XS.aloadN X20.here hx rfl (hb hby d5_81) rfl rfl zz_) ?_
  show Dn p e below s _ _ _ (T20.setTop (mkF m 82 #[.val (.ref a), .val (.double x), .second, .val (.ref rc), .val (.int (1 : Int32))] [(.ref rc)]))
  refine Dn.of (fun tt_ zz_ => XS.iconst X20.here hx rfl (hb hby d5_82) zz_) ?_
  show Dn p e below s _ _ _ (T20.setTop (mkF m 83 #[.val (.ref a), .val (.double x), .second, .val (.ref rc), .val (.int (1 : Int32))] [(.int (0 : Int32)), (.ref rc)]))
  refine Dn.of (fun tt_ zz_ => XS.aloadN X20.here hx rfl (hb hby d5_83) rfl rfl zz_) ?_
  show Dn p e below s _ _ _ (T20.setTop (mkF m 84 #[.val (.ref a), .val (.double x), .second, .val (.ref rc), .val (.int (1 : Int32))] [(.ref a), (.int (0 : Int32)), (.ref rc)]))
  obtain ⟨T21, X21, e21, st21⟩ := getF X20 hx hZ hown (host := "") (Or.inl (hw _ (List.mem_of_getElem? (i := 25) rfl))) Via.refl e20 Fa2 (g := (mkF m 84 #[.val (.ref a), .val (.double x), .second, .val (.ref rc), .val (.int (1 : Int32))] [(.ref a), (.int (0 : Int32)), (.ref rc)])) rfl rfl (hb hby d5_84)
  refine Dn.of st21 ?_
  show Dn p e below s _ _ _ (T21.setTop (mkF m 87 #[.val (.ref a), .val (.double x), .second, .val (.ref rc), .val (.int (1 : Int32))] [(.ref vv), (.int (0 : Int32)), (.ref rc)]))
  refine Dn.of (fun tt_ zz_ => XS.aloadN X21.here hx rfl (hb hby d5_87) rfl rfl zz_) ?_
  show Dn p e below s _ _ _ (T21.setTop (mkF m 88 #[.val (.ref a), .val (.double x), .second, .val (.ref rc), .val (.int (1 : Int32))] [(.ref a), (.ref vv), (.int (0 : Int32)), (.ref rc)]))
  obtain ⟨T22, X22, e22, st22⟩ := getF X21 hx hZ hown (host := "") (Or.inl (hw _ (List.mem_of_getElem? (i := 33) rfl))) Via.refl e21 Fa3 (g := (mkF m 88 #[.val (.ref a), .val (.double x), .second, .val (.ref rc), .val (.int (1 : Int32))] [(.ref a), (.ref vv), (.int (0 : Int32)), (.ref rc)])) rfl rfl (hb hby d5_88)
  refine Dn.of st22 ?_
  show Dn p e below s _ _ _ (T22.setTop (mkF m 91 #[.val (.ref a), .val (.double x), .second, .val (.ref rc), .val (.int (1 : Int32))] [(.int sz), (.ref vv), (.int (0 : Int32)), (.ref rc)]))
  refine Dn.of (fun tt_ zz_ => XS.iconst X22.here hx rfl (hb hby d5_91) zz_) ?_
  show Dn p e below s _ _ _ (T22.setTop (mkF m 92 #[.val (.ref a), .val (.double x), .second, .val (.ref rc), .val (.int (1 : Int32))] [(.int (1 : Int32)), (.int sz), (.ref vv), (.int (0 : Int32)), (.ref rc)]))
  refine Dn.of (fun tt_ zz_ => XS.iadd X22.here hx rfl (hb hby d5_92) rfl zz_) ?_
  show Dn p e below s _ _ _ (T22.setTop (mkF m 93 #[.val (.ref a), .val (.double x), .second, .val (.ref rc), .val (.int (1 : Int32))] [(.int (sz + (1 : Int32))), (.ref vv), (.int (0 : Int32)), (.ref rc)]))
  refine Dn.of (fun tt_ zz_ => XS.aloadN X22.here hx rfl (hb hby d5_93) rfl rfl zz_) ?_
  show Dn p e below s _ _ _ (T22.setTop (mkF m 94 #[.val (.ref a), .val (.double x), .second, .val (.ref rc), .val (.int (1 : Int32))] [(.ref a), (.int (sz + (1 : Int32))), (.ref vv), (.int (0 : Int32)), (.ref rc)]))
  obtain ⟨T23, X23, e23, st23⟩ := getF X22 hx hZ hown (host := "") (Or.inl (hw _ (List.mem_of_getElem? (i := 17) rfl))) Via.refl e22 Fa1 (g := (mkF m 94 #[.val (.ref a), .val (.double x), .second, .val (.ref rc), .val (.int (1 : Int32))] [(.ref a), (.int (sz + (1 : Int32))), (.ref vv), (.int (0 : Int32)), (.ref rc)])) rfl rfl (hb hby d5_94)
  refine Dn.of st23 ?_
  show Dn p e below s _ _ _ (T23.setTop (mkF m 97 #[.val (.ref a), .val (.double x), .second, .val (.ref rc), .val (.int (1 : Int32))] [(.int (n + (1 : Int32))), (.int (sz + (1 : Int32))), (.ref vv), (.int (0 : Int32)), (.ref rc)]))
  refine Dn.of (fun tt_ zz_ => XS.iconst X23.here hx rfl (hb hby d5_97) zz_) ?_
  show Dn p e below s _ _ _ (T23.setTop (mkF m 98 #[.val (.ref a), .val (.double x), .second, .val (.ref rc), .val (.int (1 : Int32))] [(.int (1 : Int32)), (.int (n + (1 : Int32))), (.int (sz + (1 : Int32))), (.ref vv), (.int (0 : Int32)), (.ref rc)]))
  refine Dn.of (fun tt_ zz_ => XS.isub X23.here hx rfl (hb hby d5_98) rfl zz_) ?_
  show Dn p e below s _ _ _ (T23.setTop (mkF m 99 #[.val (.ref a), .val (.double x), .second, .val (.ref rc), .val (.int (1 : Int32))] [(.int ((n + (1 : Int32)) - (1 : Int32))), (.int (sz + (1 : Int32))), (.ref vv), (.int (0 : Int32)), (.ref rc)]))
  obtain ⟨T24, h24, L24, X24, e24, N24, K24, V24, st24⟩ := cpA X23 hx hZ hown (hw _ (List.mem_of_getElem? (i := 36) rfl)) (hw _ (List.mem_of_getElem? (i := 39) rfl)) (hw _ (List.mem_of_getElem? (i := 37) rfl)) (hw _ (List.mem_of_getElem? (i := 38) rfl)) e23 V2' V1' (us := (List.range (n + 1 - 1).toNatClampNeg).map fun i => vs.getD ((0 : Int32).toNatClampNeg + i) (.double (FP.l2d 0))) (Or.inl ⟨rfl, rfl⟩) (by decide) (own_a4 hn hz) (own_a5 hn) (own_a6 hn) (own_a7 hn hz) rfl (by rw [List.length_set, hl]; exact (own_a8 hn hz).1) N1 g1 (g := (mkF m 99 #[.val (.ref a), .val (.double x), .second, .val (.ref rc), .val (.int (1 : Int32))] [(.int ((n + (1 : Int32)) - (1 : Int32))), (.int (sz + (1 : Int32))), (.ref vv), (.int (0 : Int32)), (.ref rc)])) rfl (by rw [hml]; rfl) rfl (hb hby d5_99) (by decide) (W := 0) (by show 2 * 0 + _ ≤ _; exact Nat.le_of_eq rfl) (by decide)
  refine Dn.of st24 ?_
  show Dn p e below s _ _ _ (T24.setTop (mkF m 102 #[.val (.ref a), .val (.double x), .second, .val (.ref rc), .val (.int (1 : Int32))] []))
  have Fb1 := Fa1.keep K24 (ninS q1 nin0)
  have Fb2 := Fa2.keep K24 (ninS q1 nin0)
  have Fb3 := Fa3.keep K24 (ninS q1 nin0)
  have E2 := (E0.wr W20).keep K24
  refine Dn.of (fun tt_ zz_ => XS.aloadN X24.here hx rfl (hb hby d5_102) rfl rfl zz_) ?_
  show Dn p e below s _ _ _ (T24.setTop (mkF m 103 #[.val (.ref a), .val (.double x), .second, .val (.ref rc), .val (.int (1 : Int32))] [(.ref a)]))
  refine Dn.of (fun tt_ zz_ => XS.dup X24.here hx rfl (hb hby d5_103) rfl rfl zz_) ?_
  show Dn p e below s _ _ _ (T24.setTop (mkF m 104 #[.val (.ref a), .val (.double x), .second, .val (.ref rc), .val (.int (1 : Int32))] [(.ref a), (.ref a)]))
  obtain ⟨T25, X25, e25, st25⟩ := getF X24 hx hZ hown (host := "") (Or.inl (hw _ (List.mem_of_getElem? (i := 33) rfl))) Via.refl e24 Fb3 (g := (mkF m 104 #[.val (.ref a), .val (.double x), .second, .val (.ref rc), .val (.int (1 : Int32))] [(.ref a), (.ref a)])) rfl rfl (hb hby d5_104)
  refine Dn.of st25 ?_
  show Dn p e below s _ _ _ (T25.setTop (mkF m 107 #[.val (.ref a), .val (.double x), .second, .val (.ref rc), .val (.int (1 : Int32))] [(.int sz), (.ref a)]))
  refine Dn.of (fun tt_ zz_ => XS.aloadN X25.here hx rfl (hb hby d5_107) rfl rfl zz_) ?_
  show Dn p e below s _ _ _ (T25.setTop (mkF m 108 #[.val (.ref a), .val (.double x), .second, .val (.ref rc), .val (.int (1 : Int32))] [(.ref a), (.int sz), (.ref a)]))
  obtain ⟨T26, X26, e26, st26⟩ := getF X25 hx hZ hown (host := "") (Or.inl (hw _ (List.mem_of_getElem? (i := 17) rfl))) Via.refl e25 Fb1 (g := (mkF m 108 #[.val (.ref a), .val (.double x), .second, .val (.ref rc), .val (.int (1 : Int32))] [(.ref a), (.int sz), (.ref a)])) rfl rfl (hb hby d5_108)
  refine Dn.of st26 ?_
  show Dn p e below s _ _ _ (T26.setTop (mkF m 111 #[.val (.ref a), .val (.double x), .second, .val (.ref rc), .val (.int (1 : Int32))] [(.int (n + (1 : Int32))), (.int sz), (.ref a)]))
  refine Dn.of (fun tt_ zz_ => XS.iadd X26.here hx rfl (hb hby d5_111) rfl zz_) ?_
  show Dn p e below s _ _ _ (T26.setTop (mkF m 112 #[.val (.ref a), .val (.double x), .second, .val (.ref rc), .val (.int (1 : Int32))] [(.int (sz + (n + (1 : Int32)))), (.ref a)]))
  obtain ⟨T27, h27, X27, e27, W27, st27⟩ := putF X26 hx hZ hown (host := "") (Or.inl (hw _ (List.mem_of_getElem? (i := 33) rfl))) Via.refl e26 Fb3 E2 (Or.inl (hw _ (List.mem_of_getElem? (i := 34) rfl))) (hw _ (List.mem_of_getElem? (i := 7) rfl)) (ty := .int) (by decide) rfl rfl (g := (mkF m 112 #[.val (.ref a), .val (.double x), .second, .val (.ref rc), .val (.int (1 : Int32))] [(.int (sz + (n + (1 : Int32)))), (.ref a)])) rfl rfl (hb hby d5_112)
  refine Dn.of st27 ?_
  show Dn p e below s _ _ _ (T27.setTop (mkF m 115 #[.val (.ref a), .val (.double x), .second, .val (.ref rc), .val (.int (1 : Int32))] []))
  refine Dn.of (fun tt_ zz_ => XS.iload X27.here hx rfl (hb hby d5_115) rfl zz_) ?_
  show Dn p e below s _ _ _ (T27.setTop (mkF m 117 #[.val (.ref a), .val (.double x), .second, .val (.ref rc), .val (.int (1 : Int32))] [(.int (1 : Int32))]))
  have N3 := Fr.snoc X27 N24 g0
  have KK := (((Keep.refl h0 [a, vv]).wr W20 (Or.inl (List.mem_of_getElem? (i := 1) rfl))).trans K24 (allS (Or.inl (List.mem_of_getElem? (i := 1) rfl)) all0)).wr W27 (Or.inl (List.mem_of_getElem? (i := 0) rfl))
  exact Dn.retN X27 hx hlk (t := .boolean) hret (by simp) (hb hby d5_117) (by decide) (by decide) (by rw [e27]; exact ⟨rfl, N3, KK, Fb1.other W27 (Or.inr s13), Fb2.other W27 (Or.inr s23), Fb3.same W27, Arv.other (vs := own_put n sz (.double x) vs vd) V24 W27 q1.symm⟩)
theorem ef6_AII (m : MethodId) (x0 : Addr) (x1 : Int32) (x2 : Int32) : entryFrame m #[(.ref x0), (.int x1), (.int x2)] 3 = mkF m 0 #[.val (.ref x0), .val (.int x1), .val (.int x2)] [] := by first | (simp [entryFrame, mkF, argsToLocals, Value.category]; done) | rfl
set_option maxRecDepth 65536 in
set_option maxHeartbeats 40000000 in
theorem rmV (l : Launch) (Z : State) (a0 : Array Value) (hw : ∀ d ∈ tables_1, d.before a0 Z = true) (h0 : Heap) (n0 : Nat) (Z0 : n0 ≤ h0.size) (a vv : Addr) (k : ClassId) (n b : Int32) (vd : List Value) (F1 : Fld Z h0 a "com/example/wyrd/wyrd/service/Trajectory" "width" "I" (.int (n + 1))) (F2 : Fld Z h0 a "com/example/wyrd/wyrd/service/Trajectory" "values" "[D" (.ref vv)) (V1 : Arv Z h0 vv k .double (own_z n) vd (.double (FP.l2d 0))) (r u : Int32) (hat : own_at n b vd r u) :
    ctr l Z (⟨"com/example/wyrd/wyrd/service/Trajectory", "value", "(II)D"⟩ : MethodName) prog_128_method_6_code 3 (some .double) [] ({ frames := 0, cells := 0, slots := 0, locals := 0 } : Room) 0 0 #[(.ref a), (.int r), (.int u)] h0 (fun v h L => v = some (.double (FP.i2d (b * 16 + r * 8 + u))) ∧ Fr n0 L ∧ h = h0) := by
  refine ctr_of (plainFor_of_name pn1) ?_
  intro p e s m below meth jc s₁ hx hby hml hret hlk hnm hown hZ e0 X0
  have N0 := Fr.nil n0
  refine Dn.cast (ef6_AII m a r u) ?_
  show Dn p e below s _ _ _ (s₁.setTop (mkF m 0 #[.val (.ref a), .val (.int r), .val (.int u)] []))
  refine Dn.of (fun tt_ zz_ => XS.aloadN X0.here hx rfl (hb hby d6_0) rfl rfl zz_) ?_
  show Dn p e below s _ _ _ (s₁.setTop (mkF m 1 #[.val (.ref a), .val (.int r), .val (.int u)] [(.ref a)]))
  obtain ⟨T28, X28, e28, st28⟩ := getF X0 hx hZ hown (host := "") (Or.inl (hw _ (List.mem_of_getElem? (i := 25) rfl))) Via.refl e0 F2 (g := (mkF m 1 #[.val (.ref a), .val (.int r), .val (.int u)] [(.ref a)])) rfl rfl (hb hby d6_1)
  refine Dn.of st28 ?_
  show Dn p e below s _ _ _ (T28.setTop (mkF m 4 #[.val (.ref a), .val (.int r), .val (.int u)] [(.ref vv)]))
  refine Dn.of (fun tt_ zz_ => XS.iloadN X28.here hx rfl (hb hby d6_4) rfl zz_) ?_
  show Dn p e below s _ _ _ (T28.setTop (mkF m 5 #[.val (.ref a), .val (.int r), .val (.int u)] [(.int r), (.ref vv)]))
  refine Dn.of (fun tt_ zz_ => XS.aloadN X28.here hx rfl (hb hby d6_5) rfl rfl zz_) ?_
  show Dn p e below s _ _ _ (T28.setTop (mkF m 6 #[.val (.ref a), .val (.int r), .val (.int u)] [(.ref a), (.int r), (.ref vv)]))
  obtain ⟨T29, X29, e29, st29⟩ := getF X28 hx hZ hown (host := "") (Or.inl (hw _ (List.mem_of_getElem? (i := 17) rfl))) Via.refl e28 F1 (g := (mkF m 6 #[.val (.ref a), .val (.int r), .val (.int u)] [(.ref a), (.int r), (.ref vv)])) rfl rfl (hb hby d6_6)
  refine Dn.of st29 ?_
  show Dn p e below s _ _ _ (T29.setTop (mkF m 9 #[.val (.ref a), .val (.int r), .val (.int u)] [(.int (n + (1 : Int32))), (.int r), (.ref vv)]))
  refine Dn.of (fun tt_ zz_ => XS.imul X29.here hx rfl (hb hby d6_9) rfl zz_) ?_
  show Dn p e below s _ _ _ (T29.setTop (mkF m 10 #[.val (.ref a), .val (.int r), .val (.int u)] [(.int (r * (n + (1 : Int32)))), (.ref vv)]))
  refine Dn.of (fun tt_ zz_ => XS.iloadN X29.here hx rfl (hb hby d6_10) rfl zz_) ?_
  show Dn p e below s _ _ _ (T29.setTop (mkF m 11 #[.val (.ref a), .val (.int r), .val (.int u)] [(.int u), (.int (r * (n + (1 : Int32)))), (.ref vv)]))
  refine Dn.of (fun tt_ zz_ => XS.iadd X29.here hx rfl (hb hby d6_11) rfl zz_) ?_
  show Dn p e below s _ _ _ (T29.setTop (mkF m 12 #[.val (.ref a), .val (.int r), .val (.int u)] [(.int ((r * (n + (1 : Int32))) + u)), (.ref vv)]))
  refine Dn.of (fun tt_ zz_ => XS.iconst X29.here hx rfl (hb hby d6_12) zz_) ?_
  show Dn p e below s _ _ _ (T29.setTop (mkF m 13 #[.val (.ref a), .val (.int r), .val (.int u)] [(.int (1 : Int32)), (.int ((r * (n + (1 : Int32))) + u)), (.ref vv)]))
  refine Dn.of (fun tt_ zz_ => XS.iadd X29.here hx rfl (hb hby d6_13) rfl zz_) ?_
  show Dn p e below s _ _ _ (T29.setTop (mkF m 14 #[.val (.ref a), .val (.int r), .val (.int u)] [(.int (((r * (n + (1 : Int32))) + u) + (1 : Int32))), (.ref vv)]))
  obtain ⟨c1, A1, p1, S1, P1, H1, G1⟩ := V1
  refine Dn.of (fun tt_ zz_ => X29.daload hx (j := (((r * (n + (1 : Int32))) + u) + (1 : Int32))) (v := (.double (FP.i2d (b * 16 + r * 8 + u)))) (by rw [e29]; exact A1.1) (State.isArrayOf_alike hZ.alike A1.2.1) A1.2.2 (inb_of S1 hat.1) (H1.at (inb_of S1 hat.1) hat.2) (g := (mkF m 14 #[.val (.ref a), .val (.int r), .val (.int u)] [(.int (((r * (n + (1 : Int32))) + u) + (1 : Int32))), (.ref vv)])) rfl rfl (hb hby d6_14) tt_ zz_) ?_
  show Dn p e below s _ _ _ (T29.setTop (mkF m 15 #[.val (.ref a), .val (.int r), .val (.int u)] [(.double (FP.i2d (b * 16 + r * 8 + u)))]))
  exact Dn.ret X29 hx hlk hret rfl (Or.inr (Or.inr (Or.inl ⟨rfl, rfl, _, rfl⟩))) (hb hby d6_15) (by decide) (by decide) (⟨rfl, N0, e29⟩)
def own_Q (n0 : Nat) (v : Option Value) (h : Heap) (L : List Loc) : Prop := v = some (.int 1) ∧ Fr n0 L
theorem ef0_JIIII (m : MethodId) (x0 : Int64) (x1 : Int32) (x2 : Int32) (x3 : Int32) (x4 : Int32) : entryFrame m #[(.long x0), (.int x1), (.int x2), (.int x3), (.int x4)] maxLocals = mkF m 0 #[.val (.long x0), .second, .val (.int x1), .val (.int x2), .val (.int x3), .val (.int x4), .unset, .unset, .unset, .unset, .unset, .unset, .unset, .unset, .unset, .unset, .unset, .unset, .unset] [] := by first | (simp [entryFrame, mkF, argsToLocals, Value.category, maxLocals]; done) | rfl
set_option maxRecDepth 65536 in
set_option maxHeartbeats 40000000 in
theorem rm0 (l : Launch) (Z : State) (a0 : Array Value) (hw : ∀ d ∈ tables_1, d.before a0 Z = true) (ws : List Jvm.Cond) (h0 : Heap) (n0 : Nat) (Z0 : n0 ≤ h0.size) (i0 : Int64) (i1 i2 i3 i4 : Int32) :
    ctr l Z x code maxLocals ret ws room_1 24 256 #[(.long i0), (.int i1), (.int i2), (.int i3), (.int i4)] h0 (own_Q n0) := by
  refine ctr_of (plainFor_of_name pn0) ?_
  intro p e s m below meth jc s₁ hx hby hml hret hlk hnm hown hZ e0 X0
  have N0 := Fr.nil n0
  refine Dn.cast (ef0_JIIII m i0 i1 i2 i3 i4) ?_
  show Dn p e below s _ _ _ (s₁.setTop (mkF m 0 #[.val (.long i0), .second, .val (.int i1), .val (.int i2), .val (.int i3), .val (.int i4), .unset, .unset, .unset, .unset, .unset, .unset, .unset, .unset, .unset, .unset, .unset, .unset, .unset] []))
  have K30 : ∀ n c b y : Int32, own_N n → own_C c → Dn p e below s (own_Q n0) 24 256 (s₁.setTop (mkF m 30 #[.val (.long i0), .second, .val (.int i1), .val (.int i2), .val (.int i3), .val (.int i4), .val (.int n), .val (.int c), .val (.int b), .val (.int y), .unset, .unset, .unset, .unset, .unset, .unset, .unset, .unset, .unset] [])) := by
    intro n d b y hn hc
    have Kr := Keep.refl h0 []
    refine Dn.of (fun tt_ zz_ => XS.iload X0.here hx rfl (hb hby at_30) rfl zz_) ?_
    show Dn p e below s (own_Q n0) 24 256 (s₁.setTop (mkF m 32 #[.val (.long i0), .second, .val (.int i1), .val (.int i2), .val (.int i3), .val (.int i4), .val (.int n), .val (.int d), .val (.int b), .val (.int y), .unset, .unset, .unset, .unset, .unset, .unset, .unset, .unset, .unset] [(.int b)]))
    refine Dn.of (fun tt_ zz_ => XS.iconst X0.here hx rfl (hb hby at_32) zz_) ?_
    show Dn p e below s (own_Q n0) 24 256 (s₁.setTop (mkF m 33 #[.val (.long i0), .second, .val (.int i1), .val (.int i2), .val (.int i3), .val (.int i4), .val (.int n), .val (.int d), .val (.int b), .val (.int y), .unset, .unset, .unset, .unset, .unset, .unset, .unset, .unset, .unset] [(.int (0 : Int32)), (.int b)]))
    obtain ⟨v30, T30, L30, Q30, X30, st30⟩ := cSt X0 hx hZ (y := (⟨"com/example/wyrd/wyrd/service/TrajectoryValuePinLaw", "rec", "(II)[D"⟩ : MethodName)) hown (hw _ (List.mem_of_getElem? (i := 1) rfl)) (hw _ (List.mem_of_getElem? (i := 2) rfl)) (hw _ (List.mem_of_getElem? (i := 3) rfl)) (hw _ (List.mem_of_getElem? (i := 4) rfl)) (by decide) (argsL := [(.int b), (.int (0 : Int32))]) (rest := []) (rmR l Z a0 hw h0 n0 Z0 b 0) e0  0 (by decide) (by decide) (by decide) (by decide) (g := (mkF m 33 #[.val (.long i0), .second, .val (.int i1), .val (.int i2), .val (.int i3), .val (.int i4), .val (.int n), .val (.int d), .val (.int b), .val (.int y), .unset, .unset, .unset, .unset, .unset, .unset, .unset, .unset, .unset] [(.int (0 : Int32)), (.int b)])) rfl (by rw [hml]; rfl) (lenOf pd1 rfl) rfl (by show 2 * 0 + _ ≤ _; exact Nat.le_of_eq rfl) (hb hby at_33)
    obtain ⟨rfl, M0, K0, kr0, V0⟩ := Q30
    obtain ⟨r0, gr0⟩ : ∃ z, z = h0.size := ⟨_, rfl⟩
    rw [← gr0] at V0 st30
    refine Dn.of st30 ?_
    show Dn p e below s (own_Q n0) 24 256 (T30.setTop (mkF m 36 #[.val (.long i0), .second, .val (.int i1), .val (.int i2), .val (.int i3), .val (.int i4), .val (.int n), .val (.int d), .val (.int b), .val (.int y), .unset, .unset, .unset, .unset, .unset, .unset, .unset, .unset, .unset] [(.ref r0)]))
    have Nr0 := Fr.app N0 M0
    have Zr0 := Nat.le_trans Z0 K0.1
    refine Dn.of (fun tt_ zz_ => XS.astore X30.here hx rfl (hb hby at_36) rfl rfl (l' := #[.val (.long i0), .second, .val (.int i1), .val (.int i2), .val (.int i3), .val (.int i4), .val (.int n), .val (.int d), .val (.int b), .val (.int y), .val (.ref r0), .unset, .unset, .unset, .unset, .unset, .unset, .unset, .unset]) rfl zz_) ?_
    show Dn p e below s (own_Q n0) 24 256 (T30.setTop (mkF m 38 #[.val (.long i0), .second, .val (.int i1), .val (.int i2), .val (.int i3), .val (.int i4), .val (.int n), .val (.int d), .val (.int b), .val (.int y), .val (.ref r0), .unset, .unset, .unset, .unset, .unset, .unset, .unset, .unset] []))
    refine Dn.of (fun tt_ zz_ => XS.iload X30.here hx rfl (hb hby at_38) rfl zz_) ?_
    show Dn p e below s (own_Q n0) 24 256 (T30.setTop (mkF m 40 #[.val (.long i0), .second, .val (.int i1), .val (.int i2), .val (.int i3), .val (.int i4), .val (.int n), .val (.int d), .val (.int b), .val (.int y), .val (.ref r0), .unset, .unset, .unset, .unset, .unset, .unset, .unset, .unset] [(.int b)]))
    refine Dn.of (fun tt_ zz_ => XS.iconst X30.here hx rfl (hb hby at_40) zz_) ?_
    show Dn p e below s (own_Q n0) 24 256 (T30.setTop (mkF m 41 #[.val (.long i0), .second, .val (.int i1), .val (.int i2), .val (.int i3), .val (.int i4), .val (.int n), .val (.int d), .val (.int b), .val (.int y), .val (.ref r0), .unset, .unset, .unset, .unset, .unset, .unset, .unset, .unset] [(.int (1 : Int32)), (.int b)]))
    obtain ⟨v31, T31, L31, Q31, X31, st31⟩ := cSt X30 hx hZ (y := (⟨"com/example/wyrd/wyrd/service/TrajectoryValuePinLaw", "rec", "(II)[D"⟩ : MethodName)) hown (hw _ (List.mem_of_getElem? (i := 1) rfl)) (hw _ (List.mem_of_getElem? (i := 2) rfl)) (hw _ (List.mem_of_getElem? (i := 3) rfl)) (hw _ (List.mem_of_getElem? (i := 4) rfl)) (by decide) (argsL := [(.int b), (.int (1 : Int32))]) (rest := []) (rmR l Z a0 hw T30.heap n0 Zr0 b 1) rfl  0 (by decide) (by decide) (by decide) (by decide) (g := (mkF m 41 #[.val (.long i0), .second, .val (.int i1), .val (.int i2), .val (.int i3), .val (.int i4), .val (.int n), .val (.int d), .val (.int b), .val (.int y), .val (.ref r0), .unset, .unset, .unset, .unset, .unset, .unset, .unset, .unset] [(.int (1 : Int32)), (.int b)])) rfl (by rw [hml]; rfl) (lenOf pd1 rfl) rfl (by show 2 * 0 + _ ≤ _; exact Nat.le_of_eq rfl) (hb hby at_41)
    obtain ⟨rfl, M1, K1, kr1, V1⟩ := Q31
    obtain ⟨r1, gr1⟩ : ∃ z, z = T30.heap.size := ⟨_, rfl⟩
    rw [← gr1] at V1 st31
    refine Dn.of st31 ?_
    show Dn p e below s (own_Q n0) 24 256 (T31.setTop (mkF m 44 #[.val (.long i0), .second, .val (.int i1), .val (.int i2), .val (.int i3), .val (.int i4), .val (.int n), .val (.int d), .val (.int b), .val (.int y), .val (.ref r0), .unset, .unset, .unset, .unset, .unset, .unset, .unset, .unset] [(.ref r1)]))
    have Nr1 := Fr.app Nr0 M1
    have Zr1 := Nat.le_trans Zr0 K1.1
    have V0 := V0.keep K1 nin0
    refine Dn.of (fun tt_ zz_ => XS.astore X31.here hx rfl (hb hby at_44) rfl rfl (l' := #[.val (.long i0), .second, .val (.int i1), .val (.int i2), .val (.int i3), .val (.int i4), .val (.int n), .val (.int d), .val (.int b), .val (.int y), .val (.ref r0), .val (.ref r1), .unset, .unset, .unset, .unset, .unset, .unset, .unset]) rfl zz_) ?_
    show Dn p e below s (own_Q n0) 24 256 (T31.setTop (mkF m 46 #[.val (.long i0), .second, .val (.int i1), .val (.int i2), .val (.int i3), .val (.int i4), .val (.int n), .val (.int d), .val (.int b), .val (.int y), .val (.ref r0), .val (.ref r1), .unset, .unset, .unset, .unset, .unset, .unset, .unset] []))
    refine Dn.of (fun tt_ zz_ => XS.iload X31.here hx rfl (hb hby at_46) rfl zz_) ?_
    show Dn p e below s (own_Q n0) 24 256 (T31.setTop (mkF m 48 #[.val (.long i0), .second, .val (.int i1), .val (.int i2), .val (.int i3), .val (.int i4), .val (.int n), .val (.int d), .val (.int b), .val (.int y), .val (.ref r0), .val (.ref r1), .unset, .unset, .unset, .unset, .unset, .unset, .unset] [(.int b)]))
    refine Dn.of (fun tt_ zz_ => XS.iconst X31.here hx rfl (hb hby at_48) zz_) ?_
    show Dn p e below s (own_Q n0) 24 256 (T31.setTop (mkF m 49 #[.val (.long i0), .second, .val (.int i1), .val (.int i2), .val (.int i3), .val (.int i4), .val (.int n), .val (.int d), .val (.int b), .val (.int y), .val (.ref r0), .val (.ref r1), .unset, .unset, .unset, .unset, .unset, .unset, .unset] [(.int (2 : Int32)), (.int b)]))
    obtain ⟨v32, T32, L32, Q32, X32, st32⟩ := cSt X31 hx hZ (y := (⟨"com/example/wyrd/wyrd/service/TrajectoryValuePinLaw", "rec", "(II)[D"⟩ : MethodName)) hown (hw _ (List.mem_of_getElem? (i := 1) rfl)) (hw _ (List.mem_of_getElem? (i := 2) rfl)) (hw _ (List.mem_of_getElem? (i := 3) rfl)) (hw _ (List.mem_of_getElem? (i := 4) rfl)) (by decide) (argsL := [(.int b), (.int (2 : Int32))]) (rest := []) (rmR l Z a0 hw T31.heap n0 Zr1 b 2) rfl  0 (by decide) (by decide) (by decide) (by decide) (g := (mkF m 49 #[.val (.long i0), .second, .val (.int i1), .val (.int i2), .val (.int i3), .val (.int i4), .val (.int n), .val (.int d), .val (.int b), .val (.int y), .val (.ref r0), .val (.ref r1), .unset, .unset, .unset, .unset, .unset, .unset, .unset] [(.int (2 : Int32)), (.int b)])) rfl (by rw [hml]; rfl) (lenOf pd1 rfl) rfl (by show 2 * 0 + _ ≤ _; exact Nat.le_of_eq rfl) (hb hby at_49)
    obtain ⟨rfl, M2, K2, kr2, V2⟩ := Q32
    obtain ⟨r2, gr2⟩ : ∃ z, z = T31.heap.size := ⟨_, rfl⟩
    rw [← gr2] at V2 st32
    refine Dn.of st32 ?_
    show Dn p e below s (own_Q n0) 24 256 (T32.setTop (mkF m 52 #[.val (.long i0), .second, .val (.int i1), .val (.int i2), .val (.int i3), .val (.int i4), .val (.int n), .val (.int d), .val (.int b), .val (.int y), .val (.ref r0), .val (.ref r1), .unset, .unset, .unset, .unset, .unset, .unset, .unset] [(.ref r2)]))
    have Nr2 := Fr.app Nr1 M2
    have Zr2 := Nat.le_trans Zr1 K2.1
    have V0 := V0.keep K2 nin0
    have V1 := V1.keep K2 nin0
    refine Dn.of (fun tt_ zz_ => XS.astore X32.here hx rfl (hb hby at_52) rfl rfl (l' := #[.val (.long i0), .second, .val (.int i1), .val (.int i2), .val (.int i3), .val (.int i4), .val (.int n), .val (.int d), .val (.int b), .val (.int y), .val (.ref r0), .val (.ref r1), .val (.ref r2), .unset, .unset, .unset, .unset, .unset, .unset]) rfl zz_) ?_
    show Dn p e below s (own_Q n0) 24 256 (T32.setTop (mkF m 54 #[.val (.long i0), .second, .val (.int i1), .val (.int i2), .val (.int i3), .val (.int i4), .val (.int n), .val (.int d), .val (.int b), .val (.int y), .val (.ref r0), .val (.ref r1), .val (.ref r2), .unset, .unset, .unset, .unset, .unset, .unset] []))
    obtain ⟨T33, h33, X33, e33, E33, A33, D33, U33, st33⟩ := newO X32 hx hZ hown (hw _ (List.mem_of_getElem? (i := 6) rfl)) (hw _ (List.mem_of_getElem? (i := 7) rfl)) (hw _ (List.mem_of_getElem? (i := 8) rfl)) rfl (g := (mkF m 54 #[.val (.long i0), .second, .val (.int i1), .val (.int i2), .val (.int i3), .val (.int i4), .val (.int n), .val (.int d), .val (.int b), .val (.int y), .val (.ref r0), .val (.ref r1), .val (.ref r2), .unset, .unset, .unset, .unset, .unset, .unset] [])) rfl (hb hby at_54) (by decide) (by decide)
    obtain ⟨b33, g33⟩ : ∃ z, z = T32.heap.size := ⟨_, rfl⟩
    rw [← g33] at A33 D33 U33 st33
    refine Dn.of st33 ?_
    show Dn p e below s (own_Q n0) 24 256 (T33.setTop (mkF m 57 #[.val (.long i0), .second, .val (.int i1), .val (.int i2), .val (.int i3), .val (.int i4), .val (.int n), .val (.int d), .val (.int b), .val (.int y), .val (.ref r0), .val (.ref r1), .val (.ref r2), .unset, .unset, .unset, .unset, .unset, .unset] [(.ref b33)]))
    have F_run_33 : Fld Z h33 b33 "com/example/wyrd/wyrd/service/Trajectory" "run" "J" (.long (0 : Int64)) := D33 (Or.inr (hw _ (List.mem_of_getElem? (i := 16) rfl))) (ty := .long) (by decide)
    have F_width_33 : Fld Z h33 b33 "com/example/wyrd/wyrd/service/Trajectory" "width" "I" (.int (0 : Int32)) := D33 (Or.inr (hw _ (List.mem_of_getElem? (i := 18) rfl))) (ty := .int) (by decide)
    have F_values_33 : Fld Z h33 b33 "com/example/wyrd/wyrd/service/Trajectory" "values" "[D" .null := D33 (Or.inl (hw _ (List.mem_of_getElem? (i := 26) rfl))) (ty := (.array .double)) (by decide)
    have F_size_33 : Fld Z h33 b33 "com/example/wyrd/wyrd/service/Trajectory" "size" "I" (.int (0 : Int32)) := D33 (Or.inl (hw _ (List.mem_of_getElem? (i := 34) rfl))) (ty := .int) (by decide)
    have Zb := Nat.le_trans Zr2 E33.1
    have gb : n0 ≤ b33 := g33 ▸ Zr2
    refine Dn.of (fun tt_ zz_ => XS.dup X33.here hx rfl (hb hby at_57) rfl rfl zz_) ?_
    show Dn p e below s (own_Q n0) 24 256 (T33.setTop (mkF m 58 #[.val (.long i0), .second, .val (.int i1), .val (.int i2), .val (.int i3), .val (.int i4), .val (.int n), .val (.int d), .val (.int b), .val (.int y), .val (.ref r0), .val (.ref r1), .val (.ref r2), .unset, .unset, .unset, .unset, .unset, .unset] [(.ref b33), (.ref b33)]))
    refine Dn.of (fun tt_ zz_ => XS.lloadN X33.here hx rfl (hb hby at_58) rfl zz_) ?_
    show Dn p e below s (own_Q n0) 24 256 (T33.setTop (mkF m 59 #[.val (.long i0), .second, .val (.int i1), .val (.int i2), .val (.int i3), .val (.int i4), .val (.int n), .val (.int d), .val (.int b), .val (.int y), .val (.ref r0), .val (.ref r1), .val (.ref r2), .unset, .unset, .unset, .unset, .unset, .unset] [(.long i0), (.ref b33), (.ref b33)]))
    refine Dn.of (fun tt_ zz_ => XS.iload X33.here hx rfl (hb hby at_59) rfl zz_) ?_
    show Dn p e below s (own_Q n0) 24 256 (T33.setTop (mkF m 61 #[.val (.long i0), .second, .val (.int i1), .val (.int i2), .val (.int i3), .val (.int i4), .val (.int n), .val (.int d), .val (.int b), .val (.int y), .val (.ref r0), .val (.ref r1), .val (.ref r2), .unset, .unset, .unset, .unset, .unset, .unset] [(.int n), (.long i0), (.ref b33), (.ref b33)]))
    obtain ⟨v34, T34, L34, Q34, X34, st34⟩ := cIn X33 hx hZ (y := (⟨"com/example/wyrd/wyrd/service/Trajectory", "<init>", "(JI)V"⟩ : MethodName)) rfl hown (hw _ (List.mem_of_getElem? (i := 9) rfl)) (hw _ (List.mem_of_getElem? (i := 10) rfl)) (hw _ (List.mem_of_getElem? (i := 8) rfl)) (hw _ (List.mem_of_getElem? (i := 11) rfl)) (by decide) (a := b33) (argsL := [(.long i0), (.int n)]) (rest := [(.ref b33)]) (rmI l Z a0 hw h33 n0 Zb b33 i0 n A33 F_run_33 F_width_33 F_values_33 F_size_33 gb hn) e33  1 (by decide) (by decide) (by decide) (by decide) (g := (mkF m 61 #[.val (.long i0), .second, .val (.int i1), .val (.int i2), .val (.int i3), .val (.int i4), .val (.int n), .val (.int d), .val (.int b), .val (.int y), .val (.ref r0), .val (.ref r1), .val (.ref r2), .unset, .unset, .unset, .unset, .unset, .unset] [(.int n), (.long i0), (.ref b33), (.ref b33)])) rfl (by rw [hml]; rfl) (lenOf pd2 rfl) rfl (by show 2 * 0 + _ ≤ _; exact Nat.le_of_eq rfl) (hb hby at_61)
    obtain ⟨rfl, Mi, Ki, F1, F3, vv, kv, F2, lv, VV⟩ := Q34
    refine Dn.of st34 ?_
    show Dn p e below s (own_Q n0) 24 256 (T34.setTop (mkF m 64 #[.val (.long i0), .second, .val (.int i1), .val (.int i2), .val (.int i3), .val (.int i4), .val (.int n), .val (.int d), .val (.int b), .val (.int y), .val (.ref r0), .val (.ref r1), .val (.ref r2), .unset, .unset, .unset, .unset, .unset, .unset] [(.ref b33)]))
    have Zc := Nat.le_trans Zb Ki.1
    have Ec := A33.keep Ki
    have ne0 : r0 ≠ b33 := Nat.ne_of_lt (g33 ▸ V0.lt)
    have nv0 : r0 ≠ vv := Nat.ne_of_lt (Nat.lt_of_lt_of_le (V0.ext E33).lt lv)
    have V0 := (V0.ext E33).keep Ki (ninS ne0 nin0)
    have ne1 : r1 ≠ b33 := Nat.ne_of_lt (g33 ▸ V1.lt)
    have nv1 : r1 ≠ vv := Nat.ne_of_lt (Nat.lt_of_lt_of_le (V1.ext E33).lt lv)
    have V1 := (V1.ext E33).keep Ki (ninS ne1 nin0)
    have ne2 : r2 ≠ b33 := Nat.ne_of_lt (g33 ▸ V2.lt)
    have nv2 : r2 ≠ vv := Nat.ne_of_lt (Nat.lt_of_lt_of_le (V2.ext E33).lt lv)
    have V2 := (V2.ext E33).keep Ki (ninS ne2 nin0)
    have nbv : b33 ≠ vv := Nat.ne_of_lt (Nat.lt_of_lt_of_le A33.lt lv)
    have gv : n0 ≤ vv := Nat.le_trans Zb lv
    have N1 := Fr.app Nr2 Mi
    refine Dn.of (fun tt_ zz_ => XS.astore X34.here hx rfl (hb hby at_64) rfl rfl (l' := #[.val (.long i0), .second, .val (.int i1), .val (.int i2), .val (.int i3), .val (.int i4), .val (.int n), .val (.int d), .val (.int b), .val (.int y), .val (.ref r0), .val (.ref r1), .val (.ref r2), .val (.ref b33), .unset, .unset, .unset, .unset, .unset]) rfl zz_) ?_
    show Dn p e below s (own_Q n0) 24 256 (T34.setTop (mkF m 66 #[.val (.long i0), .second, .val (.int i1), .val (.int i2), .val (.int i3), .val (.int i4), .val (.int n), .val (.int d), .val (.int b), .val (.int y), .val (.ref r0), .val (.ref r1), .val (.ref r2), .val (.ref b33), .unset, .unset, .unset, .unset, .unset] []))
    have KE : ∀ (T : State) (lc : List Loc) (ce sl : Nat) (X : Stand p l e room_1 s m #[(.long i0), (.int i1), (.int i2), (.int i3), (.int i4)] below meth jc T lc ce sl) (ok : Int32) (vd : List Value), ok = 1 → ce + 0 ≤ 24 → sl + 0 ≤ 256 → Fr n0 lc → n0 ≤ T.heap.size → Exa Z T.heap b33 "com/example/wyrd/wyrd/service/Trajectory" → Fld Z T.heap b33 "com/example/wyrd/wyrd/service/Trajectory" "width" "I" (.int (n + 1)) → Fld Z T.heap b33 "com/example/wyrd/wyrd/service/Trajectory" "values" "[D" (.ref vv) → Arv Z T.heap vv kv .double (own_z n) vd (.double (FP.l2d 0)) → (∀ r u, (¬ r < 0 ∧ r < d) → (¬ u < 0 ∧ u < n) → own_at n b vd r u) → Dn p e below s (own_Q n0) 24 256 (T.setTop (mkF m 132 #[.val (.long i0), .second, .val (.int i1), .val (.int i2), .val (.int i3), .val (.int i4), .val (.int n), .val (.int d), .val (.int b), .val (.int y), .val (.ref r0), .val (.ref r1), .val (.ref r2), .val (.ref b33), .val (.int ok), .unset, .unset, .unset, .unset] [])) := by
      intro T lc ce sl X ok vd hok hce hsl Nl Zt Et G1 G2 VT hat
      have hr := own_rem _ d (own_sh i2 1 1 (by decide) (by decide)) (own_Cp hc).1
      have hu := own_rem _ n (own_sh i2 8 8 (by decide) (by decide)) (own_Np hn).1
      refine Dn.of (fun tt_ zz_ => XS.iloadN X.here hx rfl (hb hby at_132) rfl zz_) ?_
      show Dn p e below s (own_Q n0) 24 256 (T.setTop (mkF m 133 #[.val (.long i0), .second, .val (.int i1), .val (.int i2), .val (.int i3), .val (.int i4), .val (.int n), .val (.int d), .val (.int b), .val (.int y), .val (.ref r0), .val (.ref r1), .val (.ref r2), .val (.ref b33), .val (.int ok), .unset, .unset, .unset, .unset] [(.int i2)]))
      refine Dn.of (fun tt_ zz_ => XS.iconst X.here hx rfl (hb hby at_133) zz_) ?_
      show Dn p e below s (own_Q n0) 24 256 (T.setTop (mkF m 134 #[.val (.long i0), .second, .val (.int i1), .val (.int i2), .val (.int i3), .val (.int i4), .val (.int n), .val (.int d), .val (.int b), .val (.int y), .val (.ref r0), .val (.ref r1), .val (.ref r2), .val (.ref b33), .val (.int ok), .unset, .unset, .unset, .unset] [(.int (1 : Int32)), (.int i2)]))
      refine Dn.of (fun tt_ zz_ => XS.iushr X.here hx rfl (hb hby at_134) rfl zz_) ?_
      show Dn p e below s (own_Q n0) 24 256 (T.setTop (mkF m 135 #[.val (.long i0), .second, .val (.int i1), .val (.int i2), .val (.int i3), .val (.int i4), .val (.int n), .val (.int d), .val (.int b), .val (.int y), .val (.ref r0), .val (.ref r1), .val (.ref r2), .val (.ref b33), .val (.int ok), .unset, .unset, .unset, .unset] [(.int ((i2.toUInt32 >>> ((1 : Int32) &&& 31).toUInt32).toInt32))]))
      refine Dn.of (fun tt_ zz_ => XS.iload X.here hx rfl (hb hby at_135) rfl zz_) ?_
      show Dn p e below s (own_Q n0) 24 256 (T.setTop (mkF m 137 #[.val (.long i0), .second, .val (.int i1), .val (.int i2), .val (.int i3), .val (.int i4), .val (.int n), .val (.int d), .val (.int b), .val (.int y), .val (.ref r0), .val (.ref r1), .val (.ref r2), .val (.ref b33), .val (.int ok), .unset, .unset, .unset, .unset] [(.int d), (.int ((i2.toUInt32 >>> ((1 : Int32) &&& 31).toUInt32).toInt32))]))
      refine Dn.of (fun tt_ zz_ => iremM X hx rfl (hb hby at_137) rfl (own_Cp hc).2 zz_) ?_
      show Dn p e below s (own_Q n0) 24 256 (T.setTop (mkF m 138 #[.val (.long i0), .second, .val (.int i1), .val (.int i2), .val (.int i3), .val (.int i4), .val (.int n), .val (.int d), .val (.int b), .val (.int y), .val (.ref r0), .val (.ref r1), .val (.ref r2), .val (.ref b33), .val (.int ok), .unset, .unset, .unset, .unset] [(.int (((i2.toUInt32 >>> ((1 : Int32) &&& 31).toUInt32).toInt32) % d))]))
      refine Dn.of (fun tt_ zz_ => XS.istore X.here hx rfl (hb hby at_138) rfl (l' := #[.val (.long i0), .second, .val (.int i1), .val (.int i2), .val (.int i3), .val (.int i4), .val (.int n), .val (.int d), .val (.int b), .val (.int y), .val (.ref r0), .val (.ref r1), .val (.ref r2), .val (.ref b33), .val (.int ok), .val (.int (((i2.toUInt32 >>> ((1 : Int32) &&& 31).toUInt32).toInt32) % d)), .unset, .unset, .unset]) rfl zz_) ?_
      show Dn p e below s (own_Q n0) 24 256 (T.setTop (mkF m 140 #[.val (.long i0), .second, .val (.int i1), .val (.int i2), .val (.int i3), .val (.int i4), .val (.int n), .val (.int d), .val (.int b), .val (.int y), .val (.ref r0), .val (.ref r1), .val (.ref r2), .val (.ref b33), .val (.int ok), .val (.int (((i2.toUInt32 >>> ((1 : Int32) &&& 31).toUInt32).toInt32) % d)), .unset, .unset, .unset] []))
      refine Dn.of (fun tt_ zz_ => XS.iloadN X.here hx rfl (hb hby at_140) rfl zz_) ?_
      show Dn p e below s (own_Q n0) 24 256 (T.setTop (mkF m 141 #[.val (.long i0), .second, .val (.int i1), .val (.int i2), .val (.int i3), .val (.int i4), .val (.int n), .val (.int d), .val (.int b), .val (.int y), .val (.ref r0), .val (.ref r1), .val (.ref r2), .val (.ref b33), .val (.int ok), .val (.int (((i2.toUInt32 >>> ((1 : Int32) &&& 31).toUInt32).toInt32) % d)), .unset, .unset, .unset] [(.int i2)]))
      refine Dn.of (fun tt_ zz_ => XS.bipush X.here hx rfl (hb hby at_141) zz_) ?_
      show Dn p e below s (own_Q n0) 24 256 (T.setTop (mkF m 143 #[.val (.long i0), .second, .val (.int i1), .val (.int i2), .val (.int i3), .val (.int i4), .val (.int n), .val (.int d), .val (.int b), .val (.int y), .val (.ref r0), .val (.ref r1), .val (.ref r2), .val (.ref b33), .val (.int ok), .val (.int (((i2.toUInt32 >>> ((1 : Int32) &&& 31).toUInt32).toInt32) % d)), .unset, .unset, .unset] [(.int (8 : Int32)), (.int i2)]))
      refine Dn.of (fun tt_ zz_ => XS.iushr X.here hx rfl (hb hby at_143) rfl zz_) ?_
      show Dn p e below s (own_Q n0) 24 256 (T.setTop (mkF m 144 #[.val (.long i0), .second, .val (.int i1), .val (.int i2), .val (.int i3), .val (.int i4), .val (.int n), .val (.int d), .val (.int b), .val (.int y), .val (.ref r0), .val (.ref r1), .val (.ref r2), .val (.ref b33), .val (.int ok), .val (.int (((i2.toUInt32 >>> ((1 : Int32) &&& 31).toUInt32).toInt32) % d)), .unset, .unset, .unset] [(.int ((i2.toUInt32 >>> ((8 : Int32) &&& 31).toUInt32).toInt32))]))
      refine Dn.of (fun tt_ zz_ => XS.iload X.here hx rfl (hb hby at_144) rfl zz_) ?_
      show Dn p e below s (own_Q n0) 24 256 (T.setTop (mkF m 146 #[.val (.long i0), .second, .val (.int i1), .val (.int i2), .val (.int i3), .val (.int i4), .val (.int n), .val (.int d), .val (.int b), .val (.int y), .val (.ref r0), .val (.ref r1), .val (.ref r2), .val (.ref b33), .val (.int ok), .val (.int (((i2.toUInt32 >>> ((1 : Int32) &&& 31).toUInt32).toInt32) % d)), .unset, .unset, .unset] [(.int n), (.int ((i2.toUInt32 >>> ((8 : Int32) &&& 31).toUInt32).toInt32))]))
      refine Dn.of (fun tt_ zz_ => iremM X hx rfl (hb hby at_146) rfl (own_Np hn).2 zz_) ?_
      show Dn p e below s (own_Q n0) 24 256 (T.setTop (mkF m 147 #[.val (.long i0), .second, .val (.int i1), .val (.int i2), .val (.int i3), .val (.int i4), .val (.int n), .val (.int d), .val (.int b), .val (.int y), .val (.ref r0), .val (.ref r1), .val (.ref r2), .val (.ref b33), .val (.int ok), .val (.int (((i2.toUInt32 >>> ((1 : Int32) &&& 31).toUInt32).toInt32) % d)), .unset, .unset, .unset] [(.int (((i2.toUInt32 >>> ((8 : Int32) &&& 31).toUInt32).toInt32) % n))]))
      refine Dn.of (fun tt_ zz_ => XS.istore X.here hx rfl (hb hby at_147) rfl (l' := #[.val (.long i0), .second, .val (.int i1), .val (.int i2), .val (.int i3), .val (.int i4), .val (.int n), .val (.int d), .val (.int b), .val (.int y), .val (.ref r0), .val (.ref r1), .val (.ref r2), .val (.ref b33), .val (.int ok), .val (.int (((i2.toUInt32 >>> ((1 : Int32) &&& 31).toUInt32).toInt32) % d)), .val (.int (((i2.toUInt32 >>> ((8 : Int32) &&& 31).toUInt32).toInt32) % n)), .unset, .unset]) rfl zz_) ?_
      show Dn p e below s (own_Q n0) 24 256 (T.setTop (mkF m 149 #[.val (.long i0), .second, .val (.int i1), .val (.int i2), .val (.int i3), .val (.int i4), .val (.int n), .val (.int d), .val (.int b), .val (.int y), .val (.ref r0), .val (.ref r1), .val (.ref r2), .val (.ref b33), .val (.int ok), .val (.int (((i2.toUInt32 >>> ((1 : Int32) &&& 31).toUInt32).toInt32) % d)), .val (.int (((i2.toUInt32 >>> ((8 : Int32) &&& 31).toUInt32).toInt32) % n)), .unset, .unset] []))
      generalize (((i2.toUInt32 >>> ((1 : Int32) &&& 31).toUInt32).toInt32) % d) = r at *
      generalize (((i2.toUInt32 >>> ((8 : Int32) &&& 31).toUInt32).toInt32) % n) = u at *
      show Dn p e below s (own_Q n0) 24 256 (T.setTop (mkF m 149 #[.val (.long i0), .second, .val (.int i1), .val (.int i2), .val (.int i3), .val (.int i4), .val (.int n), .val (.int d), .val (.int b), .val (.int y), .val (.ref r0), .val (.ref r1), .val (.ref r2), .val (.ref b33), .val (.int ok), .val (.int r), .val (.int u), .unset, .unset] []))
      refine Dn.of (fun tt_ zz_ => XS.iload X.here hx rfl (hb hby at_149) rfl zz_) ?_
      show Dn p e below s (own_Q n0) 24 256 (T.setTop (mkF m 151 #[.val (.long i0), .second, .val (.int i1), .val (.int i2), .val (.int i3), .val (.int i4), .val (.int n), .val (.int d), .val (.int b), .val (.int y), .val (.ref r0), .val (.ref r1), .val (.ref r2), .val (.ref b33), .val (.int ok), .val (.int r), .val (.int u), .unset, .unset] [(.int b)]))
      refine Dn.of (fun tt_ zz_ => XS.bipush X.here hx rfl (hb hby at_151) zz_) ?_
      show Dn p e below s (own_Q n0) 24 256 (T.setTop (mkF m 153 #[.val (.long i0), .second, .val (.int i1), .val (.int i2), .val (.int i3), .val (.int i4), .val (.int n), .val (.int d), .val (.int b), .val (.int y), .val (.ref r0), .val (.ref r1), .val (.ref r2), .val (.ref b33), .val (.int ok), .val (.int r), .val (.int u), .unset, .unset] [(.int (16 : Int32)), (.int b)]))
      refine Dn.of (fun tt_ zz_ => XS.imul X.here hx rfl (hb hby at_153) rfl zz_) ?_
      show Dn p e below s (own_Q n0) 24 256 (T.setTop (mkF m 154 #[.val (.long i0), .second, .val (.int i1), .val (.int i2), .val (.int i3), .val (.int i4), .val (.int n), .val (.int d), .val (.int b), .val (.int y), .val (.ref r0), .val (.ref r1), .val (.ref r2), .val (.ref b33), .val (.int ok), .val (.int r), .val (.int u), .unset, .unset] [(.int (b * (16 : Int32)))]))
      refine Dn.of (fun tt_ zz_ => XS.iload X.here hx rfl (hb hby at_154) rfl zz_) ?_
      show Dn p e below s (own_Q n0) 24 256 (T.setTop (mkF m 156 #[.val (.long i0), .second, .val (.int i1), .val (.int i2), .val (.int i3), .val (.int i4), .val (.int n), .val (.int d), .val (.int b), .val (.int y), .val (.ref r0), .val (.ref r1), .val (.ref r2), .val (.ref b33), .val (.int ok), .val (.int r), .val (.int u), .unset, .unset] [(.int r), (.int (b * (16 : Int32)))]))
      refine Dn.of (fun tt_ zz_ => XS.bipush X.here hx rfl (hb hby at_156) zz_) ?_
      show Dn p e below s (own_Q n0) 24 256 (T.setTop (mkF m 158 #[.val (.long i0), .second, .val (.int i1), .val (.int i2), .val (.int i3), .val (.int i4), .val (.int n), .val (.int d), .val (.int b), .val (.int y), .val (.ref r0), .val (.ref r1), .val (.ref r2), .val (.ref b33), .val (.int ok), .val (.int r), .val (.int u), .unset, .unset] [(.int (8 : Int32)), (.int r), (.int (b * (16 : Int32)))]))
      refine Dn.of (fun tt_ zz_ => XS.imul X.here hx rfl (hb hby at_158) rfl zz_) ?_
      show Dn p e below s (own_Q n0) 24 256 (T.setTop (mkF m 159 #[.val (.long i0), .second, .val (.int i1), .val (.int i2), .val (.int i3), .val (.int i4), .val (.int n), .val (.int d), .val (.int b), .val (.int y), .val (.ref r0), .val (.ref r1), .val (.ref r2), .val (.ref b33), .val (.int ok), .val (.int r), .val (.int u), .unset, .unset] [(.int (r * (8 : Int32))), (.int (b * (16 : Int32)))]))
      refine Dn.of (fun tt_ zz_ => XS.iadd X.here hx rfl (hb hby at_159) rfl zz_) ?_
      show Dn p e below s (own_Q n0) 24 256 (T.setTop (mkF m 160 #[.val (.long i0), .second, .val (.int i1), .val (.int i2), .val (.int i3), .val (.int i4), .val (.int n), .val (.int d), .val (.int b), .val (.int y), .val (.ref r0), .val (.ref r1), .val (.ref r2), .val (.ref b33), .val (.int ok), .val (.int r), .val (.int u), .unset, .unset] [(.int ((b * (16 : Int32)) + (r * (8 : Int32))))]))
      refine Dn.of (fun tt_ zz_ => XS.iload X.here hx rfl (hb hby at_160) rfl zz_) ?_
      show Dn p e below s (own_Q n0) 24 256 (T.setTop (mkF m 162 #[.val (.long i0), .second, .val (.int i1), .val (.int i2), .val (.int i3), .val (.int i4), .val (.int n), .val (.int d), .val (.int b), .val (.int y), .val (.ref r0), .val (.ref r1), .val (.ref r2), .val (.ref b33), .val (.int ok), .val (.int r), .val (.int u), .unset, .unset] [(.int u), (.int ((b * (16 : Int32)) + (r * (8 : Int32))))]))
      refine Dn.of (fun tt_ zz_ => XS.iadd X.here hx rfl (hb hby at_162) rfl zz_) ?_
      show Dn p e below s (own_Q n0) 24 256 (T.setTop (mkF m 163 #[.val (.long i0), .second, .val (.int i1), .val (.int i2), .val (.int i3), .val (.int i4), .val (.int n), .val (.int d), .val (.int b), .val (.int y), .val (.ref r0), .val (.ref r1), .val (.ref r2), .val (.ref b33), .val (.int ok), .val (.int r), .val (.int u), .unset, .unset] [(.int (((b * (16 : Int32)) + (r * (8 : Int32))) + u))]))
      refine Dn.of (fun tt_ zz_ => XS.i2dS X.here hx rfl (v := FP.i2d (((b * (16 : Int32)) + (r * (8 : Int32))) + u)) (hb hby at_163) rfl rfl zz_) ?_
      show Dn p e below s (own_Q n0) 24 256 (T.setTop (mkF m 164 #[.val (.long i0), .second, .val (.int i1), .val (.int i2), .val (.int i3), .val (.int i4), .val (.int n), .val (.int d), .val (.int b), .val (.int y), .val (.ref r0), .val (.ref r1), .val (.ref r2), .val (.ref b33), .val (.int ok), .val (.int r), .val (.int u), .unset, .unset] [(.double (FP.i2d (((b * (16 : Int32)) + (r * (8 : Int32))) + u)))]))
      refine Dn.of (fun tt_ zz_ => XS.dstore X.here hx rfl (hb hby at_164) rfl (l' := #[.val (.long i0), .second, .val (.int i1), .val (.int i2), .val (.int i3), .val (.int i4), .val (.int n), .val (.int d), .val (.int b), .val (.int y), .val (.ref r0), .val (.ref r1), .val (.ref r2), .val (.ref b33), .val (.int ok), .val (.int r), .val (.int u), .val (.double (FP.i2d (((b * (16 : Int32)) + (r * (8 : Int32))) + u))), .second]) rfl zz_) ?_
      show Dn p e below s (own_Q n0) 24 256 (T.setTop (mkF m 166 #[.val (.long i0), .second, .val (.int i1), .val (.int i2), .val (.int i3), .val (.int i4), .val (.int n), .val (.int d), .val (.int b), .val (.int y), .val (.ref r0), .val (.ref r1), .val (.ref r2), .val (.ref b33), .val (.int ok), .val (.int r), .val (.int u), .val (.double (FP.i2d (((b * (16 : Int32)) + (r * (8 : Int32))) + u))), .second] []))
      refine Dn.of (fun tt_ zz_ => XS.iload X.here hx rfl (hb hby at_166) rfl zz_) ?_
      show Dn p e below s (own_Q n0) 24 256 (T.setTop (mkF m 168 #[.val (.long i0), .second, .val (.int i1), .val (.int i2), .val (.int i3), .val (.int i4), .val (.int n), .val (.int d), .val (.int b), .val (.int y), .val (.ref r0), .val (.ref r1), .val (.ref r2), .val (.ref b33), .val (.int ok), .val (.int r), .val (.int u), .val (.double (FP.i2d (((b * (16 : Int32)) + (r * (8 : Int32))) + u))), .second] [(.int ok)]))
      refine Dn.of (fun tt_ zz_ => XS.ifNo X.here hx rfl (hb hby at_168) rfl ((if0 _ _).trans (feq (by rw [hok]; decide)).1) zz_) ?_
      show Dn p e below s (own_Q n0) 24 256 (T.setTop (mkF m 171 #[.val (.long i0), .second, .val (.int i1), .val (.int i2), .val (.int i3), .val (.int i4), .val (.int n), .val (.int d), .val (.int b), .val (.int y), .val (.ref r0), .val (.ref r1), .val (.ref r2), .val (.ref b33), .val (.int ok), .val (.int r), .val (.int u), .val (.double (FP.i2d (((b * (16 : Int32)) + (r * (8 : Int32))) + u))), .second] []))
      refine Dn.of (fun tt_ zz_ => XS.aload X.here hx rfl (hb hby at_171) rfl rfl zz_) ?_
      show Dn p e below s (own_Q n0) 24 256 (T.setTop (mkF m 173 #[.val (.long i0), .second, .val (.int i1), .val (.int i2), .val (.int i3), .val (.int i4), .val (.int n), .val (.int d), .val (.int b), .val (.int y), .val (.ref r0), .val (.ref r1), .val (.ref r2), .val (.ref b33), .val (.int ok), .val (.int r), .val (.int u), .val (.double (FP.i2d (((b * (16 : Int32)) + (r * (8 : Int32))) + u))), .second] [(.ref b33)]))
      refine Dn.of (fun tt_ zz_ => XS.iload X.here hx rfl (hb hby at_173) rfl zz_) ?_
      show Dn p e below s (own_Q n0) 24 256 (T.setTop (mkF m 175 #[.val (.long i0), .second, .val (.int i1), .val (.int i2), .val (.int i3), .val (.int i4), .val (.int n), .val (.int d), .val (.int b), .val (.int y), .val (.ref r0), .val (.ref r1), .val (.ref r2), .val (.ref b33), .val (.int ok), .val (.int r), .val (.int u), .val (.double (FP.i2d (((b * (16 : Int32)) + (r * (8 : Int32))) + u))), .second] [(.int r), (.ref b33)]))
      refine Dn.of (fun tt_ zz_ => XS.iload X.here hx rfl (hb hby at_175) rfl zz_) ?_
      show Dn p e below s (own_Q n0) 24 256 (T.setTop (mkF m 177 #[.val (.long i0), .second, .val (.int i1), .val (.int i2), .val (.int i3), .val (.int i4), .val (.int n), .val (.int d), .val (.int b), .val (.int y), .val (.ref r0), .val (.ref r1), .val (.ref r2), .val (.ref b33), .val (.int ok), .val (.int r), .val (.int u), .val (.double (FP.i2d (((b * (16 : Int32)) + (r * (8 : Int32))) + u))), .second] [(.int u), (.int r), (.ref b33)]))
      obtain ⟨v35, T35, L35, Q35, X35, st35⟩ := cVi X hx hZ (C := "com/example/wyrd/wyrd/service/Trajectory") (y := (⟨"com/example/wyrd/wyrd/service/Trajectory", "value", "(II)D"⟩ : MethodName)) (z := (⟨"com/example/wyrd/wyrd/service/Trajectory", "value", "(II)D"⟩ : MethodName)) hown (hw _ (List.mem_of_getElem? (i := 40) rfl)) (hw _ (List.mem_of_getElem? (i := 41) rfl)) (notFace_of_selects (args := #[]) (mvT hZ (hw _ (List.mem_of_getElem? (i := 43) rfl)))) (hw _ (List.mem_of_getElem? (i := 43) rfl)) (hw _ (List.mem_of_getElem? (i := 42) rfl)) (hw _ (List.mem_of_getElem? (i := 8) rfl)) (hw _ (List.mem_of_getElem? (i := 44) rfl)) (by decide) (a := b33) (argsL := [(.int r), (.int u)]) (rest := []) (rmV l Z a0 hw T.heap n0 Zt b33 vv kv n b vd G1 G2 VT r u (hat r u hr hu)) rfl Et 0 (by decide) (by decide) (hce) (hsl) (g := (mkF m 177 #[.val (.long i0), .second, .val (.int i1), .val (.int i2), .val (.int i3), .val (.int i4), .val (.int n), .val (.int d), .val (.int b), .val (.int y), .val (.ref r0), .val (.ref r1), .val (.ref r2), .val (.ref b33), .val (.int ok), .val (.int r), .val (.int u), .val (.double (FP.i2d (((b * (16 : Int32)) + (r * (8 : Int32))) + u))), .second] [(.int u), (.int r), (.ref b33)])) rfl (by rw [hml]; rfl) (lenOf pd3 rfl) rfl (by show 2 * 0 + _ ≤ _; exact Nat.le_of_eq rfl) (hb hby at_177)
      obtain ⟨rfl, Mv, e35⟩ := Q35
      refine Dn.of st35 ?_
      show Dn p e below s (own_Q n0) 24 256 (T35.setTop (mkF m 180 #[.val (.long i0), .second, .val (.int i1), .val (.int i2), .val (.int i3), .val (.int i4), .val (.int n), .val (.int d), .val (.int b), .val (.int y), .val (.ref r0), .val (.ref r1), .val (.ref r2), .val (.ref b33), .val (.int ok), .val (.int r), .val (.int u), .val (.double (FP.i2d (((b * (16 : Int32)) + (r * (8 : Int32))) + u))), .second] [(.double (FP.i2d (b * 16 + r * 8 + u)))]))
      refine Dn.of (fun tt_ zz_ => XS.dload X35.here hx rfl (hb hby at_180) rfl zz_) ?_
      show Dn p e below s (own_Q n0) 24 256 (T35.setTop (mkF m 182 #[.val (.long i0), .second, .val (.int i1), .val (.int i2), .val (.int i3), .val (.int i4), .val (.int n), .val (.int d), .val (.int b), .val (.int y), .val (.ref r0), .val (.ref r1), .val (.ref r2), .val (.ref b33), .val (.int ok), .val (.int r), .val (.int u), .val (.double (FP.i2d (((b * (16 : Int32)) + (r * (8 : Int32))) + u))), .second] [(.double (FP.i2d (((b * (16 : Int32)) + (r * (8 : Int32))) + u))), (.double (FP.i2d (b * 16 + r * 8 + u)))]))
      refine Dn.of (fun tt_ zz_ => XS.dcmpS X35.here hx rfl (v := (cmpValue (FP.dcmp (FP.i2d (b * 16 + r * 8 + u)) (FP.i2d (((b * (16 : Int32)) + (r * (8 : Int32))) + u))) .l)) (hb hby at_182) rfl rfl zz_) ?_
      show Dn p e below s (own_Q n0) 24 256 (T35.setTop (mkF m 183 #[.val (.long i0), .second, .val (.int i1), .val (.int i2), .val (.int i3), .val (.int i4), .val (.int n), .val (.int d), .val (.int b), .val (.int y), .val (.ref r0), .val (.ref r1), .val (.ref r2), .val (.ref b33), .val (.int ok), .val (.int r), .val (.int u), .val (.double (FP.i2d (((b * (16 : Int32)) + (r * (8 : Int32))) + u))), .second] [(.int (cmpValue (FP.dcmp (FP.i2d (b * 16 + r * 8 + u)) (FP.i2d (((b * (16 : Int32)) + (r * (8 : Int32))) + u))) .l))]))
      refine Dn.of (fun tt_ zz_ => XS.ifNo X35.here hx rfl (hb hby at_183) rfl ((if0 _ _).trans (teq (dcmpV_self (i2d_fin _).noNaN .l)).2) zz_) ?_
      show Dn p e below s (own_Q n0) 24 256 (T35.setTop (mkF m 186 #[.val (.long i0), .second, .val (.int i1), .val (.int i2), .val (.int i3), .val (.int i4), .val (.int n), .val (.int d), .val (.int b), .val (.int y), .val (.ref r0), .val (.ref r1), .val (.ref r2), .val (.ref b33), .val (.int ok), .val (.int r), .val (.int u), .val (.double (FP.i2d (((b * (16 : Int32)) + (r * (8 : Int32))) + u))), .second] []))
      refine Dn.of (fun tt_ zz_ => XS.iconst X35.here hx rfl (hb hby at_186) zz_) ?_
      show Dn p e below s (own_Q n0) 24 256 (T35.setTop (mkF m 187 #[.val (.long i0), .second, .val (.int i1), .val (.int i2), .val (.int i3), .val (.int i4), .val (.int n), .val (.int d), .val (.int b), .val (.int y), .val (.ref r0), .val (.ref r1), .val (.ref r2), .val (.ref b33), .val (.int ok), .val (.int r), .val (.int u), .val (.double (FP.i2d (((b * (16 : Int32)) + (r * (8 : Int32))) + u))), .second] [(.int (1 : Int32))]))
      refine Dn.of (fun tt_ zz_ => XS.goto X35.here hx rfl (pc0 := 187) (pc' := 191) rfl (hb hby at_187) (by decide) (by decide) zz_) ?_
      show Dn p e below s (own_Q n0) 24 256 (T35.setTop (mkF m 191 #[.val (.long i0), .second, .val (.int i1), .val (.int i2), .val (.int i3), .val (.int i4), .val (.int n), .val (.int d), .val (.int b), .val (.int y), .val (.ref r0), .val (.ref r1), .val (.ref r2), .val (.ref b33), .val (.int ok), .val (.int r), .val (.int u), .val (.double (FP.i2d (((b * (16 : Int32)) + (r * (8 : Int32))) + u))), .second] [(.int (1 : Int32))]))
      exact Dn.retN X35 hx hlk (t := .boolean) hret (by simp) (hb hby at_191) hce hsl (⟨rfl, Fr.app Nl Mv⟩)
    refine Dn.of (fun tt_ zz_ => XS.aload X34.here hx rfl (hb hby at_66) rfl rfl zz_) ?_
    show Dn p e below s (own_Q n0) 24 256 (T34.setTop (mkF m 68 #[.val (.long i0), .second, .val (.int i1), .val (.int i2), .val (.int i3), .val (.int i4), .val (.int n), .val (.int d), .val (.int b), .val (.int y), .val (.ref r0), .val (.ref r1), .val (.ref r2), .val (.ref b33), .unset, .unset, .unset, .unset, .unset] [(.ref b33)]))
    refine Dn.of (X34.ldc2DoubleC hx hown (mvT hZ (hw _ (List.mem_of_getElem? (i := 27) rfl))) (g := (mkF m 68 #[.val (.long i0), .second, .val (.int i1), .val (.int i2), .val (.int i3), .val (.int i4), .val (.int n), .val (.int d), .val (.int b), .val (.int y), .val (.ref r0), .val (.ref r1), .val (.ref r2), .val (.ref b33), .unset, .unset, .unset, .unset, .unset] [(.ref b33)])) rfl (hb hby at_68)) ?_
    show Dn p e below s (own_Q n0) 24 256 (T34.setTop (mkF m 71 #[.val (.long i0), .second, .val (.int i1), .val (.int i2), .val (.int i3), .val (.int i4), .val (.int n), .val (.int d), .val (.int b), .val (.int y), .val (.ref r0), .val (.ref r1), .val (.ref r2), .val (.ref b33), .unset, .unset, .unset, .unset, .unset] [(.double (13830554455654793216 : UInt64)), (.ref b33)]))
    refine Dn.of (fun tt_ zz_ => XS.iload X34.here hx rfl (hb hby at_71) rfl zz_) ?_
    show Dn p e below s (own_Q n0) 24 256 (T34.setTop (mkF m 73 #[.val (.long i0), .second, .val (.int i1), .val (.int i2), .val (.int i3), .val (.int i4), .val (.int n), .val (.int d), .val (.int b), .val (.int y), .val (.ref r0), .val (.ref r1), .val (.ref r2), .val (.ref b33), .unset, .unset, .unset, .unset, .unset] [(.int y), (.double (13830554455654793216 : UInt64)), (.ref b33)]))
    refine Dn.of (fun tt_ zz_ => XS.i2dS X34.here hx rfl (v := FP.i2d y) (hb hby at_73) rfl rfl zz_) ?_
    show Dn p e below s (own_Q n0) 24 256 (T34.setTop (mkF m 74 #[.val (.long i0), .second, .val (.int i1), .val (.int i2), .val (.int i3), .val (.int i4), .val (.int n), .val (.int d), .val (.int b), .val (.int y), .val (.ref r0), .val (.ref r1), .val (.ref r2), .val (.ref b33), .unset, .unset, .unset, .unset, .unset] [(.double (FP.i2d y)), (.double (13830554455654793216 : UInt64)), (.ref b33)]))
    refine Dn.of (fun tt_ zz_ => XS.dsubS X34.here hx rfl (v := (FP.dsub (13830554455654793216 : UInt64) (FP.i2d y))) (hb hby at_74) rfl (own_sub (13830554455654793216 : UInt64) _ (by decide +kernel)) rfl zz_) ?_
    show Dn p e below s (own_Q n0) 24 256 (T34.setTop (mkF m 75 #[.val (.long i0), .second, .val (.int i1), .val (.int i2), .val (.int i3), .val (.int i4), .val (.int n), .val (.int d), .val (.int b), .val (.int y), .val (.ref r0), .val (.ref r1), .val (.ref r2), .val (.ref b33), .unset, .unset, .unset, .unset, .unset] [(.double (FP.dsub (13830554455654793216 : UInt64) (FP.i2d y))), (.ref b33)]))
    generalize ex0 : (FP.dsub (13830554455654793216 : UInt64) (FP.i2d y)) = t0 at *
    show Dn p e below s (own_Q n0) 24 256 (T34.setTop (mkF m 75 #[.val (.long i0), .second, .val (.int i1), .val (.int i2), .val (.int i3), .val (.int i4), .val (.int n), .val (.int d), .val (.int b), .val (.int y), .val (.ref r0), .val (.ref r1), .val (.ref r2), .val (.ref b33), .unset, .unset, .unset, .unset, .unset] [(.double t0), (.ref b33)]))
    refine Dn.of (fun tt_ zz_ => XS.aload X34.here hx rfl (hb hby at_75) rfl rfl zz_) ?_
    show Dn p e below s (own_Q n0) 24 256 (T34.setTop (mkF m 77 #[.val (.long i0), .second, .val (.int i1), .val (.int i2), .val (.int i3), .val (.int i4), .val (.int n), .val (.int d), .val (.int b), .val (.int y), .val (.ref r0), .val (.ref r1), .val (.ref r2), .val (.ref b33), .unset, .unset, .unset, .unset, .unset] [(.ref r0), (.double t0), (.ref b33)]))
    obtain ⟨v36, T36, L36, Q36, X36, st36⟩ := cVi X34 hx hZ (C := "com/example/wyrd/wyrd/service/Trajectory") (y := (⟨"com/example/wyrd/wyrd/service/Trajectory", "add", "(D[D)Z"⟩ : MethodName)) (z := (⟨"com/example/wyrd/wyrd/service/Trajectory", "add", "(D[D)Z"⟩ : MethodName)) hown (hw _ (List.mem_of_getElem? (i := 28) rfl)) (hw _ (List.mem_of_getElem? (i := 29) rfl)) (notFace_of_selects (args := #[]) (mvT hZ (hw _ (List.mem_of_getElem? (i := 31) rfl)))) (hw _ (List.mem_of_getElem? (i := 31) rfl)) (hw _ (List.mem_of_getElem? (i := 30) rfl)) (hw _ (List.mem_of_getElem? (i := 8) rfl)) (hw _ (List.mem_of_getElem? (i := 32) rfl)) (by decide) (a := b33) (argsL := [(.double t0), (.ref r0)]) (rest := []) (rmA l Z a0 hw T34.heap n0 Zc b33 vv r0 kv kr0 n 0 t0 (own_row (own_g b 0)) own_new Ec F1 F2 F3 VV V0 gb gv nbv nv0 hn (Or.inl rfl) rfl) rfl Ec 0 (by decide) (by decide) (by decide) (by decide) (g := (mkF m 77 #[.val (.long i0), .second, .val (.int i1), .val (.int i2), .val (.int i3), .val (.int i4), .val (.int n), .val (.int d), .val (.int b), .val (.int y), .val (.ref r0), .val (.ref r1), .val (.ref r2), .val (.ref b33), .unset, .unset, .unset, .unset, .unset] [(.ref r0), (.double t0), (.ref b33)])) rfl (by rw [hml]; rfl) (lenOf pd4 rfl) rfl (by show 2 * 0 + _ ≤ _; exact Nat.le_of_eq rfl) (hb hby at_77)
    obtain ⟨rfl, Ma0, Ka0, Fa0, Fb0, Fc0, Va0⟩ := Q36
    refine Dn.of st36 ?_
    show Dn p e below s (own_Q n0) 24 256 (T36.setTop (mkF m 80 #[.val (.long i0), .second, .val (.int i1), .val (.int i2), .val (.int i3), .val (.int i4), .val (.int n), .val (.int d), .val (.int b), .val (.int y), .val (.ref r0), .val (.ref r1), .val (.ref r2), .val (.ref b33), .unset, .unset, .unset, .unset, .unset] [(.int (1 : Int32))]))
    have Za0 := Nat.le_trans Zc Ka0.1
    have Ea0 := Ec.keep Ka0
    have Na0 := Fr.app N1 Ma0
    have V1 := V1.keep Ka0 (ninS ne1 (ninS nv1 nin0))
    have V2 := V2.keep Ka0 (ninS ne2 (ninS nv2 nin0))
    refine Dn.of (fun tt_ zz_ => XS.istore X36.here hx rfl (hb hby at_80) rfl (l' := #[.val (.long i0), .second, .val (.int i1), .val (.int i2), .val (.int i3), .val (.int i4), .val (.int n), .val (.int d), .val (.int b), .val (.int y), .val (.ref r0), .val (.ref r1), .val (.ref r2), .val (.ref b33), .val (.int (1 : Int32)), .unset, .unset, .unset, .unset]) rfl zz_) ?_
    show Dn p e below s (own_Q n0) 24 256 (T36.setTop (mkF m 82 #[.val (.long i0), .second, .val (.int i1), .val (.int i2), .val (.int i3), .val (.int i4), .val (.int n), .val (.int d), .val (.int b), .val (.int y), .val (.ref r0), .val (.ref r1), .val (.ref r2), .val (.ref b33), .val (.int (1 : Int32)), .unset, .unset, .unset, .unset] []))
    refine Dn.of (fun tt_ zz_ => XS.iload X36.here hx rfl (hb hby at_82) rfl zz_) ?_
    show Dn p e below s (own_Q n0) 24 256 (T36.setTop (mkF m 84 #[.val (.long i0), .second, .val (.int i1), .val (.int i2), .val (.int i3), .val (.int i4), .val (.int n), .val (.int d), .val (.int b), .val (.int y), .val (.ref r0), .val (.ref r1), .val (.ref r2), .val (.ref b33), .val (.int (1 : Int32)), .unset, .unset, .unset, .unset] [(.int d)]))
    refine Dn.of (fun tt_ zz_ => XS.iconst X36.here hx rfl (hb hby at_84) zz_) ?_
    show Dn p e below s (own_Q n0) 24 256 (T36.setTop (mkF m 85 #[.val (.long i0), .second, .val (.int i1), .val (.int i2), .val (.int i3), .val (.int i4), .val (.int n), .val (.int d), .val (.int b), .val (.int y), .val (.ref r0), .val (.ref r1), .val (.ref r2), .val (.ref b33), .val (.int (1 : Int32)), .unset, .unset, .unset, .unset] [(.int (1 : Int32)), (.int d)]))
    by_cases q1 : (1 : Int32) < d
    · skip
      refine Dn.of (fun tt_ zz_ => XS.icmpNo X36.here hx rfl (hb hby at_85) rfl (tlt q1).2.2.2 zz_) ?_
      show Dn p e below s (own_Q n0) 24 256 (T36.setTop (mkF m 88 #[.val (.long i0), .second, .val (.int i1), .val (.int i2), .val (.int i3), .val (.int i4), .val (.int n), .val (.int d), .val (.int b), .val (.int y), .val (.ref r0), .val (.ref r1), .val (.ref r2), .val (.ref b33), .val (.int (1 : Int32)), .unset, .unset, .unset, .unset] []))
      refine Dn.of (fun tt_ zz_ => XS.iload X36.here hx rfl (hb hby at_88) rfl zz_) ?_
      show Dn p e below s (own_Q n0) 24 256 (T36.setTop (mkF m 90 #[.val (.long i0), .second, .val (.int i1), .val (.int i2), .val (.int i3), .val (.int i4), .val (.int n), .val (.int d), .val (.int b), .val (.int y), .val (.ref r0), .val (.ref r1), .val (.ref r2), .val (.ref b33), .val (.int (1 : Int32)), .unset, .unset, .unset, .unset] [(.int (1 : Int32))]))
      refine Dn.of (fun tt_ zz_ => XS.aload X36.here hx rfl (hb hby at_90) rfl rfl zz_) ?_
      show Dn p e below s (own_Q n0) 24 256 (T36.setTop (mkF m 92 #[.val (.long i0), .second, .val (.int i1), .val (.int i2), .val (.int i3), .val (.int i4), .val (.int n), .val (.int d), .val (.int b), .val (.int y), .val (.ref r0), .val (.ref r1), .val (.ref r2), .val (.ref b33), .val (.int (1 : Int32)), .unset, .unset, .unset, .unset] [(.ref b33), (.int (1 : Int32))]))
      refine Dn.of (X36.ldc2DoubleC hx hown (mvT hZ (hw _ (List.mem_of_getElem? (i := 45) rfl))) (g := (mkF m 92 #[.val (.long i0), .second, .val (.int i1), .val (.int i2), .val (.int i3), .val (.int i4), .val (.int n), .val (.int d), .val (.int b), .val (.int y), .val (.ref r0), .val (.ref r1), .val (.ref r2), .val (.ref b33), .val (.int (1 : Int32)), .unset, .unset, .unset, .unset] [(.ref b33), (.int (1 : Int32))])) rfl (hb hby at_92)) ?_
      show Dn p e below s (own_Q n0) 24 256 (T36.setTop (mkF m 95 #[.val (.long i0), .second, .val (.int i1), .val (.int i2), .val (.int i3), .val (.int i4), .val (.int n), .val (.int d), .val (.int b), .val (.int y), .val (.ref r0), .val (.ref r1), .val (.ref r2), .val (.ref b33), .val (.int (1 : Int32)), .unset, .unset, .unset, .unset] [(.double (13835058055282163712 : UInt64)), (.ref b33), (.int (1 : Int32))]))
      refine Dn.of (fun tt_ zz_ => XS.iload X36.here hx rfl (hb hby at_95) rfl zz_) ?_
      show Dn p e below s (own_Q n0) 24 256 (T36.setTop (mkF m 97 #[.val (.long i0), .second, .val (.int i1), .val (.int i2), .val (.int i3), .val (.int i4), .val (.int n), .val (.int d), .val (.int b), .val (.int y), .val (.ref r0), .val (.ref r1), .val (.ref r2), .val (.ref b33), .val (.int (1 : Int32)), .unset, .unset, .unset, .unset] [(.int y), (.double (13835058055282163712 : UInt64)), (.ref b33), (.int (1 : Int32))]))
      refine Dn.of (fun tt_ zz_ => XS.i2dS X36.here hx rfl (v := FP.i2d y) (hb hby at_97) rfl rfl zz_) ?_
      show Dn p e below s (own_Q n0) 24 256 (T36.setTop (mkF m 98 #[.val (.long i0), .second, .val (.int i1), .val (.int i2), .val (.int i3), .val (.int i4), .val (.int n), .val (.int d), .val (.int b), .val (.int y), .val (.ref r0), .val (.ref r1), .val (.ref r2), .val (.ref b33), .val (.int (1 : Int32)), .unset, .unset, .unset, .unset] [(.double (FP.i2d y)), (.double (13835058055282163712 : UInt64)), (.ref b33), (.int (1 : Int32))]))
      refine Dn.of (fun tt_ zz_ => XS.dsubS X36.here hx rfl (v := (FP.dsub (13835058055282163712 : UInt64) (FP.i2d y))) (hb hby at_98) rfl (own_sub (13835058055282163712 : UInt64) _ (by decide +kernel)) rfl zz_) ?_
      show Dn p e below s (own_Q n0) 24 256 (T36.setTop (mkF m 99 #[.val (.long i0), .second, .val (.int i1), .val (.int i2), .val (.int i3), .val (.int i4), .val (.int n), .val (.int d), .val (.int b), .val (.int y), .val (.ref r0), .val (.ref r1), .val (.ref r2), .val (.ref b33), .val (.int (1 : Int32)), .unset, .unset, .unset, .unset] [(.double (FP.dsub (13835058055282163712 : UInt64) (FP.i2d y))), (.ref b33), (.int (1 : Int32))]))
      generalize ex1 : (FP.dsub (13835058055282163712 : UInt64) (FP.i2d y)) = t1 at *
      show Dn p e below s (own_Q n0) 24 256 (T36.setTop (mkF m 99 #[.val (.long i0), .second, .val (.int i1), .val (.int i2), .val (.int i3), .val (.int i4), .val (.int n), .val (.int d), .val (.int b), .val (.int y), .val (.ref r0), .val (.ref r1), .val (.ref r2), .val (.ref b33), .val (.int (1 : Int32)), .unset, .unset, .unset, .unset] [(.double t1), (.ref b33), (.int (1 : Int32))]))
      refine Dn.of (fun tt_ zz_ => XS.aload X36.here hx rfl (hb hby at_99) rfl rfl zz_) ?_
      show Dn p e below s (own_Q n0) 24 256 (T36.setTop (mkF m 101 #[.val (.long i0), .second, .val (.int i1), .val (.int i2), .val (.int i3), .val (.int i4), .val (.int n), .val (.int d), .val (.int b), .val (.int y), .val (.ref r0), .val (.ref r1), .val (.ref r2), .val (.ref b33), .val (.int (1 : Int32)), .unset, .unset, .unset, .unset] [(.ref r1), (.double t1), (.ref b33), (.int (1 : Int32))]))
      obtain ⟨v37, T37, L37, Q37, X37, st37⟩ := cVi X36 hx hZ (C := "com/example/wyrd/wyrd/service/Trajectory") (y := (⟨"com/example/wyrd/wyrd/service/Trajectory", "add", "(D[D)Z"⟩ : MethodName)) (z := (⟨"com/example/wyrd/wyrd/service/Trajectory", "add", "(D[D)Z"⟩ : MethodName)) hown (hw _ (List.mem_of_getElem? (i := 28) rfl)) (hw _ (List.mem_of_getElem? (i := 29) rfl)) (notFace_of_selects (args := #[]) (mvT hZ (hw _ (List.mem_of_getElem? (i := 31) rfl)))) (hw _ (List.mem_of_getElem? (i := 31) rfl)) (hw _ (List.mem_of_getElem? (i := 30) rfl)) (hw _ (List.mem_of_getElem? (i := 8) rfl)) (hw _ (List.mem_of_getElem? (i := 32) rfl)) (by decide) (a := b33) (argsL := [(.double t1), (.ref r1)]) (rest := [(.int (1 : Int32))]) (rmA l Z a0 hw T36.heap n0 Za0 b33 vv r1 kv kr1 n (0 + (n + 1)) t1 (own_row (own_g b 1)) (own_l1 n (own_g b 0) (.double t0)) Ea0 Fa0 Fb0 Fc0 Va0 V1 gb gv nbv nv1 hn (Or.inr (Or.inl rfl)) (own_put_len hn (Or.inl rfl) _ _ _ rfl)) rfl Ea0 1 (by decide) (by decide) (by decide) (by decide) (g := (mkF m 101 #[.val (.long i0), .second, .val (.int i1), .val (.int i2), .val (.int i3), .val (.int i4), .val (.int n), .val (.int d), .val (.int b), .val (.int y), .val (.ref r0), .val (.ref r1), .val (.ref r2), .val (.ref b33), .val (.int (1 : Int32)), .unset, .unset, .unset, .unset] [(.ref r1), (.double t1), (.ref b33), (.int (1 : Int32))])) rfl (by rw [hml]; rfl) (lenOf pd4 rfl) rfl (by show 2 * 0 + _ ≤ _; exact Nat.le_of_eq rfl) (hb hby at_101)
      obtain ⟨rfl, Ma1, Ka1, Fa1, Fb1, Fc1, Va1⟩ := Q37
      refine Dn.of st37 ?_
      show Dn p e below s (own_Q n0) 24 256 (T37.setTop (mkF m 104 #[.val (.long i0), .second, .val (.int i1), .val (.int i2), .val (.int i3), .val (.int i4), .val (.int n), .val (.int d), .val (.int b), .val (.int y), .val (.ref r0), .val (.ref r1), .val (.ref r2), .val (.ref b33), .val (.int (1 : Int32)), .unset, .unset, .unset, .unset] [(.int (1 : Int32)), (.int (1 : Int32))]))
      have Za1 := Nat.le_trans Za0 Ka1.1
      have Ea1 := Ea0.keep Ka1
      have Na1 := Fr.app Na0 Ma1
      have V2 := V2.keep Ka1 (ninS ne2 (ninS nv2 nin0))
      refine Dn.of (fun tt_ zz_ => XS.iand X37.here hx rfl (hb hby at_104) rfl zz_) ?_
      show Dn p e below s (own_Q n0) 24 256 (T37.setTop (mkF m 105 #[.val (.long i0), .second, .val (.int i1), .val (.int i2), .val (.int i3), .val (.int i4), .val (.int n), .val (.int d), .val (.int b), .val (.int y), .val (.ref r0), .val (.ref r1), .val (.ref r2), .val (.ref b33), .val (.int (1 : Int32)), .unset, .unset, .unset, .unset] [(.int ((1 : Int32) &&& (1 : Int32)))]))
      refine Dn.of (fun tt_ zz_ => XS.istore X37.here hx rfl (hb hby at_105) rfl (l' := #[.val (.long i0), .second, .val (.int i1), .val (.int i2), .val (.int i3), .val (.int i4), .val (.int n), .val (.int d), .val (.int b), .val (.int y), .val (.ref r0), .val (.ref r1), .val (.ref r2), .val (.ref b33), .val (.int ((1 : Int32) &&& (1 : Int32))), .unset, .unset, .unset, .unset]) rfl zz_) ?_
      show Dn p e below s (own_Q n0) 24 256 (T37.setTop (mkF m 107 #[.val (.long i0), .second, .val (.int i1), .val (.int i2), .val (.int i3), .val (.int i4), .val (.int n), .val (.int d), .val (.int b), .val (.int y), .val (.ref r0), .val (.ref r1), .val (.ref r2), .val (.ref b33), .val (.int ((1 : Int32) &&& (1 : Int32))), .unset, .unset, .unset, .unset] []))
      refine Dn.of (fun tt_ zz_ => XS.iload X37.here hx rfl (hb hby at_107) rfl zz_) ?_
      show Dn p e below s (own_Q n0) 24 256 (T37.setTop (mkF m 109 #[.val (.long i0), .second, .val (.int i1), .val (.int i2), .val (.int i3), .val (.int i4), .val (.int n), .val (.int d), .val (.int b), .val (.int y), .val (.ref r0), .val (.ref r1), .val (.ref r2), .val (.ref b33), .val (.int ((1 : Int32) &&& (1 : Int32))), .unset, .unset, .unset, .unset] [(.int d)]))
      refine Dn.of (fun tt_ zz_ => XS.iconst X37.here hx rfl (hb hby at_109) zz_) ?_
      show Dn p e below s (own_Q n0) 24 256 (T37.setTop (mkF m 110 #[.val (.long i0), .second, .val (.int i1), .val (.int i2), .val (.int i3), .val (.int i4), .val (.int n), .val (.int d), .val (.int b), .val (.int y), .val (.ref r0), .val (.ref r1), .val (.ref r2), .val (.ref b33), .val (.int ((1 : Int32) &&& (1 : Int32))), .unset, .unset, .unset, .unset] [(.int (2 : Int32)), (.int d)]))
      by_cases q2 : (2 : Int32) < d
      · skip
        refine Dn.of (fun tt_ zz_ => XS.icmpNo X37.here hx rfl (hb hby at_110) rfl (tlt q2).2.2.2 zz_) ?_
        show Dn p e below s (own_Q n0) 24 256 (T37.setTop (mkF m 113 #[.val (.long i0), .second, .val (.int i1), .val (.int i2), .val (.int i3), .val (.int i4), .val (.int n), .val (.int d), .val (.int b), .val (.int y), .val (.ref r0), .val (.ref r1), .val (.ref r2), .val (.ref b33), .val (.int ((1 : Int32) &&& (1 : Int32))), .unset, .unset, .unset, .unset] []))
        refine Dn.of (fun tt_ zz_ => XS.iload X37.here hx rfl (hb hby at_113) rfl zz_) ?_
        show Dn p e below s (own_Q n0) 24 256 (T37.setTop (mkF m 115 #[.val (.long i0), .second, .val (.int i1), .val (.int i2), .val (.int i3), .val (.int i4), .val (.int n), .val (.int d), .val (.int b), .val (.int y), .val (.ref r0), .val (.ref r1), .val (.ref r2), .val (.ref b33), .val (.int ((1 : Int32) &&& (1 : Int32))), .unset, .unset, .unset, .unset] [(.int ((1 : Int32) &&& (1 : Int32)))]))
        refine Dn.of (fun tt_ zz_ => XS.aload X37.here hx rfl (hb hby at_115) rfl rfl zz_) ?_
        show Dn p e below s (own_Q n0) 24 256 (T37.setTop (mkF m 117 #[.val (.long i0), .second, .val (.int i1), .val (.int i2), .val (.int i3), .val (.int i4), .val (.int n), .val (.int d), .val (.int b), .val (.int y), .val (.ref r0), .val (.ref r1), .val (.ref r2), .val (.ref b33), .val (.int ((1 : Int32) &&& (1 : Int32))), .unset, .unset, .unset, .unset] [(.ref b33), (.int ((1 : Int32) &&& (1 : Int32)))]))
        refine Dn.of (X37.ldc2DoubleC hx hown (mvT hZ (hw _ (List.mem_of_getElem? (i := 46) rfl))) (g := (mkF m 117 #[.val (.long i0), .second, .val (.int i1), .val (.int i2), .val (.int i3), .val (.int i4), .val (.int n), .val (.int d), .val (.int b), .val (.int y), .val (.ref r0), .val (.ref r1), .val (.ref r2), .val (.ref b33), .val (.int ((1 : Int32) &&& (1 : Int32))), .unset, .unset, .unset, .unset] [(.ref b33), (.int ((1 : Int32) &&& (1 : Int32)))])) rfl (hb hby at_117)) ?_
        show Dn p e below s (own_Q n0) 24 256 (T37.setTop (mkF m 120 #[.val (.long i0), .second, .val (.int i1), .val (.int i2), .val (.int i3), .val (.int i4), .val (.int n), .val (.int d), .val (.int b), .val (.int y), .val (.ref r0), .val (.ref r1), .val (.ref r2), .val (.ref b33), .val (.int ((1 : Int32) &&& (1 : Int32))), .unset, .unset, .unset, .unset] [(.double (13837309855095848960 : UInt64)), (.ref b33), (.int ((1 : Int32) &&& (1 : Int32)))]))
        refine Dn.of (fun tt_ zz_ => XS.iload X37.here hx rfl (hb hby at_120) rfl zz_) ?_
        show Dn p e below s (own_Q n0) 24 256 (T37.setTop (mkF m 122 #[.val (.long i0), .second, .val (.int i1), .val (.int i2), .val (.int i3), .val (.int i4), .val (.int n), .val (.int d), .val (.int b), .val (.int y), .val (.ref r0), .val (.ref r1), .val (.ref r2), .val (.ref b33), .val (.int ((1 : Int32) &&& (1 : Int32))), .unset, .unset, .unset, .unset] [(.int y), (.double (13837309855095848960 : UInt64)), (.ref b33), (.int ((1 : Int32) &&& (1 : Int32)))]))
        refine Dn.of (fun tt_ zz_ => XS.i2dS X37.here hx rfl (v := FP.i2d y) (hb hby at_122) rfl rfl zz_) ?_
        show Dn p e below s (own_Q n0) 24 256 (T37.setTop (mkF m 123 #[.val (.long i0), .second, .val (.int i1), .val (.int i2), .val (.int i3), .val (.int i4), .val (.int n), .val (.int d), .val (.int b), .val (.int y), .val (.ref r0), .val (.ref r1), .val (.ref r2), .val (.ref b33), .val (.int ((1 : Int32) &&& (1 : Int32))), .unset, .unset, .unset, .unset] [(.double (FP.i2d y)), (.double (13837309855095848960 : UInt64)), (.ref b33), (.int ((1 : Int32) &&& (1 : Int32)))]))
        refine Dn.of (fun tt_ zz_ => XS.dsubS X37.here hx rfl (v := (FP.dsub (13837309855095848960 : UInt64) (FP.i2d y))) (hb hby at_123) rfl (own_sub (13837309855095848960 : UInt64) _ (by decide +kernel)) rfl zz_) ?_
        show Dn p e below s (own_Q n0) 24 256 (T37.setTop (mkF m 124 #[.val (.long i0), .second, .val (.int i1), .val (.int i2), .val (.int i3), .val (.int i4), .val (.int n), .val (.int d), .val (.int b), .val (.int y), .val (.ref r0), .val (.ref r1), .val (.ref r2), .val (.ref b33), .val (.int ((1 : Int32) &&& (1 : Int32))), .unset, .unset, .unset, .unset] [(.double (FP.dsub (13837309855095848960 : UInt64) (FP.i2d y))), (.ref b33), (.int ((1 : Int32) &&& (1 : Int32)))]))
        generalize ex2 : (FP.dsub (13837309855095848960 : UInt64) (FP.i2d y)) = t2 at *
        show Dn p e below s (own_Q n0) 24 256 (T37.setTop (mkF m 124 #[.val (.long i0), .second, .val (.int i1), .val (.int i2), .val (.int i3), .val (.int i4), .val (.int n), .val (.int d), .val (.int b), .val (.int y), .val (.ref r0), .val (.ref r1), .val (.ref r2), .val (.ref b33), .val (.int ((1 : Int32) &&& (1 : Int32))), .unset, .unset, .unset, .unset] [(.double t2), (.ref b33), (.int ((1 : Int32) &&& (1 : Int32)))]))
        refine Dn.of (fun tt_ zz_ => XS.aload X37.here hx rfl (hb hby at_124) rfl rfl zz_) ?_
        show Dn p e below s (own_Q n0) 24 256 (T37.setTop (mkF m 126 #[.val (.long i0), .second, .val (.int i1), .val (.int i2), .val (.int i3), .val (.int i4), .val (.int n), .val (.int d), .val (.int b), .val (.int y), .val (.ref r0), .val (.ref r1), .val (.ref r2), .val (.ref b33), .val (.int ((1 : Int32) &&& (1 : Int32))), .unset, .unset, .unset, .unset] [(.ref r2), (.double t2), (.ref b33), (.int ((1 : Int32) &&& (1 : Int32)))]))
        obtain ⟨v38, T38, L38, Q38, X38, st38⟩ := cVi X37 hx hZ (C := "com/example/wyrd/wyrd/service/Trajectory") (y := (⟨"com/example/wyrd/wyrd/service/Trajectory", "add", "(D[D)Z"⟩ : MethodName)) (z := (⟨"com/example/wyrd/wyrd/service/Trajectory", "add", "(D[D)Z"⟩ : MethodName)) hown (hw _ (List.mem_of_getElem? (i := 28) rfl)) (hw _ (List.mem_of_getElem? (i := 29) rfl)) (notFace_of_selects (args := #[]) (mvT hZ (hw _ (List.mem_of_getElem? (i := 31) rfl)))) (hw _ (List.mem_of_getElem? (i := 31) rfl)) (hw _ (List.mem_of_getElem? (i := 30) rfl)) (hw _ (List.mem_of_getElem? (i := 8) rfl)) (hw _ (List.mem_of_getElem? (i := 32) rfl)) (by decide) (a := b33) (argsL := [(.double t2), (.ref r2)]) (rest := [(.int ((1 : Int32) &&& (1 : Int32)))]) (rmA l Z a0 hw T37.heap n0 Za1 b33 vv r2 kv kr2 n (0 + (n + 1) + (n + 1)) t2 (own_row (own_g b 2)) (own_l2 n (own_g b 0) (own_g b 1) (.double t0) (.double t1)) Ea1 Fa1 Fb1 Fc1 Va1 V2 gb gv nbv nv2 hn (Or.inr (Or.inr rfl)) (own_put_len hn (Or.inr (Or.inl rfl)) _ _ _ (own_put_len hn (Or.inl rfl) _ _ _ rfl))) rfl Ea1 1 (by decide) (by decide) (by decide) (by decide) (g := (mkF m 126 #[.val (.long i0), .second, .val (.int i1), .val (.int i2), .val (.int i3), .val (.int i4), .val (.int n), .val (.int d), .val (.int b), .val (.int y), .val (.ref r0), .val (.ref r1), .val (.ref r2), .val (.ref b33), .val (.int ((1 : Int32) &&& (1 : Int32))), .unset, .unset, .unset, .unset] [(.ref r2), (.double t2), (.ref b33), (.int ((1 : Int32) &&& (1 : Int32)))])) rfl (by rw [hml]; rfl) (lenOf pd4 rfl) rfl (by show 2 * 0 + _ ≤ _; exact Nat.le_of_eq rfl) (hb hby at_126)
        obtain ⟨rfl, Ma2, Ka2, Fa2, Fb2, Fc2, Va2⟩ := Q38
        refine Dn.of st38 ?_
        show Dn p e below s (own_Q n0) 24 256 (T38.setTop (mkF m 129 #[.val (.long i0), .second, .val (.int i1), .val (.int i2), .val (.int i3), .val (.int i4), .val (.int n), .val (.int d), .val (.int b), .val (.int y), .val (.ref r0), .val (.ref r1), .val (.ref r2), .val (.ref b33), .val (.int ((1 : Int32) &&& (1 : Int32))), .unset, .unset, .unset, .unset] [(.int (1 : Int32)), (.int ((1 : Int32) &&& (1 : Int32)))]))
        have Za2 := Nat.le_trans Za1 Ka2.1
        have Ea2 := Ea1.keep Ka2
        have Na2 := Fr.app Na1 Ma2
        refine Dn.of (fun tt_ zz_ => XS.iand X38.here hx rfl (hb hby at_129) rfl zz_) ?_
        show Dn p e below s (own_Q n0) 24 256 (T38.setTop (mkF m 130 #[.val (.long i0), .second, .val (.int i1), .val (.int i2), .val (.int i3), .val (.int i4), .val (.int n), .val (.int d), .val (.int b), .val (.int y), .val (.ref r0), .val (.ref r1), .val (.ref r2), .val (.ref b33), .val (.int ((1 : Int32) &&& (1 : Int32))), .unset, .unset, .unset, .unset] [(.int (((1 : Int32) &&& (1 : Int32)) &&& (1 : Int32)))]))
        refine Dn.of (fun tt_ zz_ => XS.istore X38.here hx rfl (hb hby at_130) rfl (l' := #[.val (.long i0), .second, .val (.int i1), .val (.int i2), .val (.int i3), .val (.int i4), .val (.int n), .val (.int d), .val (.int b), .val (.int y), .val (.ref r0), .val (.ref r1), .val (.ref r2), .val (.ref b33), .val (.int (((1 : Int32) &&& (1 : Int32)) &&& (1 : Int32))), .unset, .unset, .unset, .unset]) rfl zz_) ?_
        show Dn p e below s (own_Q n0) 24 256 (T38.setTop (mkF m 132 #[.val (.long i0), .second, .val (.int i1), .val (.int i2), .val (.int i3), .val (.int i4), .val (.int n), .val (.int d), .val (.int b), .val (.int y), .val (.ref r0), .val (.ref r1), .val (.ref r2), .val (.ref b33), .val (.int (((1 : Int32) &&& (1 : Int32)) &&& (1 : Int32))), .unset, .unset, .unset, .unset] []))
        exact KE _ _ _ _ X38 (((1 : Int32) &&& (1 : Int32)) &&& (1 : Int32)) (own_l3 n (own_g b 0) (own_g b 1) (own_g b 2) (.double t0) (.double t1) (.double t2)) (by decide) (by decide) (by decide) Na2 Za2 Ea2 Fa2 Fb2 Va2 (fun r u hr hu => own_at3 b _ _ _ (own_En hn hu) (own_lt3 (own_c3 hc q2 ▸ hr)))
      · skip
        refine Dn.of (fun tt_ zz_ => XS.icmpYes X37.here hx rfl (pc0 := 110) (pc' := 132) rfl (hb hby at_110) rfl (flt q2).2.2.2 (by decide) (by decide) zz_) ?_
        show Dn p e below s (own_Q n0) 24 256 (T37.setTop (mkF m 132 #[.val (.long i0), .second, .val (.int i1), .val (.int i2), .val (.int i3), .val (.int i4), .val (.int n), .val (.int d), .val (.int b), .val (.int y), .val (.ref r0), .val (.ref r1), .val (.ref r2), .val (.ref b33), .val (.int ((1 : Int32) &&& (1 : Int32))), .unset, .unset, .unset, .unset] []))
        exact KE _ _ _ _ X37 ((1 : Int32) &&& (1 : Int32)) (own_l2 n (own_g b 0) (own_g b 1) (.double t0) (.double t1)) (by decide) (by decide) (by decide) Na1 Za1 Ea1 Fa1 Fb1 Va1 (fun r u hr hu => own_at2 b _ _ (own_En hn hu) (own_lt2 (own_c2 hc q1 q2 ▸ hr)))
    · skip
      refine Dn.of (fun tt_ zz_ => XS.icmpYes X36.here hx rfl (pc0 := 85) (pc' := 107) rfl (hb hby at_85) rfl (flt q1).2.2.2 (by decide) (by decide) zz_) ?_
      show Dn p e below s (own_Q n0) 24 256 (T36.setTop (mkF m 107 #[.val (.long i0), .second, .val (.int i1), .val (.int i2), .val (.int i3), .val (.int i4), .val (.int n), .val (.int d), .val (.int b), .val (.int y), .val (.ref r0), .val (.ref r1), .val (.ref r2), .val (.ref b33), .val (.int (1 : Int32)), .unset, .unset, .unset, .unset] []))
      refine Dn.of (fun tt_ zz_ => XS.iload X36.here hx rfl (hb hby at_107) rfl zz_) ?_
      show Dn p e below s (own_Q n0) 24 256 (T36.setTop (mkF m 109 #[.val (.long i0), .second, .val (.int i1), .val (.int i2), .val (.int i3), .val (.int i4), .val (.int n), .val (.int d), .val (.int b), .val (.int y), .val (.ref r0), .val (.ref r1), .val (.ref r2), .val (.ref b33), .val (.int (1 : Int32)), .unset, .unset, .unset, .unset] [(.int d)]))
      refine Dn.of (fun tt_ zz_ => XS.iconst X36.here hx rfl (hb hby at_109) zz_) ?_
      show Dn p e below s (own_Q n0) 24 256 (T36.setTop (mkF m 110 #[.val (.long i0), .second, .val (.int i1), .val (.int i2), .val (.int i3), .val (.int i4), .val (.int n), .val (.int d), .val (.int b), .val (.int y), .val (.ref r0), .val (.ref r1), .val (.ref r2), .val (.ref b33), .val (.int (1 : Int32)), .unset, .unset, .unset, .unset] [(.int (2 : Int32)), (.int d)]))
      refine Dn.of (fun tt_ zz_ => XS.icmpYes X36.here hx rfl (pc0 := 110) (pc' := 132) rfl (hb hby at_110) rfl (flt (by rw [own_c1 hc q1]; decide)).2.2.2 (by decide) (by decide) zz_) ?_
      show Dn p e below s (own_Q n0) 24 256 (T36.setTop (mkF m 132 #[.val (.long i0), .second, .val (.int i1), .val (.int i2), .val (.int i3), .val (.int i4), .val (.int n), .val (.int d), .val (.int b), .val (.int y), .val (.ref r0), .val (.ref r1), .val (.ref r2), .val (.ref b33), .val (.int (1 : Int32)), .unset, .unset, .unset, .unset] []))
      exact KE _ _ _ _ X36 (1 : Int32) (own_l1 n (own_g b 0) (.double t0)) rfl (by decide) (by decide) Na0 Za0 Ea0 Fa0 Fb0 Va0 (fun r u hr hu => by rw [own_c1 hc q1] at hr; cases own_lt1 hr; exact own_at1 b _ (own_En hn hu))
  refine Dn.of (fun tt_ zz_ => XS.iloadN X0.here hx rfl (hb hby at_0) rfl zz_) ?_
  show Dn p e below s (own_Q n0) 24 256 (s₁.setTop (mkF m 1 #[.val (.long i0), .second, .val (.int i1), .val (.int i2), .val (.int i3), .val (.int i4), .unset, .unset, .unset, .unset, .unset, .unset, .unset, .unset, .unset, .unset, .unset, .unset, .unset] [(.int i1)]))
  refine Dn.of (fun tt_ zz_ => XS.iconst X0.here hx rfl (hb hby at_1) zz_) ?_
  show Dn p e below s (own_Q n0) 24 256 (s₁.setTop (mkF m 2 #[.val (.long i0), .second, .val (.int i1), .val (.int i2), .val (.int i3), .val (.int i4), .unset, .unset, .unset, .unset, .unset, .unset, .unset, .unset, .unset, .unset, .unset, .unset, .unset] [(.int (3 : Int32)), (.int i1)]))
  refine Dn.of (fun tt_ zz_ => XS.iand X0.here hx rfl (hb hby at_2) rfl zz_) ?_
  show Dn p e below s (own_Q n0) 24 256 (s₁.setTop (mkF m 3 #[.val (.long i0), .second, .val (.int i1), .val (.int i2), .val (.int i3), .val (.int i4), .unset, .unset, .unset, .unset, .unset, .unset, .unset, .unset, .unset, .unset, .unset, .unset, .unset] [(.int (i1 &&& (3 : Int32)))]))
  refine Dn.of (fun tt_ zz_ => XS.iconst X0.here hx rfl (hb hby at_3) zz_) ?_
  show Dn p e below s (own_Q n0) 24 256 (s₁.setTop (mkF m 4 #[.val (.long i0), .second, .val (.int i1), .val (.int i2), .val (.int i3), .val (.int i4), .unset, .unset, .unset, .unset, .unset, .unset, .unset, .unset, .unset, .unset, .unset, .unset, .unset] [(.int (1 : Int32)), (.int (i1 &&& (3 : Int32)))]))
  refine Dn.of (fun tt_ zz_ => XS.iadd X0.here hx rfl (hb hby at_4) rfl zz_) ?_
  show Dn p e below s (own_Q n0) 24 256 (s₁.setTop (mkF m 5 #[.val (.long i0), .second, .val (.int i1), .val (.int i2), .val (.int i3), .val (.int i4), .unset, .unset, .unset, .unset, .unset, .unset, .unset, .unset, .unset, .unset, .unset, .unset, .unset] [(.int ((i1 &&& (3 : Int32)) + (1 : Int32)))]))
  refine Dn.of (fun tt_ zz_ => XS.istore X0.here hx rfl (hb hby at_5) rfl (l' := #[.val (.long i0), .second, .val (.int i1), .val (.int i2), .val (.int i3), .val (.int i4), .val (.int ((i1 &&& (3 : Int32)) + (1 : Int32))), .unset, .unset, .unset, .unset, .unset, .unset, .unset, .unset, .unset, .unset, .unset, .unset]) rfl zz_) ?_
  show Dn p e below s (own_Q n0) 24 256 (s₁.setTop (mkF m 7 #[.val (.long i0), .second, .val (.int i1), .val (.int i2), .val (.int i3), .val (.int i4), .val (.int ((i1 &&& (3 : Int32)) + (1 : Int32))), .unset, .unset, .unset, .unset, .unset, .unset, .unset, .unset, .unset, .unset, .unset, .unset] []))
  refine Dn.of (fun tt_ zz_ => XS.iloadN X0.here hx rfl (hb hby at_7) rfl zz_) ?_
  show Dn p e below s (own_Q n0) 24 256 (s₁.setTop (mkF m 8 #[.val (.long i0), .second, .val (.int i1), .val (.int i2), .val (.int i3), .val (.int i4), .val (.int ((i1 &&& (3 : Int32)) + (1 : Int32))), .unset, .unset, .unset, .unset, .unset, .unset, .unset, .unset, .unset, .unset, .unset, .unset] [(.int i1)]))
  refine Dn.of (fun tt_ zz_ => XS.iconst X0.here hx rfl (hb hby at_8) zz_) ?_
  show Dn p e below s (own_Q n0) 24 256 (s₁.setTop (mkF m 9 #[.val (.long i0), .second, .val (.int i1), .val (.int i2), .val (.int i3), .val (.int i4), .val (.int ((i1 &&& (3 : Int32)) + (1 : Int32))), .unset, .unset, .unset, .unset, .unset, .unset, .unset, .unset, .unset, .unset, .unset, .unset] [(.int (2 : Int32)), (.int i1)]))
  refine Dn.of (fun tt_ zz_ => XS.iushr X0.here hx rfl (hb hby at_9) rfl zz_) ?_
  show Dn p e below s (own_Q n0) 24 256 (s₁.setTop (mkF m 10 #[.val (.long i0), .second, .val (.int i1), .val (.int i2), .val (.int i3), .val (.int i4), .val (.int ((i1 &&& (3 : Int32)) + (1 : Int32))), .unset, .unset, .unset, .unset, .unset, .unset, .unset, .unset, .unset, .unset, .unset, .unset] [(.int ((i1.toUInt32 >>> ((2 : Int32) &&& 31).toUInt32).toInt32))]))
  refine Dn.of (fun tt_ zz_ => XS.iconst X0.here hx rfl (hb hby at_10) zz_) ?_
  show Dn p e below s (own_Q n0) 24 256 (s₁.setTop (mkF m 11 #[.val (.long i0), .second, .val (.int i1), .val (.int i2), .val (.int i3), .val (.int i4), .val (.int ((i1 &&& (3 : Int32)) + (1 : Int32))), .unset, .unset, .unset, .unset, .unset, .unset, .unset, .unset, .unset, .unset, .unset, .unset] [(.int (3 : Int32)), (.int ((i1.toUInt32 >>> ((2 : Int32) &&& 31).toUInt32).toInt32))]))
  refine Dn.of (fun tt_ zz_ => iremM X0 hx rfl (hb hby at_11) rfl (by decide) zz_) ?_
  show Dn p e below s (own_Q n0) 24 256 (s₁.setTop (mkF m 12 #[.val (.long i0), .second, .val (.int i1), .val (.int i2), .val (.int i3), .val (.int i4), .val (.int ((i1 &&& (3 : Int32)) + (1 : Int32))), .unset, .unset, .unset, .unset, .unset, .unset, .unset, .unset, .unset, .unset, .unset, .unset] [(.int (((i1.toUInt32 >>> ((2 : Int32) &&& 31).toUInt32).toInt32) % (3 : Int32)))]))
  refine Dn.of (fun tt_ zz_ => XS.iconst X0.here hx rfl (hb hby at_12) zz_) ?_
  show Dn p e below s (own_Q n0) 24 256 (s₁.setTop (mkF m 13 #[.val (.long i0), .second, .val (.int i1), .val (.int i2), .val (.int i3), .val (.int i4), .val (.int ((i1 &&& (3 : Int32)) + (1 : Int32))), .unset, .unset, .unset, .unset, .unset, .unset, .unset, .unset, .unset, .unset, .unset, .unset] [(.int (1 : Int32)), (.int (((i1.toUInt32 >>> ((2 : Int32) &&& 31).toUInt32).toInt32) % (3 : Int32)))]))
  refine Dn.of (fun tt_ zz_ => XS.iadd X0.here hx rfl (hb hby at_13) rfl zz_) ?_
  show Dn p e below s (own_Q n0) 24 256 (s₁.setTop (mkF m 14 #[.val (.long i0), .second, .val (.int i1), .val (.int i2), .val (.int i3), .val (.int i4), .val (.int ((i1 &&& (3 : Int32)) + (1 : Int32))), .unset, .unset, .unset, .unset, .unset, .unset, .unset, .unset, .unset, .unset, .unset, .unset] [(.int ((((i1.toUInt32 >>> ((2 : Int32) &&& 31).toUInt32).toInt32) % (3 : Int32)) + (1 : Int32)))]))
  refine Dn.of (fun tt_ zz_ => XS.istore X0.here hx rfl (hb hby at_14) rfl (l' := #[.val (.long i0), .second, .val (.int i1), .val (.int i2), .val (.int i3), .val (.int i4), .val (.int ((i1 &&& (3 : Int32)) + (1 : Int32))), .val (.int ((((i1.toUInt32 >>> ((2 : Int32) &&& 31).toUInt32).toInt32) % (3 : Int32)) + (1 : Int32))), .unset, .unset, .unset, .unset, .unset, .unset, .unset, .unset, .unset, .unset, .unset]) rfl zz_) ?_
  show Dn p e below s (own_Q n0) 24 256 (s₁.setTop (mkF m 16 #[.val (.long i0), .second, .val (.int i1), .val (.int i2), .val (.int i3), .val (.int i4), .val (.int ((i1 &&& (3 : Int32)) + (1 : Int32))), .val (.int ((((i1.toUInt32 >>> ((2 : Int32) &&& 31).toUInt32).toInt32) % (3 : Int32)) + (1 : Int32))), .unset, .unset, .unset, .unset, .unset, .unset, .unset, .unset, .unset, .unset, .unset] []))
  refine Dn.of (fun tt_ zz_ => XS.iload X0.here hx rfl (hb hby at_16) rfl zz_) ?_
  show Dn p e below s (own_Q n0) 24 256 (s₁.setTop (mkF m 18 #[.val (.long i0), .second, .val (.int i1), .val (.int i2), .val (.int i3), .val (.int i4), .val (.int ((i1 &&& (3 : Int32)) + (1 : Int32))), .val (.int ((((i1.toUInt32 >>> ((2 : Int32) &&& 31).toUInt32).toInt32) % (3 : Int32)) + (1 : Int32))), .unset, .unset, .unset, .unset, .unset, .unset, .unset, .unset, .unset, .unset, .unset] [(.int i3)]))
  refine Dn.of (fun tt_ zz_ => X0.ldcI hx hown (mvT hZ (hw _ (List.mem_of_getElem? (i := 0) rfl))) rfl (hb hby at_18) zz_) ?_
  show Dn p e below s (own_Q n0) 24 256 (s₁.setTop (mkF m 20 #[.val (.long i0), .second, .val (.int i1), .val (.int i2), .val (.int i3), .val (.int i4), .val (.int ((i1 &&& (3 : Int32)) + (1 : Int32))), .val (.int ((((i1.toUInt32 >>> ((2 : Int32) &&& 31).toUInt32).toInt32) % (3 : Int32)) + (1 : Int32))), .unset, .unset, .unset, .unset, .unset, .unset, .unset, .unset, .unset, .unset, .unset] [(.int (65535 : Int32)), (.int i3)]))
  refine Dn.of (fun tt_ zz_ => XS.iand X0.here hx rfl (hb hby at_20) rfl zz_) ?_
  show Dn p e below s (own_Q n0) 24 256 (s₁.setTop (mkF m 21 #[.val (.long i0), .second, .val (.int i1), .val (.int i2), .val (.int i3), .val (.int i4), .val (.int ((i1 &&& (3 : Int32)) + (1 : Int32))), .val (.int ((((i1.toUInt32 >>> ((2 : Int32) &&& 31).toUInt32).toInt32) % (3 : Int32)) + (1 : Int32))), .unset, .unset, .unset, .unset, .unset, .unset, .unset, .unset, .unset, .unset, .unset] [(.int (i3 &&& (65535 : Int32)))]))
  refine Dn.of (fun tt_ zz_ => XS.istore X0.here hx rfl (hb hby at_21) rfl (l' := #[.val (.long i0), .second, .val (.int i1), .val (.int i2), .val (.int i3), .val (.int i4), .val (.int ((i1 &&& (3 : Int32)) + (1 : Int32))), .val (.int ((((i1.toUInt32 >>> ((2 : Int32) &&& 31).toUInt32).toInt32) % (3 : Int32)) + (1 : Int32))), .val (.int (i3 &&& (65535 : Int32))), .unset, .unset, .unset, .unset, .unset, .unset, .unset, .unset, .unset, .unset]) rfl zz_) ?_
  show Dn p e below s (own_Q n0) 24 256 (s₁.setTop (mkF m 23 #[.val (.long i0), .second, .val (.int i1), .val (.int i2), .val (.int i3), .val (.int i4), .val (.int ((i1 &&& (3 : Int32)) + (1 : Int32))), .val (.int ((((i1.toUInt32 >>> ((2 : Int32) &&& 31).toUInt32).toInt32) % (3 : Int32)) + (1 : Int32))), .val (.int (i3 &&& (65535 : Int32))), .unset, .unset, .unset, .unset, .unset, .unset, .unset, .unset, .unset, .unset] []))
  refine Dn.of (fun tt_ zz_ => XS.iload X0.here hx rfl (hb hby at_23) rfl zz_) ?_
  show Dn p e below s (own_Q n0) 24 256 (s₁.setTop (mkF m 25 #[.val (.long i0), .second, .val (.int i1), .val (.int i2), .val (.int i3), .val (.int i4), .val (.int ((i1 &&& (3 : Int32)) + (1 : Int32))), .val (.int ((((i1.toUInt32 >>> ((2 : Int32) &&& 31).toUInt32).toInt32) % (3 : Int32)) + (1 : Int32))), .val (.int (i3 &&& (65535 : Int32))), .unset, .unset, .unset, .unset, .unset, .unset, .unset, .unset, .unset, .unset] [(.int i4)]))
  refine Dn.of (fun tt_ zz_ => X0.ldcI hx hown (mvT hZ (hw _ (List.mem_of_getElem? (i := 0) rfl))) rfl (hb hby at_25) zz_) ?_
  show Dn p e below s (own_Q n0) 24 256 (s₁.setTop (mkF m 27 #[.val (.long i0), .second, .val (.int i1), .val (.int i2), .val (.int i3), .val (.int i4), .val (.int ((i1 &&& (3 : Int32)) + (1 : Int32))), .val (.int ((((i1.toUInt32 >>> ((2 : Int32) &&& 31).toUInt32).toInt32) % (3 : Int32)) + (1 : Int32))), .val (.int (i3 &&& (65535 : Int32))), .unset, .unset, .unset, .unset, .unset, .unset, .unset, .unset, .unset, .unset] [(.int (65535 : Int32)), (.int i4)]))
  refine Dn.of (fun tt_ zz_ => XS.iand X0.here hx rfl (hb hby at_27) rfl zz_) ?_
  show Dn p e below s (own_Q n0) 24 256 (s₁.setTop (mkF m 28 #[.val (.long i0), .second, .val (.int i1), .val (.int i2), .val (.int i3), .val (.int i4), .val (.int ((i1 &&& (3 : Int32)) + (1 : Int32))), .val (.int ((((i1.toUInt32 >>> ((2 : Int32) &&& 31).toUInt32).toInt32) % (3 : Int32)) + (1 : Int32))), .val (.int (i3 &&& (65535 : Int32))), .unset, .unset, .unset, .unset, .unset, .unset, .unset, .unset, .unset, .unset] [(.int (i4 &&& (65535 : Int32)))]))
  refine Dn.of (fun tt_ zz_ => XS.istore X0.here hx rfl (hb hby at_28) rfl (l' := #[.val (.long i0), .second, .val (.int i1), .val (.int i2), .val (.int i3), .val (.int i4), .val (.int ((i1 &&& (3 : Int32)) + (1 : Int32))), .val (.int ((((i1.toUInt32 >>> ((2 : Int32) &&& 31).toUInt32).toInt32) % (3 : Int32)) + (1 : Int32))), .val (.int (i3 &&& (65535 : Int32))), .val (.int (i4 &&& (65535 : Int32))), .unset, .unset, .unset, .unset, .unset, .unset, .unset, .unset, .unset]) rfl zz_) ?_
  show Dn p e below s (own_Q n0) 24 256 (s₁.setTop (mkF m 30 #[.val (.long i0), .second, .val (.int i1), .val (.int i2), .val (.int i3), .val (.int i4), .val (.int ((i1 &&& (3 : Int32)) + (1 : Int32))), .val (.int ((((i1.toUInt32 >>> ((2 : Int32) &&& 31).toUInt32).toInt32) % (3 : Int32)) + (1 : Int32))), .val (.int (i3 &&& (65535 : Int32))), .val (.int (i4 &&& (65535 : Int32))), .unset, .unset, .unset, .unset, .unset, .unset, .unset, .unset, .unset] []))
  exact K30 _ _ _ _ (own_n i1) (own_c i1)
set_option maxRecDepth 65536 in
set_option maxHeartbeats 40000000 in
theorem comes_1 {Post : Tables → Env → Array Value → State → Outcome → State → Prop} (hpost : ∀ tb e args s v u, (limb_1_1.after args s (.returned v) u = true ∧ limb_1_2.after args s (.returned v) u = true ∧ True) → FrameEnd s (.returned v) u (Jvm.fieldLocs frame_1_writes args s ++ Jvm.arrayLocs frame_1_arrays args s ++ Jvm.staticLocs frame_1_statics s) 24 256 → Post tb e args s (.returned v) u) :
    ArmFor flags0 classFile x code maxLocals ret World_1 tables_1 room_1 Calls_1 rest_1 Pre_1 Post := by
  intro l hfl _ _ p e ha hc hk s m args below hf hA hF happ hP
  obtain ⟨hcalls, hrest, hpre⟩ := hP
  obtain ⟨-, -, -, hnamed, -, -, -, hat⟩ := (Spec.applies_iff hf).mp happ
  obtain ⟨hg, hn⟩ := and_e (Cond.before_iff.mp (show (Jvm.Cond.and given_1 narrow_1).before args s = true from hpre))
  obtain ⟨hcount, hr⟩ := and_e hg
  obtain ⟨w0, w1, w2, w3, w4, rfl⟩ : ∃ w0 w1 w2 w3 w4 : Value, args = #[w0, w1, w2, w3, w4] := by
    have hs : args.size = 5 := by simpa [Cond.value, given_1] using hcount
    obtain ⟨L⟩ := args
    match L, hs with
    | [w0, w1, w2, w3, w4], _ => exact ⟨w0, w1, w2, w3, w4, rfl⟩
  have hw := fun d (hd : d ∈ tables_1) => atoms_spec (ws := Jvm.Cond.code x code maxLocals ret :: tables_1) hat d (List.mem_cons_of_mem _ hd)
  have hfit : Fit s := fun {y c} hc i hi => by
    obtain ⟨ha, rfl⟩ := Array.getElem?_eq_some_iff.mp hc
    have q := List.all_eq_true.mp ((Array.all_eq_true_iff_forall_mem.mp hF) _ (Array.getElem_mem ha)) i (List.mem_range.mpr hi)
    simpa [Array.getElem?_eq_getElem hi] using q
  obtain ⟨ha0, hr⟩ := and_e hr
  obtain ⟨i0, ei0⟩ := isL_v ha0
  obtain rfl : w0 = (.long i0) := Option.some.inj ei0
  obtain ⟨ha1, hr⟩ := and_e hr
  obtain ⟨i1, ei1⟩ := is_v ha1
  obtain rfl : w1 = (.int i1) := Option.some.inj ei1
  obtain ⟨ha2, hr⟩ := and_e hr
  obtain ⟨i2, ei2⟩ := is_v ha2
  obtain rfl : w2 = (.int i2) := Option.some.inj ei2
  obtain ⟨ha3, hr⟩ := and_e hr
  obtain ⟨i3, ei3⟩ := is_v ha3
  obtain rfl : w3 = (.int i3) := Option.some.inj ei3
  have ha4 := hr
  obtain ⟨i4, ei4⟩ := is_v ha4
  obtain rfl : w4 = (.int i4) := Option.some.inj ei4
  obtain ⟨n, o, h1, h2, h3, _, L, rfl, ⟨rfl, N⟩, hq⟩ := rm0 l s _ hw tables_1 s.heap s.heap.size (Nat.le_refl _) i0 i1 i2 i3 i4 p e ha hc hk s m _ below hf ((Spec.applies_iff_loose hf).mp happ).1 ⟨rfl, State.Warmed39.refl s, rfl⟩ trivial
  refine ⟨n, _, h1, h2, h3, hpost _ _ _ _ _ _ ⟨Cond.after_iff.mpr rfl, Cond.after_iff.mpr (eq_i res_at (Term.int_eval (1)) rfl), trivial⟩ ⟨hq.1, hq.2.1, (hq.2.2.sift fun y hy => Or.inr (N y hy)).mono (by decide) (by decide)⟩⟩
theorem main_1_1 : Claimed_1_1 := comes_1 fun _ _ _ _ _ _ h hF => ⟨h.1, hF⟩
theorem main_1_2 : Claimed_1_2 := comes_1 fun _ _ _ _ _ _ h hF => ⟨h.2.1, hF⟩
end Jvm.Pilot.@@N@@
namespace Jvm.Pilot.@@N@@
open Jvm Jvm.ClassFile Sem Op Lib Jvm.Free Jvm.Stand Jvm.Pilot.@@N@@.Jvm.D
/-! MADE BY PROGRAM (witnessworld.py) out of the Statement's table words and the real class files: 13 classes; the members and pool entries that the words name. The judged class is class 1, her method 1. -/
namespace start1
open Jvm.ClassFile
def u (s : String) : CpInfo := .utf8 (stringToUtf16 s)
/-- a pool by its gaps: so many unusable entries, then the entry; so many at the end -/
def gap : Nat → List CpInfo → List CpInfo
  | 0, r => r
  | n + 1, r => .unusable :: gap n r
def poolList (es : List (Nat × CpInfo)) (last : Nat) : List CpInfo := es.foldr (fun e r => gap e.1 (e.2 :: r)) (gap last [])
def pool (es : List (Nat × CpInfo)) (last : Nat) : Array CpInfo := ⟨poolList es last⟩
def fileOf (pool : Array CpInfo) (this : Nat) (attrs : Array Attribute := #[]) (ms : Array MethodInfo := #[]) (fl : Nat := 33) (sup : Nat := 0) (ifs : Array Nat := #[]) (fds : Array FieldInfo := #[]) : ClassFile where
  minorVersion := 0
  majorVersion := 65
  constantPool := pool
  accessFlags := fl
  thisClass := this
  superClass := sup
  interfaces := ifs
  fields := fds
  methods := ms
  attributes := attrs
def plain (name : String) (sup : Option ClassId) : Class where
  name := name
  kind := .ordinary
  loader := none
  accessFlags := 33
  super := sup
  interfaces := #[]
  cf := none
  fields := #[]
  methods := #[]
  instanceTypes := #[]
  staticTypes := #[]
  resolved := #[]
  callSites := []
  init := .initialized
  statics := none
  mirror := none

def pool0 : Array CpInfo := pool [(5, u "<init>"), (0, u "()V"), (1, .class_ 10), (1, u "java/lang/Object")] 113

def k0c0 : Code := { maxStack := 0, maxLocals := 1, code := object_method_1_code, exceptionTable := #[], attributes := #[] }
def k0m0 : Method := { name := "<init>", desc := "()V", sig := { parameters := [], returnType := none }, accessFlags := 1, code := some k0c0 }
/-- java/lang/Object -/
def k0 : Class := { plain "java/lang/Object" none with
  accessFlags := 33
  interfaces := #[]
  cf := some (fileOf pool0 8 #[] #[{ accessFlags := 1, nameIndex := 5, descriptorIndex := 6, attributes := #[] }] 33 0 #[] #[])
  fields := #[]
  methods := #[k0m0]
  instanceTypes := #[]
  staticTypes := #[]
  resolved := Array.replicate 124 none
  statics := none }

def pool1 : Array CpInfo := pool [(2, .class_ 4), (1, u "java/lang/Object"), (0, u "<init>"), (0, u "()V"), (0, .integer 65535), (0, .methodref 9 10), (0, .class_ 11), (0, .nameAndType 12 13), (0, u "com/example/wyrd/wyrd/service/TrajectoryValuePinLaw"), (0, u "rec"), (0, u "(II)[D"), (0, .class_ 15), (0, u "com/example/wyrd/wyrd/service/Trajectory"), (0, .methodref 14 17), (0, .nameAndType 5 18), (0, u "(JI)V"), (0, .double 13830554455654793216), (1, .methodref 14 22), (0, .nameAndType 23 24), (0, u "add"), (0, u "(D[D)Z"), (0, .double 13835058055282163712), (1, .double 13837309855095848960), (1, .methodref 14 30), (0, .nameAndType 31 32), (0, u "value"), (0, u "(II)D"), (2, u "law"), (0, u "(JIIII)Z")] 5

def k1m0 : Method := { name := "<init>", desc := "()V", sig := { parameters := [], returnType := none }, accessFlags := 1, code := none }
def k1c1 : Code := { maxStack := 6, maxLocals := 19, code := code, exceptionTable := #[], attributes := #[] }
def k1m1 : Method := { name := "law", desc := "(JIIII)Z", sig := { parameters := [.long, .int, .int, .int, .int], returnType := some .boolean }, accessFlags := 9, code := some k1c1 }
def k1c2 : Code := { maxStack := 5, maxLocals := 3, code := method_3_code, exceptionTable := #[], attributes := #[] }
def k1m2 : Method := { name := "rec", desc := "(II)[D", sig := { parameters := [.int, .int], returnType := some (.array .double) }, accessFlags := 10, code := some k1c2 }
/-- com/example/wyrd/wyrd/service/TrajectoryValuePinLaw -/
def k1 : Class := { plain "com/example/wyrd/wyrd/service/TrajectoryValuePinLaw" (some 0) with
  accessFlags := 49
  interfaces := #[]
  cf := some (fileOf pool1 9 #[] #[{ accessFlags := 1, nameIndex := 5, descriptorIndex := 6, attributes := #[] }, { accessFlags := 9, nameIndex := 35, descriptorIndex := 36, attributes := #[] }, { accessFlags := 10, nameIndex := 12, descriptorIndex := 13, attributes := #[] }] 49 2 #[] #[])
  fields := #[]
  methods := #[k1m0, k1m1, k1m2]
  instanceTypes := #[]
  staticTypes := #[]
  resolved := Array.replicate 42 none
  statics := none }

def pool2 : Array CpInfo := pool [(1, .methodref 2 3), (0, .class_ 4), (0, .nameAndType 5 6), (0, u "java/lang/Object"), (0, u "<init>"), (0, u "()V"), (0, .fieldref 8 9), (0, .class_ 10), (0, .nameAndType 11 12), (0, u "com/example/wyrd/wyrd/service/Trajectory"), (0, u "run"), (0, u "J"), (0, .fieldref 8 14), (0, .nameAndType 15 16), (0, u "width"), (0, u "I"), (0, .long 16), (1, .long 16777216), (1, .methodref 22 23), (0, .class_ 24), (0, .nameAndType 25 26), (0, u "java/lang/Math"), (0, u "min"), (0, u "(JJ)J"), (0, .fieldref 8 28), (0, .nameAndType 29 30), (0, u "values"), (0, u "[D"), (0, .fieldref 8 32), (0, .nameAndType 33 16), (0, u "size"), (0, .integer 16777216), (0, .long 2), (7, .methodref 44 45), (0, .class_ 46), (0, .nameAndType 47 48), (0, u "java/lang/System"), (0, u "arraycopy"), (0, u "(Ljava/lang/Object;ILjava/lang/Object;II)V"), (0, u "MAX_VALUES"), (1, u "(JI)V"), (7, u "value"), (0, u "(II)D"), (0, u "add"), (0, u "(D[D)Z")] 3

def k2c0 : Code := { maxStack := 5, maxLocals := 4, code := prog_128_method_1_code, exceptionTable := #[], attributes := #[] }
def k2m0 : Method := { name := "<init>", desc := "(JI)V", sig := { parameters := [.long, .int], returnType := none }, accessFlags := 0, code := some k2c0 }
def k2c1 : Code := { maxStack := 3, maxLocals := 3, code := prog_128_method_6_code, exceptionTable := #[], attributes := #[] }
def k2m1 : Method := { name := "value", desc := "(II)D", sig := { parameters := [.int, .int], returnType := some .double }, accessFlags := 1, code := some k2c1 }
def k2c2 : Code := { maxStack := 6, maxLocals := 5, code := prog_128_method_7_code, exceptionTable := #[], attributes := #[] }
def k2m2 : Method := { name := "add", desc := "(D[D)Z", sig := { parameters := [.double, (.array .double)], returnType := some .boolean }, accessFlags := 0, code := some k2c2 }
/-- com/example/wyrd/wyrd/service/Trajectory -/
def k2 : Class := { plain "com/example/wyrd/wyrd/service/Trajectory" (some 0) with
  accessFlags := 49
  interfaces := #[]
  cf := some (fileOf pool2 8 #[] #[{ accessFlags := 0, nameIndex := 5, descriptorIndex := 51, attributes := #[] }, { accessFlags := 1, nameIndex := 59, descriptorIndex := 60, attributes := #[] }, { accessFlags := 0, nameIndex := 61, descriptorIndex := 62, attributes := #[] }] 49 2 #[] #[{ accessFlags := 24, nameIndex := 49, descriptorIndex := 16, attributes := #[] }, { accessFlags := 18, nameIndex := 11, descriptorIndex := 12, attributes := #[] }, { accessFlags := 18, nameIndex := 15, descriptorIndex := 16, attributes := #[] }, { accessFlags := 2, nameIndex := 29, descriptorIndex := 30, attributes := #[] }, { accessFlags := 2, nameIndex := 33, descriptorIndex := 16, attributes := #[] }])
  fields := #[{ name := "MAX_VALUES", type := .int, accessFlags := 24, slot := 0, constantValue := 0 }, { name := "run", type := .long, accessFlags := 18, slot := 0, constantValue := 0 }, { name := "width", type := .int, accessFlags := 18, slot := 1, constantValue := 0 }, { name := "values", type := (.array .double), accessFlags := 2, slot := 2, constantValue := 0 }, { name := "size", type := .int, accessFlags := 2, slot := 3, constantValue := 0 }]
  methods := #[k2m0, k2m1, k2m2]
  instanceTypes := #[.long, .int, (.array .double), .int]
  staticTypes := #[.int]
  resolved := Array.replicate 66 none
  statics := none }

def pool3 : Array CpInfo := pool [(1, .class_ 2), (0, u "java/lang/Math"), (1, .class_ 6), (1, u "java/lang/Object"), (0, u "<init>"), (0, u "()V"), (89, .class_ 100), (1, u "java/lang/Math$RandomNumberGeneratorHolder"), (20, u "(JJ)J"), (50, u "negativeZeroFloatBits"), (0, u "J"), (2, u "negativeZeroDoubleBits"), (24, u "min"), (43, u "$assertionsDisabled"), (0, u "Z"), (91, u "twoToTheDoubleScaleDown"), (0, u "D"), (4, u "twoToTheDoubleScaleUp"), (9, u "E"), (3, u "PI"), (2, u "TAU"), (2, u "DEGREES_TO_RADIANS"), (0, u "RADIANS_TO_DEGREES")] 94

def k3m0 : Method := { name := "<init>", desc := "()V", sig := { parameters := [], returnType := none }, accessFlags := 2, code := none }
def k3c1 : Code := { maxStack := 4, maxLocals := 4, code := jdk_29_method_70_code, exceptionTable := #[], attributes := #[] }
def k3m1 : Method := { name := "min", desc := "(JJ)J", sig := { parameters := [.long, .long], returnType := some .long }, accessFlags := 9, code := some k3c1 }
/-- java/lang/Math -/
def k3 : Class := { plain "java/lang/Math" (some 0) with
  accessFlags := 49
  interfaces := #[]
  cf := some (fileOf pool3 1 #[.nestMembers #[98]] #[{ accessFlags := 2, nameIndex := 7, descriptorIndex := 8, attributes := #[] }, { accessFlags := 9, nameIndex := 201, descriptorIndex := 121, attributes := #[] }] 49 4 #[] #[{ accessFlags := 25, nameIndex := 354, descriptorIndex := 339, attributes := #[] }, { accessFlags := 25, nameIndex := 358, descriptorIndex := 339, attributes := #[] }, { accessFlags := 25, nameIndex := 361, descriptorIndex := 339, attributes := #[] }, { accessFlags := 26, nameIndex := 364, descriptorIndex := 339, attributes := #[] }, { accessFlags := 26, nameIndex := 365, descriptorIndex := 339, attributes := #[] }, { accessFlags := 26, nameIndex := 172, descriptorIndex := 173, attributes := #[] }, { accessFlags := 26, nameIndex := 176, descriptorIndex := 173, attributes := #[] }, { accessFlags := 8, nameIndex := 344, descriptorIndex := 339, attributes := #[] }, { accessFlags := 8, nameIndex := 338, descriptorIndex := 339, attributes := #[] }, { accessFlags := 4120, nameIndex := 245, descriptorIndex := 246, attributes := #[] }])
  fields := #[{ name := "E", type := .double, accessFlags := 25, slot := 0, constantValue := 0 }, { name := "PI", type := .double, accessFlags := 25, slot := 1, constantValue := 0 }, { name := "TAU", type := .double, accessFlags := 25, slot := 2, constantValue := 0 }, { name := "DEGREES_TO_RADIANS", type := .double, accessFlags := 26, slot := 3, constantValue := 0 }, { name := "RADIANS_TO_DEGREES", type := .double, accessFlags := 26, slot := 4, constantValue := 0 }, { name := "negativeZeroFloatBits", type := .long, accessFlags := 26, slot := 5, constantValue := 0 }, { name := "negativeZeroDoubleBits", type := .long, accessFlags := 26, slot := 6, constantValue := 0 }, { name := "twoToTheDoubleScaleUp", type := .double, accessFlags := 8, slot := 7, constantValue := 0 }, { name := "twoToTheDoubleScaleDown", type := .double, accessFlags := 8, slot := 8, constantValue := 0 }, { name := "$assertionsDisabled", type := .boolean, accessFlags := 4120, slot := 9, constantValue := 0 }]
  methods := #[k3m0, k3m1]
  instanceTypes := #[]
  staticTypes := #[.double, .double, .double, .double, .double, .long, .long, .double, .double, .boolean]
  resolved := Array.replicate 460 none
  statics := none }

def pool4 : Array CpInfo := pool [(2, .class_ 4), (1, u "java/lang/Object"), (0, u "<init>"), (0, u "()V"), (1, .class_ 10), (1, u "java/lang/System"), (0, u "allowSecurityManager"), (0, u "I"), (16, u "cons"), (0, u "Ljava/io/Console;"), (77, .class_ 110), (1, u "java/lang/System$CallersHolder"), (43, u "initialErrStream"), (0, u "Ljava/io/PrintStream;"), (19, u "security"), (0, u "Ljava/lang/SecurityManager;"), (31, .class_ 209), (0, u "java/lang/System$1"), (7, u "props"), (0, u "Ljava/util/Properties;"), (2, u "lineSeparator"), (0, u "Ljava/lang/String;"), (96, .class_ 321), (1, u "java/lang/System$LoggerFinder"), (5, .class_ 328), (0, u "java/lang/System$Logger"), (67, u "err"), (2, u "out"), (91, u "notSupportedJnuEncoding"), (15, u "in"), (17, u "initialIn"), (0, u "Ljava/io/InputStream;"), (35, u "bootLayer"), (0, u "Ljava/lang/ModuleLayer;"), (99, .class_ 664), (0, u "java/lang/System$2"), (9, u "NEVER"), (2, u "MAYBE"), (49, u "arraycopy"), (0, u "(Ljava/lang/Object;ILjava/lang/Object;II)V"), (72, .class_ 802), (0, u "java/lang/System$Logger$Level")] 31

def k4m0 : Method := { name := "<init>", desc := "()V", sig := { parameters := [], returnType := none }, accessFlags := 2, code := none }
def k4m1 : Method := { name := "arraycopy", desc := "(Ljava/lang/Object;ILjava/lang/Object;II)V", sig := { parameters := [(.object "java/lang/Object"), .int, (.object "java/lang/Object"), .int, .int], returnType := none }, accessFlags := 265, code := none }
/-- java/lang/System -/
def k4 : Class := { plain "java/lang/System" (some 0) with
  accessFlags := 49
  interfaces := #[]
  cf := some (fileOf pool4 8 #[.nestMembers #[319, 327, 801, 108, 663, 208]] #[{ accessFlags := 2, nameIndex := 5, descriptorIndex := 6, attributes := #[] }, { accessFlags := 265, nameIndex := 727, descriptorIndex := 728, attributes := #[] }] 49 2 #[] #[{ accessFlags := 25, nameIndex := 507, descriptorIndex := 526, attributes := #[] }, { accessFlags := 25, nameIndex := 399, descriptorIndex := 155, attributes := #[] }, { accessFlags := 25, nameIndex := 396, descriptorIndex := 155, attributes := #[] }, { accessFlags := 10, nameIndex := 525, descriptorIndex := 526, attributes := #[] }, { accessFlags := 26, nameIndex := 674, descriptorIndex := 12, attributes := #[] }, { accessFlags := 26, nameIndex := 677, descriptorIndex := 12, attributes := #[] }, { accessFlags := 10, nameIndex := 11, descriptorIndex := 12, attributes := #[] }, { accessFlags := 74, nameIndex := 175, descriptorIndex := 176, attributes := #[] }, { accessFlags := 10, nameIndex := 491, descriptorIndex := 222, attributes := #[] }, { accessFlags := 74, nameIndex := 29, descriptorIndex := 30, attributes := #[] }, { accessFlags := 74, nameIndex := 154, descriptorIndex := 155, attributes := #[] }, { accessFlags := 10, nameIndex := 217, descriptorIndex := 218, attributes := #[] }, { accessFlags := 10, nameIndex := 221, descriptorIndex := 222, attributes := #[] }, { accessFlags := 8, nameIndex := 562, descriptorIndex := 563, attributes := #[] }])
  fields := #[{ name := "in", type := (.object "java/io/InputStream"), accessFlags := 25, slot := 0, constantValue := 0 }, { name := "out", type := (.object "java/io/PrintStream"), accessFlags := 25, slot := 1, constantValue := 0 }, { name := "err", type := (.object "java/io/PrintStream"), accessFlags := 25, slot := 2, constantValue := 0 }, { name := "initialIn", type := (.object "java/io/InputStream"), accessFlags := 10, slot := 3, constantValue := 0 }, { name := "NEVER", type := .int, accessFlags := 26, slot := 4, constantValue := 0 }, { name := "MAYBE", type := .int, accessFlags := 26, slot := 5, constantValue := 0 }, { name := "allowSecurityManager", type := .int, accessFlags := 10, slot := 6, constantValue := 0 }, { name := "security", type := (.object "java/lang/SecurityManager"), accessFlags := 74, slot := 7, constantValue := 0 }, { name := "notSupportedJnuEncoding", type := (.object "java/lang/String"), accessFlags := 10, slot := 8, constantValue := 0 }, { name := "cons", type := (.object "java/io/Console"), accessFlags := 74, slot := 9, constantValue := 0 }, { name := "initialErrStream", type := (.object "java/io/PrintStream"), accessFlags := 74, slot := 10, constantValue := 0 }, { name := "props", type := (.object "java/util/Properties"), accessFlags := 10, slot := 11, constantValue := 0 }, { name := "lineSeparator", type := (.object "java/lang/String"), accessFlags := 10, slot := 12, constantValue := 0 }, { name := "bootLayer", type := (.object "java/lang/ModuleLayer"), accessFlags := 8, slot := 13, constantValue := 0 }]
  methods := #[k4m0, k4m1]
  instanceTypes := #[]
  staticTypes := #[(.object "java/io/InputStream"), (.object "java/io/PrintStream"), (.object "java/io/PrintStream"), (.object "java/io/InputStream"), .int, .int, .int, (.object "java/lang/SecurityManager"), (.object "java/lang/String"), (.object "java/io/Console"), (.object "java/io/PrintStream"), (.object "java/util/Properties"), (.object "java/lang/String"), (.object "java/lang/ModuleLayer")]
  resolved := Array.replicate 834 none
  statics := none }

def pool5 : Array CpInfo := pool [(1, u "java/lang/Cloneable"), (0, .class_ 1), (0, u "java/lang/Object"), (0, .class_ 3)] 3

/-- java/lang/Cloneable -/
def k5 : Class := { plain "java/lang/Cloneable" (some 0) with
  accessFlags := 1537
  interfaces := #[]
  cf := some (fileOf pool5 2 #[] #[] 1537 4 #[] #[])
  fields := #[]
  methods := #[]
  instanceTypes := #[]
  staticTypes := #[]
  resolved := Array.replicate 8 none
  statics := none }

def pool6 : Array CpInfo := pool [(1, u "java/io/Serializable"), (0, .class_ 1), (0, u "java/lang/Object"), (0, .class_ 3)] 3

/-- java/io/Serializable -/
def k6 : Class := { plain "java/io/Serializable" (some 0) with
  accessFlags := 1537
  interfaces := #[]
  cf := some (fileOf pool6 2 #[] #[] 1537 4 #[] #[])
  fields := #[]
  methods := #[]
  instanceTypes := #[]
  staticTypes := #[]
  resolved := Array.replicate 8 none
  statics := none }

/-- the primitive byte -/
def k7 : Class := { plain "byte" none with kind := .primitive 'B', accessFlags := 0x411 }
/-- [B -/
def k8 : Class := { plain "[B" (some 0) with kind := .array 7 .byte, interfaces := #[5, 6], accessFlags := 1041 }

/-- the primitive double -/
def k9 : Class := { plain "double" none with kind := .primitive 'D', accessFlags := 0x411 }
/-- [D -/
def k10 : Class := { plain "[D" (some 0) with kind := .array 9 .double, interfaces := #[5, 6], accessFlags := 1041 }

/-- the primitive int -/
def k11 : Class := { plain "int" none with kind := .primitive 'I', accessFlags := 0x411 }
/-- [I -/
def k12 : Class := { plain "[I" (some 0) with kind := .array 11 .int, interfaces := #[5, 6], accessFlags := 1041 }

def heap : Heap := #[]
def classes : Array Class := #[k0, k1, k2, k3, k4, k5, k6, k7, k8, k9, k10, k11, k12]
def interned : List (Array UInt16 × Addr) := []
def slotsUsed : Nat := 0
def theMethod : MethodId := ⟨1, 1⟩
def args0 : Array Value := #[.long 5, .int 300, .int 7, .int 8, .int 9]
def aboutOver (below : List Frame) : State where
  vm := { classes := classes, interned := interned.toArray }
  heap := heap
  slotsUsed := slotsUsed
  threads := #[{ frames := .invoking theMethod args0 :: below }]
def below0 : List Frame := [.native { method := ⟨0, 0⟩, args := #[] }]
def about1 : State := aboutOver below0
def p0 : Program := .bare "" "" ""
def e0 : Env := launch0.env 0 0 0
theorem w_frames : about1.frames = Frame.invoking theMethod args0 :: below0 := rfl
set_option maxRecDepth 65536 in
theorem w_args : argsFit about1.vm theMethod args0 = true := by decide +kernel
set_option maxRecDepth 65536 in
theorem w_heap : heapFits about1 = true := by decide +kernel
set_option maxRecDepth 65536 in
theorem w_runnable : about1.curStatus? = some .runnable := by decide +kernel
set_option maxRecDepth 65536 in
theorem w_alone : about1.alone = true := by decide +kernel
set_option maxRecDepth 65536 in
theorem w_named : about1.methodNamed? x = some theMethod := by decide +kernel
set_option maxRecDepth 65536 in
theorem w_hears : about1.hears theMethod below0 = true := by decide +kernel
set_option maxRecDepth 65536 in
theorem w_ripe : about1.ripe theMethod args0 below0 = true := by decide +kernel
theorem w_running : about1.status = .running := rfl
set_option maxRecDepth 65536 in
theorem w_room : about1.hasRoom e0.platform room_1 = true :=
  launch0.hasRoom_least _ room_1 (by decide +kernel) (by decide +kernel) (by decide +kernel) (by decide +kernel) (by decide +kernel) (by decide +kernel)
theorem allAtoms_all (ts : List Jvm.Cond) (a : Array Jvm.Value) (st : Jvm.State) : (allAtoms ts).before a st = ts.all (fun c => c.before a st) := by
  induction ts with
  | nil => rfl
  | cons c t ih =>
    show (Jvm.Cond.and c (allAtoms t)).before a st = _
    rw [Jvm.Cond.before_and, ih, List.all_cons]
def words1 : List Jvm.Cond := Jvm.Cond.code x code maxLocals ret :: tables_1
/-- a 'code' word, met by the world's own term for the bytes: nothing is compared byte by byte -/
theorem code_word {y : MethodName} {bytes : ByteArray} {mx : Nat} {rt : Option FieldType} {a : Array Value} {s : State} {m : MethodId} {meth : Method} {c : Code} (h1 : s.methodNamed? y = some m) (h2 : s.vm.method? m = some meth) (h3 : meth.code = some c) (h4 : c.code = bytes)
    (h5 : (c.maxLocals == mx && c.exceptionTable.isEmpty && decide (c.maxStack ≤ mostOperands) && decide (meth.sig.returnType = rt) && !meth.locks && decide (parseMethodDescriptor y.desc = some meth.sig)) = true) : (Jvm.Cond.code y bytes mx rt).before a s = true := by
  simp only [Bool.and_eq_true, beq_iff_eq, Bool.not_eq_true', decide_eq_true_eq] at h5
  obtain ⟨⟨⟨⟨⟨g1, g2⟩, g3⟩, g4⟩, g5⟩, g6⟩ := h5
  simp [Cond.before, Cond.holds, Cond.value, h1, h2, h3, h4, g1, g2, g3, g4, g5, g6]
def isCode : Jvm.Cond → Bool
  | .code _ _ _ _ => true
  | _ => false
theorem all_split {L : List Jvm.Cond} {P : Jvm.Cond → Bool} (h1 : L.all (fun c => isCode c || P c) = true) (h2 : ∀ c ∈ L.filter isCode, P c = true) : L.all P = true := by
  refine List.all_eq_true.mpr fun c hc => ?_
  have h := List.all_eq_true.mp h1 c hc
  rcases Bool.eq_false_or_eq_true (isCode c) with hi | hi
  · exact h2 c (List.mem_filter.mpr ⟨hc, hi⟩)
  · simpa [hi] using h
set_option maxRecDepth 65536 in
theorem w_c0 : (Jvm.Cond.code x code maxLocals ret).before args0 about1 = true := code_word (m := ⟨1, 1⟩) (meth := k1m1) (c := k1c1) (by decide +kernel) rfl rfl rfl (by decide +kernel)
set_option maxRecDepth 65536 in
theorem w_c1 : (Jvm.Cond.code ({ cls := "com/example/wyrd/wyrd/service/TrajectoryValuePinLaw", name := "rec", desc := "(II)[D" } : Jvm.MethodName) method_3_code (3 : Nat) (Option.some (Jvm.ClassFile.FieldType.array Jvm.ClassFile.FieldType.double))).before args0 about1 = true := code_word (m := ⟨1, 2⟩) (meth := k1m2) (c := k1c2) (by decide +kernel) rfl rfl rfl (by decide +kernel)
set_option maxRecDepth 65536 in
theorem w_c2 : (Jvm.Cond.code ({ cls := "com/example/wyrd/wyrd/service/Trajectory", name := "<init>", desc := "(JI)V" } : Jvm.MethodName) prog_128_method_1_code (4 : Nat) (Option.none : Option Jvm.ClassFile.FieldType)).before args0 about1 = true := code_word (m := ⟨2, 0⟩) (meth := k2m0) (c := k2c0) (by decide +kernel) rfl rfl rfl (by decide +kernel)
set_option maxRecDepth 65536 in
theorem w_c3 : (Jvm.Cond.code ({ cls := "java/lang/Object", name := "<init>", desc := "()V" } : Jvm.MethodName) object_method_1_code (1 : Nat) (Option.none : Option Jvm.ClassFile.FieldType)).before args0 about1 = true := code_word (m := ⟨0, 0⟩) (meth := k0m0) (c := k0c0) (by decide +kernel) rfl rfl rfl (by decide +kernel)
set_option maxRecDepth 65536 in
theorem w_c4 : (Jvm.Cond.code ({ cls := "java/lang/Math", name := "min", desc := "(JJ)J" } : Jvm.MethodName) jdk_29_method_70_code (4 : Nat) (Option.some Jvm.ClassFile.FieldType.long)).before args0 about1 = true := code_word (m := ⟨3, 1⟩) (meth := k3m1) (c := k3c1) (by decide +kernel) rfl rfl rfl (by decide +kernel)
set_option maxRecDepth 65536 in
theorem w_c5 : (Jvm.Cond.code ({ cls := "com/example/wyrd/wyrd/service/Trajectory", name := "add", desc := "(D[D)Z" } : Jvm.MethodName) prog_128_method_7_code (5 : Nat) (Option.some Jvm.ClassFile.FieldType.boolean)).before args0 about1 = true := code_word (m := ⟨2, 2⟩) (meth := k2m2) (c := k2c2) (by decide +kernel) rfl rfl rfl (by decide +kernel)
set_option maxRecDepth 65536 in
theorem w_c6 : (Jvm.Cond.code ({ cls := "com/example/wyrd/wyrd/service/Trajectory", name := "value", desc := "(II)D" } : Jvm.MethodName) prog_128_method_6_code (3 : Nat) (Option.some Jvm.ClassFile.FieldType.double)).before args0 about1 = true := code_word (m := ⟨2, 1⟩) (meth := k2m1) (c := k2c1) (by decide +kernel) rfl rfl rfl (by decide +kernel)
def codes1 : List Jvm.Cond := [Jvm.Cond.code x code maxLocals ret, Jvm.Cond.code ({ cls := "com/example/wyrd/wyrd/service/TrajectoryValuePinLaw", name := "rec", desc := "(II)[D" } : Jvm.MethodName) method_3_code (3 : Nat) (Option.some (Jvm.ClassFile.FieldType.array Jvm.ClassFile.FieldType.double)), Jvm.Cond.code ({ cls := "com/example/wyrd/wyrd/service/Trajectory", name := "<init>", desc := "(JI)V" } : Jvm.MethodName) prog_128_method_1_code (4 : Nat) (Option.none : Option Jvm.ClassFile.FieldType), Jvm.Cond.code ({ cls := "java/lang/Object", name := "<init>", desc := "()V" } : Jvm.MethodName) object_method_1_code (1 : Nat) (Option.none : Option Jvm.ClassFile.FieldType), Jvm.Cond.code ({ cls := "java/lang/Math", name := "min", desc := "(JJ)J" } : Jvm.MethodName) jdk_29_method_70_code (4 : Nat) (Option.some Jvm.ClassFile.FieldType.long), Jvm.Cond.code ({ cls := "com/example/wyrd/wyrd/service/Trajectory", name := "add", desc := "(D[D)Z" } : Jvm.MethodName) prog_128_method_7_code (5 : Nat) (Option.some Jvm.ClassFile.FieldType.boolean), Jvm.Cond.code ({ cls := "com/example/wyrd/wyrd/service/Trajectory", name := "value", desc := "(II)D" } : Jvm.MethodName) prog_128_method_6_code (3 : Nat) (Option.some Jvm.ClassFile.FieldType.double)]
set_option maxRecDepth 65536 in
theorem codes_eq : words1.filter isCode = codes1 := rfl
theorem w_codes : ∀ c ∈ words1.filter isCode, c.before args0 about1 = true := by
  rw [codes_eq]
  intro c hc
  simp only [codes1, List.mem_cons, List.not_mem_nil, or_false] at hc
  rcases hc with rfl | rfl | rfl | rfl | rfl | rfl | rfl
  · exact w_c0
  · exact w_c1
  · exact w_c2
  · exact w_c3
  · exact w_c4
  · exact w_c5
  · exact w_c6
set_option maxRecDepth 65536 in
theorem w_t1 : (words1.take 24).all (fun c => isCode c || c.before args0 about1) = true := by decide +kernel
set_option maxRecDepth 65536 in
theorem w_t2 : ((words1.drop 24).take 24).all (fun c => isCode c || c.before args0 about1) = true := by decide +kernel
set_option maxRecDepth 65536 in
theorem w_t3 : ((words1.drop 24).drop 24).all (fun c => isCode c || c.before args0 about1) = true := by decide +kernel
theorem w_tables : (allAtoms (Jvm.Cond.code x code maxLocals ret :: tables_1)).before args0 about1 = true := by
  rw [allAtoms_all]
  show words1.all (fun c => c.before args0 about1) = true
  refine all_split ?_ w_codes
  rw [← List.take_append_drop 24 words1, List.all_append, w_t1, ← List.take_append_drop 24 (words1.drop 24), List.all_append, w_t2, w_t3]
  rfl
set_option maxRecDepth 65536 in
theorem w_case : (Jvm.Cond.and given_1 narrow_1).before args0 about1 = true := by decide +kernel
theorem w_applies : (headSpec (Jvm.Cond.code x code maxLocals ret :: tables_1) room_1).applies x e0.platform about1 = true :=
  (Spec.applies_iff w_frames).mpr ⟨w_running, w_runnable, w_alone, w_named, w_hears, w_ripe, w_room, w_tables⟩
theorem atStart : AtStart classFile x code maxLocals ret World_1 tables_1 room_1 Calls_1 rest_1 Pre_1 launch0 p0 e0 about1 theMethod args0 below0 :=
  ⟨lists_1, trivial, launch0.admits_env _ _ _, launch0.least_env, fairChoices_fair.cas, fairChoices_fair.clock, w_frames, w_args, w_heap, w_applies, trivial, trivial, w_case⟩
end start1
theorem witness_1 : WitnessClaimed_1 := ⟨start1.p0, start1.e0, start1.about1, start1.theMethod, start1.args0, start1.below0, start1.atStart⟩
end Jvm.Pilot.@@N@@
