import JvmDerived
import JvmDerived.Pilot.@@N@@Statement
import JvmDerived.Pilot.@@N@@Code
set_option linter.unusedVariables false
set_option linter.unusedSimpArgs false
namespace Jvm.RoadKit
open Sem ClassFile Op Lib Jvm.Stand Jvm.Free Jvm.LawKit
section Own
variable {p : Program} {l : Launch} {e : Env} {R : Room} {s : State} {m : MethodId} {args : Array Value} {below : List Frame} {meth : Method} {c : Code} {T : State} {locs : List Loc} {cells slots : Nat}
/-- from the state S the run comes to the end of this invocation, and Q says what it returned and left -/
def Dn (p : Program) (e : Env) (below : List Frame) (s : State) (Q : Option Value → Heap → List Loc → Prop) (k n : Nat) (S : State) : Prop :=
  ∃ U o, Steps p.tables e below S U ∧ U.status = .running ∧ Ended U below o ∧ ∃ v L, o = .returned v ∧ Q v U.heap L ∧ FrameEnd s o U L k n
variable {Q Q' : Option Value → Heap → List Loc → Prop} {k n : Nat} {S S' : State} {Z : State} {a0 : Array Value} {h : Heap}
theorem Dn.of (w : ∀ t, Steps p.tables e below S' t → Steps p.tables e below S t) (d : Dn p e below s Q k n S') : Dn p e below s Q k n S := by
  obtain ⟨U, o, st, r⟩ := d
  exact ⟨U, o, w U st, r⟩
theorem Dn.cast {g g' : JFrame} (q : g = g') (d : Dn p e below s Q k n (T.setTop g')) : Dn p e below s Q k n (T.setTop g) := q ▸ d
theorem Dn.ret (X : Stand p l e R s m args below meth c T locs cells slots) (hx : p.tables.exec = Jvm.exec) (hlk : meth.locks = false) {pc : Nat} {Ls : Array Slot} {w : Value} {t : FieldType} {i : Instr} {rest : List Value} (hret : meth.sig.returnType = some t) (hn : narrow t w = w)
    (hi : (i = .ireturn ∧ (t = .int ∨ t = .boolean ∨ t = .byte ∨ t = .char ∨ t = .short) ∧ ∃ z, w = .int z) ∨ (i = .lreturn ∧ t = .long ∧ ∃ z, w = .long z) ∨ (i = .dreturn ∧ t = .double ∧ ∃ z, w = .double z) ∨ (i = .freturn ∧ t = .float ∧ ∃ z, w = .float z) ∨ (i = .areturn ∧ t.isReference = true ∧ w.isRef = true))
    (hd : decode c.code pc = .ok (i, 1)) (hk : cells ≤ k) (hs : slots ≤ n) (hQ : Q (some w) T.heap locs) : Dn p e below s Q k n (T.setTop (mkF m pc Ls (w :: rest))) := by
  obtain ⟨fs, hr, hrun, hended, hW, hsame⟩ := X.leave (v := some w) (fun q => by rw [hret] at q; cases q) hlk
  exact ⟨_, _, retOut X hx hret hn hi hd hr, hrun, hended, _, _, rfl, hQ, ⟨_, rfl⟩, hW, hsame.mono hk hs⟩
theorem Dn.retI (X : Stand p l e R s m args below meth c T locs cells slots) (hx : p.tables.exec = Jvm.exec) (hlk : meth.locks = false) {pc : Nat} {Ls : Array Slot} {z : Int32} {rest : List Value} (hret : meth.sig.returnType = some .int)
    (hd : decode c.code pc = .ok (.ireturn, 1)) (hk : cells ≤ k) (hs : slots ≤ n) (hQ : Q (some (.int z)) T.heap locs) : Dn p e below s Q k n (T.setTop (mkF m pc Ls (.int z :: rest))) :=
  Dn.ret X hx hlk hret rfl (Or.inl ⟨rfl, Or.inl rfl, z, rfl⟩) hd hk hs hQ
theorem Dn.retA (X : Stand p l e R s m args below meth c T locs cells slots) (hx : p.tables.exec = Jvm.exec) (hlk : meth.locks = false) {pc : Nat} {Ls : Array Slot} {w : Value} {t : FieldType} {rest : List Value} (hret : meth.sig.returnType = some t) (ht : t.isReference = true) (hw : w.isRef = true)
    (hd : decode c.code pc = .ok (.areturn, 1)) (hk : cells ≤ k) (hs : slots ≤ n) (hQ : Q (some w) T.heap locs) : Dn p e below s Q k n (T.setTop (mkF m pc Ls (w :: rest))) :=
  Dn.ret X hx hlk hret (by cases t <;> simp [FieldType.isReference] at ht <;> rcases ref_cases hw with rfl | ⟨a, rfl⟩ <;> rfl) (Or.inr (Or.inr (Or.inr (Or.inr ⟨rfl, ht, hw⟩)))) hd hk hs hQ
theorem Dn.retN (X : Stand p l e R s m args below meth c T locs cells slots) (hx : p.tables.exec = Jvm.exec) (hlk : meth.locks = false) {pc : Nat} {Ls : Array Slot} {z : Int32} {t : FieldType} {rest : List Value} (hret : meth.sig.returnType = some t) (ht : t = .boolean ∨ t = .byte ∨ t = .char ∨ t = .short)
    (hd : decode c.code pc = .ok (.ireturn, 1)) (hk : cells ≤ k) (hs : slots ≤ n) (hQ : Q (some (.int (nar t z))) T.heap locs) : Dn p e below s Q k n (T.setTop (mkF m pc Ls (.int z :: rest))) := by
  obtain ⟨fs, hr, hrun, hended, hW, hsame⟩ := X.leave (v := some (.int (nar t z))) (fun q => by rw [hret] at q; cases q) hlk
  exact ⟨_, _, Jvm.RoadKit.retN X hx hret ht hd hr, hrun, hended, _, _, rfl, hQ, ⟨_, rfl⟩, hW, hsame.mono hk hs⟩
theorem Dn.retV (X : Stand p l e R s m args below meth c T locs cells slots) (hx : p.tables.exec = Jvm.exec) (hlk : meth.locks = false) {pc : Nat} {Ls : Array Slot} (hret : meth.sig.returnType = none)
    (hd : decode c.code pc = .ok (.return_, 1)) (hk : cells ≤ k) (hs : slots ≤ n) (hQ : Q none T.heap locs) : Dn p e below s Q k n (T.setTop (mkF m pc Ls [])) := by
  obtain ⟨fs, hr, hrun, hended, hW, hsame⟩ := X.leave (v := none) (fun _ => rfl) hlk
  exact ⟨_, _, X.returnOut hx hret hd hr, hrun, hended, _, _, rfl, hQ, ⟨_, rfl⟩, hW, hsame.mono hk hs⟩
/-- a body's contract: entered with the arguments as' at the heap h, it returns, and Q says what and what it left -/
abbrev ctr (l : Launch) (Z : State) (y : MethodName) (bytes : ByteArray) (maxL : Nat) (ret : Option FieldType) (ws : List Jvm.Cond) (rm : Room) (k n : Nat) (as' : Array Value) (h : Heap) (Q : Option Value → Heap → List Loc → Prop) : Prop :=
  MetFree l y (head1 (Jvm.Cond.code y bytes maxL ret :: ws) rm) (fun a U => a = as' ∧ Z.Warmed39 U.vm ∧ U.heap = h) (fun _ _ _ _ _ => True) (fun _ U o U' => ∃ v L, o = .returned v ∧ Q v U'.heap L ∧ FrameEnd U o U' L k n)
theorem ctr_of {y : MethodName} {bytes : ByteArray} {maxL : Nat} {ret : Option FieldType} {ws : List Jvm.Cond} {rm : Room} {as' : Array Value} (pn : plainFor y = true)
    (body : ∀ (p : Program) (e : Env) (s : State) (m : MethodId) (below : List Frame) (meth : Method) (c : Code) (s₁ : State), p.tables.exec = Jvm.exec → c.code = bytes → c.maxLocals = maxL → meth.sig.returnType = ret → meth.locks = false → meth.name = y.name → s.vm.findClass y.cls = some m.cls →
      Z.Warmed39 s.vm → s₁.heap = h → Stand p l e rm s m as' below meth c s₁ [] 0 0 → Dn p e below s Q k n (s₁.setTop (entryFrame m as' maxL))) : ctr l Z y bytes maxL ret ws rm k n as' h Q := by
  refine MetFree.of_bodySF pn hisR ?_
  intro p e s m args below meth c s₁ Bd hml0 hP hK
  obtain ⟨rfl, hZ, hh⟩ := hP
  exact body p e s m below meth c s₁ Bd.exec Bd.bytes hml0 Bd.returns Bd.notSynchronized (name_of_methodNamed Bd.named Bd.method).1 (findClass_of_methodNamed Bd.named) hZ (by rw [← hh, Bd.state]; rfl) (Stand.of_body Bd)
theorem cSt (X : Stand p l e R s m args below meth c T locs cells slots) (hx : p.tables.exec = Jvm.exec) (hZ : Z.Warmed39 s.vm) {own : String} {index : Nat} {y : MethodName} {bytes : ByteArray} {maxL : Nat} {ret : Option FieldType} (hown : s.vm.findClass own = some m.cls)
    (w1 : (Jvm.Cond.methodLink own index y).before a0 Z = true) (w2 : (Jvm.Cond.static y).before a0 Z = true) (w3 : (Jvm.Cond.initialized y.cls).before a0 Z = true) (w4 : (Jvm.Cond.code y bytes maxL ret).before a0 Z = true) (hy : y.cls ≠ "java/lang/invoke/MethodHandle" ∧ y.cls ≠ "java/lang/invoke/VarHandle")
    {rm : Room} {argsL rest : List Value} (hM : ctr l Z y bytes maxL ret [] rm rm.cells rm.slots argsL.toArray h Q) (eT : T.heap = h) (W : Nat) (hf : rm.frames + 1 ≤ R.frames) (hl : W + (maxL + 11) + rm.locals ≤ R.locals) (hc : cells + rm.cells ≤ R.cells) (hs : slots + rm.slots ≤ R.slots)
    {g : JFrame} (hg : g.method = m) (hsize : g.locals.size = c.maxLocals) (hlen : ∀ sig, parseMethodDescriptor y.desc = some sig → argsL.length = sig.parameters.length) (hstack : g.stack = argsL.reverse ++ rest) (hW : 2 * g.monitorRoom + (rest.map fun v => v.category).sum ≤ W) (hdg : decode c.code g.pc = .ok (.invokestatic index, 3)) :
    ∃ (v : Option Value) (T' : State) (L : List Loc), Q v T'.heap L ∧ Stand p l e R s m args below meth c T' (locs ++ L) (cells + rm.cells) (slots + rm.slots) ∧ ∀ target, Steps p.tables e below (T'.setTop { g with pc := g.pc + 3, stack := v.toList ++ rest }) target → Steps p.tables e below (T.setTop g) target := by
  obtain ⟨v, _, ⟨T', L', k', n'⟩, -, X', ⟨L, hQ, e1, e2, e3⟩, st⟩ := Jvm.LawKit.callS X hx (y := y) hown (mvT hZ w1) (mvT hZ w2) (mvT hZ w3) (mvT hZ w4) hy (backOf (W := W) hM hZ w4 w3 hf hl) hg hsize hlen hstack hW hdg (fun _ _ => ⟨rfl, eT, hc, hs⟩)
  dsimp only [Pt.U, Pt.locs, Pt.cells, Pt.slots] at X' e1 e2 e3 st hQ
  subst e1 e2 e3
  exact ⟨v, T', L, hQ, X', st⟩
theorem cIn (X : Stand p l e R s m args below meth c T locs cells slots) (hx : p.tables.exec = Jvm.exec) (hZ : Z.Warmed39 s.vm) {own : String} {index : Nat} {y : MethodName} {bytes : ByteArray} {maxL : Nat} (hy1 : y.name = "<init>") (hown : s.vm.findClass own = some m.cls)
    (w1 : (Jvm.Cond.methodLink own index y).before a0 Z = true) (w2 : (Jvm.Cond.instanceMethod y).before a0 Z = true) (w3 : (Jvm.Cond.initialized y.cls).before a0 Z = true) (w4 : (Jvm.Cond.code y bytes maxL none).before a0 Z = true) (hy : y.cls ≠ "java/lang/invoke/MethodHandle" ∧ y.cls ≠ "java/lang/invoke/VarHandle")
    {rm : Room} {a : Addr} {argsL rest : List Value} (hM : ctr l Z y bytes maxL none [] rm rm.cells rm.slots (.ref a :: argsL).toArray h Q) (eT : T.heap = h) (W : Nat) (hf : rm.frames + 1 ≤ R.frames) (hl : W + (maxL + 11) + rm.locals ≤ R.locals) (hc : cells + rm.cells ≤ R.cells) (hs : slots + rm.slots ≤ R.slots)
    {g : JFrame} (hg : g.method = m) (hsize : g.locals.size = c.maxLocals) (hlen : ∀ sig, parseMethodDescriptor y.desc = some sig → argsL.length = sig.parameters.length) (hstack : g.stack = argsL.reverse ++ .ref a :: rest) (hW : 2 * g.monitorRoom + (rest.map fun v => v.category).sum ≤ W) (hdg : decode c.code g.pc = .ok (.invokespecial index, 3)) :
    ∃ (v : Option Value) (T' : State) (L : List Loc), Q v T'.heap L ∧ Stand p l e R s m args below meth c T' (locs ++ L) (cells + rm.cells) (slots + rm.slots) ∧ ∀ target, Steps p.tables e below (T'.setTop { g with pc := g.pc + 3, stack := v.toList ++ rest }) target → Steps p.tables e below (T.setTop g) target := by
  obtain ⟨v, _, ⟨T', L', k', n'⟩, -, X', ⟨L, hQ, e1, e2, e3⟩, st⟩ := X.specialBack hx (y := y) hy1 hown (mvT hZ w1) (mvT hZ w2) (mvT hZ w4) hy (backOf (W := W) hM hZ w4 w3 hf hl) hg hsize (Steps.refl _) hlen hstack hW hdg (fun _ _ => ⟨rfl, eT, hc, hs⟩)
  dsimp only [Pt.U, Pt.locs, Pt.cells, Pt.slots] at X' e1 e2 e3 st hQ
  subst e1 e2 e3
  exact ⟨v, T', L, hQ, X', fun _ z => st.trans z⟩
theorem cVi (X : Stand p l e R s m args below meth c T locs cells slots) (hx : p.tables.exec = Jvm.exec) (hZ : Z.Warmed39 s.vm) {own C : String} {index : Nat} {y z : MethodName} {bytes : ByteArray} {maxL : Nat} {ret : Option FieldType} (hown : s.vm.findClass own = some m.cls)
    (w1 : (Jvm.Cond.methodLink own index y).before a0 Z = true) (w2 : (Jvm.Cond.declares y).before a0 Z = true) (nf : NotFace s y) (ws : (Jvm.Cond.selects C y z).before a0 Z = true) (wi : (Jvm.Cond.instanceMethod z).before a0 Z = true) (w3 : (Jvm.Cond.initialized z.cls).before a0 Z = true) (w4 : (Jvm.Cond.code z bytes maxL ret).before a0 Z = true)
    (hy : y.cls ≠ "java/lang/invoke/MethodHandle" ∧ y.cls ≠ "java/lang/invoke/VarHandle")
    {rm : Room} {a : Addr} {argsL rest : List Value} (hM : ctr l Z z bytes maxL ret [] rm rm.cells rm.slots (.ref a :: argsL).toArray h Q) (eT : T.heap = h) (E : Exa Z h a C) (W : Nat) (hf : rm.frames + 1 ≤ R.frames) (hl : W + (maxL + 11) + rm.locals ≤ R.locals) (hc : cells + rm.cells ≤ R.cells) (hs : slots + rm.slots ≤ R.slots)
    {g : JFrame} (hg : g.method = m) (hsize : g.locals.size = c.maxLocals) (hlen : ∀ sig, parseMethodDescriptor y.desc = some sig → argsL.length = sig.parameters.length) (hstack : g.stack = argsL.reverse ++ .ref a :: rest) (hW : 2 * g.monitorRoom + (rest.map fun v => v.category).sum ≤ W) (hdg : decode c.code g.pc = .ok (.invokevirtual index, 3)) :
    ∃ (v : Option Value) (T' : State) (L : List Loc), Q v T'.heap L ∧ Stand p l e R s m args below meth c T' (locs ++ L) (cells + rm.cells) (slots + rm.slots) ∧ ∀ target, Steps p.tables e below (T'.setTop { g with pc := g.pc + 3, stack := v.toList ++ rest }) target → Steps p.tables e below (T.setTop g) target := by
  obtain ⟨cq, kq, qa, qb, qc⟩ := isOf hZ eT E
  obtain ⟨v, _, ⟨T', L', k', n'⟩, -, X', ⟨L, hQ, e1, e2, e3⟩, st⟩ := X.virtualBack hx (y := y) (z := z) hown (mvT hZ w1) (mvT hZ w2) nf (mvT hZ ws) (mvT hZ wi) hy (backOf (W := W) hM hZ w4 w3 hf hl) qa qc hg hsize (Steps.refl _) hlen hstack hW hdg (fun _ _ => ⟨rfl, eT, hc, hs⟩)
  dsimp only [Pt.U, Pt.locs, Pt.cells, Pt.slots] at X' e1 e2 e3 st hQ
  subst e1 e2 e3
  exact ⟨v, T', L, hQ, X', fun _ z => st.trans z⟩
theorem cUp (X : Stand p l e R s m args below meth c T locs cells slots) (hx : p.tables.exec = Jvm.exec) (hZ : Z.Warmed39 s.vm) {own C owner : String} {index : Nat} {y z : MethodName} {bytes : ByteArray} {maxL : Nat} {ret : Option FieldType} (hown : s.vm.findClass own = some m.cls)
    (w1 : (Jvm.Cond.methodLink own index y).before a0 Z = true) (wm : (Jvm.Cond.sameMethod y.cls owner y.name y.desc).before a0 Z = true) (w2 : (Jvm.Cond.declares ⟨owner, y.name, y.desc⟩).before a0 Z = true) (ws : (Jvm.Cond.selects C y z).before a0 Z = true) (wi : (Jvm.Cond.instanceMethod z).before a0 Z = true) (w3 : (Jvm.Cond.initialized z.cls).before a0 Z = true) (w4 : (Jvm.Cond.code z bytes maxL ret).before a0 Z = true)
    (hy : owner ≠ "java/lang/invoke/MethodHandle" ∧ owner ≠ "java/lang/invoke/VarHandle")
    {rm : Room} {a : Addr} {argsL rest : List Value} (hM : ctr l Z z bytes maxL ret [] rm rm.cells rm.slots (.ref a :: argsL).toArray h Q) (eT : T.heap = h) (E : Exa Z h a C) (W : Nat) (hf : rm.frames + 1 ≤ R.frames) (hl : W + (maxL + 11) + rm.locals ≤ R.locals) (hc : cells + rm.cells ≤ R.cells) (hs : slots + rm.slots ≤ R.slots)
    {g : JFrame} (hg : g.method = m) (hsize : g.locals.size = c.maxLocals) (hlen : ∀ sig, parseMethodDescriptor y.desc = some sig → argsL.length = sig.parameters.length) (hstack : g.stack = argsL.reverse ++ .ref a :: rest) (hW : 2 * g.monitorRoom + (rest.map fun v => v.category).sum ≤ W) (hdg : decode c.code g.pc = .ok (.invokevirtual index, 3)) :
    ∃ (v : Option Value) (T' : State) (L : List Loc), Q v T'.heap L ∧ Stand p l e R s m args below meth c T' (locs ++ L) (cells + rm.cells) (slots + rm.slots) ∧ ∀ target, Steps p.tables e below (T'.setTop { g with pc := g.pc + 3, stack := v.toList ++ rest }) target → Steps p.tables e below (T.setTop g) target := by
  obtain ⟨cq, kq, qa, qb, qc⟩ := isOf hZ eT E
  obtain ⟨v, _, ⟨T', L', k', n'⟩, -, X', ⟨L, hQ, e1, e2, e3⟩, st⟩ := X.virtualBackUp hx (x := y) (y := z) (owner := owner) hown (mvT hZ w1) (mvT hZ wm) (mvT hZ w2) hy (mvT hZ ws) (mvT hZ wi) (backOf (W := W) hM hZ w4 w3 hf hl) qa qc hg hsize (Steps.refl _) hlen hstack hW hdg (fun _ _ => ⟨rfl, eT, hc, hs⟩)
  dsimp only [Pt.U, Pt.locs, Pt.cells, Pt.slots] at X' e1 e2 e3 st hQ
  subst e1 e2 e3
  exact ⟨v, T', L, hQ, X', fun _ z => st.trans z⟩
theorem cFa (X : Stand p l e R s m args below meth c T locs cells slots) (hx : p.tables.exec = Jvm.exec) (hZ : Z.Warmed39 s.vm) {own C : String} {index count : Nat} {y z : MethodName} {bytes : ByteArray} {maxL : Nat} {ret : Option FieldType} (hown : s.vm.findClass own = some m.cls)
    (w1 : (Jvm.Cond.methodLink own index y).before a0 Z = true) (w2 : (Jvm.Cond.declares y).before a0 Z = true) (wf : (Jvm.Cond.interfaceMethod y.cls y.cls y.name y.desc).before args s = true) (ws : (Jvm.Cond.selects C y z).before a0 Z = true) (wi : (Jvm.Cond.instanceMethod z).before a0 Z = true) (wp : (Jvm.Cond.publicMethod z).before a0 Z = true) (wu : (Jvm.Cond.unhidden C y.name y.desc).before a0 Z = true) (wk : (Jvm.Cond.castable C y.cls).before a0 Z = true) (w3 : (Jvm.Cond.initialized z.cls).before a0 Z = true) (w4 : (Jvm.Cond.code z bytes maxL ret).before a0 Z = true)
    (hy : y.cls ≠ "java/lang/invoke/MethodHandle" ∧ y.cls ≠ "java/lang/invoke/VarHandle")
    {rm : Room} {a : Addr} {argsL rest : List Value} (hM : ctr l Z z bytes maxL ret [] rm rm.cells rm.slots (.ref a :: argsL).toArray h Q) (eT : T.heap = h) (E : Exa Z h a C) (W : Nat) (hf : rm.frames + 1 ≤ R.frames) (hl : W + (maxL + 11) + rm.locals ≤ R.locals) (hc : cells + rm.cells ≤ R.cells) (hs : slots + rm.slots ≤ R.slots)
    {g : JFrame} (hg : g.method = m) (hsize : g.locals.size = c.maxLocals) (hlen : ∀ sig, parseMethodDescriptor y.desc = some sig → argsL.length = sig.parameters.length) (hstack : g.stack = argsL.reverse ++ .ref a :: rest) (hW : 2 * g.monitorRoom + (rest.map fun v => v.category).sum ≤ W) (hdg : decode c.code g.pc = .ok (.invokeinterface index count, 5)) :
    ∃ (v : Option Value) (T' : State) (L : List Loc), Q v T'.heap L ∧ Stand p l e R s m args below meth c T' (locs ++ L) (cells + rm.cells) (slots + rm.slots) ∧ ∀ target, Steps p.tables e below (T'.setTop { g with pc := g.pc + 5, stack := v.toList ++ rest }) target → Steps p.tables e below (T.setTop g) target := by
  obtain ⟨cq, kq, qa, qb, qc⟩ := isOf hZ eT E
  obtain ⟨v, _, ⟨T', L', k', n'⟩, -, X', ⟨L, hQ, e1, e2, e3⟩, st⟩ := X.interfaceBack hx (xi := y) (y := z) hown (mvT hZ w1) (mvT hZ w2) wf (mvT hZ ws) (mvT hZ wi) (mvT hZ wp) (mvT hZ wu) (mvT hZ wk) hy (backOf (W := W) hM hZ w4 w3 hf hl) qa qb qc hg hsize (Steps.refl _) hlen hstack hW hdg (fun _ _ => ⟨rfl, eT, hc, hs⟩)
  dsimp only [Pt.U, Pt.locs, Pt.cells, Pt.slots] at X' e1 e2 e3 st hQ
  subst e1 e2 e3
  exact ⟨v, T', L, hQ, X', fun _ z => st.trans z⟩
/-- a static's fact over a Keep: its holder's cell is none of the written -/
theorem Sta.keep {h' : Heap} {C n d : String} {v : Value} {ws : List Addr} (F : Sta Z h C n d v) (K : Keep h h' ws) (q : ∀ (x : Addr) (c : Cell), x ∈ ws → h[x]? = some c → c.vm.isStatics = false) : Sta Z h' C n d v := by
  obtain ⟨cf, i, k, f, st, cell, h1, h2, h3, h4, h5, h6, h7⟩ := F
  refine ⟨cf, i, k, f, st, cell, h1, h2, h3, h4, K.2.1 _ _ h5 (fun y => ?_), h6, h7⟩
  rw [q st cell y h5] at h6; cases h6
theorem own_ns {a : Addr} {C : String} (E : Exa Z h a C) : ∀ (x : Addr) (c : Cell), x ∈ [a] → h[x]? = some c → c.vm.isStatics = false := by
  intro x c hx hc
  cases List.mem_singleton.mp hx
  obtain ⟨cell, k, h1, -, -, h4, -⟩ := E
  rw [h1] at hc; cases hc; exact h4
/-- an int field of what a term names, out of an 'eq' of the case -/
theorem own_fld {args : Array Value} {a : Addr} {C n d : String} {t : Term} {x : Int32} (ev : t.eval args Z none [] Z = some (.ref a)) (hq : (Jvm.Cond.eq (.field t C n d) (.int x)).value args Z none Z [] = some true) : Fld Z Z.heap a C n d (.int x) := by
  obtain ⟨u, w, h1, h2, k1, k2⟩ := cmp_v (Or.inl hq)
  have h2' : w = .int x := by rw [Term.int_eval] at h2; exact (Option.some.inj h2).symm
  subst h2'
  obtain ⟨z, rfl⟩ : ∃ z, u = .int z := k2
  have : z = x := gotT (Cond.eq_ints h1 (Term.int_eval x)) hq
  subst this
  exact Fld.start (by rw [← fld_at ev]; exact h1)
theorem own_cat {v : Value} (r : v.isRef = true) : v.category = 1 := by rcases ref_cases r with rfl | ⟨a, rfl⟩ <;> rfl
theorem own_narO {C : String} {v : Value} (r : v.isRef = true) : narrow (.object C) v = v := by rcases ref_cases r with rfl | ⟨a, rfl⟩ <;> rfl
theorem own_fitO {C : String} {v : Value} (r : v.isRef = true) : fits (.object C) v = true := by rcases ref_cases r with rfl | ⟨a, rfl⟩ <;> rfl
theorem own_len {args : Array Value} {a : Addr} {cl : Cell} {ty : FieldType} {t : Term} {x : Int32} (ev : t.eval args Z none [] Z = some (.ref a)) (A : Arr Z Z.heap a cl ty) (hq : (Jvm.Cond.eq (.length t) (.int x)).value args Z none Z [] = some true) : cl.slots.size = x.toNatClampNeg ∧ cl.slots.size < 2 ^ 31 := by
  have ha : Z.arrayAt? a = some cl := IntBox.arrayAt_of A.1 A.2.1 A.2.2
  by_cases p : cl.slots.size < 2 ^ 31
  · have q := gotT (Cond.eq_ints (len_f ev ha p) (Term.int_eval x)) hq
    refine ⟨?_, p⟩
    rw [← q, Int32.toNatClampNeg, len_toInt p]; rfl
  · obtain ⟨u, w, h1, h2, -, -⟩ := cmp_v (Or.inl hq)
    exact absurd h1 (by simp [Term.eval, ev, ha, p])
theorem own_elem {args : Array Value} {a b : Addr} {cl : Cell} {ty : FieldType} {t u : Term} {j : Int32} (ev : t.eval args Z none [] Z = some (.ref a)) (A : Arr Z Z.heap a cl ty) (eu : u.eval args Z none [] Z = some (.ref b)) (hq : (Jvm.Cond.eq (.elem t (.int j)) u).value args Z none Z [] = some true) : cl.slots[j.toNatClampNeg]? = some (.ref b) := by
  obtain ⟨x, y, h1, h2, k1, k2⟩ := cmp_v (Or.inl hq)
  rw [eu] at h2; cases h2
  have e := gotT (eq_R h1 eu k2.2 rfl) hq
  rw [← e]; exact (elem_in h1 ev (Term.int_eval j) A.1).2
end Own
end Jvm.RoadKit
namespace Jvm.Pilot.@@N@@
open Jvm Jvm.ClassFile Sem Op Lib Jvm.Free Jvm.Stand Jvm.LawKit Jvm.RoadKit Bundle Jvm.Pilot.@@N@@.Jvm.D
theorem d1_0 : decode prog_44_method_1_code 0 = .ok (.aload_n 0, 1) := by decide +kernel
theorem d1_1 : decode prog_44_method_1_code 1 = .ok (.invokespecial 1, 3) := by decide +kernel
theorem d1_4 : decode prog_44_method_1_code 4 = .ok (.aload_n 0, 1) := by decide +kernel
theorem d1_5 : decode prog_44_method_1_code 5 = .ok (.iload_n 1, 1) := by decide +kernel
theorem d1_6 : decode prog_44_method_1_code 6 = .ok (.newarray .double, 2) := by decide +kernel
theorem d1_8 : decode prog_44_method_1_code 8 = .ok (.putfield 7, 3) := by decide +kernel
theorem d1_11 : decode prog_44_method_1_code 11 = .ok (.aload_n 0, 1) := by decide +kernel
theorem d1_12 : decode prog_44_method_1_code 12 = .ok (.iload_n 2, 1) := by decide +kernel
theorem d1_13 : decode prog_44_method_1_code 13 = .ok (.anewarray 13, 3) := by decide +kernel
theorem d1_16 : decode prog_44_method_1_code 16 = .ok (.putfield 14, 3) := by decide +kernel
theorem d1_19 : decode prog_44_method_1_code 19 = .ok (.aload_n 0, 1) := by decide +kernel
theorem d1_20 : decode prog_44_method_1_code 20 = .ok (.iload_n 2, 1) := by decide +kernel
theorem d1_21 : decode prog_44_method_1_code 21 = .ok (.newarray .int, 2) := by decide +kernel
theorem d1_23 : decode prog_44_method_1_code 23 = .ok (.putfield 18, 3) := by decide +kernel
theorem d1_26 : decode prog_44_method_1_code 26 = .ok (.return_, 1) := by decide +kernel
theorem d3_0 : decode prog_44_method_3_code 0 = .ok (.aload_n 0, 1) := by decide +kernel
theorem d3_1 : decode prog_44_method_3_code 1 = .ok (.getfield 14, 3) := by decide +kernel
theorem d3_4 : decode prog_44_method_3_code 4 = .ok (.iload_n 1, 1) := by decide +kernel
theorem d3_5 : decode prog_44_method_3_code 5 = .ok (.aload_n 2, 1) := by decide +kernel
theorem d3_6 : decode prog_44_method_3_code 6 = .ok (.aastore, 1) := by decide +kernel
theorem d3_7 : decode prog_44_method_3_code 7 = .ok (.aload_n 0, 1) := by decide +kernel
theorem d3_8 : decode prog_44_method_3_code 8 = .ok (.getfield 18, 3) := by decide +kernel
theorem d3_11 : decode prog_44_method_3_code 11 = .ok (.iload_n 1, 1) := by decide +kernel
theorem d3_12 : decode prog_44_method_3_code 12 = .ok (.iload_n 3, 1) := by decide +kernel
theorem d3_13 : decode prog_44_method_3_code 13 = .ok (.iastore, 1) := by decide +kernel
theorem d3_14 : decode prog_44_method_3_code 14 = .ok (.return_, 1) := by decide +kernel
theorem d4_0 : decode prog_44_method_4_code 0 = .ok (.aload_n 0, 1) := by decide +kernel
theorem d4_1 : decode prog_44_method_4_code 1 = .ok (.getfield 14, 3) := by decide +kernel
theorem d4_4 : decode prog_44_method_4_code 4 = .ok (.iload_n 1, 1) := by decide +kernel
theorem d4_5 : decode prog_44_method_4_code 5 = .ok (.aaload, 1) := by decide +kernel
theorem d4_6 : decode prog_44_method_4_code 6 = .ok (.areturn, 1) := by decide +kernel
theorem d5_0 : decode prog_44_method_5_code 0 = .ok (.aload_n 0, 1) := by decide +kernel
theorem d5_1 : decode prog_44_method_5_code 1 = .ok (.getfield 18, 3) := by decide +kernel
theorem d5_4 : decode prog_44_method_5_code 4 = .ok (.iload_n 1, 1) := by decide +kernel
theorem d5_5 : decode prog_44_method_5_code 5 = .ok (.iaload, 1) := by decide +kernel
theorem d5_6 : decode prog_44_method_5_code 6 = .ok (.ireturn, 1) := by decide +kernel
theorem pn0 : plainName "com/example/wyrd/wyrd/model/Frame" = true := by first | (simp [plainName, overriddenIn]; done) | decide +kernel
theorem pn1 : plainName "com/example/wyrd/wyrd/model/FrameReferPinLaw" = true := by first | (simp [plainName, overriddenIn]; done) | decide +kernel
theorem pd0 : parseMethodDescriptor "(II)V" = some ⟨[.int, .int], none⟩ := by decide +kernel
theorem pd1 : parseMethodDescriptor "(I[DI)V" = some ⟨[.int, (.array .double), .int], none⟩ := by decide +kernel
theorem pd2 : parseMethodDescriptor "(I)[D" = some ⟨[.int], some (.array .double)⟩ := by decide +kernel
theorem pd3 : parseMethodDescriptor "(I)I" = some ⟨[.int], some .int⟩ := by decide +kernel
theorem own_fitR {v : Value} (r : v.isRef = true) : fits (.array .double) v = true := by rcases ref_cases r with rfl | ⟨a, rfl⟩ <;> rfl
theorem own_nat {z : Int32} (n : Nat) (h1 : ¬ z < 0) (h2 : z.toInt ≤ n) : z.toNatClampNeg ≤ n := by
  rw [Int32.lt_iff_toInt_lt, show (0 : Int32).toInt = 0 by decide] at h1
  rw [Int32.toNatClampNeg]; omega
theorem own_refs (r : Int32) : 1 ≤ (1 + (r &&& 3)).toInt ∧ (1 + (r &&& 3)).toInt ≤ 4 := by
  have q := c_mask r 3 2 (by decide) (by decide)
  have u := c_iadd 1 (r &&& 3)
  have v := rng32 (1 + (r &&& 3))
  rw [show (1 : Int32).toInt = 1 by decide] at u
  omega
theorem own_rem (a n : Int32) (h1 : 1 ≤ n.toInt) (ha : 0 ≤ a.toInt) : ¬ (a % n) < 0 ∧ (a % n) < n := by
  have q := (c_iremV a n).1 ha (by omega)
  rw [Int32.lt_iff_toInt_lt, Int32.lt_iff_toInt_lt, show (0 : Int32).toInt = 0 by decide]; omega
theorem own_mx (a : Int32) : 0 ≤ (a &&& 2147483647).toInt := by
  have q := c_mask a 2147483647 31 (by decide) (by decide)
  omega
theorem own_sum (i n : Int32) (h : ¬ i < 0 ∧ i < n) (h4 : n.toInt ≤ 4) : 0 ≤ (i + 1).toInt := by
  have u := c_iadd i 1
  have v := rng32 (i + 1)
  rw [Int32.lt_iff_toInt_lt, Int32.lt_iff_toInt_lt, show (0 : Int32).toInt = 0 by decide] at h
  rw [show (1 : Int32).toInt = 1 by decide] at u
  omega
theorem own_nz {n : Int32} (h : 1 ≤ n.toInt) : n ≠ 0 := by rintro rfl; revert h; decide
theorem own_nn {n : Int32} (h : 1 ≤ n.toInt) : ¬ n < 0 := by
  rw [Int32.lt_iff_toInt_lt, show (0 : Int32).toInt = 0 by decide]; omega
theorem own_m3 (a : Int32) : ¬ (a &&& 3) < 0 ∧ (a &&& 3).toInt ≤ (3 : Nat) := by
  have q := c_mask a 3 2 (by decide) (by decide)
  rw [Int32.lt_iff_toInt_lt, show (0 : Int32).toInt = 0 by decide]; omega
theorem ef1 (m : MethodId) (x0 : Addr) (x1 : Int32) (x2 : Int32) : entryFrame m #[(.ref x0), (.int x1), (.int x2)] 3 = mkF m 0 #[.val (.ref x0), .val (.int x1), .val (.int x2)] [] := by first | (simp [entryFrame, mkF, argsToLocals, Value.category]; done) | rfl
set_option maxRecDepth 65536 in
set_option maxHeartbeats 40000000 in
theorem rm1 (l : Launch) (Z : State) (a0 : Array Value) (hw : ∀ d ∈ tables_1, d.before a0 Z = true) (h0 : Heap) (n0 : Nat) (Z0 : n0 ≤ h0.size) (a : Addr) (x z : Int32) (E0 : Exa Z h0 a "com/example/wyrd/wyrd/model/Frame") (F1 : Fld Z h0 a "com/example/wyrd/wyrd/model/Frame" "values" "[D" .null) (F2 : Fld Z h0 a "com/example/wyrd/wyrd/model/Frame" "referenceStores" "[[D" .null) (F3 : Fld Z h0 a "com/example/wyrd/wyrd/model/Frame" "referenceOffsets" "[I" .null) (g0 : n0 ≤ a) (c1 : ¬ x < 0) (c2 : x.toInt ≤ (3 : Nat)) (c3 : 1 ≤ z.toInt) (c4 : z.toInt ≤ (4 : Nat)) :
    ctr l Z (⟨"com/example/wyrd/wyrd/model/Frame", "<init>", "(II)V"⟩ : MethodName) prog_44_method_1_code 3 none [] ({ frames := 1, cells := 3, slots := 11, locals := 12 } : Room) 3 11 #[(.ref a), (.int x), (.int z)] h0 (fun v h L => v = none ∧ Fr n0 L ∧ Keep h0 h [a] ∧ ∃ rs ro k1 k2, Fld Z h a "com/example/wyrd/wyrd/model/Frame" "referenceStores" "[[D" (.ref rs) ∧ Fld Z h a "com/example/wyrd/wyrd/model/Frame" "referenceOffsets" "[I" (.ref ro) ∧ h0.size ≤ rs ∧ h0.size ≤ ro ∧ ro ≠ rs ∧ Arh Z h rs k1 (.array .double) z [] [] .null ∧ Arh Z h ro k2 .int z [] [] (.int (0 : Int32)) ∧ OvrA Z k1 .double "[D") := by
  refine ctr_of (plainFor_of_name pn0) ?_
  intro p e s m below meth jc s₁ hx hby hml hret hlk hnm hown hZ e0 X0
  have N0 := Fr.nil n0
  refine Dn.cast (ef1 m a x z) ?_
  show Dn p e below s _ _ _ (s₁.setTop (mkF m 0 #[.val (.ref a), .val (.int x), .val (.int z)] []))
  have sn10 : Jvm.RoadKit.slotOf Z "com/example/wyrd/wyrd/model/Frame" "referenceStores" "[[D" ≠ Jvm.RoadKit.slotOf Z "com/example/wyrd/wyrd/model/Frame" "values" "[D" := slot_ne (Or.inr (hw _ (List.mem_of_getElem? (i := 16) rfl))) (Or.inr (hw _ (List.mem_of_getElem? (i := 12) rfl))) (by decide) (t := (.array (.array .double))) (t' := (.array .double)) (by decide) (by decide)
  have sn20 : Jvm.RoadKit.slotOf Z "com/example/wyrd/wyrd/model/Frame" "referenceOffsets" "[I" ≠ Jvm.RoadKit.slotOf Z "com/example/wyrd/wyrd/model/Frame" "values" "[D" := slot_ne (Or.inr (hw _ (List.mem_of_getElem? (i := 19) rfl))) (Or.inr (hw _ (List.mem_of_getElem? (i := 12) rfl))) (by decide) (t := (.array .int)) (t' := (.array .double)) (by decide) (by decide)
  have sn21 : Jvm.RoadKit.slotOf Z "com/example/wyrd/wyrd/model/Frame" "referenceOffsets" "[I" ≠ Jvm.RoadKit.slotOf Z "com/example/wyrd/wyrd/model/Frame" "referenceStores" "[[D" := slot_ne (Or.inr (hw _ (List.mem_of_getElem? (i := 19) rfl))) (Or.inr (hw _ (List.mem_of_getElem? (i := 16) rfl))) (by decide) (t := (.array .int)) (t' := (.array (.array .double))) (by decide) (by decide)
  have sn12 : Jvm.RoadKit.slotOf Z "com/example/wyrd/wyrd/model/Frame" "referenceStores" "[[D" ≠ Jvm.RoadKit.slotOf Z "com/example/wyrd/wyrd/model/Frame" "referenceOffsets" "[I" := slot_ne (Or.inr (hw _ (List.mem_of_getElem? (i := 16) rfl))) (Or.inr (hw _ (List.mem_of_getElem? (i := 19) rfl))) (by decide) (t := (.array (.array .double))) (t' := (.array .int)) (by decide) (by decide)
  have hz := own_nn c3
  refine Dn.of (fun tt_ zz_ => XS.aloadN X0.here hx rfl (hb hby d1_0) rfl rfl zz_) ?_
  show Dn p e below s _ _ _ (s₁.setTop (mkF m 1 #[.val (.ref a), .val (.int x), .val (.int z)] [(.ref a)]))
  obtain ⟨T1, X1, e1, st1⟩ := initO X0 hx hZ hown (hw _ (List.mem_of_getElem? (i := 8) rfl)) (hw _ (List.mem_of_getElem? (i := 9) rfl)) (hw _ (List.mem_of_getElem? (i := 10) rfl)) e0 (g := (mkF m 1 #[.val (.ref a), .val (.int x), .val (.int z)] [(.ref a)])) rfl (by rw [hml]; rfl) rfl (hb hby d1_1) (by decide) (W := 0) (by show 2 * 0 + _ ≤ _; exact Nat.le_of_eq rfl) (by decide)
  refine Dn.of st1 ?_
  show Dn p e below s _ _ _ (T1.setTop (mkF m 4 #[.val (.ref a), .val (.int x), .val (.int z)] []))
  refine Dn.of (fun tt_ zz_ => XS.aloadN X1.here hx rfl (hb hby d1_4) rfl rfl zz_) ?_
  show Dn p e below s _ _ _ (T1.setTop (mkF m 5 #[.val (.ref a), .val (.int x), .val (.int z)] [(.ref a)]))
  refine Dn.of (fun tt_ zz_ => XS.iloadN X1.here hx rfl (hb hby d1_5) rfl zz_) ?_
  show Dn p e below s _ _ _ (T1.setTop (mkF m 6 #[.val (.ref a), .val (.int x), .val (.int z)] [(.int x), (.ref a)]))
  obtain ⟨T2, h2, k2, X2, e2, E2, A2, st2⟩ := newP X1 hx hZ (hw _ (List.mem_of_getElem? (i := 1) rfl)) e1 (g := (mkF m 6 #[.val (.ref a), .val (.int x), .val (.int z)] [(.int x), (.ref a)])) rfl (hb hby d1_6) rfl c1 (cap := 3) (own_nat 3 c1 c2) (by decide) (by decide) (by decide)
  obtain ⟨b2, g2⟩ : ∃ z, z = h0.size := ⟨_, rfl⟩
  rw [← g2] at A2 st2
  refine Dn.of st2 ?_
  show Dn p e below s _ _ _ (T2.setTop (mkF m 8 #[.val (.ref a), .val (.int x), .val (.int z)] [(.ref b2), (.ref a)]))
  obtain ⟨T3, h3, X3, e3, W3, st3⟩ := putF X2 hx hZ hown (host := "") (Or.inl (hw _ (List.mem_of_getElem? (i := 11) rfl))) Via.refl e2 (F1.ext E2) (E0.ext E2) (Or.inr ⟨(hw _ (List.mem_of_getElem? (i := 12) rfl)), rfl, hnm⟩) (hw _ (List.mem_of_getElem? (i := 3) rfl)) (ty := (.array .double)) (by decide) rfl rfl (g := (mkF m 8 #[.val (.ref a), .val (.int x), .val (.int z)] [(.ref b2), (.ref a)])) rfl rfl (hb hby d1_8)
  refine Dn.of st3 ?_
  show Dn p e below s _ _ _ (T3.setTop (mkF m 11 #[.val (.ref a), .val (.int x), .val (.int z)] []))
  have K1 := ((Keep.refl h0 [a]).ext E2).wr W3 (Or.inl (List.mem_of_getElem? (i := 0) rfl))
  have F2a := (F2.ext E2).other W3 (Or.inr sn10)
  have F3a := (F3.ext E2).other W3 (Or.inr sn20)
  have Ea := (E0.ext E2).wr W3
  have N1 := Fr.snoc X3 N0 g0
  refine Dn.of (fun tt_ zz_ => XS.aloadN X3.here hx rfl (hb hby d1_11) rfl rfl zz_) ?_
  show Dn p e below s _ _ _ (T3.setTop (mkF m 12 #[.val (.ref a), .val (.int x), .val (.int z)] [(.ref a)]))
  refine Dn.of (fun tt_ zz_ => XS.iloadN X3.here hx rfl (hb hby d1_12) rfl zz_) ?_
  show Dn p e below s _ _ _ (T3.setTop (mkF m 13 #[.val (.ref a), .val (.int x), .val (.int z)] [(.int z), (.ref a)]))
  obtain ⟨T4, h4, k4, X4, e4, E4, A4, B4, O4, st4⟩ := newRA X3 hx hZ (C := "[D") (ty := .double) hown rfl (hw _ (List.mem_of_getElem? (i := 13) rfl)) (hw _ (List.mem_of_getElem? (i := 14) rfl)) e3 (g := (mkF m 13 #[.val (.ref a), .val (.int x), .val (.int z)] [(.int z), (.ref a)])) rfl (hb hby d1_13) rfl hz (cap := 4) (own_nat 4 hz c4) (by decide) (by decide) (by decide) (ad := "[[D") rfl
  obtain ⟨b4, g4⟩ : ∃ z, z = h3.size := ⟨_, rfl⟩
  rw [← g4] at A4 B4 st4
  refine Dn.of st4 ?_
  show Dn p e below s _ _ _ (T4.setTop (mkF m 16 #[.val (.ref a), .val (.int x), .val (.int z)] [(.ref b4), (.ref a)]))
  obtain ⟨T5, h5, X5, e5, W5, st5⟩ := putF X4 hx hZ hown (host := "") (Or.inl (hw _ (List.mem_of_getElem? (i := 15) rfl))) Via.refl e4 (F2a.ext E4) (Ea.ext E4) (Or.inr ⟨(hw _ (List.mem_of_getElem? (i := 16) rfl)), rfl, hnm⟩) (hw _ (List.mem_of_getElem? (i := 3) rfl)) (ty := (.array (.array .double))) (by decide) rfl rfl (g := (mkF m 16 #[.val (.ref a), .val (.int x), .val (.int z)] [(.ref b4), (.ref a)])) rfl rfl (hb hby d1_16)
  refine Dn.of st5 ?_
  show Dn p e below s _ _ _ (T5.setTop (mkF m 19 #[.val (.ref a), .val (.int x), .val (.int z)] []))
  have K2 := (K1.ext E4).wr W5 (Or.inl (List.mem_of_getElem? (i := 0) rfl))
  have F3b := (F3a.ext E4).other W5 (Or.inr sn21)
  have F2b := (F2a.ext E4).same W5
  have Eb := (Ea.ext E4).wr W5
  have N2 := Fr.snoc X5 N1 g0
  have l2 : h0.size ≤ b4 := g4 ▸ K1.1
  have R2 := (Arv.new A4 hz).arh.other W5 (Nat.ne_of_gt (Nat.lt_of_lt_of_le E0.lt l2))
  refine Dn.of (fun tt_ zz_ => XS.aloadN X5.here hx rfl (hb hby d1_19) rfl rfl zz_) ?_
  show Dn p e below s _ _ _ (T5.setTop (mkF m 20 #[.val (.ref a), .val (.int x), .val (.int z)] [(.ref a)]))
  refine Dn.of (fun tt_ zz_ => XS.iloadN X5.here hx rfl (hb hby d1_20) rfl zz_) ?_
  show Dn p e below s _ _ _ (T5.setTop (mkF m 21 #[.val (.ref a), .val (.int x), .val (.int z)] [(.int z), (.ref a)]))
  obtain ⟨T6, h6, k6, X6, e6, E6, A6, st6⟩ := newP X5 hx hZ (hw _ (List.mem_of_getElem? (i := 17) rfl)) e5 (g := (mkF m 21 #[.val (.ref a), .val (.int x), .val (.int z)] [(.int z), (.ref a)])) rfl (hb hby d1_21) rfl hz (cap := 4) (own_nat 4 hz c4) (by decide) (by decide) (by decide)
  obtain ⟨b6, g6⟩ : ∃ z, z = h5.size := ⟨_, rfl⟩
  rw [← g6] at A6 st6
  refine Dn.of st6 ?_
  show Dn p e below s _ _ _ (T6.setTop (mkF m 23 #[.val (.ref a), .val (.int x), .val (.int z)] [(.ref b6), (.ref a)]))
  obtain ⟨T7, h7, X7, e7, W7, st7⟩ := putF X6 hx hZ hown (host := "") (Or.inl (hw _ (List.mem_of_getElem? (i := 18) rfl))) Via.refl e6 (F3b.ext E6) (Eb.ext E6) (Or.inr ⟨(hw _ (List.mem_of_getElem? (i := 19) rfl)), rfl, hnm⟩) (hw _ (List.mem_of_getElem? (i := 3) rfl)) (ty := (.array .int)) (by decide) rfl rfl (g := (mkF m 23 #[.val (.ref a), .val (.int x), .val (.int z)] [(.ref b6), (.ref a)])) rfl rfl (hb hby d1_23)
  refine Dn.of st7 ?_
  show Dn p e below s _ _ _ (T7.setTop (mkF m 26 #[.val (.ref a), .val (.int x), .val (.int z)] []))
  have K3 := (K2.ext E6).wr W7 (Or.inl (List.mem_of_getElem? (i := 0) rfl))
  have N3 := Fr.snoc X7 N2 g0
  have l3 : h0.size ≤ b6 := g6 ▸ K2.1
  have R3 := (Arv.new A6 hz).arh.other W7 (Nat.ne_of_gt (Nat.lt_of_lt_of_le E0.lt l3))
  have R2' := (R2.ext E6).other W7 (Nat.ne_of_gt (Nat.lt_of_lt_of_le E0.lt l2))
  have ne : b6 ≠ b4 := Nat.ne_of_gt (g6 ▸ R2.lt)
  exact Dn.retV X7 hx hlk hret (hb hby d1_26) (by decide) (by decide) (by rw [e7]; exact ⟨rfl, N3, K3, b4, b6, k4, k6, (F2b.ext E6).other W7 (Or.inr sn12), (F3b.ext E6).same W7, l2, l3, ne, R2', R3, O4⟩)
theorem ef3v (m : MethodId) (x0 : Addr) (x1 : Int32) (x2 : Value) (x3 : Int32) (r2 : x2.isRef = true) : entryFrame m #[(.ref x0), (.int x1), x2, (.int x3)] 4 = mkF m 0 #[.val (.ref x0), .val (.int x1), .val x2, .val (.int x3)] [] := by rcases ref_cases r2 with rfl | ⟨y2, rfl⟩ <;> rfl
set_option maxRecDepth 65536 in
set_option maxHeartbeats 40000000 in
theorem rm3 (l : Launch) (Z : State) (a0 : Array Value) (hw : ∀ d ∈ tables_1, d.before a0 Z = true) (h0 : Heap) (n0 : Nat) (Z0 : n0 ≤ h0.size) (a rs ro : Addr) (k1 k2 : ClassId) (z : Int32) (hs1 hs2 : List (Int32 × Value)) (F1 : Fld Z h0 a "com/example/wyrd/wyrd/model/Frame" "referenceStores" "[[D" (.ref rs)) (F2 : Fld Z h0 a "com/example/wyrd/wyrd/model/Frame" "referenceOffsets" "[I" (.ref ro)) (R1 : Arh Z h0 rs k1 (.array .double) z hs1 [] .null) (R2 : Arh Z h0 ro k2 .int z hs2 [] (.int (0 : Int32))) (i x : Int32) (u : Value) (ru : u.isRef = true) (q1 : a ≠ rs) (q2 : ro ≠ rs) (g1 : n0 ≤ rs) (g2 : n0 ≤ ro) (ci : ¬ i < 0 ∧ i < z) (St : Sto Z h0 rs u) :
    ctr l Z (⟨"com/example/wyrd/wyrd/model/Frame", "refer", "(I[DI)V"⟩ : MethodName) prog_44_method_3_code 4 none [] ({ frames := 0, cells := 0, slots := 0, locals := 0 } : Room) 0 0 #[(.ref a), (.int i), u, (.int x)] h0 (fun v h L => v = none ∧ Fr n0 L ∧ Keep h0 h [rs, ro] ∧ Arh Z h rs k1 (.array .double) z ((i, u) :: hs1) [] .null ∧ Arh Z h ro k2 .int z ((i, .int x) :: hs2) [] (.int (0 : Int32))) := by
  refine ctr_of (plainFor_of_name pn0) ?_
  intro p e s m below meth jc s₁ hx hby hml hret hlk hnm hown hZ e0 X0
  have N0 := Fr.nil n0
  refine Dn.cast (ef3v m a i u x ru) ?_
  show Dn p e below s _ _ _ (s₁.setTop (mkF m 0 #[.val (.ref a), .val (.int i), .val u, .val (.int x)] []))
  refine Dn.of (fun tt_ zz_ => XS.aloadN X0.here hx rfl (hb hby d3_0) rfl rfl zz_) ?_
  show Dn p e below s _ _ _ (s₁.setTop (mkF m 1 #[.val (.ref a), .val (.int i), .val u, .val (.int x)] [(.ref a)]))
  obtain ⟨T8, X8, e8, st8⟩ := getF X0 hx hZ hown (host := "") (Or.inl (hw _ (List.mem_of_getElem? (i := 15) rfl))) Via.refl e0 F1 (g := (mkF m 1 #[.val (.ref a), .val (.int i), .val u, .val (.int x)] [(.ref a)])) rfl rfl (hb hby d3_1)
  refine Dn.of st8 ?_
  show Dn p e below s _ _ _ (T8.setTop (mkF m 4 #[.val (.ref a), .val (.int i), .val u, .val (.int x)] [(.ref rs)]))
  refine Dn.of (fun tt_ zz_ => XS.iloadN X8.here hx rfl (hb hby d3_4) rfl zz_) ?_
  show Dn p e below s _ _ _ (T8.setTop (mkF m 5 #[.val (.ref a), .val (.int i), .val u, .val (.int x)] [(.int i), (.ref rs)]))
  refine Dn.of (fun tt_ zz_ => XS.aloadN X8.here hx rfl (hb hby d3_5) rfl ru zz_) ?_
  show Dn p e below s _ _ _ (T8.setTop (mkF m 6 #[.val (.ref a), .val (.int i), .val u, .val (.int x)] [u, (.int i), (.ref rs)]))
  obtain ⟨c1, A1, p1, S1, P1, H1, G1⟩ := R1
  obtain ⟨T9, h9, X9, e9, W9, st9⟩ := stR X8 hx hZ e8 A1 (j := i) (inb_of S1 ci) rfl St (g := (mkF m 6 #[.val (.ref a), .val (.int i), .val u, .val (.int x)] [u, (.int i), (.ref rs)])) rfl rfl (hb hby d3_6)
  refine Dn.of st9 ?_
  show Dn p e below s _ _ _ (T9.setTop (mkF m 7 #[.val (.ref a), .val (.int i), .val u, .val (.int x)] []))
  have R1' := Arh.push A1 p1 S1 P1 H1 G1 (own_fitR ru) W9 (inb_of S1 ci)
  have N1 := Fr.snoc X9 N0 g1
  refine Dn.of (fun tt_ zz_ => XS.aloadN X9.here hx rfl (hb hby d3_7) rfl rfl zz_) ?_
  show Dn p e below s _ _ _ (T9.setTop (mkF m 8 #[.val (.ref a), .val (.int i), .val u, .val (.int x)] [(.ref a)]))
  obtain ⟨T10, X10, e10, st10⟩ := getF X9 hx hZ hown (host := "") (Or.inl (hw _ (List.mem_of_getElem? (i := 18) rfl))) Via.refl e9 (F2.other W9 (Or.inl q1)) (g := (mkF m 8 #[.val (.ref a), .val (.int i), .val u, .val (.int x)] [(.ref a)])) rfl rfl (hb hby d3_8)
  refine Dn.of st10 ?_
  show Dn p e below s _ _ _ (T10.setTop (mkF m 11 #[.val (.ref a), .val (.int i), .val u, .val (.int x)] [(.ref ro)]))
  refine Dn.of (fun tt_ zz_ => XS.iloadN X10.here hx rfl (hb hby d3_11) rfl zz_) ?_
  show Dn p e below s _ _ _ (T10.setTop (mkF m 12 #[.val (.ref a), .val (.int i), .val u, .val (.int x)] [(.int i), (.ref ro)]))
  refine Dn.of (fun tt_ zz_ => XS.iloadN X10.here hx rfl (hb hby d3_12) rfl zz_) ?_
  show Dn p e below s _ _ _ (T10.setTop (mkF m 13 #[.val (.ref a), .val (.int i), .val u, .val (.int x)] [(.int x), (.int i), (.ref ro)]))
  obtain ⟨c2, A2, p2, S2, P2, H2, G2⟩ := R2.other W9 q2
  obtain ⟨T11, h11, X11, e11, W11, st11⟩ := stI X10 hx hZ e10 A2 (j := i) (inb_of S2 ci) (g := (mkF m 13 #[.val (.ref a), .val (.int i), .val u, .val (.int x)] [(.int x), (.int i), (.ref ro)])) rfl rfl (hb hby d3_13)
  refine Dn.of st11 ?_
  show Dn p e below s _ _ _ (T11.setTop (mkF m 14 #[.val (.ref a), .val (.int i), .val u, .val (.int x)] []))
  have R2' := Arh.push A2 p2 S2 P2 H2 G2 (v := .int x) rfl W11 (inb_of S2 ci)
  have N2 := Fr.snoc X11 N1 g2
  have K := ((Keep.refl h0 [rs, ro]).wr W9 (Or.inl (List.mem_of_getElem? (i := 0) rfl))).wr W11 (Or.inl (List.mem_of_getElem? (i := 1) rfl))
  exact Dn.retV X11 hx hlk hret (hb hby d3_14) (by decide) (by decide) (by rw [e11]; exact ⟨rfl, N2, K, R1'.other W11 q2.symm, R2'⟩)
theorem ef4 (m : MethodId) (x0 : Addr) (x1 : Int32) : entryFrame m #[(.ref x0), (.int x1)] 2 = mkF m 0 #[.val (.ref x0), .val (.int x1)] [] := by first | (simp [entryFrame, mkF, argsToLocals, Value.category]; done) | rfl
set_option maxRecDepth 65536 in
set_option maxHeartbeats 40000000 in
theorem rm4 (l : Launch) (Z : State) (a0 : Array Value) (hw : ∀ d ∈ tables_1, d.before a0 Z = true) (h0 : Heap) (n0 : Nat) (Z0 : n0 ≤ h0.size) (a rs : Addr) (k1 : ClassId) (z : Int32) (hs1 : List (Int32 × Value)) (F1 : Fld Z h0 a "com/example/wyrd/wyrd/model/Frame" "referenceStores" "[[D" (.ref rs)) (R1 : Arh Z h0 rs k1 (.array .double) z hs1 [] .null) (i : Int32) (ci : ¬ i < 0 ∧ i < z) (u : Value) (hu : getH hs1 [] .null i.toNatClampNeg = u) (ru : u.isRef = true) :
    ctr l Z (⟨"com/example/wyrd/wyrd/model/Frame", "referenceStore", "(I)[D"⟩ : MethodName) prog_44_method_4_code 2 (some (.array .double)) [] ({ frames := 0, cells := 0, slots := 0, locals := 0 } : Room) 0 0 #[(.ref a), (.int i)] h0 (fun v h L => v = some u ∧ Fr n0 L ∧ h = h0) := by
  refine ctr_of (plainFor_of_name pn0) ?_
  intro p e s m below meth jc s₁ hx hby hml hret hlk hnm hown hZ e0 X0
  have N0 := Fr.nil n0
  refine Dn.cast (ef4 m a i) ?_
  show Dn p e below s _ _ _ (s₁.setTop (mkF m 0 #[.val (.ref a), .val (.int i)] []))
  refine Dn.of (fun tt_ zz_ => XS.aloadN X0.here hx rfl (hb hby d4_0) rfl rfl zz_) ?_
  show Dn p e below s _ _ _ (s₁.setTop (mkF m 1 #[.val (.ref a), .val (.int i)] [(.ref a)]))
  obtain ⟨T12, X12, e12, st12⟩ := getF X0 hx hZ hown (host := "") (Or.inl (hw _ (List.mem_of_getElem? (i := 15) rfl))) Via.refl e0 F1 (g := (mkF m 1 #[.val (.ref a), .val (.int i)] [(.ref a)])) rfl rfl (hb hby d4_1)
  refine Dn.of st12 ?_
  show Dn p e below s _ _ _ (T12.setTop (mkF m 4 #[.val (.ref a), .val (.int i)] [(.ref rs)]))
  refine Dn.of (fun tt_ zz_ => XS.iloadN X12.here hx rfl (hb hby d4_4) rfl zz_) ?_
  show Dn p e below s _ _ _ (T12.setTop (mkF m 5 #[.val (.ref a), .val (.int i)] [(.int i), (.ref rs)]))
  obtain ⟨c1, A1, p1, S1, P1, H1, G1⟩ := R1
  refine Dn.of (fun tt_ zz_ => X12.aaload hx (j := i) (v := u) (by rw [e12]; exact A1.1) (State.isArrayOf_alike hZ.alike A1.2.1) rfl A1.2.2 (inb_of S1 ci) (atH H1 (inb_of S1 ci) hu) (g := (mkF m 5 #[.val (.ref a), .val (.int i)] [(.int i), (.ref rs)])) rfl rfl (hb hby d4_5) tt_ zz_) ?_
  show Dn p e below s _ _ _ (T12.setTop (mkF m 6 #[.val (.ref a), .val (.int i)] [u]))
  exact Dn.retA X12 hx hlk hret rfl ru (hb hby d4_6) (by decide) (by decide) (⟨rfl, N0, e12⟩)
theorem ef5 (m : MethodId) (x0 : Addr) (x1 : Int32) : entryFrame m #[(.ref x0), (.int x1)] 2 = mkF m 0 #[.val (.ref x0), .val (.int x1)] [] := by first | (simp [entryFrame, mkF, argsToLocals, Value.category]; done) | rfl
set_option maxRecDepth 65536 in
set_option maxHeartbeats 40000000 in
theorem rm5 (l : Launch) (Z : State) (a0 : Array Value) (hw : ∀ d ∈ tables_1, d.before a0 Z = true) (h0 : Heap) (n0 : Nat) (Z0 : n0 ≤ h0.size) (a ro : Addr) (k2 : ClassId) (z : Int32) (hs2 : List (Int32 × Value)) (F2 : Fld Z h0 a "com/example/wyrd/wyrd/model/Frame" "referenceOffsets" "[I" (.ref ro)) (R2 : Arh Z h0 ro k2 .int z hs2 [] (.int (0 : Int32))) (i : Int32) (ci : ¬ i < 0 ∧ i < z) (u : Int32) (hu : getH hs2 [] (.int (0 : Int32)) i.toNatClampNeg = .int u) :
    ctr l Z (⟨"com/example/wyrd/wyrd/model/Frame", "referenceOffset", "(I)I"⟩ : MethodName) prog_44_method_5_code 2 (some .int) [] ({ frames := 0, cells := 0, slots := 0, locals := 0 } : Room) 0 0 #[(.ref a), (.int i)] h0 (fun v h L => v = some (.int u) ∧ Fr n0 L ∧ h = h0) := by
  refine ctr_of (plainFor_of_name pn0) ?_
  intro p e s m below meth jc s₁ hx hby hml hret hlk hnm hown hZ e0 X0
  have N0 := Fr.nil n0
  refine Dn.cast (ef5 m a i) ?_
  show Dn p e below s _ _ _ (s₁.setTop (mkF m 0 #[.val (.ref a), .val (.int i)] []))
  refine Dn.of (fun tt_ zz_ => XS.aloadN X0.here hx rfl (hb hby d5_0) rfl rfl zz_) ?_
  show Dn p e below s _ _ _ (s₁.setTop (mkF m 1 #[.val (.ref a), .val (.int i)] [(.ref a)]))
  obtain ⟨T13, X13, e13, st13⟩ := getF X0 hx hZ hown (host := "") (Or.inl (hw _ (List.mem_of_getElem? (i := 18) rfl))) Via.refl e0 F2 (g := (mkF m 1 #[.val (.ref a), .val (.int i)] [(.ref a)])) rfl rfl (hb hby d5_1)
  refine Dn.of st13 ?_
  show Dn p e below s _ _ _ (T13.setTop (mkF m 4 #[.val (.ref a), .val (.int i)] [(.ref ro)]))
  refine Dn.of (fun tt_ zz_ => XS.iloadN X13.here hx rfl (hb hby d5_4) rfl zz_) ?_
  show Dn p e below s _ _ _ (T13.setTop (mkF m 5 #[.val (.ref a), .val (.int i)] [(.int i), (.ref ro)]))
  obtain ⟨c1, A1, p1, S1, P1, H1, G1⟩ := R2
  refine Dn.of (fun tt_ zz_ => X13.iaload hx (j := i) (v := (.int u)) (by rw [e13]; exact A1.1) (State.isArrayOf_alike hZ.alike A1.2.1) A1.2.2 (inb_of S1 ci) (atH H1 (inb_of S1 ci) hu) (g := (mkF m 5 #[.val (.ref a), .val (.int i)] [(.int i), (.ref ro)])) rfl rfl (hb hby d5_5) tt_ zz_) ?_
  show Dn p e below s _ _ _ (T13.setTop (mkF m 6 #[.val (.ref a), .val (.int i)] [(.int u)]))
  exact Dn.retI X13 hx hlk hret (hb hby d5_6) (by decide) (by decide) (⟨rfl, N0, e13⟩)
def own_Q (n0 : Nat) (v : Option Value) (h : Heap) (L : List Loc) : Prop := v = some (.int 1) ∧ Fr n0 L
theorem ef0 (m : MethodId) (x0 : Int32) (x1 : Int32) (x2 : Int32) (x3 : Int32) (x4 : Int32) (x5 : Int32) : entryFrame m #[(.int x0), (.int x1), (.int x2), (.int x3), (.int x4), (.int x5)] maxLocals = mkF m 0 #[.val (.int x0), .val (.int x1), .val (.int x2), .val (.int x3), .val (.int x4), .val (.int x5), .unset, .unset, .unset, .unset, .unset, .unset, .unset, .unset] [] := by first | (simp [entryFrame, mkF, argsToLocals, Value.category, maxLocals]; done) | rfl
set_option maxRecDepth 65536 in
set_option maxHeartbeats 40000000 in
theorem rm0 (l : Launch) (Z : State) (a0 : Array Value) (hw : ∀ d ∈ tables_1, d.before a0 Z = true) (ws : List Jvm.Cond) (h0 : Heap) (n0 : Nat) (Z0 : n0 ≤ h0.size) (i0 i1 i2 i3 i4 i5 : Int32) :
    ctr l Z x code maxLocals ret ws room_1 24 128 #[(.int i0), (.int i1), (.int i2), (.int i3), (.int i4), (.int i5)] h0 (own_Q n0) := by
  refine ctr_of (plainFor_of_name pn1) ?_
  intro p e s m below meth jc s₁ hx hby hml hret hlk hnm hown hZ e0 X0
  have N0 := Fr.nil n0
  refine Dn.cast (ef0 m i0 i1 i2 i3 i4 i5) ?_
  show Dn p e below s _ _ _ (s₁.setTop (mkF m 0 #[.val (.int i0), .val (.int i1), .val (.int i2), .val (.int i3), .val (.int i4), .val (.int i5), .unset, .unset, .unset, .unset, .unset, .unset, .unset, .unset] []))
  have K34 : ∀ z i j k : Int32, 1 ≤ z.toInt → z.toInt ≤ (4 : Nat) → (¬ i < 0 ∧ i < z) → (¬ j < 0 ∧ j < z) → (¬ k < 0 ∧ k < z) → Dn p e below s (own_Q n0) 24 128 (s₁.setTop (mkF m 34 #[.val (.int i0), .val (.int i1), .val (.int i2), .val (.int i3), .val (.int i4), .val (.int i5), .val (.int z), .val (.int i), .val (.int j), .val (.int k), .unset, .unset, .unset, .unset] [])) := by
    intro z i j k c3 c4 ci cj ck
    refine Dn.of (fun tt_ zz_ => XS.iconst X0.here hx rfl (hb hby at_34) zz_) ?_
    show Dn p e below s (own_Q n0) 24 128 (s₁.setTop (mkF m 35 #[.val (.int i0), .val (.int i1), .val (.int i2), .val (.int i3), .val (.int i4), .val (.int i5), .val (.int z), .val (.int i), .val (.int j), .val (.int k), .unset, .unset, .unset, .unset] [(.int (2 : Int32))]))
    obtain ⟨T14, h14, k14, X14, e14, E14, A14, B14, st14⟩ := newPE X0 hx hZ (hw _ (List.mem_of_getElem? (i := 1) rfl)) e0 (g := (mkF m 35 #[.val (.int i0), .val (.int i1), .val (.int i2), .val (.int i3), .val (.int i4), .val (.int i5), .val (.int z), .val (.int i), .val (.int j), .val (.int k), .unset, .unset, .unset, .unset] [(.int (2 : Int32))])) rfl (hb hby at_35) rfl (by decide) (cap := 2) (by decide) (by decide) (by decide) (by decide) (ad := "[D") rfl
    obtain ⟨b14, g14⟩ : ∃ z, z = h0.size := ⟨_, rfl⟩
    rw [← g14] at A14 B14 st14
    refine Dn.of st14 ?_
    show Dn p e below s (own_Q n0) 24 128 (T14.setTop (mkF m 37 #[.val (.int i0), .val (.int i1), .val (.int i2), .val (.int i3), .val (.int i4), .val (.int i5), .val (.int z), .val (.int i), .val (.int j), .val (.int k), .unset, .unset, .unset, .unset] [(.ref b14)]))
    refine Dn.of (fun tt_ zz_ => XS.astore X14.here hx rfl (hb hby at_37) rfl rfl (l' := #[.val (.int i0), .val (.int i1), .val (.int i2), .val (.int i3), .val (.int i4), .val (.int i5), .val (.int z), .val (.int i), .val (.int j), .val (.int k), .val (.ref b14), .unset, .unset, .unset]) rfl zz_) ?_
    show Dn p e below s (own_Q n0) 24 128 (T14.setTop (mkF m 39 #[.val (.int i0), .val (.int i1), .val (.int i2), .val (.int i3), .val (.int i4), .val (.int i5), .val (.int z), .val (.int i), .val (.int j), .val (.int k), .val (.ref b14), .unset, .unset, .unset] []))
    refine Dn.of (fun tt_ zz_ => XS.iconst X14.here hx rfl (hb hby at_39) zz_) ?_
    show Dn p e below s (own_Q n0) 24 128 (T14.setTop (mkF m 40 #[.val (.int i0), .val (.int i1), .val (.int i2), .val (.int i3), .val (.int i4), .val (.int i5), .val (.int z), .val (.int i), .val (.int j), .val (.int k), .val (.ref b14), .unset, .unset, .unset] [(.int (1 : Int32))]))
    obtain ⟨T15, h15, k15, X15, e15, E15, A15, B15, st15⟩ := newPE X14 hx hZ (hw _ (List.mem_of_getElem? (i := 1) rfl)) e14 (g := (mkF m 40 #[.val (.int i0), .val (.int i1), .val (.int i2), .val (.int i3), .val (.int i4), .val (.int i5), .val (.int z), .val (.int i), .val (.int j), .val (.int k), .val (.ref b14), .unset, .unset, .unset] [(.int (1 : Int32))])) rfl (hb hby at_40) rfl (by decide) (cap := 1) (by decide) (by decide) (by decide) (by decide) (ad := "[D") rfl
    obtain ⟨b15, g15⟩ : ∃ z, z = h14.size := ⟨_, rfl⟩
    rw [← g15] at A15 B15 st15
    refine Dn.of st15 ?_
    show Dn p e below s (own_Q n0) 24 128 (T15.setTop (mkF m 42 #[.val (.int i0), .val (.int i1), .val (.int i2), .val (.int i3), .val (.int i4), .val (.int i5), .val (.int z), .val (.int i), .val (.int j), .val (.int k), .val (.ref b14), .unset, .unset, .unset] [(.ref b15)]))
    refine Dn.of (fun tt_ zz_ => XS.astore X15.here hx rfl (hb hby at_42) rfl rfl (l' := #[.val (.int i0), .val (.int i1), .val (.int i2), .val (.int i3), .val (.int i4), .val (.int i5), .val (.int z), .val (.int i), .val (.int j), .val (.int k), .val (.ref b14), .val (.ref b15), .unset, .unset]) rfl zz_) ?_
    show Dn p e below s (own_Q n0) 24 128 (T15.setTop (mkF m 44 #[.val (.int i0), .val (.int i1), .val (.int i2), .val (.int i3), .val (.int i4), .val (.int i5), .val (.int z), .val (.int i), .val (.int j), .val (.int k), .val (.ref b14), .val (.ref b15), .unset, .unset] []))
    refine Dn.of (fun tt_ zz_ => XS.iload X15.here hx rfl (hb hby at_44) rfl zz_) ?_
    show Dn p e below s (own_Q n0) 24 128 (T15.setTop (mkF m 46 #[.val (.int i0), .val (.int i1), .val (.int i2), .val (.int i3), .val (.int i4), .val (.int i5), .val (.int z), .val (.int i), .val (.int j), .val (.int k), .val (.ref b14), .val (.ref b15), .unset, .unset] [(.int i5)]))
    refine Dn.of (fun tt_ zz_ => XS.iconst X15.here hx rfl (hb hby at_46) zz_) ?_
    show Dn p e below s (own_Q n0) 24 128 (T15.setTop (mkF m 47 #[.val (.int i0), .val (.int i1), .val (.int i2), .val (.int i3), .val (.int i4), .val (.int i5), .val (.int z), .val (.int i), .val (.int j), .val (.int k), .val (.ref b14), .val (.ref b15), .unset, .unset] [(.int (1 : Int32)), (.int i5)]))
    refine Dn.of (fun tt_ zz_ => XS.iand X15.here hx rfl (hb hby at_47) rfl zz_) ?_
    show Dn p e below s (own_Q n0) 24 128 (T15.setTop (mkF m 48 #[.val (.int i0), .val (.int i1), .val (.int i2), .val (.int i3), .val (.int i4), .val (.int i5), .val (.int z), .val (.int i), .val (.int j), .val (.int k), .val (.ref b14), .val (.ref b15), .unset, .unset] [(.int (i5 &&& (1 : Int32)))]))
    have K59 : ∀ f : Value, (f = .null ∨ f = .ref b14) → Dn p e below s (own_Q n0) 24 128 (T15.setTop (mkF m 59 #[.val (.int i0), .val (.int i1), .val (.int i2), .val (.int i3), .val (.int i4), .val (.int i5), .val (.int z), .val (.int i), .val (.int j), .val (.int k), .val (.ref b14), .val (.ref b15), .val f, .unset] [])) := by
      intro f hf
      have rf : f.isRef = true := by rcases hf with rfl | rfl <;> rfl
      obtain ⟨T16, h16, X16, e16, E16, A16, D16, U16, st16⟩ := newO X15 hx hZ hown (hw _ (List.mem_of_getElem? (i := 2) rfl)) (hw _ (List.mem_of_getElem? (i := 3) rfl)) (hw _ (List.mem_of_getElem? (i := 4) rfl)) e15 (g := (mkF m 59 #[.val (.int i0), .val (.int i1), .val (.int i2), .val (.int i3), .val (.int i4), .val (.int i5), .val (.int z), .val (.int i), .val (.int j), .val (.int k), .val (.ref b14), .val (.ref b15), .val f, .unset] [])) rfl (hb hby at_59) (by decide) (by decide)
      obtain ⟨b16, g16⟩ : ∃ z, z = h15.size := ⟨_, rfl⟩
      rw [← g16] at A16 D16 U16 st16
      refine Dn.of st16 ?_
      show Dn p e below s (own_Q n0) 24 128 (T16.setTop (mkF m 62 #[.val (.int i0), .val (.int i1), .val (.int i2), .val (.int i3), .val (.int i4), .val (.int i5), .val (.int z), .val (.int i), .val (.int j), .val (.int k), .val (.ref b14), .val (.ref b15), .val f, .unset] [(.ref b16)]))
      have F_values_16 : Fld Z h16 b16 "com/example/wyrd/wyrd/model/Frame" "values" "[D" .null := D16 (Or.inr (hw _ (List.mem_of_getElem? (i := 12) rfl))) (ty := (.array .double)) (by decide)
      have F_referenceStores_16 : Fld Z h16 b16 "com/example/wyrd/wyrd/model/Frame" "referenceStores" "[[D" .null := D16 (Or.inr (hw _ (List.mem_of_getElem? (i := 16) rfl))) (ty := (.array (.array .double))) (by decide)
      have F_referenceOffsets_16 : Fld Z h16 b16 "com/example/wyrd/wyrd/model/Frame" "referenceOffsets" "[I" .null := D16 (Or.inr (hw _ (List.mem_of_getElem? (i := 19) rfl))) (ty := (.array .int)) (by decide)
      have Z1 : n0 ≤ h15.size := Nat.le_trans (Nat.le_trans Z0 E14.1) E15.1
      have Z2 : n0 ≤ h16.size := Nat.le_trans Z1 E16.1
      have gb : n0 ≤ b16 := g16 ▸ Z1
      refine Dn.of (fun tt_ zz_ => XS.dup X16.here hx rfl (hb hby at_62) rfl rfl zz_) ?_
      show Dn p e below s (own_Q n0) 24 128 (T16.setTop (mkF m 63 #[.val (.int i0), .val (.int i1), .val (.int i2), .val (.int i3), .val (.int i4), .val (.int i5), .val (.int z), .val (.int i), .val (.int j), .val (.int k), .val (.ref b14), .val (.ref b15), .val f, .unset] [(.ref b16), (.ref b16)]))
      refine Dn.of (fun tt_ zz_ => XS.iload X16.here hx rfl (hb hby at_63) rfl zz_) ?_
      show Dn p e below s (own_Q n0) 24 128 (T16.setTop (mkF m 65 #[.val (.int i0), .val (.int i1), .val (.int i2), .val (.int i3), .val (.int i4), .val (.int i5), .val (.int z), .val (.int i), .val (.int j), .val (.int k), .val (.ref b14), .val (.ref b15), .val f, .unset] [(.int i5), (.ref b16), (.ref b16)]))
      refine Dn.of (fun tt_ zz_ => XS.iconst X16.here hx rfl (hb hby at_65) zz_) ?_
      show Dn p e below s (own_Q n0) 24 128 (T16.setTop (mkF m 66 #[.val (.int i0), .val (.int i1), .val (.int i2), .val (.int i3), .val (.int i4), .val (.int i5), .val (.int z), .val (.int i), .val (.int j), .val (.int k), .val (.ref b14), .val (.ref b15), .val f, .unset] [(.int (3 : Int32)), (.int i5), (.ref b16), (.ref b16)]))
      refine Dn.of (fun tt_ zz_ => XS.iand X16.here hx rfl (hb hby at_66) rfl zz_) ?_
      show Dn p e below s (own_Q n0) 24 128 (T16.setTop (mkF m 67 #[.val (.int i0), .val (.int i1), .val (.int i2), .val (.int i3), .val (.int i4), .val (.int i5), .val (.int z), .val (.int i), .val (.int j), .val (.int k), .val (.ref b14), .val (.ref b15), .val f, .unset] [(.int (i5 &&& (3 : Int32))), (.ref b16), (.ref b16)]))
      refine Dn.of (fun tt_ zz_ => XS.iload X16.here hx rfl (hb hby at_67) rfl zz_) ?_
      show Dn p e below s (own_Q n0) 24 128 (T16.setTop (mkF m 69 #[.val (.int i0), .val (.int i1), .val (.int i2), .val (.int i3), .val (.int i4), .val (.int i5), .val (.int z), .val (.int i), .val (.int j), .val (.int k), .val (.ref b14), .val (.ref b15), .val f, .unset] [(.int z), (.int (i5 &&& (3 : Int32))), (.ref b16), (.ref b16)]))
      obtain ⟨v17, T17, L17, Q17, X17, st17⟩ := cIn X16 hx hZ (y := (⟨"com/example/wyrd/wyrd/model/Frame", "<init>", "(II)V"⟩ : MethodName)) rfl hown (hw _ (List.mem_of_getElem? (i := 5) rfl)) (hw _ (List.mem_of_getElem? (i := 6) rfl)) (hw _ (List.mem_of_getElem? (i := 4) rfl)) (hw _ (List.mem_of_getElem? (i := 7) rfl)) (by decide) (a := b16) (argsL := [(.int (i5 &&& (3 : Int32))), (.int z)]) (rest := [(.ref b16)]) (rm1 l Z a0 hw h16 n0 Z2 b16 (i5 &&& (3 : Int32)) z A16 F_values_16 F_referenceStores_16 F_referenceOffsets_16 gb (own_m3 i5).1 (own_m3 i5).2 c3 c4) e16  1 (by decide) (by decide) (by decide) (by decide) (g := (mkF m 69 #[.val (.int i0), .val (.int i1), .val (.int i2), .val (.int i3), .val (.int i4), .val (.int i5), .val (.int z), .val (.int i), .val (.int j), .val (.int k), .val (.ref b14), .val (.ref b15), .val f, .unset] [(.int z), (.int (i5 &&& (3 : Int32))), (.ref b16), (.ref b16)])) rfl (by rw [hml]; rfl) (lenOf pd0 rfl) rfl (by show 2 * 0 + _ ≤ _; exact Nat.le_of_eq rfl) (hb hby at_69)
      obtain ⟨rfl, M1, K1, rs, ro, k1, k2, G1, G2, l1, l2, ne, R1, R2, O1⟩ := Q17
      refine Dn.of st17 ?_
      show Dn p e below s (own_Q n0) 24 128 (T17.setTop (mkF m 72 #[.val (.int i0), .val (.int i1), .val (.int i2), .val (.int i3), .val (.int i4), .val (.int i5), .val (.int z), .val (.int i), .val (.int j), .val (.int k), .val (.ref b14), .val (.ref b15), .val f, .unset] [(.ref b16)]))
      have nb : b16 ≠ rs := Nat.ne_of_lt (Nat.lt_of_lt_of_le A16.lt l1)
      have nb' : b16 ≠ ro := Nat.ne_of_lt (Nat.lt_of_lt_of_le A16.lt l2)
      have P1 : n0 ≤ rs := Nat.le_trans Z2 l1
      have P2 : n0 ≤ ro := Nat.le_trans Z2 l2
      have Z3 : n0 ≤ T17.heap.size := Nat.le_trans Z2 K1.1
      have B1 : Exa Z T17.heap b14 "[D" := ((B14.ext E15).ext E16).keep K1
      have B2 : Exa Z T17.heap b15 "[D" := (B15.ext E16).keep K1
      have Ea := A16.keep K1
      have St1 : Sto Z T17.heap rs (.ref b15) := by obtain ⟨c1, A1, p1, -⟩ := R1; exact Sto.ofVA A1 p1 O1 (Ins.self B2)
      refine Dn.of (fun tt_ zz_ => XS.astore X17.here hx rfl (hb hby at_72) rfl rfl (l' := #[.val (.int i0), .val (.int i1), .val (.int i2), .val (.int i3), .val (.int i4), .val (.int i5), .val (.int z), .val (.int i), .val (.int j), .val (.int k), .val (.ref b14), .val (.ref b15), .val f, .val (.ref b16)]) rfl zz_) ?_
      show Dn p e below s (own_Q n0) 24 128 (T17.setTop (mkF m 74 #[.val (.int i0), .val (.int i1), .val (.int i2), .val (.int i3), .val (.int i4), .val (.int i5), .val (.int z), .val (.int i), .val (.int j), .val (.int k), .val (.ref b14), .val (.ref b15), .val f, .val (.ref b16)] []))
      refine Dn.of (fun tt_ zz_ => XS.aload X17.here hx rfl (hb hby at_74) rfl rfl zz_) ?_
      show Dn p e below s (own_Q n0) 24 128 (T17.setTop (mkF m 76 #[.val (.int i0), .val (.int i1), .val (.int i2), .val (.int i3), .val (.int i4), .val (.int i5), .val (.int z), .val (.int i), .val (.int j), .val (.int k), .val (.ref b14), .val (.ref b15), .val f, .val (.ref b16)] [(.ref b16)]))
      refine Dn.of (fun tt_ zz_ => XS.iload X17.here hx rfl (hb hby at_76) rfl zz_) ?_
      show Dn p e below s (own_Q n0) 24 128 (T17.setTop (mkF m 78 #[.val (.int i0), .val (.int i1), .val (.int i2), .val (.int i3), .val (.int i4), .val (.int i5), .val (.int z), .val (.int i), .val (.int j), .val (.int k), .val (.ref b14), .val (.ref b15), .val f, .val (.ref b16)] [(.int j), (.ref b16)]))
      refine Dn.of (fun tt_ zz_ => XS.aload X17.here hx rfl (hb hby at_78) rfl rfl zz_) ?_
      show Dn p e below s (own_Q n0) 24 128 (T17.setTop (mkF m 80 #[.val (.int i0), .val (.int i1), .val (.int i2), .val (.int i3), .val (.int i4), .val (.int i5), .val (.int z), .val (.int i), .val (.int j), .val (.int k), .val (.ref b14), .val (.ref b15), .val f, .val (.ref b16)] [(.ref b15), (.int j), (.ref b16)]))
      refine Dn.of (fun tt_ zz_ => XS.iload X17.here hx rfl (hb hby at_80) rfl zz_) ?_
      show Dn p e below s (own_Q n0) 24 128 (T17.setTop (mkF m 82 #[.val (.int i0), .val (.int i1), .val (.int i2), .val (.int i3), .val (.int i4), .val (.int i5), .val (.int z), .val (.int i), .val (.int j), .val (.int k), .val (.ref b14), .val (.ref b15), .val f, .val (.ref b16)] [(.int i4), (.ref b15), (.int j), (.ref b16)]))
      obtain ⟨v18, T18, L18, Q18, X18, st18⟩ := cVi X17 hx hZ (C := "com/example/wyrd/wyrd/model/Frame") (y := (⟨"com/example/wyrd/wyrd/model/Frame", "refer", "(I[DI)V"⟩ : MethodName)) (z := (⟨"com/example/wyrd/wyrd/model/Frame", "refer", "(I[DI)V"⟩ : MethodName)) hown (hw _ (List.mem_of_getElem? (i := 20) rfl)) (hw _ (List.mem_of_getElem? (i := 21) rfl)) (notFace_of_selects (args := #[]) (mvT hZ (hw _ (List.mem_of_getElem? (i := 23) rfl)))) (hw _ (List.mem_of_getElem? (i := 23) rfl)) (hw _ (List.mem_of_getElem? (i := 22) rfl)) (hw _ (List.mem_of_getElem? (i := 4) rfl)) (hw _ (List.mem_of_getElem? (i := 24) rfl)) (by decide) (a := b16) (argsL := [(.int j), (.ref b15), (.int i4)]) (rest := []) (rm3 l Z a0 hw T17.heap n0 Z3 b16 rs ro k1 k2 z [] [] G1 G2 R1 R2 j i4 (.ref b15) rfl nb ne P1 P2 cj St1) rfl Ea 0 (by decide) (by decide) (by decide) (by decide) (g := (mkF m 82 #[.val (.int i0), .val (.int i1), .val (.int i2), .val (.int i3), .val (.int i4), .val (.int i5), .val (.int z), .val (.int i), .val (.int j), .val (.int k), .val (.ref b14), .val (.ref b15), .val f, .val (.ref b16)] [(.int i4), (.ref b15), (.int j), (.ref b16)])) rfl (by rw [hml]; rfl) (lenOf pd1 rfl) rfl (by show 2 * 0 + _ ≤ _; exact Nat.le_of_eq rfl) (hb hby at_82)
      obtain ⟨rfl, M2, K2, R1a, R2a⟩ := Q18
      refine Dn.of st18 ?_
      show Dn p e below s (own_Q n0) 24 128 (T18.setTop (mkF m 85 #[.val (.int i0), .val (.int i1), .val (.int i2), .val (.int i3), .val (.int i4), .val (.int i5), .val (.int z), .val (.int i), .val (.int j), .val (.int k), .val (.ref b14), .val (.ref b15), .val f, .val (.ref b16)] []))
      have nin : b16 ∉ [rs, ro] := ninS nb (ninS nb' nin0)
      have G1a := G1.keep K2 nin
      have G2a := G2.keep K2 nin
      have Eb := Ea.keep K2
      have Z4 := Nat.le_trans Z3 K2.1
      have St2 : Sto Z T18.heap rs f := by
          rcases hf with rfl | rfl
          · exact Or.inl rfl
          · obtain ⟨c1, A1, p1, -⟩ := R1a; exact Sto.ofVA A1 p1 O1 (Ins.self (B1.keep K2))
      refine Dn.of (fun tt_ zz_ => XS.aload X18.here hx rfl (hb hby at_85) rfl rfl zz_) ?_
      show Dn p e below s (own_Q n0) 24 128 (T18.setTop (mkF m 87 #[.val (.int i0), .val (.int i1), .val (.int i2), .val (.int i3), .val (.int i4), .val (.int i5), .val (.int z), .val (.int i), .val (.int j), .val (.int k), .val (.ref b14), .val (.ref b15), .val f, .val (.ref b16)] [(.ref b16)]))
      refine Dn.of (fun tt_ zz_ => XS.iload X18.here hx rfl (hb hby at_87) rfl zz_) ?_
      show Dn p e below s (own_Q n0) 24 128 (T18.setTop (mkF m 89 #[.val (.int i0), .val (.int i1), .val (.int i2), .val (.int i3), .val (.int i4), .val (.int i5), .val (.int z), .val (.int i), .val (.int j), .val (.int k), .val (.ref b14), .val (.ref b15), .val f, .val (.ref b16)] [(.int i), (.ref b16)]))
      refine Dn.of (fun tt_ zz_ => XS.aload X18.here hx rfl (hb hby at_89) rfl rf zz_) ?_
      show Dn p e below s (own_Q n0) 24 128 (T18.setTop (mkF m 91 #[.val (.int i0), .val (.int i1), .val (.int i2), .val (.int i3), .val (.int i4), .val (.int i5), .val (.int z), .val (.int i), .val (.int j), .val (.int k), .val (.ref b14), .val (.ref b15), .val f, .val (.ref b16)] [f, (.int i), (.ref b16)]))
      refine Dn.of (fun tt_ zz_ => XS.iloadN X18.here hx rfl (hb hby at_91) rfl zz_) ?_
      show Dn p e below s (own_Q n0) 24 128 (T18.setTop (mkF m 92 #[.val (.int i0), .val (.int i1), .val (.int i2), .val (.int i3), .val (.int i4), .val (.int i5), .val (.int z), .val (.int i), .val (.int j), .val (.int k), .val (.ref b14), .val (.ref b15), .val f, .val (.ref b16)] [(.int i3), f, (.int i), (.ref b16)]))
      obtain ⟨v19, T19, L19, Q19, X19, st19⟩ := cVi X18 hx hZ (C := "com/example/wyrd/wyrd/model/Frame") (y := (⟨"com/example/wyrd/wyrd/model/Frame", "refer", "(I[DI)V"⟩ : MethodName)) (z := (⟨"com/example/wyrd/wyrd/model/Frame", "refer", "(I[DI)V"⟩ : MethodName)) hown (hw _ (List.mem_of_getElem? (i := 20) rfl)) (hw _ (List.mem_of_getElem? (i := 21) rfl)) (notFace_of_selects (args := #[]) (mvT hZ (hw _ (List.mem_of_getElem? (i := 23) rfl)))) (hw _ (List.mem_of_getElem? (i := 23) rfl)) (hw _ (List.mem_of_getElem? (i := 22) rfl)) (hw _ (List.mem_of_getElem? (i := 4) rfl)) (hw _ (List.mem_of_getElem? (i := 24) rfl)) (by decide) (a := b16) (argsL := [(.int i), f, (.int i3)]) (rest := []) (rm3 l Z a0 hw T18.heap n0 Z4 b16 rs ro k1 k2 z _ _ G1a G2a R1a R2a i i3 f rf nb ne P1 P2 ci St2) rfl Eb 0 (by decide) (by decide) (by decide) (by decide) (g := (mkF m 92 #[.val (.int i0), .val (.int i1), .val (.int i2), .val (.int i3), .val (.int i4), .val (.int i5), .val (.int z), .val (.int i), .val (.int j), .val (.int k), .val (.ref b14), .val (.ref b15), .val f, .val (.ref b16)] [(.int i3), f, (.int i), (.ref b16)])) rfl (by rw [hml]; rfl) (lenOf pd1 rfl) rfl (by show 2 * 0 + _ ≤ _; exact Nat.le_of_eq rfl) (hb hby at_92)
      obtain ⟨rfl, M3, K3, R1b, R2b⟩ := Q19
      refine Dn.of st19 ?_
      show Dn p e below s (own_Q n0) 24 128 (T19.setTop (mkF m 95 #[.val (.int i0), .val (.int i1), .val (.int i2), .val (.int i3), .val (.int i4), .val (.int i5), .val (.int z), .val (.int i), .val (.int j), .val (.int k), .val (.ref b14), .val (.ref b15), .val f, .val (.ref b16)] []))
      have G1b := G1a.keep K3 nin
      have G2b := G2a.keep K3 nin
      have Ec := Eb.keep K3
      have Z5 := Nat.le_trans Z4 K3.1
      have N1 := Fr.app (Fr.app (Fr.app N0 M1) M2) M3
      refine Dn.of (fun tt_ zz_ => XS.aload X19.here hx rfl (hb hby at_95) rfl rfl zz_) ?_
      show Dn p e below s (own_Q n0) 24 128 (T19.setTop (mkF m 97 #[.val (.int i0), .val (.int i1), .val (.int i2), .val (.int i3), .val (.int i4), .val (.int i5), .val (.int z), .val (.int i), .val (.int j), .val (.int k), .val (.ref b14), .val (.ref b15), .val f, .val (.ref b16)] [(.ref b16)]))
      refine Dn.of (fun tt_ zz_ => XS.iload X19.here hx rfl (hb hby at_97) rfl zz_) ?_
      show Dn p e below s (own_Q n0) 24 128 (T19.setTop (mkF m 99 #[.val (.int i0), .val (.int i1), .val (.int i2), .val (.int i3), .val (.int i4), .val (.int i5), .val (.int z), .val (.int i), .val (.int j), .val (.int k), .val (.ref b14), .val (.ref b15), .val f, .val (.ref b16)] [(.int i), (.ref b16)]))
      obtain ⟨v20, T20, L20, Q20, X20, st20⟩ := cVi X19 hx hZ (C := "com/example/wyrd/wyrd/model/Frame") (y := (⟨"com/example/wyrd/wyrd/model/Frame", "referenceStore", "(I)[D"⟩ : MethodName)) (z := (⟨"com/example/wyrd/wyrd/model/Frame", "referenceStore", "(I)[D"⟩ : MethodName)) hown (hw _ (List.mem_of_getElem? (i := 26) rfl)) (hw _ (List.mem_of_getElem? (i := 27) rfl)) (notFace_of_selects (args := #[]) (mvT hZ (hw _ (List.mem_of_getElem? (i := 29) rfl)))) (hw _ (List.mem_of_getElem? (i := 29) rfl)) (hw _ (List.mem_of_getElem? (i := 28) rfl)) (hw _ (List.mem_of_getElem? (i := 4) rfl)) (hw _ (List.mem_of_getElem? (i := 30) rfl)) (by decide) (a := b16) (argsL := [(.int i)]) (rest := []) (rm4 l Z a0 hw T19.heap n0 Z5 b16 rs k1 z _ G1b R1b i ci f (getH_hit ci.1 rfl) rf) rfl Ec 0 (by decide) (by decide) (by decide) (by decide) (g := (mkF m 99 #[.val (.int i0), .val (.int i1), .val (.int i2), .val (.int i3), .val (.int i4), .val (.int i5), .val (.int z), .val (.int i), .val (.int j), .val (.int k), .val (.ref b14), .val (.ref b15), .val f, .val (.ref b16)] [(.int i), (.ref b16)])) rfl (by rw [hml]; rfl) (lenOf pd2 rfl) rfl (by show 2 * 0 + _ ≤ _; exact Nat.le_of_eq rfl) (hb hby at_99)
      obtain ⟨rfl, Ma20, e20⟩ := Q20
      refine Dn.of st20 ?_
      show Dn p e below s (own_Q n0) 24 128 (T20.setTop (mkF m 102 #[.val (.int i0), .val (.int i1), .val (.int i2), .val (.int i3), .val (.int i4), .val (.int i5), .val (.int z), .val (.int i), .val (.int j), .val (.int k), .val (.ref b14), .val (.ref b15), .val f, .val (.ref b16)] [f]))
      have Na20 := Fr.app N1 Ma20
      refine Dn.of (fun tt_ zz_ => XS.aload X20.here hx rfl (hb hby at_102) rfl rf zz_) ?_
      show Dn p e below s (own_Q n0) 24 128 (T20.setTop (mkF m 104 #[.val (.int i0), .val (.int i1), .val (.int i2), .val (.int i3), .val (.int i4), .val (.int i5), .val (.int z), .val (.int i), .val (.int j), .val (.int k), .val (.ref b14), .val (.ref b15), .val f, .val (.ref b16)] [f, f]))
      refine Dn.of (fun tt_ zz_ => Jvm.RoadKit.acmp (g := (mkF m 104 #[.val (.int i0), .val (.int i1), .val (.int i2), .val (.int i3), .val (.int i4), .val (.int i5), .val (.int z), .val (.int i), .val (.int j), .val (.int k), .val (.ref b14), .val (.ref b15), .val f, .val (.ref b16)] [f, f])) X20 hx rfl rf rf (pc0 := 104) (pc' := 109) (same := true) rfl (hb hby at_104) rfl (decide_eq_true rfl) (by decide) (by decide) zz_) ?_
      show Dn p e below s (own_Q n0) 24 128 (T20.setTop (mkF m 109 #[.val (.int i0), .val (.int i1), .val (.int i2), .val (.int i3), .val (.int i4), .val (.int i5), .val (.int z), .val (.int i), .val (.int j), .val (.int k), .val (.ref b14), .val (.ref b15), .val f, .val (.ref b16)] []))
      refine Dn.of (fun tt_ zz_ => XS.aload X20.here hx rfl (hb hby at_109) rfl rfl zz_) ?_
      show Dn p e below s (own_Q n0) 24 128 (T20.setTop (mkF m 111 #[.val (.int i0), .val (.int i1), .val (.int i2), .val (.int i3), .val (.int i4), .val (.int i5), .val (.int z), .val (.int i), .val (.int j), .val (.int k), .val (.ref b14), .val (.ref b15), .val f, .val (.ref b16)] [(.ref b16)]))
      refine Dn.of (fun tt_ zz_ => XS.iload X20.here hx rfl (hb hby at_111) rfl zz_) ?_
      show Dn p e below s (own_Q n0) 24 128 (T20.setTop (mkF m 113 #[.val (.int i0), .val (.int i1), .val (.int i2), .val (.int i3), .val (.int i4), .val (.int i5), .val (.int z), .val (.int i), .val (.int j), .val (.int k), .val (.ref b14), .val (.ref b15), .val f, .val (.ref b16)] [(.int i), (.ref b16)]))
      obtain ⟨v21, T21, L21, Q21, X21, st21⟩ := cVi X20 hx hZ (C := "com/example/wyrd/wyrd/model/Frame") (y := (⟨"com/example/wyrd/wyrd/model/Frame", "referenceOffset", "(I)I"⟩ : MethodName)) (z := (⟨"com/example/wyrd/wyrd/model/Frame", "referenceOffset", "(I)I"⟩ : MethodName)) hown (hw _ (List.mem_of_getElem? (i := 31) rfl)) (hw _ (List.mem_of_getElem? (i := 32) rfl)) (notFace_of_selects (args := #[]) (mvT hZ (hw _ (List.mem_of_getElem? (i := 34) rfl)))) (hw _ (List.mem_of_getElem? (i := 34) rfl)) (hw _ (List.mem_of_getElem? (i := 33) rfl)) (hw _ (List.mem_of_getElem? (i := 4) rfl)) (hw _ (List.mem_of_getElem? (i := 35) rfl)) (by decide) (a := b16) (argsL := [(.int i)]) (rest := []) (rm5 l Z a0 hw T19.heap n0 Z5 b16 ro k2 z _ G2b R2b i ci i3 (getH_hit ci.1 rfl)) e20 Ec 0 (by decide) (by decide) (by decide) (by decide) (g := (mkF m 113 #[.val (.int i0), .val (.int i1), .val (.int i2), .val (.int i3), .val (.int i4), .val (.int i5), .val (.int z), .val (.int i), .val (.int j), .val (.int k), .val (.ref b14), .val (.ref b15), .val f, .val (.ref b16)] [(.int i), (.ref b16)])) rfl (by rw [hml]; rfl) (lenOf pd3 rfl) rfl (by show 2 * 0 + _ ≤ _; exact Nat.le_of_eq rfl) (hb hby at_113)
      obtain ⟨rfl, Ma21, e21⟩ := Q21
      refine Dn.of st21 ?_
      show Dn p e below s (own_Q n0) 24 128 (T21.setTop (mkF m 116 #[.val (.int i0), .val (.int i1), .val (.int i2), .val (.int i3), .val (.int i4), .val (.int i5), .val (.int z), .val (.int i), .val (.int j), .val (.int k), .val (.ref b14), .val (.ref b15), .val f, .val (.ref b16)] [(.int i3)]))
      have Na21 := Fr.app Na20 Ma21
      refine Dn.of (fun tt_ zz_ => XS.iloadN X21.here hx rfl (hb hby at_116) rfl zz_) ?_
      show Dn p e below s (own_Q n0) 24 128 (T21.setTop (mkF m 117 #[.val (.int i0), .val (.int i1), .val (.int i2), .val (.int i3), .val (.int i4), .val (.int i5), .val (.int z), .val (.int i), .val (.int j), .val (.int k), .val (.ref b14), .val (.ref b15), .val f, .val (.ref b16)] [(.int i3), (.int i3)]))
      refine Dn.of (fun tt_ zz_ => XS.icmpYes X21.here hx rfl (pc0 := 117) (pc' := 122) rfl (hb hby at_117) rfl (teq rfl).1 (by decide) (by decide) zz_) ?_
      show Dn p e below s (own_Q n0) 24 128 (T21.setTop (mkF m 122 #[.val (.int i0), .val (.int i1), .val (.int i2), .val (.int i3), .val (.int i4), .val (.int i5), .val (.int z), .val (.int i), .val (.int j), .val (.int k), .val (.ref b14), .val (.ref b15), .val f, .val (.ref b16)] []))
      refine Dn.of (fun tt_ zz_ => XS.iload X21.here hx rfl (hb hby at_122) rfl zz_) ?_
      show Dn p e below s (own_Q n0) 24 128 (T21.setTop (mkF m 124 #[.val (.int i0), .val (.int i1), .val (.int i2), .val (.int i3), .val (.int i4), .val (.int i5), .val (.int z), .val (.int i), .val (.int j), .val (.int k), .val (.ref b14), .val (.ref b15), .val f, .val (.ref b16)] [(.int j)]))
      refine Dn.of (fun tt_ zz_ => XS.iload X21.here hx rfl (hb hby at_124) rfl zz_) ?_
      show Dn p e below s (own_Q n0) 24 128 (T21.setTop (mkF m 126 #[.val (.int i0), .val (.int i1), .val (.int i2), .val (.int i3), .val (.int i4), .val (.int i5), .val (.int z), .val (.int i), .val (.int j), .val (.int k), .val (.ref b14), .val (.ref b15), .val f, .val (.ref b16)] [(.int i), (.int j)]))
      by_cases h1 : j = i
      · skip
        refine Dn.of (fun tt_ zz_ => XS.icmpYes X21.here hx rfl (pc0 := 126) (pc' := 157) rfl (hb hby at_126) rfl (teq h1).1 (by decide) (by decide) zz_) ?_
        show Dn p e below s (own_Q n0) 24 128 (T21.setTop (mkF m 157 #[.val (.int i0), .val (.int i1), .val (.int i2), .val (.int i3), .val (.int i4), .val (.int i5), .val (.int z), .val (.int i), .val (.int j), .val (.int k), .val (.ref b14), .val (.ref b15), .val f, .val (.ref b16)] []))
        refine Dn.of (fun tt_ zz_ => XS.iload X21.here hx rfl (hb hby at_157) rfl zz_) ?_
        show Dn p e below s (own_Q n0) 24 128 (T21.setTop (mkF m 159 #[.val (.int i0), .val (.int i1), .val (.int i2), .val (.int i3), .val (.int i4), .val (.int i5), .val (.int z), .val (.int i), .val (.int j), .val (.int k), .val (.ref b14), .val (.ref b15), .val f, .val (.ref b16)] [(.int k)]))
        refine Dn.of (fun tt_ zz_ => XS.iload X21.here hx rfl (hb hby at_159) rfl zz_) ?_
        show Dn p e below s (own_Q n0) 24 128 (T21.setTop (mkF m 161 #[.val (.int i0), .val (.int i1), .val (.int i2), .val (.int i3), .val (.int i4), .val (.int i5), .val (.int z), .val (.int i), .val (.int j), .val (.int k), .val (.ref b14), .val (.ref b15), .val f, .val (.ref b16)] [(.int i), (.int k)]))
        by_cases h2 : k = i
        · skip
          refine Dn.of (fun tt_ zz_ => XS.icmpYes X21.here hx rfl (pc0 := 161) (pc' := 195) rfl (hb hby at_161) rfl (teq h2).1 (by decide) (by decide) zz_) ?_
          show Dn p e below s (own_Q n0) 24 128 (T21.setTop (mkF m 195 #[.val (.int i0), .val (.int i1), .val (.int i2), .val (.int i3), .val (.int i4), .val (.int i5), .val (.int z), .val (.int i), .val (.int j), .val (.int k), .val (.ref b14), .val (.ref b15), .val f, .val (.ref b16)] []))
          refine Dn.of (fun tt_ zz_ => XS.iconst X21.here hx rfl (hb hby at_195) zz_) ?_
          show Dn p e below s (own_Q n0) 24 128 (T21.setTop (mkF m 196 #[.val (.int i0), .val (.int i1), .val (.int i2), .val (.int i3), .val (.int i4), .val (.int i5), .val (.int z), .val (.int i), .val (.int j), .val (.int k), .val (.ref b14), .val (.ref b15), .val f, .val (.ref b16)] [(.int (1 : Int32))]))
          exact Dn.retN X21 hx hlk (t := .boolean) hret (by simp) (hb hby at_196) (by decide) (by decide) (⟨rfl, Na21⟩)
        · skip
          refine Dn.of (fun tt_ zz_ => XS.icmpNo X21.here hx rfl (hb hby at_161) rfl (feq h2).1 zz_) ?_
          show Dn p e below s (own_Q n0) 24 128 (T21.setTop (mkF m 164 #[.val (.int i0), .val (.int i1), .val (.int i2), .val (.int i3), .val (.int i4), .val (.int i5), .val (.int z), .val (.int i), .val (.int j), .val (.int k), .val (.ref b14), .val (.ref b15), .val f, .val (.ref b16)] []))
          refine Dn.of (fun tt_ zz_ => XS.iload X21.here hx rfl (hb hby at_164) rfl zz_) ?_
          show Dn p e below s (own_Q n0) 24 128 (T21.setTop (mkF m 166 #[.val (.int i0), .val (.int i1), .val (.int i2), .val (.int i3), .val (.int i4), .val (.int i5), .val (.int z), .val (.int i), .val (.int j), .val (.int k), .val (.ref b14), .val (.ref b15), .val f, .val (.ref b16)] [(.int k)]))
          refine Dn.of (fun tt_ zz_ => XS.iload X21.here hx rfl (hb hby at_166) rfl zz_) ?_
          show Dn p e below s (own_Q n0) 24 128 (T21.setTop (mkF m 168 #[.val (.int i0), .val (.int i1), .val (.int i2), .val (.int i3), .val (.int i4), .val (.int i5), .val (.int z), .val (.int i), .val (.int j), .val (.int k), .val (.ref b14), .val (.ref b15), .val f, .val (.ref b16)] [(.int j), (.int k)]))
          by_cases h3 : k = j
          · skip
            refine Dn.of (fun tt_ zz_ => XS.icmpYes X21.here hx rfl (pc0 := 168) (pc' := 195) rfl (hb hby at_168) rfl (teq h3).1 (by decide) (by decide) zz_) ?_
            show Dn p e below s (own_Q n0) 24 128 (T21.setTop (mkF m 195 #[.val (.int i0), .val (.int i1), .val (.int i2), .val (.int i3), .val (.int i4), .val (.int i5), .val (.int z), .val (.int i), .val (.int j), .val (.int k), .val (.ref b14), .val (.ref b15), .val f, .val (.ref b16)] []))
            refine Dn.of (fun tt_ zz_ => XS.iconst X21.here hx rfl (hb hby at_195) zz_) ?_
            show Dn p e below s (own_Q n0) 24 128 (T21.setTop (mkF m 196 #[.val (.int i0), .val (.int i1), .val (.int i2), .val (.int i3), .val (.int i4), .val (.int i5), .val (.int z), .val (.int i), .val (.int j), .val (.int k), .val (.ref b14), .val (.ref b15), .val f, .val (.ref b16)] [(.int (1 : Int32))]))
            exact Dn.retN X21 hx hlk (t := .boolean) hret (by simp) (hb hby at_196) (by decide) (by decide) (⟨rfl, Na21⟩)
          · skip
            refine Dn.of (fun tt_ zz_ => XS.icmpNo X21.here hx rfl (hb hby at_168) rfl (feq h3).1 zz_) ?_
            show Dn p e below s (own_Q n0) 24 128 (T21.setTop (mkF m 171 #[.val (.int i0), .val (.int i1), .val (.int i2), .val (.int i3), .val (.int i4), .val (.int i5), .val (.int z), .val (.int i), .val (.int j), .val (.int k), .val (.ref b14), .val (.ref b15), .val f, .val (.ref b16)] []))
            refine Dn.of (fun tt_ zz_ => XS.aload X21.here hx rfl (hb hby at_171) rfl rfl zz_) ?_
            show Dn p e below s (own_Q n0) 24 128 (T21.setTop (mkF m 173 #[.val (.int i0), .val (.int i1), .val (.int i2), .val (.int i3), .val (.int i4), .val (.int i5), .val (.int z), .val (.int i), .val (.int j), .val (.int k), .val (.ref b14), .val (.ref b15), .val f, .val (.ref b16)] [(.ref b16)]))
            refine Dn.of (fun tt_ zz_ => XS.iload X21.here hx rfl (hb hby at_173) rfl zz_) ?_
            show Dn p e below s (own_Q n0) 24 128 (T21.setTop (mkF m 175 #[.val (.int i0), .val (.int i1), .val (.int i2), .val (.int i3), .val (.int i4), .val (.int i5), .val (.int z), .val (.int i), .val (.int j), .val (.int k), .val (.ref b14), .val (.ref b15), .val f, .val (.ref b16)] [(.int k), (.ref b16)]))
            obtain ⟨v22, T22, L22, Q22, X22, st22⟩ := cVi X21 hx hZ (C := "com/example/wyrd/wyrd/model/Frame") (y := (⟨"com/example/wyrd/wyrd/model/Frame", "referenceStore", "(I)[D"⟩ : MethodName)) (z := (⟨"com/example/wyrd/wyrd/model/Frame", "referenceStore", "(I)[D"⟩ : MethodName)) hown (hw _ (List.mem_of_getElem? (i := 26) rfl)) (hw _ (List.mem_of_getElem? (i := 27) rfl)) (notFace_of_selects (args := #[]) (mvT hZ (hw _ (List.mem_of_getElem? (i := 29) rfl)))) (hw _ (List.mem_of_getElem? (i := 29) rfl)) (hw _ (List.mem_of_getElem? (i := 28) rfl)) (hw _ (List.mem_of_getElem? (i := 4) rfl)) (hw _ (List.mem_of_getElem? (i := 30) rfl)) (by decide) (a := b16) (argsL := [(.int k)]) (rest := []) (rm4 l Z a0 hw T19.heap n0 Z5 b16 rs k1 z _ G1b R1b k ck .null (getH_miss ck.1 h2 (getH_miss ck.1 h3 rfl)) rfl) e21 Ec 0 (by decide) (by decide) (by decide) (by decide) (g := (mkF m 175 #[.val (.int i0), .val (.int i1), .val (.int i2), .val (.int i3), .val (.int i4), .val (.int i5), .val (.int z), .val (.int i), .val (.int j), .val (.int k), .val (.ref b14), .val (.ref b15), .val f, .val (.ref b16)] [(.int k), (.ref b16)])) rfl (by rw [hml]; rfl) (lenOf pd2 rfl) rfl (by show 2 * 0 + _ ≤ _; exact Nat.le_of_eq rfl) (hb hby at_175)
            obtain ⟨rfl, Ma22, e22⟩ := Q22
            refine Dn.of st22 ?_
            show Dn p e below s (own_Q n0) 24 128 (T22.setTop (mkF m 178 #[.val (.int i0), .val (.int i1), .val (.int i2), .val (.int i3), .val (.int i4), .val (.int i5), .val (.int z), .val (.int i), .val (.int j), .val (.int k), .val (.ref b14), .val (.ref b15), .val f, .val (.ref b16)] [.null]))
            have Na22 := Fr.app Na21 Ma22
            refine Dn.of (fun tt_ zz_ => XS.ifnullYes X22.here hx rfl (pc0 := 178) (pc' := 183) rfl (hb hby at_178) rfl (by decide) (by decide) zz_) ?_
            show Dn p e below s (own_Q n0) 24 128 (T22.setTop (mkF m 183 #[.val (.int i0), .val (.int i1), .val (.int i2), .val (.int i3), .val (.int i4), .val (.int i5), .val (.int z), .val (.int i), .val (.int j), .val (.int k), .val (.ref b14), .val (.ref b15), .val f, .val (.ref b16)] []))
            refine Dn.of (fun tt_ zz_ => XS.aload X22.here hx rfl (hb hby at_183) rfl rfl zz_) ?_
            show Dn p e below s (own_Q n0) 24 128 (T22.setTop (mkF m 185 #[.val (.int i0), .val (.int i1), .val (.int i2), .val (.int i3), .val (.int i4), .val (.int i5), .val (.int z), .val (.int i), .val (.int j), .val (.int k), .val (.ref b14), .val (.ref b15), .val f, .val (.ref b16)] [(.ref b16)]))
            refine Dn.of (fun tt_ zz_ => XS.iload X22.here hx rfl (hb hby at_185) rfl zz_) ?_
            show Dn p e below s (own_Q n0) 24 128 (T22.setTop (mkF m 187 #[.val (.int i0), .val (.int i1), .val (.int i2), .val (.int i3), .val (.int i4), .val (.int i5), .val (.int z), .val (.int i), .val (.int j), .val (.int k), .val (.ref b14), .val (.ref b15), .val f, .val (.ref b16)] [(.int k), (.ref b16)]))
            obtain ⟨v23, T23, L23, Q23, X23, st23⟩ := cVi X22 hx hZ (C := "com/example/wyrd/wyrd/model/Frame") (y := (⟨"com/example/wyrd/wyrd/model/Frame", "referenceOffset", "(I)I"⟩ : MethodName)) (z := (⟨"com/example/wyrd/wyrd/model/Frame", "referenceOffset", "(I)I"⟩ : MethodName)) hown (hw _ (List.mem_of_getElem? (i := 31) rfl)) (hw _ (List.mem_of_getElem? (i := 32) rfl)) (notFace_of_selects (args := #[]) (mvT hZ (hw _ (List.mem_of_getElem? (i := 34) rfl)))) (hw _ (List.mem_of_getElem? (i := 34) rfl)) (hw _ (List.mem_of_getElem? (i := 33) rfl)) (hw _ (List.mem_of_getElem? (i := 4) rfl)) (hw _ (List.mem_of_getElem? (i := 35) rfl)) (by decide) (a := b16) (argsL := [(.int k)]) (rest := []) (rm5 l Z a0 hw T19.heap n0 Z5 b16 ro k2 z _ G2b R2b k ck (0 : Int32) (getH_miss ck.1 h2 (getH_miss ck.1 h3 rfl))) e22 Ec 0 (by decide) (by decide) (by decide) (by decide) (g := (mkF m 187 #[.val (.int i0), .val (.int i1), .val (.int i2), .val (.int i3), .val (.int i4), .val (.int i5), .val (.int z), .val (.int i), .val (.int j), .val (.int k), .val (.ref b14), .val (.ref b15), .val f, .val (.ref b16)] [(.int k), (.ref b16)])) rfl (by rw [hml]; rfl) (lenOf pd3 rfl) rfl (by show 2 * 0 + _ ≤ _; exact Nat.le_of_eq rfl) (hb hby at_187)
            obtain ⟨rfl, Ma23, e23⟩ := Q23
            refine Dn.of st23 ?_
            show Dn p e below s (own_Q n0) 24 128 (T23.setTop (mkF m 190 #[.val (.int i0), .val (.int i1), .val (.int i2), .val (.int i3), .val (.int i4), .val (.int i5), .val (.int z), .val (.int i), .val (.int j), .val (.int k), .val (.ref b14), .val (.ref b15), .val f, .val (.ref b16)] [(.int (0 : Int32))]))
            have Na23 := Fr.app Na22 Ma23
            refine Dn.of (fun tt_ zz_ => XS.ifYes X23.here hx rfl (pc0 := 190) (pc' := 195) rfl (hb hby at_190) rfl ((if0 _ _).trans (teq rfl).1) (by decide) (by decide) zz_) ?_
            show Dn p e below s (own_Q n0) 24 128 (T23.setTop (mkF m 195 #[.val (.int i0), .val (.int i1), .val (.int i2), .val (.int i3), .val (.int i4), .val (.int i5), .val (.int z), .val (.int i), .val (.int j), .val (.int k), .val (.ref b14), .val (.ref b15), .val f, .val (.ref b16)] []))
            refine Dn.of (fun tt_ zz_ => XS.iconst X23.here hx rfl (hb hby at_195) zz_) ?_
            show Dn p e below s (own_Q n0) 24 128 (T23.setTop (mkF m 196 #[.val (.int i0), .val (.int i1), .val (.int i2), .val (.int i3), .val (.int i4), .val (.int i5), .val (.int z), .val (.int i), .val (.int j), .val (.int k), .val (.ref b14), .val (.ref b15), .val f, .val (.ref b16)] [(.int (1 : Int32))]))
            exact Dn.retN X23 hx hlk (t := .boolean) hret (by simp) (hb hby at_196) (by decide) (by decide) (⟨rfl, Na23⟩)
      · skip
        refine Dn.of (fun tt_ zz_ => XS.icmpNo X21.here hx rfl (hb hby at_126) rfl (feq h1).1 zz_) ?_
        show Dn p e below s (own_Q n0) 24 128 (T21.setTop (mkF m 129 #[.val (.int i0), .val (.int i1), .val (.int i2), .val (.int i3), .val (.int i4), .val (.int i5), .val (.int z), .val (.int i), .val (.int j), .val (.int k), .val (.ref b14), .val (.ref b15), .val f, .val (.ref b16)] []))
        refine Dn.of (fun tt_ zz_ => XS.aload X21.here hx rfl (hb hby at_129) rfl rfl zz_) ?_
        show Dn p e below s (own_Q n0) 24 128 (T21.setTop (mkF m 131 #[.val (.int i0), .val (.int i1), .val (.int i2), .val (.int i3), .val (.int i4), .val (.int i5), .val (.int z), .val (.int i), .val (.int j), .val (.int k), .val (.ref b14), .val (.ref b15), .val f, .val (.ref b16)] [(.ref b16)]))
        refine Dn.of (fun tt_ zz_ => XS.iload X21.here hx rfl (hb hby at_131) rfl zz_) ?_
        show Dn p e below s (own_Q n0) 24 128 (T21.setTop (mkF m 133 #[.val (.int i0), .val (.int i1), .val (.int i2), .val (.int i3), .val (.int i4), .val (.int i5), .val (.int z), .val (.int i), .val (.int j), .val (.int k), .val (.ref b14), .val (.ref b15), .val f, .val (.ref b16)] [(.int j), (.ref b16)]))
        obtain ⟨v24, T24, L24, Q24, X24, st24⟩ := cVi X21 hx hZ (C := "com/example/wyrd/wyrd/model/Frame") (y := (⟨"com/example/wyrd/wyrd/model/Frame", "referenceStore", "(I)[D"⟩ : MethodName)) (z := (⟨"com/example/wyrd/wyrd/model/Frame", "referenceStore", "(I)[D"⟩ : MethodName)) hown (hw _ (List.mem_of_getElem? (i := 26) rfl)) (hw _ (List.mem_of_getElem? (i := 27) rfl)) (notFace_of_selects (args := #[]) (mvT hZ (hw _ (List.mem_of_getElem? (i := 29) rfl)))) (hw _ (List.mem_of_getElem? (i := 29) rfl)) (hw _ (List.mem_of_getElem? (i := 28) rfl)) (hw _ (List.mem_of_getElem? (i := 4) rfl)) (hw _ (List.mem_of_getElem? (i := 30) rfl)) (by decide) (a := b16) (argsL := [(.int j)]) (rest := []) (rm4 l Z a0 hw T19.heap n0 Z5 b16 rs k1 z _ G1b R1b j cj (.ref b15) (getH_miss cj.1 h1 (getH_hit cj.1 rfl)) rfl) e21 Ec 0 (by decide) (by decide) (by decide) (by decide) (g := (mkF m 133 #[.val (.int i0), .val (.int i1), .val (.int i2), .val (.int i3), .val (.int i4), .val (.int i5), .val (.int z), .val (.int i), .val (.int j), .val (.int k), .val (.ref b14), .val (.ref b15), .val f, .val (.ref b16)] [(.int j), (.ref b16)])) rfl (by rw [hml]; rfl) (lenOf pd2 rfl) rfl (by show 2 * 0 + _ ≤ _; exact Nat.le_of_eq rfl) (hb hby at_133)
        obtain ⟨rfl, Ma24, e24⟩ := Q24
        refine Dn.of st24 ?_
        show Dn p e below s (own_Q n0) 24 128 (T24.setTop (mkF m 136 #[.val (.int i0), .val (.int i1), .val (.int i2), .val (.int i3), .val (.int i4), .val (.int i5), .val (.int z), .val (.int i), .val (.int j), .val (.int k), .val (.ref b14), .val (.ref b15), .val f, .val (.ref b16)] [(.ref b15)]))
        have Na24 := Fr.app Na21 Ma24
        refine Dn.of (fun tt_ zz_ => XS.aload X24.here hx rfl (hb hby at_136) rfl rfl zz_) ?_
        show Dn p e below s (own_Q n0) 24 128 (T24.setTop (mkF m 138 #[.val (.int i0), .val (.int i1), .val (.int i2), .val (.int i3), .val (.int i4), .val (.int i5), .val (.int z), .val (.int i), .val (.int j), .val (.int k), .val (.ref b14), .val (.ref b15), .val f, .val (.ref b16)] [(.ref b15), (.ref b15)]))
        refine Dn.of (fun tt_ zz_ => Jvm.RoadKit.acmp (g := (mkF m 138 #[.val (.int i0), .val (.int i1), .val (.int i2), .val (.int i3), .val (.int i4), .val (.int i5), .val (.int z), .val (.int i), .val (.int j), .val (.int k), .val (.ref b14), .val (.ref b15), .val f, .val (.ref b16)] [(.ref b15), (.ref b15)])) X24 hx rfl rfl rfl (pc0 := 138) (pc' := 143) (same := true) rfl (hb hby at_138) rfl (decide_eq_true rfl) (by decide) (by decide) zz_) ?_
        show Dn p e below s (own_Q n0) 24 128 (T24.setTop (mkF m 143 #[.val (.int i0), .val (.int i1), .val (.int i2), .val (.int i3), .val (.int i4), .val (.int i5), .val (.int z), .val (.int i), .val (.int j), .val (.int k), .val (.ref b14), .val (.ref b15), .val f, .val (.ref b16)] []))
        refine Dn.of (fun tt_ zz_ => XS.aload X24.here hx rfl (hb hby at_143) rfl rfl zz_) ?_
        show Dn p e below s (own_Q n0) 24 128 (T24.setTop (mkF m 145 #[.val (.int i0), .val (.int i1), .val (.int i2), .val (.int i3), .val (.int i4), .val (.int i5), .val (.int z), .val (.int i), .val (.int j), .val (.int k), .val (.ref b14), .val (.ref b15), .val f, .val (.ref b16)] [(.ref b16)]))
        refine Dn.of (fun tt_ zz_ => XS.iload X24.here hx rfl (hb hby at_145) rfl zz_) ?_
        show Dn p e below s (own_Q n0) 24 128 (T24.setTop (mkF m 147 #[.val (.int i0), .val (.int i1), .val (.int i2), .val (.int i3), .val (.int i4), .val (.int i5), .val (.int z), .val (.int i), .val (.int j), .val (.int k), .val (.ref b14), .val (.ref b15), .val f, .val (.ref b16)] [(.int j), (.ref b16)]))
        obtain ⟨v25, T25, L25, Q25, X25, st25⟩ := cVi X24 hx hZ (C := "com/example/wyrd/wyrd/model/Frame") (y := (⟨"com/example/wyrd/wyrd/model/Frame", "referenceOffset", "(I)I"⟩ : MethodName)) (z := (⟨"com/example/wyrd/wyrd/model/Frame", "referenceOffset", "(I)I"⟩ : MethodName)) hown (hw _ (List.mem_of_getElem? (i := 31) rfl)) (hw _ (List.mem_of_getElem? (i := 32) rfl)) (notFace_of_selects (args := #[]) (mvT hZ (hw _ (List.mem_of_getElem? (i := 34) rfl)))) (hw _ (List.mem_of_getElem? (i := 34) rfl)) (hw _ (List.mem_of_getElem? (i := 33) rfl)) (hw _ (List.mem_of_getElem? (i := 4) rfl)) (hw _ (List.mem_of_getElem? (i := 35) rfl)) (by decide) (a := b16) (argsL := [(.int j)]) (rest := []) (rm5 l Z a0 hw T19.heap n0 Z5 b16 ro k2 z _ G2b R2b j cj i4 (getH_miss cj.1 h1 (getH_hit cj.1 rfl))) e24 Ec 0 (by decide) (by decide) (by decide) (by decide) (g := (mkF m 147 #[.val (.int i0), .val (.int i1), .val (.int i2), .val (.int i3), .val (.int i4), .val (.int i5), .val (.int z), .val (.int i), .val (.int j), .val (.int k), .val (.ref b14), .val (.ref b15), .val f, .val (.ref b16)] [(.int j), (.ref b16)])) rfl (by rw [hml]; rfl) (lenOf pd3 rfl) rfl (by show 2 * 0 + _ ≤ _; exact Nat.le_of_eq rfl) (hb hby at_147)
        obtain ⟨rfl, Ma25, e25⟩ := Q25
        refine Dn.of st25 ?_
        show Dn p e below s (own_Q n0) 24 128 (T25.setTop (mkF m 150 #[.val (.int i0), .val (.int i1), .val (.int i2), .val (.int i3), .val (.int i4), .val (.int i5), .val (.int z), .val (.int i), .val (.int j), .val (.int k), .val (.ref b14), .val (.ref b15), .val f, .val (.ref b16)] [(.int i4)]))
        have Na25 := Fr.app Na24 Ma25
        refine Dn.of (fun tt_ zz_ => XS.iload X25.here hx rfl (hb hby at_150) rfl zz_) ?_
        show Dn p e below s (own_Q n0) 24 128 (T25.setTop (mkF m 152 #[.val (.int i0), .val (.int i1), .val (.int i2), .val (.int i3), .val (.int i4), .val (.int i5), .val (.int z), .val (.int i), .val (.int j), .val (.int k), .val (.ref b14), .val (.ref b15), .val f, .val (.ref b16)] [(.int i4), (.int i4)]))
        refine Dn.of (fun tt_ zz_ => XS.icmpYes X25.here hx rfl (pc0 := 152) (pc' := 157) rfl (hb hby at_152) rfl (teq rfl).1 (by decide) (by decide) zz_) ?_
        show Dn p e below s (own_Q n0) 24 128 (T25.setTop (mkF m 157 #[.val (.int i0), .val (.int i1), .val (.int i2), .val (.int i3), .val (.int i4), .val (.int i5), .val (.int z), .val (.int i), .val (.int j), .val (.int k), .val (.ref b14), .val (.ref b15), .val f, .val (.ref b16)] []))
        refine Dn.of (fun tt_ zz_ => XS.iload X25.here hx rfl (hb hby at_157) rfl zz_) ?_
        show Dn p e below s (own_Q n0) 24 128 (T25.setTop (mkF m 159 #[.val (.int i0), .val (.int i1), .val (.int i2), .val (.int i3), .val (.int i4), .val (.int i5), .val (.int z), .val (.int i), .val (.int j), .val (.int k), .val (.ref b14), .val (.ref b15), .val f, .val (.ref b16)] [(.int k)]))
        refine Dn.of (fun tt_ zz_ => XS.iload X25.here hx rfl (hb hby at_159) rfl zz_) ?_
        show Dn p e below s (own_Q n0) 24 128 (T25.setTop (mkF m 161 #[.val (.int i0), .val (.int i1), .val (.int i2), .val (.int i3), .val (.int i4), .val (.int i5), .val (.int z), .val (.int i), .val (.int j), .val (.int k), .val (.ref b14), .val (.ref b15), .val f, .val (.ref b16)] [(.int i), (.int k)]))
        by_cases h2 : k = i
        · skip
          refine Dn.of (fun tt_ zz_ => XS.icmpYes X25.here hx rfl (pc0 := 161) (pc' := 195) rfl (hb hby at_161) rfl (teq h2).1 (by decide) (by decide) zz_) ?_
          show Dn p e below s (own_Q n0) 24 128 (T25.setTop (mkF m 195 #[.val (.int i0), .val (.int i1), .val (.int i2), .val (.int i3), .val (.int i4), .val (.int i5), .val (.int z), .val (.int i), .val (.int j), .val (.int k), .val (.ref b14), .val (.ref b15), .val f, .val (.ref b16)] []))
          refine Dn.of (fun tt_ zz_ => XS.iconst X25.here hx rfl (hb hby at_195) zz_) ?_
          show Dn p e below s (own_Q n0) 24 128 (T25.setTop (mkF m 196 #[.val (.int i0), .val (.int i1), .val (.int i2), .val (.int i3), .val (.int i4), .val (.int i5), .val (.int z), .val (.int i), .val (.int j), .val (.int k), .val (.ref b14), .val (.ref b15), .val f, .val (.ref b16)] [(.int (1 : Int32))]))
          exact Dn.retN X25 hx hlk (t := .boolean) hret (by simp) (hb hby at_196) (by decide) (by decide) (⟨rfl, Na25⟩)
        · skip
          refine Dn.of (fun tt_ zz_ => XS.icmpNo X25.here hx rfl (hb hby at_161) rfl (feq h2).1 zz_) ?_
          show Dn p e below s (own_Q n0) 24 128 (T25.setTop (mkF m 164 #[.val (.int i0), .val (.int i1), .val (.int i2), .val (.int i3), .val (.int i4), .val (.int i5), .val (.int z), .val (.int i), .val (.int j), .val (.int k), .val (.ref b14), .val (.ref b15), .val f, .val (.ref b16)] []))
          refine Dn.of (fun tt_ zz_ => XS.iload X25.here hx rfl (hb hby at_164) rfl zz_) ?_
          show Dn p e below s (own_Q n0) 24 128 (T25.setTop (mkF m 166 #[.val (.int i0), .val (.int i1), .val (.int i2), .val (.int i3), .val (.int i4), .val (.int i5), .val (.int z), .val (.int i), .val (.int j), .val (.int k), .val (.ref b14), .val (.ref b15), .val f, .val (.ref b16)] [(.int k)]))
          refine Dn.of (fun tt_ zz_ => XS.iload X25.here hx rfl (hb hby at_166) rfl zz_) ?_
          show Dn p e below s (own_Q n0) 24 128 (T25.setTop (mkF m 168 #[.val (.int i0), .val (.int i1), .val (.int i2), .val (.int i3), .val (.int i4), .val (.int i5), .val (.int z), .val (.int i), .val (.int j), .val (.int k), .val (.ref b14), .val (.ref b15), .val f, .val (.ref b16)] [(.int j), (.int k)]))
          by_cases h3 : k = j
          · skip
            refine Dn.of (fun tt_ zz_ => XS.icmpYes X25.here hx rfl (pc0 := 168) (pc' := 195) rfl (hb hby at_168) rfl (teq h3).1 (by decide) (by decide) zz_) ?_
            show Dn p e below s (own_Q n0) 24 128 (T25.setTop (mkF m 195 #[.val (.int i0), .val (.int i1), .val (.int i2), .val (.int i3), .val (.int i4), .val (.int i5), .val (.int z), .val (.int i), .val (.int j), .val (.int k), .val (.ref b14), .val (.ref b15), .val f, .val (.ref b16)] []))
            refine Dn.of (fun tt_ zz_ => XS.iconst X25.here hx rfl (hb hby at_195) zz_) ?_
            show Dn p e below s (own_Q n0) 24 128 (T25.setTop (mkF m 196 #[.val (.int i0), .val (.int i1), .val (.int i2), .val (.int i3), .val (.int i4), .val (.int i5), .val (.int z), .val (.int i), .val (.int j), .val (.int k), .val (.ref b14), .val (.ref b15), .val f, .val (.ref b16)] [(.int (1 : Int32))]))
            exact Dn.retN X25 hx hlk (t := .boolean) hret (by simp) (hb hby at_196) (by decide) (by decide) (⟨rfl, Na25⟩)
          · skip
            refine Dn.of (fun tt_ zz_ => XS.icmpNo X25.here hx rfl (hb hby at_168) rfl (feq h3).1 zz_) ?_
            show Dn p e below s (own_Q n0) 24 128 (T25.setTop (mkF m 171 #[.val (.int i0), .val (.int i1), .val (.int i2), .val (.int i3), .val (.int i4), .val (.int i5), .val (.int z), .val (.int i), .val (.int j), .val (.int k), .val (.ref b14), .val (.ref b15), .val f, .val (.ref b16)] []))
            refine Dn.of (fun tt_ zz_ => XS.aload X25.here hx rfl (hb hby at_171) rfl rfl zz_) ?_
            show Dn p e below s (own_Q n0) 24 128 (T25.setTop (mkF m 173 #[.val (.int i0), .val (.int i1), .val (.int i2), .val (.int i3), .val (.int i4), .val (.int i5), .val (.int z), .val (.int i), .val (.int j), .val (.int k), .val (.ref b14), .val (.ref b15), .val f, .val (.ref b16)] [(.ref b16)]))
            refine Dn.of (fun tt_ zz_ => XS.iload X25.here hx rfl (hb hby at_173) rfl zz_) ?_
            show Dn p e below s (own_Q n0) 24 128 (T25.setTop (mkF m 175 #[.val (.int i0), .val (.int i1), .val (.int i2), .val (.int i3), .val (.int i4), .val (.int i5), .val (.int z), .val (.int i), .val (.int j), .val (.int k), .val (.ref b14), .val (.ref b15), .val f, .val (.ref b16)] [(.int k), (.ref b16)]))
            obtain ⟨v26, T26, L26, Q26, X26, st26⟩ := cVi X25 hx hZ (C := "com/example/wyrd/wyrd/model/Frame") (y := (⟨"com/example/wyrd/wyrd/model/Frame", "referenceStore", "(I)[D"⟩ : MethodName)) (z := (⟨"com/example/wyrd/wyrd/model/Frame", "referenceStore", "(I)[D"⟩ : MethodName)) hown (hw _ (List.mem_of_getElem? (i := 26) rfl)) (hw _ (List.mem_of_getElem? (i := 27) rfl)) (notFace_of_selects (args := #[]) (mvT hZ (hw _ (List.mem_of_getElem? (i := 29) rfl)))) (hw _ (List.mem_of_getElem? (i := 29) rfl)) (hw _ (List.mem_of_getElem? (i := 28) rfl)) (hw _ (List.mem_of_getElem? (i := 4) rfl)) (hw _ (List.mem_of_getElem? (i := 30) rfl)) (by decide) (a := b16) (argsL := [(.int k)]) (rest := []) (rm4 l Z a0 hw T19.heap n0 Z5 b16 rs k1 z _ G1b R1b k ck .null (getH_miss ck.1 h2 (getH_miss ck.1 h3 rfl)) rfl) e25 Ec 0 (by decide) (by decide) (by decide) (by decide) (g := (mkF m 175 #[.val (.int i0), .val (.int i1), .val (.int i2), .val (.int i3), .val (.int i4), .val (.int i5), .val (.int z), .val (.int i), .val (.int j), .val (.int k), .val (.ref b14), .val (.ref b15), .val f, .val (.ref b16)] [(.int k), (.ref b16)])) rfl (by rw [hml]; rfl) (lenOf pd2 rfl) rfl (by show 2 * 0 + _ ≤ _; exact Nat.le_of_eq rfl) (hb hby at_175)
            obtain ⟨rfl, Ma26, e26⟩ := Q26
            refine Dn.of st26 ?_
            show Dn p e below s (own_Q n0) 24 128 (T26.setTop (mkF m 178 #[.val (.int i0), .val (.int i1), .val (.int i2), .val (.int i3), .val (.int i4), .val (.int i5), .val (.int z), .val (.int i), .val (.int j), .val (.int k), .val (.ref b14), .val (.ref b15), .val f, .val (.ref b16)] [.null]))
            have Na26 := Fr.app Na25 Ma26
            refine Dn.of (fun tt_ zz_ => XS.ifnullYes X26.here hx rfl (pc0 := 178) (pc' := 183) rfl (hb hby at_178) rfl (by decide) (by decide) zz_) ?_
            show Dn p e below s (own_Q n0) 24 128 (T26.setTop (mkF m 183 #[.val (.int i0), .val (.int i1), .val (.int i2), .val (.int i3), .val (.int i4), .val (.int i5), .val (.int z), .val (.int i), .val (.int j), .val (.int k), .val (.ref b14), .val (.ref b15), .val f, .val (.ref b16)] []))
            refine Dn.of (fun tt_ zz_ => XS.aload X26.here hx rfl (hb hby at_183) rfl rfl zz_) ?_
            show Dn p e below s (own_Q n0) 24 128 (T26.setTop (mkF m 185 #[.val (.int i0), .val (.int i1), .val (.int i2), .val (.int i3), .val (.int i4), .val (.int i5), .val (.int z), .val (.int i), .val (.int j), .val (.int k), .val (.ref b14), .val (.ref b15), .val f, .val (.ref b16)] [(.ref b16)]))
            refine Dn.of (fun tt_ zz_ => XS.iload X26.here hx rfl (hb hby at_185) rfl zz_) ?_
            show Dn p e below s (own_Q n0) 24 128 (T26.setTop (mkF m 187 #[.val (.int i0), .val (.int i1), .val (.int i2), .val (.int i3), .val (.int i4), .val (.int i5), .val (.int z), .val (.int i), .val (.int j), .val (.int k), .val (.ref b14), .val (.ref b15), .val f, .val (.ref b16)] [(.int k), (.ref b16)]))
            obtain ⟨v27, T27, L27, Q27, X27, st27⟩ := cVi X26 hx hZ (C := "com/example/wyrd/wyrd/model/Frame") (y := (⟨"com/example/wyrd/wyrd/model/Frame", "referenceOffset", "(I)I"⟩ : MethodName)) (z := (⟨"com/example/wyrd/wyrd/model/Frame", "referenceOffset", "(I)I"⟩ : MethodName)) hown (hw _ (List.mem_of_getElem? (i := 31) rfl)) (hw _ (List.mem_of_getElem? (i := 32) rfl)) (notFace_of_selects (args := #[]) (mvT hZ (hw _ (List.mem_of_getElem? (i := 34) rfl)))) (hw _ (List.mem_of_getElem? (i := 34) rfl)) (hw _ (List.mem_of_getElem? (i := 33) rfl)) (hw _ (List.mem_of_getElem? (i := 4) rfl)) (hw _ (List.mem_of_getElem? (i := 35) rfl)) (by decide) (a := b16) (argsL := [(.int k)]) (rest := []) (rm5 l Z a0 hw T19.heap n0 Z5 b16 ro k2 z _ G2b R2b k ck (0 : Int32) (getH_miss ck.1 h2 (getH_miss ck.1 h3 rfl))) e26 Ec 0 (by decide) (by decide) (by decide) (by decide) (g := (mkF m 187 #[.val (.int i0), .val (.int i1), .val (.int i2), .val (.int i3), .val (.int i4), .val (.int i5), .val (.int z), .val (.int i), .val (.int j), .val (.int k), .val (.ref b14), .val (.ref b15), .val f, .val (.ref b16)] [(.int k), (.ref b16)])) rfl (by rw [hml]; rfl) (lenOf pd3 rfl) rfl (by show 2 * 0 + _ ≤ _; exact Nat.le_of_eq rfl) (hb hby at_187)
            obtain ⟨rfl, Ma27, e27⟩ := Q27
            refine Dn.of st27 ?_
            show Dn p e below s (own_Q n0) 24 128 (T27.setTop (mkF m 190 #[.val (.int i0), .val (.int i1), .val (.int i2), .val (.int i3), .val (.int i4), .val (.int i5), .val (.int z), .val (.int i), .val (.int j), .val (.int k), .val (.ref b14), .val (.ref b15), .val f, .val (.ref b16)] [(.int (0 : Int32))]))
            have Na27 := Fr.app Na26 Ma27
            refine Dn.of (fun tt_ zz_ => XS.ifYes X27.here hx rfl (pc0 := 190) (pc' := 195) rfl (hb hby at_190) rfl ((if0 _ _).trans (teq rfl).1) (by decide) (by decide) zz_) ?_
            show Dn p e below s (own_Q n0) 24 128 (T27.setTop (mkF m 195 #[.val (.int i0), .val (.int i1), .val (.int i2), .val (.int i3), .val (.int i4), .val (.int i5), .val (.int z), .val (.int i), .val (.int j), .val (.int k), .val (.ref b14), .val (.ref b15), .val f, .val (.ref b16)] []))
            refine Dn.of (fun tt_ zz_ => XS.iconst X27.here hx rfl (hb hby at_195) zz_) ?_
            show Dn p e below s (own_Q n0) 24 128 (T27.setTop (mkF m 196 #[.val (.int i0), .val (.int i1), .val (.int i2), .val (.int i3), .val (.int i4), .val (.int i5), .val (.int z), .val (.int i), .val (.int j), .val (.int k), .val (.ref b14), .val (.ref b15), .val f, .val (.ref b16)] [(.int (1 : Int32))]))
            exact Dn.retN X27 hx hlk (t := .boolean) hret (by simp) (hb hby at_196) (by decide) (by decide) (⟨rfl, Na27⟩)
    by_cases hf : (i5 &&& (1 : Int32)) = (0 : Int32)
    · skip
      refine Dn.of (fun tt_ zz_ => XS.ifYes X15.here hx rfl (pc0 := 48) (pc' := 55) rfl (hb hby at_48) rfl ((if0 _ _).trans (teq hf).1) (by decide) (by decide) zz_) ?_
      show Dn p e below s (own_Q n0) 24 128 (T15.setTop (mkF m 55 #[.val (.int i0), .val (.int i1), .val (.int i2), .val (.int i3), .val (.int i4), .val (.int i5), .val (.int z), .val (.int i), .val (.int j), .val (.int k), .val (.ref b14), .val (.ref b15), .unset, .unset] []))
      refine Dn.of (fun tt_ zz_ => XS.aload X15.here hx rfl (hb hby at_55) rfl rfl zz_) ?_
      show Dn p e below s (own_Q n0) 24 128 (T15.setTop (mkF m 57 #[.val (.int i0), .val (.int i1), .val (.int i2), .val (.int i3), .val (.int i4), .val (.int i5), .val (.int z), .val (.int i), .val (.int j), .val (.int k), .val (.ref b14), .val (.ref b15), .unset, .unset] [(.ref b14)]))
      refine Dn.of (fun tt_ zz_ => XS.astore X15.here hx rfl (hb hby at_57) rfl rfl (l' := #[.val (.int i0), .val (.int i1), .val (.int i2), .val (.int i3), .val (.int i4), .val (.int i5), .val (.int z), .val (.int i), .val (.int j), .val (.int k), .val (.ref b14), .val (.ref b15), .val (.ref b14), .unset]) rfl zz_) ?_
      show Dn p e below s (own_Q n0) 24 128 (T15.setTop (mkF m 59 #[.val (.int i0), .val (.int i1), .val (.int i2), .val (.int i3), .val (.int i4), .val (.int i5), .val (.int z), .val (.int i), .val (.int j), .val (.int k), .val (.ref b14), .val (.ref b15), .val (.ref b14), .unset] []))
      exact K59 _ (Or.inr rfl)
    · skip
      refine Dn.of (fun tt_ zz_ => XS.ifNo X15.here hx rfl (hb hby at_48) rfl ((if0 _ _).trans (feq hf).1) zz_) ?_
      show Dn p e below s (own_Q n0) 24 128 (T15.setTop (mkF m 51 #[.val (.int i0), .val (.int i1), .val (.int i2), .val (.int i3), .val (.int i4), .val (.int i5), .val (.int z), .val (.int i), .val (.int j), .val (.int k), .val (.ref b14), .val (.ref b15), .unset, .unset] []))
      refine Dn.of (fun tt_ zz_ => XS.aconstNull X15.here hx rfl (hb hby at_51) zz_) ?_
      show Dn p e below s (own_Q n0) 24 128 (T15.setTop (mkF m 52 #[.val (.int i0), .val (.int i1), .val (.int i2), .val (.int i3), .val (.int i4), .val (.int i5), .val (.int z), .val (.int i), .val (.int j), .val (.int k), .val (.ref b14), .val (.ref b15), .unset, .unset] [.null]))
      refine Dn.of (fun tt_ zz_ => XS.goto X15.here hx rfl (pc0 := 52) (pc' := 57) rfl (hb hby at_52) (by decide) (by decide) zz_) ?_
      show Dn p e below s (own_Q n0) 24 128 (T15.setTop (mkF m 57 #[.val (.int i0), .val (.int i1), .val (.int i2), .val (.int i3), .val (.int i4), .val (.int i5), .val (.int z), .val (.int i), .val (.int j), .val (.int k), .val (.ref b14), .val (.ref b15), .unset, .unset] [.null]))
      refine Dn.of (fun tt_ zz_ => XS.astore X15.here hx rfl (hb hby at_57) rfl rfl (l' := #[.val (.int i0), .val (.int i1), .val (.int i2), .val (.int i3), .val (.int i4), .val (.int i5), .val (.int z), .val (.int i), .val (.int j), .val (.int k), .val (.ref b14), .val (.ref b15), .val .null, .unset]) rfl zz_) ?_
      show Dn p e below s (own_Q n0) 24 128 (T15.setTop (mkF m 59 #[.val (.int i0), .val (.int i1), .val (.int i2), .val (.int i3), .val (.int i4), .val (.int i5), .val (.int z), .val (.int i), .val (.int j), .val (.int k), .val (.ref b14), .val (.ref b15), .val .null, .unset] []))
      exact K59 _ (Or.inl rfl)
  have c := own_refs i0
  have ci := own_rem (i1 &&& 2147483647) (1 + (i0 &&& 3)) c.1 (own_mx i1)
  have cj := own_rem (i2 &&& 2147483647) (1 + (i0 &&& 3)) c.1 (own_mx i2)
  have ck := own_rem ((i1 &&& 2147483647) % (1 + (i0 &&& 3)) + 1) (1 + (i0 &&& 3)) c.1 (own_sum _ _ ci c.2)
  refine Dn.of (fun tt_ zz_ => XS.iconst X0.here hx rfl (hb hby at_0) zz_) ?_
  show Dn p e below s (own_Q n0) 24 128 (s₁.setTop (mkF m 1 #[.val (.int i0), .val (.int i1), .val (.int i2), .val (.int i3), .val (.int i4), .val (.int i5), .unset, .unset, .unset, .unset, .unset, .unset, .unset, .unset] [(.int (1 : Int32))]))
  refine Dn.of (fun tt_ zz_ => XS.iloadN X0.here hx rfl (hb hby at_1) rfl zz_) ?_
  show Dn p e below s (own_Q n0) 24 128 (s₁.setTop (mkF m 2 #[.val (.int i0), .val (.int i1), .val (.int i2), .val (.int i3), .val (.int i4), .val (.int i5), .unset, .unset, .unset, .unset, .unset, .unset, .unset, .unset] [(.int i0), (.int (1 : Int32))]))
  refine Dn.of (fun tt_ zz_ => XS.iconst X0.here hx rfl (hb hby at_2) zz_) ?_
  show Dn p e below s (own_Q n0) 24 128 (s₁.setTop (mkF m 3 #[.val (.int i0), .val (.int i1), .val (.int i2), .val (.int i3), .val (.int i4), .val (.int i5), .unset, .unset, .unset, .unset, .unset, .unset, .unset, .unset] [(.int (3 : Int32)), (.int i0), (.int (1 : Int32))]))
  refine Dn.of (fun tt_ zz_ => XS.iand X0.here hx rfl (hb hby at_3) rfl zz_) ?_
  show Dn p e below s (own_Q n0) 24 128 (s₁.setTop (mkF m 4 #[.val (.int i0), .val (.int i1), .val (.int i2), .val (.int i3), .val (.int i4), .val (.int i5), .unset, .unset, .unset, .unset, .unset, .unset, .unset, .unset] [(.int (i0 &&& (3 : Int32))), (.int (1 : Int32))]))
  refine Dn.of (fun tt_ zz_ => XS.iadd X0.here hx rfl (hb hby at_4) rfl zz_) ?_
  show Dn p e below s (own_Q n0) 24 128 (s₁.setTop (mkF m 5 #[.val (.int i0), .val (.int i1), .val (.int i2), .val (.int i3), .val (.int i4), .val (.int i5), .unset, .unset, .unset, .unset, .unset, .unset, .unset, .unset] [(.int ((1 : Int32) + (i0 &&& (3 : Int32))))]))
  refine Dn.of (fun tt_ zz_ => XS.istore X0.here hx rfl (hb hby at_5) rfl (l' := #[.val (.int i0), .val (.int i1), .val (.int i2), .val (.int i3), .val (.int i4), .val (.int i5), .val (.int ((1 : Int32) + (i0 &&& (3 : Int32)))), .unset, .unset, .unset, .unset, .unset, .unset, .unset]) rfl zz_) ?_
  show Dn p e below s (own_Q n0) 24 128 (s₁.setTop (mkF m 7 #[.val (.int i0), .val (.int i1), .val (.int i2), .val (.int i3), .val (.int i4), .val (.int i5), .val (.int ((1 : Int32) + (i0 &&& (3 : Int32)))), .unset, .unset, .unset, .unset, .unset, .unset, .unset] []))
  refine Dn.of (fun tt_ zz_ => XS.iloadN X0.here hx rfl (hb hby at_7) rfl zz_) ?_
  show Dn p e below s (own_Q n0) 24 128 (s₁.setTop (mkF m 8 #[.val (.int i0), .val (.int i1), .val (.int i2), .val (.int i3), .val (.int i4), .val (.int i5), .val (.int ((1 : Int32) + (i0 &&& (3 : Int32)))), .unset, .unset, .unset, .unset, .unset, .unset, .unset] [(.int i1)]))
  refine Dn.of (fun tt_ zz_ => X0.ldcI hx hown (mvT hZ (hw _ (List.mem_of_getElem? (i := 0) rfl))) rfl (hb hby at_8) zz_) ?_
  show Dn p e below s (own_Q n0) 24 128 (s₁.setTop (mkF m 10 #[.val (.int i0), .val (.int i1), .val (.int i2), .val (.int i3), .val (.int i4), .val (.int i5), .val (.int ((1 : Int32) + (i0 &&& (3 : Int32)))), .unset, .unset, .unset, .unset, .unset, .unset, .unset] [(.int (2147483647 : Int32)), (.int i1)]))
  refine Dn.of (fun tt_ zz_ => XS.iand X0.here hx rfl (hb hby at_10) rfl zz_) ?_
  show Dn p e below s (own_Q n0) 24 128 (s₁.setTop (mkF m 11 #[.val (.int i0), .val (.int i1), .val (.int i2), .val (.int i3), .val (.int i4), .val (.int i5), .val (.int ((1 : Int32) + (i0 &&& (3 : Int32)))), .unset, .unset, .unset, .unset, .unset, .unset, .unset] [(.int (i1 &&& (2147483647 : Int32)))]))
  refine Dn.of (fun tt_ zz_ => XS.iload X0.here hx rfl (hb hby at_11) rfl zz_) ?_
  show Dn p e below s (own_Q n0) 24 128 (s₁.setTop (mkF m 13 #[.val (.int i0), .val (.int i1), .val (.int i2), .val (.int i3), .val (.int i4), .val (.int i5), .val (.int ((1 : Int32) + (i0 &&& (3 : Int32)))), .unset, .unset, .unset, .unset, .unset, .unset, .unset] [(.int ((1 : Int32) + (i0 &&& (3 : Int32)))), (.int (i1 &&& (2147483647 : Int32)))]))
  refine Dn.of (fun tt_ zz_ => iremM X0 hx rfl (hb hby at_13) rfl (own_nz c.1) zz_) ?_
  show Dn p e below s (own_Q n0) 24 128 (s₁.setTop (mkF m 14 #[.val (.int i0), .val (.int i1), .val (.int i2), .val (.int i3), .val (.int i4), .val (.int i5), .val (.int ((1 : Int32) + (i0 &&& (3 : Int32)))), .unset, .unset, .unset, .unset, .unset, .unset, .unset] [(.int ((i1 &&& (2147483647 : Int32)) % ((1 : Int32) + (i0 &&& (3 : Int32)))))]))
  refine Dn.of (fun tt_ zz_ => XS.istore X0.here hx rfl (hb hby at_14) rfl (l' := #[.val (.int i0), .val (.int i1), .val (.int i2), .val (.int i3), .val (.int i4), .val (.int i5), .val (.int ((1 : Int32) + (i0 &&& (3 : Int32)))), .val (.int ((i1 &&& (2147483647 : Int32)) % ((1 : Int32) + (i0 &&& (3 : Int32))))), .unset, .unset, .unset, .unset, .unset, .unset]) rfl zz_) ?_
  show Dn p e below s (own_Q n0) 24 128 (s₁.setTop (mkF m 16 #[.val (.int i0), .val (.int i1), .val (.int i2), .val (.int i3), .val (.int i4), .val (.int i5), .val (.int ((1 : Int32) + (i0 &&& (3 : Int32)))), .val (.int ((i1 &&& (2147483647 : Int32)) % ((1 : Int32) + (i0 &&& (3 : Int32))))), .unset, .unset, .unset, .unset, .unset, .unset] []))
  refine Dn.of (fun tt_ zz_ => XS.iloadN X0.here hx rfl (hb hby at_16) rfl zz_) ?_
  show Dn p e below s (own_Q n0) 24 128 (s₁.setTop (mkF m 17 #[.val (.int i0), .val (.int i1), .val (.int i2), .val (.int i3), .val (.int i4), .val (.int i5), .val (.int ((1 : Int32) + (i0 &&& (3 : Int32)))), .val (.int ((i1 &&& (2147483647 : Int32)) % ((1 : Int32) + (i0 &&& (3 : Int32))))), .unset, .unset, .unset, .unset, .unset, .unset] [(.int i2)]))
  refine Dn.of (fun tt_ zz_ => X0.ldcI hx hown (mvT hZ (hw _ (List.mem_of_getElem? (i := 0) rfl))) rfl (hb hby at_17) zz_) ?_
  show Dn p e below s (own_Q n0) 24 128 (s₁.setTop (mkF m 19 #[.val (.int i0), .val (.int i1), .val (.int i2), .val (.int i3), .val (.int i4), .val (.int i5), .val (.int ((1 : Int32) + (i0 &&& (3 : Int32)))), .val (.int ((i1 &&& (2147483647 : Int32)) % ((1 : Int32) + (i0 &&& (3 : Int32))))), .unset, .unset, .unset, .unset, .unset, .unset] [(.int (2147483647 : Int32)), (.int i2)]))
  refine Dn.of (fun tt_ zz_ => XS.iand X0.here hx rfl (hb hby at_19) rfl zz_) ?_
  show Dn p e below s (own_Q n0) 24 128 (s₁.setTop (mkF m 20 #[.val (.int i0), .val (.int i1), .val (.int i2), .val (.int i3), .val (.int i4), .val (.int i5), .val (.int ((1 : Int32) + (i0 &&& (3 : Int32)))), .val (.int ((i1 &&& (2147483647 : Int32)) % ((1 : Int32) + (i0 &&& (3 : Int32))))), .unset, .unset, .unset, .unset, .unset, .unset] [(.int (i2 &&& (2147483647 : Int32)))]))
  refine Dn.of (fun tt_ zz_ => XS.iload X0.here hx rfl (hb hby at_20) rfl zz_) ?_
  show Dn p e below s (own_Q n0) 24 128 (s₁.setTop (mkF m 22 #[.val (.int i0), .val (.int i1), .val (.int i2), .val (.int i3), .val (.int i4), .val (.int i5), .val (.int ((1 : Int32) + (i0 &&& (3 : Int32)))), .val (.int ((i1 &&& (2147483647 : Int32)) % ((1 : Int32) + (i0 &&& (3 : Int32))))), .unset, .unset, .unset, .unset, .unset, .unset] [(.int ((1 : Int32) + (i0 &&& (3 : Int32)))), (.int (i2 &&& (2147483647 : Int32)))]))
  refine Dn.of (fun tt_ zz_ => iremM X0 hx rfl (hb hby at_22) rfl (own_nz c.1) zz_) ?_
  show Dn p e below s (own_Q n0) 24 128 (s₁.setTop (mkF m 23 #[.val (.int i0), .val (.int i1), .val (.int i2), .val (.int i3), .val (.int i4), .val (.int i5), .val (.int ((1 : Int32) + (i0 &&& (3 : Int32)))), .val (.int ((i1 &&& (2147483647 : Int32)) % ((1 : Int32) + (i0 &&& (3 : Int32))))), .unset, .unset, .unset, .unset, .unset, .unset] [(.int ((i2 &&& (2147483647 : Int32)) % ((1 : Int32) + (i0 &&& (3 : Int32)))))]))
  refine Dn.of (fun tt_ zz_ => XS.istore X0.here hx rfl (hb hby at_23) rfl (l' := #[.val (.int i0), .val (.int i1), .val (.int i2), .val (.int i3), .val (.int i4), .val (.int i5), .val (.int ((1 : Int32) + (i0 &&& (3 : Int32)))), .val (.int ((i1 &&& (2147483647 : Int32)) % ((1 : Int32) + (i0 &&& (3 : Int32))))), .val (.int ((i2 &&& (2147483647 : Int32)) % ((1 : Int32) + (i0 &&& (3 : Int32))))), .unset, .unset, .unset, .unset, .unset]) rfl zz_) ?_
  show Dn p e below s (own_Q n0) 24 128 (s₁.setTop (mkF m 25 #[.val (.int i0), .val (.int i1), .val (.int i2), .val (.int i3), .val (.int i4), .val (.int i5), .val (.int ((1 : Int32) + (i0 &&& (3 : Int32)))), .val (.int ((i1 &&& (2147483647 : Int32)) % ((1 : Int32) + (i0 &&& (3 : Int32))))), .val (.int ((i2 &&& (2147483647 : Int32)) % ((1 : Int32) + (i0 &&& (3 : Int32))))), .unset, .unset, .unset, .unset, .unset] []))
  refine Dn.of (fun tt_ zz_ => XS.iload X0.here hx rfl (hb hby at_25) rfl zz_) ?_
  show Dn p e below s (own_Q n0) 24 128 (s₁.setTop (mkF m 27 #[.val (.int i0), .val (.int i1), .val (.int i2), .val (.int i3), .val (.int i4), .val (.int i5), .val (.int ((1 : Int32) + (i0 &&& (3 : Int32)))), .val (.int ((i1 &&& (2147483647 : Int32)) % ((1 : Int32) + (i0 &&& (3 : Int32))))), .val (.int ((i2 &&& (2147483647 : Int32)) % ((1 : Int32) + (i0 &&& (3 : Int32))))), .unset, .unset, .unset, .unset, .unset] [(.int ((i1 &&& (2147483647 : Int32)) % ((1 : Int32) + (i0 &&& (3 : Int32)))))]))
  refine Dn.of (fun tt_ zz_ => XS.iconst X0.here hx rfl (hb hby at_27) zz_) ?_
  show Dn p e below s (own_Q n0) 24 128 (s₁.setTop (mkF m 28 #[.val (.int i0), .val (.int i1), .val (.int i2), .val (.int i3), .val (.int i4), .val (.int i5), .val (.int ((1 : Int32) + (i0 &&& (3 : Int32)))), .val (.int ((i1 &&& (2147483647 : Int32)) % ((1 : Int32) + (i0 &&& (3 : Int32))))), .val (.int ((i2 &&& (2147483647 : Int32)) % ((1 : Int32) + (i0 &&& (3 : Int32))))), .unset, .unset, .unset, .unset, .unset] [(.int (1 : Int32)), (.int ((i1 &&& (2147483647 : Int32)) % ((1 : Int32) + (i0 &&& (3 : Int32)))))]))
  refine Dn.of (fun tt_ zz_ => XS.iadd X0.here hx rfl (hb hby at_28) rfl zz_) ?_
  show Dn p e below s (own_Q n0) 24 128 (s₁.setTop (mkF m 29 #[.val (.int i0), .val (.int i1), .val (.int i2), .val (.int i3), .val (.int i4), .val (.int i5), .val (.int ((1 : Int32) + (i0 &&& (3 : Int32)))), .val (.int ((i1 &&& (2147483647 : Int32)) % ((1 : Int32) + (i0 &&& (3 : Int32))))), .val (.int ((i2 &&& (2147483647 : Int32)) % ((1 : Int32) + (i0 &&& (3 : Int32))))), .unset, .unset, .unset, .unset, .unset] [(.int (((i1 &&& (2147483647 : Int32)) % ((1 : Int32) + (i0 &&& (3 : Int32)))) + (1 : Int32)))]))
  refine Dn.of (fun tt_ zz_ => XS.iload X0.here hx rfl (hb hby at_29) rfl zz_) ?_
  show Dn p e below s (own_Q n0) 24 128 (s₁.setTop (mkF m 31 #[.val (.int i0), .val (.int i1), .val (.int i2), .val (.int i3), .val (.int i4), .val (.int i5), .val (.int ((1 : Int32) + (i0 &&& (3 : Int32)))), .val (.int ((i1 &&& (2147483647 : Int32)) % ((1 : Int32) + (i0 &&& (3 : Int32))))), .val (.int ((i2 &&& (2147483647 : Int32)) % ((1 : Int32) + (i0 &&& (3 : Int32))))), .unset, .unset, .unset, .unset, .unset] [(.int ((1 : Int32) + (i0 &&& (3 : Int32)))), (.int (((i1 &&& (2147483647 : Int32)) % ((1 : Int32) + (i0 &&& (3 : Int32)))) + (1 : Int32)))]))
  refine Dn.of (fun tt_ zz_ => iremM X0 hx rfl (hb hby at_31) rfl (own_nz c.1) zz_) ?_
  show Dn p e below s (own_Q n0) 24 128 (s₁.setTop (mkF m 32 #[.val (.int i0), .val (.int i1), .val (.int i2), .val (.int i3), .val (.int i4), .val (.int i5), .val (.int ((1 : Int32) + (i0 &&& (3 : Int32)))), .val (.int ((i1 &&& (2147483647 : Int32)) % ((1 : Int32) + (i0 &&& (3 : Int32))))), .val (.int ((i2 &&& (2147483647 : Int32)) % ((1 : Int32) + (i0 &&& (3 : Int32))))), .unset, .unset, .unset, .unset, .unset] [(.int ((((i1 &&& (2147483647 : Int32)) % ((1 : Int32) + (i0 &&& (3 : Int32)))) + (1 : Int32)) % ((1 : Int32) + (i0 &&& (3 : Int32)))))]))
  refine Dn.of (fun tt_ zz_ => XS.istore X0.here hx rfl (hb hby at_32) rfl (l' := #[.val (.int i0), .val (.int i1), .val (.int i2), .val (.int i3), .val (.int i4), .val (.int i5), .val (.int ((1 : Int32) + (i0 &&& (3 : Int32)))), .val (.int ((i1 &&& (2147483647 : Int32)) % ((1 : Int32) + (i0 &&& (3 : Int32))))), .val (.int ((i2 &&& (2147483647 : Int32)) % ((1 : Int32) + (i0 &&& (3 : Int32))))), .val (.int ((((i1 &&& (2147483647 : Int32)) % ((1 : Int32) + (i0 &&& (3 : Int32)))) + (1 : Int32)) % ((1 : Int32) + (i0 &&& (3 : Int32))))), .unset, .unset, .unset, .unset]) rfl zz_) ?_
  show Dn p e below s (own_Q n0) 24 128 (s₁.setTop (mkF m 34 #[.val (.int i0), .val (.int i1), .val (.int i2), .val (.int i3), .val (.int i4), .val (.int i5), .val (.int ((1 : Int32) + (i0 &&& (3 : Int32)))), .val (.int ((i1 &&& (2147483647 : Int32)) % ((1 : Int32) + (i0 &&& (3 : Int32))))), .val (.int ((i2 &&& (2147483647 : Int32)) % ((1 : Int32) + (i0 &&& (3 : Int32))))), .val (.int ((((i1 &&& (2147483647 : Int32)) % ((1 : Int32) + (i0 &&& (3 : Int32)))) + (1 : Int32)) % ((1 : Int32) + (i0 &&& (3 : Int32))))), .unset, .unset, .unset, .unset] []))
  exact K34 _ _ _ _ c.1 c.2 ci cj ck
set_option maxRecDepth 65536 in
set_option maxHeartbeats 40000000 in
theorem comes_1 {Post : Tables → Env → Array Value → State → Outcome → State → Prop} (hpost : ∀ tb e args s v u, (limb_1_1.after args s (.returned v) u = true ∧ limb_1_2.after args s (.returned v) u = true ∧ True) → FrameEnd s (.returned v) u (Jvm.fieldLocs frame_1_writes args s ++ Jvm.arrayLocs frame_1_arrays args s ++ Jvm.staticLocs frame_1_statics s) 24 128 → Post tb e args s (.returned v) u) :
    ArmFor flags0 classFile x code maxLocals ret World_1 tables_1 room_1 Calls_1 rest_1 Pre_1 Post := by
  intro l hfl _ _ p e ha hc hk s m args below hf hA hF happ hP
  obtain ⟨hcalls, hrest, hpre⟩ := hP
  obtain ⟨-, -, -, hnamed, -, -, -, hat⟩ := (Spec.applies_iff hf).mp happ
  obtain ⟨hg, hn⟩ := and_e (Cond.before_iff.mp (show (Jvm.Cond.and given_1 narrow_1).before args s = true from hpre))
  obtain ⟨hcount, hr⟩ := and_e hg
  obtain ⟨w0, w1, w2, w3, w4, w5, rfl⟩ : ∃ w0 w1 w2 w3 w4 w5 : Value, args = #[w0, w1, w2, w3, w4, w5] := by
    have hs : args.size = 6 := by simpa [Cond.value, given_1] using hcount
    obtain ⟨L⟩ := args
    match L, hs with
    | [w0, w1, w2, w3, w4, w5], _ => exact ⟨w0, w1, w2, w3, w4, w5, rfl⟩
  have hw := fun d (hd : d ∈ tables_1) => atoms_spec (ws := Jvm.Cond.code x code maxLocals ret :: tables_1) hat d (List.mem_cons_of_mem _ hd)
  have hfit : Fit s := fun {y c} hc i hi => by
    obtain ⟨ha, rfl⟩ := Array.getElem?_eq_some_iff.mp hc
    have q := List.all_eq_true.mp ((Array.all_eq_true_iff_forall_mem.mp hF) _ (Array.getElem_mem ha)) i (List.mem_range.mpr hi)
    simpa [Array.getElem?_eq_getElem hi] using q
  obtain ⟨ha0, hr⟩ := and_e hr
  obtain ⟨i0, ei0⟩ := is_v ha0
  obtain rfl : w0 = (.int i0) := Option.some.inj ei0
  obtain ⟨ha1, hr⟩ := and_e hr
  obtain ⟨i1, ei1⟩ := is_v ha1
  obtain rfl : w1 = (.int i1) := Option.some.inj ei1
  obtain ⟨ha2, hr⟩ := and_e hr
  obtain ⟨i2, ei2⟩ := is_v ha2
  obtain rfl : w2 = (.int i2) := Option.some.inj ei2
  obtain ⟨ha3, hr⟩ := and_e hr
  obtain ⟨i3, ei3⟩ := is_v ha3
  obtain rfl : w3 = (.int i3) := Option.some.inj ei3
  obtain ⟨ha4, hr⟩ := and_e hr
  obtain ⟨i4, ei4⟩ := is_v ha4
  obtain rfl : w4 = (.int i4) := Option.some.inj ei4
  have ha5 := hr
  obtain ⟨i5, ei5⟩ := is_v ha5
  obtain rfl : w5 = (.int i5) := Option.some.inj ei5
  obtain ⟨n, o, h1, h2, h3, _, L, rfl, ⟨rfl, N⟩, hq⟩ := rm0 l s _ hw tables_1 s.heap s.heap.size (Nat.le_refl _) i0 i1 i2 i3 i4 i5 p e ha hc hk s m _ below hf ((Spec.applies_iff_loose hf).mp happ).1 ⟨rfl, State.Warmed39.refl s, rfl⟩ trivial
  refine ⟨n, _, h1, h2, h3, hpost _ _ _ _ _ _ ⟨Cond.after_iff.mpr rfl, Cond.after_iff.mpr (eq_i res_at (Term.int_eval (1)) rfl), trivial⟩ ⟨hq.1, hq.2.1, (hq.2.2.sift fun y hy => Or.inr (N y hy)).mono (by decide) (by decide)⟩⟩
theorem main_1_1 : Claimed_1_1 := comes_1 fun _ _ _ _ _ _ h hF => ⟨h.1, hF⟩
theorem main_1_2 : Claimed_1_2 := comes_1 fun _ _ _ _ _ _ h hF => ⟨h.2.1, hF⟩
end Jvm.Pilot.@@N@@
namespace Jvm.Pilot.@@N@@
open Jvm Jvm.ClassFile Sem Op Lib Jvm.Free Jvm.Stand Jvm.Pilot.@@N@@.Jvm.D
/-! MADE BY PROGRAM (witnessworld.py) out of the Statement's table words and the real class files: 12 classes; the members and pool entries that the words name. The judged class is class 1, her method 1. -/
namespace start1
open Jvm.ClassFile
def u (s : String) : CpInfo := .utf8 (stringToUtf16 s)
/-- a pool by its gaps: so many unusable entries, then the entry; so many at the end -/
def gap : Nat → List CpInfo → List CpInfo
  | 0, r => r
  | n + 1, r => .unusable :: gap n r
def poolList (es : List (Nat × CpInfo)) (last : Nat) : List CpInfo := es.foldr (fun e r => gap e.1 (e.2 :: r)) (gap last [])
def pool (es : List (Nat × CpInfo)) (last : Nat) : Array CpInfo := ⟨poolList es last⟩
def fileOf (pool : Array CpInfo) (this : Nat) (attrs : Array Attribute := #[]) (ms : Array MethodInfo := #[]) (fl : Nat := 33) (sup : Nat := 0) (ifs : Array Nat := #[]) (fds : Array FieldInfo := #[]) : ClassFile where
  minorVersion := 0
  majorVersion := 65
  constantPool := pool
  accessFlags := fl
  thisClass := this
  superClass := sup
  interfaces := ifs
  fields := fds
  methods := ms
  attributes := attrs
def plain (name : String) (sup : Option ClassId) : Class where
  name := name
  kind := .ordinary
  loader := none
  accessFlags := 33
  super := sup
  interfaces := #[]
  cf := none
  fields := #[]
  methods := #[]
  instanceTypes := #[]
  staticTypes := #[]
  resolved := #[]
  callSites := []
  init := .initialized
  statics := none
  mirror := none

def pool0 : Array CpInfo := pool [(5, u "<init>"), (0, u "()V"), (1, .class_ 10), (1, u "java/lang/Object")] 113

def k0c0 : Code := { maxStack := 0, maxLocals := 1, code := object_method_1_code, exceptionTable := #[], attributes := #[] }
def k0m0 : Method := { name := "<init>", desc := "()V", sig := { parameters := [], returnType := none }, accessFlags := 1, code := some k0c0 }
/-- java/lang/Object -/
def k0 : Class := { plain "java/lang/Object" none with
  accessFlags := 33
  interfaces := #[]
  cf := some (fileOf pool0 8 #[] #[{ accessFlags := 1, nameIndex := 5, descriptorIndex := 6, attributes := #[] }] 33 0 #[] #[])
  fields := #[]
  methods := #[k0m0]
  instanceTypes := #[]
  staticTypes := #[]
  resolved := Array.replicate 124 none
  statics := none }

def pool1 : Array CpInfo := pool [(2, .class_ 4), (1, u "java/lang/Object"), (0, u "<init>"), (0, u "()V"), (0, .integer 2147483647), (0, .class_ 9), (0, u "com/example/wyrd/wyrd/model/Frame"), (0, .methodref 8 11), (0, .nameAndType 5 12), (0, u "(II)V"), (0, .methodref 8 14), (0, .nameAndType 15 16), (0, u "refer"), (0, u "(I[DI)V"), (0, .methodref 8 18), (0, .nameAndType 19 20), (0, u "referenceStore"), (0, u "(I)[D"), (0, .methodref 8 22), (0, .nameAndType 23 24), (0, u "referenceOffset"), (0, u "(I)I"), (0, .class_ 26), (0, u "com/example/wyrd/wyrd/model/FrameReferPinLaw"), (2, u "law"), (0, u "(IIIIII)Z")] 5

def k1m0 : Method := { name := "<init>", desc := "()V", sig := { parameters := [], returnType := none }, accessFlags := 1, code := none }
def k1c1 : Code := { maxStack := 4, maxLocals := 14, code := code, exceptionTable := #[], attributes := #[] }
def k1m1 : Method := { name := "law", desc := "(IIIIII)Z", sig := { parameters := [.int, .int, .int, .int, .int, .int], returnType := some .boolean }, accessFlags := 9, code := some k1c1 }
/-- com/example/wyrd/wyrd/model/FrameReferPinLaw -/
def k1 : Class := { plain "com/example/wyrd/wyrd/model/FrameReferPinLaw" (some 0) with
  accessFlags := 49
  interfaces := #[]
  cf := some (fileOf pool1 25 #[] #[{ accessFlags := 1, nameIndex := 5, descriptorIndex := 6, attributes := #[] }, { accessFlags := 9, nameIndex := 29, descriptorIndex := 30, attributes := #[] }] 49 2 #[] #[])
  fields := #[]
  methods := #[k1m0, k1m1]
  instanceTypes := #[]
  staticTypes := #[]
  resolved := Array.replicate 36 none
  statics := none }

def pool2 : Array CpInfo := pool [(1, .methodref 2 3), (0, .class_ 4), (0, .nameAndType 5 6), (0, u "java/lang/Object"), (0, u "<init>"), (0, u "()V"), (0, .fieldref 8 9), (0, .class_ 10), (0, .nameAndType 11 12), (0, u "com/example/wyrd/wyrd/model/Frame"), (0, u "values"), (0, u "[D"), (0, .class_ 12), (0, .fieldref 8 15), (0, .nameAndType 16 17), (0, u "referenceStores"), (0, u "[[D"), (0, .fieldref 8 19), (0, .nameAndType 20 21), (0, u "referenceOffsets"), (0, u "[I"), (2, u "result"), (0, u "D"), (0, u "(II)V"), (3, u "refer"), (0, u "(I[DI)V"), (0, u "referenceStore"), (0, u "(I)[D"), (0, u "referenceOffset"), (0, u "(I)I")] 5

def k2c0 : Code := { maxStack := 2, maxLocals := 3, code := prog_44_method_1_code, exceptionTable := #[], attributes := #[] }
def k2m0 : Method := { name := "<init>", desc := "(II)V", sig := { parameters := [.int, .int], returnType := none }, accessFlags := 0, code := some k2c0 }
def k2c1 : Code := { maxStack := 3, maxLocals := 4, code := prog_44_method_3_code, exceptionTable := #[], attributes := #[] }
def k2m1 : Method := { name := "refer", desc := "(I[DI)V", sig := { parameters := [.int, (.array .double), .int], returnType := none }, accessFlags := 0, code := some k2c1 }
def k2c2 : Code := { maxStack := 2, maxLocals := 2, code := prog_44_method_4_code, exceptionTable := #[], attributes := #[] }
def k2m2 : Method := { name := "referenceStore", desc := "(I)[D", sig := { parameters := [.int], returnType := some (.array .double) }, accessFlags := 0, code := some k2c2 }
def k2c3 : Code := { maxStack := 2, maxLocals := 2, code := prog_44_method_5_code, exceptionTable := #[], attributes := #[] }
def k2m3 : Method := { name := "referenceOffset", desc := "(I)I", sig := { parameters := [.int], returnType := some .int }, accessFlags := 0, code := some k2c3 }
/-- com/example/wyrd/wyrd/model/Frame -/
def k2 : Class := { plain "com/example/wyrd/wyrd/model/Frame" (some 0) with
  accessFlags := 48
  interfaces := #[]
  cf := some (fileOf pool2 8 #[] #[{ accessFlags := 0, nameIndex := 5, descriptorIndex := 26, attributes := #[] }, { accessFlags := 0, nameIndex := 30, descriptorIndex := 31, attributes := #[] }, { accessFlags := 0, nameIndex := 32, descriptorIndex := 33, attributes := #[] }, { accessFlags := 0, nameIndex := 34, descriptorIndex := 35, attributes := #[] }] 48 2 #[] #[{ accessFlags := 18, nameIndex := 11, descriptorIndex := 12, attributes := #[] }, { accessFlags := 18, nameIndex := 16, descriptorIndex := 17, attributes := #[] }, { accessFlags := 18, nameIndex := 20, descriptorIndex := 21, attributes := #[] }, { accessFlags := 2, nameIndex := 24, descriptorIndex := 25, attributes := #[] }])
  fields := #[{ name := "values", type := (.array .double), accessFlags := 18, slot := 0, constantValue := 0 }, { name := "referenceStores", type := (.array (.array .double)), accessFlags := 18, slot := 1, constantValue := 0 }, { name := "referenceOffsets", type := (.array .int), accessFlags := 18, slot := 2, constantValue := 0 }, { name := "result", type := .double, accessFlags := 2, slot := 3, constantValue := 0 }]
  methods := #[k2m0, k2m1, k2m2, k2m3]
  instanceTypes := #[(.array .double), (.array (.array .double)), (.array .int), .double]
  staticTypes := #[]
  resolved := Array.replicate 41 none
  statics := none }

def pool3 : Array CpInfo := pool [(1, u "java/lang/Cloneable"), (0, .class_ 1), (0, u "java/lang/Object"), (0, .class_ 3)] 3

/-- java/lang/Cloneable -/
def k3 : Class := { plain "java/lang/Cloneable" (some 0) with
  accessFlags := 1537
  interfaces := #[]
  cf := some (fileOf pool3 2 #[] #[] 1537 4 #[] #[])
  fields := #[]
  methods := #[]
  instanceTypes := #[]
  staticTypes := #[]
  resolved := Array.replicate 8 none
  statics := none }

def pool4 : Array CpInfo := pool [(1, u "java/io/Serializable"), (0, .class_ 1), (0, u "java/lang/Object"), (0, .class_ 3)] 3

/-- java/io/Serializable -/
def k4 : Class := { plain "java/io/Serializable" (some 0) with
  accessFlags := 1537
  interfaces := #[]
  cf := some (fileOf pool4 2 #[] #[] 1537 4 #[] #[])
  fields := #[]
  methods := #[]
  instanceTypes := #[]
  staticTypes := #[]
  resolved := Array.replicate 8 none
  statics := none }

/-- the primitive byte -/
def k5 : Class := { plain "byte" none with kind := .primitive 'B', accessFlags := 0x411 }
/-- [B -/
def k6 : Class := { plain "[B" (some 0) with kind := .array 5 .byte, interfaces := #[3, 4], accessFlags := 1041 }

/-- the primitive double -/
def k7 : Class := { plain "double" none with kind := .primitive 'D', accessFlags := 0x411 }
/-- [D -/
def k8 : Class := { plain "[D" (some 0) with kind := .array 7 .double, interfaces := #[3, 4], accessFlags := 1041 }

/-- the primitive int -/
def k9 : Class := { plain "int" none with kind := .primitive 'I', accessFlags := 0x411 }
/-- [I -/
def k10 : Class := { plain "[I" (some 0) with kind := .array 9 .int, interfaces := #[3, 4], accessFlags := 1041 }

/-- [[D -/
def k11 : Class := { plain "[[D" (some 0) with kind := .array 8 (.array .double), interfaces := #[3, 4], accessFlags := 1041 }

def heap : Heap := #[]
def classes : Array Class := #[k0, k1, k2, k3, k4, k5, k6, k7, k8, k9, k10, k11]
def interned : List (Array UInt16 × Addr) := []
def slotsUsed : Nat := 0
def theMethod : MethodId := ⟨1, 1⟩
def args0 : Array Value := #[.int 5, .int 300, .int 7, .int 8, .int 9, .int 10]
def aboutOver (below : List Frame) : State where
  vm := { classes := classes, interned := interned.toArray }
  heap := heap
  slotsUsed := slotsUsed
  threads := #[{ frames := .invoking theMethod args0 :: below }]
def below0 : List Frame := [.native { method := ⟨0, 0⟩, args := #[] }]
def about1 : State := aboutOver below0
def p0 : Program := .bare "" "" ""
def e0 : Env := launch0.env 0 0 0
theorem w_frames : about1.frames = Frame.invoking theMethod args0 :: below0 := rfl
set_option maxRecDepth 65536 in
theorem w_args : argsFit about1.vm theMethod args0 = true := by decide +kernel
set_option maxRecDepth 65536 in
theorem w_heap : heapFits about1 = true := by decide +kernel
set_option maxRecDepth 65536 in
theorem w_runnable : about1.curStatus? = some .runnable := by decide +kernel
set_option maxRecDepth 65536 in
theorem w_alone : about1.alone = true := by decide +kernel
set_option maxRecDepth 65536 in
theorem w_named : about1.methodNamed? x = some theMethod := by decide +kernel
set_option maxRecDepth 65536 in
theorem w_hears : about1.hears theMethod below0 = true := by decide +kernel
set_option maxRecDepth 65536 in
theorem w_ripe : about1.ripe theMethod args0 below0 = true := by decide +kernel
theorem w_running : about1.status = .running := rfl
set_option maxRecDepth 65536 in
theorem w_room : about1.hasRoom e0.platform room_1 = true :=
  launch0.hasRoom_least _ room_1 (by decide +kernel) (by decide +kernel) (by decide +kernel) (by decide +kernel) (by decide +kernel) (by decide +kernel)
theorem allAtoms_all (ts : List Jvm.Cond) (a : Array Jvm.Value) (st : Jvm.State) : (allAtoms ts).before a st = ts.all (fun c => c.before a st) := by
  induction ts with
  | nil => rfl
  | cons c t ih =>
    show (Jvm.Cond.and c (allAtoms t)).before a st = _
    rw [Jvm.Cond.before_and, ih, List.all_cons]
def words1 : List Jvm.Cond := Jvm.Cond.code x code maxLocals ret :: tables_1
/-- a 'code' word, met by the world's own term for the bytes: nothing is compared byte by byte -/
theorem code_word {y : MethodName} {bytes : ByteArray} {mx : Nat} {rt : Option FieldType} {a : Array Value} {s : State} {m : MethodId} {meth : Method} {c : Code} (h1 : s.methodNamed? y = some m) (h2 : s.vm.method? m = some meth) (h3 : meth.code = some c) (h4 : c.code = bytes)
    (h5 : (c.maxLocals == mx && c.exceptionTable.isEmpty && decide (c.maxStack ≤ mostOperands) && decide (meth.sig.returnType = rt) && !meth.locks && decide (parseMethodDescriptor y.desc = some meth.sig)) = true) : (Jvm.Cond.code y bytes mx rt).before a s = true := by
  simp only [Bool.and_eq_true, beq_iff_eq, Bool.not_eq_true', decide_eq_true_eq] at h5
  obtain ⟨⟨⟨⟨⟨g1, g2⟩, g3⟩, g4⟩, g5⟩, g6⟩ := h5
  simp [Cond.before, Cond.holds, Cond.value, h1, h2, h3, h4, g1, g2, g3, g4, g5, g6]
def isCode : Jvm.Cond → Bool
  | .code _ _ _ _ => true
  | _ => false
theorem all_split {L : List Jvm.Cond} {P : Jvm.Cond → Bool} (h1 : L.all (fun c => isCode c || P c) = true) (h2 : ∀ c ∈ L.filter isCode, P c = true) : L.all P = true := by
  refine List.all_eq_true.mpr fun c hc => ?_
  have h := List.all_eq_true.mp h1 c hc
  rcases Bool.eq_false_or_eq_true (isCode c) with hi | hi
  · exact h2 c (List.mem_filter.mpr ⟨hc, hi⟩)
  · simpa [hi] using h
set_option maxRecDepth 65536 in
theorem w_c0 : (Jvm.Cond.code x code maxLocals ret).before args0 about1 = true := code_word (m := ⟨1, 1⟩) (meth := k1m1) (c := k1c1) (by decide +kernel) rfl rfl rfl (by decide +kernel)
set_option maxRecDepth 65536 in
theorem w_c1 : (Jvm.Cond.code ({ cls := "com/example/wyrd/wyrd/model/Frame", name := "<init>", desc := "(II)V" } : Jvm.MethodName) prog_44_method_1_code (3 : Nat) (Option.none : Option Jvm.ClassFile.FieldType)).before args0 about1 = true := code_word (m := ⟨2, 0⟩) (meth := k2m0) (c := k2c0) (by decide +kernel) rfl rfl rfl (by decide +kernel)
set_option maxRecDepth 65536 in
theorem w_c2 : (Jvm.Cond.code ({ cls := "java/lang/Object", name := "<init>", desc := "()V" } : Jvm.MethodName) object_method_1_code (1 : Nat) (Option.none : Option Jvm.ClassFile.FieldType)).before args0 about1 = true := code_word (m := ⟨0, 0⟩) (meth := k0m0) (c := k0c0) (by decide +kernel) rfl rfl rfl (by decide +kernel)
set_option maxRecDepth 65536 in
theorem w_c3 : (Jvm.Cond.code ({ cls := "com/example/wyrd/wyrd/model/Frame", name := "refer", desc := "(I[DI)V" } : Jvm.MethodName) prog_44_method_3_code (4 : Nat) (Option.none : Option Jvm.ClassFile.FieldType)).before args0 about1 = true := code_word (m := ⟨2, 1⟩) (meth := k2m1) (c := k2c1) (by decide +kernel) rfl rfl rfl (by decide +kernel)
set_option maxRecDepth 65536 in
theorem w_c4 : (Jvm.Cond.code ({ cls := "com/example/wyrd/wyrd/model/Frame", name := "referenceStore", desc := "(I)[D" } : Jvm.MethodName) prog_44_method_4_code (2 : Nat) (Option.some (Jvm.ClassFile.FieldType.array Jvm.ClassFile.FieldType.double))).before args0 about1 = true := code_word (m := ⟨2, 2⟩) (meth := k2m2) (c := k2c2) (by decide +kernel) rfl rfl rfl (by decide +kernel)
set_option maxRecDepth 65536 in
theorem w_c5 : (Jvm.Cond.code ({ cls := "com/example/wyrd/wyrd/model/Frame", name := "referenceOffset", desc := "(I)I" } : Jvm.MethodName) prog_44_method_5_code (2 : Nat) (Option.some Jvm.ClassFile.FieldType.int)).before args0 about1 = true := code_word (m := ⟨2, 3⟩) (meth := k2m3) (c := k2c3) (by decide +kernel) rfl rfl rfl (by decide +kernel)
def codes1 : List Jvm.Cond := [Jvm.Cond.code x code maxLocals ret, Jvm.Cond.code ({ cls := "com/example/wyrd/wyrd/model/Frame", name := "<init>", desc := "(II)V" } : Jvm.MethodName) prog_44_method_1_code (3 : Nat) (Option.none : Option Jvm.ClassFile.FieldType), Jvm.Cond.code ({ cls := "java/lang/Object", name := "<init>", desc := "()V" } : Jvm.MethodName) object_method_1_code (1 : Nat) (Option.none : Option Jvm.ClassFile.FieldType), Jvm.Cond.code ({ cls := "com/example/wyrd/wyrd/model/Frame", name := "refer", desc := "(I[DI)V" } : Jvm.MethodName) prog_44_method_3_code (4 : Nat) (Option.none : Option Jvm.ClassFile.FieldType), Jvm.Cond.code ({ cls := "com/example/wyrd/wyrd/model/Frame", name := "referenceStore", desc := "(I)[D" } : Jvm.MethodName) prog_44_method_4_code (2 : Nat) (Option.some (Jvm.ClassFile.FieldType.array Jvm.ClassFile.FieldType.double)), Jvm.Cond.code ({ cls := "com/example/wyrd/wyrd/model/Frame", name := "referenceOffset", desc := "(I)I" } : Jvm.MethodName) prog_44_method_5_code (2 : Nat) (Option.some Jvm.ClassFile.FieldType.int)]
set_option maxRecDepth 65536 in
theorem codes_eq : words1.filter isCode = codes1 := rfl
theorem w_codes : ∀ c ∈ words1.filter isCode, c.before args0 about1 = true := by
  rw [codes_eq]
  intro c hc
  simp only [codes1, List.mem_cons, List.not_mem_nil, or_false] at hc
  rcases hc with rfl | rfl | rfl | rfl | rfl | rfl
  · exact w_c0
  · exact w_c1
  · exact w_c2
  · exact w_c3
  · exact w_c4
  · exact w_c5
set_option maxRecDepth 65536 in
theorem w_t1 : (words1.take 24).all (fun c => isCode c || c.before args0 about1) = true := by decide +kernel
set_option maxRecDepth 65536 in
theorem w_t2 : (words1.drop 24).all (fun c => isCode c || c.before args0 about1) = true := by decide +kernel
theorem w_tables : (allAtoms (Jvm.Cond.code x code maxLocals ret :: tables_1)).before args0 about1 = true := by
  rw [allAtoms_all]
  show words1.all (fun c => c.before args0 about1) = true
  refine all_split ?_ w_codes
  rw [← List.take_append_drop 24 words1, List.all_append, w_t1, w_t2]
  rfl
set_option maxRecDepth 65536 in
theorem w_case : (Jvm.Cond.and given_1 narrow_1).before args0 about1 = true := by decide +kernel
theorem w_applies : (headSpec (Jvm.Cond.code x code maxLocals ret :: tables_1) room_1).applies x e0.platform about1 = true :=
  (Spec.applies_iff w_frames).mpr ⟨w_running, w_runnable, w_alone, w_named, w_hears, w_ripe, w_room, w_tables⟩
theorem atStart : AtStart classFile x code maxLocals ret World_1 tables_1 room_1 Calls_1 rest_1 Pre_1 launch0 p0 e0 about1 theMethod args0 below0 :=
  ⟨lists_1, trivial, launch0.admits_env _ _ _, launch0.least_env, fairChoices_fair.cas, fairChoices_fair.clock, w_frames, w_args, w_heap, w_applies, trivial, trivial, w_case⟩
end start1
theorem witness_1 : WitnessClaimed_1 := ⟨start1.p0, start1.e0, start1.about1, start1.theMethod, start1.args0, start1.below0, start1.atStart⟩
end Jvm.Pilot.@@N@@
