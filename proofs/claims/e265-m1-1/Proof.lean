import JvmDerived
import JvmDerived.Pilot.@@N@@Statement
import JvmDerived.Pilot.@@N@@Code
set_option linter.unusedVariables false
set_option linter.unusedSimpArgs false
namespace Jvm.RoadKit
open Sem ClassFile Op Lib Jvm.Stand Jvm.Free Jvm.LawKit
section Own
variable {p : Program} {l : Launch} {e : Env} {R : Room} {s : State} {m : MethodId} {args : Array Value} {below : List Frame} {meth : Method} {c : Code} {T : State} {locs : List Loc} {cells slots : Nat}
/-- from the state S the run comes to the end of this invocation, and Q says what it returned and left -/
def Dn (p : Program) (e : Env) (below : List Frame) (s : State) (Q : Option Value → Heap → List Loc → Prop) (k n : Nat) (S : State) : Prop :=
  ∃ U o, Steps p.tables e below S U ∧ U.status = .running ∧ Ended U below o ∧ ∃ v L, o = .returned v ∧ Q v U.heap L ∧ FrameEnd s o U L k n
variable {Q Q' : Option Value → Heap → List Loc → Prop} {k n : Nat} {S S' : State} {Z : State} {a0 : Array Value} {h : Heap}
theorem Dn.of (w : ∀ t, Steps p.tables e below S' t → Steps p.tables e below S t) (d : Dn p e below s Q k n S') : Dn p e below s Q k n S := by
  obtain ⟨U, o, st, r⟩ := d
  exact ⟨U, o, w U st, r⟩
theorem Dn.cast {g g' : JFrame} (q : g = g') (d : Dn p e below s Q k n (T.setTop g')) : Dn p e below s Q k n (T.setTop g) := q ▸ d
theorem Dn.ret (X : Stand p l e R s m args below meth c T locs cells slots) (hx : p.tables.exec = Jvm.exec) (hlk : meth.locks = false) {pc : Nat} {Ls : Array Slot} {w : Value} {t : FieldType} {i : Instr} {rest : List Value} (hret : meth.sig.returnType = some t) (hn : narrow t w = w)
    (hi : (i = .ireturn ∧ (t = .int ∨ t = .boolean ∨ t = .byte ∨ t = .char ∨ t = .short) ∧ ∃ z, w = .int z) ∨ (i = .lreturn ∧ t = .long ∧ ∃ z, w = .long z) ∨ (i = .dreturn ∧ t = .double ∧ ∃ z, w = .double z) ∨ (i = .freturn ∧ t = .float ∧ ∃ z, w = .float z) ∨ (i = .areturn ∧ t.isReference = true ∧ w.isRef = true))
    (hd : decode c.code pc = .ok (i, 1)) (hk : cells ≤ k) (hs : slots ≤ n) (hQ : Q (some w) T.heap locs) : Dn p e below s Q k n (T.setTop (mkF m pc Ls (w :: rest))) := by
  obtain ⟨fs, hr, hrun, hended, hW, hsame⟩ := X.leave (v := some w) (fun q => by rw [hret] at q; cases q) hlk
  exact ⟨_, _, retOut X hx hret hn hi hd hr, hrun, hended, _, _, rfl, hQ, ⟨_, rfl⟩, hW, hsame.mono hk hs⟩
theorem Dn.retI (X : Stand p l e R s m args below meth c T locs cells slots) (hx : p.tables.exec = Jvm.exec) (hlk : meth.locks = false) {pc : Nat} {Ls : Array Slot} {z : Int32} {rest : List Value} (hret : meth.sig.returnType = some .int)
    (hd : decode c.code pc = .ok (.ireturn, 1)) (hk : cells ≤ k) (hs : slots ≤ n) (hQ : Q (some (.int z)) T.heap locs) : Dn p e below s Q k n (T.setTop (mkF m pc Ls (.int z :: rest))) :=
  Dn.ret X hx hlk hret rfl (Or.inl ⟨rfl, Or.inl rfl, z, rfl⟩) hd hk hs hQ
theorem Dn.retA (X : Stand p l e R s m args below meth c T locs cells slots) (hx : p.tables.exec = Jvm.exec) (hlk : meth.locks = false) {pc : Nat} {Ls : Array Slot} {w : Value} {t : FieldType} {rest : List Value} (hret : meth.sig.returnType = some t) (ht : t.isReference = true) (hw : w.isRef = true)
    (hd : decode c.code pc = .ok (.areturn, 1)) (hk : cells ≤ k) (hs : slots ≤ n) (hQ : Q (some w) T.heap locs) : Dn p e below s Q k n (T.setTop (mkF m pc Ls (w :: rest))) :=
  Dn.ret X hx hlk hret (by cases t <;> simp [FieldType.isReference] at ht <;> rcases ref_cases hw with rfl | ⟨a, rfl⟩ <;> rfl) (Or.inr (Or.inr (Or.inr (Or.inr ⟨rfl, ht, hw⟩)))) hd hk hs hQ
theorem Dn.retN (X : Stand p l e R s m args below meth c T locs cells slots) (hx : p.tables.exec = Jvm.exec) (hlk : meth.locks = false) {pc : Nat} {Ls : Array Slot} {z : Int32} {t : FieldType} {rest : List Value} (hret : meth.sig.returnType = some t) (ht : t = .boolean ∨ t = .byte ∨ t = .char ∨ t = .short)
    (hd : decode c.code pc = .ok (.ireturn, 1)) (hk : cells ≤ k) (hs : slots ≤ n) (hQ : Q (some (.int (nar t z))) T.heap locs) : Dn p e below s Q k n (T.setTop (mkF m pc Ls (.int z :: rest))) := by
  obtain ⟨fs, hr, hrun, hended, hW, hsame⟩ := X.leave (v := some (.int (nar t z))) (fun q => by rw [hret] at q; cases q) hlk
  exact ⟨_, _, Jvm.RoadKit.retN X hx hret ht hd hr, hrun, hended, _, _, rfl, hQ, ⟨_, rfl⟩, hW, hsame.mono hk hs⟩
theorem Dn.retV (X : Stand p l e R s m args below meth c T locs cells slots) (hx : p.tables.exec = Jvm.exec) (hlk : meth.locks = false) {pc : Nat} {Ls : Array Slot} (hret : meth.sig.returnType = none)
    (hd : decode c.code pc = .ok (.return_, 1)) (hk : cells ≤ k) (hs : slots ≤ n) (hQ : Q none T.heap locs) : Dn p e below s Q k n (T.setTop (mkF m pc Ls [])) := by
  obtain ⟨fs, hr, hrun, hended, hW, hsame⟩ := X.leave (v := none) (fun _ => rfl) hlk
  exact ⟨_, _, X.returnOut hx hret hd hr, hrun, hended, _, _, rfl, hQ, ⟨_, rfl⟩, hW, hsame.mono hk hs⟩
/-- a body's contract: entered with the arguments as' at the heap h, it returns, and Q says what and what it left -/
abbrev ctr (l : Launch) (Z : State) (y : MethodName) (bytes : ByteArray) (maxL : Nat) (ret : Option FieldType) (ws : List Jvm.Cond) (rm : Room) (k n : Nat) (as' : Array Value) (h : Heap) (Q : Option Value → Heap → List Loc → Prop) : Prop :=
  MetFree l y (head1 (Jvm.Cond.code y bytes maxL ret :: ws) rm) (fun a U => a = as' ∧ Z.Warmed39 U.vm ∧ U.heap = h) (fun _ _ _ _ _ => True) (fun _ U o U' => ∃ v L, o = .returned v ∧ Q v U'.heap L ∧ FrameEnd U o U' L k n)
theorem ctr_of {y : MethodName} {bytes : ByteArray} {maxL : Nat} {ret : Option FieldType} {ws : List Jvm.Cond} {rm : Room} {as' : Array Value} (pn : plainFor y = true)
    (body : ∀ (p : Program) (e : Env) (s : State) (m : MethodId) (below : List Frame) (meth : Method) (c : Code) (s₁ : State), p.tables.exec = Jvm.exec → c.code = bytes → c.maxLocals = maxL → meth.sig.returnType = ret → meth.locks = false → meth.name = y.name → s.vm.findClass y.cls = some m.cls →
      Z.Warmed39 s.vm → s₁.heap = h → Stand p l e rm s m as' below meth c s₁ [] 0 0 → Dn p e below s Q k n (s₁.setTop (entryFrame m as' maxL))) : ctr l Z y bytes maxL ret ws rm k n as' h Q := by
  refine MetFree.of_bodySF pn hisR ?_
  intro p e s m args below meth c s₁ Bd hml0 hP hK
  obtain ⟨rfl, hZ, hh⟩ := hP
  exact body p e s m below meth c s₁ Bd.exec Bd.bytes hml0 Bd.returns Bd.notSynchronized (name_of_methodNamed Bd.named Bd.method).1 (findClass_of_methodNamed Bd.named) hZ (by rw [← hh, Bd.state]; rfl) (Stand.of_body Bd)
theorem cSt (X : Stand p l e R s m args below meth c T locs cells slots) (hx : p.tables.exec = Jvm.exec) (hZ : Z.Warmed39 s.vm) {own : String} {index : Nat} {y : MethodName} {bytes : ByteArray} {maxL : Nat} {ret : Option FieldType} (hown : s.vm.findClass own = some m.cls)
    (w1 : (Jvm.Cond.methodLink own index y).before a0 Z = true) (w2 : (Jvm.Cond.static y).before a0 Z = true) (w3 : (Jvm.Cond.initialized y.cls).before a0 Z = true) (w4 : (Jvm.Cond.code y bytes maxL ret).before a0 Z = true) (hy : y.cls ≠ "java/lang/invoke/MethodHandle" ∧ y.cls ≠ "java/lang/invoke/VarHandle")
    {rm : Room} {argsL rest : List Value} (hM : ctr l Z y bytes maxL ret [] rm rm.cells rm.slots argsL.toArray h Q) (eT : T.heap = h) (W : Nat) (hf : rm.frames + 1 ≤ R.frames) (hl : W + (maxL + 11) + rm.locals ≤ R.locals) (hc : cells + rm.cells ≤ R.cells) (hs : slots + rm.slots ≤ R.slots)
    {g : JFrame} (hg : g.method = m) (hsize : g.locals.size = c.maxLocals) (hlen : ∀ sig, parseMethodDescriptor y.desc = some sig → argsL.length = sig.parameters.length) (hstack : g.stack = argsL.reverse ++ rest) (hW : 2 * g.monitorRoom + (rest.map fun v => v.category).sum ≤ W) (hdg : decode c.code g.pc = .ok (.invokestatic index, 3)) :
    ∃ (v : Option Value) (T' : State) (L : List Loc), Q v T'.heap L ∧ Stand p l e R s m args below meth c T' (locs ++ L) (cells + rm.cells) (slots + rm.slots) ∧ ∀ target, Steps p.tables e below (T'.setTop { g with pc := g.pc + 3, stack := v.toList ++ rest }) target → Steps p.tables e below (T.setTop g) target := by
  obtain ⟨v, _, ⟨T', L', k', n'⟩, -, X', ⟨L, hQ, e1, e2, e3⟩, st⟩ := Jvm.LawKit.callS X hx (y := y) hown (mvT hZ w1) (mvT hZ w2) (mvT hZ w3) (mvT hZ w4) hy (backOf (W := W) hM hZ w4 w3 hf hl) hg hsize hlen hstack hW hdg (fun _ _ => ⟨rfl, eT, hc, hs⟩)
  dsimp only [Pt.U, Pt.locs, Pt.cells, Pt.slots] at X' e1 e2 e3 st hQ
  subst e1 e2 e3
  exact ⟨v, T', L, hQ, X', st⟩
theorem cIn (X : Stand p l e R s m args below meth c T locs cells slots) (hx : p.tables.exec = Jvm.exec) (hZ : Z.Warmed39 s.vm) {own : String} {index : Nat} {y : MethodName} {bytes : ByteArray} {maxL : Nat} (hy1 : y.name = "<init>") (hown : s.vm.findClass own = some m.cls)
    (w1 : (Jvm.Cond.methodLink own index y).before a0 Z = true) (w2 : (Jvm.Cond.instanceMethod y).before a0 Z = true) (w3 : (Jvm.Cond.initialized y.cls).before a0 Z = true) (w4 : (Jvm.Cond.code y bytes maxL none).before a0 Z = true) (hy : y.cls ≠ "java/lang/invoke/MethodHandle" ∧ y.cls ≠ "java/lang/invoke/VarHandle")
    {rm : Room} {a : Addr} {argsL rest : List Value} (hM : ctr l Z y bytes maxL none [] rm rm.cells rm.slots (.ref a :: argsL).toArray h Q) (eT : T.heap = h) (W : Nat) (hf : rm.frames + 1 ≤ R.frames) (hl : W + (maxL + 11) + rm.locals ≤ R.locals) (hc : cells + rm.cells ≤ R.cells) (hs : slots + rm.slots ≤ R.slots)
    {g : JFrame} (hg : g.method = m) (hsize : g.locals.size = c.maxLocals) (hlen : ∀ sig, parseMethodDescriptor y.desc = some sig → argsL.length = sig.parameters.length) (hstack : g.stack = argsL.reverse ++ .ref a :: rest) (hW : 2 * g.monitorRoom + (rest.map fun v => v.category).sum ≤ W) (hdg : decode c.code g.pc = .ok (.invokespecial index, 3)) :
    ∃ (v : Option Value) (T' : State) (L : List Loc), Q v T'.heap L ∧ Stand p l e R s m args below meth c T' (locs ++ L) (cells + rm.cells) (slots + rm.slots) ∧ ∀ target, Steps p.tables e below (T'.setTop { g with pc := g.pc + 3, stack := v.toList ++ rest }) target → Steps p.tables e below (T.setTop g) target := by
  obtain ⟨v, _, ⟨T', L', k', n'⟩, -, X', ⟨L, hQ, e1, e2, e3⟩, st⟩ := X.specialBack hx (y := y) hy1 hown (mvT hZ w1) (mvT hZ w2) (mvT hZ w4) hy (backOf (W := W) hM hZ w4 w3 hf hl) hg hsize (Steps.refl _) hlen hstack hW hdg (fun _ _ => ⟨rfl, eT, hc, hs⟩)
  dsimp only [Pt.U, Pt.locs, Pt.cells, Pt.slots] at X' e1 e2 e3 st hQ
  subst e1 e2 e3
  exact ⟨v, T', L, hQ, X', fun _ z => st.trans z⟩
theorem cVi (X : Stand p l e R s m args below meth c T locs cells slots) (hx : p.tables.exec = Jvm.exec) (hZ : Z.Warmed39 s.vm) {own C : String} {index : Nat} {y z : MethodName} {bytes : ByteArray} {maxL : Nat} {ret : Option FieldType} (hown : s.vm.findClass own = some m.cls)
    (w1 : (Jvm.Cond.methodLink own index y).before a0 Z = true) (w2 : (Jvm.Cond.declares y).before a0 Z = true) (nf : NotFace s y) (ws : (Jvm.Cond.selects C y z).before a0 Z = true) (wi : (Jvm.Cond.instanceMethod z).before a0 Z = true) (w3 : (Jvm.Cond.initialized z.cls).before a0 Z = true) (w4 : (Jvm.Cond.code z bytes maxL ret).before a0 Z = true)
    (hy : y.cls ≠ "java/lang/invoke/MethodHandle" ∧ y.cls ≠ "java/lang/invoke/VarHandle")
    {rm : Room} {a : Addr} {argsL rest : List Value} (hM : ctr l Z z bytes maxL ret [] rm rm.cells rm.slots (.ref a :: argsL).toArray h Q) (eT : T.heap = h) (E : Exa Z h a C) (W : Nat) (hf : rm.frames + 1 ≤ R.frames) (hl : W + (maxL + 11) + rm.locals ≤ R.locals) (hc : cells + rm.cells ≤ R.cells) (hs : slots + rm.slots ≤ R.slots)
    {g : JFrame} (hg : g.method = m) (hsize : g.locals.size = c.maxLocals) (hlen : ∀ sig, parseMethodDescriptor y.desc = some sig → argsL.length = sig.parameters.length) (hstack : g.stack = argsL.reverse ++ .ref a :: rest) (hW : 2 * g.monitorRoom + (rest.map fun v => v.category).sum ≤ W) (hdg : decode c.code g.pc = .ok (.invokevirtual index, 3)) :
    ∃ (v : Option Value) (T' : State) (L : List Loc), Q v T'.heap L ∧ Stand p l e R s m args below meth c T' (locs ++ L) (cells + rm.cells) (slots + rm.slots) ∧ ∀ target, Steps p.tables e below (T'.setTop { g with pc := g.pc + 3, stack := v.toList ++ rest }) target → Steps p.tables e below (T.setTop g) target := by
  obtain ⟨cq, kq, qa, qb, qc⟩ := isOf hZ eT E
  obtain ⟨v, _, ⟨T', L', k', n'⟩, -, X', ⟨L, hQ, e1, e2, e3⟩, st⟩ := X.virtualBack hx (y := y) (z := z) hown (mvT hZ w1) (mvT hZ w2) nf (mvT hZ ws) (mvT hZ wi) hy (backOf (W := W) hM hZ w4 w3 hf hl) qa qc hg hsize (Steps.refl _) hlen hstack hW hdg (fun _ _ => ⟨rfl, eT, hc, hs⟩)
  dsimp only [Pt.U, Pt.locs, Pt.cells, Pt.slots] at X' e1 e2 e3 st hQ
  subst e1 e2 e3
  exact ⟨v, T', L, hQ, X', fun _ z => st.trans z⟩
theorem cUp (X : Stand p l e R s m args below meth c T locs cells slots) (hx : p.tables.exec = Jvm.exec) (hZ : Z.Warmed39 s.vm) {own C owner : String} {index : Nat} {y z : MethodName} {bytes : ByteArray} {maxL : Nat} {ret : Option FieldType} (hown : s.vm.findClass own = some m.cls)
    (w1 : (Jvm.Cond.methodLink own index y).before a0 Z = true) (wm : (Jvm.Cond.sameMethod y.cls owner y.name y.desc).before a0 Z = true) (w2 : (Jvm.Cond.declares ⟨owner, y.name, y.desc⟩).before a0 Z = true) (ws : (Jvm.Cond.selects C y z).before a0 Z = true) (wi : (Jvm.Cond.instanceMethod z).before a0 Z = true) (w3 : (Jvm.Cond.initialized z.cls).before a0 Z = true) (w4 : (Jvm.Cond.code z bytes maxL ret).before a0 Z = true)
    (hy : owner ≠ "java/lang/invoke/MethodHandle" ∧ owner ≠ "java/lang/invoke/VarHandle")
    {rm : Room} {a : Addr} {argsL rest : List Value} (hM : ctr l Z z bytes maxL ret [] rm rm.cells rm.slots (.ref a :: argsL).toArray h Q) (eT : T.heap = h) (E : Exa Z h a C) (W : Nat) (hf : rm.frames + 1 ≤ R.frames) (hl : W + (maxL + 11) + rm.locals ≤ R.locals) (hc : cells + rm.cells ≤ R.cells) (hs : slots + rm.slots ≤ R.slots)
    {g : JFrame} (hg : g.method = m) (hsize : g.locals.size = c.maxLocals) (hlen : ∀ sig, parseMethodDescriptor y.desc = some sig → argsL.length = sig.parameters.length) (hstack : g.stack = argsL.reverse ++ .ref a :: rest) (hW : 2 * g.monitorRoom + (rest.map fun v => v.category).sum ≤ W) (hdg : decode c.code g.pc = .ok (.invokevirtual index, 3)) :
    ∃ (v : Option Value) (T' : State) (L : List Loc), Q v T'.heap L ∧ Stand p l e R s m args below meth c T' (locs ++ L) (cells + rm.cells) (slots + rm.slots) ∧ ∀ target, Steps p.tables e below (T'.setTop { g with pc := g.pc + 3, stack := v.toList ++ rest }) target → Steps p.tables e below (T.setTop g) target := by
  obtain ⟨cq, kq, qa, qb, qc⟩ := isOf hZ eT E
  obtain ⟨v, _, ⟨T', L', k', n'⟩, -, X', ⟨L, hQ, e1, e2, e3⟩, st⟩ := X.virtualBackUp hx (x := y) (y := z) (owner := owner) hown (mvT hZ w1) (mvT hZ wm) (mvT hZ w2) hy (mvT hZ ws) (mvT hZ wi) (backOf (W := W) hM hZ w4 w3 hf hl) qa qc hg hsize (Steps.refl _) hlen hstack hW hdg (fun _ _ => ⟨rfl, eT, hc, hs⟩)
  dsimp only [Pt.U, Pt.locs, Pt.cells, Pt.slots] at X' e1 e2 e3 st hQ
  subst e1 e2 e3
  exact ⟨v, T', L, hQ, X', fun _ z => st.trans z⟩
theorem cFa (X : Stand p l e R s m args below meth c T locs cells slots) (hx : p.tables.exec = Jvm.exec) (hZ : Z.Warmed39 s.vm) {own C : String} {index count : Nat} {y z : MethodName} {bytes : ByteArray} {maxL : Nat} {ret : Option FieldType} (hown : s.vm.findClass own = some m.cls)
    (w1 : (Jvm.Cond.methodLink own index y).before a0 Z = true) (w2 : (Jvm.Cond.declares y).before a0 Z = true) (wf : (Jvm.Cond.interfaceMethod y.cls y.cls y.name y.desc).before args s = true) (ws : (Jvm.Cond.selects C y z).before a0 Z = true) (wi : (Jvm.Cond.instanceMethod z).before a0 Z = true) (wp : (Jvm.Cond.publicMethod z).before a0 Z = true) (wu : (Jvm.Cond.unhidden C y.name y.desc).before a0 Z = true) (wk : (Jvm.Cond.castable C y.cls).before a0 Z = true) (w3 : (Jvm.Cond.initialized z.cls).before a0 Z = true) (w4 : (Jvm.Cond.code z bytes maxL ret).before a0 Z = true)
    (hy : y.cls ≠ "java/lang/invoke/MethodHandle" ∧ y.cls ≠ "java/lang/invoke/VarHandle")
    {rm : Room} {a : Addr} {argsL rest : List Value} (hM : ctr l Z z bytes maxL ret [] rm rm.cells rm.slots (.ref a :: argsL).toArray h Q) (eT : T.heap = h) (E : Exa Z h a C) (W : Nat) (hf : rm.frames + 1 ≤ R.frames) (hl : W + (maxL + 11) + rm.locals ≤ R.locals) (hc : cells + rm.cells ≤ R.cells) (hs : slots + rm.slots ≤ R.slots)
    {g : JFrame} (hg : g.method = m) (hsize : g.locals.size = c.maxLocals) (hlen : ∀ sig, parseMethodDescriptor y.desc = some sig → argsL.length = sig.parameters.length) (hstack : g.stack = argsL.reverse ++ .ref a :: rest) (hW : 2 * g.monitorRoom + (rest.map fun v => v.category).sum ≤ W) (hdg : decode c.code g.pc = .ok (.invokeinterface index count, 5)) :
    ∃ (v : Option Value) (T' : State) (L : List Loc), Q v T'.heap L ∧ Stand p l e R s m args below meth c T' (locs ++ L) (cells + rm.cells) (slots + rm.slots) ∧ ∀ target, Steps p.tables e below (T'.setTop { g with pc := g.pc + 5, stack := v.toList ++ rest }) target → Steps p.tables e below (T.setTop g) target := by
  obtain ⟨cq, kq, qa, qb, qc⟩ := isOf hZ eT E
  obtain ⟨v, _, ⟨T', L', k', n'⟩, -, X', ⟨L, hQ, e1, e2, e3⟩, st⟩ := X.interfaceBack hx (xi := y) (y := z) hown (mvT hZ w1) (mvT hZ w2) wf (mvT hZ ws) (mvT hZ wi) (mvT hZ wp) (mvT hZ wu) (mvT hZ wk) hy (backOf (W := W) hM hZ w4 w3 hf hl) qa qb qc hg hsize (Steps.refl _) hlen hstack hW hdg (fun _ _ => ⟨rfl, eT, hc, hs⟩)
  dsimp only [Pt.U, Pt.locs, Pt.cells, Pt.slots] at X' e1 e2 e3 st hQ
  subst e1 e2 e3
  exact ⟨v, T', L, hQ, X', fun _ z => st.trans z⟩
/-- a static's fact over a Keep: its holder's cell is none of the written -/
theorem Sta.keep {h' : Heap} {C n d : String} {v : Value} {ws : List Addr} (F : Sta Z h C n d v) (K : Keep h h' ws) (q : ∀ (x : Addr) (c : Cell), x ∈ ws → h[x]? = some c → c.vm.isStatics = false) : Sta Z h' C n d v := by
  obtain ⟨cf, i, k, f, st, cell, h1, h2, h3, h4, h5, h6, h7⟩ := F
  refine ⟨cf, i, k, f, st, cell, h1, h2, h3, h4, K.2.1 _ _ h5 (fun y => ?_), h6, h7⟩
  rw [q st cell y h5] at h6; cases h6
theorem own_ns {a : Addr} {C : String} (E : Exa Z h a C) : ∀ (x : Addr) (c : Cell), x ∈ [a] → h[x]? = some c → c.vm.isStatics = false := by
  intro x c hx hc
  cases List.mem_singleton.mp hx
  obtain ⟨cell, k, h1, -, -, h4, -⟩ := E
  rw [h1] at hc; cases hc; exact h4
/-- an int field of what a term names, out of an 'eq' of the case -/
theorem own_fld {args : Array Value} {a : Addr} {C n d : String} {t : Term} {x : Int32} (ev : t.eval args Z none [] Z = some (.ref a)) (hq : (Jvm.Cond.eq (.field t C n d) (.int x)).value args Z none Z [] = some true) : Fld Z Z.heap a C n d (.int x) := by
  obtain ⟨u, w, h1, h2, k1, k2⟩ := cmp_v (Or.inl hq)
  have h2' : w = .int x := by rw [Term.int_eval] at h2; exact (Option.some.inj h2).symm
  subst h2'
  obtain ⟨z, rfl⟩ : ∃ z, u = .int z := k2
  have : z = x := gotT (Cond.eq_ints h1 (Term.int_eval x)) hq
  subst this
  exact Fld.start (by rw [← fld_at ev]; exact h1)
theorem own_cat {v : Value} (r : v.isRef = true) : v.category = 1 := by rcases ref_cases r with rfl | ⟨a, rfl⟩ <;> rfl
theorem own_narO {C : String} {v : Value} (r : v.isRef = true) : narrow (.object C) v = v := by rcases ref_cases r with rfl | ⟨a, rfl⟩ <;> rfl
theorem own_fitO {C : String} {v : Value} (r : v.isRef = true) : fits (.object C) v = true := by rcases ref_cases r with rfl | ⟨a, rfl⟩ <;> rfl
theorem own_len {args : Array Value} {a : Addr} {cl : Cell} {ty : FieldType} {t : Term} {x : Int32} (ev : t.eval args Z none [] Z = some (.ref a)) (A : Arr Z Z.heap a cl ty) (hq : (Jvm.Cond.eq (.length t) (.int x)).value args Z none Z [] = some true) : cl.slots.size = x.toNatClampNeg ∧ cl.slots.size < 2 ^ 31 := by
  have ha : Z.arrayAt? a = some cl := IntBox.arrayAt_of A.1 A.2.1 A.2.2
  by_cases p : cl.slots.size < 2 ^ 31
  · have q := gotT (Cond.eq_ints (len_f ev ha p) (Term.int_eval x)) hq
    refine ⟨?_, p⟩
    rw [← q, Int32.toNatClampNeg, len_toInt p]; rfl
  · obtain ⟨u, w, h1, h2, -, -⟩ := cmp_v (Or.inl hq)
    exact absurd h1 (by simp [Term.eval, ev, ha, p])
theorem own_elem {args : Array Value} {a b : Addr} {cl : Cell} {ty : FieldType} {t u : Term} {j : Int32} (ev : t.eval args Z none [] Z = some (.ref a)) (A : Arr Z Z.heap a cl ty) (eu : u.eval args Z none [] Z = some (.ref b)) (hq : (Jvm.Cond.eq (.elem t (.int j)) u).value args Z none Z [] = some true) : cl.slots[j.toNatClampNeg]? = some (.ref b) := by
  obtain ⟨x, y, h1, h2, k1, k2⟩ := cmp_v (Or.inl hq)
  rw [eu] at h2; cases h2
  have e := gotT (eq_R h1 eu k2.2 rfl) hq
  rw [← e]; exact (elem_in h1 ev (Term.int_eval j) A.1).2
end Own
end Jvm.RoadKit
namespace Jvm.Pilot.@@N@@
open Jvm Jvm.ClassFile Sem Op Lib Jvm.Free Jvm.Stand Jvm.LawKit Jvm.RoadKit Bundle Jvm.Pilot.@@N@@.Jvm.D
theorem d1_0 : decode prog_83_method_3_code 0 = .ok (.dload_n 0, 1) := by decide +kernel
theorem d1_1 : decode prog_83_method_3_code 1 = .ok (.dconst 0, 1) := by decide +kernel
theorem d1_2 : decode prog_83_method_3_code 2 = .ok (.dcmp .l, 1) := by decide +kernel
theorem d1_3 : decode prog_83_method_3_code 3 = .ok (.ifCond .ne 7, 3) := by decide +kernel
theorem d1_6 : decode prog_83_method_3_code 6 = .ok (.dconst 0, 1) := by decide +kernel
theorem d1_7 : decode prog_83_method_3_code 7 = .ok (.goto 4, 3) := by decide +kernel
theorem d1_10 : decode prog_83_method_3_code 10 = .ok (.dload_n 0, 1) := by decide +kernel
theorem d1_11 : decode prog_83_method_3_code 11 = .ok (.dreturn, 1) := by decide +kernel
theorem pn0 : plainName "com/example/vellum/vellum/types/Reals" = true := by first | (simp [plainName, overriddenIn]; done) | decide +kernel
theorem pn1 : plainName "com/example/vellum/vellum/types/RealsUnsignedZeroPinLaw" = true := by first | (simp [plainName, overriddenIn]; done) | decide +kernel
theorem pd0 : parseMethodDescriptor "(D)D" = some ⟨[.double], some .double⟩ := by decide +kernel
open Jvm.FP Jvm.Free.Fl
theorem own_den (b : Int32) : ¬ (1 + (b &&& 7)) = 0 := by
  have q := c_mask b 7 3 (by decide) (by decide)
  have u := c_iadd 1 (b &&& 7)
  rw [show (1 : Int32).toInt = 1 by decide] at u
  intro h
  rw [h, show (0 : Int32).toInt = 0 by decide] at u
  omega
theorem own_quo (a : Int64) (b : Int32) : NoNaN64 (FP.ddiv (FP.l2d a) (FP.i2d (1 + (b &&& 7)))) :=
  noNaN64_no.mpr (Core.ddiv_out (noNaN64_no.mp (l2d_fin a).noNaN) (fin64_core.mp (i2d_fin _)) (nz64_core.mp (i2d_nz (own_den b))))
theorem own_neg {x : UInt64} (h : NoNaN64 x) : NoNaN64 (FP.dneg x) := noNaN64_no.mpr ((dneg_nan x).trans (noNaN64_no.mp h))
def own_r (v : UInt64) : UInt64 := if cmpValue (FP.dcmp v (0 : UInt64)) .l = (0 : Int32) then 0 else v
theorem own_eq {r : Option Ordering} (h : cmpValue r .l = (0 : Int32)) : r = some .eq := by
  rcases r with _ | (_ | _ | _)
  · exact absurd h (by decide)
  · exact absurd h (by decide)
  · rfl
  · exact absurd h (by decide)
theorem own_same {v : UInt64} (h : NoNaN64 v) : cmpValue (FP.dcmp (own_r v) v) .l = (0 : Int32) := by
  unfold own_r
  split
  · rename_i q
    rw [show FP.dcmp 0 v = (FP.dcmp v 0).map Ordering.swap from Core.dcmp_swap v 0, own_eq q]; rfl
  · exact dcmpV_self h .l
theorem ef1 (m : MethodId) (x0 : UInt64) : entryFrame m #[(.double x0)] 2 = mkF m 0 #[.val (.double x0), .second] [] := by first | (simp [entryFrame, mkF, argsToLocals, Value.category]; done) | rfl
set_option maxRecDepth 65536 in
set_option maxHeartbeats 40000000 in
theorem rm1 (l : Launch) (Z : State) (a0 : Array Value) (hw : ∀ d ∈ tables_1, d.before a0 Z = true) (h0 : Heap) (n0 : Nat) (Z0 : n0 ≤ h0.size) (v : UInt64) :
    ctr l Z (⟨"com/example/vellum/vellum/types/Reals", "unsignedZero", "(D)D"⟩ : MethodName) prog_83_method_3_code 2 (some .double) [] ({ frames := 0, cells := 0, slots := 0, locals := 0 } : Room) 0 0 #[(.double v)] h0 (fun r h L => r = some (.double (own_r v)) ∧ Fr n0 L ∧ h = h0) := by
  refine ctr_of (plainFor_of_name pn0) ?_
  intro p e s m below meth jc s₁ hx hby hml hret hlk hnm hown hZ e0 X0
  have N0 := Fr.nil n0
  refine Dn.cast (ef1 m v) ?_
  show Dn p e below s _ _ _ (s₁.setTop (mkF m 0 #[.val (.double v), .second] []))
  refine Dn.of (fun t z => XS.dloadN X0.here hx rfl (hb hby d1_0) rfl z) ?_
  show Dn p e below s _ _ _ (s₁.setTop (mkF m 1 #[.val (.double v), .second] [(.double v)]))
  refine Dn.of (fun t z => XS.dconst0 X0.here hx rfl (v := (0 : UInt64)) (hb hby d1_1) rfl z) ?_
  show Dn p e below s _ _ _ (s₁.setTop (mkF m 2 #[.val (.double v), .second] [(.double (0 : UInt64)), (.double v)]))
  refine Dn.of (fun t z => XS.dcmpS X0.here hx rfl (v := (cmpValue (FP.dcmp v (0 : UInt64)) .l)) (hb hby d1_2) rfl rfl z) ?_
  show Dn p e below s _ _ _ (s₁.setTop (mkF m 3 #[.val (.double v), .second] [(.int (cmpValue (FP.dcmp v (0 : UInt64)) .l))]))
  by_cases h1 : (cmpValue (FP.dcmp v (0 : UInt64)) .l) = (0 : Int32)
  · skip
    refine Dn.of (fun t z => XS.ifNo X0.here hx rfl (hb hby d1_3) rfl ((if0 _ _).trans (teq h1).2) z) ?_
    show Dn p e below s _ _ _ (s₁.setTop (mkF m 6 #[.val (.double v), .second] []))
    refine Dn.of (fun t z => XS.dconst0 X0.here hx rfl (v := (0 : UInt64)) (hb hby d1_6) rfl z) ?_
    show Dn p e below s _ _ _ (s₁.setTop (mkF m 7 #[.val (.double v), .second] [(.double (0 : UInt64))]))
    refine Dn.of (fun t z => XS.goto X0.here hx rfl (pc0 := 7) (pc' := 11) rfl (hb hby d1_7) (by decide) (by decide) z) ?_
    show Dn p e below s _ _ _ (s₁.setTop (mkF m 11 #[.val (.double v), .second] [(.double (0 : UInt64))]))
    exact Dn.ret X0 hx hlk hret rfl (Or.inr (Or.inr (Or.inl ⟨rfl, rfl, _, rfl⟩))) (hb hby d1_11) (by decide) (by decide) (⟨by rw [own_r, if_pos h1], N0, e0⟩)
  · skip
    refine Dn.of (fun t z => XS.ifYes X0.here hx rfl (pc0 := 3) (pc' := 10) rfl (hb hby d1_3) rfl ((if0 _ _).trans (feq h1).2) (by decide) (by decide) z) ?_
    show Dn p e below s _ _ _ (s₁.setTop (mkF m 10 #[.val (.double v), .second] []))
    refine Dn.of (fun t z => XS.dloadN X0.here hx rfl (hb hby d1_10) rfl z) ?_
    show Dn p e below s _ _ _ (s₁.setTop (mkF m 11 #[.val (.double v), .second] [(.double v)]))
    exact Dn.ret X0 hx hlk hret rfl (Or.inr (Or.inr (Or.inl ⟨rfl, rfl, _, rfl⟩))) (hb hby d1_11) (by decide) (by decide) (⟨by rw [own_r, if_neg h1], N0, e0⟩)
def own_Q (n0 : Nat) (v : Option Value) (h : Heap) (L : List Loc) : Prop := v = some (.int 1) ∧ Fr n0 L
theorem ef0 (m : MethodId) (x0 : Int64) (x1 : Int32) (x2 : Int32) : entryFrame m #[(.long x0), (.int x1), (.int x2)] maxLocals = mkF m 0 #[.val (.long x0), .second, .val (.int x1), .val (.int x2), .unset, .unset, .unset, .unset] [] := by first | (simp [entryFrame, mkF, argsToLocals, Value.category, maxLocals]; done) | rfl
set_option maxRecDepth 65536 in
set_option maxHeartbeats 40000000 in
theorem rm0 (l : Launch) (Z : State) (a0 : Array Value) (hw : ∀ d ∈ tables_1, d.before a0 Z = true) (ws : List Jvm.Cond) (h0 : Heap) (n0 : Nat) (Z0 : n0 ≤ h0.size) (i0 : Int64) (i1 i2 : Int32) :
    ctr l Z x code maxLocals ret ws room_1 0 0 #[(.long i0), (.int i1), (.int i2)] h0 (own_Q n0) := by
  refine ctr_of (plainFor_of_name pn1) ?_
  intro p e s m below meth jc s₁ hx hby hml hret hlk hnm hown hZ e0 X0
  have N0 := Fr.nil n0
  refine Dn.cast (ef0 m i0 i1 i2) ?_
  show Dn p e below s _ _ _ (s₁.setTop (mkF m 0 #[.val (.long i0), .second, .val (.int i1), .val (.int i2), .unset, .unset, .unset, .unset] []))
  have K : ∀ v : UInt64, NoNaN64 v → Dn p e below s (own_Q n0) 0 0 (s₁.setTop (mkF m 23 #[.val (.long i0), .second, .val (.int i1), .val (.int i2), .val (.double v), .second, .unset, .unset] [])) := by
    intro v hv
    refine Dn.of (fun t z => XS.dload X0.here hx rfl (hb hby at_23) rfl z) ?_
    show Dn p e below s (own_Q n0) 0 0 (s₁.setTop (mkF m 25 #[.val (.long i0), .second, .val (.int i1), .val (.int i2), .val (.double v), .second, .unset, .unset] [(.double v)]))
    obtain ⟨v1, T1, L1, Q1, X1, st1⟩ := cSt X0 hx hZ (y := (⟨"com/example/vellum/vellum/types/Reals", "unsignedZero", "(D)D"⟩ : MethodName)) hown (hw _ (List.mem_of_getElem? (i := 0) rfl)) (hw _ (List.mem_of_getElem? (i := 1) rfl)) (hw _ (List.mem_of_getElem? (i := 2) rfl)) (hw _ (List.mem_of_getElem? (i := 3) rfl)) (by decide) (argsL := [(.double v)]) (rest := []) (rm1 l Z a0 hw h0 n0 Z0 v) e0  0 (by decide) (by decide) (by decide) (by decide) (g := (mkF m 25 #[.val (.long i0), .second, .val (.int i1), .val (.int i2), .val (.double v), .second, .unset, .unset] [(.double v)])) rfl (by rw [hml]; rfl) (lenOf pd0 rfl) rfl (by show 2 * 0 + _ ≤ _; exact Nat.le_of_eq rfl) (hb hby at_25)
    obtain ⟨rfl, M1, e1⟩ := Q1
    refine Dn.of st1 ?_
    show Dn p e below s (own_Q n0) 0 0 (T1.setTop (mkF m 28 #[.val (.long i0), .second, .val (.int i1), .val (.int i2), .val (.double v), .second, .unset, .unset] [(.double (own_r v))]))
    refine Dn.of (fun t z => XS.dstore X1.here hx rfl (hb hby at_28) rfl (l' := #[.val (.long i0), .second, .val (.int i1), .val (.int i2), .val (.double v), .second, .val (.double (own_r v)), .second]) rfl z) ?_
    show Dn p e below s (own_Q n0) 0 0 (T1.setTop (mkF m 30 #[.val (.long i0), .second, .val (.int i1), .val (.int i2), .val (.double v), .second, .val (.double (own_r v)), .second] []))
    refine Dn.of (fun t z => XS.dload X1.here hx rfl (hb hby at_30) rfl z) ?_
    show Dn p e below s (own_Q n0) 0 0 (T1.setTop (mkF m 32 #[.val (.long i0), .second, .val (.int i1), .val (.int i2), .val (.double v), .second, .val (.double (own_r v)), .second] [(.double (own_r v))]))
    refine Dn.of (fun t z => XS.dload X1.here hx rfl (hb hby at_32) rfl z) ?_
    show Dn p e below s (own_Q n0) 0 0 (T1.setTop (mkF m 34 #[.val (.long i0), .second, .val (.int i1), .val (.int i2), .val (.double v), .second, .val (.double (own_r v)), .second] [(.double v), (.double (own_r v))]))
    refine Dn.of (fun t z => XS.dcmpS X1.here hx rfl (v := (cmpValue (FP.dcmp (own_r v) v) .l)) (hb hby at_34) rfl rfl z) ?_
    show Dn p e below s (own_Q n0) 0 0 (T1.setTop (mkF m 35 #[.val (.long i0), .second, .val (.int i1), .val (.int i2), .val (.double v), .second, .val (.double (own_r v)), .second] [(.int (cmpValue (FP.dcmp (own_r v) v) .l))]))
    refine Dn.of (fun t z => XS.ifYes X1.here hx rfl (pc0 := 35) (pc' := 40) rfl (hb hby at_35) rfl ((if0 _ _).trans (teq (own_same hv)).1) (by decide) (by decide) z) ?_
    show Dn p e below s (own_Q n0) 0 0 (T1.setTop (mkF m 40 #[.val (.long i0), .second, .val (.int i1), .val (.int i2), .val (.double v), .second, .val (.double (own_r v)), .second] []))
    refine Dn.of (fun t z => XS.dload X1.here hx rfl (hb hby at_40) rfl z) ?_
    show Dn p e below s (own_Q n0) 0 0 (T1.setTop (mkF m 42 #[.val (.long i0), .second, .val (.int i1), .val (.int i2), .val (.double v), .second, .val (.double (own_r v)), .second] [(.double (own_r v))]))
    refine Dn.of (fun t z => XS.dconst0 X1.here hx rfl (v := (0 : UInt64)) (hb hby at_42) rfl z) ?_
    show Dn p e below s (own_Q n0) 0 0 (T1.setTop (mkF m 43 #[.val (.long i0), .second, .val (.int i1), .val (.int i2), .val (.double v), .second, .val (.double (own_r v)), .second] [(.double (0 : UInt64)), (.double (own_r v))]))
    refine Dn.of (fun t z => XS.dcmpS X1.here hx rfl (v := (cmpValue (FP.dcmp (own_r v) (0 : UInt64)) .l)) (hb hby at_43) rfl rfl z) ?_
    show Dn p e below s (own_Q n0) 0 0 (T1.setTop (mkF m 44 #[.val (.long i0), .second, .val (.int i1), .val (.int i2), .val (.double v), .second, .val (.double (own_r v)), .second] [(.int (cmpValue (FP.dcmp (own_r v) (0 : UInt64)) .l))]))
    by_cases hz : cmpValue (FP.dcmp v (0 : UInt64)) .l = (0 : Int32)
    · skip
      have er : own_r v = 0 := if_pos hz
      refine Dn.of (fun t z => XS.ifNo X1.here hx rfl (hb hby at_44) rfl ((if0 _ _).trans (teq (by rw [er]; decide +kernel)).2) z) ?_
      show Dn p e below s (own_Q n0) 0 0 (T1.setTop (mkF m 47 #[.val (.long i0), .second, .val (.int i1), .val (.int i2), .val (.double v), .second, .val (.double (own_r v)), .second] []))
      refine Dn.of (fun t z => XS.dconst1 X1.here hx rfl (v := (4607182418800017408 : UInt64)) (hb hby at_47) rfl z) ?_
      show Dn p e below s (own_Q n0) 0 0 (T1.setTop (mkF m 48 #[.val (.long i0), .second, .val (.int i1), .val (.int i2), .val (.double v), .second, .val (.double (own_r v)), .second] [(.double (4607182418800017408 : UInt64))]))
      refine Dn.of (fun t z => XS.dload X1.here hx rfl (hb hby at_48) rfl z) ?_
      show Dn p e below s (own_Q n0) 0 0 (T1.setTop (mkF m 50 #[.val (.long i0), .second, .val (.int i1), .val (.int i2), .val (.double v), .second, .val (.double (own_r v)), .second] [(.double (own_r v)), (.double (4607182418800017408 : UInt64))]))
      rw [er]
      show Dn p e below s (own_Q n0) 0 0 (T1.setTop (mkF m 50 #[.val (.long i0), .second, .val (.int i1), .val (.int i2), .val (.double v), .second, .val (.double (0 : UInt64)), .second] [(.double (0 : UInt64)), (.double (4607182418800017408 : UInt64))]))
      refine Dn.of (fun t z => XS.ddivS X1.here hx rfl (v := (FP.ddiv (4607182418800017408 : UInt64) (0 : UInt64))) (hb hby at_50) rfl (by decide +kernel) rfl z) ?_
      show Dn p e below s (own_Q n0) 0 0 (T1.setTop (mkF m 51 #[.val (.long i0), .second, .val (.int i1), .val (.int i2), .val (.double v), .second, .val (.double (0 : UInt64)), .second] [(.double (FP.ddiv (4607182418800017408 : UInt64) (0 : UInt64)))]))
      refine Dn.of (fun t z => XS.dconst0 X1.here hx rfl (v := (0 : UInt64)) (hb hby at_51) rfl z) ?_
      show Dn p e below s (own_Q n0) 0 0 (T1.setTop (mkF m 52 #[.val (.long i0), .second, .val (.int i1), .val (.int i2), .val (.double v), .second, .val (.double (0 : UInt64)), .second] [(.double (0 : UInt64)), (.double (FP.ddiv (4607182418800017408 : UInt64) (0 : UInt64)))]))
      refine Dn.of (fun t z => XS.dcmpS X1.here hx rfl (v := (cmpValue (FP.dcmp (FP.ddiv (4607182418800017408 : UInt64) (0 : UInt64)) (0 : UInt64)) .l)) (hb hby at_52) rfl rfl z) ?_
      show Dn p e below s (own_Q n0) 0 0 (T1.setTop (mkF m 53 #[.val (.long i0), .second, .val (.int i1), .val (.int i2), .val (.double v), .second, .val (.double (0 : UInt64)), .second] [(.int (cmpValue (FP.dcmp (FP.ddiv (4607182418800017408 : UInt64) (0 : UInt64)) (0 : UInt64)) .l))]))
      refine Dn.of (fun t z => XS.ifNo X1.here hx rfl (hb hby at_53) rfl ((if0 _ _).trans (tlt (by decide +kernel)).2.2.2) z) ?_
      show Dn p e below s (own_Q n0) 0 0 (T1.setTop (mkF m 56 #[.val (.long i0), .second, .val (.int i1), .val (.int i2), .val (.double v), .second, .val (.double (0 : UInt64)), .second] []))
      refine Dn.of (fun t z => XS.iconst X1.here hx rfl (hb hby at_56) z) ?_
      show Dn p e below s (own_Q n0) 0 0 (T1.setTop (mkF m 57 #[.val (.long i0), .second, .val (.int i1), .val (.int i2), .val (.double v), .second, .val (.double (0 : UInt64)), .second] [(.int (1 : Int32))]))
      refine Dn.of (fun t z => XS.goto X1.here hx rfl (pc0 := 57) (pc' := 61) rfl (hb hby at_57) (by decide) (by decide) z) ?_
      show Dn p e below s (own_Q n0) 0 0 (T1.setTop (mkF m 61 #[.val (.long i0), .second, .val (.int i1), .val (.int i2), .val (.double v), .second, .val (.double (0 : UInt64)), .second] [(.int (1 : Int32))]))
      exact Dn.retN X1 hx hlk (t := .boolean) hret (by simp) (hb hby at_61) (by decide) (by decide) (⟨rfl, Fr.app N0 M1⟩)
    · skip
      have er : own_r v = v := if_neg hz
      refine Dn.of (fun t z => XS.ifYes X1.here hx rfl (pc0 := 44) (pc' := 62) rfl (hb hby at_44) rfl ((if0 _ _).trans (feq (by rw [er]; exact hz)).2) (by decide) (by decide) z) ?_
      show Dn p e below s (own_Q n0) 0 0 (T1.setTop (mkF m 62 #[.val (.long i0), .second, .val (.int i1), .val (.int i2), .val (.double v), .second, .val (.double (own_r v)), .second] []))
      refine Dn.of (fun t z => XS.iconst X1.here hx rfl (hb hby at_62) z) ?_
      show Dn p e below s (own_Q n0) 0 0 (T1.setTop (mkF m 63 #[.val (.long i0), .second, .val (.int i1), .val (.int i2), .val (.double v), .second, .val (.double (own_r v)), .second] [(.int (1 : Int32))]))
      exact Dn.retN X1 hx hlk (t := .boolean) hret (by simp) (hb hby at_63) (by decide) (by decide) (⟨rfl, Fr.app N0 M1⟩)
  refine Dn.of (fun t z => XS.lloadN X0.here hx rfl (hb hby at_0) rfl z) ?_
  show Dn p e below s (own_Q n0) 0 0 (s₁.setTop (mkF m 1 #[.val (.long i0), .second, .val (.int i1), .val (.int i2), .unset, .unset, .unset, .unset] [(.long i0)]))
  refine Dn.of (fun t z => XS.l2dS X0.here hx rfl (v := FP.l2d i0) (hb hby at_1) rfl rfl z) ?_
  show Dn p e below s (own_Q n0) 0 0 (s₁.setTop (mkF m 2 #[.val (.long i0), .second, .val (.int i1), .val (.int i2), .unset, .unset, .unset, .unset] [(.double (FP.l2d i0))]))
  refine Dn.of (fun t z => XS.iconst X0.here hx rfl (hb hby at_2) z) ?_
  show Dn p e below s (own_Q n0) 0 0 (s₁.setTop (mkF m 3 #[.val (.long i0), .second, .val (.int i1), .val (.int i2), .unset, .unset, .unset, .unset] [(.int (1 : Int32)), (.double (FP.l2d i0))]))
  refine Dn.of (fun t z => XS.iloadN X0.here hx rfl (hb hby at_3) rfl z) ?_
  show Dn p e below s (own_Q n0) 0 0 (s₁.setTop (mkF m 4 #[.val (.long i0), .second, .val (.int i1), .val (.int i2), .unset, .unset, .unset, .unset] [(.int i1), (.int (1 : Int32)), (.double (FP.l2d i0))]))
  refine Dn.of (fun t z => XS.bipush X0.here hx rfl (hb hby at_4) z) ?_
  show Dn p e below s (own_Q n0) 0 0 (s₁.setTop (mkF m 6 #[.val (.long i0), .second, .val (.int i1), .val (.int i2), .unset, .unset, .unset, .unset] [(.int (7 : Int32)), (.int i1), (.int (1 : Int32)), (.double (FP.l2d i0))]))
  refine Dn.of (fun t z => XS.iand X0.here hx rfl (hb hby at_6) rfl z) ?_
  show Dn p e below s (own_Q n0) 0 0 (s₁.setTop (mkF m 7 #[.val (.long i0), .second, .val (.int i1), .val (.int i2), .unset, .unset, .unset, .unset] [(.int (i1 &&& (7 : Int32))), (.int (1 : Int32)), (.double (FP.l2d i0))]))
  refine Dn.of (fun t z => XS.iadd X0.here hx rfl (hb hby at_7) rfl z) ?_
  show Dn p e below s (own_Q n0) 0 0 (s₁.setTop (mkF m 8 #[.val (.long i0), .second, .val (.int i1), .val (.int i2), .unset, .unset, .unset, .unset] [(.int ((1 : Int32) + (i1 &&& (7 : Int32)))), (.double (FP.l2d i0))]))
  refine Dn.of (fun t z => XS.i2dS X0.here hx rfl (v := FP.i2d ((1 : Int32) + (i1 &&& (7 : Int32)))) (hb hby at_8) rfl rfl z) ?_
  show Dn p e below s (own_Q n0) 0 0 (s₁.setTop (mkF m 9 #[.val (.long i0), .second, .val (.int i1), .val (.int i2), .unset, .unset, .unset, .unset] [(.double (FP.i2d ((1 : Int32) + (i1 &&& (7 : Int32))))), (.double (FP.l2d i0))]))
  refine Dn.of (fun t z => XS.ddivS X0.here hx rfl (v := (FP.ddiv (FP.l2d i0) (FP.i2d ((1 : Int32) + (i1 &&& (7 : Int32)))))) (hb hby at_9) rfl (own_quo i0 i1) rfl z) ?_
  show Dn p e below s (own_Q n0) 0 0 (s₁.setTop (mkF m 10 #[.val (.long i0), .second, .val (.int i1), .val (.int i2), .unset, .unset, .unset, .unset] [(.double (FP.ddiv (FP.l2d i0) (FP.i2d ((1 : Int32) + (i1 &&& (7 : Int32))))))]))
  refine Dn.of (fun t z => XS.dstore X0.here hx rfl (hb hby at_10) rfl (l' := #[.val (.long i0), .second, .val (.int i1), .val (.int i2), .val (.double (FP.ddiv (FP.l2d i0) (FP.i2d ((1 : Int32) + (i1 &&& (7 : Int32)))))), .second, .unset, .unset]) rfl z) ?_
  show Dn p e below s (own_Q n0) 0 0 (s₁.setTop (mkF m 12 #[.val (.long i0), .second, .val (.int i1), .val (.int i2), .val (.double (FP.ddiv (FP.l2d i0) (FP.i2d ((1 : Int32) + (i1 &&& (7 : Int32)))))), .second, .unset, .unset] []))
  refine Dn.of (fun t z => XS.iloadN X0.here hx rfl (hb hby at_12) rfl z) ?_
  show Dn p e below s (own_Q n0) 0 0 (s₁.setTop (mkF m 13 #[.val (.long i0), .second, .val (.int i1), .val (.int i2), .val (.double (FP.ddiv (FP.l2d i0) (FP.i2d ((1 : Int32) + (i1 &&& (7 : Int32)))))), .second, .unset, .unset] [(.int i2)]))
  refine Dn.of (fun t z => XS.iconst X0.here hx rfl (hb hby at_13) z) ?_
  show Dn p e below s (own_Q n0) 0 0 (s₁.setTop (mkF m 14 #[.val (.long i0), .second, .val (.int i1), .val (.int i2), .val (.double (FP.ddiv (FP.l2d i0) (FP.i2d ((1 : Int32) + (i1 &&& (7 : Int32)))))), .second, .unset, .unset] [(.int (1 : Int32)), (.int i2)]))
  refine Dn.of (fun t z => XS.iand X0.here hx rfl (hb hby at_14) rfl z) ?_
  show Dn p e below s (own_Q n0) 0 0 (s₁.setTop (mkF m 15 #[.val (.long i0), .second, .val (.int i1), .val (.int i2), .val (.double (FP.ddiv (FP.l2d i0) (FP.i2d ((1 : Int32) + (i1 &&& (7 : Int32)))))), .second, .unset, .unset] [(.int (i2 &&& (1 : Int32)))]))
  by_cases hf : (i2 &&& (1 : Int32)) = (0 : Int32)
  · skip
    refine Dn.of (fun t z => XS.ifYes X0.here hx rfl (pc0 := 15) (pc' := 23) rfl (hb hby at_15) rfl ((if0 _ _).trans (teq hf).1) (by decide) (by decide) z) ?_
    show Dn p e below s (own_Q n0) 0 0 (s₁.setTop (mkF m 23 #[.val (.long i0), .second, .val (.int i1), .val (.int i2), .val (.double (FP.ddiv (FP.l2d i0) (FP.i2d ((1 : Int32) + (i1 &&& (7 : Int32)))))), .second, .unset, .unset] []))
    exact K _ (own_quo i0 i1)
  · skip
    refine Dn.of (fun t z => XS.ifNo X0.here hx rfl (hb hby at_15) rfl ((if0 _ _).trans (feq hf).1) z) ?_
    show Dn p e below s (own_Q n0) 0 0 (s₁.setTop (mkF m 18 #[.val (.long i0), .second, .val (.int i1), .val (.int i2), .val (.double (FP.ddiv (FP.l2d i0) (FP.i2d ((1 : Int32) + (i1 &&& (7 : Int32)))))), .second, .unset, .unset] []))
    refine Dn.of (fun t z => XS.dload X0.here hx rfl (hb hby at_18) rfl z) ?_
    show Dn p e below s (own_Q n0) 0 0 (s₁.setTop (mkF m 20 #[.val (.long i0), .second, .val (.int i1), .val (.int i2), .val (.double (FP.ddiv (FP.l2d i0) (FP.i2d ((1 : Int32) + (i1 &&& (7 : Int32)))))), .second, .unset, .unset] [(.double (FP.ddiv (FP.l2d i0) (FP.i2d ((1 : Int32) + (i1 &&& (7 : Int32))))))]))
    refine Dn.of (fun t z => XS.dnegS X0.here hx rfl (v := FP.dneg (FP.ddiv (FP.l2d i0) (FP.i2d ((1 : Int32) + (i1 &&& (7 : Int32)))))) (hb hby at_20) rfl rfl z) ?_
    show Dn p e below s (own_Q n0) 0 0 (s₁.setTop (mkF m 21 #[.val (.long i0), .second, .val (.int i1), .val (.int i2), .val (.double (FP.ddiv (FP.l2d i0) (FP.i2d ((1 : Int32) + (i1 &&& (7 : Int32)))))), .second, .unset, .unset] [(.double (FP.dneg (FP.ddiv (FP.l2d i0) (FP.i2d ((1 : Int32) + (i1 &&& (7 : Int32)))))))]))
    refine Dn.of (fun t z => XS.dstore X0.here hx rfl (hb hby at_21) rfl (l' := #[.val (.long i0), .second, .val (.int i1), .val (.int i2), .val (.double (FP.dneg (FP.ddiv (FP.l2d i0) (FP.i2d ((1 : Int32) + (i1 &&& (7 : Int32))))))), .second, .unset, .unset]) rfl z) ?_
    show Dn p e below s (own_Q n0) 0 0 (s₁.setTop (mkF m 23 #[.val (.long i0), .second, .val (.int i1), .val (.int i2), .val (.double (FP.dneg (FP.ddiv (FP.l2d i0) (FP.i2d ((1 : Int32) + (i1 &&& (7 : Int32))))))), .second, .unset, .unset] []))
    exact K _ (own_neg (own_quo i0 i1))
set_option maxRecDepth 65536 in
set_option maxHeartbeats 40000000 in
theorem comes_1 {Post : Tables → Env → Array Value → State → Outcome → State → Prop} (hpost : ∀ tb e args s v u, (limb_1_1.after args s (.returned v) u = true ∧ limb_1_2.after args s (.returned v) u = true ∧ True) → FrameEnd s (.returned v) u (Jvm.fieldLocs frame_1_writes args s ++ Jvm.arrayLocs frame_1_arrays args s ++ Jvm.staticLocs frame_1_statics s) 0 0 → Post tb e args s (.returned v) u) :
    ArmFor flags0 classFile x code maxLocals ret World_1 tables_1 room_1 Calls_1 rest_1 Pre_1 Post := by
  intro l hfl _ _ p e ha hc hk s m args below hf hA hF happ hP
  obtain ⟨hcalls, hrest, hpre⟩ := hP
  obtain ⟨-, -, -, hnamed, -, -, -, hat⟩ := (Spec.applies_iff hf).mp happ
  obtain ⟨hg, hn⟩ := and_e (Cond.before_iff.mp (show (Jvm.Cond.and given_1 narrow_1).before args s = true from hpre))
  obtain ⟨hcount, hr⟩ := and_e hg
  obtain ⟨w0, w1, w2, rfl⟩ : ∃ w0 w1 w2 : Value, args = #[w0, w1, w2] := by
    have hs : args.size = 3 := by simpa [Cond.value, given_1] using hcount
    obtain ⟨L⟩ := args
    match L, hs with
    | [w0, w1, w2], _ => exact ⟨w0, w1, w2, rfl⟩
  have hw := fun d (hd : d ∈ tables_1) => atoms_spec (ws := Jvm.Cond.code x code maxLocals ret :: tables_1) hat d (List.mem_cons_of_mem _ hd)
  have hfit : Fit s := fun {y c} hc i hi => by
    obtain ⟨ha, rfl⟩ := Array.getElem?_eq_some_iff.mp hc
    have q := List.all_eq_true.mp ((Array.all_eq_true_iff_forall_mem.mp hF) _ (Array.getElem_mem ha)) i (List.mem_range.mpr hi)
    simpa [Array.getElem?_eq_getElem hi] using q
  obtain ⟨ha0, hr⟩ := and_e hr
  obtain ⟨i0, ei0⟩ := isL_v ha0
  obtain rfl : w0 = (.long i0) := Option.some.inj ei0
  obtain ⟨ha1, hr⟩ := and_e hr
  obtain ⟨i1, ei1⟩ := is_v ha1
  obtain rfl : w1 = (.int i1) := Option.some.inj ei1
  have ha2 := hr
  obtain ⟨i2, ei2⟩ := is_v ha2
  obtain rfl : w2 = (.int i2) := Option.some.inj ei2
  obtain ⟨n, o, h1, h2, h3, _, L, rfl, ⟨rfl, N⟩, hq⟩ := rm0 l s _ hw tables_1 s.heap s.heap.size (Nat.le_refl _) i0 i1 i2 p e ha hc hk s m _ below hf ((Spec.applies_iff_loose hf).mp happ).1 ⟨rfl, State.Warmed39.refl s, rfl⟩ trivial
  refine ⟨n, _, h1, h2, h3, hpost _ _ _ _ _ _ ⟨Cond.after_iff.mpr rfl, Cond.after_iff.mpr (eq_i res_at (Term.int_eval (1)) rfl), trivial⟩ ⟨hq.1, hq.2.1, (hq.2.2.sift fun y hy => Or.inr (N y hy)).mono (by decide) (by decide)⟩⟩
theorem main_1_1 : Claimed_1_1 := comes_1 fun _ _ _ _ _ _ h hF => ⟨h.1, hF⟩
theorem main_1_2 : Claimed_1_2 := comes_1 fun _ _ _ _ _ _ h hF => ⟨h.2.1, hF⟩
end Jvm.Pilot.@@N@@
namespace Jvm.Pilot.@@N@@
open Jvm Jvm.ClassFile Sem Op Lib Jvm.Free Jvm.Stand Jvm.Pilot.@@N@@.Jvm.D
/-! MADE BY PROGRAM (witnessworld.py) out of the Statement's table words and the real class files: 9 classes; the members and pool entries that the words name. The judged class is class 1, her method 1. -/
namespace start1
open Jvm.ClassFile
def u (s : String) : CpInfo := .utf8 (stringToUtf16 s)
/-- a pool by its gaps: so many unusable entries, then the entry; so many at the end -/
def gap : Nat → List CpInfo → List CpInfo
  | 0, r => r
  | n + 1, r => .unusable :: gap n r
def poolList (es : List (Nat × CpInfo)) (last : Nat) : List CpInfo := es.foldr (fun e r => gap e.1 (e.2 :: r)) (gap last [])
def pool (es : List (Nat × CpInfo)) (last : Nat) : Array CpInfo := ⟨poolList es last⟩
def fileOf (pool : Array CpInfo) (this : Nat) (attrs : Array Attribute := #[]) (ms : Array MethodInfo := #[]) (fl : Nat := 33) (sup : Nat := 0) (ifs : Array Nat := #[]) (fds : Array FieldInfo := #[]) : ClassFile where
  minorVersion := 0
  majorVersion := 65
  constantPool := pool
  accessFlags := fl
  thisClass := this
  superClass := sup
  interfaces := ifs
  fields := fds
  methods := ms
  attributes := attrs
def plain (name : String) (sup : Option ClassId) : Class where
  name := name
  kind := .ordinary
  loader := none
  accessFlags := 33
  super := sup
  interfaces := #[]
  cf := none
  fields := #[]
  methods := #[]
  instanceTypes := #[]
  staticTypes := #[]
  resolved := #[]
  callSites := []
  init := .initialized
  statics := none
  mirror := none

def pool0 : Array CpInfo := pool [(5, u "<init>"), (0, u "()V"), (1, .class_ 10), (1, u "java/lang/Object")] 113

def k0m0 : Method := { name := "<init>", desc := "()V", sig := { parameters := [], returnType := none }, accessFlags := 1, code := none }
/-- java/lang/Object -/
def k0 : Class := { plain "java/lang/Object" none with
  accessFlags := 33
  interfaces := #[]
  cf := some (fileOf pool0 8 #[] #[{ accessFlags := 1, nameIndex := 5, descriptorIndex := 6, attributes := #[] }] 33 0 #[] #[])
  fields := #[]
  methods := #[k0m0]
  instanceTypes := #[]
  staticTypes := #[]
  resolved := Array.replicate 124 none
  statics := none }

def pool1 : Array CpInfo := pool [(2, .class_ 4), (1, u "java/lang/Object"), (0, u "<init>"), (0, u "()V"), (0, .methodref 8 9), (0, .class_ 10), (0, .nameAndType 11 12), (0, u "com/example/vellum/vellum/types/Reals"), (0, u "unsignedZero"), (0, u "(D)D"), (0, .class_ 14), (0, u "com/example/vellum/vellum/types/RealsUnsignedZeroPinLaw"), (2, u "law"), (0, u "(JII)Z")] 3

def k1m0 : Method := { name := "<init>", desc := "()V", sig := { parameters := [], returnType := none }, accessFlags := 2, code := none }
def k1c1 : Code := { maxStack := 5, maxLocals := 8, code := code, exceptionTable := #[], attributes := #[] }
def k1m1 : Method := { name := "law", desc := "(JII)Z", sig := { parameters := [.long, .int, .int], returnType := some .boolean }, accessFlags := 9, code := some k1c1 }
/-- com/example/vellum/vellum/types/RealsUnsignedZeroPinLaw -/
def k1 : Class := { plain "com/example/vellum/vellum/types/RealsUnsignedZeroPinLaw" (some 0) with
  accessFlags := 49
  interfaces := #[]
  cf := some (fileOf pool1 13 #[] #[{ accessFlags := 2, nameIndex := 5, descriptorIndex := 6, attributes := #[] }, { accessFlags := 9, nameIndex := 17, descriptorIndex := 18, attributes := #[] }] 49 2 #[] #[])
  fields := #[]
  methods := #[k1m0, k1m1]
  instanceTypes := #[]
  staticTypes := #[]
  resolved := Array.replicate 22 none
  statics := none }

def pool2 : Array CpInfo := pool [(2, .class_ 4), (1, u "java/lang/Object"), (0, u "<init>"), (0, u "()V"), (22, .class_ 30), (0, u "com/example/vellum/vellum/types/Reals"), (5, u "unsignedZero"), (0, u "(D)D")] 17

def k2m0 : Method := { name := "<init>", desc := "()V", sig := { parameters := [], returnType := none }, accessFlags := 2, code := none }
def k2c1 : Code := { maxStack := 4, maxLocals := 2, code := prog_83_method_3_code, exceptionTable := #[], attributes := #[] }
def k2m1 : Method := { name := "unsignedZero", desc := "(D)D", sig := { parameters := [.double], returnType := some .double }, accessFlags := 8, code := some k2c1 }
/-- com/example/vellum/vellum/types/Reals -/
def k2 : Class := { plain "com/example/vellum/vellum/types/Reals" (some 0) with
  accessFlags := 48
  interfaces := #[]
  cf := some (fileOf pool2 29 #[] #[{ accessFlags := 2, nameIndex := 5, descriptorIndex := 6, attributes := #[] }, { accessFlags := 8, nameIndex := 36, descriptorIndex := 37, attributes := #[] }] 48 2 #[] #[])
  fields := #[]
  methods := #[k2m0, k2m1]
  instanceTypes := #[]
  staticTypes := #[]
  resolved := Array.replicate 55 none
  statics := none }

def pool3 : Array CpInfo := pool [(1, u "java/lang/Cloneable"), (0, .class_ 1), (0, u "java/lang/Object"), (0, .class_ 3)] 3

/-- java/lang/Cloneable -/
def k3 : Class := { plain "java/lang/Cloneable" (some 0) with
  accessFlags := 1537
  interfaces := #[]
  cf := some (fileOf pool3 2 #[] #[] 1537 4 #[] #[])
  fields := #[]
  methods := #[]
  instanceTypes := #[]
  staticTypes := #[]
  resolved := Array.replicate 8 none
  statics := none }

def pool4 : Array CpInfo := pool [(1, u "java/io/Serializable"), (0, .class_ 1), (0, u "java/lang/Object"), (0, .class_ 3)] 3

/-- java/io/Serializable -/
def k4 : Class := { plain "java/io/Serializable" (some 0) with
  accessFlags := 1537
  interfaces := #[]
  cf := some (fileOf pool4 2 #[] #[] 1537 4 #[] #[])
  fields := #[]
  methods := #[]
  instanceTypes := #[]
  staticTypes := #[]
  resolved := Array.replicate 8 none
  statics := none }

/-- the primitive byte -/
def k5 : Class := { plain "byte" none with kind := .primitive 'B', accessFlags := 0x411 }
/-- [B -/
def k6 : Class := { plain "[B" (some 0) with kind := .array 5 .byte, interfaces := #[3, 4], accessFlags := 1041 }

/-- the primitive int -/
def k7 : Class := { plain "int" none with kind := .primitive 'I', accessFlags := 0x411 }
/-- [I -/
def k8 : Class := { plain "[I" (some 0) with kind := .array 7 .int, interfaces := #[3, 4], accessFlags := 1041 }

def heap : Heap := #[]
def classes : Array Class := #[k0, k1, k2, k3, k4, k5, k6, k7, k8]
def interned : List (Array UInt16 × Addr) := []
def slotsUsed : Nat := 0
def theMethod : MethodId := ⟨1, 1⟩
def args0 : Array Value := #[.long 5, .int 300, .int 7]
def aboutOver (below : List Frame) : State where
  vm := { classes := classes, interned := interned.toArray }
  heap := heap
  slotsUsed := slotsUsed
  threads := #[{ frames := .invoking theMethod args0 :: below }]
def below0 : List Frame := [.native { method := ⟨0, 0⟩, args := #[] }]
def about1 : State := aboutOver below0
def p0 : Program := .bare "" "" ""
def e0 : Env := launch0.env 0 0 0
theorem w_frames : about1.frames = Frame.invoking theMethod args0 :: below0 := rfl
set_option maxRecDepth 65536 in
theorem w_args : argsFit about1.vm theMethod args0 = true := by decide +kernel
set_option maxRecDepth 65536 in
theorem w_heap : heapFits about1 = true := by decide +kernel
set_option maxRecDepth 65536 in
theorem w_runnable : about1.curStatus? = some .runnable := by decide +kernel
set_option maxRecDepth 65536 in
theorem w_alone : about1.alone = true := by decide +kernel
set_option maxRecDepth 65536 in
theorem w_named : about1.methodNamed? x = some theMethod := by decide +kernel
set_option maxRecDepth 65536 in
theorem w_hears : about1.hears theMethod below0 = true := by decide +kernel
set_option maxRecDepth 65536 in
theorem w_ripe : about1.ripe theMethod args0 below0 = true := by decide +kernel
theorem w_running : about1.status = .running := rfl
set_option maxRecDepth 65536 in
theorem w_room : about1.hasRoom e0.platform room_1 = true :=
  launch0.hasRoom_least _ room_1 (by decide +kernel) (by decide +kernel) (by decide +kernel) (by decide +kernel) (by decide +kernel) (by decide +kernel)
theorem allAtoms_all (ts : List Jvm.Cond) (a : Array Jvm.Value) (st : Jvm.State) : (allAtoms ts).before a st = ts.all (fun c => c.before a st) := by
  induction ts with
  | nil => rfl
  | cons c t ih =>
    show (Jvm.Cond.and c (allAtoms t)).before a st = _
    rw [Jvm.Cond.before_and, ih, List.all_cons]
def words1 : List Jvm.Cond := Jvm.Cond.code x code maxLocals ret :: tables_1
/-- a 'code' word, met by the world's own term for the bytes: nothing is compared byte by byte -/
theorem code_word {y : MethodName} {bytes : ByteArray} {mx : Nat} {rt : Option FieldType} {a : Array Value} {s : State} {m : MethodId} {meth : Method} {c : Code} (h1 : s.methodNamed? y = some m) (h2 : s.vm.method? m = some meth) (h3 : meth.code = some c) (h4 : c.code = bytes)
    (h5 : (c.maxLocals == mx && c.exceptionTable.isEmpty && decide (c.maxStack ≤ mostOperands) && decide (meth.sig.returnType = rt) && !meth.locks && decide (parseMethodDescriptor y.desc = some meth.sig)) = true) : (Jvm.Cond.code y bytes mx rt).before a s = true := by
  simp only [Bool.and_eq_true, beq_iff_eq, Bool.not_eq_true', decide_eq_true_eq] at h5
  obtain ⟨⟨⟨⟨⟨g1, g2⟩, g3⟩, g4⟩, g5⟩, g6⟩ := h5
  simp [Cond.before, Cond.holds, Cond.value, h1, h2, h3, h4, g1, g2, g3, g4, g5, g6]
def isCode : Jvm.Cond → Bool
  | .code _ _ _ _ => true
  | _ => false
theorem all_split {L : List Jvm.Cond} {P : Jvm.Cond → Bool} (h1 : L.all (fun c => isCode c || P c) = true) (h2 : ∀ c ∈ L.filter isCode, P c = true) : L.all P = true := by
  refine List.all_eq_true.mpr fun c hc => ?_
  have h := List.all_eq_true.mp h1 c hc
  rcases Bool.eq_false_or_eq_true (isCode c) with hi | hi
  · exact h2 c (List.mem_filter.mpr ⟨hc, hi⟩)
  · simpa [hi] using h
set_option maxRecDepth 65536 in
theorem w_c0 : (Jvm.Cond.code x code maxLocals ret).before args0 about1 = true := code_word (m := ⟨1, 1⟩) (meth := k1m1) (c := k1c1) (by decide +kernel) rfl rfl rfl (by decide +kernel)
set_option maxRecDepth 65536 in
theorem w_c1 : (Jvm.Cond.code ({ cls := "com/example/vellum/vellum/types/Reals", name := "unsignedZero", desc := "(D)D" } : Jvm.MethodName) prog_83_method_3_code (2 : Nat) (Option.some Jvm.ClassFile.FieldType.double)).before args0 about1 = true := code_word (m := ⟨2, 1⟩) (meth := k2m1) (c := k2c1) (by decide +kernel) rfl rfl rfl (by decide +kernel)
def codes1 : List Jvm.Cond := [Jvm.Cond.code x code maxLocals ret, Jvm.Cond.code ({ cls := "com/example/vellum/vellum/types/Reals", name := "unsignedZero", desc := "(D)D" } : Jvm.MethodName) prog_83_method_3_code (2 : Nat) (Option.some Jvm.ClassFile.FieldType.double)]
set_option maxRecDepth 65536 in
theorem codes_eq : words1.filter isCode = codes1 := rfl
theorem w_codes : ∀ c ∈ words1.filter isCode, c.before args0 about1 = true := by
  rw [codes_eq]
  intro c hc
  simp only [codes1, List.mem_cons, List.not_mem_nil, or_false] at hc
  rcases hc with rfl | rfl
  · exact w_c0
  · exact w_c1
set_option maxRecDepth 65536 in
theorem w_t1 : words1.all (fun c => isCode c || c.before args0 about1) = true := by decide +kernel
theorem w_tables : (allAtoms (Jvm.Cond.code x code maxLocals ret :: tables_1)).before args0 about1 = true := by
  rw [allAtoms_all]
  show words1.all (fun c => c.before args0 about1) = true
  refine all_split ?_ w_codes
  rw [w_t1]
set_option maxRecDepth 65536 in
theorem w_case : (Jvm.Cond.and given_1 narrow_1).before args0 about1 = true := by decide +kernel
theorem w_applies : (headSpec (Jvm.Cond.code x code maxLocals ret :: tables_1) room_1).applies x e0.platform about1 = true :=
  (Spec.applies_iff w_frames).mpr ⟨w_running, w_runnable, w_alone, w_named, w_hears, w_ripe, w_room, w_tables⟩
theorem atStart : AtStart classFile x code maxLocals ret World_1 tables_1 room_1 Calls_1 rest_1 Pre_1 launch0 p0 e0 about1 theMethod args0 below0 :=
  ⟨lists_1, trivial, launch0.admits_env _ _ _, launch0.least_env, fairChoices_fair.cas, fairChoices_fair.clock, w_frames, w_args, w_heap, w_applies, trivial, trivial, w_case⟩
end start1
theorem witness_1 : WitnessClaimed_1 := ⟨start1.p0, start1.e0, start1.about1, start1.theMethod, start1.args0, start1.below0, start1.atStart⟩
end Jvm.Pilot.@@N@@
