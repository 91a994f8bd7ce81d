import JvmDerived
import JvmDerived.Pilot.@@N@@Statement
import JvmDerived.Pilot.@@N@@Code
set_option linter.unusedVariables false
set_option linter.unusedSimpArgs false
namespace Jvm.RoadKit
open Sem ClassFile Op Lib Jvm.Stand Jvm.Free Jvm.LawKit
section Own
variable {p : Program} {l : Launch} {e : Env} {R : Room} {s : State} {m : MethodId} {args : Array Value} {below : List Frame} {meth : Method} {c : Code} {T : State} {locs : List Loc} {cells slots : Nat}
/-- from the state S the run comes to the end of this invocation, and Q says what it returned and left -/
def Dn (p : Program) (e : Env) (below : List Frame) (s : State) (Q : Option Value → Heap → List Loc → Prop) (k n : Nat) (S : State) : Prop :=
  ∃ U o, Steps p.tables e below S U ∧ U.status = .running ∧ Ended U below o ∧ ∃ v L, o = .returned v ∧ Q v U.heap L ∧ FrameEnd s o U L k n
variable {Q Q' : Option Value → Heap → List Loc → Prop} {k n : Nat} {S S' : State} {Z : State} {a0 : Array Value} {h : Heap}
theorem Dn.of (w : ∀ t, Steps p.tables e below S' t → Steps p.tables e below S t) (d : Dn p e below s Q k n S') : Dn p e below s Q k n S := by
  obtain ⟨U, o, st, r⟩ := d
  exact ⟨U, o, w U st, r⟩
theorem Dn.cast {g g' : JFrame} (q : g = g') (d : Dn p e below s Q k n (T.setTop g')) : Dn p e below s Q k n (T.setTop g) := q ▸ d
theorem Dn.ret (X : Stand p l e R s m args below meth c T locs cells slots) (hx : p.tables.exec = Jvm.exec) (hlk : meth.locks = false) {pc : Nat} {Ls : Array Slot} {w : Value} {t : FieldType} {i : Instr} {rest : List Value} (hret : meth.sig.returnType = some t) (hn : narrow t w = w)
    (hi : (i = .ireturn ∧ (t = .int ∨ t = .boolean ∨ t = .byte ∨ t = .char ∨ t = .short) ∧ ∃ z, w = .int z) ∨ (i = .lreturn ∧ t = .long ∧ ∃ z, w = .long z) ∨ (i = .dreturn ∧ t = .double ∧ ∃ z, w = .double z) ∨ (i = .freturn ∧ t = .float ∧ ∃ z, w = .float z) ∨ (i = .areturn ∧ t.isReference = true ∧ w.isRef = true))
    (hd : decode c.code pc = .ok (i, 1)) (hk : cells ≤ k) (hs : slots ≤ n) (hQ : Q (some w) T.heap locs) : Dn p e below s Q k n (T.setTop (mkF m pc Ls (w :: rest))) := by
  obtain ⟨fs, hr, hrun, hended, hW, hsame⟩ := X.leave (v := some w) (fun q => by rw [hret] at q; cases q) hlk
  exact ⟨_, _, retOut X hx hret hn hi hd hr, hrun, hended, _, _, rfl, hQ, ⟨_, rfl⟩, hW, hsame.mono hk hs⟩
theorem Dn.retI (X : Stand p l e R s m args below meth c T locs cells slots) (hx : p.tables.exec = Jvm.exec) (hlk : meth.locks = false) {pc : Nat} {Ls : Array Slot} {z : Int32} {rest : List Value} (hret : meth.sig.returnType = some .int)
    (hd : decode c.code pc = .ok (.ireturn, 1)) (hk : cells ≤ k) (hs : slots ≤ n) (hQ : Q (some (.int z)) T.heap locs) : Dn p e below s Q k n (T.setTop (mkF m pc Ls (.int z :: rest))) :=
  Dn.ret X hx hlk hret rfl (Or.inl ⟨rfl, Or.inl rfl, z, rfl⟩) hd hk hs hQ
theorem Dn.retA (X : Stand p l e R s m args below meth c T locs cells slots) (hx : p.tables.exec = Jvm.exec) (hlk : meth.locks = false) {pc : Nat} {Ls : Array Slot} {w : Value} {t : FieldType} {rest : List Value} (hret : meth.sig.returnType = some t) (ht : t.isReference = true) (hw : w.isRef = true)
    (hd : decode c.code pc = .ok (.areturn, 1)) (hk : cells ≤ k) (hs : slots ≤ n) (hQ : Q (some w) T.heap locs) : Dn p e below s Q k n (T.setTop (mkF m pc Ls (w :: rest))) :=
  Dn.ret X hx hlk hret (by cases t <;> simp [FieldType.isReference] at ht <;> rcases ref_cases hw with rfl | ⟨a, rfl⟩ <;> rfl) (Or.inr (Or.inr (Or.inr (Or.inr ⟨rfl, ht, hw⟩)))) hd hk hs hQ
theorem Dn.retN (X : Stand p l e R s m args below meth c T locs cells slots) (hx : p.tables.exec = Jvm.exec) (hlk : meth.locks = false) {pc : Nat} {Ls : Array Slot} {z : Int32} {t : FieldType} {rest : List Value} (hret : meth.sig.returnType = some t) (ht : t = .boolean ∨ t = .byte ∨ t = .char ∨ t = .short)
    (hd : decode c.code pc = .ok (.ireturn, 1)) (hk : cells ≤ k) (hs : slots ≤ n) (hQ : Q (some (.int (nar t z))) T.heap locs) : Dn p e below s Q k n (T.setTop (mkF m pc Ls (.int z :: rest))) := by
  obtain ⟨fs, hr, hrun, hended, hW, hsame⟩ := X.leave (v := some (.int (nar t z))) (fun q => by rw [hret] at q; cases q) hlk
  exact ⟨_, _, Jvm.RoadKit.retN X hx hret ht hd hr, hrun, hended, _, _, rfl, hQ, ⟨_, rfl⟩, hW, hsame.mono hk hs⟩
theorem Dn.retV (X : Stand p l e R s m args below meth c T locs cells slots) (hx : p.tables.exec = Jvm.exec) (hlk : meth.locks = false) {pc : Nat} {Ls : Array Slot} (hret : meth.sig.returnType = none)
    (hd : decode c.code pc = .ok (.return_, 1)) (hk : cells ≤ k) (hs : slots ≤ n) (hQ : Q none T.heap locs) : Dn p e below s Q k n (T.setTop (mkF m pc Ls [])) := by
  obtain ⟨fs, hr, hrun, hended, hW, hsame⟩ := X.leave (v := none) (fun _ => rfl) hlk
  exact ⟨_, _, X.returnOut hx hret hd hr, hrun, hended, _, _, rfl, hQ, ⟨_, rfl⟩, hW, hsame.mono hk hs⟩
/-- a body's contract: entered with the arguments as' at the heap h, it returns, and Q says what and what it left -/
abbrev ctr (l : Launch) (Z : State) (y : MethodName) (bytes : ByteArray) (maxL : Nat) (ret : Option FieldType) (ws : List Jvm.Cond) (rm : Room) (k n : Nat) (as' : Array Value) (h : Heap) (Q : Option Value → Heap → List Loc → Prop) : Prop :=
  MetFree l y (head1 (Jvm.Cond.code y bytes maxL ret :: ws) rm) (fun a U => a = as' ∧ Z.Warmed39 U.vm ∧ U.heap = h) (fun _ _ _ _ _ => True) (fun _ U o U' => ∃ v L, o = .returned v ∧ Q v U'.heap L ∧ FrameEnd U o U' L k n)
theorem ctr_of {y : MethodName} {bytes : ByteArray} {maxL : Nat} {ret : Option FieldType} {ws : List Jvm.Cond} {rm : Room} {as' : Array Value} (pn : plainFor y = true)
    (body : ∀ (p : Program) (e : Env) (s : State) (m : MethodId) (below : List Frame) (meth : Method) (c : Code) (s₁ : State), p.tables.exec = Jvm.exec → c.code = bytes → c.maxLocals = maxL → meth.sig.returnType = ret → meth.locks = false → meth.name = y.name → s.vm.findClass y.cls = some m.cls →
      Z.Warmed39 s.vm → s₁.heap = h → Stand p l e rm s m as' below meth c s₁ [] 0 0 → Dn p e below s Q k n (s₁.setTop (entryFrame m as' maxL))) : ctr l Z y bytes maxL ret ws rm k n as' h Q := by
  refine MetFree.of_bodySF pn hisR ?_
  intro p e s m args below meth c s₁ Bd hml0 hP hK
  obtain ⟨rfl, hZ, hh⟩ := hP
  exact body p e s m below meth c s₁ Bd.exec Bd.bytes hml0 Bd.returns Bd.notSynchronized (name_of_methodNamed Bd.named Bd.method).1 (findClass_of_methodNamed Bd.named) hZ (by rw [← hh, Bd.state]; rfl) (Stand.of_body Bd)
theorem cSt (X : Stand p l e R s m args below meth c T locs cells slots) (hx : p.tables.exec = Jvm.exec) (hZ : Z.Warmed39 s.vm) {own : String} {index : Nat} {y : MethodName} {bytes : ByteArray} {maxL : Nat} {ret : Option FieldType} (hown : s.vm.findClass own = some m.cls)
    (w1 : (Jvm.Cond.methodLink own index y).before a0 Z = true) (w2 : (Jvm.Cond.static y).before a0 Z = true) (w3 : (Jvm.Cond.initialized y.cls).before a0 Z = true) (w4 : (Jvm.Cond.code y bytes maxL ret).before a0 Z = true) (hy : y.cls ≠ "java/lang/invoke/MethodHandle" ∧ y.cls ≠ "java/lang/invoke/VarHandle")
    {rm : Room} {argsL rest : List Value} (hM : ctr l Z y bytes maxL ret [] rm rm.cells rm.slots argsL.toArray h Q) (eT : T.heap = h) (W : Nat) (hf : rm.frames + 1 ≤ R.frames) (hl : W + (maxL + 11) + rm.locals ≤ R.locals) (hc : cells + rm.cells ≤ R.cells) (hs : slots + rm.slots ≤ R.slots)
    {g : JFrame} (hg : g.method = m) (hsize : g.locals.size = c.maxLocals) (hlen : ∀ sig, parseMethodDescriptor y.desc = some sig → argsL.length = sig.parameters.length) (hstack : g.stack = argsL.reverse ++ rest) (hW : 2 * g.monitorRoom + (rest.map fun v => v.category).sum ≤ W) (hdg : decode c.code g.pc = .ok (.invokestatic index, 3)) :
    ∃ (v : Option Value) (T' : State) (L : List Loc), Q v T'.heap L ∧ Stand p l e R s m args below meth c T' (locs ++ L) (cells + rm.cells) (slots + rm.slots) ∧ ∀ target, Steps p.tables e below (T'.setTop { g with pc := g.pc + 3, stack := v.toList ++ rest }) target → Steps p.tables e below (T.setTop g) target := by
  obtain ⟨v, _, ⟨T', L', k', n'⟩, -, X', ⟨L, hQ, e1, e2, e3⟩, st⟩ := Jvm.LawKit.callS X hx (y := y) hown (mvT hZ w1) (mvT hZ w2) (mvT hZ w3) (mvT hZ w4) hy (backOf (W := W) hM hZ w4 w3 hf hl) hg hsize hlen hstack hW hdg (fun _ _ => ⟨rfl, eT, hc, hs⟩)
  dsimp only [Pt.U, Pt.locs, Pt.cells, Pt.slots] at X' e1 e2 e3 st hQ
  subst e1 e2 e3
  exact ⟨v, T', L, hQ, X', st⟩
theorem cIn (X : Stand p l e R s m args below meth c T locs cells slots) (hx : p.tables.exec = Jvm.exec) (hZ : Z.Warmed39 s.vm) {own : String} {index : Nat} {y : MethodName} {bytes : ByteArray} {maxL : Nat} (hy1 : y.name = "<init>") (hown : s.vm.findClass own = some m.cls)
    (w1 : (Jvm.Cond.methodLink own index y).before a0 Z = true) (w2 : (Jvm.Cond.instanceMethod y).before a0 Z = true) (w3 : (Jvm.Cond.initialized y.cls).before a0 Z = true) (w4 : (Jvm.Cond.code y bytes maxL none).before a0 Z = true) (hy : y.cls ≠ "java/lang/invoke/MethodHandle" ∧ y.cls ≠ "java/lang/invoke/VarHandle")
    {rm : Room} {a : Addr} {argsL rest : List Value} (hM : ctr l Z y bytes maxL none [] rm rm.cells rm.slots (.ref a :: argsL).toArray h Q) (eT : T.heap = h) (W : Nat) (hf : rm.frames + 1 ≤ R.frames) (hl : W + (maxL + 11) + rm.locals ≤ R.locals) (hc : cells + rm.cells ≤ R.cells) (hs : slots + rm.slots ≤ R.slots)
    {g : JFrame} (hg : g.method = m) (hsize : g.locals.size = c.maxLocals) (hlen : ∀ sig, parseMethodDescriptor y.desc = some sig → argsL.length = sig.parameters.length) (hstack : g.stack = argsL.reverse ++ .ref a :: rest) (hW : 2 * g.monitorRoom + (rest.map fun v => v.category).sum ≤ W) (hdg : decode c.code g.pc = .ok (.invokespecial index, 3)) :
    ∃ (v : Option Value) (T' : State) (L : List Loc), Q v T'.heap L ∧ Stand p l e R s m args below meth c T' (locs ++ L) (cells + rm.cells) (slots + rm.slots) ∧ ∀ target, Steps p.tables e below (T'.setTop { g with pc := g.pc + 3, stack := v.toList ++ rest }) target → Steps p.tables e below (T.setTop g) target := by
  obtain ⟨v, _, ⟨T', L', k', n'⟩, -, X', ⟨L, hQ, e1, e2, e3⟩, st⟩ := X.specialBack hx (y := y) hy1 hown (mvT hZ w1) (mvT hZ w2) (mvT hZ w4) hy (backOf (W := W) hM hZ w4 w3 hf hl) hg hsize (Steps.refl _) hlen hstack hW hdg (fun _ _ => ⟨rfl, eT, hc, hs⟩)
  dsimp only [Pt.U, Pt.locs, Pt.cells, Pt.slots] at X' e1 e2 e3 st hQ
  subst e1 e2 e3
  exact ⟨v, T', L, hQ, X', fun _ z => st.trans z⟩
theorem cVi (X : Stand p l e R s m args below meth c T locs cells slots) (hx : p.tables.exec = Jvm.exec) (hZ : Z.Warmed39 s.vm) {own C : String} {index : Nat} {y z : MethodName} {bytes : ByteArray} {maxL : Nat} {ret : Option FieldType} (hown : s.vm.findClass own = some m.cls)
    (w1 : (Jvm.Cond.methodLink own index y).before a0 Z = true) (w2 : (Jvm.Cond.declares y).before a0 Z = true) (nf : NotFace s y) (ws : (Jvm.Cond.selects C y z).before a0 Z = true) (wi : (Jvm.Cond.instanceMethod z).before a0 Z = true) (w3 : (Jvm.Cond.initialized z.cls).before a0 Z = true) (w4 : (Jvm.Cond.code z bytes maxL ret).before a0 Z = true)
    (hy : y.cls ≠ "java/lang/invoke/MethodHandle" ∧ y.cls ≠ "java/lang/invoke/VarHandle")
    {rm : Room} {a : Addr} {argsL rest : List Value} (hM : ctr l Z z bytes maxL ret [] rm rm.cells rm.slots (.ref a :: argsL).toArray h Q) (eT : T.heap = h) (E : Exa Z h a C) (W : Nat) (hf : rm.frames + 1 ≤ R.frames) (hl : W + (maxL + 11) + rm.locals ≤ R.locals) (hc : cells + rm.cells ≤ R.cells) (hs : slots + rm.slots ≤ R.slots)
    {g : JFrame} (hg : g.method = m) (hsize : g.locals.size = c.maxLocals) (hlen : ∀ sig, parseMethodDescriptor y.desc = some sig → argsL.length = sig.parameters.length) (hstack : g.stack = argsL.reverse ++ .ref a :: rest) (hW : 2 * g.monitorRoom + (rest.map fun v => v.category).sum ≤ W) (hdg : decode c.code g.pc = .ok (.invokevirtual index, 3)) :
    ∃ (v : Option Value) (T' : State) (L : List Loc), Q v T'.heap L ∧ Stand p l e R s m args below meth c T' (locs ++ L) (cells + rm.cells) (slots + rm.slots) ∧ ∀ target, Steps p.tables e below (T'.setTop { g with pc := g.pc + 3, stack := v.toList ++ rest }) target → Steps p.tables e below (T.setTop g) target := by
  obtain ⟨cq, kq, qa, qb, qc⟩ := isOf hZ eT E
  obtain ⟨v, _, ⟨T', L', k', n'⟩, -, X', ⟨L, hQ, e1, e2, e3⟩, st⟩ := X.virtualBack hx (y := y) (z := z) hown (mvT hZ w1) (mvT hZ w2) nf (mvT hZ ws) (mvT hZ wi) hy (backOf (W := W) hM hZ w4 w3 hf hl) qa qc hg hsize (Steps.refl _) hlen hstack hW hdg (fun _ _ => ⟨rfl, eT, hc, hs⟩)
  dsimp only [Pt.U, Pt.locs, Pt.cells, Pt.slots] at X' e1 e2 e3 st hQ
  subst e1 e2 e3
  exact ⟨v, T', L, hQ, X', fun _ z => st.trans z⟩
theorem cUp (X : Stand p l e R s m args below meth c T locs cells slots) (hx : p.tables.exec = Jvm.exec) (hZ : Z.Warmed39 s.vm) {own C owner : String} {index : Nat} {y z : MethodName} {bytes : ByteArray} {maxL : Nat} {ret : Option FieldType} (hown : s.vm.findClass own = some m.cls)
    (w1 : (Jvm.Cond.methodLink own index y).before a0 Z = true) (wm : (Jvm.Cond.sameMethod y.cls owner y.name y.desc).before a0 Z = true) (w2 : (Jvm.Cond.declares ⟨owner, y.name, y.desc⟩).before a0 Z = true) (ws : (Jvm.Cond.selects C y z).before a0 Z = true) (wi : (Jvm.Cond.instanceMethod z).before a0 Z = true) (w3 : (Jvm.Cond.initialized z.cls).before a0 Z = true) (w4 : (Jvm.Cond.code z bytes maxL ret).before a0 Z = true)
    (hy : owner ≠ "java/lang/invoke/MethodHandle" ∧ owner ≠ "java/lang/invoke/VarHandle")
    {rm : Room} {a : Addr} {argsL rest : List Value} (hM : ctr l Z z bytes maxL ret [] rm rm.cells rm.slots (.ref a :: argsL).toArray h Q) (eT : T.heap = h) (E : Exa Z h a C) (W : Nat) (hf : rm.frames + 1 ≤ R.frames) (hl : W + (maxL + 11) + rm.locals ≤ R.locals) (hc : cells + rm.cells ≤ R.cells) (hs : slots + rm.slots ≤ R.slots)
    {g : JFrame} (hg : g.method = m) (hsize : g.locals.size = c.maxLocals) (hlen : ∀ sig, parseMethodDescriptor y.desc = some sig → argsL.length = sig.parameters.length) (hstack : g.stack = argsL.reverse ++ .ref a :: rest) (hW : 2 * g.monitorRoom + (rest.map fun v => v.category).sum ≤ W) (hdg : decode c.code g.pc = .ok (.invokevirtual index, 3)) :
    ∃ (v : Option Value) (T' : State) (L : List Loc), Q v T'.heap L ∧ Stand p l e R s m args below meth c T' (locs ++ L) (cells + rm.cells) (slots + rm.slots) ∧ ∀ target, Steps p.tables e below (T'.setTop { g with pc := g.pc + 3, stack := v.toList ++ rest }) target → Steps p.tables e below (T.setTop g) target := by
  obtain ⟨cq, kq, qa, qb, qc⟩ := isOf hZ eT E
  obtain ⟨v, _, ⟨T', L', k', n'⟩, -, X', ⟨L, hQ, e1, e2, e3⟩, st⟩ := X.virtualBackUp hx (x := y) (y := z) (owner := owner) hown (mvT hZ w1) (mvT hZ wm) (mvT hZ w2) hy (mvT hZ ws) (mvT hZ wi) (backOf (W := W) hM hZ w4 w3 hf hl) qa qc hg hsize (Steps.refl _) hlen hstack hW hdg (fun _ _ => ⟨rfl, eT, hc, hs⟩)
  dsimp only [Pt.U, Pt.locs, Pt.cells, Pt.slots] at X' e1 e2 e3 st hQ
  subst e1 e2 e3
  exact ⟨v, T', L, hQ, X', fun _ z => st.trans z⟩
theorem cFa (X : Stand p l e R s m args below meth c T locs cells slots) (hx : p.tables.exec = Jvm.exec) (hZ : Z.Warmed39 s.vm) {own C : String} {index count : Nat} {y z : MethodName} {bytes : ByteArray} {maxL : Nat} {ret : Option FieldType} (hown : s.vm.findClass own = some m.cls)
    (w1 : (Jvm.Cond.methodLink own index y).before a0 Z = true) (w2 : (Jvm.Cond.declares y).before a0 Z = true) (wf : (Jvm.Cond.interfaceMethod y.cls y.cls y.name y.desc).before args s = true) (ws : (Jvm.Cond.selects C y z).before a0 Z = true) (wi : (Jvm.Cond.instanceMethod z).before a0 Z = true) (wp : (Jvm.Cond.publicMethod z).before a0 Z = true) (wu : (Jvm.Cond.unhidden C y.name y.desc).before a0 Z = true) (wk : (Jvm.Cond.castable C y.cls).before a0 Z = true) (w3 : (Jvm.Cond.initialized z.cls).before a0 Z = true) (w4 : (Jvm.Cond.code z bytes maxL ret).before a0 Z = true)
    (hy : y.cls ≠ "java/lang/invoke/MethodHandle" ∧ y.cls ≠ "java/lang/invoke/VarHandle")
    {rm : Room} {a : Addr} {argsL rest : List Value} (hM : ctr l Z z bytes maxL ret [] rm rm.cells rm.slots (.ref a :: argsL).toArray h Q) (eT : T.heap = h) (E : Exa Z h a C) (W : Nat) (hf : rm.frames + 1 ≤ R.frames) (hl : W + (maxL + 11) + rm.locals ≤ R.locals) (hc : cells + rm.cells ≤ R.cells) (hs : slots + rm.slots ≤ R.slots)
    {g : JFrame} (hg : g.method = m) (hsize : g.locals.size = c.maxLocals) (hlen : ∀ sig, parseMethodDescriptor y.desc = some sig → argsL.length = sig.parameters.length) (hstack : g.stack = argsL.reverse ++ .ref a :: rest) (hW : 2 * g.monitorRoom + (rest.map fun v => v.category).sum ≤ W) (hdg : decode c.code g.pc = .ok (.invokeinterface index count, 5)) :
    ∃ (v : Option Value) (T' : State) (L : List Loc), Q v T'.heap L ∧ Stand p l e R s m args below meth c T' (locs ++ L) (cells + rm.cells) (slots + rm.slots) ∧ ∀ target, Steps p.tables e below (T'.setTop { g with pc := g.pc + 5, stack := v.toList ++ rest }) target → Steps p.tables e below (T.setTop g) target := by
  obtain ⟨cq, kq, qa, qb, qc⟩ := isOf hZ eT E
  obtain ⟨v, _, ⟨T', L', k', n'⟩, -, X', ⟨L, hQ, e1, e2, e3⟩, st⟩ := X.interfaceBack hx (xi := y) (y := z) hown (mvT hZ w1) (mvT hZ w2) wf (mvT hZ ws) (mvT hZ wi) (mvT hZ wp) (mvT hZ wu) (mvT hZ wk) hy (backOf (W := W) hM hZ w4 w3 hf hl) qa qb qc hg hsize (Steps.refl _) hlen hstack hW hdg (fun _ _ => ⟨rfl, eT, hc, hs⟩)
  dsimp only [Pt.U, Pt.locs, Pt.cells, Pt.slots] at X' e1 e2 e3 st hQ
  subst e1 e2 e3
  exact ⟨v, T', L, hQ, X', fun _ z => st.trans z⟩
/-- a static's fact over a Keep: its holder's cell is none of the written -/
theorem Sta.keep {h' : Heap} {C n d : String} {v : Value} {ws : List Addr} (F : Sta Z h C n d v) (K : Keep h h' ws) (q : ∀ (x : Addr) (c : Cell), x ∈ ws → h[x]? = some c → c.vm.isStatics = false) : Sta Z h' C n d v := by
  obtain ⟨cf, i, k, f, st, cell, h1, h2, h3, h4, h5, h6, h7⟩ := F
  refine ⟨cf, i, k, f, st, cell, h1, h2, h3, h4, K.2.1 _ _ h5 (fun y => ?_), h6, h7⟩
  rw [q st cell y h5] at h6; cases h6
theorem own_ns {a : Addr} {C : String} (E : Exa Z h a C) : ∀ (x : Addr) (c : Cell), x ∈ [a] → h[x]? = some c → c.vm.isStatics = false := by
  intro x c hx hc
  cases List.mem_singleton.mp hx
  obtain ⟨cell, k, h1, -, -, h4, -⟩ := E
  rw [h1] at hc; cases hc; exact h4
/-- an int field of what a term names, out of an 'eq' of the case -/
theorem own_fld {args : Array Value} {a : Addr} {C n d : String} {t : Term} {x : Int32} (ev : t.eval args Z none [] Z = some (.ref a)) (hq : (Jvm.Cond.eq (.field t C n d) (.int x)).value args Z none Z [] = some true) : Fld Z Z.heap a C n d (.int x) := by
  obtain ⟨u, w, h1, h2, k1, k2⟩ := cmp_v (Or.inl hq)
  have h2' : w = .int x := by rw [Term.int_eval] at h2; exact (Option.some.inj h2).symm
  subst h2'
  obtain ⟨z, rfl⟩ : ∃ z, u = .int z := k2
  have : z = x := gotT (Cond.eq_ints h1 (Term.int_eval x)) hq
  subst this
  exact Fld.start (by rw [← fld_at ev]; exact h1)
theorem own_cat {v : Value} (r : v.isRef = true) : v.category = 1 := by rcases ref_cases r with rfl | ⟨a, rfl⟩ <;> rfl
theorem own_narO {C : String} {v : Value} (r : v.isRef = true) : narrow (.object C) v = v := by rcases ref_cases r with rfl | ⟨a, rfl⟩ <;> rfl
theorem own_fitO {C : String} {v : Value} (r : v.isRef = true) : fits (.object C) v = true := by rcases ref_cases r with rfl | ⟨a, rfl⟩ <;> rfl
theorem own_len {args : Array Value} {a : Addr} {cl : Cell} {ty : FieldType} {t : Term} {x : Int32} (ev : t.eval args Z none [] Z = some (.ref a)) (A : Arr Z Z.heap a cl ty) (hq : (Jvm.Cond.eq (.length t) (.int x)).value args Z none Z [] = some true) : cl.slots.size = x.toNatClampNeg ∧ cl.slots.size < 2 ^ 31 := by
  have ha : Z.arrayAt? a = some cl := IntBox.arrayAt_of A.1 A.2.1 A.2.2
  by_cases p : cl.slots.size < 2 ^ 31
  · have q := gotT (Cond.eq_ints (len_f ev ha p) (Term.int_eval x)) hq
    refine ⟨?_, p⟩
    rw [← q, Int32.toNatClampNeg, len_toInt p]; rfl
  · obtain ⟨u, w, h1, h2, -, -⟩ := cmp_v (Or.inl hq)
    exact absurd h1 (by simp [Term.eval, ev, ha, p])
theorem own_elem {args : Array Value} {a b : Addr} {cl : Cell} {ty : FieldType} {t u : Term} {j : Int32} (ev : t.eval args Z none [] Z = some (.ref a)) (A : Arr Z Z.heap a cl ty) (eu : u.eval args Z none [] Z = some (.ref b)) (hq : (Jvm.Cond.eq (.elem t (.int j)) u).value args Z none Z [] = some true) : cl.slots[j.toNatClampNeg]? = some (.ref b) := by
  obtain ⟨x, y, h1, h2, k1, k2⟩ := cmp_v (Or.inl hq)
  rw [eu] at h2; cases h2
  have e := gotT (eq_R h1 eu k2.2 rfl) hq
  rw [← e]; exact (elem_in h1 ev (Term.int_eval j) A.1).2
end Own
end Jvm.RoadKit
namespace Jvm.Pilot.@@N@@
open Jvm Jvm.ClassFile Sem Op Lib Jvm.Free Jvm.Stand Jvm.LawKit Jvm.RoadKit Bundle Jvm.Pilot.@@N@@.Jvm.D
theorem d1_0 : decode prog_78_method_5_code 0 = .ok (.invokestatic 42, 3) := by decide +kernel
theorem d1_3 : decode prog_78_method_5_code 3 = .ok (.astore_n 1, 1) := by decide +kernel
theorem d1_4 : decode prog_78_method_5_code 4 = .ok (.aload_n 1, 1) := by decide +kernel
theorem d1_5 : decode prog_78_method_5_code 5 = .ok (.arraylength, 1) := by decide +kernel
theorem d1_6 : decode prog_78_method_5_code 6 = .ok (.istore_n 2, 1) := by decide +kernel
theorem d1_7 : decode prog_78_method_5_code 7 = .ok (.iconst 0, 1) := by decide +kernel
theorem d1_8 : decode prog_78_method_5_code 8 = .ok (.istore_n 3, 1) := by decide +kernel
theorem d1_9 : decode prog_78_method_5_code 9 = .ok (.iload_n 3, 1) := by decide +kernel
theorem d1_10 : decode prog_78_method_5_code 10 = .ok (.iload_n 2, 1) := by decide +kernel
theorem d1_11 : decode prog_78_method_5_code 11 = .ok (.if_icmp .ge 26, 3) := by decide +kernel
theorem d1_14 : decode prog_78_method_5_code 14 = .ok (.aload_n 1, 1) := by decide +kernel
theorem d1_15 : decode prog_78_method_5_code 15 = .ok (.iload_n 3, 1) := by decide +kernel
theorem d1_16 : decode prog_78_method_5_code 16 = .ok (.aaload, 1) := by decide +kernel
theorem d1_17 : decode prog_78_method_5_code 17 = .ok (.astore 4, 2) := by decide +kernel
theorem d1_19 : decode prog_78_method_5_code 19 = .ok (.aload 4, 2) := by decide +kernel
theorem d1_21 : decode prog_78_method_5_code 21 = .ok (.getfield 38, 3) := by decide +kernel
theorem d1_24 : decode prog_78_method_5_code 24 = .ok (.iload_n 0, 1) := by decide +kernel
theorem d1_25 : decode prog_78_method_5_code 25 = .ok (.if_icmp .ne 6, 3) := by decide +kernel
theorem d1_28 : decode prog_78_method_5_code 28 = .ok (.aload 4, 2) := by decide +kernel
theorem d1_30 : decode prog_78_method_5_code 30 = .ok (.areturn, 1) := by decide +kernel
theorem d1_31 : decode prog_78_method_5_code 31 = .ok (.iinc 3 1, 3) := by decide +kernel
theorem d1_34 : decode prog_78_method_5_code 34 = .ok (.goto (-25), 3) := by decide +kernel
theorem d1_37 : decode prog_78_method_5_code 37 = .ok (.aconst_null, 1) := by decide +kernel
theorem d1_38 : decode prog_78_method_5_code 38 = .ok (.areturn, 1) := by decide +kernel
theorem d2_0 : decode prog_78_method_1_code 0 = .ok (.getstatic 19, 3) := by decide +kernel
theorem d2_3 : decode prog_78_method_1_code 3 = .ok (.invokevirtual 23, 3) := by decide +kernel
theorem d2_6 : decode prog_78_method_1_code 6 = .ok (.checkcast 24, 3) := by decide +kernel
theorem d2_9 : decode prog_78_method_1_code 9 = .ok (.areturn, 1) := by decide +kernel
theorem d3_0 : decode method_3_code 0 = .ok (.iload_n 0, 1) := by decide +kernel
theorem d3_1 : decode method_3_code 1 = .ok (.ifCond .ne 7, 3) := by decide +kernel
theorem d3_4 : decode method_3_code 4 = .ok (.getstatic 22, 3) := by decide +kernel
theorem d3_7 : decode method_3_code 7 = .ok (.areturn, 1) := by decide +kernel
theorem d3_8 : decode method_3_code 8 = .ok (.iload_n 0, 1) := by decide +kernel
theorem d3_9 : decode method_3_code 9 = .ok (.iconst 1, 1) := by decide +kernel
theorem d3_10 : decode method_3_code 10 = .ok (.if_icmp .ne 7, 3) := by decide +kernel
theorem d3_13 : decode method_3_code 13 = .ok (.getstatic 26, 3) := by decide +kernel
theorem d3_16 : decode method_3_code 16 = .ok (.areturn, 1) := by decide +kernel
theorem d3_17 : decode method_3_code 17 = .ok (.iload_n 0, 1) := by decide +kernel
theorem d3_18 : decode method_3_code 18 = .ok (.iconst 2, 1) := by decide +kernel
theorem d3_19 : decode method_3_code 19 = .ok (.if_icmp .ne 7, 3) := by decide +kernel
theorem d3_22 : decode method_3_code 22 = .ok (.getstatic 29, 3) := by decide +kernel
theorem d3_25 : decode method_3_code 25 = .ok (.areturn, 1) := by decide +kernel
theorem d3_26 : decode method_3_code 26 = .ok (.iload_n 0, 1) := by decide +kernel
theorem d3_27 : decode method_3_code 27 = .ok (.iconst 3, 1) := by decide +kernel
theorem d3_28 : decode method_3_code 28 = .ok (.if_icmp .ne 7, 3) := by decide +kernel
theorem d3_31 : decode method_3_code 31 = .ok (.getstatic 32, 3) := by decide +kernel
theorem d3_34 : decode method_3_code 34 = .ok (.areturn, 1) := by decide +kernel
theorem d3_35 : decode method_3_code 35 = .ok (.iload_n 0, 1) := by decide +kernel
theorem d3_36 : decode method_3_code 36 = .ok (.iconst 4, 1) := by decide +kernel
theorem d3_37 : decode method_3_code 37 = .ok (.if_icmp .ne 7, 3) := by decide +kernel
theorem d3_40 : decode method_3_code 40 = .ok (.getstatic 35, 3) := by decide +kernel
theorem d3_43 : decode method_3_code 43 = .ok (.areturn, 1) := by decide +kernel
theorem d3_44 : decode method_3_code 44 = .ok (.aconst_null, 1) := by decide +kernel
theorem d3_45 : decode method_3_code 45 = .ok (.areturn, 1) := by decide +kernel
theorem d4_0 : decode prog_78_method_4_code 0 = .ok (.aload_n 0, 1) := by decide +kernel
theorem d4_1 : decode prog_78_method_4_code 1 = .ok (.getfield 38, 3) := by decide +kernel
theorem d4_4 : decode prog_78_method_4_code 4 = .ok (.ireturn, 1) := by decide +kernel
theorem pn0 : plainName "com/example/vellum/vellum/types/ProportionKind" = true := by first | (simp [plainName, overriddenIn]; done) | decide +kernel
theorem pn1 : plainName "com/example/vellum/vellum/types/ProportionKindOfCodePinLaw" = true := by first | (simp [plainName, overriddenIn]; done) | decide +kernel
theorem pd0 : parseMethodDescriptor "()[Lcom/example/vellum/vellum/types/ProportionKind;" = some ⟨[], some (.array (.object "com/example/vellum/vellum/types/ProportionKind"))⟩ := by decide +kernel
theorem pd1 : parseMethodDescriptor "(I)Lcom/example/vellum/vellum/types/ProportionKind;" = some ⟨[.int], some (.object "com/example/vellum/vellum/types/ProportionKind")⟩ := by decide +kernel
theorem pd2 : parseMethodDescriptor "()I" = some ⟨[], some .int⟩ := by decide +kernel
def own_val (a_RATIO a_UNITARY a_PERCENT a_FRACTION a_INTEGER_FRACTION : Addr) (c : Int32) : Value := if c = 0 then .ref a_RATIO else if c = 1 then .ref a_UNITARY else if c = 2 then .ref a_PERCENT else if c = 3 then .ref a_FRACTION else if c = 4 then .ref a_INTEGER_FRACTION else .null
theorem own_val_ref (a_RATIO a_UNITARY a_PERCENT a_FRACTION a_INTEGER_FRACTION : Addr) (c : Int32) : (own_val a_RATIO a_UNITARY a_PERCENT a_FRACTION a_INTEGER_FRACTION c).isRef = true := by
  unfold own_val
  repeat' split
  all_goals rfl
theorem own_lt {c : Cell} {j : Int32} {n : Nat} (z : c.slots.size = n) (d : ¬ (j < 0 ∨ n ≤ j.toNatClampNeg)) : ¬ (j < 0 ∨ c.slots.size ≤ j.toNatClampNeg) := by rw [z]; exact d
theorem own_cases {Z : State} {h : Heap} (a_RATIO a_UNITARY a_PERCENT a_FRACTION a_INTEGER_FRACTION : Addr) (c : Int32) (F0 : Fld Z h a_RATIO "com/example/vellum/vellum/types/ProportionKind" "code" "I" (.int (0 : Int32))) (E0 : Exa Z h a_RATIO "com/example/vellum/vellum/types/ProportionKind") (F1 : Fld Z h a_UNITARY "com/example/vellum/vellum/types/ProportionKind" "code" "I" (.int (1 : Int32))) (E1 : Exa Z h a_UNITARY "com/example/vellum/vellum/types/ProportionKind") (F2 : Fld Z h a_PERCENT "com/example/vellum/vellum/types/ProportionKind" "code" "I" (.int (2 : Int32))) (E2 : Exa Z h a_PERCENT "com/example/vellum/vellum/types/ProportionKind") (F3 : Fld Z h a_FRACTION "com/example/vellum/vellum/types/ProportionKind" "code" "I" (.int (3 : Int32))) (E3 : Exa Z h a_FRACTION "com/example/vellum/vellum/types/ProportionKind") (F4 : Fld Z h a_INTEGER_FRACTION "com/example/vellum/vellum/types/ProportionKind" "code" "I" (.int (4 : Int32))) (E4 : Exa Z h a_INTEGER_FRACTION "com/example/vellum/vellum/types/ProportionKind") : own_val a_RATIO a_UNITARY a_PERCENT a_FRACTION a_INTEGER_FRACTION c = .null ∨ ∃ a, own_val a_RATIO a_UNITARY a_PERCENT a_FRACTION a_INTEGER_FRACTION c = .ref a ∧ Fld Z h a "com/example/vellum/vellum/types/ProportionKind" "code" "I" (.int c) ∧ Exa Z h a "com/example/vellum/vellum/types/ProportionKind" := by
  by_cases h0 : c = 0
  · subst h0; exact Or.inr ⟨a_RATIO, rfl, F0, E0⟩
  by_cases h1 : c = 1
  · subst h1; exact Or.inr ⟨a_UNITARY, rfl, F1, E1⟩
  by_cases h2 : c = 2
  · subst h2; exact Or.inr ⟨a_PERCENT, rfl, F2, E2⟩
  by_cases h3 : c = 3
  · subst h3; exact Or.inr ⟨a_FRACTION, rfl, F3, E3⟩
  by_cases h4 : c = 4
  · subst h4; exact Or.inr ⟨a_INTEGER_FRACTION, rfl, F4, E4⟩
  exact Or.inl (by simp [own_val, h0, h1, h2, h3, h4])
theorem ef2 (m : MethodId)  : entryFrame m #[] 0 = mkF m 0 #[] [] := by first | (simp [entryFrame, mkF, argsToLocals, Value.category]; done) | rfl
set_option maxRecDepth 65536 in
set_option maxHeartbeats 40000000 in
theorem rm2 (l : Launch) (Z : State) (a0 : Array Value) (hw : ∀ d ∈ tables_1, d.before a0 Z = true) (h0 : Heap) (n0 : Nat) (Z0 : n0 ≤ h0.size) (a__VALUES : Addr) (l__VALUES : Cell) (S__VALUES : Sta Z h0 "com/example/vellum/vellum/types/ProportionKind" "$VALUES" "[Lcom/example/vellum/vellum/types/ProportionKind;" (.ref a__VALUES)) (R__VALUES : Arr Z h0 a__VALUES l__VALUES (.object "com/example/vellum/vellum/types/ProportionKind")) (E__VALUES : Exa Z h0 a__VALUES "[Lcom/example/vellum/vellum/types/ProportionKind;") (z__VALUES : l__VALUES.slots.size = 5) (FC : FitC Z l__VALUES) :
    ctr l Z (⟨"com/example/vellum/vellum/types/ProportionKind", "values", "()[Lcom/example/vellum/vellum/types/ProportionKind;"⟩ : MethodName) prog_78_method_1_code 0 (some (.array (.object "com/example/vellum/vellum/types/ProportionKind"))) [] ({ frames := 1, cells := 1, slots := 5, locals := 14 } : Room) 1 5 #[] h0 (fun v h L => v = some (.ref h0.size) ∧ Fr n0 L ∧ Ext h0 h ∧ Arr Z h h0.size (cloneOf l__VALUES) (.object "com/example/vellum/vellum/types/ProportionKind")) := by
  refine ctr_of (plainFor_of_name pn0) ?_
  intro p e s m below meth jc s₁ hx hby hml hret hlk hnm hown hZ e0 X0
  have N0 := Fr.nil n0
  refine Dn.cast (ef2 m ) ?_
  show Dn p e below s _ _ _ (s₁.setTop (mkF m 0 #[] []))
  obtain ⟨T1, X1, e1, st1⟩ := getS2 X0 hx hZ hown (host := "") (Or.inl (hw _ (List.mem_of_getElem? (i := 7) rfl))) Via.refl e0 S__VALUES (g := (mkF m 0 #[] [])) rfl (hb hby d2_0)
  refine Dn.of st1 ?_
  show Dn p e below s _ _ _ (T1.setTop (mkF m 3 #[] [(.ref a__VALUES)]))
  obtain ⟨T2, h2, X2, e2, E2, R2, A2, st2⟩ := cloneA X1 hx hZ hown (hw _ (List.mem_of_getElem? (i := 9) rfl)) (hw _ (List.mem_of_getElem? (i := 10) rfl)) (hw _ (List.mem_of_getElem? (i := 14) rfl)) (hw _ (List.mem_of_getElem? (i := 12) rfl)) (hw _ (List.mem_of_getElem? (i := 13) rfl)) (hw _ (List.mem_of_getElem? (i := 15) rfl)) e1 R__VALUES E__VALUES FC (g := (mkF m 3 #[] [(.ref a__VALUES)])) rfl (by rw [hml]; rfl) rfl (hb hby d2_3) (by decide) (W := 0) (cap := 5) (by show 2 * 0 + _ ≤ _; exact Nat.le_of_eq rfl) (by decide) (Nat.le_of_eq z__VALUES) (by decide) (by decide)
  refine Dn.of st2 ?_
  show Dn p e below s _ _ _ (T2.setTop (mkF m 6 #[] [(.ref h0.size)]))
  obtain ⟨T3, X3, e3, st3⟩ := castY X2 hx hZ hown (hw _ (List.mem_of_getElem? (i := 22) rfl)) e2 (Ins.self A2) (g := (mkF m 6 #[] [(.ref h0.size)])) rfl rfl (hb hby d2_6)
  refine Dn.of st3 ?_
  show Dn p e below s _ _ _ (T3.setTop (mkF m 9 #[] [(.ref h0.size)]))
  exact Dn.retA X3 hx hlk hret rfl rfl (hb hby d2_9) (by decide) (by decide) (by rw [e3]; exact ⟨rfl, N0, E2, R2⟩)
theorem ef1 (m : MethodId) (x0 : Int32) : entryFrame m #[(.int x0)] 5 = mkF m 0 #[.val (.int x0), .unset, .unset, .unset, .unset] [] := by first | (simp [entryFrame, mkF, argsToLocals, Value.category]; done) | rfl
set_option maxRecDepth 65536 in
set_option maxHeartbeats 40000000 in
theorem rm1 (l : Launch) (Z : State) (a0 : Array Value) (hw : ∀ d ∈ tables_1, d.before a0 Z = true) (h0 : Heap) (n0 : Nat) (Z0 : n0 ≤ h0.size) (c : Int32) (a__VALUES a_RATIO a_UNITARY a_PERCENT a_FRACTION a_INTEGER_FRACTION : Addr) (l__VALUES : Cell) (S__VALUES : Sta Z h0 "com/example/vellum/vellum/types/ProportionKind" "$VALUES" "[Lcom/example/vellum/vellum/types/ProportionKind;" (.ref a__VALUES)) (R__VALUES : Arr Z h0 a__VALUES l__VALUES (.object "com/example/vellum/vellum/types/ProportionKind")) (E__VALUES : Exa Z h0 a__VALUES "[Lcom/example/vellum/vellum/types/ProportionKind;") (z__VALUES : l__VALUES.slots.size = 5) (v__VALUES_0 : l__VALUES.slots[0]? = some (.ref a_RATIO)) (v__VALUES_1 : l__VALUES.slots[1]? = some (.ref a_UNITARY)) (v__VALUES_2 : l__VALUES.slots[2]? = some (.ref a_PERCENT)) (v__VALUES_3 : l__VALUES.slots[3]? = some (.ref a_FRACTION)) (v__VALUES_4 : l__VALUES.slots[4]? = some (.ref a_INTEGER_FRACTION)) (F_RATIO_code : Fld Z h0 a_RATIO "com/example/vellum/vellum/types/ProportionKind" "code" "I" (.int (0 : Int32))) (F_UNITARY_code : Fld Z h0 a_UNITARY "com/example/vellum/vellum/types/ProportionKind" "code" "I" (.int (1 : Int32))) (F_PERCENT_code : Fld Z h0 a_PERCENT "com/example/vellum/vellum/types/ProportionKind" "code" "I" (.int (2 : Int32))) (F_FRACTION_code : Fld Z h0 a_FRACTION "com/example/vellum/vellum/types/ProportionKind" "code" "I" (.int (3 : Int32))) (F_INTEGER_FRACTION_code : Fld Z h0 a_INTEGER_FRACTION "com/example/vellum/vellum/types/ProportionKind" "code" "I" (.int (4 : Int32))) (FC : FitC Z l__VALUES) :
    ctr l Z (⟨"com/example/vellum/vellum/types/ProportionKind", "ofCode", "(I)Lcom/example/vellum/vellum/types/ProportionKind;"⟩ : MethodName) prog_78_method_5_code 5 (some (.object "com/example/vellum/vellum/types/ProportionKind")) [] ({ frames := 2, cells := 1, slots := 5, locals := 40 } : Room) 1 5 #[(.int c)] h0 (fun v h L => v = some (own_val a_RATIO a_UNITARY a_PERCENT a_FRACTION a_INTEGER_FRACTION c) ∧ Fr n0 L ∧ Ext h0 h) := by
  refine ctr_of (plainFor_of_name pn0) ?_
  intro p e s m below meth jc s₁ hx hby hml hret hlk hnm hown hZ e0 X0
  have N0 := Fr.nil n0
  refine Dn.cast (ef1 m c) ?_
  show Dn p e below s _ _ _ (s₁.setTop (mkF m 0 #[.val (.int c), .unset, .unset, .unset, .unset] []))
  obtain ⟨v4, T4, L4, Q4, X4, st4⟩ := cSt X0 hx hZ (y := (⟨"com/example/vellum/vellum/types/ProportionKind", "values", "()[Lcom/example/vellum/vellum/types/ProportionKind;"⟩ : MethodName)) hown (hw _ (List.mem_of_getElem? (i := 4) rfl)) (hw _ (List.mem_of_getElem? (i := 5) rfl)) (hw _ (List.mem_of_getElem? (i := 2) rfl)) (hw _ (List.mem_of_getElem? (i := 6) rfl)) (by decide) (argsL := []) (rest := []) (rm2 l Z a0 hw h0 n0 Z0 a__VALUES l__VALUES S__VALUES R__VALUES E__VALUES z__VALUES FC) e0  0 (by decide) (by decide) (by decide) (by decide) (g := (mkF m 0 #[.val (.int c), .unset, .unset, .unset, .unset] [])) rfl (by rw [hml]; rfl) (lenOf pd0 rfl) rfl (by show 2 * 0 + _ ≤ _; exact Nat.le_of_eq rfl) (hb hby d1_0)
  obtain ⟨rfl, M1, E1, R1⟩ := Q4
  refine Dn.of st4 ?_
  show Dn p e below s _ _ _ (T4.setTop (mkF m 3 #[.val (.int c), .unset, .unset, .unset, .unset] [(.ref h0.size)]))
  have zc : (cloneOf l__VALUES).slots.size = 5 := z__VALUES
  refine Dn.of (fun tt_ zz_ => XS.astoreN X4.here hx rfl (hb hby d1_3) rfl rfl (l' := #[.val (.int c), .val (.ref h0.size), .unset, .unset, .unset]) rfl zz_) ?_
  show Dn p e below s _ _ _ (T4.setTop (mkF m 4 #[.val (.int c), .val (.ref h0.size), .unset, .unset, .unset] []))
  refine Dn.of (fun tt_ zz_ => XS.aloadN X4.here hx rfl (hb hby d1_4) rfl rfl zz_) ?_
  show Dn p e below s _ _ _ (T4.setTop (mkF m 5 #[.val (.int c), .val (.ref h0.size), .unset, .unset, .unset] [(.ref h0.size)]))
  refine Dn.of (fun tt_ zz_ => X4.arraylength hx R1.1 (State.isArrayOf_alike hZ.alike R1.2.1) (g := (mkF m 5 #[.val (.int c), .val (.ref h0.size), .unset, .unset, .unset] [(.ref h0.size)])) rfl rfl (hb hby d1_5) tt_ zz_) ?_
  rw [zc, show (5 : Nat).toInt32 = (5 : Int32) by decide]
  show Dn p e below s _ _ _ (T4.setTop (mkF m 6 #[.val (.int c), .val (.ref h0.size), .unset, .unset, .unset] [(.int (5 : Int32))]))
  refine Dn.of (fun tt_ zz_ => XS.istoreN X4.here hx rfl (hb hby d1_6) rfl (l' := #[.val (.int c), .val (.ref h0.size), .val (.int (5 : Int32)), .unset, .unset]) rfl zz_) ?_
  show Dn p e below s _ _ _ (T4.setTop (mkF m 7 #[.val (.int c), .val (.ref h0.size), .val (.int (5 : Int32)), .unset, .unset] []))
  refine Dn.of (fun tt_ zz_ => XS.iconst X4.here hx rfl (hb hby d1_7) zz_) ?_
  show Dn p e below s _ _ _ (T4.setTop (mkF m 8 #[.val (.int c), .val (.ref h0.size), .val (.int (5 : Int32)), .unset, .unset] [(.int (0 : Int32))]))
  refine Dn.of (fun tt_ zz_ => XS.istoreN X4.here hx rfl (hb hby d1_8) rfl (l' := #[.val (.int c), .val (.ref h0.size), .val (.int (5 : Int32)), .val (.int (0 : Int32)), .unset]) rfl zz_) ?_
  show Dn p e below s _ _ _ (T4.setTop (mkF m 9 #[.val (.int c), .val (.ref h0.size), .val (.int (5 : Int32)), .val (.int (0 : Int32)), .unset] []))
  show Dn p e below s _ _ _ (T4.setTop (mkF m 9 #[.val (.int c), .val (.ref h0.size), .val (.int (5 : Int32)), .val (.int (0 : Int32)), .unset] []))
  refine Dn.of (fun tt_ zz_ => XS.iloadN X4.here hx rfl (hb hby d1_9) rfl zz_) ?_
  show Dn p e below s _ _ _ (T4.setTop (mkF m 10 #[.val (.int c), .val (.ref h0.size), .val (.int (5 : Int32)), .val (.int (0 : Int32)), .unset] [(.int (0 : Int32))]))
  refine Dn.of (fun tt_ zz_ => XS.iloadN X4.here hx rfl (hb hby d1_10) rfl zz_) ?_
  show Dn p e below s _ _ _ (T4.setTop (mkF m 11 #[.val (.int c), .val (.ref h0.size), .val (.int (5 : Int32)), .val (.int (0 : Int32)), .unset] [(.int (5 : Int32)), (.int (0 : Int32))]))
  refine Dn.of (fun tt_ zz_ => XS.icmpNo X4.here hx rfl (hb hby d1_11) rfl (tlt (by decide)).2.1 zz_) ?_
  show Dn p e below s _ _ _ (T4.setTop (mkF m 14 #[.val (.int c), .val (.ref h0.size), .val (.int (5 : Int32)), .val (.int (0 : Int32)), .unset] []))
  refine Dn.of (fun tt_ zz_ => XS.aloadN X4.here hx rfl (hb hby d1_14) rfl rfl zz_) ?_
  show Dn p e below s _ _ _ (T4.setTop (mkF m 15 #[.val (.int c), .val (.ref h0.size), .val (.int (5 : Int32)), .val (.int (0 : Int32)), .unset] [(.ref h0.size)]))
  refine Dn.of (fun tt_ zz_ => XS.iloadN X4.here hx rfl (hb hby d1_15) rfl zz_) ?_
  show Dn p e below s _ _ _ (T4.setTop (mkF m 16 #[.val (.int c), .val (.ref h0.size), .val (.int (5 : Int32)), .val (.int (0 : Int32)), .unset] [(.int (0 : Int32)), (.ref h0.size)]))
  refine Dn.of (fun tt_ zz_ => X4.aaload hx (j := (0 : Int32)) (v := (.ref a_RATIO)) R1.1 (State.isArrayOf_alike hZ.alike R1.2.1) rfl R1.2.2 (own_lt zc (by decide)) v__VALUES_0 (g := (mkF m 16 #[.val (.int c), .val (.ref h0.size), .val (.int (5 : Int32)), .val (.int (0 : Int32)), .unset] [(.int (0 : Int32)), (.ref h0.size)])) rfl rfl (hb hby d1_16) tt_ zz_) ?_
  show Dn p e below s _ _ _ (T4.setTop (mkF m 17 #[.val (.int c), .val (.ref h0.size), .val (.int (5 : Int32)), .val (.int (0 : Int32)), .unset] [(.ref a_RATIO)]))
  refine Dn.of (fun tt_ zz_ => XS.astore X4.here hx rfl (hb hby d1_17) rfl rfl (l' := #[.val (.int c), .val (.ref h0.size), .val (.int (5 : Int32)), .val (.int (0 : Int32)), .val (.ref a_RATIO)]) rfl zz_) ?_
  show Dn p e below s _ _ _ (T4.setTop (mkF m 19 #[.val (.int c), .val (.ref h0.size), .val (.int (5 : Int32)), .val (.int (0 : Int32)), .val (.ref a_RATIO)] []))
  refine Dn.of (fun tt_ zz_ => XS.aload X4.here hx rfl (hb hby d1_19) rfl rfl zz_) ?_
  show Dn p e below s _ _ _ (T4.setTop (mkF m 21 #[.val (.int c), .val (.ref h0.size), .val (.int (5 : Int32)), .val (.int (0 : Int32)), .val (.ref a_RATIO)] [(.ref a_RATIO)]))
  obtain ⟨T5, X5, e5, st5⟩ := getF X4 hx hZ hown (host := "") (Or.inl (hw _ (List.mem_of_getElem? (i := 24) rfl))) Via.refl rfl (F_RATIO_code.ext E1) (g := (mkF m 21 #[.val (.int c), .val (.ref h0.size), .val (.int (5 : Int32)), .val (.int (0 : Int32)), .val (.ref a_RATIO)] [(.ref a_RATIO)])) rfl rfl (hb hby d1_21)
  refine Dn.of st5 ?_
  show Dn p e below s _ _ _ (T5.setTop (mkF m 24 #[.val (.int c), .val (.ref h0.size), .val (.int (5 : Int32)), .val (.int (0 : Int32)), .val (.ref a_RATIO)] [(.int (0 : Int32))]))
  refine Dn.of (fun tt_ zz_ => XS.iloadN X5.here hx rfl (hb hby d1_24) rfl zz_) ?_
  show Dn p e below s _ _ _ (T5.setTop (mkF m 25 #[.val (.int c), .val (.ref h0.size), .val (.int (5 : Int32)), .val (.int (0 : Int32)), .val (.ref a_RATIO)] [(.int c), (.int (0 : Int32))]))
  by_cases q0 : (0 : Int32) = c
  · skip
    refine Dn.of (fun tt_ zz_ => XS.icmpNo X5.here hx rfl (hb hby d1_25) rfl (teq q0).2 zz_) ?_
    show Dn p e below s _ _ _ (T5.setTop (mkF m 28 #[.val (.int c), .val (.ref h0.size), .val (.int (5 : Int32)), .val (.int (0 : Int32)), .val (.ref a_RATIO)] []))
    refine Dn.of (fun tt_ zz_ => XS.aload X5.here hx rfl (hb hby d1_28) rfl rfl zz_) ?_
    show Dn p e below s _ _ _ (T5.setTop (mkF m 30 #[.val (.int c), .val (.ref h0.size), .val (.int (5 : Int32)), .val (.int (0 : Int32)), .val (.ref a_RATIO)] [(.ref a_RATIO)]))
    exact Dn.retA X5 hx hlk hret rfl rfl (hb hby d1_30) (by decide) (by decide) (by rw [e5]; exact ⟨by subst q0; rfl, Fr.app N0 M1, E1⟩)
  · skip
    refine Dn.of (fun tt_ zz_ => XS.icmpYes X5.here hx rfl (pc0 := 25) (pc' := 31) rfl (hb hby d1_25) rfl (feq q0).2 (by decide) (by decide) zz_) ?_
    show Dn p e below s _ _ _ (T5.setTop (mkF m 31 #[.val (.int c), .val (.ref h0.size), .val (.int (5 : Int32)), .val (.int (0 : Int32)), .val (.ref a_RATIO)] []))
    have p0 : ¬ c = 0 := fun y => q0 y.symm
    refine Dn.of (fun tt_ zz_ => XS.iinc X5.here hx rfl (hb hby d1_31) rfl (l' := #[.val (.int c), .val (.ref h0.size), .val (.int (5 : Int32)), .val (.int ((0 : Int32) + (1 : Int32))), .val (.ref a_RATIO)]) rfl zz_) ?_
    show Dn p e below s _ _ _ (T5.setTop (mkF m 34 #[.val (.int c), .val (.ref h0.size), .val (.int (5 : Int32)), .val (.int ((0 : Int32) + (1 : Int32))), .val (.ref a_RATIO)] []))
    refine Dn.of (fun tt_ zz_ => XS.goto X5.here hx rfl (pc0 := 34) (pc' := 9) rfl (hb hby d1_34) (by decide) (by decide) zz_) ?_
    show Dn p e below s _ _ _ (T5.setTop (mkF m 9 #[.val (.int c), .val (.ref h0.size), .val (.int (5 : Int32)), .val (.int ((0 : Int32) + (1 : Int32))), .val (.ref a_RATIO)] []))
    show Dn p e below s _ _ _ (T5.setTop (mkF m 9 #[.val (.int c), .val (.ref h0.size), .val (.int (5 : Int32)), .val (.int (1 : Int32)), .val (.ref a_RATIO)] []))
    refine Dn.of (fun tt_ zz_ => XS.iloadN X5.here hx rfl (hb hby d1_9) rfl zz_) ?_
    show Dn p e below s _ _ _ (T5.setTop (mkF m 10 #[.val (.int c), .val (.ref h0.size), .val (.int (5 : Int32)), .val (.int (1 : Int32)), .val (.ref a_RATIO)] [(.int (1 : Int32))]))
    refine Dn.of (fun tt_ zz_ => XS.iloadN X5.here hx rfl (hb hby d1_10) rfl zz_) ?_
    show Dn p e below s _ _ _ (T5.setTop (mkF m 11 #[.val (.int c), .val (.ref h0.size), .val (.int (5 : Int32)), .val (.int (1 : Int32)), .val (.ref a_RATIO)] [(.int (5 : Int32)), (.int (1 : Int32))]))
    refine Dn.of (fun tt_ zz_ => XS.icmpNo X5.here hx rfl (hb hby d1_11) rfl (tlt (by decide)).2.1 zz_) ?_
    show Dn p e below s _ _ _ (T5.setTop (mkF m 14 #[.val (.int c), .val (.ref h0.size), .val (.int (5 : Int32)), .val (.int (1 : Int32)), .val (.ref a_RATIO)] []))
    refine Dn.of (fun tt_ zz_ => XS.aloadN X5.here hx rfl (hb hby d1_14) rfl rfl zz_) ?_
    show Dn p e below s _ _ _ (T5.setTop (mkF m 15 #[.val (.int c), .val (.ref h0.size), .val (.int (5 : Int32)), .val (.int (1 : Int32)), .val (.ref a_RATIO)] [(.ref h0.size)]))
    refine Dn.of (fun tt_ zz_ => XS.iloadN X5.here hx rfl (hb hby d1_15) rfl zz_) ?_
    show Dn p e below s _ _ _ (T5.setTop (mkF m 16 #[.val (.int c), .val (.ref h0.size), .val (.int (5 : Int32)), .val (.int (1 : Int32)), .val (.ref a_RATIO)] [(.int (1 : Int32)), (.ref h0.size)]))
    refine Dn.of (fun tt_ zz_ => X5.aaload hx (j := (1 : Int32)) (v := (.ref a_UNITARY)) (by rw [e5]; exact R1.1) (State.isArrayOf_alike hZ.alike R1.2.1) rfl R1.2.2 (own_lt zc (by decide)) v__VALUES_1 (g := (mkF m 16 #[.val (.int c), .val (.ref h0.size), .val (.int (5 : Int32)), .val (.int (1 : Int32)), .val (.ref a_RATIO)] [(.int (1 : Int32)), (.ref h0.size)])) rfl rfl (hb hby d1_16) tt_ zz_) ?_
    show Dn p e below s _ _ _ (T5.setTop (mkF m 17 #[.val (.int c), .val (.ref h0.size), .val (.int (5 : Int32)), .val (.int (1 : Int32)), .val (.ref a_RATIO)] [(.ref a_UNITARY)]))
    refine Dn.of (fun tt_ zz_ => XS.astore X5.here hx rfl (hb hby d1_17) rfl rfl (l' := #[.val (.int c), .val (.ref h0.size), .val (.int (5 : Int32)), .val (.int (1 : Int32)), .val (.ref a_UNITARY)]) rfl zz_) ?_
    show Dn p e below s _ _ _ (T5.setTop (mkF m 19 #[.val (.int c), .val (.ref h0.size), .val (.int (5 : Int32)), .val (.int (1 : Int32)), .val (.ref a_UNITARY)] []))
    refine Dn.of (fun tt_ zz_ => XS.aload X5.here hx rfl (hb hby d1_19) rfl rfl zz_) ?_
    show Dn p e below s _ _ _ (T5.setTop (mkF m 21 #[.val (.int c), .val (.ref h0.size), .val (.int (5 : Int32)), .val (.int (1 : Int32)), .val (.ref a_UNITARY)] [(.ref a_UNITARY)]))
    obtain ⟨T6, X6, e6, st6⟩ := getF X5 hx hZ hown (host := "") (Or.inl (hw _ (List.mem_of_getElem? (i := 24) rfl))) Via.refl e5 (F_UNITARY_code.ext E1) (g := (mkF m 21 #[.val (.int c), .val (.ref h0.size), .val (.int (5 : Int32)), .val (.int (1 : Int32)), .val (.ref a_UNITARY)] [(.ref a_UNITARY)])) rfl rfl (hb hby d1_21)
    refine Dn.of st6 ?_
    show Dn p e below s _ _ _ (T6.setTop (mkF m 24 #[.val (.int c), .val (.ref h0.size), .val (.int (5 : Int32)), .val (.int (1 : Int32)), .val (.ref a_UNITARY)] [(.int (1 : Int32))]))
    refine Dn.of (fun tt_ zz_ => XS.iloadN X6.here hx rfl (hb hby d1_24) rfl zz_) ?_
    show Dn p e below s _ _ _ (T6.setTop (mkF m 25 #[.val (.int c), .val (.ref h0.size), .val (.int (5 : Int32)), .val (.int (1 : Int32)), .val (.ref a_UNITARY)] [(.int c), (.int (1 : Int32))]))
    by_cases q1 : (1 : Int32) = c
    · skip
      refine Dn.of (fun tt_ zz_ => XS.icmpNo X6.here hx rfl (hb hby d1_25) rfl (teq q1).2 zz_) ?_
      show Dn p e below s _ _ _ (T6.setTop (mkF m 28 #[.val (.int c), .val (.ref h0.size), .val (.int (5 : Int32)), .val (.int (1 : Int32)), .val (.ref a_UNITARY)] []))
      refine Dn.of (fun tt_ zz_ => XS.aload X6.here hx rfl (hb hby d1_28) rfl rfl zz_) ?_
      show Dn p e below s _ _ _ (T6.setTop (mkF m 30 #[.val (.int c), .val (.ref h0.size), .val (.int (5 : Int32)), .val (.int (1 : Int32)), .val (.ref a_UNITARY)] [(.ref a_UNITARY)]))
      exact Dn.retA X6 hx hlk hret rfl rfl (hb hby d1_30) (by decide) (by decide) (by rw [e6]; exact ⟨by subst q1; rfl, Fr.app N0 M1, E1⟩)
    · skip
      refine Dn.of (fun tt_ zz_ => XS.icmpYes X6.here hx rfl (pc0 := 25) (pc' := 31) rfl (hb hby d1_25) rfl (feq q1).2 (by decide) (by decide) zz_) ?_
      show Dn p e below s _ _ _ (T6.setTop (mkF m 31 #[.val (.int c), .val (.ref h0.size), .val (.int (5 : Int32)), .val (.int (1 : Int32)), .val (.ref a_UNITARY)] []))
      have p1 : ¬ c = 1 := fun y => q1 y.symm
      refine Dn.of (fun tt_ zz_ => XS.iinc X6.here hx rfl (hb hby d1_31) rfl (l' := #[.val (.int c), .val (.ref h0.size), .val (.int (5 : Int32)), .val (.int ((1 : Int32) + (1 : Int32))), .val (.ref a_UNITARY)]) rfl zz_) ?_
      show Dn p e below s _ _ _ (T6.setTop (mkF m 34 #[.val (.int c), .val (.ref h0.size), .val (.int (5 : Int32)), .val (.int ((1 : Int32) + (1 : Int32))), .val (.ref a_UNITARY)] []))
      refine Dn.of (fun tt_ zz_ => XS.goto X6.here hx rfl (pc0 := 34) (pc' := 9) rfl (hb hby d1_34) (by decide) (by decide) zz_) ?_
      show Dn p e below s _ _ _ (T6.setTop (mkF m 9 #[.val (.int c), .val (.ref h0.size), .val (.int (5 : Int32)), .val (.int ((1 : Int32) + (1 : Int32))), .val (.ref a_UNITARY)] []))
      show Dn p e below s _ _ _ (T6.setTop (mkF m 9 #[.val (.int c), .val (.ref h0.size), .val (.int (5 : Int32)), .val (.int (2 : Int32)), .val (.ref a_UNITARY)] []))
      refine Dn.of (fun tt_ zz_ => XS.iloadN X6.here hx rfl (hb hby d1_9) rfl zz_) ?_
      show Dn p e below s _ _ _ (T6.setTop (mkF m 10 #[.val (.int c), .val (.ref h0.size), .val (.int (5 : Int32)), .val (.int (2 : Int32)), .val (.ref a_UNITARY)] [(.int (2 : Int32))]))
      refine Dn.of (fun tt_ zz_ => XS.iloadN X6.here hx rfl (hb hby d1_10) rfl zz_) ?_
      show Dn p e below s _ _ _ (T6.setTop (mkF m 11 #[.val (.int c), .val (.ref h0.size), .val (.int (5 : Int32)), .val (.int (2 : Int32)), .val (.ref a_UNITARY)] [(.int (5 : Int32)), (.int (2 : Int32))]))
      refine Dn.of (fun tt_ zz_ => XS.icmpNo X6.here hx rfl (hb hby d1_11) rfl (tlt (by decide)).2.1 zz_) ?_
      show Dn p e below s _ _ _ (T6.setTop (mkF m 14 #[.val (.int c), .val (.ref h0.size), .val (.int (5 : Int32)), .val (.int (2 : Int32)), .val (.ref a_UNITARY)] []))
      refine Dn.of (fun tt_ zz_ => XS.aloadN X6.here hx rfl (hb hby d1_14) rfl rfl zz_) ?_
      show Dn p e below s _ _ _ (T6.setTop (mkF m 15 #[.val (.int c), .val (.ref h0.size), .val (.int (5 : Int32)), .val (.int (2 : Int32)), .val (.ref a_UNITARY)] [(.ref h0.size)]))
      refine Dn.of (fun tt_ zz_ => XS.iloadN X6.here hx rfl (hb hby d1_15) rfl zz_) ?_
      show Dn p e below s _ _ _ (T6.setTop (mkF m 16 #[.val (.int c), .val (.ref h0.size), .val (.int (5 : Int32)), .val (.int (2 : Int32)), .val (.ref a_UNITARY)] [(.int (2 : Int32)), (.ref h0.size)]))
      refine Dn.of (fun tt_ zz_ => X6.aaload hx (j := (2 : Int32)) (v := (.ref a_PERCENT)) (by rw [e6]; exact R1.1) (State.isArrayOf_alike hZ.alike R1.2.1) rfl R1.2.2 (own_lt zc (by decide)) v__VALUES_2 (g := (mkF m 16 #[.val (.int c), .val (.ref h0.size), .val (.int (5 : Int32)), .val (.int (2 : Int32)), .val (.ref a_UNITARY)] [(.int (2 : Int32)), (.ref h0.size)])) rfl rfl (hb hby d1_16) tt_ zz_) ?_
      show Dn p e below s _ _ _ (T6.setTop (mkF m 17 #[.val (.int c), .val (.ref h0.size), .val (.int (5 : Int32)), .val (.int (2 : Int32)), .val (.ref a_UNITARY)] [(.ref a_PERCENT)]))
      refine Dn.of (fun tt_ zz_ => XS.astore X6.here hx rfl (hb hby d1_17) rfl rfl (l' := #[.val (.int c), .val (.ref h0.size), .val (.int (5 : Int32)), .val (.int (2 : Int32)), .val (.ref a_PERCENT)]) rfl zz_) ?_
      show Dn p e below s _ _ _ (T6.setTop (mkF m 19 #[.val (.int c), .val (.ref h0.size), .val (.int (5 : Int32)), .val (.int (2 : Int32)), .val (.ref a_PERCENT)] []))
      refine Dn.of (fun tt_ zz_ => XS.aload X6.here hx rfl (hb hby d1_19) rfl rfl zz_) ?_
      show Dn p e below s _ _ _ (T6.setTop (mkF m 21 #[.val (.int c), .val (.ref h0.size), .val (.int (5 : Int32)), .val (.int (2 : Int32)), .val (.ref a_PERCENT)] [(.ref a_PERCENT)]))
      obtain ⟨T7, X7, e7, st7⟩ := getF X6 hx hZ hown (host := "") (Or.inl (hw _ (List.mem_of_getElem? (i := 24) rfl))) Via.refl e6 (F_PERCENT_code.ext E1) (g := (mkF m 21 #[.val (.int c), .val (.ref h0.size), .val (.int (5 : Int32)), .val (.int (2 : Int32)), .val (.ref a_PERCENT)] [(.ref a_PERCENT)])) rfl rfl (hb hby d1_21)
      refine Dn.of st7 ?_
      show Dn p e below s _ _ _ (T7.setTop (mkF m 24 #[.val (.int c), .val (.ref h0.size), .val (.int (5 : Int32)), .val (.int (2 : Int32)), .val (.ref a_PERCENT)] [(.int (2 : Int32))]))
      refine Dn.of (fun tt_ zz_ => XS.iloadN X7.here hx rfl (hb hby d1_24) rfl zz_) ?_
      show Dn p e below s _ _ _ (T7.setTop (mkF m 25 #[.val (.int c), .val (.ref h0.size), .val (.int (5 : Int32)), .val (.int (2 : Int32)), .val (.ref a_PERCENT)] [(.int c), (.int (2 : Int32))]))
      by_cases q2 : (2 : Int32) = c
      · skip
        refine Dn.of (fun tt_ zz_ => XS.icmpNo X7.here hx rfl (hb hby d1_25) rfl (teq q2).2 zz_) ?_
        show Dn p e below s _ _ _ (T7.setTop (mkF m 28 #[.val (.int c), .val (.ref h0.size), .val (.int (5 : Int32)), .val (.int (2 : Int32)), .val (.ref a_PERCENT)] []))
        refine Dn.of (fun tt_ zz_ => XS.aload X7.here hx rfl (hb hby d1_28) rfl rfl zz_) ?_
        show Dn p e below s _ _ _ (T7.setTop (mkF m 30 #[.val (.int c), .val (.ref h0.size), .val (.int (5 : Int32)), .val (.int (2 : Int32)), .val (.ref a_PERCENT)] [(.ref a_PERCENT)]))
        exact Dn.retA X7 hx hlk hret rfl rfl (hb hby d1_30) (by decide) (by decide) (by rw [e7]; exact ⟨by subst q2; rfl, Fr.app N0 M1, E1⟩)
      · skip
        refine Dn.of (fun tt_ zz_ => XS.icmpYes X7.here hx rfl (pc0 := 25) (pc' := 31) rfl (hb hby d1_25) rfl (feq q2).2 (by decide) (by decide) zz_) ?_
        show Dn p e below s _ _ _ (T7.setTop (mkF m 31 #[.val (.int c), .val (.ref h0.size), .val (.int (5 : Int32)), .val (.int (2 : Int32)), .val (.ref a_PERCENT)] []))
        have p2 : ¬ c = 2 := fun y => q2 y.symm
        refine Dn.of (fun tt_ zz_ => XS.iinc X7.here hx rfl (hb hby d1_31) rfl (l' := #[.val (.int c), .val (.ref h0.size), .val (.int (5 : Int32)), .val (.int ((2 : Int32) + (1 : Int32))), .val (.ref a_PERCENT)]) rfl zz_) ?_
        show Dn p e below s _ _ _ (T7.setTop (mkF m 34 #[.val (.int c), .val (.ref h0.size), .val (.int (5 : Int32)), .val (.int ((2 : Int32) + (1 : Int32))), .val (.ref a_PERCENT)] []))
        refine Dn.of (fun tt_ zz_ => XS.goto X7.here hx rfl (pc0 := 34) (pc' := 9) rfl (hb hby d1_34) (by decide) (by decide) zz_) ?_
        show Dn p e below s _ _ _ (T7.setTop (mkF m 9 #[.val (.int c), .val (.ref h0.size), .val (.int (5 : Int32)), .val (.int ((2 : Int32) + (1 : Int32))), .val (.ref a_PERCENT)] []))
        show Dn p e below s _ _ _ (T7.setTop (mkF m 9 #[.val (.int c), .val (.ref h0.size), .val (.int (5 : Int32)), .val (.int (3 : Int32)), .val (.ref a_PERCENT)] []))
        refine Dn.of (fun tt_ zz_ => XS.iloadN X7.here hx rfl (hb hby d1_9) rfl zz_) ?_
        show Dn p e below s _ _ _ (T7.setTop (mkF m 10 #[.val (.int c), .val (.ref h0.size), .val (.int (5 : Int32)), .val (.int (3 : Int32)), .val (.ref a_PERCENT)] [(.int (3 : Int32))]))
        refine Dn.of (fun tt_ zz_ => XS.iloadN X7.here hx rfl (hb hby d1_10) rfl zz_) ?_
        show Dn p e below s _ _ _ (T7.setTop (mkF m 11 #[.val (.int c), .val (.ref h0.size), .val (.int (5 : Int32)), .val (.int (3 : Int32)), .val (.ref a_PERCENT)] [(.int (5 : Int32)), (.int (3 : Int32))]))
        refine Dn.of (fun tt_ zz_ => XS.icmpNo X7.here hx rfl (hb hby d1_11) rfl (tlt (by decide)).2.1 zz_) ?_
        show Dn p e below s _ _ _ (T7.setTop (mkF m 14 #[.val (.int c), .val (.ref h0.size), .val (.int (5 : Int32)), .val (.int (3 : Int32)), .val (.ref a_PERCENT)] []))
        refine Dn.of (fun tt_ zz_ => XS.aloadN X7.here hx rfl (hb hby d1_14) rfl rfl zz_) ?_
        show Dn p e below s _ _ _ (T7.setTop (mkF m 15 #[.val (.int c), .val (.ref h0.size), .val (.int (5 : Int32)), .val (.int (3 : Int32)), .val (.ref a_PERCENT)] [(.ref h0.size)]))
        refine Dn.of (fun tt_ zz_ => XS.iloadN X7.here hx rfl (hb hby d1_15) rfl zz_) ?_
        show Dn p e below s _ _ _ (T7.setTop (mkF m 16 #[.val (.int c), .val (.ref h0.size), .val (.int (5 : Int32)), .val (.int (3 : Int32)), .val (.ref a_PERCENT)] [(.int (3 : Int32)), (.ref h0.size)]))
        refine Dn.of (fun tt_ zz_ => X7.aaload hx (j := (3 : Int32)) (v := (.ref a_FRACTION)) (by rw [e7]; exact R1.1) (State.isArrayOf_alike hZ.alike R1.2.1) rfl R1.2.2 (own_lt zc (by decide)) v__VALUES_3 (g := (mkF m 16 #[.val (.int c), .val (.ref h0.size), .val (.int (5 : Int32)), .val (.int (3 : Int32)), .val (.ref a_PERCENT)] [(.int (3 : Int32)), (.ref h0.size)])) rfl rfl (hb hby d1_16) tt_ zz_) ?_
        show Dn p e below s _ _ _ (T7.setTop (mkF m 17 #[.val (.int c), .val (.ref h0.size), .val (.int (5 : Int32)), .val (.int (3 : Int32)), .val (.ref a_PERCENT)] [(.ref a_FRACTION)]))
        refine Dn.of (fun tt_ zz_ => XS.astore X7.here hx rfl (hb hby d1_17) rfl rfl (l' := #[.val (.int c), .val (.ref h0.size), .val (.int (5 : Int32)), .val (.int (3 : Int32)), .val (.ref a_FRACTION)]) rfl zz_) ?_
        show Dn p e below s _ _ _ (T7.setTop (mkF m 19 #[.val (.int c), .val (.ref h0.size), .val (.int (5 : Int32)), .val (.int (3 : Int32)), .val (.ref a_FRACTION)] []))
        refine Dn.of (fun tt_ zz_ => XS.aload X7.here hx rfl (hb hby d1_19) rfl rfl zz_) ?_
        show Dn p e below s _ _ _ (T7.setTop (mkF m 21 #[.val (.int c), .val (.ref h0.size), .val (.int (5 : Int32)), .val (.int (3 : Int32)), .val (.ref a_FRACTION)] [(.ref a_FRACTION)]))
        obtain ⟨T8, X8, e8, st8⟩ := getF X7 hx hZ hown (host := "") (Or.inl (hw _ (List.mem_of_getElem? (i := 24) rfl))) Via.refl e7 (F_FRACTION_code.ext E1) (g := (mkF m 21 #[.val (.int c), .val (.ref h0.size), .val (.int (5 : Int32)), .val (.int (3 : Int32)), .val (.ref a_FRACTION)] [(.ref a_FRACTION)])) rfl rfl (hb hby d1_21)
        refine Dn.of st8 ?_
        show Dn p e below s _ _ _ (T8.setTop (mkF m 24 #[.val (.int c), .val (.ref h0.size), .val (.int (5 : Int32)), .val (.int (3 : Int32)), .val (.ref a_FRACTION)] [(.int (3 : Int32))]))
        refine Dn.of (fun tt_ zz_ => XS.iloadN X8.here hx rfl (hb hby d1_24) rfl zz_) ?_
        show Dn p e below s _ _ _ (T8.setTop (mkF m 25 #[.val (.int c), .val (.ref h0.size), .val (.int (5 : Int32)), .val (.int (3 : Int32)), .val (.ref a_FRACTION)] [(.int c), (.int (3 : Int32))]))
        by_cases q3 : (3 : Int32) = c
        · skip
          refine Dn.of (fun tt_ zz_ => XS.icmpNo X8.here hx rfl (hb hby d1_25) rfl (teq q3).2 zz_) ?_
          show Dn p e below s _ _ _ (T8.setTop (mkF m 28 #[.val (.int c), .val (.ref h0.size), .val (.int (5 : Int32)), .val (.int (3 : Int32)), .val (.ref a_FRACTION)] []))
          refine Dn.of (fun tt_ zz_ => XS.aload X8.here hx rfl (hb hby d1_28) rfl rfl zz_) ?_
          show Dn p e below s _ _ _ (T8.setTop (mkF m 30 #[.val (.int c), .val (.ref h0.size), .val (.int (5 : Int32)), .val (.int (3 : Int32)), .val (.ref a_FRACTION)] [(.ref a_FRACTION)]))
          exact Dn.retA X8 hx hlk hret rfl rfl (hb hby d1_30) (by decide) (by decide) (by rw [e8]; exact ⟨by subst q3; rfl, Fr.app N0 M1, E1⟩)
        · skip
          refine Dn.of (fun tt_ zz_ => XS.icmpYes X8.here hx rfl (pc0 := 25) (pc' := 31) rfl (hb hby d1_25) rfl (feq q3).2 (by decide) (by decide) zz_) ?_
          show Dn p e below s _ _ _ (T8.setTop (mkF m 31 #[.val (.int c), .val (.ref h0.size), .val (.int (5 : Int32)), .val (.int (3 : Int32)), .val (.ref a_FRACTION)] []))
          have p3 : ¬ c = 3 := fun y => q3 y.symm
          refine Dn.of (fun tt_ zz_ => XS.iinc X8.here hx rfl (hb hby d1_31) rfl (l' := #[.val (.int c), .val (.ref h0.size), .val (.int (5 : Int32)), .val (.int ((3 : Int32) + (1 : Int32))), .val (.ref a_FRACTION)]) rfl zz_) ?_
          show Dn p e below s _ _ _ (T8.setTop (mkF m 34 #[.val (.int c), .val (.ref h0.size), .val (.int (5 : Int32)), .val (.int ((3 : Int32) + (1 : Int32))), .val (.ref a_FRACTION)] []))
          refine Dn.of (fun tt_ zz_ => XS.goto X8.here hx rfl (pc0 := 34) (pc' := 9) rfl (hb hby d1_34) (by decide) (by decide) zz_) ?_
          show Dn p e below s _ _ _ (T8.setTop (mkF m 9 #[.val (.int c), .val (.ref h0.size), .val (.int (5 : Int32)), .val (.int ((3 : Int32) + (1 : Int32))), .val (.ref a_FRACTION)] []))
          show Dn p e below s _ _ _ (T8.setTop (mkF m 9 #[.val (.int c), .val (.ref h0.size), .val (.int (5 : Int32)), .val (.int (4 : Int32)), .val (.ref a_FRACTION)] []))
          refine Dn.of (fun tt_ zz_ => XS.iloadN X8.here hx rfl (hb hby d1_9) rfl zz_) ?_
          show Dn p e below s _ _ _ (T8.setTop (mkF m 10 #[.val (.int c), .val (.ref h0.size), .val (.int (5 : Int32)), .val (.int (4 : Int32)), .val (.ref a_FRACTION)] [(.int (4 : Int32))]))
          refine Dn.of (fun tt_ zz_ => XS.iloadN X8.here hx rfl (hb hby d1_10) rfl zz_) ?_
          show Dn p e below s _ _ _ (T8.setTop (mkF m 11 #[.val (.int c), .val (.ref h0.size), .val (.int (5 : Int32)), .val (.int (4 : Int32)), .val (.ref a_FRACTION)] [(.int (5 : Int32)), (.int (4 : Int32))]))
          refine Dn.of (fun tt_ zz_ => XS.icmpNo X8.here hx rfl (hb hby d1_11) rfl (tlt (by decide)).2.1 zz_) ?_
          show Dn p e below s _ _ _ (T8.setTop (mkF m 14 #[.val (.int c), .val (.ref h0.size), .val (.int (5 : Int32)), .val (.int (4 : Int32)), .val (.ref a_FRACTION)] []))
          refine Dn.of (fun tt_ zz_ => XS.aloadN X8.here hx rfl (hb hby d1_14) rfl rfl zz_) ?_
          show Dn p e below s _ _ _ (T8.setTop (mkF m 15 #[.val (.int c), .val (.ref h0.size), .val (.int (5 : Int32)), .val (.int (4 : Int32)), .val (.ref a_FRACTION)] [(.ref h0.size)]))
          refine Dn.of (fun tt_ zz_ => XS.iloadN X8.here hx rfl (hb hby d1_15) rfl zz_) ?_
          show Dn p e below s _ _ _ (T8.setTop (mkF m 16 #[.val (.int c), .val (.ref h0.size), .val (.int (5 : Int32)), .val (.int (4 : Int32)), .val (.ref a_FRACTION)] [(.int (4 : Int32)), (.ref h0.size)]))
          refine Dn.of (fun tt_ zz_ => X8.aaload hx (j := (4 : Int32)) (v := (.ref a_INTEGER_FRACTION)) (by rw [e8]; exact R1.1) (State.isArrayOf_alike hZ.alike R1.2.1) rfl R1.2.2 (own_lt zc (by decide)) v__VALUES_4 (g := (mkF m 16 #[.val (.int c), .val (.ref h0.size), .val (.int (5 : Int32)), .val (.int (4 : Int32)), .val (.ref a_FRACTION)] [(.int (4 : Int32)), (.ref h0.size)])) rfl rfl (hb hby d1_16) tt_ zz_) ?_
          show Dn p e below s _ _ _ (T8.setTop (mkF m 17 #[.val (.int c), .val (.ref h0.size), .val (.int (5 : Int32)), .val (.int (4 : Int32)), .val (.ref a_FRACTION)] [(.ref a_INTEGER_FRACTION)]))
          refine Dn.of (fun tt_ zz_ => XS.astore X8.here hx rfl (hb hby d1_17) rfl rfl (l' := #[.val (.int c), .val (.ref h0.size), .val (.int (5 : Int32)), .val (.int (4 : Int32)), .val (.ref a_INTEGER_FRACTION)]) rfl zz_) ?_
          show Dn p e below s _ _ _ (T8.setTop (mkF m 19 #[.val (.int c), .val (.ref h0.size), .val (.int (5 : Int32)), .val (.int (4 : Int32)), .val (.ref a_INTEGER_FRACTION)] []))
          refine Dn.of (fun tt_ zz_ => XS.aload X8.here hx rfl (hb hby d1_19) rfl rfl zz_) ?_
          show Dn p e below s _ _ _ (T8.setTop (mkF m 21 #[.val (.int c), .val (.ref h0.size), .val (.int (5 : Int32)), .val (.int (4 : Int32)), .val (.ref a_INTEGER_FRACTION)] [(.ref a_INTEGER_FRACTION)]))
          obtain ⟨T9, X9, e9, st9⟩ := getF X8 hx hZ hown (host := "") (Or.inl (hw _ (List.mem_of_getElem? (i := 24) rfl))) Via.refl e8 (F_INTEGER_FRACTION_code.ext E1) (g := (mkF m 21 #[.val (.int c), .val (.ref h0.size), .val (.int (5 : Int32)), .val (.int (4 : Int32)), .val (.ref a_INTEGER_FRACTION)] [(.ref a_INTEGER_FRACTION)])) rfl rfl (hb hby d1_21)
          refine Dn.of st9 ?_
          show Dn p e below s _ _ _ (T9.setTop (mkF m 24 #[.val (.int c), .val (.ref h0.size), .val (.int (5 : Int32)), .val (.int (4 : Int32)), .val (.ref a_INTEGER_FRACTION)] [(.int (4 : Int32))]))
          refine Dn.of (fun tt_ zz_ => XS.iloadN X9.here hx rfl (hb hby d1_24) rfl zz_) ?_
          show Dn p e below s _ _ _ (T9.setTop (mkF m 25 #[.val (.int c), .val (.ref h0.size), .val (.int (5 : Int32)), .val (.int (4 : Int32)), .val (.ref a_INTEGER_FRACTION)] [(.int c), (.int (4 : Int32))]))
          by_cases q4 : (4 : Int32) = c
          · skip
            refine Dn.of (fun tt_ zz_ => XS.icmpNo X9.here hx rfl (hb hby d1_25) rfl (teq q4).2 zz_) ?_
            show Dn p e below s _ _ _ (T9.setTop (mkF m 28 #[.val (.int c), .val (.ref h0.size), .val (.int (5 : Int32)), .val (.int (4 : Int32)), .val (.ref a_INTEGER_FRACTION)] []))
            refine Dn.of (fun tt_ zz_ => XS.aload X9.here hx rfl (hb hby d1_28) rfl rfl zz_) ?_
            show Dn p e below s _ _ _ (T9.setTop (mkF m 30 #[.val (.int c), .val (.ref h0.size), .val (.int (5 : Int32)), .val (.int (4 : Int32)), .val (.ref a_INTEGER_FRACTION)] [(.ref a_INTEGER_FRACTION)]))
            exact Dn.retA X9 hx hlk hret rfl rfl (hb hby d1_30) (by decide) (by decide) (by rw [e9]; exact ⟨by subst q4; rfl, Fr.app N0 M1, E1⟩)
          · skip
            refine Dn.of (fun tt_ zz_ => XS.icmpYes X9.here hx rfl (pc0 := 25) (pc' := 31) rfl (hb hby d1_25) rfl (feq q4).2 (by decide) (by decide) zz_) ?_
            show Dn p e below s _ _ _ (T9.setTop (mkF m 31 #[.val (.int c), .val (.ref h0.size), .val (.int (5 : Int32)), .val (.int (4 : Int32)), .val (.ref a_INTEGER_FRACTION)] []))
            have p4 : ¬ c = 4 := fun y => q4 y.symm
            refine Dn.of (fun tt_ zz_ => XS.iinc X9.here hx rfl (hb hby d1_31) rfl (l' := #[.val (.int c), .val (.ref h0.size), .val (.int (5 : Int32)), .val (.int ((4 : Int32) + (1 : Int32))), .val (.ref a_INTEGER_FRACTION)]) rfl zz_) ?_
            show Dn p e below s _ _ _ (T9.setTop (mkF m 34 #[.val (.int c), .val (.ref h0.size), .val (.int (5 : Int32)), .val (.int ((4 : Int32) + (1 : Int32))), .val (.ref a_INTEGER_FRACTION)] []))
            refine Dn.of (fun tt_ zz_ => XS.goto X9.here hx rfl (pc0 := 34) (pc' := 9) rfl (hb hby d1_34) (by decide) (by decide) zz_) ?_
            show Dn p e below s _ _ _ (T9.setTop (mkF m 9 #[.val (.int c), .val (.ref h0.size), .val (.int (5 : Int32)), .val (.int ((4 : Int32) + (1 : Int32))), .val (.ref a_INTEGER_FRACTION)] []))
            show Dn p e below s _ _ _ (T9.setTop (mkF m 9 #[.val (.int c), .val (.ref h0.size), .val (.int (5 : Int32)), .val (.int (5 : Int32)), .val (.ref a_INTEGER_FRACTION)] []))
            refine Dn.of (fun tt_ zz_ => XS.iloadN X9.here hx rfl (hb hby d1_9) rfl zz_) ?_
            show Dn p e below s _ _ _ (T9.setTop (mkF m 10 #[.val (.int c), .val (.ref h0.size), .val (.int (5 : Int32)), .val (.int (5 : Int32)), .val (.ref a_INTEGER_FRACTION)] [(.int (5 : Int32))]))
            refine Dn.of (fun tt_ zz_ => XS.iloadN X9.here hx rfl (hb hby d1_10) rfl zz_) ?_
            show Dn p e below s _ _ _ (T9.setTop (mkF m 11 #[.val (.int c), .val (.ref h0.size), .val (.int (5 : Int32)), .val (.int (5 : Int32)), .val (.ref a_INTEGER_FRACTION)] [(.int (5 : Int32)), (.int (5 : Int32))]))
            refine Dn.of (fun tt_ zz_ => XS.icmpYes X9.here hx rfl (pc0 := 11) (pc' := 37) rfl (hb hby d1_11) rfl (flt (by decide)).2.1 (by decide) (by decide) zz_) ?_
            show Dn p e below s _ _ _ (T9.setTop (mkF m 37 #[.val (.int c), .val (.ref h0.size), .val (.int (5 : Int32)), .val (.int (5 : Int32)), .val (.ref a_INTEGER_FRACTION)] []))
            refine Dn.of (fun tt_ zz_ => XS.aconstNull X9.here hx rfl (hb hby d1_37) zz_) ?_
            show Dn p e below s _ _ _ (T9.setTop (mkF m 38 #[.val (.int c), .val (.ref h0.size), .val (.int (5 : Int32)), .val (.int (5 : Int32)), .val (.ref a_INTEGER_FRACTION)] [.null]))
            exact Dn.retA X9 hx hlk hret rfl rfl (hb hby d1_38) (by decide) (by decide) (by rw [e9]; exact ⟨by simp [own_val, p0, p1, p2, p3, p4], Fr.app N0 M1, E1⟩)
theorem ef3 (m : MethodId) (x0 : Int32) : entryFrame m #[(.int x0)] 1 = mkF m 0 #[.val (.int x0)] [] := by first | (simp [entryFrame, mkF, argsToLocals, Value.category]; done) | rfl
set_option maxRecDepth 65536 in
set_option maxHeartbeats 40000000 in
theorem rm3 (l : Launch) (Z : State) (a0 : Array Value) (hw : ∀ d ∈ tables_1, d.before a0 Z = true) (h0 : Heap) (n0 : Nat) (Z0 : n0 ≤ h0.size) (c : Int32) (a__VALUES a_RATIO a_UNITARY a_PERCENT a_FRACTION a_INTEGER_FRACTION : Addr) (l__VALUES : Cell) (S_RATIO : Sta Z h0 "com/example/vellum/vellum/types/ProportionKind" "RATIO" "Lcom/example/vellum/vellum/types/ProportionKind;" (.ref a_RATIO)) (S_UNITARY : Sta Z h0 "com/example/vellum/vellum/types/ProportionKind" "UNITARY" "Lcom/example/vellum/vellum/types/ProportionKind;" (.ref a_UNITARY)) (S_PERCENT : Sta Z h0 "com/example/vellum/vellum/types/ProportionKind" "PERCENT" "Lcom/example/vellum/vellum/types/ProportionKind;" (.ref a_PERCENT)) (S_FRACTION : Sta Z h0 "com/example/vellum/vellum/types/ProportionKind" "FRACTION" "Lcom/example/vellum/vellum/types/ProportionKind;" (.ref a_FRACTION)) (S_INTEGER_FRACTION : Sta Z h0 "com/example/vellum/vellum/types/ProportionKind" "INTEGER_FRACTION" "Lcom/example/vellum/vellum/types/ProportionKind;" (.ref a_INTEGER_FRACTION)) :
    ctr l Z (⟨"com/example/vellum/vellum/types/ProportionKindOfCodePinLaw", "expected", "(I)Lcom/example/vellum/vellum/types/ProportionKind;"⟩ : MethodName) method_3_code 1 (some (.object "com/example/vellum/vellum/types/ProportionKind")) [] ({ frames := 0, cells := 0, slots := 0, locals := 0 } : Room) 0 0 #[(.int c)] h0 (fun v h L => v = some (own_val a_RATIO a_UNITARY a_PERCENT a_FRACTION a_INTEGER_FRACTION c) ∧ Fr n0 L ∧ h = h0) := by
  refine ctr_of (plainFor_of_name pn1) ?_
  intro p e s m below meth jc s₁ hx hby hml hret hlk hnm hown hZ e0 X0
  have N0 := Fr.nil n0
  refine Dn.cast (ef3 m c) ?_
  show Dn p e below s _ _ _ (s₁.setTop (mkF m 0 #[.val (.int c)] []))
  refine Dn.of (fun tt_ zz_ => XS.iloadN X0.here hx rfl (hb hby d3_0) rfl zz_) ?_
  show Dn p e below s _ _ _ (s₁.setTop (mkF m 1 #[.val (.int c)] [(.int c)]))
  by_cases q0 : c = (0 : Int32)
  · skip
    refine Dn.of (fun tt_ zz_ => XS.ifNo X0.here hx rfl (hb hby d3_1) rfl ((if0 _ _).trans (teq q0).2) zz_) ?_
    show Dn p e below s _ _ _ (s₁.setTop (mkF m 4 #[.val (.int c)] []))
    obtain ⟨T10, X10, e10, st10⟩ := getS2 X0 hx hZ hown (host := "") (Or.inl (hw _ (List.mem_of_getElem? (i := 30) rfl))) Via.refl e0 S_RATIO (g := (mkF m 4 #[.val (.int c)] [])) rfl (hb hby d3_4)
    refine Dn.of st10 ?_
    show Dn p e below s _ _ _ (T10.setTop (mkF m 7 #[.val (.int c)] [(.ref a_RATIO)]))
    exact Dn.retA X10 hx hlk hret rfl rfl (hb hby d3_7) (by decide) (by decide) (⟨by subst q0; rfl, N0, e10⟩)
  · skip
    refine Dn.of (fun tt_ zz_ => XS.ifYes X0.here hx rfl (pc0 := 1) (pc' := 8) rfl (hb hby d3_1) rfl ((if0 _ _).trans (feq q0).2) (by decide) (by decide) zz_) ?_
    show Dn p e below s _ _ _ (s₁.setTop (mkF m 8 #[.val (.int c)] []))
    refine Dn.of (fun tt_ zz_ => XS.iloadN X0.here hx rfl (hb hby d3_8) rfl zz_) ?_
    show Dn p e below s _ _ _ (s₁.setTop (mkF m 9 #[.val (.int c)] [(.int c)]))
    refine Dn.of (fun tt_ zz_ => XS.iconst X0.here hx rfl (hb hby d3_9) zz_) ?_
    show Dn p e below s _ _ _ (s₁.setTop (mkF m 10 #[.val (.int c)] [(.int (1 : Int32)), (.int c)]))
    by_cases q1 : c = (1 : Int32)
    · skip
      refine Dn.of (fun tt_ zz_ => XS.icmpNo X0.here hx rfl (hb hby d3_10) rfl (teq q1).2 zz_) ?_
      show Dn p e below s _ _ _ (s₁.setTop (mkF m 13 #[.val (.int c)] []))
      obtain ⟨T11, X11, e11, st11⟩ := getS2 X0 hx hZ hown (host := "") (Or.inl (hw _ (List.mem_of_getElem? (i := 38) rfl))) Via.refl e0 S_UNITARY (g := (mkF m 13 #[.val (.int c)] [])) rfl (hb hby d3_13)
      refine Dn.of st11 ?_
      show Dn p e below s _ _ _ (T11.setTop (mkF m 16 #[.val (.int c)] [(.ref a_UNITARY)]))
      exact Dn.retA X11 hx hlk hret rfl rfl (hb hby d3_16) (by decide) (by decide) (⟨by subst q1; rfl, N0, e11⟩)
    · skip
      refine Dn.of (fun tt_ zz_ => XS.icmpYes X0.here hx rfl (pc0 := 10) (pc' := 17) rfl (hb hby d3_10) rfl (feq q1).2 (by decide) (by decide) zz_) ?_
      show Dn p e below s _ _ _ (s₁.setTop (mkF m 17 #[.val (.int c)] []))
      refine Dn.of (fun tt_ zz_ => XS.iloadN X0.here hx rfl (hb hby d3_17) rfl zz_) ?_
      show Dn p e below s _ _ _ (s₁.setTop (mkF m 18 #[.val (.int c)] [(.int c)]))
      refine Dn.of (fun tt_ zz_ => XS.iconst X0.here hx rfl (hb hby d3_18) zz_) ?_
      show Dn p e below s _ _ _ (s₁.setTop (mkF m 19 #[.val (.int c)] [(.int (2 : Int32)), (.int c)]))
      by_cases q2 : c = (2 : Int32)
      · skip
        refine Dn.of (fun tt_ zz_ => XS.icmpNo X0.here hx rfl (hb hby d3_19) rfl (teq q2).2 zz_) ?_
        show Dn p e below s _ _ _ (s₁.setTop (mkF m 22 #[.val (.int c)] []))
        obtain ⟨T12, X12, e12, st12⟩ := getS2 X0 hx hZ hown (host := "") (Or.inl (hw _ (List.mem_of_getElem? (i := 39) rfl))) Via.refl e0 S_PERCENT (g := (mkF m 22 #[.val (.int c)] [])) rfl (hb hby d3_22)
        refine Dn.of st12 ?_
        show Dn p e below s _ _ _ (T12.setTop (mkF m 25 #[.val (.int c)] [(.ref a_PERCENT)]))
        exact Dn.retA X12 hx hlk hret rfl rfl (hb hby d3_25) (by decide) (by decide) (⟨by subst q2; rfl, N0, e12⟩)
      · skip
        refine Dn.of (fun tt_ zz_ => XS.icmpYes X0.here hx rfl (pc0 := 19) (pc' := 26) rfl (hb hby d3_19) rfl (feq q2).2 (by decide) (by decide) zz_) ?_
        show Dn p e below s _ _ _ (s₁.setTop (mkF m 26 #[.val (.int c)] []))
        refine Dn.of (fun tt_ zz_ => XS.iloadN X0.here hx rfl (hb hby d3_26) rfl zz_) ?_
        show Dn p e below s _ _ _ (s₁.setTop (mkF m 27 #[.val (.int c)] [(.int c)]))
        refine Dn.of (fun tt_ zz_ => XS.iconst X0.here hx rfl (hb hby d3_27) zz_) ?_
        show Dn p e below s _ _ _ (s₁.setTop (mkF m 28 #[.val (.int c)] [(.int (3 : Int32)), (.int c)]))
        by_cases q3 : c = (3 : Int32)
        · skip
          refine Dn.of (fun tt_ zz_ => XS.icmpNo X0.here hx rfl (hb hby d3_28) rfl (teq q3).2 zz_) ?_
          show Dn p e below s _ _ _ (s₁.setTop (mkF m 31 #[.val (.int c)] []))
          obtain ⟨T13, X13, e13, st13⟩ := getS2 X0 hx hZ hown (host := "") (Or.inl (hw _ (List.mem_of_getElem? (i := 36) rfl))) Via.refl e0 S_FRACTION (g := (mkF m 31 #[.val (.int c)] [])) rfl (hb hby d3_31)
          refine Dn.of st13 ?_
          show Dn p e below s _ _ _ (T13.setTop (mkF m 34 #[.val (.int c)] [(.ref a_FRACTION)]))
          exact Dn.retA X13 hx hlk hret rfl rfl (hb hby d3_34) (by decide) (by decide) (⟨by subst q3; rfl, N0, e13⟩)
        · skip
          refine Dn.of (fun tt_ zz_ => XS.icmpYes X0.here hx rfl (pc0 := 28) (pc' := 35) rfl (hb hby d3_28) rfl (feq q3).2 (by decide) (by decide) zz_) ?_
          show Dn p e below s _ _ _ (s₁.setTop (mkF m 35 #[.val (.int c)] []))
          refine Dn.of (fun tt_ zz_ => XS.iloadN X0.here hx rfl (hb hby d3_35) rfl zz_) ?_
          show Dn p e below s _ _ _ (s₁.setTop (mkF m 36 #[.val (.int c)] [(.int c)]))
          refine Dn.of (fun tt_ zz_ => XS.iconst X0.here hx rfl (hb hby d3_36) zz_) ?_
          show Dn p e below s _ _ _ (s₁.setTop (mkF m 37 #[.val (.int c)] [(.int (4 : Int32)), (.int c)]))
          by_cases q4 : c = (4 : Int32)
          · skip
            refine Dn.of (fun tt_ zz_ => XS.icmpNo X0.here hx rfl (hb hby d3_37) rfl (teq q4).2 zz_) ?_
            show Dn p e below s _ _ _ (s₁.setTop (mkF m 40 #[.val (.int c)] []))
            obtain ⟨T14, X14, e14, st14⟩ := getS2 X0 hx hZ hown (host := "") (Or.inl (hw _ (List.mem_of_getElem? (i := 37) rfl))) Via.refl e0 S_INTEGER_FRACTION (g := (mkF m 40 #[.val (.int c)] [])) rfl (hb hby d3_40)
            refine Dn.of st14 ?_
            show Dn p e below s _ _ _ (T14.setTop (mkF m 43 #[.val (.int c)] [(.ref a_INTEGER_FRACTION)]))
            exact Dn.retA X14 hx hlk hret rfl rfl (hb hby d3_43) (by decide) (by decide) (⟨by subst q4; rfl, N0, e14⟩)
          · skip
            refine Dn.of (fun tt_ zz_ => XS.icmpYes X0.here hx rfl (pc0 := 37) (pc' := 44) rfl (hb hby d3_37) rfl (feq q4).2 (by decide) (by decide) zz_) ?_
            show Dn p e below s _ _ _ (s₁.setTop (mkF m 44 #[.val (.int c)] []))
            refine Dn.of (fun tt_ zz_ => XS.aconstNull X0.here hx rfl (hb hby d3_44) zz_) ?_
            show Dn p e below s _ _ _ (s₁.setTop (mkF m 45 #[.val (.int c)] [.null]))
            exact Dn.retA X0 hx hlk hret rfl rfl (hb hby d3_45) (by decide) (by decide) (⟨by simp [own_val, q0, q1, q2, q3, q4], N0, e0⟩)
theorem ef4 (m : MethodId) (x0 : Addr) : entryFrame m #[(.ref x0)] 1 = mkF m 0 #[.val (.ref x0)] [] := by first | (simp [entryFrame, mkF, argsToLocals, Value.category]; done) | rfl
set_option maxRecDepth 65536 in
set_option maxHeartbeats 40000000 in
theorem rm4 (l : Launch) (Z : State) (a0 : Array Value) (hw : ∀ d ∈ tables_1, d.before a0 Z = true) (h0 : Heap) (n0 : Nat) (Z0 : n0 ≤ h0.size) (a : Addr) (c : Int32) (F : Fld Z h0 a "com/example/vellum/vellum/types/ProportionKind" "code" "I" (.int c)) :
    ctr l Z (⟨"com/example/vellum/vellum/types/ProportionKind", "code", "()I"⟩ : MethodName) prog_78_method_4_code 1 (some .int) [] ({ frames := 0, cells := 0, slots := 0, locals := 0 } : Room) 0 0 #[(.ref a)] h0 (fun v h L => v = some (.int c) ∧ Fr n0 L ∧ h = h0) := by
  refine ctr_of (plainFor_of_name pn0) ?_
  intro p e s m below meth jc s₁ hx hby hml hret hlk hnm hown hZ e0 X0
  have N0 := Fr.nil n0
  refine Dn.cast (ef4 m a) ?_
  show Dn p e below s _ _ _ (s₁.setTop (mkF m 0 #[.val (.ref a)] []))
  refine Dn.of (fun tt_ zz_ => XS.aloadN X0.here hx rfl (hb hby d4_0) rfl rfl zz_) ?_
  show Dn p e below s _ _ _ (s₁.setTop (mkF m 1 #[.val (.ref a)] [(.ref a)]))
  obtain ⟨T15, X15, e15, st15⟩ := getF X0 hx hZ hown (host := "") (Or.inl (hw _ (List.mem_of_getElem? (i := 24) rfl))) Via.refl e0 F (g := (mkF m 1 #[.val (.ref a)] [(.ref a)])) rfl rfl (hb hby d4_1)
  refine Dn.of st15 ?_
  show Dn p e below s _ _ _ (T15.setTop (mkF m 4 #[.val (.ref a)] [(.int c)]))
  exact Dn.retI X15 hx hlk hret (hb hby d4_4) (by decide) (by decide) (⟨rfl, N0, e15⟩)
def own_Q (n0 : Nat) (v : Option Value) (h : Heap) (L : List Loc) : Prop := v = some (.int 1) ∧ Fr n0 L
theorem ef0 (m : MethodId) (x0 : Int32) (x1 : Int32) : entryFrame m #[(.int x0), (.int x1)] maxLocals = mkF m 0 #[.val (.int x0), .val (.int x1), .unset, .unset, .unset] [] := by first | (simp [entryFrame, mkF, argsToLocals, Value.category, maxLocals]; done) | rfl
set_option maxRecDepth 65536 in
set_option maxHeartbeats 40000000 in
theorem rm0 (l : Launch) (Z : State) (a0 : Array Value) (hw : ∀ d ∈ tables_1, d.before a0 Z = true) (ws : List Jvm.Cond) (h0 : Heap) (n0 : Nat) (Z0 : n0 ≤ h0.size) (i0 i1 : Int32) (a__VALUES a_RATIO a_UNITARY a_PERCENT a_FRACTION a_INTEGER_FRACTION : Addr) (l__VALUES : Cell) (S__VALUES : Sta Z h0 "com/example/vellum/vellum/types/ProportionKind" "$VALUES" "[Lcom/example/vellum/vellum/types/ProportionKind;" (.ref a__VALUES)) (R__VALUES : Arr Z h0 a__VALUES l__VALUES (.object "com/example/vellum/vellum/types/ProportionKind")) (E__VALUES : Exa Z h0 a__VALUES "[Lcom/example/vellum/vellum/types/ProportionKind;") (z__VALUES : l__VALUES.slots.size = 5) (S_RATIO : Sta Z h0 "com/example/vellum/vellum/types/ProportionKind" "RATIO" "Lcom/example/vellum/vellum/types/ProportionKind;" (.ref a_RATIO)) (E_RATIO : Exa Z h0 a_RATIO "com/example/vellum/vellum/types/ProportionKind") (v__VALUES_0 : l__VALUES.slots[0]? = some (.ref a_RATIO)) (S_UNITARY : Sta Z h0 "com/example/vellum/vellum/types/ProportionKind" "UNITARY" "Lcom/example/vellum/vellum/types/ProportionKind;" (.ref a_UNITARY)) (E_UNITARY : Exa Z h0 a_UNITARY "com/example/vellum/vellum/types/ProportionKind") (v__VALUES_1 : l__VALUES.slots[1]? = some (.ref a_UNITARY)) (S_PERCENT : Sta Z h0 "com/example/vellum/vellum/types/ProportionKind" "PERCENT" "Lcom/example/vellum/vellum/types/ProportionKind;" (.ref a_PERCENT)) (E_PERCENT : Exa Z h0 a_PERCENT "com/example/vellum/vellum/types/ProportionKind") (v__VALUES_2 : l__VALUES.slots[2]? = some (.ref a_PERCENT)) (S_FRACTION : Sta Z h0 "com/example/vellum/vellum/types/ProportionKind" "FRACTION" "Lcom/example/vellum/vellum/types/ProportionKind;" (.ref a_FRACTION)) (E_FRACTION : Exa Z h0 a_FRACTION "com/example/vellum/vellum/types/ProportionKind") (v__VALUES_3 : l__VALUES.slots[3]? = some (.ref a_FRACTION)) (S_INTEGER_FRACTION : Sta Z h0 "com/example/vellum/vellum/types/ProportionKind" "INTEGER_FRACTION" "Lcom/example/vellum/vellum/types/ProportionKind;" (.ref a_INTEGER_FRACTION)) (E_INTEGER_FRACTION : Exa Z h0 a_INTEGER_FRACTION "com/example/vellum/vellum/types/ProportionKind") (v__VALUES_4 : l__VALUES.slots[4]? = some (.ref a_INTEGER_FRACTION)) (F_RATIO_code : Fld Z h0 a_RATIO "com/example/vellum/vellum/types/ProportionKind" "code" "I" (.int (0 : Int32))) (F_UNITARY_code : Fld Z h0 a_UNITARY "com/example/vellum/vellum/types/ProportionKind" "code" "I" (.int (1 : Int32))) (F_PERCENT_code : Fld Z h0 a_PERCENT "com/example/vellum/vellum/types/ProportionKind" "code" "I" (.int (2 : Int32))) (F_FRACTION_code : Fld Z h0 a_FRACTION "com/example/vellum/vellum/types/ProportionKind" "code" "I" (.int (3 : Int32))) (F_INTEGER_FRACTION_code : Fld Z h0 a_INTEGER_FRACTION "com/example/vellum/vellum/types/ProportionKind" "code" "I" (.int (4 : Int32))) (FC : FitC Z l__VALUES) :
    ctr l Z x code maxLocals ret ws room_1 16 128 #[(.int i0), (.int i1)] h0 (own_Q n0) := by
  refine ctr_of (plainFor_of_name pn1) ?_
  intro p e s m below meth jc s₁ hx hby hml hret hlk hnm hown hZ e0 X0
  have N0 := Fr.nil n0
  refine Dn.cast (ef0 m i0 i1) ?_
  show Dn p e below s _ _ _ (s₁.setTop (mkF m 0 #[.val (.int i0), .val (.int i1), .unset, .unset, .unset] []))
  have K : ∀ c : Int32, Dn p e below s (own_Q n0) 16 128 (s₁.setTop (mkF m 16 #[.val (.int i0), .val (.int i1), .unset, .unset, .unset] [(.int c)])) := by
    intro c
    refine Dn.of (fun tt_ zz_ => XS.istoreN X0.here hx rfl (hb hby at_16) rfl (l' := #[.val (.int i0), .val (.int i1), .val (.int c), .unset, .unset]) rfl zz_) ?_
    show Dn p e below s (own_Q n0) 16 128 (s₁.setTop (mkF m 17 #[.val (.int i0), .val (.int i1), .val (.int c), .unset, .unset] []))
    refine Dn.of (fun tt_ zz_ => XS.iloadN X0.here hx rfl (hb hby at_17) rfl zz_) ?_
    show Dn p e below s (own_Q n0) 16 128 (s₁.setTop (mkF m 18 #[.val (.int i0), .val (.int i1), .val (.int c), .unset, .unset] [(.int c)]))
    obtain ⟨v16, T16, L16, Q16, X16, st16⟩ := cSt X0 hx hZ (y := (⟨"com/example/vellum/vellum/types/ProportionKind", "ofCode", "(I)Lcom/example/vellum/vellum/types/ProportionKind;"⟩ : MethodName)) hown (hw _ (List.mem_of_getElem? (i := 0) rfl)) (hw _ (List.mem_of_getElem? (i := 1) rfl)) (hw _ (List.mem_of_getElem? (i := 2) rfl)) (hw _ (List.mem_of_getElem? (i := 3) rfl)) (by decide) (argsL := [(.int c)]) (rest := []) (rm1 l Z a0 hw h0 n0 Z0 c a__VALUES a_RATIO a_UNITARY a_PERCENT a_FRACTION a_INTEGER_FRACTION l__VALUES S__VALUES R__VALUES E__VALUES z__VALUES v__VALUES_0 v__VALUES_1 v__VALUES_2 v__VALUES_3 v__VALUES_4 F_RATIO_code F_UNITARY_code F_PERCENT_code F_FRACTION_code F_INTEGER_FRACTION_code FC) e0  0 (by decide) (by decide) (by decide) (by decide) (g := (mkF m 18 #[.val (.int i0), .val (.int i1), .val (.int c), .unset, .unset] [(.int c)])) rfl (by rw [hml]; rfl) (lenOf pd1 rfl) rfl (by show 2 * 0 + _ ≤ _; exact Nat.le_of_eq rfl) (hb hby at_18)
    obtain ⟨rfl, M1, E1⟩ := Q16
    refine Dn.of st16 ?_
    show Dn p e below s (own_Q n0) 16 128 (T16.setTop (mkF m 21 #[.val (.int i0), .val (.int i1), .val (.int c), .unset, .unset] [(own_val a_RATIO a_UNITARY a_PERCENT a_FRACTION a_INTEGER_FRACTION c)]))
    have E__VALUES' := E__VALUES.ext E1
    have S_RATIO' := S_RATIO.ext E1
    have E_RATIO' := E_RATIO.ext E1
    have S_UNITARY' := S_UNITARY.ext E1
    have E_UNITARY' := E_UNITARY.ext E1
    have S_PERCENT' := S_PERCENT.ext E1
    have E_PERCENT' := E_PERCENT.ext E1
    have S_FRACTION' := S_FRACTION.ext E1
    have E_FRACTION' := E_FRACTION.ext E1
    have S_INTEGER_FRACTION' := S_INTEGER_FRACTION.ext E1
    have E_INTEGER_FRACTION' := E_INTEGER_FRACTION.ext E1
    have F_RATIO_code' := F_RATIO_code.ext E1
    have F_UNITARY_code' := F_UNITARY_code.ext E1
    have F_PERCENT_code' := F_PERCENT_code.ext E1
    have F_FRACTION_code' := F_FRACTION_code.ext E1
    have F_INTEGER_FRACTION_code' := F_INTEGER_FRACTION_code.ext E1
    have Z1 := Nat.le_trans Z0 E1.1
    refine Dn.of (fun tt_ zz_ => XS.astoreN X16.here hx rfl (hb hby at_21) rfl (own_val_ref a_RATIO a_UNITARY a_PERCENT a_FRACTION a_INTEGER_FRACTION c) (l' := #[.val (.int i0), .val (.int i1), .val (.int c), .val (own_val a_RATIO a_UNITARY a_PERCENT a_FRACTION a_INTEGER_FRACTION c), .unset]) (XS.store1 rfl (Or.inl rfl) (own_cat (own_val_ref a_RATIO a_UNITARY a_PERCENT a_FRACTION a_INTEGER_FRACTION c))) zz_) ?_
    show Dn p e below s (own_Q n0) 16 128 (T16.setTop (mkF m 22 #[.val (.int i0), .val (.int i1), .val (.int c), .val (own_val a_RATIO a_UNITARY a_PERCENT a_FRACTION a_INTEGER_FRACTION c), .unset] []))
    refine Dn.of (fun tt_ zz_ => XS.iloadN X16.here hx rfl (hb hby at_22) rfl zz_) ?_
    show Dn p e below s (own_Q n0) 16 128 (T16.setTop (mkF m 23 #[.val (.int i0), .val (.int i1), .val (.int c), .val (own_val a_RATIO a_UNITARY a_PERCENT a_FRACTION a_INTEGER_FRACTION c), .unset] [(.int c)]))
    obtain ⟨v17, T17, L17, Q17, X17, st17⟩ := cSt X16 hx hZ (y := (⟨"com/example/vellum/vellum/types/ProportionKindOfCodePinLaw", "expected", "(I)Lcom/example/vellum/vellum/types/ProportionKind;"⟩ : MethodName)) hown (hw _ (List.mem_of_getElem? (i := 26) rfl)) (hw _ (List.mem_of_getElem? (i := 27) rfl)) (hw _ (List.mem_of_getElem? (i := 28) rfl)) (hw _ (List.mem_of_getElem? (i := 29) rfl)) (by decide) (argsL := [(.int c)]) (rest := []) (rm3 l Z a0 hw T16.heap n0 Z1 c a__VALUES a_RATIO a_UNITARY a_PERCENT a_FRACTION a_INTEGER_FRACTION l__VALUES S_RATIO' S_UNITARY' S_PERCENT' S_FRACTION' S_INTEGER_FRACTION') rfl  0 (by decide) (by decide) (by decide) (by decide) (g := (mkF m 23 #[.val (.int i0), .val (.int i1), .val (.int c), .val (own_val a_RATIO a_UNITARY a_PERCENT a_FRACTION a_INTEGER_FRACTION c), .unset] [(.int c)])) rfl (by rw [hml]; rfl) (lenOf pd1 rfl) rfl (by show 2 * 0 + _ ≤ _; exact Nat.le_of_eq rfl) (hb hby at_23)
    obtain ⟨rfl, M2, e17⟩ := Q17
    refine Dn.of st17 ?_
    show Dn p e below s (own_Q n0) 16 128 (T17.setTop (mkF m 26 #[.val (.int i0), .val (.int i1), .val (.int c), .val (own_val a_RATIO a_UNITARY a_PERCENT a_FRACTION a_INTEGER_FRACTION c), .unset] [(own_val a_RATIO a_UNITARY a_PERCENT a_FRACTION a_INTEGER_FRACTION c)]))
    refine Dn.of (fun tt_ zz_ => XS.astore X17.here hx rfl (hb hby at_26) rfl (own_val_ref a_RATIO a_UNITARY a_PERCENT a_FRACTION a_INTEGER_FRACTION c) (l' := #[.val (.int i0), .val (.int i1), .val (.int c), .val (own_val a_RATIO a_UNITARY a_PERCENT a_FRACTION a_INTEGER_FRACTION c), .val (own_val a_RATIO a_UNITARY a_PERCENT a_FRACTION a_INTEGER_FRACTION c)]) (XS.store1 rfl (Or.inl rfl) (own_cat (own_val_ref a_RATIO a_UNITARY a_PERCENT a_FRACTION a_INTEGER_FRACTION c))) zz_) ?_
    show Dn p e below s (own_Q n0) 16 128 (T17.setTop (mkF m 28 #[.val (.int i0), .val (.int i1), .val (.int c), .val (own_val a_RATIO a_UNITARY a_PERCENT a_FRACTION a_INTEGER_FRACTION c), .val (own_val a_RATIO a_UNITARY a_PERCENT a_FRACTION a_INTEGER_FRACTION c)] []))
    refine Dn.of (fun tt_ zz_ => XS.aloadN X17.here hx rfl (hb hby at_28) rfl (own_val_ref a_RATIO a_UNITARY a_PERCENT a_FRACTION a_INTEGER_FRACTION c) zz_) ?_
    show Dn p e below s (own_Q n0) 16 128 (T17.setTop (mkF m 29 #[.val (.int i0), .val (.int i1), .val (.int c), .val (own_val a_RATIO a_UNITARY a_PERCENT a_FRACTION a_INTEGER_FRACTION c), .val (own_val a_RATIO a_UNITARY a_PERCENT a_FRACTION a_INTEGER_FRACTION c)] [(own_val a_RATIO a_UNITARY a_PERCENT a_FRACTION a_INTEGER_FRACTION c)]))
    refine Dn.of (fun tt_ zz_ => XS.aload X17.here hx rfl (hb hby at_29) rfl (own_val_ref a_RATIO a_UNITARY a_PERCENT a_FRACTION a_INTEGER_FRACTION c) zz_) ?_
    show Dn p e below s (own_Q n0) 16 128 (T17.setTop (mkF m 31 #[.val (.int i0), .val (.int i1), .val (.int c), .val (own_val a_RATIO a_UNITARY a_PERCENT a_FRACTION a_INTEGER_FRACTION c), .val (own_val a_RATIO a_UNITARY a_PERCENT a_FRACTION a_INTEGER_FRACTION c)] [(own_val a_RATIO a_UNITARY a_PERCENT a_FRACTION a_INTEGER_FRACTION c), (own_val a_RATIO a_UNITARY a_PERCENT a_FRACTION a_INTEGER_FRACTION c)]))
    refine Dn.of (fun tt_ zz_ => Jvm.RoadKit.acmp (g := (mkF m 31 #[.val (.int i0), .val (.int i1), .val (.int c), .val (own_val a_RATIO a_UNITARY a_PERCENT a_FRACTION a_INTEGER_FRACTION c), .val (own_val a_RATIO a_UNITARY a_PERCENT a_FRACTION a_INTEGER_FRACTION c)] [(own_val a_RATIO a_UNITARY a_PERCENT a_FRACTION a_INTEGER_FRACTION c), (own_val a_RATIO a_UNITARY a_PERCENT a_FRACTION a_INTEGER_FRACTION c)])) X17 hx rfl (own_val_ref a_RATIO a_UNITARY a_PERCENT a_FRACTION a_INTEGER_FRACTION c) (own_val_ref a_RATIO a_UNITARY a_PERCENT a_FRACTION a_INTEGER_FRACTION c) (pc0 := 31) (pc' := 36) (same := true) rfl (hb hby at_31) rfl (decide_eq_true rfl) (by decide) (by decide) zz_) ?_
    show Dn p e below s (own_Q n0) 16 128 (T17.setTop (mkF m 36 #[.val (.int i0), .val (.int i1), .val (.int c), .val (own_val a_RATIO a_UNITARY a_PERCENT a_FRACTION a_INTEGER_FRACTION c), .val (own_val a_RATIO a_UNITARY a_PERCENT a_FRACTION a_INTEGER_FRACTION c)] []))
    refine Dn.of (fun tt_ zz_ => XS.aloadN X17.here hx rfl (hb hby at_36) rfl (own_val_ref a_RATIO a_UNITARY a_PERCENT a_FRACTION a_INTEGER_FRACTION c) zz_) ?_
    show Dn p e below s (own_Q n0) 16 128 (T17.setTop (mkF m 37 #[.val (.int i0), .val (.int i1), .val (.int c), .val (own_val a_RATIO a_UNITARY a_PERCENT a_FRACTION a_INTEGER_FRACTION c), .val (own_val a_RATIO a_UNITARY a_PERCENT a_FRACTION a_INTEGER_FRACTION c)] [(own_val a_RATIO a_UNITARY a_PERCENT a_FRACTION a_INTEGER_FRACTION c)]))
    rcases own_cases (Z := Z) (h := T16.heap) a_RATIO a_UNITARY a_PERCENT a_FRACTION a_INTEGER_FRACTION c F_RATIO_code' E_RATIO' F_UNITARY_code' E_UNITARY' F_PERCENT_code' E_PERCENT' F_FRACTION_code' E_FRACTION' F_INTEGER_FRACTION_code' E_INTEGER_FRACTION' with hv | ⟨a, hv, Fa, Ea⟩
    · skip
      rw [hv]
      show Dn p e below s (own_Q n0) 16 128 (T17.setTop (mkF m 37 #[.val (.int i0), .val (.int i1), .val (.int c), .val .null, .val .null] [.null]))
      refine Dn.of (fun tt_ zz_ => XS.ifnullYes X17.here hx rfl (pc0 := 37) (pc' := 50) rfl (hb hby at_37) rfl (by decide) (by decide) zz_) ?_
      show Dn p e below s (own_Q n0) 16 128 (T17.setTop (mkF m 50 #[.val (.int i0), .val (.int i1), .val (.int c), .val .null, .val .null] []))
      refine Dn.of (fun tt_ zz_ => XS.iconst X17.here hx rfl (hb hby at_50) zz_) ?_
      show Dn p e below s (own_Q n0) 16 128 (T17.setTop (mkF m 51 #[.val (.int i0), .val (.int i1), .val (.int c), .val .null, .val .null] [(.int (1 : Int32))]))
      exact Dn.retN X17 hx hlk (t := .boolean) hret (by simp) (hb hby at_51) (by decide) (by decide) (⟨rfl, Fr.app (Fr.app N0 M1) M2⟩)
    · skip
      rw [hv]
      show Dn p e below s (own_Q n0) 16 128 (T17.setTop (mkF m 37 #[.val (.int i0), .val (.int i1), .val (.int c), .val (.ref a), .val (.ref a)] [(.ref a)]))
      refine Dn.of (fun tt_ zz_ => XS.ifnullNo X17.here hx rfl (hb hby at_37) rfl zz_) ?_
      show Dn p e below s (own_Q n0) 16 128 (T17.setTop (mkF m 40 #[.val (.int i0), .val (.int i1), .val (.int c), .val (.ref a), .val (.ref a)] []))
      refine Dn.of (fun tt_ zz_ => XS.aloadN X17.here hx rfl (hb hby at_40) rfl rfl zz_) ?_
      show Dn p e below s (own_Q n0) 16 128 (T17.setTop (mkF m 41 #[.val (.int i0), .val (.int i1), .val (.int c), .val (.ref a), .val (.ref a)] [(.ref a)]))
      obtain ⟨v18, T18, L18, Q18, X18, st18⟩ := cVi X17 hx hZ (C := "com/example/vellum/vellum/types/ProportionKind") (y := (⟨"com/example/vellum/vellum/types/ProportionKind", "code", "()I"⟩ : MethodName)) (z := (⟨"com/example/vellum/vellum/types/ProportionKind", "code", "()I"⟩ : MethodName)) hown (hw _ (List.mem_of_getElem? (i := 31) rfl)) (hw _ (List.mem_of_getElem? (i := 32) rfl)) (notFace_of_selects (args := #[]) (mvT hZ (hw _ (List.mem_of_getElem? (i := 34) rfl)))) (hw _ (List.mem_of_getElem? (i := 34) rfl)) (hw _ (List.mem_of_getElem? (i := 33) rfl)) (hw _ (List.mem_of_getElem? (i := 2) rfl)) (hw _ (List.mem_of_getElem? (i := 35) rfl)) (by decide) (a := a) (argsL := []) (rest := []) (rm4 l Z a0 hw T16.heap n0 Z1 a c Fa) e17 Ea 0 (by decide) (by decide) (by decide) (by decide) (g := (mkF m 41 #[.val (.int i0), .val (.int i1), .val (.int c), .val (.ref a), .val (.ref a)] [(.ref a)])) rfl (by rw [hml]; rfl) (lenOf pd2 rfl) rfl (by show 2 * 0 + _ ≤ _; exact Nat.le_of_eq rfl) (hb hby at_41)
      obtain ⟨rfl, M3, e18⟩ := Q18
      refine Dn.of st18 ?_
      show Dn p e below s (own_Q n0) 16 128 (T18.setTop (mkF m 44 #[.val (.int i0), .val (.int i1), .val (.int c), .val (.ref a), .val (.ref a)] [(.int c)]))
      refine Dn.of (fun tt_ zz_ => XS.iloadN X18.here hx rfl (hb hby at_44) rfl zz_) ?_
      show Dn p e below s (own_Q n0) 16 128 (T18.setTop (mkF m 45 #[.val (.int i0), .val (.int i1), .val (.int c), .val (.ref a), .val (.ref a)] [(.int c), (.int c)]))
      refine Dn.of (fun tt_ zz_ => XS.icmpYes X18.here hx rfl (pc0 := 45) (pc' := 50) rfl (hb hby at_45) rfl (teq rfl).1 (by decide) (by decide) zz_) ?_
      show Dn p e below s (own_Q n0) 16 128 (T18.setTop (mkF m 50 #[.val (.int i0), .val (.int i1), .val (.int c), .val (.ref a), .val (.ref a)] []))
      refine Dn.of (fun tt_ zz_ => XS.iconst X18.here hx rfl (hb hby at_50) zz_) ?_
      show Dn p e below s (own_Q n0) 16 128 (T18.setTop (mkF m 51 #[.val (.int i0), .val (.int i1), .val (.int c), .val (.ref a), .val (.ref a)] [(.int (1 : Int32))]))
      exact Dn.retN X18 hx hlk (t := .boolean) hret (by simp) (hb hby at_51) (by decide) (by decide) (⟨rfl, Fr.app (Fr.app (Fr.app N0 M1) M2) M3⟩)
  refine Dn.of (fun tt_ zz_ => XS.iloadN X0.here hx rfl (hb hby at_0) rfl zz_) ?_
  show Dn p e below s (own_Q n0) 16 128 (s₁.setTop (mkF m 1 #[.val (.int i0), .val (.int i1), .unset, .unset, .unset] [(.int i1)]))
  refine Dn.of (fun tt_ zz_ => XS.iconst X0.here hx rfl (hb hby at_1) zz_) ?_
  show Dn p e below s (own_Q n0) 16 128 (s₁.setTop (mkF m 2 #[.val (.int i0), .val (.int i1), .unset, .unset, .unset] [(.int (1 : Int32)), (.int i1)]))
  refine Dn.of (fun tt_ zz_ => XS.iand X0.here hx rfl (hb hby at_2) rfl zz_) ?_
  show Dn p e below s (own_Q n0) 16 128 (s₁.setTop (mkF m 3 #[.val (.int i0), .val (.int i1), .unset, .unset, .unset] [(.int (i1 &&& (1 : Int32)))]))
  by_cases h1 : (i1 &&& (1 : Int32)) = (0 : Int32)
  · skip
    refine Dn.of (fun tt_ zz_ => XS.ifYes X0.here hx rfl (pc0 := 3) (pc' := 10) rfl (hb hby at_3) rfl ((if0 _ _).trans (teq h1).1) (by decide) (by decide) zz_) ?_
    show Dn p e below s (own_Q n0) 16 128 (s₁.setTop (mkF m 10 #[.val (.int i0), .val (.int i1), .unset, .unset, .unset] []))
    refine Dn.of (fun tt_ zz_ => XS.iloadN X0.here hx rfl (hb hby at_10) rfl zz_) ?_
    show Dn p e below s (own_Q n0) 16 128 (s₁.setTop (mkF m 11 #[.val (.int i0), .val (.int i1), .unset, .unset, .unset] [(.int i0)]))
    refine Dn.of (fun tt_ zz_ => XS.bipush X0.here hx rfl (hb hby at_11) zz_) ?_
    show Dn p e below s (own_Q n0) 16 128 (s₁.setTop (mkF m 13 #[.val (.int i0), .val (.int i1), .unset, .unset, .unset] [(.int (7 : Int32)), (.int i0)]))
    refine Dn.of (fun tt_ zz_ => XS.iand X0.here hx rfl (hb hby at_13) rfl zz_) ?_
    show Dn p e below s (own_Q n0) 16 128 (s₁.setTop (mkF m 14 #[.val (.int i0), .val (.int i1), .unset, .unset, .unset] [(.int (i0 &&& (7 : Int32)))]))
    refine Dn.of (fun tt_ zz_ => XS.iconst X0.here hx rfl (hb hby at_14) zz_) ?_
    show Dn p e below s (own_Q n0) 16 128 (s₁.setTop (mkF m 15 #[.val (.int i0), .val (.int i1), .unset, .unset, .unset] [(.int (1 : Int32)), (.int (i0 &&& (7 : Int32)))]))
    refine Dn.of (fun tt_ zz_ => XS.isub X0.here hx rfl (hb hby at_15) rfl zz_) ?_
    show Dn p e below s (own_Q n0) 16 128 (s₁.setTop (mkF m 16 #[.val (.int i0), .val (.int i1), .unset, .unset, .unset] [(.int ((i0 &&& (7 : Int32)) - (1 : Int32)))]))
    exact K _
  · skip
    refine Dn.of (fun tt_ zz_ => XS.ifNo X0.here hx rfl (hb hby at_3) rfl ((if0 _ _).trans (feq h1).1) zz_) ?_
    show Dn p e below s (own_Q n0) 16 128 (s₁.setTop (mkF m 6 #[.val (.int i0), .val (.int i1), .unset, .unset, .unset] []))
    refine Dn.of (fun tt_ zz_ => XS.iloadN X0.here hx rfl (hb hby at_6) rfl zz_) ?_
    show Dn p e below s (own_Q n0) 16 128 (s₁.setTop (mkF m 7 #[.val (.int i0), .val (.int i1), .unset, .unset, .unset] [(.int i0)]))
    refine Dn.of (fun tt_ zz_ => XS.goto X0.here hx rfl (pc0 := 7) (pc' := 16) rfl (hb hby at_7) (by decide) (by decide) zz_) ?_
    show Dn p e below s (own_Q n0) 16 128 (s₁.setTop (mkF m 16 #[.val (.int i0), .val (.int i1), .unset, .unset, .unset] [(.int i0)]))
    exact K _
set_option maxRecDepth 65536 in
set_option maxHeartbeats 40000000 in
theorem comes_1 {Post : Tables → Env → Array Value → State → Outcome → State → Prop} (hpost : ∀ tb e args s v u, (limb_1_1.after args s (.returned v) u = true ∧ limb_1_2.after args s (.returned v) u = true ∧ True) → FrameEnd s (.returned v) u (Jvm.fieldLocs frame_1_writes args s ++ Jvm.arrayLocs frame_1_arrays args s ++ Jvm.staticLocs frame_1_statics s) 16 128 → Post tb e args s (.returned v) u) :
    ArmFor flags0 classFile x code maxLocals ret World_1 tables_1 room_1 Calls_1 rest_1 Pre_1 Post := by
  intro l hfl _ _ p e ha hc hk s m args below hf hA hF happ hP
  obtain ⟨hcalls, hrest, hpre⟩ := hP
  obtain ⟨-, -, -, hnamed, -, -, -, hat⟩ := (Spec.applies_iff hf).mp happ
  obtain ⟨hg, hn⟩ := and_e (Cond.before_iff.mp (show (Jvm.Cond.and given_1 narrow_1).before args s = true from hpre))
  obtain ⟨hcount, hr⟩ := and_e hg
  obtain ⟨w0, w1, rfl⟩ : ∃ w0 w1 : Value, args = #[w0, w1] := by
    have hs : args.size = 2 := by simpa [Cond.value, given_1] using hcount
    obtain ⟨L⟩ := args
    match L, hs with
    | [w0, w1], _ => exact ⟨w0, w1, rfl⟩
  have hw := fun d (hd : d ∈ tables_1) => atoms_spec (ws := Jvm.Cond.code x code maxLocals ret :: tables_1) hat d (List.mem_cons_of_mem _ hd)
  have hfit : Fit s := fun {y c} hc i hi => by
    obtain ⟨ha, rfl⟩ := Array.getElem?_eq_some_iff.mp hc
    have q := List.all_eq_true.mp ((Array.all_eq_true_iff_forall_mem.mp hF) _ (Array.getElem_mem ha)) i (List.mem_range.mpr hi)
    simpa [Array.getElem?_eq_getElem hi] using q
  obtain ⟨ha0, hr⟩ := and_e hr
  obtain ⟨i0, ei0⟩ := is_v ha0
  obtain rfl : w0 = (.int i0) := Option.some.inj ei0
  have ha1 := hr
  obtain ⟨i1, ei1⟩ := is_v ha1
  obtain rfl : w1 = (.int i1) := Option.some.inj ei1
  obtain ⟨c0, hn⟩ := and_e hn
  obtain ⟨a__VALUES, e__VALUES⟩ := arr_v c0
  have S__VALUES := Sta.start e__VALUES (Or.inr ⟨(hw _ (List.mem_of_getElem? (i := 2) rfl)), (hw _ (List.mem_of_getElem? (i := 8) rfl))⟩)
  obtain ⟨l__VALUES, R__VALUES⟩ := Arr.start e__VALUES c0
  obtain ⟨c1, hn⟩ := and_e hn
  have E__VALUES := Exa.start e__VALUES c1
  obtain ⟨c2, hn⟩ := and_e hn
  have z__VALUES : l__VALUES.slots.size = 5 := (own_len e__VALUES R__VALUES c2).1
  obtain ⟨c3, hn⟩ := and_e hn
  obtain ⟨a_RATIO, e_RATIO⟩ := exa_v c3
  have S_RATIO := Sta.start e_RATIO (Or.inr ⟨(hw _ (List.mem_of_getElem? (i := 2) rfl)), (hw _ (List.mem_of_getElem? (i := 16) rfl))⟩)
  have E_RATIO := Exa.start e_RATIO c3
  obtain ⟨c4, hn⟩ := and_e hn
  have v__VALUES_0 : l__VALUES.slots[0]? = some (.ref a_RATIO) := own_elem e__VALUES R__VALUES e_RATIO c4
  obtain ⟨c5, hn⟩ := and_e hn
  obtain ⟨a_UNITARY, e_UNITARY⟩ := exa_v c5
  have S_UNITARY := Sta.start e_UNITARY (Or.inr ⟨(hw _ (List.mem_of_getElem? (i := 2) rfl)), (hw _ (List.mem_of_getElem? (i := 17) rfl))⟩)
  have E_UNITARY := Exa.start e_UNITARY c5
  obtain ⟨c6, hn⟩ := and_e hn
  have v__VALUES_1 : l__VALUES.slots[1]? = some (.ref a_UNITARY) := own_elem e__VALUES R__VALUES e_UNITARY c6
  obtain ⟨c7, hn⟩ := and_e hn
  obtain ⟨a_PERCENT, e_PERCENT⟩ := exa_v c7
  have S_PERCENT := Sta.start e_PERCENT (Or.inr ⟨(hw _ (List.mem_of_getElem? (i := 2) rfl)), (hw _ (List.mem_of_getElem? (i := 18) rfl))⟩)
  have E_PERCENT := Exa.start e_PERCENT c7
  obtain ⟨c8, hn⟩ := and_e hn
  have v__VALUES_2 : l__VALUES.slots[2]? = some (.ref a_PERCENT) := own_elem e__VALUES R__VALUES e_PERCENT c8
  obtain ⟨c9, hn⟩ := and_e hn
  obtain ⟨a_FRACTION, e_FRACTION⟩ := exa_v c9
  have S_FRACTION := Sta.start e_FRACTION (Or.inr ⟨(hw _ (List.mem_of_getElem? (i := 2) rfl)), (hw _ (List.mem_of_getElem? (i := 19) rfl))⟩)
  have E_FRACTION := Exa.start e_FRACTION c9
  obtain ⟨c10, hn⟩ := and_e hn
  have v__VALUES_3 : l__VALUES.slots[3]? = some (.ref a_FRACTION) := own_elem e__VALUES R__VALUES e_FRACTION c10
  obtain ⟨c11, hn⟩ := and_e hn
  obtain ⟨a_INTEGER_FRACTION, e_INTEGER_FRACTION⟩ := exa_v c11
  have S_INTEGER_FRACTION := Sta.start e_INTEGER_FRACTION (Or.inr ⟨(hw _ (List.mem_of_getElem? (i := 2) rfl)), (hw _ (List.mem_of_getElem? (i := 20) rfl))⟩)
  have E_INTEGER_FRACTION := Exa.start e_INTEGER_FRACTION c11
  obtain ⟨c12, hn⟩ := and_e hn
  have v__VALUES_4 : l__VALUES.slots[4]? = some (.ref a_INTEGER_FRACTION) := own_elem e__VALUES R__VALUES e_INTEGER_FRACTION c12
  obtain ⟨c13, hn⟩ := and_e hn
  have F_RATIO_code := own_fld e_RATIO c13
  obtain ⟨c14, hn⟩ := and_e hn
  have F_UNITARY_code := own_fld e_UNITARY c14
  obtain ⟨c15, hn⟩ := and_e hn
  have F_PERCENT_code := own_fld e_PERCENT c15
  obtain ⟨c16, hn⟩ := and_e hn
  have F_FRACTION_code := own_fld e_FRACTION c16
  have c17 := hn
  have F_INTEGER_FRACTION_code := own_fld e_INTEGER_FRACTION c17
  have FC := FitC.start hfit R__VALUES
  obtain ⟨n, o, h1, h2, h3, _, L, rfl, ⟨rfl, N⟩, hq⟩ := rm0 l s _ hw tables_1 s.heap s.heap.size (Nat.le_refl _) i0 i1 a__VALUES a_RATIO a_UNITARY a_PERCENT a_FRACTION a_INTEGER_FRACTION l__VALUES S__VALUES R__VALUES E__VALUES z__VALUES S_RATIO E_RATIO v__VALUES_0 S_UNITARY E_UNITARY v__VALUES_1 S_PERCENT E_PERCENT v__VALUES_2 S_FRACTION E_FRACTION v__VALUES_3 S_INTEGER_FRACTION E_INTEGER_FRACTION v__VALUES_4 F_RATIO_code F_UNITARY_code F_PERCENT_code F_FRACTION_code F_INTEGER_FRACTION_code FC p e ha hc hk s m _ below hf ((Spec.applies_iff_loose hf).mp happ).1 ⟨rfl, State.Warmed39.refl s, rfl⟩ trivial
  refine ⟨n, _, h1, h2, h3, hpost _ _ _ _ _ _ ⟨Cond.after_iff.mpr rfl, Cond.after_iff.mpr (eq_i res_at (Term.int_eval (1)) rfl), trivial⟩ ⟨hq.1, hq.2.1, (hq.2.2.sift fun y hy => Or.inr (N y hy)).mono (by decide) (by decide)⟩⟩
theorem main_1_1 : Claimed_1_1 := comes_1 fun _ _ _ _ _ _ h hF => ⟨h.1, hF⟩
theorem main_1_2 : Claimed_1_2 := comes_1 fun _ _ _ _ _ _ h hF => ⟨h.2.1, hF⟩
end Jvm.Pilot.@@N@@
namespace Jvm.Pilot.@@N@@
open Jvm Jvm.ClassFile Sem Op Lib Jvm.Free Jvm.Stand Jvm.Pilot.@@N@@.Jvm.D
/-! MADE BY PROGRAM (witnessworld.py) out of the Statement's table words and the real class files: 13 classes; the members and pool entries that the words name. The judged class is class 1, her method 1. -/
namespace start1
open Jvm.ClassFile
def u (s : String) : CpInfo := .utf8 (stringToUtf16 s)
/-- a pool by its gaps: so many unusable entries, then the entry; so many at the end -/
def gap : Nat → List CpInfo → List CpInfo
  | 0, r => r
  | n + 1, r => .unusable :: gap n r
def poolList (es : List (Nat × CpInfo)) (last : Nat) : List CpInfo := es.foldr (fun e r => gap e.1 (e.2 :: r)) (gap last [])
def pool (es : List (Nat × CpInfo)) (last : Nat) : Array CpInfo := ⟨poolList es last⟩
def fileOf (pool : Array CpInfo) (this : Nat) (attrs : Array Attribute := #[]) (ms : Array MethodInfo := #[]) (fl : Nat := 33) (sup : Nat := 0) (ifs : Array Nat := #[]) (fds : Array FieldInfo := #[]) : ClassFile where
  minorVersion := 0
  majorVersion := 65
  constantPool := pool
  accessFlags := fl
  thisClass := this
  superClass := sup
  interfaces := ifs
  fields := fds
  methods := ms
  attributes := attrs
def plain (name : String) (sup : Option ClassId) : Class where
  name := name
  kind := .ordinary
  loader := none
  accessFlags := 33
  super := sup
  interfaces := #[]
  cf := none
  fields := #[]
  methods := #[]
  instanceTypes := #[]
  staticTypes := #[]
  resolved := #[]
  callSites := []
  init := .initialized
  statics := none
  mirror := none

def pool0 : Array CpInfo := pool [(5, u "<init>"), (0, u "()V"), (1, .class_ 10), (1, u "java/lang/Object"), (85, u "clone"), (0, u "()Ljava/lang/Object;")] 26

def k0m0 : Method := { name := "<init>", desc := "()V", sig := { parameters := [], returnType := none }, accessFlags := 1, code := none }
def k0m1 : Method := { name := "clone", desc := "()Ljava/lang/Object;", sig := { parameters := [], returnType := some (.object "java/lang/Object") }, accessFlags := 260, code := none }
/-- java/lang/Object -/
def k0 : Class := { plain "java/lang/Object" none with
  accessFlags := 33
  interfaces := #[]
  cf := some (fileOf pool0 8 #[] #[{ accessFlags := 1, nameIndex := 5, descriptorIndex := 6, attributes := #[] }, { accessFlags := 260, nameIndex := 96, descriptorIndex := 97, attributes := #[] }] 33 0 #[] #[])
  fields := #[]
  methods := #[k0m0, k0m1]
  instanceTypes := #[]
  staticTypes := #[]
  resolved := Array.replicate 124 none
  statics := none }

def pool1 : Array CpInfo := pool [(2, .class_ 4), (1, u "java/lang/Object"), (0, u "<init>"), (0, u "()V"), (0, .methodref 8 9), (0, .class_ 10), (0, .nameAndType 11 12), (0, u "com/example/vellum/vellum/types/ProportionKind"), (0, u "ofCode"), (0, u "(I)Lcom/example/vellum/vellum/types/ProportionKind;"), (0, .methodref 14 15), (0, .class_ 16), (0, .nameAndType 17 12), (0, u "com/example/vellum/vellum/types/ProportionKindOfCodePinLaw"), (0, u "expected"), (0, .methodref 8 19), (0, .nameAndType 20 21), (0, u "code"), (0, u "()I"), (0, .fieldref 8 23), (0, .nameAndType 24 25), (0, u "RATIO"), (0, u "Lcom/example/vellum/vellum/types/ProportionKind;"), (0, .fieldref 8 27), (0, .nameAndType 28 25), (0, u "UNITARY"), (0, .fieldref 8 30), (0, .nameAndType 31 25), (0, u "PERCENT"), (0, .fieldref 8 33), (0, .nameAndType 34 25), (0, u "FRACTION"), (0, .fieldref 8 36), (0, .nameAndType 37 25), (0, u "INTEGER_FRACTION"), (2, u "law"), (0, u "(II)Z")] 3

def k1m0 : Method := { name := "<init>", desc := "()V", sig := { parameters := [], returnType := none }, accessFlags := 1, code := none }
def k1c1 : Code := { maxStack := 2, maxLocals := 5, code := code, exceptionTable := #[], attributes := #[] }
def k1m1 : Method := { name := "law", desc := "(II)Z", sig := { parameters := [.int, .int], returnType := some .boolean }, accessFlags := 9, code := some k1c1 }
def k1c2 : Code := { maxStack := 2, maxLocals := 1, code := method_3_code, exceptionTable := #[], attributes := #[] }
def k1m2 : Method := { name := "expected", desc := "(I)Lcom/example/vellum/vellum/types/ProportionKind;", sig := { parameters := [.int], returnType := some (.object "com/example/vellum/vellum/types/ProportionKind") }, accessFlags := 10, code := some k1c2 }
/-- com/example/vellum/vellum/types/ProportionKindOfCodePinLaw -/
def k1 : Class := { plain "com/example/vellum/vellum/types/ProportionKindOfCodePinLaw" (some 0) with
  accessFlags := 49
  interfaces := #[]
  cf := some (fileOf pool1 14 #[] #[{ accessFlags := 1, nameIndex := 5, descriptorIndex := 6, attributes := #[] }, { accessFlags := 9, nameIndex := 40, descriptorIndex := 41, attributes := #[] }, { accessFlags := 10, nameIndex := 17, descriptorIndex := 12, attributes := #[] }] 49 2 #[] #[])
  fields := #[]
  methods := #[k1m0, k1m1, k1m2]
  instanceTypes := #[]
  staticTypes := #[]
  resolved := Array.replicate 45 none
  statics := none }

def pool2 : Array CpInfo := pool [(1, .class_ 2), (0, u "java/lang/constant/Constable"), (0, .class_ 4), (0, u "java/lang/Object")] 6

/-- java/lang/constant/Constable -/
def k2 : Class := { plain "java/lang/constant/Constable" (some 0) with
  accessFlags := 1537
  interfaces := #[]
  cf := some (fileOf pool2 1 #[] #[] 1537 3 #[] #[])
  fields := #[]
  methods := #[]
  instanceTypes := #[]
  staticTypes := #[]
  resolved := Array.replicate 11 none
  statics := none }

def pool3 : Array CpInfo := pool [(1, .class_ 2), (0, u "java/lang/Comparable"), (0, .class_ 4), (0, u "java/lang/Object")] 7

/-- java/lang/Comparable -/
def k3 : Class := { plain "java/lang/Comparable" (some 0) with
  accessFlags := 1537
  interfaces := #[]
  cf := some (fileOf pool3 1 #[] #[] 1537 3 #[] #[])
  fields := #[]
  methods := #[]
  instanceTypes := #[]
  staticTypes := #[]
  resolved := Array.replicate 12 none
  statics := none }

def pool4 : Array CpInfo := pool [(1, .class_ 2), (0, u "java/io/Serializable"), (0, .class_ 4), (0, u "java/lang/Object")] 2

/-- java/io/Serializable -/
def k4 : Class := { plain "java/io/Serializable" (some 0) with
  accessFlags := 1537
  interfaces := #[]
  cf := some (fileOf pool4 1 #[] #[] 1537 3 #[] #[])
  fields := #[]
  methods := #[]
  instanceTypes := #[]
  staticTypes := #[]
  resolved := Array.replicate 7 none
  statics := none }

def pool5 : Array CpInfo := pool [(2, .class_ 4), (1, u "java/lang/Enum"), (0, u "name"), (0, u "Ljava/lang/String;"), (2, u "ordinal"), (0, u "I"), (1, .class_ 14), (1, u "java/lang/Object"), (4, u "hash"), (86, .class_ 108), (1, u "java/lang/Enum$EnumDesc"), (2, .class_ 112), (0, u "java/lang/constant/Constable"), (0, .class_ 114), (0, u "java/lang/Comparable"), (0, .class_ 116), (0, u "java/io/Serializable")] 87

/-- java/lang/Enum -/
def k5 : Class := { plain "java/lang/Enum" (some 0) with
  accessFlags := 1057
  interfaces := #[2, 3, 4]
  cf := some (fileOf pool5 2 #[.nestMembers #[106]] #[] 1057 12 #[111, 113, 115] #[{ accessFlags := 18, nameIndex := 5, descriptorIndex := 6, attributes := #[] }, { accessFlags := 18, nameIndex := 9, descriptorIndex := 10, attributes := #[] }, { accessFlags := 2, nameIndex := 19, descriptorIndex := 10, attributes := #[] }])
  fields := #[{ name := "name", type := (.object "java/lang/String"), accessFlags := 18, slot := 0, constantValue := 0 }, { name := "ordinal", type := .int, accessFlags := 18, slot := 1, constantValue := 0 }, { name := "hash", type := .int, accessFlags := 2, slot := 2, constantValue := 0 }]
  methods := #[]
  instanceTypes := #[(.object "java/lang/String"), .int, .int]
  staticTypes := #[]
  resolved := Array.replicate 204 none
  statics := none }

def pool6 : Array CpInfo := pool [(1, .class_ 2), (0, u "com/example/vellum/vellum/types/ProportionKind"), (2, u "RATIO"), (0, u "Lcom/example/vellum/vellum/types/ProportionKind;"), (2, u "UNITARY"), (2, u "PERCENT"), (2, u "FRACTION"), (2, u "INTEGER_FRACTION"), (0, .fieldref 1 20), (0, .nameAndType 21 22), (0, u "$VALUES"), (0, u "[Lcom/example/vellum/vellum/types/ProportionKind;"), (0, .methodref 24 25), (0, .class_ 22), (0, .nameAndType 26 27), (0, u "clone"), (0, u "()Ljava/lang/Object;"), (1, .class_ 31), (1, u "java/lang/Enum"), (6, .fieldref 1 39), (0, .nameAndType 40 41), (0, u "code"), (0, u "I"), (0, .methodref 1 43), (0, .nameAndType 44 45), (0, u "values"), (0, u "()[Lcom/example/vellum/vellum/types/ProportionKind;"), (17, u "()I"), (0, u "ofCode"), (0, u "(I)Lcom/example/vellum/vellum/types/ProportionKind;")] 6

def k6c0 : Code := { maxStack := 1, maxLocals := 0, code := prog_78_method_1_code, exceptionTable := #[], attributes := #[] }
def k6m0 : Method := { name := "values", desc := "()[Lcom/example/vellum/vellum/types/ProportionKind;", sig := { parameters := [], returnType := some (.array (.object "com/example/vellum/vellum/types/ProportionKind")) }, accessFlags := 9, code := some k6c0 }
def k6c1 : Code := { maxStack := 1, maxLocals := 1, code := prog_78_method_4_code, exceptionTable := #[], attributes := #[] }
def k6m1 : Method := { name := "code", desc := "()I", sig := { parameters := [], returnType := some .int }, accessFlags := 1, code := some k6c1 }
def k6c2 : Code := { maxStack := 2, maxLocals := 5, code := prog_78_method_5_code, exceptionTable := #[], attributes := #[] }
def k6m2 : Method := { name := "ofCode", desc := "(I)Lcom/example/vellum/vellum/types/ProportionKind;", sig := { parameters := [.int], returnType := some (.object "com/example/vellum/vellum/types/ProportionKind") }, accessFlags := 9, code := some k6c2 }
/-- com/example/vellum/vellum/types/ProportionKind -/
def k6 : Class := { plain "com/example/vellum/vellum/types/ProportionKind" (some 5) with
  accessFlags := 16433
  interfaces := #[]
  cf := some (fileOf pool6 1 #[] #[{ accessFlags := 9, nameIndex := 44, descriptorIndex := 45, attributes := #[] }, { accessFlags := 1, nameIndex := 40, descriptorIndex := 63, attributes := #[] }, { accessFlags := 9, nameIndex := 64, descriptorIndex := 65, attributes := #[] }] 16433 29 #[] #[{ accessFlags := 16409, nameIndex := 5, descriptorIndex := 6, attributes := #[] }, { accessFlags := 16409, nameIndex := 9, descriptorIndex := 6, attributes := #[] }, { accessFlags := 16409, nameIndex := 12, descriptorIndex := 6, attributes := #[] }, { accessFlags := 16409, nameIndex := 15, descriptorIndex := 6, attributes := #[] }, { accessFlags := 16409, nameIndex := 18, descriptorIndex := 6, attributes := #[] }, { accessFlags := 18, nameIndex := 40, descriptorIndex := 41, attributes := #[] }, { accessFlags := 4122, nameIndex := 21, descriptorIndex := 22, attributes := #[] }])
  fields := #[{ name := "RATIO", type := (.object "com/example/vellum/vellum/types/ProportionKind"), accessFlags := 16409, slot := 0, constantValue := 0 }, { name := "UNITARY", type := (.object "com/example/vellum/vellum/types/ProportionKind"), accessFlags := 16409, slot := 1, constantValue := 0 }, { name := "PERCENT", type := (.object "com/example/vellum/vellum/types/ProportionKind"), accessFlags := 16409, slot := 2, constantValue := 0 }, { name := "FRACTION", type := (.object "com/example/vellum/vellum/types/ProportionKind"), accessFlags := 16409, slot := 3, constantValue := 0 }, { name := "INTEGER_FRACTION", type := (.object "com/example/vellum/vellum/types/ProportionKind"), accessFlags := 16409, slot := 4, constantValue := 0 }, { name := "code", type := .int, accessFlags := 18, slot := 3, constantValue := 0 }, { name := "$VALUES", type := (.array (.object "com/example/vellum/vellum/types/ProportionKind")), accessFlags := 4122, slot := 5, constantValue := 0 }]
  methods := #[k6m0, k6m1, k6m2]
  instanceTypes := #[(.object "java/lang/String"), .int, .int, .int]
  staticTypes := #[(.object "com/example/vellum/vellum/types/ProportionKind"), (.object "com/example/vellum/vellum/types/ProportionKind"), (.object "com/example/vellum/vellum/types/ProportionKind"), (.object "com/example/vellum/vellum/types/ProportionKind"), (.object "com/example/vellum/vellum/types/ProportionKind"), (.array (.object "com/example/vellum/vellum/types/ProportionKind"))]
  resolved := Array.replicate 72 none
  statics := some 0 }

def pool7 : Array CpInfo := pool [(1, .class_ 2), (0, u "java/lang/Cloneable"), (0, .class_ 4), (0, u "java/lang/Object")] 2

/-- java/lang/Cloneable -/
def k7 : Class := { plain "java/lang/Cloneable" (some 0) with
  accessFlags := 1537
  interfaces := #[]
  cf := some (fileOf pool7 1 #[] #[] 1537 3 #[] #[])
  fields := #[]
  methods := #[]
  instanceTypes := #[]
  staticTypes := #[]
  resolved := Array.replicate 7 none
  statics := none }

/-- the primitive byte -/
def k8 : Class := { plain "byte" none with kind := .primitive 'B', accessFlags := 0x411 }
/-- [B -/
def k9 : Class := { plain "[B" (some 0) with kind := .array 8 .byte, interfaces := #[7, 4], accessFlags := 1041 }

/-- the primitive int -/
def k10 : Class := { plain "int" none with kind := .primitive 'I', accessFlags := 0x411 }
/-- [I -/
def k11 : Class := { plain "[I" (some 0) with kind := .array 10 .int, interfaces := #[7, 4], accessFlags := 1041 }

/-- [Lcom/example/vellum/vellum/types/ProportionKind; -/
def k12 : Class := { plain "[Lcom/example/vellum/vellum/types/ProportionKind;" (some 0) with kind := .array 6 (.object "com/example/vellum/vellum/types/ProportionKind"), interfaces := #[7, 4], accessFlags := 1041 }

def heap : Heap := #[{ cls := 6, slots := #[.ref 2, .ref 3, .ref 4, .ref 5, .ref 6, .ref 1], vm := .statics 6 },
  { cls := 12, slots := #[.ref 2, .ref 3, .ref 4, .ref 5, .ref 6], vm := .none },
  { cls := 6, slots := #[.null, .int 0, .int 0, .int 0], vm := .none },
  { cls := 6, slots := #[.null, .int 1, .int 0, .int 1], vm := .none },
  { cls := 6, slots := #[.null, .int 2, .int 0, .int 2], vm := .none },
  { cls := 6, slots := #[.null, .int 3, .int 0, .int 3], vm := .none },
  { cls := 6, slots := #[.null, .int 4, .int 0, .int 4], vm := .none }]
def classes : Array Class := #[k0, k1, k2, k3, k4, k5, k6, k7, k8, k9, k10, k11, k12]
def interned : List (Array UInt16 × Addr) := []
def slotsUsed : Nat := 31
def theMethod : MethodId := ⟨1, 1⟩
def args0 : Array Value := #[.int 5, .int 300]
def aboutOver (below : List Frame) : State where
  vm := { classes := classes, interned := interned.toArray }
  heap := heap
  slotsUsed := slotsUsed
  threads := #[{ frames := .invoking theMethod args0 :: below }]
def below0 : List Frame := [.native { method := ⟨0, 0⟩, args := #[] }]
def about1 : State := aboutOver below0
def p0 : Program := .bare "" "" ""
def e0 : Env := launch0.env 0 0 0
theorem w_frames : about1.frames = Frame.invoking theMethod args0 :: below0 := rfl
set_option maxRecDepth 65536 in
theorem w_args : argsFit about1.vm theMethod args0 = true := by decide +kernel
set_option maxRecDepth 65536 in
theorem w_heap : heapFits about1 = true := by decide +kernel
set_option maxRecDepth 65536 in
theorem w_runnable : about1.curStatus? = some .runnable := by decide +kernel
set_option maxRecDepth 65536 in
theorem w_alone : about1.alone = true := by decide +kernel
set_option maxRecDepth 65536 in
theorem w_named : about1.methodNamed? x = some theMethod := by decide +kernel
set_option maxRecDepth 65536 in
theorem w_hears : about1.hears theMethod below0 = true := by decide +kernel
set_option maxRecDepth 65536 in
theorem w_ripe : about1.ripe theMethod args0 below0 = true := by decide +kernel
theorem w_running : about1.status = .running := rfl
set_option maxRecDepth 65536 in
theorem w_room : about1.hasRoom e0.platform room_1 = true :=
  launch0.hasRoom_least _ room_1 (by decide +kernel) (by decide +kernel) (by decide +kernel) (by decide +kernel) (by decide +kernel) (by decide +kernel)
theorem allAtoms_all (ts : List Jvm.Cond) (a : Array Jvm.Value) (st : Jvm.State) : (allAtoms ts).before a st = ts.all (fun c => c.before a st) := by
  induction ts with
  | nil => rfl
  | cons c t ih =>
    show (Jvm.Cond.and c (allAtoms t)).before a st = _
    rw [Jvm.Cond.before_and, ih, List.all_cons]
def words1 : List Jvm.Cond := Jvm.Cond.code x code maxLocals ret :: tables_1
/-- a 'code' word, met by the world's own term for the bytes: nothing is compared byte by byte -/
theorem code_word {y : MethodName} {bytes : ByteArray} {mx : Nat} {rt : Option FieldType} {a : Array Value} {s : State} {m : MethodId} {meth : Method} {c : Code} (h1 : s.methodNamed? y = some m) (h2 : s.vm.method? m = some meth) (h3 : meth.code = some c) (h4 : c.code = bytes)
    (h5 : (c.maxLocals == mx && c.exceptionTable.isEmpty && decide (c.maxStack ≤ mostOperands) && decide (meth.sig.returnType = rt) && !meth.locks && decide (parseMethodDescriptor y.desc = some meth.sig)) = true) : (Jvm.Cond.code y bytes mx rt).before a s = true := by
  simp only [Bool.and_eq_true, beq_iff_eq, Bool.not_eq_true', decide_eq_true_eq] at h5
  obtain ⟨⟨⟨⟨⟨g1, g2⟩, g3⟩, g4⟩, g5⟩, g6⟩ := h5
  simp [Cond.before, Cond.holds, Cond.value, h1, h2, h3, h4, g1, g2, g3, g4, g5, g6]
def isCode : Jvm.Cond → Bool
  | .code _ _ _ _ => true
  | _ => false
theorem all_split {L : List Jvm.Cond} {P : Jvm.Cond → Bool} (h1 : L.all (fun c => isCode c || P c) = true) (h2 : ∀ c ∈ L.filter isCode, P c = true) : L.all P = true := by
  refine List.all_eq_true.mpr fun c hc => ?_
  have h := List.all_eq_true.mp h1 c hc
  rcases Bool.eq_false_or_eq_true (isCode c) with hi | hi
  · exact h2 c (List.mem_filter.mpr ⟨hc, hi⟩)
  · simpa [hi] using h
set_option maxRecDepth 65536 in
theorem w_c0 : (Jvm.Cond.code x code maxLocals ret).before args0 about1 = true := code_word (m := ⟨1, 1⟩) (meth := k1m1) (c := k1c1) (by decide +kernel) rfl rfl rfl (by decide +kernel)
set_option maxRecDepth 65536 in
theorem w_c1 : (Jvm.Cond.code ({ cls := "com/example/vellum/vellum/types/ProportionKind", name := "ofCode", desc := "(I)Lcom/example/vellum/vellum/types/ProportionKind;" } : Jvm.MethodName) prog_78_method_5_code (5 : Nat) (Option.some (Jvm.ClassFile.FieldType.object "com/example/vellum/vellum/types/ProportionKind"))).before args0 about1 = true := code_word (m := ⟨6, 2⟩) (meth := k6m2) (c := k6c2) (by decide +kernel) rfl rfl rfl (by decide +kernel)
set_option maxRecDepth 65536 in
theorem w_c2 : (Jvm.Cond.code ({ cls := "com/example/vellum/vellum/types/ProportionKind", name := "values", desc := "()[Lcom/example/vellum/vellum/types/ProportionKind;" } : Jvm.MethodName) prog_78_method_1_code (0 : Nat) (Option.some (Jvm.ClassFile.FieldType.array (Jvm.ClassFile.FieldType.object "com/example/vellum/vellum/types/ProportionKind")))).before args0 about1 = true := code_word (m := ⟨6, 0⟩) (meth := k6m0) (c := k6c0) (by decide +kernel) rfl rfl rfl (by decide +kernel)
set_option maxRecDepth 65536 in
theorem w_c3 : (Jvm.Cond.code ({ cls := "com/example/vellum/vellum/types/ProportionKindOfCodePinLaw", name := "expected", desc := "(I)Lcom/example/vellum/vellum/types/ProportionKind;" } : Jvm.MethodName) method_3_code (1 : Nat) (Option.some (Jvm.ClassFile.FieldType.object "com/example/vellum/vellum/types/ProportionKind"))).before args0 about1 = true := code_word (m := ⟨1, 2⟩) (meth := k1m2) (c := k1c2) (by decide +kernel) rfl rfl rfl (by decide +kernel)
set_option maxRecDepth 65536 in
theorem w_c4 : (Jvm.Cond.code ({ cls := "com/example/vellum/vellum/types/ProportionKind", name := "code", desc := "()I" } : Jvm.MethodName) prog_78_method_4_code (1 : Nat) (Option.some Jvm.ClassFile.FieldType.int)).before args0 about1 = true := code_word (m := ⟨6, 1⟩) (meth := k6m1) (c := k6c1) (by decide +kernel) rfl rfl rfl (by decide +kernel)
def codes1 : List Jvm.Cond := [Jvm.Cond.code x code maxLocals ret, Jvm.Cond.code ({ cls := "com/example/vellum/vellum/types/ProportionKind", name := "ofCode", desc := "(I)Lcom/example/vellum/vellum/types/ProportionKind;" } : Jvm.MethodName) prog_78_method_5_code (5 : Nat) (Option.some (Jvm.ClassFile.FieldType.object "com/example/vellum/vellum/types/ProportionKind")), Jvm.Cond.code ({ cls := "com/example/vellum/vellum/types/ProportionKind", name := "values", desc := "()[Lcom/example/vellum/vellum/types/ProportionKind;" } : Jvm.MethodName) prog_78_method_1_code (0 : Nat) (Option.some (Jvm.ClassFile.FieldType.array (Jvm.ClassFile.FieldType.object "com/example/vellum/vellum/types/ProportionKind"))), Jvm.Cond.code ({ cls := "com/example/vellum/vellum/types/ProportionKindOfCodePinLaw", name := "expected", desc := "(I)Lcom/example/vellum/vellum/types/ProportionKind;" } : Jvm.MethodName) method_3_code (1 : Nat) (Option.some (Jvm.ClassFile.FieldType.object "com/example/vellum/vellum/types/ProportionKind")), Jvm.Cond.code ({ cls := "com/example/vellum/vellum/types/ProportionKind", name := "code", desc := "()I" } : Jvm.MethodName) prog_78_method_4_code (1 : Nat) (Option.some Jvm.ClassFile.FieldType.int)]
set_option maxRecDepth 65536 in
theorem codes_eq : words1.filter isCode = codes1 := rfl
theorem w_codes : ∀ c ∈ words1.filter isCode, c.before args0 about1 = true := by
  rw [codes_eq]
  intro c hc
  simp only [codes1, List.mem_cons, List.not_mem_nil, or_false] at hc
  rcases hc with rfl | rfl | rfl | rfl | rfl
  · exact w_c0
  · exact w_c1
  · exact w_c2
  · exact w_c3
  · exact w_c4
set_option maxRecDepth 65536 in
theorem w_t1 : (words1.take 24).all (fun c => isCode c || c.before args0 about1) = true := by decide +kernel
set_option maxRecDepth 65536 in
theorem w_t2 : (words1.drop 24).all (fun c => isCode c || c.before args0 about1) = true := by decide +kernel
theorem w_tables : (allAtoms (Jvm.Cond.code x code maxLocals ret :: tables_1)).before args0 about1 = true := by
  rw [allAtoms_all]
  show words1.all (fun c => c.before args0 about1) = true
  refine all_split ?_ w_codes
  rw [← List.take_append_drop 24 words1, List.all_append, w_t1, w_t2]
  rfl
set_option maxRecDepth 65536 in
theorem w_case : (Jvm.Cond.and given_1 narrow_1).before args0 about1 = true := by decide +kernel
theorem w_applies : (headSpec (Jvm.Cond.code x code maxLocals ret :: tables_1) room_1).applies x e0.platform about1 = true :=
  (Spec.applies_iff w_frames).mpr ⟨w_running, w_runnable, w_alone, w_named, w_hears, w_ripe, w_room, w_tables⟩
theorem atStart : AtStart classFile x code maxLocals ret World_1 tables_1 room_1 Calls_1 rest_1 Pre_1 launch0 p0 e0 about1 theMethod args0 below0 :=
  ⟨lists_1, trivial, launch0.admits_env _ _ _, launch0.least_env, fairChoices_fair.cas, fairChoices_fair.clock, w_frames, w_args, w_heap, w_applies, trivial, trivial, w_case⟩
end start1
theorem witness_1 : WitnessClaimed_1 := ⟨start1.p0, start1.e0, start1.about1, start1.theMethod, start1.args0, start1.below0, start1.atStart⟩
end Jvm.Pilot.@@N@@
