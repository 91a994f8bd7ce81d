import JvmDerived
import JvmDerived.Pilot.@@N@@Statement
import JvmDerived.Pilot.@@N@@Code
set_option linter.unusedVariables false
set_option linter.unusedSimpArgs false
namespace Jvm.RoadKit
open Sem ClassFile Op Lib Jvm.Stand Jvm.Free Jvm.LawKit
section Own
variable {p : Program} {l : Launch} {e : Env} {R : Room} {s : State} {m : MethodId} {args : Array Value} {below : List Frame} {meth : Method} {c : Code} {T : State} {locs : List Loc} {cells slots : Nat}
/-- from the state S the run comes to the end of this invocation, and Q says what it returned and left -/
def Dn (p : Program) (e : Env) (below : List Frame) (s : State) (Q : Option Value → Heap → List Loc → Prop) (k n : Nat) (S : State) : Prop :=
  ∃ U o, Steps p.tables e below S U ∧ U.status = .running ∧ Ended U below o ∧ ∃ v L, o = .returned v ∧ Q v U.heap L ∧ FrameEnd s o U L k n
variable {Q Q' : Option Value → Heap → List Loc → Prop} {k n : Nat} {S S' : State} {Z : State} {a0 : Array Value} {h : Heap}
theorem Dn.of (w : ∀ t, Steps p.tables e below S' t → Steps p.tables e below S t) (d : Dn p e below s Q k n S') : Dn p e below s Q k n S := by
  obtain ⟨U, o, st, r⟩ := d
  exact ⟨U, o, w U st, r⟩
theorem Dn.cast {g g' : JFrame} (q : g = g') (d : Dn p e below s Q k n (T.setTop g')) : Dn p e below s Q k n (T.setTop g) := q ▸ d
theorem Dn.ret (X : Stand p l e R s m args below meth c T locs cells slots) (hx : p.tables.exec = Jvm.exec) (hlk : meth.locks = false) {pc : Nat} {Ls : Array Slot} {w : Value} {t : FieldType} {i : Instr} {rest : List Value} (hret : meth.sig.returnType = some t) (hn : narrow t w = w)
    (hi : (i = .ireturn ∧ (t = .int ∨ t = .boolean ∨ t = .byte ∨ t = .char ∨ t = .short) ∧ ∃ z, w = .int z) ∨ (i = .lreturn ∧ t = .long ∧ ∃ z, w = .long z) ∨ (i = .dreturn ∧ t = .double ∧ ∃ z, w = .double z) ∨ (i = .freturn ∧ t = .float ∧ ∃ z, w = .float z) ∨ (i = .areturn ∧ t.isReference = true ∧ w.isRef = true))
    (hd : decode c.code pc = .ok (i, 1)) (hk : cells ≤ k) (hs : slots ≤ n) (hQ : Q (some w) T.heap locs) : Dn p e below s Q k n (T.setTop (mkF m pc Ls (w :: rest))) := by
  obtain ⟨fs, hr, hrun, hended, hW, hsame⟩ := X.leave (v := some w) (fun q => by rw [hret] at q; cases q) hlk
  exact ⟨_, _, retOut X hx hret hn hi hd hr, hrun, hended, _, _, rfl, hQ, ⟨_, rfl⟩, hW, hsame.mono hk hs⟩
theorem Dn.retI (X : Stand p l e R s m args below meth c T locs cells slots) (hx : p.tables.exec = Jvm.exec) (hlk : meth.locks = false) {pc : Nat} {Ls : Array Slot} {z : Int32} {rest : List Value} (hret : meth.sig.returnType = some .int)
    (hd : decode c.code pc = .ok (.ireturn, 1)) (hk : cells ≤ k) (hs : slots ≤ n) (hQ : Q (some (.int z)) T.heap locs) : Dn p e below s Q k n (T.setTop (mkF m pc Ls (.int z :: rest))) :=
  Dn.ret X hx hlk hret rfl (Or.inl ⟨rfl, Or.inl rfl, z, rfl⟩) hd hk hs hQ
theorem Dn.retA (X : Stand p l e R s m args below meth c T locs cells slots) (hx : p.tables.exec = Jvm.exec) (hlk : meth.locks = false) {pc : Nat} {Ls : Array Slot} {w : Value} {t : FieldType} {rest : List Value} (hret : meth.sig.returnType = some t) (ht : t.isReference = true) (hw : w.isRef = true)
    (hd : decode c.code pc = .ok (.areturn, 1)) (hk : cells ≤ k) (hs : slots ≤ n) (hQ : Q (some w) T.heap locs) : Dn p e below s Q k n (T.setTop (mkF m pc Ls (w :: rest))) :=
  Dn.ret X hx hlk hret (by cases t <;> simp [FieldType.isReference] at ht <;> rcases ref_cases hw with rfl | ⟨a, rfl⟩ <;> rfl) (Or.inr (Or.inr (Or.inr (Or.inr ⟨rfl, ht, hw⟩)))) hd hk hs hQ
theorem Dn.retN (X : Stand p l e R s m args below meth c T locs cells slots) (hx : p.tables.exec = Jvm.exec) (hlk : meth.locks = false) {pc : Nat} {Ls : Array Slot} {z : Int32} {t : FieldType} {rest : List Value} (hret : meth.sig.returnType = some t) (ht : t = .boolean ∨ t = .byte ∨ t = .char ∨ t = .short)
    (hd : decode c.code pc = .ok (.ireturn, 1)) (hk : cells ≤ k) (hs : slots ≤ n) (hQ : Q (some (.int (nar t z))) T.heap locs) : Dn p e below s Q k n (T.setTop (mkF m pc Ls (.int z :: rest))) := by
  obtain ⟨fs, hr, hrun, hended, hW, hsame⟩ := X.leave (v := some (.int (nar t z))) (fun q => by rw [hret] at q; cases q) hlk
  exact ⟨_, _, Jvm.RoadKit.retN X hx hret ht hd hr, hrun, hended, _, _, rfl, hQ, ⟨_, rfl⟩, hW, hsame.mono hk hs⟩
theorem Dn.retV (X : Stand p l e R s m args below meth c T locs cells slots) (hx : p.tables.exec = Jvm.exec) (hlk : meth.locks = false) {pc : Nat} {Ls : Array Slot} (hret : meth.sig.returnType = none)
    (hd : decode c.code pc = .ok (.return_, 1)) (hk : cells ≤ k) (hs : slots ≤ n) (hQ : Q none T.heap locs) : Dn p e below s Q k n (T.setTop (mkF m pc Ls [])) := by
  obtain ⟨fs, hr, hrun, hended, hW, hsame⟩ := X.leave (v := none) (fun _ => rfl) hlk
  exact ⟨_, _, X.returnOut hx hret hd hr, hrun, hended, _, _, rfl, hQ, ⟨_, rfl⟩, hW, hsame.mono hk hs⟩
/-- a body's contract: entered with the arguments as' at the heap h, it returns, and Q says what and what it left -/
abbrev ctr (l : Launch) (Z : State) (y : MethodName) (bytes : ByteArray) (maxL : Nat) (ret : Option FieldType) (ws : List Jvm.Cond) (rm : Room) (k n : Nat) (as' : Array Value) (h : Heap) (Q : Option Value → Heap → List Loc → Prop) : Prop :=
  MetFree l y (head1 (Jvm.Cond.code y bytes maxL ret :: ws) rm) (fun a U => a = as' ∧ Z.Warmed39 U.vm ∧ U.heap = h) (fun _ _ _ _ _ => True) (fun _ U o U' => ∃ v L, o = .returned v ∧ Q v U'.heap L ∧ FrameEnd U o U' L k n)
theorem ctr_of {y : MethodName} {bytes : ByteArray} {maxL : Nat} {ret : Option FieldType} {ws : List Jvm.Cond} {rm : Room} {as' : Array Value} (pn : plainFor y = true)
    (body : ∀ (p : Program) (e : Env) (s : State) (m : MethodId) (below : List Frame) (meth : Method) (c : Code) (s₁ : State), p.tables.exec = Jvm.exec → c.code = bytes → c.maxLocals = maxL → meth.sig.returnType = ret → meth.locks = false → meth.name = y.name → s.vm.findClass y.cls = some m.cls →
      Z.Warmed39 s.vm → s₁.heap = h → Stand p l e rm s m as' below meth c s₁ [] 0 0 → Dn p e below s Q k n (s₁.setTop (entryFrame m as' maxL))) : ctr l Z y bytes maxL ret ws rm k n as' h Q := by
  refine MetFree.of_bodySF pn hisR ?_
  intro p e s m args below meth c s₁ Bd hml0 hP hK
  obtain ⟨rfl, hZ, hh⟩ := hP
  exact body p e s m below meth c s₁ Bd.exec Bd.bytes hml0 Bd.returns Bd.notSynchronized (name_of_methodNamed Bd.named Bd.method).1 (findClass_of_methodNamed Bd.named) hZ (by rw [← hh, Bd.state]; rfl) (Stand.of_body Bd)
theorem cSt (X : Stand p l e R s m args below meth c T locs cells slots) (hx : p.tables.exec = Jvm.exec) (hZ : Z.Warmed39 s.vm) {own : String} {index : Nat} {y : MethodName} {bytes : ByteArray} {maxL : Nat} {ret : Option FieldType} (hown : s.vm.findClass own = some m.cls)
    (w1 : (Jvm.Cond.methodLink own index y).before a0 Z = true) (w2 : (Jvm.Cond.static y).before a0 Z = true) (w3 : (Jvm.Cond.initialized y.cls).before a0 Z = true) (w4 : (Jvm.Cond.code y bytes maxL ret).before a0 Z = true) (hy : y.cls ≠ "java/lang/invoke/MethodHandle" ∧ y.cls ≠ "java/lang/invoke/VarHandle")
    {rm : Room} {argsL rest : List Value} (hM : ctr l Z y bytes maxL ret [] rm rm.cells rm.slots argsL.toArray h Q) (eT : T.heap = h) (W : Nat) (hf : rm.frames + 1 ≤ R.frames) (hl : W + (maxL + 11) + rm.locals ≤ R.locals) (hc : cells + rm.cells ≤ R.cells) (hs : slots + rm.slots ≤ R.slots)
    {g : JFrame} (hg : g.method = m) (hsize : g.locals.size = c.maxLocals) (hlen : ∀ sig, parseMethodDescriptor y.desc = some sig → argsL.length = sig.parameters.length) (hstack : g.stack = argsL.reverse ++ rest) (hW : 2 * g.monitorRoom + (rest.map fun v => v.category).sum ≤ W) (hdg : decode c.code g.pc = .ok (.invokestatic index, 3)) :
    ∃ (v : Option Value) (T' : State) (L : List Loc), Q v T'.heap L ∧ Stand p l e R s m args below meth c T' (locs ++ L) (cells + rm.cells) (slots + rm.slots) ∧ ∀ target, Steps p.tables e below (T'.setTop { g with pc := g.pc + 3, stack := v.toList ++ rest }) target → Steps p.tables e below (T.setTop g) target := by
  obtain ⟨v, _, ⟨T', L', k', n'⟩, -, X', ⟨L, hQ, e1, e2, e3⟩, st⟩ := Jvm.LawKit.callS X hx (y := y) hown (mvT hZ w1) (mvT hZ w2) (mvT hZ w3) (mvT hZ w4) hy (backOf (W := W) hM hZ w4 w3 hf hl) hg hsize hlen hstack hW hdg (fun _ _ => ⟨rfl, eT, hc, hs⟩)
  dsimp only [Pt.U, Pt.locs, Pt.cells, Pt.slots] at X' e1 e2 e3 st hQ
  subst e1 e2 e3
  exact ⟨v, T', L, hQ, X', st⟩
theorem cIn (X : Stand p l e R s m args below meth c T locs cells slots) (hx : p.tables.exec = Jvm.exec) (hZ : Z.Warmed39 s.vm) {own : String} {index : Nat} {y : MethodName} {bytes : ByteArray} {maxL : Nat} (hy1 : y.name = "<init>") (hown : s.vm.findClass own = some m.cls)
    (w1 : (Jvm.Cond.methodLink own index y).before a0 Z = true) (w2 : (Jvm.Cond.instanceMethod y).before a0 Z = true) (w3 : (Jvm.Cond.initialized y.cls).before a0 Z = true) (w4 : (Jvm.Cond.code y bytes maxL none).before a0 Z = true) (hy : y.cls ≠ "java/lang/invoke/MethodHandle" ∧ y.cls ≠ "java/lang/invoke/VarHandle")
    {rm : Room} {a : Addr} {argsL rest : List Value} (hM : ctr l Z y bytes maxL none [] rm rm.cells rm.slots (.ref a :: argsL).toArray h Q) (eT : T.heap = h) (W : Nat) (hf : rm.frames + 1 ≤ R.frames) (hl : W + (maxL + 11) + rm.locals ≤ R.locals) (hc : cells + rm.cells ≤ R.cells) (hs : slots + rm.slots ≤ R.slots)
    {g : JFrame} (hg : g.method = m) (hsize : g.locals.size = c.maxLocals) (hlen : ∀ sig, parseMethodDescriptor y.desc = some sig → argsL.length = sig.parameters.length) (hstack : g.stack = argsL.reverse ++ .ref a :: rest) (hW : 2 * g.monitorRoom + (rest.map fun v => v.category).sum ≤ W) (hdg : decode c.code g.pc = .ok (.invokespecial index, 3)) :
    ∃ (v : Option Value) (T' : State) (L : List Loc), Q v T'.heap L ∧ Stand p l e R s m args below meth c T' (locs ++ L) (cells + rm.cells) (slots + rm.slots) ∧ ∀ target, Steps p.tables e below (T'.setTop { g with pc := g.pc + 3, stack := v.toList ++ rest }) target → Steps p.tables e below (T.setTop g) target := by
  obtain ⟨v, _, ⟨T', L', k', n'⟩, -, X', ⟨L, hQ, e1, e2, e3⟩, st⟩ := X.specialBack hx (y := y) hy1 hown (mvT hZ w1) (mvT hZ w2) (mvT hZ w4) hy (backOf (W := W) hM hZ w4 w3 hf hl) hg hsize (Steps.refl _) hlen hstack hW hdg (fun _ _ => ⟨rfl, eT, hc, hs⟩)
  dsimp only [Pt.U, Pt.locs, Pt.cells, Pt.slots] at X' e1 e2 e3 st hQ
  subst e1 e2 e3
  exact ⟨v, T', L, hQ, X', fun _ z => st.trans z⟩
theorem cVi (X : Stand p l e R s m args below meth c T locs cells slots) (hx : p.tables.exec = Jvm.exec) (hZ : Z.Warmed39 s.vm) {own C : String} {index : Nat} {y z : MethodName} {bytes : ByteArray} {maxL : Nat} {ret : Option FieldType} (hown : s.vm.findClass own = some m.cls)
    (w1 : (Jvm.Cond.methodLink own index y).before a0 Z = true) (w2 : (Jvm.Cond.declares y).before a0 Z = true) (nf : NotFace s y) (ws : (Jvm.Cond.selects C y z).before a0 Z = true) (wi : (Jvm.Cond.instanceMethod z).before a0 Z = true) (w3 : (Jvm.Cond.initialized z.cls).before a0 Z = true) (w4 : (Jvm.Cond.code z bytes maxL ret).before a0 Z = true)
    (hy : y.cls ≠ "java/lang/invoke/MethodHandle" ∧ y.cls ≠ "java/lang/invoke/VarHandle")
    {rm : Room} {a : Addr} {argsL rest : List Value} (hM : ctr l Z z bytes maxL ret [] rm rm.cells rm.slots (.ref a :: argsL).toArray h Q) (eT : T.heap = h) (E : Exa Z h a C) (W : Nat) (hf : rm.frames + 1 ≤ R.frames) (hl : W + (maxL + 11) + rm.locals ≤ R.locals) (hc : cells + rm.cells ≤ R.cells) (hs : slots + rm.slots ≤ R.slots)
    {g : JFrame} (hg : g.method = m) (hsize : g.locals.size = c.maxLocals) (hlen : ∀ sig, parseMethodDescriptor y.desc = some sig → argsL.length = sig.parameters.length) (hstack : g.stack = argsL.reverse ++ .ref a :: rest) (hW : 2 * g.monitorRoom + (rest.map fun v => v.category).sum ≤ W) (hdg : decode c.code g.pc = .ok (.invokevirtual index, 3)) :
    ∃ (v : Option Value) (T' : State) (L : List Loc), Q v T'.heap L ∧ Stand p l e R s m args below meth c T' (locs ++ L) (cells + rm.cells) (slots + rm.slots) ∧ ∀ target, Steps p.tables e below (T'.setTop { g with pc := g.pc + 3, stack := v.toList ++ rest }) target → Steps p.tables e below (T.setTop g) target := by
  obtain ⟨cq, kq, qa, qb, qc⟩ := isOf hZ eT E
  obtain ⟨v, _, ⟨T', L', k', n'⟩, -, X', ⟨L, hQ, e1, e2, e3⟩, st⟩ := X.virtualBack hx (y := y) (z := z) hown (mvT hZ w1) (mvT hZ w2) nf (mvT hZ ws) (mvT hZ wi) hy (backOf (W := W) hM hZ w4 w3 hf hl) qa qc hg hsize (Steps.refl _) hlen hstack hW hdg (fun _ _ => ⟨rfl, eT, hc, hs⟩)
  dsimp only [Pt.U, Pt.locs, Pt.cells, Pt.slots] at X' e1 e2 e3 st hQ
  subst e1 e2 e3
  exact ⟨v, T', L, hQ, X', fun _ z => st.trans z⟩
theorem cUp (X : Stand p l e R s m args below meth c T locs cells slots) (hx : p.tables.exec = Jvm.exec) (hZ : Z.Warmed39 s.vm) {own C owner : String} {index : Nat} {y z : MethodName} {bytes : ByteArray} {maxL : Nat} {ret : Option FieldType} (hown : s.vm.findClass own = some m.cls)
    (w1 : (Jvm.Cond.methodLink own index y).before a0 Z = true) (wm : (Jvm.Cond.sameMethod y.cls owner y.name y.desc).before a0 Z = true) (w2 : (Jvm.Cond.declares ⟨owner, y.name, y.desc⟩).before a0 Z = true) (ws : (Jvm.Cond.selects C y z).before a0 Z = true) (wi : (Jvm.Cond.instanceMethod z).before a0 Z = true) (w3 : (Jvm.Cond.initialized z.cls).before a0 Z = true) (w4 : (Jvm.Cond.code z bytes maxL ret).before a0 Z = true)
    (hy : owner ≠ "java/lang/invoke/MethodHandle" ∧ owner ≠ "java/lang/invoke/VarHandle")
    {rm : Room} {a : Addr} {argsL rest : List Value} (hM : ctr l Z z bytes maxL ret [] rm rm.cells rm.slots (.ref a :: argsL).toArray h Q) (eT : T.heap = h) (E : Exa Z h a C) (W : Nat) (hf : rm.frames + 1 ≤ R.frames) (hl : W + (maxL + 11) + rm.locals ≤ R.locals) (hc : cells + rm.cells ≤ R.cells) (hs : slots + rm.slots ≤ R.slots)
    {g : JFrame} (hg : g.method = m) (hsize : g.locals.size = c.maxLocals) (hlen : ∀ sig, parseMethodDescriptor y.desc = some sig → argsL.length = sig.parameters.length) (hstack : g.stack = argsL.reverse ++ .ref a :: rest) (hW : 2 * g.monitorRoom + (rest.map fun v => v.category).sum ≤ W) (hdg : decode c.code g.pc = .ok (.invokevirtual index, 3)) :
    ∃ (v : Option Value) (T' : State) (L : List Loc), Q v T'.heap L ∧ Stand p l e R s m args below meth c T' (locs ++ L) (cells + rm.cells) (slots + rm.slots) ∧ ∀ target, Steps p.tables e below (T'.setTop { g with pc := g.pc + 3, stack := v.toList ++ rest }) target → Steps p.tables e below (T.setTop g) target := by
  obtain ⟨cq, kq, qa, qb, qc⟩ := isOf hZ eT E
  obtain ⟨v, _, ⟨T', L', k', n'⟩, -, X', ⟨L, hQ, e1, e2, e3⟩, st⟩ := X.virtualBackUp hx (x := y) (y := z) (owner := owner) hown (mvT hZ w1) (mvT hZ wm) (mvT hZ w2) hy (mvT hZ ws) (mvT hZ wi) (backOf (W := W) hM hZ w4 w3 hf hl) qa qc hg hsize (Steps.refl _) hlen hstack hW hdg (fun _ _ => ⟨rfl, eT, hc, hs⟩)
  dsimp only [Pt.U, Pt.locs, Pt.cells, Pt.slots] at X' e1 e2 e3 st hQ
  subst e1 e2 e3
  exact ⟨v, T', L, hQ, X', fun _ z => st.trans z⟩
theorem cFa (X : Stand p l e R s m args below meth c T locs cells slots) (hx : p.tables.exec = Jvm.exec) (hZ : Z.Warmed39 s.vm) {own C : String} {index count : Nat} {y z : MethodName} {bytes : ByteArray} {maxL : Nat} {ret : Option FieldType} (hown : s.vm.findClass own = some m.cls)
    (w1 : (Jvm.Cond.methodLink own index y).before a0 Z = true) (w2 : (Jvm.Cond.declares y).before a0 Z = true) (wf : (Jvm.Cond.interfaceMethod y.cls y.cls y.name y.desc).before args s = true) (ws : (Jvm.Cond.selects C y z).before a0 Z = true) (wi : (Jvm.Cond.instanceMethod z).before a0 Z = true) (wp : (Jvm.Cond.publicMethod z).before a0 Z = true) (wu : (Jvm.Cond.unhidden C y.name y.desc).before a0 Z = true) (wk : (Jvm.Cond.castable C y.cls).before a0 Z = true) (w3 : (Jvm.Cond.initialized z.cls).before a0 Z = true) (w4 : (Jvm.Cond.code z bytes maxL ret).before a0 Z = true)
    (hy : y.cls ≠ "java/lang/invoke/MethodHandle" ∧ y.cls ≠ "java/lang/invoke/VarHandle")
    {rm : Room} {a : Addr} {argsL rest : List Value} (hM : ctr l Z z bytes maxL ret [] rm rm.cells rm.slots (.ref a :: argsL).toArray h Q) (eT : T.heap = h) (E : Exa Z h a C) (W : Nat) (hf : rm.frames + 1 ≤ R.frames) (hl : W + (maxL + 11) + rm.locals ≤ R.locals) (hc : cells + rm.cells ≤ R.cells) (hs : slots + rm.slots ≤ R.slots)
    {g : JFrame} (hg : g.method = m) (hsize : g.locals.size = c.maxLocals) (hlen : ∀ sig, parseMethodDescriptor y.desc = some sig → argsL.length = sig.parameters.length) (hstack : g.stack = argsL.reverse ++ .ref a :: rest) (hW : 2 * g.monitorRoom + (rest.map fun v => v.category).sum ≤ W) (hdg : decode c.code g.pc = .ok (.invokeinterface index count, 5)) :
    ∃ (v : Option Value) (T' : State) (L : List Loc), Q v T'.heap L ∧ Stand p l e R s m args below meth c T' (locs ++ L) (cells + rm.cells) (slots + rm.slots) ∧ ∀ target, Steps p.tables e below (T'.setTop { g with pc := g.pc + 5, stack := v.toList ++ rest }) target → Steps p.tables e below (T.setTop g) target := by
  obtain ⟨cq, kq, qa, qb, qc⟩ := isOf hZ eT E
  obtain ⟨v, _, ⟨T', L', k', n'⟩, -, X', ⟨L, hQ, e1, e2, e3⟩, st⟩ := X.interfaceBack hx (xi := y) (y := z) hown (mvT hZ w1) (mvT hZ w2) wf (mvT hZ ws) (mvT hZ wi) (mvT hZ wp) (mvT hZ wu) (mvT hZ wk) hy (backOf (W := W) hM hZ w4 w3 hf hl) qa qb qc hg hsize (Steps.refl _) hlen hstack hW hdg (fun _ _ => ⟨rfl, eT, hc, hs⟩)
  dsimp only [Pt.U, Pt.locs, Pt.cells, Pt.slots] at X' e1 e2 e3 st hQ
  subst e1 e2 e3
  exact ⟨v, T', L, hQ, X', fun _ z => st.trans z⟩
theorem cPr (X : Stand p l e R s m args below meth c T locs cells slots) (hx : p.tables.exec = Jvm.exec) (hZ : Z.Warmed39 s.vm) {own C : String} {index : Nat} {y : MethodName} {bytes : ByteArray} {maxL : Nat} {ret : Option FieldType} (hown : s.vm.findClass own = some m.cls)
    (w1 : (Jvm.Cond.methodLink own index y).before a0 Z = true) (wi : (Jvm.Cond.instanceMethod y).before a0 Z = true) (ws : (Jvm.Cond.selects y.cls y y).before a0 Z = true) (wp : (Jvm.Cond.privateMethod y).before a0 Z = true) (w3 : (Jvm.Cond.initialized y.cls).before a0 Z = true) (w4 : (Jvm.Cond.code y bytes maxL ret).before a0 Z = true)
    (hy : y.cls ≠ "java/lang/invoke/MethodHandle" ∧ y.cls ≠ "java/lang/invoke/VarHandle")
    {rm : Room} {a : Addr} {argsL rest : List Value} (hM : ctr l Z y bytes maxL ret [] rm rm.cells rm.slots (.ref a :: argsL).toArray h Q) (eT : T.heap = h) (E : Exa Z h a C) (W : Nat) (hf : rm.frames + 1 ≤ R.frames) (hl : W + (maxL + 11) + rm.locals ≤ R.locals) (hc : cells + rm.cells ≤ R.cells) (hs : slots + rm.slots ≤ R.slots)
    {g : JFrame} (hg : g.method = m) (hsize : g.locals.size = c.maxLocals) (hlen : ∀ sig, parseMethodDescriptor y.desc = some sig → argsL.length = sig.parameters.length) (hstack : g.stack = argsL.reverse ++ .ref a :: rest) (hW : 2 * g.monitorRoom + (rest.map fun v => v.category).sum ≤ W) (hdg : decode c.code g.pc = .ok (.invokevirtual index, 3)) :
    ∃ (v : Option Value) (T' : State) (L : List Loc), Q v T'.heap L ∧ Stand p l e R s m args below meth c T' (locs ++ L) (cells + rm.cells) (slots + rm.slots) ∧ ∀ target, Steps p.tables e below (T'.setTop { g with pc := g.pc + 3, stack := v.toList ++ rest }) target → Steps p.tables e below (T.setTop g) target := by
  obtain ⟨cl, qa, qb⟩ := E.cell
  obtain ⟨v, _, ⟨T', L', k', n'⟩, -, X', ⟨L, hQ, e1, e2, e3⟩, st⟩ := X.privateBack hx (y := y) hown (mvT hZ w1) (mvT hZ wi) (mvT hZ ws) (Cond.privateMethod_at (args := #[]) (mvP hZ wp)) (mvT hZ w4) hy (backOf (W := W) hM hZ w4 w3 hf hl) hg hsize (Steps.refl _) (cell := cl) (by rw [eT]; exact qa) qb hlen hstack hW hdg (fun _ _ => ⟨rfl, eT, hc, hs⟩)
  dsimp only [Pt.U, Pt.locs, Pt.cells, Pt.slots] at X' e1 e2 e3 st hQ
  subst e1 e2 e3
  exact ⟨v, T', L, hQ, X', fun _ z => st.trans z⟩
/-- a static's fact over a Keep: its holder's cell is none of the written -/
theorem Sta.keep {h' : Heap} {C n d : String} {v : Value} {ws : List Addr} (F : Sta Z h C n d v) (K : Keep h h' ws) (q : ∀ (x : Addr) (c : Cell), x ∈ ws → h[x]? = some c → c.vm.isStatics = false) : Sta Z h' C n d v := by
  obtain ⟨cf, i, k, f, st, cell, h1, h2, h3, h4, h5, h6, h7⟩ := F
  refine ⟨cf, i, k, f, st, cell, h1, h2, h3, h4, K.2.1 _ _ h5 (fun y => ?_), h6, h7⟩
  rw [q st cell y h5] at h6; cases h6
theorem own_ns {a : Addr} {C : String} (E : Exa Z h a C) : ∀ (x : Addr) (c : Cell), x ∈ [a] → h[x]? = some c → c.vm.isStatics = false := by
  intro x c hx hc
  cases List.mem_singleton.mp hx
  obtain ⟨cell, k, h1, -, -, h4, -⟩ := E
  rw [h1] at hc; cases hc; exact h4
/-- an int field of what a term names, out of an 'eq' of the case -/
theorem own_fld {args : Array Value} {a : Addr} {C n d : String} {t : Term} {x : Int32} (ev : t.eval args Z none [] Z = some (.ref a)) (hq : (Jvm.Cond.eq (.field t C n d) (.int x)).value args Z none Z [] = some true) : Fld Z Z.heap a C n d (.int x) := by
  obtain ⟨u, w, h1, h2, k1, k2⟩ := cmp_v (Or.inl hq)
  have h2' : w = .int x := by rw [Term.int_eval] at h2; exact (Option.some.inj h2).symm
  subst h2'
  obtain ⟨z, rfl⟩ : ∃ z, u = .int z := k2
  have : z = x := gotT (Cond.eq_ints h1 (Term.int_eval x)) hq
  subst this
  exact Fld.start (by rw [← fld_at ev]; exact h1)
theorem own_cat {v : Value} (r : v.isRef = true) : v.category = 1 := by rcases ref_cases r with rfl | ⟨a, rfl⟩ <;> rfl
theorem own_narO {C : String} {v : Value} (r : v.isRef = true) : narrow (.object C) v = v := by rcases ref_cases r with rfl | ⟨a, rfl⟩ <;> rfl
theorem own_fitO {C : String} {v : Value} (r : v.isRef = true) : fits (.object C) v = true := by rcases ref_cases r with rfl | ⟨a, rfl⟩ <;> rfl
theorem own_len {args : Array Value} {a : Addr} {cl : Cell} {ty : FieldType} {t : Term} {x : Int32} (ev : t.eval args Z none [] Z = some (.ref a)) (A : Arr Z Z.heap a cl ty) (hq : (Jvm.Cond.eq (.length t) (.int x)).value args Z none Z [] = some true) : cl.slots.size = x.toNatClampNeg ∧ cl.slots.size < 2 ^ 31 := by
  have ha : Z.arrayAt? a = some cl := IntBox.arrayAt_of A.1 A.2.1 A.2.2
  by_cases p : cl.slots.size < 2 ^ 31
  · have q := gotT (Cond.eq_ints (len_f ev ha p) (Term.int_eval x)) hq
    refine ⟨?_, p⟩
    rw [← q, Int32.toNatClampNeg, len_toInt p]; rfl
  · obtain ⟨u, w, h1, h2, -, -⟩ := cmp_v (Or.inl hq)
    exact absurd h1 (by simp [Term.eval, ev, ha, p])
theorem own_elem {args : Array Value} {a b : Addr} {cl : Cell} {ty : FieldType} {t u : Term} {j : Int32} (ev : t.eval args Z none [] Z = some (.ref a)) (A : Arr Z Z.heap a cl ty) (eu : u.eval args Z none [] Z = some (.ref b)) (hq : (Jvm.Cond.eq (.elem t (.int j)) u).value args Z none Z [] = some true) : cl.slots[j.toNatClampNeg]? = some (.ref b) := by
  obtain ⟨x, y, h1, h2, k1, k2⟩ := cmp_v (Or.inl hq)
  rw [eu] at h2; cases h2
  have e := gotT (eq_R h1 eu k2.2 rfl) hq
  rw [← e]; exact (elem_in h1 ev (Term.int_eval j) A.1).2
end Own
end Jvm.RoadKit

namespace Jvm.RoadKit
open Sem ClassFile Op Lib Bundle Jvm.Stand Jvm.Free Jvm.LawKit Jvm.Free.SB Jvm.Free.SBG
section OwnW
variable {p : Program} {l : Launch} {e : Env} {R : Room} {s : State} {m : MethodId} {args : Array Value} {below : List Frame} {meth : Method} {c : Code} {T : State} {locs : List Loc} {cells slots : Nat} {vm0 : Vm} {k0 : Nat}
/-- as Dn, where string constants may have been interned meanwhile -/
def DnW (p : Program) (e : Env) (below : List Frame) (s : State) (Q : Option Value → Heap → List Loc → Prop) (k n : Nat) (S : State) : Prop :=
  ∃ U o, Steps p.tables e below S U ∧ U.status = .running ∧ Ended U below o ∧ ∃ v L, o = .returned v ∧ Q v U.heap L ∧ ReturnedEndW s o U L k n
variable {Q Q' : Option Value → Heap → List Loc → Prop} {k n : Nat} {S S' : State} {Z : State} {a0 : Array Value} {h : Heap}
theorem DnW.of (w : ∀ t, Steps p.tables e below S' t → Steps p.tables e below S t) (d : DnW p e below s Q k n S') : DnW p e below s Q k n S := by
  obtain ⟨U, o, st, r⟩ := d
  exact ⟨U, o, w U st, r⟩
theorem DnW.cast {g g' : JFrame} (q : g = g') (d : DnW p e below s Q k n (T.setTop g')) : DnW p e below s Q k n (T.setTop g) := q ▸ d
theorem DnW.retN (hS : s.Since vm0 k0) (hk0 : k0 ≤ T.heap.size) (X : Stand p l e R (s.setVm vm0) m args below meth c T locs cells slots) (hx : p.tables.exec = Jvm.exec) (hlk : meth.locks = false) {pc : Nat} {Ls : Array Slot} {z : Int32} {t : FieldType} {rest : List Value} (hret : meth.sig.returnType = some t) (ht : t = .boolean ∨ t = .byte ∨ t = .char ∨ t = .short)
    (hd : decode c.code pc = .ok (.ireturn, 1)) (hk : cells ≤ k) (hs : slots ≤ n) (hQ : Q (some (.int (nar t z))) T.heap locs) : DnW p e below s Q k n (T.setTop (mkF m pc Ls (.int z :: rest))) := by
  obtain ⟨fs, hr, hrun, hended, hW, hsame⟩ := X.leave (v := some (.int (nar t z))) (fun q => by rw [hret] at q; cases q) hlk
  obtain ⟨r1, r2, r3⟩ := hS.ended (U := T.setFrames fs) hW hk0 hsame
  exact ⟨_, _, Jvm.RoadKit.retN X hx hret ht hd hr, hrun, hended, _, _, rfl, hQ, ⟨_, rfl⟩, r1, r2, r3.mono hk hs⟩
theorem DnW.ret (hS : s.Since vm0 k0) (hk0 : k0 ≤ T.heap.size) (X : Stand p l e R (s.setVm vm0) m args below meth c T locs cells slots) (hx : p.tables.exec = Jvm.exec) (hlk : meth.locks = false) {pc : Nat} {Ls : Array Slot} {w : Value} {t : FieldType} {i : Instr} {rest : List Value} (hret : meth.sig.returnType = some t) (hn : narrow t w = w)
    (hi : (i = .ireturn ∧ (t = .int ∨ t = .boolean ∨ t = .byte ∨ t = .char ∨ t = .short) ∧ ∃ z, w = .int z) ∨ (i = .lreturn ∧ t = .long ∧ ∃ z, w = .long z) ∨ (i = .dreturn ∧ t = .double ∧ ∃ z, w = .double z) ∨ (i = .freturn ∧ t = .float ∧ ∃ z, w = .float z) ∨ (i = .areturn ∧ t.isReference = true ∧ w.isRef = true))
    (hd : decode c.code pc = .ok (i, 1)) (hk : cells ≤ k) (hs : slots ≤ n) (hQ : Q (some w) T.heap locs) : DnW p e below s Q k n (T.setTop (mkF m pc Ls (w :: rest))) := by
  obtain ⟨fs, hr, hrun, hended, hW, hsame⟩ := X.leave (v := some w) (fun q => by rw [hret] at q; cases q) hlk
  obtain ⟨r1, r2, r3⟩ := hS.ended (U := T.setFrames fs) hW hk0 hsame
  exact ⟨_, _, retOut X hx hret hn hi hd hr, hrun, hended, _, _, rfl, hQ, ⟨_, rfl⟩, r1, r2, r3.mono hk hs⟩
theorem DnW.retA (hS : s.Since vm0 k0) (hk0 : k0 ≤ T.heap.size) (X : Stand p l e R (s.setVm vm0) m args below meth c T locs cells slots) (hx : p.tables.exec = Jvm.exec) (hlk : meth.locks = false) {pc : Nat} {Ls : Array Slot} {w : Value} {t : FieldType} {rest : List Value} (hret : meth.sig.returnType = some t) (ht : t.isReference = true) (hw : w.isRef = true)
    (hd : decode c.code pc = .ok (.areturn, 1)) (hk : cells ≤ k) (hs : slots ≤ n) (hQ : Q (some w) T.heap locs) : DnW p e below s Q k n (T.setTop (mkF m pc Ls (w :: rest))) :=
  DnW.ret hS hk0 X hx hlk hret (by cases t <;> simp [FieldType.isReference] at ht <;> rcases ref_cases hw with rfl | ⟨a, rfl⟩ <;> rfl) (Or.inr (Or.inr (Or.inr (Or.inr ⟨rfl, ht, hw⟩)))) hd hk hs hQ
theorem DnW.retV (hS : s.Since vm0 k0) (hk0 : k0 ≤ T.heap.size) (X : Stand p l e R (s.setVm vm0) m args below meth c T locs cells slots) (hx : p.tables.exec = Jvm.exec) (hlk : meth.locks = false) {pc : Nat} {Ls : Array Slot} (hret : meth.sig.returnType = none)
    (hd : decode c.code pc = .ok (.return_, 1)) (hk : cells ≤ k) (hs : slots ≤ n) (hQ : Q none T.heap locs) : DnW p e below s Q k n (T.setTop (mkF m pc Ls [])) := by
  obtain ⟨fs, hr, hrun, hended, hW, hsame⟩ := X.leave (v := none) (fun _ => rfl) hlk
  obtain ⟨r1, r2, r3⟩ := hS.ended (U := T.setFrames fs) hW hk0 hsame
  exact ⟨_, _, X.returnOut hx hret hd hr, hrun, hended, _, _, rfl, hQ, ⟨_, rfl⟩, r1, r2, r3.mono hk hs⟩
abbrev ctrW (l : Launch) (Z : State) (y : MethodName) (bytes : ByteArray) (maxL : Nat) (ret : Option FieldType) (ws : List Jvm.Cond) (rm : Room) (k n : Nat) (as' : Array Value) (h : Heap) (Q : Option Value → Heap → List Loc → Prop) : Prop :=
  MetFree l y (head1 (Jvm.Cond.code y bytes maxL ret :: ws) rm) (fun a U => a = as' ∧ Z.Warmed39 U.vm ∧ U.heap = h) (fun _ _ _ _ _ => True) (fun _ U o U' => ∃ v L, o = .returned v ∧ Q v U'.heap L ∧ ReturnedEndW U o U' L k n)
theorem ctrW_of {y : MethodName} {bytes : ByteArray} {maxL : Nat} {ret : Option FieldType} {ws : List Jvm.Cond} {rm : Room} {as' : Array Value} (pn : plainFor y = true)
    (body : ∀ (p : Program) (e : Env) (s : State) (m : MethodId) (below : List Frame) (meth : Method) (c : Code) (s₁ : State), p.tables.exec = Jvm.exec → c.code = bytes → c.maxLocals = maxL → meth.sig.returnType = ret → meth.locks = false → meth.name = y.name → s.vm.findClass y.cls = some m.cls →
      Z.Warmed39 s.vm → s₁.heap = h → s.Since s.vm h.size → Stand p l e rm (s.setVm s.vm) m as' below meth c s₁ [] 0 0 → DnW p e below s Q k n (s₁.setTop (entryFrame m as' maxL))) : ctrW l Z y bytes maxL ret ws rm k n as' h Q := by
  refine MetFree.of_bodySF pn hisR ?_
  intro p e s m args below meth c s₁ Bd hml0 hP hK
  obtain ⟨rfl, hZ, hh⟩ := hP
  exact body p e s m below meth c s₁ Bd.exec Bd.bytes hml0 Bd.returns Bd.notSynchronized (name_of_methodNamed Bd.named Bd.method).1 (findClass_of_methodNamed Bd.named) hZ (by rw [← hh, Bd.state]; rfl) ((State.WarmedH.refl s).since _) (Stand.of_body Bd)
end OwnW
end Jvm.RoadKit
namespace Jvm.RoadKit
open Sem ClassFile Op Lib Bundle Jvm.Stand Jvm.Free Jvm.LawKit Jvm.Free.SB Jvm.Free.SBG
section OwnH
variable {p : Program} {l : Launch} {e : Env} {R : Room} {s : State} {m : MethodId} {args : Array Value} {below : List Frame} {meth : Method} {c : Code} {T : State} {locs : List Loc} {cells slots : Nat} {vm0 : Vm} {k0 : Nat} {EL : List (String × Nat)}
/-- as DnW, and the constants of EL hold their text at the end too -/
def DnH (Z : State) (EL : List (String × Nat)) (p : Program) (e : Env) (below : List Frame) (s : State) (Q : Option Value → Heap → List Loc → Prop) (k n : Nat) (S : State) : Prop :=
  ∃ U o, Steps p.tables e below S U ∧ U.status = .running ∧ Ended U below o ∧ ∃ v L, o = .returned v ∧ Q v U.heap L ∧ CHr Z EL s.vm s.heap U.vm U.heap ∧ ReturnedEndW s o U L k n
variable {Q Q' : Option Value → Heap → List Loc → Prop} {k n : Nat} {S S' : State} {Z : State} {a0 : Array Value} {h : Heap}
theorem DnH.of (w : ∀ t, Steps p.tables e below S' t → Steps p.tables e below S t) (d : DnH Z EL p e below s Q k n S') : DnH Z EL p e below s Q k n S := by
  obtain ⟨U, o, st, r⟩ := d
  exact ⟨U, o, w U st, r⟩
theorem DnH.cast {g g' : JFrame} (q : g = g') (d : DnH Z EL p e below s Q k n (T.setTop g')) : DnH Z EL p e below s Q k n (T.setTop g) := q ▸ d
theorem DnH.retA (hC : CHr Z EL s.vm s.heap T.vm T.heap) (hS : s.Since vm0 k0) (hk0 : k0 ≤ T.heap.size) (X : Stand p l e R (s.setVm vm0) m args below meth c T locs cells slots) (hx : p.tables.exec = Jvm.exec) (hlk : meth.locks = false) {pc : Nat} {Ls : Array Slot} {w : Value} {t : FieldType} {rest : List Value} (hret : meth.sig.returnType = some t) (ht : t.isReference = true) (hw : w.isRef = true)
    (hd : decode c.code pc = .ok (.areturn, 1)) (hk : cells ≤ k) (hs : slots ≤ n) (hQ : Q (some w) T.heap locs) : DnH Z EL p e below s Q k n (T.setTop (mkF m pc Ls (w :: rest))) := by
  have hn : narrow t w = w := by cases t <;> simp [FieldType.isReference] at ht <;> rcases ref_cases hw with rfl | ⟨a, rfl⟩ <;> rfl
  obtain ⟨fs, hr, hrun, hended, hW, hsame⟩ := X.leave (v := some w) (fun q => by rw [hret] at q; cases q) hlk
  obtain ⟨r1, r2, r3⟩ := hS.ended (U := T.setFrames fs) hW hk0 hsame
  exact ⟨_, _, retOut X hx hret hn (Or.inr (Or.inr (Or.inr (Or.inr ⟨rfl, ht, hw⟩)))) hd hr, hrun, hended, _, _, rfl, hQ, hC, ⟨_, rfl⟩, r1, r2, r3.mono hk hs⟩
abbrev ctrH (l : Launch) (Z : State) (EL : List (String × Nat)) (y : MethodName) (bytes : ByteArray) (maxL : Nat) (ret : Option FieldType) (ws : List Jvm.Cond) (rm : Room) (k n : Nat) (as' : Array Value) (h : Heap) (Q : Option Value → Heap → List Loc → Prop) : Prop :=
  MetFree l y (head1 (Jvm.Cond.code y bytes maxL ret :: ws) rm) (fun a U => a = as' ∧ Z.Warmed39 U.vm ∧ U.heap = h ∧ CHv Z EL U.vm h) (fun _ _ _ _ _ => True) (fun _ U o U' => ∃ v L, o = .returned v ∧ Q v U'.heap L ∧ CHr Z EL U.vm U.heap U'.vm U'.heap ∧ ReturnedEndW U o U' L k n)
theorem ctrH_of {y : MethodName} {bytes : ByteArray} {maxL : Nat} {ret : Option FieldType} {ws : List Jvm.Cond} {rm : Room} {as' : Array Value} (pn : plainFor y = true)
    (body : ∀ (p : Program) (e : Env) (s : State) (m : MethodId) (below : List Frame) (meth : Method) (c : Code) (s₁ : State), p.tables.exec = Jvm.exec → c.code = bytes → c.maxLocals = maxL → meth.sig.returnType = ret → meth.locks = false → meth.name = y.name → s.vm.findClass y.cls = some m.cls →
      Z.Warmed39 s.vm → s₁.heap = h → s.heap = h → CHv Z EL s.vm h → s.Since s.vm h.size → Stand p l e rm (s.setVm s.vm) m as' below meth c s₁ [] 0 0 → DnH Z EL p e below s Q k n (s₁.setTop (entryFrame m as' maxL))) : ctrH l Z EL y bytes maxL ret ws rm k n as' h Q := by
  refine MetFree.of_bodySF pn hisR ?_
  intro p e s m args below meth c s₁ Bd hml0 hP hK
  obtain ⟨rfl, hZ, hh, hH⟩ := hP
  exact body p e s m below meth c s₁ Bd.exec Bd.bytes hml0 Bd.returns Bd.notSynchronized (name_of_methodNamed Bd.named Bd.method).1 (findClass_of_methodNamed Bd.named) hZ (by rw [← hh, Bd.state]; rfl) hh hH ((State.WarmedH.refl s).since _) (Stand.of_body Bd)
/-- a body that is entered with the invariant and of which the end says nothing of it -/
abbrev ctrHW (l : Launch) (Z : State) (EL : List (String × Nat)) (y : MethodName) (bytes : ByteArray) (maxL : Nat) (ret : Option FieldType) (ws : List Jvm.Cond) (rm : Room) (k n : Nat) (as' : Array Value) (h : Heap) (Q : Option Value → Heap → List Loc → Prop) : Prop :=
  MetFree l y (head1 (Jvm.Cond.code y bytes maxL ret :: ws) rm) (fun a U => a = as' ∧ Z.Warmed39 U.vm ∧ U.heap = h ∧ CHv Z EL U.vm h) (fun _ _ _ _ _ => True) (fun _ U o U' => ∃ v L, o = .returned v ∧ Q v U'.heap L ∧ ReturnedEndW U o U' L k n)
theorem ctrHW_of {y : MethodName} {bytes : ByteArray} {maxL : Nat} {ret : Option FieldType} {ws : List Jvm.Cond} {rm : Room} {as' : Array Value} (pn : plainFor y = true)
    (body : ∀ (p : Program) (e : Env) (s : State) (m : MethodId) (below : List Frame) (meth : Method) (c : Code) (s₁ : State), p.tables.exec = Jvm.exec → c.code = bytes → c.maxLocals = maxL → meth.sig.returnType = ret → meth.locks = false → meth.name = y.name → s.vm.findClass y.cls = some m.cls →
      Z.Warmed39 s.vm → s₁.heap = h → s.heap = h → CHv Z EL s.vm h → s.Since s.vm h.size → Stand p l e rm (s.setVm s.vm) m as' below meth c s₁ [] 0 0 → DnW p e below s Q k n (s₁.setTop (entryFrame m as' maxL))) : ctrHW l Z EL y bytes maxL ret ws rm k n as' h Q := by
  refine MetFree.of_bodySF pn hisR ?_
  intro p e s m args below meth c s₁ Bd hml0 hP hK
  obtain ⟨rfl, hZ, hh, hH⟩ := hP
  exact body p e s m below meth c s₁ Bd.exec Bd.bytes hml0 Bd.returns Bd.notSynchronized (name_of_methodNamed Bd.named Bd.method).1 (findClass_of_methodNamed Bd.named) hZ (by rw [← hh, Bd.state]; rfl) hh hH ((State.WarmedH.refl s).since _) (Stand.of_body Bd)
/-- a static call of a body with the invariant -/
theorem cSH (X : Stand p l e R (s.setVm vm0) m args below meth c T locs cells slots) (hx : p.tables.exec = Jvm.exec) (hZ : Z.Warmed39 vm0) {own : String} {index : Nat} {y : MethodName} {bytes : ByteArray} {maxL : Nat} {ret : Option FieldType} (hown : vm0.findClass own = some m.cls)
    (w1 : (Jvm.Cond.methodLink own index y).before a0 Z = true) (w2 : (Jvm.Cond.static y).before a0 Z = true) (w3 : (Jvm.Cond.initialized y.cls).before a0 Z = true) (w4 : (Jvm.Cond.code y bytes maxL ret).before a0 Z = true) (hy : y.cls ≠ "java/lang/invoke/MethodHandle" ∧ y.cls ≠ "java/lang/invoke/VarHandle")
    (hEL : EW Z a0 EL) (H : CHv Z EL vm0 h) (hS : s.Since vm0 k0) (hk : k0 ≤ h.size)
    {rm : Room} {argsL rest : List Value} (hM : ctrH l Z EL y bytes maxL ret [] rm rm.cells rm.slots argsL.toArray h Q) (eT : T.heap = h) (W : Nat) (hf : rm.frames + 1 ≤ R.frames) (hl : W + (maxL + 11) + rm.locals ≤ R.locals) (hc : cells + rm.cells ≤ R.cells) (hs : slots + rm.slots ≤ R.slots)
    {g : JFrame} (hg : g.method = m) (hsize : g.locals.size = c.maxLocals) (hlen : ∀ sig, parseMethodDescriptor y.desc = some sig → argsL.length = sig.parameters.length) (hstack : g.stack = argsL.reverse ++ rest) (hW : 2 * g.monitorRoom + (rest.map fun v => v.category).sum ≤ W) (hdg : decode c.code g.pc = .ok (.invokestatic index, 3)) :
    ∃ (v : Option Value) (T' : State) (L : List Loc), Q v T'.heap L ∧ Stand p l e R (s.setVm T'.vm) m args below meth c T' (locs ++ L) (cells + rm.cells) (slots + rm.slots) ∧ s.Since T'.vm T'.heap.size ∧ Z.Warmed39 T'.vm ∧ T'.vm.findClass own = some m.cls ∧ CHr Z EL vm0 h T'.vm T'.heap ∧ ∀ target, Steps p.tables e below (T'.setTop { g with pc := g.pc + 3, stack := v.toList ++ rest }) target → Steps p.tables e below (T.setTop g) target := by
  subst eT
  obtain ⟨v, _, ⟨T', L', k', n'⟩, -, X', hS2, hg2, ⟨L, hQ, e1, e2, e3, hC⟩, st⟩ := callSS X hx (y := y) hown (mvT (s := s.setVm vm0) hZ w1) (mvT (s := s.setVm vm0) hZ w2) (mvT (s := s.setVm vm0) hZ w3) (mvT (s := s.setVm vm0) hZ w4) hy (backOfSH (W := W) hM hZ w4 w3 hf hl hEL H) hg hsize hlen hstack hW hdg (fun _ _ => ⟨rfl, rfl, hc, hs⟩)
  dsimp only [Pt.U, Pt.locs, Pt.cells, Pt.slots] at X' e1 e2 e3 st hQ hS2 hg2 hC
  subst e1 e2 e3
  exact ⟨v, T', L, hQ, X', foldS hS hk hS2 hg2, State.Warmed39.trans (t := s.setVm vm0) hZ hS2.1, by rw [hS2.1.alike.findClass]; exact hown, hC, fun _ z => st.trans z⟩
theorem cIH (X : Stand p l e R (s.setVm vm0) m args below meth c T locs cells slots) (hx : p.tables.exec = Jvm.exec) (hZ : Z.Warmed39 vm0) {own : String} {index : Nat} {y : MethodName} {bytes : ByteArray} {maxL : Nat} (hy1 : y.name = "<init>") (hown : vm0.findClass own = some m.cls)
    (w1 : (Jvm.Cond.methodLink own index y).before a0 Z = true) (w2 : (Jvm.Cond.instanceMethod y).before a0 Z = true) (w3 : (Jvm.Cond.initialized y.cls).before a0 Z = true) (w4 : (Jvm.Cond.code y bytes maxL none).before a0 Z = true) (hy : y.cls ≠ "java/lang/invoke/MethodHandle" ∧ y.cls ≠ "java/lang/invoke/VarHandle")
    (hEL : EW Z a0 EL) (H : CHv Z EL vm0 h) (hS : s.Since vm0 k0) (hk : k0 ≤ h.size)
    {rm : Room} {a : Addr} {argsL rest : List Value} (hM : ctrH l Z EL y bytes maxL none [] rm rm.cells rm.slots (.ref a :: argsL).toArray h Q) (eT : T.heap = h) (W : Nat) (hf : rm.frames + 1 ≤ R.frames) (hl : W + (maxL + 11) + rm.locals ≤ R.locals) (hc : cells + rm.cells ≤ R.cells) (hs : slots + rm.slots ≤ R.slots)
    {g : JFrame} (hg : g.method = m) (hsize : g.locals.size = c.maxLocals) (hlen : ∀ sig, parseMethodDescriptor y.desc = some sig → argsL.length = sig.parameters.length) (hstack : g.stack = argsL.reverse ++ .ref a :: rest) (hW : 2 * g.monitorRoom + (rest.map fun v => v.category).sum ≤ W) (hdg : decode c.code g.pc = .ok (.invokespecial index, 3)) :
    ∃ (v : Option Value) (T' : State) (L : List Loc), Q v T'.heap L ∧ Stand p l e R (s.setVm T'.vm) m args below meth c T' (locs ++ L) (cells + rm.cells) (slots + rm.slots) ∧ s.Since T'.vm T'.heap.size ∧ Z.Warmed39 T'.vm ∧ T'.vm.findClass own = some m.cls ∧ CHr Z EL vm0 h T'.vm T'.heap ∧ ∀ target, Steps p.tables e below (T'.setTop { g with pc := g.pc + 3, stack := v.toList ++ rest }) target → Steps p.tables e below (T.setTop g) target := by
  subst eT
  obtain ⟨v, _, ⟨T', L', k', n'⟩, -, X', hS2, hg2, ⟨L, hQ, e1, e2, e3, hC⟩, st⟩ := X.specialBackS hx (y := y) hy1 hown (mvT (s := s.setVm vm0) hZ w1) (mvT (s := s.setVm vm0) hZ w2) (mvT (s := s.setVm vm0) hZ w4) hy (backOfSH (W := W) hM hZ w4 w3 hf hl hEL H) hg hsize (Steps.refl _) hlen hstack hW hdg (fun _ _ => ⟨rfl, rfl, hc, hs⟩)
  dsimp only [Pt.U, Pt.locs, Pt.cells, Pt.slots] at X' e1 e2 e3 st hQ hS2 hg2 hC
  subst e1 e2 e3
  exact ⟨v, T', L, hQ, X', foldS hS hk hS2 hg2, State.Warmed39.trans (t := s.setVm vm0) hZ hS2.1, by rw [hS2.1.alike.findClass]; exact hown, hC, fun _ z => st.trans z⟩
theorem cVH (X : Stand p l e R (s.setVm vm0) m args below meth c T locs cells slots) (hx : p.tables.exec = Jvm.exec) (hZ : Z.Warmed39 vm0) {own C : String} {index : Nat} {y z : MethodName} {bytes : ByteArray} {maxL : Nat} {ret : Option FieldType} (hown : vm0.findClass own = some m.cls)
    (w1 : (Jvm.Cond.methodLink own index y).before a0 Z = true) (w2 : (Jvm.Cond.declares y).before a0 Z = true) (nf : NotFace (s.setVm vm0) y) (ws : (Jvm.Cond.selects C y z).before a0 Z = true) (wi : (Jvm.Cond.instanceMethod z).before a0 Z = true) (w3 : (Jvm.Cond.initialized z.cls).before a0 Z = true) (w4 : (Jvm.Cond.code z bytes maxL ret).before a0 Z = true) (hy : y.cls ≠ "java/lang/invoke/MethodHandle" ∧ y.cls ≠ "java/lang/invoke/VarHandle")
    (hEL : EW Z a0 EL) (H : CHv Z EL vm0 h) (hS : s.Since vm0 k0) (hk : k0 ≤ h.size)
    {rm : Room} {a : Addr} {argsL rest : List Value} (hM : ctrH l Z EL z bytes maxL ret [] rm rm.cells rm.slots (.ref a :: argsL).toArray h Q) (eT : T.heap = h) (E : Exa Z h a C) (W : Nat) (hf : rm.frames + 1 ≤ R.frames) (hl : W + (maxL + 11) + rm.locals ≤ R.locals) (hc : cells + rm.cells ≤ R.cells) (hs : slots + rm.slots ≤ R.slots)
    {g : JFrame} (hg : g.method = m) (hsize : g.locals.size = c.maxLocals) (hlen : ∀ sig, parseMethodDescriptor y.desc = some sig → argsL.length = sig.parameters.length) (hstack : g.stack = argsL.reverse ++ .ref a :: rest) (hW : 2 * g.monitorRoom + (rest.map fun v => v.category).sum ≤ W) (hdg : decode c.code g.pc = .ok (.invokevirtual index, 3)) :
    ∃ (v : Option Value) (T' : State) (L : List Loc), Q v T'.heap L ∧ Stand p l e R (s.setVm T'.vm) m args below meth c T' (locs ++ L) (cells + rm.cells) (slots + rm.slots) ∧ s.Since T'.vm T'.heap.size ∧ Z.Warmed39 T'.vm ∧ T'.vm.findClass own = some m.cls ∧ CHr Z EL vm0 h T'.vm T'.heap ∧ ∀ target, Steps p.tables e below (T'.setTop { g with pc := g.pc + 3, stack := v.toList ++ rest }) target → Steps p.tables e below (T.setTop g) target := by
  obtain ⟨cq, kq, qa, qb, qc⟩ := isOf (s := s.setVm vm0) hZ eT E
  subst eT
  obtain ⟨v, _, ⟨T', L', k', n'⟩, -, X', hS2, hg2, ⟨L, hQ, e1, e2, e3, hC⟩, st⟩ := X.virtualBackS hx (y := y) (z := z) hown (mvT (s := s.setVm vm0) hZ w1) (mvT (s := s.setVm vm0) hZ w2) nf (mvT (s := s.setVm vm0) hZ ws) (mvT (s := s.setVm vm0) hZ wi) hy (backOfSH (W := W) hM hZ w4 w3 hf hl hEL H) qa qc hg hsize (Steps.refl _) hlen hstack hW hdg (fun _ _ => ⟨rfl, rfl, hc, hs⟩)
  dsimp only [Pt.U, Pt.locs, Pt.cells, Pt.slots] at X' e1 e2 e3 st hQ hS2 hg2 hC
  subst e1 e2 e3
  exact ⟨v, T', L, hQ, X', foldS hS hk hS2 hg2, State.Warmed39.trans (t := s.setVm vm0) hZ hS2.1, by rw [hS2.1.alike.findClass]; exact hown, hC, fun _ z => st.trans z⟩
theorem DnH.retV (hC : CHr Z EL s.vm s.heap T.vm T.heap) (hS : s.Since vm0 k0) (hk0 : k0 ≤ T.heap.size) (X : Stand p l e R (s.setVm vm0) m args below meth c T locs cells slots) (hx : p.tables.exec = Jvm.exec) (hlk : meth.locks = false) {pc : Nat} {Ls : Array Slot} (hret : meth.sig.returnType = none)
    (hd : decode c.code pc = .ok (.return_, 1)) (hk : cells ≤ k) (hs : slots ≤ n) (hQ : Q none T.heap locs) : DnH Z EL p e below s Q k n (T.setTop (mkF m pc Ls [])) := by
  obtain ⟨fs, hr, hrun, hended, hW, hsame⟩ := X.leave (v := none) (fun _ => rfl) hlk
  obtain ⟨r1, r2, r3⟩ := hS.ended (U := T.setFrames fs) hW hk0 hsame
  exact ⟨_, _, X.returnOut hx hret hd hr, hrun, hended, _, _, rfl, hQ, hC, ⟨_, rfl⟩, r1, r2, r3.mono hk hs⟩
end OwnH
end Jvm.RoadKit
namespace Jvm.Pilot.@@N@@
open Jvm Jvm.ClassFile Sem Op Lib Jvm.Free Jvm.Stand Jvm.LawKit Jvm.RoadKit Bundle Jvm.Pilot.@@N@@.Jvm.D
theorem d1_0 : decode method_3_code 0 = .ok (.iload_n 1, 1) := by decide +kernel
theorem d1_1 : decode method_3_code 1 = .ok (.iload_n 2, 1) := by decide +kernel
theorem d1_2 : decode method_3_code 2 = .ok (.iushr, 1) := by decide +kernel
theorem d1_3 : decode method_3_code 3 = .ok (.iconst 1, 1) := by decide +kernel
theorem d1_4 : decode method_3_code 4 = .ok (.iand, 1) := by decide +kernel
theorem d1_5 : decode method_3_code 5 = .ok (.ifCond .eq 8, 3) := by decide +kernel
theorem d1_8 : decode method_3_code 8 = .ok (.bipush 35, 2) := by decide +kernel
theorem d1_10 : decode method_3_code 10 = .ok (.goto 9, 3) := by decide +kernel
theorem d1_13 : decode method_3_code 13 = .ok (.iload_n 0, 1) := by decide +kernel
theorem d1_14 : decode method_3_code 14 = .ok (.sipush 255, 3) := by decide +kernel
theorem d1_17 : decode method_3_code 17 = .ok (.iand, 1) := by decide +kernel
theorem d1_18 : decode method_3_code 18 = .ok (.i2c, 1) := by decide +kernel
theorem d1_19 : decode method_3_code 19 = .ok (.ireturn, 1) := by decide +kernel
theorem d2_0 : decode jdk_42_method_3_code 0 = .ok (.aload_n 0, 1) := by decide +kernel
theorem d2_1 : decode jdk_42_method_3_code 1 = .ok (.aload_n 1, 1) := by decide +kernel
theorem d2_2 : decode jdk_42_method_3_code 2 = .ok (.iconst 0, 1) := by decide +kernel
theorem d2_3 : decode jdk_42_method_3_code 3 = .ok (.aload_n 1, 1) := by decide +kernel
theorem d2_4 : decode jdk_42_method_3_code 4 = .ok (.arraylength, 1) := by decide +kernel
theorem d2_5 : decode jdk_42_method_3_code 5 = .ok (.aconst_null, 1) := by decide +kernel
theorem d2_6 : decode jdk_42_method_3_code 6 = .ok (.invokespecial 27, 3) := by decide +kernel
theorem d2_9 : decode jdk_42_method_3_code 9 = .ok (.return_, 1) := by decide +kernel
theorem d3_0 : decode jdk_42_method_149_code 0 = .ok (.aload_n 0, 1) := by decide +kernel
theorem d3_1 : decode jdk_42_method_149_code 1 = .ok (.invokespecial 1, 3) := by decide +kernel
theorem d3_4 : decode jdk_42_method_149_code 4 = .ok (.iload_n 3, 1) := by decide +kernel
theorem d3_5 : decode jdk_42_method_149_code 5 = .ok (.ifCond .ne 22, 3) := by decide +kernel
theorem d3_27 : decode jdk_42_method_149_code 27 = .ok (.getstatic 38, 3) := by decide +kernel
theorem d3_30 : decode jdk_42_method_149_code 30 = .ok (.ifCond .eq 28, 3) := by decide +kernel
theorem d3_33 : decode jdk_42_method_149_code 33 = .ok (.aload_n 1, 1) := by decide +kernel
theorem d3_34 : decode jdk_42_method_149_code 34 = .ok (.iload_n 2, 1) := by decide +kernel
theorem d3_35 : decode jdk_42_method_149_code 35 = .ok (.iload_n 3, 1) := by decide +kernel
theorem d3_36 : decode jdk_42_method_149_code 36 = .ok (.invokestatic 177, 3) := by decide +kernel
theorem d3_39 : decode jdk_42_method_149_code 39 = .ok (.astore 5, 2) := by decide +kernel
theorem d3_41 : decode jdk_42_method_149_code 41 = .ok (.aload_n 0, 1) := by decide +kernel
theorem d3_42 : decode jdk_42_method_149_code 42 = .ok (.aload 5, 2) := by decide +kernel
theorem d3_44 : decode jdk_42_method_149_code 44 = .ok (.iload_n 3, 1) := by decide +kernel
theorem d3_45 : decode jdk_42_method_149_code 45 = .ok (.invokestatic 47, 3) := by decide +kernel
theorem d3_48 : decode jdk_42_method_149_code 48 = .ok (.putfield 15, 3) := by decide +kernel
theorem d3_51 : decode jdk_42_method_149_code 51 = .ok (.aload_n 0, 1) := by decide +kernel
theorem d3_52 : decode jdk_42_method_149_code 52 = .ok (.aload 5, 2) := by decide +kernel
theorem d3_54 : decode jdk_42_method_149_code 54 = .ok (.putfield 9, 3) := by decide +kernel
theorem d3_57 : decode jdk_42_method_149_code 57 = .ok (.return_, 1) := by decide +kernel
theorem d5_0 : decode jdk_52_method_16_code 0 = .ok (.iload_n 2, 1) := by decide +kernel
theorem d5_1 : decode jdk_52_method_16_code 1 = .ok (.newarray .byte, 2) := by decide +kernel
theorem d5_3 : decode jdk_52_method_16_code 3 = .ok (.astore_n 3, 1) := by decide +kernel
theorem d5_4 : decode jdk_52_method_16_code 4 = .ok (.aload_n 0, 1) := by decide +kernel
theorem d5_5 : decode jdk_52_method_16_code 5 = .ok (.iload_n 1, 1) := by decide +kernel
theorem d5_6 : decode jdk_52_method_16_code 6 = .ok (.aload_n 3, 1) := by decide +kernel
theorem d5_7 : decode jdk_52_method_16_code 7 = .ok (.iconst 0, 1) := by decide +kernel
theorem d5_8 : decode jdk_52_method_16_code 8 = .ok (.iload_n 2, 1) := by decide +kernel
theorem d5_9 : decode jdk_52_method_16_code 9 = .ok (.invokestatic 115, 3) := by decide +kernel
theorem d5_12 : decode jdk_52_method_16_code 12 = .ok (.istore 4, 2) := by decide +kernel
theorem d5_14 : decode jdk_52_method_16_code 14 = .ok (.iload 4, 2) := by decide +kernel
theorem d5_16 : decode jdk_52_method_16_code 16 = .ok (.iload_n 2, 1) := by decide +kernel
theorem d5_17 : decode jdk_52_method_16_code 17 = .ok (.if_icmp .eq 40, 3) := by decide +kernel
theorem d5_57 : decode jdk_52_method_16_code 57 = .ok (.aload_n 3, 1) := by decide +kernel
theorem d5_58 : decode jdk_52_method_16_code 58 = .ok (.areturn, 1) := by decide +kernel
theorem d6_0 : decode jdk_52_method_21_code 0 = .ok (.iconst 0, 1) := by decide +kernel
theorem d6_1 : decode jdk_52_method_21_code 1 = .ok (.istore 5, 2) := by decide +kernel
theorem d6_3 : decode jdk_52_method_21_code 3 = .ok (.iload 5, 2) := by decide +kernel
theorem d6_5 : decode jdk_52_method_21_code 5 = .ok (.iload 4, 2) := by decide +kernel
theorem d6_7 : decode jdk_52_method_21_code 7 = .ok (.if_icmp .ge 37, 3) := by decide +kernel
theorem d6_10 : decode jdk_52_method_21_code 10 = .ok (.aload_n 0, 1) := by decide +kernel
theorem d6_11 : decode jdk_52_method_21_code 11 = .ok (.iload_n 1, 1) := by decide +kernel
theorem d6_12 : decode jdk_52_method_21_code 12 = .ok (.caload, 1) := by decide +kernel
theorem d6_13 : decode jdk_52_method_21_code 13 = .ok (.istore 6, 2) := by decide +kernel
theorem d6_15 : decode jdk_52_method_21_code 15 = .ok (.iload 6, 2) := by decide +kernel
theorem d6_17 : decode jdk_52_method_21_code 17 = .ok (.sipush 255, 3) := by decide +kernel
theorem d6_20 : decode jdk_52_method_21_code 20 = .ok (.if_icmp .le 6, 3) := by decide +kernel
theorem d6_26 : decode jdk_52_method_21_code 26 = .ok (.aload_n 2, 1) := by decide +kernel
theorem d6_27 : decode jdk_52_method_21_code 27 = .ok (.iload_n 3, 1) := by decide +kernel
theorem d6_28 : decode jdk_52_method_21_code 28 = .ok (.iload 6, 2) := by decide +kernel
theorem d6_30 : decode jdk_52_method_21_code 30 = .ok (.i2b, 1) := by decide +kernel
theorem d6_31 : decode jdk_52_method_21_code 31 = .ok (.bastore, 1) := by decide +kernel
theorem d6_32 : decode jdk_52_method_21_code 32 = .ok (.iinc 1 1, 3) := by decide +kernel
theorem d6_35 : decode jdk_52_method_21_code 35 = .ok (.iinc 3 1, 3) := by decide +kernel
theorem d6_38 : decode jdk_52_method_21_code 38 = .ok (.iinc 5 1, 3) := by decide +kernel
theorem d6_41 : decode jdk_52_method_21_code 41 = .ok (.goto (-38), 3) := by decide +kernel
theorem d6_44 : decode jdk_52_method_21_code 44 = .ok (.iload 4, 2) := by decide +kernel
theorem d6_46 : decode jdk_52_method_21_code 46 = .ok (.ireturn, 1) := by decide +kernel
theorem d7_0 : decode jdk_52_method_15_code 0 = .ok (.iload_n 1, 1) := by decide +kernel
theorem d7_1 : decode jdk_52_method_15_code 1 = .ok (.aload_n 0, 1) := by decide +kernel
theorem d7_2 : decode jdk_52_method_15_code 2 = .ok (.arraylength, 1) := by decide +kernel
theorem d7_3 : decode jdk_52_method_15_code 3 = .ok (.isub, 1) := by decide +kernel
theorem d7_4 : decode jdk_52_method_15_code 4 = .ok (.bipush 31, 2) := by decide +kernel
theorem d7_6 : decode jdk_52_method_15_code 6 = .ok (.iushr, 1) := by decide +kernel
theorem d7_7 : decode jdk_52_method_15_code 7 = .ok (.i2b, 1) := by decide +kernel
theorem d7_8 : decode jdk_52_method_15_code 8 = .ok (.ireturn, 1) := by decide +kernel
theorem d8_0 : decode prog_61_method_1_code 0 = .ok (.aload_n 0, 1) := by decide +kernel
theorem d8_1 : decode prog_61_method_1_code 1 = .ok (.invokespecial 1, 3) := by decide +kernel
theorem d8_4 : decode prog_61_method_1_code 4 = .ok (.new 7, 3) := by decide +kernel
theorem d8_7 : decode prog_61_method_1_code 7 = .ok (.dup, 1) := by decide +kernel
theorem d8_8 : decode prog_61_method_1_code 8 = .ok (.invokespecial 9, 3) := by decide +kernel
theorem d8_11 : decode prog_61_method_1_code 11 = .ok (.astore_n 2, 1) := by decide +kernel
theorem d8_12 : decode prog_61_method_1_code 12 = .ok (.aload_n 2, 1) := by decide +kernel
theorem d8_13 : decode prog_61_method_1_code 13 = .ok (.aload_n 1, 1) := by decide +kernel
theorem d8_14 : decode prog_61_method_1_code 14 = .ok (.invokestatic 10, 3) := by decide +kernel
theorem d8_17 : decode prog_61_method_1_code 17 = .ok (.aload_n 2, 1) := by decide +kernel
theorem d8_18 : decode prog_61_method_1_code 18 = .ok (.invokevirtual 16, 3) := by decide +kernel
theorem d8_21 : decode prog_61_method_1_code 21 = .ok (.aload_n 0, 1) := by decide +kernel
theorem d8_22 : decode prog_61_method_1_code 22 = .ok (.aload_n 1, 1) := by decide +kernel
theorem d8_23 : decode prog_61_method_1_code 23 = .ok (.putfield 19, 3) := by decide +kernel
theorem d8_26 : decode prog_61_method_1_code 26 = .ok (.return_, 1) := by decide +kernel
theorem d9_0 : decode prog_31_method_1_code 0 = .ok (.aload_n 0, 1) := by decide +kernel
theorem d9_1 : decode prog_31_method_1_code 1 = .ok (.invokespecial 1, 3) := by decide +kernel
theorem d9_4 : decode prog_31_method_1_code 4 = .ok (.return_, 1) := by decide +kernel
theorem d10_0 : decode prog_86_method_1_code 0 = .ok (.aload_n 0, 1) := by decide +kernel
theorem d10_1 : decode prog_86_method_1_code 1 = .ok (.invokespecial 1, 3) := by decide +kernel
theorem d10_4 : decode prog_86_method_1_code 4 = .ok (.return_, 1) := by decide +kernel
theorem d11_0 : decode prog_61_method_3_code 0 = .ok (.aload_n 0, 1) := by decide +kernel
theorem d11_1 : decode prog_61_method_3_code 1 = .ok (.aload_n 1, 1) := by decide +kernel
theorem d11_2 : decode prog_61_method_3_code 2 = .ok (.ldc 23, 2) := by decide +kernel
theorem d11_4 : decode prog_61_method_3_code 4 = .ok (.invokevirtual 24, 3) := by decide +kernel
theorem d11_7 : decode prog_61_method_3_code 7 = .ok (.aload_n 0, 1) := by decide +kernel
theorem d11_8 : decode prog_61_method_3_code 8 = .ok (.aload_n 1, 1) := by decide +kernel
theorem d11_9 : decode prog_61_method_3_code 9 = .ok (.ldc 28, 2) := by decide +kernel
theorem d11_11 : decode prog_61_method_3_code 11 = .ok (.ldc 23, 2) := by decide +kernel
theorem d11_13 : decode prog_61_method_3_code 13 = .ok (.invokevirtual 30, 3) := by decide +kernel
theorem d11_16 : decode prog_61_method_3_code 16 = .ok (.return_, 1) := by decide +kernel
theorem d12_0 : decode prog_86_method_2_code 0 = .ok (.aload_n 1, 1) := by decide +kernel
theorem d12_1 : decode prog_86_method_2_code 1 = .ok (.ifnonnull 11, 3) := by decide +kernel
theorem d12_12 : decode prog_86_method_2_code 12 = .ok (.return_, 1) := by decide +kernel
theorem d13_0 : decode prog_86_method_4_code 0 = .ok (.aload_n 1, 1) := by decide +kernel
theorem d13_1 : decode prog_86_method_4_code 1 = .ok (.ifnull 21, 3) := by decide +kernel
theorem d13_4 : decode prog_86_method_4_code 4 = .ok (.aload_n 1, 1) := by decide +kernel
theorem d13_5 : decode prog_86_method_4_code 5 = .ok (.invokevirtual 31, 3) := by decide +kernel
theorem d13_8 : decode prog_86_method_4_code 8 = .ok (.ifCond .eq 14, 3) := by decide +kernel
theorem d13_22 : decode prog_86_method_4_code 22 = .ok (.return_, 1) := by decide +kernel
theorem d14_0 : decode jdk_42_method_55_code 0 = .ok (.aload_n 0, 1) := by decide +kernel
theorem d14_1 : decode jdk_42_method_55_code 1 = .ok (.getfield 9, 3) := by decide +kernel
theorem d14_4 : decode jdk_42_method_55_code 4 = .ok (.arraylength, 1) := by decide +kernel
theorem d14_5 : decode jdk_42_method_55_code 5 = .ok (.ifCond .ne 7, 3) := by decide +kernel
theorem d14_12 : decode jdk_42_method_55_code 12 = .ok (.iconst 0, 1) := by decide +kernel
theorem d14_13 : decode jdk_42_method_55_code 13 = .ok (.ireturn, 1) := by decide +kernel
theorem d15_0 : decode prog_86_method_6_code 0 = .ok (.aload_n 0, 1) := by decide +kernel
theorem d15_1 : decode prog_86_method_6_code 1 = .ok (.getfield 41, 3) := by decide +kernel
theorem d15_4 : decode prog_86_method_6_code 4 = .ok (.ifnull 15, 3) := by decide +kernel
theorem d15_19 : decode prog_86_method_6_code 19 = .ok (.return_, 1) := by decide +kernel
theorem d16_0 : decode prog_61_method_8_code 0 = .ok (.aload_n 0, 1) := by decide +kernel
theorem d16_1 : decode prog_61_method_8_code 1 = .ok (.getfield 19, 3) := by decide +kernel
theorem d16_4 : decode prog_61_method_8_code 4 = .ok (.bipush 35, 2) := by decide +kernel
theorem d16_6 : decode prog_61_method_8_code 6 = .ok (.invokevirtual 62, 3) := by decide +kernel
theorem d16_9 : decode prog_61_method_8_code 9 = .ok (.istore_n 1, 1) := by decide +kernel
theorem d16_10 : decode prog_61_method_8_code 10 = .ok (.iload_n 1, 1) := by decide +kernel
theorem d16_11 : decode prog_61_method_8_code 11 = .ok (.ifCond .ge 8, 3) := by decide +kernel
theorem d16_14 : decode prog_61_method_8_code 14 = .ok (.ldc 38, 2) := by decide +kernel
theorem d16_16 : decode prog_61_method_8_code 16 = .ok (.goto 13, 3) := by decide +kernel
theorem d16_19 : decode prog_61_method_8_code 19 = .ok (.aload_n 0, 1) := by decide +kernel
theorem d16_20 : decode prog_61_method_8_code 20 = .ok (.getfield 19, 3) := by decide +kernel
theorem d16_23 : decode prog_61_method_8_code 23 = .ok (.iload_n 1, 1) := by decide +kernel
theorem d16_24 : decode prog_61_method_8_code 24 = .ok (.iconst 1, 1) := by decide +kernel
theorem d16_25 : decode prog_61_method_8_code 25 = .ok (.iadd, 1) := by decide +kernel
theorem d16_26 : decode prog_61_method_8_code 26 = .ok (.invokevirtual 66, 3) := by decide +kernel
theorem d16_29 : decode prog_61_method_8_code 29 = .ok (.areturn, 1) := by decide +kernel
theorem d17_0 : decode jdk_42_method_79_code 0 = .ok (.aload_n 0, 1) := by decide +kernel
theorem d17_1 : decode jdk_42_method_79_code 1 = .ok (.iload_n 1, 1) := by decide +kernel
theorem d17_2 : decode jdk_42_method_79_code 2 = .ok (.iconst 0, 1) := by decide +kernel
theorem d17_3 : decode jdk_42_method_79_code 3 = .ok (.invokevirtual 633, 3) := by decide +kernel
theorem d17_6 : decode jdk_42_method_79_code 6 = .ok (.ireturn, 1) := by decide +kernel
theorem d18_0 : decode jdk_42_method_80_code 0 = .ok (.aload_n 0, 1) := by decide +kernel
theorem d18_1 : decode jdk_42_method_80_code 1 = .ok (.invokevirtual 492, 3) := by decide +kernel
theorem d18_4 : decode jdk_42_method_80_code 4 = .ok (.ifCond .eq 19, 3) := by decide +kernel
theorem d18_7 : decode jdk_42_method_80_code 7 = .ok (.aload_n 0, 1) := by decide +kernel
theorem d18_8 : decode jdk_42_method_80_code 8 = .ok (.getfield 9, 3) := by decide +kernel
theorem d18_11 : decode jdk_42_method_80_code 11 = .ok (.iload_n 1, 1) := by decide +kernel
theorem d18_12 : decode jdk_42_method_80_code 12 = .ok (.iload_n 2, 1) := by decide +kernel
theorem d18_13 : decode jdk_42_method_80_code 13 = .ok (.aload_n 0, 1) := by decide +kernel
theorem d18_14 : decode jdk_42_method_80_code 14 = .ok (.invokevirtual 505, 3) := by decide +kernel
theorem d18_17 : decode jdk_42_method_80_code 17 = .ok (.invokestatic 637, 3) := by decide +kernel
theorem d18_20 : decode jdk_42_method_80_code 20 = .ok (.goto 16, 3) := by decide +kernel
theorem d18_36 : decode jdk_42_method_80_code 36 = .ok (.ireturn, 1) := by decide +kernel
theorem d19_0 : decode jdk_42_method_154_code 0 = .ok (.getstatic 38, 3) := by decide +kernel
theorem d19_3 : decode jdk_42_method_154_code 3 = .ok (.ifCond .eq 14, 3) := by decide +kernel
theorem d19_6 : decode jdk_42_method_154_code 6 = .ok (.aload_n 0, 1) := by decide +kernel
theorem d19_7 : decode jdk_42_method_154_code 7 = .ok (.getfield 15, 3) := by decide +kernel
theorem d19_10 : decode jdk_42_method_154_code 10 = .ok (.ifCond .ne 7, 3) := by decide +kernel
theorem d19_13 : decode jdk_42_method_154_code 13 = .ok (.iconst 1, 1) := by decide +kernel
theorem d19_14 : decode jdk_42_method_154_code 14 = .ok (.goto 4, 3) := by decide +kernel
theorem d19_18 : decode jdk_42_method_154_code 18 = .ok (.ireturn, 1) := by decide +kernel
theorem d20_0 : decode jdk_42_method_54_code 0 = .ok (.aload_n 0, 1) := by decide +kernel
theorem d20_1 : decode jdk_42_method_54_code 1 = .ok (.getfield 9, 3) := by decide +kernel
theorem d20_4 : decode jdk_42_method_54_code 4 = .ok (.arraylength, 1) := by decide +kernel
theorem d20_5 : decode jdk_42_method_54_code 5 = .ok (.aload_n 0, 1) := by decide +kernel
theorem d20_6 : decode jdk_42_method_54_code 6 = .ok (.invokevirtual 335, 3) := by decide +kernel
theorem d20_9 : decode jdk_42_method_54_code 9 = .ok (.ishr, 1) := by decide +kernel
theorem d20_10 : decode jdk_42_method_54_code 10 = .ok (.ireturn, 1) := by decide +kernel
theorem d21_0 : decode jdk_42_method_152_code 0 = .ok (.getstatic 38, 3) := by decide +kernel
theorem d21_3 : decode jdk_42_method_152_code 3 = .ok (.ifCond .eq 10, 3) := by decide +kernel
theorem d21_6 : decode jdk_42_method_152_code 6 = .ok (.aload_n 0, 1) := by decide +kernel
theorem d21_7 : decode jdk_42_method_152_code 7 = .ok (.getfield 15, 3) := by decide +kernel
theorem d21_10 : decode jdk_42_method_152_code 10 = .ok (.goto 4, 3) := by decide +kernel
theorem d21_14 : decode jdk_42_method_152_code 14 = .ok (.ireturn, 1) := by decide +kernel
theorem d22_0 : decode jdk_43_method_22_code 0 = .ok (.iload_n 1, 1) := by decide +kernel
theorem d22_1 : decode jdk_43_method_22_code 1 = .ok (.invokestatic 88, 3) := by decide +kernel
theorem d22_4 : decode jdk_43_method_22_code 4 = .ok (.ifCond .ne 5, 3) := by decide +kernel
theorem d22_9 : decode jdk_43_method_22_code 9 = .ok (.iload_n 2, 1) := by decide +kernel
theorem d22_10 : decode jdk_43_method_22_code 10 = .ok (.iconst 0, 1) := by decide +kernel
theorem d22_11 : decode jdk_43_method_22_code 11 = .ok (.invokestatic 92, 3) := by decide +kernel
theorem d22_14 : decode jdk_43_method_22_code 14 = .ok (.istore_n 2, 1) := by decide +kernel
theorem d22_15 : decode jdk_43_method_22_code 15 = .ok (.iload_n 3, 1) := by decide +kernel
theorem d22_16 : decode jdk_43_method_22_code 16 = .ok (.aload_n 0, 1) := by decide +kernel
theorem d22_17 : decode jdk_43_method_22_code 17 = .ok (.arraylength, 1) := by decide +kernel
theorem d22_18 : decode jdk_43_method_22_code 18 = .ok (.invokestatic 38, 3) := by decide +kernel
theorem d22_21 : decode jdk_43_method_22_code 21 = .ok (.istore_n 3, 1) := by decide +kernel
theorem d22_22 : decode jdk_43_method_22_code 22 = .ok (.iload_n 2, 1) := by decide +kernel
theorem d22_23 : decode jdk_43_method_22_code 23 = .ok (.iload_n 3, 1) := by decide +kernel
theorem d22_24 : decode jdk_43_method_22_code 24 = .ok (.if_icmp .lt 5, 3) := by decide +kernel
theorem d22_29 : decode jdk_43_method_22_code 29 = .ok (.aload_n 0, 1) := by decide +kernel
theorem d22_30 : decode jdk_43_method_22_code 30 = .ok (.iload_n 1, 1) := by decide +kernel
theorem d22_31 : decode jdk_43_method_22_code 31 = .ok (.iload_n 2, 1) := by decide +kernel
theorem d22_32 : decode jdk_43_method_22_code 32 = .ok (.iload_n 3, 1) := by decide +kernel
theorem d22_33 : decode jdk_43_method_22_code 33 = .ok (.invokestatic 95, 3) := by decide +kernel
theorem d22_36 : decode jdk_43_method_22_code 36 = .ok (.ireturn, 1) := by decide +kernel
theorem d23_0 : decode jdk_43_method_4_code 0 = .ok (.iload_n 0, 1) := by decide +kernel
theorem d23_1 : decode jdk_43_method_4_code 1 = .ok (.ifCond .lt 14, 3) := by decide +kernel
theorem d23_4 : decode jdk_43_method_4_code 4 = .ok (.iload_n 0, 1) := by decide +kernel
theorem d23_5 : decode jdk_43_method_4_code 5 = .ok (.sipush 255, 3) := by decide +kernel
theorem d23_8 : decode jdk_43_method_4_code 8 = .ok (.if_icmp .gt 7, 3) := by decide +kernel
theorem d23_11 : decode jdk_43_method_4_code 11 = .ok (.iconst 1, 1) := by decide +kernel
theorem d23_12 : decode jdk_43_method_4_code 12 = .ok (.goto 4, 3) := by decide +kernel
theorem d23_16 : decode jdk_43_method_4_code 16 = .ok (.ireturn, 1) := by decide +kernel
theorem d24_0 : decode jdk_29_method_65_code 0 = .ok (.iload_n 0, 1) := by decide +kernel
theorem d24_1 : decode jdk_29_method_65_code 1 = .ok (.iload_n 1, 1) := by decide +kernel
theorem d24_2 : decode jdk_29_method_65_code 2 = .ok (.if_icmp .lt 7, 3) := by decide +kernel
theorem d24_5 : decode jdk_29_method_65_code 5 = .ok (.iload_n 0, 1) := by decide +kernel
theorem d24_6 : decode jdk_29_method_65_code 6 = .ok (.goto 4, 3) := by decide +kernel
theorem d24_9 : decode jdk_29_method_65_code 9 = .ok (.iload_n 1, 1) := by decide +kernel
theorem d24_10 : decode jdk_29_method_65_code 10 = .ok (.ireturn, 1) := by decide +kernel
theorem d25_0 : decode jdk_29_method_69_code 0 = .ok (.iload_n 0, 1) := by decide +kernel
theorem d25_1 : decode jdk_29_method_69_code 1 = .ok (.iload_n 1, 1) := by decide +kernel
theorem d25_2 : decode jdk_29_method_69_code 2 = .ok (.if_icmp .gt 7, 3) := by decide +kernel
theorem d25_5 : decode jdk_29_method_69_code 5 = .ok (.iload_n 0, 1) := by decide +kernel
theorem d25_6 : decode jdk_29_method_69_code 6 = .ok (.goto 4, 3) := by decide +kernel
theorem d25_9 : decode jdk_29_method_69_code 9 = .ok (.iload_n 1, 1) := by decide +kernel
theorem d25_10 : decode jdk_29_method_69_code 10 = .ok (.ireturn, 1) := by decide +kernel
theorem d26_0 : decode jdk_43_method_23_code 0 = .ok (.iload_n 1, 1) := by decide +kernel
theorem d26_1 : decode jdk_43_method_23_code 1 = .ok (.i2b, 1) := by decide +kernel
theorem d26_2 : decode jdk_43_method_23_code 2 = .ok (.istore 4, 2) := by decide +kernel
theorem d26_4 : decode jdk_43_method_23_code 4 = .ok (.iload_n 2, 1) := by decide +kernel
theorem d26_5 : decode jdk_43_method_23_code 5 = .ok (.istore 5, 2) := by decide +kernel
theorem d26_7 : decode jdk_43_method_23_code 7 = .ok (.iload 5, 2) := by decide +kernel
theorem d26_9 : decode jdk_43_method_23_code 9 = .ok (.iload_n 3, 1) := by decide +kernel
theorem d26_10 : decode jdk_43_method_23_code 10 = .ok (.if_icmp .ge 21, 3) := by decide +kernel
theorem d26_13 : decode jdk_43_method_23_code 13 = .ok (.aload_n 0, 1) := by decide +kernel
theorem d26_14 : decode jdk_43_method_23_code 14 = .ok (.iload 5, 2) := by decide +kernel
theorem d26_16 : decode jdk_43_method_23_code 16 = .ok (.baload, 1) := by decide +kernel
theorem d26_17 : decode jdk_43_method_23_code 17 = .ok (.iload 4, 2) := by decide +kernel
theorem d26_19 : decode jdk_43_method_23_code 19 = .ok (.if_icmp .ne 6, 3) := by decide +kernel
theorem d26_22 : decode jdk_43_method_23_code 22 = .ok (.iload 5, 2) := by decide +kernel
theorem d26_24 : decode jdk_43_method_23_code 24 = .ok (.ireturn, 1) := by decide +kernel
theorem d26_25 : decode jdk_43_method_23_code 25 = .ok (.iinc 5 1, 3) := by decide +kernel
theorem d26_28 : decode jdk_43_method_23_code 28 = .ok (.goto (-21), 3) := by decide +kernel
theorem d26_31 : decode jdk_43_method_23_code 31 = .ok (.iconst (-1), 1) := by decide +kernel
theorem d26_32 : decode jdk_43_method_23_code 32 = .ok (.ireturn, 1) := by decide +kernel
theorem d27_0 : decode method_4_code 0 = .ok (.aload_n 0, 1) := by decide +kernel
theorem d27_1 : decode method_4_code 1 = .ok (.iconst 0, 1) := by decide +kernel
theorem d27_2 : decode method_4_code 2 = .ok (.caload, 1) := by decide +kernel
theorem d27_3 : decode method_4_code 3 = .ok (.bipush 35, 2) := by decide +kernel
theorem d27_5 : decode method_4_code 5 = .ok (.if_icmp .ne 5, 3) := by decide +kernel
theorem d27_8 : decode method_4_code 8 = .ok (.iconst 0, 1) := by decide +kernel
theorem d27_9 : decode method_4_code 9 = .ok (.ireturn, 1) := by decide +kernel
theorem d27_10 : decode method_4_code 10 = .ok (.iload_n 1, 1) := by decide +kernel
theorem d27_11 : decode method_4_code 11 = .ok (.iconst 1, 1) := by decide +kernel
theorem d27_12 : decode method_4_code 12 = .ok (.if_icmp .le 13, 3) := by decide +kernel
theorem d27_15 : decode method_4_code 15 = .ok (.aload_n 0, 1) := by decide +kernel
theorem d27_16 : decode method_4_code 16 = .ok (.iconst 1, 1) := by decide +kernel
theorem d27_17 : decode method_4_code 17 = .ok (.caload, 1) := by decide +kernel
theorem d27_18 : decode method_4_code 18 = .ok (.bipush 35, 2) := by decide +kernel
theorem d27_20 : decode method_4_code 20 = .ok (.if_icmp .ne 5, 3) := by decide +kernel
theorem d27_23 : decode method_4_code 23 = .ok (.iconst 1, 1) := by decide +kernel
theorem d27_24 : decode method_4_code 24 = .ok (.ireturn, 1) := by decide +kernel
theorem d27_25 : decode method_4_code 25 = .ok (.iload_n 1, 1) := by decide +kernel
theorem d27_26 : decode method_4_code 26 = .ok (.iconst 2, 1) := by decide +kernel
theorem d27_27 : decode method_4_code 27 = .ok (.if_icmp .le 13, 3) := by decide +kernel
theorem d27_30 : decode method_4_code 30 = .ok (.aload_n 0, 1) := by decide +kernel
theorem d27_31 : decode method_4_code 31 = .ok (.iconst 2, 1) := by decide +kernel
theorem d27_32 : decode method_4_code 32 = .ok (.caload, 1) := by decide +kernel
theorem d27_33 : decode method_4_code 33 = .ok (.bipush 35, 2) := by decide +kernel
theorem d27_35 : decode method_4_code 35 = .ok (.if_icmp .ne 5, 3) := by decide +kernel
theorem d27_38 : decode method_4_code 38 = .ok (.iconst 2, 1) := by decide +kernel
theorem d27_39 : decode method_4_code 39 = .ok (.ireturn, 1) := by decide +kernel
theorem d27_40 : decode method_4_code 40 = .ok (.iload_n 1, 1) := by decide +kernel
theorem d27_41 : decode method_4_code 41 = .ok (.iconst 3, 1) := by decide +kernel
theorem d27_42 : decode method_4_code 42 = .ok (.if_icmp .le 13, 3) := by decide +kernel
theorem d27_45 : decode method_4_code 45 = .ok (.aload_n 0, 1) := by decide +kernel
theorem d27_46 : decode method_4_code 46 = .ok (.iconst 3, 1) := by decide +kernel
theorem d27_47 : decode method_4_code 47 = .ok (.caload, 1) := by decide +kernel
theorem d27_48 : decode method_4_code 48 = .ok (.bipush 35, 2) := by decide +kernel
theorem d27_50 : decode method_4_code 50 = .ok (.if_icmp .ne 5, 3) := by decide +kernel
theorem d27_53 : decode method_4_code 53 = .ok (.iconst 3, 1) := by decide +kernel
theorem d27_54 : decode method_4_code 54 = .ok (.ireturn, 1) := by decide +kernel
theorem d27_55 : decode method_4_code 55 = .ok (.iconst (-1), 1) := by decide +kernel
theorem d27_56 : decode method_4_code 56 = .ok (.ireturn, 1) := by decide +kernel
theorem d28_0 : decode jdk_42_method_91_code 0 = .ok (.aload_n 0, 1) := by decide +kernel
theorem d28_1 : decode jdk_42_method_91_code 1 = .ok (.iload_n 1, 1) := by decide +kernel
theorem d28_2 : decode jdk_42_method_91_code 2 = .ok (.aload_n 0, 1) := by decide +kernel
theorem d28_3 : decode jdk_42_method_91_code 3 = .ok (.invokevirtual 505, 3) := by decide +kernel
theorem d28_6 : decode jdk_42_method_91_code 6 = .ok (.invokevirtual 681, 3) := by decide +kernel
theorem d28_9 : decode jdk_42_method_91_code 9 = .ok (.areturn, 1) := by decide +kernel
theorem d29_0 : decode jdk_42_method_92_code 0 = .ok (.aload_n 0, 1) := by decide +kernel
theorem d29_1 : decode jdk_42_method_92_code 1 = .ok (.invokevirtual 505, 3) := by decide +kernel
theorem d29_4 : decode jdk_42_method_92_code 4 = .ok (.istore_n 3, 1) := by decide +kernel
theorem d29_5 : decode jdk_42_method_92_code 5 = .ok (.iload_n 1, 1) := by decide +kernel
theorem d29_6 : decode jdk_42_method_92_code 6 = .ok (.iload_n 2, 1) := by decide +kernel
theorem d29_7 : decode jdk_42_method_92_code 7 = .ok (.iload_n 3, 1) := by decide +kernel
theorem d29_8 : decode jdk_42_method_92_code 8 = .ok (.invokestatic 521, 3) := by decide +kernel
theorem d29_11 : decode jdk_42_method_92_code 11 = .ok (.iload_n 1, 1) := by decide +kernel
theorem d29_12 : decode jdk_42_method_92_code 12 = .ok (.ifCond .ne 10, 3) := by decide +kernel
theorem d29_22 : decode jdk_42_method_92_code 22 = .ok (.iload_n 2, 1) := by decide +kernel
theorem d29_23 : decode jdk_42_method_92_code 23 = .ok (.iload_n 1, 1) := by decide +kernel
theorem d29_24 : decode jdk_42_method_92_code 24 = .ok (.isub, 1) := by decide +kernel
theorem d29_25 : decode jdk_42_method_92_code 25 = .ok (.istore 4, 2) := by decide +kernel
theorem d29_27 : decode jdk_42_method_92_code 27 = .ok (.aload_n 0, 1) := by decide +kernel
theorem d29_28 : decode jdk_42_method_92_code 28 = .ok (.invokevirtual 492, 3) := by decide +kernel
theorem d29_31 : decode jdk_42_method_92_code 31 = .ok (.ifCond .eq 16, 3) := by decide +kernel
theorem d29_34 : decode jdk_42_method_92_code 34 = .ok (.aload_n 0, 1) := by decide +kernel
theorem d29_35 : decode jdk_42_method_92_code 35 = .ok (.getfield 9, 3) := by decide +kernel
theorem d29_38 : decode jdk_42_method_92_code 38 = .ok (.iload_n 1, 1) := by decide +kernel
theorem d29_39 : decode jdk_42_method_92_code 39 = .ok (.iload 4, 2) := by decide +kernel
theorem d29_41 : decode jdk_42_method_92_code 41 = .ok (.invokestatic 685, 3) := by decide +kernel
theorem d29_44 : decode jdk_42_method_92_code 44 = .ok (.goto 13, 3) := by decide +kernel
theorem d29_57 : decode jdk_42_method_92_code 57 = .ok (.areturn, 1) := by decide +kernel
theorem d30_0 : decode jdk_42_method_158_code 0 = .ok (.iload_n 0, 1) := by decide +kernel
theorem d30_1 : decode jdk_42_method_158_code 1 = .ok (.iload_n 1, 1) := by decide +kernel
theorem d30_2 : decode jdk_42_method_158_code 2 = .ok (.iload_n 2, 1) := by decide +kernel
theorem d30_3 : decode jdk_42_method_158_code 3 = .ok (.getstatic 1053, 3) := by decide +kernel
theorem d30_6 : decode jdk_42_method_158_code 6 = .ok (.invokestatic 1062, 3) := by decide +kernel
theorem d30_9 : decode jdk_42_method_158_code 9 = .ok (.pop, 1) := by decide +kernel
theorem d30_10 : decode jdk_42_method_158_code 10 = .ok (.return_, 1) := by decide +kernel
theorem d31_0 : decode jdk_41_method_12_code 0 = .ok (.iload_n 0, 1) := by decide +kernel
theorem d31_1 : decode jdk_41_method_12_code 1 = .ok (.ifCond .lt 13, 3) := by decide +kernel
theorem d31_4 : decode jdk_41_method_12_code 4 = .ok (.iload_n 0, 1) := by decide +kernel
theorem d31_5 : decode jdk_41_method_12_code 5 = .ok (.iload_n 1, 1) := by decide +kernel
theorem d31_6 : decode jdk_41_method_12_code 6 = .ok (.if_icmp .gt 8, 3) := by decide +kernel
theorem d31_9 : decode jdk_41_method_12_code 9 = .ok (.iload_n 1, 1) := by decide +kernel
theorem d31_10 : decode jdk_41_method_12_code 10 = .ok (.iload_n 2, 1) := by decide +kernel
theorem d31_11 : decode jdk_41_method_12_code 11 = .ok (.if_icmp .le 11, 3) := by decide +kernel
theorem d31_22 : decode jdk_41_method_12_code 22 = .ok (.iload_n 0, 1) := by decide +kernel
theorem d31_23 : decode jdk_41_method_12_code 23 = .ok (.ireturn, 1) := by decide +kernel
theorem d32_0 : decode jdk_43_method_47_code 0 = .ok (.iload_n 2, 1) := by decide +kernel
theorem d32_1 : decode jdk_43_method_47_code 1 = .ok (.ifCond .ne 6, 3) := by decide +kernel
theorem d32_4 : decode jdk_43_method_47_code 4 = .ok (.ldc 151, 2) := by decide +kernel
theorem d32_6 : decode jdk_43_method_47_code 6 = .ok (.areturn, 1) := by decide +kernel
theorem d32_7 : decode jdk_43_method_47_code 7 = .ok (.new 1, 3) := by decide +kernel
theorem d32_10 : decode jdk_43_method_47_code 10 = .ok (.dup, 1) := by decide +kernel
theorem d32_11 : decode jdk_43_method_47_code 11 = .ok (.aload_n 0, 1) := by decide +kernel
theorem d32_12 : decode jdk_43_method_47_code 12 = .ok (.iload_n 1, 1) := by decide +kernel
theorem d32_13 : decode jdk_43_method_47_code 13 = .ok (.iload_n 1, 1) := by decide +kernel
theorem d32_14 : decode jdk_43_method_47_code 14 = .ok (.iload_n 2, 1) := by decide +kernel
theorem d32_15 : decode jdk_43_method_47_code 15 = .ok (.iadd, 1) := by decide +kernel
theorem d32_16 : decode jdk_43_method_47_code 16 = .ok (.invokestatic 232, 3) := by decide +kernel
theorem d32_19 : decode jdk_43_method_47_code 19 = .ok (.iconst 0, 1) := by decide +kernel
theorem d32_20 : decode jdk_43_method_47_code 20 = .ok (.invokespecial 112, 3) := by decide +kernel
theorem d32_23 : decode jdk_43_method_47_code 23 = .ok (.areturn, 1) := by decide +kernel
theorem d33_0 : decode jdk_65_method_132_code 0 = .ok (.iload_n 1, 1) := by decide +kernel
theorem d33_1 : decode jdk_65_method_132_code 1 = .ok (.ifCond .ne 9, 3) := by decide +kernel
theorem d33_10 : decode jdk_65_method_132_code 10 = .ok (.aload_n 0, 1) := by decide +kernel
theorem d33_11 : decode jdk_65_method_132_code 11 = .ok (.iload_n 1, 1) := by decide +kernel
theorem d33_12 : decode jdk_65_method_132_code 12 = .ok (.iload_n 2, 1) := by decide +kernel
theorem d33_13 : decode jdk_65_method_132_code 13 = .ok (.invokestatic 339, 3) := by decide +kernel
theorem d33_16 : decode jdk_65_method_132_code 16 = .ok (.areturn, 1) := by decide +kernel
theorem d34_0 : decode jdk_65_method_133_code 0 = .ok (.iload_n 1, 1) := by decide +kernel
theorem d34_1 : decode jdk_65_method_133_code 1 = .ok (.iload_n 2, 1) := by decide +kernel
theorem d34_2 : decode jdk_65_method_133_code 2 = .ok (.invokestatic 343, 3) := by decide +kernel
theorem d34_5 : decode jdk_65_method_133_code 5 = .ok (.iload_n 2, 1) := by decide +kernel
theorem d34_6 : decode jdk_65_method_133_code 6 = .ok (.iload_n 1, 1) := by decide +kernel
theorem d34_7 : decode jdk_65_method_133_code 7 = .ok (.isub, 1) := by decide +kernel
theorem d34_8 : decode jdk_65_method_133_code 8 = .ok (.istore_n 3, 1) := by decide +kernel
theorem d34_9 : decode jdk_65_method_133_code 9 = .ok (.iload_n 3, 1) := by decide +kernel
theorem d34_10 : decode jdk_65_method_133_code 10 = .ok (.newarray .byte, 2) := by decide +kernel
theorem d34_12 : decode jdk_65_method_133_code 12 = .ok (.astore 4, 2) := by decide +kernel
theorem d34_14 : decode jdk_65_method_133_code 14 = .ok (.aload_n 0, 1) := by decide +kernel
theorem d34_15 : decode jdk_65_method_133_code 15 = .ok (.iload_n 1, 1) := by decide +kernel
theorem d34_16 : decode jdk_65_method_133_code 16 = .ok (.aload 4, 2) := by decide +kernel
theorem d34_18 : decode jdk_65_method_133_code 18 = .ok (.iconst 0, 1) := by decide +kernel
theorem d34_19 : decode jdk_65_method_133_code 19 = .ok (.aload_n 0, 1) := by decide +kernel
theorem d34_20 : decode jdk_65_method_133_code 20 = .ok (.arraylength, 1) := by decide +kernel
theorem d34_21 : decode jdk_65_method_133_code 21 = .ok (.iload_n 1, 1) := by decide +kernel
theorem d34_22 : decode jdk_65_method_133_code 22 = .ok (.isub, 1) := by decide +kernel
theorem d34_23 : decode jdk_65_method_133_code 23 = .ok (.iload_n 3, 1) := by decide +kernel
theorem d34_24 : decode jdk_65_method_133_code 24 = .ok (.invokestatic 304, 3) := by decide +kernel
theorem d34_27 : decode jdk_65_method_133_code 27 = .ok (.invokestatic 150, 3) := by decide +kernel
theorem d34_30 : decode jdk_65_method_133_code 30 = .ok (.aload 4, 2) := by decide +kernel
theorem d34_32 : decode jdk_65_method_133_code 32 = .ok (.areturn, 1) := by decide +kernel
theorem d35_0 : decode jdk_65_method_131_code 0 = .ok (.iload_n 1, 1) := by decide +kernel
theorem d35_1 : decode jdk_65_method_131_code 1 = .ok (.iload_n 0, 1) := by decide +kernel
theorem d35_2 : decode jdk_65_method_131_code 2 = .ok (.if_icmp .ge 35, 3) := by decide +kernel
theorem d35_37 : decode jdk_65_method_131_code 37 = .ok (.return_, 1) := by decide +kernel
theorem d36_0 : decode jdk_42_method_151_code 0 = .ok (.aload_n 0, 1) := by decide +kernel
theorem d36_1 : decode jdk_42_method_151_code 1 = .ok (.invokespecial 1, 3) := by decide +kernel
theorem d36_4 : decode jdk_42_method_151_code 4 = .ok (.aload_n 0, 1) := by decide +kernel
theorem d36_5 : decode jdk_42_method_151_code 5 = .ok (.aload_n 1, 1) := by decide +kernel
theorem d36_6 : decode jdk_42_method_151_code 6 = .ok (.putfield 9, 3) := by decide +kernel
theorem d36_9 : decode jdk_42_method_151_code 9 = .ok (.aload_n 0, 1) := by decide +kernel
theorem d36_10 : decode jdk_42_method_151_code 10 = .ok (.iload_n 2, 1) := by decide +kernel
theorem d36_11 : decode jdk_42_method_151_code 11 = .ok (.putfield 15, 3) := by decide +kernel
theorem d36_14 : decode jdk_42_method_151_code 14 = .ok (.return_, 1) := by decide +kernel
theorem d37_0 : decode method_5_code 0 = .ok (.iload_n 3, 1) := by decide +kernel
theorem d37_1 : decode method_5_code 1 = .ok (.aload_n 0, 1) := by decide +kernel
theorem d37_2 : decode method_5_code 2 = .ok (.invokevirtual 31, 3) := by decide +kernel
theorem d37_5 : decode method_5_code 5 = .ok (.if_icmp .lt 5, 3) := by decide +kernel
theorem d37_8 : decode method_5_code 8 = .ok (.iconst 1, 1) := by decide +kernel
theorem d37_9 : decode method_5_code 9 = .ok (.ireturn, 1) := by decide +kernel
theorem d37_10 : decode method_5_code 10 = .ok (.aload_n 0, 1) := by decide +kernel
theorem d37_11 : decode method_5_code 11 = .ok (.iload_n 3, 1) := by decide +kernel
theorem d37_12 : decode method_5_code 12 = .ok (.invokevirtual 39, 3) := by decide +kernel
theorem d37_15 : decode method_5_code 15 = .ok (.aload_n 1, 1) := by decide +kernel
theorem d37_16 : decode method_5_code 16 = .ok (.iload_n 2, 1) := by decide +kernel
theorem d37_17 : decode method_5_code 17 = .ok (.iconst 1, 1) := by decide +kernel
theorem d37_18 : decode method_5_code 18 = .ok (.iadd, 1) := by decide +kernel
theorem d37_19 : decode method_5_code 19 = .ok (.iload_n 3, 1) := by decide +kernel
theorem d37_20 : decode method_5_code 20 = .ok (.iadd, 1) := by decide +kernel
theorem d37_21 : decode method_5_code 21 = .ok (.caload, 1) := by decide +kernel
theorem d37_22 : decode method_5_code 22 = .ok (.if_icmp .ne 7, 3) := by decide +kernel
theorem d37_25 : decode method_5_code 25 = .ok (.iconst 1, 1) := by decide +kernel
theorem d37_26 : decode method_5_code 26 = .ok (.goto 4, 3) := by decide +kernel
theorem d37_30 : decode method_5_code 30 = .ok (.ireturn, 1) := by decide +kernel
theorem d38_0 : decode jdk_42_method_56_code 0 = .ok (.aload_n 0, 1) := by decide +kernel
theorem d38_1 : decode jdk_42_method_56_code 1 = .ok (.invokevirtual 492, 3) := by decide +kernel
theorem d38_4 : decode jdk_42_method_56_code 4 = .ok (.ifCond .eq 12, 3) := by decide +kernel
theorem d38_7 : decode jdk_42_method_56_code 7 = .ok (.aload_n 0, 1) := by decide +kernel
theorem d38_8 : decode jdk_42_method_56_code 8 = .ok (.getfield 9, 3) := by decide +kernel
theorem d38_11 : decode jdk_42_method_56_code 11 = .ok (.iload_n 1, 1) := by decide +kernel
theorem d38_12 : decode jdk_42_method_56_code 12 = .ok (.invokestatic 495, 3) := by decide +kernel
theorem d38_15 : decode jdk_42_method_56_code 15 = .ok (.ireturn, 1) := by decide +kernel
theorem d39_0 : decode jdk_43_method_2_code 0 = .ok (.iload_n 1, 1) := by decide +kernel
theorem d39_1 : decode jdk_43_method_2_code 1 = .ok (.aload_n 0, 1) := by decide +kernel
theorem d39_2 : decode jdk_43_method_2_code 2 = .ok (.arraylength, 1) := by decide +kernel
theorem d39_3 : decode jdk_43_method_2_code 3 = .ok (.invokestatic 9, 3) := by decide +kernel
theorem d39_6 : decode jdk_43_method_2_code 6 = .ok (.aload_n 0, 1) := by decide +kernel
theorem d39_7 : decode jdk_43_method_2_code 7 = .ok (.iload_n 1, 1) := by decide +kernel
theorem d39_8 : decode jdk_43_method_2_code 8 = .ok (.baload, 1) := by decide +kernel
theorem d39_9 : decode jdk_43_method_2_code 9 = .ok (.sipush 255, 3) := by decide +kernel
theorem d39_12 : decode jdk_43_method_2_code 12 = .ok (.iand, 1) := by decide +kernel
theorem d39_13 : decode jdk_43_method_2_code 13 = .ok (.i2c, 1) := by decide +kernel
theorem d39_14 : decode jdk_43_method_2_code 14 = .ok (.ireturn, 1) := by decide +kernel
theorem d40_0 : decode jdk_42_method_155_code 0 = .ok (.iload_n 0, 1) := by decide +kernel
theorem d40_1 : decode jdk_42_method_155_code 1 = .ok (.iload_n 1, 1) := by decide +kernel
theorem d40_2 : decode jdk_42_method_155_code 2 = .ok (.getstatic 1053, 3) := by decide +kernel
theorem d40_5 : decode jdk_42_method_155_code 5 = .ok (.invokestatic 1059, 3) := by decide +kernel
theorem d40_8 : decode jdk_42_method_155_code 8 = .ok (.pop, 1) := by decide +kernel
theorem d40_9 : decode jdk_42_method_155_code 9 = .ok (.return_, 1) := by decide +kernel
theorem d41_0 : decode jdk_41_method_11_code 0 = .ok (.iload_n 0, 1) := by decide +kernel
theorem d41_1 : decode jdk_41_method_11_code 1 = .ok (.ifCond .lt 8, 3) := by decide +kernel
theorem d41_4 : decode jdk_41_method_11_code 4 = .ok (.iload_n 0, 1) := by decide +kernel
theorem d41_5 : decode jdk_41_method_11_code 5 = .ok (.iload_n 1, 1) := by decide +kernel
theorem d41_6 : decode jdk_41_method_11_code 6 = .ok (.if_icmp .lt 10, 3) := by decide +kernel
theorem d41_16 : decode jdk_41_method_11_code 16 = .ok (.iload_n 0, 1) := by decide +kernel
theorem d41_17 : decode jdk_41_method_11_code 17 = .ok (.ireturn, 1) := by decide +kernel
theorem pn0 : plainName "com/example/vellum/vellum/types/DvUriFragmentIdPinLaw" = true := by first | (simp [plainName, overriddenIn]; done) | decide +kernel
theorem pn1 : plainName "jdk/internal/util/Preconditions" = true := by first | (simp [plainName, overriddenIn]; done) | decide +kernel
theorem pn2 : plainName "com/example/vellum/vellum/types/DvUri" = true := by first | (simp [plainName, overriddenIn]; done) | decide +kernel
theorem pn3 : plainName "com/example/vellum/vellum/types/DataValue" = true := by first | (simp [plainName, overriddenIn]; done) | decide +kernel
theorem pn4 : plainName "com/example/vellum/vellum/types/RuleCheck" = true := by first | (simp [plainName, overriddenIn]; done) | decide +kernel
theorem pd0 : parseMethodDescriptor "([CI[BII)I" = some ⟨[(.array .char), .int, (.array .byte), .int, .int], some .int⟩ := by decide +kernel
theorem pd1 : parseMethodDescriptor "([CII)[B" = some ⟨[(.array .char), .int, .int], some (.array .byte)⟩ := by decide +kernel
theorem pd2 : parseMethodDescriptor "([BI)B" = some ⟨[(.array .byte), .int], some .byte⟩ := by decide +kernel
theorem pd3 : parseMethodDescriptor "([CIILjava/lang/Void;)V" = some ⟨[(.array .char), .int, .int, (.object "java/lang/Void")], none⟩ := by decide +kernel
theorem pd4 : parseMethodDescriptor "()B" = some ⟨[], some .byte⟩ := by decide +kernel
theorem pd5 : parseMethodDescriptor "(I)Z" = some ⟨[.int], some .boolean⟩ := by decide +kernel
theorem pd6 : parseMethodDescriptor "(II)I" = some ⟨[.int, .int], some .int⟩ := by decide +kernel
theorem pd7 : parseMethodDescriptor "([BIII)I" = some ⟨[(.array .byte), .int, .int, .int], some .int⟩ := by decide +kernel
theorem pd8 : parseMethodDescriptor "()Z" = some ⟨[], some .boolean⟩ := by decide +kernel
theorem pd9 : parseMethodDescriptor "()I" = some ⟨[], some .int⟩ := by decide +kernel
theorem pd10 : parseMethodDescriptor "(IIILjava/util/function/BiFunction;)I" = some ⟨[.int, .int, .int, (.object "java/util/function/BiFunction")], some .int⟩ := by decide +kernel
theorem pd11 : parseMethodDescriptor "(IILjava/util/function/BiFunction;)I" = some ⟨[.int, .int, (.object "java/util/function/BiFunction")], some .int⟩ := by decide +kernel
theorem pd12 : parseMethodDescriptor "(II)V" = some ⟨[.int, .int], none⟩ := by decide +kernel
theorem pd13 : parseMethodDescriptor "([BI)C" = some ⟨[(.array .byte), .int], some .char⟩ := by decide +kernel
theorem pd14 : parseMethodDescriptor "(I)C" = some ⟨[.int], some .char⟩ := by decide +kernel
theorem pd15 : parseMethodDescriptor "([BII)[B" = some ⟨[(.array .byte), .int, .int], some (.array .byte)⟩ := by decide +kernel
theorem pd16 : parseMethodDescriptor "([BB)V" = some ⟨[(.array .byte), .byte], none⟩ := by decide +kernel
theorem pd17 : parseMethodDescriptor "(III)V" = some ⟨[.int, .int, .int], none⟩ := by decide +kernel
theorem pd18 : parseMethodDescriptor "([BII)Ljava/lang/String;" = some ⟨[(.array .byte), .int, .int], some (.object "java/lang/String")⟩ := by decide +kernel
theorem pd19 : parseMethodDescriptor "(II)Ljava/lang/String;" = some ⟨[.int, .int], some (.object "java/lang/String")⟩ := by decide +kernel
theorem pd20 : parseMethodDescriptor "(I)I" = some ⟨[.int], some .int⟩ := by decide +kernel
theorem pd21 : parseMethodDescriptor "(I)Ljava/lang/String;" = some ⟨[.int], some (.object "java/lang/String")⟩ := by decide +kernel
theorem pd22 : parseMethodDescriptor "(Ljava/lang/Object;Ljava/lang/String;)V" = some ⟨[(.object "java/lang/Object"), (.object "java/lang/String")], none⟩ := by decide +kernel
theorem pd23 : parseMethodDescriptor "(Ljava/lang/String;Ljava/lang/String;Ljava/lang/String;)V" = some ⟨[(.object "java/lang/String"), (.object "java/lang/String"), (.object "java/lang/String")], none⟩ := by decide +kernel
theorem pd24 : parseMethodDescriptor "()V" = some ⟨[], none⟩ := by decide +kernel
theorem pd25 : parseMethodDescriptor "(Lcom/example/vellum/vellum/types/RuleCheck;Ljava/lang/String;)V" = some ⟨[(.object "com/example/vellum/vellum/types/RuleCheck"), (.object "java/lang/String")], none⟩ := by decide +kernel
theorem pd26 : parseMethodDescriptor "(III)C" = some ⟨[.int, .int, .int], some .char⟩ := by decide +kernel
theorem pd27 : parseMethodDescriptor "([C)V" = some ⟨[(.array .char)], none⟩ := by decide +kernel
theorem pd28 : parseMethodDescriptor "(Ljava/lang/String;)V" = some ⟨[(.object "java/lang/String")], none⟩ := by decide +kernel
theorem pd29 : parseMethodDescriptor "()Ljava/lang/String;" = some ⟨[], some (.object "java/lang/String")⟩ := by decide +kernel
theorem pd30 : parseMethodDescriptor "([CI)I" = some ⟨[(.array .char), .int], some .int⟩ := by decide +kernel
theorem pd31 : parseMethodDescriptor "(Ljava/lang/String;[CII)Z" = some ⟨[(.object "java/lang/String"), (.array .char), .int, .int], some .boolean⟩ := by decide +kernel
theorem own_wS {Z : State} {a0 : Array Value} (hw : ∀ d ∈ tables_1, d.before a0 Z = true) : ∀ a ∈ Bundle.stringAtoms, a.before a0 Z = true := fun d hd => by
  simp only [Bundle.stringAtoms, List.mem_cons, List.not_mem_nil, or_false] at hd
  rcases hd with rfl | rfl | rfl | rfl | rfl | rfl | rfl
  · exact hw _ (List.mem_of_getElem? (i := 7) rfl)
  · exact hw _ (List.mem_of_getElem? (i := 6) rfl)
  · exact hw _ (List.mem_of_getElem? (i := 23) rfl)
  · exact hw _ (List.mem_of_getElem? (i := 33) rfl)
  · exact hw _ (List.mem_of_getElem? (i := 31) rfl)
  · exact hw _ (List.mem_of_getElem? (i := 57) rfl)
  · exact hw _ (List.mem_of_getElem? (i := 58) rfl)
theorem own_EW {Z : State} {a0 : Array Value} (hw : ∀ d ∈ tables_1, d.before a0 Z = true) : EW Z a0 consts_1 := fun p hp => by
  simp only [consts_1, List.mem_cons, List.not_mem_nil, or_false] at hp
  rcases hp with rfl | rfl | rfl | rfl
  · exact ⟨"value", (hw _ (List.mem_of_getElem? (i := 56) rfl)), by decide⟩
  · exact ⟨"Value_valid", (hw _ (List.mem_of_getElem? (i := 64) rfl)), by decide⟩
  · exact ⟨"", (hw _ (List.mem_of_getElem? (i := 131) rfl)), by decide⟩
  · exact ⟨"", (hw _ (List.mem_of_getElem? (i := 193) rfl)), by decide⟩
def own_B (c : Int32) : Int32 := nar .byte (c.toInt8.toInt32)
abbrev own_C (c : Int32) : Prop := 0 ≤ c.toInt ∧ c.toInt ≤ 255
theorem own_nc {c : Int32} (h : own_C c) : nar .char c = c := by
  apply Int32.toInt_inj.mp
  have q := c_i2c c
  show (c.toUInt32.toUInt16.toUInt32.toInt32).toInt = c.toInt
  omega
theorem own_Bi {c d : Int32} (hc : own_C c) (hd : own_C d) (e : own_B c = own_B d) : c = d := by
  have e' : (c.toInt8.toInt32.toInt8.toInt32).toInt = (d.toInt8.toInt32.toInt8.toInt32).toInt := congrArg Int32.toInt e
  have q1 := c_i2b c
  have q2 := c_i2b d
  have q3 := c_i2b c.toInt8.toInt32
  have q4 := c_i2b d.toInt8.toInt32
  apply Int32.toInt_inj.mp
  omega
theorem own_B35 {c : Int32} (hc : own_C c) (n : ¬ c = 35) : ¬ own_B c = 35 := fun e => n (own_Bi hc (by decide) (e.trans (by decide)))
theorem own_Bc {c : Int32} (h : own_C c) : nar .char ((own_B c &&& (255 : Int32)).toUInt32.toUInt16.toUInt32.toInt32) = c := by
  have q1 := c_i2b c
  have q3 := c_i2b c.toInt8.toInt32
  have e : (own_B c).toInt = c.toInt8.toInt32.toInt8.toInt32.toInt := rfl
  have m := c_mask (own_B c) 255 8 (by decide) (by decide)
  rw [show ((2 ^ 8 : Nat) : Int) = 256 by rfl] at m
  have r := c_i2c (own_B c &&& 255)
  have hz : (own_B c &&& (255 : Int32)).toUInt32.toUInt16.toUInt32.toInt32 = c := by
    apply Int32.toInt_inj.mp
    omega
  rw [hz]; exact own_nc h
theorem own_gt {c : Int32} (h : own_C c) : ¬ (255 : Int32) < c := by
  rw [Int32.lt_iff_toInt_lt, show (255 : Int32).toInt = 255 by decide]; omega
theorem own_pk (x : Int32) : own_C (nar .char ((x &&& (255 : Int32)).toUInt32.toUInt16.toUInt32.toInt32)) := by
  have q := c_and x 255 (by decide)
  rw [show (255 : Int32).toInt = 255 by decide] at q
  have r := c_i2c (x &&& 255)
  have h : own_C ((x &&& (255 : Int32)).toUInt32.toUInt16.toUInt32.toInt32) := by
    unfold own_C; omega
  rw [own_nc h]; exact h
theorem own_len4 (g : Int32) : (1 : Int32) + (g &&& (3 : Int32)) = 1 ∨ (1 : Int32) + (g &&& (3 : Int32)) = 2 ∨ (1 : Int32) + (g &&& (3 : Int32)) = 3 ∨ (1 : Int32) + (g &&& (3 : Int32)) = 4 := by
  have q := c_and g 3 (by decide)
  rw [show (3 : Int32).toInt = 3 by decide] at q
  have r := c_iadd 1 (g &&& 3)
  have r2 := rng32 (1 + (g &&& 3))
  rw [show (1 : Int32).toInt = 1 by decide] at r
  have u : (1 + (g &&& 3)).toInt = 1 ∨ (1 + (g &&& 3)).toInt = 2 ∨ (1 + (g &&& 3)).toInt = 3 ∨ (1 + (g &&& 3)).toInt = 4 := by omega
  rcases u with u | u | u | u
  · exact Or.inl (Int32.toInt_inj.mp u)
  · exact Or.inr (Or.inl (Int32.toInt_inj.mp u))
  · exact Or.inr (Or.inr (Or.inl (Int32.toInt_inj.mp u)))
  · exact Or.inr (Or.inr (Or.inr (Int32.toInt_inj.mp u)))
abbrev own_vs (xs : List Int32) : List Value := xs.map Value.int
theorem own_arv {Z : State} {h : Heap} {b : Addr} {k : ClassId} {ty : FieldType} {n : Int32} {hs : List (Int32 × Value)} {vs : List Value} {d : Value} (F : Arh Z h b k ty n hs [] d) (q : ∀ i : Nat, i < n.toNatClampNeg → getH hs [] d i = vs.getD i d) : Arv Z h b k ty n vs d := by
  obtain ⟨c, A, r1, r2, r3, H, G⟩ := F
  exact ⟨c, A, r1, r2, r3, fun i hi => by rw [← q i (by omega)]; exact H i hi, fun i hi => by rw [← q i (by omega)]; exact G i hi⟩
def own_Str (Z : State) (h : Heap) (a b : Addr) (n : Int32) (xs : List Int32) : Prop := ∃ k : ClassId, Exa Z h a "java/lang/String" ∧ Fld Z h a "java/lang/String" "coder" "B" (.int 0) ∧ Fld Z h a "java/lang/String" "value" "[B" (.ref b) ∧ Arv Z h b k .byte n (own_vs xs) (.int 0)
theorem own_Str.ext {Z : State} {h h' : Heap} {a b : Addr} {n : Int32} {f : List Int32} (S : own_Str Z h a b n f) (E : Ext h h') : own_Str Z h' a b n f := by
  obtain ⟨k, h1, h2, h3, h4⟩ := S
  exact ⟨k, h1.ext E, h2.ext E, h3.ext E, h4.ext E⟩
theorem own_Str.keep {Z : State} {h h' : Heap} {a b : Addr} {n : Int32} {f : List Int32} {ws : List Addr} (S : own_Str Z h a b n f) (K : Keep h h' ws) (na : a ∉ ws) (nb : b ∉ ws) : own_Str Z h' a b n f := by
  obtain ⟨k, h1, h2, h3, h4⟩ := S
  exact ⟨k, h1.keep K, h2.keep K na, h3.keep K na, h4.keep K nb⟩
theorem own_Str.lt {Z : State} {h : Heap} {a b : Addr} {n : Int32} {f : List Int32} (S : own_Str Z h a b n f) : a < h.size ∧ b < h.size := by
  obtain ⟨k, h1, h2, h3, h4⟩ := S
  exact ⟨h1.lt, h4.lt⟩
theorem own_exa {Z : State} {h : Heap} {a b : Addr} {n : Int32} {f : List Int32} (S : own_Str Z h a b n f) : Exa Z h a "java/lang/String" := by
  obtain ⟨k, h1, -⟩ := S
  exact h1
theorem own_nn {Z : State} {h : Heap} {a b : Addr} {n : Int32} {f : List Int32} (S : own_Str Z h a b n f) : ¬ n < 0 := by
  obtain ⟨k, h1, h2, h3, c, A, r1, r2, r3, -⟩ := S
  exact r3
theorem own_sz {n : Int32} (h : ¬ n < 0) : (n.toNatClampNeg).toInt32 = n := by
  apply Int32.toInt_inj.mp
  rw [Int32.lt_iff_toInt_lt, show (0 : Int32).toInt = 0 by decide] at h
  have r := rng32 n
  have e : (n.toNatClampNeg : Int) = n.toInt := by unfold Int32.toNatClampNeg; omega
  rw [len_toInt (by unfold Int32.toNatClampNeg; omega)]; exact e
theorem own_ext2 {h0 h1 h2 : Heap} (E : Ext h0 h1) (E' : Ext h1 h2) : Ext h0 h2 := ⟨Nat.le_trans E.1 E'.1, fun y c r => E'.2 _ _ (E.2 _ _ r)⟩
theorem own_extK {h0 h1 h2 : Heap} {b : Addr} (E : Ext h0 h1) (K : Keep h1 h2 [b]) (g : h0.size ≤ b) : Ext h0 h2 := ⟨Nat.le_trans E.1 K.1, fun y cy hy => K.2.1 _ _ (E.2 _ _ hy) (ninS (Nat.ne_of_lt (Nat.lt_of_lt_of_le (Array.getElem?_eq_some_iff.mp hy).1 g)) nin0)⟩
theorem own_shr0 (n : Int32) : n >>> ((0 : Int32) &&& 31) = n := by
  apply Int32.toInt_inj.mp
  rw [c_ishr n 0 0 (by decide), show ((2 ^ 0 : Nat) : Int) = 1 by rfl, Int.ediv_one]
def own_min (a b : Int32) : Int32 := if b < a then b else a
def own_max (a b : Int32) : Int32 := if a < b then b else a
theorem own_minS (a : Int32) : own_min a a = a := by unfold own_min; split <;> rfl
def own_ix : List Int32 → Int32
  | [a] => if a = 35 then 0 else -1
  | [a, b] => if a = 35 then 0 else if b = 35 then 1 else -1
  | [a, b, c] => if a = 35 then 0 else if b = 35 then 1 else if c = 35 then 2 else -1
  | [a, b, c, d] => if a = 35 then 0 else if b = 35 then 1 else if c = 35 then 2 else if d = 35 then 3 else -1
  | _ => -1
/-- ys is what lies from f on in xs, n signs long, d of them left -/
def own_Cut (xs ys : List Int32) (f n d : Int32) : Prop := ¬ n < f ∧ n - f = d ∧ ¬ d < 0 ∧ ¬ f = 0 ∧ d.toNatClampNeg ≤ 4 ∧ f.toNatClampNeg + d.toNatClampNeg ≤ n.toNatClampNeg ∧ ¬ f < 0 ∧ f + d = n ∧ (own_vs ys) = (List.range d.toNatClampNeg).map fun i => (own_vs xs).getD (f.toNatClampNeg + i) (.int 0)
theorem own_cut0 {xs ys : List Int32} {f n : Int32} (C : own_Cut xs ys f n 0) : ys = [] := by
  have q := C.2.2.2.2.2.2.2.2
  rw [show (0 : Int32).toNatClampNeg = 0 by decide] at q
  simpa using q
theorem ef1_III (m : MethodId) (x0 : Int32) (x1 : Int32) (x2 : Int32) : entryFrame m #[(.int x0), (.int x1), (.int x2)] 3 = mkF m 0 #[.val (.int x0), .val (.int x1), .val (.int x2)] [] := by first | (simp [entryFrame, mkF, argsToLocals, Value.category]; done) | rfl
set_option maxRecDepth 65536 in
set_option maxHeartbeats 40000000 in
theorem rmPi (l : Launch) (Z : State) (a0 : Array Value) (hw : ∀ d ∈ tables_1, d.before a0 Z = true) (h0 : Heap) (n0 : Nat) (Z0 : n0 ≤ h0.size) (a g k : Int32) :
    ctr l Z (⟨"com/example/vellum/vellum/types/DvUriFragmentIdPinLaw", "pick", "(III)C"⟩ : MethodName) method_3_code 3 (some .char) [] ({ frames := 0, cells := 0, slots := 0, locals := 0 } : Room) 0 0 #[(.int a), (.int g), (.int k)] h0 (fun v h L => (∃ c : Int32, v = some (.int c) ∧ own_C c) ∧ Fr n0 L ∧ h = h0) := by
  refine ctr_of (plainFor_of_name pn0) ?_
  intro p e s m below meth jc s₁ hx hby hml hret hlk hnm hown hZ e0 X0
  have N0 := Fr.nil n0
  have hg : ∀ (i : Nat) {d : Jvm.Cond}, tables_1[i]? = some d → d.before a0 Z = true := fun i d q => hw d (List.mem_of_getElem? q)
  refine Dn.cast (ef1_III m a g k) ?_
  show Dn p e below s _ _ _ (s₁.setTop (mkF m 0 #[.val (.int a), .val (.int g), .val (.int k)] []))
  refine Dn.of (fun tt_ zz_ => XS.iloadN X0.here hx rfl (hb hby d1_0) rfl zz_) ?_
  refine Dn.of (fun tt_ zz_ => XS.iloadN X0.here hx rfl (hb hby d1_1) rfl zz_) ?_
  refine Dn.of (fun tt_ zz_ => XS.iushr X0.here hx rfl (hb hby d1_2) rfl zz_) ?_
  refine Dn.of (fun tt_ zz_ => XS.iconst X0.here hx rfl (hb hby d1_3) zz_) ?_
  show Dn p e below s _ _ _ (s₁.setTop (mkF m 4 #[.val (.int a), .val (.int g), .val (.int k)] [(.int (1 : Int32)), (.int ((g.toUInt32 >>> (k &&& 31).toUInt32).toInt32))]))
  refine Dn.of (fun tt_ zz_ => XS.iand X0.here hx rfl (hb hby d1_4) rfl zz_) ?_
  show Dn p e below s _ _ _ (s₁.setTop (mkF m 5 #[.val (.int a), .val (.int g), .val (.int k)] [(.int (((g.toUInt32 >>> (k &&& 31).toUInt32).toInt32) &&& (1 : Int32)))]))
  by_cases hq : (((g.toUInt32 >>> (k &&& 31).toUInt32).toInt32) &&& (1 : Int32)) = (0 : Int32)
  · skip
    refine Dn.of (fun tt_ zz_ => XS.ifYes X0.here hx rfl (pc0 := 5) (pc' := 13) rfl (hb hby d1_5) rfl ((if0 _ _).trans (teq hq).1) (by decide) (by decide) zz_) ?_
    show Dn p e below s _ _ _ (s₁.setTop (mkF m 13 #[.val (.int a), .val (.int g), .val (.int k)] []))
    refine Dn.of (fun tt_ zz_ => XS.iloadN X0.here hx rfl (hb hby d1_13) rfl zz_) ?_
    refine Dn.of (fun tt_ zz_ => XS.sipush X0.here hx rfl (hb hby d1_14) zz_) ?_
    refine Dn.of (fun tt_ zz_ => XS.iand X0.here hx rfl (hb hby d1_17) rfl zz_) ?_
    refine Dn.of (fun tt_ zz_ => XS.i2c X0.here hx rfl (hb hby d1_18) rfl zz_) ?_
    show Dn p e below s _ _ _ (s₁.setTop (mkF m 19 #[.val (.int a), .val (.int g), .val (.int k)] [(.int ((a &&& (255 : Int32)).toUInt32.toUInt16.toUInt32.toInt32))]))
    exact Dn.retN X0 hx hlk (t := .char) hret (by simp) (hb hby d1_19) (by decide) (by decide) (⟨⟨_, rfl, own_pk a⟩, N0, e0⟩)
  · skip
    refine Dn.of (fun tt_ zz_ => XS.ifNo X0.here hx rfl (hb hby d1_5) rfl ((if0 _ _).trans (feq hq).1) zz_) ?_
    show Dn p e below s _ _ _ (s₁.setTop (mkF m 8 #[.val (.int a), .val (.int g), .val (.int k)] []))
    refine Dn.of (fun tt_ zz_ => XS.bipush X0.here hx rfl (hb hby d1_8) zz_) ?_
    refine Dn.of (fun tt_ zz_ => XS.goto X0.here hx rfl (pc0 := 10) (pc' := 19) rfl (hb hby d1_10) (by decide) (by decide) zz_) ?_
    show Dn p e below s _ _ _ (s₁.setTop (mkF m 19 #[.val (.int a), .val (.int g), .val (.int k)] [(.int (35 : Int32))]))
    exact Dn.retN X0 hx hlk (t := .char) hret (by simp) (hb hby d1_19) (by decide) (by decide) (⟨⟨_, rfl, by decide⟩, N0, e0⟩)
theorem ef6_AIAII (m : MethodId) (x0 : Addr) (x1 : Int32) (x2 : Addr) (x3 : Int32) (x4 : Int32) : entryFrame m #[(.ref x0), (.int x1), (.ref x2), (.int x3), (.int x4)] 7 = mkF m 0 #[.val (.ref x0), .val (.int x1), .val (.ref x2), .val (.int x3), .val (.int x4), .unset, .unset] [] := by first | (simp [entryFrame, mkF, argsToLocals, Value.category]; done) | rfl
set_option maxRecDepth 65536 in
set_option maxHeartbeats 40000000 in
theorem rmC5_1 (l : Launch) (Z : State) (a0 : Array Value) (hw : ∀ d ∈ tables_1, d.before a0 Z = true) (h0 : Heap) (n0 : Nat) (Z0 : n0 ≤ h0.size) (ca bb : Addr) (kc kb : ClassId) (c0 : Int32) (y0 : own_C c0) (RC : Arh Z h0 ca kc .char 1 [((0 : Int32), .int c0)] [] (.int 0)) (RB : Arh Z h0 bb kb .byte 1 [] [] (.int 0)) (dn : ca ≠ bb) (g0 : n0 ≤ bb) :
    ctr l Z (⟨"java/lang/StringUTF16", "compress", "([CI[BII)I"⟩ : MethodName) jdk_52_method_21_code 7 (some .int) [] ({ frames := 0, cells := 0, slots := 0, locals := 0 } : Room) 0 0 #[(.ref ca), (.int (0 : Int32)), (.ref bb), (.int (0 : Int32)), (.int (1 : Int32))] h0 (fun v h L => v = some (.int (1 : Int32)) ∧ Fr n0 L ∧ Keep h0 h [bb] ∧ Arh Z h bb kb .byte 1 [((0 : Int32), .int (own_B c0))] [] (.int 0)) := by
  refine ctr_of (by decide +kernel) ?_
  intro p e s m below meth jc s₁ hx hby hml hret hlk hnm hown hZ e0 X0
  have N0 := Fr.nil n0
  have hg : ∀ (i : Nat) {d : Jvm.Cond}, tables_1[i]? = some d → d.before a0 Z = true := fun i d q => hw d (List.mem_of_getElem? q)
  refine Dn.cast (ef6_AIAII m ca (0 : Int32) bb (0 : Int32) (1 : Int32)) ?_
  show Dn p e below s _ _ _ (s₁.setTop (mkF m 0 #[.val (.ref ca), .val (.int (0 : Int32)), .val (.ref bb), .val (.int (0 : Int32)), .val (.int (1 : Int32)), .unset, .unset] []))
  refine Dn.of (fun tt_ zz_ => XS.iconst X0.here hx rfl (hb hby d6_0) zz_) ?_
  refine Dn.of (fun tt_ zz_ => XS.istore X0.here hx rfl (hb hby d6_1) rfl (l' := #[.val (.ref ca), .val (.int (0 : Int32)), .val (.ref bb), .val (.int (0 : Int32)), .val (.int (1 : Int32)), .val (.int (0 : Int32)), .unset]) rfl zz_) ?_
  refine Dn.of (fun tt_ zz_ => XS.iload X0.here hx rfl (hb hby d6_3) rfl zz_) ?_
  refine Dn.of (fun tt_ zz_ => XS.iload X0.here hx rfl (hb hby d6_5) rfl zz_) ?_
  show Dn p e below s _ _ _ (s₁.setTop (mkF m 7 #[.val (.ref ca), .val (.int (0 : Int32)), .val (.ref bb), .val (.int (0 : Int32)), .val (.int (1 : Int32)), .val (.int (0 : Int32)), .unset] [(.int (1 : Int32)), (.int (0 : Int32))]))
  refine Dn.of (fun tt_ zz_ => XS.icmpNo X0.here hx rfl (hb hby d6_7) rfl (tlt (by decide)).2.1 zz_) ?_
  show Dn p e below s _ _ _ (s₁.setTop (mkF m 10 #[.val (.ref ca), .val (.int (0 : Int32)), .val (.ref bb), .val (.int (0 : Int32)), .val (.int (1 : Int32)), .val (.int (0 : Int32)), .unset] []))
  refine Dn.of (fun tt_ zz_ => XS.aloadN X0.here hx rfl (hb hby d6_10) rfl rfl zz_) ?_
  refine Dn.of (fun tt_ zz_ => XS.iloadN X0.here hx rfl (hb hby d6_11) rfl zz_) ?_
  show Dn p e below s _ _ _ (s₁.setTop (mkF m 12 #[.val (.ref ca), .val (.int (0 : Int32)), .val (.ref bb), .val (.int (0 : Int32)), .val (.int (1 : Int32)), .val (.int (0 : Int32)), .unset] [(.int (0 : Int32)), (.ref ca)]))
  have Rr1 := RC
  obtain ⟨d1, B_1, _, Sd1, _, Hd1, _⟩ := Rr1
  refine Dn.of (fun tt_ zz_ => X0.caload hx (j := (0 : Int32)) (v := (.int c0)) (by rw [e0]; exact B_1.1) (State.isArrayOf_alike hZ.alike B_1.2.1) B_1.2.2 (inb_of Sd1 (by decide)) (atH Hd1 (inb_of Sd1 (by decide)) rfl) (g := (mkF m 12 #[.val (.ref ca), .val (.int (0 : Int32)), .val (.ref bb), .val (.int (0 : Int32)), .val (.int (1 : Int32)), .val (.int (0 : Int32)), .unset] [(.int (0 : Int32)), (.ref ca)])) rfl rfl (hb hby d6_12) tt_ zz_) ?_
  show Dn p e below s _ _ _ (s₁.setTop (mkF m 13 #[.val (.ref ca), .val (.int (0 : Int32)), .val (.ref bb), .val (.int (0 : Int32)), .val (.int (1 : Int32)), .val (.int (0 : Int32)), .unset] [(.int c0)]))
  refine Dn.of (fun tt_ zz_ => XS.istore X0.here hx rfl (hb hby d6_13) rfl (l' := #[.val (.ref ca), .val (.int (0 : Int32)), .val (.ref bb), .val (.int (0 : Int32)), .val (.int (1 : Int32)), .val (.int (0 : Int32)), .val (.int c0)]) rfl zz_) ?_
  refine Dn.of (fun tt_ zz_ => XS.iload X0.here hx rfl (hb hby d6_15) rfl zz_) ?_
  refine Dn.of (fun tt_ zz_ => XS.sipush X0.here hx rfl (hb hby d6_17) zz_) ?_
  show Dn p e below s _ _ _ (s₁.setTop (mkF m 20 #[.val (.ref ca), .val (.int (0 : Int32)), .val (.ref bb), .val (.int (0 : Int32)), .val (.int (1 : Int32)), .val (.int (0 : Int32)), .val (.int c0)] [(.int (255 : Int32)), (.int c0)]))
  refine Dn.of (fun tt_ zz_ => XS.icmpYes X0.here hx rfl (pc0 := 20) (pc' := 26) rfl (hb hby d6_20) rfl (flt (own_gt y0)).2.2.2 (by decide) (by decide) zz_) ?_
  show Dn p e below s _ _ _ (s₁.setTop (mkF m 26 #[.val (.ref ca), .val (.int (0 : Int32)), .val (.ref bb), .val (.int (0 : Int32)), .val (.int (1 : Int32)), .val (.int (0 : Int32)), .val (.int c0)] []))
  refine Dn.of (fun tt_ zz_ => XS.aloadN X0.here hx rfl (hb hby d6_26) rfl rfl zz_) ?_
  refine Dn.of (fun tt_ zz_ => XS.iloadN X0.here hx rfl (hb hby d6_27) rfl zz_) ?_
  refine Dn.of (fun tt_ zz_ => XS.iload X0.here hx rfl (hb hby d6_28) rfl zz_) ?_
  refine Dn.of (fun tt_ zz_ => XS.i2b X0.here hx rfl (hb hby d6_30) rfl zz_) ?_
  show Dn p e below s _ _ _ (s₁.setTop (mkF m 31 #[.val (.ref ca), .val (.int (0 : Int32)), .val (.ref bb), .val (.int (0 : Int32)), .val (.int (1 : Int32)), .val (.int (0 : Int32)), .val (.int c0)] [(.int (c0.toInt8.toInt32)), (.int (0 : Int32)), (.ref bb)]))
  obtain ⟨c2, A_2, p2, S2, P2, H2, G2⟩ := RB
  obtain ⟨T3, h3, X3, e3, W3, st3⟩ := stB X0 hx hZ e0 A_2 (j := (0 : Int32)) (inb_of S2 (by decide)) (g := (mkF m 31 #[.val (.ref ca), .val (.int (0 : Int32)), .val (.ref bb), .val (.int (0 : Int32)), .val (.int (1 : Int32)), .val (.int (0 : Int32)), .val (.int c0)] [(.int (c0.toInt8.toInt32)), (.int (0 : Int32)), (.ref bb)])) rfl rfl (hb hby d6_31)
  refine Dn.of st3 ?_
  show Dn p e below s _ _ _ (T3.setTop (mkF m 32 #[.val (.ref ca), .val (.int (0 : Int32)), .val (.ref bb), .val (.int (0 : Int32)), .val (.int (1 : Int32)), .val (.int (0 : Int32)), .val (.int c0)] []))
  have R_2 := Arh.push A_2 p2 S2 P2 H2 G2 (v := (.int (own_B c0))) (fits_byte_narrow _) W3 (inb_of S2 (by decide))
  have N2 := Fr.snoc X3 N0 g0
  have K0 := (Keep.refl h0 [bb]).wr W3 (Or.inl (List.mem_of_getElem? (i := 0) rfl))
  have C0 := RC.other W3 dn
  refine Dn.of (fun tt_ zz_ => XS.iinc X3.here hx rfl (hb hby d6_32) rfl (l' := #[.val (.ref ca), .val (.int ((0 : Int32) + (1 : Int32))), .val (.ref bb), .val (.int (0 : Int32)), .val (.int (1 : Int32)), .val (.int (0 : Int32)), .val (.int c0)]) rfl zz_) ?_
  refine Dn.of (fun tt_ zz_ => XS.iinc X3.here hx rfl (hb hby d6_35) rfl (l' := #[.val (.ref ca), .val (.int ((0 : Int32) + (1 : Int32))), .val (.ref bb), .val (.int ((0 : Int32) + (1 : Int32))), .val (.int (1 : Int32)), .val (.int (0 : Int32)), .val (.int c0)]) rfl zz_) ?_
  refine Dn.of (fun tt_ zz_ => XS.iinc X3.here hx rfl (hb hby d6_38) rfl (l' := #[.val (.ref ca), .val (.int ((0 : Int32) + (1 : Int32))), .val (.ref bb), .val (.int ((0 : Int32) + (1 : Int32))), .val (.int (1 : Int32)), .val (.int ((0 : Int32) + (1 : Int32))), .val (.int c0)]) rfl zz_) ?_
  refine Dn.of (fun tt_ zz_ => XS.goto X3.here hx rfl (pc0 := 41) (pc' := 3) rfl (hb hby d6_41) (by decide) (by decide) zz_) ?_
  show Dn p e below s _ _ _ (T3.setTop (mkF m 3 #[.val (.ref ca), .val (.int ((0 : Int32) + (1 : Int32))), .val (.ref bb), .val (.int ((0 : Int32) + (1 : Int32))), .val (.int (1 : Int32)), .val (.int ((0 : Int32) + (1 : Int32))), .val (.int c0)] []))
  rw [show ((0 : Int32) + (1 : Int32)) = (1 : Int32) by decide]
  show Dn p e below s _ _ _ (T3.setTop (mkF m 3 #[.val (.ref ca), .val (.int (1 : Int32)), .val (.ref bb), .val (.int (1 : Int32)), .val (.int (1 : Int32)), .val (.int (1 : Int32)), .val (.int c0)] []))
  refine Dn.of (fun tt_ zz_ => XS.iload X3.here hx rfl (hb hby d6_3) rfl zz_) ?_
  refine Dn.of (fun tt_ zz_ => XS.iload X3.here hx rfl (hb hby d6_5) rfl zz_) ?_
  show Dn p e below s _ _ _ (T3.setTop (mkF m 7 #[.val (.ref ca), .val (.int (1 : Int32)), .val (.ref bb), .val (.int (1 : Int32)), .val (.int (1 : Int32)), .val (.int (1 : Int32)), .val (.int c0)] [(.int (1 : Int32)), (.int (1 : Int32))]))
  refine Dn.of (fun tt_ zz_ => XS.icmpYes X3.here hx rfl (pc0 := 7) (pc' := 44) rfl (hb hby d6_7) rfl (flt (by decide)).2.1 (by decide) (by decide) zz_) ?_
  show Dn p e below s _ _ _ (T3.setTop (mkF m 44 #[.val (.ref ca), .val (.int (1 : Int32)), .val (.ref bb), .val (.int (1 : Int32)), .val (.int (1 : Int32)), .val (.int (1 : Int32)), .val (.int c0)] []))
  refine Dn.of (fun tt_ zz_ => XS.iload X3.here hx rfl (hb hby d6_44) rfl zz_) ?_
  show Dn p e below s _ _ _ (T3.setTop (mkF m 46 #[.val (.ref ca), .val (.int (1 : Int32)), .val (.ref bb), .val (.int (1 : Int32)), .val (.int (1 : Int32)), .val (.int (1 : Int32)), .val (.int c0)] [(.int (1 : Int32))]))
  exact Dn.retI X3 hx hlk hret (hb hby d6_46) (by decide) (by decide) (by rw [e3]; exact ⟨rfl, N2, K0, R_2⟩)
theorem ef5_AII (m : MethodId) (x0 : Addr) (x1 : Int32) (x2 : Int32) : entryFrame m #[(.ref x0), (.int x1), (.int x2)] 6 = mkF m 0 #[.val (.ref x0), .val (.int x1), .val (.int x2), .unset, .unset, .unset] [] := by first | (simp [entryFrame, mkF, argsToLocals, Value.category]; done) | rfl
set_option maxRecDepth 65536 in
set_option maxHeartbeats 40000000 in
theorem rmC3_1 (l : Launch) (Z : State) (a0 : Array Value) (hw : ∀ d ∈ tables_1, d.before a0 Z = true) (h0 : Heap) (n0 : Nat) (Z0 : n0 ≤ h0.size) (ca : Addr) (kc : ClassId) (c0 : Int32) (y0 : own_C c0) (RC : Arh Z h0 ca kc .char 1 [((0 : Int32), .int c0)] [] (.int 0)) :
    ctr l Z (⟨"java/lang/StringUTF16", "compress", "([CII)[B"⟩ : MethodName) jdk_52_method_16_code 6 (some (.array .byte)) [] ({ frames := 1, cells := 1, slots := 8, locals := 20 } : Room) 1 8 #[(.ref ca), (.int (0 : Int32)), (.int (1 : Int32))] h0 (fun v h L => ∃ bb kb, v = some (.ref bb) ∧ n0 ≤ bb ∧ h0.size ≤ bb ∧ Fr n0 L ∧ Ext h0 h ∧ Arh Z h bb kb .byte 1 [((0 : Int32), .int (own_B c0))] [] (.int 0)) := by
  refine ctr_of (by decide +kernel) ?_
  intro p e s m below meth jc s₁ hx hby hml hret hlk hnm hown hZ e0 X0
  have N0 := Fr.nil n0
  have hg : ∀ (i : Nat) {d : Jvm.Cond}, tables_1[i]? = some d → d.before a0 Z = true := fun i d q => hw d (List.mem_of_getElem? q)
  refine Dn.cast (ef5_AII m ca (0 : Int32) (1 : Int32)) ?_
  show Dn p e below s _ _ _ (s₁.setTop (mkF m 0 #[.val (.ref ca), .val (.int (0 : Int32)), .val (.int (1 : Int32)), .unset, .unset, .unset] []))
  refine Dn.of (fun tt_ zz_ => XS.iloadN X0.here hx rfl (hb hby d5_0) rfl zz_) ?_
  show Dn p e below s _ _ _ (s₁.setTop (mkF m 1 #[.val (.ref ca), .val (.int (0 : Int32)), .val (.int (1 : Int32)), .unset, .unset, .unset] [(.int (1 : Int32))]))
  obtain ⟨T4, h4, k4, X4, e4, E4, A4, st4⟩ := newP X0 hx hZ (hg 23 rfl) e0 (g := (mkF m 1 #[.val (.ref ca), .val (.int (0 : Int32)), .val (.int (1 : Int32)), .unset, .unset, .unset] [(.int (1 : Int32))])) rfl (hb hby d5_1) rfl (by decide) (cap := 4) (by decide) (by decide) (by decide) (by decide)
  obtain ⟨b4, g4⟩ : ∃ z, z = h0.size := ⟨_, rfl⟩
  rw [← g4] at A4 st4
  refine Dn.of st4 ?_
  show Dn p e below s _ _ _ (T4.setTop (mkF m 3 #[.val (.ref ca), .val (.int (0 : Int32)), .val (.int (1 : Int32)), .unset, .unset, .unset] [(.ref b4)]))
  have RB : Arh Z h4 b4 k4 .byte 1 [] [] (.int 0) := (Arv.new A4 (by decide)).arh
  have gb : n0 ≤ b4 := g4 ▸ Z0
  have dn : ca ≠ b4 := Nat.ne_of_lt (g4 ▸ RC.lt)
  refine Dn.of (fun tt_ zz_ => XS.astoreN X4.here hx rfl (hb hby d5_3) rfl rfl (l' := #[.val (.ref ca), .val (.int (0 : Int32)), .val (.int (1 : Int32)), .val (.ref b4), .unset, .unset]) rfl zz_) ?_
  refine Dn.of (fun tt_ zz_ => XS.aloadN X4.here hx rfl (hb hby d5_4) rfl rfl zz_) ?_
  refine Dn.of (fun tt_ zz_ => XS.iloadN X4.here hx rfl (hb hby d5_5) rfl zz_) ?_
  refine Dn.of (fun tt_ zz_ => XS.aloadN X4.here hx rfl (hb hby d5_6) rfl rfl zz_) ?_
  show Dn p e below s _ _ _ (T4.setTop (mkF m 7 #[.val (.ref ca), .val (.int (0 : Int32)), .val (.int (1 : Int32)), .val (.ref b4), .unset, .unset] [(.ref b4), (.int (0 : Int32)), (.ref ca)]))
  refine Dn.of (fun tt_ zz_ => XS.iconst X4.here hx rfl (hb hby d5_7) zz_) ?_
  refine Dn.of (fun tt_ zz_ => XS.iloadN X4.here hx rfl (hb hby d5_8) rfl zz_) ?_
  show Dn p e below s _ _ _ (T4.setTop (mkF m 9 #[.val (.ref ca), .val (.int (0 : Int32)), .val (.int (1 : Int32)), .val (.ref b4), .unset, .unset] [(.int (1 : Int32)), (.int (0 : Int32)), (.ref b4), (.int (0 : Int32)), (.ref ca)]))
  obtain ⟨v5, T5, L5, Q5, X5, st5⟩ := cSt X4 hx hZ (y := (⟨"java/lang/StringUTF16", "compress", "([CI[BII)I"⟩ : MethodName)) hown (hg 24 rfl) (hg 25 rfl) (hg 21 rfl) (hg 26 rfl) (by decide) (argsL := [(.ref ca), (.int (0 : Int32)), (.ref b4), (.int (0 : Int32)), (.int (1 : Int32))]) (rest := []) (rmC5_1 l Z a0 hw h4 n0 (Nat.le_trans Z0 E4.1) ca b4 kc k4 c0 y0 (RC.ext E4) RB dn gb) e4  0 (by decide) (by decide) (by decide) (by decide) (g := (mkF m 9 #[.val (.ref ca), .val (.int (0 : Int32)), .val (.int (1 : Int32)), .val (.ref b4), .unset, .unset] [(.int (1 : Int32)), (.int (0 : Int32)), (.ref b4), (.int (0 : Int32)), (.ref ca)])) rfl (by rw [hml]; rfl) (lenOf pd0 rfl) rfl (by show 2 * 0 + _ ≤ _; exact Nat.le_of_eq rfl) (hb hby d5_9)
  obtain ⟨rfl, M1, K1, R1⟩ := Q5
  refine Dn.of st5 ?_
  show Dn p e below s _ _ _ (T5.setTop (mkF m 12 #[.val (.ref ca), .val (.int (0 : Int32)), .val (.int (1 : Int32)), .val (.ref b4), .unset, .unset] [(.int (1 : Int32))]))
  refine Dn.of (fun tt_ zz_ => XS.istore X5.here hx rfl (hb hby d5_12) rfl (l' := #[.val (.ref ca), .val (.int (0 : Int32)), .val (.int (1 : Int32)), .val (.ref b4), .val (.int (1 : Int32)), .unset]) rfl zz_) ?_
  refine Dn.of (fun tt_ zz_ => XS.iload X5.here hx rfl (hb hby d5_14) rfl zz_) ?_
  refine Dn.of (fun tt_ zz_ => XS.iloadN X5.here hx rfl (hb hby d5_16) rfl zz_) ?_
  show Dn p e below s _ _ _ (T5.setTop (mkF m 17 #[.val (.ref ca), .val (.int (0 : Int32)), .val (.int (1 : Int32)), .val (.ref b4), .val (.int (1 : Int32)), .unset] [(.int (1 : Int32)), (.int (1 : Int32))]))
  refine Dn.of (fun tt_ zz_ => XS.icmpYes X5.here hx rfl (pc0 := 17) (pc' := 57) rfl (hb hby d5_17) rfl (teq rfl).1 (by decide) (by decide) zz_) ?_
  show Dn p e below s _ _ _ (T5.setTop (mkF m 57 #[.val (.ref ca), .val (.int (0 : Int32)), .val (.int (1 : Int32)), .val (.ref b4), .val (.int (1 : Int32)), .unset] []))
  refine Dn.of (fun tt_ zz_ => XS.aloadN X5.here hx rfl (hb hby d5_57) rfl rfl zz_) ?_
  show Dn p e below s _ _ _ (T5.setTop (mkF m 58 #[.val (.ref ca), .val (.int (0 : Int32)), .val (.int (1 : Int32)), .val (.ref b4), .val (.int (1 : Int32)), .unset] [(.ref b4)]))
  exact Dn.retA X5 hx hlk hret rfl rfl (hb hby d5_58) (by decide) (by decide) (⟨_, _, rfl, gb, Nat.le_of_eq g4.symm, Fr.app N0 M1, own_extK E4 K1 (Nat.le_of_eq g4.symm), R1⟩)
theorem ef7_AI (m : MethodId) (x0 : Addr) (x1 : Int32) : entryFrame m #[(.ref x0), (.int x1)] 2 = mkF m 0 #[.val (.ref x0), .val (.int x1)] [] := by first | (simp [entryFrame, mkF, argsToLocals, Value.category]; done) | rfl
set_option maxRecDepth 65536 in
set_option maxHeartbeats 40000000 in
theorem rmCL_1 (l : Launch) (Z : State) (a0 : Array Value) (hw : ∀ d ∈ tables_1, d.before a0 Z = true) (h0 : Heap) (n0 : Nat) (Z0 : n0 ≤ h0.size) (bb : Addr) (kb : ClassId) (hs : List (Int32 × Value)) (RB : Arh Z h0 bb kb .byte 1 hs [] (.int 0)) :
    ctr l Z (⟨"java/lang/StringUTF16", "coderFromArrayLen", "([BI)B"⟩ : MethodName) jdk_52_method_15_code 2 (some .byte) [] ({ frames := 0, cells := 0, slots := 0, locals := 0 } : Room) 0 0 #[(.ref bb), (.int (1 : Int32))] h0 (fun v h L => v = some (.int (0 : Int32)) ∧ Fr n0 L ∧ h = h0) := by
  refine ctr_of (by decide +kernel) ?_
  intro p e s m below meth jc s₁ hx hby hml hret hlk hnm hown hZ e0 X0
  have N0 := Fr.nil n0
  have hg : ∀ (i : Nat) {d : Jvm.Cond}, tables_1[i]? = some d → d.before a0 Z = true := fun i d q => hw d (List.mem_of_getElem? q)
  refine Dn.cast (ef7_AI m bb (1 : Int32)) ?_
  show Dn p e below s _ _ _ (s₁.setTop (mkF m 0 #[.val (.ref bb), .val (.int (1 : Int32))] []))
  refine Dn.of (fun tt_ zz_ => XS.iloadN X0.here hx rfl (hb hby d7_0) rfl zz_) ?_
  refine Dn.of (fun tt_ zz_ => XS.aloadN X0.here hx rfl (hb hby d7_1) rfl rfl zz_) ?_
  show Dn p e below s _ _ _ (s₁.setTop (mkF m 2 #[.val (.ref bb), .val (.int (1 : Int32))] [(.ref bb), (.int (1 : Int32))]))
  have Rl6 := RB
  obtain ⟨d6, B_6, _, Sd6, Nd6, _, _⟩ := Rl6
  refine Dn.of (fun tt_ zz_ => X0.arraylength hx (by rw [e0]; exact B_6.1) (State.isArrayOf_alike hZ.alike B_6.2.1) (g := (mkF m 2 #[.val (.ref bb), .val (.int (1 : Int32))] [(.ref bb), (.int (1 : Int32))])) rfl rfl (hb hby d7_2) tt_ zz_) ?_
  rw [Sd6, own_sz Nd6]
  show Dn p e below s _ _ _ (s₁.setTop (mkF m 3 #[.val (.ref bb), .val (.int (1 : Int32))] [(.int (1 : Int32)), (.int (1 : Int32))]))
  refine Dn.of (fun tt_ zz_ => XS.isub X0.here hx rfl (hb hby d7_3) rfl zz_) ?_
  refine Dn.of (fun tt_ zz_ => XS.bipush X0.here hx rfl (hb hby d7_4) zz_) ?_
  refine Dn.of (fun tt_ zz_ => XS.iushr X0.here hx rfl (hb hby d7_6) rfl zz_) ?_
  refine Dn.of (fun tt_ zz_ => XS.i2b X0.here hx rfl (hb hby d7_7) rfl zz_) ?_
  show Dn p e below s _ _ _ (s₁.setTop (mkF m 8 #[.val (.ref bb), .val (.int (1 : Int32))] [(.int (((((1 : Int32) - (1 : Int32)).toUInt32 >>> ((31 : Int32) &&& 31).toUInt32).toInt32).toInt8.toInt32))]))
  exact Dn.retN X0 hx hlk (t := .byte) hret (by simp) (hb hby d7_8) (by decide) (by decide) (⟨by decide, N0, e0⟩)
theorem ef3_AAIIN (m : MethodId) (x0 : Addr) (x1 : Addr) (x2 : Int32) (x3 : Int32) : entryFrame m #[(.ref x0), (.ref x1), (.int x2), (.int x3), .null] 6 = mkF m 0 #[.val (.ref x0), .val (.ref x1), .val (.int x2), .val (.int x3), .val .null, .unset] [] := by first | (simp [entryFrame, mkF, argsToLocals, Value.category]; done) | rfl
set_option maxRecDepth 65536 in
set_option maxHeartbeats 40000000 in
theorem rmS4_1 (l : Launch) (Z : State) (a0 : Array Value) (hw : ∀ d ∈ tables_1, d.before a0 Z = true) (h0 : Heap) (n0 : Nat) (Z0 : n0 ≤ h0.size) (a ca : Addr) (kc : ClassId) (cz : Int32) (hcz : ¬ cz = 0) (SZ : Sta Z Z.heap "java/lang/String" "COMPACT_STRINGS" "Z" (.int cz)) (O0 : Old Z n0 h0) (c0 : Int32) (y0 : own_C c0) (E0 : Exa Z h0 a "java/lang/String") (F1 : Fld Z h0 a "java/lang/String" "value" "[B" .null) (F2 : Fld Z h0 a "java/lang/String" "coder" "B" (.int (0 : Int32))) (g0 : n0 ≤ a) (RC : Arh Z h0 ca kc .char 1 [((0 : Int32), .int c0)] [] (.int 0)) :
    ctr l Z (⟨"java/lang/String", "<init>", "([CIILjava/lang/Void;)V"⟩ : MethodName) jdk_42_method_149_code 6 none [] ({ frames := 2, cells := 1, slots := 8, locals := 44 } : Room) 1 8 #[(.ref a), (.ref ca), (.int (0 : Int32)), (.int (1 : Int32)), .null] h0 (fun v h L => ∃ bb, v = none ∧ Fr n0 L ∧ Keep h0 h [a] ∧ h0.size ≤ bb ∧ own_Str Z h a bb 1 [own_B c0]) := by
  refine ctr_of (by decide +kernel) ?_
  intro p e s m below meth jc s₁ hx hby hml hret hlk hnm hown hZ e0 X0
  have N0 := Fr.nil n0
  have hg : ∀ (i : Nat) {d : Jvm.Cond}, tables_1[i]? = some d → d.before a0 Z = true := fun i d q => hw d (List.mem_of_getElem? q)
  refine Dn.cast (ef3_AAIIN m a ca (0 : Int32) (1 : Int32)) ?_
  show Dn p e below s _ _ _ (s₁.setTop (mkF m 0 #[.val (.ref a), .val (.ref ca), .val (.int (0 : Int32)), .val (.int (1 : Int32)), .val .null, .unset] []))
  have s1 : Jvm.RoadKit.slotOf Z "java/lang/String" "value" "[B" ≠ Jvm.RoadKit.slotOf Z "java/lang/String" "coder" "B" := slot_ne (Or.inr (hg 33 rfl)) (Or.inr (hg 31 rfl)) (by decide) (t := (.array .byte)) (t' := .byte) (by decide) (by decide)
  have s2 : Jvm.RoadKit.slotOf Z "java/lang/String" "coder" "B" ≠ Jvm.RoadKit.slotOf Z "java/lang/String" "value" "[B" := slot_ne (Or.inr (hg 31 rfl)) (Or.inr (hg 33 rfl)) (by decide) (t := .byte) (t' := (.array .byte)) (by decide) (by decide)
  refine Dn.of (fun tt_ zz_ => XS.aloadN X0.here hx rfl (hb hby d3_0) rfl rfl zz_) ?_
  show Dn p e below s _ _ _ (s₁.setTop (mkF m 1 #[.val (.ref a), .val (.ref ca), .val (.int (0 : Int32)), .val (.int (1 : Int32)), .val .null, .unset] [(.ref a)]))
  obtain ⟨T7, X7, e7, st7⟩ := initO X0 hx hZ hown (hg 15 rfl) (hg 16 rfl) (hg 17 rfl) e0 (g := (mkF m 1 #[.val (.ref a), .val (.ref ca), .val (.int (0 : Int32)), .val (.int (1 : Int32)), .val .null, .unset] [(.ref a)])) rfl (by rw [hml]; rfl) rfl (hb hby d3_1) (by decide) (W := 0) (by show 2 * 0 + _ ≤ _; exact Nat.le_of_eq rfl) (by decide)
  refine Dn.of st7 ?_
  show Dn p e below s _ _ _ (T7.setTop (mkF m 4 #[.val (.ref a), .val (.ref ca), .val (.int (0 : Int32)), .val (.int (1 : Int32)), .val .null, .unset] []))
  refine Dn.of (fun tt_ zz_ => XS.iloadN X7.here hx rfl (hb hby d3_4) rfl zz_) ?_
  show Dn p e below s _ _ _ (T7.setTop (mkF m 5 #[.val (.ref a), .val (.ref ca), .val (.int (0 : Int32)), .val (.int (1 : Int32)), .val .null, .unset] [(.int (1 : Int32))]))
  refine Dn.of (fun tt_ zz_ => XS.ifYes X7.here hx rfl (pc0 := 5) (pc' := 27) rfl (hb hby d3_5) rfl ((if0 _ _).trans (feq (by decide)).2) (by decide) (by decide) zz_) ?_
  show Dn p e below s _ _ _ (T7.setTop (mkF m 27 #[.val (.ref a), .val (.ref ca), .val (.int (0 : Int32)), .val (.int (1 : Int32)), .val .null, .unset] []))
  obtain ⟨T8, X8, e8, st8⟩ := getS2 X7 hx hZ hown (host := "") (Or.inl (hg 18 rfl)) Via.refl e7 (SZ.ext O0.2) (g := (mkF m 27 #[.val (.ref a), .val (.ref ca), .val (.int (0 : Int32)), .val (.int (1 : Int32)), .val .null, .unset] [])) rfl (hb hby d3_27)
  refine Dn.of st8 ?_
  show Dn p e below s _ _ _ (T8.setTop (mkF m 30 #[.val (.ref a), .val (.ref ca), .val (.int (0 : Int32)), .val (.int (1 : Int32)), .val .null, .unset] [(.int cz)]))
  refine Dn.of (fun tt_ zz_ => XS.ifNo X8.here hx rfl (hb hby d3_30) rfl ((if0 _ _).trans (feq hcz).1) zz_) ?_
  show Dn p e below s _ _ _ (T8.setTop (mkF m 33 #[.val (.ref a), .val (.ref ca), .val (.int (0 : Int32)), .val (.int (1 : Int32)), .val .null, .unset] []))
  refine Dn.of (fun tt_ zz_ => XS.aloadN X8.here hx rfl (hb hby d3_33) rfl rfl zz_) ?_
  refine Dn.of (fun tt_ zz_ => XS.iloadN X8.here hx rfl (hb hby d3_34) rfl zz_) ?_
  refine Dn.of (fun tt_ zz_ => XS.iloadN X8.here hx rfl (hb hby d3_35) rfl zz_) ?_
  show Dn p e below s _ _ _ (T8.setTop (mkF m 36 #[.val (.ref a), .val (.ref ca), .val (.int (0 : Int32)), .val (.int (1 : Int32)), .val .null, .unset] [(.int (1 : Int32)), (.int (0 : Int32)), (.ref ca)]))
  obtain ⟨v9, T9, L9, Q9, X9, st9⟩ := cSt X8 hx hZ (y := (⟨"java/lang/StringUTF16", "compress", "([CII)[B"⟩ : MethodName)) hown (hg 19 rfl) (hg 20 rfl) (hg 21 rfl) (hg 22 rfl) (by decide) (argsL := [(.ref ca), (.int (0 : Int32)), (.int (1 : Int32))]) (rest := []) (rmC3_1 l Z a0 hw h0 n0 Z0 ca kc c0 y0 RC) e8  0 (by decide) (by decide) (by decide) (by decide) (g := (mkF m 36 #[.val (.ref a), .val (.ref ca), .val (.int (0 : Int32)), .val (.int (1 : Int32)), .val .null, .unset] [(.int (1 : Int32)), (.int (0 : Int32)), (.ref ca)])) rfl (by rw [hml]; rfl) (lenOf pd1 rfl) rfl (by show 2 * 0 + _ ≤ _; exact Nat.le_of_eq rfl) (hb hby d3_36)
  obtain ⟨bb, kb, rfl, gb, lb, M1, X1, R1⟩ := Q9
  refine Dn.of st9 ?_
  show Dn p e below s _ _ _ (T9.setTop (mkF m 39 #[.val (.ref a), .val (.ref ca), .val (.int (0 : Int32)), .val (.int (1 : Int32)), .val .null, .unset] [(.ref bb)]))
  refine Dn.of (fun tt_ zz_ => XS.astore X9.here hx rfl (hb hby d3_39) rfl rfl (l' := #[.val (.ref a), .val (.ref ca), .val (.int (0 : Int32)), .val (.int (1 : Int32)), .val .null, .val (.ref bb)]) rfl zz_) ?_
  refine Dn.of (fun tt_ zz_ => XS.aloadN X9.here hx rfl (hb hby d3_41) rfl rfl zz_) ?_
  refine Dn.of (fun tt_ zz_ => XS.aload X9.here hx rfl (hb hby d3_42) rfl rfl zz_) ?_
  refine Dn.of (fun tt_ zz_ => XS.iloadN X9.here hx rfl (hb hby d3_44) rfl zz_) ?_
  show Dn p e below s _ _ _ (T9.setTop (mkF m 45 #[.val (.ref a), .val (.ref ca), .val (.int (0 : Int32)), .val (.int (1 : Int32)), .val .null, .val (.ref bb)] [(.int (1 : Int32)), (.ref bb), (.ref a)]))
  have dn : bb ≠ a := Ne.symm (Nat.ne_of_lt (Nat.lt_of_lt_of_le E0.lt lb))
  obtain ⟨v10, T10, L10, Q10, X10, st10⟩ := cSt X9 hx hZ (y := (⟨"java/lang/StringUTF16", "coderFromArrayLen", "([BI)B"⟩ : MethodName)) hown (hg 27 rfl) (hg 28 rfl) (hg 21 rfl) (hg 29 rfl) (by decide) (argsL := [(.ref bb), (.int (1 : Int32))]) (rest := [(.ref a)]) (rmCL_1 l Z a0 hw T9.heap n0 (Nat.le_trans Z0 X1.1) bb kb _ R1) rfl  1 (by decide) (by decide) (by decide) (by decide) (g := (mkF m 45 #[.val (.ref a), .val (.ref ca), .val (.int (0 : Int32)), .val (.int (1 : Int32)), .val .null, .val (.ref bb)] [(.int (1 : Int32)), (.ref bb), (.ref a)])) rfl (by rw [hml]; rfl) (lenOf pd2 rfl) rfl (by show 2 * 0 + _ ≤ _; exact Nat.le_of_eq rfl) (hb hby d3_45)
  obtain ⟨rfl, M2, e10⟩ := Q10
  refine Dn.of st10 ?_
  show Dn p e below s _ _ _ (T10.setTop (mkF m 48 #[.val (.ref a), .val (.ref ca), .val (.int (0 : Int32)), .val (.int (1 : Int32)), .val .null, .val (.ref bb)] [(.int (0 : Int32)), (.ref a)]))
  obtain ⟨T11, h11, X11, e11, W11, st11⟩ := putF X10 hx hZ hown (host := "") (Or.inl (hg 30 rfl)) Via.refl e10 (F2.ext X1) (E0.ext X1) (Or.inr ⟨(hg 31 rfl), rfl, hnm⟩) (hg 6 rfl) (ty := .byte) (by decide) rfl rfl (g := (mkF m 48 #[.val (.ref a), .val (.ref ca), .val (.int (0 : Int32)), .val (.int (1 : Int32)), .val .null, .val (.ref bb)] [(.int (0 : Int32)), (.ref a)])) rfl rfl (hb hby d3_48)
  refine Dn.of st11 ?_
  show Dn p e below s _ _ _ (T11.setTop (mkF m 51 #[.val (.ref a), .val (.ref ca), .val (.int (0 : Int32)), .val (.int (1 : Int32)), .val .null, .val (.ref bb)] []))
  have N1 := Fr.snoc X11 (Fr.app (Fr.app N0 M1) M2) g0
  refine Dn.of (fun tt_ zz_ => XS.aloadN X11.here hx rfl (hb hby d3_51) rfl rfl zz_) ?_
  refine Dn.of (fun tt_ zz_ => XS.aload X11.here hx rfl (hb hby d3_52) rfl rfl zz_) ?_
  show Dn p e below s _ _ _ (T11.setTop (mkF m 54 #[.val (.ref a), .val (.ref ca), .val (.int (0 : Int32)), .val (.int (1 : Int32)), .val .null, .val (.ref bb)] [(.ref bb), (.ref a)]))
  obtain ⟨T12, h12, X12, e12, W12, st12⟩ := putF X11 hx hZ hown (host := "") (Or.inl (hg 32 rfl)) Via.refl e11 ((F1.ext X1).other W11 (Or.inr s1)) ((E0.ext X1).wr W11) (Or.inr ⟨(hg 33 rfl), rfl, hnm⟩) (hg 6 rfl) (ty := (.array .byte)) (by decide) rfl rfl (g := (mkF m 54 #[.val (.ref a), .val (.ref ca), .val (.int (0 : Int32)), .val (.int (1 : Int32)), .val .null, .val (.ref bb)] [(.ref bb), (.ref a)])) rfl rfl (hb hby d3_54)
  refine Dn.of st12 ?_
  show Dn p e below s _ _ _ (T12.setTop (mkF m 57 #[.val (.ref a), .val (.ref ca), .val (.int (0 : Int32)), .val (.int (1 : Int32)), .val .null, .val (.ref bb)] []))
  have N2 := Fr.snoc X12 N1 g0
  have R2 := own_arv (vs := own_vs [own_B c0]) ((R1.other W11 dn).other W12 dn) (fun i hi => by
    have : i < 1 := hi
    rcases i with _ | i
    · rfl
    · omega)
  exact Dn.retV X12 hx hlk hret (hb hby d3_57) (by decide) (by decide) (by rw [e12]; exact ⟨bb, rfl, N2, (((Keep.refl h0 [a]).ext X1).wr W11 (Or.inl (List.mem_of_getElem? (i := 0) rfl))).wr W12 (Or.inl (List.mem_of_getElem? (i := 0) rfl)), lb, _, ((E0.ext X1).wr W11).wr W12, ((F2.ext X1).same W11).other W12 (Or.inr s2), ((F1.ext X1).other W11 (Or.inr s1)).same W12, R2⟩)
theorem ef2_AA (m : MethodId) (x0 : Addr) (x1 : Addr) : entryFrame m #[(.ref x0), (.ref x1)] 2 = mkF m 0 #[.val (.ref x0), .val (.ref x1)] [] := by first | (simp [entryFrame, mkF, argsToLocals, Value.category]; done) | rfl
set_option maxRecDepth 65536 in
set_option maxHeartbeats 40000000 in
theorem rmS1_1 (l : Launch) (Z : State) (a0 : Array Value) (hw : ∀ d ∈ tables_1, d.before a0 Z = true) (h0 : Heap) (n0 : Nat) (Z0 : n0 ≤ h0.size) (a ca : Addr) (kc : ClassId) (cz : Int32) (hcz : ¬ cz = 0) (SZ : Sta Z Z.heap "java/lang/String" "COMPACT_STRINGS" "Z" (.int cz)) (O0 : Old Z n0 h0) (c0 : Int32) (y0 : own_C c0) (E0 : Exa Z h0 a "java/lang/String") (F1 : Fld Z h0 a "java/lang/String" "value" "[B" .null) (F2 : Fld Z h0 a "java/lang/String" "coder" "B" (.int (0 : Int32))) (g0 : n0 ≤ a) (RC : Arh Z h0 ca kc .char 1 [((0 : Int32), .int c0)] [] (.int 0)) :
    ctr l Z (⟨"java/lang/String", "<init>", "([C)V"⟩ : MethodName) jdk_42_method_3_code 2 none [] ({ frames := 3, cells := 1, slots := 8, locals := 68 } : Room) 1 8 #[(.ref a), (.ref ca)] h0 (fun v h L => ∃ bb, v = none ∧ Fr n0 L ∧ Keep h0 h [a] ∧ h0.size ≤ bb ∧ own_Str Z h a bb 1 [own_B c0]) := by
  refine ctr_of (by decide +kernel) ?_
  intro p e s m below meth jc s₁ hx hby hml hret hlk hnm hown hZ e0 X0
  have N0 := Fr.nil n0
  have hg : ∀ (i : Nat) {d : Jvm.Cond}, tables_1[i]? = some d → d.before a0 Z = true := fun i d q => hw d (List.mem_of_getElem? q)
  refine Dn.cast (ef2_AA m a ca) ?_
  show Dn p e below s _ _ _ (s₁.setTop (mkF m 0 #[.val (.ref a), .val (.ref ca)] []))
  refine Dn.of (fun tt_ zz_ => XS.aloadN X0.here hx rfl (hb hby d2_0) rfl rfl zz_) ?_
  refine Dn.of (fun tt_ zz_ => XS.aloadN X0.here hx rfl (hb hby d2_1) rfl rfl zz_) ?_
  refine Dn.of (fun tt_ zz_ => XS.iconst X0.here hx rfl (hb hby d2_2) zz_) ?_
  refine Dn.of (fun tt_ zz_ => XS.aloadN X0.here hx rfl (hb hby d2_3) rfl rfl zz_) ?_
  show Dn p e below s _ _ _ (s₁.setTop (mkF m 4 #[.val (.ref a), .val (.ref ca)] [(.ref ca), (.int (0 : Int32)), (.ref ca), (.ref a)]))
  have Rl13 := RC
  obtain ⟨d13, B_13, _, Sd13, Nd13, _, _⟩ := Rl13
  refine Dn.of (fun tt_ zz_ => X0.arraylength hx (by rw [e0]; exact B_13.1) (State.isArrayOf_alike hZ.alike B_13.2.1) (g := (mkF m 4 #[.val (.ref a), .val (.ref ca)] [(.ref ca), (.int (0 : Int32)), (.ref ca), (.ref a)])) rfl rfl (hb hby d2_4) tt_ zz_) ?_
  rw [Sd13, own_sz Nd13]
  show Dn p e below s _ _ _ (s₁.setTop (mkF m 5 #[.val (.ref a), .val (.ref ca)] [(.int (1 : Int32)), (.int (0 : Int32)), (.ref ca), (.ref a)]))
  refine Dn.of (fun tt_ zz_ => XS.aconstNull X0.here hx rfl (hb hby d2_5) zz_) ?_
  show Dn p e below s _ _ _ (s₁.setTop (mkF m 6 #[.val (.ref a), .val (.ref ca)] [.null, (.int (1 : Int32)), (.int (0 : Int32)), (.ref ca), (.ref a)]))
  obtain ⟨v14, T14, L14, Q14, X14, st14⟩ := cIn X0 hx hZ (y := (⟨"java/lang/String", "<init>", "([CIILjava/lang/Void;)V"⟩ : MethodName)) rfl hown (hg 11 rfl) (hg 12 rfl) (hg 7 rfl) (hg 14 rfl) (by decide) (a := a) (argsL := [(.ref ca), (.int (0 : Int32)), (.int (1 : Int32)), .null]) (rest := []) (rmS4_1 l Z a0 hw h0 n0 Z0 a ca kc cz hcz SZ O0 c0 y0 E0 F1 F2 g0 RC) e0  0 (by decide) (by decide) (by decide) (by decide) (g := (mkF m 6 #[.val (.ref a), .val (.ref ca)] [.null, (.int (1 : Int32)), (.int (0 : Int32)), (.ref ca), (.ref a)])) rfl (by rw [hml]; rfl) (lenOf pd3 rfl) rfl (by show 2 * 0 + _ ≤ _; exact Nat.le_of_eq rfl) (hb hby d2_6)
  obtain ⟨bb, rfl, M1, r⟩ := Q14
  refine Dn.of st14 ?_
  show Dn p e below s _ _ _ (T14.setTop (mkF m 9 #[.val (.ref a), .val (.ref ca)] []))
  exact Dn.retV X14 hx hlk hret (hb hby d2_9) (by decide) (by decide) (⟨bb, rfl, Fr.app N0 M1, r⟩)
set_option maxRecDepth 65536 in
set_option maxHeartbeats 40000000 in
theorem rmC5_2 (l : Launch) (Z : State) (a0 : Array Value) (hw : ∀ d ∈ tables_1, d.before a0 Z = true) (h0 : Heap) (n0 : Nat) (Z0 : n0 ≤ h0.size) (ca bb : Addr) (kc kb : ClassId) (c0 c1 : Int32) (y0 : own_C c0) (y1 : own_C c1) (RC : Arh Z h0 ca kc .char 2 [((1 : Int32), .int c1), ((0 : Int32), .int c0)] [] (.int 0)) (RB : Arh Z h0 bb kb .byte 2 [] [] (.int 0)) (dn : ca ≠ bb) (g0 : n0 ≤ bb) :
    ctr l Z (⟨"java/lang/StringUTF16", "compress", "([CI[BII)I"⟩ : MethodName) jdk_52_method_21_code 7 (some .int) [] ({ frames := 0, cells := 0, slots := 0, locals := 0 } : Room) 0 0 #[(.ref ca), (.int (0 : Int32)), (.ref bb), (.int (0 : Int32)), (.int (2 : Int32))] h0 (fun v h L => v = some (.int (2 : Int32)) ∧ Fr n0 L ∧ Keep h0 h [bb] ∧ Arh Z h bb kb .byte 2 [((1 : Int32), .int (own_B c1)), ((0 : Int32), .int (own_B c0))] [] (.int 0)) := by
  refine ctr_of (by decide +kernel) ?_
  intro p e s m below meth jc s₁ hx hby hml hret hlk hnm hown hZ e0 X0
  have N0 := Fr.nil n0
  have hg : ∀ (i : Nat) {d : Jvm.Cond}, tables_1[i]? = some d → d.before a0 Z = true := fun i d q => hw d (List.mem_of_getElem? q)
  refine Dn.cast (ef6_AIAII m ca (0 : Int32) bb (0 : Int32) (2 : Int32)) ?_
  show Dn p e below s _ _ _ (s₁.setTop (mkF m 0 #[.val (.ref ca), .val (.int (0 : Int32)), .val (.ref bb), .val (.int (0 : Int32)), .val (.int (2 : Int32)), .unset, .unset] []))
  refine Dn.of (fun tt_ zz_ => XS.iconst X0.here hx rfl (hb hby d6_0) zz_) ?_
  refine Dn.of (fun tt_ zz_ => XS.istore X0.here hx rfl (hb hby d6_1) rfl (l' := #[.val (.ref ca), .val (.int (0 : Int32)), .val (.ref bb), .val (.int (0 : Int32)), .val (.int (2 : Int32)), .val (.int (0 : Int32)), .unset]) rfl zz_) ?_
  refine Dn.of (fun tt_ zz_ => XS.iload X0.here hx rfl (hb hby d6_3) rfl zz_) ?_
  refine Dn.of (fun tt_ zz_ => XS.iload X0.here hx rfl (hb hby d6_5) rfl zz_) ?_
  show Dn p e below s _ _ _ (s₁.setTop (mkF m 7 #[.val (.ref ca), .val (.int (0 : Int32)), .val (.ref bb), .val (.int (0 : Int32)), .val (.int (2 : Int32)), .val (.int (0 : Int32)), .unset] [(.int (2 : Int32)), (.int (0 : Int32))]))
  refine Dn.of (fun tt_ zz_ => XS.icmpNo X0.here hx rfl (hb hby d6_7) rfl (tlt (by decide)).2.1 zz_) ?_
  show Dn p e below s _ _ _ (s₁.setTop (mkF m 10 #[.val (.ref ca), .val (.int (0 : Int32)), .val (.ref bb), .val (.int (0 : Int32)), .val (.int (2 : Int32)), .val (.int (0 : Int32)), .unset] []))
  refine Dn.of (fun tt_ zz_ => XS.aloadN X0.here hx rfl (hb hby d6_10) rfl rfl zz_) ?_
  refine Dn.of (fun tt_ zz_ => XS.iloadN X0.here hx rfl (hb hby d6_11) rfl zz_) ?_
  show Dn p e below s _ _ _ (s₁.setTop (mkF m 12 #[.val (.ref ca), .val (.int (0 : Int32)), .val (.ref bb), .val (.int (0 : Int32)), .val (.int (2 : Int32)), .val (.int (0 : Int32)), .unset] [(.int (0 : Int32)), (.ref ca)]))
  have Rr15 := RC
  obtain ⟨d15, B_15, _, Sd15, _, Hd15, _⟩ := Rr15
  refine Dn.of (fun tt_ zz_ => X0.caload hx (j := (0 : Int32)) (v := (.int c0)) (by rw [e0]; exact B_15.1) (State.isArrayOf_alike hZ.alike B_15.2.1) B_15.2.2 (inb_of Sd15 (by decide)) (atH Hd15 (inb_of Sd15 (by decide)) rfl) (g := (mkF m 12 #[.val (.ref ca), .val (.int (0 : Int32)), .val (.ref bb), .val (.int (0 : Int32)), .val (.int (2 : Int32)), .val (.int (0 : Int32)), .unset] [(.int (0 : Int32)), (.ref ca)])) rfl rfl (hb hby d6_12) tt_ zz_) ?_
  show Dn p e below s _ _ _ (s₁.setTop (mkF m 13 #[.val (.ref ca), .val (.int (0 : Int32)), .val (.ref bb), .val (.int (0 : Int32)), .val (.int (2 : Int32)), .val (.int (0 : Int32)), .unset] [(.int c0)]))
  refine Dn.of (fun tt_ zz_ => XS.istore X0.here hx rfl (hb hby d6_13) rfl (l' := #[.val (.ref ca), .val (.int (0 : Int32)), .val (.ref bb), .val (.int (0 : Int32)), .val (.int (2 : Int32)), .val (.int (0 : Int32)), .val (.int c0)]) rfl zz_) ?_
  refine Dn.of (fun tt_ zz_ => XS.iload X0.here hx rfl (hb hby d6_15) rfl zz_) ?_
  refine Dn.of (fun tt_ zz_ => XS.sipush X0.here hx rfl (hb hby d6_17) zz_) ?_
  show Dn p e below s _ _ _ (s₁.setTop (mkF m 20 #[.val (.ref ca), .val (.int (0 : Int32)), .val (.ref bb), .val (.int (0 : Int32)), .val (.int (2 : Int32)), .val (.int (0 : Int32)), .val (.int c0)] [(.int (255 : Int32)), (.int c0)]))
  refine Dn.of (fun tt_ zz_ => XS.icmpYes X0.here hx rfl (pc0 := 20) (pc' := 26) rfl (hb hby d6_20) rfl (flt (own_gt y0)).2.2.2 (by decide) (by decide) zz_) ?_
  show Dn p e below s _ _ _ (s₁.setTop (mkF m 26 #[.val (.ref ca), .val (.int (0 : Int32)), .val (.ref bb), .val (.int (0 : Int32)), .val (.int (2 : Int32)), .val (.int (0 : Int32)), .val (.int c0)] []))
  refine Dn.of (fun tt_ zz_ => XS.aloadN X0.here hx rfl (hb hby d6_26) rfl rfl zz_) ?_
  refine Dn.of (fun tt_ zz_ => XS.iloadN X0.here hx rfl (hb hby d6_27) rfl zz_) ?_
  refine Dn.of (fun tt_ zz_ => XS.iload X0.here hx rfl (hb hby d6_28) rfl zz_) ?_
  refine Dn.of (fun tt_ zz_ => XS.i2b X0.here hx rfl (hb hby d6_30) rfl zz_) ?_
  show Dn p e below s _ _ _ (s₁.setTop (mkF m 31 #[.val (.ref ca), .val (.int (0 : Int32)), .val (.ref bb), .val (.int (0 : Int32)), .val (.int (2 : Int32)), .val (.int (0 : Int32)), .val (.int c0)] [(.int (c0.toInt8.toInt32)), (.int (0 : Int32)), (.ref bb)]))
  obtain ⟨c16, A_16, p16, S16, P16, H16, G16⟩ := RB
  obtain ⟨T17, h17, X17, e17, W17, st17⟩ := stB X0 hx hZ e0 A_16 (j := (0 : Int32)) (inb_of S16 (by decide)) (g := (mkF m 31 #[.val (.ref ca), .val (.int (0 : Int32)), .val (.ref bb), .val (.int (0 : Int32)), .val (.int (2 : Int32)), .val (.int (0 : Int32)), .val (.int c0)] [(.int (c0.toInt8.toInt32)), (.int (0 : Int32)), (.ref bb)])) rfl rfl (hb hby d6_31)
  refine Dn.of st17 ?_
  show Dn p e below s _ _ _ (T17.setTop (mkF m 32 #[.val (.ref ca), .val (.int (0 : Int32)), .val (.ref bb), .val (.int (0 : Int32)), .val (.int (2 : Int32)), .val (.int (0 : Int32)), .val (.int c0)] []))
  have R_16 := Arh.push A_16 p16 S16 P16 H16 G16 (v := (.int (own_B c0))) (fits_byte_narrow _) W17 (inb_of S16 (by decide))
  have N16 := Fr.snoc X17 N0 g0
  have K0 := (Keep.refl h0 [bb]).wr W17 (Or.inl (List.mem_of_getElem? (i := 0) rfl))
  have C0 := RC.other W17 dn
  refine Dn.of (fun tt_ zz_ => XS.iinc X17.here hx rfl (hb hby d6_32) rfl (l' := #[.val (.ref ca), .val (.int ((0 : Int32) + (1 : Int32))), .val (.ref bb), .val (.int (0 : Int32)), .val (.int (2 : Int32)), .val (.int (0 : Int32)), .val (.int c0)]) rfl zz_) ?_
  refine Dn.of (fun tt_ zz_ => XS.iinc X17.here hx rfl (hb hby d6_35) rfl (l' := #[.val (.ref ca), .val (.int ((0 : Int32) + (1 : Int32))), .val (.ref bb), .val (.int ((0 : Int32) + (1 : Int32))), .val (.int (2 : Int32)), .val (.int (0 : Int32)), .val (.int c0)]) rfl zz_) ?_
  refine Dn.of (fun tt_ zz_ => XS.iinc X17.here hx rfl (hb hby d6_38) rfl (l' := #[.val (.ref ca), .val (.int ((0 : Int32) + (1 : Int32))), .val (.ref bb), .val (.int ((0 : Int32) + (1 : Int32))), .val (.int (2 : Int32)), .val (.int ((0 : Int32) + (1 : Int32))), .val (.int c0)]) rfl zz_) ?_
  refine Dn.of (fun tt_ zz_ => XS.goto X17.here hx rfl (pc0 := 41) (pc' := 3) rfl (hb hby d6_41) (by decide) (by decide) zz_) ?_
  show Dn p e below s _ _ _ (T17.setTop (mkF m 3 #[.val (.ref ca), .val (.int ((0 : Int32) + (1 : Int32))), .val (.ref bb), .val (.int ((0 : Int32) + (1 : Int32))), .val (.int (2 : Int32)), .val (.int ((0 : Int32) + (1 : Int32))), .val (.int c0)] []))
  rw [show ((0 : Int32) + (1 : Int32)) = (1 : Int32) by decide]
  show Dn p e below s _ _ _ (T17.setTop (mkF m 3 #[.val (.ref ca), .val (.int (1 : Int32)), .val (.ref bb), .val (.int (1 : Int32)), .val (.int (2 : Int32)), .val (.int (1 : Int32)), .val (.int c0)] []))
  refine Dn.of (fun tt_ zz_ => XS.iload X17.here hx rfl (hb hby d6_3) rfl zz_) ?_
  refine Dn.of (fun tt_ zz_ => XS.iload X17.here hx rfl (hb hby d6_5) rfl zz_) ?_
  show Dn p e below s _ _ _ (T17.setTop (mkF m 7 #[.val (.ref ca), .val (.int (1 : Int32)), .val (.ref bb), .val (.int (1 : Int32)), .val (.int (2 : Int32)), .val (.int (1 : Int32)), .val (.int c0)] [(.int (2 : Int32)), (.int (1 : Int32))]))
  refine Dn.of (fun tt_ zz_ => XS.icmpNo X17.here hx rfl (hb hby d6_7) rfl (tlt (by decide)).2.1 zz_) ?_
  show Dn p e below s _ _ _ (T17.setTop (mkF m 10 #[.val (.ref ca), .val (.int (1 : Int32)), .val (.ref bb), .val (.int (1 : Int32)), .val (.int (2 : Int32)), .val (.int (1 : Int32)), .val (.int c0)] []))
  refine Dn.of (fun tt_ zz_ => XS.aloadN X17.here hx rfl (hb hby d6_10) rfl rfl zz_) ?_
  refine Dn.of (fun tt_ zz_ => XS.iloadN X17.here hx rfl (hb hby d6_11) rfl zz_) ?_
  show Dn p e below s _ _ _ (T17.setTop (mkF m 12 #[.val (.ref ca), .val (.int (1 : Int32)), .val (.ref bb), .val (.int (1 : Int32)), .val (.int (2 : Int32)), .val (.int (1 : Int32)), .val (.int c0)] [(.int (1 : Int32)), (.ref ca)]))
  have Rr18 := C0
  obtain ⟨d18, B_18, _, Sd18, _, Hd18, _⟩ := Rr18
  refine Dn.of (fun tt_ zz_ => X17.caload hx (j := (1 : Int32)) (v := (.int c1)) (by rw [e17]; exact B_18.1) (State.isArrayOf_alike hZ.alike B_18.2.1) B_18.2.2 (inb_of Sd18 (by decide)) (atH Hd18 (inb_of Sd18 (by decide)) rfl) (g := (mkF m 12 #[.val (.ref ca), .val (.int (1 : Int32)), .val (.ref bb), .val (.int (1 : Int32)), .val (.int (2 : Int32)), .val (.int (1 : Int32)), .val (.int c0)] [(.int (1 : Int32)), (.ref ca)])) rfl rfl (hb hby d6_12) tt_ zz_) ?_
  show Dn p e below s _ _ _ (T17.setTop (mkF m 13 #[.val (.ref ca), .val (.int (1 : Int32)), .val (.ref bb), .val (.int (1 : Int32)), .val (.int (2 : Int32)), .val (.int (1 : Int32)), .val (.int c0)] [(.int c1)]))
  refine Dn.of (fun tt_ zz_ => XS.istore X17.here hx rfl (hb hby d6_13) rfl (l' := #[.val (.ref ca), .val (.int (1 : Int32)), .val (.ref bb), .val (.int (1 : Int32)), .val (.int (2 : Int32)), .val (.int (1 : Int32)), .val (.int c1)]) rfl zz_) ?_
  refine Dn.of (fun tt_ zz_ => XS.iload X17.here hx rfl (hb hby d6_15) rfl zz_) ?_
  refine Dn.of (fun tt_ zz_ => XS.sipush X17.here hx rfl (hb hby d6_17) zz_) ?_
  show Dn p e below s _ _ _ (T17.setTop (mkF m 20 #[.val (.ref ca), .val (.int (1 : Int32)), .val (.ref bb), .val (.int (1 : Int32)), .val (.int (2 : Int32)), .val (.int (1 : Int32)), .val (.int c1)] [(.int (255 : Int32)), (.int c1)]))
  refine Dn.of (fun tt_ zz_ => XS.icmpYes X17.here hx rfl (pc0 := 20) (pc' := 26) rfl (hb hby d6_20) rfl (flt (own_gt y1)).2.2.2 (by decide) (by decide) zz_) ?_
  show Dn p e below s _ _ _ (T17.setTop (mkF m 26 #[.val (.ref ca), .val (.int (1 : Int32)), .val (.ref bb), .val (.int (1 : Int32)), .val (.int (2 : Int32)), .val (.int (1 : Int32)), .val (.int c1)] []))
  refine Dn.of (fun tt_ zz_ => XS.aloadN X17.here hx rfl (hb hby d6_26) rfl rfl zz_) ?_
  refine Dn.of (fun tt_ zz_ => XS.iloadN X17.here hx rfl (hb hby d6_27) rfl zz_) ?_
  refine Dn.of (fun tt_ zz_ => XS.iload X17.here hx rfl (hb hby d6_28) rfl zz_) ?_
  refine Dn.of (fun tt_ zz_ => XS.i2b X17.here hx rfl (hb hby d6_30) rfl zz_) ?_
  show Dn p e below s _ _ _ (T17.setTop (mkF m 31 #[.val (.ref ca), .val (.int (1 : Int32)), .val (.ref bb), .val (.int (1 : Int32)), .val (.int (2 : Int32)), .val (.int (1 : Int32)), .val (.int c1)] [(.int (c1.toInt8.toInt32)), (.int (1 : Int32)), (.ref bb)]))
  obtain ⟨c19, A_19, p19, S19, P19, H19, G19⟩ := R_16
  obtain ⟨T20, h20, X20, e20, W20, st20⟩ := stB X17 hx hZ e17 A_19 (j := (1 : Int32)) (inb_of S19 (by decide)) (g := (mkF m 31 #[.val (.ref ca), .val (.int (1 : Int32)), .val (.ref bb), .val (.int (1 : Int32)), .val (.int (2 : Int32)), .val (.int (1 : Int32)), .val (.int c1)] [(.int (c1.toInt8.toInt32)), (.int (1 : Int32)), (.ref bb)])) rfl rfl (hb hby d6_31)
  refine Dn.of st20 ?_
  show Dn p e below s _ _ _ (T20.setTop (mkF m 32 #[.val (.ref ca), .val (.int (1 : Int32)), .val (.ref bb), .val (.int (1 : Int32)), .val (.int (2 : Int32)), .val (.int (1 : Int32)), .val (.int c1)] []))
  have R_19 := Arh.push A_19 p19 S19 P19 H19 G19 (v := (.int (own_B c1))) (fits_byte_narrow _) W20 (inb_of S19 (by decide))
  have N19 := Fr.snoc X20 N16 g0
  have K1 := K0.wr W20 (Or.inl (List.mem_of_getElem? (i := 0) rfl))
  have C1 := C0.other W20 dn
  refine Dn.of (fun tt_ zz_ => XS.iinc X20.here hx rfl (hb hby d6_32) rfl (l' := #[.val (.ref ca), .val (.int ((1 : Int32) + (1 : Int32))), .val (.ref bb), .val (.int (1 : Int32)), .val (.int (2 : Int32)), .val (.int (1 : Int32)), .val (.int c1)]) rfl zz_) ?_
  refine Dn.of (fun tt_ zz_ => XS.iinc X20.here hx rfl (hb hby d6_35) rfl (l' := #[.val (.ref ca), .val (.int ((1 : Int32) + (1 : Int32))), .val (.ref bb), .val (.int ((1 : Int32) + (1 : Int32))), .val (.int (2 : Int32)), .val (.int (1 : Int32)), .val (.int c1)]) rfl zz_) ?_
  refine Dn.of (fun tt_ zz_ => XS.iinc X20.here hx rfl (hb hby d6_38) rfl (l' := #[.val (.ref ca), .val (.int ((1 : Int32) + (1 : Int32))), .val (.ref bb), .val (.int ((1 : Int32) + (1 : Int32))), .val (.int (2 : Int32)), .val (.int ((1 : Int32) + (1 : Int32))), .val (.int c1)]) rfl zz_) ?_
  refine Dn.of (fun tt_ zz_ => XS.goto X20.here hx rfl (pc0 := 41) (pc' := 3) rfl (hb hby d6_41) (by decide) (by decide) zz_) ?_
  show Dn p e below s _ _ _ (T20.setTop (mkF m 3 #[.val (.ref ca), .val (.int ((1 : Int32) + (1 : Int32))), .val (.ref bb), .val (.int ((1 : Int32) + (1 : Int32))), .val (.int (2 : Int32)), .val (.int ((1 : Int32) + (1 : Int32))), .val (.int c1)] []))
  rw [show ((1 : Int32) + (1 : Int32)) = (2 : Int32) by decide]
  show Dn p e below s _ _ _ (T20.setTop (mkF m 3 #[.val (.ref ca), .val (.int (2 : Int32)), .val (.ref bb), .val (.int (2 : Int32)), .val (.int (2 : Int32)), .val (.int (2 : Int32)), .val (.int c1)] []))
  refine Dn.of (fun tt_ zz_ => XS.iload X20.here hx rfl (hb hby d6_3) rfl zz_) ?_
  refine Dn.of (fun tt_ zz_ => XS.iload X20.here hx rfl (hb hby d6_5) rfl zz_) ?_
  show Dn p e below s _ _ _ (T20.setTop (mkF m 7 #[.val (.ref ca), .val (.int (2 : Int32)), .val (.ref bb), .val (.int (2 : Int32)), .val (.int (2 : Int32)), .val (.int (2 : Int32)), .val (.int c1)] [(.int (2 : Int32)), (.int (2 : Int32))]))
  refine Dn.of (fun tt_ zz_ => XS.icmpYes X20.here hx rfl (pc0 := 7) (pc' := 44) rfl (hb hby d6_7) rfl (flt (by decide)).2.1 (by decide) (by decide) zz_) ?_
  show Dn p e below s _ _ _ (T20.setTop (mkF m 44 #[.val (.ref ca), .val (.int (2 : Int32)), .val (.ref bb), .val (.int (2 : Int32)), .val (.int (2 : Int32)), .val (.int (2 : Int32)), .val (.int c1)] []))
  refine Dn.of (fun tt_ zz_ => XS.iload X20.here hx rfl (hb hby d6_44) rfl zz_) ?_
  show Dn p e below s _ _ _ (T20.setTop (mkF m 46 #[.val (.ref ca), .val (.int (2 : Int32)), .val (.ref bb), .val (.int (2 : Int32)), .val (.int (2 : Int32)), .val (.int (2 : Int32)), .val (.int c1)] [(.int (2 : Int32))]))
  exact Dn.retI X20 hx hlk hret (hb hby d6_46) (by decide) (by decide) (by rw [e20]; exact ⟨rfl, N19, K1, R_19⟩)
set_option maxRecDepth 65536 in
set_option maxHeartbeats 40000000 in
theorem rmC3_2 (l : Launch) (Z : State) (a0 : Array Value) (hw : ∀ d ∈ tables_1, d.before a0 Z = true) (h0 : Heap) (n0 : Nat) (Z0 : n0 ≤ h0.size) (ca : Addr) (kc : ClassId) (c0 c1 : Int32) (y0 : own_C c0) (y1 : own_C c1) (RC : Arh Z h0 ca kc .char 2 [((1 : Int32), .int c1), ((0 : Int32), .int c0)] [] (.int 0)) :
    ctr l Z (⟨"java/lang/StringUTF16", "compress", "([CII)[B"⟩ : MethodName) jdk_52_method_16_code 6 (some (.array .byte)) [] ({ frames := 1, cells := 1, slots := 8, locals := 20 } : Room) 1 8 #[(.ref ca), (.int (0 : Int32)), (.int (2 : Int32))] h0 (fun v h L => ∃ bb kb, v = some (.ref bb) ∧ n0 ≤ bb ∧ h0.size ≤ bb ∧ Fr n0 L ∧ Ext h0 h ∧ Arh Z h bb kb .byte 2 [((1 : Int32), .int (own_B c1)), ((0 : Int32), .int (own_B c0))] [] (.int 0)) := by
  refine ctr_of (by decide +kernel) ?_
  intro p e s m below meth jc s₁ hx hby hml hret hlk hnm hown hZ e0 X0
  have N0 := Fr.nil n0
  have hg : ∀ (i : Nat) {d : Jvm.Cond}, tables_1[i]? = some d → d.before a0 Z = true := fun i d q => hw d (List.mem_of_getElem? q)
  refine Dn.cast (ef5_AII m ca (0 : Int32) (2 : Int32)) ?_
  show Dn p e below s _ _ _ (s₁.setTop (mkF m 0 #[.val (.ref ca), .val (.int (0 : Int32)), .val (.int (2 : Int32)), .unset, .unset, .unset] []))
  refine Dn.of (fun tt_ zz_ => XS.iloadN X0.here hx rfl (hb hby d5_0) rfl zz_) ?_
  show Dn p e below s _ _ _ (s₁.setTop (mkF m 1 #[.val (.ref ca), .val (.int (0 : Int32)), .val (.int (2 : Int32)), .unset, .unset, .unset] [(.int (2 : Int32))]))
  obtain ⟨T21, h21, k21, X21, e21, E21, A21, st21⟩ := newP X0 hx hZ (hg 23 rfl) e0 (g := (mkF m 1 #[.val (.ref ca), .val (.int (0 : Int32)), .val (.int (2 : Int32)), .unset, .unset, .unset] [(.int (2 : Int32))])) rfl (hb hby d5_1) rfl (by decide) (cap := 4) (by decide) (by decide) (by decide) (by decide)
  obtain ⟨b21, g21⟩ : ∃ z, z = h0.size := ⟨_, rfl⟩
  rw [← g21] at A21 st21
  refine Dn.of st21 ?_
  show Dn p e below s _ _ _ (T21.setTop (mkF m 3 #[.val (.ref ca), .val (.int (0 : Int32)), .val (.int (2 : Int32)), .unset, .unset, .unset] [(.ref b21)]))
  have RB : Arh Z h21 b21 k21 .byte 2 [] [] (.int 0) := (Arv.new A21 (by decide)).arh
  have gb : n0 ≤ b21 := g21 ▸ Z0
  have dn : ca ≠ b21 := Nat.ne_of_lt (g21 ▸ RC.lt)
  refine Dn.of (fun tt_ zz_ => XS.astoreN X21.here hx rfl (hb hby d5_3) rfl rfl (l' := #[.val (.ref ca), .val (.int (0 : Int32)), .val (.int (2 : Int32)), .val (.ref b21), .unset, .unset]) rfl zz_) ?_
  refine Dn.of (fun tt_ zz_ => XS.aloadN X21.here hx rfl (hb hby d5_4) rfl rfl zz_) ?_
  refine Dn.of (fun tt_ zz_ => XS.iloadN X21.here hx rfl (hb hby d5_5) rfl zz_) ?_
  refine Dn.of (fun tt_ zz_ => XS.aloadN X21.here hx rfl (hb hby d5_6) rfl rfl zz_) ?_
  show Dn p e below s _ _ _ (T21.setTop (mkF m 7 #[.val (.ref ca), .val (.int (0 : Int32)), .val (.int (2 : Int32)), .val (.ref b21), .unset, .unset] [(.ref b21), (.int (0 : Int32)), (.ref ca)]))
  refine Dn.of (fun tt_ zz_ => XS.iconst X21.here hx rfl (hb hby d5_7) zz_) ?_
  refine Dn.of (fun tt_ zz_ => XS.iloadN X21.here hx rfl (hb hby d5_8) rfl zz_) ?_
  show Dn p e below s _ _ _ (T21.setTop (mkF m 9 #[.val (.ref ca), .val (.int (0 : Int32)), .val (.int (2 : Int32)), .val (.ref b21), .unset, .unset] [(.int (2 : Int32)), (.int (0 : Int32)), (.ref b21), (.int (0 : Int32)), (.ref ca)]))
  obtain ⟨v22, T22, L22, Q22, X22, st22⟩ := cSt X21 hx hZ (y := (⟨"java/lang/StringUTF16", "compress", "([CI[BII)I"⟩ : MethodName)) hown (hg 24 rfl) (hg 25 rfl) (hg 21 rfl) (hg 26 rfl) (by decide) (argsL := [(.ref ca), (.int (0 : Int32)), (.ref b21), (.int (0 : Int32)), (.int (2 : Int32))]) (rest := []) (rmC5_2 l Z a0 hw h21 n0 (Nat.le_trans Z0 E21.1) ca b21 kc k21 c0 c1 y0 y1 (RC.ext E21) RB dn gb) e21  0 (by decide) (by decide) (by decide) (by decide) (g := (mkF m 9 #[.val (.ref ca), .val (.int (0 : Int32)), .val (.int (2 : Int32)), .val (.ref b21), .unset, .unset] [(.int (2 : Int32)), (.int (0 : Int32)), (.ref b21), (.int (0 : Int32)), (.ref ca)])) rfl (by rw [hml]; rfl) (lenOf pd0 rfl) rfl (by show 2 * 0 + _ ≤ _; exact Nat.le_of_eq rfl) (hb hby d5_9)
  obtain ⟨rfl, M1, K1, R1⟩ := Q22
  refine Dn.of st22 ?_
  show Dn p e below s _ _ _ (T22.setTop (mkF m 12 #[.val (.ref ca), .val (.int (0 : Int32)), .val (.int (2 : Int32)), .val (.ref b21), .unset, .unset] [(.int (2 : Int32))]))
  refine Dn.of (fun tt_ zz_ => XS.istore X22.here hx rfl (hb hby d5_12) rfl (l' := #[.val (.ref ca), .val (.int (0 : Int32)), .val (.int (2 : Int32)), .val (.ref b21), .val (.int (2 : Int32)), .unset]) rfl zz_) ?_
  refine Dn.of (fun tt_ zz_ => XS.iload X22.here hx rfl (hb hby d5_14) rfl zz_) ?_
  refine Dn.of (fun tt_ zz_ => XS.iloadN X22.here hx rfl (hb hby d5_16) rfl zz_) ?_
  show Dn p e below s _ _ _ (T22.setTop (mkF m 17 #[.val (.ref ca), .val (.int (0 : Int32)), .val (.int (2 : Int32)), .val (.ref b21), .val (.int (2 : Int32)), .unset] [(.int (2 : Int32)), (.int (2 : Int32))]))
  refine Dn.of (fun tt_ zz_ => XS.icmpYes X22.here hx rfl (pc0 := 17) (pc' := 57) rfl (hb hby d5_17) rfl (teq rfl).1 (by decide) (by decide) zz_) ?_
  show Dn p e below s _ _ _ (T22.setTop (mkF m 57 #[.val (.ref ca), .val (.int (0 : Int32)), .val (.int (2 : Int32)), .val (.ref b21), .val (.int (2 : Int32)), .unset] []))
  refine Dn.of (fun tt_ zz_ => XS.aloadN X22.here hx rfl (hb hby d5_57) rfl rfl zz_) ?_
  show Dn p e below s _ _ _ (T22.setTop (mkF m 58 #[.val (.ref ca), .val (.int (0 : Int32)), .val (.int (2 : Int32)), .val (.ref b21), .val (.int (2 : Int32)), .unset] [(.ref b21)]))
  exact Dn.retA X22 hx hlk hret rfl rfl (hb hby d5_58) (by decide) (by decide) (⟨_, _, rfl, gb, Nat.le_of_eq g21.symm, Fr.app N0 M1, own_extK E21 K1 (Nat.le_of_eq g21.symm), R1⟩)
set_option maxRecDepth 65536 in
set_option maxHeartbeats 40000000 in
theorem rmCL_2 (l : Launch) (Z : State) (a0 : Array Value) (hw : ∀ d ∈ tables_1, d.before a0 Z = true) (h0 : Heap) (n0 : Nat) (Z0 : n0 ≤ h0.size) (bb : Addr) (kb : ClassId) (hs : List (Int32 × Value)) (RB : Arh Z h0 bb kb .byte 2 hs [] (.int 0)) :
    ctr l Z (⟨"java/lang/StringUTF16", "coderFromArrayLen", "([BI)B"⟩ : MethodName) jdk_52_method_15_code 2 (some .byte) [] ({ frames := 0, cells := 0, slots := 0, locals := 0 } : Room) 0 0 #[(.ref bb), (.int (2 : Int32))] h0 (fun v h L => v = some (.int (0 : Int32)) ∧ Fr n0 L ∧ h = h0) := by
  refine ctr_of (by decide +kernel) ?_
  intro p e s m below meth jc s₁ hx hby hml hret hlk hnm hown hZ e0 X0
  have N0 := Fr.nil n0
  have hg : ∀ (i : Nat) {d : Jvm.Cond}, tables_1[i]? = some d → d.before a0 Z = true := fun i d q => hw d (List.mem_of_getElem? q)
  refine Dn.cast (ef7_AI m bb (2 : Int32)) ?_
  show Dn p e below s _ _ _ (s₁.setTop (mkF m 0 #[.val (.ref bb), .val (.int (2 : Int32))] []))
  refine Dn.of (fun tt_ zz_ => XS.iloadN X0.here hx rfl (hb hby d7_0) rfl zz_) ?_
  refine Dn.of (fun tt_ zz_ => XS.aloadN X0.here hx rfl (hb hby d7_1) rfl rfl zz_) ?_
  show Dn p e below s _ _ _ (s₁.setTop (mkF m 2 #[.val (.ref bb), .val (.int (2 : Int32))] [(.ref bb), (.int (2 : Int32))]))
  have Rl23 := RB
  obtain ⟨d23, B_23, _, Sd23, Nd23, _, _⟩ := Rl23
  refine Dn.of (fun tt_ zz_ => X0.arraylength hx (by rw [e0]; exact B_23.1) (State.isArrayOf_alike hZ.alike B_23.2.1) (g := (mkF m 2 #[.val (.ref bb), .val (.int (2 : Int32))] [(.ref bb), (.int (2 : Int32))])) rfl rfl (hb hby d7_2) tt_ zz_) ?_
  rw [Sd23, own_sz Nd23]
  show Dn p e below s _ _ _ (s₁.setTop (mkF m 3 #[.val (.ref bb), .val (.int (2 : Int32))] [(.int (2 : Int32)), (.int (2 : Int32))]))
  refine Dn.of (fun tt_ zz_ => XS.isub X0.here hx rfl (hb hby d7_3) rfl zz_) ?_
  refine Dn.of (fun tt_ zz_ => XS.bipush X0.here hx rfl (hb hby d7_4) zz_) ?_
  refine Dn.of (fun tt_ zz_ => XS.iushr X0.here hx rfl (hb hby d7_6) rfl zz_) ?_
  refine Dn.of (fun tt_ zz_ => XS.i2b X0.here hx rfl (hb hby d7_7) rfl zz_) ?_
  show Dn p e below s _ _ _ (s₁.setTop (mkF m 8 #[.val (.ref bb), .val (.int (2 : Int32))] [(.int (((((2 : Int32) - (2 : Int32)).toUInt32 >>> ((31 : Int32) &&& 31).toUInt32).toInt32).toInt8.toInt32))]))
  exact Dn.retN X0 hx hlk (t := .byte) hret (by simp) (hb hby d7_8) (by decide) (by decide) (⟨by decide, N0, e0⟩)
set_option maxRecDepth 65536 in
set_option maxHeartbeats 40000000 in
theorem rmS4_2 (l : Launch) (Z : State) (a0 : Array Value) (hw : ∀ d ∈ tables_1, d.before a0 Z = true) (h0 : Heap) (n0 : Nat) (Z0 : n0 ≤ h0.size) (a ca : Addr) (kc : ClassId) (cz : Int32) (hcz : ¬ cz = 0) (SZ : Sta Z Z.heap "java/lang/String" "COMPACT_STRINGS" "Z" (.int cz)) (O0 : Old Z n0 h0) (c0 c1 : Int32) (y0 : own_C c0) (y1 : own_C c1) (E0 : Exa Z h0 a "java/lang/String") (F1 : Fld Z h0 a "java/lang/String" "value" "[B" .null) (F2 : Fld Z h0 a "java/lang/String" "coder" "B" (.int (0 : Int32))) (g0 : n0 ≤ a) (RC : Arh Z h0 ca kc .char 2 [((1 : Int32), .int c1), ((0 : Int32), .int c0)] [] (.int 0)) :
    ctr l Z (⟨"java/lang/String", "<init>", "([CIILjava/lang/Void;)V"⟩ : MethodName) jdk_42_method_149_code 6 none [] ({ frames := 2, cells := 1, slots := 8, locals := 44 } : Room) 1 8 #[(.ref a), (.ref ca), (.int (0 : Int32)), (.int (2 : Int32)), .null] h0 (fun v h L => ∃ bb, v = none ∧ Fr n0 L ∧ Keep h0 h [a] ∧ h0.size ≤ bb ∧ own_Str Z h a bb 2 [own_B c0, own_B c1]) := by
  refine ctr_of (by decide +kernel) ?_
  intro p e s m below meth jc s₁ hx hby hml hret hlk hnm hown hZ e0 X0
  have N0 := Fr.nil n0
  have hg : ∀ (i : Nat) {d : Jvm.Cond}, tables_1[i]? = some d → d.before a0 Z = true := fun i d q => hw d (List.mem_of_getElem? q)
  refine Dn.cast (ef3_AAIIN m a ca (0 : Int32) (2 : Int32)) ?_
  show Dn p e below s _ _ _ (s₁.setTop (mkF m 0 #[.val (.ref a), .val (.ref ca), .val (.int (0 : Int32)), .val (.int (2 : Int32)), .val .null, .unset] []))
  have s1 : Jvm.RoadKit.slotOf Z "java/lang/String" "value" "[B" ≠ Jvm.RoadKit.slotOf Z "java/lang/String" "coder" "B" := slot_ne (Or.inr (hg 33 rfl)) (Or.inr (hg 31 rfl)) (by decide) (t := (.array .byte)) (t' := .byte) (by decide) (by decide)
  have s2 : Jvm.RoadKit.slotOf Z "java/lang/String" "coder" "B" ≠ Jvm.RoadKit.slotOf Z "java/lang/String" "value" "[B" := slot_ne (Or.inr (hg 31 rfl)) (Or.inr (hg 33 rfl)) (by decide) (t := .byte) (t' := (.array .byte)) (by decide) (by decide)
  refine Dn.of (fun tt_ zz_ => XS.aloadN X0.here hx rfl (hb hby d3_0) rfl rfl zz_) ?_
  show Dn p e below s _ _ _ (s₁.setTop (mkF m 1 #[.val (.ref a), .val (.ref ca), .val (.int (0 : Int32)), .val (.int (2 : Int32)), .val .null, .unset] [(.ref a)]))
  obtain ⟨T24, X24, e24, st24⟩ := initO X0 hx hZ hown (hg 15 rfl) (hg 16 rfl) (hg 17 rfl) e0 (g := (mkF m 1 #[.val (.ref a), .val (.ref ca), .val (.int (0 : Int32)), .val (.int (2 : Int32)), .val .null, .unset] [(.ref a)])) rfl (by rw [hml]; rfl) rfl (hb hby d3_1) (by decide) (W := 0) (by show 2 * 0 + _ ≤ _; exact Nat.le_of_eq rfl) (by decide)
  refine Dn.of st24 ?_
  show Dn p e below s _ _ _ (T24.setTop (mkF m 4 #[.val (.ref a), .val (.ref ca), .val (.int (0 : Int32)), .val (.int (2 : Int32)), .val .null, .unset] []))
  refine Dn.of (fun tt_ zz_ => XS.iloadN X24.here hx rfl (hb hby d3_4) rfl zz_) ?_
  show Dn p e below s _ _ _ (T24.setTop (mkF m 5 #[.val (.ref a), .val (.ref ca), .val (.int (0 : Int32)), .val (.int (2 : Int32)), .val .null, .unset] [(.int (2 : Int32))]))
  refine Dn.of (fun tt_ zz_ => XS.ifYes X24.here hx rfl (pc0 := 5) (pc' := 27) rfl (hb hby d3_5) rfl ((if0 _ _).trans (feq (by decide)).2) (by decide) (by decide) zz_) ?_
  show Dn p e below s _ _ _ (T24.setTop (mkF m 27 #[.val (.ref a), .val (.ref ca), .val (.int (0 : Int32)), .val (.int (2 : Int32)), .val .null, .unset] []))
  obtain ⟨T25, X25, e25, st25⟩ := getS2 X24 hx hZ hown (host := "") (Or.inl (hg 18 rfl)) Via.refl e24 (SZ.ext O0.2) (g := (mkF m 27 #[.val (.ref a), .val (.ref ca), .val (.int (0 : Int32)), .val (.int (2 : Int32)), .val .null, .unset] [])) rfl (hb hby d3_27)
  refine Dn.of st25 ?_
  show Dn p e below s _ _ _ (T25.setTop (mkF m 30 #[.val (.ref a), .val (.ref ca), .val (.int (0 : Int32)), .val (.int (2 : Int32)), .val .null, .unset] [(.int cz)]))
  refine Dn.of (fun tt_ zz_ => XS.ifNo X25.here hx rfl (hb hby d3_30) rfl ((if0 _ _).trans (feq hcz).1) zz_) ?_
  show Dn p e below s _ _ _ (T25.setTop (mkF m 33 #[.val (.ref a), .val (.ref ca), .val (.int (0 : Int32)), .val (.int (2 : Int32)), .val .null, .unset] []))
  refine Dn.of (fun tt_ zz_ => XS.aloadN X25.here hx rfl (hb hby d3_33) rfl rfl zz_) ?_
  refine Dn.of (fun tt_ zz_ => XS.iloadN X25.here hx rfl (hb hby d3_34) rfl zz_) ?_
  refine Dn.of (fun tt_ zz_ => XS.iloadN X25.here hx rfl (hb hby d3_35) rfl zz_) ?_
  show Dn p e below s _ _ _ (T25.setTop (mkF m 36 #[.val (.ref a), .val (.ref ca), .val (.int (0 : Int32)), .val (.int (2 : Int32)), .val .null, .unset] [(.int (2 : Int32)), (.int (0 : Int32)), (.ref ca)]))
  obtain ⟨v26, T26, L26, Q26, X26, st26⟩ := cSt X25 hx hZ (y := (⟨"java/lang/StringUTF16", "compress", "([CII)[B"⟩ : MethodName)) hown (hg 19 rfl) (hg 20 rfl) (hg 21 rfl) (hg 22 rfl) (by decide) (argsL := [(.ref ca), (.int (0 : Int32)), (.int (2 : Int32))]) (rest := []) (rmC3_2 l Z a0 hw h0 n0 Z0 ca kc c0 c1 y0 y1 RC) e25  0 (by decide) (by decide) (by decide) (by decide) (g := (mkF m 36 #[.val (.ref a), .val (.ref ca), .val (.int (0 : Int32)), .val (.int (2 : Int32)), .val .null, .unset] [(.int (2 : Int32)), (.int (0 : Int32)), (.ref ca)])) rfl (by rw [hml]; rfl) (lenOf pd1 rfl) rfl (by show 2 * 0 + _ ≤ _; exact Nat.le_of_eq rfl) (hb hby d3_36)
  obtain ⟨bb, kb, rfl, gb, lb, M1, X1, R1⟩ := Q26
  refine Dn.of st26 ?_
  show Dn p e below s _ _ _ (T26.setTop (mkF m 39 #[.val (.ref a), .val (.ref ca), .val (.int (0 : Int32)), .val (.int (2 : Int32)), .val .null, .unset] [(.ref bb)]))
  refine Dn.of (fun tt_ zz_ => XS.astore X26.here hx rfl (hb hby d3_39) rfl rfl (l' := #[.val (.ref a), .val (.ref ca), .val (.int (0 : Int32)), .val (.int (2 : Int32)), .val .null, .val (.ref bb)]) rfl zz_) ?_
  refine Dn.of (fun tt_ zz_ => XS.aloadN X26.here hx rfl (hb hby d3_41) rfl rfl zz_) ?_
  refine Dn.of (fun tt_ zz_ => XS.aload X26.here hx rfl (hb hby d3_42) rfl rfl zz_) ?_
  refine Dn.of (fun tt_ zz_ => XS.iloadN X26.here hx rfl (hb hby d3_44) rfl zz_) ?_
  show Dn p e below s _ _ _ (T26.setTop (mkF m 45 #[.val (.ref a), .val (.ref ca), .val (.int (0 : Int32)), .val (.int (2 : Int32)), .val .null, .val (.ref bb)] [(.int (2 : Int32)), (.ref bb), (.ref a)]))
  have dn : bb ≠ a := Ne.symm (Nat.ne_of_lt (Nat.lt_of_lt_of_le E0.lt lb))
  obtain ⟨v27, T27, L27, Q27, X27, st27⟩ := cSt X26 hx hZ (y := (⟨"java/lang/StringUTF16", "coderFromArrayLen", "([BI)B"⟩ : MethodName)) hown (hg 27 rfl) (hg 28 rfl) (hg 21 rfl) (hg 29 rfl) (by decide) (argsL := [(.ref bb), (.int (2 : Int32))]) (rest := [(.ref a)]) (rmCL_2 l Z a0 hw T26.heap n0 (Nat.le_trans Z0 X1.1) bb kb _ R1) rfl  1 (by decide) (by decide) (by decide) (by decide) (g := (mkF m 45 #[.val (.ref a), .val (.ref ca), .val (.int (0 : Int32)), .val (.int (2 : Int32)), .val .null, .val (.ref bb)] [(.int (2 : Int32)), (.ref bb), (.ref a)])) rfl (by rw [hml]; rfl) (lenOf pd2 rfl) rfl (by show 2 * 0 + _ ≤ _; exact Nat.le_of_eq rfl) (hb hby d3_45)
  obtain ⟨rfl, M2, e27⟩ := Q27
  refine Dn.of st27 ?_
  show Dn p e below s _ _ _ (T27.setTop (mkF m 48 #[.val (.ref a), .val (.ref ca), .val (.int (0 : Int32)), .val (.int (2 : Int32)), .val .null, .val (.ref bb)] [(.int (0 : Int32)), (.ref a)]))
  obtain ⟨T28, h28, X28, e28, W28, st28⟩ := putF X27 hx hZ hown (host := "") (Or.inl (hg 30 rfl)) Via.refl e27 (F2.ext X1) (E0.ext X1) (Or.inr ⟨(hg 31 rfl), rfl, hnm⟩) (hg 6 rfl) (ty := .byte) (by decide) rfl rfl (g := (mkF m 48 #[.val (.ref a), .val (.ref ca), .val (.int (0 : Int32)), .val (.int (2 : Int32)), .val .null, .val (.ref bb)] [(.int (0 : Int32)), (.ref a)])) rfl rfl (hb hby d3_48)
  refine Dn.of st28 ?_
  show Dn p e below s _ _ _ (T28.setTop (mkF m 51 #[.val (.ref a), .val (.ref ca), .val (.int (0 : Int32)), .val (.int (2 : Int32)), .val .null, .val (.ref bb)] []))
  have N1 := Fr.snoc X28 (Fr.app (Fr.app N0 M1) M2) g0
  refine Dn.of (fun tt_ zz_ => XS.aloadN X28.here hx rfl (hb hby d3_51) rfl rfl zz_) ?_
  refine Dn.of (fun tt_ zz_ => XS.aload X28.here hx rfl (hb hby d3_52) rfl rfl zz_) ?_
  show Dn p e below s _ _ _ (T28.setTop (mkF m 54 #[.val (.ref a), .val (.ref ca), .val (.int (0 : Int32)), .val (.int (2 : Int32)), .val .null, .val (.ref bb)] [(.ref bb), (.ref a)]))
  obtain ⟨T29, h29, X29, e29, W29, st29⟩ := putF X28 hx hZ hown (host := "") (Or.inl (hg 32 rfl)) Via.refl e28 ((F1.ext X1).other W28 (Or.inr s1)) ((E0.ext X1).wr W28) (Or.inr ⟨(hg 33 rfl), rfl, hnm⟩) (hg 6 rfl) (ty := (.array .byte)) (by decide) rfl rfl (g := (mkF m 54 #[.val (.ref a), .val (.ref ca), .val (.int (0 : Int32)), .val (.int (2 : Int32)), .val .null, .val (.ref bb)] [(.ref bb), (.ref a)])) rfl rfl (hb hby d3_54)
  refine Dn.of st29 ?_
  show Dn p e below s _ _ _ (T29.setTop (mkF m 57 #[.val (.ref a), .val (.ref ca), .val (.int (0 : Int32)), .val (.int (2 : Int32)), .val .null, .val (.ref bb)] []))
  have N2 := Fr.snoc X29 N1 g0
  have R2 := own_arv (vs := own_vs [own_B c0, own_B c1]) ((R1.other W28 dn).other W29 dn) (fun i hi => by
    have : i < 2 := hi
    rcases i with _ | _ | i
    · rfl
    · rfl
    · omega)
  exact Dn.retV X29 hx hlk hret (hb hby d3_57) (by decide) (by decide) (by rw [e29]; exact ⟨bb, rfl, N2, (((Keep.refl h0 [a]).ext X1).wr W28 (Or.inl (List.mem_of_getElem? (i := 0) rfl))).wr W29 (Or.inl (List.mem_of_getElem? (i := 0) rfl)), lb, _, ((E0.ext X1).wr W28).wr W29, ((F2.ext X1).same W28).other W29 (Or.inr s2), ((F1.ext X1).other W28 (Or.inr s1)).same W29, R2⟩)
set_option maxRecDepth 65536 in
set_option maxHeartbeats 40000000 in
theorem rmS1_2 (l : Launch) (Z : State) (a0 : Array Value) (hw : ∀ d ∈ tables_1, d.before a0 Z = true) (h0 : Heap) (n0 : Nat) (Z0 : n0 ≤ h0.size) (a ca : Addr) (kc : ClassId) (cz : Int32) (hcz : ¬ cz = 0) (SZ : Sta Z Z.heap "java/lang/String" "COMPACT_STRINGS" "Z" (.int cz)) (O0 : Old Z n0 h0) (c0 c1 : Int32) (y0 : own_C c0) (y1 : own_C c1) (E0 : Exa Z h0 a "java/lang/String") (F1 : Fld Z h0 a "java/lang/String" "value" "[B" .null) (F2 : Fld Z h0 a "java/lang/String" "coder" "B" (.int (0 : Int32))) (g0 : n0 ≤ a) (RC : Arh Z h0 ca kc .char 2 [((1 : Int32), .int c1), ((0 : Int32), .int c0)] [] (.int 0)) :
    ctr l Z (⟨"java/lang/String", "<init>", "([C)V"⟩ : MethodName) jdk_42_method_3_code 2 none [] ({ frames := 3, cells := 1, slots := 8, locals := 68 } : Room) 1 8 #[(.ref a), (.ref ca)] h0 (fun v h L => ∃ bb, v = none ∧ Fr n0 L ∧ Keep h0 h [a] ∧ h0.size ≤ bb ∧ own_Str Z h a bb 2 [own_B c0, own_B c1]) := by
  refine ctr_of (by decide +kernel) ?_
  intro p e s m below meth jc s₁ hx hby hml hret hlk hnm hown hZ e0 X0
  have N0 := Fr.nil n0
  have hg : ∀ (i : Nat) {d : Jvm.Cond}, tables_1[i]? = some d → d.before a0 Z = true := fun i d q => hw d (List.mem_of_getElem? q)
  refine Dn.cast (ef2_AA m a ca) ?_
  show Dn p e below s _ _ _ (s₁.setTop (mkF m 0 #[.val (.ref a), .val (.ref ca)] []))
  refine Dn.of (fun tt_ zz_ => XS.aloadN X0.here hx rfl (hb hby d2_0) rfl rfl zz_) ?_
  refine Dn.of (fun tt_ zz_ => XS.aloadN X0.here hx rfl (hb hby d2_1) rfl rfl zz_) ?_
  refine Dn.of (fun tt_ zz_ => XS.iconst X0.here hx rfl (hb hby d2_2) zz_) ?_
  refine Dn.of (fun tt_ zz_ => XS.aloadN X0.here hx rfl (hb hby d2_3) rfl rfl zz_) ?_
  show Dn p e below s _ _ _ (s₁.setTop (mkF m 4 #[.val (.ref a), .val (.ref ca)] [(.ref ca), (.int (0 : Int32)), (.ref ca), (.ref a)]))
  have Rl30 := RC
  obtain ⟨d30, B_30, _, Sd30, Nd30, _, _⟩ := Rl30
  refine Dn.of (fun tt_ zz_ => X0.arraylength hx (by rw [e0]; exact B_30.1) (State.isArrayOf_alike hZ.alike B_30.2.1) (g := (mkF m 4 #[.val (.ref a), .val (.ref ca)] [(.ref ca), (.int (0 : Int32)), (.ref ca), (.ref a)])) rfl rfl (hb hby d2_4) tt_ zz_) ?_
  rw [Sd30, own_sz Nd30]
  show Dn p e below s _ _ _ (s₁.setTop (mkF m 5 #[.val (.ref a), .val (.ref ca)] [(.int (2 : Int32)), (.int (0 : Int32)), (.ref ca), (.ref a)]))
  refine Dn.of (fun tt_ zz_ => XS.aconstNull X0.here hx rfl (hb hby d2_5) zz_) ?_
  show Dn p e below s _ _ _ (s₁.setTop (mkF m 6 #[.val (.ref a), .val (.ref ca)] [.null, (.int (2 : Int32)), (.int (0 : Int32)), (.ref ca), (.ref a)]))
  obtain ⟨v31, T31, L31, Q31, X31, st31⟩ := cIn X0 hx hZ (y := (⟨"java/lang/String", "<init>", "([CIILjava/lang/Void;)V"⟩ : MethodName)) rfl hown (hg 11 rfl) (hg 12 rfl) (hg 7 rfl) (hg 14 rfl) (by decide) (a := a) (argsL := [(.ref ca), (.int (0 : Int32)), (.int (2 : Int32)), .null]) (rest := []) (rmS4_2 l Z a0 hw h0 n0 Z0 a ca kc cz hcz SZ O0 c0 c1 y0 y1 E0 F1 F2 g0 RC) e0  0 (by decide) (by decide) (by decide) (by decide) (g := (mkF m 6 #[.val (.ref a), .val (.ref ca)] [.null, (.int (2 : Int32)), (.int (0 : Int32)), (.ref ca), (.ref a)])) rfl (by rw [hml]; rfl) (lenOf pd3 rfl) rfl (by show 2 * 0 + _ ≤ _; exact Nat.le_of_eq rfl) (hb hby d2_6)
  obtain ⟨bb, rfl, M1, r⟩ := Q31
  refine Dn.of st31 ?_
  show Dn p e below s _ _ _ (T31.setTop (mkF m 9 #[.val (.ref a), .val (.ref ca)] []))
  exact Dn.retV X31 hx hlk hret (hb hby d2_9) (by decide) (by decide) (⟨bb, rfl, Fr.app N0 M1, r⟩)
set_option maxRecDepth 65536 in
set_option maxHeartbeats 40000000 in
theorem rmC5_3 (l : Launch) (Z : State) (a0 : Array Value) (hw : ∀ d ∈ tables_1, d.before a0 Z = true) (h0 : Heap) (n0 : Nat) (Z0 : n0 ≤ h0.size) (ca bb : Addr) (kc kb : ClassId) (c0 c1 c2 : Int32) (y0 : own_C c0) (y1 : own_C c1) (y2 : own_C c2) (RC : Arh Z h0 ca kc .char 3 [((2 : Int32), .int c2), ((1 : Int32), .int c1), ((0 : Int32), .int c0)] [] (.int 0)) (RB : Arh Z h0 bb kb .byte 3 [] [] (.int 0)) (dn : ca ≠ bb) (g0 : n0 ≤ bb) :
    ctr l Z (⟨"java/lang/StringUTF16", "compress", "([CI[BII)I"⟩ : MethodName) jdk_52_method_21_code 7 (some .int) [] ({ frames := 0, cells := 0, slots := 0, locals := 0 } : Room) 0 0 #[(.ref ca), (.int (0 : Int32)), (.ref bb), (.int (0 : Int32)), (.int (3 : Int32))] h0 (fun v h L => v = some (.int (3 : Int32)) ∧ Fr n0 L ∧ Keep h0 h [bb] ∧ Arh Z h bb kb .byte 3 [((2 : Int32), .int (own_B c2)), ((1 : Int32), .int (own_B c1)), ((0 : Int32), .int (own_B c0))] [] (.int 0)) := by
  refine ctr_of (by decide +kernel) ?_
  intro p e s m below meth jc s₁ hx hby hml hret hlk hnm hown hZ e0 X0
  have N0 := Fr.nil n0
  have hg : ∀ (i : Nat) {d : Jvm.Cond}, tables_1[i]? = some d → d.before a0 Z = true := fun i d q => hw d (List.mem_of_getElem? q)
  refine Dn.cast (ef6_AIAII m ca (0 : Int32) bb (0 : Int32) (3 : Int32)) ?_
  show Dn p e below s _ _ _ (s₁.setTop (mkF m 0 #[.val (.ref ca), .val (.int (0 : Int32)), .val (.ref bb), .val (.int (0 : Int32)), .val (.int (3 : Int32)), .unset, .unset] []))
  refine Dn.of (fun tt_ zz_ => XS.iconst X0.here hx rfl (hb hby d6_0) zz_) ?_
  refine Dn.of (fun tt_ zz_ => XS.istore X0.here hx rfl (hb hby d6_1) rfl (l' := #[.val (.ref ca), .val (.int (0 : Int32)), .val (.ref bb), .val (.int (0 : Int32)), .val (.int (3 : Int32)), .val (.int (0 : Int32)), .unset]) rfl zz_) ?_
  refine Dn.of (fun tt_ zz_ => XS.iload X0.here hx rfl (hb hby d6_3) rfl zz_) ?_
  refine Dn.of (fun tt_ zz_ => XS.iload X0.here hx rfl (hb hby d6_5) rfl zz_) ?_
  show Dn p e below s _ _ _ (s₁.setTop (mkF m 7 #[.val (.ref ca), .val (.int (0 : Int32)), .val (.ref bb), .val (.int (0 : Int32)), .val (.int (3 : Int32)), .val (.int (0 : Int32)), .unset] [(.int (3 : Int32)), (.int (0 : Int32))]))
  refine Dn.of (fun tt_ zz_ => XS.icmpNo X0.here hx rfl (hb hby d6_7) rfl (tlt (by decide)).2.1 zz_) ?_
  show Dn p e below s _ _ _ (s₁.setTop (mkF m 10 #[.val (.ref ca), .val (.int (0 : Int32)), .val (.ref bb), .val (.int (0 : Int32)), .val (.int (3 : Int32)), .val (.int (0 : Int32)), .unset] []))
  refine Dn.of (fun tt_ zz_ => XS.aloadN X0.here hx rfl (hb hby d6_10) rfl rfl zz_) ?_
  refine Dn.of (fun tt_ zz_ => XS.iloadN X0.here hx rfl (hb hby d6_11) rfl zz_) ?_
  show Dn p e below s _ _ _ (s₁.setTop (mkF m 12 #[.val (.ref ca), .val (.int (0 : Int32)), .val (.ref bb), .val (.int (0 : Int32)), .val (.int (3 : Int32)), .val (.int (0 : Int32)), .unset] [(.int (0 : Int32)), (.ref ca)]))
  have Rr32 := RC
  obtain ⟨d32, B_32, _, Sd32, _, Hd32, _⟩ := Rr32
  refine Dn.of (fun tt_ zz_ => X0.caload hx (j := (0 : Int32)) (v := (.int c0)) (by rw [e0]; exact B_32.1) (State.isArrayOf_alike hZ.alike B_32.2.1) B_32.2.2 (inb_of Sd32 (by decide)) (atH Hd32 (inb_of Sd32 (by decide)) rfl) (g := (mkF m 12 #[.val (.ref ca), .val (.int (0 : Int32)), .val (.ref bb), .val (.int (0 : Int32)), .val (.int (3 : Int32)), .val (.int (0 : Int32)), .unset] [(.int (0 : Int32)), (.ref ca)])) rfl rfl (hb hby d6_12) tt_ zz_) ?_
  show Dn p e below s _ _ _ (s₁.setTop (mkF m 13 #[.val (.ref ca), .val (.int (0 : Int32)), .val (.ref bb), .val (.int (0 : Int32)), .val (.int (3 : Int32)), .val (.int (0 : Int32)), .unset] [(.int c0)]))
  refine Dn.of (fun tt_ zz_ => XS.istore X0.here hx rfl (hb hby d6_13) rfl (l' := #[.val (.ref ca), .val (.int (0 : Int32)), .val (.ref bb), .val (.int (0 : Int32)), .val (.int (3 : Int32)), .val (.int (0 : Int32)), .val (.int c0)]) rfl zz_) ?_
  refine Dn.of (fun tt_ zz_ => XS.iload X0.here hx rfl (hb hby d6_15) rfl zz_) ?_
  refine Dn.of (fun tt_ zz_ => XS.sipush X0.here hx rfl (hb hby d6_17) zz_) ?_
  show Dn p e below s _ _ _ (s₁.setTop (mkF m 20 #[.val (.ref ca), .val (.int (0 : Int32)), .val (.ref bb), .val (.int (0 : Int32)), .val (.int (3 : Int32)), .val (.int (0 : Int32)), .val (.int c0)] [(.int (255 : Int32)), (.int c0)]))
  refine Dn.of (fun tt_ zz_ => XS.icmpYes X0.here hx rfl (pc0 := 20) (pc' := 26) rfl (hb hby d6_20) rfl (flt (own_gt y0)).2.2.2 (by decide) (by decide) zz_) ?_
  show Dn p e below s _ _ _ (s₁.setTop (mkF m 26 #[.val (.ref ca), .val (.int (0 : Int32)), .val (.ref bb), .val (.int (0 : Int32)), .val (.int (3 : Int32)), .val (.int (0 : Int32)), .val (.int c0)] []))
  refine Dn.of (fun tt_ zz_ => XS.aloadN X0.here hx rfl (hb hby d6_26) rfl rfl zz_) ?_
  refine Dn.of (fun tt_ zz_ => XS.iloadN X0.here hx rfl (hb hby d6_27) rfl zz_) ?_
  refine Dn.of (fun tt_ zz_ => XS.iload X0.here hx rfl (hb hby d6_28) rfl zz_) ?_
  refine Dn.of (fun tt_ zz_ => XS.i2b X0.here hx rfl (hb hby d6_30) rfl zz_) ?_
  show Dn p e below s _ _ _ (s₁.setTop (mkF m 31 #[.val (.ref ca), .val (.int (0 : Int32)), .val (.ref bb), .val (.int (0 : Int32)), .val (.int (3 : Int32)), .val (.int (0 : Int32)), .val (.int c0)] [(.int (c0.toInt8.toInt32)), (.int (0 : Int32)), (.ref bb)]))
  obtain ⟨c33, A_33, p33, S33, P33, H33, G33⟩ := RB
  obtain ⟨T34, h34, X34, e34, W34, st34⟩ := stB X0 hx hZ e0 A_33 (j := (0 : Int32)) (inb_of S33 (by decide)) (g := (mkF m 31 #[.val (.ref ca), .val (.int (0 : Int32)), .val (.ref bb), .val (.int (0 : Int32)), .val (.int (3 : Int32)), .val (.int (0 : Int32)), .val (.int c0)] [(.int (c0.toInt8.toInt32)), (.int (0 : Int32)), (.ref bb)])) rfl rfl (hb hby d6_31)
  refine Dn.of st34 ?_
  show Dn p e below s _ _ _ (T34.setTop (mkF m 32 #[.val (.ref ca), .val (.int (0 : Int32)), .val (.ref bb), .val (.int (0 : Int32)), .val (.int (3 : Int32)), .val (.int (0 : Int32)), .val (.int c0)] []))
  have R_33 := Arh.push A_33 p33 S33 P33 H33 G33 (v := (.int (own_B c0))) (fits_byte_narrow _) W34 (inb_of S33 (by decide))
  have N33 := Fr.snoc X34 N0 g0
  have K0 := (Keep.refl h0 [bb]).wr W34 (Or.inl (List.mem_of_getElem? (i := 0) rfl))
  have C0 := RC.other W34 dn
  refine Dn.of (fun tt_ zz_ => XS.iinc X34.here hx rfl (hb hby d6_32) rfl (l' := #[.val (.ref ca), .val (.int ((0 : Int32) + (1 : Int32))), .val (.ref bb), .val (.int (0 : Int32)), .val (.int (3 : Int32)), .val (.int (0 : Int32)), .val (.int c0)]) rfl zz_) ?_
  refine Dn.of (fun tt_ zz_ => XS.iinc X34.here hx rfl (hb hby d6_35) rfl (l' := #[.val (.ref ca), .val (.int ((0 : Int32) + (1 : Int32))), .val (.ref bb), .val (.int ((0 : Int32) + (1 : Int32))), .val (.int (3 : Int32)), .val (.int (0 : Int32)), .val (.int c0)]) rfl zz_) ?_
  refine Dn.of (fun tt_ zz_ => XS.iinc X34.here hx rfl (hb hby d6_38) rfl (l' := #[.val (.ref ca), .val (.int ((0 : Int32) + (1 : Int32))), .val (.ref bb), .val (.int ((0 : Int32) + (1 : Int32))), .val (.int (3 : Int32)), .val (.int ((0 : Int32) + (1 : Int32))), .val (.int c0)]) rfl zz_) ?_
  refine Dn.of (fun tt_ zz_ => XS.goto X34.here hx rfl (pc0 := 41) (pc' := 3) rfl (hb hby d6_41) (by decide) (by decide) zz_) ?_
  show Dn p e below s _ _ _ (T34.setTop (mkF m 3 #[.val (.ref ca), .val (.int ((0 : Int32) + (1 : Int32))), .val (.ref bb), .val (.int ((0 : Int32) + (1 : Int32))), .val (.int (3 : Int32)), .val (.int ((0 : Int32) + (1 : Int32))), .val (.int c0)] []))
  rw [show ((0 : Int32) + (1 : Int32)) = (1 : Int32) by decide]
  show Dn p e below s _ _ _ (T34.setTop (mkF m 3 #[.val (.ref ca), .val (.int (1 : Int32)), .val (.ref bb), .val (.int (1 : Int32)), .val (.int (3 : Int32)), .val (.int (1 : Int32)), .val (.int c0)] []))
  refine Dn.of (fun tt_ zz_ => XS.iload X34.here hx rfl (hb hby d6_3) rfl zz_) ?_
  refine Dn.of (fun tt_ zz_ => XS.iload X34.here hx rfl (hb hby d6_5) rfl zz_) ?_
  show Dn p e below s _ _ _ (T34.setTop (mkF m 7 #[.val (.ref ca), .val (.int (1 : Int32)), .val (.ref bb), .val (.int (1 : Int32)), .val (.int (3 : Int32)), .val (.int (1 : Int32)), .val (.int c0)] [(.int (3 : Int32)), (.int (1 : Int32))]))
  refine Dn.of (fun tt_ zz_ => XS.icmpNo X34.here hx rfl (hb hby d6_7) rfl (tlt (by decide)).2.1 zz_) ?_
  show Dn p e below s _ _ _ (T34.setTop (mkF m 10 #[.val (.ref ca), .val (.int (1 : Int32)), .val (.ref bb), .val (.int (1 : Int32)), .val (.int (3 : Int32)), .val (.int (1 : Int32)), .val (.int c0)] []))
  refine Dn.of (fun tt_ zz_ => XS.aloadN X34.here hx rfl (hb hby d6_10) rfl rfl zz_) ?_
  refine Dn.of (fun tt_ zz_ => XS.iloadN X34.here hx rfl (hb hby d6_11) rfl zz_) ?_
  show Dn p e below s _ _ _ (T34.setTop (mkF m 12 #[.val (.ref ca), .val (.int (1 : Int32)), .val (.ref bb), .val (.int (1 : Int32)), .val (.int (3 : Int32)), .val (.int (1 : Int32)), .val (.int c0)] [(.int (1 : Int32)), (.ref ca)]))
  have Rr35 := C0
  obtain ⟨d35, B_35, _, Sd35, _, Hd35, _⟩ := Rr35
  refine Dn.of (fun tt_ zz_ => X34.caload hx (j := (1 : Int32)) (v := (.int c1)) (by rw [e34]; exact B_35.1) (State.isArrayOf_alike hZ.alike B_35.2.1) B_35.2.2 (inb_of Sd35 (by decide)) (atH Hd35 (inb_of Sd35 (by decide)) rfl) (g := (mkF m 12 #[.val (.ref ca), .val (.int (1 : Int32)), .val (.ref bb), .val (.int (1 : Int32)), .val (.int (3 : Int32)), .val (.int (1 : Int32)), .val (.int c0)] [(.int (1 : Int32)), (.ref ca)])) rfl rfl (hb hby d6_12) tt_ zz_) ?_
  show Dn p e below s _ _ _ (T34.setTop (mkF m 13 #[.val (.ref ca), .val (.int (1 : Int32)), .val (.ref bb), .val (.int (1 : Int32)), .val (.int (3 : Int32)), .val (.int (1 : Int32)), .val (.int c0)] [(.int c1)]))
  refine Dn.of (fun tt_ zz_ => XS.istore X34.here hx rfl (hb hby d6_13) rfl (l' := #[.val (.ref ca), .val (.int (1 : Int32)), .val (.ref bb), .val (.int (1 : Int32)), .val (.int (3 : Int32)), .val (.int (1 : Int32)), .val (.int c1)]) rfl zz_) ?_
  refine Dn.of (fun tt_ zz_ => XS.iload X34.here hx rfl (hb hby d6_15) rfl zz_) ?_
  refine Dn.of (fun tt_ zz_ => XS.sipush X34.here hx rfl (hb hby d6_17) zz_) ?_
  show Dn p e below s _ _ _ (T34.setTop (mkF m 20 #[.val (.ref ca), .val (.int (1 : Int32)), .val (.ref bb), .val (.int (1 : Int32)), .val (.int (3 : Int32)), .val (.int (1 : Int32)), .val (.int c1)] [(.int (255 : Int32)), (.int c1)]))
  refine Dn.of (fun tt_ zz_ => XS.icmpYes X34.here hx rfl (pc0 := 20) (pc' := 26) rfl (hb hby d6_20) rfl (flt (own_gt y1)).2.2.2 (by decide) (by decide) zz_) ?_
  show Dn p e below s _ _ _ (T34.setTop (mkF m 26 #[.val (.ref ca), .val (.int (1 : Int32)), .val (.ref bb), .val (.int (1 : Int32)), .val (.int (3 : Int32)), .val (.int (1 : Int32)), .val (.int c1)] []))
  refine Dn.of (fun tt_ zz_ => XS.aloadN X34.here hx rfl (hb hby d6_26) rfl rfl zz_) ?_
  refine Dn.of (fun tt_ zz_ => XS.iloadN X34.here hx rfl (hb hby d6_27) rfl zz_) ?_
  refine Dn.of (fun tt_ zz_ => XS.iload X34.here hx rfl (hb hby d6_28) rfl zz_) ?_
  refine Dn.of (fun tt_ zz_ => XS.i2b X34.here hx rfl (hb hby d6_30) rfl zz_) ?_
  show Dn p e below s _ _ _ (T34.setTop (mkF m 31 #[.val (.ref ca), .val (.int (1 : Int32)), .val (.ref bb), .val (.int (1 : Int32)), .val (.int (3 : Int32)), .val (.int (1 : Int32)), .val (.int c1)] [(.int (c1.toInt8.toInt32)), (.int (1 : Int32)), (.ref bb)]))
  obtain ⟨c36, A_36, p36, S36, P36, H36, G36⟩ := R_33
  obtain ⟨T37, h37, X37, e37, W37, st37⟩ := stB X34 hx hZ e34 A_36 (j := (1 : Int32)) (inb_of S36 (by decide)) (g := (mkF m 31 #[.val (.ref ca), .val (.int (1 : Int32)), .val (.ref bb), .val (.int (1 : Int32)), .val (.int (3 : Int32)), .val (.int (1 : Int32)), .val (.int c1)] [(.int (c1.toInt8.toInt32)), (.int (1 : Int32)), (.ref bb)])) rfl rfl (hb hby d6_31)
  refine Dn.of st37 ?_
  show Dn p e below s _ _ _ (T37.setTop (mkF m 32 #[.val (.ref ca), .val (.int (1 : Int32)), .val (.ref bb), .val (.int (1 : Int32)), .val (.int (3 : Int32)), .val (.int (1 : Int32)), .val (.int c1)] []))
  have R_36 := Arh.push A_36 p36 S36 P36 H36 G36 (v := (.int (own_B c1))) (fits_byte_narrow _) W37 (inb_of S36 (by decide))
  have N36 := Fr.snoc X37 N33 g0
  have K1 := K0.wr W37 (Or.inl (List.mem_of_getElem? (i := 0) rfl))
  have C1 := C0.other W37 dn
  refine Dn.of (fun tt_ zz_ => XS.iinc X37.here hx rfl (hb hby d6_32) rfl (l' := #[.val (.ref ca), .val (.int ((1 : Int32) + (1 : Int32))), .val (.ref bb), .val (.int (1 : Int32)), .val (.int (3 : Int32)), .val (.int (1 : Int32)), .val (.int c1)]) rfl zz_) ?_
  refine Dn.of (fun tt_ zz_ => XS.iinc X37.here hx rfl (hb hby d6_35) rfl (l' := #[.val (.ref ca), .val (.int ((1 : Int32) + (1 : Int32))), .val (.ref bb), .val (.int ((1 : Int32) + (1 : Int32))), .val (.int (3 : Int32)), .val (.int (1 : Int32)), .val (.int c1)]) rfl zz_) ?_
  refine Dn.of (fun tt_ zz_ => XS.iinc X37.here hx rfl (hb hby d6_38) rfl (l' := #[.val (.ref ca), .val (.int ((1 : Int32) + (1 : Int32))), .val (.ref bb), .val (.int ((1 : Int32) + (1 : Int32))), .val (.int (3 : Int32)), .val (.int ((1 : Int32) + (1 : Int32))), .val (.int c1)]) rfl zz_) ?_
  refine Dn.of (fun tt_ zz_ => XS.goto X37.here hx rfl (pc0 := 41) (pc' := 3) rfl (hb hby d6_41) (by decide) (by decide) zz_) ?_
  show Dn p e below s _ _ _ (T37.setTop (mkF m 3 #[.val (.ref ca), .val (.int ((1 : Int32) + (1 : Int32))), .val (.ref bb), .val (.int ((1 : Int32) + (1 : Int32))), .val (.int (3 : Int32)), .val (.int ((1 : Int32) + (1 : Int32))), .val (.int c1)] []))
  rw [show ((1 : Int32) + (1 : Int32)) = (2 : Int32) by decide]
  show Dn p e below s _ _ _ (T37.setTop (mkF m 3 #[.val (.ref ca), .val (.int (2 : Int32)), .val (.ref bb), .val (.int (2 : Int32)), .val (.int (3 : Int32)), .val (.int (2 : Int32)), .val (.int c1)] []))
  refine Dn.of (fun tt_ zz_ => XS.iload X37.here hx rfl (hb hby d6_3) rfl zz_) ?_
  refine Dn.of (fun tt_ zz_ => XS.iload X37.here hx rfl (hb hby d6_5) rfl zz_) ?_
  show Dn p e below s _ _ _ (T37.setTop (mkF m 7 #[.val (.ref ca), .val (.int (2 : Int32)), .val (.ref bb), .val (.int (2 : Int32)), .val (.int (3 : Int32)), .val (.int (2 : Int32)), .val (.int c1)] [(.int (3 : Int32)), (.int (2 : Int32))]))
  refine Dn.of (fun tt_ zz_ => XS.icmpNo X37.here hx rfl (hb hby d6_7) rfl (tlt (by decide)).2.1 zz_) ?_
  show Dn p e below s _ _ _ (T37.setTop (mkF m 10 #[.val (.ref ca), .val (.int (2 : Int32)), .val (.ref bb), .val (.int (2 : Int32)), .val (.int (3 : Int32)), .val (.int (2 : Int32)), .val (.int c1)] []))
  refine Dn.of (fun tt_ zz_ => XS.aloadN X37.here hx rfl (hb hby d6_10) rfl rfl zz_) ?_
  refine Dn.of (fun tt_ zz_ => XS.iloadN X37.here hx rfl (hb hby d6_11) rfl zz_) ?_
  show Dn p e below s _ _ _ (T37.setTop (mkF m 12 #[.val (.ref ca), .val (.int (2 : Int32)), .val (.ref bb), .val (.int (2 : Int32)), .val (.int (3 : Int32)), .val (.int (2 : Int32)), .val (.int c1)] [(.int (2 : Int32)), (.ref ca)]))
  have Rr38 := C1
  obtain ⟨d38, B_38, _, Sd38, _, Hd38, _⟩ := Rr38
  refine Dn.of (fun tt_ zz_ => X37.caload hx (j := (2 : Int32)) (v := (.int c2)) (by rw [e37]; exact B_38.1) (State.isArrayOf_alike hZ.alike B_38.2.1) B_38.2.2 (inb_of Sd38 (by decide)) (atH Hd38 (inb_of Sd38 (by decide)) rfl) (g := (mkF m 12 #[.val (.ref ca), .val (.int (2 : Int32)), .val (.ref bb), .val (.int (2 : Int32)), .val (.int (3 : Int32)), .val (.int (2 : Int32)), .val (.int c1)] [(.int (2 : Int32)), (.ref ca)])) rfl rfl (hb hby d6_12) tt_ zz_) ?_
  show Dn p e below s _ _ _ (T37.setTop (mkF m 13 #[.val (.ref ca), .val (.int (2 : Int32)), .val (.ref bb), .val (.int (2 : Int32)), .val (.int (3 : Int32)), .val (.int (2 : Int32)), .val (.int c1)] [(.int c2)]))
  refine Dn.of (fun tt_ zz_ => XS.istore X37.here hx rfl (hb hby d6_13) rfl (l' := #[.val (.ref ca), .val (.int (2 : Int32)), .val (.ref bb), .val (.int (2 : Int32)), .val (.int (3 : Int32)), .val (.int (2 : Int32)), .val (.int c2)]) rfl zz_) ?_
  refine Dn.of (fun tt_ zz_ => XS.iload X37.here hx rfl (hb hby d6_15) rfl zz_) ?_
  refine Dn.of (fun tt_ zz_ => XS.sipush X37.here hx rfl (hb hby d6_17) zz_) ?_
  show Dn p e below s _ _ _ (T37.setTop (mkF m 20 #[.val (.ref ca), .val (.int (2 : Int32)), .val (.ref bb), .val (.int (2 : Int32)), .val (.int (3 : Int32)), .val (.int (2 : Int32)), .val (.int c2)] [(.int (255 : Int32)), (.int c2)]))
  refine Dn.of (fun tt_ zz_ => XS.icmpYes X37.here hx rfl (pc0 := 20) (pc' := 26) rfl (hb hby d6_20) rfl (flt (own_gt y2)).2.2.2 (by decide) (by decide) zz_) ?_
  show Dn p e below s _ _ _ (T37.setTop (mkF m 26 #[.val (.ref ca), .val (.int (2 : Int32)), .val (.ref bb), .val (.int (2 : Int32)), .val (.int (3 : Int32)), .val (.int (2 : Int32)), .val (.int c2)] []))
  refine Dn.of (fun tt_ zz_ => XS.aloadN X37.here hx rfl (hb hby d6_26) rfl rfl zz_) ?_
  refine Dn.of (fun tt_ zz_ => XS.iloadN X37.here hx rfl (hb hby d6_27) rfl zz_) ?_
  refine Dn.of (fun tt_ zz_ => XS.iload X37.here hx rfl (hb hby d6_28) rfl zz_) ?_
  refine Dn.of (fun tt_ zz_ => XS.i2b X37.here hx rfl (hb hby d6_30) rfl zz_) ?_
  show Dn p e below s _ _ _ (T37.setTop (mkF m 31 #[.val (.ref ca), .val (.int (2 : Int32)), .val (.ref bb), .val (.int (2 : Int32)), .val (.int (3 : Int32)), .val (.int (2 : Int32)), .val (.int c2)] [(.int (c2.toInt8.toInt32)), (.int (2 : Int32)), (.ref bb)]))
  obtain ⟨c39, A_39, p39, S39, P39, H39, G39⟩ := R_36
  obtain ⟨T40, h40, X40, e40, W40, st40⟩ := stB X37 hx hZ e37 A_39 (j := (2 : Int32)) (inb_of S39 (by decide)) (g := (mkF m 31 #[.val (.ref ca), .val (.int (2 : Int32)), .val (.ref bb), .val (.int (2 : Int32)), .val (.int (3 : Int32)), .val (.int (2 : Int32)), .val (.int c2)] [(.int (c2.toInt8.toInt32)), (.int (2 : Int32)), (.ref bb)])) rfl rfl (hb hby d6_31)
  refine Dn.of st40 ?_
  show Dn p e below s _ _ _ (T40.setTop (mkF m 32 #[.val (.ref ca), .val (.int (2 : Int32)), .val (.ref bb), .val (.int (2 : Int32)), .val (.int (3 : Int32)), .val (.int (2 : Int32)), .val (.int c2)] []))
  have R_39 := Arh.push A_39 p39 S39 P39 H39 G39 (v := (.int (own_B c2))) (fits_byte_narrow _) W40 (inb_of S39 (by decide))
  have N39 := Fr.snoc X40 N36 g0
  have K2 := K1.wr W40 (Or.inl (List.mem_of_getElem? (i := 0) rfl))
  have C2 := C1.other W40 dn
  refine Dn.of (fun tt_ zz_ => XS.iinc X40.here hx rfl (hb hby d6_32) rfl (l' := #[.val (.ref ca), .val (.int ((2 : Int32) + (1 : Int32))), .val (.ref bb), .val (.int (2 : Int32)), .val (.int (3 : Int32)), .val (.int (2 : Int32)), .val (.int c2)]) rfl zz_) ?_
  refine Dn.of (fun tt_ zz_ => XS.iinc X40.here hx rfl (hb hby d6_35) rfl (l' := #[.val (.ref ca), .val (.int ((2 : Int32) + (1 : Int32))), .val (.ref bb), .val (.int ((2 : Int32) + (1 : Int32))), .val (.int (3 : Int32)), .val (.int (2 : Int32)), .val (.int c2)]) rfl zz_) ?_
  refine Dn.of (fun tt_ zz_ => XS.iinc X40.here hx rfl (hb hby d6_38) rfl (l' := #[.val (.ref ca), .val (.int ((2 : Int32) + (1 : Int32))), .val (.ref bb), .val (.int ((2 : Int32) + (1 : Int32))), .val (.int (3 : Int32)), .val (.int ((2 : Int32) + (1 : Int32))), .val (.int c2)]) rfl zz_) ?_
  refine Dn.of (fun tt_ zz_ => XS.goto X40.here hx rfl (pc0 := 41) (pc' := 3) rfl (hb hby d6_41) (by decide) (by decide) zz_) ?_
  show Dn p e below s _ _ _ (T40.setTop (mkF m 3 #[.val (.ref ca), .val (.int ((2 : Int32) + (1 : Int32))), .val (.ref bb), .val (.int ((2 : Int32) + (1 : Int32))), .val (.int (3 : Int32)), .val (.int ((2 : Int32) + (1 : Int32))), .val (.int c2)] []))
  rw [show ((2 : Int32) + (1 : Int32)) = (3 : Int32) by decide]
  show Dn p e below s _ _ _ (T40.setTop (mkF m 3 #[.val (.ref ca), .val (.int (3 : Int32)), .val (.ref bb), .val (.int (3 : Int32)), .val (.int (3 : Int32)), .val (.int (3 : Int32)), .val (.int c2)] []))
  refine Dn.of (fun tt_ zz_ => XS.iload X40.here hx rfl (hb hby d6_3) rfl zz_) ?_
  refine Dn.of (fun tt_ zz_ => XS.iload X40.here hx rfl (hb hby d6_5) rfl zz_) ?_
  show Dn p e below s _ _ _ (T40.setTop (mkF m 7 #[.val (.ref ca), .val (.int (3 : Int32)), .val (.ref bb), .val (.int (3 : Int32)), .val (.int (3 : Int32)), .val (.int (3 : Int32)), .val (.int c2)] [(.int (3 : Int32)), (.int (3 : Int32))]))
  refine Dn.of (fun tt_ zz_ => XS.icmpYes X40.here hx rfl (pc0 := 7) (pc' := 44) rfl (hb hby d6_7) rfl (flt (by decide)).2.1 (by decide) (by decide) zz_) ?_
  show Dn p e below s _ _ _ (T40.setTop (mkF m 44 #[.val (.ref ca), .val (.int (3 : Int32)), .val (.ref bb), .val (.int (3 : Int32)), .val (.int (3 : Int32)), .val (.int (3 : Int32)), .val (.int c2)] []))
  refine Dn.of (fun tt_ zz_ => XS.iload X40.here hx rfl (hb hby d6_44) rfl zz_) ?_
  show Dn p e below s _ _ _ (T40.setTop (mkF m 46 #[.val (.ref ca), .val (.int (3 : Int32)), .val (.ref bb), .val (.int (3 : Int32)), .val (.int (3 : Int32)), .val (.int (3 : Int32)), .val (.int c2)] [(.int (3 : Int32))]))
  exact Dn.retI X40 hx hlk hret (hb hby d6_46) (by decide) (by decide) (by rw [e40]; exact ⟨rfl, N39, K2, R_39⟩)
set_option maxRecDepth 65536 in
set_option maxHeartbeats 40000000 in
theorem rmC3_3 (l : Launch) (Z : State) (a0 : Array Value) (hw : ∀ d ∈ tables_1, d.before a0 Z = true) (h0 : Heap) (n0 : Nat) (Z0 : n0 ≤ h0.size) (ca : Addr) (kc : ClassId) (c0 c1 c2 : Int32) (y0 : own_C c0) (y1 : own_C c1) (y2 : own_C c2) (RC : Arh Z h0 ca kc .char 3 [((2 : Int32), .int c2), ((1 : Int32), .int c1), ((0 : Int32), .int c0)] [] (.int 0)) :
    ctr l Z (⟨"java/lang/StringUTF16", "compress", "([CII)[B"⟩ : MethodName) jdk_52_method_16_code 6 (some (.array .byte)) [] ({ frames := 1, cells := 1, slots := 8, locals := 20 } : Room) 1 8 #[(.ref ca), (.int (0 : Int32)), (.int (3 : Int32))] h0 (fun v h L => ∃ bb kb, v = some (.ref bb) ∧ n0 ≤ bb ∧ h0.size ≤ bb ∧ Fr n0 L ∧ Ext h0 h ∧ Arh Z h bb kb .byte 3 [((2 : Int32), .int (own_B c2)), ((1 : Int32), .int (own_B c1)), ((0 : Int32), .int (own_B c0))] [] (.int 0)) := by
  refine ctr_of (by decide +kernel) ?_
  intro p e s m below meth jc s₁ hx hby hml hret hlk hnm hown hZ e0 X0
  have N0 := Fr.nil n0
  have hg : ∀ (i : Nat) {d : Jvm.Cond}, tables_1[i]? = some d → d.before a0 Z = true := fun i d q => hw d (List.mem_of_getElem? q)
  refine Dn.cast (ef5_AII m ca (0 : Int32) (3 : Int32)) ?_
  show Dn p e below s _ _ _ (s₁.setTop (mkF m 0 #[.val (.ref ca), .val (.int (0 : Int32)), .val (.int (3 : Int32)), .unset, .unset, .unset] []))
  refine Dn.of (fun tt_ zz_ => XS.iloadN X0.here hx rfl (hb hby d5_0) rfl zz_) ?_
  show Dn p e below s _ _ _ (s₁.setTop (mkF m 1 #[.val (.ref ca), .val (.int (0 : Int32)), .val (.int (3 : Int32)), .unset, .unset, .unset] [(.int (3 : Int32))]))
  obtain ⟨T41, h41, k41, X41, e41, E41, A41, st41⟩ := newP X0 hx hZ (hg 23 rfl) e0 (g := (mkF m 1 #[.val (.ref ca), .val (.int (0 : Int32)), .val (.int (3 : Int32)), .unset, .unset, .unset] [(.int (3 : Int32))])) rfl (hb hby d5_1) rfl (by decide) (cap := 4) (by decide) (by decide) (by decide) (by decide)
  obtain ⟨b41, g41⟩ : ∃ z, z = h0.size := ⟨_, rfl⟩
  rw [← g41] at A41 st41
  refine Dn.of st41 ?_
  show Dn p e below s _ _ _ (T41.setTop (mkF m 3 #[.val (.ref ca), .val (.int (0 : Int32)), .val (.int (3 : Int32)), .unset, .unset, .unset] [(.ref b41)]))
  have RB : Arh Z h41 b41 k41 .byte 3 [] [] (.int 0) := (Arv.new A41 (by decide)).arh
  have gb : n0 ≤ b41 := g41 ▸ Z0
  have dn : ca ≠ b41 := Nat.ne_of_lt (g41 ▸ RC.lt)
  refine Dn.of (fun tt_ zz_ => XS.astoreN X41.here hx rfl (hb hby d5_3) rfl rfl (l' := #[.val (.ref ca), .val (.int (0 : Int32)), .val (.int (3 : Int32)), .val (.ref b41), .unset, .unset]) rfl zz_) ?_
  refine Dn.of (fun tt_ zz_ => XS.aloadN X41.here hx rfl (hb hby d5_4) rfl rfl zz_) ?_
  refine Dn.of (fun tt_ zz_ => XS.iloadN X41.here hx rfl (hb hby d5_5) rfl zz_) ?_
  refine Dn.of (fun tt_ zz_ => XS.aloadN X41.here hx rfl (hb hby d5_6) rfl rfl zz_) ?_
  show Dn p e below s _ _ _ (T41.setTop (mkF m 7 #[.val (.ref ca), .val (.int (0 : Int32)), .val (.int (3 : Int32)), .val (.ref b41), .unset, .unset] [(.ref b41), (.int (0 : Int32)), (.ref ca)]))
  refine Dn.of (fun tt_ zz_ => XS.iconst X41.here hx rfl (hb hby d5_7) zz_) ?_
  refine Dn.of (fun tt_ zz_ => XS.iloadN X41.here hx rfl (hb hby d5_8) rfl zz_) ?_
  show Dn p e below s _ _ _ (T41.setTop (mkF m 9 #[.val (.ref ca), .val (.int (0 : Int32)), .val (.int (3 : Int32)), .val (.ref b41), .unset, .unset] [(.int (3 : Int32)), (.int (0 : Int32)), (.ref b41), (.int (0 : Int32)), (.ref ca)]))
  obtain ⟨v42, T42, L42, Q42, X42, st42⟩ := cSt X41 hx hZ (y := (⟨"java/lang/StringUTF16", "compress", "([CI[BII)I"⟩ : MethodName)) hown (hg 24 rfl) (hg 25 rfl) (hg 21 rfl) (hg 26 rfl) (by decide) (argsL := [(.ref ca), (.int (0 : Int32)), (.ref b41), (.int (0 : Int32)), (.int (3 : Int32))]) (rest := []) (rmC5_3 l Z a0 hw h41 n0 (Nat.le_trans Z0 E41.1) ca b41 kc k41 c0 c1 c2 y0 y1 y2 (RC.ext E41) RB dn gb) e41  0 (by decide) (by decide) (by decide) (by decide) (g := (mkF m 9 #[.val (.ref ca), .val (.int (0 : Int32)), .val (.int (3 : Int32)), .val (.ref b41), .unset, .unset] [(.int (3 : Int32)), (.int (0 : Int32)), (.ref b41), (.int (0 : Int32)), (.ref ca)])) rfl (by rw [hml]; rfl) (lenOf pd0 rfl) rfl (by show 2 * 0 + _ ≤ _; exact Nat.le_of_eq rfl) (hb hby d5_9)
  obtain ⟨rfl, M1, K1, R1⟩ := Q42
  refine Dn.of st42 ?_
  show Dn p e below s _ _ _ (T42.setTop (mkF m 12 #[.val (.ref ca), .val (.int (0 : Int32)), .val (.int (3 : Int32)), .val (.ref b41), .unset, .unset] [(.int (3 : Int32))]))
  refine Dn.of (fun tt_ zz_ => XS.istore X42.here hx rfl (hb hby d5_12) rfl (l' := #[.val (.ref ca), .val (.int (0 : Int32)), .val (.int (3 : Int32)), .val (.ref b41), .val (.int (3 : Int32)), .unset]) rfl zz_) ?_
  refine Dn.of (fun tt_ zz_ => XS.iload X42.here hx rfl (hb hby d5_14) rfl zz_) ?_
  refine Dn.of (fun tt_ zz_ => XS.iloadN X42.here hx rfl (hb hby d5_16) rfl zz_) ?_
  show Dn p e below s _ _ _ (T42.setTop (mkF m 17 #[.val (.ref ca), .val (.int (0 : Int32)), .val (.int (3 : Int32)), .val (.ref b41), .val (.int (3 : Int32)), .unset] [(.int (3 : Int32)), (.int (3 : Int32))]))
  refine Dn.of (fun tt_ zz_ => XS.icmpYes X42.here hx rfl (pc0 := 17) (pc' := 57) rfl (hb hby d5_17) rfl (teq rfl).1 (by decide) (by decide) zz_) ?_
  show Dn p e below s _ _ _ (T42.setTop (mkF m 57 #[.val (.ref ca), .val (.int (0 : Int32)), .val (.int (3 : Int32)), .val (.ref b41), .val (.int (3 : Int32)), .unset] []))
  refine Dn.of (fun tt_ zz_ => XS.aloadN X42.here hx rfl (hb hby d5_57) rfl rfl zz_) ?_
  show Dn p e below s _ _ _ (T42.setTop (mkF m 58 #[.val (.ref ca), .val (.int (0 : Int32)), .val (.int (3 : Int32)), .val (.ref b41), .val (.int (3 : Int32)), .unset] [(.ref b41)]))
  exact Dn.retA X42 hx hlk hret rfl rfl (hb hby d5_58) (by decide) (by decide) (⟨_, _, rfl, gb, Nat.le_of_eq g41.symm, Fr.app N0 M1, own_extK E41 K1 (Nat.le_of_eq g41.symm), R1⟩)
set_option maxRecDepth 65536 in
set_option maxHeartbeats 40000000 in
theorem rmCL_3 (l : Launch) (Z : State) (a0 : Array Value) (hw : ∀ d ∈ tables_1, d.before a0 Z = true) (h0 : Heap) (n0 : Nat) (Z0 : n0 ≤ h0.size) (bb : Addr) (kb : ClassId) (hs : List (Int32 × Value)) (RB : Arh Z h0 bb kb .byte 3 hs [] (.int 0)) :
    ctr l Z (⟨"java/lang/StringUTF16", "coderFromArrayLen", "([BI)B"⟩ : MethodName) jdk_52_method_15_code 2 (some .byte) [] ({ frames := 0, cells := 0, slots := 0, locals := 0 } : Room) 0 0 #[(.ref bb), (.int (3 : Int32))] h0 (fun v h L => v = some (.int (0 : Int32)) ∧ Fr n0 L ∧ h = h0) := by
  refine ctr_of (by decide +kernel) ?_
  intro p e s m below meth jc s₁ hx hby hml hret hlk hnm hown hZ e0 X0
  have N0 := Fr.nil n0
  have hg : ∀ (i : Nat) {d : Jvm.Cond}, tables_1[i]? = some d → d.before a0 Z = true := fun i d q => hw d (List.mem_of_getElem? q)
  refine Dn.cast (ef7_AI m bb (3 : Int32)) ?_
  show Dn p e below s _ _ _ (s₁.setTop (mkF m 0 #[.val (.ref bb), .val (.int (3 : Int32))] []))
  refine Dn.of (fun tt_ zz_ => XS.iloadN X0.here hx rfl (hb hby d7_0) rfl zz_) ?_
  refine Dn.of (fun tt_ zz_ => XS.aloadN X0.here hx rfl (hb hby d7_1) rfl rfl zz_) ?_
  show Dn p e below s _ _ _ (s₁.setTop (mkF m 2 #[.val (.ref bb), .val (.int (3 : Int32))] [(.ref bb), (.int (3 : Int32))]))
  have Rl43 := RB
  obtain ⟨d43, B_43, _, Sd43, Nd43, _, _⟩ := Rl43
  refine Dn.of (fun tt_ zz_ => X0.arraylength hx (by rw [e0]; exact B_43.1) (State.isArrayOf_alike hZ.alike B_43.2.1) (g := (mkF m 2 #[.val (.ref bb), .val (.int (3 : Int32))] [(.ref bb), (.int (3 : Int32))])) rfl rfl (hb hby d7_2) tt_ zz_) ?_
  rw [Sd43, own_sz Nd43]
  show Dn p e below s _ _ _ (s₁.setTop (mkF m 3 #[.val (.ref bb), .val (.int (3 : Int32))] [(.int (3 : Int32)), (.int (3 : Int32))]))
  refine Dn.of (fun tt_ zz_ => XS.isub X0.here hx rfl (hb hby d7_3) rfl zz_) ?_
  refine Dn.of (fun tt_ zz_ => XS.bipush X0.here hx rfl (hb hby d7_4) zz_) ?_
  refine Dn.of (fun tt_ zz_ => XS.iushr X0.here hx rfl (hb hby d7_6) rfl zz_) ?_
  refine Dn.of (fun tt_ zz_ => XS.i2b X0.here hx rfl (hb hby d7_7) rfl zz_) ?_
  show Dn p e below s _ _ _ (s₁.setTop (mkF m 8 #[.val (.ref bb), .val (.int (3 : Int32))] [(.int (((((3 : Int32) - (3 : Int32)).toUInt32 >>> ((31 : Int32) &&& 31).toUInt32).toInt32).toInt8.toInt32))]))
  exact Dn.retN X0 hx hlk (t := .byte) hret (by simp) (hb hby d7_8) (by decide) (by decide) (⟨by decide, N0, e0⟩)
set_option maxRecDepth 65536 in
set_option maxHeartbeats 40000000 in
theorem rmS4_3 (l : Launch) (Z : State) (a0 : Array Value) (hw : ∀ d ∈ tables_1, d.before a0 Z = true) (h0 : Heap) (n0 : Nat) (Z0 : n0 ≤ h0.size) (a ca : Addr) (kc : ClassId) (cz : Int32) (hcz : ¬ cz = 0) (SZ : Sta Z Z.heap "java/lang/String" "COMPACT_STRINGS" "Z" (.int cz)) (O0 : Old Z n0 h0) (c0 c1 c2 : Int32) (y0 : own_C c0) (y1 : own_C c1) (y2 : own_C c2) (E0 : Exa Z h0 a "java/lang/String") (F1 : Fld Z h0 a "java/lang/String" "value" "[B" .null) (F2 : Fld Z h0 a "java/lang/String" "coder" "B" (.int (0 : Int32))) (g0 : n0 ≤ a) (RC : Arh Z h0 ca kc .char 3 [((2 : Int32), .int c2), ((1 : Int32), .int c1), ((0 : Int32), .int c0)] [] (.int 0)) :
    ctr l Z (⟨"java/lang/String", "<init>", "([CIILjava/lang/Void;)V"⟩ : MethodName) jdk_42_method_149_code 6 none [] ({ frames := 2, cells := 1, slots := 8, locals := 44 } : Room) 1 8 #[(.ref a), (.ref ca), (.int (0 : Int32)), (.int (3 : Int32)), .null] h0 (fun v h L => ∃ bb, v = none ∧ Fr n0 L ∧ Keep h0 h [a] ∧ h0.size ≤ bb ∧ own_Str Z h a bb 3 [own_B c0, own_B c1, own_B c2]) := by
  refine ctr_of (by decide +kernel) ?_
  intro p e s m below meth jc s₁ hx hby hml hret hlk hnm hown hZ e0 X0
  have N0 := Fr.nil n0
  have hg : ∀ (i : Nat) {d : Jvm.Cond}, tables_1[i]? = some d → d.before a0 Z = true := fun i d q => hw d (List.mem_of_getElem? q)
  refine Dn.cast (ef3_AAIIN m a ca (0 : Int32) (3 : Int32)) ?_
  show Dn p e below s _ _ _ (s₁.setTop (mkF m 0 #[.val (.ref a), .val (.ref ca), .val (.int (0 : Int32)), .val (.int (3 : Int32)), .val .null, .unset] []))
  have s1 : Jvm.RoadKit.slotOf Z "java/lang/String" "value" "[B" ≠ Jvm.RoadKit.slotOf Z "java/lang/String" "coder" "B" := slot_ne (Or.inr (hg 33 rfl)) (Or.inr (hg 31 rfl)) (by decide) (t := (.array .byte)) (t' := .byte) (by decide) (by decide)
  have s2 : Jvm.RoadKit.slotOf Z "java/lang/String" "coder" "B" ≠ Jvm.RoadKit.slotOf Z "java/lang/String" "value" "[B" := slot_ne (Or.inr (hg 31 rfl)) (Or.inr (hg 33 rfl)) (by decide) (t := .byte) (t' := (.array .byte)) (by decide) (by decide)
  refine Dn.of (fun tt_ zz_ => XS.aloadN X0.here hx rfl (hb hby d3_0) rfl rfl zz_) ?_
  show Dn p e below s _ _ _ (s₁.setTop (mkF m 1 #[.val (.ref a), .val (.ref ca), .val (.int (0 : Int32)), .val (.int (3 : Int32)), .val .null, .unset] [(.ref a)]))
  obtain ⟨T44, X44, e44, st44⟩ := initO X0 hx hZ hown (hg 15 rfl) (hg 16 rfl) (hg 17 rfl) e0 (g := (mkF m 1 #[.val (.ref a), .val (.ref ca), .val (.int (0 : Int32)), .val (.int (3 : Int32)), .val .null, .unset] [(.ref a)])) rfl (by rw [hml]; rfl) rfl (hb hby d3_1) (by decide) (W := 0) (by show 2 * 0 + _ ≤ _; exact Nat.le_of_eq rfl) (by decide)
  refine Dn.of st44 ?_
  show Dn p e below s _ _ _ (T44.setTop (mkF m 4 #[.val (.ref a), .val (.ref ca), .val (.int (0 : Int32)), .val (.int (3 : Int32)), .val .null, .unset] []))
  refine Dn.of (fun tt_ zz_ => XS.iloadN X44.here hx rfl (hb hby d3_4) rfl zz_) ?_
  show Dn p e below s _ _ _ (T44.setTop (mkF m 5 #[.val (.ref a), .val (.ref ca), .val (.int (0 : Int32)), .val (.int (3 : Int32)), .val .null, .unset] [(.int (3 : Int32))]))
  refine Dn.of (fun tt_ zz_ => XS.ifYes X44.here hx rfl (pc0 := 5) (pc' := 27) rfl (hb hby d3_5) rfl ((if0 _ _).trans (feq (by decide)).2) (by decide) (by decide) zz_) ?_
  show Dn p e below s _ _ _ (T44.setTop (mkF m 27 #[.val (.ref a), .val (.ref ca), .val (.int (0 : Int32)), .val (.int (3 : Int32)), .val .null, .unset] []))
  obtain ⟨T45, X45, e45, st45⟩ := getS2 X44 hx hZ hown (host := "") (Or.inl (hg 18 rfl)) Via.refl e44 (SZ.ext O0.2) (g := (mkF m 27 #[.val (.ref a), .val (.ref ca), .val (.int (0 : Int32)), .val (.int (3 : Int32)), .val .null, .unset] [])) rfl (hb hby d3_27)
  refine Dn.of st45 ?_
  show Dn p e below s _ _ _ (T45.setTop (mkF m 30 #[.val (.ref a), .val (.ref ca), .val (.int (0 : Int32)), .val (.int (3 : Int32)), .val .null, .unset] [(.int cz)]))
  refine Dn.of (fun tt_ zz_ => XS.ifNo X45.here hx rfl (hb hby d3_30) rfl ((if0 _ _).trans (feq hcz).1) zz_) ?_
  show Dn p e below s _ _ _ (T45.setTop (mkF m 33 #[.val (.ref a), .val (.ref ca), .val (.int (0 : Int32)), .val (.int (3 : Int32)), .val .null, .unset] []))
  refine Dn.of (fun tt_ zz_ => XS.aloadN X45.here hx rfl (hb hby d3_33) rfl rfl zz_) ?_
  refine Dn.of (fun tt_ zz_ => XS.iloadN X45.here hx rfl (hb hby d3_34) rfl zz_) ?_
  refine Dn.of (fun tt_ zz_ => XS.iloadN X45.here hx rfl (hb hby d3_35) rfl zz_) ?_
  show Dn p e below s _ _ _ (T45.setTop (mkF m 36 #[.val (.ref a), .val (.ref ca), .val (.int (0 : Int32)), .val (.int (3 : Int32)), .val .null, .unset] [(.int (3 : Int32)), (.int (0 : Int32)), (.ref ca)]))
  obtain ⟨v46, T46, L46, Q46, X46, st46⟩ := cSt X45 hx hZ (y := (⟨"java/lang/StringUTF16", "compress", "([CII)[B"⟩ : MethodName)) hown (hg 19 rfl) (hg 20 rfl) (hg 21 rfl) (hg 22 rfl) (by decide) (argsL := [(.ref ca), (.int (0 : Int32)), (.int (3 : Int32))]) (rest := []) (rmC3_3 l Z a0 hw h0 n0 Z0 ca kc c0 c1 c2 y0 y1 y2 RC) e45  0 (by decide) (by decide) (by decide) (by decide) (g := (mkF m 36 #[.val (.ref a), .val (.ref ca), .val (.int (0 : Int32)), .val (.int (3 : Int32)), .val .null, .unset] [(.int (3 : Int32)), (.int (0 : Int32)), (.ref ca)])) rfl (by rw [hml]; rfl) (lenOf pd1 rfl) rfl (by show 2 * 0 + _ ≤ _; exact Nat.le_of_eq rfl) (hb hby d3_36)
  obtain ⟨bb, kb, rfl, gb, lb, M1, X1, R1⟩ := Q46
  refine Dn.of st46 ?_
  show Dn p e below s _ _ _ (T46.setTop (mkF m 39 #[.val (.ref a), .val (.ref ca), .val (.int (0 : Int32)), .val (.int (3 : Int32)), .val .null, .unset] [(.ref bb)]))
  refine Dn.of (fun tt_ zz_ => XS.astore X46.here hx rfl (hb hby d3_39) rfl rfl (l' := #[.val (.ref a), .val (.ref ca), .val (.int (0 : Int32)), .val (.int (3 : Int32)), .val .null, .val (.ref bb)]) rfl zz_) ?_
  refine Dn.of (fun tt_ zz_ => XS.aloadN X46.here hx rfl (hb hby d3_41) rfl rfl zz_) ?_
  refine Dn.of (fun tt_ zz_ => XS.aload X46.here hx rfl (hb hby d3_42) rfl rfl zz_) ?_
  refine Dn.of (fun tt_ zz_ => XS.iloadN X46.here hx rfl (hb hby d3_44) rfl zz_) ?_
  show Dn p e below s _ _ _ (T46.setTop (mkF m 45 #[.val (.ref a), .val (.ref ca), .val (.int (0 : Int32)), .val (.int (3 : Int32)), .val .null, .val (.ref bb)] [(.int (3 : Int32)), (.ref bb), (.ref a)]))
  have dn : bb ≠ a := Ne.symm (Nat.ne_of_lt (Nat.lt_of_lt_of_le E0.lt lb))
  obtain ⟨v47, T47, L47, Q47, X47, st47⟩ := cSt X46 hx hZ (y := (⟨"java/lang/StringUTF16", "coderFromArrayLen", "([BI)B"⟩ : MethodName)) hown (hg 27 rfl) (hg 28 rfl) (hg 21 rfl) (hg 29 rfl) (by decide) (argsL := [(.ref bb), (.int (3 : Int32))]) (rest := [(.ref a)]) (rmCL_3 l Z a0 hw T46.heap n0 (Nat.le_trans Z0 X1.1) bb kb _ R1) rfl  1 (by decide) (by decide) (by decide) (by decide) (g := (mkF m 45 #[.val (.ref a), .val (.ref ca), .val (.int (0 : Int32)), .val (.int (3 : Int32)), .val .null, .val (.ref bb)] [(.int (3 : Int32)), (.ref bb), (.ref a)])) rfl (by rw [hml]; rfl) (lenOf pd2 rfl) rfl (by show 2 * 0 + _ ≤ _; exact Nat.le_of_eq rfl) (hb hby d3_45)
  obtain ⟨rfl, M2, e47⟩ := Q47
  refine Dn.of st47 ?_
  show Dn p e below s _ _ _ (T47.setTop (mkF m 48 #[.val (.ref a), .val (.ref ca), .val (.int (0 : Int32)), .val (.int (3 : Int32)), .val .null, .val (.ref bb)] [(.int (0 : Int32)), (.ref a)]))
  obtain ⟨T48, h48, X48, e48, W48, st48⟩ := putF X47 hx hZ hown (host := "") (Or.inl (hg 30 rfl)) Via.refl e47 (F2.ext X1) (E0.ext X1) (Or.inr ⟨(hg 31 rfl), rfl, hnm⟩) (hg 6 rfl) (ty := .byte) (by decide) rfl rfl (g := (mkF m 48 #[.val (.ref a), .val (.ref ca), .val (.int (0 : Int32)), .val (.int (3 : Int32)), .val .null, .val (.ref bb)] [(.int (0 : Int32)), (.ref a)])) rfl rfl (hb hby d3_48)
  refine Dn.of st48 ?_
  show Dn p e below s _ _ _ (T48.setTop (mkF m 51 #[.val (.ref a), .val (.ref ca), .val (.int (0 : Int32)), .val (.int (3 : Int32)), .val .null, .val (.ref bb)] []))
  have N1 := Fr.snoc X48 (Fr.app (Fr.app N0 M1) M2) g0
  refine Dn.of (fun tt_ zz_ => XS.aloadN X48.here hx rfl (hb hby d3_51) rfl rfl zz_) ?_
  refine Dn.of (fun tt_ zz_ => XS.aload X48.here hx rfl (hb hby d3_52) rfl rfl zz_) ?_
  show Dn p e below s _ _ _ (T48.setTop (mkF m 54 #[.val (.ref a), .val (.ref ca), .val (.int (0 : Int32)), .val (.int (3 : Int32)), .val .null, .val (.ref bb)] [(.ref bb), (.ref a)]))
  obtain ⟨T49, h49, X49, e49, W49, st49⟩ := putF X48 hx hZ hown (host := "") (Or.inl (hg 32 rfl)) Via.refl e48 ((F1.ext X1).other W48 (Or.inr s1)) ((E0.ext X1).wr W48) (Or.inr ⟨(hg 33 rfl), rfl, hnm⟩) (hg 6 rfl) (ty := (.array .byte)) (by decide) rfl rfl (g := (mkF m 54 #[.val (.ref a), .val (.ref ca), .val (.int (0 : Int32)), .val (.int (3 : Int32)), .val .null, .val (.ref bb)] [(.ref bb), (.ref a)])) rfl rfl (hb hby d3_54)
  refine Dn.of st49 ?_
  show Dn p e below s _ _ _ (T49.setTop (mkF m 57 #[.val (.ref a), .val (.ref ca), .val (.int (0 : Int32)), .val (.int (3 : Int32)), .val .null, .val (.ref bb)] []))
  have N2 := Fr.snoc X49 N1 g0
  have R2 := own_arv (vs := own_vs [own_B c0, own_B c1, own_B c2]) ((R1.other W48 dn).other W49 dn) (fun i hi => by
    have : i < 3 := hi
    rcases i with _ | _ | _ | i
    · rfl
    · rfl
    · rfl
    · omega)
  exact Dn.retV X49 hx hlk hret (hb hby d3_57) (by decide) (by decide) (by rw [e49]; exact ⟨bb, rfl, N2, (((Keep.refl h0 [a]).ext X1).wr W48 (Or.inl (List.mem_of_getElem? (i := 0) rfl))).wr W49 (Or.inl (List.mem_of_getElem? (i := 0) rfl)), lb, _, ((E0.ext X1).wr W48).wr W49, ((F2.ext X1).same W48).other W49 (Or.inr s2), ((F1.ext X1).other W48 (Or.inr s1)).same W49, R2⟩)
set_option maxRecDepth 65536 in
set_option maxHeartbeats 40000000 in
theorem rmS1_3 (l : Launch) (Z : State) (a0 : Array Value) (hw : ∀ d ∈ tables_1, d.before a0 Z = true) (h0 : Heap) (n0 : Nat) (Z0 : n0 ≤ h0.size) (a ca : Addr) (kc : ClassId) (cz : Int32) (hcz : ¬ cz = 0) (SZ : Sta Z Z.heap "java/lang/String" "COMPACT_STRINGS" "Z" (.int cz)) (O0 : Old Z n0 h0) (c0 c1 c2 : Int32) (y0 : own_C c0) (y1 : own_C c1) (y2 : own_C c2) (E0 : Exa Z h0 a "java/lang/String") (F1 : Fld Z h0 a "java/lang/String" "value" "[B" .null) (F2 : Fld Z h0 a "java/lang/String" "coder" "B" (.int (0 : Int32))) (g0 : n0 ≤ a) (RC : Arh Z h0 ca kc .char 3 [((2 : Int32), .int c2), ((1 : Int32), .int c1), ((0 : Int32), .int c0)] [] (.int 0)) :
    ctr l Z (⟨"java/lang/String", "<init>", "([C)V"⟩ : MethodName) jdk_42_method_3_code 2 none [] ({ frames := 3, cells := 1, slots := 8, locals := 68 } : Room) 1 8 #[(.ref a), (.ref ca)] h0 (fun v h L => ∃ bb, v = none ∧ Fr n0 L ∧ Keep h0 h [a] ∧ h0.size ≤ bb ∧ own_Str Z h a bb 3 [own_B c0, own_B c1, own_B c2]) := by
  refine ctr_of (by decide +kernel) ?_
  intro p e s m below meth jc s₁ hx hby hml hret hlk hnm hown hZ e0 X0
  have N0 := Fr.nil n0
  have hg : ∀ (i : Nat) {d : Jvm.Cond}, tables_1[i]? = some d → d.before a0 Z = true := fun i d q => hw d (List.mem_of_getElem? q)
  refine Dn.cast (ef2_AA m a ca) ?_
  show Dn p e below s _ _ _ (s₁.setTop (mkF m 0 #[.val (.ref a), .val (.ref ca)] []))
  refine Dn.of (fun tt_ zz_ => XS.aloadN X0.here hx rfl (hb hby d2_0) rfl rfl zz_) ?_
  refine Dn.of (fun tt_ zz_ => XS.aloadN X0.here hx rfl (hb hby d2_1) rfl rfl zz_) ?_
  refine Dn.of (fun tt_ zz_ => XS.iconst X0.here hx rfl (hb hby d2_2) zz_) ?_
  refine Dn.of (fun tt_ zz_ => XS.aloadN X0.here hx rfl (hb hby d2_3) rfl rfl zz_) ?_
  show Dn p e below s _ _ _ (s₁.setTop (mkF m 4 #[.val (.ref a), .val (.ref ca)] [(.ref ca), (.int (0 : Int32)), (.ref ca), (.ref a)]))
  have Rl50 := RC
  obtain ⟨d50, B_50, _, Sd50, Nd50, _, _⟩ := Rl50
  refine Dn.of (fun tt_ zz_ => X0.arraylength hx (by rw [e0]; exact B_50.1) (State.isArrayOf_alike hZ.alike B_50.2.1) (g := (mkF m 4 #[.val (.ref a), .val (.ref ca)] [(.ref ca), (.int (0 : Int32)), (.ref ca), (.ref a)])) rfl rfl (hb hby d2_4) tt_ zz_) ?_
  rw [Sd50, own_sz Nd50]
  show Dn p e below s _ _ _ (s₁.setTop (mkF m 5 #[.val (.ref a), .val (.ref ca)] [(.int (3 : Int32)), (.int (0 : Int32)), (.ref ca), (.ref a)]))
  refine Dn.of (fun tt_ zz_ => XS.aconstNull X0.here hx rfl (hb hby d2_5) zz_) ?_
  show Dn p e below s _ _ _ (s₁.setTop (mkF m 6 #[.val (.ref a), .val (.ref ca)] [.null, (.int (3 : Int32)), (.int (0 : Int32)), (.ref ca), (.ref a)]))
  obtain ⟨v51, T51, L51, Q51, X51, st51⟩ := cIn X0 hx hZ (y := (⟨"java/lang/String", "<init>", "([CIILjava/lang/Void;)V"⟩ : MethodName)) rfl hown (hg 11 rfl) (hg 12 rfl) (hg 7 rfl) (hg 14 rfl) (by decide) (a := a) (argsL := [(.ref ca), (.int (0 : Int32)), (.int (3 : Int32)), .null]) (rest := []) (rmS4_3 l Z a0 hw h0 n0 Z0 a ca kc cz hcz SZ O0 c0 c1 c2 y0 y1 y2 E0 F1 F2 g0 RC) e0  0 (by decide) (by decide) (by decide) (by decide) (g := (mkF m 6 #[.val (.ref a), .val (.ref ca)] [.null, (.int (3 : Int32)), (.int (0 : Int32)), (.ref ca), (.ref a)])) rfl (by rw [hml]; rfl) (lenOf pd3 rfl) rfl (by show 2 * 0 + _ ≤ _; exact Nat.le_of_eq rfl) (hb hby d2_6)
  obtain ⟨bb, rfl, M1, r⟩ := Q51
  refine Dn.of st51 ?_
  show Dn p e below s _ _ _ (T51.setTop (mkF m 9 #[.val (.ref a), .val (.ref ca)] []))
  exact Dn.retV X51 hx hlk hret (hb hby d2_9) (by decide) (by decide) (⟨bb, rfl, Fr.app N0 M1, r⟩)
set_option maxRecDepth 65536 in
set_option maxHeartbeats 40000000 in
theorem rmC5_4 (l : Launch) (Z : State) (a0 : Array Value) (hw : ∀ d ∈ tables_1, d.before a0 Z = true) (h0 : Heap) (n0 : Nat) (Z0 : n0 ≤ h0.size) (ca bb : Addr) (kc kb : ClassId) (c0 c1 c2 c3 : Int32) (y0 : own_C c0) (y1 : own_C c1) (y2 : own_C c2) (y3 : own_C c3) (RC : Arh Z h0 ca kc .char 4 [((3 : Int32), .int c3), ((2 : Int32), .int c2), ((1 : Int32), .int c1), ((0 : Int32), .int c0)] [] (.int 0)) (RB : Arh Z h0 bb kb .byte 4 [] [] (.int 0)) (dn : ca ≠ bb) (g0 : n0 ≤ bb) :
    ctr l Z (⟨"java/lang/StringUTF16", "compress", "([CI[BII)I"⟩ : MethodName) jdk_52_method_21_code 7 (some .int) [] ({ frames := 0, cells := 0, slots := 0, locals := 0 } : Room) 0 0 #[(.ref ca), (.int (0 : Int32)), (.ref bb), (.int (0 : Int32)), (.int (4 : Int32))] h0 (fun v h L => v = some (.int (4 : Int32)) ∧ Fr n0 L ∧ Keep h0 h [bb] ∧ Arh Z h bb kb .byte 4 [((3 : Int32), .int (own_B c3)), ((2 : Int32), .int (own_B c2)), ((1 : Int32), .int (own_B c1)), ((0 : Int32), .int (own_B c0))] [] (.int 0)) := by
  refine ctr_of (by decide +kernel) ?_
  intro p e s m below meth jc s₁ hx hby hml hret hlk hnm hown hZ e0 X0
  have N0 := Fr.nil n0
  have hg : ∀ (i : Nat) {d : Jvm.Cond}, tables_1[i]? = some d → d.before a0 Z = true := fun i d q => hw d (List.mem_of_getElem? q)
  refine Dn.cast (ef6_AIAII m ca (0 : Int32) bb (0 : Int32) (4 : Int32)) ?_
  show Dn p e below s _ _ _ (s₁.setTop (mkF m 0 #[.val (.ref ca), .val (.int (0 : Int32)), .val (.ref bb), .val (.int (0 : Int32)), .val (.int (4 : Int32)), .unset, .unset] []))
  refine Dn.of (fun tt_ zz_ => XS.iconst X0.here hx rfl (hb hby d6_0) zz_) ?_
  refine Dn.of (fun tt_ zz_ => XS.istore X0.here hx rfl (hb hby d6_1) rfl (l' := #[.val (.ref ca), .val (.int (0 : Int32)), .val (.ref bb), .val (.int (0 : Int32)), .val (.int (4 : Int32)), .val (.int (0 : Int32)), .unset]) rfl zz_) ?_
  refine Dn.of (fun tt_ zz_ => XS.iload X0.here hx rfl (hb hby d6_3) rfl zz_) ?_
  refine Dn.of (fun tt_ zz_ => XS.iload X0.here hx rfl (hb hby d6_5) rfl zz_) ?_
  show Dn p e below s _ _ _ (s₁.setTop (mkF m 7 #[.val (.ref ca), .val (.int (0 : Int32)), .val (.ref bb), .val (.int (0 : Int32)), .val (.int (4 : Int32)), .val (.int (0 : Int32)), .unset] [(.int (4 : Int32)), (.int (0 : Int32))]))
  refine Dn.of (fun tt_ zz_ => XS.icmpNo X0.here hx rfl (hb hby d6_7) rfl (tlt (by decide)).2.1 zz_) ?_
  show Dn p e below s _ _ _ (s₁.setTop (mkF m 10 #[.val (.ref ca), .val (.int (0 : Int32)), .val (.ref bb), .val (.int (0 : Int32)), .val (.int (4 : Int32)), .val (.int (0 : Int32)), .unset] []))
  refine Dn.of (fun tt_ zz_ => XS.aloadN X0.here hx rfl (hb hby d6_10) rfl rfl zz_) ?_
  refine Dn.of (fun tt_ zz_ => XS.iloadN X0.here hx rfl (hb hby d6_11) rfl zz_) ?_
  show Dn p e below s _ _ _ (s₁.setTop (mkF m 12 #[.val (.ref ca), .val (.int (0 : Int32)), .val (.ref bb), .val (.int (0 : Int32)), .val (.int (4 : Int32)), .val (.int (0 : Int32)), .unset] [(.int (0 : Int32)), (.ref ca)]))
  have Rr52 := RC
  obtain ⟨d52, B_52, _, Sd52, _, Hd52, _⟩ := Rr52
  refine Dn.of (fun tt_ zz_ => X0.caload hx (j := (0 : Int32)) (v := (.int c0)) (by rw [e0]; exact B_52.1) (State.isArrayOf_alike hZ.alike B_52.2.1) B_52.2.2 (inb_of Sd52 (by decide)) (atH Hd52 (inb_of Sd52 (by decide)) rfl) (g := (mkF m 12 #[.val (.ref ca), .val (.int (0 : Int32)), .val (.ref bb), .val (.int (0 : Int32)), .val (.int (4 : Int32)), .val (.int (0 : Int32)), .unset] [(.int (0 : Int32)), (.ref ca)])) rfl rfl (hb hby d6_12) tt_ zz_) ?_
  show Dn p e below s _ _ _ (s₁.setTop (mkF m 13 #[.val (.ref ca), .val (.int (0 : Int32)), .val (.ref bb), .val (.int (0 : Int32)), .val (.int (4 : Int32)), .val (.int (0 : Int32)), .unset] [(.int c0)]))
  refine Dn.of (fun tt_ zz_ => XS.istore X0.here hx rfl (hb hby d6_13) rfl (l' := #[.val (.ref ca), .val (.int (0 : Int32)), .val (.ref bb), .val (.int (0 : Int32)), .val (.int (4 : Int32)), .val (.int (0 : Int32)), .val (.int c0)]) rfl zz_) ?_
  refine Dn.of (fun tt_ zz_ => XS.iload X0.here hx rfl (hb hby d6_15) rfl zz_) ?_
  refine Dn.of (fun tt_ zz_ => XS.sipush X0.here hx rfl (hb hby d6_17) zz_) ?_
  show Dn p e below s _ _ _ (s₁.setTop (mkF m 20 #[.val (.ref ca), .val (.int (0 : Int32)), .val (.ref bb), .val (.int (0 : Int32)), .val (.int (4 : Int32)), .val (.int (0 : Int32)), .val (.int c0)] [(.int (255 : Int32)), (.int c0)]))
  refine Dn.of (fun tt_ zz_ => XS.icmpYes X0.here hx rfl (pc0 := 20) (pc' := 26) rfl (hb hby d6_20) rfl (flt (own_gt y0)).2.2.2 (by decide) (by decide) zz_) ?_
  show Dn p e below s _ _ _ (s₁.setTop (mkF m 26 #[.val (.ref ca), .val (.int (0 : Int32)), .val (.ref bb), .val (.int (0 : Int32)), .val (.int (4 : Int32)), .val (.int (0 : Int32)), .val (.int c0)] []))
  refine Dn.of (fun tt_ zz_ => XS.aloadN X0.here hx rfl (hb hby d6_26) rfl rfl zz_) ?_
  refine Dn.of (fun tt_ zz_ => XS.iloadN X0.here hx rfl (hb hby d6_27) rfl zz_) ?_
  refine Dn.of (fun tt_ zz_ => XS.iload X0.here hx rfl (hb hby d6_28) rfl zz_) ?_
  refine Dn.of (fun tt_ zz_ => XS.i2b X0.here hx rfl (hb hby d6_30) rfl zz_) ?_
  show Dn p e below s _ _ _ (s₁.setTop (mkF m 31 #[.val (.ref ca), .val (.int (0 : Int32)), .val (.ref bb), .val (.int (0 : Int32)), .val (.int (4 : Int32)), .val (.int (0 : Int32)), .val (.int c0)] [(.int (c0.toInt8.toInt32)), (.int (0 : Int32)), (.ref bb)]))
  obtain ⟨c53, A_53, p53, S53, P53, H53, G53⟩ := RB
  obtain ⟨T54, h54, X54, e54, W54, st54⟩ := stB X0 hx hZ e0 A_53 (j := (0 : Int32)) (inb_of S53 (by decide)) (g := (mkF m 31 #[.val (.ref ca), .val (.int (0 : Int32)), .val (.ref bb), .val (.int (0 : Int32)), .val (.int (4 : Int32)), .val (.int (0 : Int32)), .val (.int c0)] [(.int (c0.toInt8.toInt32)), (.int (0 : Int32)), (.ref bb)])) rfl rfl (hb hby d6_31)
  refine Dn.of st54 ?_
  show Dn p e below s _ _ _ (T54.setTop (mkF m 32 #[.val (.ref ca), .val (.int (0 : Int32)), .val (.ref bb), .val (.int (0 : Int32)), .val (.int (4 : Int32)), .val (.int (0 : Int32)), .val (.int c0)] []))
  have R_53 := Arh.push A_53 p53 S53 P53 H53 G53 (v := (.int (own_B c0))) (fits_byte_narrow _) W54 (inb_of S53 (by decide))
  have N53 := Fr.snoc X54 N0 g0
  have K0 := (Keep.refl h0 [bb]).wr W54 (Or.inl (List.mem_of_getElem? (i := 0) rfl))
  have C0 := RC.other W54 dn
  refine Dn.of (fun tt_ zz_ => XS.iinc X54.here hx rfl (hb hby d6_32) rfl (l' := #[.val (.ref ca), .val (.int ((0 : Int32) + (1 : Int32))), .val (.ref bb), .val (.int (0 : Int32)), .val (.int (4 : Int32)), .val (.int (0 : Int32)), .val (.int c0)]) rfl zz_) ?_
  refine Dn.of (fun tt_ zz_ => XS.iinc X54.here hx rfl (hb hby d6_35) rfl (l' := #[.val (.ref ca), .val (.int ((0 : Int32) + (1 : Int32))), .val (.ref bb), .val (.int ((0 : Int32) + (1 : Int32))), .val (.int (4 : Int32)), .val (.int (0 : Int32)), .val (.int c0)]) rfl zz_) ?_
  refine Dn.of (fun tt_ zz_ => XS.iinc X54.here hx rfl (hb hby d6_38) rfl (l' := #[.val (.ref ca), .val (.int ((0 : Int32) + (1 : Int32))), .val (.ref bb), .val (.int ((0 : Int32) + (1 : Int32))), .val (.int (4 : Int32)), .val (.int ((0 : Int32) + (1 : Int32))), .val (.int c0)]) rfl zz_) ?_
  refine Dn.of (fun tt_ zz_ => XS.goto X54.here hx rfl (pc0 := 41) (pc' := 3) rfl (hb hby d6_41) (by decide) (by decide) zz_) ?_
  show Dn p e below s _ _ _ (T54.setTop (mkF m 3 #[.val (.ref ca), .val (.int ((0 : Int32) + (1 : Int32))), .val (.ref bb), .val (.int ((0 : Int32) + (1 : Int32))), .val (.int (4 : Int32)), .val (.int ((0 : Int32) + (1 : Int32))), .val (.int c0)] []))
  rw [show ((0 : Int32) + (1 : Int32)) = (1 : Int32) by decide]
  show Dn p e below s _ _ _ (T54.setTop (mkF m 3 #[.val (.ref ca), .val (.int (1 : Int32)), .val (.ref bb), .val (.int (1 : Int32)), .val (.int (4 : Int32)), .val (.int (1 : Int32)), .val (.int c0)] []))
  refine Dn.of (fun tt_ zz_ => XS.iload X54.here hx rfl (hb hby d6_3) rfl zz_) ?_
  refine Dn.of (fun tt_ zz_ => XS.iload X54.here hx rfl (hb hby d6_5) rfl zz_) ?_
  show Dn p e below s _ _ _ (T54.setTop (mkF m 7 #[.val (.ref ca), .val (.int (1 : Int32)), .val (.ref bb), .val (.int (1 : Int32)), .val (.int (4 : Int32)), .val (.int (1 : Int32)), .val (.int c0)] [(.int (4 : Int32)), (.int (1 : Int32))]))
  refine Dn.of (fun tt_ zz_ => XS.icmpNo X54.here hx rfl (hb hby d6_7) rfl (tlt (by decide)).2.1 zz_) ?_
  show Dn p e below s _ _ _ (T54.setTop (mkF m 10 #[.val (.ref ca), .val (.int (1 : Int32)), .val (.ref bb), .val (.int (1 : Int32)), .val (.int (4 : Int32)), .val (.int (1 : Int32)), .val (.int c0)] []))
  refine Dn.of (fun tt_ zz_ => XS.aloadN X54.here hx rfl (hb hby d6_10) rfl rfl zz_) ?_
  refine Dn.of (fun tt_ zz_ => XS.iloadN X54.here hx rfl (hb hby d6_11) rfl zz_) ?_
  show Dn p e below s _ _ _ (T54.setTop (mkF m 12 #[.val (.ref ca), .val (.int (1 : Int32)), .val (.ref bb), .val (.int (1 : Int32)), .val (.int (4 : Int32)), .val (.int (1 : Int32)), .val (.int c0)] [(.int (1 : Int32)), (.ref ca)]))
  have Rr55 := C0
  obtain ⟨d55, B_55, _, Sd55, _, Hd55, _⟩ := Rr55
  refine Dn.of (fun tt_ zz_ => X54.caload hx (j := (1 : Int32)) (v := (.int c1)) (by rw [e54]; exact B_55.1) (State.isArrayOf_alike hZ.alike B_55.2.1) B_55.2.2 (inb_of Sd55 (by decide)) (atH Hd55 (inb_of Sd55 (by decide)) rfl) (g := (mkF m 12 #[.val (.ref ca), .val (.int (1 : Int32)), .val (.ref bb), .val (.int (1 : Int32)), .val (.int (4 : Int32)), .val (.int (1 : Int32)), .val (.int c0)] [(.int (1 : Int32)), (.ref ca)])) rfl rfl (hb hby d6_12) tt_ zz_) ?_
  show Dn p e below s _ _ _ (T54.setTop (mkF m 13 #[.val (.ref ca), .val (.int (1 : Int32)), .val (.ref bb), .val (.int (1 : Int32)), .val (.int (4 : Int32)), .val (.int (1 : Int32)), .val (.int c0)] [(.int c1)]))
  refine Dn.of (fun tt_ zz_ => XS.istore X54.here hx rfl (hb hby d6_13) rfl (l' := #[.val (.ref ca), .val (.int (1 : Int32)), .val (.ref bb), .val (.int (1 : Int32)), .val (.int (4 : Int32)), .val (.int (1 : Int32)), .val (.int c1)]) rfl zz_) ?_
  refine Dn.of (fun tt_ zz_ => XS.iload X54.here hx rfl (hb hby d6_15) rfl zz_) ?_
  refine Dn.of (fun tt_ zz_ => XS.sipush X54.here hx rfl (hb hby d6_17) zz_) ?_
  show Dn p e below s _ _ _ (T54.setTop (mkF m 20 #[.val (.ref ca), .val (.int (1 : Int32)), .val (.ref bb), .val (.int (1 : Int32)), .val (.int (4 : Int32)), .val (.int (1 : Int32)), .val (.int c1)] [(.int (255 : Int32)), (.int c1)]))
  refine Dn.of (fun tt_ zz_ => XS.icmpYes X54.here hx rfl (pc0 := 20) (pc' := 26) rfl (hb hby d6_20) rfl (flt (own_gt y1)).2.2.2 (by decide) (by decide) zz_) ?_
  show Dn p e below s _ _ _ (T54.setTop (mkF m 26 #[.val (.ref ca), .val (.int (1 : Int32)), .val (.ref bb), .val (.int (1 : Int32)), .val (.int (4 : Int32)), .val (.int (1 : Int32)), .val (.int c1)] []))
  refine Dn.of (fun tt_ zz_ => XS.aloadN X54.here hx rfl (hb hby d6_26) rfl rfl zz_) ?_
  refine Dn.of (fun tt_ zz_ => XS.iloadN X54.here hx rfl (hb hby d6_27) rfl zz_) ?_
  refine Dn.of (fun tt_ zz_ => XS.iload X54.here hx rfl (hb hby d6_28) rfl zz_) ?_
  refine Dn.of (fun tt_ zz_ => XS.i2b X54.here hx rfl (hb hby d6_30) rfl zz_) ?_
  show Dn p e below s _ _ _ (T54.setTop (mkF m 31 #[.val (.ref ca), .val (.int (1 : Int32)), .val (.ref bb), .val (.int (1 : Int32)), .val (.int (4 : Int32)), .val (.int (1 : Int32)), .val (.int c1)] [(.int (c1.toInt8.toInt32)), (.int (1 : Int32)), (.ref bb)]))
  obtain ⟨c56, A_56, p56, S56, P56, H56, G56⟩ := R_53
  obtain ⟨T57, h57, X57, e57, W57, st57⟩ := stB X54 hx hZ e54 A_56 (j := (1 : Int32)) (inb_of S56 (by decide)) (g := (mkF m 31 #[.val (.ref ca), .val (.int (1 : Int32)), .val (.ref bb), .val (.int (1 : Int32)), .val (.int (4 : Int32)), .val (.int (1 : Int32)), .val (.int c1)] [(.int (c1.toInt8.toInt32)), (.int (1 : Int32)), (.ref bb)])) rfl rfl (hb hby d6_31)
  refine Dn.of st57 ?_
  show Dn p e below s _ _ _ (T57.setTop (mkF m 32 #[.val (.ref ca), .val (.int (1 : Int32)), .val (.ref bb), .val (.int (1 : Int32)), .val (.int (4 : Int32)), .val (.int (1 : Int32)), .val (.int c1)] []))
  have R_56 := Arh.push A_56 p56 S56 P56 H56 G56 (v := (.int (own_B c1))) (fits_byte_narrow _) W57 (inb_of S56 (by decide))
  have N56 := Fr.snoc X57 N53 g0
  have K1 := K0.wr W57 (Or.inl (List.mem_of_getElem? (i := 0) rfl))
  have C1 := C0.other W57 dn
  refine Dn.of (fun tt_ zz_ => XS.iinc X57.here hx rfl (hb hby d6_32) rfl (l' := #[.val (.ref ca), .val (.int ((1 : Int32) + (1 : Int32))), .val (.ref bb), .val (.int (1 : Int32)), .val (.int (4 : Int32)), .val (.int (1 : Int32)), .val (.int c1)]) rfl zz_) ?_
  refine Dn.of (fun tt_ zz_ => XS.iinc X57.here hx rfl (hb hby d6_35) rfl (l' := #[.val (.ref ca), .val (.int ((1 : Int32) + (1 : Int32))), .val (.ref bb), .val (.int ((1 : Int32) + (1 : Int32))), .val (.int (4 : Int32)), .val (.int (1 : Int32)), .val (.int c1)]) rfl zz_) ?_
  refine Dn.of (fun tt_ zz_ => XS.iinc X57.here hx rfl (hb hby d6_38) rfl (l' := #[.val (.ref ca), .val (.int ((1 : Int32) + (1 : Int32))), .val (.ref bb), .val (.int ((1 : Int32) + (1 : Int32))), .val (.int (4 : Int32)), .val (.int ((1 : Int32) + (1 : Int32))), .val (.int c1)]) rfl zz_) ?_
  refine Dn.of (fun tt_ zz_ => XS.goto X57.here hx rfl (pc0 := 41) (pc' := 3) rfl (hb hby d6_41) (by decide) (by decide) zz_) ?_
  show Dn p e below s _ _ _ (T57.setTop (mkF m 3 #[.val (.ref ca), .val (.int ((1 : Int32) + (1 : Int32))), .val (.ref bb), .val (.int ((1 : Int32) + (1 : Int32))), .val (.int (4 : Int32)), .val (.int ((1 : Int32) + (1 : Int32))), .val (.int c1)] []))
  rw [show ((1 : Int32) + (1 : Int32)) = (2 : Int32) by decide]
  show Dn p e below s _ _ _ (T57.setTop (mkF m 3 #[.val (.ref ca), .val (.int (2 : Int32)), .val (.ref bb), .val (.int (2 : Int32)), .val (.int (4 : Int32)), .val (.int (2 : Int32)), .val (.int c1)] []))
  refine Dn.of (fun tt_ zz_ => XS.iload X57.here hx rfl (hb hby d6_3) rfl zz_) ?_
  refine Dn.of (fun tt_ zz_ => XS.iload X57.here hx rfl (hb hby d6_5) rfl zz_) ?_
  show Dn p e below s _ _ _ (T57.setTop (mkF m 7 #[.val (.ref ca), .val (.int (2 : Int32)), .val (.ref bb), .val (.int (2 : Int32)), .val (.int (4 : Int32)), .val (.int (2 : Int32)), .val (.int c1)] [(.int (4 : Int32)), (.int (2 : Int32))]))
  refine Dn.of (fun tt_ zz_ => XS.icmpNo X57.here hx rfl (hb hby d6_7) rfl (tlt (by decide)).2.1 zz_) ?_
  show Dn p e below s _ _ _ (T57.setTop (mkF m 10 #[.val (.ref ca), .val (.int (2 : Int32)), .val (.ref bb), .val (.int (2 : Int32)), .val (.int (4 : Int32)), .val (.int (2 : Int32)), .val (.int c1)] []))
  refine Dn.of (fun tt_ zz_ => XS.aloadN X57.here hx rfl (hb hby d6_10) rfl rfl zz_) ?_
  refine Dn.of (fun tt_ zz_ => XS.iloadN X57.here hx rfl (hb hby d6_11) rfl zz_) ?_
  show Dn p e below s _ _ _ (T57.setTop (mkF m 12 #[.val (.ref ca), .val (.int (2 : Int32)), .val (.ref bb), .val (.int (2 : Int32)), .val (.int (4 : Int32)), .val (.int (2 : Int32)), .val (.int c1)] [(.int (2 : Int32)), (.ref ca)]))
  have Rr58 := C1
  obtain ⟨d58, B_58, _, Sd58, _, Hd58, _⟩ := Rr58
  refine Dn.of (fun tt_ zz_ => X57.caload hx (j := (2 : Int32)) (v := (.int c2)) (by rw [e57]; exact B_58.1) (State.isArrayOf_alike hZ.alike B_58.2.1) B_58.2.2 (inb_of Sd58 (by decide)) (atH Hd58 (inb_of Sd58 (by decide)) rfl) (g := (mkF m 12 #[.val (.ref ca), .val (.int (2 : Int32)), .val (.ref bb), .val (.int (2 : Int32)), .val (.int (4 : Int32)), .val (.int (2 : Int32)), .val (.int c1)] [(.int (2 : Int32)), (.ref ca)])) rfl rfl (hb hby d6_12) tt_ zz_) ?_
  show Dn p e below s _ _ _ (T57.setTop (mkF m 13 #[.val (.ref ca), .val (.int (2 : Int32)), .val (.ref bb), .val (.int (2 : Int32)), .val (.int (4 : Int32)), .val (.int (2 : Int32)), .val (.int c1)] [(.int c2)]))
  refine Dn.of (fun tt_ zz_ => XS.istore X57.here hx rfl (hb hby d6_13) rfl (l' := #[.val (.ref ca), .val (.int (2 : Int32)), .val (.ref bb), .val (.int (2 : Int32)), .val (.int (4 : Int32)), .val (.int (2 : Int32)), .val (.int c2)]) rfl zz_) ?_
  refine Dn.of (fun tt_ zz_ => XS.iload X57.here hx rfl (hb hby d6_15) rfl zz_) ?_
  refine Dn.of (fun tt_ zz_ => XS.sipush X57.here hx rfl (hb hby d6_17) zz_) ?_
  show Dn p e below s _ _ _ (T57.setTop (mkF m 20 #[.val (.ref ca), .val (.int (2 : Int32)), .val (.ref bb), .val (.int (2 : Int32)), .val (.int (4 : Int32)), .val (.int (2 : Int32)), .val (.int c2)] [(.int (255 : Int32)), (.int c2)]))
  refine Dn.of (fun tt_ zz_ => XS.icmpYes X57.here hx rfl (pc0 := 20) (pc' := 26) rfl (hb hby d6_20) rfl (flt (own_gt y2)).2.2.2 (by decide) (by decide) zz_) ?_
  show Dn p e below s _ _ _ (T57.setTop (mkF m 26 #[.val (.ref ca), .val (.int (2 : Int32)), .val (.ref bb), .val (.int (2 : Int32)), .val (.int (4 : Int32)), .val (.int (2 : Int32)), .val (.int c2)] []))
  refine Dn.of (fun tt_ zz_ => XS.aloadN X57.here hx rfl (hb hby d6_26) rfl rfl zz_) ?_
  refine Dn.of (fun tt_ zz_ => XS.iloadN X57.here hx rfl (hb hby d6_27) rfl zz_) ?_
  refine Dn.of (fun tt_ zz_ => XS.iload X57.here hx rfl (hb hby d6_28) rfl zz_) ?_
  refine Dn.of (fun tt_ zz_ => XS.i2b X57.here hx rfl (hb hby d6_30) rfl zz_) ?_
  show Dn p e below s _ _ _ (T57.setTop (mkF m 31 #[.val (.ref ca), .val (.int (2 : Int32)), .val (.ref bb), .val (.int (2 : Int32)), .val (.int (4 : Int32)), .val (.int (2 : Int32)), .val (.int c2)] [(.int (c2.toInt8.toInt32)), (.int (2 : Int32)), (.ref bb)]))
  obtain ⟨c59, A_59, p59, S59, P59, H59, G59⟩ := R_56
  obtain ⟨T60, h60, X60, e60, W60, st60⟩ := stB X57 hx hZ e57 A_59 (j := (2 : Int32)) (inb_of S59 (by decide)) (g := (mkF m 31 #[.val (.ref ca), .val (.int (2 : Int32)), .val (.ref bb), .val (.int (2 : Int32)), .val (.int (4 : Int32)), .val (.int (2 : Int32)), .val (.int c2)] [(.int (c2.toInt8.toInt32)), (.int (2 : Int32)), (.ref bb)])) rfl rfl (hb hby d6_31)
  refine Dn.of st60 ?_
  show Dn p e below s _ _ _ (T60.setTop (mkF m 32 #[.val (.ref ca), .val (.int (2 : Int32)), .val (.ref bb), .val (.int (2 : Int32)), .val (.int (4 : Int32)), .val (.int (2 : Int32)), .val (.int c2)] []))
  have R_59 := Arh.push A_59 p59 S59 P59 H59 G59 (v := (.int (own_B c2))) (fits_byte_narrow _) W60 (inb_of S59 (by decide))
  have N59 := Fr.snoc X60 N56 g0
  have K2 := K1.wr W60 (Or.inl (List.mem_of_getElem? (i := 0) rfl))
  have C2 := C1.other W60 dn
  refine Dn.of (fun tt_ zz_ => XS.iinc X60.here hx rfl (hb hby d6_32) rfl (l' := #[.val (.ref ca), .val (.int ((2 : Int32) + (1 : Int32))), .val (.ref bb), .val (.int (2 : Int32)), .val (.int (4 : Int32)), .val (.int (2 : Int32)), .val (.int c2)]) rfl zz_) ?_
  refine Dn.of (fun tt_ zz_ => XS.iinc X60.here hx rfl (hb hby d6_35) rfl (l' := #[.val (.ref ca), .val (.int ((2 : Int32) + (1 : Int32))), .val (.ref bb), .val (.int ((2 : Int32) + (1 : Int32))), .val (.int (4 : Int32)), .val (.int (2 : Int32)), .val (.int c2)]) rfl zz_) ?_
  refine Dn.of (fun tt_ zz_ => XS.iinc X60.here hx rfl (hb hby d6_38) rfl (l' := #[.val (.ref ca), .val (.int ((2 : Int32) + (1 : Int32))), .val (.ref bb), .val (.int ((2 : Int32) + (1 : Int32))), .val (.int (4 : Int32)), .val (.int ((2 : Int32) + (1 : Int32))), .val (.int c2)]) rfl zz_) ?_
  refine Dn.of (fun tt_ zz_ => XS.goto X60.here hx rfl (pc0 := 41) (pc' := 3) rfl (hb hby d6_41) (by decide) (by decide) zz_) ?_
  show Dn p e below s _ _ _ (T60.setTop (mkF m 3 #[.val (.ref ca), .val (.int ((2 : Int32) + (1 : Int32))), .val (.ref bb), .val (.int ((2 : Int32) + (1 : Int32))), .val (.int (4 : Int32)), .val (.int ((2 : Int32) + (1 : Int32))), .val (.int c2)] []))
  rw [show ((2 : Int32) + (1 : Int32)) = (3 : Int32) by decide]
  show Dn p e below s _ _ _ (T60.setTop (mkF m 3 #[.val (.ref ca), .val (.int (3 : Int32)), .val (.ref bb), .val (.int (3 : Int32)), .val (.int (4 : Int32)), .val (.int (3 : Int32)), .val (.int c2)] []))
  refine Dn.of (fun tt_ zz_ => XS.iload X60.here hx rfl (hb hby d6_3) rfl zz_) ?_
  refine Dn.of (fun tt_ zz_ => XS.iload X60.here hx rfl (hb hby d6_5) rfl zz_) ?_
  show Dn p e below s _ _ _ (T60.setTop (mkF m 7 #[.val (.ref ca), .val (.int (3 : Int32)), .val (.ref bb), .val (.int (3 : Int32)), .val (.int (4 : Int32)), .val (.int (3 : Int32)), .val (.int c2)] [(.int (4 : Int32)), (.int (3 : Int32))]))
  refine Dn.of (fun tt_ zz_ => XS.icmpNo X60.here hx rfl (hb hby d6_7) rfl (tlt (by decide)).2.1 zz_) ?_
  show Dn p e below s _ _ _ (T60.setTop (mkF m 10 #[.val (.ref ca), .val (.int (3 : Int32)), .val (.ref bb), .val (.int (3 : Int32)), .val (.int (4 : Int32)), .val (.int (3 : Int32)), .val (.int c2)] []))
  refine Dn.of (fun tt_ zz_ => XS.aloadN X60.here hx rfl (hb hby d6_10) rfl rfl zz_) ?_
  refine Dn.of (fun tt_ zz_ => XS.iloadN X60.here hx rfl (hb hby d6_11) rfl zz_) ?_
  show Dn p e below s _ _ _ (T60.setTop (mkF m 12 #[.val (.ref ca), .val (.int (3 : Int32)), .val (.ref bb), .val (.int (3 : Int32)), .val (.int (4 : Int32)), .val (.int (3 : Int32)), .val (.int c2)] [(.int (3 : Int32)), (.ref ca)]))
  have Rr61 := C2
  obtain ⟨d61, B_61, _, Sd61, _, Hd61, _⟩ := Rr61
  refine Dn.of (fun tt_ zz_ => X60.caload hx (j := (3 : Int32)) (v := (.int c3)) (by rw [e60]; exact B_61.1) (State.isArrayOf_alike hZ.alike B_61.2.1) B_61.2.2 (inb_of Sd61 (by decide)) (atH Hd61 (inb_of Sd61 (by decide)) rfl) (g := (mkF m 12 #[.val (.ref ca), .val (.int (3 : Int32)), .val (.ref bb), .val (.int (3 : Int32)), .val (.int (4 : Int32)), .val (.int (3 : Int32)), .val (.int c2)] [(.int (3 : Int32)), (.ref ca)])) rfl rfl (hb hby d6_12) tt_ zz_) ?_
  show Dn p e below s _ _ _ (T60.setTop (mkF m 13 #[.val (.ref ca), .val (.int (3 : Int32)), .val (.ref bb), .val (.int (3 : Int32)), .val (.int (4 : Int32)), .val (.int (3 : Int32)), .val (.int c2)] [(.int c3)]))
  refine Dn.of (fun tt_ zz_ => XS.istore X60.here hx rfl (hb hby d6_13) rfl (l' := #[.val (.ref ca), .val (.int (3 : Int32)), .val (.ref bb), .val (.int (3 : Int32)), .val (.int (4 : Int32)), .val (.int (3 : Int32)), .val (.int c3)]) rfl zz_) ?_
  refine Dn.of (fun tt_ zz_ => XS.iload X60.here hx rfl (hb hby d6_15) rfl zz_) ?_
  refine Dn.of (fun tt_ zz_ => XS.sipush X60.here hx rfl (hb hby d6_17) zz_) ?_
  show Dn p e below s _ _ _ (T60.setTop (mkF m 20 #[.val (.ref ca), .val (.int (3 : Int32)), .val (.ref bb), .val (.int (3 : Int32)), .val (.int (4 : Int32)), .val (.int (3 : Int32)), .val (.int c3)] [(.int (255 : Int32)), (.int c3)]))
  refine Dn.of (fun tt_ zz_ => XS.icmpYes X60.here hx rfl (pc0 := 20) (pc' := 26) rfl (hb hby d6_20) rfl (flt (own_gt y3)).2.2.2 (by decide) (by decide) zz_) ?_
  show Dn p e below s _ _ _ (T60.setTop (mkF m 26 #[.val (.ref ca), .val (.int (3 : Int32)), .val (.ref bb), .val (.int (3 : Int32)), .val (.int (4 : Int32)), .val (.int (3 : Int32)), .val (.int c3)] []))
  refine Dn.of (fun tt_ zz_ => XS.aloadN X60.here hx rfl (hb hby d6_26) rfl rfl zz_) ?_
  refine Dn.of (fun tt_ zz_ => XS.iloadN X60.here hx rfl (hb hby d6_27) rfl zz_) ?_
  refine Dn.of (fun tt_ zz_ => XS.iload X60.here hx rfl (hb hby d6_28) rfl zz_) ?_
  refine Dn.of (fun tt_ zz_ => XS.i2b X60.here hx rfl (hb hby d6_30) rfl zz_) ?_
  show Dn p e below s _ _ _ (T60.setTop (mkF m 31 #[.val (.ref ca), .val (.int (3 : Int32)), .val (.ref bb), .val (.int (3 : Int32)), .val (.int (4 : Int32)), .val (.int (3 : Int32)), .val (.int c3)] [(.int (c3.toInt8.toInt32)), (.int (3 : Int32)), (.ref bb)]))
  obtain ⟨c62, A_62, p62, S62, P62, H62, G62⟩ := R_59
  obtain ⟨T63, h63, X63, e63, W63, st63⟩ := stB X60 hx hZ e60 A_62 (j := (3 : Int32)) (inb_of S62 (by decide)) (g := (mkF m 31 #[.val (.ref ca), .val (.int (3 : Int32)), .val (.ref bb), .val (.int (3 : Int32)), .val (.int (4 : Int32)), .val (.int (3 : Int32)), .val (.int c3)] [(.int (c3.toInt8.toInt32)), (.int (3 : Int32)), (.ref bb)])) rfl rfl (hb hby d6_31)
  refine Dn.of st63 ?_
  show Dn p e below s _ _ _ (T63.setTop (mkF m 32 #[.val (.ref ca), .val (.int (3 : Int32)), .val (.ref bb), .val (.int (3 : Int32)), .val (.int (4 : Int32)), .val (.int (3 : Int32)), .val (.int c3)] []))
  have R_62 := Arh.push A_62 p62 S62 P62 H62 G62 (v := (.int (own_B c3))) (fits_byte_narrow _) W63 (inb_of S62 (by decide))
  have N62 := Fr.snoc X63 N59 g0
  have K3 := K2.wr W63 (Or.inl (List.mem_of_getElem? (i := 0) rfl))
  have C3 := C2.other W63 dn
  refine Dn.of (fun tt_ zz_ => XS.iinc X63.here hx rfl (hb hby d6_32) rfl (l' := #[.val (.ref ca), .val (.int ((3 : Int32) + (1 : Int32))), .val (.ref bb), .val (.int (3 : Int32)), .val (.int (4 : Int32)), .val (.int (3 : Int32)), .val (.int c3)]) rfl zz_) ?_
  refine Dn.of (fun tt_ zz_ => XS.iinc X63.here hx rfl (hb hby d6_35) rfl (l' := #[.val (.ref ca), .val (.int ((3 : Int32) + (1 : Int32))), .val (.ref bb), .val (.int ((3 : Int32) + (1 : Int32))), .val (.int (4 : Int32)), .val (.int (3 : Int32)), .val (.int c3)]) rfl zz_) ?_
  refine Dn.of (fun tt_ zz_ => XS.iinc X63.here hx rfl (hb hby d6_38) rfl (l' := #[.val (.ref ca), .val (.int ((3 : Int32) + (1 : Int32))), .val (.ref bb), .val (.int ((3 : Int32) + (1 : Int32))), .val (.int (4 : Int32)), .val (.int ((3 : Int32) + (1 : Int32))), .val (.int c3)]) rfl zz_) ?_
  refine Dn.of (fun tt_ zz_ => XS.goto X63.here hx rfl (pc0 := 41) (pc' := 3) rfl (hb hby d6_41) (by decide) (by decide) zz_) ?_
  show Dn p e below s _ _ _ (T63.setTop (mkF m 3 #[.val (.ref ca), .val (.int ((3 : Int32) + (1 : Int32))), .val (.ref bb), .val (.int ((3 : Int32) + (1 : Int32))), .val (.int (4 : Int32)), .val (.int ((3 : Int32) + (1 : Int32))), .val (.int c3)] []))
  rw [show ((3 : Int32) + (1 : Int32)) = (4 : Int32) by decide]
  show Dn p e below s _ _ _ (T63.setTop (mkF m 3 #[.val (.ref ca), .val (.int (4 : Int32)), .val (.ref bb), .val (.int (4 : Int32)), .val (.int (4 : Int32)), .val (.int (4 : Int32)), .val (.int c3)] []))
  refine Dn.of (fun tt_ zz_ => XS.iload X63.here hx rfl (hb hby d6_3) rfl zz_) ?_
  refine Dn.of (fun tt_ zz_ => XS.iload X63.here hx rfl (hb hby d6_5) rfl zz_) ?_
  show Dn p e below s _ _ _ (T63.setTop (mkF m 7 #[.val (.ref ca), .val (.int (4 : Int32)), .val (.ref bb), .val (.int (4 : Int32)), .val (.int (4 : Int32)), .val (.int (4 : Int32)), .val (.int c3)] [(.int (4 : Int32)), (.int (4 : Int32))]))
  refine Dn.of (fun tt_ zz_ => XS.icmpYes X63.here hx rfl (pc0 := 7) (pc' := 44) rfl (hb hby d6_7) rfl (flt (by decide)).2.1 (by decide) (by decide) zz_) ?_
  show Dn p e below s _ _ _ (T63.setTop (mkF m 44 #[.val (.ref ca), .val (.int (4 : Int32)), .val (.ref bb), .val (.int (4 : Int32)), .val (.int (4 : Int32)), .val (.int (4 : Int32)), .val (.int c3)] []))
  refine Dn.of (fun tt_ zz_ => XS.iload X63.here hx rfl (hb hby d6_44) rfl zz_) ?_
  show Dn p e below s _ _ _ (T63.setTop (mkF m 46 #[.val (.ref ca), .val (.int (4 : Int32)), .val (.ref bb), .val (.int (4 : Int32)), .val (.int (4 : Int32)), .val (.int (4 : Int32)), .val (.int c3)] [(.int (4 : Int32))]))
  exact Dn.retI X63 hx hlk hret (hb hby d6_46) (by decide) (by decide) (by rw [e63]; exact ⟨rfl, N62, K3, R_62⟩)
set_option maxRecDepth 65536 in
set_option maxHeartbeats 40000000 in
theorem rmC3_4 (l : Launch) (Z : State) (a0 : Array Value) (hw : ∀ d ∈ tables_1, d.before a0 Z = true) (h0 : Heap) (n0 : Nat) (Z0 : n0 ≤ h0.size) (ca : Addr) (kc : ClassId) (c0 c1 c2 c3 : Int32) (y0 : own_C c0) (y1 : own_C c1) (y2 : own_C c2) (y3 : own_C c3) (RC : Arh Z h0 ca kc .char 4 [((3 : Int32), .int c3), ((2 : Int32), .int c2), ((1 : Int32), .int c1), ((0 : Int32), .int c0)] [] (.int 0)) :
    ctr l Z (⟨"java/lang/StringUTF16", "compress", "([CII)[B"⟩ : MethodName) jdk_52_method_16_code 6 (some (.array .byte)) [] ({ frames := 1, cells := 1, slots := 8, locals := 20 } : Room) 1 8 #[(.ref ca), (.int (0 : Int32)), (.int (4 : Int32))] h0 (fun v h L => ∃ bb kb, v = some (.ref bb) ∧ n0 ≤ bb ∧ h0.size ≤ bb ∧ Fr n0 L ∧ Ext h0 h ∧ Arh Z h bb kb .byte 4 [((3 : Int32), .int (own_B c3)), ((2 : Int32), .int (own_B c2)), ((1 : Int32), .int (own_B c1)), ((0 : Int32), .int (own_B c0))] [] (.int 0)) := by
  refine ctr_of (by decide +kernel) ?_
  intro p e s m below meth jc s₁ hx hby hml hret hlk hnm hown hZ e0 X0
  have N0 := Fr.nil n0
  have hg : ∀ (i : Nat) {d : Jvm.Cond}, tables_1[i]? = some d → d.before a0 Z = true := fun i d q => hw d (List.mem_of_getElem? q)
  refine Dn.cast (ef5_AII m ca (0 : Int32) (4 : Int32)) ?_
  show Dn p e below s _ _ _ (s₁.setTop (mkF m 0 #[.val (.ref ca), .val (.int (0 : Int32)), .val (.int (4 : Int32)), .unset, .unset, .unset] []))
  refine Dn.of (fun tt_ zz_ => XS.iloadN X0.here hx rfl (hb hby d5_0) rfl zz_) ?_
  show Dn p e below s _ _ _ (s₁.setTop (mkF m 1 #[.val (.ref ca), .val (.int (0 : Int32)), .val (.int (4 : Int32)), .unset, .unset, .unset] [(.int (4 : Int32))]))
  obtain ⟨T64, h64, k64, X64, e64, E64, A64, st64⟩ := newP X0 hx hZ (hg 23 rfl) e0 (g := (mkF m 1 #[.val (.ref ca), .val (.int (0 : Int32)), .val (.int (4 : Int32)), .unset, .unset, .unset] [(.int (4 : Int32))])) rfl (hb hby d5_1) rfl (by decide) (cap := 4) (by decide) (by decide) (by decide) (by decide)
  obtain ⟨b64, g64⟩ : ∃ z, z = h0.size := ⟨_, rfl⟩
  rw [← g64] at A64 st64
  refine Dn.of st64 ?_
  show Dn p e below s _ _ _ (T64.setTop (mkF m 3 #[.val (.ref ca), .val (.int (0 : Int32)), .val (.int (4 : Int32)), .unset, .unset, .unset] [(.ref b64)]))
  have RB : Arh Z h64 b64 k64 .byte 4 [] [] (.int 0) := (Arv.new A64 (by decide)).arh
  have gb : n0 ≤ b64 := g64 ▸ Z0
  have dn : ca ≠ b64 := Nat.ne_of_lt (g64 ▸ RC.lt)
  refine Dn.of (fun tt_ zz_ => XS.astoreN X64.here hx rfl (hb hby d5_3) rfl rfl (l' := #[.val (.ref ca), .val (.int (0 : Int32)), .val (.int (4 : Int32)), .val (.ref b64), .unset, .unset]) rfl zz_) ?_
  refine Dn.of (fun tt_ zz_ => XS.aloadN X64.here hx rfl (hb hby d5_4) rfl rfl zz_) ?_
  refine Dn.of (fun tt_ zz_ => XS.iloadN X64.here hx rfl (hb hby d5_5) rfl zz_) ?_
  refine Dn.of (fun tt_ zz_ => XS.aloadN X64.here hx rfl (hb hby d5_6) rfl rfl zz_) ?_
  show Dn p e below s _ _ _ (T64.setTop (mkF m 7 #[.val (.ref ca), .val (.int (0 : Int32)), .val (.int (4 : Int32)), .val (.ref b64), .unset, .unset] [(.ref b64), (.int (0 : Int32)), (.ref ca)]))
  refine Dn.of (fun tt_ zz_ => XS.iconst X64.here hx rfl (hb hby d5_7) zz_) ?_
  refine Dn.of (fun tt_ zz_ => XS.iloadN X64.here hx rfl (hb hby d5_8) rfl zz_) ?_
  show Dn p e below s _ _ _ (T64.setTop (mkF m 9 #[.val (.ref ca), .val (.int (0 : Int32)), .val (.int (4 : Int32)), .val (.ref b64), .unset, .unset] [(.int (4 : Int32)), (.int (0 : Int32)), (.ref b64), (.int (0 : Int32)), (.ref ca)]))
  obtain ⟨v65, T65, L65, Q65, X65, st65⟩ := cSt X64 hx hZ (y := (⟨"java/lang/StringUTF16", "compress", "([CI[BII)I"⟩ : MethodName)) hown (hg 24 rfl) (hg 25 rfl) (hg 21 rfl) (hg 26 rfl) (by decide) (argsL := [(.ref ca), (.int (0 : Int32)), (.ref b64), (.int (0 : Int32)), (.int (4 : Int32))]) (rest := []) (rmC5_4 l Z a0 hw h64 n0 (Nat.le_trans Z0 E64.1) ca b64 kc k64 c0 c1 c2 c3 y0 y1 y2 y3 (RC.ext E64) RB dn gb) e64  0 (by decide) (by decide) (by decide) (by decide) (g := (mkF m 9 #[.val (.ref ca), .val (.int (0 : Int32)), .val (.int (4 : Int32)), .val (.ref b64), .unset, .unset] [(.int (4 : Int32)), (.int (0 : Int32)), (.ref b64), (.int (0 : Int32)), (.ref ca)])) rfl (by rw [hml]; rfl) (lenOf pd0 rfl) rfl (by show 2 * 0 + _ ≤ _; exact Nat.le_of_eq rfl) (hb hby d5_9)
  obtain ⟨rfl, M1, K1, R1⟩ := Q65
  refine Dn.of st65 ?_
  show Dn p e below s _ _ _ (T65.setTop (mkF m 12 #[.val (.ref ca), .val (.int (0 : Int32)), .val (.int (4 : Int32)), .val (.ref b64), .unset, .unset] [(.int (4 : Int32))]))
  refine Dn.of (fun tt_ zz_ => XS.istore X65.here hx rfl (hb hby d5_12) rfl (l' := #[.val (.ref ca), .val (.int (0 : Int32)), .val (.int (4 : Int32)), .val (.ref b64), .val (.int (4 : Int32)), .unset]) rfl zz_) ?_
  refine Dn.of (fun tt_ zz_ => XS.iload X65.here hx rfl (hb hby d5_14) rfl zz_) ?_
  refine Dn.of (fun tt_ zz_ => XS.iloadN X65.here hx rfl (hb hby d5_16) rfl zz_) ?_
  show Dn p e below s _ _ _ (T65.setTop (mkF m 17 #[.val (.ref ca), .val (.int (0 : Int32)), .val (.int (4 : Int32)), .val (.ref b64), .val (.int (4 : Int32)), .unset] [(.int (4 : Int32)), (.int (4 : Int32))]))
  refine Dn.of (fun tt_ zz_ => XS.icmpYes X65.here hx rfl (pc0 := 17) (pc' := 57) rfl (hb hby d5_17) rfl (teq rfl).1 (by decide) (by decide) zz_) ?_
  show Dn p e below s _ _ _ (T65.setTop (mkF m 57 #[.val (.ref ca), .val (.int (0 : Int32)), .val (.int (4 : Int32)), .val (.ref b64), .val (.int (4 : Int32)), .unset] []))
  refine Dn.of (fun tt_ zz_ => XS.aloadN X65.here hx rfl (hb hby d5_57) rfl rfl zz_) ?_
  show Dn p e below s _ _ _ (T65.setTop (mkF m 58 #[.val (.ref ca), .val (.int (0 : Int32)), .val (.int (4 : Int32)), .val (.ref b64), .val (.int (4 : Int32)), .unset] [(.ref b64)]))
  exact Dn.retA X65 hx hlk hret rfl rfl (hb hby d5_58) (by decide) (by decide) (⟨_, _, rfl, gb, Nat.le_of_eq g64.symm, Fr.app N0 M1, own_extK E64 K1 (Nat.le_of_eq g64.symm), R1⟩)
set_option maxRecDepth 65536 in
set_option maxHeartbeats 40000000 in
theorem rmCL_4 (l : Launch) (Z : State) (a0 : Array Value) (hw : ∀ d ∈ tables_1, d.before a0 Z = true) (h0 : Heap) (n0 : Nat) (Z0 : n0 ≤ h0.size) (bb : Addr) (kb : ClassId) (hs : List (Int32 × Value)) (RB : Arh Z h0 bb kb .byte 4 hs [] (.int 0)) :
    ctr l Z (⟨"java/lang/StringUTF16", "coderFromArrayLen", "([BI)B"⟩ : MethodName) jdk_52_method_15_code 2 (some .byte) [] ({ frames := 0, cells := 0, slots := 0, locals := 0 } : Room) 0 0 #[(.ref bb), (.int (4 : Int32))] h0 (fun v h L => v = some (.int (0 : Int32)) ∧ Fr n0 L ∧ h = h0) := by
  refine ctr_of (by decide +kernel) ?_
  intro p e s m below meth jc s₁ hx hby hml hret hlk hnm hown hZ e0 X0
  have N0 := Fr.nil n0
  have hg : ∀ (i : Nat) {d : Jvm.Cond}, tables_1[i]? = some d → d.before a0 Z = true := fun i d q => hw d (List.mem_of_getElem? q)
  refine Dn.cast (ef7_AI m bb (4 : Int32)) ?_
  show Dn p e below s _ _ _ (s₁.setTop (mkF m 0 #[.val (.ref bb), .val (.int (4 : Int32))] []))
  refine Dn.of (fun tt_ zz_ => XS.iloadN X0.here hx rfl (hb hby d7_0) rfl zz_) ?_
  refine Dn.of (fun tt_ zz_ => XS.aloadN X0.here hx rfl (hb hby d7_1) rfl rfl zz_) ?_
  show Dn p e below s _ _ _ (s₁.setTop (mkF m 2 #[.val (.ref bb), .val (.int (4 : Int32))] [(.ref bb), (.int (4 : Int32))]))
  have Rl66 := RB
  obtain ⟨d66, B_66, _, Sd66, Nd66, _, _⟩ := Rl66
  refine Dn.of (fun tt_ zz_ => X0.arraylength hx (by rw [e0]; exact B_66.1) (State.isArrayOf_alike hZ.alike B_66.2.1) (g := (mkF m 2 #[.val (.ref bb), .val (.int (4 : Int32))] [(.ref bb), (.int (4 : Int32))])) rfl rfl (hb hby d7_2) tt_ zz_) ?_
  rw [Sd66, own_sz Nd66]
  show Dn p e below s _ _ _ (s₁.setTop (mkF m 3 #[.val (.ref bb), .val (.int (4 : Int32))] [(.int (4 : Int32)), (.int (4 : Int32))]))
  refine Dn.of (fun tt_ zz_ => XS.isub X0.here hx rfl (hb hby d7_3) rfl zz_) ?_
  refine Dn.of (fun tt_ zz_ => XS.bipush X0.here hx rfl (hb hby d7_4) zz_) ?_
  refine Dn.of (fun tt_ zz_ => XS.iushr X0.here hx rfl (hb hby d7_6) rfl zz_) ?_
  refine Dn.of (fun tt_ zz_ => XS.i2b X0.here hx rfl (hb hby d7_7) rfl zz_) ?_
  show Dn p e below s _ _ _ (s₁.setTop (mkF m 8 #[.val (.ref bb), .val (.int (4 : Int32))] [(.int (((((4 : Int32) - (4 : Int32)).toUInt32 >>> ((31 : Int32) &&& 31).toUInt32).toInt32).toInt8.toInt32))]))
  exact Dn.retN X0 hx hlk (t := .byte) hret (by simp) (hb hby d7_8) (by decide) (by decide) (⟨by decide, N0, e0⟩)
set_option maxRecDepth 65536 in
set_option maxHeartbeats 40000000 in
theorem rmS4_4 (l : Launch) (Z : State) (a0 : Array Value) (hw : ∀ d ∈ tables_1, d.before a0 Z = true) (h0 : Heap) (n0 : Nat) (Z0 : n0 ≤ h0.size) (a ca : Addr) (kc : ClassId) (cz : Int32) (hcz : ¬ cz = 0) (SZ : Sta Z Z.heap "java/lang/String" "COMPACT_STRINGS" "Z" (.int cz)) (O0 : Old Z n0 h0) (c0 c1 c2 c3 : Int32) (y0 : own_C c0) (y1 : own_C c1) (y2 : own_C c2) (y3 : own_C c3) (E0 : Exa Z h0 a "java/lang/String") (F1 : Fld Z h0 a "java/lang/String" "value" "[B" .null) (F2 : Fld Z h0 a "java/lang/String" "coder" "B" (.int (0 : Int32))) (g0 : n0 ≤ a) (RC : Arh Z h0 ca kc .char 4 [((3 : Int32), .int c3), ((2 : Int32), .int c2), ((1 : Int32), .int c1), ((0 : Int32), .int c0)] [] (.int 0)) :
    ctr l Z (⟨"java/lang/String", "<init>", "([CIILjava/lang/Void;)V"⟩ : MethodName) jdk_42_method_149_code 6 none [] ({ frames := 2, cells := 1, slots := 8, locals := 44 } : Room) 1 8 #[(.ref a), (.ref ca), (.int (0 : Int32)), (.int (4 : Int32)), .null] h0 (fun v h L => ∃ bb, v = none ∧ Fr n0 L ∧ Keep h0 h [a] ∧ h0.size ≤ bb ∧ own_Str Z h a bb 4 [own_B c0, own_B c1, own_B c2, own_B c3]) := by
  refine ctr_of (by decide +kernel) ?_
  intro p e s m below meth jc s₁ hx hby hml hret hlk hnm hown hZ e0 X0
  have N0 := Fr.nil n0
  have hg : ∀ (i : Nat) {d : Jvm.Cond}, tables_1[i]? = some d → d.before a0 Z = true := fun i d q => hw d (List.mem_of_getElem? q)
  refine Dn.cast (ef3_AAIIN m a ca (0 : Int32) (4 : Int32)) ?_
  show Dn p e below s _ _ _ (s₁.setTop (mkF m 0 #[.val (.ref a), .val (.ref ca), .val (.int (0 : Int32)), .val (.int (4 : Int32)), .val .null, .unset] []))
  have s1 : Jvm.RoadKit.slotOf Z "java/lang/String" "value" "[B" ≠ Jvm.RoadKit.slotOf Z "java/lang/String" "coder" "B" := slot_ne (Or.inr (hg 33 rfl)) (Or.inr (hg 31 rfl)) (by decide) (t := (.array .byte)) (t' := .byte) (by decide) (by decide)
  have s2 : Jvm.RoadKit.slotOf Z "java/lang/String" "coder" "B" ≠ Jvm.RoadKit.slotOf Z "java/lang/String" "value" "[B" := slot_ne (Or.inr (hg 31 rfl)) (Or.inr (hg 33 rfl)) (by decide) (t := .byte) (t' := (.array .byte)) (by decide) (by decide)
  refine Dn.of (fun tt_ zz_ => XS.aloadN X0.here hx rfl (hb hby d3_0) rfl rfl zz_) ?_
  show Dn p e below s _ _ _ (s₁.setTop (mkF m 1 #[.val (.ref a), .val (.ref ca), .val (.int (0 : Int32)), .val (.int (4 : Int32)), .val .null, .unset] [(.ref a)]))
  obtain ⟨T67, X67, e67, st67⟩ := initO X0 hx hZ hown (hg 15 rfl) (hg 16 rfl) (hg 17 rfl) e0 (g := (mkF m 1 #[.val (.ref a), .val (.ref ca), .val (.int (0 : Int32)), .val (.int (4 : Int32)), .val .null, .unset] [(.ref a)])) rfl (by rw [hml]; rfl) rfl (hb hby d3_1) (by decide) (W := 0) (by show 2 * 0 + _ ≤ _; exact Nat.le_of_eq rfl) (by decide)
  refine Dn.of st67 ?_
  show Dn p e below s _ _ _ (T67.setTop (mkF m 4 #[.val (.ref a), .val (.ref ca), .val (.int (0 : Int32)), .val (.int (4 : Int32)), .val .null, .unset] []))
  refine Dn.of (fun tt_ zz_ => XS.iloadN X67.here hx rfl (hb hby d3_4) rfl zz_) ?_
  show Dn p e below s _ _ _ (T67.setTop (mkF m 5 #[.val (.ref a), .val (.ref ca), .val (.int (0 : Int32)), .val (.int (4 : Int32)), .val .null, .unset] [(.int (4 : Int32))]))
  refine Dn.of (fun tt_ zz_ => XS.ifYes X67.here hx rfl (pc0 := 5) (pc' := 27) rfl (hb hby d3_5) rfl ((if0 _ _).trans (feq (by decide)).2) (by decide) (by decide) zz_) ?_
  show Dn p e below s _ _ _ (T67.setTop (mkF m 27 #[.val (.ref a), .val (.ref ca), .val (.int (0 : Int32)), .val (.int (4 : Int32)), .val .null, .unset] []))
  obtain ⟨T68, X68, e68, st68⟩ := getS2 X67 hx hZ hown (host := "") (Or.inl (hg 18 rfl)) Via.refl e67 (SZ.ext O0.2) (g := (mkF m 27 #[.val (.ref a), .val (.ref ca), .val (.int (0 : Int32)), .val (.int (4 : Int32)), .val .null, .unset] [])) rfl (hb hby d3_27)
  refine Dn.of st68 ?_
  show Dn p e below s _ _ _ (T68.setTop (mkF m 30 #[.val (.ref a), .val (.ref ca), .val (.int (0 : Int32)), .val (.int (4 : Int32)), .val .null, .unset] [(.int cz)]))
  refine Dn.of (fun tt_ zz_ => XS.ifNo X68.here hx rfl (hb hby d3_30) rfl ((if0 _ _).trans (feq hcz).1) zz_) ?_
  show Dn p e below s _ _ _ (T68.setTop (mkF m 33 #[.val (.ref a), .val (.ref ca), .val (.int (0 : Int32)), .val (.int (4 : Int32)), .val .null, .unset] []))
  refine Dn.of (fun tt_ zz_ => XS.aloadN X68.here hx rfl (hb hby d3_33) rfl rfl zz_) ?_
  refine Dn.of (fun tt_ zz_ => XS.iloadN X68.here hx rfl (hb hby d3_34) rfl zz_) ?_
  refine Dn.of (fun tt_ zz_ => XS.iloadN X68.here hx rfl (hb hby d3_35) rfl zz_) ?_
  show Dn p e below s _ _ _ (T68.setTop (mkF m 36 #[.val (.ref a), .val (.ref ca), .val (.int (0 : Int32)), .val (.int (4 : Int32)), .val .null, .unset] [(.int (4 : Int32)), (.int (0 : Int32)), (.ref ca)]))
  obtain ⟨v69, T69, L69, Q69, X69, st69⟩ := cSt X68 hx hZ (y := (⟨"java/lang/StringUTF16", "compress", "([CII)[B"⟩ : MethodName)) hown (hg 19 rfl) (hg 20 rfl) (hg 21 rfl) (hg 22 rfl) (by decide) (argsL := [(.ref ca), (.int (0 : Int32)), (.int (4 : Int32))]) (rest := []) (rmC3_4 l Z a0 hw h0 n0 Z0 ca kc c0 c1 c2 c3 y0 y1 y2 y3 RC) e68  0 (by decide) (by decide) (by decide) (by decide) (g := (mkF m 36 #[.val (.ref a), .val (.ref ca), .val (.int (0 : Int32)), .val (.int (4 : Int32)), .val .null, .unset] [(.int (4 : Int32)), (.int (0 : Int32)), (.ref ca)])) rfl (by rw [hml]; rfl) (lenOf pd1 rfl) rfl (by show 2 * 0 + _ ≤ _; exact Nat.le_of_eq rfl) (hb hby d3_36)
  obtain ⟨bb, kb, rfl, gb, lb, M1, X1, R1⟩ := Q69
  refine Dn.of st69 ?_
  show Dn p e below s _ _ _ (T69.setTop (mkF m 39 #[.val (.ref a), .val (.ref ca), .val (.int (0 : Int32)), .val (.int (4 : Int32)), .val .null, .unset] [(.ref bb)]))
  refine Dn.of (fun tt_ zz_ => XS.astore X69.here hx rfl (hb hby d3_39) rfl rfl (l' := #[.val (.ref a), .val (.ref ca), .val (.int (0 : Int32)), .val (.int (4 : Int32)), .val .null, .val (.ref bb)]) rfl zz_) ?_
  refine Dn.of (fun tt_ zz_ => XS.aloadN X69.here hx rfl (hb hby d3_41) rfl rfl zz_) ?_
  refine Dn.of (fun tt_ zz_ => XS.aload X69.here hx rfl (hb hby d3_42) rfl rfl zz_) ?_
  refine Dn.of (fun tt_ zz_ => XS.iloadN X69.here hx rfl (hb hby d3_44) rfl zz_) ?_
  show Dn p e below s _ _ _ (T69.setTop (mkF m 45 #[.val (.ref a), .val (.ref ca), .val (.int (0 : Int32)), .val (.int (4 : Int32)), .val .null, .val (.ref bb)] [(.int (4 : Int32)), (.ref bb), (.ref a)]))
  have dn : bb ≠ a := Ne.symm (Nat.ne_of_lt (Nat.lt_of_lt_of_le E0.lt lb))
  obtain ⟨v70, T70, L70, Q70, X70, st70⟩ := cSt X69 hx hZ (y := (⟨"java/lang/StringUTF16", "coderFromArrayLen", "([BI)B"⟩ : MethodName)) hown (hg 27 rfl) (hg 28 rfl) (hg 21 rfl) (hg 29 rfl) (by decide) (argsL := [(.ref bb), (.int (4 : Int32))]) (rest := [(.ref a)]) (rmCL_4 l Z a0 hw T69.heap n0 (Nat.le_trans Z0 X1.1) bb kb _ R1) rfl  1 (by decide) (by decide) (by decide) (by decide) (g := (mkF m 45 #[.val (.ref a), .val (.ref ca), .val (.int (0 : Int32)), .val (.int (4 : Int32)), .val .null, .val (.ref bb)] [(.int (4 : Int32)), (.ref bb), (.ref a)])) rfl (by rw [hml]; rfl) (lenOf pd2 rfl) rfl (by show 2 * 0 + _ ≤ _; exact Nat.le_of_eq rfl) (hb hby d3_45)
  obtain ⟨rfl, M2, e70⟩ := Q70
  refine Dn.of st70 ?_
  show Dn p e below s _ _ _ (T70.setTop (mkF m 48 #[.val (.ref a), .val (.ref ca), .val (.int (0 : Int32)), .val (.int (4 : Int32)), .val .null, .val (.ref bb)] [(.int (0 : Int32)), (.ref a)]))
  obtain ⟨T71, h71, X71, e71, W71, st71⟩ := putF X70 hx hZ hown (host := "") (Or.inl (hg 30 rfl)) Via.refl e70 (F2.ext X1) (E0.ext X1) (Or.inr ⟨(hg 31 rfl), rfl, hnm⟩) (hg 6 rfl) (ty := .byte) (by decide) rfl rfl (g := (mkF m 48 #[.val (.ref a), .val (.ref ca), .val (.int (0 : Int32)), .val (.int (4 : Int32)), .val .null, .val (.ref bb)] [(.int (0 : Int32)), (.ref a)])) rfl rfl (hb hby d3_48)
  refine Dn.of st71 ?_
  show Dn p e below s _ _ _ (T71.setTop (mkF m 51 #[.val (.ref a), .val (.ref ca), .val (.int (0 : Int32)), .val (.int (4 : Int32)), .val .null, .val (.ref bb)] []))
  have N1 := Fr.snoc X71 (Fr.app (Fr.app N0 M1) M2) g0
  refine Dn.of (fun tt_ zz_ => XS.aloadN X71.here hx rfl (hb hby d3_51) rfl rfl zz_) ?_
  refine Dn.of (fun tt_ zz_ => XS.aload X71.here hx rfl (hb hby d3_52) rfl rfl zz_) ?_
  show Dn p e below s _ _ _ (T71.setTop (mkF m 54 #[.val (.ref a), .val (.ref ca), .val (.int (0 : Int32)), .val (.int (4 : Int32)), .val .null, .val (.ref bb)] [(.ref bb), (.ref a)]))
  obtain ⟨T72, h72, X72, e72, W72, st72⟩ := putF X71 hx hZ hown (host := "") (Or.inl (hg 32 rfl)) Via.refl e71 ((F1.ext X1).other W71 (Or.inr s1)) ((E0.ext X1).wr W71) (Or.inr ⟨(hg 33 rfl), rfl, hnm⟩) (hg 6 rfl) (ty := (.array .byte)) (by decide) rfl rfl (g := (mkF m 54 #[.val (.ref a), .val (.ref ca), .val (.int (0 : Int32)), .val (.int (4 : Int32)), .val .null, .val (.ref bb)] [(.ref bb), (.ref a)])) rfl rfl (hb hby d3_54)
  refine Dn.of st72 ?_
  show Dn p e below s _ _ _ (T72.setTop (mkF m 57 #[.val (.ref a), .val (.ref ca), .val (.int (0 : Int32)), .val (.int (4 : Int32)), .val .null, .val (.ref bb)] []))
  have N2 := Fr.snoc X72 N1 g0
  have R2 := own_arv (vs := own_vs [own_B c0, own_B c1, own_B c2, own_B c3]) ((R1.other W71 dn).other W72 dn) (fun i hi => by
    have : i < 4 := hi
    rcases i with _ | _ | _ | _ | i
    · rfl
    · rfl
    · rfl
    · rfl
    · omega)
  exact Dn.retV X72 hx hlk hret (hb hby d3_57) (by decide) (by decide) (by rw [e72]; exact ⟨bb, rfl, N2, (((Keep.refl h0 [a]).ext X1).wr W71 (Or.inl (List.mem_of_getElem? (i := 0) rfl))).wr W72 (Or.inl (List.mem_of_getElem? (i := 0) rfl)), lb, _, ((E0.ext X1).wr W71).wr W72, ((F2.ext X1).same W71).other W72 (Or.inr s2), ((F1.ext X1).other W71 (Or.inr s1)).same W72, R2⟩)
set_option maxRecDepth 65536 in
set_option maxHeartbeats 40000000 in
theorem rmS1_4 (l : Launch) (Z : State) (a0 : Array Value) (hw : ∀ d ∈ tables_1, d.before a0 Z = true) (h0 : Heap) (n0 : Nat) (Z0 : n0 ≤ h0.size) (a ca : Addr) (kc : ClassId) (cz : Int32) (hcz : ¬ cz = 0) (SZ : Sta Z Z.heap "java/lang/String" "COMPACT_STRINGS" "Z" (.int cz)) (O0 : Old Z n0 h0) (c0 c1 c2 c3 : Int32) (y0 : own_C c0) (y1 : own_C c1) (y2 : own_C c2) (y3 : own_C c3) (E0 : Exa Z h0 a "java/lang/String") (F1 : Fld Z h0 a "java/lang/String" "value" "[B" .null) (F2 : Fld Z h0 a "java/lang/String" "coder" "B" (.int (0 : Int32))) (g0 : n0 ≤ a) (RC : Arh Z h0 ca kc .char 4 [((3 : Int32), .int c3), ((2 : Int32), .int c2), ((1 : Int32), .int c1), ((0 : Int32), .int c0)] [] (.int 0)) :
    ctr l Z (⟨"java/lang/String", "<init>", "([C)V"⟩ : MethodName) jdk_42_method_3_code 2 none [] ({ frames := 3, cells := 1, slots := 8, locals := 68 } : Room) 1 8 #[(.ref a), (.ref ca)] h0 (fun v h L => ∃ bb, v = none ∧ Fr n0 L ∧ Keep h0 h [a] ∧ h0.size ≤ bb ∧ own_Str Z h a bb 4 [own_B c0, own_B c1, own_B c2, own_B c3]) := by
  refine ctr_of (by decide +kernel) ?_
  intro p e s m below meth jc s₁ hx hby hml hret hlk hnm hown hZ e0 X0
  have N0 := Fr.nil n0
  have hg : ∀ (i : Nat) {d : Jvm.Cond}, tables_1[i]? = some d → d.before a0 Z = true := fun i d q => hw d (List.mem_of_getElem? q)
  refine Dn.cast (ef2_AA m a ca) ?_
  show Dn p e below s _ _ _ (s₁.setTop (mkF m 0 #[.val (.ref a), .val (.ref ca)] []))
  refine Dn.of (fun tt_ zz_ => XS.aloadN X0.here hx rfl (hb hby d2_0) rfl rfl zz_) ?_
  refine Dn.of (fun tt_ zz_ => XS.aloadN X0.here hx rfl (hb hby d2_1) rfl rfl zz_) ?_
  refine Dn.of (fun tt_ zz_ => XS.iconst X0.here hx rfl (hb hby d2_2) zz_) ?_
  refine Dn.of (fun tt_ zz_ => XS.aloadN X0.here hx rfl (hb hby d2_3) rfl rfl zz_) ?_
  show Dn p e below s _ _ _ (s₁.setTop (mkF m 4 #[.val (.ref a), .val (.ref ca)] [(.ref ca), (.int (0 : Int32)), (.ref ca), (.ref a)]))
  have Rl73 := RC
  obtain ⟨d73, B_73, _, Sd73, Nd73, _, _⟩ := Rl73
  refine Dn.of (fun tt_ zz_ => X0.arraylength hx (by rw [e0]; exact B_73.1) (State.isArrayOf_alike hZ.alike B_73.2.1) (g := (mkF m 4 #[.val (.ref a), .val (.ref ca)] [(.ref ca), (.int (0 : Int32)), (.ref ca), (.ref a)])) rfl rfl (hb hby d2_4) tt_ zz_) ?_
  rw [Sd73, own_sz Nd73]
  show Dn p e below s _ _ _ (s₁.setTop (mkF m 5 #[.val (.ref a), .val (.ref ca)] [(.int (4 : Int32)), (.int (0 : Int32)), (.ref ca), (.ref a)]))
  refine Dn.of (fun tt_ zz_ => XS.aconstNull X0.here hx rfl (hb hby d2_5) zz_) ?_
  show Dn p e below s _ _ _ (s₁.setTop (mkF m 6 #[.val (.ref a), .val (.ref ca)] [.null, (.int (4 : Int32)), (.int (0 : Int32)), (.ref ca), (.ref a)]))
  obtain ⟨v74, T74, L74, Q74, X74, st74⟩ := cIn X0 hx hZ (y := (⟨"java/lang/String", "<init>", "([CIILjava/lang/Void;)V"⟩ : MethodName)) rfl hown (hg 11 rfl) (hg 12 rfl) (hg 7 rfl) (hg 14 rfl) (by decide) (a := a) (argsL := [(.ref ca), (.int (0 : Int32)), (.int (4 : Int32)), .null]) (rest := []) (rmS4_4 l Z a0 hw h0 n0 Z0 a ca kc cz hcz SZ O0 c0 c1 c2 c3 y0 y1 y2 y3 E0 F1 F2 g0 RC) e0  0 (by decide) (by decide) (by decide) (by decide) (g := (mkF m 6 #[.val (.ref a), .val (.ref ca)] [.null, (.int (4 : Int32)), (.int (0 : Int32)), (.ref ca), (.ref a)])) rfl (by rw [hml]; rfl) (lenOf pd3 rfl) rfl (by show 2 * 0 + _ ≤ _; exact Nat.le_of_eq rfl) (hb hby d2_6)
  obtain ⟨bb, rfl, M1, r⟩ := Q74
  refine Dn.of st74 ?_
  show Dn p e below s _ _ _ (T74.setTop (mkF m 9 #[.val (.ref a), .val (.ref ca)] []))
  exact Dn.retV X74 hx hlk hret (hb hby d2_9) (by decide) (by decide) (⟨bb, rfl, Fr.app N0 M1, r⟩)
theorem ef14_A (m : MethodId) (x0 : Addr) : entryFrame m #[(.ref x0)] 1 = mkF m 0 #[.val (.ref x0)] [] := by first | (simp [entryFrame, mkF, argsToLocals, Value.category]; done) | rfl
set_option maxRecDepth 65536 in
set_option maxHeartbeats 40000000 in
theorem rmIE (l : Launch) (Z : State) (a0 : Array Value) (hw : ∀ d ∈ tables_1, d.before a0 Z = true) (h0 : Heap) (n0 : Nat) (Z0 : n0 ≤ h0.size) (a sb : Addr) (n : Int32) (xs : List Int32) (S1 : own_Str Z h0 a sb n xs) (hn : ¬ n = 0) :
    ctr l Z (⟨"java/lang/String", "isEmpty", "()Z"⟩ : MethodName) jdk_42_method_55_code 1 (some .boolean) [] ({ frames := 0, cells := 0, slots := 0, locals := 0 } : Room) 0 0 #[(.ref a)] h0 (fun v h L => v = some (.int (0 : Int32)) ∧ Fr n0 L ∧ h = h0) := by
  refine ctr_of (by decide +kernel) ?_
  intro p e s m below meth jc s₁ hx hby hml hret hlk hnm hown hZ e0 X0
  have N0 := Fr.nil n0
  have hg : ∀ (i : Nat) {d : Jvm.Cond}, tables_1[i]? = some d → d.before a0 Z = true := fun i d q => hw d (List.mem_of_getElem? q)
  refine Dn.cast (ef14_A m a) ?_
  show Dn p e below s _ _ _ (s₁.setTop (mkF m 0 #[.val (.ref a)] []))
  obtain ⟨k1, A1, B1, C1, D1⟩ := S1
  refine Dn.of (fun tt_ zz_ => XS.aloadN X0.here hx rfl (hb hby d14_0) rfl rfl zz_) ?_
  show Dn p e below s _ _ _ (s₁.setTop (mkF m 1 #[.val (.ref a)] [(.ref a)]))
  obtain ⟨T75, X75, e75, st75⟩ := getF X0 hx hZ hown (host := "") (Or.inl (hg 32 rfl)) Via.refl e0 C1 (g := (mkF m 1 #[.val (.ref a)] [(.ref a)])) rfl rfl (hb hby d14_1)
  refine Dn.of st75 ?_
  show Dn p e below s _ _ _ (T75.setTop (mkF m 4 #[.val (.ref a)] [(.ref sb)]))
  have Rl76 := D1
  obtain ⟨d76, B_76, _, Sd76, Nd76, _, _⟩ := Rl76
  refine Dn.of (fun tt_ zz_ => X75.arraylength hx (by rw [e75]; exact B_76.1) (State.isArrayOf_alike hZ.alike B_76.2.1) (g := (mkF m 4 #[.val (.ref a)] [(.ref sb)])) rfl rfl (hb hby d14_4) tt_ zz_) ?_
  rw [Sd76, own_sz Nd76]
  show Dn p e below s _ _ _ (T75.setTop (mkF m 5 #[.val (.ref a)] [(.int n)]))
  refine Dn.of (fun tt_ zz_ => XS.ifYes X75.here hx rfl (pc0 := 5) (pc' := 12) rfl (hb hby d14_5) rfl ((if0 _ _).trans (feq hn).2) (by decide) (by decide) zz_) ?_
  show Dn p e below s _ _ _ (T75.setTop (mkF m 12 #[.val (.ref a)] []))
  refine Dn.of (fun tt_ zz_ => XS.iconst X75.here hx rfl (hb hby d14_12) zz_) ?_
  show Dn p e below s _ _ _ (T75.setTop (mkF m 13 #[.val (.ref a)] [(.int (0 : Int32))]))
  exact Dn.retN X75 hx hlk (t := .boolean) hret (by simp) (hb hby d14_13) (by decide) (by decide) (⟨rfl, N0, e75⟩)
theorem ef21_A (m : MethodId) (x0 : Addr) : entryFrame m #[(.ref x0)] 1 = mkF m 0 #[.val (.ref x0)] [] := by first | (simp [entryFrame, mkF, argsToLocals, Value.category]; done) | rfl
set_option maxRecDepth 65536 in
set_option maxHeartbeats 40000000 in
theorem rmCo (l : Launch) (Z : State) (a0 : Array Value) (hw : ∀ d ∈ tables_1, d.before a0 Z = true) (h0 : Heap) (n0 : Nat) (Z0 : n0 ≤ h0.size) (a sb : Addr) (n : Int32) (xs : List Int32) (S1 : own_Str Z h0 a sb n xs) (cz : Int32) (hcz : ¬ cz = 0) (SZ : Sta Z Z.heap "java/lang/String" "COMPACT_STRINGS" "Z" (.int cz)) (O0 : Old Z n0 h0) :
    ctr l Z (⟨"java/lang/String", "coder", "()B"⟩ : MethodName) jdk_42_method_152_code 1 (some .byte) [] ({ frames := 0, cells := 0, slots := 0, locals := 0 } : Room) 0 0 #[(.ref a)] h0 (fun v h L => v = some (.int (0 : Int32)) ∧ Fr n0 L ∧ h = h0) := by
  refine ctr_of (by decide +kernel) ?_
  intro p e s m below meth jc s₁ hx hby hml hret hlk hnm hown hZ e0 X0
  have N0 := Fr.nil n0
  have hg : ∀ (i : Nat) {d : Jvm.Cond}, tables_1[i]? = some d → d.before a0 Z = true := fun i d q => hw d (List.mem_of_getElem? q)
  refine Dn.cast (ef21_A m a) ?_
  show Dn p e below s _ _ _ (s₁.setTop (mkF m 0 #[.val (.ref a)] []))
  obtain ⟨k1, A1, B1, C1, D1⟩ := S1
  obtain ⟨T77, X77, e77, st77⟩ := getS2 X0 hx hZ hown (host := "") (Or.inl (hg 18 rfl)) Via.refl e0 (SZ.ext O0.2) (g := (mkF m 0 #[.val (.ref a)] [])) rfl (hb hby d21_0)
  refine Dn.of st77 ?_
  show Dn p e below s _ _ _ (T77.setTop (mkF m 3 #[.val (.ref a)] [(.int cz)]))
  refine Dn.of (fun tt_ zz_ => XS.ifNo X77.here hx rfl (hb hby d21_3) rfl ((if0 _ _).trans (feq hcz).1) zz_) ?_
  show Dn p e below s _ _ _ (T77.setTop (mkF m 6 #[.val (.ref a)] []))
  refine Dn.of (fun tt_ zz_ => XS.aloadN X77.here hx rfl (hb hby d21_6) rfl rfl zz_) ?_
  show Dn p e below s _ _ _ (T77.setTop (mkF m 7 #[.val (.ref a)] [(.ref a)]))
  obtain ⟨T78, X78, e78, st78⟩ := getF X77 hx hZ hown (host := "") (Or.inl (hg 30 rfl)) Via.refl e77 B1 (g := (mkF m 7 #[.val (.ref a)] [(.ref a)])) rfl rfl (hb hby d21_7)
  refine Dn.of st78 ?_
  show Dn p e below s _ _ _ (T78.setTop (mkF m 10 #[.val (.ref a)] [(.int (0 : Int32))]))
  refine Dn.of (fun tt_ zz_ => XS.goto X78.here hx rfl (pc0 := 10) (pc' := 14) rfl (hb hby d21_10) (by decide) (by decide) zz_) ?_
  show Dn p e below s _ _ _ (T78.setTop (mkF m 14 #[.val (.ref a)] [(.int (0 : Int32))]))
  exact Dn.retN X78 hx hlk (t := .byte) hret (by simp) (hb hby d21_14) (by decide) (by decide) (⟨by decide, N0, e78⟩)
theorem ef19_A (m : MethodId) (x0 : Addr) : entryFrame m #[(.ref x0)] 1 = mkF m 0 #[.val (.ref x0)] [] := by first | (simp [entryFrame, mkF, argsToLocals, Value.category]; done) | rfl
set_option maxRecDepth 65536 in
set_option maxHeartbeats 40000000 in
theorem rmIL (l : Launch) (Z : State) (a0 : Array Value) (hw : ∀ d ∈ tables_1, d.before a0 Z = true) (h0 : Heap) (n0 : Nat) (Z0 : n0 ≤ h0.size) (a sb : Addr) (n : Int32) (xs : List Int32) (S1 : own_Str Z h0 a sb n xs) (cz : Int32) (hcz : ¬ cz = 0) (SZ : Sta Z Z.heap "java/lang/String" "COMPACT_STRINGS" "Z" (.int cz)) (O0 : Old Z n0 h0) :
    ctr l Z (⟨"java/lang/String", "isLatin1", "()Z"⟩ : MethodName) jdk_42_method_154_code 1 (some .boolean) [] ({ frames := 0, cells := 0, slots := 0, locals := 0 } : Room) 0 0 #[(.ref a)] h0 (fun v h L => v = some (.int (1 : Int32)) ∧ Fr n0 L ∧ h = h0) := by
  refine ctr_of (by decide +kernel) ?_
  intro p e s m below meth jc s₁ hx hby hml hret hlk hnm hown hZ e0 X0
  have N0 := Fr.nil n0
  have hg : ∀ (i : Nat) {d : Jvm.Cond}, tables_1[i]? = some d → d.before a0 Z = true := fun i d q => hw d (List.mem_of_getElem? q)
  refine Dn.cast (ef19_A m a) ?_
  show Dn p e below s _ _ _ (s₁.setTop (mkF m 0 #[.val (.ref a)] []))
  obtain ⟨k1, A1, B1, C1, D1⟩ := S1
  obtain ⟨T79, X79, e79, st79⟩ := getS2 X0 hx hZ hown (host := "") (Or.inl (hg 18 rfl)) Via.refl e0 (SZ.ext O0.2) (g := (mkF m 0 #[.val (.ref a)] [])) rfl (hb hby d19_0)
  refine Dn.of st79 ?_
  show Dn p e below s _ _ _ (T79.setTop (mkF m 3 #[.val (.ref a)] [(.int cz)]))
  refine Dn.of (fun tt_ zz_ => XS.ifNo X79.here hx rfl (hb hby d19_3) rfl ((if0 _ _).trans (feq hcz).1) zz_) ?_
  show Dn p e below s _ _ _ (T79.setTop (mkF m 6 #[.val (.ref a)] []))
  refine Dn.of (fun tt_ zz_ => XS.aloadN X79.here hx rfl (hb hby d19_6) rfl rfl zz_) ?_
  show Dn p e below s _ _ _ (T79.setTop (mkF m 7 #[.val (.ref a)] [(.ref a)]))
  obtain ⟨T80, X80, e80, st80⟩ := getF X79 hx hZ hown (host := "") (Or.inl (hg 30 rfl)) Via.refl e79 B1 (g := (mkF m 7 #[.val (.ref a)] [(.ref a)])) rfl rfl (hb hby d19_7)
  refine Dn.of st80 ?_
  show Dn p e below s _ _ _ (T80.setTop (mkF m 10 #[.val (.ref a)] [(.int (0 : Int32))]))
  refine Dn.of (fun tt_ zz_ => XS.ifNo X80.here hx rfl (hb hby d19_10) rfl ((if0 _ _).trans (teq rfl).2) zz_) ?_
  show Dn p e below s _ _ _ (T80.setTop (mkF m 13 #[.val (.ref a)] []))
  refine Dn.of (fun tt_ zz_ => XS.iconst X80.here hx rfl (hb hby d19_13) zz_) ?_
  refine Dn.of (fun tt_ zz_ => XS.goto X80.here hx rfl (pc0 := 14) (pc' := 18) rfl (hb hby d19_14) (by decide) (by decide) zz_) ?_
  show Dn p e below s _ _ _ (T80.setTop (mkF m 18 #[.val (.ref a)] [(.int (1 : Int32))]))
  exact Dn.retN X80 hx hlk (t := .boolean) hret (by simp) (hb hby d19_18) (by decide) (by decide) (⟨rfl, N0, e80⟩)
theorem ef20_A (m : MethodId) (x0 : Addr) : entryFrame m #[(.ref x0)] 1 = mkF m 0 #[.val (.ref x0)] [] := by first | (simp [entryFrame, mkF, argsToLocals, Value.category]; done) | rfl
set_option maxRecDepth 65536 in
set_option maxHeartbeats 40000000 in
theorem rmLn (l : Launch) (Z : State) (a0 : Array Value) (hw : ∀ d ∈ tables_1, d.before a0 Z = true) (h0 : Heap) (n0 : Nat) (Z0 : n0 ≤ h0.size) (a sb : Addr) (n : Int32) (xs : List Int32) (S1 : own_Str Z h0 a sb n xs) (cz : Int32) (hcz : ¬ cz = 0) (SZ : Sta Z Z.heap "java/lang/String" "COMPACT_STRINGS" "Z" (.int cz)) (O0 : Old Z n0 h0) :
    ctr l Z (⟨"java/lang/String", "length", "()I"⟩ : MethodName) jdk_42_method_54_code 1 (some .int) [] ({ frames := 1, cells := 0, slots := 0, locals := 16 } : Room) 0 0 #[(.ref a)] h0 (fun v h L => v = some (.int n) ∧ Fr n0 L ∧ h = h0) := by
  refine ctr_of (by decide +kernel) ?_
  intro p e s m below meth jc s₁ hx hby hml hret hlk hnm hown hZ e0 X0
  have N0 := Fr.nil n0
  have hg : ∀ (i : Nat) {d : Jvm.Cond}, tables_1[i]? = some d → d.before a0 Z = true := fun i d q => hw d (List.mem_of_getElem? q)
  refine Dn.cast (ef20_A m a) ?_
  show Dn p e below s _ _ _ (s₁.setTop (mkF m 0 #[.val (.ref a)] []))
  have S1' := S1
  obtain ⟨k1, A1, B1, C1, D1⟩ := S1'
  refine Dn.of (fun tt_ zz_ => XS.aloadN X0.here hx rfl (hb hby d20_0) rfl rfl zz_) ?_
  show Dn p e below s _ _ _ (s₁.setTop (mkF m 1 #[.val (.ref a)] [(.ref a)]))
  obtain ⟨T81, X81, e81, st81⟩ := getF X0 hx hZ hown (host := "") (Or.inl (hg 32 rfl)) Via.refl e0 C1 (g := (mkF m 1 #[.val (.ref a)] [(.ref a)])) rfl rfl (hb hby d20_1)
  refine Dn.of st81 ?_
  show Dn p e below s _ _ _ (T81.setTop (mkF m 4 #[.val (.ref a)] [(.ref sb)]))
  have Rl82 := D1
  obtain ⟨d82, B_82, _, Sd82, Nd82, _, _⟩ := Rl82
  refine Dn.of (fun tt_ zz_ => X81.arraylength hx (by rw [e81]; exact B_82.1) (State.isArrayOf_alike hZ.alike B_82.2.1) (g := (mkF m 4 #[.val (.ref a)] [(.ref sb)])) rfl rfl (hb hby d20_4) tt_ zz_) ?_
  rw [Sd82, own_sz Nd82]
  show Dn p e below s _ _ _ (T81.setTop (mkF m 5 #[.val (.ref a)] [(.int n)]))
  refine Dn.of (fun tt_ zz_ => XS.aloadN X81.here hx rfl (hb hby d20_5) rfl rfl zz_) ?_
  show Dn p e below s _ _ _ (T81.setTop (mkF m 6 #[.val (.ref a)] [(.ref a), (.int n)]))
  obtain ⟨v83, T83, L83, Q83, X83, st83⟩ := cVi X81 hx hZ (C := "java/lang/String") (y := (⟨"java/lang/String", "coder", "()B"⟩ : MethodName)) (z := (⟨"java/lang/String", "coder", "()B"⟩ : MethodName)) hown (hg 109 rfl) (hg 110 rfl) (notFace_of_selects (args := #[]) (mvT hZ (hg 112 rfl))) (hg 112 rfl) (hg 111 rfl) (hg 7 rfl) (hg 113 rfl) (by decide) (a := a) (argsL := []) (rest := [(.int n)]) (rmCo l Z a0 hw h0 n0 Z0 a sb n xs S1 cz hcz SZ O0) e81 A1 1 (by decide) (by decide) (by decide) (by decide) (g := (mkF m 6 #[.val (.ref a)] [(.ref a), (.int n)])) rfl (by rw [hml]; rfl) (lenOf pd4 rfl) rfl (by show 2 * 0 + _ ≤ _; exact Nat.le_of_eq rfl) (hb hby d20_6)
  obtain ⟨rfl, M1, e83⟩ := Q83
  refine Dn.of st83 ?_
  show Dn p e below s _ _ _ (T83.setTop (mkF m 9 #[.val (.ref a)] [(.int (0 : Int32)), (.int n)]))
  refine Dn.of (fun tt_ zz_ => XS.ishr X83.here hx rfl (hb hby d20_9) rfl zz_) ?_
  show Dn p e below s _ _ _ (T83.setTop (mkF m 10 #[.val (.ref a)] [(.int (n >>> ((0 : Int32) &&& 31)))]))
  exact Dn.retI X83 hx hlk hret (hb hby d20_10) (by decide) (by decide) (⟨by rw [own_shr0], Fr.app N0 M1, e83⟩)
theorem ef23_I (m : MethodId) (x0 : Int32) : entryFrame m #[(.int x0)] 1 = mkF m 0 #[.val (.int x0)] [] := by first | (simp [entryFrame, mkF, argsToLocals, Value.category]; done) | rfl
set_option maxRecDepth 65536 in
set_option maxHeartbeats 40000000 in
theorem rmCE (l : Launch) (Z : State) (a0 : Array Value) (hw : ∀ d ∈ tables_1, d.before a0 Z = true) (h0 : Heap) (n0 : Nat) (Z0 : n0 ≤ h0.size) (c : Int32) (h1 : ¬ c < 0) (h2 : ¬ (255 : Int32) < c) :
    ctr l Z (⟨"java/lang/StringLatin1", "canEncode", "(I)Z"⟩ : MethodName) jdk_43_method_4_code 1 (some .boolean) [] ({ frames := 0, cells := 0, slots := 0, locals := 0 } : Room) 0 0 #[(.int c)] h0 (fun v h L => v = some (.int (1 : Int32)) ∧ Fr n0 L ∧ h = h0) := by
  refine ctr_of (by decide +kernel) ?_
  intro p e s m below meth jc s₁ hx hby hml hret hlk hnm hown hZ e0 X0
  have N0 := Fr.nil n0
  have hg : ∀ (i : Nat) {d : Jvm.Cond}, tables_1[i]? = some d → d.before a0 Z = true := fun i d q => hw d (List.mem_of_getElem? q)
  refine Dn.cast (ef23_I m c) ?_
  show Dn p e below s _ _ _ (s₁.setTop (mkF m 0 #[.val (.int c)] []))
  refine Dn.of (fun tt_ zz_ => XS.iloadN X0.here hx rfl (hb hby d23_0) rfl zz_) ?_
  show Dn p e below s _ _ _ (s₁.setTop (mkF m 1 #[.val (.int c)] [(.int c)]))
  refine Dn.of (fun tt_ zz_ => XS.ifNo X0.here hx rfl (hb hby d23_1) rfl ((if0 _ _).trans (flt h1).1) zz_) ?_
  show Dn p e below s _ _ _ (s₁.setTop (mkF m 4 #[.val (.int c)] []))
  refine Dn.of (fun tt_ zz_ => XS.iloadN X0.here hx rfl (hb hby d23_4) rfl zz_) ?_
  refine Dn.of (fun tt_ zz_ => XS.sipush X0.here hx rfl (hb hby d23_5) zz_) ?_
  show Dn p e below s _ _ _ (s₁.setTop (mkF m 8 #[.val (.int c)] [(.int (255 : Int32)), (.int c)]))
  refine Dn.of (fun tt_ zz_ => XS.icmpNo X0.here hx rfl (hb hby d23_8) rfl (flt h2).2.2.1 zz_) ?_
  show Dn p e below s _ _ _ (s₁.setTop (mkF m 11 #[.val (.int c)] []))
  refine Dn.of (fun tt_ zz_ => XS.iconst X0.here hx rfl (hb hby d23_11) zz_) ?_
  refine Dn.of (fun tt_ zz_ => XS.goto X0.here hx rfl (pc0 := 12) (pc' := 16) rfl (hb hby d23_12) (by decide) (by decide) zz_) ?_
  show Dn p e below s _ _ _ (s₁.setTop (mkF m 16 #[.val (.int c)] [(.int (1 : Int32))]))
  exact Dn.retN X0 hx hlk (t := .boolean) hret (by simp) (hb hby d23_16) (by decide) (by decide) (⟨rfl, N0, e0⟩)
theorem ef25_II (m : MethodId) (x0 : Int32) (x1 : Int32) : entryFrame m #[(.int x0), (.int x1)] 2 = mkF m 0 #[.val (.int x0), .val (.int x1)] [] := by first | (simp [entryFrame, mkF, argsToLocals, Value.category]; done) | rfl
set_option maxRecDepth 65536 in
set_option maxHeartbeats 40000000 in
theorem rm_min (l : Launch) (Z : State) (a0 : Array Value) (hw : ∀ d ∈ tables_1, d.before a0 Z = true) (h0 : Heap) (n0 : Nat) (Z0 : n0 ≤ h0.size) (a b : Int32) :
    ctr l Z (⟨"java/lang/Math", "min", "(II)I"⟩ : MethodName) jdk_29_method_69_code 2 (some .int) [] ({ frames := 0, cells := 0, slots := 0, locals := 0 } : Room) 0 0 #[(.int a), (.int b)] h0 (fun v h L => v = some (.int (own_min a b)) ∧ Fr n0 L ∧ h = h0) := by
  refine ctr_of (by decide +kernel) ?_
  intro p e s m below meth jc s₁ hx hby hml hret hlk hnm hown hZ e0 X0
  have N0 := Fr.nil n0
  have hg : ∀ (i : Nat) {d : Jvm.Cond}, tables_1[i]? = some d → d.before a0 Z = true := fun i d q => hw d (List.mem_of_getElem? q)
  refine Dn.cast (ef25_II m a b) ?_
  show Dn p e below s _ _ _ (s₁.setTop (mkF m 0 #[.val (.int a), .val (.int b)] []))
  refine Dn.of (fun tt_ zz_ => XS.iloadN X0.here hx rfl (hb hby d25_0) rfl zz_) ?_
  refine Dn.of (fun tt_ zz_ => XS.iloadN X0.here hx rfl (hb hby d25_1) rfl zz_) ?_
  show Dn p e below s _ _ _ (s₁.setTop (mkF m 2 #[.val (.int a), .val (.int b)] [(.int b), (.int a)]))
  by_cases hq : b < a
  · skip
    refine Dn.of (fun tt_ zz_ => XS.icmpYes X0.here hx rfl (pc0 := 2) (pc' := 9) rfl (hb hby d25_2) rfl (tlt hq).2.2.1 (by decide) (by decide) zz_) ?_
    show Dn p e below s _ _ _ (s₁.setTop (mkF m 9 #[.val (.int a), .val (.int b)] []))
    refine Dn.of (fun tt_ zz_ => XS.iloadN X0.here hx rfl (hb hby d25_9) rfl zz_) ?_
    show Dn p e below s _ _ _ (s₁.setTop (mkF m 10 #[.val (.int a), .val (.int b)] [(.int b)]))
    exact Dn.retI X0 hx hlk hret (hb hby d25_10) (by decide) (by decide) (⟨by unfold own_min; rw [if_pos hq], N0, e0⟩)
  · skip
    refine Dn.of (fun tt_ zz_ => XS.icmpNo X0.here hx rfl (hb hby d25_2) rfl (flt hq).2.2.1 zz_) ?_
    show Dn p e below s _ _ _ (s₁.setTop (mkF m 5 #[.val (.int a), .val (.int b)] []))
    refine Dn.of (fun tt_ zz_ => XS.iloadN X0.here hx rfl (hb hby d25_5) rfl zz_) ?_
    refine Dn.of (fun tt_ zz_ => XS.goto X0.here hx rfl (pc0 := 6) (pc' := 10) rfl (hb hby d25_6) (by decide) (by decide) zz_) ?_
    show Dn p e below s _ _ _ (s₁.setTop (mkF m 10 #[.val (.int a), .val (.int b)] [(.int a)]))
    exact Dn.retI X0 hx hlk hret (hb hby d25_10) (by decide) (by decide) (⟨by unfold own_min; rw [if_neg hq], N0, e0⟩)
theorem ef24_II (m : MethodId) (x0 : Int32) (x1 : Int32) : entryFrame m #[(.int x0), (.int x1)] 2 = mkF m 0 #[.val (.int x0), .val (.int x1)] [] := by first | (simp [entryFrame, mkF, argsToLocals, Value.category]; done) | rfl
set_option maxRecDepth 65536 in
set_option maxHeartbeats 40000000 in
theorem rm_max (l : Launch) (Z : State) (a0 : Array Value) (hw : ∀ d ∈ tables_1, d.before a0 Z = true) (h0 : Heap) (n0 : Nat) (Z0 : n0 ≤ h0.size) (a b : Int32) :
    ctr l Z (⟨"java/lang/Math", "max", "(II)I"⟩ : MethodName) jdk_29_method_65_code 2 (some .int) [] ({ frames := 0, cells := 0, slots := 0, locals := 0 } : Room) 0 0 #[(.int a), (.int b)] h0 (fun v h L => v = some (.int (own_max a b)) ∧ Fr n0 L ∧ h = h0) := by
  refine ctr_of (by decide +kernel) ?_
  intro p e s m below meth jc s₁ hx hby hml hret hlk hnm hown hZ e0 X0
  have N0 := Fr.nil n0
  have hg : ∀ (i : Nat) {d : Jvm.Cond}, tables_1[i]? = some d → d.before a0 Z = true := fun i d q => hw d (List.mem_of_getElem? q)
  refine Dn.cast (ef24_II m a b) ?_
  show Dn p e below s _ _ _ (s₁.setTop (mkF m 0 #[.val (.int a), .val (.int b)] []))
  refine Dn.of (fun tt_ zz_ => XS.iloadN X0.here hx rfl (hb hby d24_0) rfl zz_) ?_
  refine Dn.of (fun tt_ zz_ => XS.iloadN X0.here hx rfl (hb hby d24_1) rfl zz_) ?_
  show Dn p e below s _ _ _ (s₁.setTop (mkF m 2 #[.val (.int a), .val (.int b)] [(.int b), (.int a)]))
  by_cases hq : a < b
  · skip
    refine Dn.of (fun tt_ zz_ => XS.icmpYes X0.here hx rfl (pc0 := 2) (pc' := 9) rfl (hb hby d24_2) rfl (tlt hq).1 (by decide) (by decide) zz_) ?_
    show Dn p e below s _ _ _ (s₁.setTop (mkF m 9 #[.val (.int a), .val (.int b)] []))
    refine Dn.of (fun tt_ zz_ => XS.iloadN X0.here hx rfl (hb hby d24_9) rfl zz_) ?_
    show Dn p e below s _ _ _ (s₁.setTop (mkF m 10 #[.val (.int a), .val (.int b)] [(.int b)]))
    exact Dn.retI X0 hx hlk hret (hb hby d24_10) (by decide) (by decide) (⟨by unfold own_max; rw [if_pos hq], N0, e0⟩)
  · skip
    refine Dn.of (fun tt_ zz_ => XS.icmpNo X0.here hx rfl (hb hby d24_2) rfl (flt hq).1 zz_) ?_
    show Dn p e below s _ _ _ (s₁.setTop (mkF m 5 #[.val (.int a), .val (.int b)] []))
    refine Dn.of (fun tt_ zz_ => XS.iloadN X0.here hx rfl (hb hby d24_5) rfl zz_) ?_
    refine Dn.of (fun tt_ zz_ => XS.goto X0.here hx rfl (pc0 := 6) (pc' := 10) rfl (hb hby d24_6) (by decide) (by decide) zz_) ?_
    show Dn p e below s _ _ _ (s₁.setTop (mkF m 10 #[.val (.int a), .val (.int b)] [(.int a)]))
    exact Dn.retI X0 hx hlk hret (hb hby d24_10) (by decide) (by decide) (⟨by unfold own_max; rw [if_neg hq], N0, e0⟩)
theorem ef26_AIII (m : MethodId) (x0 : Addr) (x1 : Int32) (x2 : Int32) (x3 : Int32) : entryFrame m #[(.ref x0), (.int x1), (.int x2), (.int x3)] 6 = mkF m 0 #[.val (.ref x0), .val (.int x1), .val (.int x2), .val (.int x3), .unset, .unset] [] := by first | (simp [entryFrame, mkF, argsToLocals, Value.category]; done) | rfl
set_option maxRecDepth 65536 in
set_option maxHeartbeats 40000000 in
theorem rmIC (l : Launch) (Z : State) (a0 : Array Value) (hw : ∀ d ∈ tables_1, d.before a0 Z = true) (h0 : Heap) (n0 : Nat) (Z0 : n0 ≤ h0.size) (sb : Addr) (kb : ClassId) (n : Int32) (xs : List Int32) (D1 : Arv Z h0 sb kb .byte n (own_vs xs) (.int 0)) (hx4 : (n = 1 ∧ ∃ a, xs = [a]) ∨ (n = 2 ∧ ∃ a b, xs = [a, b]) ∨ (n = 3 ∧ ∃ a b c, xs = [a, b, c]) ∨ (n = 4 ∧ ∃ a b c d, xs = [a, b, c, d])) :
    ctr l Z (⟨"java/lang/StringLatin1", "indexOfChar", "([BIII)I"⟩ : MethodName) jdk_43_method_23_code 6 (some .int) [] ({ frames := 0, cells := 0, slots := 0, locals := 0 } : Room) 0 0 #[(.ref sb), (.int (35 : Int32)), (.int (0 : Int32)), (.int n)] h0 (fun v h L => v = some (.int (own_ix xs)) ∧ Fr n0 L ∧ h = h0) := by
  refine ctr_of (by decide +kernel) ?_
  intro p e s m below meth jc s₁ hx hby hml hret hlk hnm hown hZ e0 X0
  have N0 := Fr.nil n0
  have hg : ∀ (i : Nat) {d : Jvm.Cond}, tables_1[i]? = some d → d.before a0 Z = true := fun i d q => hw d (List.mem_of_getElem? q)
  refine Dn.cast (ef26_AIII m sb (35 : Int32) (0 : Int32) n) ?_
  show Dn p e below s _ _ _ (s₁.setTop (mkF m 0 #[.val (.ref sb), .val (.int (35 : Int32)), .val (.int (0 : Int32)), .val (.int n), .unset, .unset] []))
  rcases hx4 with ⟨rfl, u0, rfl⟩ | ⟨rfl, u0, u1, rfl⟩ | ⟨rfl, u0, u1, u2, rfl⟩ | ⟨rfl, u0, u1, u2, u3, rfl⟩
  · skip
    show Dn p e below s _ _ _ (s₁.setTop (mkF m 0 #[.val (.ref sb), .val (.int (35 : Int32)), .val (.int (0 : Int32)), .val (.int (1 : Int32)), .unset, .unset] []))
    refine Dn.of (fun tt_ zz_ => XS.iloadN X0.here hx rfl (hb hby d26_0) rfl zz_) ?_
    refine Dn.of (fun tt_ zz_ => XS.i2b X0.here hx rfl (hb hby d26_1) rfl zz_) ?_
    refine Dn.of (fun tt_ zz_ => XS.istore X0.here hx rfl (hb hby d26_2) rfl (l' := #[.val (.ref sb), .val (.int (35 : Int32)), .val (.int (0 : Int32)), .val (.int (1 : Int32)), .val (.int ((35 : Int32).toInt8.toInt32)), .unset]) rfl zz_) ?_
    show Dn p e below s _ _ _ (s₁.setTop (mkF m 4 #[.val (.ref sb), .val (.int (35 : Int32)), .val (.int (0 : Int32)), .val (.int (1 : Int32)), .val (.int ((35 : Int32).toInt8.toInt32)), .unset] []))
    rw [show ((35 : Int32).toInt8.toInt32) = (35 : Int32) by decide]
    show Dn p e below s _ _ _ (s₁.setTop (mkF m 4 #[.val (.ref sb), .val (.int (35 : Int32)), .val (.int (0 : Int32)), .val (.int (1 : Int32)), .val (.int (35 : Int32)), .unset] []))
    refine Dn.of (fun tt_ zz_ => XS.iloadN X0.here hx rfl (hb hby d26_4) rfl zz_) ?_
    refine Dn.of (fun tt_ zz_ => XS.istore X0.here hx rfl (hb hby d26_5) rfl (l' := #[.val (.ref sb), .val (.int (35 : Int32)), .val (.int (0 : Int32)), .val (.int (1 : Int32)), .val (.int (35 : Int32)), .val (.int (0 : Int32))]) rfl zz_) ?_
    show Dn p e below s _ _ _ (s₁.setTop (mkF m 7 #[.val (.ref sb), .val (.int (35 : Int32)), .val (.int (0 : Int32)), .val (.int (1 : Int32)), .val (.int (35 : Int32)), .val (.int (0 : Int32))] []))
    refine Dn.of (fun tt_ zz_ => XS.iload X0.here hx rfl (hb hby d26_7) rfl zz_) ?_
    refine Dn.of (fun tt_ zz_ => XS.iloadN X0.here hx rfl (hb hby d26_9) rfl zz_) ?_
    show Dn p e below s _ _ _ (s₁.setTop (mkF m 10 #[.val (.ref sb), .val (.int (35 : Int32)), .val (.int (0 : Int32)), .val (.int (1 : Int32)), .val (.int (35 : Int32)), .val (.int (0 : Int32))] [(.int (1 : Int32)), (.int (0 : Int32))]))
    refine Dn.of (fun tt_ zz_ => XS.icmpNo X0.here hx rfl (hb hby d26_10) rfl (tlt (by decide)).2.1 zz_) ?_
    show Dn p e below s _ _ _ (s₁.setTop (mkF m 13 #[.val (.ref sb), .val (.int (35 : Int32)), .val (.int (0 : Int32)), .val (.int (1 : Int32)), .val (.int (35 : Int32)), .val (.int (0 : Int32))] []))
    refine Dn.of (fun tt_ zz_ => XS.aloadN X0.here hx rfl (hb hby d26_13) rfl rfl zz_) ?_
    refine Dn.of (fun tt_ zz_ => XS.iload X0.here hx rfl (hb hby d26_14) rfl zz_) ?_
    show Dn p e below s _ _ _ (s₁.setTop (mkF m 16 #[.val (.ref sb), .val (.int (35 : Int32)), .val (.int (0 : Int32)), .val (.int (1 : Int32)), .val (.int (35 : Int32)), .val (.int (0 : Int32))] [(.int (0 : Int32)), (.ref sb)]))
    have Rr84 := D1.arh
    obtain ⟨d84, B_84, _, Sd84, _, Hd84, _⟩ := Rr84
    refine Dn.of (fun tt_ zz_ => X0.baloadBytes hx (j := (0 : Int32)) (v := (.int u0)) (by rw [e0]; exact B_84.1) (State.isArrayOf_alike hZ.alike B_84.2.1) B_84.2.2 (inb_of Sd84 (by decide)) (atH Hd84 (inb_of Sd84 (by decide)) rfl) (g := (mkF m 16 #[.val (.ref sb), .val (.int (35 : Int32)), .val (.int (0 : Int32)), .val (.int (1 : Int32)), .val (.int (35 : Int32)), .val (.int (0 : Int32))] [(.int (0 : Int32)), (.ref sb)])) rfl rfl (hb hby d26_16) tt_ zz_) ?_
    show Dn p e below s _ _ _ (s₁.setTop (mkF m 17 #[.val (.ref sb), .val (.int (35 : Int32)), .val (.int (0 : Int32)), .val (.int (1 : Int32)), .val (.int (35 : Int32)), .val (.int (0 : Int32))] [(.int u0)]))
    refine Dn.of (fun tt_ zz_ => XS.iload X0.here hx rfl (hb hby d26_17) rfl zz_) ?_
    show Dn p e below s _ _ _ (s₁.setTop (mkF m 19 #[.val (.ref sb), .val (.int (35 : Int32)), .val (.int (0 : Int32)), .val (.int (1 : Int32)), .val (.int (35 : Int32)), .val (.int (0 : Int32))] [(.int (35 : Int32)), (.int u0)]))
    by_cases q0 : u0 = (35 : Int32)
    · skip
      refine Dn.of (fun tt_ zz_ => XS.icmpNo X0.here hx rfl (hb hby d26_19) rfl (teq q0).2 zz_) ?_
      show Dn p e below s _ _ _ (s₁.setTop (mkF m 22 #[.val (.ref sb), .val (.int (35 : Int32)), .val (.int (0 : Int32)), .val (.int (1 : Int32)), .val (.int (35 : Int32)), .val (.int (0 : Int32))] []))
      refine Dn.of (fun tt_ zz_ => XS.iload X0.here hx rfl (hb hby d26_22) rfl zz_) ?_
      show Dn p e below s _ _ _ (s₁.setTop (mkF m 24 #[.val (.ref sb), .val (.int (35 : Int32)), .val (.int (0 : Int32)), .val (.int (1 : Int32)), .val (.int (35 : Int32)), .val (.int (0 : Int32))] [(.int (0 : Int32))]))
      exact Dn.retI X0 hx hlk hret (hb hby d26_24) (by decide) (by decide) (⟨by simp [own_ix, q0], N0, e0⟩)
    · skip
      refine Dn.of (fun tt_ zz_ => XS.icmpYes X0.here hx rfl (pc0 := 19) (pc' := 25) rfl (hb hby d26_19) rfl (feq q0).2 (by decide) (by decide) zz_) ?_
      show Dn p e below s _ _ _ (s₁.setTop (mkF m 25 #[.val (.ref sb), .val (.int (35 : Int32)), .val (.int (0 : Int32)), .val (.int (1 : Int32)), .val (.int (35 : Int32)), .val (.int (0 : Int32))] []))
      refine Dn.of (fun tt_ zz_ => XS.iinc X0.here hx rfl (hb hby d26_25) rfl (l' := #[.val (.ref sb), .val (.int (35 : Int32)), .val (.int (0 : Int32)), .val (.int (1 : Int32)), .val (.int (35 : Int32)), .val (.int ((0 : Int32) + (1 : Int32)))]) rfl zz_) ?_
      refine Dn.of (fun tt_ zz_ => XS.goto X0.here hx rfl (pc0 := 28) (pc' := 7) rfl (hb hby d26_28) (by decide) (by decide) zz_) ?_
      show Dn p e below s _ _ _ (s₁.setTop (mkF m 7 #[.val (.ref sb), .val (.int (35 : Int32)), .val (.int (0 : Int32)), .val (.int (1 : Int32)), .val (.int (35 : Int32)), .val (.int ((0 : Int32) + (1 : Int32)))] []))
      rw [show ((0 : Int32) + (1 : Int32)) = (1 : Int32) by decide]
      show Dn p e below s _ _ _ (s₁.setTop (mkF m 7 #[.val (.ref sb), .val (.int (35 : Int32)), .val (.int (0 : Int32)), .val (.int (1 : Int32)), .val (.int (35 : Int32)), .val (.int (1 : Int32))] []))
      refine Dn.of (fun tt_ zz_ => XS.iload X0.here hx rfl (hb hby d26_7) rfl zz_) ?_
      refine Dn.of (fun tt_ zz_ => XS.iloadN X0.here hx rfl (hb hby d26_9) rfl zz_) ?_
      show Dn p e below s _ _ _ (s₁.setTop (mkF m 10 #[.val (.ref sb), .val (.int (35 : Int32)), .val (.int (0 : Int32)), .val (.int (1 : Int32)), .val (.int (35 : Int32)), .val (.int (1 : Int32))] [(.int (1 : Int32)), (.int (1 : Int32))]))
      refine Dn.of (fun tt_ zz_ => XS.icmpYes X0.here hx rfl (pc0 := 10) (pc' := 31) rfl (hb hby d26_10) rfl (flt (by decide)).2.1 (by decide) (by decide) zz_) ?_
      show Dn p e below s _ _ _ (s₁.setTop (mkF m 31 #[.val (.ref sb), .val (.int (35 : Int32)), .val (.int (0 : Int32)), .val (.int (1 : Int32)), .val (.int (35 : Int32)), .val (.int (1 : Int32))] []))
      refine Dn.of (fun tt_ zz_ => XS.iconst X0.here hx rfl (hb hby d26_31) zz_) ?_
      show Dn p e below s _ _ _ (s₁.setTop (mkF m 32 #[.val (.ref sb), .val (.int (35 : Int32)), .val (.int (0 : Int32)), .val (.int (1 : Int32)), .val (.int (35 : Int32)), .val (.int (1 : Int32))] [(.int (-1 : Int32))]))
      exact Dn.retI X0 hx hlk hret (hb hby d26_32) (by decide) (by decide) (⟨by simp [own_ix, q0], N0, e0⟩)
  · skip
    show Dn p e below s _ _ _ (s₁.setTop (mkF m 0 #[.val (.ref sb), .val (.int (35 : Int32)), .val (.int (0 : Int32)), .val (.int (2 : Int32)), .unset, .unset] []))
    refine Dn.of (fun tt_ zz_ => XS.iloadN X0.here hx rfl (hb hby d26_0) rfl zz_) ?_
    refine Dn.of (fun tt_ zz_ => XS.i2b X0.here hx rfl (hb hby d26_1) rfl zz_) ?_
    refine Dn.of (fun tt_ zz_ => XS.istore X0.here hx rfl (hb hby d26_2) rfl (l' := #[.val (.ref sb), .val (.int (35 : Int32)), .val (.int (0 : Int32)), .val (.int (2 : Int32)), .val (.int ((35 : Int32).toInt8.toInt32)), .unset]) rfl zz_) ?_
    show Dn p e below s _ _ _ (s₁.setTop (mkF m 4 #[.val (.ref sb), .val (.int (35 : Int32)), .val (.int (0 : Int32)), .val (.int (2 : Int32)), .val (.int ((35 : Int32).toInt8.toInt32)), .unset] []))
    rw [show ((35 : Int32).toInt8.toInt32) = (35 : Int32) by decide]
    show Dn p e below s _ _ _ (s₁.setTop (mkF m 4 #[.val (.ref sb), .val (.int (35 : Int32)), .val (.int (0 : Int32)), .val (.int (2 : Int32)), .val (.int (35 : Int32)), .unset] []))
    refine Dn.of (fun tt_ zz_ => XS.iloadN X0.here hx rfl (hb hby d26_4) rfl zz_) ?_
    refine Dn.of (fun tt_ zz_ => XS.istore X0.here hx rfl (hb hby d26_5) rfl (l' := #[.val (.ref sb), .val (.int (35 : Int32)), .val (.int (0 : Int32)), .val (.int (2 : Int32)), .val (.int (35 : Int32)), .val (.int (0 : Int32))]) rfl zz_) ?_
    show Dn p e below s _ _ _ (s₁.setTop (mkF m 7 #[.val (.ref sb), .val (.int (35 : Int32)), .val (.int (0 : Int32)), .val (.int (2 : Int32)), .val (.int (35 : Int32)), .val (.int (0 : Int32))] []))
    refine Dn.of (fun tt_ zz_ => XS.iload X0.here hx rfl (hb hby d26_7) rfl zz_) ?_
    refine Dn.of (fun tt_ zz_ => XS.iloadN X0.here hx rfl (hb hby d26_9) rfl zz_) ?_
    show Dn p e below s _ _ _ (s₁.setTop (mkF m 10 #[.val (.ref sb), .val (.int (35 : Int32)), .val (.int (0 : Int32)), .val (.int (2 : Int32)), .val (.int (35 : Int32)), .val (.int (0 : Int32))] [(.int (2 : Int32)), (.int (0 : Int32))]))
    refine Dn.of (fun tt_ zz_ => XS.icmpNo X0.here hx rfl (hb hby d26_10) rfl (tlt (by decide)).2.1 zz_) ?_
    show Dn p e below s _ _ _ (s₁.setTop (mkF m 13 #[.val (.ref sb), .val (.int (35 : Int32)), .val (.int (0 : Int32)), .val (.int (2 : Int32)), .val (.int (35 : Int32)), .val (.int (0 : Int32))] []))
    refine Dn.of (fun tt_ zz_ => XS.aloadN X0.here hx rfl (hb hby d26_13) rfl rfl zz_) ?_
    refine Dn.of (fun tt_ zz_ => XS.iload X0.here hx rfl (hb hby d26_14) rfl zz_) ?_
    show Dn p e below s _ _ _ (s₁.setTop (mkF m 16 #[.val (.ref sb), .val (.int (35 : Int32)), .val (.int (0 : Int32)), .val (.int (2 : Int32)), .val (.int (35 : Int32)), .val (.int (0 : Int32))] [(.int (0 : Int32)), (.ref sb)]))
    have Rr85 := D1.arh
    obtain ⟨d85, B_85, _, Sd85, _, Hd85, _⟩ := Rr85
    refine Dn.of (fun tt_ zz_ => X0.baloadBytes hx (j := (0 : Int32)) (v := (.int u0)) (by rw [e0]; exact B_85.1) (State.isArrayOf_alike hZ.alike B_85.2.1) B_85.2.2 (inb_of Sd85 (by decide)) (atH Hd85 (inb_of Sd85 (by decide)) rfl) (g := (mkF m 16 #[.val (.ref sb), .val (.int (35 : Int32)), .val (.int (0 : Int32)), .val (.int (2 : Int32)), .val (.int (35 : Int32)), .val (.int (0 : Int32))] [(.int (0 : Int32)), (.ref sb)])) rfl rfl (hb hby d26_16) tt_ zz_) ?_
    show Dn p e below s _ _ _ (s₁.setTop (mkF m 17 #[.val (.ref sb), .val (.int (35 : Int32)), .val (.int (0 : Int32)), .val (.int (2 : Int32)), .val (.int (35 : Int32)), .val (.int (0 : Int32))] [(.int u0)]))
    refine Dn.of (fun tt_ zz_ => XS.iload X0.here hx rfl (hb hby d26_17) rfl zz_) ?_
    show Dn p e below s _ _ _ (s₁.setTop (mkF m 19 #[.val (.ref sb), .val (.int (35 : Int32)), .val (.int (0 : Int32)), .val (.int (2 : Int32)), .val (.int (35 : Int32)), .val (.int (0 : Int32))] [(.int (35 : Int32)), (.int u0)]))
    by_cases q0 : u0 = (35 : Int32)
    · skip
      refine Dn.of (fun tt_ zz_ => XS.icmpNo X0.here hx rfl (hb hby d26_19) rfl (teq q0).2 zz_) ?_
      show Dn p e below s _ _ _ (s₁.setTop (mkF m 22 #[.val (.ref sb), .val (.int (35 : Int32)), .val (.int (0 : Int32)), .val (.int (2 : Int32)), .val (.int (35 : Int32)), .val (.int (0 : Int32))] []))
      refine Dn.of (fun tt_ zz_ => XS.iload X0.here hx rfl (hb hby d26_22) rfl zz_) ?_
      show Dn p e below s _ _ _ (s₁.setTop (mkF m 24 #[.val (.ref sb), .val (.int (35 : Int32)), .val (.int (0 : Int32)), .val (.int (2 : Int32)), .val (.int (35 : Int32)), .val (.int (0 : Int32))] [(.int (0 : Int32))]))
      exact Dn.retI X0 hx hlk hret (hb hby d26_24) (by decide) (by decide) (⟨by simp [own_ix, q0], N0, e0⟩)
    · skip
      refine Dn.of (fun tt_ zz_ => XS.icmpYes X0.here hx rfl (pc0 := 19) (pc' := 25) rfl (hb hby d26_19) rfl (feq q0).2 (by decide) (by decide) zz_) ?_
      show Dn p e below s _ _ _ (s₁.setTop (mkF m 25 #[.val (.ref sb), .val (.int (35 : Int32)), .val (.int (0 : Int32)), .val (.int (2 : Int32)), .val (.int (35 : Int32)), .val (.int (0 : Int32))] []))
      refine Dn.of (fun tt_ zz_ => XS.iinc X0.here hx rfl (hb hby d26_25) rfl (l' := #[.val (.ref sb), .val (.int (35 : Int32)), .val (.int (0 : Int32)), .val (.int (2 : Int32)), .val (.int (35 : Int32)), .val (.int ((0 : Int32) + (1 : Int32)))]) rfl zz_) ?_
      refine Dn.of (fun tt_ zz_ => XS.goto X0.here hx rfl (pc0 := 28) (pc' := 7) rfl (hb hby d26_28) (by decide) (by decide) zz_) ?_
      show Dn p e below s _ _ _ (s₁.setTop (mkF m 7 #[.val (.ref sb), .val (.int (35 : Int32)), .val (.int (0 : Int32)), .val (.int (2 : Int32)), .val (.int (35 : Int32)), .val (.int ((0 : Int32) + (1 : Int32)))] []))
      rw [show ((0 : Int32) + (1 : Int32)) = (1 : Int32) by decide]
      show Dn p e below s _ _ _ (s₁.setTop (mkF m 7 #[.val (.ref sb), .val (.int (35 : Int32)), .val (.int (0 : Int32)), .val (.int (2 : Int32)), .val (.int (35 : Int32)), .val (.int (1 : Int32))] []))
      refine Dn.of (fun tt_ zz_ => XS.iload X0.here hx rfl (hb hby d26_7) rfl zz_) ?_
      refine Dn.of (fun tt_ zz_ => XS.iloadN X0.here hx rfl (hb hby d26_9) rfl zz_) ?_
      show Dn p e below s _ _ _ (s₁.setTop (mkF m 10 #[.val (.ref sb), .val (.int (35 : Int32)), .val (.int (0 : Int32)), .val (.int (2 : Int32)), .val (.int (35 : Int32)), .val (.int (1 : Int32))] [(.int (2 : Int32)), (.int (1 : Int32))]))
      refine Dn.of (fun tt_ zz_ => XS.icmpNo X0.here hx rfl (hb hby d26_10) rfl (tlt (by decide)).2.1 zz_) ?_
      show Dn p e below s _ _ _ (s₁.setTop (mkF m 13 #[.val (.ref sb), .val (.int (35 : Int32)), .val (.int (0 : Int32)), .val (.int (2 : Int32)), .val (.int (35 : Int32)), .val (.int (1 : Int32))] []))
      refine Dn.of (fun tt_ zz_ => XS.aloadN X0.here hx rfl (hb hby d26_13) rfl rfl zz_) ?_
      refine Dn.of (fun tt_ zz_ => XS.iload X0.here hx rfl (hb hby d26_14) rfl zz_) ?_
      show Dn p e below s _ _ _ (s₁.setTop (mkF m 16 #[.val (.ref sb), .val (.int (35 : Int32)), .val (.int (0 : Int32)), .val (.int (2 : Int32)), .val (.int (35 : Int32)), .val (.int (1 : Int32))] [(.int (1 : Int32)), (.ref sb)]))
      have Rr86 := D1.arh
      obtain ⟨d86, B_86, _, Sd86, _, Hd86, _⟩ := Rr86
      refine Dn.of (fun tt_ zz_ => X0.baloadBytes hx (j := (1 : Int32)) (v := (.int u1)) (by rw [e0]; exact B_86.1) (State.isArrayOf_alike hZ.alike B_86.2.1) B_86.2.2 (inb_of Sd86 (by decide)) (atH Hd86 (inb_of Sd86 (by decide)) rfl) (g := (mkF m 16 #[.val (.ref sb), .val (.int (35 : Int32)), .val (.int (0 : Int32)), .val (.int (2 : Int32)), .val (.int (35 : Int32)), .val (.int (1 : Int32))] [(.int (1 : Int32)), (.ref sb)])) rfl rfl (hb hby d26_16) tt_ zz_) ?_
      show Dn p e below s _ _ _ (s₁.setTop (mkF m 17 #[.val (.ref sb), .val (.int (35 : Int32)), .val (.int (0 : Int32)), .val (.int (2 : Int32)), .val (.int (35 : Int32)), .val (.int (1 : Int32))] [(.int u1)]))
      refine Dn.of (fun tt_ zz_ => XS.iload X0.here hx rfl (hb hby d26_17) rfl zz_) ?_
      show Dn p e below s _ _ _ (s₁.setTop (mkF m 19 #[.val (.ref sb), .val (.int (35 : Int32)), .val (.int (0 : Int32)), .val (.int (2 : Int32)), .val (.int (35 : Int32)), .val (.int (1 : Int32))] [(.int (35 : Int32)), (.int u1)]))
      by_cases q1 : u1 = (35 : Int32)
      · skip
        refine Dn.of (fun tt_ zz_ => XS.icmpNo X0.here hx rfl (hb hby d26_19) rfl (teq q1).2 zz_) ?_
        show Dn p e below s _ _ _ (s₁.setTop (mkF m 22 #[.val (.ref sb), .val (.int (35 : Int32)), .val (.int (0 : Int32)), .val (.int (2 : Int32)), .val (.int (35 : Int32)), .val (.int (1 : Int32))] []))
        refine Dn.of (fun tt_ zz_ => XS.iload X0.here hx rfl (hb hby d26_22) rfl zz_) ?_
        show Dn p e below s _ _ _ (s₁.setTop (mkF m 24 #[.val (.ref sb), .val (.int (35 : Int32)), .val (.int (0 : Int32)), .val (.int (2 : Int32)), .val (.int (35 : Int32)), .val (.int (1 : Int32))] [(.int (1 : Int32))]))
        exact Dn.retI X0 hx hlk hret (hb hby d26_24) (by decide) (by decide) (⟨by simp [own_ix, q0, q1], N0, e0⟩)
      · skip
        refine Dn.of (fun tt_ zz_ => XS.icmpYes X0.here hx rfl (pc0 := 19) (pc' := 25) rfl (hb hby d26_19) rfl (feq q1).2 (by decide) (by decide) zz_) ?_
        show Dn p e below s _ _ _ (s₁.setTop (mkF m 25 #[.val (.ref sb), .val (.int (35 : Int32)), .val (.int (0 : Int32)), .val (.int (2 : Int32)), .val (.int (35 : Int32)), .val (.int (1 : Int32))] []))
        refine Dn.of (fun tt_ zz_ => XS.iinc X0.here hx rfl (hb hby d26_25) rfl (l' := #[.val (.ref sb), .val (.int (35 : Int32)), .val (.int (0 : Int32)), .val (.int (2 : Int32)), .val (.int (35 : Int32)), .val (.int ((1 : Int32) + (1 : Int32)))]) rfl zz_) ?_
        refine Dn.of (fun tt_ zz_ => XS.goto X0.here hx rfl (pc0 := 28) (pc' := 7) rfl (hb hby d26_28) (by decide) (by decide) zz_) ?_
        show Dn p e below s _ _ _ (s₁.setTop (mkF m 7 #[.val (.ref sb), .val (.int (35 : Int32)), .val (.int (0 : Int32)), .val (.int (2 : Int32)), .val (.int (35 : Int32)), .val (.int ((1 : Int32) + (1 : Int32)))] []))
        rw [show ((1 : Int32) + (1 : Int32)) = (2 : Int32) by decide]
        show Dn p e below s _ _ _ (s₁.setTop (mkF m 7 #[.val (.ref sb), .val (.int (35 : Int32)), .val (.int (0 : Int32)), .val (.int (2 : Int32)), .val (.int (35 : Int32)), .val (.int (2 : Int32))] []))
        refine Dn.of (fun tt_ zz_ => XS.iload X0.here hx rfl (hb hby d26_7) rfl zz_) ?_
        refine Dn.of (fun tt_ zz_ => XS.iloadN X0.here hx rfl (hb hby d26_9) rfl zz_) ?_
        show Dn p e below s _ _ _ (s₁.setTop (mkF m 10 #[.val (.ref sb), .val (.int (35 : Int32)), .val (.int (0 : Int32)), .val (.int (2 : Int32)), .val (.int (35 : Int32)), .val (.int (2 : Int32))] [(.int (2 : Int32)), (.int (2 : Int32))]))
        refine Dn.of (fun tt_ zz_ => XS.icmpYes X0.here hx rfl (pc0 := 10) (pc' := 31) rfl (hb hby d26_10) rfl (flt (by decide)).2.1 (by decide) (by decide) zz_) ?_
        show Dn p e below s _ _ _ (s₁.setTop (mkF m 31 #[.val (.ref sb), .val (.int (35 : Int32)), .val (.int (0 : Int32)), .val (.int (2 : Int32)), .val (.int (35 : Int32)), .val (.int (2 : Int32))] []))
        refine Dn.of (fun tt_ zz_ => XS.iconst X0.here hx rfl (hb hby d26_31) zz_) ?_
        show Dn p e below s _ _ _ (s₁.setTop (mkF m 32 #[.val (.ref sb), .val (.int (35 : Int32)), .val (.int (0 : Int32)), .val (.int (2 : Int32)), .val (.int (35 : Int32)), .val (.int (2 : Int32))] [(.int (-1 : Int32))]))
        exact Dn.retI X0 hx hlk hret (hb hby d26_32) (by decide) (by decide) (⟨by simp [own_ix, q0, q1], N0, e0⟩)
  · skip
    show Dn p e below s _ _ _ (s₁.setTop (mkF m 0 #[.val (.ref sb), .val (.int (35 : Int32)), .val (.int (0 : Int32)), .val (.int (3 : Int32)), .unset, .unset] []))
    refine Dn.of (fun tt_ zz_ => XS.iloadN X0.here hx rfl (hb hby d26_0) rfl zz_) ?_
    refine Dn.of (fun tt_ zz_ => XS.i2b X0.here hx rfl (hb hby d26_1) rfl zz_) ?_
    refine Dn.of (fun tt_ zz_ => XS.istore X0.here hx rfl (hb hby d26_2) rfl (l' := #[.val (.ref sb), .val (.int (35 : Int32)), .val (.int (0 : Int32)), .val (.int (3 : Int32)), .val (.int ((35 : Int32).toInt8.toInt32)), .unset]) rfl zz_) ?_
    show Dn p e below s _ _ _ (s₁.setTop (mkF m 4 #[.val (.ref sb), .val (.int (35 : Int32)), .val (.int (0 : Int32)), .val (.int (3 : Int32)), .val (.int ((35 : Int32).toInt8.toInt32)), .unset] []))
    rw [show ((35 : Int32).toInt8.toInt32) = (35 : Int32) by decide]
    show Dn p e below s _ _ _ (s₁.setTop (mkF m 4 #[.val (.ref sb), .val (.int (35 : Int32)), .val (.int (0 : Int32)), .val (.int (3 : Int32)), .val (.int (35 : Int32)), .unset] []))
    refine Dn.of (fun tt_ zz_ => XS.iloadN X0.here hx rfl (hb hby d26_4) rfl zz_) ?_
    refine Dn.of (fun tt_ zz_ => XS.istore X0.here hx rfl (hb hby d26_5) rfl (l' := #[.val (.ref sb), .val (.int (35 : Int32)), .val (.int (0 : Int32)), .val (.int (3 : Int32)), .val (.int (35 : Int32)), .val (.int (0 : Int32))]) rfl zz_) ?_
    show Dn p e below s _ _ _ (s₁.setTop (mkF m 7 #[.val (.ref sb), .val (.int (35 : Int32)), .val (.int (0 : Int32)), .val (.int (3 : Int32)), .val (.int (35 : Int32)), .val (.int (0 : Int32))] []))
    refine Dn.of (fun tt_ zz_ => XS.iload X0.here hx rfl (hb hby d26_7) rfl zz_) ?_
    refine Dn.of (fun tt_ zz_ => XS.iloadN X0.here hx rfl (hb hby d26_9) rfl zz_) ?_
    show Dn p e below s _ _ _ (s₁.setTop (mkF m 10 #[.val (.ref sb), .val (.int (35 : Int32)), .val (.int (0 : Int32)), .val (.int (3 : Int32)), .val (.int (35 : Int32)), .val (.int (0 : Int32))] [(.int (3 : Int32)), (.int (0 : Int32))]))
    refine Dn.of (fun tt_ zz_ => XS.icmpNo X0.here hx rfl (hb hby d26_10) rfl (tlt (by decide)).2.1 zz_) ?_
    show Dn p e below s _ _ _ (s₁.setTop (mkF m 13 #[.val (.ref sb), .val (.int (35 : Int32)), .val (.int (0 : Int32)), .val (.int (3 : Int32)), .val (.int (35 : Int32)), .val (.int (0 : Int32))] []))
    refine Dn.of (fun tt_ zz_ => XS.aloadN X0.here hx rfl (hb hby d26_13) rfl rfl zz_) ?_
    refine Dn.of (fun tt_ zz_ => XS.iload X0.here hx rfl (hb hby d26_14) rfl zz_) ?_
    show Dn p e below s _ _ _ (s₁.setTop (mkF m 16 #[.val (.ref sb), .val (.int (35 : Int32)), .val (.int (0 : Int32)), .val (.int (3 : Int32)), .val (.int (35 : Int32)), .val (.int (0 : Int32))] [(.int (0 : Int32)), (.ref sb)]))
    have Rr87 := D1.arh
    obtain ⟨d87, B_87, _, Sd87, _, Hd87, _⟩ := Rr87
    refine Dn.of (fun tt_ zz_ => X0.baloadBytes hx (j := (0 : Int32)) (v := (.int u0)) (by rw [e0]; exact B_87.1) (State.isArrayOf_alike hZ.alike B_87.2.1) B_87.2.2 (inb_of Sd87 (by decide)) (atH Hd87 (inb_of Sd87 (by decide)) rfl) (g := (mkF m 16 #[.val (.ref sb), .val (.int (35 : Int32)), .val (.int (0 : Int32)), .val (.int (3 : Int32)), .val (.int (35 : Int32)), .val (.int (0 : Int32))] [(.int (0 : Int32)), (.ref sb)])) rfl rfl (hb hby d26_16) tt_ zz_) ?_
    show Dn p e below s _ _ _ (s₁.setTop (mkF m 17 #[.val (.ref sb), .val (.int (35 : Int32)), .val (.int (0 : Int32)), .val (.int (3 : Int32)), .val (.int (35 : Int32)), .val (.int (0 : Int32))] [(.int u0)]))
    refine Dn.of (fun tt_ zz_ => XS.iload X0.here hx rfl (hb hby d26_17) rfl zz_) ?_
    show Dn p e below s _ _ _ (s₁.setTop (mkF m 19 #[.val (.ref sb), .val (.int (35 : Int32)), .val (.int (0 : Int32)), .val (.int (3 : Int32)), .val (.int (35 : Int32)), .val (.int (0 : Int32))] [(.int (35 : Int32)), (.int u0)]))
    by_cases q0 : u0 = (35 : Int32)
    · skip
      refine Dn.of (fun tt_ zz_ => XS.icmpNo X0.here hx rfl (hb hby d26_19) rfl (teq q0).2 zz_) ?_
      show Dn p e below s _ _ _ (s₁.setTop (mkF m 22 #[.val (.ref sb), .val (.int (35 : Int32)), .val (.int (0 : Int32)), .val (.int (3 : Int32)), .val (.int (35 : Int32)), .val (.int (0 : Int32))] []))
      refine Dn.of (fun tt_ zz_ => XS.iload X0.here hx rfl (hb hby d26_22) rfl zz_) ?_
      show Dn p e below s _ _ _ (s₁.setTop (mkF m 24 #[.val (.ref sb), .val (.int (35 : Int32)), .val (.int (0 : Int32)), .val (.int (3 : Int32)), .val (.int (35 : Int32)), .val (.int (0 : Int32))] [(.int (0 : Int32))]))
      exact Dn.retI X0 hx hlk hret (hb hby d26_24) (by decide) (by decide) (⟨by simp [own_ix, q0], N0, e0⟩)
    · skip
      refine Dn.of (fun tt_ zz_ => XS.icmpYes X0.here hx rfl (pc0 := 19) (pc' := 25) rfl (hb hby d26_19) rfl (feq q0).2 (by decide) (by decide) zz_) ?_
      show Dn p e below s _ _ _ (s₁.setTop (mkF m 25 #[.val (.ref sb), .val (.int (35 : Int32)), .val (.int (0 : Int32)), .val (.int (3 : Int32)), .val (.int (35 : Int32)), .val (.int (0 : Int32))] []))
      refine Dn.of (fun tt_ zz_ => XS.iinc X0.here hx rfl (hb hby d26_25) rfl (l' := #[.val (.ref sb), .val (.int (35 : Int32)), .val (.int (0 : Int32)), .val (.int (3 : Int32)), .val (.int (35 : Int32)), .val (.int ((0 : Int32) + (1 : Int32)))]) rfl zz_) ?_
      refine Dn.of (fun tt_ zz_ => XS.goto X0.here hx rfl (pc0 := 28) (pc' := 7) rfl (hb hby d26_28) (by decide) (by decide) zz_) ?_
      show Dn p e below s _ _ _ (s₁.setTop (mkF m 7 #[.val (.ref sb), .val (.int (35 : Int32)), .val (.int (0 : Int32)), .val (.int (3 : Int32)), .val (.int (35 : Int32)), .val (.int ((0 : Int32) + (1 : Int32)))] []))
      rw [show ((0 : Int32) + (1 : Int32)) = (1 : Int32) by decide]
      show Dn p e below s _ _ _ (s₁.setTop (mkF m 7 #[.val (.ref sb), .val (.int (35 : Int32)), .val (.int (0 : Int32)), .val (.int (3 : Int32)), .val (.int (35 : Int32)), .val (.int (1 : Int32))] []))
      refine Dn.of (fun tt_ zz_ => XS.iload X0.here hx rfl (hb hby d26_7) rfl zz_) ?_
      refine Dn.of (fun tt_ zz_ => XS.iloadN X0.here hx rfl (hb hby d26_9) rfl zz_) ?_
      show Dn p e below s _ _ _ (s₁.setTop (mkF m 10 #[.val (.ref sb), .val (.int (35 : Int32)), .val (.int (0 : Int32)), .val (.int (3 : Int32)), .val (.int (35 : Int32)), .val (.int (1 : Int32))] [(.int (3 : Int32)), (.int (1 : Int32))]))
      refine Dn.of (fun tt_ zz_ => XS.icmpNo X0.here hx rfl (hb hby d26_10) rfl (tlt (by decide)).2.1 zz_) ?_
      show Dn p e below s _ _ _ (s₁.setTop (mkF m 13 #[.val (.ref sb), .val (.int (35 : Int32)), .val (.int (0 : Int32)), .val (.int (3 : Int32)), .val (.int (35 : Int32)), .val (.int (1 : Int32))] []))
      refine Dn.of (fun tt_ zz_ => XS.aloadN X0.here hx rfl (hb hby d26_13) rfl rfl zz_) ?_
      refine Dn.of (fun tt_ zz_ => XS.iload X0.here hx rfl (hb hby d26_14) rfl zz_) ?_
      show Dn p e below s _ _ _ (s₁.setTop (mkF m 16 #[.val (.ref sb), .val (.int (35 : Int32)), .val (.int (0 : Int32)), .val (.int (3 : Int32)), .val (.int (35 : Int32)), .val (.int (1 : Int32))] [(.int (1 : Int32)), (.ref sb)]))
      have Rr88 := D1.arh
      obtain ⟨d88, B_88, _, Sd88, _, Hd88, _⟩ := Rr88
      refine Dn.of (fun tt_ zz_ => X0.baloadBytes hx (j := (1 : Int32)) (v := (.int u1)) (by rw [e0]; exact B_88.1) (State.isArrayOf_alike hZ.alike B_88.2.1) B_88.2.2 (inb_of Sd88 (by decide)) (atH Hd88 (inb_of Sd88 (by decide)) rfl) (g := (mkF m 16 #[.val (.ref sb), .val (.int (35 : Int32)), .val (.int (0 : Int32)), .val (.int (3 : Int32)), .val (.int (35 : Int32)), .val (.int (1 : Int32))] [(.int (1 : Int32)), (.ref sb)])) rfl rfl (hb hby d26_16) tt_ zz_) ?_
      show Dn p e below s _ _ _ (s₁.setTop (mkF m 17 #[.val (.ref sb), .val (.int (35 : Int32)), .val (.int (0 : Int32)), .val (.int (3 : Int32)), .val (.int (35 : Int32)), .val (.int (1 : Int32))] [(.int u1)]))
      refine Dn.of (fun tt_ zz_ => XS.iload X0.here hx rfl (hb hby d26_17) rfl zz_) ?_
      show Dn p e below s _ _ _ (s₁.setTop (mkF m 19 #[.val (.ref sb), .val (.int (35 : Int32)), .val (.int (0 : Int32)), .val (.int (3 : Int32)), .val (.int (35 : Int32)), .val (.int (1 : Int32))] [(.int (35 : Int32)), (.int u1)]))
      by_cases q1 : u1 = (35 : Int32)
      · skip
        refine Dn.of (fun tt_ zz_ => XS.icmpNo X0.here hx rfl (hb hby d26_19) rfl (teq q1).2 zz_) ?_
        show Dn p e below s _ _ _ (s₁.setTop (mkF m 22 #[.val (.ref sb), .val (.int (35 : Int32)), .val (.int (0 : Int32)), .val (.int (3 : Int32)), .val (.int (35 : Int32)), .val (.int (1 : Int32))] []))
        refine Dn.of (fun tt_ zz_ => XS.iload X0.here hx rfl (hb hby d26_22) rfl zz_) ?_
        show Dn p e below s _ _ _ (s₁.setTop (mkF m 24 #[.val (.ref sb), .val (.int (35 : Int32)), .val (.int (0 : Int32)), .val (.int (3 : Int32)), .val (.int (35 : Int32)), .val (.int (1 : Int32))] [(.int (1 : Int32))]))
        exact Dn.retI X0 hx hlk hret (hb hby d26_24) (by decide) (by decide) (⟨by simp [own_ix, q0, q1], N0, e0⟩)
      · skip
        refine Dn.of (fun tt_ zz_ => XS.icmpYes X0.here hx rfl (pc0 := 19) (pc' := 25) rfl (hb hby d26_19) rfl (feq q1).2 (by decide) (by decide) zz_) ?_
        show Dn p e below s _ _ _ (s₁.setTop (mkF m 25 #[.val (.ref sb), .val (.int (35 : Int32)), .val (.int (0 : Int32)), .val (.int (3 : Int32)), .val (.int (35 : Int32)), .val (.int (1 : Int32))] []))
        refine Dn.of (fun tt_ zz_ => XS.iinc X0.here hx rfl (hb hby d26_25) rfl (l' := #[.val (.ref sb), .val (.int (35 : Int32)), .val (.int (0 : Int32)), .val (.int (3 : Int32)), .val (.int (35 : Int32)), .val (.int ((1 : Int32) + (1 : Int32)))]) rfl zz_) ?_
        refine Dn.of (fun tt_ zz_ => XS.goto X0.here hx rfl (pc0 := 28) (pc' := 7) rfl (hb hby d26_28) (by decide) (by decide) zz_) ?_
        show Dn p e below s _ _ _ (s₁.setTop (mkF m 7 #[.val (.ref sb), .val (.int (35 : Int32)), .val (.int (0 : Int32)), .val (.int (3 : Int32)), .val (.int (35 : Int32)), .val (.int ((1 : Int32) + (1 : Int32)))] []))
        rw [show ((1 : Int32) + (1 : Int32)) = (2 : Int32) by decide]
        show Dn p e below s _ _ _ (s₁.setTop (mkF m 7 #[.val (.ref sb), .val (.int (35 : Int32)), .val (.int (0 : Int32)), .val (.int (3 : Int32)), .val (.int (35 : Int32)), .val (.int (2 : Int32))] []))
        refine Dn.of (fun tt_ zz_ => XS.iload X0.here hx rfl (hb hby d26_7) rfl zz_) ?_
        refine Dn.of (fun tt_ zz_ => XS.iloadN X0.here hx rfl (hb hby d26_9) rfl zz_) ?_
        show Dn p e below s _ _ _ (s₁.setTop (mkF m 10 #[.val (.ref sb), .val (.int (35 : Int32)), .val (.int (0 : Int32)), .val (.int (3 : Int32)), .val (.int (35 : Int32)), .val (.int (2 : Int32))] [(.int (3 : Int32)), (.int (2 : Int32))]))
        refine Dn.of (fun tt_ zz_ => XS.icmpNo X0.here hx rfl (hb hby d26_10) rfl (tlt (by decide)).2.1 zz_) ?_
        show Dn p e below s _ _ _ (s₁.setTop (mkF m 13 #[.val (.ref sb), .val (.int (35 : Int32)), .val (.int (0 : Int32)), .val (.int (3 : Int32)), .val (.int (35 : Int32)), .val (.int (2 : Int32))] []))
        refine Dn.of (fun tt_ zz_ => XS.aloadN X0.here hx rfl (hb hby d26_13) rfl rfl zz_) ?_
        refine Dn.of (fun tt_ zz_ => XS.iload X0.here hx rfl (hb hby d26_14) rfl zz_) ?_
        show Dn p e below s _ _ _ (s₁.setTop (mkF m 16 #[.val (.ref sb), .val (.int (35 : Int32)), .val (.int (0 : Int32)), .val (.int (3 : Int32)), .val (.int (35 : Int32)), .val (.int (2 : Int32))] [(.int (2 : Int32)), (.ref sb)]))
        have Rr89 := D1.arh
        obtain ⟨d89, B_89, _, Sd89, _, Hd89, _⟩ := Rr89
        refine Dn.of (fun tt_ zz_ => X0.baloadBytes hx (j := (2 : Int32)) (v := (.int u2)) (by rw [e0]; exact B_89.1) (State.isArrayOf_alike hZ.alike B_89.2.1) B_89.2.2 (inb_of Sd89 (by decide)) (atH Hd89 (inb_of Sd89 (by decide)) rfl) (g := (mkF m 16 #[.val (.ref sb), .val (.int (35 : Int32)), .val (.int (0 : Int32)), .val (.int (3 : Int32)), .val (.int (35 : Int32)), .val (.int (2 : Int32))] [(.int (2 : Int32)), (.ref sb)])) rfl rfl (hb hby d26_16) tt_ zz_) ?_
        show Dn p e below s _ _ _ (s₁.setTop (mkF m 17 #[.val (.ref sb), .val (.int (35 : Int32)), .val (.int (0 : Int32)), .val (.int (3 : Int32)), .val (.int (35 : Int32)), .val (.int (2 : Int32))] [(.int u2)]))
        refine Dn.of (fun tt_ zz_ => XS.iload X0.here hx rfl (hb hby d26_17) rfl zz_) ?_
        show Dn p e below s _ _ _ (s₁.setTop (mkF m 19 #[.val (.ref sb), .val (.int (35 : Int32)), .val (.int (0 : Int32)), .val (.int (3 : Int32)), .val (.int (35 : Int32)), .val (.int (2 : Int32))] [(.int (35 : Int32)), (.int u2)]))
        by_cases q2 : u2 = (35 : Int32)
        · skip
          refine Dn.of (fun tt_ zz_ => XS.icmpNo X0.here hx rfl (hb hby d26_19) rfl (teq q2).2 zz_) ?_
          show Dn p e below s _ _ _ (s₁.setTop (mkF m 22 #[.val (.ref sb), .val (.int (35 : Int32)), .val (.int (0 : Int32)), .val (.int (3 : Int32)), .val (.int (35 : Int32)), .val (.int (2 : Int32))] []))
          refine Dn.of (fun tt_ zz_ => XS.iload X0.here hx rfl (hb hby d26_22) rfl zz_) ?_
          show Dn p e below s _ _ _ (s₁.setTop (mkF m 24 #[.val (.ref sb), .val (.int (35 : Int32)), .val (.int (0 : Int32)), .val (.int (3 : Int32)), .val (.int (35 : Int32)), .val (.int (2 : Int32))] [(.int (2 : Int32))]))
          exact Dn.retI X0 hx hlk hret (hb hby d26_24) (by decide) (by decide) (⟨by simp [own_ix, q0, q1, q2], N0, e0⟩)
        · skip
          refine Dn.of (fun tt_ zz_ => XS.icmpYes X0.here hx rfl (pc0 := 19) (pc' := 25) rfl (hb hby d26_19) rfl (feq q2).2 (by decide) (by decide) zz_) ?_
          show Dn p e below s _ _ _ (s₁.setTop (mkF m 25 #[.val (.ref sb), .val (.int (35 : Int32)), .val (.int (0 : Int32)), .val (.int (3 : Int32)), .val (.int (35 : Int32)), .val (.int (2 : Int32))] []))
          refine Dn.of (fun tt_ zz_ => XS.iinc X0.here hx rfl (hb hby d26_25) rfl (l' := #[.val (.ref sb), .val (.int (35 : Int32)), .val (.int (0 : Int32)), .val (.int (3 : Int32)), .val (.int (35 : Int32)), .val (.int ((2 : Int32) + (1 : Int32)))]) rfl zz_) ?_
          refine Dn.of (fun tt_ zz_ => XS.goto X0.here hx rfl (pc0 := 28) (pc' := 7) rfl (hb hby d26_28) (by decide) (by decide) zz_) ?_
          show Dn p e below s _ _ _ (s₁.setTop (mkF m 7 #[.val (.ref sb), .val (.int (35 : Int32)), .val (.int (0 : Int32)), .val (.int (3 : Int32)), .val (.int (35 : Int32)), .val (.int ((2 : Int32) + (1 : Int32)))] []))
          rw [show ((2 : Int32) + (1 : Int32)) = (3 : Int32) by decide]
          show Dn p e below s _ _ _ (s₁.setTop (mkF m 7 #[.val (.ref sb), .val (.int (35 : Int32)), .val (.int (0 : Int32)), .val (.int (3 : Int32)), .val (.int (35 : Int32)), .val (.int (3 : Int32))] []))
          refine Dn.of (fun tt_ zz_ => XS.iload X0.here hx rfl (hb hby d26_7) rfl zz_) ?_
          refine Dn.of (fun tt_ zz_ => XS.iloadN X0.here hx rfl (hb hby d26_9) rfl zz_) ?_
          show Dn p e below s _ _ _ (s₁.setTop (mkF m 10 #[.val (.ref sb), .val (.int (35 : Int32)), .val (.int (0 : Int32)), .val (.int (3 : Int32)), .val (.int (35 : Int32)), .val (.int (3 : Int32))] [(.int (3 : Int32)), (.int (3 : Int32))]))
          refine Dn.of (fun tt_ zz_ => XS.icmpYes X0.here hx rfl (pc0 := 10) (pc' := 31) rfl (hb hby d26_10) rfl (flt (by decide)).2.1 (by decide) (by decide) zz_) ?_
          show Dn p e below s _ _ _ (s₁.setTop (mkF m 31 #[.val (.ref sb), .val (.int (35 : Int32)), .val (.int (0 : Int32)), .val (.int (3 : Int32)), .val (.int (35 : Int32)), .val (.int (3 : Int32))] []))
          refine Dn.of (fun tt_ zz_ => XS.iconst X0.here hx rfl (hb hby d26_31) zz_) ?_
          show Dn p e below s _ _ _ (s₁.setTop (mkF m 32 #[.val (.ref sb), .val (.int (35 : Int32)), .val (.int (0 : Int32)), .val (.int (3 : Int32)), .val (.int (35 : Int32)), .val (.int (3 : Int32))] [(.int (-1 : Int32))]))
          exact Dn.retI X0 hx hlk hret (hb hby d26_32) (by decide) (by decide) (⟨by simp [own_ix, q0, q1, q2], N0, e0⟩)
  · skip
    show Dn p e below s _ _ _ (s₁.setTop (mkF m 0 #[.val (.ref sb), .val (.int (35 : Int32)), .val (.int (0 : Int32)), .val (.int (4 : Int32)), .unset, .unset] []))
    refine Dn.of (fun tt_ zz_ => XS.iloadN X0.here hx rfl (hb hby d26_0) rfl zz_) ?_
    refine Dn.of (fun tt_ zz_ => XS.i2b X0.here hx rfl (hb hby d26_1) rfl zz_) ?_
    refine Dn.of (fun tt_ zz_ => XS.istore X0.here hx rfl (hb hby d26_2) rfl (l' := #[.val (.ref sb), .val (.int (35 : Int32)), .val (.int (0 : Int32)), .val (.int (4 : Int32)), .val (.int ((35 : Int32).toInt8.toInt32)), .unset]) rfl zz_) ?_
    show Dn p e below s _ _ _ (s₁.setTop (mkF m 4 #[.val (.ref sb), .val (.int (35 : Int32)), .val (.int (0 : Int32)), .val (.int (4 : Int32)), .val (.int ((35 : Int32).toInt8.toInt32)), .unset] []))
    rw [show ((35 : Int32).toInt8.toInt32) = (35 : Int32) by decide]
    show Dn p e below s _ _ _ (s₁.setTop (mkF m 4 #[.val (.ref sb), .val (.int (35 : Int32)), .val (.int (0 : Int32)), .val (.int (4 : Int32)), .val (.int (35 : Int32)), .unset] []))
    refine Dn.of (fun tt_ zz_ => XS.iloadN X0.here hx rfl (hb hby d26_4) rfl zz_) ?_
    refine Dn.of (fun tt_ zz_ => XS.istore X0.here hx rfl (hb hby d26_5) rfl (l' := #[.val (.ref sb), .val (.int (35 : Int32)), .val (.int (0 : Int32)), .val (.int (4 : Int32)), .val (.int (35 : Int32)), .val (.int (0 : Int32))]) rfl zz_) ?_
    show Dn p e below s _ _ _ (s₁.setTop (mkF m 7 #[.val (.ref sb), .val (.int (35 : Int32)), .val (.int (0 : Int32)), .val (.int (4 : Int32)), .val (.int (35 : Int32)), .val (.int (0 : Int32))] []))
    refine Dn.of (fun tt_ zz_ => XS.iload X0.here hx rfl (hb hby d26_7) rfl zz_) ?_
    refine Dn.of (fun tt_ zz_ => XS.iloadN X0.here hx rfl (hb hby d26_9) rfl zz_) ?_
    show Dn p e below s _ _ _ (s₁.setTop (mkF m 10 #[.val (.ref sb), .val (.int (35 : Int32)), .val (.int (0 : Int32)), .val (.int (4 : Int32)), .val (.int (35 : Int32)), .val (.int (0 : Int32))] [(.int (4 : Int32)), (.int (0 : Int32))]))
    refine Dn.of (fun tt_ zz_ => XS.icmpNo X0.here hx rfl (hb hby d26_10) rfl (tlt (by decide)).2.1 zz_) ?_
    show Dn p e below s _ _ _ (s₁.setTop (mkF m 13 #[.val (.ref sb), .val (.int (35 : Int32)), .val (.int (0 : Int32)), .val (.int (4 : Int32)), .val (.int (35 : Int32)), .val (.int (0 : Int32))] []))
    refine Dn.of (fun tt_ zz_ => XS.aloadN X0.here hx rfl (hb hby d26_13) rfl rfl zz_) ?_
    refine Dn.of (fun tt_ zz_ => XS.iload X0.here hx rfl (hb hby d26_14) rfl zz_) ?_
    show Dn p e below s _ _ _ (s₁.setTop (mkF m 16 #[.val (.ref sb), .val (.int (35 : Int32)), .val (.int (0 : Int32)), .val (.int (4 : Int32)), .val (.int (35 : Int32)), .val (.int (0 : Int32))] [(.int (0 : Int32)), (.ref sb)]))
    have Rr90 := D1.arh
    obtain ⟨d90, B_90, _, Sd90, _, Hd90, _⟩ := Rr90
    refine Dn.of (fun tt_ zz_ => X0.baloadBytes hx (j := (0 : Int32)) (v := (.int u0)) (by rw [e0]; exact B_90.1) (State.isArrayOf_alike hZ.alike B_90.2.1) B_90.2.2 (inb_of Sd90 (by decide)) (atH Hd90 (inb_of Sd90 (by decide)) rfl) (g := (mkF m 16 #[.val (.ref sb), .val (.int (35 : Int32)), .val (.int (0 : Int32)), .val (.int (4 : Int32)), .val (.int (35 : Int32)), .val (.int (0 : Int32))] [(.int (0 : Int32)), (.ref sb)])) rfl rfl (hb hby d26_16) tt_ zz_) ?_
    show Dn p e below s _ _ _ (s₁.setTop (mkF m 17 #[.val (.ref sb), .val (.int (35 : Int32)), .val (.int (0 : Int32)), .val (.int (4 : Int32)), .val (.int (35 : Int32)), .val (.int (0 : Int32))] [(.int u0)]))
    refine Dn.of (fun tt_ zz_ => XS.iload X0.here hx rfl (hb hby d26_17) rfl zz_) ?_
    show Dn p e below s _ _ _ (s₁.setTop (mkF m 19 #[.val (.ref sb), .val (.int (35 : Int32)), .val (.int (0 : Int32)), .val (.int (4 : Int32)), .val (.int (35 : Int32)), .val (.int (0 : Int32))] [(.int (35 : Int32)), (.int u0)]))
    by_cases q0 : u0 = (35 : Int32)
    · skip
      refine Dn.of (fun tt_ zz_ => XS.icmpNo X0.here hx rfl (hb hby d26_19) rfl (teq q0).2 zz_) ?_
      show Dn p e below s _ _ _ (s₁.setTop (mkF m 22 #[.val (.ref sb), .val (.int (35 : Int32)), .val (.int (0 : Int32)), .val (.int (4 : Int32)), .val (.int (35 : Int32)), .val (.int (0 : Int32))] []))
      refine Dn.of (fun tt_ zz_ => XS.iload X0.here hx rfl (hb hby d26_22) rfl zz_) ?_
      show Dn p e below s _ _ _ (s₁.setTop (mkF m 24 #[.val (.ref sb), .val (.int (35 : Int32)), .val (.int (0 : Int32)), .val (.int (4 : Int32)), .val (.int (35 : Int32)), .val (.int (0 : Int32))] [(.int (0 : Int32))]))
      exact Dn.retI X0 hx hlk hret (hb hby d26_24) (by decide) (by decide) (⟨by simp [own_ix, q0], N0, e0⟩)
    · skip
      refine Dn.of (fun tt_ zz_ => XS.icmpYes X0.here hx rfl (pc0 := 19) (pc' := 25) rfl (hb hby d26_19) rfl (feq q0).2 (by decide) (by decide) zz_) ?_
      show Dn p e below s _ _ _ (s₁.setTop (mkF m 25 #[.val (.ref sb), .val (.int (35 : Int32)), .val (.int (0 : Int32)), .val (.int (4 : Int32)), .val (.int (35 : Int32)), .val (.int (0 : Int32))] []))
      refine Dn.of (fun tt_ zz_ => XS.iinc X0.here hx rfl (hb hby d26_25) rfl (l' := #[.val (.ref sb), .val (.int (35 : Int32)), .val (.int (0 : Int32)), .val (.int (4 : Int32)), .val (.int (35 : Int32)), .val (.int ((0 : Int32) + (1 : Int32)))]) rfl zz_) ?_
      refine Dn.of (fun tt_ zz_ => XS.goto X0.here hx rfl (pc0 := 28) (pc' := 7) rfl (hb hby d26_28) (by decide) (by decide) zz_) ?_
      show Dn p e below s _ _ _ (s₁.setTop (mkF m 7 #[.val (.ref sb), .val (.int (35 : Int32)), .val (.int (0 : Int32)), .val (.int (4 : Int32)), .val (.int (35 : Int32)), .val (.int ((0 : Int32) + (1 : Int32)))] []))
      rw [show ((0 : Int32) + (1 : Int32)) = (1 : Int32) by decide]
      show Dn p e below s _ _ _ (s₁.setTop (mkF m 7 #[.val (.ref sb), .val (.int (35 : Int32)), .val (.int (0 : Int32)), .val (.int (4 : Int32)), .val (.int (35 : Int32)), .val (.int (1 : Int32))] []))
      refine Dn.of (fun tt_ zz_ => XS.iload X0.here hx rfl (hb hby d26_7) rfl zz_) ?_
      refine Dn.of (fun tt_ zz_ => XS.iloadN X0.here hx rfl (hb hby d26_9) rfl zz_) ?_
      show Dn p e below s _ _ _ (s₁.setTop (mkF m 10 #[.val (.ref sb), .val (.int (35 : Int32)), .val (.int (0 : Int32)), .val (.int (4 : Int32)), .val (.int (35 : Int32)), .val (.int (1 : Int32))] [(.int (4 : Int32)), (.int (1 : Int32))]))
      refine Dn.of (fun tt_ zz_ => XS.icmpNo X0.here hx rfl (hb hby d26_10) rfl (tlt (by decide)).2.1 zz_) ?_
      show Dn p e below s _ _ _ (s₁.setTop (mkF m 13 #[.val (.ref sb), .val (.int (35 : Int32)), .val (.int (0 : Int32)), .val (.int (4 : Int32)), .val (.int (35 : Int32)), .val (.int (1 : Int32))] []))
      refine Dn.of (fun tt_ zz_ => XS.aloadN X0.here hx rfl (hb hby d26_13) rfl rfl zz_) ?_
      refine Dn.of (fun tt_ zz_ => XS.iload X0.here hx rfl (hb hby d26_14) rfl zz_) ?_
      show Dn p e below s _ _ _ (s₁.setTop (mkF m 16 #[.val (.ref sb), .val (.int (35 : Int32)), .val (.int (0 : Int32)), .val (.int (4 : Int32)), .val (.int (35 : Int32)), .val (.int (1 : Int32))] [(.int (1 : Int32)), (.ref sb)]))
      have Rr91 := D1.arh
      obtain ⟨d91, B_91, _, Sd91, _, Hd91, _⟩ := Rr91
      refine Dn.of (fun tt_ zz_ => X0.baloadBytes hx (j := (1 : Int32)) (v := (.int u1)) (by rw [e0]; exact B_91.1) (State.isArrayOf_alike hZ.alike B_91.2.1) B_91.2.2 (inb_of Sd91 (by decide)) (atH Hd91 (inb_of Sd91 (by decide)) rfl) (g := (mkF m 16 #[.val (.ref sb), .val (.int (35 : Int32)), .val (.int (0 : Int32)), .val (.int (4 : Int32)), .val (.int (35 : Int32)), .val (.int (1 : Int32))] [(.int (1 : Int32)), (.ref sb)])) rfl rfl (hb hby d26_16) tt_ zz_) ?_
      show Dn p e below s _ _ _ (s₁.setTop (mkF m 17 #[.val (.ref sb), .val (.int (35 : Int32)), .val (.int (0 : Int32)), .val (.int (4 : Int32)), .val (.int (35 : Int32)), .val (.int (1 : Int32))] [(.int u1)]))
      refine Dn.of (fun tt_ zz_ => XS.iload X0.here hx rfl (hb hby d26_17) rfl zz_) ?_
      show Dn p e below s _ _ _ (s₁.setTop (mkF m 19 #[.val (.ref sb), .val (.int (35 : Int32)), .val (.int (0 : Int32)), .val (.int (4 : Int32)), .val (.int (35 : Int32)), .val (.int (1 : Int32))] [(.int (35 : Int32)), (.int u1)]))
      by_cases q1 : u1 = (35 : Int32)
      · skip
        refine Dn.of (fun tt_ zz_ => XS.icmpNo X0.here hx rfl (hb hby d26_19) rfl (teq q1).2 zz_) ?_
        show Dn p e below s _ _ _ (s₁.setTop (mkF m 22 #[.val (.ref sb), .val (.int (35 : Int32)), .val (.int (0 : Int32)), .val (.int (4 : Int32)), .val (.int (35 : Int32)), .val (.int (1 : Int32))] []))
        refine Dn.of (fun tt_ zz_ => XS.iload X0.here hx rfl (hb hby d26_22) rfl zz_) ?_
        show Dn p e below s _ _ _ (s₁.setTop (mkF m 24 #[.val (.ref sb), .val (.int (35 : Int32)), .val (.int (0 : Int32)), .val (.int (4 : Int32)), .val (.int (35 : Int32)), .val (.int (1 : Int32))] [(.int (1 : Int32))]))
        exact Dn.retI X0 hx hlk hret (hb hby d26_24) (by decide) (by decide) (⟨by simp [own_ix, q0, q1], N0, e0⟩)
      · skip
        refine Dn.of (fun tt_ zz_ => XS.icmpYes X0.here hx rfl (pc0 := 19) (pc' := 25) rfl (hb hby d26_19) rfl (feq q1).2 (by decide) (by decide) zz_) ?_
        show Dn p e below s _ _ _ (s₁.setTop (mkF m 25 #[.val (.ref sb), .val (.int (35 : Int32)), .val (.int (0 : Int32)), .val (.int (4 : Int32)), .val (.int (35 : Int32)), .val (.int (1 : Int32))] []))
        refine Dn.of (fun tt_ zz_ => XS.iinc X0.here hx rfl (hb hby d26_25) rfl (l' := #[.val (.ref sb), .val (.int (35 : Int32)), .val (.int (0 : Int32)), .val (.int (4 : Int32)), .val (.int (35 : Int32)), .val (.int ((1 : Int32) + (1 : Int32)))]) rfl zz_) ?_
        refine Dn.of (fun tt_ zz_ => XS.goto X0.here hx rfl (pc0 := 28) (pc' := 7) rfl (hb hby d26_28) (by decide) (by decide) zz_) ?_
        show Dn p e below s _ _ _ (s₁.setTop (mkF m 7 #[.val (.ref sb), .val (.int (35 : Int32)), .val (.int (0 : Int32)), .val (.int (4 : Int32)), .val (.int (35 : Int32)), .val (.int ((1 : Int32) + (1 : Int32)))] []))
        rw [show ((1 : Int32) + (1 : Int32)) = (2 : Int32) by decide]
        show Dn p e below s _ _ _ (s₁.setTop (mkF m 7 #[.val (.ref sb), .val (.int (35 : Int32)), .val (.int (0 : Int32)), .val (.int (4 : Int32)), .val (.int (35 : Int32)), .val (.int (2 : Int32))] []))
        refine Dn.of (fun tt_ zz_ => XS.iload X0.here hx rfl (hb hby d26_7) rfl zz_) ?_
        refine Dn.of (fun tt_ zz_ => XS.iloadN X0.here hx rfl (hb hby d26_9) rfl zz_) ?_
        show Dn p e below s _ _ _ (s₁.setTop (mkF m 10 #[.val (.ref sb), .val (.int (35 : Int32)), .val (.int (0 : Int32)), .val (.int (4 : Int32)), .val (.int (35 : Int32)), .val (.int (2 : Int32))] [(.int (4 : Int32)), (.int (2 : Int32))]))
        refine Dn.of (fun tt_ zz_ => XS.icmpNo X0.here hx rfl (hb hby d26_10) rfl (tlt (by decide)).2.1 zz_) ?_
        show Dn p e below s _ _ _ (s₁.setTop (mkF m 13 #[.val (.ref sb), .val (.int (35 : Int32)), .val (.int (0 : Int32)), .val (.int (4 : Int32)), .val (.int (35 : Int32)), .val (.int (2 : Int32))] []))
        refine Dn.of (fun tt_ zz_ => XS.aloadN X0.here hx rfl (hb hby d26_13) rfl rfl zz_) ?_
        refine Dn.of (fun tt_ zz_ => XS.iload X0.here hx rfl (hb hby d26_14) rfl zz_) ?_
        show Dn p e below s _ _ _ (s₁.setTop (mkF m 16 #[.val (.ref sb), .val (.int (35 : Int32)), .val (.int (0 : Int32)), .val (.int (4 : Int32)), .val (.int (35 : Int32)), .val (.int (2 : Int32))] [(.int (2 : Int32)), (.ref sb)]))
        have Rr92 := D1.arh
        obtain ⟨d92, B_92, _, Sd92, _, Hd92, _⟩ := Rr92
        refine Dn.of (fun tt_ zz_ => X0.baloadBytes hx (j := (2 : Int32)) (v := (.int u2)) (by rw [e0]; exact B_92.1) (State.isArrayOf_alike hZ.alike B_92.2.1) B_92.2.2 (inb_of Sd92 (by decide)) (atH Hd92 (inb_of Sd92 (by decide)) rfl) (g := (mkF m 16 #[.val (.ref sb), .val (.int (35 : Int32)), .val (.int (0 : Int32)), .val (.int (4 : Int32)), .val (.int (35 : Int32)), .val (.int (2 : Int32))] [(.int (2 : Int32)), (.ref sb)])) rfl rfl (hb hby d26_16) tt_ zz_) ?_
        show Dn p e below s _ _ _ (s₁.setTop (mkF m 17 #[.val (.ref sb), .val (.int (35 : Int32)), .val (.int (0 : Int32)), .val (.int (4 : Int32)), .val (.int (35 : Int32)), .val (.int (2 : Int32))] [(.int u2)]))
        refine Dn.of (fun tt_ zz_ => XS.iload X0.here hx rfl (hb hby d26_17) rfl zz_) ?_
        show Dn p e below s _ _ _ (s₁.setTop (mkF m 19 #[.val (.ref sb), .val (.int (35 : Int32)), .val (.int (0 : Int32)), .val (.int (4 : Int32)), .val (.int (35 : Int32)), .val (.int (2 : Int32))] [(.int (35 : Int32)), (.int u2)]))
        by_cases q2 : u2 = (35 : Int32)
        · skip
          refine Dn.of (fun tt_ zz_ => XS.icmpNo X0.here hx rfl (hb hby d26_19) rfl (teq q2).2 zz_) ?_
          show Dn p e below s _ _ _ (s₁.setTop (mkF m 22 #[.val (.ref sb), .val (.int (35 : Int32)), .val (.int (0 : Int32)), .val (.int (4 : Int32)), .val (.int (35 : Int32)), .val (.int (2 : Int32))] []))
          refine Dn.of (fun tt_ zz_ => XS.iload X0.here hx rfl (hb hby d26_22) rfl zz_) ?_
          show Dn p e below s _ _ _ (s₁.setTop (mkF m 24 #[.val (.ref sb), .val (.int (35 : Int32)), .val (.int (0 : Int32)), .val (.int (4 : Int32)), .val (.int (35 : Int32)), .val (.int (2 : Int32))] [(.int (2 : Int32))]))
          exact Dn.retI X0 hx hlk hret (hb hby d26_24) (by decide) (by decide) (⟨by simp [own_ix, q0, q1, q2], N0, e0⟩)
        · skip
          refine Dn.of (fun tt_ zz_ => XS.icmpYes X0.here hx rfl (pc0 := 19) (pc' := 25) rfl (hb hby d26_19) rfl (feq q2).2 (by decide) (by decide) zz_) ?_
          show Dn p e below s _ _ _ (s₁.setTop (mkF m 25 #[.val (.ref sb), .val (.int (35 : Int32)), .val (.int (0 : Int32)), .val (.int (4 : Int32)), .val (.int (35 : Int32)), .val (.int (2 : Int32))] []))
          refine Dn.of (fun tt_ zz_ => XS.iinc X0.here hx rfl (hb hby d26_25) rfl (l' := #[.val (.ref sb), .val (.int (35 : Int32)), .val (.int (0 : Int32)), .val (.int (4 : Int32)), .val (.int (35 : Int32)), .val (.int ((2 : Int32) + (1 : Int32)))]) rfl zz_) ?_
          refine Dn.of (fun tt_ zz_ => XS.goto X0.here hx rfl (pc0 := 28) (pc' := 7) rfl (hb hby d26_28) (by decide) (by decide) zz_) ?_
          show Dn p e below s _ _ _ (s₁.setTop (mkF m 7 #[.val (.ref sb), .val (.int (35 : Int32)), .val (.int (0 : Int32)), .val (.int (4 : Int32)), .val (.int (35 : Int32)), .val (.int ((2 : Int32) + (1 : Int32)))] []))
          rw [show ((2 : Int32) + (1 : Int32)) = (3 : Int32) by decide]
          show Dn p e below s _ _ _ (s₁.setTop (mkF m 7 #[.val (.ref sb), .val (.int (35 : Int32)), .val (.int (0 : Int32)), .val (.int (4 : Int32)), .val (.int (35 : Int32)), .val (.int (3 : Int32))] []))
          refine Dn.of (fun tt_ zz_ => XS.iload X0.here hx rfl (hb hby d26_7) rfl zz_) ?_
          refine Dn.of (fun tt_ zz_ => XS.iloadN X0.here hx rfl (hb hby d26_9) rfl zz_) ?_
          show Dn p e below s _ _ _ (s₁.setTop (mkF m 10 #[.val (.ref sb), .val (.int (35 : Int32)), .val (.int (0 : Int32)), .val (.int (4 : Int32)), .val (.int (35 : Int32)), .val (.int (3 : Int32))] [(.int (4 : Int32)), (.int (3 : Int32))]))
          refine Dn.of (fun tt_ zz_ => XS.icmpNo X0.here hx rfl (hb hby d26_10) rfl (tlt (by decide)).2.1 zz_) ?_
          show Dn p e below s _ _ _ (s₁.setTop (mkF m 13 #[.val (.ref sb), .val (.int (35 : Int32)), .val (.int (0 : Int32)), .val (.int (4 : Int32)), .val (.int (35 : Int32)), .val (.int (3 : Int32))] []))
          refine Dn.of (fun tt_ zz_ => XS.aloadN X0.here hx rfl (hb hby d26_13) rfl rfl zz_) ?_
          refine Dn.of (fun tt_ zz_ => XS.iload X0.here hx rfl (hb hby d26_14) rfl zz_) ?_
          show Dn p e below s _ _ _ (s₁.setTop (mkF m 16 #[.val (.ref sb), .val (.int (35 : Int32)), .val (.int (0 : Int32)), .val (.int (4 : Int32)), .val (.int (35 : Int32)), .val (.int (3 : Int32))] [(.int (3 : Int32)), (.ref sb)]))
          have Rr93 := D1.arh
          obtain ⟨d93, B_93, _, Sd93, _, Hd93, _⟩ := Rr93
          refine Dn.of (fun tt_ zz_ => X0.baloadBytes hx (j := (3 : Int32)) (v := (.int u3)) (by rw [e0]; exact B_93.1) (State.isArrayOf_alike hZ.alike B_93.2.1) B_93.2.2 (inb_of Sd93 (by decide)) (atH Hd93 (inb_of Sd93 (by decide)) rfl) (g := (mkF m 16 #[.val (.ref sb), .val (.int (35 : Int32)), .val (.int (0 : Int32)), .val (.int (4 : Int32)), .val (.int (35 : Int32)), .val (.int (3 : Int32))] [(.int (3 : Int32)), (.ref sb)])) rfl rfl (hb hby d26_16) tt_ zz_) ?_
          show Dn p e below s _ _ _ (s₁.setTop (mkF m 17 #[.val (.ref sb), .val (.int (35 : Int32)), .val (.int (0 : Int32)), .val (.int (4 : Int32)), .val (.int (35 : Int32)), .val (.int (3 : Int32))] [(.int u3)]))
          refine Dn.of (fun tt_ zz_ => XS.iload X0.here hx rfl (hb hby d26_17) rfl zz_) ?_
          show Dn p e below s _ _ _ (s₁.setTop (mkF m 19 #[.val (.ref sb), .val (.int (35 : Int32)), .val (.int (0 : Int32)), .val (.int (4 : Int32)), .val (.int (35 : Int32)), .val (.int (3 : Int32))] [(.int (35 : Int32)), (.int u3)]))
          by_cases q3 : u3 = (35 : Int32)
          · skip
            refine Dn.of (fun tt_ zz_ => XS.icmpNo X0.here hx rfl (hb hby d26_19) rfl (teq q3).2 zz_) ?_
            show Dn p e below s _ _ _ (s₁.setTop (mkF m 22 #[.val (.ref sb), .val (.int (35 : Int32)), .val (.int (0 : Int32)), .val (.int (4 : Int32)), .val (.int (35 : Int32)), .val (.int (3 : Int32))] []))
            refine Dn.of (fun tt_ zz_ => XS.iload X0.here hx rfl (hb hby d26_22) rfl zz_) ?_
            show Dn p e below s _ _ _ (s₁.setTop (mkF m 24 #[.val (.ref sb), .val (.int (35 : Int32)), .val (.int (0 : Int32)), .val (.int (4 : Int32)), .val (.int (35 : Int32)), .val (.int (3 : Int32))] [(.int (3 : Int32))]))
            exact Dn.retI X0 hx hlk hret (hb hby d26_24) (by decide) (by decide) (⟨by simp [own_ix, q0, q1, q2, q3], N0, e0⟩)
          · skip
            refine Dn.of (fun tt_ zz_ => XS.icmpYes X0.here hx rfl (pc0 := 19) (pc' := 25) rfl (hb hby d26_19) rfl (feq q3).2 (by decide) (by decide) zz_) ?_
            show Dn p e below s _ _ _ (s₁.setTop (mkF m 25 #[.val (.ref sb), .val (.int (35 : Int32)), .val (.int (0 : Int32)), .val (.int (4 : Int32)), .val (.int (35 : Int32)), .val (.int (3 : Int32))] []))
            refine Dn.of (fun tt_ zz_ => XS.iinc X0.here hx rfl (hb hby d26_25) rfl (l' := #[.val (.ref sb), .val (.int (35 : Int32)), .val (.int (0 : Int32)), .val (.int (4 : Int32)), .val (.int (35 : Int32)), .val (.int ((3 : Int32) + (1 : Int32)))]) rfl zz_) ?_
            refine Dn.of (fun tt_ zz_ => XS.goto X0.here hx rfl (pc0 := 28) (pc' := 7) rfl (hb hby d26_28) (by decide) (by decide) zz_) ?_
            show Dn p e below s _ _ _ (s₁.setTop (mkF m 7 #[.val (.ref sb), .val (.int (35 : Int32)), .val (.int (0 : Int32)), .val (.int (4 : Int32)), .val (.int (35 : Int32)), .val (.int ((3 : Int32) + (1 : Int32)))] []))
            rw [show ((3 : Int32) + (1 : Int32)) = (4 : Int32) by decide]
            show Dn p e below s _ _ _ (s₁.setTop (mkF m 7 #[.val (.ref sb), .val (.int (35 : Int32)), .val (.int (0 : Int32)), .val (.int (4 : Int32)), .val (.int (35 : Int32)), .val (.int (4 : Int32))] []))
            refine Dn.of (fun tt_ zz_ => XS.iload X0.here hx rfl (hb hby d26_7) rfl zz_) ?_
            refine Dn.of (fun tt_ zz_ => XS.iloadN X0.here hx rfl (hb hby d26_9) rfl zz_) ?_
            show Dn p e below s _ _ _ (s₁.setTop (mkF m 10 #[.val (.ref sb), .val (.int (35 : Int32)), .val (.int (0 : Int32)), .val (.int (4 : Int32)), .val (.int (35 : Int32)), .val (.int (4 : Int32))] [(.int (4 : Int32)), (.int (4 : Int32))]))
            refine Dn.of (fun tt_ zz_ => XS.icmpYes X0.here hx rfl (pc0 := 10) (pc' := 31) rfl (hb hby d26_10) rfl (flt (by decide)).2.1 (by decide) (by decide) zz_) ?_
            show Dn p e below s _ _ _ (s₁.setTop (mkF m 31 #[.val (.ref sb), .val (.int (35 : Int32)), .val (.int (0 : Int32)), .val (.int (4 : Int32)), .val (.int (35 : Int32)), .val (.int (4 : Int32))] []))
            refine Dn.of (fun tt_ zz_ => XS.iconst X0.here hx rfl (hb hby d26_31) zz_) ?_
            show Dn p e below s _ _ _ (s₁.setTop (mkF m 32 #[.val (.ref sb), .val (.int (35 : Int32)), .val (.int (0 : Int32)), .val (.int (4 : Int32)), .val (.int (35 : Int32)), .val (.int (4 : Int32))] [(.int (-1 : Int32))]))
            exact Dn.retI X0 hx hlk hret (hb hby d26_32) (by decide) (by decide) (⟨by simp [own_ix, q0, q1, q2, q3], N0, e0⟩)
theorem ef22_AIII (m : MethodId) (x0 : Addr) (x1 : Int32) (x2 : Int32) (x3 : Int32) : entryFrame m #[(.ref x0), (.int x1), (.int x2), (.int x3)] 4 = mkF m 0 #[.val (.ref x0), .val (.int x1), .val (.int x2), .val (.int x3)] [] := by first | (simp [entryFrame, mkF, argsToLocals, Value.category]; done) | rfl
set_option maxRecDepth 65536 in
set_option maxHeartbeats 40000000 in
theorem rmI4 (l : Launch) (Z : State) (a0 : Array Value) (hw : ∀ d ∈ tables_1, d.before a0 Z = true) (h0 : Heap) (n0 : Nat) (Z0 : n0 ≤ h0.size) (sb : Addr) (kb : ClassId) (n : Int32) (xs : List Int32) (D1 : Arv Z h0 sb kb .byte n (own_vs xs) (.int 0)) (hx4 : (n = 1 ∧ ∃ a, xs = [a]) ∨ (n = 2 ∧ ∃ a b, xs = [a, b]) ∨ (n = 3 ∧ ∃ a b c, xs = [a, b, c]) ∨ (n = 4 ∧ ∃ a b c d, xs = [a, b, c, d])) :
    ctr l Z (⟨"java/lang/StringLatin1", "indexOf", "([BIII)I"⟩ : MethodName) jdk_43_method_22_code 4 (some .int) [] ({ frames := 1, cells := 0, slots := 0, locals := 24 } : Room) 0 0 #[(.ref sb), (.int (35 : Int32)), (.int (0 : Int32)), (.int n)] h0 (fun v h L => v = some (.int (own_ix xs)) ∧ Fr n0 L ∧ h = h0) := by
  refine ctr_of (by decide +kernel) ?_
  intro p e s m below meth jc s₁ hx hby hml hret hlk hnm hown hZ e0 X0
  have N0 := Fr.nil n0
  have hg : ∀ (i : Nat) {d : Jvm.Cond}, tables_1[i]? = some d → d.before a0 Z = true := fun i d q => hw d (List.mem_of_getElem? q)
  refine Dn.cast (ef22_AIII m sb (35 : Int32) (0 : Int32) n) ?_
  show Dn p e below s _ _ _ (s₁.setTop (mkF m 0 #[.val (.ref sb), .val (.int (35 : Int32)), .val (.int (0 : Int32)), .val (.int n)] []))
  refine Dn.of (fun tt_ zz_ => XS.iloadN X0.here hx rfl (hb hby d22_0) rfl zz_) ?_
  show Dn p e below s _ _ _ (s₁.setTop (mkF m 1 #[.val (.ref sb), .val (.int (35 : Int32)), .val (.int (0 : Int32)), .val (.int n)] [(.int (35 : Int32))]))
  obtain ⟨v94, T94, L94, Q94, X94, st94⟩ := cSt X0 hx hZ (y := (⟨"java/lang/StringLatin1", "canEncode", "(I)Z"⟩ : MethodName)) hown (hg 118 rfl) (hg 119 rfl) (hg 116 rfl) (hg 120 rfl) (by decide) (argsL := [(.int (35 : Int32))]) (rest := []) (rmCE l Z a0 hw h0 n0 Z0 35 (by decide) (by decide)) e0  0 (by decide) (by decide) (by decide) (by decide) (g := (mkF m 1 #[.val (.ref sb), .val (.int (35 : Int32)), .val (.int (0 : Int32)), .val (.int n)] [(.int (35 : Int32))])) rfl (by rw [hml]; rfl) (lenOf pd5 rfl) rfl (by show 2 * 0 + _ ≤ _; exact Nat.le_of_eq rfl) (hb hby d22_1)
  obtain ⟨rfl, M1, e94⟩ := Q94
  refine Dn.of st94 ?_
  show Dn p e below s _ _ _ (T94.setTop (mkF m 4 #[.val (.ref sb), .val (.int (35 : Int32)), .val (.int (0 : Int32)), .val (.int n)] [(.int (1 : Int32))]))
  refine Dn.of (fun tt_ zz_ => XS.ifYes X94.here hx rfl (pc0 := 4) (pc' := 9) rfl (hb hby d22_4) rfl ((if0 _ _).trans (feq (by decide)).2) (by decide) (by decide) zz_) ?_
  show Dn p e below s _ _ _ (T94.setTop (mkF m 9 #[.val (.ref sb), .val (.int (35 : Int32)), .val (.int (0 : Int32)), .val (.int n)] []))
  refine Dn.of (fun tt_ zz_ => XS.iloadN X94.here hx rfl (hb hby d22_9) rfl zz_) ?_
  refine Dn.of (fun tt_ zz_ => XS.iconst X94.here hx rfl (hb hby d22_10) zz_) ?_
  show Dn p e below s _ _ _ (T94.setTop (mkF m 11 #[.val (.ref sb), .val (.int (35 : Int32)), .val (.int (0 : Int32)), .val (.int n)] [(.int (0 : Int32)), (.int (0 : Int32))]))
  obtain ⟨v95, T95, L95, Q95, X95, st95⟩ := cSt X94 hx hZ (y := (⟨"java/lang/Math", "max", "(II)I"⟩ : MethodName)) hown (hg 121 rfl) (hg 122 rfl) (hg 123 rfl) (hg 124 rfl) (by decide) (argsL := [(.int (0 : Int32)), (.int (0 : Int32))]) (rest := []) (rm_max l Z a0 hw h0 n0 Z0 0 0) e94  0 (by decide) (by decide) (by decide) (by decide) (g := (mkF m 11 #[.val (.ref sb), .val (.int (35 : Int32)), .val (.int (0 : Int32)), .val (.int n)] [(.int (0 : Int32)), (.int (0 : Int32))])) rfl (by rw [hml]; rfl) (lenOf pd6 rfl) rfl (by show 2 * 0 + _ ≤ _; exact Nat.le_of_eq rfl) (hb hby d22_11)
  rw [show own_max 0 0 = 0 by decide] at Q95
  obtain ⟨rfl, M2, e95⟩ := Q95
  refine Dn.of st95 ?_
  show Dn p e below s _ _ _ (T95.setTop (mkF m 14 #[.val (.ref sb), .val (.int (35 : Int32)), .val (.int (0 : Int32)), .val (.int n)] [(.int (0 : Int32))]))
  refine Dn.of (fun tt_ zz_ => XS.istoreN X95.here hx rfl (hb hby d22_14) rfl (l' := #[.val (.ref sb), .val (.int (35 : Int32)), .val (.int (0 : Int32)), .val (.int n)]) rfl zz_) ?_
  refine Dn.of (fun tt_ zz_ => XS.iloadN X95.here hx rfl (hb hby d22_15) rfl zz_) ?_
  refine Dn.of (fun tt_ zz_ => XS.aloadN X95.here hx rfl (hb hby d22_16) rfl rfl zz_) ?_
  show Dn p e below s _ _ _ (T95.setTop (mkF m 17 #[.val (.ref sb), .val (.int (35 : Int32)), .val (.int (0 : Int32)), .val (.int n)] [(.ref sb), (.int n)]))
  have Rl96 := D1
  obtain ⟨d96, B_96, _, Sd96, Nd96, _, _⟩ := Rl96
  refine Dn.of (fun tt_ zz_ => X95.arraylength hx (by rw [e95]; exact B_96.1) (State.isArrayOf_alike hZ.alike B_96.2.1) (g := (mkF m 17 #[.val (.ref sb), .val (.int (35 : Int32)), .val (.int (0 : Int32)), .val (.int n)] [(.ref sb), (.int n)])) rfl rfl (hb hby d22_17) tt_ zz_) ?_
  rw [Sd96, own_sz Nd96]
  show Dn p e below s _ _ _ (T95.setTop (mkF m 18 #[.val (.ref sb), .val (.int (35 : Int32)), .val (.int (0 : Int32)), .val (.int n)] [(.int n), (.int n)]))
  obtain ⟨v97, T97, L97, Q97, X97, st97⟩ := cSt X95 hx hZ (y := (⟨"java/lang/Math", "min", "(II)I"⟩ : MethodName)) hown (hg 125 rfl) (hg 126 rfl) (hg 123 rfl) (hg 127 rfl) (by decide) (argsL := [(.int n), (.int n)]) (rest := []) (rm_min l Z a0 hw h0 n0 Z0 n n) e95  0 (by decide) (by decide) (by decide) (by decide) (g := (mkF m 18 #[.val (.ref sb), .val (.int (35 : Int32)), .val (.int (0 : Int32)), .val (.int n)] [(.int n), (.int n)])) rfl (by rw [hml]; rfl) (lenOf pd6 rfl) rfl (by show 2 * 0 + _ ≤ _; exact Nat.le_of_eq rfl) (hb hby d22_18)
  rw [own_minS n] at Q97
  obtain ⟨rfl, M3, e97⟩ := Q97
  refine Dn.of st97 ?_
  show Dn p e below s _ _ _ (T97.setTop (mkF m 21 #[.val (.ref sb), .val (.int (35 : Int32)), .val (.int (0 : Int32)), .val (.int n)] [(.int n)]))
  refine Dn.of (fun tt_ zz_ => XS.istoreN X97.here hx rfl (hb hby d22_21) rfl (l' := #[.val (.ref sb), .val (.int (35 : Int32)), .val (.int (0 : Int32)), .val (.int n)]) rfl zz_) ?_
  refine Dn.of (fun tt_ zz_ => XS.iloadN X97.here hx rfl (hb hby d22_22) rfl zz_) ?_
  refine Dn.of (fun tt_ zz_ => XS.iloadN X97.here hx rfl (hb hby d22_23) rfl zz_) ?_
  show Dn p e below s _ _ _ (T97.setTop (mkF m 24 #[.val (.ref sb), .val (.int (35 : Int32)), .val (.int (0 : Int32)), .val (.int n)] [(.int n), (.int (0 : Int32))]))
  have hn0 : (0 : Int32) < n := by rcases hx4 with ⟨rfl, -⟩ | ⟨rfl, -⟩ | ⟨rfl, -⟩ | ⟨rfl, -⟩ <;> decide
  refine Dn.of (fun tt_ zz_ => XS.icmpYes X97.here hx rfl (pc0 := 24) (pc' := 29) rfl (hb hby d22_24) rfl (tlt hn0).1 (by decide) (by decide) zz_) ?_
  show Dn p e below s _ _ _ (T97.setTop (mkF m 29 #[.val (.ref sb), .val (.int (35 : Int32)), .val (.int (0 : Int32)), .val (.int n)] []))
  refine Dn.of (fun tt_ zz_ => XS.aloadN X97.here hx rfl (hb hby d22_29) rfl rfl zz_) ?_
  refine Dn.of (fun tt_ zz_ => XS.iloadN X97.here hx rfl (hb hby d22_30) rfl zz_) ?_
  refine Dn.of (fun tt_ zz_ => XS.iloadN X97.here hx rfl (hb hby d22_31) rfl zz_) ?_
  refine Dn.of (fun tt_ zz_ => XS.iloadN X97.here hx rfl (hb hby d22_32) rfl zz_) ?_
  show Dn p e below s _ _ _ (T97.setTop (mkF m 33 #[.val (.ref sb), .val (.int (35 : Int32)), .val (.int (0 : Int32)), .val (.int n)] [(.int n), (.int (0 : Int32)), (.int (35 : Int32)), (.ref sb)]))
  obtain ⟨v98, T98, L98, Q98, X98, st98⟩ := cSt X97 hx hZ (y := (⟨"java/lang/StringLatin1", "indexOfChar", "([BIII)I"⟩ : MethodName)) hown (hg 128 rfl) (hg 129 rfl) (hg 116 rfl) (hg 130 rfl) (by decide) (argsL := [(.ref sb), (.int (35 : Int32)), (.int (0 : Int32)), (.int n)]) (rest := []) (rmIC l Z a0 hw h0 n0 Z0 sb kb n xs D1 hx4) e97  0 (by decide) (by decide) (by decide) (by decide) (g := (mkF m 33 #[.val (.ref sb), .val (.int (35 : Int32)), .val (.int (0 : Int32)), .val (.int n)] [(.int n), (.int (0 : Int32)), (.int (35 : Int32)), (.ref sb)])) rfl (by rw [hml]; rfl) (lenOf pd7 rfl) rfl (by show 2 * 0 + _ ≤ _; exact Nat.le_of_eq rfl) (hb hby d22_33)
  obtain ⟨rfl, M4, e98⟩ := Q98
  refine Dn.of st98 ?_
  show Dn p e below s _ _ _ (T98.setTop (mkF m 36 #[.val (.ref sb), .val (.int (35 : Int32)), .val (.int (0 : Int32)), .val (.int n)] [(.int (own_ix xs))]))
  exact Dn.retI X98 hx hlk hret (hb hby d22_36) (by decide) (by decide) (⟨rfl, Fr.app (Fr.app (Fr.app (Fr.app N0 M1) M2) M3) M4, e98⟩)
theorem ef18_AII (m : MethodId) (x0 : Addr) (x1 : Int32) (x2 : Int32) : entryFrame m #[(.ref x0), (.int x1), (.int x2)] 3 = mkF m 0 #[.val (.ref x0), .val (.int x1), .val (.int x2)] [] := by first | (simp [entryFrame, mkF, argsToLocals, Value.category]; done) | rfl
set_option maxRecDepth 65536 in
set_option maxHeartbeats 40000000 in
theorem rmI2 (l : Launch) (Z : State) (a0 : Array Value) (hw : ∀ d ∈ tables_1, d.before a0 Z = true) (h0 : Heap) (n0 : Nat) (Z0 : n0 ≤ h0.size) (a sb : Addr) (n : Int32) (xs : List Int32) (S1 : own_Str Z h0 a sb n xs) (hx4 : (n = 1 ∧ ∃ a, xs = [a]) ∨ (n = 2 ∧ ∃ a b, xs = [a, b]) ∨ (n = 3 ∧ ∃ a b c, xs = [a, b, c]) ∨ (n = 4 ∧ ∃ a b c d, xs = [a, b, c, d])) (cz : Int32) (hcz : ¬ cz = 0) (SZ : Sta Z Z.heap "java/lang/String" "COMPACT_STRINGS" "Z" (.int cz)) (O0 : Old Z n0 h0) :
    ctr l Z (⟨"java/lang/String", "indexOf", "(II)I"⟩ : MethodName) jdk_42_method_80_code 3 (some .int) [] ({ frames := 2, cells := 0, slots := 0, locals := 44 } : Room) 0 0 #[(.ref a), (.int (35 : Int32)), (.int (0 : Int32))] h0 (fun v h L => v = some (.int (own_ix xs)) ∧ Fr n0 L ∧ h = h0) := by
  refine ctr_of (by decide +kernel) ?_
  intro p e s m below meth jc s₁ hx hby hml hret hlk hnm hown hZ e0 X0
  have N0 := Fr.nil n0
  have hg : ∀ (i : Nat) {d : Jvm.Cond}, tables_1[i]? = some d → d.before a0 Z = true := fun i d q => hw d (List.mem_of_getElem? q)
  refine Dn.cast (ef18_AII m a (35 : Int32) (0 : Int32)) ?_
  show Dn p e below s _ _ _ (s₁.setTop (mkF m 0 #[.val (.ref a), .val (.int (35 : Int32)), .val (.int (0 : Int32))] []))
  have S1' := S1
  obtain ⟨k1, A1, B1, C1, D1⟩ := S1'
  refine Dn.of (fun tt_ zz_ => XS.aloadN X0.here hx rfl (hb hby d18_0) rfl rfl zz_) ?_
  show Dn p e below s _ _ _ (s₁.setTop (mkF m 1 #[.val (.ref a), .val (.int (35 : Int32)), .val (.int (0 : Int32))] [(.ref a)]))
  obtain ⟨v99, T99, L99, Q99, X99, st99⟩ := cVi X0 hx hZ (C := "java/lang/String") (y := (⟨"java/lang/String", "isLatin1", "()Z"⟩ : MethodName)) (z := (⟨"java/lang/String", "isLatin1", "()Z"⟩ : MethodName)) hown (hg 99 rfl) (hg 100 rfl) (notFace_of_selects (args := #[]) (mvT hZ (hg 102 rfl))) (hg 102 rfl) (hg 101 rfl) (hg 7 rfl) (hg 103 rfl) (by decide) (a := a) (argsL := []) (rest := []) (rmIL l Z a0 hw h0 n0 Z0 a sb n xs S1 cz hcz SZ O0) e0 A1 0 (by decide) (by decide) (by decide) (by decide) (g := (mkF m 1 #[.val (.ref a), .val (.int (35 : Int32)), .val (.int (0 : Int32))] [(.ref a)])) rfl (by rw [hml]; rfl) (lenOf pd8 rfl) rfl (by show 2 * 0 + _ ≤ _; exact Nat.le_of_eq rfl) (hb hby d18_1)
  obtain ⟨rfl, M1, e99⟩ := Q99
  refine Dn.of st99 ?_
  show Dn p e below s _ _ _ (T99.setTop (mkF m 4 #[.val (.ref a), .val (.int (35 : Int32)), .val (.int (0 : Int32))] [(.int (1 : Int32))]))
  refine Dn.of (fun tt_ zz_ => XS.ifNo X99.here hx rfl (hb hby d18_4) rfl ((if0 _ _).trans (feq (by decide)).1) zz_) ?_
  show Dn p e below s _ _ _ (T99.setTop (mkF m 7 #[.val (.ref a), .val (.int (35 : Int32)), .val (.int (0 : Int32))] []))
  refine Dn.of (fun tt_ zz_ => XS.aloadN X99.here hx rfl (hb hby d18_7) rfl rfl zz_) ?_
  show Dn p e below s _ _ _ (T99.setTop (mkF m 8 #[.val (.ref a), .val (.int (35 : Int32)), .val (.int (0 : Int32))] [(.ref a)]))
  obtain ⟨T100, X100, e100, st100⟩ := getF X99 hx hZ hown (host := "") (Or.inl (hg 32 rfl)) Via.refl e99 C1 (g := (mkF m 8 #[.val (.ref a), .val (.int (35 : Int32)), .val (.int (0 : Int32))] [(.ref a)])) rfl rfl (hb hby d18_8)
  refine Dn.of st100 ?_
  show Dn p e below s _ _ _ (T100.setTop (mkF m 11 #[.val (.ref a), .val (.int (35 : Int32)), .val (.int (0 : Int32))] [(.ref sb)]))
  refine Dn.of (fun tt_ zz_ => XS.iloadN X100.here hx rfl (hb hby d18_11) rfl zz_) ?_
  refine Dn.of (fun tt_ zz_ => XS.iloadN X100.here hx rfl (hb hby d18_12) rfl zz_) ?_
  refine Dn.of (fun tt_ zz_ => XS.aloadN X100.here hx rfl (hb hby d18_13) rfl rfl zz_) ?_
  show Dn p e below s _ _ _ (T100.setTop (mkF m 14 #[.val (.ref a), .val (.int (35 : Int32)), .val (.int (0 : Int32))] [(.ref a), (.int (0 : Int32)), (.int (35 : Int32)), (.ref sb)]))
  obtain ⟨v101, T101, L101, Q101, X101, st101⟩ := cVi X100 hx hZ (C := "java/lang/String") (y := (⟨"java/lang/String", "length", "()I"⟩ : MethodName)) (z := (⟨"java/lang/String", "length", "()I"⟩ : MethodName)) hown (hg 104 rfl) (hg 105 rfl) (notFace_of_selects (args := #[]) (mvT hZ (hg 107 rfl))) (hg 107 rfl) (hg 106 rfl) (hg 7 rfl) (hg 108 rfl) (by decide) (a := a) (argsL := []) (rest := [(.int (0 : Int32)), (.int (35 : Int32)), (.ref sb)]) (rmLn l Z a0 hw h0 n0 Z0 a sb n xs S1 cz hcz SZ O0) e100 A1 3 (by decide) (by decide) (by decide) (by decide) (g := (mkF m 14 #[.val (.ref a), .val (.int (35 : Int32)), .val (.int (0 : Int32))] [(.ref a), (.int (0 : Int32)), (.int (35 : Int32)), (.ref sb)])) rfl (by rw [hml]; rfl) (lenOf pd9 rfl) rfl (by show 2 * 0 + _ ≤ _; exact Nat.le_of_eq rfl) (hb hby d18_14)
  obtain ⟨rfl, M2, e101⟩ := Q101
  refine Dn.of st101 ?_
  show Dn p e below s _ _ _ (T101.setTop (mkF m 17 #[.val (.ref a), .val (.int (35 : Int32)), .val (.int (0 : Int32))] [(.int n), (.int (0 : Int32)), (.int (35 : Int32)), (.ref sb)]))
  obtain ⟨v102, T102, L102, Q102, X102, st102⟩ := cSt X101 hx hZ (y := (⟨"java/lang/StringLatin1", "indexOf", "([BIII)I"⟩ : MethodName)) hown (hg 114 rfl) (hg 115 rfl) (hg 116 rfl) (hg 117 rfl) (by decide) (argsL := [(.ref sb), (.int (35 : Int32)), (.int (0 : Int32)), (.int n)]) (rest := []) (rmI4 l Z a0 hw h0 n0 Z0 sb k1 n xs D1 hx4) e101  0 (by decide) (by decide) (by decide) (by decide) (g := (mkF m 17 #[.val (.ref a), .val (.int (35 : Int32)), .val (.int (0 : Int32))] [(.int n), (.int (0 : Int32)), (.int (35 : Int32)), (.ref sb)])) rfl (by rw [hml]; rfl) (lenOf pd7 rfl) rfl (by show 2 * 0 + _ ≤ _; exact Nat.le_of_eq rfl) (hb hby d18_17)
  obtain ⟨rfl, M3, e102⟩ := Q102
  refine Dn.of st102 ?_
  show Dn p e below s _ _ _ (T102.setTop (mkF m 20 #[.val (.ref a), .val (.int (35 : Int32)), .val (.int (0 : Int32))] [(.int (own_ix xs))]))
  refine Dn.of (fun tt_ zz_ => XS.goto X102.here hx rfl (pc0 := 20) (pc' := 36) rfl (hb hby d18_20) (by decide) (by decide) zz_) ?_
  show Dn p e below s _ _ _ (T102.setTop (mkF m 36 #[.val (.ref a), .val (.int (35 : Int32)), .val (.int (0 : Int32))] [(.int (own_ix xs))]))
  exact Dn.retI X102 hx hlk hret (hb hby d18_36) (by decide) (by decide) (⟨rfl, Fr.app (Fr.app (Fr.app N0 M1) M2) M3, e102⟩)
theorem ef17_AI (m : MethodId) (x0 : Addr) (x1 : Int32) : entryFrame m #[(.ref x0), (.int x1)] 2 = mkF m 0 #[.val (.ref x0), .val (.int x1)] [] := by first | (simp [entryFrame, mkF, argsToLocals, Value.category]; done) | rfl
set_option maxRecDepth 65536 in
set_option maxHeartbeats 40000000 in
theorem rmI1 (l : Launch) (Z : State) (a0 : Array Value) (hw : ∀ d ∈ tables_1, d.before a0 Z = true) (h0 : Heap) (n0 : Nat) (Z0 : n0 ≤ h0.size) (a sb : Addr) (n : Int32) (xs : List Int32) (S1 : own_Str Z h0 a sb n xs) (hx4 : (n = 1 ∧ ∃ a, xs = [a]) ∨ (n = 2 ∧ ∃ a b, xs = [a, b]) ∨ (n = 3 ∧ ∃ a b c, xs = [a, b, c]) ∨ (n = 4 ∧ ∃ a b c d, xs = [a, b, c, d])) (cz : Int32) (hcz : ¬ cz = 0) (SZ : Sta Z Z.heap "java/lang/String" "COMPACT_STRINGS" "Z" (.int cz)) (O0 : Old Z n0 h0) :
    ctr l Z (⟨"java/lang/String", "indexOf", "(I)I"⟩ : MethodName) jdk_42_method_79_code 2 (some .int) [] ({ frames := 3, cells := 0, slots := 0, locals := 60 } : Room) 0 0 #[(.ref a), (.int (35 : Int32))] h0 (fun v h L => v = some (.int (own_ix xs)) ∧ Fr n0 L ∧ h = h0) := by
  refine ctr_of (by decide +kernel) ?_
  intro p e s m below meth jc s₁ hx hby hml hret hlk hnm hown hZ e0 X0
  have N0 := Fr.nil n0
  have hg : ∀ (i : Nat) {d : Jvm.Cond}, tables_1[i]? = some d → d.before a0 Z = true := fun i d q => hw d (List.mem_of_getElem? q)
  refine Dn.cast (ef17_AI m a (35 : Int32)) ?_
  show Dn p e below s _ _ _ (s₁.setTop (mkF m 0 #[.val (.ref a), .val (.int (35 : Int32))] []))
  refine Dn.of (fun tt_ zz_ => XS.aloadN X0.here hx rfl (hb hby d17_0) rfl rfl zz_) ?_
  refine Dn.of (fun tt_ zz_ => XS.iloadN X0.here hx rfl (hb hby d17_1) rfl zz_) ?_
  refine Dn.of (fun tt_ zz_ => XS.iconst X0.here hx rfl (hb hby d17_2) zz_) ?_
  show Dn p e below s _ _ _ (s₁.setTop (mkF m 3 #[.val (.ref a), .val (.int (35 : Int32))] [(.int (0 : Int32)), (.int (35 : Int32)), (.ref a)]))
  obtain ⟨v103, T103, L103, Q103, X103, st103⟩ := cVi X0 hx hZ (C := "java/lang/String") (y := (⟨"java/lang/String", "indexOf", "(II)I"⟩ : MethodName)) (z := (⟨"java/lang/String", "indexOf", "(II)I"⟩ : MethodName)) hown (hg 94 rfl) (hg 95 rfl) (notFace_of_selects (args := #[]) (mvT hZ (hg 97 rfl))) (hg 97 rfl) (hg 96 rfl) (hg 7 rfl) (hg 98 rfl) (by decide) (a := a) (argsL := [(.int (35 : Int32)), (.int (0 : Int32))]) (rest := []) (rmI2 l Z a0 hw h0 n0 Z0 a sb n xs S1 hx4 cz hcz SZ O0) e0 (own_exa S1) 0 (by decide) (by decide) (by decide) (by decide) (g := (mkF m 3 #[.val (.ref a), .val (.int (35 : Int32))] [(.int (0 : Int32)), (.int (35 : Int32)), (.ref a)])) rfl (by rw [hml]; rfl) (lenOf pd6 rfl) rfl (by show 2 * 0 + _ ≤ _; exact Nat.le_of_eq rfl) (hb hby d17_3)
  obtain ⟨rfl, M1, e103⟩ := Q103
  refine Dn.of st103 ?_
  show Dn p e below s _ _ _ (T103.setTop (mkF m 6 #[.val (.ref a), .val (.int (35 : Int32))] [(.int (own_ix xs))]))
  exact Dn.retI X103 hx hlk hret (hb hby d17_6) (by decide) (by decide) (⟨rfl, Fr.app N0 M1, e103⟩)
set_option maxHeartbeats 4000000 in
theorem ef31_IIIV (m : MethodId) (x0 : Int32) (x1 : Int32) (x2 : Int32) (x3 : Value) (r3 : x3.isRef = true) : entryFrame m #[(.int x0), (.int x1), (.int x2), x3] 4 = mkF m 0 #[.val (.int x0), .val (.int x1), .val (.int x2), .val x3] [] := by rcases ref_cases r3 with rfl | ⟨y3, rfl⟩ <;> first | (simp [entryFrame, mkF, argsToLocals, Value.category]; done) | rfl
set_option maxRecDepth 65536 in
set_option maxHeartbeats 40000000 in
theorem rmFT (l : Launch) (Z : State) (a0 : Array Value) (hw : ∀ d ∈ tables_1, d.before a0 Z = true) (h0 : Heap) (n0 : Nat) (Z0 : n0 ≤ h0.size) (f e_ n : Int32) (fv : Value) (rf : fv.isRef = true) (h1 : ¬ f < 0) (h2 : ¬ e_ < f) (h3 : ¬ n < e_) :
    ctr l Z (⟨"jdk/internal/util/Preconditions", "checkFromToIndex", "(IIILjava/util/function/BiFunction;)I"⟩ : MethodName) jdk_41_method_12_code 4 (some .int) [] ({ frames := 0, cells := 0, slots := 0, locals := 0 } : Room) 0 0 #[(.int f), (.int e_), (.int n), fv] h0 (fun v h L => v = some (.int f) ∧ Fr n0 L ∧ h = h0) := by
  refine ctr_of (plainFor_of_name pn1) ?_
  intro p e s m below meth jc s₁ hx hby hml hret hlk hnm hown hZ e0 X0
  have N0 := Fr.nil n0
  have hg : ∀ (i : Nat) {d : Jvm.Cond}, tables_1[i]? = some d → d.before a0 Z = true := fun i d q => hw d (List.mem_of_getElem? q)
  refine Dn.cast (ef31_IIIV m f e_ n fv rf) ?_
  show Dn p e below s _ _ _ (s₁.setTop (mkF m 0 #[.val (.int f), .val (.int e_), .val (.int n), .val fv] []))
  refine Dn.of (fun tt_ zz_ => XS.iloadN X0.here hx rfl (hb hby d31_0) rfl zz_) ?_
  show Dn p e below s _ _ _ (s₁.setTop (mkF m 1 #[.val (.int f), .val (.int e_), .val (.int n), .val fv] [(.int f)]))
  refine Dn.of (fun tt_ zz_ => XS.ifNo X0.here hx rfl (hb hby d31_1) rfl ((if0 _ _).trans (flt h1).1) zz_) ?_
  show Dn p e below s _ _ _ (s₁.setTop (mkF m 4 #[.val (.int f), .val (.int e_), .val (.int n), .val fv] []))
  refine Dn.of (fun tt_ zz_ => XS.iloadN X0.here hx rfl (hb hby d31_4) rfl zz_) ?_
  refine Dn.of (fun tt_ zz_ => XS.iloadN X0.here hx rfl (hb hby d31_5) rfl zz_) ?_
  show Dn p e below s _ _ _ (s₁.setTop (mkF m 6 #[.val (.int f), .val (.int e_), .val (.int n), .val fv] [(.int e_), (.int f)]))
  refine Dn.of (fun tt_ zz_ => XS.icmpNo X0.here hx rfl (hb hby d31_6) rfl (flt h2).2.2.1 zz_) ?_
  show Dn p e below s _ _ _ (s₁.setTop (mkF m 9 #[.val (.int f), .val (.int e_), .val (.int n), .val fv] []))
  refine Dn.of (fun tt_ zz_ => XS.iloadN X0.here hx rfl (hb hby d31_9) rfl zz_) ?_
  refine Dn.of (fun tt_ zz_ => XS.iloadN X0.here hx rfl (hb hby d31_10) rfl zz_) ?_
  show Dn p e below s _ _ _ (s₁.setTop (mkF m 11 #[.val (.int f), .val (.int e_), .val (.int n), .val fv] [(.int n), (.int e_)]))
  refine Dn.of (fun tt_ zz_ => XS.icmpYes X0.here hx rfl (pc0 := 11) (pc' := 22) rfl (hb hby d31_11) rfl (flt h3).2.2.2 (by decide) (by decide) zz_) ?_
  show Dn p e below s _ _ _ (s₁.setTop (mkF m 22 #[.val (.int f), .val (.int e_), .val (.int n), .val fv] []))
  refine Dn.of (fun tt_ zz_ => XS.iloadN X0.here hx rfl (hb hby d31_22) rfl zz_) ?_
  show Dn p e below s _ _ _ (s₁.setTop (mkF m 23 #[.val (.int f), .val (.int e_), .val (.int n), .val fv] [(.int f)]))
  exact Dn.retI X0 hx hlk hret (hb hby d31_23) (by decide) (by decide) (⟨rfl, N0, e0⟩)
theorem ef30_III (m : MethodId) (x0 : Int32) (x1 : Int32) (x2 : Int32) : entryFrame m #[(.int x0), (.int x1), (.int x2)] 3 = mkF m 0 #[.val (.int x0), .val (.int x1), .val (.int x2)] [] := by first | (simp [entryFrame, mkF, argsToLocals, Value.category]; done) | rfl
set_option maxRecDepth 65536 in
set_option maxHeartbeats 40000000 in
theorem rmBE (l : Launch) (Z : State) (a0 : Array Value) (hw : ∀ d ∈ tables_1, d.before a0 Z = true) (h0 : Heap) (n0 : Nat) (Z0 : n0 ≤ h0.size) (f e_ n : Int32) (fv : Value) (rf : fv.isRef = true) (SF : Sta Z Z.heap "jdk/internal/util/Preconditions" "SIOOBE_FORMATTER" "Ljava/util/function/BiFunction;" fv) (O0 : Old Z n0 h0) (h1 : ¬ f < 0) (h2 : ¬ e_ < f) (h3 : ¬ n < e_) :
    ctr l Z (⟨"java/lang/String", "checkBoundsBeginEnd", "(III)V"⟩ : MethodName) jdk_42_method_158_code 3 none [] ({ frames := 1, cells := 0, slots := 0, locals := 20 } : Room) 0 0 #[(.int f), (.int e_), (.int n)] h0 (fun v h L => v = none ∧ Fr n0 L ∧ h = h0) := by
  refine ctr_of (by decide +kernel) ?_
  intro p e s m below meth jc s₁ hx hby hml hret hlk hnm hown hZ e0 X0
  have N0 := Fr.nil n0
  have hg : ∀ (i : Nat) {d : Jvm.Cond}, tables_1[i]? = some d → d.before a0 Z = true := fun i d q => hw d (List.mem_of_getElem? q)
  refine Dn.cast (ef30_III m f e_ n) ?_
  show Dn p e below s _ _ _ (s₁.setTop (mkF m 0 #[.val (.int f), .val (.int e_), .val (.int n)] []))
  refine Dn.of (fun tt_ zz_ => XS.iloadN X0.here hx rfl (hb hby d30_0) rfl zz_) ?_
  refine Dn.of (fun tt_ zz_ => XS.iloadN X0.here hx rfl (hb hby d30_1) rfl zz_) ?_
  refine Dn.of (fun tt_ zz_ => XS.iloadN X0.here hx rfl (hb hby d30_2) rfl zz_) ?_
  show Dn p e below s _ _ _ (s₁.setTop (mkF m 3 #[.val (.int f), .val (.int e_), .val (.int n)] [(.int n), (.int e_), (.int f)]))
  obtain ⟨T104, X104, e104, st104⟩ := getS2 X0 hx hZ hown (host := "") (Or.inl (hg 149 rfl)) Via.refl e0 (SF.ext O0.2) (g := (mkF m 3 #[.val (.int f), .val (.int e_), .val (.int n)] [(.int n), (.int e_), (.int f)])) rfl (hb hby d30_3)
  refine Dn.of st104 ?_
  show Dn p e below s _ _ _ (T104.setTop (mkF m 6 #[.val (.int f), .val (.int e_), .val (.int n)] [fv, (.int n), (.int e_), (.int f)]))
  obtain ⟨v105, T105, L105, Q105, X105, st105⟩ := cSt X104 hx hZ (y := (⟨"jdk/internal/util/Preconditions", "checkFromToIndex", "(IIILjava/util/function/BiFunction;)I"⟩ : MethodName)) hown (hg 151 rfl) (hg 152 rfl) (hg 150 rfl) (hg 153 rfl) (by decide) (argsL := [(.int f), (.int e_), (.int n), fv]) (rest := []) (rmFT l Z a0 hw h0 n0 Z0 f e_ n fv rf h1 h2 h3) e104  0 (by decide) (by decide) (by decide) (by decide) (g := (mkF m 6 #[.val (.int f), .val (.int e_), .val (.int n)] [fv, (.int n), (.int e_), (.int f)])) rfl (by rw [hml]; rfl) (lenOf pd10 rfl) rfl (by show 2 * 0 + _ ≤ _; exact Nat.le_of_eq rfl) (hb hby d30_6)
  obtain ⟨rfl, M1, e105⟩ := Q105
  refine Dn.of st105 ?_
  show Dn p e below s _ _ _ (T105.setTop (mkF m 9 #[.val (.int f), .val (.int e_), .val (.int n)] [(.int f)]))
  refine Dn.of (fun tt_ zz_ => XS.pop X105.here hx rfl (hb hby d30_9) rfl rfl zz_) ?_
  show Dn p e below s _ _ _ (T105.setTop (mkF m 10 #[.val (.int f), .val (.int e_), .val (.int n)] []))
  exact Dn.retV X105 hx hlk hret (hb hby d30_10) (by decide) (by decide) (⟨rfl, Fr.app N0 M1, e105⟩)
set_option maxHeartbeats 4000000 in
theorem ef41_IIV (m : MethodId) (x0 : Int32) (x1 : Int32) (x2 : Value) (r2 : x2.isRef = true) : entryFrame m #[(.int x0), (.int x1), x2] 3 = mkF m 0 #[.val (.int x0), .val (.int x1), .val x2] [] := by rcases ref_cases r2 with rfl | ⟨y2, rfl⟩ <;> first | (simp [entryFrame, mkF, argsToLocals, Value.category]; done) | rfl
set_option maxRecDepth 65536 in
set_option maxHeartbeats 40000000 in
theorem rmCP (l : Launch) (Z : State) (a0 : Array Value) (hw : ∀ d ∈ tables_1, d.before a0 Z = true) (h0 : Heap) (n0 : Nat) (Z0 : n0 ≤ h0.size) (f n : Int32) (fv : Value) (rf : fv.isRef = true) (h1 : ¬ f < 0) (h2 : f < n) :
    ctr l Z (⟨"jdk/internal/util/Preconditions", "checkIndex", "(IILjava/util/function/BiFunction;)I"⟩ : MethodName) jdk_41_method_11_code 3 (some .int) [] ({ frames := 0, cells := 0, slots := 0, locals := 0 } : Room) 0 0 #[(.int f), (.int n), fv] h0 (fun v h L => v = some (.int f) ∧ Fr n0 L ∧ h = h0) := by
  refine ctr_of (plainFor_of_name pn1) ?_
  intro p e s m below meth jc s₁ hx hby hml hret hlk hnm hown hZ e0 X0
  have N0 := Fr.nil n0
  have hg : ∀ (i : Nat) {d : Jvm.Cond}, tables_1[i]? = some d → d.before a0 Z = true := fun i d q => hw d (List.mem_of_getElem? q)
  refine Dn.cast (ef41_IIV m f n fv rf) ?_
  show Dn p e below s _ _ _ (s₁.setTop (mkF m 0 #[.val (.int f), .val (.int n), .val fv] []))
  refine Dn.of (fun tt_ zz_ => XS.iloadN X0.here hx rfl (hb hby d41_0) rfl zz_) ?_
  show Dn p e below s _ _ _ (s₁.setTop (mkF m 1 #[.val (.int f), .val (.int n), .val fv] [(.int f)]))
  refine Dn.of (fun tt_ zz_ => XS.ifNo X0.here hx rfl (hb hby d41_1) rfl ((if0 _ _).trans (flt h1).1) zz_) ?_
  show Dn p e below s _ _ _ (s₁.setTop (mkF m 4 #[.val (.int f), .val (.int n), .val fv] []))
  refine Dn.of (fun tt_ zz_ => XS.iloadN X0.here hx rfl (hb hby d41_4) rfl zz_) ?_
  refine Dn.of (fun tt_ zz_ => XS.iloadN X0.here hx rfl (hb hby d41_5) rfl zz_) ?_
  show Dn p e below s _ _ _ (s₁.setTop (mkF m 6 #[.val (.int f), .val (.int n), .val fv] [(.int n), (.int f)]))
  refine Dn.of (fun tt_ zz_ => XS.icmpYes X0.here hx rfl (pc0 := 6) (pc' := 16) rfl (hb hby d41_6) rfl (tlt h2).1 (by decide) (by decide) zz_) ?_
  show Dn p e below s _ _ _ (s₁.setTop (mkF m 16 #[.val (.int f), .val (.int n), .val fv] []))
  refine Dn.of (fun tt_ zz_ => XS.iloadN X0.here hx rfl (hb hby d41_16) rfl zz_) ?_
  show Dn p e below s _ _ _ (s₁.setTop (mkF m 17 #[.val (.int f), .val (.int n), .val fv] [(.int f)]))
  exact Dn.retI X0 hx hlk hret (hb hby d41_17) (by decide) (by decide) (⟨rfl, N0, e0⟩)
theorem ef40_II (m : MethodId) (x0 : Int32) (x1 : Int32) : entryFrame m #[(.int x0), (.int x1)] 2 = mkF m 0 #[.val (.int x0), .val (.int x1)] [] := by first | (simp [entryFrame, mkF, argsToLocals, Value.category]; done) | rfl
set_option maxRecDepth 65536 in
set_option maxHeartbeats 40000000 in
theorem rmCS (l : Launch) (Z : State) (a0 : Array Value) (hw : ∀ d ∈ tables_1, d.before a0 Z = true) (h0 : Heap) (n0 : Nat) (Z0 : n0 ≤ h0.size) (f n : Int32) (fv : Value) (rf : fv.isRef = true) (SF : Sta Z Z.heap "jdk/internal/util/Preconditions" "SIOOBE_FORMATTER" "Ljava/util/function/BiFunction;" fv) (O0 : Old Z n0 h0) (h1 : ¬ f < 0) (h2 : f < n) :
    ctr l Z (⟨"java/lang/String", "checkIndex", "(II)V"⟩ : MethodName) jdk_42_method_155_code 2 none [] ({ frames := 1, cells := 0, slots := 0, locals := 20 } : Room) 0 0 #[(.int f), (.int n)] h0 (fun v h L => v = none ∧ Fr n0 L ∧ h = h0) := by
  refine ctr_of (by decide +kernel) ?_
  intro p e s m below meth jc s₁ hx hby hml hret hlk hnm hown hZ e0 X0
  have N0 := Fr.nil n0
  have hg : ∀ (i : Nat) {d : Jvm.Cond}, tables_1[i]? = some d → d.before a0 Z = true := fun i d q => hw d (List.mem_of_getElem? q)
  refine Dn.cast (ef40_II m f n) ?_
  show Dn p e below s _ _ _ (s₁.setTop (mkF m 0 #[.val (.int f), .val (.int n)] []))
  refine Dn.of (fun tt_ zz_ => XS.iloadN X0.here hx rfl (hb hby d40_0) rfl zz_) ?_
  refine Dn.of (fun tt_ zz_ => XS.iloadN X0.here hx rfl (hb hby d40_1) rfl zz_) ?_
  show Dn p e below s _ _ _ (s₁.setTop (mkF m 2 #[.val (.int f), .val (.int n)] [(.int n), (.int f)]))
  obtain ⟨T106, X106, e106, st106⟩ := getS2 X0 hx hZ hown (host := "") (Or.inl (hg 149 rfl)) Via.refl e0 (SF.ext O0.2) (g := (mkF m 2 #[.val (.int f), .val (.int n)] [(.int n), (.int f)])) rfl (hb hby d40_2)
  refine Dn.of st106 ?_
  show Dn p e below s _ _ _ (T106.setTop (mkF m 5 #[.val (.int f), .val (.int n)] [fv, (.int n), (.int f)]))
  obtain ⟨v107, T107, L107, Q107, X107, st107⟩ := cSt X106 hx hZ (y := (⟨"jdk/internal/util/Preconditions", "checkIndex", "(IILjava/util/function/BiFunction;)I"⟩ : MethodName)) hown (hg 190 rfl) (hg 191 rfl) (hg 150 rfl) (hg 192 rfl) (by decide) (argsL := [(.int f), (.int n), fv]) (rest := []) (rmCP l Z a0 hw h0 n0 Z0 f n fv rf h1 h2) e106  0 (by decide) (by decide) (by decide) (by decide) (g := (mkF m 5 #[.val (.int f), .val (.int n)] [fv, (.int n), (.int f)])) rfl (by rw [hml]; rfl) (lenOf pd11 rfl) rfl (by show 2 * 0 + _ ≤ _; exact Nat.le_of_eq rfl) (hb hby d40_5)
  obtain ⟨rfl, M1, e107⟩ := Q107
  refine Dn.of st107 ?_
  show Dn p e below s _ _ _ (T107.setTop (mkF m 8 #[.val (.int f), .val (.int n)] [(.int f)]))
  refine Dn.of (fun tt_ zz_ => XS.pop X107.here hx rfl (hb hby d40_8) rfl rfl zz_) ?_
  show Dn p e below s _ _ _ (T107.setTop (mkF m 9 #[.val (.int f), .val (.int n)] []))
  exact Dn.retV X107 hx hlk hret (hb hby d40_9) (by decide) (by decide) (⟨rfl, Fr.app N0 M1, e107⟩)
theorem ef35_II (m : MethodId) (x0 : Int32) (x1 : Int32) : entryFrame m #[(.int x0), (.int x1)] 2 = mkF m 0 #[.val (.int x0), .val (.int x1)] [] := by first | (simp [entryFrame, mkF, argsToLocals, Value.category]; done) | rfl
set_option maxRecDepth 65536 in
set_option maxHeartbeats 40000000 in
theorem rmCk (l : Launch) (Z : State) (a0 : Array Value) (hw : ∀ d ∈ tables_1, d.before a0 Z = true) (h0 : Heap) (n0 : Nat) (Z0 : n0 ≤ h0.size) (f e_ : Int32) (h1 : ¬ e_ < f) :
    ctr l Z (⟨"java/util/Arrays", "checkLength", "(II)V"⟩ : MethodName) jdk_65_method_131_code 2 none [] ({ frames := 0, cells := 0, slots := 0, locals := 0 } : Room) 0 0 #[(.int f), (.int e_)] h0 (fun v h L => v = none ∧ Fr n0 L ∧ h = h0) := by
  refine ctr_of (by decide +kernel) ?_
  intro p e s m below meth jc s₁ hx hby hml hret hlk hnm hown hZ e0 X0
  have N0 := Fr.nil n0
  have hg : ∀ (i : Nat) {d : Jvm.Cond}, tables_1[i]? = some d → d.before a0 Z = true := fun i d q => hw d (List.mem_of_getElem? q)
  refine Dn.cast (ef35_II m f e_) ?_
  show Dn p e below s _ _ _ (s₁.setTop (mkF m 0 #[.val (.int f), .val (.int e_)] []))
  refine Dn.of (fun tt_ zz_ => XS.iloadN X0.here hx rfl (hb hby d35_0) rfl zz_) ?_
  refine Dn.of (fun tt_ zz_ => XS.iloadN X0.here hx rfl (hb hby d35_1) rfl zz_) ?_
  show Dn p e below s _ _ _ (s₁.setTop (mkF m 2 #[.val (.int f), .val (.int e_)] [(.int f), (.int e_)]))
  refine Dn.of (fun tt_ zz_ => XS.icmpYes X0.here hx rfl (pc0 := 2) (pc' := 37) rfl (hb hby d35_2) rfl (flt h1).2.1 (by decide) (by decide) zz_) ?_
  show Dn p e below s _ _ _ (s₁.setTop (mkF m 37 #[.val (.int f), .val (.int e_)] []))
  exact Dn.retV X0 hx hlk hret (hb hby d35_37) (by decide) (by decide) (⟨rfl, N0, e0⟩)
theorem ef39_AI (m : MethodId) (x0 : Addr) (x1 : Int32) : entryFrame m #[(.ref x0), (.int x1)] 2 = mkF m 0 #[.val (.ref x0), .val (.int x1)] [] := by first | (simp [entryFrame, mkF, argsToLocals, Value.category]; done) | rfl
set_option maxRecDepth 65536 in
set_option maxHeartbeats 40000000 in
theorem rmCA (l : Launch) (Z : State) (a0 : Array Value) (hw : ∀ d ∈ tables_1, d.before a0 Z = true) (h0 : Heap) (n0 : Nat) (Z0 : n0 ≤ h0.size) (sb : Addr) (kb : ClassId) (n j c : Int32) (xs : List Int32) (D1 : Arv Z h0 sb kb .byte n (own_vs xs) (.int 0)) (fv : Value) (rf : fv.isRef = true) (SF : Sta Z Z.heap "jdk/internal/util/Preconditions" "SIOOBE_FORMATTER" "Ljava/util/function/BiFunction;" fv) (O0 : Old Z n0 h0) (hj : ¬ j < 0 ∧ j < n) (hc : own_C c) (hx1 : (own_vs xs).getD j.toNatClampNeg (.int 0) = .int (own_B c)) :
    ctr l Z (⟨"java/lang/StringLatin1", "charAt", "([BI)C"⟩ : MethodName) jdk_43_method_2_code 2 (some .char) [] ({ frames := 2, cells := 0, slots := 0, locals := 36 } : Room) 0 0 #[(.ref sb), (.int j)] h0 (fun v h L => v = some (.int c) ∧ Fr n0 L ∧ h = h0) := by
  refine ctr_of (by decide +kernel) ?_
  intro p e s m below meth jc s₁ hx hby hml hret hlk hnm hown hZ e0 X0
  have N0 := Fr.nil n0
  have hg : ∀ (i : Nat) {d : Jvm.Cond}, tables_1[i]? = some d → d.before a0 Z = true := fun i d q => hw d (List.mem_of_getElem? q)
  refine Dn.cast (ef39_AI m sb j) ?_
  show Dn p e below s _ _ _ (s₁.setTop (mkF m 0 #[.val (.ref sb), .val (.int j)] []))
  refine Dn.of (fun tt_ zz_ => XS.iloadN X0.here hx rfl (hb hby d39_0) rfl zz_) ?_
  refine Dn.of (fun tt_ zz_ => XS.aloadN X0.here hx rfl (hb hby d39_1) rfl rfl zz_) ?_
  show Dn p e below s _ _ _ (s₁.setTop (mkF m 2 #[.val (.ref sb), .val (.int j)] [(.ref sb), (.int j)]))
  have Rl108 := D1
  obtain ⟨d108, B_108, _, Sd108, Nd108, _, _⟩ := Rl108
  refine Dn.of (fun tt_ zz_ => X0.arraylength hx (by rw [e0]; exact B_108.1) (State.isArrayOf_alike hZ.alike B_108.2.1) (g := (mkF m 2 #[.val (.ref sb), .val (.int j)] [(.ref sb), (.int j)])) rfl rfl (hb hby d39_2) tt_ zz_) ?_
  rw [Sd108, own_sz Nd108]
  show Dn p e below s _ _ _ (s₁.setTop (mkF m 3 #[.val (.ref sb), .val (.int j)] [(.int n), (.int j)]))
  obtain ⟨v109, T109, L109, Q109, X109, st109⟩ := cSt X0 hx hZ (y := (⟨"java/lang/String", "checkIndex", "(II)V"⟩ : MethodName)) hown (hg 187 rfl) (hg 188 rfl) (hg 7 rfl) (hg 189 rfl) (by decide) (argsL := [(.int j), (.int n)]) (rest := []) (rmCS l Z a0 hw h0 n0 Z0 j n fv rf SF O0 hj.1 hj.2) e0  0 (by decide) (by decide) (by decide) (by decide) (g := (mkF m 3 #[.val (.ref sb), .val (.int j)] [(.int n), (.int j)])) rfl (by rw [hml]; rfl) (lenOf pd12 rfl) rfl (by show 2 * 0 + _ ≤ _; exact Nat.le_of_eq rfl) (hb hby d39_3)
  obtain ⟨rfl, M1, e109⟩ := Q109
  refine Dn.of st109 ?_
  show Dn p e below s _ _ _ (T109.setTop (mkF m 6 #[.val (.ref sb), .val (.int j)] []))
  refine Dn.of (fun tt_ zz_ => XS.aloadN X109.here hx rfl (hb hby d39_6) rfl rfl zz_) ?_
  refine Dn.of (fun tt_ zz_ => XS.iloadN X109.here hx rfl (hb hby d39_7) rfl zz_) ?_
  show Dn p e below s _ _ _ (T109.setTop (mkF m 8 #[.val (.ref sb), .val (.int j)] [(.int j), (.ref sb)]))
  have Rr110 := D1.arh
  obtain ⟨d110, B_110, _, Sd110, _, Hd110, _⟩ := Rr110
  refine Dn.of (fun tt_ zz_ => X109.baloadBytes hx (j := j) (v := (.int (own_B c))) (by rw [e109]; exact B_110.1) (State.isArrayOf_alike hZ.alike B_110.2.1) B_110.2.2 (inb_of Sd110 hj) (atH Hd110 (inb_of Sd110 hj) hx1) (g := (mkF m 8 #[.val (.ref sb), .val (.int j)] [(.int j), (.ref sb)])) rfl rfl (hb hby d39_8) tt_ zz_) ?_
  show Dn p e below s _ _ _ (T109.setTop (mkF m 9 #[.val (.ref sb), .val (.int j)] [(.int (own_B c))]))
  refine Dn.of (fun tt_ zz_ => XS.sipush X109.here hx rfl (hb hby d39_9) zz_) ?_
  refine Dn.of (fun tt_ zz_ => XS.iand X109.here hx rfl (hb hby d39_12) rfl zz_) ?_
  refine Dn.of (fun tt_ zz_ => XS.i2c X109.here hx rfl (hb hby d39_13) rfl zz_) ?_
  show Dn p e below s _ _ _ (T109.setTop (mkF m 14 #[.val (.ref sb), .val (.int j)] [(.int (((own_B c) &&& (255 : Int32)).toUInt32.toUInt16.toUInt32.toInt32))]))
  exact Dn.retN X109 hx hlk (t := .char) hret (by simp) (hb hby d39_14) (by decide) (by decide) (⟨by rw [own_Bc hc], Fr.app N0 M1, e109⟩)
theorem ef38_AI (m : MethodId) (x0 : Addr) (x1 : Int32) : entryFrame m #[(.ref x0), (.int x1)] 2 = mkF m 0 #[.val (.ref x0), .val (.int x1)] [] := by first | (simp [entryFrame, mkF, argsToLocals, Value.category]; done) | rfl
set_option maxRecDepth 65536 in
set_option maxHeartbeats 40000000 in
theorem rmCh (l : Launch) (Z : State) (a0 : Array Value) (hw : ∀ d ∈ tables_1, d.before a0 Z = true) (h0 : Heap) (n0 : Nat) (Z0 : n0 ≤ h0.size) (a sb : Addr) (n : Int32) (xs : List Int32) (S1 : own_Str Z h0 a sb n xs) (cz : Int32) (hcz : ¬ cz = 0) (SZ : Sta Z Z.heap "java/lang/String" "COMPACT_STRINGS" "Z" (.int cz)) (O0 : Old Z n0 h0) (fv : Value) (rf : fv.isRef = true) (SF : Sta Z Z.heap "jdk/internal/util/Preconditions" "SIOOBE_FORMATTER" "Ljava/util/function/BiFunction;" fv) (j c : Int32) (hj : ¬ j < 0 ∧ j < n) (hc : own_C c) (hx1 : (own_vs xs).getD j.toNatClampNeg (.int 0) = .int (own_B c)) :
    ctr l Z (⟨"java/lang/String", "charAt", "(I)C"⟩ : MethodName) jdk_42_method_56_code 2 (some .char) [] ({ frames := 3, cells := 0, slots := 0, locals := 52 } : Room) 0 0 #[(.ref a), (.int j)] h0 (fun v h L => v = some (.int c) ∧ Fr n0 L ∧ h = h0) := by
  refine ctr_of (by decide +kernel) ?_
  intro p e s m below meth jc s₁ hx hby hml hret hlk hnm hown hZ e0 X0
  have N0 := Fr.nil n0
  have hg : ∀ (i : Nat) {d : Jvm.Cond}, tables_1[i]? = some d → d.before a0 Z = true := fun i d q => hw d (List.mem_of_getElem? q)
  refine Dn.cast (ef38_AI m a j) ?_
  show Dn p e below s _ _ _ (s₁.setTop (mkF m 0 #[.val (.ref a), .val (.int j)] []))
  have S1' := S1
  obtain ⟨k1, A1, B1, C1, D1⟩ := S1'
  refine Dn.of (fun tt_ zz_ => XS.aloadN X0.here hx rfl (hb hby d38_0) rfl rfl zz_) ?_
  show Dn p e below s _ _ _ (s₁.setTop (mkF m 1 #[.val (.ref a), .val (.int j)] [(.ref a)]))
  obtain ⟨v111, T111, L111, Q111, X111, st111⟩ := cVi X0 hx hZ (C := "java/lang/String") (y := (⟨"java/lang/String", "isLatin1", "()Z"⟩ : MethodName)) (z := (⟨"java/lang/String", "isLatin1", "()Z"⟩ : MethodName)) hown (hg 99 rfl) (hg 100 rfl) (notFace_of_selects (args := #[]) (mvT hZ (hg 102 rfl))) (hg 102 rfl) (hg 101 rfl) (hg 7 rfl) (hg 103 rfl) (by decide) (a := a) (argsL := []) (rest := []) (rmIL l Z a0 hw h0 n0 Z0 a sb n xs S1 cz hcz SZ O0) e0 A1 0 (by decide) (by decide) (by decide) (by decide) (g := (mkF m 1 #[.val (.ref a), .val (.int j)] [(.ref a)])) rfl (by rw [hml]; rfl) (lenOf pd8 rfl) rfl (by show 2 * 0 + _ ≤ _; exact Nat.le_of_eq rfl) (hb hby d38_1)
  obtain ⟨rfl, M1, e111⟩ := Q111
  refine Dn.of st111 ?_
  show Dn p e below s _ _ _ (T111.setTop (mkF m 4 #[.val (.ref a), .val (.int j)] [(.int (1 : Int32))]))
  refine Dn.of (fun tt_ zz_ => XS.ifNo X111.here hx rfl (hb hby d38_4) rfl ((if0 _ _).trans (feq (by decide)).1) zz_) ?_
  show Dn p e below s _ _ _ (T111.setTop (mkF m 7 #[.val (.ref a), .val (.int j)] []))
  refine Dn.of (fun tt_ zz_ => XS.aloadN X111.here hx rfl (hb hby d38_7) rfl rfl zz_) ?_
  show Dn p e below s _ _ _ (T111.setTop (mkF m 8 #[.val (.ref a), .val (.int j)] [(.ref a)]))
  obtain ⟨T112, X112, e112, st112⟩ := getF X111 hx hZ hown (host := "") (Or.inl (hg 32 rfl)) Via.refl e111 C1 (g := (mkF m 8 #[.val (.ref a), .val (.int j)] [(.ref a)])) rfl rfl (hb hby d38_8)
  refine Dn.of st112 ?_
  show Dn p e below s _ _ _ (T112.setTop (mkF m 11 #[.val (.ref a), .val (.int j)] [(.ref sb)]))
  refine Dn.of (fun tt_ zz_ => XS.iloadN X112.here hx rfl (hb hby d38_11) rfl zz_) ?_
  show Dn p e below s _ _ _ (T112.setTop (mkF m 12 #[.val (.ref a), .val (.int j)] [(.int j), (.ref sb)]))
  obtain ⟨v113, T113, L113, Q113, X113, st113⟩ := cSt X112 hx hZ (y := (⟨"java/lang/StringLatin1", "charAt", "([BI)C"⟩ : MethodName)) hown (hg 184 rfl) (hg 185 rfl) (hg 116 rfl) (hg 186 rfl) (by decide) (argsL := [(.ref sb), (.int j)]) (rest := []) (rmCA l Z a0 hw h0 n0 Z0 sb k1 n j c xs D1 fv rf SF O0 hj hc hx1) e112  0 (by decide) (by decide) (by decide) (by decide) (g := (mkF m 12 #[.val (.ref a), .val (.int j)] [(.int j), (.ref sb)])) rfl (by rw [hml]; rfl) (lenOf pd13 rfl) rfl (by show 2 * 0 + _ ≤ _; exact Nat.le_of_eq rfl) (hb hby d38_12)
  obtain ⟨rfl, M2, e113⟩ := Q113
  refine Dn.of st113 ?_
  show Dn p e below s _ _ _ (T113.setTop (mkF m 15 #[.val (.ref a), .val (.int j)] [(.int c)]))
  exact Dn.retN X113 hx hlk (t := .char) hret (by simp) (hb hby d38_15) (by decide) (by decide) (⟨by rw [own_nc hc], Fr.app (Fr.app N0 M1) M2, e113⟩)
theorem ef37_AAII (m : MethodId) (x0 : Addr) (x1 : Addr) (x2 : Int32) (x3 : Int32) : entryFrame m #[(.ref x0), (.ref x1), (.int x2), (.int x3)] 4 = mkF m 0 #[.val (.ref x0), .val (.ref x1), .val (.int x2), .val (.int x3)] [] := by first | (simp [entryFrame, mkF, argsToLocals, Value.category]; done) | rfl
set_option maxRecDepth 65536 in
set_option maxHeartbeats 40000000 in
theorem rmSa (l : Launch) (Z : State) (a0 : Array Value) (hw : ∀ d ∈ tables_1, d.before a0 Z = true) (h0 : Heap) (n0 : Nat) (Z0 : n0 ≤ h0.size) (a sb : Addr) (n : Int32) (xs : List Int32) (S1 : own_Str Z h0 a sb n xs) (cz : Int32) (hcz : ¬ cz = 0) (SZ : Sta Z Z.heap "java/lang/String" "COMPACT_STRINGS" "Z" (.int cz)) (O0 : Old Z n0 h0) (ca : Addr) (p_ k : Int32) (hk : ¬ k < n) :
    ctr l Z (⟨"com/example/vellum/vellum/types/DvUriFragmentIdPinLaw", "same", "(Ljava/lang/String;[CII)Z"⟩ : MethodName) method_5_code 4 (some .boolean) [] ({ frames := 2, cells := 0, slots := 0, locals := 36 } : Room) 0 0 #[(.ref a), (.ref ca), (.int p_), (.int k)] h0 (fun v h L => v = some (.int (1 : Int32)) ∧ Fr n0 L ∧ h = h0) := by
  refine ctr_of (plainFor_of_name pn0) ?_
  intro p e s m below meth jc s₁ hx hby hml hret hlk hnm hown hZ e0 X0
  have N0 := Fr.nil n0
  have hg : ∀ (i : Nat) {d : Jvm.Cond}, tables_1[i]? = some d → d.before a0 Z = true := fun i d q => hw d (List.mem_of_getElem? q)
  refine Dn.cast (ef37_AAII m a ca p_ k) ?_
  show Dn p e below s _ _ _ (s₁.setTop (mkF m 0 #[.val (.ref a), .val (.ref ca), .val (.int p_), .val (.int k)] []))
  refine Dn.of (fun tt_ zz_ => XS.iloadN X0.here hx rfl (hb hby d37_0) rfl zz_) ?_
  refine Dn.of (fun tt_ zz_ => XS.aloadN X0.here hx rfl (hb hby d37_1) rfl rfl zz_) ?_
  show Dn p e below s _ _ _ (s₁.setTop (mkF m 2 #[.val (.ref a), .val (.ref ca), .val (.int p_), .val (.int k)] [(.ref a), (.int k)]))
  obtain ⟨v114, T114, L114, Q114, X114, st114⟩ := cVi X0 hx hZ (C := "java/lang/String") (y := (⟨"java/lang/String", "length", "()I"⟩ : MethodName)) (z := (⟨"java/lang/String", "length", "()I"⟩ : MethodName)) hown (hg 135 rfl) (hg 105 rfl) (notFace_of_selects (args := #[]) (mvT hZ (hg 107 rfl))) (hg 107 rfl) (hg 106 rfl) (hg 7 rfl) (hg 108 rfl) (by decide) (a := a) (argsL := []) (rest := [(.int k)]) (rmLn l Z a0 hw h0 n0 Z0 a sb n xs S1 cz hcz SZ O0) e0 (own_exa S1) 1 (by decide) (by decide) (by decide) (by decide) (g := (mkF m 2 #[.val (.ref a), .val (.ref ca), .val (.int p_), .val (.int k)] [(.ref a), (.int k)])) rfl (by rw [hml]; rfl) (lenOf pd9 rfl) rfl (by show 2 * 0 + _ ≤ _; exact Nat.le_of_eq rfl) (hb hby d37_2)
  obtain ⟨rfl, M1, e114⟩ := Q114
  refine Dn.of st114 ?_
  show Dn p e below s _ _ _ (T114.setTop (mkF m 5 #[.val (.ref a), .val (.ref ca), .val (.int p_), .val (.int k)] [(.int n), (.int k)]))
  refine Dn.of (fun tt_ zz_ => XS.icmpNo X114.here hx rfl (hb hby d37_5) rfl (flt hk).1 zz_) ?_
  show Dn p e below s _ _ _ (T114.setTop (mkF m 8 #[.val (.ref a), .val (.ref ca), .val (.int p_), .val (.int k)] []))
  refine Dn.of (fun tt_ zz_ => XS.iconst X114.here hx rfl (hb hby d37_8) zz_) ?_
  show Dn p e below s _ _ _ (T114.setTop (mkF m 9 #[.val (.ref a), .val (.ref ca), .val (.int p_), .val (.int k)] [(.int (1 : Int32))]))
  exact Dn.retN X114 hx hlk (t := .boolean) hret (by simp) (hb hby d37_9) (by decide) (by decide) (⟨rfl, Fr.app N0 M1, e114⟩)
set_option maxRecDepth 65536 in
set_option maxHeartbeats 40000000 in
theorem rmSb (l : Launch) (Z : State) (a0 : Array Value) (hw : ∀ d ∈ tables_1, d.before a0 Z = true) (h0 : Heap) (n0 : Nat) (Z0 : n0 ≤ h0.size) (a sb : Addr) (n : Int32) (xs : List Int32) (S1 : own_Str Z h0 a sb n xs) (cz : Int32) (hcz : ¬ cz = 0) (SZ : Sta Z Z.heap "java/lang/String" "COMPACT_STRINGS" "Z" (.int cz)) (O0 : Old Z n0 h0) (ca : Addr) (p_ k : Int32) (fv : Value) (rf : fv.isRef = true) (SF : Sta Z Z.heap "jdk/internal/util/Preconditions" "SIOOBE_FORMATTER" "Ljava/util/function/BiFunction;" fv) (kc : ClassId) (hs : List (Int32 × Value)) (c : Int32) (hk : ¬ k < 0 ∧ k < n) (hc : own_C c) (hx1 : (own_vs xs).getD k.toNatClampNeg (.int 0) = .int (own_B c)) (RC : Arh Z h0 ca kc .char 4 hs [] (.int 0)) (hp : ¬ ((p_ + 1) + k) < 0 ∧ ((p_ + 1) + k) < 4) (hx2 : getH hs [] (.int 0) ((p_ + 1) + k).toNatClampNeg = .int c) :
    ctr l Z (⟨"com/example/vellum/vellum/types/DvUriFragmentIdPinLaw", "same", "(Ljava/lang/String;[CII)Z"⟩ : MethodName) method_5_code 4 (some .boolean) [] ({ frames := 4, cells := 0, slots := 0, locals := 72 } : Room) 0 0 #[(.ref a), (.ref ca), (.int p_), (.int k)] h0 (fun v h L => v = some (.int (1 : Int32)) ∧ Fr n0 L ∧ h = h0) := by
  refine ctr_of (plainFor_of_name pn0) ?_
  intro p e s m below meth jc s₁ hx hby hml hret hlk hnm hown hZ e0 X0
  have N0 := Fr.nil n0
  have hg : ∀ (i : Nat) {d : Jvm.Cond}, tables_1[i]? = some d → d.before a0 Z = true := fun i d q => hw d (List.mem_of_getElem? q)
  refine Dn.cast (ef37_AAII m a ca p_ k) ?_
  show Dn p e below s _ _ _ (s₁.setTop (mkF m 0 #[.val (.ref a), .val (.ref ca), .val (.int p_), .val (.int k)] []))
  refine Dn.of (fun tt_ zz_ => XS.iloadN X0.here hx rfl (hb hby d37_0) rfl zz_) ?_
  refine Dn.of (fun tt_ zz_ => XS.aloadN X0.here hx rfl (hb hby d37_1) rfl rfl zz_) ?_
  show Dn p e below s _ _ _ (s₁.setTop (mkF m 2 #[.val (.ref a), .val (.ref ca), .val (.int p_), .val (.int k)] [(.ref a), (.int k)]))
  obtain ⟨v115, T115, L115, Q115, X115, st115⟩ := cVi X0 hx hZ (C := "java/lang/String") (y := (⟨"java/lang/String", "length", "()I"⟩ : MethodName)) (z := (⟨"java/lang/String", "length", "()I"⟩ : MethodName)) hown (hg 135 rfl) (hg 105 rfl) (notFace_of_selects (args := #[]) (mvT hZ (hg 107 rfl))) (hg 107 rfl) (hg 106 rfl) (hg 7 rfl) (hg 108 rfl) (by decide) (a := a) (argsL := []) (rest := [(.int k)]) (rmLn l Z a0 hw h0 n0 Z0 a sb n xs S1 cz hcz SZ O0) e0 (own_exa S1) 1 (by decide) (by decide) (by decide) (by decide) (g := (mkF m 2 #[.val (.ref a), .val (.ref ca), .val (.int p_), .val (.int k)] [(.ref a), (.int k)])) rfl (by rw [hml]; rfl) (lenOf pd9 rfl) rfl (by show 2 * 0 + _ ≤ _; exact Nat.le_of_eq rfl) (hb hby d37_2)
  obtain ⟨rfl, M1, e115⟩ := Q115
  refine Dn.of st115 ?_
  show Dn p e below s _ _ _ (T115.setTop (mkF m 5 #[.val (.ref a), .val (.ref ca), .val (.int p_), .val (.int k)] [(.int n), (.int k)]))
  refine Dn.of (fun tt_ zz_ => XS.icmpYes X115.here hx rfl (pc0 := 5) (pc' := 10) rfl (hb hby d37_5) rfl (tlt hk.2).1 (by decide) (by decide) zz_) ?_
  show Dn p e below s _ _ _ (T115.setTop (mkF m 10 #[.val (.ref a), .val (.ref ca), .val (.int p_), .val (.int k)] []))
  refine Dn.of (fun tt_ zz_ => XS.aloadN X115.here hx rfl (hb hby d37_10) rfl rfl zz_) ?_
  refine Dn.of (fun tt_ zz_ => XS.iloadN X115.here hx rfl (hb hby d37_11) rfl zz_) ?_
  show Dn p e below s _ _ _ (T115.setTop (mkF m 12 #[.val (.ref a), .val (.ref ca), .val (.int p_), .val (.int k)] [(.int k), (.ref a)]))
  obtain ⟨v116, T116, L116, Q116, X116, st116⟩ := cVi X115 hx hZ (C := "java/lang/String") (y := (⟨"java/lang/String", "charAt", "(I)C"⟩ : MethodName)) (z := (⟨"java/lang/String", "charAt", "(I)C"⟩ : MethodName)) hown (hg 179 rfl) (hg 180 rfl) (notFace_of_selects (args := #[]) (mvT hZ (hg 182 rfl))) (hg 182 rfl) (hg 181 rfl) (hg 7 rfl) (hg 183 rfl) (by decide) (a := a) (argsL := [(.int k)]) (rest := []) (rmCh l Z a0 hw h0 n0 Z0 a sb n xs S1 cz hcz SZ O0 fv rf SF k c hk hc hx1) e115 (own_exa S1) 0 (by decide) (by decide) (by decide) (by decide) (g := (mkF m 12 #[.val (.ref a), .val (.ref ca), .val (.int p_), .val (.int k)] [(.int k), (.ref a)])) rfl (by rw [hml]; rfl) (lenOf pd14 rfl) rfl (by show 2 * 0 + _ ≤ _; exact Nat.le_of_eq rfl) (hb hby d37_12)
  obtain ⟨rfl, M2, e116⟩ := Q116
  refine Dn.of st116 ?_
  show Dn p e below s _ _ _ (T116.setTop (mkF m 15 #[.val (.ref a), .val (.ref ca), .val (.int p_), .val (.int k)] [(.int c)]))
  refine Dn.of (fun tt_ zz_ => XS.aloadN X116.here hx rfl (hb hby d37_15) rfl rfl zz_) ?_
  refine Dn.of (fun tt_ zz_ => XS.iloadN X116.here hx rfl (hb hby d37_16) rfl zz_) ?_
  refine Dn.of (fun tt_ zz_ => XS.iconst X116.here hx rfl (hb hby d37_17) zz_) ?_
  refine Dn.of (fun tt_ zz_ => XS.iadd X116.here hx rfl (hb hby d37_18) rfl zz_) ?_
  show Dn p e below s _ _ _ (T116.setTop (mkF m 19 #[.val (.ref a), .val (.ref ca), .val (.int p_), .val (.int k)] [(.int (p_ + (1 : Int32))), (.ref ca), (.int c)]))
  refine Dn.of (fun tt_ zz_ => XS.iloadN X116.here hx rfl (hb hby d37_19) rfl zz_) ?_
  refine Dn.of (fun tt_ zz_ => XS.iadd X116.here hx rfl (hb hby d37_20) rfl zz_) ?_
  show Dn p e below s _ _ _ (T116.setTop (mkF m 21 #[.val (.ref a), .val (.ref ca), .val (.int p_), .val (.int k)] [(.int ((p_ + (1 : Int32)) + k)), (.ref ca), (.int c)]))
  have Rr117 := RC
  obtain ⟨d117, B_117, _, Sd117, _, Hd117, _⟩ := Rr117
  refine Dn.of (fun tt_ zz_ => X116.caload hx (j := ((p_ + (1 : Int32)) + k)) (v := (.int c)) (by rw [e116]; exact B_117.1) (State.isArrayOf_alike hZ.alike B_117.2.1) B_117.2.2 (inb_of Sd117 hp) (atH Hd117 (inb_of Sd117 hp) hx2) (g := (mkF m 21 #[.val (.ref a), .val (.ref ca), .val (.int p_), .val (.int k)] [(.int ((p_ + (1 : Int32)) + k)), (.ref ca), (.int c)])) rfl rfl (hb hby d37_21) tt_ zz_) ?_
  show Dn p e below s _ _ _ (T116.setTop (mkF m 22 #[.val (.ref a), .val (.ref ca), .val (.int p_), .val (.int k)] [(.int c), (.int c)]))
  refine Dn.of (fun tt_ zz_ => XS.icmpNo X116.here hx rfl (hb hby d37_22) rfl (teq rfl).2 zz_) ?_
  show Dn p e below s _ _ _ (T116.setTop (mkF m 25 #[.val (.ref a), .val (.ref ca), .val (.int p_), .val (.int k)] []))
  refine Dn.of (fun tt_ zz_ => XS.iconst X116.here hx rfl (hb hby d37_25) zz_) ?_
  refine Dn.of (fun tt_ zz_ => XS.goto X116.here hx rfl (pc0 := 26) (pc' := 30) rfl (hb hby d37_26) (by decide) (by decide) zz_) ?_
  show Dn p e below s _ _ _ (T116.setTop (mkF m 30 #[.val (.ref a), .val (.ref ca), .val (.int p_), .val (.int k)] [(.int (1 : Int32))]))
  exact Dn.retN X116 hx hlk (t := .boolean) hret (by simp) (hb hby d37_30) (by decide) (by decide) (⟨rfl, Fr.app (Fr.app N0 M1) M2, e116⟩)
def own_fh (n c0 c1 c2 c3 : Int32) : Int32 := if c0 = 35 then 0 else if 1 < n ∧ c1 = 35 then 1 else if 2 < n ∧ c2 = 35 then 2 else if 3 < n ∧ c3 = 35 then 3 else -1
theorem ef27_AI (m : MethodId) (x0 : Addr) (x1 : Int32) : entryFrame m #[(.ref x0), (.int x1)] 2 = mkF m 0 #[.val (.ref x0), .val (.int x1)] [] := by first | (simp [entryFrame, mkF, argsToLocals, Value.category]; done) | rfl
set_option maxRecDepth 65536 in
set_option maxHeartbeats 40000000 in
theorem rmFH1 (l : Launch) (Z : State) (a0 : Array Value) (hw : ∀ d ∈ tables_1, d.before a0 Z = true) (h0 : Heap) (n0 : Nat) (Z0 : n0 ≤ h0.size) (ca : Addr) (kc : ClassId) (c0 c1 c2 c3 : Int32) (RC : Arh Z h0 ca kc .char 4 [((3 : Int32), .int c3), ((2 : Int32), .int c2), ((1 : Int32), .int c1), ((0 : Int32), .int c0)] [] (.int 0)) :
    ctr l Z (⟨"com/example/vellum/vellum/types/DvUriFragmentIdPinLaw", "firstHash", "([CI)I"⟩ : MethodName) method_4_code 2 (some .int) [] ({ frames := 0, cells := 0, slots := 0, locals := 0 } : Room) 0 0 #[(.ref ca), (.int (1 : Int32))] h0 (fun v h L => v = some (.int (own_fh (1 : Int32) c0 c1 c2 c3)) ∧ Fr n0 L ∧ h = h0) := by
  refine ctr_of (plainFor_of_name pn0) ?_
  intro p e s m below meth jc s₁ hx hby hml hret hlk hnm hown hZ e0 X0
  have N0 := Fr.nil n0
  have hg : ∀ (i : Nat) {d : Jvm.Cond}, tables_1[i]? = some d → d.before a0 Z = true := fun i d q => hw d (List.mem_of_getElem? q)
  refine Dn.cast (ef27_AI m ca (1 : Int32)) ?_
  show Dn p e below s _ _ _ (s₁.setTop (mkF m 0 #[.val (.ref ca), .val (.int (1 : Int32))] []))
  refine Dn.of (fun tt_ zz_ => XS.aloadN X0.here hx rfl (hb hby d27_0) rfl rfl zz_) ?_
  refine Dn.of (fun tt_ zz_ => XS.iconst X0.here hx rfl (hb hby d27_1) zz_) ?_
  show Dn p e below s _ _ _ (s₁.setTop (mkF m 2 #[.val (.ref ca), .val (.int (1 : Int32))] [(.int (0 : Int32)), (.ref ca)]))
  have Rr118 := RC
  obtain ⟨d118, B_118, _, Sd118, _, Hd118, _⟩ := Rr118
  refine Dn.of (fun tt_ zz_ => X0.caload hx (j := (0 : Int32)) (v := (.int c0)) (by rw [e0]; exact B_118.1) (State.isArrayOf_alike hZ.alike B_118.2.1) B_118.2.2 (inb_of Sd118 (by decide)) (atH Hd118 (inb_of Sd118 (by decide)) rfl) (g := (mkF m 2 #[.val (.ref ca), .val (.int (1 : Int32))] [(.int (0 : Int32)), (.ref ca)])) rfl rfl (hb hby d27_2) tt_ zz_) ?_
  show Dn p e below s _ _ _ (s₁.setTop (mkF m 3 #[.val (.ref ca), .val (.int (1 : Int32))] [(.int c0)]))
  refine Dn.of (fun tt_ zz_ => XS.bipush X0.here hx rfl (hb hby d27_3) zz_) ?_
  show Dn p e below s _ _ _ (s₁.setTop (mkF m 5 #[.val (.ref ca), .val (.int (1 : Int32))] [(.int (35 : Int32)), (.int c0)]))
  by_cases q0 : c0 = (35 : Int32)
  · skip
    refine Dn.of (fun tt_ zz_ => XS.icmpNo X0.here hx rfl (hb hby d27_5) rfl (teq q0).2 zz_) ?_
    show Dn p e below s _ _ _ (s₁.setTop (mkF m 8 #[.val (.ref ca), .val (.int (1 : Int32))] []))
    refine Dn.of (fun tt_ zz_ => XS.iconst X0.here hx rfl (hb hby d27_8) zz_) ?_
    show Dn p e below s _ _ _ (s₁.setTop (mkF m 9 #[.val (.ref ca), .val (.int (1 : Int32))] [(.int (0 : Int32))]))
    exact Dn.retI X0 hx hlk hret (hb hby d27_9) (by decide) (by decide) (⟨by unfold own_fh; rw [if_pos q0], N0, e0⟩)
  · skip
    refine Dn.of (fun tt_ zz_ => XS.icmpYes X0.here hx rfl (pc0 := 5) (pc' := 10) rfl (hb hby d27_5) rfl (feq q0).2 (by decide) (by decide) zz_) ?_
    show Dn p e below s _ _ _ (s₁.setTop (mkF m 10 #[.val (.ref ca), .val (.int (1 : Int32))] []))
    refine Dn.of (fun tt_ zz_ => XS.iloadN X0.here hx rfl (hb hby d27_10) rfl zz_) ?_
    refine Dn.of (fun tt_ zz_ => XS.iconst X0.here hx rfl (hb hby d27_11) zz_) ?_
    show Dn p e below s _ _ _ (s₁.setTop (mkF m 12 #[.val (.ref ca), .val (.int (1 : Int32))] [(.int (1 : Int32)), (.int (1 : Int32))]))
    refine Dn.of (fun tt_ zz_ => XS.icmpYes X0.here hx rfl (pc0 := 12) (pc' := 25) rfl (hb hby d27_12) rfl (flt (by decide)).2.2.2 (by decide) (by decide) zz_) ?_
    show Dn p e below s _ _ _ (s₁.setTop (mkF m 25 #[.val (.ref ca), .val (.int (1 : Int32))] []))
    refine Dn.of (fun tt_ zz_ => XS.iloadN X0.here hx rfl (hb hby d27_25) rfl zz_) ?_
    refine Dn.of (fun tt_ zz_ => XS.iconst X0.here hx rfl (hb hby d27_26) zz_) ?_
    show Dn p e below s _ _ _ (s₁.setTop (mkF m 27 #[.val (.ref ca), .val (.int (1 : Int32))] [(.int (2 : Int32)), (.int (1 : Int32))]))
    refine Dn.of (fun tt_ zz_ => XS.icmpYes X0.here hx rfl (pc0 := 27) (pc' := 40) rfl (hb hby d27_27) rfl (flt (by decide)).2.2.2 (by decide) (by decide) zz_) ?_
    show Dn p e below s _ _ _ (s₁.setTop (mkF m 40 #[.val (.ref ca), .val (.int (1 : Int32))] []))
    refine Dn.of (fun tt_ zz_ => XS.iloadN X0.here hx rfl (hb hby d27_40) rfl zz_) ?_
    refine Dn.of (fun tt_ zz_ => XS.iconst X0.here hx rfl (hb hby d27_41) zz_) ?_
    show Dn p e below s _ _ _ (s₁.setTop (mkF m 42 #[.val (.ref ca), .val (.int (1 : Int32))] [(.int (3 : Int32)), (.int (1 : Int32))]))
    refine Dn.of (fun tt_ zz_ => XS.icmpYes X0.here hx rfl (pc0 := 42) (pc' := 55) rfl (hb hby d27_42) rfl (flt (by decide)).2.2.2 (by decide) (by decide) zz_) ?_
    show Dn p e below s _ _ _ (s₁.setTop (mkF m 55 #[.val (.ref ca), .val (.int (1 : Int32))] []))
    refine Dn.of (fun tt_ zz_ => XS.iconst X0.here hx rfl (hb hby d27_55) zz_) ?_
    show Dn p e below s _ _ _ (s₁.setTop (mkF m 56 #[.val (.ref ca), .val (.int (1 : Int32))] [(.int (-1 : Int32))]))
    exact Dn.retI X0 hx hlk hret (hb hby d27_56) (by decide) (by decide) (⟨by unfold own_fh; rw [if_neg q0, if_neg (fun y => absurd y.1 (by decide)), if_neg (fun y => absurd y.1 (by decide)), if_neg (fun y => absurd y.1 (by decide))], N0, e0⟩)
set_option maxRecDepth 65536 in
set_option maxHeartbeats 40000000 in
theorem rmFH2 (l : Launch) (Z : State) (a0 : Array Value) (hw : ∀ d ∈ tables_1, d.before a0 Z = true) (h0 : Heap) (n0 : Nat) (Z0 : n0 ≤ h0.size) (ca : Addr) (kc : ClassId) (c0 c1 c2 c3 : Int32) (RC : Arh Z h0 ca kc .char 4 [((3 : Int32), .int c3), ((2 : Int32), .int c2), ((1 : Int32), .int c1), ((0 : Int32), .int c0)] [] (.int 0)) :
    ctr l Z (⟨"com/example/vellum/vellum/types/DvUriFragmentIdPinLaw", "firstHash", "([CI)I"⟩ : MethodName) method_4_code 2 (some .int) [] ({ frames := 0, cells := 0, slots := 0, locals := 0 } : Room) 0 0 #[(.ref ca), (.int (2 : Int32))] h0 (fun v h L => v = some (.int (own_fh (2 : Int32) c0 c1 c2 c3)) ∧ Fr n0 L ∧ h = h0) := by
  refine ctr_of (plainFor_of_name pn0) ?_
  intro p e s m below meth jc s₁ hx hby hml hret hlk hnm hown hZ e0 X0
  have N0 := Fr.nil n0
  have hg : ∀ (i : Nat) {d : Jvm.Cond}, tables_1[i]? = some d → d.before a0 Z = true := fun i d q => hw d (List.mem_of_getElem? q)
  refine Dn.cast (ef27_AI m ca (2 : Int32)) ?_
  show Dn p e below s _ _ _ (s₁.setTop (mkF m 0 #[.val (.ref ca), .val (.int (2 : Int32))] []))
  refine Dn.of (fun tt_ zz_ => XS.aloadN X0.here hx rfl (hb hby d27_0) rfl rfl zz_) ?_
  refine Dn.of (fun tt_ zz_ => XS.iconst X0.here hx rfl (hb hby d27_1) zz_) ?_
  show Dn p e below s _ _ _ (s₁.setTop (mkF m 2 #[.val (.ref ca), .val (.int (2 : Int32))] [(.int (0 : Int32)), (.ref ca)]))
  have Rr119 := RC
  obtain ⟨d119, B_119, _, Sd119, _, Hd119, _⟩ := Rr119
  refine Dn.of (fun tt_ zz_ => X0.caload hx (j := (0 : Int32)) (v := (.int c0)) (by rw [e0]; exact B_119.1) (State.isArrayOf_alike hZ.alike B_119.2.1) B_119.2.2 (inb_of Sd119 (by decide)) (atH Hd119 (inb_of Sd119 (by decide)) rfl) (g := (mkF m 2 #[.val (.ref ca), .val (.int (2 : Int32))] [(.int (0 : Int32)), (.ref ca)])) rfl rfl (hb hby d27_2) tt_ zz_) ?_
  show Dn p e below s _ _ _ (s₁.setTop (mkF m 3 #[.val (.ref ca), .val (.int (2 : Int32))] [(.int c0)]))
  refine Dn.of (fun tt_ zz_ => XS.bipush X0.here hx rfl (hb hby d27_3) zz_) ?_
  show Dn p e below s _ _ _ (s₁.setTop (mkF m 5 #[.val (.ref ca), .val (.int (2 : Int32))] [(.int (35 : Int32)), (.int c0)]))
  by_cases q0 : c0 = (35 : Int32)
  · skip
    refine Dn.of (fun tt_ zz_ => XS.icmpNo X0.here hx rfl (hb hby d27_5) rfl (teq q0).2 zz_) ?_
    show Dn p e below s _ _ _ (s₁.setTop (mkF m 8 #[.val (.ref ca), .val (.int (2 : Int32))] []))
    refine Dn.of (fun tt_ zz_ => XS.iconst X0.here hx rfl (hb hby d27_8) zz_) ?_
    show Dn p e below s _ _ _ (s₁.setTop (mkF m 9 #[.val (.ref ca), .val (.int (2 : Int32))] [(.int (0 : Int32))]))
    exact Dn.retI X0 hx hlk hret (hb hby d27_9) (by decide) (by decide) (⟨by unfold own_fh; rw [if_pos q0], N0, e0⟩)
  · skip
    refine Dn.of (fun tt_ zz_ => XS.icmpYes X0.here hx rfl (pc0 := 5) (pc' := 10) rfl (hb hby d27_5) rfl (feq q0).2 (by decide) (by decide) zz_) ?_
    show Dn p e below s _ _ _ (s₁.setTop (mkF m 10 #[.val (.ref ca), .val (.int (2 : Int32))] []))
    refine Dn.of (fun tt_ zz_ => XS.iloadN X0.here hx rfl (hb hby d27_10) rfl zz_) ?_
    refine Dn.of (fun tt_ zz_ => XS.iconst X0.here hx rfl (hb hby d27_11) zz_) ?_
    show Dn p e below s _ _ _ (s₁.setTop (mkF m 12 #[.val (.ref ca), .val (.int (2 : Int32))] [(.int (1 : Int32)), (.int (2 : Int32))]))
    refine Dn.of (fun tt_ zz_ => XS.icmpNo X0.here hx rfl (hb hby d27_12) rfl (tlt (by decide)).2.2.2 zz_) ?_
    show Dn p e below s _ _ _ (s₁.setTop (mkF m 15 #[.val (.ref ca), .val (.int (2 : Int32))] []))
    refine Dn.of (fun tt_ zz_ => XS.aloadN X0.here hx rfl (hb hby d27_15) rfl rfl zz_) ?_
    refine Dn.of (fun tt_ zz_ => XS.iconst X0.here hx rfl (hb hby d27_16) zz_) ?_
    show Dn p e below s _ _ _ (s₁.setTop (mkF m 17 #[.val (.ref ca), .val (.int (2 : Int32))] [(.int (1 : Int32)), (.ref ca)]))
    have Rr120 := RC
    obtain ⟨d120, B_120, _, Sd120, _, Hd120, _⟩ := Rr120
    refine Dn.of (fun tt_ zz_ => X0.caload hx (j := (1 : Int32)) (v := (.int c1)) (by rw [e0]; exact B_120.1) (State.isArrayOf_alike hZ.alike B_120.2.1) B_120.2.2 (inb_of Sd120 (by decide)) (atH Hd120 (inb_of Sd120 (by decide)) rfl) (g := (mkF m 17 #[.val (.ref ca), .val (.int (2 : Int32))] [(.int (1 : Int32)), (.ref ca)])) rfl rfl (hb hby d27_17) tt_ zz_) ?_
    show Dn p e below s _ _ _ (s₁.setTop (mkF m 18 #[.val (.ref ca), .val (.int (2 : Int32))] [(.int c1)]))
    refine Dn.of (fun tt_ zz_ => XS.bipush X0.here hx rfl (hb hby d27_18) zz_) ?_
    show Dn p e below s _ _ _ (s₁.setTop (mkF m 20 #[.val (.ref ca), .val (.int (2 : Int32))] [(.int (35 : Int32)), (.int c1)]))
    by_cases q1 : c1 = (35 : Int32)
    · skip
      refine Dn.of (fun tt_ zz_ => XS.icmpNo X0.here hx rfl (hb hby d27_20) rfl (teq q1).2 zz_) ?_
      show Dn p e below s _ _ _ (s₁.setTop (mkF m 23 #[.val (.ref ca), .val (.int (2 : Int32))] []))
      refine Dn.of (fun tt_ zz_ => XS.iconst X0.here hx rfl (hb hby d27_23) zz_) ?_
      show Dn p e below s _ _ _ (s₁.setTop (mkF m 24 #[.val (.ref ca), .val (.int (2 : Int32))] [(.int (1 : Int32))]))
      exact Dn.retI X0 hx hlk hret (hb hby d27_24) (by decide) (by decide) (⟨by unfold own_fh; rw [if_neg q0, if_pos ⟨by decide, q1⟩], N0, e0⟩)
    · skip
      refine Dn.of (fun tt_ zz_ => XS.icmpYes X0.here hx rfl (pc0 := 20) (pc' := 25) rfl (hb hby d27_20) rfl (feq q1).2 (by decide) (by decide) zz_) ?_
      show Dn p e below s _ _ _ (s₁.setTop (mkF m 25 #[.val (.ref ca), .val (.int (2 : Int32))] []))
      refine Dn.of (fun tt_ zz_ => XS.iloadN X0.here hx rfl (hb hby d27_25) rfl zz_) ?_
      refine Dn.of (fun tt_ zz_ => XS.iconst X0.here hx rfl (hb hby d27_26) zz_) ?_
      show Dn p e below s _ _ _ (s₁.setTop (mkF m 27 #[.val (.ref ca), .val (.int (2 : Int32))] [(.int (2 : Int32)), (.int (2 : Int32))]))
      refine Dn.of (fun tt_ zz_ => XS.icmpYes X0.here hx rfl (pc0 := 27) (pc' := 40) rfl (hb hby d27_27) rfl (flt (by decide)).2.2.2 (by decide) (by decide) zz_) ?_
      show Dn p e below s _ _ _ (s₁.setTop (mkF m 40 #[.val (.ref ca), .val (.int (2 : Int32))] []))
      refine Dn.of (fun tt_ zz_ => XS.iloadN X0.here hx rfl (hb hby d27_40) rfl zz_) ?_
      refine Dn.of (fun tt_ zz_ => XS.iconst X0.here hx rfl (hb hby d27_41) zz_) ?_
      show Dn p e below s _ _ _ (s₁.setTop (mkF m 42 #[.val (.ref ca), .val (.int (2 : Int32))] [(.int (3 : Int32)), (.int (2 : Int32))]))
      refine Dn.of (fun tt_ zz_ => XS.icmpYes X0.here hx rfl (pc0 := 42) (pc' := 55) rfl (hb hby d27_42) rfl (flt (by decide)).2.2.2 (by decide) (by decide) zz_) ?_
      show Dn p e below s _ _ _ (s₁.setTop (mkF m 55 #[.val (.ref ca), .val (.int (2 : Int32))] []))
      refine Dn.of (fun tt_ zz_ => XS.iconst X0.here hx rfl (hb hby d27_55) zz_) ?_
      show Dn p e below s _ _ _ (s₁.setTop (mkF m 56 #[.val (.ref ca), .val (.int (2 : Int32))] [(.int (-1 : Int32))]))
      exact Dn.retI X0 hx hlk hret (hb hby d27_56) (by decide) (by decide) (⟨by unfold own_fh; rw [if_neg q0, if_neg (fun y => q1 y.2), if_neg (fun y => absurd y.1 (by decide)), if_neg (fun y => absurd y.1 (by decide))], N0, e0⟩)
set_option maxRecDepth 65536 in
set_option maxHeartbeats 40000000 in
theorem rmFH3 (l : Launch) (Z : State) (a0 : Array Value) (hw : ∀ d ∈ tables_1, d.before a0 Z = true) (h0 : Heap) (n0 : Nat) (Z0 : n0 ≤ h0.size) (ca : Addr) (kc : ClassId) (c0 c1 c2 c3 : Int32) (RC : Arh Z h0 ca kc .char 4 [((3 : Int32), .int c3), ((2 : Int32), .int c2), ((1 : Int32), .int c1), ((0 : Int32), .int c0)] [] (.int 0)) :
    ctr l Z (⟨"com/example/vellum/vellum/types/DvUriFragmentIdPinLaw", "firstHash", "([CI)I"⟩ : MethodName) method_4_code 2 (some .int) [] ({ frames := 0, cells := 0, slots := 0, locals := 0 } : Room) 0 0 #[(.ref ca), (.int (3 : Int32))] h0 (fun v h L => v = some (.int (own_fh (3 : Int32) c0 c1 c2 c3)) ∧ Fr n0 L ∧ h = h0) := by
  refine ctr_of (plainFor_of_name pn0) ?_
  intro p e s m below meth jc s₁ hx hby hml hret hlk hnm hown hZ e0 X0
  have N0 := Fr.nil n0
  have hg : ∀ (i : Nat) {d : Jvm.Cond}, tables_1[i]? = some d → d.before a0 Z = true := fun i d q => hw d (List.mem_of_getElem? q)
  refine Dn.cast (ef27_AI m ca (3 : Int32)) ?_
  show Dn p e below s _ _ _ (s₁.setTop (mkF m 0 #[.val (.ref ca), .val (.int (3 : Int32))] []))
  refine Dn.of (fun tt_ zz_ => XS.aloadN X0.here hx rfl (hb hby d27_0) rfl rfl zz_) ?_
  refine Dn.of (fun tt_ zz_ => XS.iconst X0.here hx rfl (hb hby d27_1) zz_) ?_
  show Dn p e below s _ _ _ (s₁.setTop (mkF m 2 #[.val (.ref ca), .val (.int (3 : Int32))] [(.int (0 : Int32)), (.ref ca)]))
  have Rr121 := RC
  obtain ⟨d121, B_121, _, Sd121, _, Hd121, _⟩ := Rr121
  refine Dn.of (fun tt_ zz_ => X0.caload hx (j := (0 : Int32)) (v := (.int c0)) (by rw [e0]; exact B_121.1) (State.isArrayOf_alike hZ.alike B_121.2.1) B_121.2.2 (inb_of Sd121 (by decide)) (atH Hd121 (inb_of Sd121 (by decide)) rfl) (g := (mkF m 2 #[.val (.ref ca), .val (.int (3 : Int32))] [(.int (0 : Int32)), (.ref ca)])) rfl rfl (hb hby d27_2) tt_ zz_) ?_
  show Dn p e below s _ _ _ (s₁.setTop (mkF m 3 #[.val (.ref ca), .val (.int (3 : Int32))] [(.int c0)]))
  refine Dn.of (fun tt_ zz_ => XS.bipush X0.here hx rfl (hb hby d27_3) zz_) ?_
  show Dn p e below s _ _ _ (s₁.setTop (mkF m 5 #[.val (.ref ca), .val (.int (3 : Int32))] [(.int (35 : Int32)), (.int c0)]))
  by_cases q0 : c0 = (35 : Int32)
  · skip
    refine Dn.of (fun tt_ zz_ => XS.icmpNo X0.here hx rfl (hb hby d27_5) rfl (teq q0).2 zz_) ?_
    show Dn p e below s _ _ _ (s₁.setTop (mkF m 8 #[.val (.ref ca), .val (.int (3 : Int32))] []))
    refine Dn.of (fun tt_ zz_ => XS.iconst X0.here hx rfl (hb hby d27_8) zz_) ?_
    show Dn p e below s _ _ _ (s₁.setTop (mkF m 9 #[.val (.ref ca), .val (.int (3 : Int32))] [(.int (0 : Int32))]))
    exact Dn.retI X0 hx hlk hret (hb hby d27_9) (by decide) (by decide) (⟨by unfold own_fh; rw [if_pos q0], N0, e0⟩)
  · skip
    refine Dn.of (fun tt_ zz_ => XS.icmpYes X0.here hx rfl (pc0 := 5) (pc' := 10) rfl (hb hby d27_5) rfl (feq q0).2 (by decide) (by decide) zz_) ?_
    show Dn p e below s _ _ _ (s₁.setTop (mkF m 10 #[.val (.ref ca), .val (.int (3 : Int32))] []))
    refine Dn.of (fun tt_ zz_ => XS.iloadN X0.here hx rfl (hb hby d27_10) rfl zz_) ?_
    refine Dn.of (fun tt_ zz_ => XS.iconst X0.here hx rfl (hb hby d27_11) zz_) ?_
    show Dn p e below s _ _ _ (s₁.setTop (mkF m 12 #[.val (.ref ca), .val (.int (3 : Int32))] [(.int (1 : Int32)), (.int (3 : Int32))]))
    refine Dn.of (fun tt_ zz_ => XS.icmpNo X0.here hx rfl (hb hby d27_12) rfl (tlt (by decide)).2.2.2 zz_) ?_
    show Dn p e below s _ _ _ (s₁.setTop (mkF m 15 #[.val (.ref ca), .val (.int (3 : Int32))] []))
    refine Dn.of (fun tt_ zz_ => XS.aloadN X0.here hx rfl (hb hby d27_15) rfl rfl zz_) ?_
    refine Dn.of (fun tt_ zz_ => XS.iconst X0.here hx rfl (hb hby d27_16) zz_) ?_
    show Dn p e below s _ _ _ (s₁.setTop (mkF m 17 #[.val (.ref ca), .val (.int (3 : Int32))] [(.int (1 : Int32)), (.ref ca)]))
    have Rr122 := RC
    obtain ⟨d122, B_122, _, Sd122, _, Hd122, _⟩ := Rr122
    refine Dn.of (fun tt_ zz_ => X0.caload hx (j := (1 : Int32)) (v := (.int c1)) (by rw [e0]; exact B_122.1) (State.isArrayOf_alike hZ.alike B_122.2.1) B_122.2.2 (inb_of Sd122 (by decide)) (atH Hd122 (inb_of Sd122 (by decide)) rfl) (g := (mkF m 17 #[.val (.ref ca), .val (.int (3 : Int32))] [(.int (1 : Int32)), (.ref ca)])) rfl rfl (hb hby d27_17) tt_ zz_) ?_
    show Dn p e below s _ _ _ (s₁.setTop (mkF m 18 #[.val (.ref ca), .val (.int (3 : Int32))] [(.int c1)]))
    refine Dn.of (fun tt_ zz_ => XS.bipush X0.here hx rfl (hb hby d27_18) zz_) ?_
    show Dn p e below s _ _ _ (s₁.setTop (mkF m 20 #[.val (.ref ca), .val (.int (3 : Int32))] [(.int (35 : Int32)), (.int c1)]))
    by_cases q1 : c1 = (35 : Int32)
    · skip
      refine Dn.of (fun tt_ zz_ => XS.icmpNo X0.here hx rfl (hb hby d27_20) rfl (teq q1).2 zz_) ?_
      show Dn p e below s _ _ _ (s₁.setTop (mkF m 23 #[.val (.ref ca), .val (.int (3 : Int32))] []))
      refine Dn.of (fun tt_ zz_ => XS.iconst X0.here hx rfl (hb hby d27_23) zz_) ?_
      show Dn p e below s _ _ _ (s₁.setTop (mkF m 24 #[.val (.ref ca), .val (.int (3 : Int32))] [(.int (1 : Int32))]))
      exact Dn.retI X0 hx hlk hret (hb hby d27_24) (by decide) (by decide) (⟨by unfold own_fh; rw [if_neg q0, if_pos ⟨by decide, q1⟩], N0, e0⟩)
    · skip
      refine Dn.of (fun tt_ zz_ => XS.icmpYes X0.here hx rfl (pc0 := 20) (pc' := 25) rfl (hb hby d27_20) rfl (feq q1).2 (by decide) (by decide) zz_) ?_
      show Dn p e below s _ _ _ (s₁.setTop (mkF m 25 #[.val (.ref ca), .val (.int (3 : Int32))] []))
      refine Dn.of (fun tt_ zz_ => XS.iloadN X0.here hx rfl (hb hby d27_25) rfl zz_) ?_
      refine Dn.of (fun tt_ zz_ => XS.iconst X0.here hx rfl (hb hby d27_26) zz_) ?_
      show Dn p e below s _ _ _ (s₁.setTop (mkF m 27 #[.val (.ref ca), .val (.int (3 : Int32))] [(.int (2 : Int32)), (.int (3 : Int32))]))
      refine Dn.of (fun tt_ zz_ => XS.icmpNo X0.here hx rfl (hb hby d27_27) rfl (tlt (by decide)).2.2.2 zz_) ?_
      show Dn p e below s _ _ _ (s₁.setTop (mkF m 30 #[.val (.ref ca), .val (.int (3 : Int32))] []))
      refine Dn.of (fun tt_ zz_ => XS.aloadN X0.here hx rfl (hb hby d27_30) rfl rfl zz_) ?_
      refine Dn.of (fun tt_ zz_ => XS.iconst X0.here hx rfl (hb hby d27_31) zz_) ?_
      show Dn p e below s _ _ _ (s₁.setTop (mkF m 32 #[.val (.ref ca), .val (.int (3 : Int32))] [(.int (2 : Int32)), (.ref ca)]))
      have Rr123 := RC
      obtain ⟨d123, B_123, _, Sd123, _, Hd123, _⟩ := Rr123
      refine Dn.of (fun tt_ zz_ => X0.caload hx (j := (2 : Int32)) (v := (.int c2)) (by rw [e0]; exact B_123.1) (State.isArrayOf_alike hZ.alike B_123.2.1) B_123.2.2 (inb_of Sd123 (by decide)) (atH Hd123 (inb_of Sd123 (by decide)) rfl) (g := (mkF m 32 #[.val (.ref ca), .val (.int (3 : Int32))] [(.int (2 : Int32)), (.ref ca)])) rfl rfl (hb hby d27_32) tt_ zz_) ?_
      show Dn p e below s _ _ _ (s₁.setTop (mkF m 33 #[.val (.ref ca), .val (.int (3 : Int32))] [(.int c2)]))
      refine Dn.of (fun tt_ zz_ => XS.bipush X0.here hx rfl (hb hby d27_33) zz_) ?_
      show Dn p e below s _ _ _ (s₁.setTop (mkF m 35 #[.val (.ref ca), .val (.int (3 : Int32))] [(.int (35 : Int32)), (.int c2)]))
      by_cases q2 : c2 = (35 : Int32)
      · skip
        refine Dn.of (fun tt_ zz_ => XS.icmpNo X0.here hx rfl (hb hby d27_35) rfl (teq q2).2 zz_) ?_
        show Dn p e below s _ _ _ (s₁.setTop (mkF m 38 #[.val (.ref ca), .val (.int (3 : Int32))] []))
        refine Dn.of (fun tt_ zz_ => XS.iconst X0.here hx rfl (hb hby d27_38) zz_) ?_
        show Dn p e below s _ _ _ (s₁.setTop (mkF m 39 #[.val (.ref ca), .val (.int (3 : Int32))] [(.int (2 : Int32))]))
        exact Dn.retI X0 hx hlk hret (hb hby d27_39) (by decide) (by decide) (⟨by unfold own_fh; rw [if_neg q0, if_neg (fun y => q1 y.2), if_pos ⟨by decide, q2⟩], N0, e0⟩)
      · skip
        refine Dn.of (fun tt_ zz_ => XS.icmpYes X0.here hx rfl (pc0 := 35) (pc' := 40) rfl (hb hby d27_35) rfl (feq q2).2 (by decide) (by decide) zz_) ?_
        show Dn p e below s _ _ _ (s₁.setTop (mkF m 40 #[.val (.ref ca), .val (.int (3 : Int32))] []))
        refine Dn.of (fun tt_ zz_ => XS.iloadN X0.here hx rfl (hb hby d27_40) rfl zz_) ?_
        refine Dn.of (fun tt_ zz_ => XS.iconst X0.here hx rfl (hb hby d27_41) zz_) ?_
        show Dn p e below s _ _ _ (s₁.setTop (mkF m 42 #[.val (.ref ca), .val (.int (3 : Int32))] [(.int (3 : Int32)), (.int (3 : Int32))]))
        refine Dn.of (fun tt_ zz_ => XS.icmpYes X0.here hx rfl (pc0 := 42) (pc' := 55) rfl (hb hby d27_42) rfl (flt (by decide)).2.2.2 (by decide) (by decide) zz_) ?_
        show Dn p e below s _ _ _ (s₁.setTop (mkF m 55 #[.val (.ref ca), .val (.int (3 : Int32))] []))
        refine Dn.of (fun tt_ zz_ => XS.iconst X0.here hx rfl (hb hby d27_55) zz_) ?_
        show Dn p e below s _ _ _ (s₁.setTop (mkF m 56 #[.val (.ref ca), .val (.int (3 : Int32))] [(.int (-1 : Int32))]))
        exact Dn.retI X0 hx hlk hret (hb hby d27_56) (by decide) (by decide) (⟨by unfold own_fh; rw [if_neg q0, if_neg (fun y => q1 y.2), if_neg (fun y => q2 y.2), if_neg (fun y => absurd y.1 (by decide))], N0, e0⟩)
set_option maxRecDepth 65536 in
set_option maxHeartbeats 40000000 in
theorem rmFH4 (l : Launch) (Z : State) (a0 : Array Value) (hw : ∀ d ∈ tables_1, d.before a0 Z = true) (h0 : Heap) (n0 : Nat) (Z0 : n0 ≤ h0.size) (ca : Addr) (kc : ClassId) (c0 c1 c2 c3 : Int32) (RC : Arh Z h0 ca kc .char 4 [((3 : Int32), .int c3), ((2 : Int32), .int c2), ((1 : Int32), .int c1), ((0 : Int32), .int c0)] [] (.int 0)) :
    ctr l Z (⟨"com/example/vellum/vellum/types/DvUriFragmentIdPinLaw", "firstHash", "([CI)I"⟩ : MethodName) method_4_code 2 (some .int) [] ({ frames := 0, cells := 0, slots := 0, locals := 0 } : Room) 0 0 #[(.ref ca), (.int (4 : Int32))] h0 (fun v h L => v = some (.int (own_fh (4 : Int32) c0 c1 c2 c3)) ∧ Fr n0 L ∧ h = h0) := by
  refine ctr_of (plainFor_of_name pn0) ?_
  intro p e s m below meth jc s₁ hx hby hml hret hlk hnm hown hZ e0 X0
  have N0 := Fr.nil n0
  have hg : ∀ (i : Nat) {d : Jvm.Cond}, tables_1[i]? = some d → d.before a0 Z = true := fun i d q => hw d (List.mem_of_getElem? q)
  refine Dn.cast (ef27_AI m ca (4 : Int32)) ?_
  show Dn p e below s _ _ _ (s₁.setTop (mkF m 0 #[.val (.ref ca), .val (.int (4 : Int32))] []))
  refine Dn.of (fun tt_ zz_ => XS.aloadN X0.here hx rfl (hb hby d27_0) rfl rfl zz_) ?_
  refine Dn.of (fun tt_ zz_ => XS.iconst X0.here hx rfl (hb hby d27_1) zz_) ?_
  show Dn p e below s _ _ _ (s₁.setTop (mkF m 2 #[.val (.ref ca), .val (.int (4 : Int32))] [(.int (0 : Int32)), (.ref ca)]))
  have Rr124 := RC
  obtain ⟨d124, B_124, _, Sd124, _, Hd124, _⟩ := Rr124
  refine Dn.of (fun tt_ zz_ => X0.caload hx (j := (0 : Int32)) (v := (.int c0)) (by rw [e0]; exact B_124.1) (State.isArrayOf_alike hZ.alike B_124.2.1) B_124.2.2 (inb_of Sd124 (by decide)) (atH Hd124 (inb_of Sd124 (by decide)) rfl) (g := (mkF m 2 #[.val (.ref ca), .val (.int (4 : Int32))] [(.int (0 : Int32)), (.ref ca)])) rfl rfl (hb hby d27_2) tt_ zz_) ?_
  show Dn p e below s _ _ _ (s₁.setTop (mkF m 3 #[.val (.ref ca), .val (.int (4 : Int32))] [(.int c0)]))
  refine Dn.of (fun tt_ zz_ => XS.bipush X0.here hx rfl (hb hby d27_3) zz_) ?_
  show Dn p e below s _ _ _ (s₁.setTop (mkF m 5 #[.val (.ref ca), .val (.int (4 : Int32))] [(.int (35 : Int32)), (.int c0)]))
  by_cases q0 : c0 = (35 : Int32)
  · skip
    refine Dn.of (fun tt_ zz_ => XS.icmpNo X0.here hx rfl (hb hby d27_5) rfl (teq q0).2 zz_) ?_
    show Dn p e below s _ _ _ (s₁.setTop (mkF m 8 #[.val (.ref ca), .val (.int (4 : Int32))] []))
    refine Dn.of (fun tt_ zz_ => XS.iconst X0.here hx rfl (hb hby d27_8) zz_) ?_
    show Dn p e below s _ _ _ (s₁.setTop (mkF m 9 #[.val (.ref ca), .val (.int (4 : Int32))] [(.int (0 : Int32))]))
    exact Dn.retI X0 hx hlk hret (hb hby d27_9) (by decide) (by decide) (⟨by unfold own_fh; rw [if_pos q0], N0, e0⟩)
  · skip
    refine Dn.of (fun tt_ zz_ => XS.icmpYes X0.here hx rfl (pc0 := 5) (pc' := 10) rfl (hb hby d27_5) rfl (feq q0).2 (by decide) (by decide) zz_) ?_
    show Dn p e below s _ _ _ (s₁.setTop (mkF m 10 #[.val (.ref ca), .val (.int (4 : Int32))] []))
    refine Dn.of (fun tt_ zz_ => XS.iloadN X0.here hx rfl (hb hby d27_10) rfl zz_) ?_
    refine Dn.of (fun tt_ zz_ => XS.iconst X0.here hx rfl (hb hby d27_11) zz_) ?_
    show Dn p e below s _ _ _ (s₁.setTop (mkF m 12 #[.val (.ref ca), .val (.int (4 : Int32))] [(.int (1 : Int32)), (.int (4 : Int32))]))
    refine Dn.of (fun tt_ zz_ => XS.icmpNo X0.here hx rfl (hb hby d27_12) rfl (tlt (by decide)).2.2.2 zz_) ?_
    show Dn p e below s _ _ _ (s₁.setTop (mkF m 15 #[.val (.ref ca), .val (.int (4 : Int32))] []))
    refine Dn.of (fun tt_ zz_ => XS.aloadN X0.here hx rfl (hb hby d27_15) rfl rfl zz_) ?_
    refine Dn.of (fun tt_ zz_ => XS.iconst X0.here hx rfl (hb hby d27_16) zz_) ?_
    show Dn p e below s _ _ _ (s₁.setTop (mkF m 17 #[.val (.ref ca), .val (.int (4 : Int32))] [(.int (1 : Int32)), (.ref ca)]))
    have Rr125 := RC
    obtain ⟨d125, B_125, _, Sd125, _, Hd125, _⟩ := Rr125
    refine Dn.of (fun tt_ zz_ => X0.caload hx (j := (1 : Int32)) (v := (.int c1)) (by rw [e0]; exact B_125.1) (State.isArrayOf_alike hZ.alike B_125.2.1) B_125.2.2 (inb_of Sd125 (by decide)) (atH Hd125 (inb_of Sd125 (by decide)) rfl) (g := (mkF m 17 #[.val (.ref ca), .val (.int (4 : Int32))] [(.int (1 : Int32)), (.ref ca)])) rfl rfl (hb hby d27_17) tt_ zz_) ?_
    show Dn p e below s _ _ _ (s₁.setTop (mkF m 18 #[.val (.ref ca), .val (.int (4 : Int32))] [(.int c1)]))
    refine Dn.of (fun tt_ zz_ => XS.bipush X0.here hx rfl (hb hby d27_18) zz_) ?_
    show Dn p e below s _ _ _ (s₁.setTop (mkF m 20 #[.val (.ref ca), .val (.int (4 : Int32))] [(.int (35 : Int32)), (.int c1)]))
    by_cases q1 : c1 = (35 : Int32)
    · skip
      refine Dn.of (fun tt_ zz_ => XS.icmpNo X0.here hx rfl (hb hby d27_20) rfl (teq q1).2 zz_) ?_
      show Dn p e below s _ _ _ (s₁.setTop (mkF m 23 #[.val (.ref ca), .val (.int (4 : Int32))] []))
      refine Dn.of (fun tt_ zz_ => XS.iconst X0.here hx rfl (hb hby d27_23) zz_) ?_
      show Dn p e below s _ _ _ (s₁.setTop (mkF m 24 #[.val (.ref ca), .val (.int (4 : Int32))] [(.int (1 : Int32))]))
      exact Dn.retI X0 hx hlk hret (hb hby d27_24) (by decide) (by decide) (⟨by unfold own_fh; rw [if_neg q0, if_pos ⟨by decide, q1⟩], N0, e0⟩)
    · skip
      refine Dn.of (fun tt_ zz_ => XS.icmpYes X0.here hx rfl (pc0 := 20) (pc' := 25) rfl (hb hby d27_20) rfl (feq q1).2 (by decide) (by decide) zz_) ?_
      show Dn p e below s _ _ _ (s₁.setTop (mkF m 25 #[.val (.ref ca), .val (.int (4 : Int32))] []))
      refine Dn.of (fun tt_ zz_ => XS.iloadN X0.here hx rfl (hb hby d27_25) rfl zz_) ?_
      refine Dn.of (fun tt_ zz_ => XS.iconst X0.here hx rfl (hb hby d27_26) zz_) ?_
      show Dn p e below s _ _ _ (s₁.setTop (mkF m 27 #[.val (.ref ca), .val (.int (4 : Int32))] [(.int (2 : Int32)), (.int (4 : Int32))]))
      refine Dn.of (fun tt_ zz_ => XS.icmpNo X0.here hx rfl (hb hby d27_27) rfl (tlt (by decide)).2.2.2 zz_) ?_
      show Dn p e below s _ _ _ (s₁.setTop (mkF m 30 #[.val (.ref ca), .val (.int (4 : Int32))] []))
      refine Dn.of (fun tt_ zz_ => XS.aloadN X0.here hx rfl (hb hby d27_30) rfl rfl zz_) ?_
      refine Dn.of (fun tt_ zz_ => XS.iconst X0.here hx rfl (hb hby d27_31) zz_) ?_
      show Dn p e below s _ _ _ (s₁.setTop (mkF m 32 #[.val (.ref ca), .val (.int (4 : Int32))] [(.int (2 : Int32)), (.ref ca)]))
      have Rr126 := RC
      obtain ⟨d126, B_126, _, Sd126, _, Hd126, _⟩ := Rr126
      refine Dn.of (fun tt_ zz_ => X0.caload hx (j := (2 : Int32)) (v := (.int c2)) (by rw [e0]; exact B_126.1) (State.isArrayOf_alike hZ.alike B_126.2.1) B_126.2.2 (inb_of Sd126 (by decide)) (atH Hd126 (inb_of Sd126 (by decide)) rfl) (g := (mkF m 32 #[.val (.ref ca), .val (.int (4 : Int32))] [(.int (2 : Int32)), (.ref ca)])) rfl rfl (hb hby d27_32) tt_ zz_) ?_
      show Dn p e below s _ _ _ (s₁.setTop (mkF m 33 #[.val (.ref ca), .val (.int (4 : Int32))] [(.int c2)]))
      refine Dn.of (fun tt_ zz_ => XS.bipush X0.here hx rfl (hb hby d27_33) zz_) ?_
      show Dn p e below s _ _ _ (s₁.setTop (mkF m 35 #[.val (.ref ca), .val (.int (4 : Int32))] [(.int (35 : Int32)), (.int c2)]))
      by_cases q2 : c2 = (35 : Int32)
      · skip
        refine Dn.of (fun tt_ zz_ => XS.icmpNo X0.here hx rfl (hb hby d27_35) rfl (teq q2).2 zz_) ?_
        show Dn p e below s _ _ _ (s₁.setTop (mkF m 38 #[.val (.ref ca), .val (.int (4 : Int32))] []))
        refine Dn.of (fun tt_ zz_ => XS.iconst X0.here hx rfl (hb hby d27_38) zz_) ?_
        show Dn p e below s _ _ _ (s₁.setTop (mkF m 39 #[.val (.ref ca), .val (.int (4 : Int32))] [(.int (2 : Int32))]))
        exact Dn.retI X0 hx hlk hret (hb hby d27_39) (by decide) (by decide) (⟨by unfold own_fh; rw [if_neg q0, if_neg (fun y => q1 y.2), if_pos ⟨by decide, q2⟩], N0, e0⟩)
      · skip
        refine Dn.of (fun tt_ zz_ => XS.icmpYes X0.here hx rfl (pc0 := 35) (pc' := 40) rfl (hb hby d27_35) rfl (feq q2).2 (by decide) (by decide) zz_) ?_
        show Dn p e below s _ _ _ (s₁.setTop (mkF m 40 #[.val (.ref ca), .val (.int (4 : Int32))] []))
        refine Dn.of (fun tt_ zz_ => XS.iloadN X0.here hx rfl (hb hby d27_40) rfl zz_) ?_
        refine Dn.of (fun tt_ zz_ => XS.iconst X0.here hx rfl (hb hby d27_41) zz_) ?_
        show Dn p e below s _ _ _ (s₁.setTop (mkF m 42 #[.val (.ref ca), .val (.int (4 : Int32))] [(.int (3 : Int32)), (.int (4 : Int32))]))
        refine Dn.of (fun tt_ zz_ => XS.icmpNo X0.here hx rfl (hb hby d27_42) rfl (tlt (by decide)).2.2.2 zz_) ?_
        show Dn p e below s _ _ _ (s₁.setTop (mkF m 45 #[.val (.ref ca), .val (.int (4 : Int32))] []))
        refine Dn.of (fun tt_ zz_ => XS.aloadN X0.here hx rfl (hb hby d27_45) rfl rfl zz_) ?_
        refine Dn.of (fun tt_ zz_ => XS.iconst X0.here hx rfl (hb hby d27_46) zz_) ?_
        show Dn p e below s _ _ _ (s₁.setTop (mkF m 47 #[.val (.ref ca), .val (.int (4 : Int32))] [(.int (3 : Int32)), (.ref ca)]))
        have Rr127 := RC
        obtain ⟨d127, B_127, _, Sd127, _, Hd127, _⟩ := Rr127
        refine Dn.of (fun tt_ zz_ => X0.caload hx (j := (3 : Int32)) (v := (.int c3)) (by rw [e0]; exact B_127.1) (State.isArrayOf_alike hZ.alike B_127.2.1) B_127.2.2 (inb_of Sd127 (by decide)) (atH Hd127 (inb_of Sd127 (by decide)) rfl) (g := (mkF m 47 #[.val (.ref ca), .val (.int (4 : Int32))] [(.int (3 : Int32)), (.ref ca)])) rfl rfl (hb hby d27_47) tt_ zz_) ?_
        show Dn p e below s _ _ _ (s₁.setTop (mkF m 48 #[.val (.ref ca), .val (.int (4 : Int32))] [(.int c3)]))
        refine Dn.of (fun tt_ zz_ => XS.bipush X0.here hx rfl (hb hby d27_48) zz_) ?_
        show Dn p e below s _ _ _ (s₁.setTop (mkF m 50 #[.val (.ref ca), .val (.int (4 : Int32))] [(.int (35 : Int32)), (.int c3)]))
        by_cases q3 : c3 = (35 : Int32)
        · skip
          refine Dn.of (fun tt_ zz_ => XS.icmpNo X0.here hx rfl (hb hby d27_50) rfl (teq q3).2 zz_) ?_
          show Dn p e below s _ _ _ (s₁.setTop (mkF m 53 #[.val (.ref ca), .val (.int (4 : Int32))] []))
          refine Dn.of (fun tt_ zz_ => XS.iconst X0.here hx rfl (hb hby d27_53) zz_) ?_
          show Dn p e below s _ _ _ (s₁.setTop (mkF m 54 #[.val (.ref ca), .val (.int (4 : Int32))] [(.int (3 : Int32))]))
          exact Dn.retI X0 hx hlk hret (hb hby d27_54) (by decide) (by decide) (⟨by unfold own_fh; rw [if_neg q0, if_neg (fun y => q1 y.2), if_neg (fun y => q2 y.2), if_pos ⟨by decide, q3⟩], N0, e0⟩)
        · skip
          refine Dn.of (fun tt_ zz_ => XS.icmpYes X0.here hx rfl (pc0 := 50) (pc' := 55) rfl (hb hby d27_50) rfl (feq q3).2 (by decide) (by decide) zz_) ?_
          show Dn p e below s _ _ _ (s₁.setTop (mkF m 55 #[.val (.ref ca), .val (.int (4 : Int32))] []))
          refine Dn.of (fun tt_ zz_ => XS.iconst X0.here hx rfl (hb hby d27_55) zz_) ?_
          show Dn p e below s _ _ _ (s₁.setTop (mkF m 56 #[.val (.ref ca), .val (.int (4 : Int32))] [(.int (-1 : Int32))]))
          exact Dn.retI X0 hx hlk hret (hb hby d27_56) (by decide) (by decide) (⟨by unfold own_fh; rw [if_neg q0, if_neg (fun y => q1 y.2), if_neg (fun y => q2 y.2), if_neg (fun y => q3 y.2)], N0, e0⟩)
theorem ef34_AII (m : MethodId) (x0 : Addr) (x1 : Int32) (x2 : Int32) : entryFrame m #[(.ref x0), (.int x1), (.int x2)] 5 = mkF m 0 #[.val (.ref x0), .val (.int x1), .val (.int x2), .unset, .unset] [] := by first | (simp [entryFrame, mkF, argsToLocals, Value.category]; done) | rfl
set_option maxRecDepth 65536 in
set_option maxHeartbeats 40000000 in
theorem rmRB (l : Launch) (Z : State) (a0 : Array Value) (hw : ∀ d ∈ tables_1, d.before a0 Z = true) (h0 : Heap) (n0 : Nat) (Z0 : n0 ≤ h0.size) (sb : Addr) (kb : ClassId) (n f d : Int32) (xs ys : List Int32) (D1 : Arv Z h0 sb kb .byte n (own_vs xs) (.int 0)) (C : own_Cut xs ys f n d) :
    ctr l Z (⟨"java/util/Arrays", "copyOfRangeByte", "([BII)[B"⟩ : MethodName) jdk_65_method_133_code 5 (some (.array .byte)) [] ({ frames := 1, cells := 1, slots := 8, locals := 70 } : Room) 1 8 #[(.ref sb), (.int f), (.int n)] h0 (fun v h L => ∃ bb kk, v = some (.ref bb) ∧ n0 ≤ bb ∧ h0.size ≤ bb ∧ Fr n0 L ∧ Ext h0 h ∧ Arv Z h bb kk .byte d (own_vs ys) (.int 0)) := by
  refine ctr_of (by decide +kernel) ?_
  intro p e s m below meth jc s₁ hx hby hml hret hlk hnm hown hZ e0 X0
  have N0 := Fr.nil n0
  have hg : ∀ (i : Nat) {d : Jvm.Cond}, tables_1[i]? = some d → d.before a0 Z = true := fun i d q => hw d (List.mem_of_getElem? q)
  refine Dn.cast (ef34_AII m sb f n) ?_
  show Dn p e below s _ _ _ (s₁.setTop (mkF m 0 #[.val (.ref sb), .val (.int f), .val (.int n), .unset, .unset] []))
  obtain ⟨q1, q2, q3, q4, q5, q6, q7, q8, q9⟩ := C
  refine Dn.of (fun tt_ zz_ => XS.iloadN X0.here hx rfl (hb hby d34_0) rfl zz_) ?_
  refine Dn.of (fun tt_ zz_ => XS.iloadN X0.here hx rfl (hb hby d34_1) rfl zz_) ?_
  show Dn p e below s _ _ _ (s₁.setTop (mkF m 2 #[.val (.ref sb), .val (.int f), .val (.int n), .unset, .unset] [(.int n), (.int f)]))
  obtain ⟨v128, T128, L128, Q128, X128, st128⟩ := cSt X0 hx hZ (y := (⟨"java/util/Arrays", "checkLength", "(II)V"⟩ : MethodName)) hown (hg 165 rfl) (hg 166 rfl) (hg 160 rfl) (hg 167 rfl) (by decide) (argsL := [(.int f), (.int n)]) (rest := []) (rmCk l Z a0 hw h0 n0 Z0 f n q1) e0  0 (by decide) (by decide) (by decide) (by decide) (g := (mkF m 2 #[.val (.ref sb), .val (.int f), .val (.int n), .unset, .unset] [(.int n), (.int f)])) rfl (by rw [hml]; rfl) (lenOf pd12 rfl) rfl (by show 2 * 0 + _ ≤ _; exact Nat.le_of_eq rfl) (hb hby d34_2)
  obtain ⟨rfl, M1, e128⟩ := Q128
  refine Dn.of st128 ?_
  show Dn p e below s _ _ _ (T128.setTop (mkF m 5 #[.val (.ref sb), .val (.int f), .val (.int n), .unset, .unset] []))
  refine Dn.of (fun tt_ zz_ => XS.iloadN X128.here hx rfl (hb hby d34_5) rfl zz_) ?_
  refine Dn.of (fun tt_ zz_ => XS.iloadN X128.here hx rfl (hb hby d34_6) rfl zz_) ?_
  refine Dn.of (fun tt_ zz_ => XS.isub X128.here hx rfl (hb hby d34_7) rfl zz_) ?_
  show Dn p e below s _ _ _ (T128.setTop (mkF m 8 #[.val (.ref sb), .val (.int f), .val (.int n), .unset, .unset] [(.int (n - f))]))
  rw [q2]
  show Dn p e below s _ _ _ (T128.setTop (mkF m 8 #[.val (.ref sb), .val (.int f), .val (.int n), .unset, .unset] [(.int d)]))
  refine Dn.of (fun tt_ zz_ => XS.istoreN X128.here hx rfl (hb hby d34_8) rfl (l' := #[.val (.ref sb), .val (.int f), .val (.int n), .val (.int d), .unset]) rfl zz_) ?_
  refine Dn.of (fun tt_ zz_ => XS.iloadN X128.here hx rfl (hb hby d34_9) rfl zz_) ?_
  show Dn p e below s _ _ _ (T128.setTop (mkF m 10 #[.val (.ref sb), .val (.int f), .val (.int n), .val (.int d), .unset] [(.int d)]))
  obtain ⟨T129, h129, k129, X129, e129, E129, A129, st129⟩ := newP X128 hx hZ (hg 23 rfl) e128 (g := (mkF m 10 #[.val (.ref sb), .val (.int f), .val (.int n), .val (.int d), .unset] [(.int d)])) rfl (hb hby d34_10) rfl q3 (cap := 4) q5 (by decide) (by decide) (by decide)
  obtain ⟨b129, g129⟩ : ∃ z, z = h0.size := ⟨_, rfl⟩
  rw [← g129] at A129 st129
  refine Dn.of st129 ?_
  show Dn p e below s _ _ _ (T129.setTop (mkF m 12 #[.val (.ref sb), .val (.int f), .val (.int n), .val (.int d), .unset] [(.ref b129)]))
  have gb : n0 ≤ b129 := g129 ▸ Z0
  have B0 : Arv Z h129 b129 k129 .byte d (List.replicate d.toNatClampNeg (.int 0)) (.int 0) := (Arv.new A129 q3).pad (fun i => by simp [List.getD_eq_getElem?_getD, List.getElem?_replicate]; split <;> rfl)
  refine Dn.of (fun tt_ zz_ => XS.astore X129.here hx rfl (hb hby d34_12) rfl rfl (l' := #[.val (.ref sb), .val (.int f), .val (.int n), .val (.int d), .val (.ref b129)]) rfl zz_) ?_
  refine Dn.of (fun tt_ zz_ => XS.aloadN X129.here hx rfl (hb hby d34_14) rfl rfl zz_) ?_
  refine Dn.of (fun tt_ zz_ => XS.iloadN X129.here hx rfl (hb hby d34_15) rfl zz_) ?_
  refine Dn.of (fun tt_ zz_ => XS.aload X129.here hx rfl (hb hby d34_16) rfl rfl zz_) ?_
  show Dn p e below s _ _ _ (T129.setTop (mkF m 18 #[.val (.ref sb), .val (.int f), .val (.int n), .val (.int d), .val (.ref b129)] [(.ref b129), (.int f), (.ref sb)]))
  refine Dn.of (fun tt_ zz_ => XS.iconst X129.here hx rfl (hb hby d34_18) zz_) ?_
  refine Dn.of (fun tt_ zz_ => XS.aloadN X129.here hx rfl (hb hby d34_19) rfl rfl zz_) ?_
  show Dn p e below s _ _ _ (T129.setTop (mkF m 20 #[.val (.ref sb), .val (.int f), .val (.int n), .val (.int d), .val (.ref b129)] [(.ref sb), (.int (0 : Int32)), (.ref b129), (.int f), (.ref sb)]))
  have Rl130 := D1.ext E129
  obtain ⟨d130, B_130, _, Sd130, Nd130, _, _⟩ := Rl130
  refine Dn.of (fun tt_ zz_ => X129.arraylength hx (by rw [e129]; exact B_130.1) (State.isArrayOf_alike hZ.alike B_130.2.1) (g := (mkF m 20 #[.val (.ref sb), .val (.int f), .val (.int n), .val (.int d), .val (.ref b129)] [(.ref sb), (.int (0 : Int32)), (.ref b129), (.int f), (.ref sb)])) rfl rfl (hb hby d34_20) tt_ zz_) ?_
  rw [Sd130, own_sz Nd130]
  show Dn p e below s _ _ _ (T129.setTop (mkF m 21 #[.val (.ref sb), .val (.int f), .val (.int n), .val (.int d), .val (.ref b129)] [(.int n), (.int (0 : Int32)), (.ref b129), (.int f), (.ref sb)]))
  refine Dn.of (fun tt_ zz_ => XS.iloadN X129.here hx rfl (hb hby d34_21) rfl zz_) ?_
  refine Dn.of (fun tt_ zz_ => XS.isub X129.here hx rfl (hb hby d34_22) rfl zz_) ?_
  refine Dn.of (fun tt_ zz_ => XS.iloadN X129.here hx rfl (hb hby d34_23) rfl zz_) ?_
  show Dn p e below s _ _ _ (T129.setTop (mkF m 24 #[.val (.ref sb), .val (.int f), .val (.int n), .val (.int d), .val (.ref b129)] [(.int d), (.int (n - f)), (.int (0 : Int32)), (.ref b129), (.int f), (.ref sb)]))
  rw [q2]
  show Dn p e below s _ _ _ (T129.setTop (mkF m 24 #[.val (.ref sb), .val (.int f), .val (.int n), .val (.int d), .val (.ref b129)] [(.int d), (.int d), (.int (0 : Int32)), (.ref b129), (.int f), (.ref sb)]))
  obtain ⟨v131, T131, L131, Q131, X131, st131⟩ := cSt X129 hx hZ (y := (⟨"java/lang/Math", "min", "(II)I"⟩ : MethodName)) hown (hg 168 rfl) (hg 126 rfl) (hg 123 rfl) (hg 127 rfl) (by decide) (argsL := [(.int d), (.int d)]) (rest := [(.int (0 : Int32)), (.ref b129), (.int f), (.ref sb)]) (rm_min l Z a0 hw h129 n0 (Nat.le_trans Z0 E129.1) d d) e129  4 (by decide) (by decide) (by decide) (by decide) (g := (mkF m 24 #[.val (.ref sb), .val (.int f), .val (.int n), .val (.int d), .val (.ref b129)] [(.int d), (.int d), (.int (0 : Int32)), (.ref b129), (.int f), (.ref sb)])) rfl (by rw [hml]; rfl) (lenOf pd6 rfl) rfl (by show 2 * 0 + _ ≤ _; exact Nat.le_of_eq rfl) (hb hby d34_24)
  rw [own_minS d] at Q131
  obtain ⟨rfl, M2, e131⟩ := Q131
  refine Dn.of st131 ?_
  show Dn p e below s _ _ _ (T131.setTop (mkF m 27 #[.val (.ref sb), .val (.int f), .val (.int n), .val (.int d), .val (.ref b129)] [(.int d), (.int (0 : Int32)), (.ref b129), (.int f), (.ref sb)]))
  obtain ⟨T132, h132, L132, X132, e132, N132, K132, B132, st132⟩ := cpA X131 hx hZ hown (hg 169 rfl) (hg 172 rfl) (hg 170 rfl) (hg 171 rfl) e131 (D1.ext E129) B0 (us := own_vs ys) (Or.inl ⟨rfl, rfl⟩) q7 (by decide) q3 q6 (by rw [show (0 : Int32).toNatClampNeg = 0 by decide, Nat.zero_add]; exact Nat.le_refl _) q9 (by rw [show (0 : Int32).toNatClampNeg = 0 by decide, Nat.zero_add, List.length_replicate]; exact Nat.le_refl _) (Fr.app (Fr.app N0 M1) M2) gb (g := (mkF m 27 #[.val (.ref sb), .val (.int f), .val (.int n), .val (.int d), .val (.ref b129)] [(.int d), (.int (0 : Int32)), (.ref b129), (.int f), (.ref sb)])) rfl (by rw [hml]; rfl) rfl (hb hby d34_27) (by decide) (W := 0) (by show 2 * 0 + _ ≤ _; exact Nat.le_of_eq rfl) (by decide)
  rw [show (0 : Int32).toNatClampNeg = 0 by decide, List.take_zero, List.nil_append, Nat.zero_add, List.drop_replicate, Nat.sub_self, List.replicate_zero, List.append_nil] at B132
  refine Dn.of st132 ?_
  show Dn p e below s _ _ _ (T132.setTop (mkF m 30 #[.val (.ref sb), .val (.int f), .val (.int n), .val (.int d), .val (.ref b129)] []))
  refine Dn.of (fun tt_ zz_ => XS.aload X132.here hx rfl (hb hby d34_30) rfl rfl zz_) ?_
  show Dn p e below s _ _ _ (T132.setTop (mkF m 32 #[.val (.ref sb), .val (.int f), .val (.int n), .val (.int d), .val (.ref b129)] [(.ref b129)]))
  exact Dn.retA X132 hx hlk hret rfl rfl (hb hby d34_32) (by decide) (by decide) (by rw [e132]; exact ⟨_, _, rfl, gb, Nat.le_of_eq g129.symm, N132, own_extK E129 K132 (Nat.le_of_eq g129.symm), B132⟩)
theorem ef33_AII (m : MethodId) (x0 : Addr) (x1 : Int32) (x2 : Int32) : entryFrame m #[(.ref x0), (.int x1), (.int x2)] 3 = mkF m 0 #[.val (.ref x0), .val (.int x1), .val (.int x2)] [] := by first | (simp [entryFrame, mkF, argsToLocals, Value.category]; done) | rfl
set_option maxRecDepth 65536 in
set_option maxHeartbeats 40000000 in
theorem rmCR (l : Launch) (Z : State) (a0 : Array Value) (hw : ∀ d ∈ tables_1, d.before a0 Z = true) (h0 : Heap) (n0 : Nat) (Z0 : n0 ≤ h0.size) (sb : Addr) (kb : ClassId) (n f d : Int32) (xs ys : List Int32) (D1 : Arv Z h0 sb kb .byte n (own_vs xs) (.int 0)) (C : own_Cut xs ys f n d) :
    ctr l Z (⟨"java/util/Arrays", "copyOfRange", "([BII)[B"⟩ : MethodName) jdk_65_method_132_code 3 (some (.array .byte)) [] ({ frames := 2, cells := 1, slots := 8, locals := 90 } : Room) 1 8 #[(.ref sb), (.int f), (.int n)] h0 (fun v h L => ∃ bb kk, v = some (.ref bb) ∧ n0 ≤ bb ∧ h0.size ≤ bb ∧ Fr n0 L ∧ Ext h0 h ∧ Arv Z h bb kk .byte d (own_vs ys) (.int 0)) := by
  refine ctr_of (by decide +kernel) ?_
  intro p e s m below meth jc s₁ hx hby hml hret hlk hnm hown hZ e0 X0
  have N0 := Fr.nil n0
  have hg : ∀ (i : Nat) {d : Jvm.Cond}, tables_1[i]? = some d → d.before a0 Z = true := fun i d q => hw d (List.mem_of_getElem? q)
  refine Dn.cast (ef33_AII m sb f n) ?_
  show Dn p e below s _ _ _ (s₁.setTop (mkF m 0 #[.val (.ref sb), .val (.int f), .val (.int n)] []))
  refine Dn.of (fun tt_ zz_ => XS.iloadN X0.here hx rfl (hb hby d33_0) rfl zz_) ?_
  show Dn p e below s _ _ _ (s₁.setTop (mkF m 1 #[.val (.ref sb), .val (.int f), .val (.int n)] [(.int f)]))
  refine Dn.of (fun tt_ zz_ => XS.ifYes X0.here hx rfl (pc0 := 1) (pc' := 10) rfl (hb hby d33_1) rfl ((if0 _ _).trans (feq C.2.2.2.1).2) (by decide) (by decide) zz_) ?_
  show Dn p e below s _ _ _ (s₁.setTop (mkF m 10 #[.val (.ref sb), .val (.int f), .val (.int n)] []))
  refine Dn.of (fun tt_ zz_ => XS.aloadN X0.here hx rfl (hb hby d33_10) rfl rfl zz_) ?_
  refine Dn.of (fun tt_ zz_ => XS.iloadN X0.here hx rfl (hb hby d33_11) rfl zz_) ?_
  refine Dn.of (fun tt_ zz_ => XS.iloadN X0.here hx rfl (hb hby d33_12) rfl zz_) ?_
  show Dn p e below s _ _ _ (s₁.setTop (mkF m 13 #[.val (.ref sb), .val (.int f), .val (.int n)] [(.int n), (.int f), (.ref sb)]))
  obtain ⟨v133, T133, L133, Q133, X133, st133⟩ := cSt X0 hx hZ (y := (⟨"java/util/Arrays", "copyOfRangeByte", "([BII)[B"⟩ : MethodName)) hown (hg 162 rfl) (hg 163 rfl) (hg 160 rfl) (hg 164 rfl) (by decide) (argsL := [(.ref sb), (.int f), (.int n)]) (rest := []) (rmRB l Z a0 hw h0 n0 Z0 sb kb n f d xs ys D1 C) e0  0 (by decide) (by decide) (by decide) (by decide) (g := (mkF m 13 #[.val (.ref sb), .val (.int f), .val (.int n)] [(.int n), (.int f), (.ref sb)])) rfl (by rw [hml]; rfl) (lenOf pd15 rfl) rfl (by show 2 * 0 + _ ≤ _; exact Nat.le_of_eq rfl) (hb hby d33_13)
  obtain ⟨bb, kk, rfl, r1, r2, r3, r⟩ := Q133
  refine Dn.of st133 ?_
  show Dn p e below s _ _ _ (T133.setTop (mkF m 16 #[.val (.ref sb), .val (.int f), .val (.int n)] [(.ref bb)]))
  exact Dn.retA X133 hx hlk hret rfl rfl (hb hby d33_16) (by decide) (by decide) (⟨bb, kk, rfl, r1, r2, Fr.app N0 r3, r⟩)
theorem ef36_AAI (m : MethodId) (x0 : Addr) (x1 : Addr) (x2 : Int32) : entryFrame m #[(.ref x0), (.ref x1), (.int x2)] 3 = mkF m 0 #[.val (.ref x0), .val (.ref x1), .val (.int x2)] [] := by first | (simp [entryFrame, mkF, argsToLocals, Value.category]; done) | rfl
set_option maxRecDepth 65536 in
set_option maxHeartbeats 40000000 in
theorem rmSB (l : Launch) (Z : State) (a0 : Array Value) (hw : ∀ d ∈ tables_1, d.before a0 Z = true) (h0 : Heap) (n0 : Nat) (Z0 : n0 ≤ h0.size) (a bb : Addr) (E0 : Exa Z h0 a "java/lang/String") (F1 : Fld Z h0 a "java/lang/String" "value" "[B" .null) (F2 : Fld Z h0 a "java/lang/String" "coder" "B" (.int (0 : Int32))) (g0 : n0 ≤ a) :
    ctr l Z (⟨"java/lang/String", "<init>", "([BB)V"⟩ : MethodName) jdk_42_method_151_code 3 none [] ({ frames := 1, cells := 0, slots := 0, locals := 12 } : Room) 0 0 #[(.ref a), (.ref bb), (.int (0 : Int32))] h0 (fun v h L => v = none ∧ Fr n0 L ∧ Keep h0 h [a] ∧ Fld Z h a "java/lang/String" "coder" "B" (.int 0) ∧ Fld Z h a "java/lang/String" "value" "[B" (.ref bb)) := by
  refine ctr_of (by decide +kernel) ?_
  intro p e s m below meth jc s₁ hx hby hml hret hlk hnm hown hZ e0 X0
  have N0 := Fr.nil n0
  have hg : ∀ (i : Nat) {d : Jvm.Cond}, tables_1[i]? = some d → d.before a0 Z = true := fun i d q => hw d (List.mem_of_getElem? q)
  refine Dn.cast (ef36_AAI m a bb (0 : Int32)) ?_
  show Dn p e below s _ _ _ (s₁.setTop (mkF m 0 #[.val (.ref a), .val (.ref bb), .val (.int (0 : Int32))] []))
  have s1 : Jvm.RoadKit.slotOf Z "java/lang/String" "value" "[B" ≠ Jvm.RoadKit.slotOf Z "java/lang/String" "coder" "B" := slot_ne (Or.inr (hg 33 rfl)) (Or.inr (hg 31 rfl)) (by decide) (t := (.array .byte)) (t' := .byte) (by decide) (by decide)
  have s2 : Jvm.RoadKit.slotOf Z "java/lang/String" "coder" "B" ≠ Jvm.RoadKit.slotOf Z "java/lang/String" "value" "[B" := slot_ne (Or.inr (hg 31 rfl)) (Or.inr (hg 33 rfl)) (by decide) (t := .byte) (t' := (.array .byte)) (by decide) (by decide)
  refine Dn.of (fun tt_ zz_ => XS.aloadN X0.here hx rfl (hb hby d36_0) rfl rfl zz_) ?_
  show Dn p e below s _ _ _ (s₁.setTop (mkF m 1 #[.val (.ref a), .val (.ref bb), .val (.int (0 : Int32))] [(.ref a)]))
  obtain ⟨T134, X134, e134, st134⟩ := initO X0 hx hZ hown (hg 15 rfl) (hg 16 rfl) (hg 17 rfl) e0 (g := (mkF m 1 #[.val (.ref a), .val (.ref bb), .val (.int (0 : Int32))] [(.ref a)])) rfl (by rw [hml]; rfl) rfl (hb hby d36_1) (by decide) (W := 0) (by show 2 * 0 + _ ≤ _; exact Nat.le_of_eq rfl) (by decide)
  refine Dn.of st134 ?_
  show Dn p e below s _ _ _ (T134.setTop (mkF m 4 #[.val (.ref a), .val (.ref bb), .val (.int (0 : Int32))] []))
  refine Dn.of (fun tt_ zz_ => XS.aloadN X134.here hx rfl (hb hby d36_4) rfl rfl zz_) ?_
  refine Dn.of (fun tt_ zz_ => XS.aloadN X134.here hx rfl (hb hby d36_5) rfl rfl zz_) ?_
  show Dn p e below s _ _ _ (T134.setTop (mkF m 6 #[.val (.ref a), .val (.ref bb), .val (.int (0 : Int32))] [(.ref bb), (.ref a)]))
  obtain ⟨T135, h135, X135, e135, W135, st135⟩ := putF X134 hx hZ hown (host := "") (Or.inl (hg 32 rfl)) Via.refl e134 F1 E0 (Or.inr ⟨(hg 33 rfl), rfl, hnm⟩) (hg 6 rfl) (ty := (.array .byte)) (by decide) rfl rfl (g := (mkF m 6 #[.val (.ref a), .val (.ref bb), .val (.int (0 : Int32))] [(.ref bb), (.ref a)])) rfl rfl (hb hby d36_6)
  refine Dn.of st135 ?_
  show Dn p e below s _ _ _ (T135.setTop (mkF m 9 #[.val (.ref a), .val (.ref bb), .val (.int (0 : Int32))] []))
  have N1 := Fr.snoc X135 N0 g0
  refine Dn.of (fun tt_ zz_ => XS.aloadN X135.here hx rfl (hb hby d36_9) rfl rfl zz_) ?_
  refine Dn.of (fun tt_ zz_ => XS.iloadN X135.here hx rfl (hb hby d36_10) rfl zz_) ?_
  show Dn p e below s _ _ _ (T135.setTop (mkF m 11 #[.val (.ref a), .val (.ref bb), .val (.int (0 : Int32))] [(.int (0 : Int32)), (.ref a)]))
  obtain ⟨T136, h136, X136, e136, W136, st136⟩ := putF X135 hx hZ hown (host := "") (Or.inl (hg 30 rfl)) Via.refl e135 (F2.other W135 (Or.inr s2)) (E0.wr W135) (Or.inr ⟨(hg 31 rfl), rfl, hnm⟩) (hg 6 rfl) (ty := .byte) (by decide) rfl rfl (g := (mkF m 11 #[.val (.ref a), .val (.ref bb), .val (.int (0 : Int32))] [(.int (0 : Int32)), (.ref a)])) rfl rfl (hb hby d36_11)
  refine Dn.of st136 ?_
  show Dn p e below s _ _ _ (T136.setTop (mkF m 14 #[.val (.ref a), .val (.ref bb), .val (.int (0 : Int32))] []))
  have N2 := Fr.snoc X136 N1 g0
  exact Dn.retV X136 hx hlk hret (hb hby d36_14) (by decide) (by decide) (by rw [e136]; exact ⟨rfl, N2, ((Keep.refl h0 [a]).wr W135 (Or.inl (List.mem_of_getElem? (i := 0) rfl))).wr W136 (Or.inl (List.mem_of_getElem? (i := 0) rfl)), (F2.other W135 (Or.inr s2)).same W136, (F1.same W135).other W136 (Or.inr s1)⟩)
theorem ef32_AII (m : MethodId) (x0 : Addr) (x1 : Int32) (x2 : Int32) : entryFrame m #[(.ref x0), (.int x1), (.int x2)] 3 = mkF m 0 #[.val (.ref x0), .val (.int x1), .val (.int x2)] [] := by first | (simp [entryFrame, mkF, argsToLocals, Value.category]; done) | rfl
set_option maxRecDepth 65536 in
set_option maxHeartbeats 40000000 in
theorem rmNS (l : Launch) (Z : State) (a0 : Array Value) (hw : ∀ d ∈ tables_1, d.before a0 Z = true) (h0 : Heap) (n0 : Nat) (Z0 : n0 ≤ h0.size) (sb : Addr) (kb : ClassId) (n f d : Int32) (xs ys : List Int32) (D1 : Arv Z h0 sb kb .byte n (own_vs xs) (.int 0)) (C : own_Cut xs ys f n d) :
    ctrH l Z consts_1 (⟨"java/lang/StringLatin1", "newString", "([BII)Ljava/lang/String;"⟩ : MethodName) jdk_43_method_47_code 3 (some (.object "java/lang/String")) [] ({ frames := 3, cells := 4, slots := 32, locals := 116 } : Room) 4 32 #[(.ref sb), (.int f), (.int d)] h0 (fun v h L => ∃ ra rb, v = some (.ref ra) ∧ Fr n0 L ∧ Ext h0 h ∧ own_Str Z h ra rb d ys) := by
  refine ctrH_of (by decide +kernel) ?_
  intro p e s m below meth jc s₁ hx hby hml hret hlk hnm hown hZ e0 hsh hH hS X0
  have hk := Nat.le_refl h0.size
  have N0 := Fr.nil n0
  have hg : ∀ (i : Nat) {d : Jvm.Cond}, tables_1[i]? = some d → d.before a0 Z = true := fun i d q => hw d (List.mem_of_getElem? q)
  refine DnH.cast (ef32_AII m sb f d) ?_
  show DnH Z consts_1 p e below s _ _ _ (s₁.setTop (mkF m 0 #[.val (.ref sb), .val (.int f), .val (.int d)] []))
  refine DnH.of (fun tt_ zz_ => XS.iloadN X0.here hx rfl (hb hby d32_0) rfl zz_) ?_
  show DnH Z consts_1 p e below s _ _ _ (s₁.setTop (mkF m 1 #[.val (.ref sb), .val (.int f), .val (.int d)] [(.int d)]))
  by_cases hd0 : d = (0 : Int32)
  · skip
    refine DnH.of (fun tt_ zz_ => XS.ifNo X0.here hx rfl (hb hby d32_1) rfl ((if0 _ _).trans (teq hd0).2) zz_) ?_
    show DnH Z consts_1 p e below s _ _ _ (s₁.setTop (mkF m 4 #[.val (.ref sb), .val (.int f), .val (.int d)] []))
    subst hd0
    show DnH Z consts_1 p e below s _ _ _ (s₁.setTop (mkF m 4 #[.val (.ref sb), .val (.int f), .val (.int (0 : Int32))] []))
    obtain ⟨b137, T137, h137, k137, d137, kb137, X137, e137, E137, hS, hk137, hZ, hown, XA137, FC137, FV137, AV137, la137, lb137, hC137, hL137, hs137, st137⟩ := ldcCH X0 hx hZ hown (hg 193 rfl) (own_wS hw) e0 hS hk (own_EW hw) (by decide) hH (vs := []) (z := 0) (by simp) (by decide) rfl (g := (mkF m 4 #[.val (.ref sb), .val (.int f), .val (.int (0 : Int32))] [])) rfl (hb hby d32_4) (n := 0) (by decide) (by decide) (by decide) (by decide)
    refine DnH.of st137 ?_
    show DnH Z consts_1 p e below s _ _ _ (T137.setTop (mkF m 6 #[.val (.ref sb), .val (.int f), .val (.int (0 : Int32))] [(.ref b137)]))
    exact DnH.retA (by rw [hsh, e137]; exact hC137) hS (by rw [e137]; exact hk137) X137 hx hlk hret rfl rfl (hb hby d32_6) (by decide) (by decide) (by rw [e137, own_cut0 C]; exact ⟨_, _, rfl, N0, E137, _, XA137, FC137, FV137, AV137⟩)
  · skip
    refine DnH.of (fun tt_ zz_ => XS.ifYes X0.here hx rfl (pc0 := 1) (pc' := 7) rfl (hb hby d32_1) rfl ((if0 _ _).trans (feq hd0).2) (by decide) (by decide) zz_) ?_
    show DnH Z consts_1 p e below s _ _ _ (s₁.setTop (mkF m 7 #[.val (.ref sb), .val (.int f), .val (.int d)] []))
    obtain ⟨T138, h138, X138, e138, E138, A138, D138, U138, st138⟩ := newO X0 hx hZ hown (hg 157 rfl) (hg 6 rfl) (hg 7 rfl) e0 (g := (mkF m 7 #[.val (.ref sb), .val (.int f), .val (.int d)] [])) rfl (hb hby d32_7) (by decide) (by decide)
    obtain ⟨b138, g138⟩ : ∃ z, z = h0.size := ⟨_, rfl⟩
    rw [← g138] at A138 D138 U138 st138
    refine DnH.of st138 ?_
    show DnH Z consts_1 p e below s _ _ _ (T138.setTop (mkF m 10 #[.val (.ref sb), .val (.int f), .val (.int d)] [(.ref b138)]))
    have F_value_138 : Fld Z h138 b138 "java/lang/String" "value" "[B" .null := D138 (Or.inr (hg 33 rfl)) (ty := (.array .byte)) (by decide)
    have F_coder_138 : Fld Z h138 b138 "java/lang/String" "coder" "B" (.int (0 : Int32)) := D138 (Or.inr (hg 31 rfl)) (ty := .byte) (by decide)
    have ga : n0 ≤ b138 := g138 ▸ Z0
    refine DnH.of (fun tt_ zz_ => XS.dup X138.here hx rfl (hb hby d32_10) rfl rfl zz_) ?_
    refine DnH.of (fun tt_ zz_ => XS.aloadN X138.here hx rfl (hb hby d32_11) rfl rfl zz_) ?_
    refine DnH.of (fun tt_ zz_ => XS.iloadN X138.here hx rfl (hb hby d32_12) rfl zz_) ?_
    refine DnH.of (fun tt_ zz_ => XS.iloadN X138.here hx rfl (hb hby d32_13) rfl zz_) ?_
    show DnH Z consts_1 p e below s _ _ _ (T138.setTop (mkF m 14 #[.val (.ref sb), .val (.int f), .val (.int d)] [(.int f), (.int f), (.ref sb), (.ref b138), (.ref b138)]))
    refine DnH.of (fun tt_ zz_ => XS.iloadN X138.here hx rfl (hb hby d32_14) rfl zz_) ?_
    refine DnH.of (fun tt_ zz_ => XS.iadd X138.here hx rfl (hb hby d32_15) rfl zz_) ?_
    show DnH Z consts_1 p e below s _ _ _ (T138.setTop (mkF m 16 #[.val (.ref sb), .val (.int f), .val (.int d)] [(.int (f + d)), (.int f), (.ref sb), (.ref b138), (.ref b138)]))
    rw [C.2.2.2.2.2.2.2.1]
    show DnH Z consts_1 p e below s _ _ _ (T138.setTop (mkF m 16 #[.val (.ref sb), .val (.int f), .val (.int d)] [(.int n), (.int f), (.ref sb), (.ref b138), (.ref b138)]))
    obtain ⟨v139, T139, L139, Q139, X139, st139⟩ := cSt X138 hx hZ (y := (⟨"java/util/Arrays", "copyOfRange", "([BII)[B"⟩ : MethodName)) hown (hg 158 rfl) (hg 159 rfl) (hg 160 rfl) (hg 161 rfl) (by decide) (argsL := [(.ref sb), (.int f), (.int n)]) (rest := [(.ref b138), (.ref b138)]) (rmCR l Z a0 hw h138 n0 (Nat.le_trans Z0 E138.1) sb kb n f d xs ys (D1.ext E138) C) e138  2 (by decide) (by decide) (by decide) (by decide) (g := (mkF m 16 #[.val (.ref sb), .val (.int f), .val (.int d)] [(.int n), (.int f), (.ref sb), (.ref b138), (.ref b138)])) rfl (by rw [hml]; rfl) (lenOf pd15 rfl) rfl (by show 2 * 0 + _ ≤ _; exact Nat.le_of_eq rfl) (hb hby d32_16)
    obtain ⟨bb, kk, rfl, gb, lb, M2, X2, R2⟩ := Q139
    refine DnH.of st139 ?_
    show DnH Z consts_1 p e below s _ _ _ (T139.setTop (mkF m 19 #[.val (.ref sb), .val (.int f), .val (.int d)] [(.ref bb), (.ref b138), (.ref b138)]))
    refine DnH.of (fun tt_ zz_ => XS.iconst X139.here hx rfl (hb hby d32_19) zz_) ?_
    show DnH Z consts_1 p e below s _ _ _ (T139.setTop (mkF m 20 #[.val (.ref sb), .val (.int f), .val (.int d)] [(.int (0 : Int32)), (.ref bb), (.ref b138), (.ref b138)]))
    have dn : bb ≠ b138 := Ne.symm (Nat.ne_of_lt (Nat.lt_of_lt_of_le A138.lt lb))
    obtain ⟨v140, T140, L140, Q140, X140, st140⟩ := cIn X139 hx hZ (y := (⟨"java/lang/String", "<init>", "([BB)V"⟩ : MethodName)) rfl hown (hg 173 rfl) (hg 174 rfl) (hg 7 rfl) (hg 175 rfl) (by decide) (a := b138) (argsL := [(.ref bb), (.int (0 : Int32))]) (rest := [(.ref b138)]) (rmSB l Z a0 hw T139.heap n0 (Nat.le_trans (Nat.le_trans Z0 E138.1) X2.1) b138 bb (A138.ext X2) (F_value_138.ext X2) (F_coder_138.ext X2) ga) rfl  1 (by decide) (by decide) (by decide) (by decide) (g := (mkF m 20 #[.val (.ref sb), .val (.int f), .val (.int d)] [(.int (0 : Int32)), (.ref bb), (.ref b138), (.ref b138)])) rfl (by rw [hml]; rfl) (lenOf pd16 rfl) rfl (by show 2 * 0 + _ ≤ _; exact Nat.le_of_eq rfl) (hb hby d32_20)
    obtain ⟨rfl, M3, K3, G1, G2⟩ := Q140
    refine DnH.of st140 ?_
    show DnH Z consts_1 p e below s _ _ _ (T140.setTop (mkF m 23 #[.val (.ref sb), .val (.int f), .val (.int d)] [(.ref b138)]))
    have XB := own_extK (own_ext2 E138 X2) K3 (Nat.le_of_eq g138.symm)
    exact DnH.retA (by rw [hsh]; exact (CHr.ext XB hH).trans (CHv.at X140 hZ (own_EW hw) (hH.ext XB))) hS XB.1 X140 hx hlk hret rfl rfl (hb hby d32_23) (by decide) (by decide) (⟨_, bb, rfl, Fr.app (Fr.app N0 M2) M3, XB, _, (A138.ext X2).keep K3, G1, G2, R2.keep K3 (ninS dn nin0)⟩)
theorem ef29_AII (m : MethodId) (x0 : Addr) (x1 : Int32) (x2 : Int32) : entryFrame m #[(.ref x0), (.int x1), (.int x2)] 5 = mkF m 0 #[.val (.ref x0), .val (.int x1), .val (.int x2), .unset, .unset] [] := by first | (simp [entryFrame, mkF, argsToLocals, Value.category]; done) | rfl
set_option maxRecDepth 65536 in
set_option maxHeartbeats 40000000 in
theorem rmU2 (l : Launch) (Z : State) (a0 : Array Value) (hw : ∀ d ∈ tables_1, d.before a0 Z = true) (h0 : Heap) (n0 : Nat) (Z0 : n0 ≤ h0.size) (a sb : Addr) (n : Int32) (xs : List Int32) (S1 : own_Str Z h0 a sb n xs) (cz : Int32) (hcz : ¬ cz = 0) (SZ : Sta Z Z.heap "java/lang/String" "COMPACT_STRINGS" "Z" (.int cz)) (O0 : Old Z n0 h0) (fv : Value) (rf : fv.isRef = true) (SF : Sta Z Z.heap "jdk/internal/util/Preconditions" "SIOOBE_FORMATTER" "Ljava/util/function/BiFunction;" fv) (f d : Int32) (ys : List Int32) (C : own_Cut xs ys f n d) :
    ctrH l Z consts_1 (⟨"java/lang/String", "substring", "(II)Ljava/lang/String;"⟩ : MethodName) jdk_42_method_92_code 5 (some (.object "java/lang/String")) [] ({ frames := 4, cells := 4, slots := 32, locals := 140 } : Room) 4 32 #[(.ref a), (.int f), (.int n)] h0 (fun v h L => ∃ ra rb, v = some (.ref ra) ∧ Fr n0 L ∧ Ext h0 h ∧ own_Str Z h ra rb d ys) := by
  refine ctrH_of (by decide +kernel) ?_
  intro p e s m below meth jc s₁ hx hby hml hret hlk hnm hown hZ e0 hsh hH hS X0
  have hk := Nat.le_refl h0.size
  have N0 := Fr.nil n0
  have hg : ∀ (i : Nat) {d : Jvm.Cond}, tables_1[i]? = some d → d.before a0 Z = true := fun i d q => hw d (List.mem_of_getElem? q)
  refine DnH.cast (ef29_AII m a f n) ?_
  show DnH Z consts_1 p e below s _ _ _ (s₁.setTop (mkF m 0 #[.val (.ref a), .val (.int f), .val (.int n), .unset, .unset] []))
  have S1' := S1
  obtain ⟨k1, A1, B1, C1, D1⟩ := S1'
  refine DnH.of (fun tt_ zz_ => XS.aloadN X0.here hx rfl (hb hby d29_0) rfl rfl zz_) ?_
  show DnH Z consts_1 p e below s _ _ _ (s₁.setTop (mkF m 1 #[.val (.ref a), .val (.int f), .val (.int n), .unset, .unset] [(.ref a)]))
  obtain ⟨v141, T141, L141, Q141, X141, st141⟩ := cVi X0 hx hZ (C := "java/lang/String") (y := (⟨"java/lang/String", "length", "()I"⟩ : MethodName)) (z := (⟨"java/lang/String", "length", "()I"⟩ : MethodName)) hown (hg 104 rfl) (hg 105 rfl) (notFace_of_selects (args := #[]) (mvT hZ (hg 107 rfl))) (hg 107 rfl) (hg 106 rfl) (hg 7 rfl) (hg 108 rfl) (by decide) (a := a) (argsL := []) (rest := []) (rmLn l Z a0 hw h0 n0 Z0 a sb n xs S1 cz hcz SZ O0) e0 A1 0 (by decide) (by decide) (by decide) (by decide) (g := (mkF m 1 #[.val (.ref a), .val (.int f), .val (.int n), .unset, .unset] [(.ref a)])) rfl (by rw [hml]; rfl) (lenOf pd9 rfl) rfl (by show 2 * 0 + _ ≤ _; exact Nat.le_of_eq rfl) (hb hby d29_1)
  obtain ⟨rfl, M1, e141⟩ := Q141
  refine DnH.of st141 ?_
  show DnH Z consts_1 p e below s _ _ _ (T141.setTop (mkF m 4 #[.val (.ref a), .val (.int f), .val (.int n), .unset, .unset] [(.int n)]))
  refine DnH.of (fun tt_ zz_ => XS.istoreN X141.here hx rfl (hb hby d29_4) rfl (l' := #[.val (.ref a), .val (.int f), .val (.int n), .val (.int n), .unset]) rfl zz_) ?_
  refine DnH.of (fun tt_ zz_ => XS.iloadN X141.here hx rfl (hb hby d29_5) rfl zz_) ?_
  refine DnH.of (fun tt_ zz_ => XS.iloadN X141.here hx rfl (hb hby d29_6) rfl zz_) ?_
  refine DnH.of (fun tt_ zz_ => XS.iloadN X141.here hx rfl (hb hby d29_7) rfl zz_) ?_
  show DnH Z consts_1 p e below s _ _ _ (T141.setTop (mkF m 8 #[.val (.ref a), .val (.int f), .val (.int n), .val (.int n), .unset] [(.int n), (.int n), (.int f)]))
  have nn : ¬ n < n := fun y => absurd (Int32.lt_iff_toInt_lt.mp y) (Int.lt_irrefl _)
  obtain ⟨v142, T142, L142, Q142, X142, st142⟩ := cSt X141 hx hZ (y := (⟨"java/lang/String", "checkBoundsBeginEnd", "(III)V"⟩ : MethodName)) hown (hg 146 rfl) (hg 147 rfl) (hg 7 rfl) (hg 148 rfl) (by decide) (argsL := [(.int f), (.int n), (.int n)]) (rest := []) (rmBE l Z a0 hw h0 n0 Z0 f n n fv rf SF O0 C.2.2.2.2.2.2.1 C.1 nn) e141  0 (by decide) (by decide) (by decide) (by decide) (g := (mkF m 8 #[.val (.ref a), .val (.int f), .val (.int n), .val (.int n), .unset] [(.int n), (.int n), (.int f)])) rfl (by rw [hml]; rfl) (lenOf pd17 rfl) rfl (by show 2 * 0 + _ ≤ _; exact Nat.le_of_eq rfl) (hb hby d29_8)
  obtain ⟨rfl, M2, e142⟩ := Q142
  refine DnH.of st142 ?_
  show DnH Z consts_1 p e below s _ _ _ (T142.setTop (mkF m 11 #[.val (.ref a), .val (.int f), .val (.int n), .val (.int n), .unset] []))
  refine DnH.of (fun tt_ zz_ => XS.iloadN X142.here hx rfl (hb hby d29_11) rfl zz_) ?_
  show DnH Z consts_1 p e below s _ _ _ (T142.setTop (mkF m 12 #[.val (.ref a), .val (.int f), .val (.int n), .val (.int n), .unset] [(.int f)]))
  refine DnH.of (fun tt_ zz_ => XS.ifYes X142.here hx rfl (pc0 := 12) (pc' := 22) rfl (hb hby d29_12) rfl ((if0 _ _).trans (feq C.2.2.2.1).2) (by decide) (by decide) zz_) ?_
  show DnH Z consts_1 p e below s _ _ _ (T142.setTop (mkF m 22 #[.val (.ref a), .val (.int f), .val (.int n), .val (.int n), .unset] []))
  refine DnH.of (fun tt_ zz_ => XS.iloadN X142.here hx rfl (hb hby d29_22) rfl zz_) ?_
  refine DnH.of (fun tt_ zz_ => XS.iloadN X142.here hx rfl (hb hby d29_23) rfl zz_) ?_
  refine DnH.of (fun tt_ zz_ => XS.isub X142.here hx rfl (hb hby d29_24) rfl zz_) ?_
  show DnH Z consts_1 p e below s _ _ _ (T142.setTop (mkF m 25 #[.val (.ref a), .val (.int f), .val (.int n), .val (.int n), .unset] [(.int (n - f))]))
  rw [C.2.1]
  show DnH Z consts_1 p e below s _ _ _ (T142.setTop (mkF m 25 #[.val (.ref a), .val (.int f), .val (.int n), .val (.int n), .unset] [(.int d)]))
  refine DnH.of (fun tt_ zz_ => XS.istore X142.here hx rfl (hb hby d29_25) rfl (l' := #[.val (.ref a), .val (.int f), .val (.int n), .val (.int n), .val (.int d)]) rfl zz_) ?_
  refine DnH.of (fun tt_ zz_ => XS.aloadN X142.here hx rfl (hb hby d29_27) rfl rfl zz_) ?_
  show DnH Z consts_1 p e below s _ _ _ (T142.setTop (mkF m 28 #[.val (.ref a), .val (.int f), .val (.int n), .val (.int n), .val (.int d)] [(.ref a)]))
  obtain ⟨v143, T143, L143, Q143, X143, st143⟩ := cVi X142 hx hZ (C := "java/lang/String") (y := (⟨"java/lang/String", "isLatin1", "()Z"⟩ : MethodName)) (z := (⟨"java/lang/String", "isLatin1", "()Z"⟩ : MethodName)) hown (hg 99 rfl) (hg 100 rfl) (notFace_of_selects (args := #[]) (mvT hZ (hg 102 rfl))) (hg 102 rfl) (hg 101 rfl) (hg 7 rfl) (hg 103 rfl) (by decide) (a := a) (argsL := []) (rest := []) (rmIL l Z a0 hw h0 n0 Z0 a sb n xs S1 cz hcz SZ O0) e142 A1 0 (by decide) (by decide) (by decide) (by decide) (g := (mkF m 28 #[.val (.ref a), .val (.int f), .val (.int n), .val (.int n), .val (.int d)] [(.ref a)])) rfl (by rw [hml]; rfl) (lenOf pd8 rfl) rfl (by show 2 * 0 + _ ≤ _; exact Nat.le_of_eq rfl) (hb hby d29_28)
  obtain ⟨rfl, M3, e143⟩ := Q143
  refine DnH.of st143 ?_
  show DnH Z consts_1 p e below s _ _ _ (T143.setTop (mkF m 31 #[.val (.ref a), .val (.int f), .val (.int n), .val (.int n), .val (.int d)] [(.int (1 : Int32))]))
  refine DnH.of (fun tt_ zz_ => XS.ifNo X143.here hx rfl (hb hby d29_31) rfl ((if0 _ _).trans (feq (by decide)).1) zz_) ?_
  show DnH Z consts_1 p e below s _ _ _ (T143.setTop (mkF m 34 #[.val (.ref a), .val (.int f), .val (.int n), .val (.int n), .val (.int d)] []))
  refine DnH.of (fun tt_ zz_ => XS.aloadN X143.here hx rfl (hb hby d29_34) rfl rfl zz_) ?_
  show DnH Z consts_1 p e below s _ _ _ (T143.setTop (mkF m 35 #[.val (.ref a), .val (.int f), .val (.int n), .val (.int n), .val (.int d)] [(.ref a)]))
  obtain ⟨T144, X144, e144, st144⟩ := getF X143 hx hZ hown (host := "") (Or.inl (hg 32 rfl)) Via.refl e143 C1 (g := (mkF m 35 #[.val (.ref a), .val (.int f), .val (.int n), .val (.int n), .val (.int d)] [(.ref a)])) rfl rfl (hb hby d29_35)
  refine DnH.of st144 ?_
  show DnH Z consts_1 p e below s _ _ _ (T144.setTop (mkF m 38 #[.val (.ref a), .val (.int f), .val (.int n), .val (.int n), .val (.int d)] [(.ref sb)]))
  refine DnH.of (fun tt_ zz_ => XS.iloadN X144.here hx rfl (hb hby d29_38) rfl zz_) ?_
  refine DnH.of (fun tt_ zz_ => XS.iload X144.here hx rfl (hb hby d29_39) rfl zz_) ?_
  show DnH Z consts_1 p e below s _ _ _ (T144.setTop (mkF m 41 #[.val (.ref a), .val (.int f), .val (.int n), .val (.int n), .val (.int d)] [(.int d), (.int f), (.ref sb)]))
  obtain ⟨v145, T145, L145, Q145, X145, hS, hZ, hown, hC145, st145⟩ := cSH X144 hx hZ (y := (⟨"java/lang/StringLatin1", "newString", "([BII)Ljava/lang/String;"⟩ : MethodName)) hown (hg 154 rfl) (hg 155 rfl) (hg 116 rfl) (hg 156 rfl) (by decide) (own_EW hw) hH hS hk (argsL := [(.ref sb), (.int f), (.int d)]) (rest := []) (rmNS l Z a0 hw h0 n0 Z0 sb k1 n f d xs ys D1 C) e144  0 (by decide) (by decide) (by decide) (by decide) (g := (mkF m 41 #[.val (.ref a), .val (.int f), .val (.int n), .val (.int n), .val (.int d)] [(.int d), (.int f), (.ref sb)])) rfl (by rw [hml]; rfl) (lenOf pd18 rfl) rfl (by show 2 * 0 + _ ≤ _; exact Nat.le_of_eq rfl) (hb hby d29_41)
  obtain ⟨ra, rb, rfl, M9, X9, S9⟩ := Q145
  refine DnH.of st145 ?_
  show DnH Z consts_1 p e below s _ _ _ (T145.setTop (mkF m 44 #[.val (.ref a), .val (.int f), .val (.int n), .val (.int n), .val (.int d)] [(.ref ra)]))
  refine DnH.of (fun tt_ zz_ => XS.goto X145.here hx rfl (pc0 := 44) (pc' := 57) rfl (hb hby d29_44) (by decide) (by decide) zz_) ?_
  show DnH Z consts_1 p e below s _ _ _ (T145.setTop (mkF m 57 #[.val (.ref a), .val (.int f), .val (.int n), .val (.int n), .val (.int d)] [(.ref ra)]))
  exact DnH.retA (by rw [hsh]; exact hC145.trans (CHv.at X145 hZ (own_EW hw) hC145.1)) hS (Nat.le_refl _) X145 hx hlk hret rfl rfl (hb hby d29_57) (by decide) (by decide) (⟨ra, rb, rfl, Fr.app (Fr.app (Fr.app (Fr.app N0 M1) M2) M3) M9, X9, S9⟩)
theorem ef28_AI (m : MethodId) (x0 : Addr) (x1 : Int32) : entryFrame m #[(.ref x0), (.int x1)] 2 = mkF m 0 #[.val (.ref x0), .val (.int x1)] [] := by first | (simp [entryFrame, mkF, argsToLocals, Value.category]; done) | rfl
set_option maxRecDepth 65536 in
set_option maxHeartbeats 40000000 in
theorem rmU1 (l : Launch) (Z : State) (a0 : Array Value) (hw : ∀ d ∈ tables_1, d.before a0 Z = true) (h0 : Heap) (n0 : Nat) (Z0 : n0 ≤ h0.size) (a sb : Addr) (n : Int32) (xs : List Int32) (S1 : own_Str Z h0 a sb n xs) (cz : Int32) (hcz : ¬ cz = 0) (SZ : Sta Z Z.heap "java/lang/String" "COMPACT_STRINGS" "Z" (.int cz)) (O0 : Old Z n0 h0) (fv : Value) (rf : fv.isRef = true) (SF : Sta Z Z.heap "jdk/internal/util/Preconditions" "SIOOBE_FORMATTER" "Ljava/util/function/BiFunction;" fv) (f d : Int32) (ys : List Int32) (C : own_Cut xs ys f n d) :
    ctrH l Z consts_1 (⟨"java/lang/String", "substring", "(I)Ljava/lang/String;"⟩ : MethodName) jdk_42_method_91_code 2 (some (.object "java/lang/String")) [] ({ frames := 5, cells := 4, slots := 32, locals := 160 } : Room) 4 32 #[(.ref a), (.int f)] h0 (fun v h L => ∃ ra rb, v = some (.ref ra) ∧ Fr n0 L ∧ Ext h0 h ∧ own_Str Z h ra rb d ys) := by
  refine ctrH_of (by decide +kernel) ?_
  intro p e s m below meth jc s₁ hx hby hml hret hlk hnm hown hZ e0 hsh hH hS X0
  have hk := Nat.le_refl h0.size
  have N0 := Fr.nil n0
  have hg : ∀ (i : Nat) {d : Jvm.Cond}, tables_1[i]? = some d → d.before a0 Z = true := fun i d q => hw d (List.mem_of_getElem? q)
  refine DnH.cast (ef28_AI m a f) ?_
  show DnH Z consts_1 p e below s _ _ _ (s₁.setTop (mkF m 0 #[.val (.ref a), .val (.int f)] []))
  refine DnH.of (fun tt_ zz_ => XS.aloadN X0.here hx rfl (hb hby d28_0) rfl rfl zz_) ?_
  refine DnH.of (fun tt_ zz_ => XS.iloadN X0.here hx rfl (hb hby d28_1) rfl zz_) ?_
  refine DnH.of (fun tt_ zz_ => XS.aloadN X0.here hx rfl (hb hby d28_2) rfl rfl zz_) ?_
  show DnH Z consts_1 p e below s _ _ _ (s₁.setTop (mkF m 3 #[.val (.ref a), .val (.int f)] [(.ref a), (.int f), (.ref a)]))
  obtain ⟨v146, T146, L146, Q146, X146, st146⟩ := cVi X0 hx hZ (C := "java/lang/String") (y := (⟨"java/lang/String", "length", "()I"⟩ : MethodName)) (z := (⟨"java/lang/String", "length", "()I"⟩ : MethodName)) hown (hg 104 rfl) (hg 105 rfl) (notFace_of_selects (args := #[]) (mvT hZ (hg 107 rfl))) (hg 107 rfl) (hg 106 rfl) (hg 7 rfl) (hg 108 rfl) (by decide) (a := a) (argsL := []) (rest := [(.int f), (.ref a)]) (rmLn l Z a0 hw h0 n0 Z0 a sb n xs S1 cz hcz SZ O0) e0 (own_exa S1) 2 (by decide) (by decide) (by decide) (by decide) (g := (mkF m 3 #[.val (.ref a), .val (.int f)] [(.ref a), (.int f), (.ref a)])) rfl (by rw [hml]; rfl) (lenOf pd9 rfl) rfl (by show 2 * 0 + _ ≤ _; exact Nat.le_of_eq rfl) (hb hby d28_3)
  obtain ⟨rfl, M1, e146⟩ := Q146
  refine DnH.of st146 ?_
  show DnH Z consts_1 p e below s _ _ _ (T146.setTop (mkF m 6 #[.val (.ref a), .val (.int f)] [(.int n), (.int f), (.ref a)]))
  obtain ⟨v147, T147, L147, Q147, X147, hS, hZ, hown, hC147, st147⟩ := cVH X146 hx hZ (C := "java/lang/String") (y := (⟨"java/lang/String", "substring", "(II)Ljava/lang/String;"⟩ : MethodName)) (z := (⟨"java/lang/String", "substring", "(II)Ljava/lang/String;"⟩ : MethodName)) hown (hg 141 rfl) (hg 142 rfl) (notFace_of_selects (args := #[]) (mvT hZ (hg 144 rfl))) (hg 144 rfl) (hg 143 rfl) (hg 7 rfl) (hg 145 rfl) (by decide) (own_EW hw) hH hS hk (a := a) (argsL := [(.int f), (.int n)]) (rest := []) (rmU2 l Z a0 hw h0 n0 Z0 a sb n xs S1 cz hcz SZ O0 fv rf SF f d ys C) e146 (own_exa S1) 0 (by decide) (by decide) (by decide) (by decide) (g := (mkF m 6 #[.val (.ref a), .val (.int f)] [(.int n), (.int f), (.ref a)])) rfl (by rw [hml]; rfl) (lenOf pd19 rfl) rfl (by show 2 * 0 + _ ≤ _; exact Nat.le_of_eq rfl) (hb hby d28_6)
  obtain ⟨ra, rb, rfl, M9, X9, S9⟩ := Q147
  refine DnH.of st147 ?_
  show DnH Z consts_1 p e below s _ _ _ (T147.setTop (mkF m 9 #[.val (.ref a), .val (.int f)] [(.ref ra)]))
  exact DnH.retA (by rw [hsh]; exact hC147.trans (CHv.at X147 hZ (own_EW hw) hC147.1)) hS (Nat.le_refl _) X147 hx hlk hret rfl rfl (hb hby d28_9) (by decide) (by decide) (⟨ra, rb, rfl, Fr.app (Fr.app N0 M1) M9, X9, S9⟩)
theorem ef16_A (m : MethodId) (x0 : Addr) : entryFrame m #[(.ref x0)] 2 = mkF m 0 #[.val (.ref x0), .unset] [] := by first | (simp [entryFrame, mkF, argsToLocals, Value.category]; done) | rfl
set_option maxRecDepth 65536 in
set_option maxHeartbeats 40000000 in
theorem rmFN (l : Launch) (Z : State) (a0 : Array Value) (hw : ∀ d ∈ tables_1, d.before a0 Z = true) (h0 : Heap) (n0 : Nat) (Z0 : n0 ≤ h0.size) (a sb : Addr) (n : Int32) (xs : List Int32) (S1 : own_Str Z h0 a sb n xs) (hx4 : (n = 1 ∧ ∃ a, xs = [a]) ∨ (n = 2 ∧ ∃ a b, xs = [a, b]) ∨ (n = 3 ∧ ∃ a b c, xs = [a, b, c]) ∨ (n = 4 ∧ ∃ a b c d, xs = [a, b, c, d])) (cz : Int32) (hcz : ¬ cz = 0) (SZ : Sta Z Z.heap "java/lang/String" "COMPACT_STRINGS" "Z" (.int cz)) (O0 : Old Z n0 h0) (t_ : Addr) (FD : Fld Z h0 t_ "com/example/vellum/vellum/types/DvUri" "value" "Ljava/lang/String;" (.ref a)) (hi : own_ix xs = -1) :
    ctrH l Z consts_1 (⟨"com/example/vellum/vellum/types/DvUri", "fragmentId", "()Ljava/lang/String;"⟩ : MethodName) prog_61_method_8_code 2 (some (.object "java/lang/String")) [] ({ frames := 6, cells := 4, slots := 32, locals := 176 } : Room) 4 32 #[(.ref t_)] h0 (fun v h L => ∃ ra rb, v = some (.ref ra) ∧ Fr n0 L ∧ Ext h0 h ∧ own_Str Z h ra rb 0 []) := by
  refine ctrH_of (plainFor_of_name pn2) ?_
  intro p e s m below meth jc s₁ hx hby hml hret hlk hnm hown hZ e0 hsh hH hS X0
  have hk := Nat.le_refl h0.size
  have N0 := Fr.nil n0
  have hg : ∀ (i : Nat) {d : Jvm.Cond}, tables_1[i]? = some d → d.before a0 Z = true := fun i d q => hw d (List.mem_of_getElem? q)
  refine DnH.cast (ef16_A m t_) ?_
  show DnH Z consts_1 p e below s _ _ _ (s₁.setTop (mkF m 0 #[.val (.ref t_), .unset] []))
  refine DnH.of (fun tt_ zz_ => XS.aloadN X0.here hx rfl (hb hby d16_0) rfl rfl zz_) ?_
  show DnH Z consts_1 p e below s _ _ _ (s₁.setTop (mkF m 1 #[.val (.ref t_), .unset] [(.ref t_)]))
  obtain ⟨T148, X148, e148, st148⟩ := getF X0 hx hZ hown (host := "") (Or.inl (hg 82 rfl)) Via.refl e0 FD (g := (mkF m 1 #[.val (.ref t_), .unset] [(.ref t_)])) rfl rfl (hb hby d16_1)
  refine DnH.of st148 ?_
  show DnH Z consts_1 p e below s _ _ _ (T148.setTop (mkF m 4 #[.val (.ref t_), .unset] [(.ref a)]))
  refine DnH.of (fun tt_ zz_ => XS.bipush X148.here hx rfl (hb hby d16_4) zz_) ?_
  show DnH Z consts_1 p e below s _ _ _ (T148.setTop (mkF m 6 #[.val (.ref t_), .unset] [(.int (35 : Int32)), (.ref a)]))
  obtain ⟨v149, T149, L149, Q149, X149, st149⟩ := cVi X148 hx hZ (C := "java/lang/String") (y := (⟨"java/lang/String", "indexOf", "(I)I"⟩ : MethodName)) (z := (⟨"java/lang/String", "indexOf", "(I)I"⟩ : MethodName)) hown (hg 89 rfl) (hg 90 rfl) (notFace_of_selects (args := #[]) (mvT hZ (hg 92 rfl))) (hg 92 rfl) (hg 91 rfl) (hg 7 rfl) (hg 93 rfl) (by decide) (a := a) (argsL := [(.int (35 : Int32))]) (rest := []) (rmI1 l Z a0 hw h0 n0 Z0 a sb n xs S1 hx4 cz hcz SZ O0) e148 (own_exa S1) 0 (by decide) (by decide) (by decide) (by decide) (g := (mkF m 6 #[.val (.ref t_), .unset] [(.int (35 : Int32)), (.ref a)])) rfl (by rw [hml]; rfl) (lenOf pd20 rfl) rfl (by show 2 * 0 + _ ≤ _; exact Nat.le_of_eq rfl) (hb hby d16_6)
  rw [hi] at Q149
  obtain ⟨rfl, M1, e149⟩ := Q149
  refine DnH.of st149 ?_
  show DnH Z consts_1 p e below s _ _ _ (T149.setTop (mkF m 9 #[.val (.ref t_), .unset] [(.int (-1 : Int32))]))
  refine DnH.of (fun tt_ zz_ => XS.istoreN X149.here hx rfl (hb hby d16_9) rfl (l' := #[.val (.ref t_), .val (.int (-1 : Int32))]) rfl zz_) ?_
  refine DnH.of (fun tt_ zz_ => XS.iloadN X149.here hx rfl (hb hby d16_10) rfl zz_) ?_
  show DnH Z consts_1 p e below s _ _ _ (T149.setTop (mkF m 11 #[.val (.ref t_), .val (.int (-1 : Int32))] [(.int (-1 : Int32))]))
  refine DnH.of (fun tt_ zz_ => XS.ifNo X149.here hx rfl (hb hby d16_11) rfl ((if0 _ _).trans (tlt (by decide)).2.1) zz_) ?_
  show DnH Z consts_1 p e below s _ _ _ (T149.setTop (mkF m 14 #[.val (.ref t_), .val (.int (-1 : Int32))] []))
  obtain ⟨b150, T150, h150, k150, d150, kb150, X150, e150, E150, hS, hk150, hZ, hown, XA150, FC150, FV150, AV150, la150, lb150, hC150, hL150, hs150, st150⟩ := ldcCH X149 hx hZ hown (hg 131 rfl) (own_wS hw) e149 hS hk (own_EW hw) (by decide) hH (vs := []) (z := 0) (by simp) (by decide) rfl (g := (mkF m 14 #[.val (.ref t_), .val (.int (-1 : Int32))] [])) rfl (hb hby d16_14) (n := 0) (by decide) (by decide) (by decide) (by decide)
  refine DnH.of st150 ?_
  show DnH Z consts_1 p e below s _ _ _ (T150.setTop (mkF m 16 #[.val (.ref t_), .val (.int (-1 : Int32))] [(.ref b150)]))
  refine DnH.of (fun tt_ zz_ => XS.goto X150.here hx rfl (pc0 := 16) (pc' := 29) rfl (hb hby d16_16) (by decide) (by decide) zz_) ?_
  show DnH Z consts_1 p e below s _ _ _ (T150.setTop (mkF m 29 #[.val (.ref t_), .val (.int (-1 : Int32))] [(.ref b150)]))
  exact DnH.retA (by rw [hsh, e150]; exact hC150) hS (by rw [e150]; exact hk150) X150 hx hlk hret rfl rfl (hb hby d16_29) (by decide) (by decide) (by rw [e150]; exact ⟨_, _, rfl, Fr.app N0 M1, E150, _, XA150, FC150, FV150, AV150⟩)
set_option maxRecDepth 65536 in
set_option maxHeartbeats 40000000 in
theorem rmFS (l : Launch) (Z : State) (a0 : Array Value) (hw : ∀ d ∈ tables_1, d.before a0 Z = true) (h0 : Heap) (n0 : Nat) (Z0 : n0 ≤ h0.size) (a sb : Addr) (n : Int32) (xs : List Int32) (S1 : own_Str Z h0 a sb n xs) (hx4 : (n = 1 ∧ ∃ a, xs = [a]) ∨ (n = 2 ∧ ∃ a b, xs = [a, b]) ∨ (n = 3 ∧ ∃ a b c, xs = [a, b, c]) ∨ (n = 4 ∧ ∃ a b c d, xs = [a, b, c, d])) (cz : Int32) (hcz : ¬ cz = 0) (SZ : Sta Z Z.heap "java/lang/String" "COMPACT_STRINGS" "Z" (.int cz)) (O0 : Old Z n0 h0) (fv : Value) (rf : fv.isRef = true) (SF : Sta Z Z.heap "jdk/internal/util/Preconditions" "SIOOBE_FORMATTER" "Ljava/util/function/BiFunction;" fv) (t_ : Addr) (FD : Fld Z h0 t_ "com/example/vellum/vellum/types/DvUri" "value" "Ljava/lang/String;" (.ref a)) (i : Int32) (hi : own_ix xs = i) (h0i : ¬ i < 0) (f d : Int32) (ys : List Int32) (C : own_Cut xs ys f n d) (hif : i + 1 = f) :
    ctrH l Z consts_1 (⟨"com/example/vellum/vellum/types/DvUri", "fragmentId", "()Ljava/lang/String;"⟩ : MethodName) prog_61_method_8_code 2 (some (.object "java/lang/String")) [] ({ frames := 6, cells := 4, slots := 32, locals := 176 } : Room) 4 32 #[(.ref t_)] h0 (fun v h L => ∃ ra rb, v = some (.ref ra) ∧ Fr n0 L ∧ Ext h0 h ∧ own_Str Z h ra rb d ys) := by
  refine ctrH_of (plainFor_of_name pn2) ?_
  intro p e s m below meth jc s₁ hx hby hml hret hlk hnm hown hZ e0 hsh hH hS X0
  have hk := Nat.le_refl h0.size
  have N0 := Fr.nil n0
  have hg : ∀ (i : Nat) {d : Jvm.Cond}, tables_1[i]? = some d → d.before a0 Z = true := fun i d q => hw d (List.mem_of_getElem? q)
  refine DnH.cast (ef16_A m t_) ?_
  show DnH Z consts_1 p e below s _ _ _ (s₁.setTop (mkF m 0 #[.val (.ref t_), .unset] []))
  refine DnH.of (fun tt_ zz_ => XS.aloadN X0.here hx rfl (hb hby d16_0) rfl rfl zz_) ?_
  show DnH Z consts_1 p e below s _ _ _ (s₁.setTop (mkF m 1 #[.val (.ref t_), .unset] [(.ref t_)]))
  obtain ⟨T151, X151, e151, st151⟩ := getF X0 hx hZ hown (host := "") (Or.inl (hg 82 rfl)) Via.refl e0 FD (g := (mkF m 1 #[.val (.ref t_), .unset] [(.ref t_)])) rfl rfl (hb hby d16_1)
  refine DnH.of st151 ?_
  show DnH Z consts_1 p e below s _ _ _ (T151.setTop (mkF m 4 #[.val (.ref t_), .unset] [(.ref a)]))
  refine DnH.of (fun tt_ zz_ => XS.bipush X151.here hx rfl (hb hby d16_4) zz_) ?_
  show DnH Z consts_1 p e below s _ _ _ (T151.setTop (mkF m 6 #[.val (.ref t_), .unset] [(.int (35 : Int32)), (.ref a)]))
  obtain ⟨v152, T152, L152, Q152, X152, st152⟩ := cVi X151 hx hZ (C := "java/lang/String") (y := (⟨"java/lang/String", "indexOf", "(I)I"⟩ : MethodName)) (z := (⟨"java/lang/String", "indexOf", "(I)I"⟩ : MethodName)) hown (hg 89 rfl) (hg 90 rfl) (notFace_of_selects (args := #[]) (mvT hZ (hg 92 rfl))) (hg 92 rfl) (hg 91 rfl) (hg 7 rfl) (hg 93 rfl) (by decide) (a := a) (argsL := [(.int (35 : Int32))]) (rest := []) (rmI1 l Z a0 hw h0 n0 Z0 a sb n xs S1 hx4 cz hcz SZ O0) e151 (own_exa S1) 0 (by decide) (by decide) (by decide) (by decide) (g := (mkF m 6 #[.val (.ref t_), .unset] [(.int (35 : Int32)), (.ref a)])) rfl (by rw [hml]; rfl) (lenOf pd20 rfl) rfl (by show 2 * 0 + _ ≤ _; exact Nat.le_of_eq rfl) (hb hby d16_6)
  rw [hi] at Q152
  obtain ⟨rfl, M1, e152⟩ := Q152
  refine DnH.of st152 ?_
  show DnH Z consts_1 p e below s _ _ _ (T152.setTop (mkF m 9 #[.val (.ref t_), .unset] [(.int i)]))
  refine DnH.of (fun tt_ zz_ => XS.istoreN X152.here hx rfl (hb hby d16_9) rfl (l' := #[.val (.ref t_), .val (.int i)]) rfl zz_) ?_
  refine DnH.of (fun tt_ zz_ => XS.iloadN X152.here hx rfl (hb hby d16_10) rfl zz_) ?_
  show DnH Z consts_1 p e below s _ _ _ (T152.setTop (mkF m 11 #[.val (.ref t_), .val (.int i)] [(.int i)]))
  refine DnH.of (fun tt_ zz_ => XS.ifYes X152.here hx rfl (pc0 := 11) (pc' := 19) rfl (hb hby d16_11) rfl ((if0 _ _).trans (flt h0i).2.1) (by decide) (by decide) zz_) ?_
  show DnH Z consts_1 p e below s _ _ _ (T152.setTop (mkF m 19 #[.val (.ref t_), .val (.int i)] []))
  refine DnH.of (fun tt_ zz_ => XS.aloadN X152.here hx rfl (hb hby d16_19) rfl rfl zz_) ?_
  show DnH Z consts_1 p e below s _ _ _ (T152.setTop (mkF m 20 #[.val (.ref t_), .val (.int i)] [(.ref t_)]))
  obtain ⟨T153, X153, e153, st153⟩ := getF X152 hx hZ hown (host := "") (Or.inl (hg 82 rfl)) Via.refl e152 FD (g := (mkF m 20 #[.val (.ref t_), .val (.int i)] [(.ref t_)])) rfl rfl (hb hby d16_20)
  refine DnH.of st153 ?_
  show DnH Z consts_1 p e below s _ _ _ (T153.setTop (mkF m 23 #[.val (.ref t_), .val (.int i)] [(.ref a)]))
  refine DnH.of (fun tt_ zz_ => XS.iloadN X153.here hx rfl (hb hby d16_23) rfl zz_) ?_
  refine DnH.of (fun tt_ zz_ => XS.iconst X153.here hx rfl (hb hby d16_24) zz_) ?_
  refine DnH.of (fun tt_ zz_ => XS.iadd X153.here hx rfl (hb hby d16_25) rfl zz_) ?_
  show DnH Z consts_1 p e below s _ _ _ (T153.setTop (mkF m 26 #[.val (.ref t_), .val (.int i)] [(.int (i + (1 : Int32))), (.ref a)]))
  rw [hif]
  show DnH Z consts_1 p e below s _ _ _ (T153.setTop (mkF m 26 #[.val (.ref t_), .val (.int i)] [(.int f), (.ref a)]))
  obtain ⟨v154, T154, L154, Q154, X154, hS, hZ, hown, hC154, st154⟩ := cVH X153 hx hZ (C := "java/lang/String") (y := (⟨"java/lang/String", "substring", "(I)Ljava/lang/String;"⟩ : MethodName)) (z := (⟨"java/lang/String", "substring", "(I)Ljava/lang/String;"⟩ : MethodName)) hown (hg 136 rfl) (hg 137 rfl) (notFace_of_selects (args := #[]) (mvT hZ (hg 139 rfl))) (hg 139 rfl) (hg 138 rfl) (hg 7 rfl) (hg 140 rfl) (by decide) (own_EW hw) hH hS hk (a := a) (argsL := [(.int f)]) (rest := []) (rmU1 l Z a0 hw h0 n0 Z0 a sb n xs S1 cz hcz SZ O0 fv rf SF f d ys C) e153 (own_exa S1) 0 (by decide) (by decide) (by decide) (by decide) (g := (mkF m 26 #[.val (.ref t_), .val (.int i)] [(.int f), (.ref a)])) rfl (by rw [hml]; rfl) (lenOf pd21 rfl) rfl (by show 2 * 0 + _ ≤ _; exact Nat.le_of_eq rfl) (hb hby d16_26)
  obtain ⟨ra, rb, rfl, M9, X9, S9⟩ := Q154
  refine DnH.of st154 ?_
  show DnH Z consts_1 p e below s _ _ _ (T154.setTop (mkF m 29 #[.val (.ref t_), .val (.int i)] [(.ref ra)]))
  exact DnH.retA (by rw [hsh]; exact hC154.trans (CHv.at X154 hZ (own_EW hw) hC154.1)) hS (Nat.le_refl _) X154 hx hlk hret rfl rfl (hb hby d16_29) (by decide) (by decide) (⟨ra, rb, rfl, Fr.app (Fr.app N0 M1) M9, X9, S9⟩)
theorem ef9_A (m : MethodId) (x0 : Addr) : entryFrame m #[(.ref x0)] 1 = mkF m 0 #[.val (.ref x0)] [] := by first | (simp [entryFrame, mkF, argsToLocals, Value.category]; done) | rfl
set_option maxRecDepth 65536 in
set_option maxHeartbeats 40000000 in
theorem rmDV (l : Launch) (Z : State) (a0 : Array Value) (hw : ∀ d ∈ tables_1, d.before a0 Z = true) (h0 : Heap) (n0 : Nat) (Z0 : n0 ≤ h0.size) (a : Addr) :
    ctr l Z (⟨"com/example/vellum/vellum/types/DataValue", "<init>", "()V"⟩ : MethodName) prog_31_method_1_code 1 none [] ({ frames := 1, cells := 0, slots := 0, locals := 12 } : Room) 0 0 #[(.ref a)] h0 (fun v h L => v = none ∧ Fr n0 L ∧ h = h0) := by
  refine ctr_of (plainFor_of_name pn3) ?_
  intro p e s m below meth jc s₁ hx hby hml hret hlk hnm hown hZ e0 X0
  have N0 := Fr.nil n0
  have hg : ∀ (i : Nat) {d : Jvm.Cond}, tables_1[i]? = some d → d.before a0 Z = true := fun i d q => hw d (List.mem_of_getElem? q)
  refine Dn.cast (ef9_A m a) ?_
  show Dn p e below s _ _ _ (s₁.setTop (mkF m 0 #[.val (.ref a)] []))
  refine Dn.of (fun tt_ zz_ => XS.aloadN X0.here hx rfl (hb hby d9_0) rfl rfl zz_) ?_
  show Dn p e below s _ _ _ (s₁.setTop (mkF m 1 #[.val (.ref a)] [(.ref a)]))
  obtain ⟨T155, X155, e155, st155⟩ := initO X0 hx hZ hown (hg 45 rfl) (hg 16 rfl) (hg 17 rfl) e0 (g := (mkF m 1 #[.val (.ref a)] [(.ref a)])) rfl (by rw [hml]; rfl) rfl (hb hby d9_1) (by decide) (W := 0) (by show 2 * 0 + _ ≤ _; exact Nat.le_of_eq rfl) (by decide)
  refine Dn.of st155 ?_
  show Dn p e below s _ _ _ (T155.setTop (mkF m 4 #[.val (.ref a)] []))
  exact Dn.retV X155 hx hlk hret (hb hby d9_4) (by decide) (by decide) (⟨rfl, N0, e155⟩)
theorem ef10_A (m : MethodId) (x0 : Addr) : entryFrame m #[(.ref x0)] 1 = mkF m 0 #[.val (.ref x0)] [] := by first | (simp [entryFrame, mkF, argsToLocals, Value.category]; done) | rfl
set_option maxRecDepth 65536 in
set_option maxHeartbeats 40000000 in
theorem rmRC (l : Launch) (Z : State) (a0 : Array Value) (hw : ∀ d ∈ tables_1, d.before a0 Z = true) (h0 : Heap) (n0 : Nat) (Z0 : n0 ≤ h0.size) (a : Addr) :
    ctr l Z (⟨"com/example/vellum/vellum/types/RuleCheck", "<init>", "()V"⟩ : MethodName) prog_86_method_1_code 1 none [] ({ frames := 1, cells := 0, slots := 0, locals := 12 } : Room) 0 0 #[(.ref a)] h0 (fun v h L => v = none ∧ Fr n0 L ∧ h = h0) := by
  refine ctr_of (plainFor_of_name pn4) ?_
  intro p e s m below meth jc s₁ hx hby hml hret hlk hnm hown hZ e0 X0
  have N0 := Fr.nil n0
  have hg : ∀ (i : Nat) {d : Jvm.Cond}, tables_1[i]? = some d → d.before a0 Z = true := fun i d q => hw d (List.mem_of_getElem? q)
  refine Dn.cast (ef10_A m a) ?_
  show Dn p e below s _ _ _ (s₁.setTop (mkF m 0 #[.val (.ref a)] []))
  refine Dn.of (fun tt_ zz_ => XS.aloadN X0.here hx rfl (hb hby d10_0) rfl rfl zz_) ?_
  show Dn p e below s _ _ _ (s₁.setTop (mkF m 1 #[.val (.ref a)] [(.ref a)]))
  obtain ⟨T156, X156, e156, st156⟩ := initO X0 hx hZ hown (hg 52 rfl) (hg 16 rfl) (hg 17 rfl) e0 (g := (mkF m 1 #[.val (.ref a)] [(.ref a)])) rfl (by rw [hml]; rfl) rfl (hb hby d10_1) (by decide) (W := 0) (by show 2 * 0 + _ ≤ _; exact Nat.le_of_eq rfl) (by decide)
  refine Dn.of st156 ?_
  show Dn p e below s _ _ _ (T156.setTop (mkF m 4 #[.val (.ref a)] []))
  exact Dn.retV X156 hx hlk hret (hb hby d10_4) (by decide) (by decide) (⟨rfl, N0, e156⟩)
theorem ef12_AAA (m : MethodId) (x0 : Addr) (x1 : Addr) (x2 : Addr) : entryFrame m #[(.ref x0), (.ref x1), (.ref x2)] 3 = mkF m 0 #[.val (.ref x0), .val (.ref x1), .val (.ref x2)] [] := by first | (simp [entryFrame, mkF, argsToLocals, Value.category]; done) | rfl
set_option maxRecDepth 65536 in
set_option maxHeartbeats 40000000 in
theorem rmRP (l : Launch) (Z : State) (a0 : Array Value) (hw : ∀ d ∈ tables_1, d.before a0 Z = true) (h0 : Heap) (n0 : Nat) (Z0 : n0 ≤ h0.size) (r a l1 : Addr) :
    ctr l Z (⟨"com/example/vellum/vellum/types/RuleCheck", "requirePresent", "(Ljava/lang/Object;Ljava/lang/String;)V"⟩ : MethodName) prog_86_method_2_code 3 none [] ({ frames := 0, cells := 0, slots := 0, locals := 0 } : Room) 0 0 #[(.ref r), (.ref a), (.ref l1)] h0 (fun v h L => v = none ∧ Fr n0 L ∧ h = h0) := by
  refine ctr_of (plainFor_of_name pn4) ?_
  intro p e s m below meth jc s₁ hx hby hml hret hlk hnm hown hZ e0 X0
  have N0 := Fr.nil n0
  have hg : ∀ (i : Nat) {d : Jvm.Cond}, tables_1[i]? = some d → d.before a0 Z = true := fun i d q => hw d (List.mem_of_getElem? q)
  refine Dn.cast (ef12_AAA m r a l1) ?_
  show Dn p e below s _ _ _ (s₁.setTop (mkF m 0 #[.val (.ref r), .val (.ref a), .val (.ref l1)] []))
  refine Dn.of (fun tt_ zz_ => XS.aloadN X0.here hx rfl (hb hby d12_0) rfl rfl zz_) ?_
  show Dn p e below s _ _ _ (s₁.setTop (mkF m 1 #[.val (.ref r), .val (.ref a), .val (.ref l1)] [(.ref a)]))
  refine Dn.of (fun tt_ zz_ => XS.ifnonnullYes X0.here hx rfl (pc0 := 1) (pc' := 12) rfl (hb hby d12_1) rfl (by decide) (by decide) zz_) ?_
  show Dn p e below s _ _ _ (s₁.setTop (mkF m 12 #[.val (.ref r), .val (.ref a), .val (.ref l1)] []))
  exact Dn.retV X0 hx hlk hret (hb hby d12_12) (by decide) (by decide) (⟨rfl, N0, e0⟩)
theorem ef13_AAAA (m : MethodId) (x0 : Addr) (x1 : Addr) (x2 : Addr) (x3 : Addr) : entryFrame m #[(.ref x0), (.ref x1), (.ref x2), (.ref x3)] 4 = mkF m 0 #[.val (.ref x0), .val (.ref x1), .val (.ref x2), .val (.ref x3)] [] := by first | (simp [entryFrame, mkF, argsToLocals, Value.category]; done) | rfl
set_option maxRecDepth 65536 in
set_option maxHeartbeats 40000000 in
theorem rmRN (l : Launch) (Z : State) (a0 : Array Value) (hw : ∀ d ∈ tables_1, d.before a0 Z = true) (h0 : Heap) (n0 : Nat) (Z0 : n0 ≤ h0.size) (r l1 l2 : Addr) (a sb : Addr) (n : Int32) (xs : List Int32) (S1 : own_Str Z h0 a sb n xs) (hn : ¬ n = 0) :
    ctr l Z (⟨"com/example/vellum/vellum/types/RuleCheck", "requireNotEmpty", "(Ljava/lang/String;Ljava/lang/String;Ljava/lang/String;)V"⟩ : MethodName) prog_86_method_4_code 4 none [] ({ frames := 1, cells := 0, slots := 0, locals := 16 } : Room) 0 0 #[(.ref r), (.ref a), (.ref l1), (.ref l2)] h0 (fun v h L => v = none ∧ Fr n0 L ∧ h = h0) := by
  refine ctr_of (plainFor_of_name pn4) ?_
  intro p e s m below meth jc s₁ hx hby hml hret hlk hnm hown hZ e0 X0
  have N0 := Fr.nil n0
  have hg : ∀ (i : Nat) {d : Jvm.Cond}, tables_1[i]? = some d → d.before a0 Z = true := fun i d q => hw d (List.mem_of_getElem? q)
  refine Dn.cast (ef13_AAAA m r a l1 l2) ?_
  show Dn p e below s _ _ _ (s₁.setTop (mkF m 0 #[.val (.ref r), .val (.ref a), .val (.ref l1), .val (.ref l2)] []))
  refine Dn.of (fun tt_ zz_ => XS.aloadN X0.here hx rfl (hb hby d13_0) rfl rfl zz_) ?_
  show Dn p e below s _ _ _ (s₁.setTop (mkF m 1 #[.val (.ref r), .val (.ref a), .val (.ref l1), .val (.ref l2)] [(.ref a)]))
  refine Dn.of (fun tt_ zz_ => XS.ifnullNo X0.here hx rfl (hb hby d13_1) rfl zz_) ?_
  show Dn p e below s _ _ _ (s₁.setTop (mkF m 4 #[.val (.ref r), .val (.ref a), .val (.ref l1), .val (.ref l2)] []))
  refine Dn.of (fun tt_ zz_ => XS.aloadN X0.here hx rfl (hb hby d13_4) rfl rfl zz_) ?_
  show Dn p e below s _ _ _ (s₁.setTop (mkF m 5 #[.val (.ref r), .val (.ref a), .val (.ref l1), .val (.ref l2)] [(.ref a)]))
  obtain ⟨v157, T157, L157, Q157, X157, st157⟩ := cVi X0 hx hZ (C := "java/lang/String") (y := (⟨"java/lang/String", "isEmpty", "()Z"⟩ : MethodName)) (z := (⟨"java/lang/String", "isEmpty", "()Z"⟩ : MethodName)) hown (hg 70 rfl) (hg 71 rfl) (notFace_of_selects (args := #[]) (mvT hZ (hg 73 rfl))) (hg 73 rfl) (hg 72 rfl) (hg 7 rfl) (hg 74 rfl) (by decide) (a := a) (argsL := []) (rest := []) (rmIE l Z a0 hw h0 n0 Z0 a sb n xs S1 hn) e0 (own_exa S1) 0 (by decide) (by decide) (by decide) (by decide) (g := (mkF m 5 #[.val (.ref r), .val (.ref a), .val (.ref l1), .val (.ref l2)] [(.ref a)])) rfl (by rw [hml]; rfl) (lenOf pd8 rfl) rfl (by show 2 * 0 + _ ≤ _; exact Nat.le_of_eq rfl) (hb hby d13_5)
  obtain ⟨rfl, M1, e157⟩ := Q157
  refine Dn.of st157 ?_
  show Dn p e below s _ _ _ (T157.setTop (mkF m 8 #[.val (.ref r), .val (.ref a), .val (.ref l1), .val (.ref l2)] [(.int (0 : Int32))]))
  refine Dn.of (fun tt_ zz_ => XS.ifYes X157.here hx rfl (pc0 := 8) (pc' := 22) rfl (hb hby d13_8) rfl ((if0 _ _).trans (teq rfl).1) (by decide) (by decide) zz_) ?_
  show Dn p e below s _ _ _ (T157.setTop (mkF m 22 #[.val (.ref r), .val (.ref a), .val (.ref l1), .val (.ref l2)] []))
  exact Dn.retV X157 hx hlk hret (hb hby d13_22) (by decide) (by decide) (⟨rfl, Fr.app N0 M1, e157⟩)
theorem ef15_A (m : MethodId) (x0 : Addr) : entryFrame m #[(.ref x0)] 1 = mkF m 0 #[.val (.ref x0)] [] := by first | (simp [entryFrame, mkF, argsToLocals, Value.category]; done) | rfl
set_option maxRecDepth 65536 in
set_option maxHeartbeats 40000000 in
theorem rmEn (l : Launch) (Z : State) (a0 : Array Value) (hw : ∀ d ∈ tables_1, d.before a0 Z = true) (h0 : Heap) (n0 : Nat) (Z0 : n0 ≤ h0.size) (r : Addr) (FB : Fld Z h0 r "com/example/vellum/vellum/types/RuleCheck" "broken" "Ljava/util/List;" .null) :
    ctr l Z (⟨"com/example/vellum/vellum/types/RuleCheck", "enforce", "()V"⟩ : MethodName) prog_86_method_6_code 1 none [] ({ frames := 0, cells := 0, slots := 0, locals := 0 } : Room) 0 0 #[(.ref r)] h0 (fun v h L => v = none ∧ Fr n0 L ∧ h = h0) := by
  refine ctr_of (plainFor_of_name pn4) ?_
  intro p e s m below meth jc s₁ hx hby hml hret hlk hnm hown hZ e0 X0
  have N0 := Fr.nil n0
  have hg : ∀ (i : Nat) {d : Jvm.Cond}, tables_1[i]? = some d → d.before a0 Z = true := fun i d q => hw d (List.mem_of_getElem? q)
  refine Dn.cast (ef15_A m r) ?_
  show Dn p e below s _ _ _ (s₁.setTop (mkF m 0 #[.val (.ref r)] []))
  refine Dn.of (fun tt_ zz_ => XS.aloadN X0.here hx rfl (hb hby d15_0) rfl rfl zz_) ?_
  show Dn p e below s _ _ _ (s₁.setTop (mkF m 1 #[.val (.ref r)] [(.ref r)]))
  obtain ⟨T158, X158, e158, st158⟩ := getF X0 hx hZ hown (host := "") (Or.inl (hg 80 rfl)) Via.refl e0 FB (g := (mkF m 1 #[.val (.ref r)] [(.ref r)])) rfl rfl (hb hby d15_1)
  refine Dn.of st158 ?_
  show Dn p e below s _ _ _ (T158.setTop (mkF m 4 #[.val (.ref r)] [.null]))
  refine Dn.of (fun tt_ zz_ => XS.ifnullYes X158.here hx rfl (pc0 := 4) (pc' := 19) rfl (hb hby d15_4) rfl (by decide) (by decide) zz_) ?_
  show Dn p e below s _ _ _ (T158.setTop (mkF m 19 #[.val (.ref r)] []))
  exact Dn.retV X158 hx hlk hret (hb hby d15_19) (by decide) (by decide) (⟨rfl, N0, e158⟩)
theorem ef11_AA (m : MethodId) (x0 : Addr) (x1 : Addr) : entryFrame m #[(.ref x0), (.ref x1)] 2 = mkF m 0 #[.val (.ref x0), .val (.ref x1)] [] := by first | (simp [entryFrame, mkF, argsToLocals, Value.category]; done) | rfl
set_option maxRecDepth 65536 in
set_option maxHeartbeats 40000000 in
theorem rmCV (l : Launch) (Z : State) (a0 : Array Value) (hw : ∀ d ∈ tables_1, d.before a0 Z = true) (h0 : Heap) (n0 : Nat) (Z0 : n0 ≤ h0.size) (r : Addr) (a sb : Addr) (n : Int32) (xs : List Int32) (S1 : own_Str Z h0 a sb n xs) (hn : ¬ n = 0) (ER : Exa Z h0 r "com/example/vellum/vellum/types/RuleCheck") :
    ctrH l Z consts_1 (⟨"com/example/vellum/vellum/types/DvUri", "checkValue", "(Lcom/example/vellum/vellum/types/RuleCheck;Ljava/lang/String;)V"⟩ : MethodName) prog_61_method_3_code 2 none [] ({ frames := 2, cells := 6, slots := 128, locals := 36 } : Room) 6 128 #[(.ref r), (.ref a)] h0 (fun v h L => v = none ∧ Fr n0 L ∧ Ext h0 h) := by
  refine ctrH_of (plainFor_of_name pn2) ?_
  intro p e s m below meth jc s₁ hx hby hml hret hlk hnm hown hZ e0 hsh hH hS X0
  have hk := Nat.le_refl h0.size
  have N0 := Fr.nil n0
  have hg : ∀ (i : Nat) {d : Jvm.Cond}, tables_1[i]? = some d → d.before a0 Z = true := fun i d q => hw d (List.mem_of_getElem? q)
  refine DnH.cast (ef11_AA m r a) ?_
  show DnH Z consts_1 p e below s _ _ _ (s₁.setTop (mkF m 0 #[.val (.ref r), .val (.ref a)] []))
  refine DnH.of (fun tt_ zz_ => XS.aloadN X0.here hx rfl (hb hby d11_0) rfl rfl zz_) ?_
  refine DnH.of (fun tt_ zz_ => XS.aloadN X0.here hx rfl (hb hby d11_1) rfl rfl zz_) ?_
  show DnH Z consts_1 p e below s _ _ _ (s₁.setTop (mkF m 2 #[.val (.ref r), .val (.ref a)] [(.ref a), (.ref r)]))
  obtain ⟨b159, T159, h159, k159, X159, e159, E159, hS, hk159, hZ, hown, hC159, hL159, st159⟩ := ldcOH X0 hx hZ hown (hg 56 rfl) (own_wS hw) e0 hS hk (own_EW hw) hH (g := (mkF m 2 #[.val (.ref r), .val (.ref a)] [(.ref a), (.ref r)])) rfl (hb hby d11_2) (n := 20) (by decide) (by decide) (by decide) (by decide)
  refine DnH.of st159 ?_
  show DnH Z consts_1 p e below s _ _ _ (T159.setTop (mkF m 4 #[.val (.ref r), .val (.ref a)] [(.ref b159), (.ref a), (.ref r)]))
  have XE1 := E159
  obtain ⟨v160, T160, L160, Q160, X160, st160⟩ := cVi X159 hx hZ (C := "com/example/vellum/vellum/types/RuleCheck") (y := (⟨"com/example/vellum/vellum/types/RuleCheck", "requirePresent", "(Ljava/lang/Object;Ljava/lang/String;)V"⟩ : MethodName)) (z := (⟨"com/example/vellum/vellum/types/RuleCheck", "requirePresent", "(Ljava/lang/Object;Ljava/lang/String;)V"⟩ : MethodName)) hown (hg 59 rfl) (hg 60 rfl) (notFace_of_selects (args := #[]) (mvT hZ (hg 62 rfl))) (hg 62 rfl) (hg 61 rfl) (hg 48 rfl) (hg 63 rfl) (by decide) (a := r) (argsL := [(.ref a), (.ref b159)]) (rest := []) (rmRP l Z a0 hw h159 n0 (Nat.le_trans Z0 XE1.1) r a b159) e159 (ER.ext XE1) 0 (by decide) (by decide) (by decide) (by decide) (g := (mkF m 4 #[.val (.ref r), .val (.ref a)] [(.ref b159), (.ref a), (.ref r)])) rfl (by rw [hml]; rfl) (lenOf pd22 rfl) rfl (by show 2 * 0 + _ ≤ _; exact Nat.le_of_eq rfl) (hb hby d11_4)
  obtain ⟨rfl, M1, e160⟩ := Q160
  refine DnH.of st160 ?_
  show DnH Z consts_1 p e below s _ _ _ (T160.setTop (mkF m 7 #[.val (.ref r), .val (.ref a)] []))
  refine DnH.of (fun tt_ zz_ => XS.aloadN X160.here hx rfl (hb hby d11_7) rfl rfl zz_) ?_
  refine DnH.of (fun tt_ zz_ => XS.aloadN X160.here hx rfl (hb hby d11_8) rfl rfl zz_) ?_
  show DnH Z consts_1 p e below s _ _ _ (T160.setTop (mkF m 9 #[.val (.ref r), .val (.ref a)] [(.ref a), (.ref r)]))
  obtain ⟨b161, T161, h161, k161, X161, e161, E161, hS, hk161, hZ, hown, hC161, hL161, st161⟩ := ldcOH X160 hx hZ hown (hg 64 rfl) (own_wS hw) e160 hS hk159 (own_EW hw) hC159.1 (g := (mkF m 9 #[.val (.ref r), .val (.ref a)] [(.ref a), (.ref r)])) rfl (hb hby d11_9) (n := 44) (by decide) (by decide) (by decide) (by decide)
  refine DnH.of st161 ?_
  show DnH Z consts_1 p e below s _ _ _ (T161.setTop (mkF m 11 #[.val (.ref r), .val (.ref a)] [(.ref b161), (.ref a), (.ref r)]))
  have XE2 := own_ext2 XE1 E161
  obtain ⟨b162, T162, h162, k162, X162, e162, E162, hS, hk162, hZ, hown, hC162, hL162, st162⟩ := ldcOH X161 hx hZ hown (hg 56 rfl) (own_wS hw) e161 hS hk161 (own_EW hw) hC161.1 (g := (mkF m 11 #[.val (.ref r), .val (.ref a)] [(.ref b161), (.ref a), (.ref r)])) rfl (hb hby d11_11) (n := 20) (by decide) (by decide) (by decide) (by decide)
  refine DnH.of st162 ?_
  show DnH Z consts_1 p e below s _ _ _ (T162.setTop (mkF m 13 #[.val (.ref r), .val (.ref a)] [(.ref b162), (.ref b161), (.ref a), (.ref r)]))
  have XE3 := own_ext2 XE2 E162
  obtain ⟨v163, T163, L163, Q163, X163, st163⟩ := cVi X162 hx hZ (C := "com/example/vellum/vellum/types/RuleCheck") (y := (⟨"com/example/vellum/vellum/types/RuleCheck", "requireNotEmpty", "(Ljava/lang/String;Ljava/lang/String;Ljava/lang/String;)V"⟩ : MethodName)) (z := (⟨"com/example/vellum/vellum/types/RuleCheck", "requireNotEmpty", "(Ljava/lang/String;Ljava/lang/String;Ljava/lang/String;)V"⟩ : MethodName)) hown (hg 65 rfl) (hg 66 rfl) (notFace_of_selects (args := #[]) (mvT hZ (hg 68 rfl))) (hg 68 rfl) (hg 67 rfl) (hg 48 rfl) (hg 69 rfl) (by decide) (a := r) (argsL := [(.ref a), (.ref b161), (.ref b162)]) (rest := []) (rmRN l Z a0 hw h162 n0 (Nat.le_trans Z0 XE3.1) r b161 b162 a sb n xs (S1.ext XE3) hn) e162 (ER.ext XE3) 0 (by decide) (by decide) (by decide) (by decide) (g := (mkF m 13 #[.val (.ref r), .val (.ref a)] [(.ref b162), (.ref b161), (.ref a), (.ref r)])) rfl (by rw [hml]; rfl) (lenOf pd23 rfl) rfl (by show 2 * 0 + _ ≤ _; exact Nat.le_of_eq rfl) (hb hby d11_13)
  obtain ⟨rfl, M2, e163⟩ := Q163
  refine DnH.of st163 ?_
  show DnH Z consts_1 p e below s _ _ _ (T163.setTop (mkF m 16 #[.val (.ref r), .val (.ref a)] []))
  exact DnH.retV (by rw [hsh, e163]; exact ((hC159.trans hC161).trans hC162).trans (CHv.at X163 hZ (own_EW hw) hC162.1)) hS (by rw [e163]; exact hk162) X163 hx hlk hret (hb hby d11_16) (by decide) (by decide) (by rw [e163]; exact ⟨rfl, Fr.app (Fr.app N0 M1) M2, XE3⟩)
theorem ef8_AA (m : MethodId) (x0 : Addr) (x1 : Addr) : entryFrame m #[(.ref x0), (.ref x1)] 3 = mkF m 0 #[.val (.ref x0), .val (.ref x1), .unset] [] := by first | (simp [entryFrame, mkF, argsToLocals, Value.category]; done) | rfl
set_option maxRecDepth 65536 in
set_option maxHeartbeats 40000000 in
theorem rmDU (l : Launch) (Z : State) (a0 : Array Value) (hw : ∀ d ∈ tables_1, d.before a0 Z = true) (h0 : Heap) (n0 : Nat) (Z0 : n0 ≤ h0.size) (t_ : Addr) (a sb : Addr) (n : Int32) (xs : List Int32) (S1 : own_Str Z h0 a sb n xs) (hn : ¬ n = 0) (E0 : Exa Z h0 t_ "com/example/vellum/vellum/types/DvUri") (F0 : Fld Z h0 t_ "com/example/vellum/vellum/types/DvUri" "value" "Ljava/lang/String;" .null) (g0 : n0 ≤ t_) :
    ctrH l Z consts_1 (⟨"com/example/vellum/vellum/types/DvUri", "<init>", "(Ljava/lang/String;)V"⟩ : MethodName) prog_61_method_1_code 3 none [] ({ frames := 3, cells := 7, slots := 132, locals := 60 } : Room) 7 132 #[(.ref t_), (.ref a)] h0 (fun v h L => v = none ∧ Fr n0 L ∧ Keep h0 h [t_] ∧ Fld Z h t_ "com/example/vellum/vellum/types/DvUri" "value" "Ljava/lang/String;" (.ref a)) := by
  refine ctrH_of (plainFor_of_name pn2) ?_
  intro p e s m below meth jc s₁ hx hby hml hret hlk hnm hown hZ e0 hsh hH hS X0
  have hk := Nat.le_refl h0.size
  have N0 := Fr.nil n0
  have hg : ∀ (i : Nat) {d : Jvm.Cond}, tables_1[i]? = some d → d.before a0 Z = true := fun i d q => hw d (List.mem_of_getElem? q)
  refine DnH.cast (ef8_AA m t_ a) ?_
  show DnH Z consts_1 p e below s _ _ _ (s₁.setTop (mkF m 0 #[.val (.ref t_), .val (.ref a), .unset] []))
  refine DnH.of (fun tt_ zz_ => XS.aloadN X0.here hx rfl (hb hby d8_0) rfl rfl zz_) ?_
  show DnH Z consts_1 p e below s _ _ _ (s₁.setTop (mkF m 1 #[.val (.ref t_), .val (.ref a), .unset] [(.ref t_)]))
  obtain ⟨v164, T164, L164, Q164, X164, st164⟩ := cIn X0 hx hZ (y := (⟨"com/example/vellum/vellum/types/DataValue", "<init>", "()V"⟩ : MethodName)) rfl hown (hg 40 rfl) (hg 41 rfl) (hg 43 rfl) (hg 44 rfl) (by decide) (a := t_) (argsL := []) (rest := []) (rmDV l Z a0 hw h0 n0 Z0 t_) e0  0 (by decide) (by decide) (by decide) (by decide) (g := (mkF m 1 #[.val (.ref t_), .val (.ref a), .unset] [(.ref t_)])) rfl (by rw [hml]; rfl) (lenOf pd24 rfl) rfl (by show 2 * 0 + _ ≤ _; exact Nat.le_of_eq rfl) (hb hby d8_1)
  obtain ⟨rfl, M1, e164⟩ := Q164
  refine DnH.of st164 ?_
  show DnH Z consts_1 p e below s _ _ _ (T164.setTop (mkF m 4 #[.val (.ref t_), .val (.ref a), .unset] []))
  obtain ⟨T165, h165, X165, e165, E165, A165, D165, U165, st165⟩ := newO X164 hx hZ hown (hg 46 rfl) (hg 47 rfl) (hg 48 rfl) e164 (g := (mkF m 4 #[.val (.ref t_), .val (.ref a), .unset] [])) rfl (hb hby d8_4) (by decide) (by decide)
  obtain ⟨b165, g165⟩ : ∃ z, z = h0.size := ⟨_, rfl⟩
  rw [← g165] at A165 D165 U165 st165
  refine DnH.of st165 ?_
  show DnH Z consts_1 p e below s _ _ _ (T165.setTop (mkF m 7 #[.val (.ref t_), .val (.ref a), .unset] [(.ref b165)]))
  have F_broken_165 : Fld Z h165 b165 "com/example/vellum/vellum/types/RuleCheck" "broken" "Ljava/util/List;" .null := D165 (Or.inl (hg 81 rfl)) (ty := (.object "java/util/List")) (by decide)
  refine DnH.of (fun tt_ zz_ => XS.dup X165.here hx rfl (hb hby d8_7) rfl rfl zz_) ?_
  show DnH Z consts_1 p e below s _ _ _ (T165.setTop (mkF m 8 #[.val (.ref t_), .val (.ref a), .unset] [(.ref b165), (.ref b165)]))
  obtain ⟨v166, T166, L166, Q166, X166, st166⟩ := cIn X165 hx hZ (y := (⟨"com/example/vellum/vellum/types/RuleCheck", "<init>", "()V"⟩ : MethodName)) rfl hown (hg 49 rfl) (hg 50 rfl) (hg 48 rfl) (hg 51 rfl) (by decide) (a := b165) (argsL := []) (rest := [(.ref b165)]) (rmRC l Z a0 hw h165 n0 (Nat.le_trans Z0 E165.1) b165) e165  1 (by decide) (by decide) (by decide) (by decide) (g := (mkF m 8 #[.val (.ref t_), .val (.ref a), .unset] [(.ref b165), (.ref b165)])) rfl (by rw [hml]; rfl) (lenOf pd24 rfl) rfl (by show 2 * 0 + _ ≤ _; exact Nat.le_of_eq rfl) (hb hby d8_8)
  obtain ⟨rfl, M2, e166⟩ := Q166
  refine DnH.of st166 ?_
  show DnH Z consts_1 p e below s _ _ _ (T166.setTop (mkF m 11 #[.val (.ref t_), .val (.ref a), .unset] [(.ref b165)]))
  refine DnH.of (fun tt_ zz_ => XS.astoreN X166.here hx rfl (hb hby d8_11) rfl rfl (l' := #[.val (.ref t_), .val (.ref a), .val (.ref b165)]) rfl zz_) ?_
  refine DnH.of (fun tt_ zz_ => XS.aloadN X166.here hx rfl (hb hby d8_12) rfl rfl zz_) ?_
  refine DnH.of (fun tt_ zz_ => XS.aloadN X166.here hx rfl (hb hby d8_13) rfl rfl zz_) ?_
  show DnH Z consts_1 p e below s _ _ _ (T166.setTop (mkF m 14 #[.val (.ref t_), .val (.ref a), .val (.ref b165)] [(.ref a), (.ref b165)]))
  have hH1 := hH.ext E165
  obtain ⟨v167, T167, L167, Q167, X167, hS, hZ, hown, hC167, st167⟩ := cSH X166 hx hZ (y := (⟨"com/example/vellum/vellum/types/DvUri", "checkValue", "(Lcom/example/vellum/vellum/types/RuleCheck;Ljava/lang/String;)V"⟩ : MethodName)) hown (hg 53 rfl) (hg 54 rfl) (hg 36 rfl) (hg 55 rfl) (by decide) (own_EW hw) hH1 hS E165.1 (argsL := [(.ref b165), (.ref a)]) (rest := []) (rmCV l Z a0 hw h165 n0 (Nat.le_trans Z0 E165.1) b165 a sb n xs (S1.ext E165) hn A165) e166  0 (by decide) (by decide) (by decide) (by decide) (g := (mkF m 14 #[.val (.ref t_), .val (.ref a), .val (.ref b165)] [(.ref a), (.ref b165)])) rfl (by rw [hml]; rfl) (lenOf pd25 rfl) rfl (by show 2 * 0 + _ ≤ _; exact Nat.le_of_eq rfl) (hb hby d8_14)
  obtain ⟨rfl, M3, X3⟩ := Q167
  refine DnH.of st167 ?_
  show DnH Z consts_1 p e below s _ _ _ (T167.setTop (mkF m 17 #[.val (.ref t_), .val (.ref a), .val (.ref b165)] []))
  refine DnH.of (fun tt_ zz_ => XS.aloadN X167.here hx rfl (hb hby d8_17) rfl rfl zz_) ?_
  show DnH Z consts_1 p e below s _ _ _ (T167.setTop (mkF m 18 #[.val (.ref t_), .val (.ref a), .val (.ref b165)] [(.ref b165)]))
  obtain ⟨v168, T168, L168, Q168, X168, st168⟩ := cVi X167 hx hZ (C := "com/example/vellum/vellum/types/RuleCheck") (y := (⟨"com/example/vellum/vellum/types/RuleCheck", "enforce", "()V"⟩ : MethodName)) (z := (⟨"com/example/vellum/vellum/types/RuleCheck", "enforce", "()V"⟩ : MethodName)) hown (hg 75 rfl) (hg 76 rfl) (notFace_of_selects (args := #[]) (mvT hZ (hg 78 rfl))) (hg 78 rfl) (hg 77 rfl) (hg 48 rfl) (hg 79 rfl) (by decide) (a := b165) (argsL := []) (rest := []) (rmEn l Z a0 hw T167.heap n0 (Nat.le_trans (Nat.le_trans Z0 E165.1) X3.1) b165 (F_broken_165.ext X3)) rfl (A165.ext X3) 0 (by decide) (by decide) (by decide) (by decide) (g := (mkF m 18 #[.val (.ref t_), .val (.ref a), .val (.ref b165)] [(.ref b165)])) rfl (by rw [hml]; rfl) (lenOf pd24 rfl) rfl (by show 2 * 0 + _ ≤ _; exact Nat.le_of_eq rfl) (hb hby d8_18)
  obtain ⟨rfl, M4, e168⟩ := Q168
  refine DnH.of st168 ?_
  show DnH Z consts_1 p e below s _ _ _ (T168.setTop (mkF m 21 #[.val (.ref t_), .val (.ref a), .val (.ref b165)] []))
  refine DnH.of (fun tt_ zz_ => XS.aloadN X168.here hx rfl (hb hby d8_21) rfl rfl zz_) ?_
  refine DnH.of (fun tt_ zz_ => XS.aloadN X168.here hx rfl (hb hby d8_22) rfl rfl zz_) ?_
  show DnH Z consts_1 p e below s _ _ _ (T168.setTop (mkF m 23 #[.val (.ref t_), .val (.ref a), .val (.ref b165)] [(.ref a), (.ref t_)]))
  have XX := own_ext2 E165 X3
  obtain ⟨T169, h169, X169, e169, W169, st169⟩ := putF X168 hx hZ hown (host := "") (Or.inl (hg 82 rfl)) Via.refl e168 (F0.ext XX) (E0.ext XX) (Or.inr ⟨(hg 83 rfl), rfl, hnm⟩) (hg 35 rfl) (ty := (.object "java/lang/String")) (by decide) rfl rfl (g := (mkF m 23 #[.val (.ref t_), .val (.ref a), .val (.ref b165)] [(.ref a), (.ref t_)])) rfl rfl (hb hby d8_23)
  refine DnH.of st169 ?_
  show DnH Z consts_1 p e below s _ _ _ (T169.setTop (mkF m 26 #[.val (.ref t_), .val (.ref a), .val (.ref b165)] []))
  have N5 := Fr.snoc X169 (Fr.app (Fr.app (Fr.app (Fr.app N0 M1) M2) M3) M4) g0
  have SA : Safe Z consts_1 T167.vm T167.heap t_ := Safe.exa hZ.alike (E0.ext XX) (by decide) (by decide)
  have HW := CHr.wr W169 SA hC167.1
  exact DnH.retV (by rw [hsh, e169]; exact (((CHr.ext E165 hH).trans hC167).trans HW).trans (CHv.at X169 hZ (own_EW hw) HW.1)) hS (by rw [e169, W169.size]; exact Nat.le_refl _) X169 hx hlk hret (hb hby d8_26) (by decide) (by decide) (by rw [e169]; exact ⟨rfl, N5, ((Keep.refl h0 [t_]).ext XX).wr W169 (Or.inl (List.mem_of_getElem? (i := 0) rfl)), (F0.ext XX).same W169⟩)
def own_Q (n0 : Nat) (v : Option Value) (h : Heap) (L : List Loc) : Prop := v = some (.int 1) ∧ Fr n0 L
theorem ef0_IIIII (m : MethodId) (x0 : Int32) (x1 : Int32) (x2 : Int32) (x3 : Int32) (x4 : Int32) : entryFrame m #[(.int x0), (.int x1), (.int x2), (.int x3), (.int x4)] maxLocals = mkF m 0 #[.val (.int x0), .val (.int x1), .val (.int x2), .val (.int x3), .val (.int x4), .unset, .unset, .unset, .unset, .unset, .unset, .unset, .unset, .unset, .unset, .unset] [] := by first | (simp [entryFrame, mkF, argsToLocals, Value.category, maxLocals]; done) | rfl
set_option maxRecDepth 65536 in
set_option maxHeartbeats 40000000 in
theorem rm0 (l : Launch) (Z : State) (a0 : Array Value) (hw : ∀ d ∈ tables_1, d.before a0 Z = true) (ws : List Jvm.Cond) (h0 : Heap) (n0 : Nat) (Z0 : n0 ≤ h0.size) (i0 i1 i2 i3 i4 : Int32) (cz : Int32) (hcz : ¬ cz = 0) (SZ : Sta Z Z.heap "java/lang/String" "COMPACT_STRINGS" "Z" (.int cz)) (O0 : Old Z n0 h0) (fv : Value) (rf : fv.isRef = true) (SF : Sta Z Z.heap "jdk/internal/util/Preconditions" "SIOOBE_FORMATTER" "Ljava/util/function/BiFunction;" fv) :
    ctrHW l Z consts_1 x code maxLocals ret ws room_1 32 4288 #[(.int i0), (.int i1), (.int i2), (.int i3), (.int i4)] h0 (own_Q n0) := by
  refine ctrHW_of (plainFor_of_name pn0) ?_
  intro p e s m below meth jc s₁ hx hby hml hret hlk hnm hown hZ e0 hsh hH hS X0
  have hk := Nat.le_refl h0.size
  have N0 := Fr.nil n0
  have hg : ∀ (i : Nat) {d : Jvm.Cond}, tables_1[i]? = some d → d.before a0 Z = true := fun i d q => hw d (List.mem_of_getElem? q)
  refine DnW.cast (ef0_IIIII m i0 i1 i2 i3 i4) ?_
  show DnW p e below s _ _ _ (s₁.setTop (mkF m 0 #[.val (.int i0), .val (.int i1), .val (.int i2), .val (.int i3), .val (.int i4), .unset, .unset, .unset, .unset, .unset, .unset, .unset, .unset, .unset, .unset, .unset] []))
  refine DnW.of (fun tt_ zz_ => XS.iconst X0.here hx rfl (hb hby at_0) zz_) ?_
  refine DnW.of (fun tt_ zz_ => XS.iload X0.here hx rfl (hb hby at_1) rfl zz_) ?_
  refine DnW.of (fun tt_ zz_ => XS.iconst X0.here hx rfl (hb hby at_3) zz_) ?_
  refine DnW.of (fun tt_ zz_ => XS.iand X0.here hx rfl (hb hby at_4) rfl zz_) ?_
  show DnW p e below s (own_Q n0) 32 4288 (s₁.setTop (mkF m 5 #[.val (.int i0), .val (.int i1), .val (.int i2), .val (.int i3), .val (.int i4), .unset, .unset, .unset, .unset, .unset, .unset, .unset, .unset, .unset, .unset, .unset] [(.int (i4 &&& (3 : Int32))), (.int (1 : Int32))]))
  refine DnW.of (fun tt_ zz_ => XS.iadd X0.here hx rfl (hb hby at_5) rfl zz_) ?_
  refine DnW.of (fun tt_ zz_ => XS.istore X0.here hx rfl (hb hby at_6) rfl (l' := #[.val (.int i0), .val (.int i1), .val (.int i2), .val (.int i3), .val (.int i4), .val (.int ((1 : Int32) + (i4 &&& (3 : Int32)))), .unset, .unset, .unset, .unset, .unset, .unset, .unset, .unset, .unset, .unset]) rfl zz_) ?_
  refine DnW.of (fun tt_ zz_ => XS.iloadN X0.here hx rfl (hb hby at_8) rfl zz_) ?_
  refine DnW.of (fun tt_ zz_ => XS.iload X0.here hx rfl (hb hby at_9) rfl zz_) ?_
  show DnW p e below s (own_Q n0) 32 4288 (s₁.setTop (mkF m 11 #[.val (.int i0), .val (.int i1), .val (.int i2), .val (.int i3), .val (.int i4), .val (.int ((1 : Int32) + (i4 &&& (3 : Int32)))), .unset, .unset, .unset, .unset, .unset, .unset, .unset, .unset, .unset, .unset] [(.int i4), (.int i0)]))
  refine DnW.of (fun tt_ zz_ => XS.iconst X0.here hx rfl (hb hby at_11) zz_) ?_
  show DnW p e below s (own_Q n0) 32 4288 (s₁.setTop (mkF m 12 #[.val (.int i0), .val (.int i1), .val (.int i2), .val (.int i3), .val (.int i4), .val (.int ((1 : Int32) + (i4 &&& (3 : Int32)))), .unset, .unset, .unset, .unset, .unset, .unset, .unset, .unset, .unset, .unset] [(.int (2 : Int32)), (.int i4), (.int i0)]))
  obtain ⟨v170, T170, L170, Q170, X170, st170⟩ := cSt X0 hx hZ (y := (⟨"com/example/vellum/vellum/types/DvUriFragmentIdPinLaw", "pick", "(III)C"⟩ : MethodName)) hown (hg 0 rfl) (hg 1 rfl) (hg 2 rfl) (hg 3 rfl) (by decide) (argsL := [(.int i0), (.int i4), (.int (2 : Int32))]) (rest := []) (rmPi l Z a0 hw h0 n0 Z0 i0 i4 (2 : Int32)) e0  0 (by decide) (by decide) (by decide) (by decide) (g := (mkF m 12 #[.val (.int i0), .val (.int i1), .val (.int i2), .val (.int i3), .val (.int i4), .val (.int ((1 : Int32) + (i4 &&& (3 : Int32)))), .unset, .unset, .unset, .unset, .unset, .unset, .unset, .unset, .unset, .unset] [(.int (2 : Int32)), (.int i4), (.int i0)])) rfl (by rw [hml]; rfl) (lenOf pd26 rfl) rfl (by show 2 * 0 + _ ≤ _; exact Nat.le_of_eq rfl) (hb hby at_12)
  obtain ⟨⟨c0, rfl, y0⟩, Mp0, e170⟩ := Q170
  refine DnW.of st170 ?_
  show DnW p e below s (own_Q n0) 32 4288 (T170.setTop (mkF m 15 #[.val (.int i0), .val (.int i1), .val (.int i2), .val (.int i3), .val (.int i4), .val (.int ((1 : Int32) + (i4 &&& (3 : Int32)))), .unset, .unset, .unset, .unset, .unset, .unset, .unset, .unset, .unset, .unset] [(.int c0)]))
  refine DnW.of (fun tt_ zz_ => XS.istore X170.here hx rfl (hb hby at_15) rfl (l' := #[.val (.int i0), .val (.int i1), .val (.int i2), .val (.int i3), .val (.int i4), .val (.int ((1 : Int32) + (i4 &&& (3 : Int32)))), .val (.int c0), .unset, .unset, .unset, .unset, .unset, .unset, .unset, .unset, .unset]) rfl zz_) ?_
  refine DnW.of (fun tt_ zz_ => XS.iloadN X170.here hx rfl (hb hby at_17) rfl zz_) ?_
  refine DnW.of (fun tt_ zz_ => XS.iload X170.here hx rfl (hb hby at_18) rfl zz_) ?_
  refine DnW.of (fun tt_ zz_ => XS.iconst X170.here hx rfl (hb hby at_20) zz_) ?_
  show DnW p e below s (own_Q n0) 32 4288 (T170.setTop (mkF m 21 #[.val (.int i0), .val (.int i1), .val (.int i2), .val (.int i3), .val (.int i4), .val (.int ((1 : Int32) + (i4 &&& (3 : Int32)))), .val (.int c0), .unset, .unset, .unset, .unset, .unset, .unset, .unset, .unset, .unset] [(.int (3 : Int32)), (.int i4), (.int i1)]))
  obtain ⟨v171, T171, L171, Q171, X171, st171⟩ := cSt X170 hx hZ (y := (⟨"com/example/vellum/vellum/types/DvUriFragmentIdPinLaw", "pick", "(III)C"⟩ : MethodName)) hown (hg 0 rfl) (hg 1 rfl) (hg 2 rfl) (hg 3 rfl) (by decide) (argsL := [(.int i1), (.int i4), (.int (3 : Int32))]) (rest := []) (rmPi l Z a0 hw h0 n0 Z0 i1 i4 (3 : Int32)) e170  0 (by decide) (by decide) (by decide) (by decide) (g := (mkF m 21 #[.val (.int i0), .val (.int i1), .val (.int i2), .val (.int i3), .val (.int i4), .val (.int ((1 : Int32) + (i4 &&& (3 : Int32)))), .val (.int c0), .unset, .unset, .unset, .unset, .unset, .unset, .unset, .unset, .unset] [(.int (3 : Int32)), (.int i4), (.int i1)])) rfl (by rw [hml]; rfl) (lenOf pd26 rfl) rfl (by show 2 * 0 + _ ≤ _; exact Nat.le_of_eq rfl) (hb hby at_21)
  obtain ⟨⟨c1, rfl, y1⟩, Mp1, e171⟩ := Q171
  refine DnW.of st171 ?_
  show DnW p e below s (own_Q n0) 32 4288 (T171.setTop (mkF m 24 #[.val (.int i0), .val (.int i1), .val (.int i2), .val (.int i3), .val (.int i4), .val (.int ((1 : Int32) + (i4 &&& (3 : Int32)))), .val (.int c0), .unset, .unset, .unset, .unset, .unset, .unset, .unset, .unset, .unset] [(.int c1)]))
  refine DnW.of (fun tt_ zz_ => XS.istore X171.here hx rfl (hb hby at_24) rfl (l' := #[.val (.int i0), .val (.int i1), .val (.int i2), .val (.int i3), .val (.int i4), .val (.int ((1 : Int32) + (i4 &&& (3 : Int32)))), .val (.int c0), .val (.int c1), .unset, .unset, .unset, .unset, .unset, .unset, .unset, .unset]) rfl zz_) ?_
  refine DnW.of (fun tt_ zz_ => XS.iloadN X171.here hx rfl (hb hby at_26) rfl zz_) ?_
  refine DnW.of (fun tt_ zz_ => XS.iload X171.here hx rfl (hb hby at_27) rfl zz_) ?_
  refine DnW.of (fun tt_ zz_ => XS.iconst X171.here hx rfl (hb hby at_29) zz_) ?_
  show DnW p e below s (own_Q n0) 32 4288 (T171.setTop (mkF m 30 #[.val (.int i0), .val (.int i1), .val (.int i2), .val (.int i3), .val (.int i4), .val (.int ((1 : Int32) + (i4 &&& (3 : Int32)))), .val (.int c0), .val (.int c1), .unset, .unset, .unset, .unset, .unset, .unset, .unset, .unset] [(.int (4 : Int32)), (.int i4), (.int i2)]))
  obtain ⟨v172, T172, L172, Q172, X172, st172⟩ := cSt X171 hx hZ (y := (⟨"com/example/vellum/vellum/types/DvUriFragmentIdPinLaw", "pick", "(III)C"⟩ : MethodName)) hown (hg 0 rfl) (hg 1 rfl) (hg 2 rfl) (hg 3 rfl) (by decide) (argsL := [(.int i2), (.int i4), (.int (4 : Int32))]) (rest := []) (rmPi l Z a0 hw h0 n0 Z0 i2 i4 (4 : Int32)) e171  0 (by decide) (by decide) (by decide) (by decide) (g := (mkF m 30 #[.val (.int i0), .val (.int i1), .val (.int i2), .val (.int i3), .val (.int i4), .val (.int ((1 : Int32) + (i4 &&& (3 : Int32)))), .val (.int c0), .val (.int c1), .unset, .unset, .unset, .unset, .unset, .unset, .unset, .unset] [(.int (4 : Int32)), (.int i4), (.int i2)])) rfl (by rw [hml]; rfl) (lenOf pd26 rfl) rfl (by show 2 * 0 + _ ≤ _; exact Nat.le_of_eq rfl) (hb hby at_30)
  obtain ⟨⟨c2, rfl, y2⟩, Mp2, e172⟩ := Q172
  refine DnW.of st172 ?_
  show DnW p e below s (own_Q n0) 32 4288 (T172.setTop (mkF m 33 #[.val (.int i0), .val (.int i1), .val (.int i2), .val (.int i3), .val (.int i4), .val (.int ((1 : Int32) + (i4 &&& (3 : Int32)))), .val (.int c0), .val (.int c1), .unset, .unset, .unset, .unset, .unset, .unset, .unset, .unset] [(.int c2)]))
  refine DnW.of (fun tt_ zz_ => XS.istore X172.here hx rfl (hb hby at_33) rfl (l' := #[.val (.int i0), .val (.int i1), .val (.int i2), .val (.int i3), .val (.int i4), .val (.int ((1 : Int32) + (i4 &&& (3 : Int32)))), .val (.int c0), .val (.int c1), .val (.int c2), .unset, .unset, .unset, .unset, .unset, .unset, .unset]) rfl zz_) ?_
  refine DnW.of (fun tt_ zz_ => XS.iloadN X172.here hx rfl (hb hby at_35) rfl zz_) ?_
  refine DnW.of (fun tt_ zz_ => XS.iload X172.here hx rfl (hb hby at_36) rfl zz_) ?_
  refine DnW.of (fun tt_ zz_ => XS.iconst X172.here hx rfl (hb hby at_38) zz_) ?_
  show DnW p e below s (own_Q n0) 32 4288 (T172.setTop (mkF m 39 #[.val (.int i0), .val (.int i1), .val (.int i2), .val (.int i3), .val (.int i4), .val (.int ((1 : Int32) + (i4 &&& (3 : Int32)))), .val (.int c0), .val (.int c1), .val (.int c2), .unset, .unset, .unset, .unset, .unset, .unset, .unset] [(.int (5 : Int32)), (.int i4), (.int i3)]))
  obtain ⟨v173, T173, L173, Q173, X173, st173⟩ := cSt X172 hx hZ (y := (⟨"com/example/vellum/vellum/types/DvUriFragmentIdPinLaw", "pick", "(III)C"⟩ : MethodName)) hown (hg 0 rfl) (hg 1 rfl) (hg 2 rfl) (hg 3 rfl) (by decide) (argsL := [(.int i3), (.int i4), (.int (5 : Int32))]) (rest := []) (rmPi l Z a0 hw h0 n0 Z0 i3 i4 (5 : Int32)) e172  0 (by decide) (by decide) (by decide) (by decide) (g := (mkF m 39 #[.val (.int i0), .val (.int i1), .val (.int i2), .val (.int i3), .val (.int i4), .val (.int ((1 : Int32) + (i4 &&& (3 : Int32)))), .val (.int c0), .val (.int c1), .val (.int c2), .unset, .unset, .unset, .unset, .unset, .unset, .unset] [(.int (5 : Int32)), (.int i4), (.int i3)])) rfl (by rw [hml]; rfl) (lenOf pd26 rfl) rfl (by show 2 * 0 + _ ≤ _; exact Nat.le_of_eq rfl) (hb hby at_39)
  obtain ⟨⟨c3, rfl, y3⟩, Mp3, e173⟩ := Q173
  refine DnW.of st173 ?_
  show DnW p e below s (own_Q n0) 32 4288 (T173.setTop (mkF m 42 #[.val (.int i0), .val (.int i1), .val (.int i2), .val (.int i3), .val (.int i4), .val (.int ((1 : Int32) + (i4 &&& (3 : Int32)))), .val (.int c0), .val (.int c1), .val (.int c2), .unset, .unset, .unset, .unset, .unset, .unset, .unset] [(.int c3)]))
  refine DnW.of (fun tt_ zz_ => XS.istore X173.here hx rfl (hb hby at_42) rfl (l' := #[.val (.int i0), .val (.int i1), .val (.int i2), .val (.int i3), .val (.int i4), .val (.int ((1 : Int32) + (i4 &&& (3 : Int32)))), .val (.int c0), .val (.int c1), .val (.int c2), .val (.int c3), .unset, .unset, .unset, .unset, .unset, .unset]) rfl zz_) ?_
  refine DnW.of (fun tt_ zz_ => XS.iconst X173.here hx rfl (hb hby at_44) zz_) ?_
  show DnW p e below s (own_Q n0) 32 4288 (T173.setTop (mkF m 45 #[.val (.int i0), .val (.int i1), .val (.int i2), .val (.int i3), .val (.int i4), .val (.int ((1 : Int32) + (i4 &&& (3 : Int32)))), .val (.int c0), .val (.int c1), .val (.int c2), .val (.int c3), .unset, .unset, .unset, .unset, .unset, .unset] [(.int (4 : Int32))]))
  obtain ⟨T174, h174, k174, X174, e174, E174, A174, st174⟩ := newP X173 hx hZ (hg 4 rfl) e173 (g := (mkF m 45 #[.val (.int i0), .val (.int i1), .val (.int i2), .val (.int i3), .val (.int i4), .val (.int ((1 : Int32) + (i4 &&& (3 : Int32)))), .val (.int c0), .val (.int c1), .val (.int c2), .val (.int c3), .unset, .unset, .unset, .unset, .unset, .unset] [(.int (4 : Int32))])) rfl (hb hby at_45) rfl (by decide) (cap := 4) (by decide) (by decide) (by decide) (by decide)
  obtain ⟨b174, g174⟩ : ∃ z, z = h0.size := ⟨_, rfl⟩
  rw [← g174] at A174 st174
  refine DnW.of st174 ?_
  show DnW p e below s (own_Q n0) 32 4288 (T174.setTop (mkF m 47 #[.val (.int i0), .val (.int i1), .val (.int i2), .val (.int i3), .val (.int i4), .val (.int ((1 : Int32) + (i4 &&& (3 : Int32)))), .val (.int c0), .val (.int c1), .val (.int c2), .val (.int c3), .unset, .unset, .unset, .unset, .unset, .unset] [(.ref b174)]))
  have RC_g : n0 ≤ b174 := g174 ▸ Z0
  have RC_x : h0.size ≤ b174 := g174 ▸ (⟨Nat.le_refl _, fun _ _ r => r⟩ : Ext h0 h0).1
  have RC_R : Arh Z h174 b174 k174 .char 4 [] [] (.int 0) := (Arv.new A174 (by decide)).arh
  refine DnW.of (fun tt_ zz_ => XS.dup X174.here hx rfl (hb hby at_47) rfl rfl zz_) ?_
  refine DnW.of (fun tt_ zz_ => XS.iconst X174.here hx rfl (hb hby at_48) zz_) ?_
  refine DnW.of (fun tt_ zz_ => XS.iload X174.here hx rfl (hb hby at_49) rfl zz_) ?_
  show DnW p e below s (own_Q n0) 32 4288 (T174.setTop (mkF m 51 #[.val (.int i0), .val (.int i1), .val (.int i2), .val (.int i3), .val (.int i4), .val (.int ((1 : Int32) + (i4 &&& (3 : Int32)))), .val (.int c0), .val (.int c1), .val (.int c2), .val (.int c3), .unset, .unset, .unset, .unset, .unset, .unset] [(.int c0), (.int (0 : Int32)), (.ref b174), (.ref b174)]))
  obtain ⟨c175, A_175, p175, S175, P175, H175, G175⟩ := RC_R
  obtain ⟨T176, h176, X176, e176, W176, st176⟩ := stC X174 hx hZ e174 A_175 (j := (0 : Int32)) (inb_of S175 (by decide)) (g := (mkF m 51 #[.val (.int i0), .val (.int i1), .val (.int i2), .val (.int i3), .val (.int i4), .val (.int ((1 : Int32) + (i4 &&& (3 : Int32)))), .val (.int c0), .val (.int c1), .val (.int c2), .val (.int c3), .unset, .unset, .unset, .unset, .unset, .unset] [(.int c0), (.int (0 : Int32)), (.ref b174), (.ref b174)])) rfl rfl (hb hby at_51)
  refine DnW.of st176 ?_
  show DnW p e below s (own_Q n0) 32 4288 (T176.setTop (mkF m 52 #[.val (.int i0), .val (.int i1), .val (.int i2), .val (.int i3), .val (.int i4), .val (.int ((1 : Int32) + (i4 &&& (3 : Int32)))), .val (.int c0), .val (.int c1), .val (.int c2), .val (.int c3), .unset, .unset, .unset, .unset, .unset, .unset] [(.ref b174)]))
  have R_175 := Arh.push A_175 p175 S175 P175 H175 G175 (v := (.int (nar .char c0))) (fits_nar_char _) W176 (inb_of S175 (by decide))
  have N175 := Fr.snoc X176 (Fr.app (Fr.app (Fr.app (Fr.app N0 Mp0) Mp1) Mp2) Mp3) RC_g
  rw [own_nc y0] at R_175
  refine DnW.of (fun tt_ zz_ => XS.dup X176.here hx rfl (hb hby at_52) rfl rfl zz_) ?_
  refine DnW.of (fun tt_ zz_ => XS.iconst X176.here hx rfl (hb hby at_53) zz_) ?_
  refine DnW.of (fun tt_ zz_ => XS.iload X176.here hx rfl (hb hby at_54) rfl zz_) ?_
  show DnW p e below s (own_Q n0) 32 4288 (T176.setTop (mkF m 56 #[.val (.int i0), .val (.int i1), .val (.int i2), .val (.int i3), .val (.int i4), .val (.int ((1 : Int32) + (i4 &&& (3 : Int32)))), .val (.int c0), .val (.int c1), .val (.int c2), .val (.int c3), .unset, .unset, .unset, .unset, .unset, .unset] [(.int c1), (.int (1 : Int32)), (.ref b174), (.ref b174)]))
  obtain ⟨c177, A_177, p177, S177, P177, H177, G177⟩ := R_175
  obtain ⟨T178, h178, X178, e178, W178, st178⟩ := stC X176 hx hZ e176 A_177 (j := (1 : Int32)) (inb_of S177 (by decide)) (g := (mkF m 56 #[.val (.int i0), .val (.int i1), .val (.int i2), .val (.int i3), .val (.int i4), .val (.int ((1 : Int32) + (i4 &&& (3 : Int32)))), .val (.int c0), .val (.int c1), .val (.int c2), .val (.int c3), .unset, .unset, .unset, .unset, .unset, .unset] [(.int c1), (.int (1 : Int32)), (.ref b174), (.ref b174)])) rfl rfl (hb hby at_56)
  refine DnW.of st178 ?_
  show DnW p e below s (own_Q n0) 32 4288 (T178.setTop (mkF m 57 #[.val (.int i0), .val (.int i1), .val (.int i2), .val (.int i3), .val (.int i4), .val (.int ((1 : Int32) + (i4 &&& (3 : Int32)))), .val (.int c0), .val (.int c1), .val (.int c2), .val (.int c3), .unset, .unset, .unset, .unset, .unset, .unset] [(.ref b174)]))
  have R_177 := Arh.push A_177 p177 S177 P177 H177 G177 (v := (.int (nar .char c1))) (fits_nar_char _) W178 (inb_of S177 (by decide))
  have N177 := Fr.snoc X178 N175 RC_g
  rw [own_nc y1] at R_177
  refine DnW.of (fun tt_ zz_ => XS.dup X178.here hx rfl (hb hby at_57) rfl rfl zz_) ?_
  refine DnW.of (fun tt_ zz_ => XS.iconst X178.here hx rfl (hb hby at_58) zz_) ?_
  refine DnW.of (fun tt_ zz_ => XS.iload X178.here hx rfl (hb hby at_59) rfl zz_) ?_
  show DnW p e below s (own_Q n0) 32 4288 (T178.setTop (mkF m 61 #[.val (.int i0), .val (.int i1), .val (.int i2), .val (.int i3), .val (.int i4), .val (.int ((1 : Int32) + (i4 &&& (3 : Int32)))), .val (.int c0), .val (.int c1), .val (.int c2), .val (.int c3), .unset, .unset, .unset, .unset, .unset, .unset] [(.int c2), (.int (2 : Int32)), (.ref b174), (.ref b174)]))
  obtain ⟨c179, A_179, p179, S179, P179, H179, G179⟩ := R_177
  obtain ⟨T180, h180, X180, e180, W180, st180⟩ := stC X178 hx hZ e178 A_179 (j := (2 : Int32)) (inb_of S179 (by decide)) (g := (mkF m 61 #[.val (.int i0), .val (.int i1), .val (.int i2), .val (.int i3), .val (.int i4), .val (.int ((1 : Int32) + (i4 &&& (3 : Int32)))), .val (.int c0), .val (.int c1), .val (.int c2), .val (.int c3), .unset, .unset, .unset, .unset, .unset, .unset] [(.int c2), (.int (2 : Int32)), (.ref b174), (.ref b174)])) rfl rfl (hb hby at_61)
  refine DnW.of st180 ?_
  show DnW p e below s (own_Q n0) 32 4288 (T180.setTop (mkF m 62 #[.val (.int i0), .val (.int i1), .val (.int i2), .val (.int i3), .val (.int i4), .val (.int ((1 : Int32) + (i4 &&& (3 : Int32)))), .val (.int c0), .val (.int c1), .val (.int c2), .val (.int c3), .unset, .unset, .unset, .unset, .unset, .unset] [(.ref b174)]))
  have R_179 := Arh.push A_179 p179 S179 P179 H179 G179 (v := (.int (nar .char c2))) (fits_nar_char _) W180 (inb_of S179 (by decide))
  have N179 := Fr.snoc X180 N177 RC_g
  rw [own_nc y2] at R_179
  refine DnW.of (fun tt_ zz_ => XS.dup X180.here hx rfl (hb hby at_62) rfl rfl zz_) ?_
  refine DnW.of (fun tt_ zz_ => XS.iconst X180.here hx rfl (hb hby at_63) zz_) ?_
  refine DnW.of (fun tt_ zz_ => XS.iload X180.here hx rfl (hb hby at_64) rfl zz_) ?_
  show DnW p e below s (own_Q n0) 32 4288 (T180.setTop (mkF m 66 #[.val (.int i0), .val (.int i1), .val (.int i2), .val (.int i3), .val (.int i4), .val (.int ((1 : Int32) + (i4 &&& (3 : Int32)))), .val (.int c0), .val (.int c1), .val (.int c2), .val (.int c3), .unset, .unset, .unset, .unset, .unset, .unset] [(.int c3), (.int (3 : Int32)), (.ref b174), (.ref b174)]))
  obtain ⟨c181, A_181, p181, S181, P181, H181, G181⟩ := R_179
  obtain ⟨T182, h182, X182, e182, W182, st182⟩ := stC X180 hx hZ e180 A_181 (j := (3 : Int32)) (inb_of S181 (by decide)) (g := (mkF m 66 #[.val (.int i0), .val (.int i1), .val (.int i2), .val (.int i3), .val (.int i4), .val (.int ((1 : Int32) + (i4 &&& (3 : Int32)))), .val (.int c0), .val (.int c1), .val (.int c2), .val (.int c3), .unset, .unset, .unset, .unset, .unset, .unset] [(.int c3), (.int (3 : Int32)), (.ref b174), (.ref b174)])) rfl rfl (hb hby at_66)
  refine DnW.of st182 ?_
  show DnW p e below s (own_Q n0) 32 4288 (T182.setTop (mkF m 67 #[.val (.int i0), .val (.int i1), .val (.int i2), .val (.int i3), .val (.int i4), .val (.int ((1 : Int32) + (i4 &&& (3 : Int32)))), .val (.int c0), .val (.int c1), .val (.int c2), .val (.int c3), .unset, .unset, .unset, .unset, .unset, .unset] [(.ref b174)]))
  have R_181 := Arh.push A_181 p181 S181 P181 H181 G181 (v := (.int (nar .char c3))) (fits_nar_char _) W182 (inb_of S181 (by decide))
  have N181 := Fr.snoc X182 N179 RC_g
  rw [own_nc y3] at R_181
  refine DnW.of (fun tt_ zz_ => XS.astore X182.here hx rfl (hb hby at_67) rfl rfl (l' := #[.val (.int i0), .val (.int i1), .val (.int i2), .val (.int i3), .val (.int i4), .val (.int ((1 : Int32) + (i4 &&& (3 : Int32)))), .val (.int c0), .val (.int c1), .val (.int c2), .val (.int c3), .val (.ref b174), .unset, .unset, .unset, .unset, .unset]) rfl zz_) ?_
  refine DnW.of (fun tt_ zz_ => XS.iload X182.here hx rfl (hb hby at_69) rfl zz_) ?_
  refine DnW.of (fun tt_ zz_ => XS.iconst X182.here hx rfl (hb hby at_71) zz_) ?_
  show DnW p e below s (own_Q n0) 32 4288 (T182.setTop (mkF m 72 #[.val (.int i0), .val (.int i1), .val (.int i2), .val (.int i3), .val (.int i4), .val (.int ((1 : Int32) + (i4 &&& (3 : Int32)))), .val (.int c0), .val (.int c1), .val (.int c2), .val (.int c3), .val (.ref b174), .unset, .unset, .unset, .unset, .unset] [(.int (1 : Int32)), (.int ((1 : Int32) + (i4 &&& (3 : Int32))))]))
  have hl := own_len4 i4
  generalize ((1 : Int32) + (i4 &&& (3 : Int32))) = ln at hl ⊢
  show DnW p e below s (own_Q n0) 32 4288 (T182.setTop (mkF m 72 #[.val (.int i0), .val (.int i1), .val (.int i2), .val (.int i3), .val (.int i4), .val (.int ln), .val (.int c0), .val (.int c1), .val (.int c2), .val (.int c3), .val (.ref b174), .unset, .unset, .unset, .unset, .unset] [(.int (1 : Int32)), (.int ln)]))
  have F183 := (((((O0.ext E174).wr W176 RC_g).wr W178 RC_g).wr W180 RC_g).wr W182 RC_g)
  have F184 := (Nat.le_trans (Nat.le_trans (Nat.le_trans (Nat.le_trans (Nat.le_trans Z0 E174.1) (Nat.le_of_eq W176.size.symm)) (Nat.le_of_eq W178.size.symm)) (Nat.le_of_eq W180.size.symm)) (Nat.le_of_eq W182.size.symm))
  have F185 := (Nat.le_trans (Nat.le_trans (Nat.le_trans (Nat.le_trans (Nat.le_trans hk E174.1) (Nat.le_of_eq W176.size.symm)) (Nat.le_of_eq W178.size.symm)) (Nat.le_of_eq W180.size.symm)) (Nat.le_of_eq W182.size.symm))
  have F186 := (own_extK (own_extK (own_extK (own_extK (own_ext2 (⟨Nat.le_refl _, fun _ _ r => r⟩ : Ext h0 h0) E174) (Keep.of_wr W176) RC_x) (Keep.of_wr W178) RC_x) (Keep.of_wr W180) RC_x) (Keep.of_wr W182) RC_x)
  rcases hl with rfl | rfl | rfl | rfl
  · skip
    show DnW p e below s (own_Q n0) 32 4288 (T182.setTop (mkF m 72 #[.val (.int i0), .val (.int i1), .val (.int i2), .val (.int i3), .val (.int i4), .val (.int (1 : Int32)), .val (.int c0), .val (.int c1), .val (.int c2), .val (.int c3), .val (.ref b174), .unset, .unset, .unset, .unset, .unset] [(.int (1 : Int32)), (.int (1 : Int32))]))
    refine DnW.of (fun tt_ zz_ => XS.icmpNo X182.here hx rfl (hb hby at_72) rfl (teq rfl).2 zz_) ?_
    show DnW p e below s (own_Q n0) 32 4288 (T182.setTop (mkF m 75 #[.val (.int i0), .val (.int i1), .val (.int i2), .val (.int i3), .val (.int i4), .val (.int (1 : Int32)), .val (.int c0), .val (.int c1), .val (.int c2), .val (.int c3), .val (.ref b174), .unset, .unset, .unset, .unset, .unset] []))
    obtain ⟨T187, h187, X187, e187, E187, A187, D187, U187, st187⟩ := newO X182 hx hZ hown (hg 5 rfl) (hg 6 rfl) (hg 7 rfl) e182 (g := (mkF m 75 #[.val (.int i0), .val (.int i1), .val (.int i2), .val (.int i3), .val (.int i4), .val (.int (1 : Int32)), .val (.int c0), .val (.int c1), .val (.int c2), .val (.int c3), .val (.ref b174), .unset, .unset, .unset, .unset, .unset] [])) rfl (hb hby at_75) (by decide) (by decide)
    obtain ⟨b187, g187⟩ : ∃ z, z = h182.size := ⟨_, rfl⟩
    rw [← g187] at A187 D187 U187 st187
    refine DnW.of st187 ?_
    show DnW p e below s (own_Q n0) 32 4288 (T187.setTop (mkF m 78 #[.val (.int i0), .val (.int i1), .val (.int i2), .val (.int i3), .val (.int i4), .val (.int (1 : Int32)), .val (.int c0), .val (.int c1), .val (.int c2), .val (.int c3), .val (.ref b174), .unset, .unset, .unset, .unset, .unset] [(.ref b187)]))
    have F_value_187 : Fld Z h187 b187 "java/lang/String" "value" "[B" .null := D187 (Or.inr (hg 33 rfl)) (ty := (.array .byte)) (by decide)
    have F_coder_187 : Fld Z h187 b187 "java/lang/String" "coder" "B" (.int (0 : Int32)) := D187 (Or.inr (hg 31 rfl)) (ty := .byte) (by decide)
    have n188 : b174 ≠ b187 := Nat.ne_of_lt (g187 ▸ R_181.lt)
    have gsa : n0 ≤ b187 := g187 ▸ F184
    have xsa : h0.size ≤ b187 := g187 ▸ F186.1
    refine DnW.of (fun tt_ zz_ => XS.dup X187.here hx rfl (hb hby at_78) rfl rfl zz_) ?_
    refine DnW.of (fun tt_ zz_ => XS.iconst X187.here hx rfl (hb hby at_79) zz_) ?_
    show DnW p e below s (own_Q n0) 32 4288 (T187.setTop (mkF m 80 #[.val (.int i0), .val (.int i1), .val (.int i2), .val (.int i3), .val (.int i4), .val (.int (1 : Int32)), .val (.int c0), .val (.int c1), .val (.int c2), .val (.int c3), .val (.ref b174), .unset, .unset, .unset, .unset, .unset] [(.int (1 : Int32)), (.ref b187), (.ref b187)]))
    have F189 := (Nat.le_trans F184 E187.1)
    have F190 := (own_ext2 F186 E187)
    obtain ⟨T191, h191, k191, X191, e191, E191, A191, st191⟩ := newP X187 hx hZ (hg 4 rfl) e187 (g := (mkF m 80 #[.val (.int i0), .val (.int i1), .val (.int i2), .val (.int i3), .val (.int i4), .val (.int (1 : Int32)), .val (.int c0), .val (.int c1), .val (.int c2), .val (.int c3), .val (.ref b174), .unset, .unset, .unset, .unset, .unset] [(.int (1 : Int32)), (.ref b187), (.ref b187)])) rfl (hb hby at_80) rfl (by decide) (cap := 4) (by decide) (by decide) (by decide) (by decide)
    obtain ⟨b191, g191⟩ : ∃ z, z = h187.size := ⟨_, rfl⟩
    rw [← g191] at A191 st191
    refine DnW.of st191 ?_
    show DnW p e below s (own_Q n0) 32 4288 (T191.setTop (mkF m 82 #[.val (.int i0), .val (.int i1), .val (.int i2), .val (.int i3), .val (.int i4), .val (.int (1 : Int32)), .val (.int c0), .val (.int c1), .val (.int c2), .val (.int c3), .val (.ref b174), .unset, .unset, .unset, .unset, .unset] [(.ref b191), (.ref b187), (.ref b187)]))
    have F192 := (R_181.ext E187)
    have n193 : b174 ≠ b191 := Nat.ne_of_lt (g191 ▸ F192.lt)
    have n194 : b187 ≠ b191 := Nat.ne_of_lt (g191 ▸ A187.lt)
    have RN_g : n0 ≤ b191 := g191 ▸ F189
    have RN_x : h0.size ≤ b191 := g191 ▸ F190.1
    have RN_R : Arh Z h191 b191 k191 .char 1 [] [] (.int 0) := (Arv.new A191 (by decide)).arh
    refine DnW.of (fun tt_ zz_ => XS.dup X191.here hx rfl (hb hby at_82) rfl rfl zz_) ?_
    refine DnW.of (fun tt_ zz_ => XS.iconst X191.here hx rfl (hb hby at_83) zz_) ?_
    refine DnW.of (fun tt_ zz_ => XS.iload X191.here hx rfl (hb hby at_84) rfl zz_) ?_
    show DnW p e below s (own_Q n0) 32 4288 (T191.setTop (mkF m 86 #[.val (.int i0), .val (.int i1), .val (.int i2), .val (.int i3), .val (.int i4), .val (.int (1 : Int32)), .val (.int c0), .val (.int c1), .val (.int c2), .val (.int c3), .val (.ref b174), .unset, .unset, .unset, .unset, .unset] [(.int c0), (.int (0 : Int32)), (.ref b191), (.ref b191), (.ref b187), (.ref b187)]))
    obtain ⟨c195, A_195, p195, S195, P195, H195, G195⟩ := RN_R
    obtain ⟨T196, h196, X196, e196, W196, st196⟩ := stC X191 hx hZ e191 A_195 (j := (0 : Int32)) (inb_of S195 (by decide)) (g := (mkF m 86 #[.val (.int i0), .val (.int i1), .val (.int i2), .val (.int i3), .val (.int i4), .val (.int (1 : Int32)), .val (.int c0), .val (.int c1), .val (.int c2), .val (.int c3), .val (.ref b174), .unset, .unset, .unset, .unset, .unset] [(.int c0), (.int (0 : Int32)), (.ref b191), (.ref b191), (.ref b187), (.ref b187)])) rfl rfl (hb hby at_86)
    refine DnW.of st196 ?_
    show DnW p e below s (own_Q n0) 32 4288 (T196.setTop (mkF m 87 #[.val (.int i0), .val (.int i1), .val (.int i2), .val (.int i3), .val (.int i4), .val (.int (1 : Int32)), .val (.int c0), .val (.int c1), .val (.int c2), .val (.int c3), .val (.ref b174), .unset, .unset, .unset, .unset, .unset] [(.ref b191), (.ref b187), (.ref b187)]))
    have R_195 := Arh.push A_195 p195 S195 P195 H195 G195 (v := (.int (nar .char c0))) (fits_nar_char _) W196 (inb_of S195 (by decide))
    have N195 := Fr.snoc X196 N181 RN_g
    rw [own_nc y0] at R_195
    have F197 := (((F183.ext E187).ext E191).wr W196 RN_g)
    have F198 := (Nat.le_trans (Nat.le_trans F189 E191.1) (Nat.le_of_eq W196.size.symm))
    have F199 := ((A187.ext E191).wr W196)
    have F200 := ((F_value_187.ext E191).other W196 (Or.inl n194))
    have F201 := ((F_coder_187.ext E191).other W196 (Or.inl n194))
    obtain ⟨v202, T202, L202, Q202, X202, st202⟩ := cIn X196 hx hZ (y := (⟨"java/lang/String", "<init>", "([C)V"⟩ : MethodName)) rfl hown (hg 8 rfl) (hg 9 rfl) (hg 7 rfl) (hg 10 rfl) (by decide) (a := b187) (argsL := [(.ref b191)]) (rest := [(.ref b187)]) (rmS1_1 l Z a0 hw h196 n0 F198 b187 b191 _ cz hcz SZ F197 c0 y0 F199 F200 F201 gsa R_195) e196  1 (by decide) (by decide) (by decide) (by decide) (g := (mkF m 87 #[.val (.int i0), .val (.int i1), .val (.int i2), .val (.int i3), .val (.int i4), .val (.int (1 : Int32)), .val (.int c0), .val (.int c1), .val (.int c2), .val (.int c3), .val (.ref b174), .unset, .unset, .unset, .unset, .unset] [(.ref b191), (.ref b187), (.ref b187)])) rfl (by rw [hml]; rfl) (lenOf pd27 rfl) rfl (by show 2 * 0 + _ ≤ _; exact Nat.le_of_eq rfl) (hb hby at_87)
    obtain ⟨sb, rfl, Ms, Ks, lsb, S1⟩ := Q202
    refine DnW.of st202 ?_
    show DnW p e below s (own_Q n0) 32 4288 (T202.setTop (mkF m 90 #[.val (.int i0), .val (.int i1), .val (.int i2), .val (.int i3), .val (.int i4), .val (.int (1 : Int32)), .val (.int c0), .val (.int c1), .val (.int c2), .val (.int c3), .val (.ref b174), .unset, .unset, .unset, .unset, .unset] [(.ref b187)]))
    refine DnW.of (fun tt_ zz_ => XS.astore X202.here hx rfl (hb hby at_90) rfl rfl (l' := #[.val (.int i0), .val (.int i1), .val (.int i2), .val (.int i3), .val (.int i4), .val (.int (1 : Int32)), .val (.int c0), .val (.int c1), .val (.int c2), .val (.int c3), .val (.ref b174), .val (.ref b187), .unset, .unset, .unset, .unset]) rfl zz_) ?_
    refine DnW.of (fun tt_ zz_ => XS.goto X202.here hx rfl (pc0 := 92) (pc' := 194) rfl (hb hby at_92) (by decide) (by decide) zz_) ?_
    show DnW p e below s (own_Q n0) 32 4288 (T202.setTop (mkF m 194 #[.val (.int i0), .val (.int i1), .val (.int i2), .val (.int i3), .val (.int i4), .val (.int (1 : Int32)), .val (.int c0), .val (.int c1), .val (.int c2), .val (.int c3), .val (.ref b174), .val (.ref b187), .unset, .unset, .unset, .unset] []))
    have F203 := (Nat.le_trans F198 Ks.1)
    have F204 := (own_extK (own_extK (own_ext2 F190 E191) (Keep.of_wr W196) RN_x) Ks xsa)
    obtain ⟨T205, h205, X205, e205, E205, A205, D205, U205, st205⟩ := newO X202 hx hZ hown (hg 34 rfl) (hg 35 rfl) (hg 36 rfl) rfl (g := (mkF m 194 #[.val (.int i0), .val (.int i1), .val (.int i2), .val (.int i3), .val (.int i4), .val (.int (1 : Int32)), .val (.int c0), .val (.int c1), .val (.int c2), .val (.int c3), .val (.ref b174), .val (.ref b187), .unset, .unset, .unset, .unset] [])) rfl (hb hby at_194) (by decide) (by decide)
    obtain ⟨b205, g205⟩ : ∃ z, z = T202.heap.size := ⟨_, rfl⟩
    rw [← g205] at A205 D205 U205 st205
    refine DnW.of st205 ?_
    show DnW p e below s (own_Q n0) 32 4288 (T205.setTop (mkF m 197 #[.val (.int i0), .val (.int i1), .val (.int i2), .val (.int i3), .val (.int i4), .val (.int (1 : Int32)), .val (.int c0), .val (.int c1), .val (.int c2), .val (.int c3), .val (.ref b174), .val (.ref b187), .unset, .unset, .unset, .unset] [(.ref b205)]))
    have F_value_205 : Fld Z h205 b205 "com/example/vellum/vellum/types/DvUri" "value" "Ljava/lang/String;" .null := D205 (Or.inr (hg 83 rfl)) (ty := (.object "java/lang/String")) (by decide)
    have F206 := (((F192.ext E191).other W196 n193).keep Ks (ninS n188 nin0))
    have n207 : b174 ≠ b205 := Nat.ne_of_lt (g205 ▸ F206.lt)
    have d1 : b187 ≠ b205 := Nat.ne_of_lt (g205 ▸ S1.lt.1)
    have d2 : sb ≠ b205 := Nat.ne_of_lt (g205 ▸ S1.lt.2)
    have S2 := S1.ext E205
    have gt : n0 ≤ b205 := g205 ▸ F203
    refine DnW.of (fun tt_ zz_ => XS.dup X205.here hx rfl (hb hby at_197) rfl rfl zz_) ?_
    refine DnW.of (fun tt_ zz_ => XS.aload X205.here hx rfl (hb hby at_198) rfl rfl zz_) ?_
    show DnW p e below s (own_Q n0) 32 4288 (T205.setTop (mkF m 200 #[.val (.int i0), .val (.int i1), .val (.int i2), .val (.int i3), .val (.int i4), .val (.int (1 : Int32)), .val (.int c0), .val (.int c1), .val (.int c2), .val (.int c3), .val (.ref b174), .val (.ref b187), .unset, .unset, .unset, .unset] [(.ref b187), (.ref b205), (.ref b205)]))
    have F208 := (Nat.le_trans F203 E205.1)
    have F209 := (Nat.le_trans (Nat.le_trans (Nat.le_trans (Nat.le_trans (Nat.le_trans F185 E187.1) E191.1) (Nat.le_of_eq W196.size.symm)) Ks.1) E205.1)
    have F210 := (own_ext2 F204 E205)
    have hH2 := hH.ext F210
    obtain ⟨v211, T211, L211, Q211, X211, hS, hZ, hown, hC211, st211⟩ := cIH X205 hx hZ (y := (⟨"com/example/vellum/vellum/types/DvUri", "<init>", "(Ljava/lang/String;)V"⟩ : MethodName)) rfl hown (hg 37 rfl) (hg 38 rfl) (hg 36 rfl) (hg 39 rfl) (by decide) (own_EW hw) hH2 hS F209 (a := b205) (argsL := [(.ref b187)]) (rest := [(.ref b205)]) (rmDU l Z a0 hw h205 n0 F208 b205 b187 sb (1 : Int32) [own_B c0] S2 (by decide) A205 F_value_205 gt) e205  1 (by decide) (by decide) (by decide) (by decide) (g := (mkF m 200 #[.val (.int i0), .val (.int i1), .val (.int i2), .val (.int i3), .val (.int i4), .val (.int (1 : Int32)), .val (.int c0), .val (.int c1), .val (.int c2), .val (.int c3), .val (.ref b174), .val (.ref b187), .unset, .unset, .unset, .unset] [(.ref b187), (.ref b205), (.ref b205)])) rfl (by rw [hml]; rfl) (lenOf pd28 rfl) rfl (by show 2 * 0 + _ ≤ _; exact Nat.le_of_eq rfl) (hb hby at_200)
    obtain ⟨rfl, Md, Kd, FD⟩ := Q211
    refine DnW.of st211 ?_
    show DnW p e below s (own_Q n0) 32 4288 (T211.setTop (mkF m 203 #[.val (.int i0), .val (.int i1), .val (.int i2), .val (.int i3), .val (.int i4), .val (.int (1 : Int32)), .val (.int c0), .val (.int c1), .val (.int c2), .val (.int c3), .val (.ref b174), .val (.ref b187), .unset, .unset, .unset, .unset] [(.ref b205)]))
    have hk2 := Nat.le_refl (T211.heap.size)
    have S3 := S2.keep Kd (ninS d1 nin0) (ninS d2 nin0)
    have ET := A205.keep Kd
    refine DnW.of (fun tt_ zz_ => XS.astore X211.here hx rfl (hb hby at_203) rfl rfl (l' := #[.val (.int i0), .val (.int i1), .val (.int i2), .val (.int i3), .val (.int i4), .val (.int (1 : Int32)), .val (.int c0), .val (.int c1), .val (.int c2), .val (.int c3), .val (.ref b174), .val (.ref b187), .val (.ref b205), .unset, .unset, .unset]) rfl zz_) ?_
    refine DnW.of (fun tt_ zz_ => XS.aload X211.here hx rfl (hb hby at_205) rfl rfl zz_) ?_
    show DnW p e below s (own_Q n0) 32 4288 (T211.setTop (mkF m 207 #[.val (.int i0), .val (.int i1), .val (.int i2), .val (.int i3), .val (.int i4), .val (.int (1 : Int32)), .val (.int c0), .val (.int c1), .val (.int c2), .val (.int c3), .val (.ref b174), .val (.ref b187), .val (.ref b205), .unset, .unset, .unset] [(.ref b205)]))
    have F212 := (((F197.keep Ks (allS gsa all0)).ext E205).keep Kd (allS gt all0))
    have F213 := (Nat.le_trans F208 Kd.1)
    have F214 := ((F206.ext E205).keep Kd (ninS n207 nin0))
    have v0 := own_B35 y0
    by_cases h10 : c0 = 35
    · skip
      have b0_ : own_B c0 = 35 := by rw [h10]; decide
      have hi : own_ix [own_B c0] = (0 : Int32) := by simp [own_ix, b0_]
      have hcut : own_Cut [own_B c0] [] (1 : Int32) (1 : Int32) (0 : Int32) := ⟨by decide, by decide, by decide, by decide, by decide, by decide, by decide, by decide, rfl⟩
      obtain ⟨v215, T215, L215, Q215, X215, hS, hZ, hown, hC215, st215⟩ := cVH X211 hx hZ (C := "com/example/vellum/vellum/types/DvUri") (y := (⟨"com/example/vellum/vellum/types/DvUri", "fragmentId", "()Ljava/lang/String;"⟩ : MethodName)) (z := (⟨"com/example/vellum/vellum/types/DvUri", "fragmentId", "()Ljava/lang/String;"⟩ : MethodName)) hown (hg 84 rfl) (hg 85 rfl) (notFace_of_selects (args := #[]) (mvT hZ (hg 87 rfl))) (hg 87 rfl) (hg 86 rfl) (hg 36 rfl) (hg 88 rfl) (by decide) (own_EW hw) hC211.1 hS hk2 (a := b205) (argsL := []) (rest := []) (rmFS l Z a0 hw T211.heap n0 F213 b187 sb (1 : Int32) [own_B c0] S3 (Or.inl ⟨rfl, _, rfl⟩) cz hcz SZ F212 fv rf SF b205 FD (0 : Int32) hi (by decide) (1 : Int32) (0 : Int32) [] hcut (by decide)) rfl ET 0 (by decide) (by decide) (by decide) (by decide) (g := (mkF m 207 #[.val (.int i0), .val (.int i1), .val (.int i2), .val (.int i3), .val (.int i4), .val (.int (1 : Int32)), .val (.int c0), .val (.int c1), .val (.int c2), .val (.int c3), .val (.ref b174), .val (.ref b187), .val (.ref b205), .unset, .unset, .unset] [(.ref b205)])) rfl (by rw [hml]; rfl) (lenOf pd29 rfl) rfl (by show 2 * 0 + _ ≤ _; exact Nat.le_of_eq rfl) (hb hby at_207)
      obtain ⟨ra, rb, rfl, Mf, Xf, Sr⟩ := Q215
      refine DnW.of st215 ?_
      show DnW p e below s (own_Q n0) 32 4288 (T215.setTop (mkF m 210 #[.val (.int i0), .val (.int i1), .val (.int i2), .val (.int i3), .val (.int i4), .val (.int (1 : Int32)), .val (.int c0), .val (.int c1), .val (.int c2), .val (.int c3), .val (.ref b174), .val (.ref b187), .val (.ref b205), .unset, .unset, .unset] [(.ref ra)]))
      have hk3 := Nat.le_refl (T215.heap.size)
      refine DnW.of (fun tt_ zz_ => XS.astore X215.here hx rfl (hb hby at_210) rfl rfl (l' := #[.val (.int i0), .val (.int i1), .val (.int i2), .val (.int i3), .val (.int i4), .val (.int (1 : Int32)), .val (.int c0), .val (.int c1), .val (.int c2), .val (.int c3), .val (.ref b174), .val (.ref b187), .val (.ref b205), .val (.ref ra), .unset, .unset]) rfl zz_) ?_
      refine DnW.of (fun tt_ zz_ => XS.aload X215.here hx rfl (hb hby at_212) rfl rfl zz_) ?_
      show DnW p e below s (own_Q n0) 32 4288 (T215.setTop (mkF m 214 #[.val (.int i0), .val (.int i1), .val (.int i2), .val (.int i3), .val (.int i4), .val (.int (1 : Int32)), .val (.int c0), .val (.int c1), .val (.int c2), .val (.int c3), .val (.ref b174), .val (.ref b187), .val (.ref b205), .val (.ref ra), .unset, .unset] [(.ref ra)]))
      refine DnW.of (fun tt_ zz_ => XS.ifnonnullYes X215.here hx rfl (pc0 := 214) (pc' := 219) rfl (hb hby at_214) rfl (by decide) (by decide) zz_) ?_
      show DnW p e below s (own_Q n0) 32 4288 (T215.setTop (mkF m 219 #[.val (.int i0), .val (.int i1), .val (.int i2), .val (.int i3), .val (.int i4), .val (.int (1 : Int32)), .val (.int c0), .val (.int c1), .val (.int c2), .val (.int c3), .val (.ref b174), .val (.ref b187), .val (.ref b205), .val (.ref ra), .unset, .unset] []))
      refine DnW.of (fun tt_ zz_ => XS.aload X215.here hx rfl (hb hby at_219) rfl rfl zz_) ?_
      refine DnW.of (fun tt_ zz_ => XS.iload X215.here hx rfl (hb hby at_221) rfl zz_) ?_
      show DnW p e below s (own_Q n0) 32 4288 (T215.setTop (mkF m 223 #[.val (.int i0), .val (.int i1), .val (.int i2), .val (.int i3), .val (.int i4), .val (.int (1 : Int32)), .val (.int c0), .val (.int c1), .val (.int c2), .val (.int c3), .val (.ref b174), .val (.ref b187), .val (.ref b205), .val (.ref ra), .unset, .unset] [(.int (1 : Int32)), (.ref b174)]))
      have F216 := (F212.ext Xf)
      have F217 := (Nat.le_trans F213 Xf.1)
      have F218 := (F214.ext Xf)
      obtain ⟨v219, T219, L219, Q219, X219, st219⟩ := cSt X215 hx hZ (y := (⟨"com/example/vellum/vellum/types/DvUriFragmentIdPinLaw", "firstHash", "([CI)I"⟩ : MethodName)) hown (hg 132 rfl) (hg 133 rfl) (hg 2 rfl) (hg 134 rfl) (by decide) (argsL := [(.ref b174), (.int (1 : Int32))]) (rest := []) (rmFH1 l Z a0 hw T215.heap n0 F217 b174 _ c0 c1 c2 c3 F218) rfl  0 (by decide) (by decide) (by decide) (by decide) (g := (mkF m 223 #[.val (.int i0), .val (.int i1), .val (.int i2), .val (.int i3), .val (.int i4), .val (.int (1 : Int32)), .val (.int c0), .val (.int c1), .val (.int c2), .val (.int c3), .val (.ref b174), .val (.ref b187), .val (.ref b205), .val (.ref ra), .unset, .unset] [(.int (1 : Int32)), (.ref b174)])) rfl (by rw [hml]; rfl) (lenOf pd30 rfl) rfl (by show 2 * 0 + _ ≤ _; exact Nat.le_of_eq rfl) (hb hby at_223)
      rw [show own_fh (1 : Int32) c0 c1 c2 c3 = (0 : Int32) by unfold own_fh; rw [if_pos h10]] at Q219
      obtain ⟨rfl, Mh, e219⟩ := Q219
      refine DnW.of st219 ?_
      show DnW p e below s (own_Q n0) 32 4288 (T219.setTop (mkF m 226 #[.val (.int i0), .val (.int i1), .val (.int i2), .val (.int i3), .val (.int i4), .val (.int (1 : Int32)), .val (.int c0), .val (.int c1), .val (.int c2), .val (.int c3), .val (.ref b174), .val (.ref b187), .val (.ref b205), .val (.ref ra), .unset, .unset] [(.int (0 : Int32))]))
      refine DnW.of (fun tt_ zz_ => XS.istore X219.here hx rfl (hb hby at_226) rfl (l' := #[.val (.int i0), .val (.int i1), .val (.int i2), .val (.int i3), .val (.int i4), .val (.int (1 : Int32)), .val (.int c0), .val (.int c1), .val (.int c2), .val (.int c3), .val (.ref b174), .val (.ref b187), .val (.ref b205), .val (.ref ra), .val (.int (0 : Int32)), .unset]) rfl zz_) ?_
      refine DnW.of (fun tt_ zz_ => XS.iload X219.here hx rfl (hb hby at_228) rfl zz_) ?_
      show DnW p e below s (own_Q n0) 32 4288 (T219.setTop (mkF m 230 #[.val (.int i0), .val (.int i1), .val (.int i2), .val (.int i3), .val (.int i4), .val (.int (1 : Int32)), .val (.int c0), .val (.int c1), .val (.int c2), .val (.int c3), .val (.ref b174), .val (.ref b187), .val (.ref b205), .val (.ref ra), .val (.int (0 : Int32)), .unset] [(.int (0 : Int32))]))
      refine DnW.of (fun tt_ zz_ => XS.ifYes X219.here hx rfl (pc0 := 230) (pc' := 247) rfl (hb hby at_230) rfl ((if0 _ _).trans (flt (by decide)).2.1) (by decide) (by decide) zz_) ?_
      show DnW p e below s (own_Q n0) 32 4288 (T219.setTop (mkF m 247 #[.val (.int i0), .val (.int i1), .val (.int i2), .val (.int i3), .val (.int i4), .val (.int (1 : Int32)), .val (.int c0), .val (.int c1), .val (.int c2), .val (.int c3), .val (.ref b174), .val (.ref b187), .val (.ref b205), .val (.ref ra), .val (.int (0 : Int32)), .unset] []))
      refine DnW.of (fun tt_ zz_ => XS.iload X219.here hx rfl (hb hby at_247) rfl zz_) ?_
      refine DnW.of (fun tt_ zz_ => XS.iload X219.here hx rfl (hb hby at_249) rfl zz_) ?_
      refine DnW.of (fun tt_ zz_ => XS.isub X219.here hx rfl (hb hby at_251) rfl zz_) ?_
      refine DnW.of (fun tt_ zz_ => XS.iconst X219.here hx rfl (hb hby at_252) zz_) ?_
      show DnW p e below s (own_Q n0) 32 4288 (T219.setTop (mkF m 253 #[.val (.int i0), .val (.int i1), .val (.int i2), .val (.int i3), .val (.int i4), .val (.int (1 : Int32)), .val (.int c0), .val (.int c1), .val (.int c2), .val (.int c3), .val (.ref b174), .val (.ref b187), .val (.ref b205), .val (.ref ra), .val (.int (0 : Int32)), .unset] [(.int (1 : Int32)), (.int ((1 : Int32) - (0 : Int32)))]))
      refine DnW.of (fun tt_ zz_ => XS.isub X219.here hx rfl (hb hby at_253) rfl zz_) ?_
      show DnW p e below s (own_Q n0) 32 4288 (T219.setTop (mkF m 254 #[.val (.int i0), .val (.int i1), .val (.int i2), .val (.int i3), .val (.int i4), .val (.int (1 : Int32)), .val (.int c0), .val (.int c1), .val (.int c2), .val (.int c3), .val (.ref b174), .val (.ref b187), .val (.ref b205), .val (.ref ra), .val (.int (0 : Int32)), .unset] [(.int (((1 : Int32) - (0 : Int32)) - (1 : Int32)))]))
      rw [show (((1 : Int32) - (0 : Int32)) - (1 : Int32)) = (0 : Int32) by decide]
      show DnW p e below s (own_Q n0) 32 4288 (T219.setTop (mkF m 254 #[.val (.int i0), .val (.int i1), .val (.int i2), .val (.int i3), .val (.int i4), .val (.int (1 : Int32)), .val (.int c0), .val (.int c1), .val (.int c2), .val (.int c3), .val (.ref b174), .val (.ref b187), .val (.ref b205), .val (.ref ra), .val (.int (0 : Int32)), .unset] [(.int (0 : Int32))]))
      refine DnW.of (fun tt_ zz_ => XS.istore X219.here hx rfl (hb hby at_254) rfl (l' := #[.val (.int i0), .val (.int i1), .val (.int i2), .val (.int i3), .val (.int i4), .val (.int (1 : Int32)), .val (.int c0), .val (.int c1), .val (.int c2), .val (.int c3), .val (.ref b174), .val (.ref b187), .val (.ref b205), .val (.ref ra), .val (.int (0 : Int32)), .val (.int (0 : Int32))]) rfl zz_) ?_
      refine DnW.of (fun tt_ zz_ => XS.aload X219.here hx rfl (hb hby at_256) rfl rfl zz_) ?_
      show DnW p e below s (own_Q n0) 32 4288 (T219.setTop (mkF m 258 #[.val (.int i0), .val (.int i1), .val (.int i2), .val (.int i3), .val (.int i4), .val (.int (1 : Int32)), .val (.int c0), .val (.int c1), .val (.int c2), .val (.int c3), .val (.ref b174), .val (.ref b187), .val (.ref b205), .val (.ref ra), .val (.int (0 : Int32)), .val (.int (0 : Int32))] [(.ref ra)]))
      obtain ⟨v220, T220, L220, Q220, X220, st220⟩ := cVi X219 hx hZ (C := "java/lang/String") (y := (⟨"java/lang/String", "length", "()I"⟩ : MethodName)) (z := (⟨"java/lang/String", "length", "()I"⟩ : MethodName)) hown (hg 135 rfl) (hg 105 rfl) (notFace_of_selects (args := #[]) (mvT hZ (hg 107 rfl))) (hg 107 rfl) (hg 106 rfl) (hg 7 rfl) (hg 108 rfl) (by decide) (a := ra) (argsL := []) (rest := []) (rmLn l Z a0 hw T215.heap n0 F217 ra rb (0 : Int32) [] Sr cz hcz SZ F216) e219 (own_exa Sr) 0 (by decide) (by decide) (by decide) (by decide) (g := (mkF m 258 #[.val (.int i0), .val (.int i1), .val (.int i2), .val (.int i3), .val (.int i4), .val (.int (1 : Int32)), .val (.int c0), .val (.int c1), .val (.int c2), .val (.int c3), .val (.ref b174), .val (.ref b187), .val (.ref b205), .val (.ref ra), .val (.int (0 : Int32)), .val (.int (0 : Int32))] [(.ref ra)])) rfl (by rw [hml]; rfl) (lenOf pd9 rfl) rfl (by show 2 * 0 + _ ≤ _; exact Nat.le_of_eq rfl) (hb hby at_258)
      obtain ⟨rfl, Mq, e220⟩ := Q220
      refine DnW.of st220 ?_
      show DnW p e below s (own_Q n0) 32 4288 (T220.setTop (mkF m 261 #[.val (.int i0), .val (.int i1), .val (.int i2), .val (.int i3), .val (.int i4), .val (.int (1 : Int32)), .val (.int c0), .val (.int c1), .val (.int c2), .val (.int c3), .val (.ref b174), .val (.ref b187), .val (.ref b205), .val (.ref ra), .val (.int (0 : Int32)), .val (.int (0 : Int32))] [(.int (0 : Int32))]))
      refine DnW.of (fun tt_ zz_ => XS.iload X220.here hx rfl (hb hby at_261) rfl zz_) ?_
      show DnW p e below s (own_Q n0) 32 4288 (T220.setTop (mkF m 263 #[.val (.int i0), .val (.int i1), .val (.int i2), .val (.int i3), .val (.int i4), .val (.int (1 : Int32)), .val (.int c0), .val (.int c1), .val (.int c2), .val (.int c3), .val (.ref b174), .val (.ref b187), .val (.ref b205), .val (.ref ra), .val (.int (0 : Int32)), .val (.int (0 : Int32))] [(.int (0 : Int32)), (.int (0 : Int32))]))
      refine DnW.of (fun tt_ zz_ => XS.icmpYes X220.here hx rfl (pc0 := 263) (pc' := 268) rfl (hb hby at_263) rfl (teq rfl).1 (by decide) (by decide) zz_) ?_
      show DnW p e below s (own_Q n0) 32 4288 (T220.setTop (mkF m 268 #[.val (.int i0), .val (.int i1), .val (.int i2), .val (.int i3), .val (.int i4), .val (.int (1 : Int32)), .val (.int c0), .val (.int c1), .val (.int c2), .val (.int c3), .val (.ref b174), .val (.ref b187), .val (.ref b205), .val (.ref ra), .val (.int (0 : Int32)), .val (.int (0 : Int32))] []))
      refine DnW.of (fun tt_ zz_ => XS.aload X220.here hx rfl (hb hby at_268) rfl rfl zz_) ?_
      refine DnW.of (fun tt_ zz_ => XS.aload X220.here hx rfl (hb hby at_270) rfl rfl zz_) ?_
      refine DnW.of (fun tt_ zz_ => XS.iload X220.here hx rfl (hb hby at_272) rfl zz_) ?_
      refine DnW.of (fun tt_ zz_ => XS.iconst X220.here hx rfl (hb hby at_274) zz_) ?_
      show DnW p e below s (own_Q n0) 32 4288 (T220.setTop (mkF m 275 #[.val (.int i0), .val (.int i1), .val (.int i2), .val (.int i3), .val (.int i4), .val (.int (1 : Int32)), .val (.int c0), .val (.int c1), .val (.int c2), .val (.int c3), .val (.ref b174), .val (.ref b187), .val (.ref b205), .val (.ref ra), .val (.int (0 : Int32)), .val (.int (0 : Int32))] [(.int (0 : Int32)), (.int (0 : Int32)), (.ref b174), (.ref ra)]))
      obtain ⟨v221, T221, L221, Q221, X221, st221⟩ := cSt X220 hx hZ (y := (⟨"com/example/vellum/vellum/types/DvUriFragmentIdPinLaw", "same", "(Ljava/lang/String;[CII)Z"⟩ : MethodName)) hown (hg 176 rfl) (hg 177 rfl) (hg 2 rfl) (hg 178 rfl) (by decide) (argsL := [(.ref ra), (.ref b174), (.int (0 : Int32)), (.int (0 : Int32))]) (rest := []) (rmSa l Z a0 hw T215.heap n0 F217 ra rb (0 : Int32) [] Sr cz hcz SZ F216 b174 (0 : Int32) (0 : Int32) (by decide)) e220  0 (by decide) (by decide) (by decide) (by decide) (g := (mkF m 275 #[.val (.int i0), .val (.int i1), .val (.int i2), .val (.int i3), .val (.int i4), .val (.int (1 : Int32)), .val (.int c0), .val (.int c1), .val (.int c2), .val (.int c3), .val (.ref b174), .val (.ref b187), .val (.ref b205), .val (.ref ra), .val (.int (0 : Int32)), .val (.int (0 : Int32))] [(.int (0 : Int32)), (.int (0 : Int32)), (.ref b174), (.ref ra)])) rfl (by rw [hml]; rfl) (lenOf pd31 rfl) rfl (by show 2 * 0 + _ ≤ _; exact Nat.le_of_eq rfl) (hb hby at_275)
      obtain ⟨rfl, Mk0, e221⟩ := Q221
      refine DnW.of st221 ?_
      show DnW p e below s (own_Q n0) 32 4288 (T221.setTop (mkF m 278 #[.val (.int i0), .val (.int i1), .val (.int i2), .val (.int i3), .val (.int i4), .val (.int (1 : Int32)), .val (.int c0), .val (.int c1), .val (.int c2), .val (.int c3), .val (.ref b174), .val (.ref b187), .val (.ref b205), .val (.ref ra), .val (.int (0 : Int32)), .val (.int (0 : Int32))] [(.int (1 : Int32))]))
      refine DnW.of (fun tt_ zz_ => XS.ifNo X221.here hx rfl (hb hby at_278) rfl ((if0 _ _).trans (feq (by decide)).1) zz_) ?_
      show DnW p e below s (own_Q n0) 32 4288 (T221.setTop (mkF m 281 #[.val (.int i0), .val (.int i1), .val (.int i2), .val (.int i3), .val (.int i4), .val (.int (1 : Int32)), .val (.int c0), .val (.int c1), .val (.int c2), .val (.int c3), .val (.ref b174), .val (.ref b187), .val (.ref b205), .val (.ref ra), .val (.int (0 : Int32)), .val (.int (0 : Int32))] []))
      refine DnW.of (fun tt_ zz_ => XS.aload X221.here hx rfl (hb hby at_281) rfl rfl zz_) ?_
      refine DnW.of (fun tt_ zz_ => XS.aload X221.here hx rfl (hb hby at_283) rfl rfl zz_) ?_
      refine DnW.of (fun tt_ zz_ => XS.iload X221.here hx rfl (hb hby at_285) rfl zz_) ?_
      refine DnW.of (fun tt_ zz_ => XS.iconst X221.here hx rfl (hb hby at_287) zz_) ?_
      show DnW p e below s (own_Q n0) 32 4288 (T221.setTop (mkF m 288 #[.val (.int i0), .val (.int i1), .val (.int i2), .val (.int i3), .val (.int i4), .val (.int (1 : Int32)), .val (.int c0), .val (.int c1), .val (.int c2), .val (.int c3), .val (.ref b174), .val (.ref b187), .val (.ref b205), .val (.ref ra), .val (.int (0 : Int32)), .val (.int (0 : Int32))] [(.int (1 : Int32)), (.int (0 : Int32)), (.ref b174), (.ref ra)]))
      obtain ⟨v222, T222, L222, Q222, X222, st222⟩ := cSt X221 hx hZ (y := (⟨"com/example/vellum/vellum/types/DvUriFragmentIdPinLaw", "same", "(Ljava/lang/String;[CII)Z"⟩ : MethodName)) hown (hg 176 rfl) (hg 177 rfl) (hg 2 rfl) (hg 178 rfl) (by decide) (argsL := [(.ref ra), (.ref b174), (.int (0 : Int32)), (.int (1 : Int32))]) (rest := []) (rmSa l Z a0 hw T215.heap n0 F217 ra rb (0 : Int32) [] Sr cz hcz SZ F216 b174 (0 : Int32) (1 : Int32) (by decide)) e221  0 (by decide) (by decide) (by decide) (by decide) (g := (mkF m 288 #[.val (.int i0), .val (.int i1), .val (.int i2), .val (.int i3), .val (.int i4), .val (.int (1 : Int32)), .val (.int c0), .val (.int c1), .val (.int c2), .val (.int c3), .val (.ref b174), .val (.ref b187), .val (.ref b205), .val (.ref ra), .val (.int (0 : Int32)), .val (.int (0 : Int32))] [(.int (1 : Int32)), (.int (0 : Int32)), (.ref b174), (.ref ra)])) rfl (by rw [hml]; rfl) (lenOf pd31 rfl) rfl (by show 2 * 0 + _ ≤ _; exact Nat.le_of_eq rfl) (hb hby at_288)
      obtain ⟨rfl, Mk1, e222⟩ := Q222
      refine DnW.of st222 ?_
      show DnW p e below s (own_Q n0) 32 4288 (T222.setTop (mkF m 291 #[.val (.int i0), .val (.int i1), .val (.int i2), .val (.int i3), .val (.int i4), .val (.int (1 : Int32)), .val (.int c0), .val (.int c1), .val (.int c2), .val (.int c3), .val (.ref b174), .val (.ref b187), .val (.ref b205), .val (.ref ra), .val (.int (0 : Int32)), .val (.int (0 : Int32))] [(.int (1 : Int32))]))
      refine DnW.of (fun tt_ zz_ => XS.ifNo X222.here hx rfl (hb hby at_291) rfl ((if0 _ _).trans (feq (by decide)).1) zz_) ?_
      show DnW p e below s (own_Q n0) 32 4288 (T222.setTop (mkF m 294 #[.val (.int i0), .val (.int i1), .val (.int i2), .val (.int i3), .val (.int i4), .val (.int (1 : Int32)), .val (.int c0), .val (.int c1), .val (.int c2), .val (.int c3), .val (.ref b174), .val (.ref b187), .val (.ref b205), .val (.ref ra), .val (.int (0 : Int32)), .val (.int (0 : Int32))] []))
      refine DnW.of (fun tt_ zz_ => XS.aload X222.here hx rfl (hb hby at_294) rfl rfl zz_) ?_
      refine DnW.of (fun tt_ zz_ => XS.aload X222.here hx rfl (hb hby at_296) rfl rfl zz_) ?_
      refine DnW.of (fun tt_ zz_ => XS.iload X222.here hx rfl (hb hby at_298) rfl zz_) ?_
      refine DnW.of (fun tt_ zz_ => XS.iconst X222.here hx rfl (hb hby at_300) zz_) ?_
      show DnW p e below s (own_Q n0) 32 4288 (T222.setTop (mkF m 301 #[.val (.int i0), .val (.int i1), .val (.int i2), .val (.int i3), .val (.int i4), .val (.int (1 : Int32)), .val (.int c0), .val (.int c1), .val (.int c2), .val (.int c3), .val (.ref b174), .val (.ref b187), .val (.ref b205), .val (.ref ra), .val (.int (0 : Int32)), .val (.int (0 : Int32))] [(.int (2 : Int32)), (.int (0 : Int32)), (.ref b174), (.ref ra)]))
      obtain ⟨v223, T223, L223, Q223, X223, st223⟩ := cSt X222 hx hZ (y := (⟨"com/example/vellum/vellum/types/DvUriFragmentIdPinLaw", "same", "(Ljava/lang/String;[CII)Z"⟩ : MethodName)) hown (hg 176 rfl) (hg 177 rfl) (hg 2 rfl) (hg 178 rfl) (by decide) (argsL := [(.ref ra), (.ref b174), (.int (0 : Int32)), (.int (2 : Int32))]) (rest := []) (rmSa l Z a0 hw T215.heap n0 F217 ra rb (0 : Int32) [] Sr cz hcz SZ F216 b174 (0 : Int32) (2 : Int32) (by decide)) e222  0 (by decide) (by decide) (by decide) (by decide) (g := (mkF m 301 #[.val (.int i0), .val (.int i1), .val (.int i2), .val (.int i3), .val (.int i4), .val (.int (1 : Int32)), .val (.int c0), .val (.int c1), .val (.int c2), .val (.int c3), .val (.ref b174), .val (.ref b187), .val (.ref b205), .val (.ref ra), .val (.int (0 : Int32)), .val (.int (0 : Int32))] [(.int (2 : Int32)), (.int (0 : Int32)), (.ref b174), (.ref ra)])) rfl (by rw [hml]; rfl) (lenOf pd31 rfl) rfl (by show 2 * 0 + _ ≤ _; exact Nat.le_of_eq rfl) (hb hby at_301)
      obtain ⟨rfl, Mk2, e223⟩ := Q223
      refine DnW.of st223 ?_
      show DnW p e below s (own_Q n0) 32 4288 (T223.setTop (mkF m 304 #[.val (.int i0), .val (.int i1), .val (.int i2), .val (.int i3), .val (.int i4), .val (.int (1 : Int32)), .val (.int c0), .val (.int c1), .val (.int c2), .val (.int c3), .val (.ref b174), .val (.ref b187), .val (.ref b205), .val (.ref ra), .val (.int (0 : Int32)), .val (.int (0 : Int32))] [(.int (1 : Int32))]))
      refine DnW.of (fun tt_ zz_ => XS.ifNo X223.here hx rfl (hb hby at_304) rfl ((if0 _ _).trans (feq (by decide)).1) zz_) ?_
      show DnW p e below s (own_Q n0) 32 4288 (T223.setTop (mkF m 307 #[.val (.int i0), .val (.int i1), .val (.int i2), .val (.int i3), .val (.int i4), .val (.int (1 : Int32)), .val (.int c0), .val (.int c1), .val (.int c2), .val (.int c3), .val (.ref b174), .val (.ref b187), .val (.ref b205), .val (.ref ra), .val (.int (0 : Int32)), .val (.int (0 : Int32))] []))
      refine DnW.of (fun tt_ zz_ => XS.iconst X223.here hx rfl (hb hby at_307) zz_) ?_
      refine DnW.of (fun tt_ zz_ => XS.goto X223.here hx rfl (pc0 := 308) (pc' := 312) rfl (hb hby at_308) (by decide) (by decide) zz_) ?_
      show DnW p e below s (own_Q n0) 32 4288 (T223.setTop (mkF m 312 #[.val (.int i0), .val (.int i1), .val (.int i2), .val (.int i3), .val (.int i4), .val (.int (1 : Int32)), .val (.int c0), .val (.int c1), .val (.int c2), .val (.int c3), .val (.ref b174), .val (.ref b187), .val (.ref b205), .val (.ref ra), .val (.int (0 : Int32)), .val (.int (0 : Int32))] [(.int (1 : Int32))]))
      exact DnW.retN hS (by rw [e223]; exact hk3) X223 hx hlk (t := .boolean) hret (by simp) (hb hby at_312) (by decide) (by decide) (⟨rfl, (Fr.app (Fr.app (Fr.app (Fr.app (Fr.app (Fr.app (Fr.app (Fr.app N195 Ms) Md) Mf) Mh) Mq) Mk0) Mk1) Mk2)⟩)
    · skip
      have b0_ := v0 h10
      have hi : own_ix [own_B c0] = (-1 : Int32) := by simp [own_ix, b0_]
      obtain ⟨v224, T224, L224, Q224, X224, hS, hZ, hown, hC224, st224⟩ := cVH X211 hx hZ (C := "com/example/vellum/vellum/types/DvUri") (y := (⟨"com/example/vellum/vellum/types/DvUri", "fragmentId", "()Ljava/lang/String;"⟩ : MethodName)) (z := (⟨"com/example/vellum/vellum/types/DvUri", "fragmentId", "()Ljava/lang/String;"⟩ : MethodName)) hown (hg 84 rfl) (hg 85 rfl) (notFace_of_selects (args := #[]) (mvT hZ (hg 87 rfl))) (hg 87 rfl) (hg 86 rfl) (hg 36 rfl) (hg 88 rfl) (by decide) (own_EW hw) hC211.1 hS hk2 (a := b205) (argsL := []) (rest := []) (rmFN l Z a0 hw T211.heap n0 F213 b187 sb (1 : Int32) [own_B c0] S3 (Or.inl ⟨rfl, _, rfl⟩) cz hcz SZ F212 b205 FD hi) rfl ET 0 (by decide) (by decide) (by decide) (by decide) (g := (mkF m 207 #[.val (.int i0), .val (.int i1), .val (.int i2), .val (.int i3), .val (.int i4), .val (.int (1 : Int32)), .val (.int c0), .val (.int c1), .val (.int c2), .val (.int c3), .val (.ref b174), .val (.ref b187), .val (.ref b205), .unset, .unset, .unset] [(.ref b205)])) rfl (by rw [hml]; rfl) (lenOf pd29 rfl) rfl (by show 2 * 0 + _ ≤ _; exact Nat.le_of_eq rfl) (hb hby at_207)
      obtain ⟨ra, rb, rfl, Mf, Xf, Sr⟩ := Q224
      refine DnW.of st224 ?_
      show DnW p e below s (own_Q n0) 32 4288 (T224.setTop (mkF m 210 #[.val (.int i0), .val (.int i1), .val (.int i2), .val (.int i3), .val (.int i4), .val (.int (1 : Int32)), .val (.int c0), .val (.int c1), .val (.int c2), .val (.int c3), .val (.ref b174), .val (.ref b187), .val (.ref b205), .unset, .unset, .unset] [(.ref ra)]))
      have hk3 := Nat.le_refl (T224.heap.size)
      refine DnW.of (fun tt_ zz_ => XS.astore X224.here hx rfl (hb hby at_210) rfl rfl (l' := #[.val (.int i0), .val (.int i1), .val (.int i2), .val (.int i3), .val (.int i4), .val (.int (1 : Int32)), .val (.int c0), .val (.int c1), .val (.int c2), .val (.int c3), .val (.ref b174), .val (.ref b187), .val (.ref b205), .val (.ref ra), .unset, .unset]) rfl zz_) ?_
      refine DnW.of (fun tt_ zz_ => XS.aload X224.here hx rfl (hb hby at_212) rfl rfl zz_) ?_
      show DnW p e below s (own_Q n0) 32 4288 (T224.setTop (mkF m 214 #[.val (.int i0), .val (.int i1), .val (.int i2), .val (.int i3), .val (.int i4), .val (.int (1 : Int32)), .val (.int c0), .val (.int c1), .val (.int c2), .val (.int c3), .val (.ref b174), .val (.ref b187), .val (.ref b205), .val (.ref ra), .unset, .unset] [(.ref ra)]))
      refine DnW.of (fun tt_ zz_ => XS.ifnonnullYes X224.here hx rfl (pc0 := 214) (pc' := 219) rfl (hb hby at_214) rfl (by decide) (by decide) zz_) ?_
      show DnW p e below s (own_Q n0) 32 4288 (T224.setTop (mkF m 219 #[.val (.int i0), .val (.int i1), .val (.int i2), .val (.int i3), .val (.int i4), .val (.int (1 : Int32)), .val (.int c0), .val (.int c1), .val (.int c2), .val (.int c3), .val (.ref b174), .val (.ref b187), .val (.ref b205), .val (.ref ra), .unset, .unset] []))
      refine DnW.of (fun tt_ zz_ => XS.aload X224.here hx rfl (hb hby at_219) rfl rfl zz_) ?_
      refine DnW.of (fun tt_ zz_ => XS.iload X224.here hx rfl (hb hby at_221) rfl zz_) ?_
      show DnW p e below s (own_Q n0) 32 4288 (T224.setTop (mkF m 223 #[.val (.int i0), .val (.int i1), .val (.int i2), .val (.int i3), .val (.int i4), .val (.int (1 : Int32)), .val (.int c0), .val (.int c1), .val (.int c2), .val (.int c3), .val (.ref b174), .val (.ref b187), .val (.ref b205), .val (.ref ra), .unset, .unset] [(.int (1 : Int32)), (.ref b174)]))
      have F225 := (F212.ext Xf)
      have F226 := (Nat.le_trans F213 Xf.1)
      have F227 := (F214.ext Xf)
      obtain ⟨v228, T228, L228, Q228, X228, st228⟩ := cSt X224 hx hZ (y := (⟨"com/example/vellum/vellum/types/DvUriFragmentIdPinLaw", "firstHash", "([CI)I"⟩ : MethodName)) hown (hg 132 rfl) (hg 133 rfl) (hg 2 rfl) (hg 134 rfl) (by decide) (argsL := [(.ref b174), (.int (1 : Int32))]) (rest := []) (rmFH1 l Z a0 hw T224.heap n0 F226 b174 _ c0 c1 c2 c3 F227) rfl  0 (by decide) (by decide) (by decide) (by decide) (g := (mkF m 223 #[.val (.int i0), .val (.int i1), .val (.int i2), .val (.int i3), .val (.int i4), .val (.int (1 : Int32)), .val (.int c0), .val (.int c1), .val (.int c2), .val (.int c3), .val (.ref b174), .val (.ref b187), .val (.ref b205), .val (.ref ra), .unset, .unset] [(.int (1 : Int32)), (.ref b174)])) rfl (by rw [hml]; rfl) (lenOf pd30 rfl) rfl (by show 2 * 0 + _ ≤ _; exact Nat.le_of_eq rfl) (hb hby at_223)
      rw [show own_fh (1 : Int32) c0 c1 c2 c3 = (-1 : Int32) by unfold own_fh; rw [if_neg h10, if_neg (fun y => absurd y.1 (by decide)), if_neg (fun y => absurd y.1 (by decide)), if_neg (fun y => absurd y.1 (by decide))]] at Q228
      obtain ⟨rfl, Mh, e228⟩ := Q228
      refine DnW.of st228 ?_
      show DnW p e below s (own_Q n0) 32 4288 (T228.setTop (mkF m 226 #[.val (.int i0), .val (.int i1), .val (.int i2), .val (.int i3), .val (.int i4), .val (.int (1 : Int32)), .val (.int c0), .val (.int c1), .val (.int c2), .val (.int c3), .val (.ref b174), .val (.ref b187), .val (.ref b205), .val (.ref ra), .unset, .unset] [(.int (-1 : Int32))]))
      refine DnW.of (fun tt_ zz_ => XS.istore X228.here hx rfl (hb hby at_226) rfl (l' := #[.val (.int i0), .val (.int i1), .val (.int i2), .val (.int i3), .val (.int i4), .val (.int (1 : Int32)), .val (.int c0), .val (.int c1), .val (.int c2), .val (.int c3), .val (.ref b174), .val (.ref b187), .val (.ref b205), .val (.ref ra), .val (.int (-1 : Int32)), .unset]) rfl zz_) ?_
      refine DnW.of (fun tt_ zz_ => XS.iload X228.here hx rfl (hb hby at_228) rfl zz_) ?_
      show DnW p e below s (own_Q n0) 32 4288 (T228.setTop (mkF m 230 #[.val (.int i0), .val (.int i1), .val (.int i2), .val (.int i3), .val (.int i4), .val (.int (1 : Int32)), .val (.int c0), .val (.int c1), .val (.int c2), .val (.int c3), .val (.ref b174), .val (.ref b187), .val (.ref b205), .val (.ref ra), .val (.int (-1 : Int32)), .unset] [(.int (-1 : Int32))]))
      refine DnW.of (fun tt_ zz_ => XS.ifNo X228.here hx rfl (hb hby at_230) rfl ((if0 _ _).trans (tlt (by decide)).2.1) zz_) ?_
      show DnW p e below s (own_Q n0) 32 4288 (T228.setTop (mkF m 233 #[.val (.int i0), .val (.int i1), .val (.int i2), .val (.int i3), .val (.int i4), .val (.int (1 : Int32)), .val (.int c0), .val (.int c1), .val (.int c2), .val (.int c3), .val (.ref b174), .val (.ref b187), .val (.ref b205), .val (.ref ra), .val (.int (-1 : Int32)), .unset] []))
      refine DnW.of (fun tt_ zz_ => XS.aload X228.here hx rfl (hb hby at_233) rfl rfl zz_) ?_
      show DnW p e below s (own_Q n0) 32 4288 (T228.setTop (mkF m 235 #[.val (.int i0), .val (.int i1), .val (.int i2), .val (.int i3), .val (.int i4), .val (.int (1 : Int32)), .val (.int c0), .val (.int c1), .val (.int c2), .val (.int c3), .val (.ref b174), .val (.ref b187), .val (.ref b205), .val (.ref ra), .val (.int (-1 : Int32)), .unset] [(.ref ra)]))
      obtain ⟨v229, T229, L229, Q229, X229, st229⟩ := cVi X228 hx hZ (C := "java/lang/String") (y := (⟨"java/lang/String", "length", "()I"⟩ : MethodName)) (z := (⟨"java/lang/String", "length", "()I"⟩ : MethodName)) hown (hg 135 rfl) (hg 105 rfl) (notFace_of_selects (args := #[]) (mvT hZ (hg 107 rfl))) (hg 107 rfl) (hg 106 rfl) (hg 7 rfl) (hg 108 rfl) (by decide) (a := ra) (argsL := []) (rest := []) (rmLn l Z a0 hw T224.heap n0 F226 ra rb (0 : Int32) [] Sr cz hcz SZ F225) e228 (own_exa Sr) 0 (by decide) (by decide) (by decide) (by decide) (g := (mkF m 235 #[.val (.int i0), .val (.int i1), .val (.int i2), .val (.int i3), .val (.int i4), .val (.int (1 : Int32)), .val (.int c0), .val (.int c1), .val (.int c2), .val (.int c3), .val (.ref b174), .val (.ref b187), .val (.ref b205), .val (.ref ra), .val (.int (-1 : Int32)), .unset] [(.ref ra)])) rfl (by rw [hml]; rfl) (lenOf pd9 rfl) rfl (by show 2 * 0 + _ ≤ _; exact Nat.le_of_eq rfl) (hb hby at_235)
      obtain ⟨rfl, Mq, e229⟩ := Q229
      refine DnW.of st229 ?_
      show DnW p e below s (own_Q n0) 32 4288 (T229.setTop (mkF m 238 #[.val (.int i0), .val (.int i1), .val (.int i2), .val (.int i3), .val (.int i4), .val (.int (1 : Int32)), .val (.int c0), .val (.int c1), .val (.int c2), .val (.int c3), .val (.ref b174), .val (.ref b187), .val (.ref b205), .val (.ref ra), .val (.int (-1 : Int32)), .unset] [(.int (0 : Int32))]))
      refine DnW.of (fun tt_ zz_ => XS.ifNo X229.here hx rfl (hb hby at_238) rfl ((if0 _ _).trans (teq rfl).2) zz_) ?_
      show DnW p e below s (own_Q n0) 32 4288 (T229.setTop (mkF m 241 #[.val (.int i0), .val (.int i1), .val (.int i2), .val (.int i3), .val (.int i4), .val (.int (1 : Int32)), .val (.int c0), .val (.int c1), .val (.int c2), .val (.int c3), .val (.ref b174), .val (.ref b187), .val (.ref b205), .val (.ref ra), .val (.int (-1 : Int32)), .unset] []))
      refine DnW.of (fun tt_ zz_ => XS.iconst X229.here hx rfl (hb hby at_241) zz_) ?_
      refine DnW.of (fun tt_ zz_ => XS.goto X229.here hx rfl (pc0 := 242) (pc' := 246) rfl (hb hby at_242) (by decide) (by decide) zz_) ?_
      show DnW p e below s (own_Q n0) 32 4288 (T229.setTop (mkF m 246 #[.val (.int i0), .val (.int i1), .val (.int i2), .val (.int i3), .val (.int i4), .val (.int (1 : Int32)), .val (.int c0), .val (.int c1), .val (.int c2), .val (.int c3), .val (.ref b174), .val (.ref b187), .val (.ref b205), .val (.ref ra), .val (.int (-1 : Int32)), .unset] [(.int (1 : Int32))]))
      exact DnW.retN hS (by rw [e229]; exact hk3) X229 hx hlk (t := .boolean) hret (by simp) (hb hby at_246) (by decide) (by decide) (⟨rfl, (Fr.app (Fr.app (Fr.app (Fr.app (Fr.app N195 Ms) Md) Mf) Mh) Mq)⟩)
  · skip
    show DnW p e below s (own_Q n0) 32 4288 (T182.setTop (mkF m 72 #[.val (.int i0), .val (.int i1), .val (.int i2), .val (.int i3), .val (.int i4), .val (.int (2 : Int32)), .val (.int c0), .val (.int c1), .val (.int c2), .val (.int c3), .val (.ref b174), .unset, .unset, .unset, .unset, .unset] [(.int (1 : Int32)), (.int (2 : Int32))]))
    refine DnW.of (fun tt_ zz_ => XS.icmpYes X182.here hx rfl (pc0 := 72) (pc' := 95) rfl (hb hby at_72) rfl (feq (by decide)).2 (by decide) (by decide) zz_) ?_
    show DnW p e below s (own_Q n0) 32 4288 (T182.setTop (mkF m 95 #[.val (.int i0), .val (.int i1), .val (.int i2), .val (.int i3), .val (.int i4), .val (.int (2 : Int32)), .val (.int c0), .val (.int c1), .val (.int c2), .val (.int c3), .val (.ref b174), .unset, .unset, .unset, .unset, .unset] []))
    refine DnW.of (fun tt_ zz_ => XS.iload X182.here hx rfl (hb hby at_95) rfl zz_) ?_
    refine DnW.of (fun tt_ zz_ => XS.iconst X182.here hx rfl (hb hby at_97) zz_) ?_
    show DnW p e below s (own_Q n0) 32 4288 (T182.setTop (mkF m 98 #[.val (.int i0), .val (.int i1), .val (.int i2), .val (.int i3), .val (.int i4), .val (.int (2 : Int32)), .val (.int c0), .val (.int c1), .val (.int c2), .val (.int c3), .val (.ref b174), .unset, .unset, .unset, .unset, .unset] [(.int (2 : Int32)), (.int (2 : Int32))]))
    refine DnW.of (fun tt_ zz_ => XS.icmpNo X182.here hx rfl (hb hby at_98) rfl (teq rfl).2 zz_) ?_
    show DnW p e below s (own_Q n0) 32 4288 (T182.setTop (mkF m 101 #[.val (.int i0), .val (.int i1), .val (.int i2), .val (.int i3), .val (.int i4), .val (.int (2 : Int32)), .val (.int c0), .val (.int c1), .val (.int c2), .val (.int c3), .val (.ref b174), .unset, .unset, .unset, .unset, .unset] []))
    obtain ⟨T230, h230, X230, e230, E230, A230, D230, U230, st230⟩ := newO X182 hx hZ hown (hg 5 rfl) (hg 6 rfl) (hg 7 rfl) e182 (g := (mkF m 101 #[.val (.int i0), .val (.int i1), .val (.int i2), .val (.int i3), .val (.int i4), .val (.int (2 : Int32)), .val (.int c0), .val (.int c1), .val (.int c2), .val (.int c3), .val (.ref b174), .unset, .unset, .unset, .unset, .unset] [])) rfl (hb hby at_101) (by decide) (by decide)
    obtain ⟨b230, g230⟩ : ∃ z, z = h182.size := ⟨_, rfl⟩
    rw [← g230] at A230 D230 U230 st230
    refine DnW.of st230 ?_
    show DnW p e below s (own_Q n0) 32 4288 (T230.setTop (mkF m 104 #[.val (.int i0), .val (.int i1), .val (.int i2), .val (.int i3), .val (.int i4), .val (.int (2 : Int32)), .val (.int c0), .val (.int c1), .val (.int c2), .val (.int c3), .val (.ref b174), .unset, .unset, .unset, .unset, .unset] [(.ref b230)]))
    have F_value_230 : Fld Z h230 b230 "java/lang/String" "value" "[B" .null := D230 (Or.inr (hg 33 rfl)) (ty := (.array .byte)) (by decide)
    have F_coder_230 : Fld Z h230 b230 "java/lang/String" "coder" "B" (.int (0 : Int32)) := D230 (Or.inr (hg 31 rfl)) (ty := .byte) (by decide)
    have n231 : b174 ≠ b230 := Nat.ne_of_lt (g230 ▸ R_181.lt)
    have gsa : n0 ≤ b230 := g230 ▸ F184
    have xsa : h0.size ≤ b230 := g230 ▸ F186.1
    refine DnW.of (fun tt_ zz_ => XS.dup X230.here hx rfl (hb hby at_104) rfl rfl zz_) ?_
    refine DnW.of (fun tt_ zz_ => XS.iconst X230.here hx rfl (hb hby at_105) zz_) ?_
    show DnW p e below s (own_Q n0) 32 4288 (T230.setTop (mkF m 106 #[.val (.int i0), .val (.int i1), .val (.int i2), .val (.int i3), .val (.int i4), .val (.int (2 : Int32)), .val (.int c0), .val (.int c1), .val (.int c2), .val (.int c3), .val (.ref b174), .unset, .unset, .unset, .unset, .unset] [(.int (2 : Int32)), (.ref b230), (.ref b230)]))
    have F232 := (Nat.le_trans F184 E230.1)
    have F233 := (own_ext2 F186 E230)
    obtain ⟨T234, h234, k234, X234, e234, E234, A234, st234⟩ := newP X230 hx hZ (hg 4 rfl) e230 (g := (mkF m 106 #[.val (.int i0), .val (.int i1), .val (.int i2), .val (.int i3), .val (.int i4), .val (.int (2 : Int32)), .val (.int c0), .val (.int c1), .val (.int c2), .val (.int c3), .val (.ref b174), .unset, .unset, .unset, .unset, .unset] [(.int (2 : Int32)), (.ref b230), (.ref b230)])) rfl (hb hby at_106) rfl (by decide) (cap := 4) (by decide) (by decide) (by decide) (by decide)
    obtain ⟨b234, g234⟩ : ∃ z, z = h230.size := ⟨_, rfl⟩
    rw [← g234] at A234 st234
    refine DnW.of st234 ?_
    show DnW p e below s (own_Q n0) 32 4288 (T234.setTop (mkF m 108 #[.val (.int i0), .val (.int i1), .val (.int i2), .val (.int i3), .val (.int i4), .val (.int (2 : Int32)), .val (.int c0), .val (.int c1), .val (.int c2), .val (.int c3), .val (.ref b174), .unset, .unset, .unset, .unset, .unset] [(.ref b234), (.ref b230), (.ref b230)]))
    have F235 := (R_181.ext E230)
    have n236 : b174 ≠ b234 := Nat.ne_of_lt (g234 ▸ F235.lt)
    have n237 : b230 ≠ b234 := Nat.ne_of_lt (g234 ▸ A230.lt)
    have RN_g : n0 ≤ b234 := g234 ▸ F232
    have RN_x : h0.size ≤ b234 := g234 ▸ F233.1
    have RN_R : Arh Z h234 b234 k234 .char 2 [] [] (.int 0) := (Arv.new A234 (by decide)).arh
    refine DnW.of (fun tt_ zz_ => XS.dup X234.here hx rfl (hb hby at_108) rfl rfl zz_) ?_
    refine DnW.of (fun tt_ zz_ => XS.iconst X234.here hx rfl (hb hby at_109) zz_) ?_
    refine DnW.of (fun tt_ zz_ => XS.iload X234.here hx rfl (hb hby at_110) rfl zz_) ?_
    show DnW p e below s (own_Q n0) 32 4288 (T234.setTop (mkF m 112 #[.val (.int i0), .val (.int i1), .val (.int i2), .val (.int i3), .val (.int i4), .val (.int (2 : Int32)), .val (.int c0), .val (.int c1), .val (.int c2), .val (.int c3), .val (.ref b174), .unset, .unset, .unset, .unset, .unset] [(.int c0), (.int (0 : Int32)), (.ref b234), (.ref b234), (.ref b230), (.ref b230)]))
    obtain ⟨c238, A_238, p238, S238, P238, H238, G238⟩ := RN_R
    obtain ⟨T239, h239, X239, e239, W239, st239⟩ := stC X234 hx hZ e234 A_238 (j := (0 : Int32)) (inb_of S238 (by decide)) (g := (mkF m 112 #[.val (.int i0), .val (.int i1), .val (.int i2), .val (.int i3), .val (.int i4), .val (.int (2 : Int32)), .val (.int c0), .val (.int c1), .val (.int c2), .val (.int c3), .val (.ref b174), .unset, .unset, .unset, .unset, .unset] [(.int c0), (.int (0 : Int32)), (.ref b234), (.ref b234), (.ref b230), (.ref b230)])) rfl rfl (hb hby at_112)
    refine DnW.of st239 ?_
    show DnW p e below s (own_Q n0) 32 4288 (T239.setTop (mkF m 113 #[.val (.int i0), .val (.int i1), .val (.int i2), .val (.int i3), .val (.int i4), .val (.int (2 : Int32)), .val (.int c0), .val (.int c1), .val (.int c2), .val (.int c3), .val (.ref b174), .unset, .unset, .unset, .unset, .unset] [(.ref b234), (.ref b230), (.ref b230)]))
    have R_238 := Arh.push A_238 p238 S238 P238 H238 G238 (v := (.int (nar .char c0))) (fits_nar_char _) W239 (inb_of S238 (by decide))
    have N238 := Fr.snoc X239 N181 RN_g
    rw [own_nc y0] at R_238
    refine DnW.of (fun tt_ zz_ => XS.dup X239.here hx rfl (hb hby at_113) rfl rfl zz_) ?_
    refine DnW.of (fun tt_ zz_ => XS.iconst X239.here hx rfl (hb hby at_114) zz_) ?_
    refine DnW.of (fun tt_ zz_ => XS.iload X239.here hx rfl (hb hby at_115) rfl zz_) ?_
    show DnW p e below s (own_Q n0) 32 4288 (T239.setTop (mkF m 117 #[.val (.int i0), .val (.int i1), .val (.int i2), .val (.int i3), .val (.int i4), .val (.int (2 : Int32)), .val (.int c0), .val (.int c1), .val (.int c2), .val (.int c3), .val (.ref b174), .unset, .unset, .unset, .unset, .unset] [(.int c1), (.int (1 : Int32)), (.ref b234), (.ref b234), (.ref b230), (.ref b230)]))
    obtain ⟨c240, A_240, p240, S240, P240, H240, G240⟩ := R_238
    obtain ⟨T241, h241, X241, e241, W241, st241⟩ := stC X239 hx hZ e239 A_240 (j := (1 : Int32)) (inb_of S240 (by decide)) (g := (mkF m 117 #[.val (.int i0), .val (.int i1), .val (.int i2), .val (.int i3), .val (.int i4), .val (.int (2 : Int32)), .val (.int c0), .val (.int c1), .val (.int c2), .val (.int c3), .val (.ref b174), .unset, .unset, .unset, .unset, .unset] [(.int c1), (.int (1 : Int32)), (.ref b234), (.ref b234), (.ref b230), (.ref b230)])) rfl rfl (hb hby at_117)
    refine DnW.of st241 ?_
    show DnW p e below s (own_Q n0) 32 4288 (T241.setTop (mkF m 118 #[.val (.int i0), .val (.int i1), .val (.int i2), .val (.int i3), .val (.int i4), .val (.int (2 : Int32)), .val (.int c0), .val (.int c1), .val (.int c2), .val (.int c3), .val (.ref b174), .unset, .unset, .unset, .unset, .unset] [(.ref b234), (.ref b230), (.ref b230)]))
    have R_240 := Arh.push A_240 p240 S240 P240 H240 G240 (v := (.int (nar .char c1))) (fits_nar_char _) W241 (inb_of S240 (by decide))
    have N240 := Fr.snoc X241 N238 RN_g
    rw [own_nc y1] at R_240
    have F242 := ((((F183.ext E230).ext E234).wr W239 RN_g).wr W241 RN_g)
    have F243 := (Nat.le_trans (Nat.le_trans (Nat.le_trans F232 E234.1) (Nat.le_of_eq W239.size.symm)) (Nat.le_of_eq W241.size.symm))
    have F244 := (((A230.ext E234).wr W239).wr W241)
    have F245 := (((F_value_230.ext E234).other W239 (Or.inl n237)).other W241 (Or.inl n237))
    have F246 := (((F_coder_230.ext E234).other W239 (Or.inl n237)).other W241 (Or.inl n237))
    obtain ⟨v247, T247, L247, Q247, X247, st247⟩ := cIn X241 hx hZ (y := (⟨"java/lang/String", "<init>", "([C)V"⟩ : MethodName)) rfl hown (hg 8 rfl) (hg 9 rfl) (hg 7 rfl) (hg 10 rfl) (by decide) (a := b230) (argsL := [(.ref b234)]) (rest := [(.ref b230)]) (rmS1_2 l Z a0 hw h241 n0 F243 b230 b234 _ cz hcz SZ F242 c0 c1 y0 y1 F244 F245 F246 gsa R_240) e241  1 (by decide) (by decide) (by decide) (by decide) (g := (mkF m 118 #[.val (.int i0), .val (.int i1), .val (.int i2), .val (.int i3), .val (.int i4), .val (.int (2 : Int32)), .val (.int c0), .val (.int c1), .val (.int c2), .val (.int c3), .val (.ref b174), .unset, .unset, .unset, .unset, .unset] [(.ref b234), (.ref b230), (.ref b230)])) rfl (by rw [hml]; rfl) (lenOf pd27 rfl) rfl (by show 2 * 0 + _ ≤ _; exact Nat.le_of_eq rfl) (hb hby at_118)
    obtain ⟨sb, rfl, Ms, Ks, lsb, S1⟩ := Q247
    refine DnW.of st247 ?_
    show DnW p e below s (own_Q n0) 32 4288 (T247.setTop (mkF m 121 #[.val (.int i0), .val (.int i1), .val (.int i2), .val (.int i3), .val (.int i4), .val (.int (2 : Int32)), .val (.int c0), .val (.int c1), .val (.int c2), .val (.int c3), .val (.ref b174), .unset, .unset, .unset, .unset, .unset] [(.ref b230)]))
    refine DnW.of (fun tt_ zz_ => XS.astore X247.here hx rfl (hb hby at_121) rfl rfl (l' := #[.val (.int i0), .val (.int i1), .val (.int i2), .val (.int i3), .val (.int i4), .val (.int (2 : Int32)), .val (.int c0), .val (.int c1), .val (.int c2), .val (.int c3), .val (.ref b174), .val (.ref b230), .unset, .unset, .unset, .unset]) rfl zz_) ?_
    refine DnW.of (fun tt_ zz_ => XS.goto X247.here hx rfl (pc0 := 123) (pc' := 194) rfl (hb hby at_123) (by decide) (by decide) zz_) ?_
    show DnW p e below s (own_Q n0) 32 4288 (T247.setTop (mkF m 194 #[.val (.int i0), .val (.int i1), .val (.int i2), .val (.int i3), .val (.int i4), .val (.int (2 : Int32)), .val (.int c0), .val (.int c1), .val (.int c2), .val (.int c3), .val (.ref b174), .val (.ref b230), .unset, .unset, .unset, .unset] []))
    have F248 := (Nat.le_trans F243 Ks.1)
    have F249 := (own_extK (own_extK (own_extK (own_ext2 F233 E234) (Keep.of_wr W239) RN_x) (Keep.of_wr W241) RN_x) Ks xsa)
    obtain ⟨T250, h250, X250, e250, E250, A250, D250, U250, st250⟩ := newO X247 hx hZ hown (hg 34 rfl) (hg 35 rfl) (hg 36 rfl) rfl (g := (mkF m 194 #[.val (.int i0), .val (.int i1), .val (.int i2), .val (.int i3), .val (.int i4), .val (.int (2 : Int32)), .val (.int c0), .val (.int c1), .val (.int c2), .val (.int c3), .val (.ref b174), .val (.ref b230), .unset, .unset, .unset, .unset] [])) rfl (hb hby at_194) (by decide) (by decide)
    obtain ⟨b250, g250⟩ : ∃ z, z = T247.heap.size := ⟨_, rfl⟩
    rw [← g250] at A250 D250 U250 st250
    refine DnW.of st250 ?_
    show DnW p e below s (own_Q n0) 32 4288 (T250.setTop (mkF m 197 #[.val (.int i0), .val (.int i1), .val (.int i2), .val (.int i3), .val (.int i4), .val (.int (2 : Int32)), .val (.int c0), .val (.int c1), .val (.int c2), .val (.int c3), .val (.ref b174), .val (.ref b230), .unset, .unset, .unset, .unset] [(.ref b250)]))
    have F_value_250 : Fld Z h250 b250 "com/example/vellum/vellum/types/DvUri" "value" "Ljava/lang/String;" .null := D250 (Or.inr (hg 83 rfl)) (ty := (.object "java/lang/String")) (by decide)
    have F251 := ((((F235.ext E234).other W239 n236).other W241 n236).keep Ks (ninS n231 nin0))
    have n252 : b174 ≠ b250 := Nat.ne_of_lt (g250 ▸ F251.lt)
    have d1 : b230 ≠ b250 := Nat.ne_of_lt (g250 ▸ S1.lt.1)
    have d2 : sb ≠ b250 := Nat.ne_of_lt (g250 ▸ S1.lt.2)
    have S2 := S1.ext E250
    have gt : n0 ≤ b250 := g250 ▸ F248
    refine DnW.of (fun tt_ zz_ => XS.dup X250.here hx rfl (hb hby at_197) rfl rfl zz_) ?_
    refine DnW.of (fun tt_ zz_ => XS.aload X250.here hx rfl (hb hby at_198) rfl rfl zz_) ?_
    show DnW p e below s (own_Q n0) 32 4288 (T250.setTop (mkF m 200 #[.val (.int i0), .val (.int i1), .val (.int i2), .val (.int i3), .val (.int i4), .val (.int (2 : Int32)), .val (.int c0), .val (.int c1), .val (.int c2), .val (.int c3), .val (.ref b174), .val (.ref b230), .unset, .unset, .unset, .unset] [(.ref b230), (.ref b250), (.ref b250)]))
    have F253 := (Nat.le_trans F248 E250.1)
    have F254 := (Nat.le_trans (Nat.le_trans (Nat.le_trans (Nat.le_trans (Nat.le_trans (Nat.le_trans F185 E230.1) E234.1) (Nat.le_of_eq W239.size.symm)) (Nat.le_of_eq W241.size.symm)) Ks.1) E250.1)
    have F255 := (own_ext2 F249 E250)
    have hH2 := hH.ext F255
    obtain ⟨v256, T256, L256, Q256, X256, hS, hZ, hown, hC256, st256⟩ := cIH X250 hx hZ (y := (⟨"com/example/vellum/vellum/types/DvUri", "<init>", "(Ljava/lang/String;)V"⟩ : MethodName)) rfl hown (hg 37 rfl) (hg 38 rfl) (hg 36 rfl) (hg 39 rfl) (by decide) (own_EW hw) hH2 hS F254 (a := b250) (argsL := [(.ref b230)]) (rest := [(.ref b250)]) (rmDU l Z a0 hw h250 n0 F253 b250 b230 sb (2 : Int32) [own_B c0, own_B c1] S2 (by decide) A250 F_value_250 gt) e250  1 (by decide) (by decide) (by decide) (by decide) (g := (mkF m 200 #[.val (.int i0), .val (.int i1), .val (.int i2), .val (.int i3), .val (.int i4), .val (.int (2 : Int32)), .val (.int c0), .val (.int c1), .val (.int c2), .val (.int c3), .val (.ref b174), .val (.ref b230), .unset, .unset, .unset, .unset] [(.ref b230), (.ref b250), (.ref b250)])) rfl (by rw [hml]; rfl) (lenOf pd28 rfl) rfl (by show 2 * 0 + _ ≤ _; exact Nat.le_of_eq rfl) (hb hby at_200)
    obtain ⟨rfl, Md, Kd, FD⟩ := Q256
    refine DnW.of st256 ?_
    show DnW p e below s (own_Q n0) 32 4288 (T256.setTop (mkF m 203 #[.val (.int i0), .val (.int i1), .val (.int i2), .val (.int i3), .val (.int i4), .val (.int (2 : Int32)), .val (.int c0), .val (.int c1), .val (.int c2), .val (.int c3), .val (.ref b174), .val (.ref b230), .unset, .unset, .unset, .unset] [(.ref b250)]))
    have hk2 := Nat.le_refl (T256.heap.size)
    have S3 := S2.keep Kd (ninS d1 nin0) (ninS d2 nin0)
    have ET := A250.keep Kd
    refine DnW.of (fun tt_ zz_ => XS.astore X256.here hx rfl (hb hby at_203) rfl rfl (l' := #[.val (.int i0), .val (.int i1), .val (.int i2), .val (.int i3), .val (.int i4), .val (.int (2 : Int32)), .val (.int c0), .val (.int c1), .val (.int c2), .val (.int c3), .val (.ref b174), .val (.ref b230), .val (.ref b250), .unset, .unset, .unset]) rfl zz_) ?_
    refine DnW.of (fun tt_ zz_ => XS.aload X256.here hx rfl (hb hby at_205) rfl rfl zz_) ?_
    show DnW p e below s (own_Q n0) 32 4288 (T256.setTop (mkF m 207 #[.val (.int i0), .val (.int i1), .val (.int i2), .val (.int i3), .val (.int i4), .val (.int (2 : Int32)), .val (.int c0), .val (.int c1), .val (.int c2), .val (.int c3), .val (.ref b174), .val (.ref b230), .val (.ref b250), .unset, .unset, .unset] [(.ref b250)]))
    have F257 := (((F242.keep Ks (allS gsa all0)).ext E250).keep Kd (allS gt all0))
    have F258 := (Nat.le_trans F253 Kd.1)
    have F259 := ((F251.ext E250).keep Kd (ninS n252 nin0))
    have v0 := own_B35 y0
    have v1 := own_B35 y1
    by_cases h10 : c0 = 35
    · skip
      have b0_ : own_B c0 = 35 := by rw [h10]; decide
      have hi : own_ix [own_B c0, own_B c1] = (0 : Int32) := by simp [own_ix, b0_]
      have hcut : own_Cut [own_B c0, own_B c1] [own_B c1] (1 : Int32) (2 : Int32) (1 : Int32) := ⟨by decide, by decide, by decide, by decide, by decide, by decide, by decide, by decide, rfl⟩
      obtain ⟨v260, T260, L260, Q260, X260, hS, hZ, hown, hC260, st260⟩ := cVH X256 hx hZ (C := "com/example/vellum/vellum/types/DvUri") (y := (⟨"com/example/vellum/vellum/types/DvUri", "fragmentId", "()Ljava/lang/String;"⟩ : MethodName)) (z := (⟨"com/example/vellum/vellum/types/DvUri", "fragmentId", "()Ljava/lang/String;"⟩ : MethodName)) hown (hg 84 rfl) (hg 85 rfl) (notFace_of_selects (args := #[]) (mvT hZ (hg 87 rfl))) (hg 87 rfl) (hg 86 rfl) (hg 36 rfl) (hg 88 rfl) (by decide) (own_EW hw) hC256.1 hS hk2 (a := b250) (argsL := []) (rest := []) (rmFS l Z a0 hw T256.heap n0 F258 b230 sb (2 : Int32) [own_B c0, own_B c1] S3 (Or.inr (Or.inl ⟨rfl, _, _, rfl⟩)) cz hcz SZ F257 fv rf SF b250 FD (0 : Int32) hi (by decide) (1 : Int32) (1 : Int32) [own_B c1] hcut (by decide)) rfl ET 0 (by decide) (by decide) (by decide) (by decide) (g := (mkF m 207 #[.val (.int i0), .val (.int i1), .val (.int i2), .val (.int i3), .val (.int i4), .val (.int (2 : Int32)), .val (.int c0), .val (.int c1), .val (.int c2), .val (.int c3), .val (.ref b174), .val (.ref b230), .val (.ref b250), .unset, .unset, .unset] [(.ref b250)])) rfl (by rw [hml]; rfl) (lenOf pd29 rfl) rfl (by show 2 * 0 + _ ≤ _; exact Nat.le_of_eq rfl) (hb hby at_207)
      obtain ⟨ra, rb, rfl, Mf, Xf, Sr⟩ := Q260
      refine DnW.of st260 ?_
      show DnW p e below s (own_Q n0) 32 4288 (T260.setTop (mkF m 210 #[.val (.int i0), .val (.int i1), .val (.int i2), .val (.int i3), .val (.int i4), .val (.int (2 : Int32)), .val (.int c0), .val (.int c1), .val (.int c2), .val (.int c3), .val (.ref b174), .val (.ref b230), .val (.ref b250), .unset, .unset, .unset] [(.ref ra)]))
      have hk3 := Nat.le_refl (T260.heap.size)
      refine DnW.of (fun tt_ zz_ => XS.astore X260.here hx rfl (hb hby at_210) rfl rfl (l' := #[.val (.int i0), .val (.int i1), .val (.int i2), .val (.int i3), .val (.int i4), .val (.int (2 : Int32)), .val (.int c0), .val (.int c1), .val (.int c2), .val (.int c3), .val (.ref b174), .val (.ref b230), .val (.ref b250), .val (.ref ra), .unset, .unset]) rfl zz_) ?_
      refine DnW.of (fun tt_ zz_ => XS.aload X260.here hx rfl (hb hby at_212) rfl rfl zz_) ?_
      show DnW p e below s (own_Q n0) 32 4288 (T260.setTop (mkF m 214 #[.val (.int i0), .val (.int i1), .val (.int i2), .val (.int i3), .val (.int i4), .val (.int (2 : Int32)), .val (.int c0), .val (.int c1), .val (.int c2), .val (.int c3), .val (.ref b174), .val (.ref b230), .val (.ref b250), .val (.ref ra), .unset, .unset] [(.ref ra)]))
      refine DnW.of (fun tt_ zz_ => XS.ifnonnullYes X260.here hx rfl (pc0 := 214) (pc' := 219) rfl (hb hby at_214) rfl (by decide) (by decide) zz_) ?_
      show DnW p e below s (own_Q n0) 32 4288 (T260.setTop (mkF m 219 #[.val (.int i0), .val (.int i1), .val (.int i2), .val (.int i3), .val (.int i4), .val (.int (2 : Int32)), .val (.int c0), .val (.int c1), .val (.int c2), .val (.int c3), .val (.ref b174), .val (.ref b230), .val (.ref b250), .val (.ref ra), .unset, .unset] []))
      refine DnW.of (fun tt_ zz_ => XS.aload X260.here hx rfl (hb hby at_219) rfl rfl zz_) ?_
      refine DnW.of (fun tt_ zz_ => XS.iload X260.here hx rfl (hb hby at_221) rfl zz_) ?_
      show DnW p e below s (own_Q n0) 32 4288 (T260.setTop (mkF m 223 #[.val (.int i0), .val (.int i1), .val (.int i2), .val (.int i3), .val (.int i4), .val (.int (2 : Int32)), .val (.int c0), .val (.int c1), .val (.int c2), .val (.int c3), .val (.ref b174), .val (.ref b230), .val (.ref b250), .val (.ref ra), .unset, .unset] [(.int (2 : Int32)), (.ref b174)]))
      have F261 := (F257.ext Xf)
      have F262 := (Nat.le_trans F258 Xf.1)
      have F263 := (F259.ext Xf)
      obtain ⟨v264, T264, L264, Q264, X264, st264⟩ := cSt X260 hx hZ (y := (⟨"com/example/vellum/vellum/types/DvUriFragmentIdPinLaw", "firstHash", "([CI)I"⟩ : MethodName)) hown (hg 132 rfl) (hg 133 rfl) (hg 2 rfl) (hg 134 rfl) (by decide) (argsL := [(.ref b174), (.int (2 : Int32))]) (rest := []) (rmFH2 l Z a0 hw T260.heap n0 F262 b174 _ c0 c1 c2 c3 F263) rfl  0 (by decide) (by decide) (by decide) (by decide) (g := (mkF m 223 #[.val (.int i0), .val (.int i1), .val (.int i2), .val (.int i3), .val (.int i4), .val (.int (2 : Int32)), .val (.int c0), .val (.int c1), .val (.int c2), .val (.int c3), .val (.ref b174), .val (.ref b230), .val (.ref b250), .val (.ref ra), .unset, .unset] [(.int (2 : Int32)), (.ref b174)])) rfl (by rw [hml]; rfl) (lenOf pd30 rfl) rfl (by show 2 * 0 + _ ≤ _; exact Nat.le_of_eq rfl) (hb hby at_223)
      rw [show own_fh (2 : Int32) c0 c1 c2 c3 = (0 : Int32) by unfold own_fh; rw [if_pos h10]] at Q264
      obtain ⟨rfl, Mh, e264⟩ := Q264
      refine DnW.of st264 ?_
      show DnW p e below s (own_Q n0) 32 4288 (T264.setTop (mkF m 226 #[.val (.int i0), .val (.int i1), .val (.int i2), .val (.int i3), .val (.int i4), .val (.int (2 : Int32)), .val (.int c0), .val (.int c1), .val (.int c2), .val (.int c3), .val (.ref b174), .val (.ref b230), .val (.ref b250), .val (.ref ra), .unset, .unset] [(.int (0 : Int32))]))
      refine DnW.of (fun tt_ zz_ => XS.istore X264.here hx rfl (hb hby at_226) rfl (l' := #[.val (.int i0), .val (.int i1), .val (.int i2), .val (.int i3), .val (.int i4), .val (.int (2 : Int32)), .val (.int c0), .val (.int c1), .val (.int c2), .val (.int c3), .val (.ref b174), .val (.ref b230), .val (.ref b250), .val (.ref ra), .val (.int (0 : Int32)), .unset]) rfl zz_) ?_
      refine DnW.of (fun tt_ zz_ => XS.iload X264.here hx rfl (hb hby at_228) rfl zz_) ?_
      show DnW p e below s (own_Q n0) 32 4288 (T264.setTop (mkF m 230 #[.val (.int i0), .val (.int i1), .val (.int i2), .val (.int i3), .val (.int i4), .val (.int (2 : Int32)), .val (.int c0), .val (.int c1), .val (.int c2), .val (.int c3), .val (.ref b174), .val (.ref b230), .val (.ref b250), .val (.ref ra), .val (.int (0 : Int32)), .unset] [(.int (0 : Int32))]))
      refine DnW.of (fun tt_ zz_ => XS.ifYes X264.here hx rfl (pc0 := 230) (pc' := 247) rfl (hb hby at_230) rfl ((if0 _ _).trans (flt (by decide)).2.1) (by decide) (by decide) zz_) ?_
      show DnW p e below s (own_Q n0) 32 4288 (T264.setTop (mkF m 247 #[.val (.int i0), .val (.int i1), .val (.int i2), .val (.int i3), .val (.int i4), .val (.int (2 : Int32)), .val (.int c0), .val (.int c1), .val (.int c2), .val (.int c3), .val (.ref b174), .val (.ref b230), .val (.ref b250), .val (.ref ra), .val (.int (0 : Int32)), .unset] []))
      refine DnW.of (fun tt_ zz_ => XS.iload X264.here hx rfl (hb hby at_247) rfl zz_) ?_
      refine DnW.of (fun tt_ zz_ => XS.iload X264.here hx rfl (hb hby at_249) rfl zz_) ?_
      refine DnW.of (fun tt_ zz_ => XS.isub X264.here hx rfl (hb hby at_251) rfl zz_) ?_
      refine DnW.of (fun tt_ zz_ => XS.iconst X264.here hx rfl (hb hby at_252) zz_) ?_
      show DnW p e below s (own_Q n0) 32 4288 (T264.setTop (mkF m 253 #[.val (.int i0), .val (.int i1), .val (.int i2), .val (.int i3), .val (.int i4), .val (.int (2 : Int32)), .val (.int c0), .val (.int c1), .val (.int c2), .val (.int c3), .val (.ref b174), .val (.ref b230), .val (.ref b250), .val (.ref ra), .val (.int (0 : Int32)), .unset] [(.int (1 : Int32)), (.int ((2 : Int32) - (0 : Int32)))]))
      refine DnW.of (fun tt_ zz_ => XS.isub X264.here hx rfl (hb hby at_253) rfl zz_) ?_
      show DnW p e below s (own_Q n0) 32 4288 (T264.setTop (mkF m 254 #[.val (.int i0), .val (.int i1), .val (.int i2), .val (.int i3), .val (.int i4), .val (.int (2 : Int32)), .val (.int c0), .val (.int c1), .val (.int c2), .val (.int c3), .val (.ref b174), .val (.ref b230), .val (.ref b250), .val (.ref ra), .val (.int (0 : Int32)), .unset] [(.int (((2 : Int32) - (0 : Int32)) - (1 : Int32)))]))
      rw [show (((2 : Int32) - (0 : Int32)) - (1 : Int32)) = (1 : Int32) by decide]
      show DnW p e below s (own_Q n0) 32 4288 (T264.setTop (mkF m 254 #[.val (.int i0), .val (.int i1), .val (.int i2), .val (.int i3), .val (.int i4), .val (.int (2 : Int32)), .val (.int c0), .val (.int c1), .val (.int c2), .val (.int c3), .val (.ref b174), .val (.ref b230), .val (.ref b250), .val (.ref ra), .val (.int (0 : Int32)), .unset] [(.int (1 : Int32))]))
      refine DnW.of (fun tt_ zz_ => XS.istore X264.here hx rfl (hb hby at_254) rfl (l' := #[.val (.int i0), .val (.int i1), .val (.int i2), .val (.int i3), .val (.int i4), .val (.int (2 : Int32)), .val (.int c0), .val (.int c1), .val (.int c2), .val (.int c3), .val (.ref b174), .val (.ref b230), .val (.ref b250), .val (.ref ra), .val (.int (0 : Int32)), .val (.int (1 : Int32))]) rfl zz_) ?_
      refine DnW.of (fun tt_ zz_ => XS.aload X264.here hx rfl (hb hby at_256) rfl rfl zz_) ?_
      show DnW p e below s (own_Q n0) 32 4288 (T264.setTop (mkF m 258 #[.val (.int i0), .val (.int i1), .val (.int i2), .val (.int i3), .val (.int i4), .val (.int (2 : Int32)), .val (.int c0), .val (.int c1), .val (.int c2), .val (.int c3), .val (.ref b174), .val (.ref b230), .val (.ref b250), .val (.ref ra), .val (.int (0 : Int32)), .val (.int (1 : Int32))] [(.ref ra)]))
      obtain ⟨v265, T265, L265, Q265, X265, st265⟩ := cVi X264 hx hZ (C := "java/lang/String") (y := (⟨"java/lang/String", "length", "()I"⟩ : MethodName)) (z := (⟨"java/lang/String", "length", "()I"⟩ : MethodName)) hown (hg 135 rfl) (hg 105 rfl) (notFace_of_selects (args := #[]) (mvT hZ (hg 107 rfl))) (hg 107 rfl) (hg 106 rfl) (hg 7 rfl) (hg 108 rfl) (by decide) (a := ra) (argsL := []) (rest := []) (rmLn l Z a0 hw T260.heap n0 F262 ra rb (1 : Int32) [own_B c1] Sr cz hcz SZ F261) e264 (own_exa Sr) 0 (by decide) (by decide) (by decide) (by decide) (g := (mkF m 258 #[.val (.int i0), .val (.int i1), .val (.int i2), .val (.int i3), .val (.int i4), .val (.int (2 : Int32)), .val (.int c0), .val (.int c1), .val (.int c2), .val (.int c3), .val (.ref b174), .val (.ref b230), .val (.ref b250), .val (.ref ra), .val (.int (0 : Int32)), .val (.int (1 : Int32))] [(.ref ra)])) rfl (by rw [hml]; rfl) (lenOf pd9 rfl) rfl (by show 2 * 0 + _ ≤ _; exact Nat.le_of_eq rfl) (hb hby at_258)
      obtain ⟨rfl, Mq, e265⟩ := Q265
      refine DnW.of st265 ?_
      show DnW p e below s (own_Q n0) 32 4288 (T265.setTop (mkF m 261 #[.val (.int i0), .val (.int i1), .val (.int i2), .val (.int i3), .val (.int i4), .val (.int (2 : Int32)), .val (.int c0), .val (.int c1), .val (.int c2), .val (.int c3), .val (.ref b174), .val (.ref b230), .val (.ref b250), .val (.ref ra), .val (.int (0 : Int32)), .val (.int (1 : Int32))] [(.int (1 : Int32))]))
      refine DnW.of (fun tt_ zz_ => XS.iload X265.here hx rfl (hb hby at_261) rfl zz_) ?_
      show DnW p e below s (own_Q n0) 32 4288 (T265.setTop (mkF m 263 #[.val (.int i0), .val (.int i1), .val (.int i2), .val (.int i3), .val (.int i4), .val (.int (2 : Int32)), .val (.int c0), .val (.int c1), .val (.int c2), .val (.int c3), .val (.ref b174), .val (.ref b230), .val (.ref b250), .val (.ref ra), .val (.int (0 : Int32)), .val (.int (1 : Int32))] [(.int (1 : Int32)), (.int (1 : Int32))]))
      refine DnW.of (fun tt_ zz_ => XS.icmpYes X265.here hx rfl (pc0 := 263) (pc' := 268) rfl (hb hby at_263) rfl (teq rfl).1 (by decide) (by decide) zz_) ?_
      show DnW p e below s (own_Q n0) 32 4288 (T265.setTop (mkF m 268 #[.val (.int i0), .val (.int i1), .val (.int i2), .val (.int i3), .val (.int i4), .val (.int (2 : Int32)), .val (.int c0), .val (.int c1), .val (.int c2), .val (.int c3), .val (.ref b174), .val (.ref b230), .val (.ref b250), .val (.ref ra), .val (.int (0 : Int32)), .val (.int (1 : Int32))] []))
      refine DnW.of (fun tt_ zz_ => XS.aload X265.here hx rfl (hb hby at_268) rfl rfl zz_) ?_
      refine DnW.of (fun tt_ zz_ => XS.aload X265.here hx rfl (hb hby at_270) rfl rfl zz_) ?_
      refine DnW.of (fun tt_ zz_ => XS.iload X265.here hx rfl (hb hby at_272) rfl zz_) ?_
      refine DnW.of (fun tt_ zz_ => XS.iconst X265.here hx rfl (hb hby at_274) zz_) ?_
      show DnW p e below s (own_Q n0) 32 4288 (T265.setTop (mkF m 275 #[.val (.int i0), .val (.int i1), .val (.int i2), .val (.int i3), .val (.int i4), .val (.int (2 : Int32)), .val (.int c0), .val (.int c1), .val (.int c2), .val (.int c3), .val (.ref b174), .val (.ref b230), .val (.ref b250), .val (.ref ra), .val (.int (0 : Int32)), .val (.int (1 : Int32))] [(.int (0 : Int32)), (.int (0 : Int32)), (.ref b174), (.ref ra)]))
      obtain ⟨v266, T266, L266, Q266, X266, st266⟩ := cSt X265 hx hZ (y := (⟨"com/example/vellum/vellum/types/DvUriFragmentIdPinLaw", "same", "(Ljava/lang/String;[CII)Z"⟩ : MethodName)) hown (hg 176 rfl) (hg 177 rfl) (hg 2 rfl) (hg 178 rfl) (by decide) (argsL := [(.ref ra), (.ref b174), (.int (0 : Int32)), (.int (0 : Int32))]) (rest := []) (rmSb l Z a0 hw T260.heap n0 F262 ra rb (1 : Int32) [own_B c1] Sr cz hcz SZ F261 b174 (0 : Int32) (0 : Int32) fv rf SF _ _ c1 (by decide) y1 rfl F263 (by decide) rfl) e265  0 (by decide) (by decide) (by decide) (by decide) (g := (mkF m 275 #[.val (.int i0), .val (.int i1), .val (.int i2), .val (.int i3), .val (.int i4), .val (.int (2 : Int32)), .val (.int c0), .val (.int c1), .val (.int c2), .val (.int c3), .val (.ref b174), .val (.ref b230), .val (.ref b250), .val (.ref ra), .val (.int (0 : Int32)), .val (.int (1 : Int32))] [(.int (0 : Int32)), (.int (0 : Int32)), (.ref b174), (.ref ra)])) rfl (by rw [hml]; rfl) (lenOf pd31 rfl) rfl (by show 2 * 0 + _ ≤ _; exact Nat.le_of_eq rfl) (hb hby at_275)
      obtain ⟨rfl, Mk0, e266⟩ := Q266
      refine DnW.of st266 ?_
      show DnW p e below s (own_Q n0) 32 4288 (T266.setTop (mkF m 278 #[.val (.int i0), .val (.int i1), .val (.int i2), .val (.int i3), .val (.int i4), .val (.int (2 : Int32)), .val (.int c0), .val (.int c1), .val (.int c2), .val (.int c3), .val (.ref b174), .val (.ref b230), .val (.ref b250), .val (.ref ra), .val (.int (0 : Int32)), .val (.int (1 : Int32))] [(.int (1 : Int32))]))
      refine DnW.of (fun tt_ zz_ => XS.ifNo X266.here hx rfl (hb hby at_278) rfl ((if0 _ _).trans (feq (by decide)).1) zz_) ?_
      show DnW p e below s (own_Q n0) 32 4288 (T266.setTop (mkF m 281 #[.val (.int i0), .val (.int i1), .val (.int i2), .val (.int i3), .val (.int i4), .val (.int (2 : Int32)), .val (.int c0), .val (.int c1), .val (.int c2), .val (.int c3), .val (.ref b174), .val (.ref b230), .val (.ref b250), .val (.ref ra), .val (.int (0 : Int32)), .val (.int (1 : Int32))] []))
      refine DnW.of (fun tt_ zz_ => XS.aload X266.here hx rfl (hb hby at_281) rfl rfl zz_) ?_
      refine DnW.of (fun tt_ zz_ => XS.aload X266.here hx rfl (hb hby at_283) rfl rfl zz_) ?_
      refine DnW.of (fun tt_ zz_ => XS.iload X266.here hx rfl (hb hby at_285) rfl zz_) ?_
      refine DnW.of (fun tt_ zz_ => XS.iconst X266.here hx rfl (hb hby at_287) zz_) ?_
      show DnW p e below s (own_Q n0) 32 4288 (T266.setTop (mkF m 288 #[.val (.int i0), .val (.int i1), .val (.int i2), .val (.int i3), .val (.int i4), .val (.int (2 : Int32)), .val (.int c0), .val (.int c1), .val (.int c2), .val (.int c3), .val (.ref b174), .val (.ref b230), .val (.ref b250), .val (.ref ra), .val (.int (0 : Int32)), .val (.int (1 : Int32))] [(.int (1 : Int32)), (.int (0 : Int32)), (.ref b174), (.ref ra)]))
      obtain ⟨v267, T267, L267, Q267, X267, st267⟩ := cSt X266 hx hZ (y := (⟨"com/example/vellum/vellum/types/DvUriFragmentIdPinLaw", "same", "(Ljava/lang/String;[CII)Z"⟩ : MethodName)) hown (hg 176 rfl) (hg 177 rfl) (hg 2 rfl) (hg 178 rfl) (by decide) (argsL := [(.ref ra), (.ref b174), (.int (0 : Int32)), (.int (1 : Int32))]) (rest := []) (rmSa l Z a0 hw T260.heap n0 F262 ra rb (1 : Int32) [own_B c1] Sr cz hcz SZ F261 b174 (0 : Int32) (1 : Int32) (by decide)) e266  0 (by decide) (by decide) (by decide) (by decide) (g := (mkF m 288 #[.val (.int i0), .val (.int i1), .val (.int i2), .val (.int i3), .val (.int i4), .val (.int (2 : Int32)), .val (.int c0), .val (.int c1), .val (.int c2), .val (.int c3), .val (.ref b174), .val (.ref b230), .val (.ref b250), .val (.ref ra), .val (.int (0 : Int32)), .val (.int (1 : Int32))] [(.int (1 : Int32)), (.int (0 : Int32)), (.ref b174), (.ref ra)])) rfl (by rw [hml]; rfl) (lenOf pd31 rfl) rfl (by show 2 * 0 + _ ≤ _; exact Nat.le_of_eq rfl) (hb hby at_288)
      obtain ⟨rfl, Mk1, e267⟩ := Q267
      refine DnW.of st267 ?_
      show DnW p e below s (own_Q n0) 32 4288 (T267.setTop (mkF m 291 #[.val (.int i0), .val (.int i1), .val (.int i2), .val (.int i3), .val (.int i4), .val (.int (2 : Int32)), .val (.int c0), .val (.int c1), .val (.int c2), .val (.int c3), .val (.ref b174), .val (.ref b230), .val (.ref b250), .val (.ref ra), .val (.int (0 : Int32)), .val (.int (1 : Int32))] [(.int (1 : Int32))]))
      refine DnW.of (fun tt_ zz_ => XS.ifNo X267.here hx rfl (hb hby at_291) rfl ((if0 _ _).trans (feq (by decide)).1) zz_) ?_
      show DnW p e below s (own_Q n0) 32 4288 (T267.setTop (mkF m 294 #[.val (.int i0), .val (.int i1), .val (.int i2), .val (.int i3), .val (.int i4), .val (.int (2 : Int32)), .val (.int c0), .val (.int c1), .val (.int c2), .val (.int c3), .val (.ref b174), .val (.ref b230), .val (.ref b250), .val (.ref ra), .val (.int (0 : Int32)), .val (.int (1 : Int32))] []))
      refine DnW.of (fun tt_ zz_ => XS.aload X267.here hx rfl (hb hby at_294) rfl rfl zz_) ?_
      refine DnW.of (fun tt_ zz_ => XS.aload X267.here hx rfl (hb hby at_296) rfl rfl zz_) ?_
      refine DnW.of (fun tt_ zz_ => XS.iload X267.here hx rfl (hb hby at_298) rfl zz_) ?_
      refine DnW.of (fun tt_ zz_ => XS.iconst X267.here hx rfl (hb hby at_300) zz_) ?_
      show DnW p e below s (own_Q n0) 32 4288 (T267.setTop (mkF m 301 #[.val (.int i0), .val (.int i1), .val (.int i2), .val (.int i3), .val (.int i4), .val (.int (2 : Int32)), .val (.int c0), .val (.int c1), .val (.int c2), .val (.int c3), .val (.ref b174), .val (.ref b230), .val (.ref b250), .val (.ref ra), .val (.int (0 : Int32)), .val (.int (1 : Int32))] [(.int (2 : Int32)), (.int (0 : Int32)), (.ref b174), (.ref ra)]))
      obtain ⟨v268, T268, L268, Q268, X268, st268⟩ := cSt X267 hx hZ (y := (⟨"com/example/vellum/vellum/types/DvUriFragmentIdPinLaw", "same", "(Ljava/lang/String;[CII)Z"⟩ : MethodName)) hown (hg 176 rfl) (hg 177 rfl) (hg 2 rfl) (hg 178 rfl) (by decide) (argsL := [(.ref ra), (.ref b174), (.int (0 : Int32)), (.int (2 : Int32))]) (rest := []) (rmSa l Z a0 hw T260.heap n0 F262 ra rb (1 : Int32) [own_B c1] Sr cz hcz SZ F261 b174 (0 : Int32) (2 : Int32) (by decide)) e267  0 (by decide) (by decide) (by decide) (by decide) (g := (mkF m 301 #[.val (.int i0), .val (.int i1), .val (.int i2), .val (.int i3), .val (.int i4), .val (.int (2 : Int32)), .val (.int c0), .val (.int c1), .val (.int c2), .val (.int c3), .val (.ref b174), .val (.ref b230), .val (.ref b250), .val (.ref ra), .val (.int (0 : Int32)), .val (.int (1 : Int32))] [(.int (2 : Int32)), (.int (0 : Int32)), (.ref b174), (.ref ra)])) rfl (by rw [hml]; rfl) (lenOf pd31 rfl) rfl (by show 2 * 0 + _ ≤ _; exact Nat.le_of_eq rfl) (hb hby at_301)
      obtain ⟨rfl, Mk2, e268⟩ := Q268
      refine DnW.of st268 ?_
      show DnW p e below s (own_Q n0) 32 4288 (T268.setTop (mkF m 304 #[.val (.int i0), .val (.int i1), .val (.int i2), .val (.int i3), .val (.int i4), .val (.int (2 : Int32)), .val (.int c0), .val (.int c1), .val (.int c2), .val (.int c3), .val (.ref b174), .val (.ref b230), .val (.ref b250), .val (.ref ra), .val (.int (0 : Int32)), .val (.int (1 : Int32))] [(.int (1 : Int32))]))
      refine DnW.of (fun tt_ zz_ => XS.ifNo X268.here hx rfl (hb hby at_304) rfl ((if0 _ _).trans (feq (by decide)).1) zz_) ?_
      show DnW p e below s (own_Q n0) 32 4288 (T268.setTop (mkF m 307 #[.val (.int i0), .val (.int i1), .val (.int i2), .val (.int i3), .val (.int i4), .val (.int (2 : Int32)), .val (.int c0), .val (.int c1), .val (.int c2), .val (.int c3), .val (.ref b174), .val (.ref b230), .val (.ref b250), .val (.ref ra), .val (.int (0 : Int32)), .val (.int (1 : Int32))] []))
      refine DnW.of (fun tt_ zz_ => XS.iconst X268.here hx rfl (hb hby at_307) zz_) ?_
      refine DnW.of (fun tt_ zz_ => XS.goto X268.here hx rfl (pc0 := 308) (pc' := 312) rfl (hb hby at_308) (by decide) (by decide) zz_) ?_
      show DnW p e below s (own_Q n0) 32 4288 (T268.setTop (mkF m 312 #[.val (.int i0), .val (.int i1), .val (.int i2), .val (.int i3), .val (.int i4), .val (.int (2 : Int32)), .val (.int c0), .val (.int c1), .val (.int c2), .val (.int c3), .val (.ref b174), .val (.ref b230), .val (.ref b250), .val (.ref ra), .val (.int (0 : Int32)), .val (.int (1 : Int32))] [(.int (1 : Int32))]))
      exact DnW.retN hS (by rw [e268]; exact hk3) X268 hx hlk (t := .boolean) hret (by simp) (hb hby at_312) (by decide) (by decide) (⟨rfl, (Fr.app (Fr.app (Fr.app (Fr.app (Fr.app (Fr.app (Fr.app (Fr.app N240 Ms) Md) Mf) Mh) Mq) Mk0) Mk1) Mk2)⟩)
    · skip
      by_cases h11 : c1 = 35
      · skip
        have b0_ := v0 h10
        have b1_ : own_B c1 = 35 := by rw [h11]; decide
        have hi : own_ix [own_B c0, own_B c1] = (1 : Int32) := by simp [own_ix, b0_, b1_]
        have hcut : own_Cut [own_B c0, own_B c1] [] (2 : Int32) (2 : Int32) (0 : Int32) := ⟨by decide, by decide, by decide, by decide, by decide, by decide, by decide, by decide, rfl⟩
        obtain ⟨v269, T269, L269, Q269, X269, hS, hZ, hown, hC269, st269⟩ := cVH X256 hx hZ (C := "com/example/vellum/vellum/types/DvUri") (y := (⟨"com/example/vellum/vellum/types/DvUri", "fragmentId", "()Ljava/lang/String;"⟩ : MethodName)) (z := (⟨"com/example/vellum/vellum/types/DvUri", "fragmentId", "()Ljava/lang/String;"⟩ : MethodName)) hown (hg 84 rfl) (hg 85 rfl) (notFace_of_selects (args := #[]) (mvT hZ (hg 87 rfl))) (hg 87 rfl) (hg 86 rfl) (hg 36 rfl) (hg 88 rfl) (by decide) (own_EW hw) hC256.1 hS hk2 (a := b250) (argsL := []) (rest := []) (rmFS l Z a0 hw T256.heap n0 F258 b230 sb (2 : Int32) [own_B c0, own_B c1] S3 (Or.inr (Or.inl ⟨rfl, _, _, rfl⟩)) cz hcz SZ F257 fv rf SF b250 FD (1 : Int32) hi (by decide) (2 : Int32) (0 : Int32) [] hcut (by decide)) rfl ET 0 (by decide) (by decide) (by decide) (by decide) (g := (mkF m 207 #[.val (.int i0), .val (.int i1), .val (.int i2), .val (.int i3), .val (.int i4), .val (.int (2 : Int32)), .val (.int c0), .val (.int c1), .val (.int c2), .val (.int c3), .val (.ref b174), .val (.ref b230), .val (.ref b250), .unset, .unset, .unset] [(.ref b250)])) rfl (by rw [hml]; rfl) (lenOf pd29 rfl) rfl (by show 2 * 0 + _ ≤ _; exact Nat.le_of_eq rfl) (hb hby at_207)
        obtain ⟨ra, rb, rfl, Mf, Xf, Sr⟩ := Q269
        refine DnW.of st269 ?_
        show DnW p e below s (own_Q n0) 32 4288 (T269.setTop (mkF m 210 #[.val (.int i0), .val (.int i1), .val (.int i2), .val (.int i3), .val (.int i4), .val (.int (2 : Int32)), .val (.int c0), .val (.int c1), .val (.int c2), .val (.int c3), .val (.ref b174), .val (.ref b230), .val (.ref b250), .unset, .unset, .unset] [(.ref ra)]))
        have hk3 := Nat.le_refl (T269.heap.size)
        refine DnW.of (fun tt_ zz_ => XS.astore X269.here hx rfl (hb hby at_210) rfl rfl (l' := #[.val (.int i0), .val (.int i1), .val (.int i2), .val (.int i3), .val (.int i4), .val (.int (2 : Int32)), .val (.int c0), .val (.int c1), .val (.int c2), .val (.int c3), .val (.ref b174), .val (.ref b230), .val (.ref b250), .val (.ref ra), .unset, .unset]) rfl zz_) ?_
        refine DnW.of (fun tt_ zz_ => XS.aload X269.here hx rfl (hb hby at_212) rfl rfl zz_) ?_
        show DnW p e below s (own_Q n0) 32 4288 (T269.setTop (mkF m 214 #[.val (.int i0), .val (.int i1), .val (.int i2), .val (.int i3), .val (.int i4), .val (.int (2 : Int32)), .val (.int c0), .val (.int c1), .val (.int c2), .val (.int c3), .val (.ref b174), .val (.ref b230), .val (.ref b250), .val (.ref ra), .unset, .unset] [(.ref ra)]))
        refine DnW.of (fun tt_ zz_ => XS.ifnonnullYes X269.here hx rfl (pc0 := 214) (pc' := 219) rfl (hb hby at_214) rfl (by decide) (by decide) zz_) ?_
        show DnW p e below s (own_Q n0) 32 4288 (T269.setTop (mkF m 219 #[.val (.int i0), .val (.int i1), .val (.int i2), .val (.int i3), .val (.int i4), .val (.int (2 : Int32)), .val (.int c0), .val (.int c1), .val (.int c2), .val (.int c3), .val (.ref b174), .val (.ref b230), .val (.ref b250), .val (.ref ra), .unset, .unset] []))
        refine DnW.of (fun tt_ zz_ => XS.aload X269.here hx rfl (hb hby at_219) rfl rfl zz_) ?_
        refine DnW.of (fun tt_ zz_ => XS.iload X269.here hx rfl (hb hby at_221) rfl zz_) ?_
        show DnW p e below s (own_Q n0) 32 4288 (T269.setTop (mkF m 223 #[.val (.int i0), .val (.int i1), .val (.int i2), .val (.int i3), .val (.int i4), .val (.int (2 : Int32)), .val (.int c0), .val (.int c1), .val (.int c2), .val (.int c3), .val (.ref b174), .val (.ref b230), .val (.ref b250), .val (.ref ra), .unset, .unset] [(.int (2 : Int32)), (.ref b174)]))
        have F270 := (F257.ext Xf)
        have F271 := (Nat.le_trans F258 Xf.1)
        have F272 := (F259.ext Xf)
        obtain ⟨v273, T273, L273, Q273, X273, st273⟩ := cSt X269 hx hZ (y := (⟨"com/example/vellum/vellum/types/DvUriFragmentIdPinLaw", "firstHash", "([CI)I"⟩ : MethodName)) hown (hg 132 rfl) (hg 133 rfl) (hg 2 rfl) (hg 134 rfl) (by decide) (argsL := [(.ref b174), (.int (2 : Int32))]) (rest := []) (rmFH2 l Z a0 hw T269.heap n0 F271 b174 _ c0 c1 c2 c3 F272) rfl  0 (by decide) (by decide) (by decide) (by decide) (g := (mkF m 223 #[.val (.int i0), .val (.int i1), .val (.int i2), .val (.int i3), .val (.int i4), .val (.int (2 : Int32)), .val (.int c0), .val (.int c1), .val (.int c2), .val (.int c3), .val (.ref b174), .val (.ref b230), .val (.ref b250), .val (.ref ra), .unset, .unset] [(.int (2 : Int32)), (.ref b174)])) rfl (by rw [hml]; rfl) (lenOf pd30 rfl) rfl (by show 2 * 0 + _ ≤ _; exact Nat.le_of_eq rfl) (hb hby at_223)
        rw [show own_fh (2 : Int32) c0 c1 c2 c3 = (1 : Int32) by unfold own_fh; rw [if_neg h10, if_pos ⟨by decide, h11⟩]] at Q273
        obtain ⟨rfl, Mh, e273⟩ := Q273
        refine DnW.of st273 ?_
        show DnW p e below s (own_Q n0) 32 4288 (T273.setTop (mkF m 226 #[.val (.int i0), .val (.int i1), .val (.int i2), .val (.int i3), .val (.int i4), .val (.int (2 : Int32)), .val (.int c0), .val (.int c1), .val (.int c2), .val (.int c3), .val (.ref b174), .val (.ref b230), .val (.ref b250), .val (.ref ra), .unset, .unset] [(.int (1 : Int32))]))
        refine DnW.of (fun tt_ zz_ => XS.istore X273.here hx rfl (hb hby at_226) rfl (l' := #[.val (.int i0), .val (.int i1), .val (.int i2), .val (.int i3), .val (.int i4), .val (.int (2 : Int32)), .val (.int c0), .val (.int c1), .val (.int c2), .val (.int c3), .val (.ref b174), .val (.ref b230), .val (.ref b250), .val (.ref ra), .val (.int (1 : Int32)), .unset]) rfl zz_) ?_
        refine DnW.of (fun tt_ zz_ => XS.iload X273.here hx rfl (hb hby at_228) rfl zz_) ?_
        show DnW p e below s (own_Q n0) 32 4288 (T273.setTop (mkF m 230 #[.val (.int i0), .val (.int i1), .val (.int i2), .val (.int i3), .val (.int i4), .val (.int (2 : Int32)), .val (.int c0), .val (.int c1), .val (.int c2), .val (.int c3), .val (.ref b174), .val (.ref b230), .val (.ref b250), .val (.ref ra), .val (.int (1 : Int32)), .unset] [(.int (1 : Int32))]))
        refine DnW.of (fun tt_ zz_ => XS.ifYes X273.here hx rfl (pc0 := 230) (pc' := 247) rfl (hb hby at_230) rfl ((if0 _ _).trans (flt (by decide)).2.1) (by decide) (by decide) zz_) ?_
        show DnW p e below s (own_Q n0) 32 4288 (T273.setTop (mkF m 247 #[.val (.int i0), .val (.int i1), .val (.int i2), .val (.int i3), .val (.int i4), .val (.int (2 : Int32)), .val (.int c0), .val (.int c1), .val (.int c2), .val (.int c3), .val (.ref b174), .val (.ref b230), .val (.ref b250), .val (.ref ra), .val (.int (1 : Int32)), .unset] []))
        refine DnW.of (fun tt_ zz_ => XS.iload X273.here hx rfl (hb hby at_247) rfl zz_) ?_
        refine DnW.of (fun tt_ zz_ => XS.iload X273.here hx rfl (hb hby at_249) rfl zz_) ?_
        refine DnW.of (fun tt_ zz_ => XS.isub X273.here hx rfl (hb hby at_251) rfl zz_) ?_
        refine DnW.of (fun tt_ zz_ => XS.iconst X273.here hx rfl (hb hby at_252) zz_) ?_
        show DnW p e below s (own_Q n0) 32 4288 (T273.setTop (mkF m 253 #[.val (.int i0), .val (.int i1), .val (.int i2), .val (.int i3), .val (.int i4), .val (.int (2 : Int32)), .val (.int c0), .val (.int c1), .val (.int c2), .val (.int c3), .val (.ref b174), .val (.ref b230), .val (.ref b250), .val (.ref ra), .val (.int (1 : Int32)), .unset] [(.int (1 : Int32)), (.int ((2 : Int32) - (1 : Int32)))]))
        refine DnW.of (fun tt_ zz_ => XS.isub X273.here hx rfl (hb hby at_253) rfl zz_) ?_
        show DnW p e below s (own_Q n0) 32 4288 (T273.setTop (mkF m 254 #[.val (.int i0), .val (.int i1), .val (.int i2), .val (.int i3), .val (.int i4), .val (.int (2 : Int32)), .val (.int c0), .val (.int c1), .val (.int c2), .val (.int c3), .val (.ref b174), .val (.ref b230), .val (.ref b250), .val (.ref ra), .val (.int (1 : Int32)), .unset] [(.int (((2 : Int32) - (1 : Int32)) - (1 : Int32)))]))
        rw [show (((2 : Int32) - (1 : Int32)) - (1 : Int32)) = (0 : Int32) by decide]
        show DnW p e below s (own_Q n0) 32 4288 (T273.setTop (mkF m 254 #[.val (.int i0), .val (.int i1), .val (.int i2), .val (.int i3), .val (.int i4), .val (.int (2 : Int32)), .val (.int c0), .val (.int c1), .val (.int c2), .val (.int c3), .val (.ref b174), .val (.ref b230), .val (.ref b250), .val (.ref ra), .val (.int (1 : Int32)), .unset] [(.int (0 : Int32))]))
        refine DnW.of (fun tt_ zz_ => XS.istore X273.here hx rfl (hb hby at_254) rfl (l' := #[.val (.int i0), .val (.int i1), .val (.int i2), .val (.int i3), .val (.int i4), .val (.int (2 : Int32)), .val (.int c0), .val (.int c1), .val (.int c2), .val (.int c3), .val (.ref b174), .val (.ref b230), .val (.ref b250), .val (.ref ra), .val (.int (1 : Int32)), .val (.int (0 : Int32))]) rfl zz_) ?_
        refine DnW.of (fun tt_ zz_ => XS.aload X273.here hx rfl (hb hby at_256) rfl rfl zz_) ?_
        show DnW p e below s (own_Q n0) 32 4288 (T273.setTop (mkF m 258 #[.val (.int i0), .val (.int i1), .val (.int i2), .val (.int i3), .val (.int i4), .val (.int (2 : Int32)), .val (.int c0), .val (.int c1), .val (.int c2), .val (.int c3), .val (.ref b174), .val (.ref b230), .val (.ref b250), .val (.ref ra), .val (.int (1 : Int32)), .val (.int (0 : Int32))] [(.ref ra)]))
        obtain ⟨v274, T274, L274, Q274, X274, st274⟩ := cVi X273 hx hZ (C := "java/lang/String") (y := (⟨"java/lang/String", "length", "()I"⟩ : MethodName)) (z := (⟨"java/lang/String", "length", "()I"⟩ : MethodName)) hown (hg 135 rfl) (hg 105 rfl) (notFace_of_selects (args := #[]) (mvT hZ (hg 107 rfl))) (hg 107 rfl) (hg 106 rfl) (hg 7 rfl) (hg 108 rfl) (by decide) (a := ra) (argsL := []) (rest := []) (rmLn l Z a0 hw T269.heap n0 F271 ra rb (0 : Int32) [] Sr cz hcz SZ F270) e273 (own_exa Sr) 0 (by decide) (by decide) (by decide) (by decide) (g := (mkF m 258 #[.val (.int i0), .val (.int i1), .val (.int i2), .val (.int i3), .val (.int i4), .val (.int (2 : Int32)), .val (.int c0), .val (.int c1), .val (.int c2), .val (.int c3), .val (.ref b174), .val (.ref b230), .val (.ref b250), .val (.ref ra), .val (.int (1 : Int32)), .val (.int (0 : Int32))] [(.ref ra)])) rfl (by rw [hml]; rfl) (lenOf pd9 rfl) rfl (by show 2 * 0 + _ ≤ _; exact Nat.le_of_eq rfl) (hb hby at_258)
        obtain ⟨rfl, Mq, e274⟩ := Q274
        refine DnW.of st274 ?_
        show DnW p e below s (own_Q n0) 32 4288 (T274.setTop (mkF m 261 #[.val (.int i0), .val (.int i1), .val (.int i2), .val (.int i3), .val (.int i4), .val (.int (2 : Int32)), .val (.int c0), .val (.int c1), .val (.int c2), .val (.int c3), .val (.ref b174), .val (.ref b230), .val (.ref b250), .val (.ref ra), .val (.int (1 : Int32)), .val (.int (0 : Int32))] [(.int (0 : Int32))]))
        refine DnW.of (fun tt_ zz_ => XS.iload X274.here hx rfl (hb hby at_261) rfl zz_) ?_
        show DnW p e below s (own_Q n0) 32 4288 (T274.setTop (mkF m 263 #[.val (.int i0), .val (.int i1), .val (.int i2), .val (.int i3), .val (.int i4), .val (.int (2 : Int32)), .val (.int c0), .val (.int c1), .val (.int c2), .val (.int c3), .val (.ref b174), .val (.ref b230), .val (.ref b250), .val (.ref ra), .val (.int (1 : Int32)), .val (.int (0 : Int32))] [(.int (0 : Int32)), (.int (0 : Int32))]))
        refine DnW.of (fun tt_ zz_ => XS.icmpYes X274.here hx rfl (pc0 := 263) (pc' := 268) rfl (hb hby at_263) rfl (teq rfl).1 (by decide) (by decide) zz_) ?_
        show DnW p e below s (own_Q n0) 32 4288 (T274.setTop (mkF m 268 #[.val (.int i0), .val (.int i1), .val (.int i2), .val (.int i3), .val (.int i4), .val (.int (2 : Int32)), .val (.int c0), .val (.int c1), .val (.int c2), .val (.int c3), .val (.ref b174), .val (.ref b230), .val (.ref b250), .val (.ref ra), .val (.int (1 : Int32)), .val (.int (0 : Int32))] []))
        refine DnW.of (fun tt_ zz_ => XS.aload X274.here hx rfl (hb hby at_268) rfl rfl zz_) ?_
        refine DnW.of (fun tt_ zz_ => XS.aload X274.here hx rfl (hb hby at_270) rfl rfl zz_) ?_
        refine DnW.of (fun tt_ zz_ => XS.iload X274.here hx rfl (hb hby at_272) rfl zz_) ?_
        refine DnW.of (fun tt_ zz_ => XS.iconst X274.here hx rfl (hb hby at_274) zz_) ?_
        show DnW p e below s (own_Q n0) 32 4288 (T274.setTop (mkF m 275 #[.val (.int i0), .val (.int i1), .val (.int i2), .val (.int i3), .val (.int i4), .val (.int (2 : Int32)), .val (.int c0), .val (.int c1), .val (.int c2), .val (.int c3), .val (.ref b174), .val (.ref b230), .val (.ref b250), .val (.ref ra), .val (.int (1 : Int32)), .val (.int (0 : Int32))] [(.int (0 : Int32)), (.int (1 : Int32)), (.ref b174), (.ref ra)]))
        obtain ⟨v275, T275, L275, Q275, X275, st275⟩ := cSt X274 hx hZ (y := (⟨"com/example/vellum/vellum/types/DvUriFragmentIdPinLaw", "same", "(Ljava/lang/String;[CII)Z"⟩ : MethodName)) hown (hg 176 rfl) (hg 177 rfl) (hg 2 rfl) (hg 178 rfl) (by decide) (argsL := [(.ref ra), (.ref b174), (.int (1 : Int32)), (.int (0 : Int32))]) (rest := []) (rmSa l Z a0 hw T269.heap n0 F271 ra rb (0 : Int32) [] Sr cz hcz SZ F270 b174 (1 : Int32) (0 : Int32) (by decide)) e274  0 (by decide) (by decide) (by decide) (by decide) (g := (mkF m 275 #[.val (.int i0), .val (.int i1), .val (.int i2), .val (.int i3), .val (.int i4), .val (.int (2 : Int32)), .val (.int c0), .val (.int c1), .val (.int c2), .val (.int c3), .val (.ref b174), .val (.ref b230), .val (.ref b250), .val (.ref ra), .val (.int (1 : Int32)), .val (.int (0 : Int32))] [(.int (0 : Int32)), (.int (1 : Int32)), (.ref b174), (.ref ra)])) rfl (by rw [hml]; rfl) (lenOf pd31 rfl) rfl (by show 2 * 0 + _ ≤ _; exact Nat.le_of_eq rfl) (hb hby at_275)
        obtain ⟨rfl, Mk0, e275⟩ := Q275
        refine DnW.of st275 ?_
        show DnW p e below s (own_Q n0) 32 4288 (T275.setTop (mkF m 278 #[.val (.int i0), .val (.int i1), .val (.int i2), .val (.int i3), .val (.int i4), .val (.int (2 : Int32)), .val (.int c0), .val (.int c1), .val (.int c2), .val (.int c3), .val (.ref b174), .val (.ref b230), .val (.ref b250), .val (.ref ra), .val (.int (1 : Int32)), .val (.int (0 : Int32))] [(.int (1 : Int32))]))
        refine DnW.of (fun tt_ zz_ => XS.ifNo X275.here hx rfl (hb hby at_278) rfl ((if0 _ _).trans (feq (by decide)).1) zz_) ?_
        show DnW p e below s (own_Q n0) 32 4288 (T275.setTop (mkF m 281 #[.val (.int i0), .val (.int i1), .val (.int i2), .val (.int i3), .val (.int i4), .val (.int (2 : Int32)), .val (.int c0), .val (.int c1), .val (.int c2), .val (.int c3), .val (.ref b174), .val (.ref b230), .val (.ref b250), .val (.ref ra), .val (.int (1 : Int32)), .val (.int (0 : Int32))] []))
        refine DnW.of (fun tt_ zz_ => XS.aload X275.here hx rfl (hb hby at_281) rfl rfl zz_) ?_
        refine DnW.of (fun tt_ zz_ => XS.aload X275.here hx rfl (hb hby at_283) rfl rfl zz_) ?_
        refine DnW.of (fun tt_ zz_ => XS.iload X275.here hx rfl (hb hby at_285) rfl zz_) ?_
        refine DnW.of (fun tt_ zz_ => XS.iconst X275.here hx rfl (hb hby at_287) zz_) ?_
        show DnW p e below s (own_Q n0) 32 4288 (T275.setTop (mkF m 288 #[.val (.int i0), .val (.int i1), .val (.int i2), .val (.int i3), .val (.int i4), .val (.int (2 : Int32)), .val (.int c0), .val (.int c1), .val (.int c2), .val (.int c3), .val (.ref b174), .val (.ref b230), .val (.ref b250), .val (.ref ra), .val (.int (1 : Int32)), .val (.int (0 : Int32))] [(.int (1 : Int32)), (.int (1 : Int32)), (.ref b174), (.ref ra)]))
        obtain ⟨v276, T276, L276, Q276, X276, st276⟩ := cSt X275 hx hZ (y := (⟨"com/example/vellum/vellum/types/DvUriFragmentIdPinLaw", "same", "(Ljava/lang/String;[CII)Z"⟩ : MethodName)) hown (hg 176 rfl) (hg 177 rfl) (hg 2 rfl) (hg 178 rfl) (by decide) (argsL := [(.ref ra), (.ref b174), (.int (1 : Int32)), (.int (1 : Int32))]) (rest := []) (rmSa l Z a0 hw T269.heap n0 F271 ra rb (0 : Int32) [] Sr cz hcz SZ F270 b174 (1 : Int32) (1 : Int32) (by decide)) e275  0 (by decide) (by decide) (by decide) (by decide) (g := (mkF m 288 #[.val (.int i0), .val (.int i1), .val (.int i2), .val (.int i3), .val (.int i4), .val (.int (2 : Int32)), .val (.int c0), .val (.int c1), .val (.int c2), .val (.int c3), .val (.ref b174), .val (.ref b230), .val (.ref b250), .val (.ref ra), .val (.int (1 : Int32)), .val (.int (0 : Int32))] [(.int (1 : Int32)), (.int (1 : Int32)), (.ref b174), (.ref ra)])) rfl (by rw [hml]; rfl) (lenOf pd31 rfl) rfl (by show 2 * 0 + _ ≤ _; exact Nat.le_of_eq rfl) (hb hby at_288)
        obtain ⟨rfl, Mk1, e276⟩ := Q276
        refine DnW.of st276 ?_
        show DnW p e below s (own_Q n0) 32 4288 (T276.setTop (mkF m 291 #[.val (.int i0), .val (.int i1), .val (.int i2), .val (.int i3), .val (.int i4), .val (.int (2 : Int32)), .val (.int c0), .val (.int c1), .val (.int c2), .val (.int c3), .val (.ref b174), .val (.ref b230), .val (.ref b250), .val (.ref ra), .val (.int (1 : Int32)), .val (.int (0 : Int32))] [(.int (1 : Int32))]))
        refine DnW.of (fun tt_ zz_ => XS.ifNo X276.here hx rfl (hb hby at_291) rfl ((if0 _ _).trans (feq (by decide)).1) zz_) ?_
        show DnW p e below s (own_Q n0) 32 4288 (T276.setTop (mkF m 294 #[.val (.int i0), .val (.int i1), .val (.int i2), .val (.int i3), .val (.int i4), .val (.int (2 : Int32)), .val (.int c0), .val (.int c1), .val (.int c2), .val (.int c3), .val (.ref b174), .val (.ref b230), .val (.ref b250), .val (.ref ra), .val (.int (1 : Int32)), .val (.int (0 : Int32))] []))
        refine DnW.of (fun tt_ zz_ => XS.aload X276.here hx rfl (hb hby at_294) rfl rfl zz_) ?_
        refine DnW.of (fun tt_ zz_ => XS.aload X276.here hx rfl (hb hby at_296) rfl rfl zz_) ?_
        refine DnW.of (fun tt_ zz_ => XS.iload X276.here hx rfl (hb hby at_298) rfl zz_) ?_
        refine DnW.of (fun tt_ zz_ => XS.iconst X276.here hx rfl (hb hby at_300) zz_) ?_
        show DnW p e below s (own_Q n0) 32 4288 (T276.setTop (mkF m 301 #[.val (.int i0), .val (.int i1), .val (.int i2), .val (.int i3), .val (.int i4), .val (.int (2 : Int32)), .val (.int c0), .val (.int c1), .val (.int c2), .val (.int c3), .val (.ref b174), .val (.ref b230), .val (.ref b250), .val (.ref ra), .val (.int (1 : Int32)), .val (.int (0 : Int32))] [(.int (2 : Int32)), (.int (1 : Int32)), (.ref b174), (.ref ra)]))
        obtain ⟨v277, T277, L277, Q277, X277, st277⟩ := cSt X276 hx hZ (y := (⟨"com/example/vellum/vellum/types/DvUriFragmentIdPinLaw", "same", "(Ljava/lang/String;[CII)Z"⟩ : MethodName)) hown (hg 176 rfl) (hg 177 rfl) (hg 2 rfl) (hg 178 rfl) (by decide) (argsL := [(.ref ra), (.ref b174), (.int (1 : Int32)), (.int (2 : Int32))]) (rest := []) (rmSa l Z a0 hw T269.heap n0 F271 ra rb (0 : Int32) [] Sr cz hcz SZ F270 b174 (1 : Int32) (2 : Int32) (by decide)) e276  0 (by decide) (by decide) (by decide) (by decide) (g := (mkF m 301 #[.val (.int i0), .val (.int i1), .val (.int i2), .val (.int i3), .val (.int i4), .val (.int (2 : Int32)), .val (.int c0), .val (.int c1), .val (.int c2), .val (.int c3), .val (.ref b174), .val (.ref b230), .val (.ref b250), .val (.ref ra), .val (.int (1 : Int32)), .val (.int (0 : Int32))] [(.int (2 : Int32)), (.int (1 : Int32)), (.ref b174), (.ref ra)])) rfl (by rw [hml]; rfl) (lenOf pd31 rfl) rfl (by show 2 * 0 + _ ≤ _; exact Nat.le_of_eq rfl) (hb hby at_301)
        obtain ⟨rfl, Mk2, e277⟩ := Q277
        refine DnW.of st277 ?_
        show DnW p e below s (own_Q n0) 32 4288 (T277.setTop (mkF m 304 #[.val (.int i0), .val (.int i1), .val (.int i2), .val (.int i3), .val (.int i4), .val (.int (2 : Int32)), .val (.int c0), .val (.int c1), .val (.int c2), .val (.int c3), .val (.ref b174), .val (.ref b230), .val (.ref b250), .val (.ref ra), .val (.int (1 : Int32)), .val (.int (0 : Int32))] [(.int (1 : Int32))]))
        refine DnW.of (fun tt_ zz_ => XS.ifNo X277.here hx rfl (hb hby at_304) rfl ((if0 _ _).trans (feq (by decide)).1) zz_) ?_
        show DnW p e below s (own_Q n0) 32 4288 (T277.setTop (mkF m 307 #[.val (.int i0), .val (.int i1), .val (.int i2), .val (.int i3), .val (.int i4), .val (.int (2 : Int32)), .val (.int c0), .val (.int c1), .val (.int c2), .val (.int c3), .val (.ref b174), .val (.ref b230), .val (.ref b250), .val (.ref ra), .val (.int (1 : Int32)), .val (.int (0 : Int32))] []))
        refine DnW.of (fun tt_ zz_ => XS.iconst X277.here hx rfl (hb hby at_307) zz_) ?_
        refine DnW.of (fun tt_ zz_ => XS.goto X277.here hx rfl (pc0 := 308) (pc' := 312) rfl (hb hby at_308) (by decide) (by decide) zz_) ?_
        show DnW p e below s (own_Q n0) 32 4288 (T277.setTop (mkF m 312 #[.val (.int i0), .val (.int i1), .val (.int i2), .val (.int i3), .val (.int i4), .val (.int (2 : Int32)), .val (.int c0), .val (.int c1), .val (.int c2), .val (.int c3), .val (.ref b174), .val (.ref b230), .val (.ref b250), .val (.ref ra), .val (.int (1 : Int32)), .val (.int (0 : Int32))] [(.int (1 : Int32))]))
        exact DnW.retN hS (by rw [e277]; exact hk3) X277 hx hlk (t := .boolean) hret (by simp) (hb hby at_312) (by decide) (by decide) (⟨rfl, (Fr.app (Fr.app (Fr.app (Fr.app (Fr.app (Fr.app (Fr.app (Fr.app N240 Ms) Md) Mf) Mh) Mq) Mk0) Mk1) Mk2)⟩)
      · skip
        have b0_ := v0 h10
        have b1_ := v1 h11
        have hi : own_ix [own_B c0, own_B c1] = (-1 : Int32) := by simp [own_ix, b0_, b1_]
        obtain ⟨v278, T278, L278, Q278, X278, hS, hZ, hown, hC278, st278⟩ := cVH X256 hx hZ (C := "com/example/vellum/vellum/types/DvUri") (y := (⟨"com/example/vellum/vellum/types/DvUri", "fragmentId", "()Ljava/lang/String;"⟩ : MethodName)) (z := (⟨"com/example/vellum/vellum/types/DvUri", "fragmentId", "()Ljava/lang/String;"⟩ : MethodName)) hown (hg 84 rfl) (hg 85 rfl) (notFace_of_selects (args := #[]) (mvT hZ (hg 87 rfl))) (hg 87 rfl) (hg 86 rfl) (hg 36 rfl) (hg 88 rfl) (by decide) (own_EW hw) hC256.1 hS hk2 (a := b250) (argsL := []) (rest := []) (rmFN l Z a0 hw T256.heap n0 F258 b230 sb (2 : Int32) [own_B c0, own_B c1] S3 (Or.inr (Or.inl ⟨rfl, _, _, rfl⟩)) cz hcz SZ F257 b250 FD hi) rfl ET 0 (by decide) (by decide) (by decide) (by decide) (g := (mkF m 207 #[.val (.int i0), .val (.int i1), .val (.int i2), .val (.int i3), .val (.int i4), .val (.int (2 : Int32)), .val (.int c0), .val (.int c1), .val (.int c2), .val (.int c3), .val (.ref b174), .val (.ref b230), .val (.ref b250), .unset, .unset, .unset] [(.ref b250)])) rfl (by rw [hml]; rfl) (lenOf pd29 rfl) rfl (by show 2 * 0 + _ ≤ _; exact Nat.le_of_eq rfl) (hb hby at_207)
        obtain ⟨ra, rb, rfl, Mf, Xf, Sr⟩ := Q278
        refine DnW.of st278 ?_
        show DnW p e below s (own_Q n0) 32 4288 (T278.setTop (mkF m 210 #[.val (.int i0), .val (.int i1), .val (.int i2), .val (.int i3), .val (.int i4), .val (.int (2 : Int32)), .val (.int c0), .val (.int c1), .val (.int c2), .val (.int c3), .val (.ref b174), .val (.ref b230), .val (.ref b250), .unset, .unset, .unset] [(.ref ra)]))
        have hk3 := Nat.le_refl (T278.heap.size)
        refine DnW.of (fun tt_ zz_ => XS.astore X278.here hx rfl (hb hby at_210) rfl rfl (l' := #[.val (.int i0), .val (.int i1), .val (.int i2), .val (.int i3), .val (.int i4), .val (.int (2 : Int32)), .val (.int c0), .val (.int c1), .val (.int c2), .val (.int c3), .val (.ref b174), .val (.ref b230), .val (.ref b250), .val (.ref ra), .unset, .unset]) rfl zz_) ?_
        refine DnW.of (fun tt_ zz_ => XS.aload X278.here hx rfl (hb hby at_212) rfl rfl zz_) ?_
        show DnW p e below s (own_Q n0) 32 4288 (T278.setTop (mkF m 214 #[.val (.int i0), .val (.int i1), .val (.int i2), .val (.int i3), .val (.int i4), .val (.int (2 : Int32)), .val (.int c0), .val (.int c1), .val (.int c2), .val (.int c3), .val (.ref b174), .val (.ref b230), .val (.ref b250), .val (.ref ra), .unset, .unset] [(.ref ra)]))
        refine DnW.of (fun tt_ zz_ => XS.ifnonnullYes X278.here hx rfl (pc0 := 214) (pc' := 219) rfl (hb hby at_214) rfl (by decide) (by decide) zz_) ?_
        show DnW p e below s (own_Q n0) 32 4288 (T278.setTop (mkF m 219 #[.val (.int i0), .val (.int i1), .val (.int i2), .val (.int i3), .val (.int i4), .val (.int (2 : Int32)), .val (.int c0), .val (.int c1), .val (.int c2), .val (.int c3), .val (.ref b174), .val (.ref b230), .val (.ref b250), .val (.ref ra), .unset, .unset] []))
        refine DnW.of (fun tt_ zz_ => XS.aload X278.here hx rfl (hb hby at_219) rfl rfl zz_) ?_
        refine DnW.of (fun tt_ zz_ => XS.iload X278.here hx rfl (hb hby at_221) rfl zz_) ?_
        show DnW p e below s (own_Q n0) 32 4288 (T278.setTop (mkF m 223 #[.val (.int i0), .val (.int i1), .val (.int i2), .val (.int i3), .val (.int i4), .val (.int (2 : Int32)), .val (.int c0), .val (.int c1), .val (.int c2), .val (.int c3), .val (.ref b174), .val (.ref b230), .val (.ref b250), .val (.ref ra), .unset, .unset] [(.int (2 : Int32)), (.ref b174)]))
        have F279 := (F257.ext Xf)
        have F280 := (Nat.le_trans F258 Xf.1)
        have F281 := (F259.ext Xf)
        obtain ⟨v282, T282, L282, Q282, X282, st282⟩ := cSt X278 hx hZ (y := (⟨"com/example/vellum/vellum/types/DvUriFragmentIdPinLaw", "firstHash", "([CI)I"⟩ : MethodName)) hown (hg 132 rfl) (hg 133 rfl) (hg 2 rfl) (hg 134 rfl) (by decide) (argsL := [(.ref b174), (.int (2 : Int32))]) (rest := []) (rmFH2 l Z a0 hw T278.heap n0 F280 b174 _ c0 c1 c2 c3 F281) rfl  0 (by decide) (by decide) (by decide) (by decide) (g := (mkF m 223 #[.val (.int i0), .val (.int i1), .val (.int i2), .val (.int i3), .val (.int i4), .val (.int (2 : Int32)), .val (.int c0), .val (.int c1), .val (.int c2), .val (.int c3), .val (.ref b174), .val (.ref b230), .val (.ref b250), .val (.ref ra), .unset, .unset] [(.int (2 : Int32)), (.ref b174)])) rfl (by rw [hml]; rfl) (lenOf pd30 rfl) rfl (by show 2 * 0 + _ ≤ _; exact Nat.le_of_eq rfl) (hb hby at_223)
        rw [show own_fh (2 : Int32) c0 c1 c2 c3 = (-1 : Int32) by unfold own_fh; rw [if_neg h10, if_neg (fun y => h11 y.2), if_neg (fun y => absurd y.1 (by decide)), if_neg (fun y => absurd y.1 (by decide))]] at Q282
        obtain ⟨rfl, Mh, e282⟩ := Q282
        refine DnW.of st282 ?_
        show DnW p e below s (own_Q n0) 32 4288 (T282.setTop (mkF m 226 #[.val (.int i0), .val (.int i1), .val (.int i2), .val (.int i3), .val (.int i4), .val (.int (2 : Int32)), .val (.int c0), .val (.int c1), .val (.int c2), .val (.int c3), .val (.ref b174), .val (.ref b230), .val (.ref b250), .val (.ref ra), .unset, .unset] [(.int (-1 : Int32))]))
        refine DnW.of (fun tt_ zz_ => XS.istore X282.here hx rfl (hb hby at_226) rfl (l' := #[.val (.int i0), .val (.int i1), .val (.int i2), .val (.int i3), .val (.int i4), .val (.int (2 : Int32)), .val (.int c0), .val (.int c1), .val (.int c2), .val (.int c3), .val (.ref b174), .val (.ref b230), .val (.ref b250), .val (.ref ra), .val (.int (-1 : Int32)), .unset]) rfl zz_) ?_
        refine DnW.of (fun tt_ zz_ => XS.iload X282.here hx rfl (hb hby at_228) rfl zz_) ?_
        show DnW p e below s (own_Q n0) 32 4288 (T282.setTop (mkF m 230 #[.val (.int i0), .val (.int i1), .val (.int i2), .val (.int i3), .val (.int i4), .val (.int (2 : Int32)), .val (.int c0), .val (.int c1), .val (.int c2), .val (.int c3), .val (.ref b174), .val (.ref b230), .val (.ref b250), .val (.ref ra), .val (.int (-1 : Int32)), .unset] [(.int (-1 : Int32))]))
        refine DnW.of (fun tt_ zz_ => XS.ifNo X282.here hx rfl (hb hby at_230) rfl ((if0 _ _).trans (tlt (by decide)).2.1) zz_) ?_
        show DnW p e below s (own_Q n0) 32 4288 (T282.setTop (mkF m 233 #[.val (.int i0), .val (.int i1), .val (.int i2), .val (.int i3), .val (.int i4), .val (.int (2 : Int32)), .val (.int c0), .val (.int c1), .val (.int c2), .val (.int c3), .val (.ref b174), .val (.ref b230), .val (.ref b250), .val (.ref ra), .val (.int (-1 : Int32)), .unset] []))
        refine DnW.of (fun tt_ zz_ => XS.aload X282.here hx rfl (hb hby at_233) rfl rfl zz_) ?_
        show DnW p e below s (own_Q n0) 32 4288 (T282.setTop (mkF m 235 #[.val (.int i0), .val (.int i1), .val (.int i2), .val (.int i3), .val (.int i4), .val (.int (2 : Int32)), .val (.int c0), .val (.int c1), .val (.int c2), .val (.int c3), .val (.ref b174), .val (.ref b230), .val (.ref b250), .val (.ref ra), .val (.int (-1 : Int32)), .unset] [(.ref ra)]))
        obtain ⟨v283, T283, L283, Q283, X283, st283⟩ := cVi X282 hx hZ (C := "java/lang/String") (y := (⟨"java/lang/String", "length", "()I"⟩ : MethodName)) (z := (⟨"java/lang/String", "length", "()I"⟩ : MethodName)) hown (hg 135 rfl) (hg 105 rfl) (notFace_of_selects (args := #[]) (mvT hZ (hg 107 rfl))) (hg 107 rfl) (hg 106 rfl) (hg 7 rfl) (hg 108 rfl) (by decide) (a := ra) (argsL := []) (rest := []) (rmLn l Z a0 hw T278.heap n0 F280 ra rb (0 : Int32) [] Sr cz hcz SZ F279) e282 (own_exa Sr) 0 (by decide) (by decide) (by decide) (by decide) (g := (mkF m 235 #[.val (.int i0), .val (.int i1), .val (.int i2), .val (.int i3), .val (.int i4), .val (.int (2 : Int32)), .val (.int c0), .val (.int c1), .val (.int c2), .val (.int c3), .val (.ref b174), .val (.ref b230), .val (.ref b250), .val (.ref ra), .val (.int (-1 : Int32)), .unset] [(.ref ra)])) rfl (by rw [hml]; rfl) (lenOf pd9 rfl) rfl (by show 2 * 0 + _ ≤ _; exact Nat.le_of_eq rfl) (hb hby at_235)
        obtain ⟨rfl, Mq, e283⟩ := Q283
        refine DnW.of st283 ?_
        show DnW p e below s (own_Q n0) 32 4288 (T283.setTop (mkF m 238 #[.val (.int i0), .val (.int i1), .val (.int i2), .val (.int i3), .val (.int i4), .val (.int (2 : Int32)), .val (.int c0), .val (.int c1), .val (.int c2), .val (.int c3), .val (.ref b174), .val (.ref b230), .val (.ref b250), .val (.ref ra), .val (.int (-1 : Int32)), .unset] [(.int (0 : Int32))]))
        refine DnW.of (fun tt_ zz_ => XS.ifNo X283.here hx rfl (hb hby at_238) rfl ((if0 _ _).trans (teq rfl).2) zz_) ?_
        show DnW p e below s (own_Q n0) 32 4288 (T283.setTop (mkF m 241 #[.val (.int i0), .val (.int i1), .val (.int i2), .val (.int i3), .val (.int i4), .val (.int (2 : Int32)), .val (.int c0), .val (.int c1), .val (.int c2), .val (.int c3), .val (.ref b174), .val (.ref b230), .val (.ref b250), .val (.ref ra), .val (.int (-1 : Int32)), .unset] []))
        refine DnW.of (fun tt_ zz_ => XS.iconst X283.here hx rfl (hb hby at_241) zz_) ?_
        refine DnW.of (fun tt_ zz_ => XS.goto X283.here hx rfl (pc0 := 242) (pc' := 246) rfl (hb hby at_242) (by decide) (by decide) zz_) ?_
        show DnW p e below s (own_Q n0) 32 4288 (T283.setTop (mkF m 246 #[.val (.int i0), .val (.int i1), .val (.int i2), .val (.int i3), .val (.int i4), .val (.int (2 : Int32)), .val (.int c0), .val (.int c1), .val (.int c2), .val (.int c3), .val (.ref b174), .val (.ref b230), .val (.ref b250), .val (.ref ra), .val (.int (-1 : Int32)), .unset] [(.int (1 : Int32))]))
        exact DnW.retN hS (by rw [e283]; exact hk3) X283 hx hlk (t := .boolean) hret (by simp) (hb hby at_246) (by decide) (by decide) (⟨rfl, (Fr.app (Fr.app (Fr.app (Fr.app (Fr.app N240 Ms) Md) Mf) Mh) Mq)⟩)
  · skip
    show DnW p e below s (own_Q n0) 32 4288 (T182.setTop (mkF m 72 #[.val (.int i0), .val (.int i1), .val (.int i2), .val (.int i3), .val (.int i4), .val (.int (3 : Int32)), .val (.int c0), .val (.int c1), .val (.int c2), .val (.int c3), .val (.ref b174), .unset, .unset, .unset, .unset, .unset] [(.int (1 : Int32)), (.int (3 : Int32))]))
    refine DnW.of (fun tt_ zz_ => XS.icmpYes X182.here hx rfl (pc0 := 72) (pc' := 95) rfl (hb hby at_72) rfl (feq (by decide)).2 (by decide) (by decide) zz_) ?_
    show DnW p e below s (own_Q n0) 32 4288 (T182.setTop (mkF m 95 #[.val (.int i0), .val (.int i1), .val (.int i2), .val (.int i3), .val (.int i4), .val (.int (3 : Int32)), .val (.int c0), .val (.int c1), .val (.int c2), .val (.int c3), .val (.ref b174), .unset, .unset, .unset, .unset, .unset] []))
    refine DnW.of (fun tt_ zz_ => XS.iload X182.here hx rfl (hb hby at_95) rfl zz_) ?_
    refine DnW.of (fun tt_ zz_ => XS.iconst X182.here hx rfl (hb hby at_97) zz_) ?_
    show DnW p e below s (own_Q n0) 32 4288 (T182.setTop (mkF m 98 #[.val (.int i0), .val (.int i1), .val (.int i2), .val (.int i3), .val (.int i4), .val (.int (3 : Int32)), .val (.int c0), .val (.int c1), .val (.int c2), .val (.int c3), .val (.ref b174), .unset, .unset, .unset, .unset, .unset] [(.int (2 : Int32)), (.int (3 : Int32))]))
    refine DnW.of (fun tt_ zz_ => XS.icmpYes X182.here hx rfl (pc0 := 98) (pc' := 126) rfl (hb hby at_98) rfl (feq (by decide)).2 (by decide) (by decide) zz_) ?_
    show DnW p e below s (own_Q n0) 32 4288 (T182.setTop (mkF m 126 #[.val (.int i0), .val (.int i1), .val (.int i2), .val (.int i3), .val (.int i4), .val (.int (3 : Int32)), .val (.int c0), .val (.int c1), .val (.int c2), .val (.int c3), .val (.ref b174), .unset, .unset, .unset, .unset, .unset] []))
    refine DnW.of (fun tt_ zz_ => XS.iload X182.here hx rfl (hb hby at_126) rfl zz_) ?_
    refine DnW.of (fun tt_ zz_ => XS.iconst X182.here hx rfl (hb hby at_128) zz_) ?_
    show DnW p e below s (own_Q n0) 32 4288 (T182.setTop (mkF m 129 #[.val (.int i0), .val (.int i1), .val (.int i2), .val (.int i3), .val (.int i4), .val (.int (3 : Int32)), .val (.int c0), .val (.int c1), .val (.int c2), .val (.int c3), .val (.ref b174), .unset, .unset, .unset, .unset, .unset] [(.int (3 : Int32)), (.int (3 : Int32))]))
    refine DnW.of (fun tt_ zz_ => XS.icmpNo X182.here hx rfl (hb hby at_129) rfl (teq rfl).2 zz_) ?_
    show DnW p e below s (own_Q n0) 32 4288 (T182.setTop (mkF m 132 #[.val (.int i0), .val (.int i1), .val (.int i2), .val (.int i3), .val (.int i4), .val (.int (3 : Int32)), .val (.int c0), .val (.int c1), .val (.int c2), .val (.int c3), .val (.ref b174), .unset, .unset, .unset, .unset, .unset] []))
    obtain ⟨T284, h284, X284, e284, E284, A284, D284, U284, st284⟩ := newO X182 hx hZ hown (hg 5 rfl) (hg 6 rfl) (hg 7 rfl) e182 (g := (mkF m 132 #[.val (.int i0), .val (.int i1), .val (.int i2), .val (.int i3), .val (.int i4), .val (.int (3 : Int32)), .val (.int c0), .val (.int c1), .val (.int c2), .val (.int c3), .val (.ref b174), .unset, .unset, .unset, .unset, .unset] [])) rfl (hb hby at_132) (by decide) (by decide)
    obtain ⟨b284, g284⟩ : ∃ z, z = h182.size := ⟨_, rfl⟩
    rw [← g284] at A284 D284 U284 st284
    refine DnW.of st284 ?_
    show DnW p e below s (own_Q n0) 32 4288 (T284.setTop (mkF m 135 #[.val (.int i0), .val (.int i1), .val (.int i2), .val (.int i3), .val (.int i4), .val (.int (3 : Int32)), .val (.int c0), .val (.int c1), .val (.int c2), .val (.int c3), .val (.ref b174), .unset, .unset, .unset, .unset, .unset] [(.ref b284)]))
    have F_value_284 : Fld Z h284 b284 "java/lang/String" "value" "[B" .null := D284 (Or.inr (hg 33 rfl)) (ty := (.array .byte)) (by decide)
    have F_coder_284 : Fld Z h284 b284 "java/lang/String" "coder" "B" (.int (0 : Int32)) := D284 (Or.inr (hg 31 rfl)) (ty := .byte) (by decide)
    have n285 : b174 ≠ b284 := Nat.ne_of_lt (g284 ▸ R_181.lt)
    have gsa : n0 ≤ b284 := g284 ▸ F184
    have xsa : h0.size ≤ b284 := g284 ▸ F186.1
    refine DnW.of (fun tt_ zz_ => XS.dup X284.here hx rfl (hb hby at_135) rfl rfl zz_) ?_
    refine DnW.of (fun tt_ zz_ => XS.iconst X284.here hx rfl (hb hby at_136) zz_) ?_
    show DnW p e below s (own_Q n0) 32 4288 (T284.setTop (mkF m 137 #[.val (.int i0), .val (.int i1), .val (.int i2), .val (.int i3), .val (.int i4), .val (.int (3 : Int32)), .val (.int c0), .val (.int c1), .val (.int c2), .val (.int c3), .val (.ref b174), .unset, .unset, .unset, .unset, .unset] [(.int (3 : Int32)), (.ref b284), (.ref b284)]))
    have F286 := (Nat.le_trans F184 E284.1)
    have F287 := (own_ext2 F186 E284)
    obtain ⟨T288, h288, k288, X288, e288, E288, A288, st288⟩ := newP X284 hx hZ (hg 4 rfl) e284 (g := (mkF m 137 #[.val (.int i0), .val (.int i1), .val (.int i2), .val (.int i3), .val (.int i4), .val (.int (3 : Int32)), .val (.int c0), .val (.int c1), .val (.int c2), .val (.int c3), .val (.ref b174), .unset, .unset, .unset, .unset, .unset] [(.int (3 : Int32)), (.ref b284), (.ref b284)])) rfl (hb hby at_137) rfl (by decide) (cap := 4) (by decide) (by decide) (by decide) (by decide)
    obtain ⟨b288, g288⟩ : ∃ z, z = h284.size := ⟨_, rfl⟩
    rw [← g288] at A288 st288
    refine DnW.of st288 ?_
    show DnW p e below s (own_Q n0) 32 4288 (T288.setTop (mkF m 139 #[.val (.int i0), .val (.int i1), .val (.int i2), .val (.int i3), .val (.int i4), .val (.int (3 : Int32)), .val (.int c0), .val (.int c1), .val (.int c2), .val (.int c3), .val (.ref b174), .unset, .unset, .unset, .unset, .unset] [(.ref b288), (.ref b284), (.ref b284)]))
    have F289 := (R_181.ext E284)
    have n290 : b174 ≠ b288 := Nat.ne_of_lt (g288 ▸ F289.lt)
    have n291 : b284 ≠ b288 := Nat.ne_of_lt (g288 ▸ A284.lt)
    have RN_g : n0 ≤ b288 := g288 ▸ F286
    have RN_x : h0.size ≤ b288 := g288 ▸ F287.1
    have RN_R : Arh Z h288 b288 k288 .char 3 [] [] (.int 0) := (Arv.new A288 (by decide)).arh
    refine DnW.of (fun tt_ zz_ => XS.dup X288.here hx rfl (hb hby at_139) rfl rfl zz_) ?_
    refine DnW.of (fun tt_ zz_ => XS.iconst X288.here hx rfl (hb hby at_140) zz_) ?_
    refine DnW.of (fun tt_ zz_ => XS.iload X288.here hx rfl (hb hby at_141) rfl zz_) ?_
    show DnW p e below s (own_Q n0) 32 4288 (T288.setTop (mkF m 143 #[.val (.int i0), .val (.int i1), .val (.int i2), .val (.int i3), .val (.int i4), .val (.int (3 : Int32)), .val (.int c0), .val (.int c1), .val (.int c2), .val (.int c3), .val (.ref b174), .unset, .unset, .unset, .unset, .unset] [(.int c0), (.int (0 : Int32)), (.ref b288), (.ref b288), (.ref b284), (.ref b284)]))
    obtain ⟨c292, A_292, p292, S292, P292, H292, G292⟩ := RN_R
    obtain ⟨T293, h293, X293, e293, W293, st293⟩ := stC X288 hx hZ e288 A_292 (j := (0 : Int32)) (inb_of S292 (by decide)) (g := (mkF m 143 #[.val (.int i0), .val (.int i1), .val (.int i2), .val (.int i3), .val (.int i4), .val (.int (3 : Int32)), .val (.int c0), .val (.int c1), .val (.int c2), .val (.int c3), .val (.ref b174), .unset, .unset, .unset, .unset, .unset] [(.int c0), (.int (0 : Int32)), (.ref b288), (.ref b288), (.ref b284), (.ref b284)])) rfl rfl (hb hby at_143)
    refine DnW.of st293 ?_
    show DnW p e below s (own_Q n0) 32 4288 (T293.setTop (mkF m 144 #[.val (.int i0), .val (.int i1), .val (.int i2), .val (.int i3), .val (.int i4), .val (.int (3 : Int32)), .val (.int c0), .val (.int c1), .val (.int c2), .val (.int c3), .val (.ref b174), .unset, .unset, .unset, .unset, .unset] [(.ref b288), (.ref b284), (.ref b284)]))
    have R_292 := Arh.push A_292 p292 S292 P292 H292 G292 (v := (.int (nar .char c0))) (fits_nar_char _) W293 (inb_of S292 (by decide))
    have N292 := Fr.snoc X293 N181 RN_g
    rw [own_nc y0] at R_292
    refine DnW.of (fun tt_ zz_ => XS.dup X293.here hx rfl (hb hby at_144) rfl rfl zz_) ?_
    refine DnW.of (fun tt_ zz_ => XS.iconst X293.here hx rfl (hb hby at_145) zz_) ?_
    refine DnW.of (fun tt_ zz_ => XS.iload X293.here hx rfl (hb hby at_146) rfl zz_) ?_
    show DnW p e below s (own_Q n0) 32 4288 (T293.setTop (mkF m 148 #[.val (.int i0), .val (.int i1), .val (.int i2), .val (.int i3), .val (.int i4), .val (.int (3 : Int32)), .val (.int c0), .val (.int c1), .val (.int c2), .val (.int c3), .val (.ref b174), .unset, .unset, .unset, .unset, .unset] [(.int c1), (.int (1 : Int32)), (.ref b288), (.ref b288), (.ref b284), (.ref b284)]))
    obtain ⟨c294, A_294, p294, S294, P294, H294, G294⟩ := R_292
    obtain ⟨T295, h295, X295, e295, W295, st295⟩ := stC X293 hx hZ e293 A_294 (j := (1 : Int32)) (inb_of S294 (by decide)) (g := (mkF m 148 #[.val (.int i0), .val (.int i1), .val (.int i2), .val (.int i3), .val (.int i4), .val (.int (3 : Int32)), .val (.int c0), .val (.int c1), .val (.int c2), .val (.int c3), .val (.ref b174), .unset, .unset, .unset, .unset, .unset] [(.int c1), (.int (1 : Int32)), (.ref b288), (.ref b288), (.ref b284), (.ref b284)])) rfl rfl (hb hby at_148)
    refine DnW.of st295 ?_
    show DnW p e below s (own_Q n0) 32 4288 (T295.setTop (mkF m 149 #[.val (.int i0), .val (.int i1), .val (.int i2), .val (.int i3), .val (.int i4), .val (.int (3 : Int32)), .val (.int c0), .val (.int c1), .val (.int c2), .val (.int c3), .val (.ref b174), .unset, .unset, .unset, .unset, .unset] [(.ref b288), (.ref b284), (.ref b284)]))
    have R_294 := Arh.push A_294 p294 S294 P294 H294 G294 (v := (.int (nar .char c1))) (fits_nar_char _) W295 (inb_of S294 (by decide))
    have N294 := Fr.snoc X295 N292 RN_g
    rw [own_nc y1] at R_294
    refine DnW.of (fun tt_ zz_ => XS.dup X295.here hx rfl (hb hby at_149) rfl rfl zz_) ?_
    refine DnW.of (fun tt_ zz_ => XS.iconst X295.here hx rfl (hb hby at_150) zz_) ?_
    refine DnW.of (fun tt_ zz_ => XS.iload X295.here hx rfl (hb hby at_151) rfl zz_) ?_
    show DnW p e below s (own_Q n0) 32 4288 (T295.setTop (mkF m 153 #[.val (.int i0), .val (.int i1), .val (.int i2), .val (.int i3), .val (.int i4), .val (.int (3 : Int32)), .val (.int c0), .val (.int c1), .val (.int c2), .val (.int c3), .val (.ref b174), .unset, .unset, .unset, .unset, .unset] [(.int c2), (.int (2 : Int32)), (.ref b288), (.ref b288), (.ref b284), (.ref b284)]))
    obtain ⟨c296, A_296, p296, S296, P296, H296, G296⟩ := R_294
    obtain ⟨T297, h297, X297, e297, W297, st297⟩ := stC X295 hx hZ e295 A_296 (j := (2 : Int32)) (inb_of S296 (by decide)) (g := (mkF m 153 #[.val (.int i0), .val (.int i1), .val (.int i2), .val (.int i3), .val (.int i4), .val (.int (3 : Int32)), .val (.int c0), .val (.int c1), .val (.int c2), .val (.int c3), .val (.ref b174), .unset, .unset, .unset, .unset, .unset] [(.int c2), (.int (2 : Int32)), (.ref b288), (.ref b288), (.ref b284), (.ref b284)])) rfl rfl (hb hby at_153)
    refine DnW.of st297 ?_
    show DnW p e below s (own_Q n0) 32 4288 (T297.setTop (mkF m 154 #[.val (.int i0), .val (.int i1), .val (.int i2), .val (.int i3), .val (.int i4), .val (.int (3 : Int32)), .val (.int c0), .val (.int c1), .val (.int c2), .val (.int c3), .val (.ref b174), .unset, .unset, .unset, .unset, .unset] [(.ref b288), (.ref b284), (.ref b284)]))
    have R_296 := Arh.push A_296 p296 S296 P296 H296 G296 (v := (.int (nar .char c2))) (fits_nar_char _) W297 (inb_of S296 (by decide))
    have N296 := Fr.snoc X297 N294 RN_g
    rw [own_nc y2] at R_296
    have F298 := (((((F183.ext E284).ext E288).wr W293 RN_g).wr W295 RN_g).wr W297 RN_g)
    have F299 := (Nat.le_trans (Nat.le_trans (Nat.le_trans (Nat.le_trans F286 E288.1) (Nat.le_of_eq W293.size.symm)) (Nat.le_of_eq W295.size.symm)) (Nat.le_of_eq W297.size.symm))
    have F300 := ((((A284.ext E288).wr W293).wr W295).wr W297)
    have F301 := ((((F_value_284.ext E288).other W293 (Or.inl n291)).other W295 (Or.inl n291)).other W297 (Or.inl n291))
    have F302 := ((((F_coder_284.ext E288).other W293 (Or.inl n291)).other W295 (Or.inl n291)).other W297 (Or.inl n291))
    obtain ⟨v303, T303, L303, Q303, X303, st303⟩ := cIn X297 hx hZ (y := (⟨"java/lang/String", "<init>", "([C)V"⟩ : MethodName)) rfl hown (hg 8 rfl) (hg 9 rfl) (hg 7 rfl) (hg 10 rfl) (by decide) (a := b284) (argsL := [(.ref b288)]) (rest := [(.ref b284)]) (rmS1_3 l Z a0 hw h297 n0 F299 b284 b288 _ cz hcz SZ F298 c0 c1 c2 y0 y1 y2 F300 F301 F302 gsa R_296) e297  1 (by decide) (by decide) (by decide) (by decide) (g := (mkF m 154 #[.val (.int i0), .val (.int i1), .val (.int i2), .val (.int i3), .val (.int i4), .val (.int (3 : Int32)), .val (.int c0), .val (.int c1), .val (.int c2), .val (.int c3), .val (.ref b174), .unset, .unset, .unset, .unset, .unset] [(.ref b288), (.ref b284), (.ref b284)])) rfl (by rw [hml]; rfl) (lenOf pd27 rfl) rfl (by show 2 * 0 + _ ≤ _; exact Nat.le_of_eq rfl) (hb hby at_154)
    obtain ⟨sb, rfl, Ms, Ks, lsb, S1⟩ := Q303
    refine DnW.of st303 ?_
    show DnW p e below s (own_Q n0) 32 4288 (T303.setTop (mkF m 157 #[.val (.int i0), .val (.int i1), .val (.int i2), .val (.int i3), .val (.int i4), .val (.int (3 : Int32)), .val (.int c0), .val (.int c1), .val (.int c2), .val (.int c3), .val (.ref b174), .unset, .unset, .unset, .unset, .unset] [(.ref b284)]))
    refine DnW.of (fun tt_ zz_ => XS.astore X303.here hx rfl (hb hby at_157) rfl rfl (l' := #[.val (.int i0), .val (.int i1), .val (.int i2), .val (.int i3), .val (.int i4), .val (.int (3 : Int32)), .val (.int c0), .val (.int c1), .val (.int c2), .val (.int c3), .val (.ref b174), .val (.ref b284), .unset, .unset, .unset, .unset]) rfl zz_) ?_
    refine DnW.of (fun tt_ zz_ => XS.goto X303.here hx rfl (pc0 := 159) (pc' := 194) rfl (hb hby at_159) (by decide) (by decide) zz_) ?_
    show DnW p e below s (own_Q n0) 32 4288 (T303.setTop (mkF m 194 #[.val (.int i0), .val (.int i1), .val (.int i2), .val (.int i3), .val (.int i4), .val (.int (3 : Int32)), .val (.int c0), .val (.int c1), .val (.int c2), .val (.int c3), .val (.ref b174), .val (.ref b284), .unset, .unset, .unset, .unset] []))
    have F304 := (Nat.le_trans F299 Ks.1)
    have F305 := (own_extK (own_extK (own_extK (own_extK (own_ext2 F287 E288) (Keep.of_wr W293) RN_x) (Keep.of_wr W295) RN_x) (Keep.of_wr W297) RN_x) Ks xsa)
    obtain ⟨T306, h306, X306, e306, E306, A306, D306, U306, st306⟩ := newO X303 hx hZ hown (hg 34 rfl) (hg 35 rfl) (hg 36 rfl) rfl (g := (mkF m 194 #[.val (.int i0), .val (.int i1), .val (.int i2), .val (.int i3), .val (.int i4), .val (.int (3 : Int32)), .val (.int c0), .val (.int c1), .val (.int c2), .val (.int c3), .val (.ref b174), .val (.ref b284), .unset, .unset, .unset, .unset] [])) rfl (hb hby at_194) (by decide) (by decide)
    obtain ⟨b306, g306⟩ : ∃ z, z = T303.heap.size := ⟨_, rfl⟩
    rw [← g306] at A306 D306 U306 st306
    refine DnW.of st306 ?_
    show DnW p e below s (own_Q n0) 32 4288 (T306.setTop (mkF m 197 #[.val (.int i0), .val (.int i1), .val (.int i2), .val (.int i3), .val (.int i4), .val (.int (3 : Int32)), .val (.int c0), .val (.int c1), .val (.int c2), .val (.int c3), .val (.ref b174), .val (.ref b284), .unset, .unset, .unset, .unset] [(.ref b306)]))
    have F_value_306 : Fld Z h306 b306 "com/example/vellum/vellum/types/DvUri" "value" "Ljava/lang/String;" .null := D306 (Or.inr (hg 83 rfl)) (ty := (.object "java/lang/String")) (by decide)
    have F307 := (((((F289.ext E288).other W293 n290).other W295 n290).other W297 n290).keep Ks (ninS n285 nin0))
    have n308 : b174 ≠ b306 := Nat.ne_of_lt (g306 ▸ F307.lt)
    have d1 : b284 ≠ b306 := Nat.ne_of_lt (g306 ▸ S1.lt.1)
    have d2 : sb ≠ b306 := Nat.ne_of_lt (g306 ▸ S1.lt.2)
    have S2 := S1.ext E306
    have gt : n0 ≤ b306 := g306 ▸ F304
    refine DnW.of (fun tt_ zz_ => XS.dup X306.here hx rfl (hb hby at_197) rfl rfl zz_) ?_
    refine DnW.of (fun tt_ zz_ => XS.aload X306.here hx rfl (hb hby at_198) rfl rfl zz_) ?_
    show DnW p e below s (own_Q n0) 32 4288 (T306.setTop (mkF m 200 #[.val (.int i0), .val (.int i1), .val (.int i2), .val (.int i3), .val (.int i4), .val (.int (3 : Int32)), .val (.int c0), .val (.int c1), .val (.int c2), .val (.int c3), .val (.ref b174), .val (.ref b284), .unset, .unset, .unset, .unset] [(.ref b284), (.ref b306), (.ref b306)]))
    have F309 := (Nat.le_trans F304 E306.1)
    have F310 := (Nat.le_trans (Nat.le_trans (Nat.le_trans (Nat.le_trans (Nat.le_trans (Nat.le_trans (Nat.le_trans F185 E284.1) E288.1) (Nat.le_of_eq W293.size.symm)) (Nat.le_of_eq W295.size.symm)) (Nat.le_of_eq W297.size.symm)) Ks.1) E306.1)
    have F311 := (own_ext2 F305 E306)
    have hH2 := hH.ext F311
    obtain ⟨v312, T312, L312, Q312, X312, hS, hZ, hown, hC312, st312⟩ := cIH X306 hx hZ (y := (⟨"com/example/vellum/vellum/types/DvUri", "<init>", "(Ljava/lang/String;)V"⟩ : MethodName)) rfl hown (hg 37 rfl) (hg 38 rfl) (hg 36 rfl) (hg 39 rfl) (by decide) (own_EW hw) hH2 hS F310 (a := b306) (argsL := [(.ref b284)]) (rest := [(.ref b306)]) (rmDU l Z a0 hw h306 n0 F309 b306 b284 sb (3 : Int32) [own_B c0, own_B c1, own_B c2] S2 (by decide) A306 F_value_306 gt) e306  1 (by decide) (by decide) (by decide) (by decide) (g := (mkF m 200 #[.val (.int i0), .val (.int i1), .val (.int i2), .val (.int i3), .val (.int i4), .val (.int (3 : Int32)), .val (.int c0), .val (.int c1), .val (.int c2), .val (.int c3), .val (.ref b174), .val (.ref b284), .unset, .unset, .unset, .unset] [(.ref b284), (.ref b306), (.ref b306)])) rfl (by rw [hml]; rfl) (lenOf pd28 rfl) rfl (by show 2 * 0 + _ ≤ _; exact Nat.le_of_eq rfl) (hb hby at_200)
    obtain ⟨rfl, Md, Kd, FD⟩ := Q312
    refine DnW.of st312 ?_
    show DnW p e below s (own_Q n0) 32 4288 (T312.setTop (mkF m 203 #[.val (.int i0), .val (.int i1), .val (.int i2), .val (.int i3), .val (.int i4), .val (.int (3 : Int32)), .val (.int c0), .val (.int c1), .val (.int c2), .val (.int c3), .val (.ref b174), .val (.ref b284), .unset, .unset, .unset, .unset] [(.ref b306)]))
    have hk2 := Nat.le_refl (T312.heap.size)
    have S3 := S2.keep Kd (ninS d1 nin0) (ninS d2 nin0)
    have ET := A306.keep Kd
    refine DnW.of (fun tt_ zz_ => XS.astore X312.here hx rfl (hb hby at_203) rfl rfl (l' := #[.val (.int i0), .val (.int i1), .val (.int i2), .val (.int i3), .val (.int i4), .val (.int (3 : Int32)), .val (.int c0), .val (.int c1), .val (.int c2), .val (.int c3), .val (.ref b174), .val (.ref b284), .val (.ref b306), .unset, .unset, .unset]) rfl zz_) ?_
    refine DnW.of (fun tt_ zz_ => XS.aload X312.here hx rfl (hb hby at_205) rfl rfl zz_) ?_
    show DnW p e below s (own_Q n0) 32 4288 (T312.setTop (mkF m 207 #[.val (.int i0), .val (.int i1), .val (.int i2), .val (.int i3), .val (.int i4), .val (.int (3 : Int32)), .val (.int c0), .val (.int c1), .val (.int c2), .val (.int c3), .val (.ref b174), .val (.ref b284), .val (.ref b306), .unset, .unset, .unset] [(.ref b306)]))
    have F313 := (((F298.keep Ks (allS gsa all0)).ext E306).keep Kd (allS gt all0))
    have F314 := (Nat.le_trans F309 Kd.1)
    have F315 := ((F307.ext E306).keep Kd (ninS n308 nin0))
    have v0 := own_B35 y0
    have v1 := own_B35 y1
    have v2 := own_B35 y2
    by_cases h10 : c0 = 35
    · skip
      have b0_ : own_B c0 = 35 := by rw [h10]; decide
      have hi : own_ix [own_B c0, own_B c1, own_B c2] = (0 : Int32) := by simp [own_ix, b0_]
      have hcut : own_Cut [own_B c0, own_B c1, own_B c2] [own_B c1, own_B c2] (1 : Int32) (3 : Int32) (2 : Int32) := ⟨by decide, by decide, by decide, by decide, by decide, by decide, by decide, by decide, rfl⟩
      obtain ⟨v316, T316, L316, Q316, X316, hS, hZ, hown, hC316, st316⟩ := cVH X312 hx hZ (C := "com/example/vellum/vellum/types/DvUri") (y := (⟨"com/example/vellum/vellum/types/DvUri", "fragmentId", "()Ljava/lang/String;"⟩ : MethodName)) (z := (⟨"com/example/vellum/vellum/types/DvUri", "fragmentId", "()Ljava/lang/String;"⟩ : MethodName)) hown (hg 84 rfl) (hg 85 rfl) (notFace_of_selects (args := #[]) (mvT hZ (hg 87 rfl))) (hg 87 rfl) (hg 86 rfl) (hg 36 rfl) (hg 88 rfl) (by decide) (own_EW hw) hC312.1 hS hk2 (a := b306) (argsL := []) (rest := []) (rmFS l Z a0 hw T312.heap n0 F314 b284 sb (3 : Int32) [own_B c0, own_B c1, own_B c2] S3 (Or.inr (Or.inr (Or.inl ⟨rfl, _, _, _, rfl⟩))) cz hcz SZ F313 fv rf SF b306 FD (0 : Int32) hi (by decide) (1 : Int32) (2 : Int32) [own_B c1, own_B c2] hcut (by decide)) rfl ET 0 (by decide) (by decide) (by decide) (by decide) (g := (mkF m 207 #[.val (.int i0), .val (.int i1), .val (.int i2), .val (.int i3), .val (.int i4), .val (.int (3 : Int32)), .val (.int c0), .val (.int c1), .val (.int c2), .val (.int c3), .val (.ref b174), .val (.ref b284), .val (.ref b306), .unset, .unset, .unset] [(.ref b306)])) rfl (by rw [hml]; rfl) (lenOf pd29 rfl) rfl (by show 2 * 0 + _ ≤ _; exact Nat.le_of_eq rfl) (hb hby at_207)
      obtain ⟨ra, rb, rfl, Mf, Xf, Sr⟩ := Q316
      refine DnW.of st316 ?_
      show DnW p e below s (own_Q n0) 32 4288 (T316.setTop (mkF m 210 #[.val (.int i0), .val (.int i1), .val (.int i2), .val (.int i3), .val (.int i4), .val (.int (3 : Int32)), .val (.int c0), .val (.int c1), .val (.int c2), .val (.int c3), .val (.ref b174), .val (.ref b284), .val (.ref b306), .unset, .unset, .unset] [(.ref ra)]))
      have hk3 := Nat.le_refl (T316.heap.size)
      refine DnW.of (fun tt_ zz_ => XS.astore X316.here hx rfl (hb hby at_210) rfl rfl (l' := #[.val (.int i0), .val (.int i1), .val (.int i2), .val (.int i3), .val (.int i4), .val (.int (3 : Int32)), .val (.int c0), .val (.int c1), .val (.int c2), .val (.int c3), .val (.ref b174), .val (.ref b284), .val (.ref b306), .val (.ref ra), .unset, .unset]) rfl zz_) ?_
      refine DnW.of (fun tt_ zz_ => XS.aload X316.here hx rfl (hb hby at_212) rfl rfl zz_) ?_
      show DnW p e below s (own_Q n0) 32 4288 (T316.setTop (mkF m 214 #[.val (.int i0), .val (.int i1), .val (.int i2), .val (.int i3), .val (.int i4), .val (.int (3 : Int32)), .val (.int c0), .val (.int c1), .val (.int c2), .val (.int c3), .val (.ref b174), .val (.ref b284), .val (.ref b306), .val (.ref ra), .unset, .unset] [(.ref ra)]))
      refine DnW.of (fun tt_ zz_ => XS.ifnonnullYes X316.here hx rfl (pc0 := 214) (pc' := 219) rfl (hb hby at_214) rfl (by decide) (by decide) zz_) ?_
      show DnW p e below s (own_Q n0) 32 4288 (T316.setTop (mkF m 219 #[.val (.int i0), .val (.int i1), .val (.int i2), .val (.int i3), .val (.int i4), .val (.int (3 : Int32)), .val (.int c0), .val (.int c1), .val (.int c2), .val (.int c3), .val (.ref b174), .val (.ref b284), .val (.ref b306), .val (.ref ra), .unset, .unset] []))
      refine DnW.of (fun tt_ zz_ => XS.aload X316.here hx rfl (hb hby at_219) rfl rfl zz_) ?_
      refine DnW.of (fun tt_ zz_ => XS.iload X316.here hx rfl (hb hby at_221) rfl zz_) ?_
      show DnW p e below s (own_Q n0) 32 4288 (T316.setTop (mkF m 223 #[.val (.int i0), .val (.int i1), .val (.int i2), .val (.int i3), .val (.int i4), .val (.int (3 : Int32)), .val (.int c0), .val (.int c1), .val (.int c2), .val (.int c3), .val (.ref b174), .val (.ref b284), .val (.ref b306), .val (.ref ra), .unset, .unset] [(.int (3 : Int32)), (.ref b174)]))
      have F317 := (F313.ext Xf)
      have F318 := (Nat.le_trans F314 Xf.1)
      have F319 := (F315.ext Xf)
      obtain ⟨v320, T320, L320, Q320, X320, st320⟩ := cSt X316 hx hZ (y := (⟨"com/example/vellum/vellum/types/DvUriFragmentIdPinLaw", "firstHash", "([CI)I"⟩ : MethodName)) hown (hg 132 rfl) (hg 133 rfl) (hg 2 rfl) (hg 134 rfl) (by decide) (argsL := [(.ref b174), (.int (3 : Int32))]) (rest := []) (rmFH3 l Z a0 hw T316.heap n0 F318 b174 _ c0 c1 c2 c3 F319) rfl  0 (by decide) (by decide) (by decide) (by decide) (g := (mkF m 223 #[.val (.int i0), .val (.int i1), .val (.int i2), .val (.int i3), .val (.int i4), .val (.int (3 : Int32)), .val (.int c0), .val (.int c1), .val (.int c2), .val (.int c3), .val (.ref b174), .val (.ref b284), .val (.ref b306), .val (.ref ra), .unset, .unset] [(.int (3 : Int32)), (.ref b174)])) rfl (by rw [hml]; rfl) (lenOf pd30 rfl) rfl (by show 2 * 0 + _ ≤ _; exact Nat.le_of_eq rfl) (hb hby at_223)
      rw [show own_fh (3 : Int32) c0 c1 c2 c3 = (0 : Int32) by unfold own_fh; rw [if_pos h10]] at Q320
      obtain ⟨rfl, Mh, e320⟩ := Q320
      refine DnW.of st320 ?_
      show DnW p e below s (own_Q n0) 32 4288 (T320.setTop (mkF m 226 #[.val (.int i0), .val (.int i1), .val (.int i2), .val (.int i3), .val (.int i4), .val (.int (3 : Int32)), .val (.int c0), .val (.int c1), .val (.int c2), .val (.int c3), .val (.ref b174), .val (.ref b284), .val (.ref b306), .val (.ref ra), .unset, .unset] [(.int (0 : Int32))]))
      refine DnW.of (fun tt_ zz_ => XS.istore X320.here hx rfl (hb hby at_226) rfl (l' := #[.val (.int i0), .val (.int i1), .val (.int i2), .val (.int i3), .val (.int i4), .val (.int (3 : Int32)), .val (.int c0), .val (.int c1), .val (.int c2), .val (.int c3), .val (.ref b174), .val (.ref b284), .val (.ref b306), .val (.ref ra), .val (.int (0 : Int32)), .unset]) rfl zz_) ?_
      refine DnW.of (fun tt_ zz_ => XS.iload X320.here hx rfl (hb hby at_228) rfl zz_) ?_
      show DnW p e below s (own_Q n0) 32 4288 (T320.setTop (mkF m 230 #[.val (.int i0), .val (.int i1), .val (.int i2), .val (.int i3), .val (.int i4), .val (.int (3 : Int32)), .val (.int c0), .val (.int c1), .val (.int c2), .val (.int c3), .val (.ref b174), .val (.ref b284), .val (.ref b306), .val (.ref ra), .val (.int (0 : Int32)), .unset] [(.int (0 : Int32))]))
      refine DnW.of (fun tt_ zz_ => XS.ifYes X320.here hx rfl (pc0 := 230) (pc' := 247) rfl (hb hby at_230) rfl ((if0 _ _).trans (flt (by decide)).2.1) (by decide) (by decide) zz_) ?_
      show DnW p e below s (own_Q n0) 32 4288 (T320.setTop (mkF m 247 #[.val (.int i0), .val (.int i1), .val (.int i2), .val (.int i3), .val (.int i4), .val (.int (3 : Int32)), .val (.int c0), .val (.int c1), .val (.int c2), .val (.int c3), .val (.ref b174), .val (.ref b284), .val (.ref b306), .val (.ref ra), .val (.int (0 : Int32)), .unset] []))
      refine DnW.of (fun tt_ zz_ => XS.iload X320.here hx rfl (hb hby at_247) rfl zz_) ?_
      refine DnW.of (fun tt_ zz_ => XS.iload X320.here hx rfl (hb hby at_249) rfl zz_) ?_
      refine DnW.of (fun tt_ zz_ => XS.isub X320.here hx rfl (hb hby at_251) rfl zz_) ?_
      refine DnW.of (fun tt_ zz_ => XS.iconst X320.here hx rfl (hb hby at_252) zz_) ?_
      show DnW p e below s (own_Q n0) 32 4288 (T320.setTop (mkF m 253 #[.val (.int i0), .val (.int i1), .val (.int i2), .val (.int i3), .val (.int i4), .val (.int (3 : Int32)), .val (.int c0), .val (.int c1), .val (.int c2), .val (.int c3), .val (.ref b174), .val (.ref b284), .val (.ref b306), .val (.ref ra), .val (.int (0 : Int32)), .unset] [(.int (1 : Int32)), (.int ((3 : Int32) - (0 : Int32)))]))
      refine DnW.of (fun tt_ zz_ => XS.isub X320.here hx rfl (hb hby at_253) rfl zz_) ?_
      show DnW p e below s (own_Q n0) 32 4288 (T320.setTop (mkF m 254 #[.val (.int i0), .val (.int i1), .val (.int i2), .val (.int i3), .val (.int i4), .val (.int (3 : Int32)), .val (.int c0), .val (.int c1), .val (.int c2), .val (.int c3), .val (.ref b174), .val (.ref b284), .val (.ref b306), .val (.ref ra), .val (.int (0 : Int32)), .unset] [(.int (((3 : Int32) - (0 : Int32)) - (1 : Int32)))]))
      rw [show (((3 : Int32) - (0 : Int32)) - (1 : Int32)) = (2 : Int32) by decide]
      show DnW p e below s (own_Q n0) 32 4288 (T320.setTop (mkF m 254 #[.val (.int i0), .val (.int i1), .val (.int i2), .val (.int i3), .val (.int i4), .val (.int (3 : Int32)), .val (.int c0), .val (.int c1), .val (.int c2), .val (.int c3), .val (.ref b174), .val (.ref b284), .val (.ref b306), .val (.ref ra), .val (.int (0 : Int32)), .unset] [(.int (2 : Int32))]))
      refine DnW.of (fun tt_ zz_ => XS.istore X320.here hx rfl (hb hby at_254) rfl (l' := #[.val (.int i0), .val (.int i1), .val (.int i2), .val (.int i3), .val (.int i4), .val (.int (3 : Int32)), .val (.int c0), .val (.int c1), .val (.int c2), .val (.int c3), .val (.ref b174), .val (.ref b284), .val (.ref b306), .val (.ref ra), .val (.int (0 : Int32)), .val (.int (2 : Int32))]) rfl zz_) ?_
      refine DnW.of (fun tt_ zz_ => XS.aload X320.here hx rfl (hb hby at_256) rfl rfl zz_) ?_
      show DnW p e below s (own_Q n0) 32 4288 (T320.setTop (mkF m 258 #[.val (.int i0), .val (.int i1), .val (.int i2), .val (.int i3), .val (.int i4), .val (.int (3 : Int32)), .val (.int c0), .val (.int c1), .val (.int c2), .val (.int c3), .val (.ref b174), .val (.ref b284), .val (.ref b306), .val (.ref ra), .val (.int (0 : Int32)), .val (.int (2 : Int32))] [(.ref ra)]))
      obtain ⟨v321, T321, L321, Q321, X321, st321⟩ := cVi X320 hx hZ (C := "java/lang/String") (y := (⟨"java/lang/String", "length", "()I"⟩ : MethodName)) (z := (⟨"java/lang/String", "length", "()I"⟩ : MethodName)) hown (hg 135 rfl) (hg 105 rfl) (notFace_of_selects (args := #[]) (mvT hZ (hg 107 rfl))) (hg 107 rfl) (hg 106 rfl) (hg 7 rfl) (hg 108 rfl) (by decide) (a := ra) (argsL := []) (rest := []) (rmLn l Z a0 hw T316.heap n0 F318 ra rb (2 : Int32) [own_B c1, own_B c2] Sr cz hcz SZ F317) e320 (own_exa Sr) 0 (by decide) (by decide) (by decide) (by decide) (g := (mkF m 258 #[.val (.int i0), .val (.int i1), .val (.int i2), .val (.int i3), .val (.int i4), .val (.int (3 : Int32)), .val (.int c0), .val (.int c1), .val (.int c2), .val (.int c3), .val (.ref b174), .val (.ref b284), .val (.ref b306), .val (.ref ra), .val (.int (0 : Int32)), .val (.int (2 : Int32))] [(.ref ra)])) rfl (by rw [hml]; rfl) (lenOf pd9 rfl) rfl (by show 2 * 0 + _ ≤ _; exact Nat.le_of_eq rfl) (hb hby at_258)
      obtain ⟨rfl, Mq, e321⟩ := Q321
      refine DnW.of st321 ?_
      show DnW p e below s (own_Q n0) 32 4288 (T321.setTop (mkF m 261 #[.val (.int i0), .val (.int i1), .val (.int i2), .val (.int i3), .val (.int i4), .val (.int (3 : Int32)), .val (.int c0), .val (.int c1), .val (.int c2), .val (.int c3), .val (.ref b174), .val (.ref b284), .val (.ref b306), .val (.ref ra), .val (.int (0 : Int32)), .val (.int (2 : Int32))] [(.int (2 : Int32))]))
      refine DnW.of (fun tt_ zz_ => XS.iload X321.here hx rfl (hb hby at_261) rfl zz_) ?_
      show DnW p e below s (own_Q n0) 32 4288 (T321.setTop (mkF m 263 #[.val (.int i0), .val (.int i1), .val (.int i2), .val (.int i3), .val (.int i4), .val (.int (3 : Int32)), .val (.int c0), .val (.int c1), .val (.int c2), .val (.int c3), .val (.ref b174), .val (.ref b284), .val (.ref b306), .val (.ref ra), .val (.int (0 : Int32)), .val (.int (2 : Int32))] [(.int (2 : Int32)), (.int (2 : Int32))]))
      refine DnW.of (fun tt_ zz_ => XS.icmpYes X321.here hx rfl (pc0 := 263) (pc' := 268) rfl (hb hby at_263) rfl (teq rfl).1 (by decide) (by decide) zz_) ?_
      show DnW p e below s (own_Q n0) 32 4288 (T321.setTop (mkF m 268 #[.val (.int i0), .val (.int i1), .val (.int i2), .val (.int i3), .val (.int i4), .val (.int (3 : Int32)), .val (.int c0), .val (.int c1), .val (.int c2), .val (.int c3), .val (.ref b174), .val (.ref b284), .val (.ref b306), .val (.ref ra), .val (.int (0 : Int32)), .val (.int (2 : Int32))] []))
      refine DnW.of (fun tt_ zz_ => XS.aload X321.here hx rfl (hb hby at_268) rfl rfl zz_) ?_
      refine DnW.of (fun tt_ zz_ => XS.aload X321.here hx rfl (hb hby at_270) rfl rfl zz_) ?_
      refine DnW.of (fun tt_ zz_ => XS.iload X321.here hx rfl (hb hby at_272) rfl zz_) ?_
      refine DnW.of (fun tt_ zz_ => XS.iconst X321.here hx rfl (hb hby at_274) zz_) ?_
      show DnW p e below s (own_Q n0) 32 4288 (T321.setTop (mkF m 275 #[.val (.int i0), .val (.int i1), .val (.int i2), .val (.int i3), .val (.int i4), .val (.int (3 : Int32)), .val (.int c0), .val (.int c1), .val (.int c2), .val (.int c3), .val (.ref b174), .val (.ref b284), .val (.ref b306), .val (.ref ra), .val (.int (0 : Int32)), .val (.int (2 : Int32))] [(.int (0 : Int32)), (.int (0 : Int32)), (.ref b174), (.ref ra)]))
      obtain ⟨v322, T322, L322, Q322, X322, st322⟩ := cSt X321 hx hZ (y := (⟨"com/example/vellum/vellum/types/DvUriFragmentIdPinLaw", "same", "(Ljava/lang/String;[CII)Z"⟩ : MethodName)) hown (hg 176 rfl) (hg 177 rfl) (hg 2 rfl) (hg 178 rfl) (by decide) (argsL := [(.ref ra), (.ref b174), (.int (0 : Int32)), (.int (0 : Int32))]) (rest := []) (rmSb l Z a0 hw T316.heap n0 F318 ra rb (2 : Int32) [own_B c1, own_B c2] Sr cz hcz SZ F317 b174 (0 : Int32) (0 : Int32) fv rf SF _ _ c1 (by decide) y1 rfl F319 (by decide) rfl) e321  0 (by decide) (by decide) (by decide) (by decide) (g := (mkF m 275 #[.val (.int i0), .val (.int i1), .val (.int i2), .val (.int i3), .val (.int i4), .val (.int (3 : Int32)), .val (.int c0), .val (.int c1), .val (.int c2), .val (.int c3), .val (.ref b174), .val (.ref b284), .val (.ref b306), .val (.ref ra), .val (.int (0 : Int32)), .val (.int (2 : Int32))] [(.int (0 : Int32)), (.int (0 : Int32)), (.ref b174), (.ref ra)])) rfl (by rw [hml]; rfl) (lenOf pd31 rfl) rfl (by show 2 * 0 + _ ≤ _; exact Nat.le_of_eq rfl) (hb hby at_275)
      obtain ⟨rfl, Mk0, e322⟩ := Q322
      refine DnW.of st322 ?_
      show DnW p e below s (own_Q n0) 32 4288 (T322.setTop (mkF m 278 #[.val (.int i0), .val (.int i1), .val (.int i2), .val (.int i3), .val (.int i4), .val (.int (3 : Int32)), .val (.int c0), .val (.int c1), .val (.int c2), .val (.int c3), .val (.ref b174), .val (.ref b284), .val (.ref b306), .val (.ref ra), .val (.int (0 : Int32)), .val (.int (2 : Int32))] [(.int (1 : Int32))]))
      refine DnW.of (fun tt_ zz_ => XS.ifNo X322.here hx rfl (hb hby at_278) rfl ((if0 _ _).trans (feq (by decide)).1) zz_) ?_
      show DnW p e below s (own_Q n0) 32 4288 (T322.setTop (mkF m 281 #[.val (.int i0), .val (.int i1), .val (.int i2), .val (.int i3), .val (.int i4), .val (.int (3 : Int32)), .val (.int c0), .val (.int c1), .val (.int c2), .val (.int c3), .val (.ref b174), .val (.ref b284), .val (.ref b306), .val (.ref ra), .val (.int (0 : Int32)), .val (.int (2 : Int32))] []))
      refine DnW.of (fun tt_ zz_ => XS.aload X322.here hx rfl (hb hby at_281) rfl rfl zz_) ?_
      refine DnW.of (fun tt_ zz_ => XS.aload X322.here hx rfl (hb hby at_283) rfl rfl zz_) ?_
      refine DnW.of (fun tt_ zz_ => XS.iload X322.here hx rfl (hb hby at_285) rfl zz_) ?_
      refine DnW.of (fun tt_ zz_ => XS.iconst X322.here hx rfl (hb hby at_287) zz_) ?_
      show DnW p e below s (own_Q n0) 32 4288 (T322.setTop (mkF m 288 #[.val (.int i0), .val (.int i1), .val (.int i2), .val (.int i3), .val (.int i4), .val (.int (3 : Int32)), .val (.int c0), .val (.int c1), .val (.int c2), .val (.int c3), .val (.ref b174), .val (.ref b284), .val (.ref b306), .val (.ref ra), .val (.int (0 : Int32)), .val (.int (2 : Int32))] [(.int (1 : Int32)), (.int (0 : Int32)), (.ref b174), (.ref ra)]))
      obtain ⟨v323, T323, L323, Q323, X323, st323⟩ := cSt X322 hx hZ (y := (⟨"com/example/vellum/vellum/types/DvUriFragmentIdPinLaw", "same", "(Ljava/lang/String;[CII)Z"⟩ : MethodName)) hown (hg 176 rfl) (hg 177 rfl) (hg 2 rfl) (hg 178 rfl) (by decide) (argsL := [(.ref ra), (.ref b174), (.int (0 : Int32)), (.int (1 : Int32))]) (rest := []) (rmSb l Z a0 hw T316.heap n0 F318 ra rb (2 : Int32) [own_B c1, own_B c2] Sr cz hcz SZ F317 b174 (0 : Int32) (1 : Int32) fv rf SF _ _ c2 (by decide) y2 rfl F319 (by decide) rfl) e322  0 (by decide) (by decide) (by decide) (by decide) (g := (mkF m 288 #[.val (.int i0), .val (.int i1), .val (.int i2), .val (.int i3), .val (.int i4), .val (.int (3 : Int32)), .val (.int c0), .val (.int c1), .val (.int c2), .val (.int c3), .val (.ref b174), .val (.ref b284), .val (.ref b306), .val (.ref ra), .val (.int (0 : Int32)), .val (.int (2 : Int32))] [(.int (1 : Int32)), (.int (0 : Int32)), (.ref b174), (.ref ra)])) rfl (by rw [hml]; rfl) (lenOf pd31 rfl) rfl (by show 2 * 0 + _ ≤ _; exact Nat.le_of_eq rfl) (hb hby at_288)
      obtain ⟨rfl, Mk1, e323⟩ := Q323
      refine DnW.of st323 ?_
      show DnW p e below s (own_Q n0) 32 4288 (T323.setTop (mkF m 291 #[.val (.int i0), .val (.int i1), .val (.int i2), .val (.int i3), .val (.int i4), .val (.int (3 : Int32)), .val (.int c0), .val (.int c1), .val (.int c2), .val (.int c3), .val (.ref b174), .val (.ref b284), .val (.ref b306), .val (.ref ra), .val (.int (0 : Int32)), .val (.int (2 : Int32))] [(.int (1 : Int32))]))
      refine DnW.of (fun tt_ zz_ => XS.ifNo X323.here hx rfl (hb hby at_291) rfl ((if0 _ _).trans (feq (by decide)).1) zz_) ?_
      show DnW p e below s (own_Q n0) 32 4288 (T323.setTop (mkF m 294 #[.val (.int i0), .val (.int i1), .val (.int i2), .val (.int i3), .val (.int i4), .val (.int (3 : Int32)), .val (.int c0), .val (.int c1), .val (.int c2), .val (.int c3), .val (.ref b174), .val (.ref b284), .val (.ref b306), .val (.ref ra), .val (.int (0 : Int32)), .val (.int (2 : Int32))] []))
      refine DnW.of (fun tt_ zz_ => XS.aload X323.here hx rfl (hb hby at_294) rfl rfl zz_) ?_
      refine DnW.of (fun tt_ zz_ => XS.aload X323.here hx rfl (hb hby at_296) rfl rfl zz_) ?_
      refine DnW.of (fun tt_ zz_ => XS.iload X323.here hx rfl (hb hby at_298) rfl zz_) ?_
      refine DnW.of (fun tt_ zz_ => XS.iconst X323.here hx rfl (hb hby at_300) zz_) ?_
      show DnW p e below s (own_Q n0) 32 4288 (T323.setTop (mkF m 301 #[.val (.int i0), .val (.int i1), .val (.int i2), .val (.int i3), .val (.int i4), .val (.int (3 : Int32)), .val (.int c0), .val (.int c1), .val (.int c2), .val (.int c3), .val (.ref b174), .val (.ref b284), .val (.ref b306), .val (.ref ra), .val (.int (0 : Int32)), .val (.int (2 : Int32))] [(.int (2 : Int32)), (.int (0 : Int32)), (.ref b174), (.ref ra)]))
      obtain ⟨v324, T324, L324, Q324, X324, st324⟩ := cSt X323 hx hZ (y := (⟨"com/example/vellum/vellum/types/DvUriFragmentIdPinLaw", "same", "(Ljava/lang/String;[CII)Z"⟩ : MethodName)) hown (hg 176 rfl) (hg 177 rfl) (hg 2 rfl) (hg 178 rfl) (by decide) (argsL := [(.ref ra), (.ref b174), (.int (0 : Int32)), (.int (2 : Int32))]) (rest := []) (rmSa l Z a0 hw T316.heap n0 F318 ra rb (2 : Int32) [own_B c1, own_B c2] Sr cz hcz SZ F317 b174 (0 : Int32) (2 : Int32) (by decide)) e323  0 (by decide) (by decide) (by decide) (by decide) (g := (mkF m 301 #[.val (.int i0), .val (.int i1), .val (.int i2), .val (.int i3), .val (.int i4), .val (.int (3 : Int32)), .val (.int c0), .val (.int c1), .val (.int c2), .val (.int c3), .val (.ref b174), .val (.ref b284), .val (.ref b306), .val (.ref ra), .val (.int (0 : Int32)), .val (.int (2 : Int32))] [(.int (2 : Int32)), (.int (0 : Int32)), (.ref b174), (.ref ra)])) rfl (by rw [hml]; rfl) (lenOf pd31 rfl) rfl (by show 2 * 0 + _ ≤ _; exact Nat.le_of_eq rfl) (hb hby at_301)
      obtain ⟨rfl, Mk2, e324⟩ := Q324
      refine DnW.of st324 ?_
      show DnW p e below s (own_Q n0) 32 4288 (T324.setTop (mkF m 304 #[.val (.int i0), .val (.int i1), .val (.int i2), .val (.int i3), .val (.int i4), .val (.int (3 : Int32)), .val (.int c0), .val (.int c1), .val (.int c2), .val (.int c3), .val (.ref b174), .val (.ref b284), .val (.ref b306), .val (.ref ra), .val (.int (0 : Int32)), .val (.int (2 : Int32))] [(.int (1 : Int32))]))
      refine DnW.of (fun tt_ zz_ => XS.ifNo X324.here hx rfl (hb hby at_304) rfl ((if0 _ _).trans (feq (by decide)).1) zz_) ?_
      show DnW p e below s (own_Q n0) 32 4288 (T324.setTop (mkF m 307 #[.val (.int i0), .val (.int i1), .val (.int i2), .val (.int i3), .val (.int i4), .val (.int (3 : Int32)), .val (.int c0), .val (.int c1), .val (.int c2), .val (.int c3), .val (.ref b174), .val (.ref b284), .val (.ref b306), .val (.ref ra), .val (.int (0 : Int32)), .val (.int (2 : Int32))] []))
      refine DnW.of (fun tt_ zz_ => XS.iconst X324.here hx rfl (hb hby at_307) zz_) ?_
      refine DnW.of (fun tt_ zz_ => XS.goto X324.here hx rfl (pc0 := 308) (pc' := 312) rfl (hb hby at_308) (by decide) (by decide) zz_) ?_
      show DnW p e below s (own_Q n0) 32 4288 (T324.setTop (mkF m 312 #[.val (.int i0), .val (.int i1), .val (.int i2), .val (.int i3), .val (.int i4), .val (.int (3 : Int32)), .val (.int c0), .val (.int c1), .val (.int c2), .val (.int c3), .val (.ref b174), .val (.ref b284), .val (.ref b306), .val (.ref ra), .val (.int (0 : Int32)), .val (.int (2 : Int32))] [(.int (1 : Int32))]))
      exact DnW.retN hS (by rw [e324]; exact hk3) X324 hx hlk (t := .boolean) hret (by simp) (hb hby at_312) (by decide) (by decide) (⟨rfl, (Fr.app (Fr.app (Fr.app (Fr.app (Fr.app (Fr.app (Fr.app (Fr.app N296 Ms) Md) Mf) Mh) Mq) Mk0) Mk1) Mk2)⟩)
    · skip
      by_cases h11 : c1 = 35
      · skip
        have b0_ := v0 h10
        have b1_ : own_B c1 = 35 := by rw [h11]; decide
        have hi : own_ix [own_B c0, own_B c1, own_B c2] = (1 : Int32) := by simp [own_ix, b0_, b1_]
        have hcut : own_Cut [own_B c0, own_B c1, own_B c2] [own_B c2] (2 : Int32) (3 : Int32) (1 : Int32) := ⟨by decide, by decide, by decide, by decide, by decide, by decide, by decide, by decide, rfl⟩
        obtain ⟨v325, T325, L325, Q325, X325, hS, hZ, hown, hC325, st325⟩ := cVH X312 hx hZ (C := "com/example/vellum/vellum/types/DvUri") (y := (⟨"com/example/vellum/vellum/types/DvUri", "fragmentId", "()Ljava/lang/String;"⟩ : MethodName)) (z := (⟨"com/example/vellum/vellum/types/DvUri", "fragmentId", "()Ljava/lang/String;"⟩ : MethodName)) hown (hg 84 rfl) (hg 85 rfl) (notFace_of_selects (args := #[]) (mvT hZ (hg 87 rfl))) (hg 87 rfl) (hg 86 rfl) (hg 36 rfl) (hg 88 rfl) (by decide) (own_EW hw) hC312.1 hS hk2 (a := b306) (argsL := []) (rest := []) (rmFS l Z a0 hw T312.heap n0 F314 b284 sb (3 : Int32) [own_B c0, own_B c1, own_B c2] S3 (Or.inr (Or.inr (Or.inl ⟨rfl, _, _, _, rfl⟩))) cz hcz SZ F313 fv rf SF b306 FD (1 : Int32) hi (by decide) (2 : Int32) (1 : Int32) [own_B c2] hcut (by decide)) rfl ET 0 (by decide) (by decide) (by decide) (by decide) (g := (mkF m 207 #[.val (.int i0), .val (.int i1), .val (.int i2), .val (.int i3), .val (.int i4), .val (.int (3 : Int32)), .val (.int c0), .val (.int c1), .val (.int c2), .val (.int c3), .val (.ref b174), .val (.ref b284), .val (.ref b306), .unset, .unset, .unset] [(.ref b306)])) rfl (by rw [hml]; rfl) (lenOf pd29 rfl) rfl (by show 2 * 0 + _ ≤ _; exact Nat.le_of_eq rfl) (hb hby at_207)
        obtain ⟨ra, rb, rfl, Mf, Xf, Sr⟩ := Q325
        refine DnW.of st325 ?_
        show DnW p e below s (own_Q n0) 32 4288 (T325.setTop (mkF m 210 #[.val (.int i0), .val (.int i1), .val (.int i2), .val (.int i3), .val (.int i4), .val (.int (3 : Int32)), .val (.int c0), .val (.int c1), .val (.int c2), .val (.int c3), .val (.ref b174), .val (.ref b284), .val (.ref b306), .unset, .unset, .unset] [(.ref ra)]))
        have hk3 := Nat.le_refl (T325.heap.size)
        refine DnW.of (fun tt_ zz_ => XS.astore X325.here hx rfl (hb hby at_210) rfl rfl (l' := #[.val (.int i0), .val (.int i1), .val (.int i2), .val (.int i3), .val (.int i4), .val (.int (3 : Int32)), .val (.int c0), .val (.int c1), .val (.int c2), .val (.int c3), .val (.ref b174), .val (.ref b284), .val (.ref b306), .val (.ref ra), .unset, .unset]) rfl zz_) ?_
        refine DnW.of (fun tt_ zz_ => XS.aload X325.here hx rfl (hb hby at_212) rfl rfl zz_) ?_
        show DnW p e below s (own_Q n0) 32 4288 (T325.setTop (mkF m 214 #[.val (.int i0), .val (.int i1), .val (.int i2), .val (.int i3), .val (.int i4), .val (.int (3 : Int32)), .val (.int c0), .val (.int c1), .val (.int c2), .val (.int c3), .val (.ref b174), .val (.ref b284), .val (.ref b306), .val (.ref ra), .unset, .unset] [(.ref ra)]))
        refine DnW.of (fun tt_ zz_ => XS.ifnonnullYes X325.here hx rfl (pc0 := 214) (pc' := 219) rfl (hb hby at_214) rfl (by decide) (by decide) zz_) ?_
        show DnW p e below s (own_Q n0) 32 4288 (T325.setTop (mkF m 219 #[.val (.int i0), .val (.int i1), .val (.int i2), .val (.int i3), .val (.int i4), .val (.int (3 : Int32)), .val (.int c0), .val (.int c1), .val (.int c2), .val (.int c3), .val (.ref b174), .val (.ref b284), .val (.ref b306), .val (.ref ra), .unset, .unset] []))
        refine DnW.of (fun tt_ zz_ => XS.aload X325.here hx rfl (hb hby at_219) rfl rfl zz_) ?_
        refine DnW.of (fun tt_ zz_ => XS.iload X325.here hx rfl (hb hby at_221) rfl zz_) ?_
        show DnW p e below s (own_Q n0) 32 4288 (T325.setTop (mkF m 223 #[.val (.int i0), .val (.int i1), .val (.int i2), .val (.int i3), .val (.int i4), .val (.int (3 : Int32)), .val (.int c0), .val (.int c1), .val (.int c2), .val (.int c3), .val (.ref b174), .val (.ref b284), .val (.ref b306), .val (.ref ra), .unset, .unset] [(.int (3 : Int32)), (.ref b174)]))
        have F326 := (F313.ext Xf)
        have F327 := (Nat.le_trans F314 Xf.1)
        have F328 := (F315.ext Xf)
        obtain ⟨v329, T329, L329, Q329, X329, st329⟩ := cSt X325 hx hZ (y := (⟨"com/example/vellum/vellum/types/DvUriFragmentIdPinLaw", "firstHash", "([CI)I"⟩ : MethodName)) hown (hg 132 rfl) (hg 133 rfl) (hg 2 rfl) (hg 134 rfl) (by decide) (argsL := [(.ref b174), (.int (3 : Int32))]) (rest := []) (rmFH3 l Z a0 hw T325.heap n0 F327 b174 _ c0 c1 c2 c3 F328) rfl  0 (by decide) (by decide) (by decide) (by decide) (g := (mkF m 223 #[.val (.int i0), .val (.int i1), .val (.int i2), .val (.int i3), .val (.int i4), .val (.int (3 : Int32)), .val (.int c0), .val (.int c1), .val (.int c2), .val (.int c3), .val (.ref b174), .val (.ref b284), .val (.ref b306), .val (.ref ra), .unset, .unset] [(.int (3 : Int32)), (.ref b174)])) rfl (by rw [hml]; rfl) (lenOf pd30 rfl) rfl (by show 2 * 0 + _ ≤ _; exact Nat.le_of_eq rfl) (hb hby at_223)
        rw [show own_fh (3 : Int32) c0 c1 c2 c3 = (1 : Int32) by unfold own_fh; rw [if_neg h10, if_pos ⟨by decide, h11⟩]] at Q329
        obtain ⟨rfl, Mh, e329⟩ := Q329
        refine DnW.of st329 ?_
        show DnW p e below s (own_Q n0) 32 4288 (T329.setTop (mkF m 226 #[.val (.int i0), .val (.int i1), .val (.int i2), .val (.int i3), .val (.int i4), .val (.int (3 : Int32)), .val (.int c0), .val (.int c1), .val (.int c2), .val (.int c3), .val (.ref b174), .val (.ref b284), .val (.ref b306), .val (.ref ra), .unset, .unset] [(.int (1 : Int32))]))
        refine DnW.of (fun tt_ zz_ => XS.istore X329.here hx rfl (hb hby at_226) rfl (l' := #[.val (.int i0), .val (.int i1), .val (.int i2), .val (.int i3), .val (.int i4), .val (.int (3 : Int32)), .val (.int c0), .val (.int c1), .val (.int c2), .val (.int c3), .val (.ref b174), .val (.ref b284), .val (.ref b306), .val (.ref ra), .val (.int (1 : Int32)), .unset]) rfl zz_) ?_
        refine DnW.of (fun tt_ zz_ => XS.iload X329.here hx rfl (hb hby at_228) rfl zz_) ?_
        show DnW p e below s (own_Q n0) 32 4288 (T329.setTop (mkF m 230 #[.val (.int i0), .val (.int i1), .val (.int i2), .val (.int i3), .val (.int i4), .val (.int (3 : Int32)), .val (.int c0), .val (.int c1), .val (.int c2), .val (.int c3), .val (.ref b174), .val (.ref b284), .val (.ref b306), .val (.ref ra), .val (.int (1 : Int32)), .unset] [(.int (1 : Int32))]))
        refine DnW.of (fun tt_ zz_ => XS.ifYes X329.here hx rfl (pc0 := 230) (pc' := 247) rfl (hb hby at_230) rfl ((if0 _ _).trans (flt (by decide)).2.1) (by decide) (by decide) zz_) ?_
        show DnW p e below s (own_Q n0) 32 4288 (T329.setTop (mkF m 247 #[.val (.int i0), .val (.int i1), .val (.int i2), .val (.int i3), .val (.int i4), .val (.int (3 : Int32)), .val (.int c0), .val (.int c1), .val (.int c2), .val (.int c3), .val (.ref b174), .val (.ref b284), .val (.ref b306), .val (.ref ra), .val (.int (1 : Int32)), .unset] []))
        refine DnW.of (fun tt_ zz_ => XS.iload X329.here hx rfl (hb hby at_247) rfl zz_) ?_
        refine DnW.of (fun tt_ zz_ => XS.iload X329.here hx rfl (hb hby at_249) rfl zz_) ?_
        refine DnW.of (fun tt_ zz_ => XS.isub X329.here hx rfl (hb hby at_251) rfl zz_) ?_
        refine DnW.of (fun tt_ zz_ => XS.iconst X329.here hx rfl (hb hby at_252) zz_) ?_
        show DnW p e below s (own_Q n0) 32 4288 (T329.setTop (mkF m 253 #[.val (.int i0), .val (.int i1), .val (.int i2), .val (.int i3), .val (.int i4), .val (.int (3 : Int32)), .val (.int c0), .val (.int c1), .val (.int c2), .val (.int c3), .val (.ref b174), .val (.ref b284), .val (.ref b306), .val (.ref ra), .val (.int (1 : Int32)), .unset] [(.int (1 : Int32)), (.int ((3 : Int32) - (1 : Int32)))]))
        refine DnW.of (fun tt_ zz_ => XS.isub X329.here hx rfl (hb hby at_253) rfl zz_) ?_
        show DnW p e below s (own_Q n0) 32 4288 (T329.setTop (mkF m 254 #[.val (.int i0), .val (.int i1), .val (.int i2), .val (.int i3), .val (.int i4), .val (.int (3 : Int32)), .val (.int c0), .val (.int c1), .val (.int c2), .val (.int c3), .val (.ref b174), .val (.ref b284), .val (.ref b306), .val (.ref ra), .val (.int (1 : Int32)), .unset] [(.int (((3 : Int32) - (1 : Int32)) - (1 : Int32)))]))
        rw [show (((3 : Int32) - (1 : Int32)) - (1 : Int32)) = (1 : Int32) by decide]
        show DnW p e below s (own_Q n0) 32 4288 (T329.setTop (mkF m 254 #[.val (.int i0), .val (.int i1), .val (.int i2), .val (.int i3), .val (.int i4), .val (.int (3 : Int32)), .val (.int c0), .val (.int c1), .val (.int c2), .val (.int c3), .val (.ref b174), .val (.ref b284), .val (.ref b306), .val (.ref ra), .val (.int (1 : Int32)), .unset] [(.int (1 : Int32))]))
        refine DnW.of (fun tt_ zz_ => XS.istore X329.here hx rfl (hb hby at_254) rfl (l' := #[.val (.int i0), .val (.int i1), .val (.int i2), .val (.int i3), .val (.int i4), .val (.int (3 : Int32)), .val (.int c0), .val (.int c1), .val (.int c2), .val (.int c3), .val (.ref b174), .val (.ref b284), .val (.ref b306), .val (.ref ra), .val (.int (1 : Int32)), .val (.int (1 : Int32))]) rfl zz_) ?_
        refine DnW.of (fun tt_ zz_ => XS.aload X329.here hx rfl (hb hby at_256) rfl rfl zz_) ?_
        show DnW p e below s (own_Q n0) 32 4288 (T329.setTop (mkF m 258 #[.val (.int i0), .val (.int i1), .val (.int i2), .val (.int i3), .val (.int i4), .val (.int (3 : Int32)), .val (.int c0), .val (.int c1), .val (.int c2), .val (.int c3), .val (.ref b174), .val (.ref b284), .val (.ref b306), .val (.ref ra), .val (.int (1 : Int32)), .val (.int (1 : Int32))] [(.ref ra)]))
        obtain ⟨v330, T330, L330, Q330, X330, st330⟩ := cVi X329 hx hZ (C := "java/lang/String") (y := (⟨"java/lang/String", "length", "()I"⟩ : MethodName)) (z := (⟨"java/lang/String", "length", "()I"⟩ : MethodName)) hown (hg 135 rfl) (hg 105 rfl) (notFace_of_selects (args := #[]) (mvT hZ (hg 107 rfl))) (hg 107 rfl) (hg 106 rfl) (hg 7 rfl) (hg 108 rfl) (by decide) (a := ra) (argsL := []) (rest := []) (rmLn l Z a0 hw T325.heap n0 F327 ra rb (1 : Int32) [own_B c2] Sr cz hcz SZ F326) e329 (own_exa Sr) 0 (by decide) (by decide) (by decide) (by decide) (g := (mkF m 258 #[.val (.int i0), .val (.int i1), .val (.int i2), .val (.int i3), .val (.int i4), .val (.int (3 : Int32)), .val (.int c0), .val (.int c1), .val (.int c2), .val (.int c3), .val (.ref b174), .val (.ref b284), .val (.ref b306), .val (.ref ra), .val (.int (1 : Int32)), .val (.int (1 : Int32))] [(.ref ra)])) rfl (by rw [hml]; rfl) (lenOf pd9 rfl) rfl (by show 2 * 0 + _ ≤ _; exact Nat.le_of_eq rfl) (hb hby at_258)
        obtain ⟨rfl, Mq, e330⟩ := Q330
        refine DnW.of st330 ?_
        show DnW p e below s (own_Q n0) 32 4288 (T330.setTop (mkF m 261 #[.val (.int i0), .val (.int i1), .val (.int i2), .val (.int i3), .val (.int i4), .val (.int (3 : Int32)), .val (.int c0), .val (.int c1), .val (.int c2), .val (.int c3), .val (.ref b174), .val (.ref b284), .val (.ref b306), .val (.ref ra), .val (.int (1 : Int32)), .val (.int (1 : Int32))] [(.int (1 : Int32))]))
        refine DnW.of (fun tt_ zz_ => XS.iload X330.here hx rfl (hb hby at_261) rfl zz_) ?_
        show DnW p e below s (own_Q n0) 32 4288 (T330.setTop (mkF m 263 #[.val (.int i0), .val (.int i1), .val (.int i2), .val (.int i3), .val (.int i4), .val (.int (3 : Int32)), .val (.int c0), .val (.int c1), .val (.int c2), .val (.int c3), .val (.ref b174), .val (.ref b284), .val (.ref b306), .val (.ref ra), .val (.int (1 : Int32)), .val (.int (1 : Int32))] [(.int (1 : Int32)), (.int (1 : Int32))]))
        refine DnW.of (fun tt_ zz_ => XS.icmpYes X330.here hx rfl (pc0 := 263) (pc' := 268) rfl (hb hby at_263) rfl (teq rfl).1 (by decide) (by decide) zz_) ?_
        show DnW p e below s (own_Q n0) 32 4288 (T330.setTop (mkF m 268 #[.val (.int i0), .val (.int i1), .val (.int i2), .val (.int i3), .val (.int i4), .val (.int (3 : Int32)), .val (.int c0), .val (.int c1), .val (.int c2), .val (.int c3), .val (.ref b174), .val (.ref b284), .val (.ref b306), .val (.ref ra), .val (.int (1 : Int32)), .val (.int (1 : Int32))] []))
        refine DnW.of (fun tt_ zz_ => XS.aload X330.here hx rfl (hb hby at_268) rfl rfl zz_) ?_
        refine DnW.of (fun tt_ zz_ => XS.aload X330.here hx rfl (hb hby at_270) rfl rfl zz_) ?_
        refine DnW.of (fun tt_ zz_ => XS.iload X330.here hx rfl (hb hby at_272) rfl zz_) ?_
        refine DnW.of (fun tt_ zz_ => XS.iconst X330.here hx rfl (hb hby at_274) zz_) ?_
        show DnW p e below s (own_Q n0) 32 4288 (T330.setTop (mkF m 275 #[.val (.int i0), .val (.int i1), .val (.int i2), .val (.int i3), .val (.int i4), .val (.int (3 : Int32)), .val (.int c0), .val (.int c1), .val (.int c2), .val (.int c3), .val (.ref b174), .val (.ref b284), .val (.ref b306), .val (.ref ra), .val (.int (1 : Int32)), .val (.int (1 : Int32))] [(.int (0 : Int32)), (.int (1 : Int32)), (.ref b174), (.ref ra)]))
        obtain ⟨v331, T331, L331, Q331, X331, st331⟩ := cSt X330 hx hZ (y := (⟨"com/example/vellum/vellum/types/DvUriFragmentIdPinLaw", "same", "(Ljava/lang/String;[CII)Z"⟩ : MethodName)) hown (hg 176 rfl) (hg 177 rfl) (hg 2 rfl) (hg 178 rfl) (by decide) (argsL := [(.ref ra), (.ref b174), (.int (1 : Int32)), (.int (0 : Int32))]) (rest := []) (rmSb l Z a0 hw T325.heap n0 F327 ra rb (1 : Int32) [own_B c2] Sr cz hcz SZ F326 b174 (1 : Int32) (0 : Int32) fv rf SF _ _ c2 (by decide) y2 rfl F328 (by decide) rfl) e330  0 (by decide) (by decide) (by decide) (by decide) (g := (mkF m 275 #[.val (.int i0), .val (.int i1), .val (.int i2), .val (.int i3), .val (.int i4), .val (.int (3 : Int32)), .val (.int c0), .val (.int c1), .val (.int c2), .val (.int c3), .val (.ref b174), .val (.ref b284), .val (.ref b306), .val (.ref ra), .val (.int (1 : Int32)), .val (.int (1 : Int32))] [(.int (0 : Int32)), (.int (1 : Int32)), (.ref b174), (.ref ra)])) rfl (by rw [hml]; rfl) (lenOf pd31 rfl) rfl (by show 2 * 0 + _ ≤ _; exact Nat.le_of_eq rfl) (hb hby at_275)
        obtain ⟨rfl, Mk0, e331⟩ := Q331
        refine DnW.of st331 ?_
        show DnW p e below s (own_Q n0) 32 4288 (T331.setTop (mkF m 278 #[.val (.int i0), .val (.int i1), .val (.int i2), .val (.int i3), .val (.int i4), .val (.int (3 : Int32)), .val (.int c0), .val (.int c1), .val (.int c2), .val (.int c3), .val (.ref b174), .val (.ref b284), .val (.ref b306), .val (.ref ra), .val (.int (1 : Int32)), .val (.int (1 : Int32))] [(.int (1 : Int32))]))
        refine DnW.of (fun tt_ zz_ => XS.ifNo X331.here hx rfl (hb hby at_278) rfl ((if0 _ _).trans (feq (by decide)).1) zz_) ?_
        show DnW p e below s (own_Q n0) 32 4288 (T331.setTop (mkF m 281 #[.val (.int i0), .val (.int i1), .val (.int i2), .val (.int i3), .val (.int i4), .val (.int (3 : Int32)), .val (.int c0), .val (.int c1), .val (.int c2), .val (.int c3), .val (.ref b174), .val (.ref b284), .val (.ref b306), .val (.ref ra), .val (.int (1 : Int32)), .val (.int (1 : Int32))] []))
        refine DnW.of (fun tt_ zz_ => XS.aload X331.here hx rfl (hb hby at_281) rfl rfl zz_) ?_
        refine DnW.of (fun tt_ zz_ => XS.aload X331.here hx rfl (hb hby at_283) rfl rfl zz_) ?_
        refine DnW.of (fun tt_ zz_ => XS.iload X331.here hx rfl (hb hby at_285) rfl zz_) ?_
        refine DnW.of (fun tt_ zz_ => XS.iconst X331.here hx rfl (hb hby at_287) zz_) ?_
        show DnW p e below s (own_Q n0) 32 4288 (T331.setTop (mkF m 288 #[.val (.int i0), .val (.int i1), .val (.int i2), .val (.int i3), .val (.int i4), .val (.int (3 : Int32)), .val (.int c0), .val (.int c1), .val (.int c2), .val (.int c3), .val (.ref b174), .val (.ref b284), .val (.ref b306), .val (.ref ra), .val (.int (1 : Int32)), .val (.int (1 : Int32))] [(.int (1 : Int32)), (.int (1 : Int32)), (.ref b174), (.ref ra)]))
        obtain ⟨v332, T332, L332, Q332, X332, st332⟩ := cSt X331 hx hZ (y := (⟨"com/example/vellum/vellum/types/DvUriFragmentIdPinLaw", "same", "(Ljava/lang/String;[CII)Z"⟩ : MethodName)) hown (hg 176 rfl) (hg 177 rfl) (hg 2 rfl) (hg 178 rfl) (by decide) (argsL := [(.ref ra), (.ref b174), (.int (1 : Int32)), (.int (1 : Int32))]) (rest := []) (rmSa l Z a0 hw T325.heap n0 F327 ra rb (1 : Int32) [own_B c2] Sr cz hcz SZ F326 b174 (1 : Int32) (1 : Int32) (by decide)) e331  0 (by decide) (by decide) (by decide) (by decide) (g := (mkF m 288 #[.val (.int i0), .val (.int i1), .val (.int i2), .val (.int i3), .val (.int i4), .val (.int (3 : Int32)), .val (.int c0), .val (.int c1), .val (.int c2), .val (.int c3), .val (.ref b174), .val (.ref b284), .val (.ref b306), .val (.ref ra), .val (.int (1 : Int32)), .val (.int (1 : Int32))] [(.int (1 : Int32)), (.int (1 : Int32)), (.ref b174), (.ref ra)])) rfl (by rw [hml]; rfl) (lenOf pd31 rfl) rfl (by show 2 * 0 + _ ≤ _; exact Nat.le_of_eq rfl) (hb hby at_288)
        obtain ⟨rfl, Mk1, e332⟩ := Q332
        refine DnW.of st332 ?_
        show DnW p e below s (own_Q n0) 32 4288 (T332.setTop (mkF m 291 #[.val (.int i0), .val (.int i1), .val (.int i2), .val (.int i3), .val (.int i4), .val (.int (3 : Int32)), .val (.int c0), .val (.int c1), .val (.int c2), .val (.int c3), .val (.ref b174), .val (.ref b284), .val (.ref b306), .val (.ref ra), .val (.int (1 : Int32)), .val (.int (1 : Int32))] [(.int (1 : Int32))]))
        refine DnW.of (fun tt_ zz_ => XS.ifNo X332.here hx rfl (hb hby at_291) rfl ((if0 _ _).trans (feq (by decide)).1) zz_) ?_
        show DnW p e below s (own_Q n0) 32 4288 (T332.setTop (mkF m 294 #[.val (.int i0), .val (.int i1), .val (.int i2), .val (.int i3), .val (.int i4), .val (.int (3 : Int32)), .val (.int c0), .val (.int c1), .val (.int c2), .val (.int c3), .val (.ref b174), .val (.ref b284), .val (.ref b306), .val (.ref ra), .val (.int (1 : Int32)), .val (.int (1 : Int32))] []))
        refine DnW.of (fun tt_ zz_ => XS.aload X332.here hx rfl (hb hby at_294) rfl rfl zz_) ?_
        refine DnW.of (fun tt_ zz_ => XS.aload X332.here hx rfl (hb hby at_296) rfl rfl zz_) ?_
        refine DnW.of (fun tt_ zz_ => XS.iload X332.here hx rfl (hb hby at_298) rfl zz_) ?_
        refine DnW.of (fun tt_ zz_ => XS.iconst X332.here hx rfl (hb hby at_300) zz_) ?_
        show DnW p e below s (own_Q n0) 32 4288 (T332.setTop (mkF m 301 #[.val (.int i0), .val (.int i1), .val (.int i2), .val (.int i3), .val (.int i4), .val (.int (3 : Int32)), .val (.int c0), .val (.int c1), .val (.int c2), .val (.int c3), .val (.ref b174), .val (.ref b284), .val (.ref b306), .val (.ref ra), .val (.int (1 : Int32)), .val (.int (1 : Int32))] [(.int (2 : Int32)), (.int (1 : Int32)), (.ref b174), (.ref ra)]))
        obtain ⟨v333, T333, L333, Q333, X333, st333⟩ := cSt X332 hx hZ (y := (⟨"com/example/vellum/vellum/types/DvUriFragmentIdPinLaw", "same", "(Ljava/lang/String;[CII)Z"⟩ : MethodName)) hown (hg 176 rfl) (hg 177 rfl) (hg 2 rfl) (hg 178 rfl) (by decide) (argsL := [(.ref ra), (.ref b174), (.int (1 : Int32)), (.int (2 : Int32))]) (rest := []) (rmSa l Z a0 hw T325.heap n0 F327 ra rb (1 : Int32) [own_B c2] Sr cz hcz SZ F326 b174 (1 : Int32) (2 : Int32) (by decide)) e332  0 (by decide) (by decide) (by decide) (by decide) (g := (mkF m 301 #[.val (.int i0), .val (.int i1), .val (.int i2), .val (.int i3), .val (.int i4), .val (.int (3 : Int32)), .val (.int c0), .val (.int c1), .val (.int c2), .val (.int c3), .val (.ref b174), .val (.ref b284), .val (.ref b306), .val (.ref ra), .val (.int (1 : Int32)), .val (.int (1 : Int32))] [(.int (2 : Int32)), (.int (1 : Int32)), (.ref b174), (.ref ra)])) rfl (by rw [hml]; rfl) (lenOf pd31 rfl) rfl (by show 2 * 0 + _ ≤ _; exact Nat.le_of_eq rfl) (hb hby at_301)
        obtain ⟨rfl, Mk2, e333⟩ := Q333
        refine DnW.of st333 ?_
        show DnW p e below s (own_Q n0) 32 4288 (T333.setTop (mkF m 304 #[.val (.int i0), .val (.int i1), .val (.int i2), .val (.int i3), .val (.int i4), .val (.int (3 : Int32)), .val (.int c0), .val (.int c1), .val (.int c2), .val (.int c3), .val (.ref b174), .val (.ref b284), .val (.ref b306), .val (.ref ra), .val (.int (1 : Int32)), .val (.int (1 : Int32))] [(.int (1 : Int32))]))
        refine DnW.of (fun tt_ zz_ => XS.ifNo X333.here hx rfl (hb hby at_304) rfl ((if0 _ _).trans (feq (by decide)).1) zz_) ?_
        show DnW p e below s (own_Q n0) 32 4288 (T333.setTop (mkF m 307 #[.val (.int i0), .val (.int i1), .val (.int i2), .val (.int i3), .val (.int i4), .val (.int (3 : Int32)), .val (.int c0), .val (.int c1), .val (.int c2), .val (.int c3), .val (.ref b174), .val (.ref b284), .val (.ref b306), .val (.ref ra), .val (.int (1 : Int32)), .val (.int (1 : Int32))] []))
        refine DnW.of (fun tt_ zz_ => XS.iconst X333.here hx rfl (hb hby at_307) zz_) ?_
        refine DnW.of (fun tt_ zz_ => XS.goto X333.here hx rfl (pc0 := 308) (pc' := 312) rfl (hb hby at_308) (by decide) (by decide) zz_) ?_
        show DnW p e below s (own_Q n0) 32 4288 (T333.setTop (mkF m 312 #[.val (.int i0), .val (.int i1), .val (.int i2), .val (.int i3), .val (.int i4), .val (.int (3 : Int32)), .val (.int c0), .val (.int c1), .val (.int c2), .val (.int c3), .val (.ref b174), .val (.ref b284), .val (.ref b306), .val (.ref ra), .val (.int (1 : Int32)), .val (.int (1 : Int32))] [(.int (1 : Int32))]))
        exact DnW.retN hS (by rw [e333]; exact hk3) X333 hx hlk (t := .boolean) hret (by simp) (hb hby at_312) (by decide) (by decide) (⟨rfl, (Fr.app (Fr.app (Fr.app (Fr.app (Fr.app (Fr.app (Fr.app (Fr.app N296 Ms) Md) Mf) Mh) Mq) Mk0) Mk1) Mk2)⟩)
      · skip
        by_cases h12 : c2 = 35
        · skip
          have b0_ := v0 h10
          have b1_ := v1 h11
          have b2_ : own_B c2 = 35 := by rw [h12]; decide
          have hi : own_ix [own_B c0, own_B c1, own_B c2] = (2 : Int32) := by simp [own_ix, b0_, b1_, b2_]
          have hcut : own_Cut [own_B c0, own_B c1, own_B c2] [] (3 : Int32) (3 : Int32) (0 : Int32) := ⟨by decide, by decide, by decide, by decide, by decide, by decide, by decide, by decide, rfl⟩
          obtain ⟨v334, T334, L334, Q334, X334, hS, hZ, hown, hC334, st334⟩ := cVH X312 hx hZ (C := "com/example/vellum/vellum/types/DvUri") (y := (⟨"com/example/vellum/vellum/types/DvUri", "fragmentId", "()Ljava/lang/String;"⟩ : MethodName)) (z := (⟨"com/example/vellum/vellum/types/DvUri", "fragmentId", "()Ljava/lang/String;"⟩ : MethodName)) hown (hg 84 rfl) (hg 85 rfl) (notFace_of_selects (args := #[]) (mvT hZ (hg 87 rfl))) (hg 87 rfl) (hg 86 rfl) (hg 36 rfl) (hg 88 rfl) (by decide) (own_EW hw) hC312.1 hS hk2 (a := b306) (argsL := []) (rest := []) (rmFS l Z a0 hw T312.heap n0 F314 b284 sb (3 : Int32) [own_B c0, own_B c1, own_B c2] S3 (Or.inr (Or.inr (Or.inl ⟨rfl, _, _, _, rfl⟩))) cz hcz SZ F313 fv rf SF b306 FD (2 : Int32) hi (by decide) (3 : Int32) (0 : Int32) [] hcut (by decide)) rfl ET 0 (by decide) (by decide) (by decide) (by decide) (g := (mkF m 207 #[.val (.int i0), .val (.int i1), .val (.int i2), .val (.int i3), .val (.int i4), .val (.int (3 : Int32)), .val (.int c0), .val (.int c1), .val (.int c2), .val (.int c3), .val (.ref b174), .val (.ref b284), .val (.ref b306), .unset, .unset, .unset] [(.ref b306)])) rfl (by rw [hml]; rfl) (lenOf pd29 rfl) rfl (by show 2 * 0 + _ ≤ _; exact Nat.le_of_eq rfl) (hb hby at_207)
          obtain ⟨ra, rb, rfl, Mf, Xf, Sr⟩ := Q334
          refine DnW.of st334 ?_
          show DnW p e below s (own_Q n0) 32 4288 (T334.setTop (mkF m 210 #[.val (.int i0), .val (.int i1), .val (.int i2), .val (.int i3), .val (.int i4), .val (.int (3 : Int32)), .val (.int c0), .val (.int c1), .val (.int c2), .val (.int c3), .val (.ref b174), .val (.ref b284), .val (.ref b306), .unset, .unset, .unset] [(.ref ra)]))
          have hk3 := Nat.le_refl (T334.heap.size)
          refine DnW.of (fun tt_ zz_ => XS.astore X334.here hx rfl (hb hby at_210) rfl rfl (l' := #[.val (.int i0), .val (.int i1), .val (.int i2), .val (.int i3), .val (.int i4), .val (.int (3 : Int32)), .val (.int c0), .val (.int c1), .val (.int c2), .val (.int c3), .val (.ref b174), .val (.ref b284), .val (.ref b306), .val (.ref ra), .unset, .unset]) rfl zz_) ?_
          refine DnW.of (fun tt_ zz_ => XS.aload X334.here hx rfl (hb hby at_212) rfl rfl zz_) ?_
          show DnW p e below s (own_Q n0) 32 4288 (T334.setTop (mkF m 214 #[.val (.int i0), .val (.int i1), .val (.int i2), .val (.int i3), .val (.int i4), .val (.int (3 : Int32)), .val (.int c0), .val (.int c1), .val (.int c2), .val (.int c3), .val (.ref b174), .val (.ref b284), .val (.ref b306), .val (.ref ra), .unset, .unset] [(.ref ra)]))
          refine DnW.of (fun tt_ zz_ => XS.ifnonnullYes X334.here hx rfl (pc0 := 214) (pc' := 219) rfl (hb hby at_214) rfl (by decide) (by decide) zz_) ?_
          show DnW p e below s (own_Q n0) 32 4288 (T334.setTop (mkF m 219 #[.val (.int i0), .val (.int i1), .val (.int i2), .val (.int i3), .val (.int i4), .val (.int (3 : Int32)), .val (.int c0), .val (.int c1), .val (.int c2), .val (.int c3), .val (.ref b174), .val (.ref b284), .val (.ref b306), .val (.ref ra), .unset, .unset] []))
          refine DnW.of (fun tt_ zz_ => XS.aload X334.here hx rfl (hb hby at_219) rfl rfl zz_) ?_
          refine DnW.of (fun tt_ zz_ => XS.iload X334.here hx rfl (hb hby at_221) rfl zz_) ?_
          show DnW p e below s (own_Q n0) 32 4288 (T334.setTop (mkF m 223 #[.val (.int i0), .val (.int i1), .val (.int i2), .val (.int i3), .val (.int i4), .val (.int (3 : Int32)), .val (.int c0), .val (.int c1), .val (.int c2), .val (.int c3), .val (.ref b174), .val (.ref b284), .val (.ref b306), .val (.ref ra), .unset, .unset] [(.int (3 : Int32)), (.ref b174)]))
          have F335 := (F313.ext Xf)
          have F336 := (Nat.le_trans F314 Xf.1)
          have F337 := (F315.ext Xf)
          obtain ⟨v338, T338, L338, Q338, X338, st338⟩ := cSt X334 hx hZ (y := (⟨"com/example/vellum/vellum/types/DvUriFragmentIdPinLaw", "firstHash", "([CI)I"⟩ : MethodName)) hown (hg 132 rfl) (hg 133 rfl) (hg 2 rfl) (hg 134 rfl) (by decide) (argsL := [(.ref b174), (.int (3 : Int32))]) (rest := []) (rmFH3 l Z a0 hw T334.heap n0 F336 b174 _ c0 c1 c2 c3 F337) rfl  0 (by decide) (by decide) (by decide) (by decide) (g := (mkF m 223 #[.val (.int i0), .val (.int i1), .val (.int i2), .val (.int i3), .val (.int i4), .val (.int (3 : Int32)), .val (.int c0), .val (.int c1), .val (.int c2), .val (.int c3), .val (.ref b174), .val (.ref b284), .val (.ref b306), .val (.ref ra), .unset, .unset] [(.int (3 : Int32)), (.ref b174)])) rfl (by rw [hml]; rfl) (lenOf pd30 rfl) rfl (by show 2 * 0 + _ ≤ _; exact Nat.le_of_eq rfl) (hb hby at_223)
          rw [show own_fh (3 : Int32) c0 c1 c2 c3 = (2 : Int32) by unfold own_fh; rw [if_neg h10, if_neg (fun y => h11 y.2), if_pos ⟨by decide, h12⟩]] at Q338
          obtain ⟨rfl, Mh, e338⟩ := Q338
          refine DnW.of st338 ?_
          show DnW p e below s (own_Q n0) 32 4288 (T338.setTop (mkF m 226 #[.val (.int i0), .val (.int i1), .val (.int i2), .val (.int i3), .val (.int i4), .val (.int (3 : Int32)), .val (.int c0), .val (.int c1), .val (.int c2), .val (.int c3), .val (.ref b174), .val (.ref b284), .val (.ref b306), .val (.ref ra), .unset, .unset] [(.int (2 : Int32))]))
          refine DnW.of (fun tt_ zz_ => XS.istore X338.here hx rfl (hb hby at_226) rfl (l' := #[.val (.int i0), .val (.int i1), .val (.int i2), .val (.int i3), .val (.int i4), .val (.int (3 : Int32)), .val (.int c0), .val (.int c1), .val (.int c2), .val (.int c3), .val (.ref b174), .val (.ref b284), .val (.ref b306), .val (.ref ra), .val (.int (2 : Int32)), .unset]) rfl zz_) ?_
          refine DnW.of (fun tt_ zz_ => XS.iload X338.here hx rfl (hb hby at_228) rfl zz_) ?_
          show DnW p e below s (own_Q n0) 32 4288 (T338.setTop (mkF m 230 #[.val (.int i0), .val (.int i1), .val (.int i2), .val (.int i3), .val (.int i4), .val (.int (3 : Int32)), .val (.int c0), .val (.int c1), .val (.int c2), .val (.int c3), .val (.ref b174), .val (.ref b284), .val (.ref b306), .val (.ref ra), .val (.int (2 : Int32)), .unset] [(.int (2 : Int32))]))
          refine DnW.of (fun tt_ zz_ => XS.ifYes X338.here hx rfl (pc0 := 230) (pc' := 247) rfl (hb hby at_230) rfl ((if0 _ _).trans (flt (by decide)).2.1) (by decide) (by decide) zz_) ?_
          show DnW p e below s (own_Q n0) 32 4288 (T338.setTop (mkF m 247 #[.val (.int i0), .val (.int i1), .val (.int i2), .val (.int i3), .val (.int i4), .val (.int (3 : Int32)), .val (.int c0), .val (.int c1), .val (.int c2), .val (.int c3), .val (.ref b174), .val (.ref b284), .val (.ref b306), .val (.ref ra), .val (.int (2 : Int32)), .unset] []))
          refine DnW.of (fun tt_ zz_ => XS.iload X338.here hx rfl (hb hby at_247) rfl zz_) ?_
          refine DnW.of (fun tt_ zz_ => XS.iload X338.here hx rfl (hb hby at_249) rfl zz_) ?_
          refine DnW.of (fun tt_ zz_ => XS.isub X338.here hx rfl (hb hby at_251) rfl zz_) ?_
          refine DnW.of (fun tt_ zz_ => XS.iconst X338.here hx rfl (hb hby at_252) zz_) ?_
          show DnW p e below s (own_Q n0) 32 4288 (T338.setTop (mkF m 253 #[.val (.int i0), .val (.int i1), .val (.int i2), .val (.int i3), .val (.int i4), .val (.int (3 : Int32)), .val (.int c0), .val (.int c1), .val (.int c2), .val (.int c3), .val (.ref b174), .val (.ref b284), .val (.ref b306), .val (.ref ra), .val (.int (2 : Int32)), .unset] [(.int (1 : Int32)), (.int ((3 : Int32) - (2 : Int32)))]))
          refine DnW.of (fun tt_ zz_ => XS.isub X338.here hx rfl (hb hby at_253) rfl zz_) ?_
          show DnW p e below s (own_Q n0) 32 4288 (T338.setTop (mkF m 254 #[.val (.int i0), .val (.int i1), .val (.int i2), .val (.int i3), .val (.int i4), .val (.int (3 : Int32)), .val (.int c0), .val (.int c1), .val (.int c2), .val (.int c3), .val (.ref b174), .val (.ref b284), .val (.ref b306), .val (.ref ra), .val (.int (2 : Int32)), .unset] [(.int (((3 : Int32) - (2 : Int32)) - (1 : Int32)))]))
          rw [show (((3 : Int32) - (2 : Int32)) - (1 : Int32)) = (0 : Int32) by decide]
          show DnW p e below s (own_Q n0) 32 4288 (T338.setTop (mkF m 254 #[.val (.int i0), .val (.int i1), .val (.int i2), .val (.int i3), .val (.int i4), .val (.int (3 : Int32)), .val (.int c0), .val (.int c1), .val (.int c2), .val (.int c3), .val (.ref b174), .val (.ref b284), .val (.ref b306), .val (.ref ra), .val (.int (2 : Int32)), .unset] [(.int (0 : Int32))]))
          refine DnW.of (fun tt_ zz_ => XS.istore X338.here hx rfl (hb hby at_254) rfl (l' := #[.val (.int i0), .val (.int i1), .val (.int i2), .val (.int i3), .val (.int i4), .val (.int (3 : Int32)), .val (.int c0), .val (.int c1), .val (.int c2), .val (.int c3), .val (.ref b174), .val (.ref b284), .val (.ref b306), .val (.ref ra), .val (.int (2 : Int32)), .val (.int (0 : Int32))]) rfl zz_) ?_
          refine DnW.of (fun tt_ zz_ => XS.aload X338.here hx rfl (hb hby at_256) rfl rfl zz_) ?_
          show DnW p e below s (own_Q n0) 32 4288 (T338.setTop (mkF m 258 #[.val (.int i0), .val (.int i1), .val (.int i2), .val (.int i3), .val (.int i4), .val (.int (3 : Int32)), .val (.int c0), .val (.int c1), .val (.int c2), .val (.int c3), .val (.ref b174), .val (.ref b284), .val (.ref b306), .val (.ref ra), .val (.int (2 : Int32)), .val (.int (0 : Int32))] [(.ref ra)]))
          obtain ⟨v339, T339, L339, Q339, X339, st339⟩ := cVi X338 hx hZ (C := "java/lang/String") (y := (⟨"java/lang/String", "length", "()I"⟩ : MethodName)) (z := (⟨"java/lang/String", "length", "()I"⟩ : MethodName)) hown (hg 135 rfl) (hg 105 rfl) (notFace_of_selects (args := #[]) (mvT hZ (hg 107 rfl))) (hg 107 rfl) (hg 106 rfl) (hg 7 rfl) (hg 108 rfl) (by decide) (a := ra) (argsL := []) (rest := []) (rmLn l Z a0 hw T334.heap n0 F336 ra rb (0 : Int32) [] Sr cz hcz SZ F335) e338 (own_exa Sr) 0 (by decide) (by decide) (by decide) (by decide) (g := (mkF m 258 #[.val (.int i0), .val (.int i1), .val (.int i2), .val (.int i3), .val (.int i4), .val (.int (3 : Int32)), .val (.int c0), .val (.int c1), .val (.int c2), .val (.int c3), .val (.ref b174), .val (.ref b284), .val (.ref b306), .val (.ref ra), .val (.int (2 : Int32)), .val (.int (0 : Int32))] [(.ref ra)])) rfl (by rw [hml]; rfl) (lenOf pd9 rfl) rfl (by show 2 * 0 + _ ≤ _; exact Nat.le_of_eq rfl) (hb hby at_258)
          obtain ⟨rfl, Mq, e339⟩ := Q339
          refine DnW.of st339 ?_
          show DnW p e below s (own_Q n0) 32 4288 (T339.setTop (mkF m 261 #[.val (.int i0), .val (.int i1), .val (.int i2), .val (.int i3), .val (.int i4), .val (.int (3 : Int32)), .val (.int c0), .val (.int c1), .val (.int c2), .val (.int c3), .val (.ref b174), .val (.ref b284), .val (.ref b306), .val (.ref ra), .val (.int (2 : Int32)), .val (.int (0 : Int32))] [(.int (0 : Int32))]))
          refine DnW.of (fun tt_ zz_ => XS.iload X339.here hx rfl (hb hby at_261) rfl zz_) ?_
          show DnW p e below s (own_Q n0) 32 4288 (T339.setTop (mkF m 263 #[.val (.int i0), .val (.int i1), .val (.int i2), .val (.int i3), .val (.int i4), .val (.int (3 : Int32)), .val (.int c0), .val (.int c1), .val (.int c2), .val (.int c3), .val (.ref b174), .val (.ref b284), .val (.ref b306), .val (.ref ra), .val (.int (2 : Int32)), .val (.int (0 : Int32))] [(.int (0 : Int32)), (.int (0 : Int32))]))
          refine DnW.of (fun tt_ zz_ => XS.icmpYes X339.here hx rfl (pc0 := 263) (pc' := 268) rfl (hb hby at_263) rfl (teq rfl).1 (by decide) (by decide) zz_) ?_
          show DnW p e below s (own_Q n0) 32 4288 (T339.setTop (mkF m 268 #[.val (.int i0), .val (.int i1), .val (.int i2), .val (.int i3), .val (.int i4), .val (.int (3 : Int32)), .val (.int c0), .val (.int c1), .val (.int c2), .val (.int c3), .val (.ref b174), .val (.ref b284), .val (.ref b306), .val (.ref ra), .val (.int (2 : Int32)), .val (.int (0 : Int32))] []))
          refine DnW.of (fun tt_ zz_ => XS.aload X339.here hx rfl (hb hby at_268) rfl rfl zz_) ?_
          refine DnW.of (fun tt_ zz_ => XS.aload X339.here hx rfl (hb hby at_270) rfl rfl zz_) ?_
          refine DnW.of (fun tt_ zz_ => XS.iload X339.here hx rfl (hb hby at_272) rfl zz_) ?_
          refine DnW.of (fun tt_ zz_ => XS.iconst X339.here hx rfl (hb hby at_274) zz_) ?_
          show DnW p e below s (own_Q n0) 32 4288 (T339.setTop (mkF m 275 #[.val (.int i0), .val (.int i1), .val (.int i2), .val (.int i3), .val (.int i4), .val (.int (3 : Int32)), .val (.int c0), .val (.int c1), .val (.int c2), .val (.int c3), .val (.ref b174), .val (.ref b284), .val (.ref b306), .val (.ref ra), .val (.int (2 : Int32)), .val (.int (0 : Int32))] [(.int (0 : Int32)), (.int (2 : Int32)), (.ref b174), (.ref ra)]))
          obtain ⟨v340, T340, L340, Q340, X340, st340⟩ := cSt X339 hx hZ (y := (⟨"com/example/vellum/vellum/types/DvUriFragmentIdPinLaw", "same", "(Ljava/lang/String;[CII)Z"⟩ : MethodName)) hown (hg 176 rfl) (hg 177 rfl) (hg 2 rfl) (hg 178 rfl) (by decide) (argsL := [(.ref ra), (.ref b174), (.int (2 : Int32)), (.int (0 : Int32))]) (rest := []) (rmSa l Z a0 hw T334.heap n0 F336 ra rb (0 : Int32) [] Sr cz hcz SZ F335 b174 (2 : Int32) (0 : Int32) (by decide)) e339  0 (by decide) (by decide) (by decide) (by decide) (g := (mkF m 275 #[.val (.int i0), .val (.int i1), .val (.int i2), .val (.int i3), .val (.int i4), .val (.int (3 : Int32)), .val (.int c0), .val (.int c1), .val (.int c2), .val (.int c3), .val (.ref b174), .val (.ref b284), .val (.ref b306), .val (.ref ra), .val (.int (2 : Int32)), .val (.int (0 : Int32))] [(.int (0 : Int32)), (.int (2 : Int32)), (.ref b174), (.ref ra)])) rfl (by rw [hml]; rfl) (lenOf pd31 rfl) rfl (by show 2 * 0 + _ ≤ _; exact Nat.le_of_eq rfl) (hb hby at_275)
          obtain ⟨rfl, Mk0, e340⟩ := Q340
          refine DnW.of st340 ?_
          show DnW p e below s (own_Q n0) 32 4288 (T340.setTop (mkF m 278 #[.val (.int i0), .val (.int i1), .val (.int i2), .val (.int i3), .val (.int i4), .val (.int (3 : Int32)), .val (.int c0), .val (.int c1), .val (.int c2), .val (.int c3), .val (.ref b174), .val (.ref b284), .val (.ref b306), .val (.ref ra), .val (.int (2 : Int32)), .val (.int (0 : Int32))] [(.int (1 : Int32))]))
          refine DnW.of (fun tt_ zz_ => XS.ifNo X340.here hx rfl (hb hby at_278) rfl ((if0 _ _).trans (feq (by decide)).1) zz_) ?_
          show DnW p e below s (own_Q n0) 32 4288 (T340.setTop (mkF m 281 #[.val (.int i0), .val (.int i1), .val (.int i2), .val (.int i3), .val (.int i4), .val (.int (3 : Int32)), .val (.int c0), .val (.int c1), .val (.int c2), .val (.int c3), .val (.ref b174), .val (.ref b284), .val (.ref b306), .val (.ref ra), .val (.int (2 : Int32)), .val (.int (0 : Int32))] []))
          refine DnW.of (fun tt_ zz_ => XS.aload X340.here hx rfl (hb hby at_281) rfl rfl zz_) ?_
          refine DnW.of (fun tt_ zz_ => XS.aload X340.here hx rfl (hb hby at_283) rfl rfl zz_) ?_
          refine DnW.of (fun tt_ zz_ => XS.iload X340.here hx rfl (hb hby at_285) rfl zz_) ?_
          refine DnW.of (fun tt_ zz_ => XS.iconst X340.here hx rfl (hb hby at_287) zz_) ?_
          show DnW p e below s (own_Q n0) 32 4288 (T340.setTop (mkF m 288 #[.val (.int i0), .val (.int i1), .val (.int i2), .val (.int i3), .val (.int i4), .val (.int (3 : Int32)), .val (.int c0), .val (.int c1), .val (.int c2), .val (.int c3), .val (.ref b174), .val (.ref b284), .val (.ref b306), .val (.ref ra), .val (.int (2 : Int32)), .val (.int (0 : Int32))] [(.int (1 : Int32)), (.int (2 : Int32)), (.ref b174), (.ref ra)]))
          obtain ⟨v341, T341, L341, Q341, X341, st341⟩ := cSt X340 hx hZ (y := (⟨"com/example/vellum/vellum/types/DvUriFragmentIdPinLaw", "same", "(Ljava/lang/String;[CII)Z"⟩ : MethodName)) hown (hg 176 rfl) (hg 177 rfl) (hg 2 rfl) (hg 178 rfl) (by decide) (argsL := [(.ref ra), (.ref b174), (.int (2 : Int32)), (.int (1 : Int32))]) (rest := []) (rmSa l Z a0 hw T334.heap n0 F336 ra rb (0 : Int32) [] Sr cz hcz SZ F335 b174 (2 : Int32) (1 : Int32) (by decide)) e340  0 (by decide) (by decide) (by decide) (by decide) (g := (mkF m 288 #[.val (.int i0), .val (.int i1), .val (.int i2), .val (.int i3), .val (.int i4), .val (.int (3 : Int32)), .val (.int c0), .val (.int c1), .val (.int c2), .val (.int c3), .val (.ref b174), .val (.ref b284), .val (.ref b306), .val (.ref ra), .val (.int (2 : Int32)), .val (.int (0 : Int32))] [(.int (1 : Int32)), (.int (2 : Int32)), (.ref b174), (.ref ra)])) rfl (by rw [hml]; rfl) (lenOf pd31 rfl) rfl (by show 2 * 0 + _ ≤ _; exact Nat.le_of_eq rfl) (hb hby at_288)
          obtain ⟨rfl, Mk1, e341⟩ := Q341
          refine DnW.of st341 ?_
          show DnW p e below s (own_Q n0) 32 4288 (T341.setTop (mkF m 291 #[.val (.int i0), .val (.int i1), .val (.int i2), .val (.int i3), .val (.int i4), .val (.int (3 : Int32)), .val (.int c0), .val (.int c1), .val (.int c2), .val (.int c3), .val (.ref b174), .val (.ref b284), .val (.ref b306), .val (.ref ra), .val (.int (2 : Int32)), .val (.int (0 : Int32))] [(.int (1 : Int32))]))
          refine DnW.of (fun tt_ zz_ => XS.ifNo X341.here hx rfl (hb hby at_291) rfl ((if0 _ _).trans (feq (by decide)).1) zz_) ?_
          show DnW p e below s (own_Q n0) 32 4288 (T341.setTop (mkF m 294 #[.val (.int i0), .val (.int i1), .val (.int i2), .val (.int i3), .val (.int i4), .val (.int (3 : Int32)), .val (.int c0), .val (.int c1), .val (.int c2), .val (.int c3), .val (.ref b174), .val (.ref b284), .val (.ref b306), .val (.ref ra), .val (.int (2 : Int32)), .val (.int (0 : Int32))] []))
          refine DnW.of (fun tt_ zz_ => XS.aload X341.here hx rfl (hb hby at_294) rfl rfl zz_) ?_
          refine DnW.of (fun tt_ zz_ => XS.aload X341.here hx rfl (hb hby at_296) rfl rfl zz_) ?_
          refine DnW.of (fun tt_ zz_ => XS.iload X341.here hx rfl (hb hby at_298) rfl zz_) ?_
          refine DnW.of (fun tt_ zz_ => XS.iconst X341.here hx rfl (hb hby at_300) zz_) ?_
          show DnW p e below s (own_Q n0) 32 4288 (T341.setTop (mkF m 301 #[.val (.int i0), .val (.int i1), .val (.int i2), .val (.int i3), .val (.int i4), .val (.int (3 : Int32)), .val (.int c0), .val (.int c1), .val (.int c2), .val (.int c3), .val (.ref b174), .val (.ref b284), .val (.ref b306), .val (.ref ra), .val (.int (2 : Int32)), .val (.int (0 : Int32))] [(.int (2 : Int32)), (.int (2 : Int32)), (.ref b174), (.ref ra)]))
          obtain ⟨v342, T342, L342, Q342, X342, st342⟩ := cSt X341 hx hZ (y := (⟨"com/example/vellum/vellum/types/DvUriFragmentIdPinLaw", "same", "(Ljava/lang/String;[CII)Z"⟩ : MethodName)) hown (hg 176 rfl) (hg 177 rfl) (hg 2 rfl) (hg 178 rfl) (by decide) (argsL := [(.ref ra), (.ref b174), (.int (2 : Int32)), (.int (2 : Int32))]) (rest := []) (rmSa l Z a0 hw T334.heap n0 F336 ra rb (0 : Int32) [] Sr cz hcz SZ F335 b174 (2 : Int32) (2 : Int32) (by decide)) e341  0 (by decide) (by decide) (by decide) (by decide) (g := (mkF m 301 #[.val (.int i0), .val (.int i1), .val (.int i2), .val (.int i3), .val (.int i4), .val (.int (3 : Int32)), .val (.int c0), .val (.int c1), .val (.int c2), .val (.int c3), .val (.ref b174), .val (.ref b284), .val (.ref b306), .val (.ref ra), .val (.int (2 : Int32)), .val (.int (0 : Int32))] [(.int (2 : Int32)), (.int (2 : Int32)), (.ref b174), (.ref ra)])) rfl (by rw [hml]; rfl) (lenOf pd31 rfl) rfl (by show 2 * 0 + _ ≤ _; exact Nat.le_of_eq rfl) (hb hby at_301)
          obtain ⟨rfl, Mk2, e342⟩ := Q342
          refine DnW.of st342 ?_
          show DnW p e below s (own_Q n0) 32 4288 (T342.setTop (mkF m 304 #[.val (.int i0), .val (.int i1), .val (.int i2), .val (.int i3), .val (.int i4), .val (.int (3 : Int32)), .val (.int c0), .val (.int c1), .val (.int c2), .val (.int c3), .val (.ref b174), .val (.ref b284), .val (.ref b306), .val (.ref ra), .val (.int (2 : Int32)), .val (.int (0 : Int32))] [(.int (1 : Int32))]))
          refine DnW.of (fun tt_ zz_ => XS.ifNo X342.here hx rfl (hb hby at_304) rfl ((if0 _ _).trans (feq (by decide)).1) zz_) ?_
          show DnW p e below s (own_Q n0) 32 4288 (T342.setTop (mkF m 307 #[.val (.int i0), .val (.int i1), .val (.int i2), .val (.int i3), .val (.int i4), .val (.int (3 : Int32)), .val (.int c0), .val (.int c1), .val (.int c2), .val (.int c3), .val (.ref b174), .val (.ref b284), .val (.ref b306), .val (.ref ra), .val (.int (2 : Int32)), .val (.int (0 : Int32))] []))
          refine DnW.of (fun tt_ zz_ => XS.iconst X342.here hx rfl (hb hby at_307) zz_) ?_
          refine DnW.of (fun tt_ zz_ => XS.goto X342.here hx rfl (pc0 := 308) (pc' := 312) rfl (hb hby at_308) (by decide) (by decide) zz_) ?_
          show DnW p e below s (own_Q n0) 32 4288 (T342.setTop (mkF m 312 #[.val (.int i0), .val (.int i1), .val (.int i2), .val (.int i3), .val (.int i4), .val (.int (3 : Int32)), .val (.int c0), .val (.int c1), .val (.int c2), .val (.int c3), .val (.ref b174), .val (.ref b284), .val (.ref b306), .val (.ref ra), .val (.int (2 : Int32)), .val (.int (0 : Int32))] [(.int (1 : Int32))]))
          exact DnW.retN hS (by rw [e342]; exact hk3) X342 hx hlk (t := .boolean) hret (by simp) (hb hby at_312) (by decide) (by decide) (⟨rfl, (Fr.app (Fr.app (Fr.app (Fr.app (Fr.app (Fr.app (Fr.app (Fr.app N296 Ms) Md) Mf) Mh) Mq) Mk0) Mk1) Mk2)⟩)
        · skip
          have b0_ := v0 h10
          have b1_ := v1 h11
          have b2_ := v2 h12
          have hi : own_ix [own_B c0, own_B c1, own_B c2] = (-1 : Int32) := by simp [own_ix, b0_, b1_, b2_]
          obtain ⟨v343, T343, L343, Q343, X343, hS, hZ, hown, hC343, st343⟩ := cVH X312 hx hZ (C := "com/example/vellum/vellum/types/DvUri") (y := (⟨"com/example/vellum/vellum/types/DvUri", "fragmentId", "()Ljava/lang/String;"⟩ : MethodName)) (z := (⟨"com/example/vellum/vellum/types/DvUri", "fragmentId", "()Ljava/lang/String;"⟩ : MethodName)) hown (hg 84 rfl) (hg 85 rfl) (notFace_of_selects (args := #[]) (mvT hZ (hg 87 rfl))) (hg 87 rfl) (hg 86 rfl) (hg 36 rfl) (hg 88 rfl) (by decide) (own_EW hw) hC312.1 hS hk2 (a := b306) (argsL := []) (rest := []) (rmFN l Z a0 hw T312.heap n0 F314 b284 sb (3 : Int32) [own_B c0, own_B c1, own_B c2] S3 (Or.inr (Or.inr (Or.inl ⟨rfl, _, _, _, rfl⟩))) cz hcz SZ F313 b306 FD hi) rfl ET 0 (by decide) (by decide) (by decide) (by decide) (g := (mkF m 207 #[.val (.int i0), .val (.int i1), .val (.int i2), .val (.int i3), .val (.int i4), .val (.int (3 : Int32)), .val (.int c0), .val (.int c1), .val (.int c2), .val (.int c3), .val (.ref b174), .val (.ref b284), .val (.ref b306), .unset, .unset, .unset] [(.ref b306)])) rfl (by rw [hml]; rfl) (lenOf pd29 rfl) rfl (by show 2 * 0 + _ ≤ _; exact Nat.le_of_eq rfl) (hb hby at_207)
          obtain ⟨ra, rb, rfl, Mf, Xf, Sr⟩ := Q343
          refine DnW.of st343 ?_
          show DnW p e below s (own_Q n0) 32 4288 (T343.setTop (mkF m 210 #[.val (.int i0), .val (.int i1), .val (.int i2), .val (.int i3), .val (.int i4), .val (.int (3 : Int32)), .val (.int c0), .val (.int c1), .val (.int c2), .val (.int c3), .val (.ref b174), .val (.ref b284), .val (.ref b306), .unset, .unset, .unset] [(.ref ra)]))
          have hk3 := Nat.le_refl (T343.heap.size)
          refine DnW.of (fun tt_ zz_ => XS.astore X343.here hx rfl (hb hby at_210) rfl rfl (l' := #[.val (.int i0), .val (.int i1), .val (.int i2), .val (.int i3), .val (.int i4), .val (.int (3 : Int32)), .val (.int c0), .val (.int c1), .val (.int c2), .val (.int c3), .val (.ref b174), .val (.ref b284), .val (.ref b306), .val (.ref ra), .unset, .unset]) rfl zz_) ?_
          refine DnW.of (fun tt_ zz_ => XS.aload X343.here hx rfl (hb hby at_212) rfl rfl zz_) ?_
          show DnW p e below s (own_Q n0) 32 4288 (T343.setTop (mkF m 214 #[.val (.int i0), .val (.int i1), .val (.int i2), .val (.int i3), .val (.int i4), .val (.int (3 : Int32)), .val (.int c0), .val (.int c1), .val (.int c2), .val (.int c3), .val (.ref b174), .val (.ref b284), .val (.ref b306), .val (.ref ra), .unset, .unset] [(.ref ra)]))
          refine DnW.of (fun tt_ zz_ => XS.ifnonnullYes X343.here hx rfl (pc0 := 214) (pc' := 219) rfl (hb hby at_214) rfl (by decide) (by decide) zz_) ?_
          show DnW p e below s (own_Q n0) 32 4288 (T343.setTop (mkF m 219 #[.val (.int i0), .val (.int i1), .val (.int i2), .val (.int i3), .val (.int i4), .val (.int (3 : Int32)), .val (.int c0), .val (.int c1), .val (.int c2), .val (.int c3), .val (.ref b174), .val (.ref b284), .val (.ref b306), .val (.ref ra), .unset, .unset] []))
          refine DnW.of (fun tt_ zz_ => XS.aload X343.here hx rfl (hb hby at_219) rfl rfl zz_) ?_
          refine DnW.of (fun tt_ zz_ => XS.iload X343.here hx rfl (hb hby at_221) rfl zz_) ?_
          show DnW p e below s (own_Q n0) 32 4288 (T343.setTop (mkF m 223 #[.val (.int i0), .val (.int i1), .val (.int i2), .val (.int i3), .val (.int i4), .val (.int (3 : Int32)), .val (.int c0), .val (.int c1), .val (.int c2), .val (.int c3), .val (.ref b174), .val (.ref b284), .val (.ref b306), .val (.ref ra), .unset, .unset] [(.int (3 : Int32)), (.ref b174)]))
          have F344 := (F313.ext Xf)
          have F345 := (Nat.le_trans F314 Xf.1)
          have F346 := (F315.ext Xf)
          obtain ⟨v347, T347, L347, Q347, X347, st347⟩ := cSt X343 hx hZ (y := (⟨"com/example/vellum/vellum/types/DvUriFragmentIdPinLaw", "firstHash", "([CI)I"⟩ : MethodName)) hown (hg 132 rfl) (hg 133 rfl) (hg 2 rfl) (hg 134 rfl) (by decide) (argsL := [(.ref b174), (.int (3 : Int32))]) (rest := []) (rmFH3 l Z a0 hw T343.heap n0 F345 b174 _ c0 c1 c2 c3 F346) rfl  0 (by decide) (by decide) (by decide) (by decide) (g := (mkF m 223 #[.val (.int i0), .val (.int i1), .val (.int i2), .val (.int i3), .val (.int i4), .val (.int (3 : Int32)), .val (.int c0), .val (.int c1), .val (.int c2), .val (.int c3), .val (.ref b174), .val (.ref b284), .val (.ref b306), .val (.ref ra), .unset, .unset] [(.int (3 : Int32)), (.ref b174)])) rfl (by rw [hml]; rfl) (lenOf pd30 rfl) rfl (by show 2 * 0 + _ ≤ _; exact Nat.le_of_eq rfl) (hb hby at_223)
          rw [show own_fh (3 : Int32) c0 c1 c2 c3 = (-1 : Int32) by unfold own_fh; rw [if_neg h10, if_neg (fun y => h11 y.2), if_neg (fun y => h12 y.2), if_neg (fun y => absurd y.1 (by decide))]] at Q347
          obtain ⟨rfl, Mh, e347⟩ := Q347
          refine DnW.of st347 ?_
          show DnW p e below s (own_Q n0) 32 4288 (T347.setTop (mkF m 226 #[.val (.int i0), .val (.int i1), .val (.int i2), .val (.int i3), .val (.int i4), .val (.int (3 : Int32)), .val (.int c0), .val (.int c1), .val (.int c2), .val (.int c3), .val (.ref b174), .val (.ref b284), .val (.ref b306), .val (.ref ra), .unset, .unset] [(.int (-1 : Int32))]))
          refine DnW.of (fun tt_ zz_ => XS.istore X347.here hx rfl (hb hby at_226) rfl (l' := #[.val (.int i0), .val (.int i1), .val (.int i2), .val (.int i3), .val (.int i4), .val (.int (3 : Int32)), .val (.int c0), .val (.int c1), .val (.int c2), .val (.int c3), .val (.ref b174), .val (.ref b284), .val (.ref b306), .val (.ref ra), .val (.int (-1 : Int32)), .unset]) rfl zz_) ?_
          refine DnW.of (fun tt_ zz_ => XS.iload X347.here hx rfl (hb hby at_228) rfl zz_) ?_
          show DnW p e below s (own_Q n0) 32 4288 (T347.setTop (mkF m 230 #[.val (.int i0), .val (.int i1), .val (.int i2), .val (.int i3), .val (.int i4), .val (.int (3 : Int32)), .val (.int c0), .val (.int c1), .val (.int c2), .val (.int c3), .val (.ref b174), .val (.ref b284), .val (.ref b306), .val (.ref ra), .val (.int (-1 : Int32)), .unset] [(.int (-1 : Int32))]))
          refine DnW.of (fun tt_ zz_ => XS.ifNo X347.here hx rfl (hb hby at_230) rfl ((if0 _ _).trans (tlt (by decide)).2.1) zz_) ?_
          show DnW p e below s (own_Q n0) 32 4288 (T347.setTop (mkF m 233 #[.val (.int i0), .val (.int i1), .val (.int i2), .val (.int i3), .val (.int i4), .val (.int (3 : Int32)), .val (.int c0), .val (.int c1), .val (.int c2), .val (.int c3), .val (.ref b174), .val (.ref b284), .val (.ref b306), .val (.ref ra), .val (.int (-1 : Int32)), .unset] []))
          refine DnW.of (fun tt_ zz_ => XS.aload X347.here hx rfl (hb hby at_233) rfl rfl zz_) ?_
          show DnW p e below s (own_Q n0) 32 4288 (T347.setTop (mkF m 235 #[.val (.int i0), .val (.int i1), .val (.int i2), .val (.int i3), .val (.int i4), .val (.int (3 : Int32)), .val (.int c0), .val (.int c1), .val (.int c2), .val (.int c3), .val (.ref b174), .val (.ref b284), .val (.ref b306), .val (.ref ra), .val (.int (-1 : Int32)), .unset] [(.ref ra)]))
          obtain ⟨v348, T348, L348, Q348, X348, st348⟩ := cVi X347 hx hZ (C := "java/lang/String") (y := (⟨"java/lang/String", "length", "()I"⟩ : MethodName)) (z := (⟨"java/lang/String", "length", "()I"⟩ : MethodName)) hown (hg 135 rfl) (hg 105 rfl) (notFace_of_selects (args := #[]) (mvT hZ (hg 107 rfl))) (hg 107 rfl) (hg 106 rfl) (hg 7 rfl) (hg 108 rfl) (by decide) (a := ra) (argsL := []) (rest := []) (rmLn l Z a0 hw T343.heap n0 F345 ra rb (0 : Int32) [] Sr cz hcz SZ F344) e347 (own_exa Sr) 0 (by decide) (by decide) (by decide) (by decide) (g := (mkF m 235 #[.val (.int i0), .val (.int i1), .val (.int i2), .val (.int i3), .val (.int i4), .val (.int (3 : Int32)), .val (.int c0), .val (.int c1), .val (.int c2), .val (.int c3), .val (.ref b174), .val (.ref b284), .val (.ref b306), .val (.ref ra), .val (.int (-1 : Int32)), .unset] [(.ref ra)])) rfl (by rw [hml]; rfl) (lenOf pd9 rfl) rfl (by show 2 * 0 + _ ≤ _; exact Nat.le_of_eq rfl) (hb hby at_235)
          obtain ⟨rfl, Mq, e348⟩ := Q348
          refine DnW.of st348 ?_
          show DnW p e below s (own_Q n0) 32 4288 (T348.setTop (mkF m 238 #[.val (.int i0), .val (.int i1), .val (.int i2), .val (.int i3), .val (.int i4), .val (.int (3 : Int32)), .val (.int c0), .val (.int c1), .val (.int c2), .val (.int c3), .val (.ref b174), .val (.ref b284), .val (.ref b306), .val (.ref ra), .val (.int (-1 : Int32)), .unset] [(.int (0 : Int32))]))
          refine DnW.of (fun tt_ zz_ => XS.ifNo X348.here hx rfl (hb hby at_238) rfl ((if0 _ _).trans (teq rfl).2) zz_) ?_
          show DnW p e below s (own_Q n0) 32 4288 (T348.setTop (mkF m 241 #[.val (.int i0), .val (.int i1), .val (.int i2), .val (.int i3), .val (.int i4), .val (.int (3 : Int32)), .val (.int c0), .val (.int c1), .val (.int c2), .val (.int c3), .val (.ref b174), .val (.ref b284), .val (.ref b306), .val (.ref ra), .val (.int (-1 : Int32)), .unset] []))
          refine DnW.of (fun tt_ zz_ => XS.iconst X348.here hx rfl (hb hby at_241) zz_) ?_
          refine DnW.of (fun tt_ zz_ => XS.goto X348.here hx rfl (pc0 := 242) (pc' := 246) rfl (hb hby at_242) (by decide) (by decide) zz_) ?_
          show DnW p e below s (own_Q n0) 32 4288 (T348.setTop (mkF m 246 #[.val (.int i0), .val (.int i1), .val (.int i2), .val (.int i3), .val (.int i4), .val (.int (3 : Int32)), .val (.int c0), .val (.int c1), .val (.int c2), .val (.int c3), .val (.ref b174), .val (.ref b284), .val (.ref b306), .val (.ref ra), .val (.int (-1 : Int32)), .unset] [(.int (1 : Int32))]))
          exact DnW.retN hS (by rw [e348]; exact hk3) X348 hx hlk (t := .boolean) hret (by simp) (hb hby at_246) (by decide) (by decide) (⟨rfl, (Fr.app (Fr.app (Fr.app (Fr.app (Fr.app N296 Ms) Md) Mf) Mh) Mq)⟩)
  · skip
    show DnW p e below s (own_Q n0) 32 4288 (T182.setTop (mkF m 72 #[.val (.int i0), .val (.int i1), .val (.int i2), .val (.int i3), .val (.int i4), .val (.int (4 : Int32)), .val (.int c0), .val (.int c1), .val (.int c2), .val (.int c3), .val (.ref b174), .unset, .unset, .unset, .unset, .unset] [(.int (1 : Int32)), (.int (4 : Int32))]))
    refine DnW.of (fun tt_ zz_ => XS.icmpYes X182.here hx rfl (pc0 := 72) (pc' := 95) rfl (hb hby at_72) rfl (feq (by decide)).2 (by decide) (by decide) zz_) ?_
    show DnW p e below s (own_Q n0) 32 4288 (T182.setTop (mkF m 95 #[.val (.int i0), .val (.int i1), .val (.int i2), .val (.int i3), .val (.int i4), .val (.int (4 : Int32)), .val (.int c0), .val (.int c1), .val (.int c2), .val (.int c3), .val (.ref b174), .unset, .unset, .unset, .unset, .unset] []))
    refine DnW.of (fun tt_ zz_ => XS.iload X182.here hx rfl (hb hby at_95) rfl zz_) ?_
    refine DnW.of (fun tt_ zz_ => XS.iconst X182.here hx rfl (hb hby at_97) zz_) ?_
    show DnW p e below s (own_Q n0) 32 4288 (T182.setTop (mkF m 98 #[.val (.int i0), .val (.int i1), .val (.int i2), .val (.int i3), .val (.int i4), .val (.int (4 : Int32)), .val (.int c0), .val (.int c1), .val (.int c2), .val (.int c3), .val (.ref b174), .unset, .unset, .unset, .unset, .unset] [(.int (2 : Int32)), (.int (4 : Int32))]))
    refine DnW.of (fun tt_ zz_ => XS.icmpYes X182.here hx rfl (pc0 := 98) (pc' := 126) rfl (hb hby at_98) rfl (feq (by decide)).2 (by decide) (by decide) zz_) ?_
    show DnW p e below s (own_Q n0) 32 4288 (T182.setTop (mkF m 126 #[.val (.int i0), .val (.int i1), .val (.int i2), .val (.int i3), .val (.int i4), .val (.int (4 : Int32)), .val (.int c0), .val (.int c1), .val (.int c2), .val (.int c3), .val (.ref b174), .unset, .unset, .unset, .unset, .unset] []))
    refine DnW.of (fun tt_ zz_ => XS.iload X182.here hx rfl (hb hby at_126) rfl zz_) ?_
    refine DnW.of (fun tt_ zz_ => XS.iconst X182.here hx rfl (hb hby at_128) zz_) ?_
    show DnW p e below s (own_Q n0) 32 4288 (T182.setTop (mkF m 129 #[.val (.int i0), .val (.int i1), .val (.int i2), .val (.int i3), .val (.int i4), .val (.int (4 : Int32)), .val (.int c0), .val (.int c1), .val (.int c2), .val (.int c3), .val (.ref b174), .unset, .unset, .unset, .unset, .unset] [(.int (3 : Int32)), (.int (4 : Int32))]))
    refine DnW.of (fun tt_ zz_ => XS.icmpYes X182.here hx rfl (pc0 := 129) (pc' := 162) rfl (hb hby at_129) rfl (feq (by decide)).2 (by decide) (by decide) zz_) ?_
    show DnW p e below s (own_Q n0) 32 4288 (T182.setTop (mkF m 162 #[.val (.int i0), .val (.int i1), .val (.int i2), .val (.int i3), .val (.int i4), .val (.int (4 : Int32)), .val (.int c0), .val (.int c1), .val (.int c2), .val (.int c3), .val (.ref b174), .unset, .unset, .unset, .unset, .unset] []))
    obtain ⟨T349, h349, X349, e349, E349, A349, D349, U349, st349⟩ := newO X182 hx hZ hown (hg 5 rfl) (hg 6 rfl) (hg 7 rfl) e182 (g := (mkF m 162 #[.val (.int i0), .val (.int i1), .val (.int i2), .val (.int i3), .val (.int i4), .val (.int (4 : Int32)), .val (.int c0), .val (.int c1), .val (.int c2), .val (.int c3), .val (.ref b174), .unset, .unset, .unset, .unset, .unset] [])) rfl (hb hby at_162) (by decide) (by decide)
    obtain ⟨b349, g349⟩ : ∃ z, z = h182.size := ⟨_, rfl⟩
    rw [← g349] at A349 D349 U349 st349
    refine DnW.of st349 ?_
    show DnW p e below s (own_Q n0) 32 4288 (T349.setTop (mkF m 165 #[.val (.int i0), .val (.int i1), .val (.int i2), .val (.int i3), .val (.int i4), .val (.int (4 : Int32)), .val (.int c0), .val (.int c1), .val (.int c2), .val (.int c3), .val (.ref b174), .unset, .unset, .unset, .unset, .unset] [(.ref b349)]))
    have F_value_349 : Fld Z h349 b349 "java/lang/String" "value" "[B" .null := D349 (Or.inr (hg 33 rfl)) (ty := (.array .byte)) (by decide)
    have F_coder_349 : Fld Z h349 b349 "java/lang/String" "coder" "B" (.int (0 : Int32)) := D349 (Or.inr (hg 31 rfl)) (ty := .byte) (by decide)
    have n350 : b174 ≠ b349 := Nat.ne_of_lt (g349 ▸ R_181.lt)
    have gsa : n0 ≤ b349 := g349 ▸ F184
    have xsa : h0.size ≤ b349 := g349 ▸ F186.1
    refine DnW.of (fun tt_ zz_ => XS.dup X349.here hx rfl (hb hby at_165) rfl rfl zz_) ?_
    refine DnW.of (fun tt_ zz_ => XS.iconst X349.here hx rfl (hb hby at_166) zz_) ?_
    show DnW p e below s (own_Q n0) 32 4288 (T349.setTop (mkF m 167 #[.val (.int i0), .val (.int i1), .val (.int i2), .val (.int i3), .val (.int i4), .val (.int (4 : Int32)), .val (.int c0), .val (.int c1), .val (.int c2), .val (.int c3), .val (.ref b174), .unset, .unset, .unset, .unset, .unset] [(.int (4 : Int32)), (.ref b349), (.ref b349)]))
    have F351 := (Nat.le_trans F184 E349.1)
    have F352 := (own_ext2 F186 E349)
    obtain ⟨T353, h353, k353, X353, e353, E353, A353, st353⟩ := newP X349 hx hZ (hg 4 rfl) e349 (g := (mkF m 167 #[.val (.int i0), .val (.int i1), .val (.int i2), .val (.int i3), .val (.int i4), .val (.int (4 : Int32)), .val (.int c0), .val (.int c1), .val (.int c2), .val (.int c3), .val (.ref b174), .unset, .unset, .unset, .unset, .unset] [(.int (4 : Int32)), (.ref b349), (.ref b349)])) rfl (hb hby at_167) rfl (by decide) (cap := 4) (by decide) (by decide) (by decide) (by decide)
    obtain ⟨b353, g353⟩ : ∃ z, z = h349.size := ⟨_, rfl⟩
    rw [← g353] at A353 st353
    refine DnW.of st353 ?_
    show DnW p e below s (own_Q n0) 32 4288 (T353.setTop (mkF m 169 #[.val (.int i0), .val (.int i1), .val (.int i2), .val (.int i3), .val (.int i4), .val (.int (4 : Int32)), .val (.int c0), .val (.int c1), .val (.int c2), .val (.int c3), .val (.ref b174), .unset, .unset, .unset, .unset, .unset] [(.ref b353), (.ref b349), (.ref b349)]))
    have F354 := (R_181.ext E349)
    have n355 : b174 ≠ b353 := Nat.ne_of_lt (g353 ▸ F354.lt)
    have n356 : b349 ≠ b353 := Nat.ne_of_lt (g353 ▸ A349.lt)
    have RN_g : n0 ≤ b353 := g353 ▸ F351
    have RN_x : h0.size ≤ b353 := g353 ▸ F352.1
    have RN_R : Arh Z h353 b353 k353 .char 4 [] [] (.int 0) := (Arv.new A353 (by decide)).arh
    refine DnW.of (fun tt_ zz_ => XS.dup X353.here hx rfl (hb hby at_169) rfl rfl zz_) ?_
    refine DnW.of (fun tt_ zz_ => XS.iconst X353.here hx rfl (hb hby at_170) zz_) ?_
    refine DnW.of (fun tt_ zz_ => XS.iload X353.here hx rfl (hb hby at_171) rfl zz_) ?_
    show DnW p e below s (own_Q n0) 32 4288 (T353.setTop (mkF m 173 #[.val (.int i0), .val (.int i1), .val (.int i2), .val (.int i3), .val (.int i4), .val (.int (4 : Int32)), .val (.int c0), .val (.int c1), .val (.int c2), .val (.int c3), .val (.ref b174), .unset, .unset, .unset, .unset, .unset] [(.int c0), (.int (0 : Int32)), (.ref b353), (.ref b353), (.ref b349), (.ref b349)]))
    obtain ⟨c357, A_357, p357, S357, P357, H357, G357⟩ := RN_R
    obtain ⟨T358, h358, X358, e358, W358, st358⟩ := stC X353 hx hZ e353 A_357 (j := (0 : Int32)) (inb_of S357 (by decide)) (g := (mkF m 173 #[.val (.int i0), .val (.int i1), .val (.int i2), .val (.int i3), .val (.int i4), .val (.int (4 : Int32)), .val (.int c0), .val (.int c1), .val (.int c2), .val (.int c3), .val (.ref b174), .unset, .unset, .unset, .unset, .unset] [(.int c0), (.int (0 : Int32)), (.ref b353), (.ref b353), (.ref b349), (.ref b349)])) rfl rfl (hb hby at_173)
    refine DnW.of st358 ?_
    show DnW p e below s (own_Q n0) 32 4288 (T358.setTop (mkF m 174 #[.val (.int i0), .val (.int i1), .val (.int i2), .val (.int i3), .val (.int i4), .val (.int (4 : Int32)), .val (.int c0), .val (.int c1), .val (.int c2), .val (.int c3), .val (.ref b174), .unset, .unset, .unset, .unset, .unset] [(.ref b353), (.ref b349), (.ref b349)]))
    have R_357 := Arh.push A_357 p357 S357 P357 H357 G357 (v := (.int (nar .char c0))) (fits_nar_char _) W358 (inb_of S357 (by decide))
    have N357 := Fr.snoc X358 N181 RN_g
    rw [own_nc y0] at R_357
    refine DnW.of (fun tt_ zz_ => XS.dup X358.here hx rfl (hb hby at_174) rfl rfl zz_) ?_
    refine DnW.of (fun tt_ zz_ => XS.iconst X358.here hx rfl (hb hby at_175) zz_) ?_
    refine DnW.of (fun tt_ zz_ => XS.iload X358.here hx rfl (hb hby at_176) rfl zz_) ?_
    show DnW p e below s (own_Q n0) 32 4288 (T358.setTop (mkF m 178 #[.val (.int i0), .val (.int i1), .val (.int i2), .val (.int i3), .val (.int i4), .val (.int (4 : Int32)), .val (.int c0), .val (.int c1), .val (.int c2), .val (.int c3), .val (.ref b174), .unset, .unset, .unset, .unset, .unset] [(.int c1), (.int (1 : Int32)), (.ref b353), (.ref b353), (.ref b349), (.ref b349)]))
    obtain ⟨c359, A_359, p359, S359, P359, H359, G359⟩ := R_357
    obtain ⟨T360, h360, X360, e360, W360, st360⟩ := stC X358 hx hZ e358 A_359 (j := (1 : Int32)) (inb_of S359 (by decide)) (g := (mkF m 178 #[.val (.int i0), .val (.int i1), .val (.int i2), .val (.int i3), .val (.int i4), .val (.int (4 : Int32)), .val (.int c0), .val (.int c1), .val (.int c2), .val (.int c3), .val (.ref b174), .unset, .unset, .unset, .unset, .unset] [(.int c1), (.int (1 : Int32)), (.ref b353), (.ref b353), (.ref b349), (.ref b349)])) rfl rfl (hb hby at_178)
    refine DnW.of st360 ?_
    show DnW p e below s (own_Q n0) 32 4288 (T360.setTop (mkF m 179 #[.val (.int i0), .val (.int i1), .val (.int i2), .val (.int i3), .val (.int i4), .val (.int (4 : Int32)), .val (.int c0), .val (.int c1), .val (.int c2), .val (.int c3), .val (.ref b174), .unset, .unset, .unset, .unset, .unset] [(.ref b353), (.ref b349), (.ref b349)]))
    have R_359 := Arh.push A_359 p359 S359 P359 H359 G359 (v := (.int (nar .char c1))) (fits_nar_char _) W360 (inb_of S359 (by decide))
    have N359 := Fr.snoc X360 N357 RN_g
    rw [own_nc y1] at R_359
    refine DnW.of (fun tt_ zz_ => XS.dup X360.here hx rfl (hb hby at_179) rfl rfl zz_) ?_
    refine DnW.of (fun tt_ zz_ => XS.iconst X360.here hx rfl (hb hby at_180) zz_) ?_
    refine DnW.of (fun tt_ zz_ => XS.iload X360.here hx rfl (hb hby at_181) rfl zz_) ?_
    show DnW p e below s (own_Q n0) 32 4288 (T360.setTop (mkF m 183 #[.val (.int i0), .val (.int i1), .val (.int i2), .val (.int i3), .val (.int i4), .val (.int (4 : Int32)), .val (.int c0), .val (.int c1), .val (.int c2), .val (.int c3), .val (.ref b174), .unset, .unset, .unset, .unset, .unset] [(.int c2), (.int (2 : Int32)), (.ref b353), (.ref b353), (.ref b349), (.ref b349)]))
    obtain ⟨c361, A_361, p361, S361, P361, H361, G361⟩ := R_359
    obtain ⟨T362, h362, X362, e362, W362, st362⟩ := stC X360 hx hZ e360 A_361 (j := (2 : Int32)) (inb_of S361 (by decide)) (g := (mkF m 183 #[.val (.int i0), .val (.int i1), .val (.int i2), .val (.int i3), .val (.int i4), .val (.int (4 : Int32)), .val (.int c0), .val (.int c1), .val (.int c2), .val (.int c3), .val (.ref b174), .unset, .unset, .unset, .unset, .unset] [(.int c2), (.int (2 : Int32)), (.ref b353), (.ref b353), (.ref b349), (.ref b349)])) rfl rfl (hb hby at_183)
    refine DnW.of st362 ?_
    show DnW p e below s (own_Q n0) 32 4288 (T362.setTop (mkF m 184 #[.val (.int i0), .val (.int i1), .val (.int i2), .val (.int i3), .val (.int i4), .val (.int (4 : Int32)), .val (.int c0), .val (.int c1), .val (.int c2), .val (.int c3), .val (.ref b174), .unset, .unset, .unset, .unset, .unset] [(.ref b353), (.ref b349), (.ref b349)]))
    have R_361 := Arh.push A_361 p361 S361 P361 H361 G361 (v := (.int (nar .char c2))) (fits_nar_char _) W362 (inb_of S361 (by decide))
    have N361 := Fr.snoc X362 N359 RN_g
    rw [own_nc y2] at R_361
    refine DnW.of (fun tt_ zz_ => XS.dup X362.here hx rfl (hb hby at_184) rfl rfl zz_) ?_
    refine DnW.of (fun tt_ zz_ => XS.iconst X362.here hx rfl (hb hby at_185) zz_) ?_
    refine DnW.of (fun tt_ zz_ => XS.iload X362.here hx rfl (hb hby at_186) rfl zz_) ?_
    show DnW p e below s (own_Q n0) 32 4288 (T362.setTop (mkF m 188 #[.val (.int i0), .val (.int i1), .val (.int i2), .val (.int i3), .val (.int i4), .val (.int (4 : Int32)), .val (.int c0), .val (.int c1), .val (.int c2), .val (.int c3), .val (.ref b174), .unset, .unset, .unset, .unset, .unset] [(.int c3), (.int (3 : Int32)), (.ref b353), (.ref b353), (.ref b349), (.ref b349)]))
    obtain ⟨c363, A_363, p363, S363, P363, H363, G363⟩ := R_361
    obtain ⟨T364, h364, X364, e364, W364, st364⟩ := stC X362 hx hZ e362 A_363 (j := (3 : Int32)) (inb_of S363 (by decide)) (g := (mkF m 188 #[.val (.int i0), .val (.int i1), .val (.int i2), .val (.int i3), .val (.int i4), .val (.int (4 : Int32)), .val (.int c0), .val (.int c1), .val (.int c2), .val (.int c3), .val (.ref b174), .unset, .unset, .unset, .unset, .unset] [(.int c3), (.int (3 : Int32)), (.ref b353), (.ref b353), (.ref b349), (.ref b349)])) rfl rfl (hb hby at_188)
    refine DnW.of st364 ?_
    show DnW p e below s (own_Q n0) 32 4288 (T364.setTop (mkF m 189 #[.val (.int i0), .val (.int i1), .val (.int i2), .val (.int i3), .val (.int i4), .val (.int (4 : Int32)), .val (.int c0), .val (.int c1), .val (.int c2), .val (.int c3), .val (.ref b174), .unset, .unset, .unset, .unset, .unset] [(.ref b353), (.ref b349), (.ref b349)]))
    have R_363 := Arh.push A_363 p363 S363 P363 H363 G363 (v := (.int (nar .char c3))) (fits_nar_char _) W364 (inb_of S363 (by decide))
    have N363 := Fr.snoc X364 N361 RN_g
    rw [own_nc y3] at R_363
    have F365 := ((((((F183.ext E349).ext E353).wr W358 RN_g).wr W360 RN_g).wr W362 RN_g).wr W364 RN_g)
    have F366 := (Nat.le_trans (Nat.le_trans (Nat.le_trans (Nat.le_trans (Nat.le_trans F351 E353.1) (Nat.le_of_eq W358.size.symm)) (Nat.le_of_eq W360.size.symm)) (Nat.le_of_eq W362.size.symm)) (Nat.le_of_eq W364.size.symm))
    have F367 := (((((A349.ext E353).wr W358).wr W360).wr W362).wr W364)
    have F368 := (((((F_value_349.ext E353).other W358 (Or.inl n356)).other W360 (Or.inl n356)).other W362 (Or.inl n356)).other W364 (Or.inl n356))
    have F369 := (((((F_coder_349.ext E353).other W358 (Or.inl n356)).other W360 (Or.inl n356)).other W362 (Or.inl n356)).other W364 (Or.inl n356))
    obtain ⟨v370, T370, L370, Q370, X370, st370⟩ := cIn X364 hx hZ (y := (⟨"java/lang/String", "<init>", "([C)V"⟩ : MethodName)) rfl hown (hg 8 rfl) (hg 9 rfl) (hg 7 rfl) (hg 10 rfl) (by decide) (a := b349) (argsL := [(.ref b353)]) (rest := [(.ref b349)]) (rmS1_4 l Z a0 hw h364 n0 F366 b349 b353 _ cz hcz SZ F365 c0 c1 c2 c3 y0 y1 y2 y3 F367 F368 F369 gsa R_363) e364  1 (by decide) (by decide) (by decide) (by decide) (g := (mkF m 189 #[.val (.int i0), .val (.int i1), .val (.int i2), .val (.int i3), .val (.int i4), .val (.int (4 : Int32)), .val (.int c0), .val (.int c1), .val (.int c2), .val (.int c3), .val (.ref b174), .unset, .unset, .unset, .unset, .unset] [(.ref b353), (.ref b349), (.ref b349)])) rfl (by rw [hml]; rfl) (lenOf pd27 rfl) rfl (by show 2 * 0 + _ ≤ _; exact Nat.le_of_eq rfl) (hb hby at_189)
    obtain ⟨sb, rfl, Ms, Ks, lsb, S1⟩ := Q370
    refine DnW.of st370 ?_
    show DnW p e below s (own_Q n0) 32 4288 (T370.setTop (mkF m 192 #[.val (.int i0), .val (.int i1), .val (.int i2), .val (.int i3), .val (.int i4), .val (.int (4 : Int32)), .val (.int c0), .val (.int c1), .val (.int c2), .val (.int c3), .val (.ref b174), .unset, .unset, .unset, .unset, .unset] [(.ref b349)]))
    refine DnW.of (fun tt_ zz_ => XS.astore X370.here hx rfl (hb hby at_192) rfl rfl (l' := #[.val (.int i0), .val (.int i1), .val (.int i2), .val (.int i3), .val (.int i4), .val (.int (4 : Int32)), .val (.int c0), .val (.int c1), .val (.int c2), .val (.int c3), .val (.ref b174), .val (.ref b349), .unset, .unset, .unset, .unset]) rfl zz_) ?_
    show DnW p e below s (own_Q n0) 32 4288 (T370.setTop (mkF m 194 #[.val (.int i0), .val (.int i1), .val (.int i2), .val (.int i3), .val (.int i4), .val (.int (4 : Int32)), .val (.int c0), .val (.int c1), .val (.int c2), .val (.int c3), .val (.ref b174), .val (.ref b349), .unset, .unset, .unset, .unset] []))
    have F371 := (Nat.le_trans F366 Ks.1)
    have F372 := (own_extK (own_extK (own_extK (own_extK (own_extK (own_ext2 F352 E353) (Keep.of_wr W358) RN_x) (Keep.of_wr W360) RN_x) (Keep.of_wr W362) RN_x) (Keep.of_wr W364) RN_x) Ks xsa)
    obtain ⟨T373, h373, X373, e373, E373, A373, D373, U373, st373⟩ := newO X370 hx hZ hown (hg 34 rfl) (hg 35 rfl) (hg 36 rfl) rfl (g := (mkF m 194 #[.val (.int i0), .val (.int i1), .val (.int i2), .val (.int i3), .val (.int i4), .val (.int (4 : Int32)), .val (.int c0), .val (.int c1), .val (.int c2), .val (.int c3), .val (.ref b174), .val (.ref b349), .unset, .unset, .unset, .unset] [])) rfl (hb hby at_194) (by decide) (by decide)
    obtain ⟨b373, g373⟩ : ∃ z, z = T370.heap.size := ⟨_, rfl⟩
    rw [← g373] at A373 D373 U373 st373
    refine DnW.of st373 ?_
    show DnW p e below s (own_Q n0) 32 4288 (T373.setTop (mkF m 197 #[.val (.int i0), .val (.int i1), .val (.int i2), .val (.int i3), .val (.int i4), .val (.int (4 : Int32)), .val (.int c0), .val (.int c1), .val (.int c2), .val (.int c3), .val (.ref b174), .val (.ref b349), .unset, .unset, .unset, .unset] [(.ref b373)]))
    have F_value_373 : Fld Z h373 b373 "com/example/vellum/vellum/types/DvUri" "value" "Ljava/lang/String;" .null := D373 (Or.inr (hg 83 rfl)) (ty := (.object "java/lang/String")) (by decide)
    have F374 := ((((((F354.ext E353).other W358 n355).other W360 n355).other W362 n355).other W364 n355).keep Ks (ninS n350 nin0))
    have n375 : b174 ≠ b373 := Nat.ne_of_lt (g373 ▸ F374.lt)
    have d1 : b349 ≠ b373 := Nat.ne_of_lt (g373 ▸ S1.lt.1)
    have d2 : sb ≠ b373 := Nat.ne_of_lt (g373 ▸ S1.lt.2)
    have S2 := S1.ext E373
    have gt : n0 ≤ b373 := g373 ▸ F371
    refine DnW.of (fun tt_ zz_ => XS.dup X373.here hx rfl (hb hby at_197) rfl rfl zz_) ?_
    refine DnW.of (fun tt_ zz_ => XS.aload X373.here hx rfl (hb hby at_198) rfl rfl zz_) ?_
    show DnW p e below s (own_Q n0) 32 4288 (T373.setTop (mkF m 200 #[.val (.int i0), .val (.int i1), .val (.int i2), .val (.int i3), .val (.int i4), .val (.int (4 : Int32)), .val (.int c0), .val (.int c1), .val (.int c2), .val (.int c3), .val (.ref b174), .val (.ref b349), .unset, .unset, .unset, .unset] [(.ref b349), (.ref b373), (.ref b373)]))
    have F376 := (Nat.le_trans F371 E373.1)
    have F377 := (Nat.le_trans (Nat.le_trans (Nat.le_trans (Nat.le_trans (Nat.le_trans (Nat.le_trans (Nat.le_trans (Nat.le_trans F185 E349.1) E353.1) (Nat.le_of_eq W358.size.symm)) (Nat.le_of_eq W360.size.symm)) (Nat.le_of_eq W362.size.symm)) (Nat.le_of_eq W364.size.symm)) Ks.1) E373.1)
    have F378 := (own_ext2 F372 E373)
    have hH2 := hH.ext F378
    obtain ⟨v379, T379, L379, Q379, X379, hS, hZ, hown, hC379, st379⟩ := cIH X373 hx hZ (y := (⟨"com/example/vellum/vellum/types/DvUri", "<init>", "(Ljava/lang/String;)V"⟩ : MethodName)) rfl hown (hg 37 rfl) (hg 38 rfl) (hg 36 rfl) (hg 39 rfl) (by decide) (own_EW hw) hH2 hS F377 (a := b373) (argsL := [(.ref b349)]) (rest := [(.ref b373)]) (rmDU l Z a0 hw h373 n0 F376 b373 b349 sb (4 : Int32) [own_B c0, own_B c1, own_B c2, own_B c3] S2 (by decide) A373 F_value_373 gt) e373  1 (by decide) (by decide) (by decide) (by decide) (g := (mkF m 200 #[.val (.int i0), .val (.int i1), .val (.int i2), .val (.int i3), .val (.int i4), .val (.int (4 : Int32)), .val (.int c0), .val (.int c1), .val (.int c2), .val (.int c3), .val (.ref b174), .val (.ref b349), .unset, .unset, .unset, .unset] [(.ref b349), (.ref b373), (.ref b373)])) rfl (by rw [hml]; rfl) (lenOf pd28 rfl) rfl (by show 2 * 0 + _ ≤ _; exact Nat.le_of_eq rfl) (hb hby at_200)
    obtain ⟨rfl, Md, Kd, FD⟩ := Q379
    refine DnW.of st379 ?_
    show DnW p e below s (own_Q n0) 32 4288 (T379.setTop (mkF m 203 #[.val (.int i0), .val (.int i1), .val (.int i2), .val (.int i3), .val (.int i4), .val (.int (4 : Int32)), .val (.int c0), .val (.int c1), .val (.int c2), .val (.int c3), .val (.ref b174), .val (.ref b349), .unset, .unset, .unset, .unset] [(.ref b373)]))
    have hk2 := Nat.le_refl (T379.heap.size)
    have S3 := S2.keep Kd (ninS d1 nin0) (ninS d2 nin0)
    have ET := A373.keep Kd
    refine DnW.of (fun tt_ zz_ => XS.astore X379.here hx rfl (hb hby at_203) rfl rfl (l' := #[.val (.int i0), .val (.int i1), .val (.int i2), .val (.int i3), .val (.int i4), .val (.int (4 : Int32)), .val (.int c0), .val (.int c1), .val (.int c2), .val (.int c3), .val (.ref b174), .val (.ref b349), .val (.ref b373), .unset, .unset, .unset]) rfl zz_) ?_
    refine DnW.of (fun tt_ zz_ => XS.aload X379.here hx rfl (hb hby at_205) rfl rfl zz_) ?_
    show DnW p e below s (own_Q n0) 32 4288 (T379.setTop (mkF m 207 #[.val (.int i0), .val (.int i1), .val (.int i2), .val (.int i3), .val (.int i4), .val (.int (4 : Int32)), .val (.int c0), .val (.int c1), .val (.int c2), .val (.int c3), .val (.ref b174), .val (.ref b349), .val (.ref b373), .unset, .unset, .unset] [(.ref b373)]))
    have F380 := (((F365.keep Ks (allS gsa all0)).ext E373).keep Kd (allS gt all0))
    have F381 := (Nat.le_trans F376 Kd.1)
    have F382 := ((F374.ext E373).keep Kd (ninS n375 nin0))
    have v0 := own_B35 y0
    have v1 := own_B35 y1
    have v2 := own_B35 y2
    have v3 := own_B35 y3
    by_cases h10 : c0 = 35
    · skip
      have b0_ : own_B c0 = 35 := by rw [h10]; decide
      have hi : own_ix [own_B c0, own_B c1, own_B c2, own_B c3] = (0 : Int32) := by simp [own_ix, b0_]
      have hcut : own_Cut [own_B c0, own_B c1, own_B c2, own_B c3] [own_B c1, own_B c2, own_B c3] (1 : Int32) (4 : Int32) (3 : Int32) := ⟨by decide, by decide, by decide, by decide, by decide, by decide, by decide, by decide, rfl⟩
      obtain ⟨v383, T383, L383, Q383, X383, hS, hZ, hown, hC383, st383⟩ := cVH X379 hx hZ (C := "com/example/vellum/vellum/types/DvUri") (y := (⟨"com/example/vellum/vellum/types/DvUri", "fragmentId", "()Ljava/lang/String;"⟩ : MethodName)) (z := (⟨"com/example/vellum/vellum/types/DvUri", "fragmentId", "()Ljava/lang/String;"⟩ : MethodName)) hown (hg 84 rfl) (hg 85 rfl) (notFace_of_selects (args := #[]) (mvT hZ (hg 87 rfl))) (hg 87 rfl) (hg 86 rfl) (hg 36 rfl) (hg 88 rfl) (by decide) (own_EW hw) hC379.1 hS hk2 (a := b373) (argsL := []) (rest := []) (rmFS l Z a0 hw T379.heap n0 F381 b349 sb (4 : Int32) [own_B c0, own_B c1, own_B c2, own_B c3] S3 (Or.inr (Or.inr (Or.inr ⟨rfl, _, _, _, _, rfl⟩))) cz hcz SZ F380 fv rf SF b373 FD (0 : Int32) hi (by decide) (1 : Int32) (3 : Int32) [own_B c1, own_B c2, own_B c3] hcut (by decide)) rfl ET 0 (by decide) (by decide) (by decide) (by decide) (g := (mkF m 207 #[.val (.int i0), .val (.int i1), .val (.int i2), .val (.int i3), .val (.int i4), .val (.int (4 : Int32)), .val (.int c0), .val (.int c1), .val (.int c2), .val (.int c3), .val (.ref b174), .val (.ref b349), .val (.ref b373), .unset, .unset, .unset] [(.ref b373)])) rfl (by rw [hml]; rfl) (lenOf pd29 rfl) rfl (by show 2 * 0 + _ ≤ _; exact Nat.le_of_eq rfl) (hb hby at_207)
      obtain ⟨ra, rb, rfl, Mf, Xf, Sr⟩ := Q383
      refine DnW.of st383 ?_
      show DnW p e below s (own_Q n0) 32 4288 (T383.setTop (mkF m 210 #[.val (.int i0), .val (.int i1), .val (.int i2), .val (.int i3), .val (.int i4), .val (.int (4 : Int32)), .val (.int c0), .val (.int c1), .val (.int c2), .val (.int c3), .val (.ref b174), .val (.ref b349), .val (.ref b373), .unset, .unset, .unset] [(.ref ra)]))
      have hk3 := Nat.le_refl (T383.heap.size)
      refine DnW.of (fun tt_ zz_ => XS.astore X383.here hx rfl (hb hby at_210) rfl rfl (l' := #[.val (.int i0), .val (.int i1), .val (.int i2), .val (.int i3), .val (.int i4), .val (.int (4 : Int32)), .val (.int c0), .val (.int c1), .val (.int c2), .val (.int c3), .val (.ref b174), .val (.ref b349), .val (.ref b373), .val (.ref ra), .unset, .unset]) rfl zz_) ?_
      refine DnW.of (fun tt_ zz_ => XS.aload X383.here hx rfl (hb hby at_212) rfl rfl zz_) ?_
      show DnW p e below s (own_Q n0) 32 4288 (T383.setTop (mkF m 214 #[.val (.int i0), .val (.int i1), .val (.int i2), .val (.int i3), .val (.int i4), .val (.int (4 : Int32)), .val (.int c0), .val (.int c1), .val (.int c2), .val (.int c3), .val (.ref b174), .val (.ref b349), .val (.ref b373), .val (.ref ra), .unset, .unset] [(.ref ra)]))
      refine DnW.of (fun tt_ zz_ => XS.ifnonnullYes X383.here hx rfl (pc0 := 214) (pc' := 219) rfl (hb hby at_214) rfl (by decide) (by decide) zz_) ?_
      show DnW p e below s (own_Q n0) 32 4288 (T383.setTop (mkF m 219 #[.val (.int i0), .val (.int i1), .val (.int i2), .val (.int i3), .val (.int i4), .val (.int (4 : Int32)), .val (.int c0), .val (.int c1), .val (.int c2), .val (.int c3), .val (.ref b174), .val (.ref b349), .val (.ref b373), .val (.ref ra), .unset, .unset] []))
      refine DnW.of (fun tt_ zz_ => XS.aload X383.here hx rfl (hb hby at_219) rfl rfl zz_) ?_
      refine DnW.of (fun tt_ zz_ => XS.iload X383.here hx rfl (hb hby at_221) rfl zz_) ?_
      show DnW p e below s (own_Q n0) 32 4288 (T383.setTop (mkF m 223 #[.val (.int i0), .val (.int i1), .val (.int i2), .val (.int i3), .val (.int i4), .val (.int (4 : Int32)), .val (.int c0), .val (.int c1), .val (.int c2), .val (.int c3), .val (.ref b174), .val (.ref b349), .val (.ref b373), .val (.ref ra), .unset, .unset] [(.int (4 : Int32)), (.ref b174)]))
      have F384 := (F380.ext Xf)
      have F385 := (Nat.le_trans F381 Xf.1)
      have F386 := (F382.ext Xf)
      obtain ⟨v387, T387, L387, Q387, X387, st387⟩ := cSt X383 hx hZ (y := (⟨"com/example/vellum/vellum/types/DvUriFragmentIdPinLaw", "firstHash", "([CI)I"⟩ : MethodName)) hown (hg 132 rfl) (hg 133 rfl) (hg 2 rfl) (hg 134 rfl) (by decide) (argsL := [(.ref b174), (.int (4 : Int32))]) (rest := []) (rmFH4 l Z a0 hw T383.heap n0 F385 b174 _ c0 c1 c2 c3 F386) rfl  0 (by decide) (by decide) (by decide) (by decide) (g := (mkF m 223 #[.val (.int i0), .val (.int i1), .val (.int i2), .val (.int i3), .val (.int i4), .val (.int (4 : Int32)), .val (.int c0), .val (.int c1), .val (.int c2), .val (.int c3), .val (.ref b174), .val (.ref b349), .val (.ref b373), .val (.ref ra), .unset, .unset] [(.int (4 : Int32)), (.ref b174)])) rfl (by rw [hml]; rfl) (lenOf pd30 rfl) rfl (by show 2 * 0 + _ ≤ _; exact Nat.le_of_eq rfl) (hb hby at_223)
      rw [show own_fh (4 : Int32) c0 c1 c2 c3 = (0 : Int32) by unfold own_fh; rw [if_pos h10]] at Q387
      obtain ⟨rfl, Mh, e387⟩ := Q387
      refine DnW.of st387 ?_
      show DnW p e below s (own_Q n0) 32 4288 (T387.setTop (mkF m 226 #[.val (.int i0), .val (.int i1), .val (.int i2), .val (.int i3), .val (.int i4), .val (.int (4 : Int32)), .val (.int c0), .val (.int c1), .val (.int c2), .val (.int c3), .val (.ref b174), .val (.ref b349), .val (.ref b373), .val (.ref ra), .unset, .unset] [(.int (0 : Int32))]))
      refine DnW.of (fun tt_ zz_ => XS.istore X387.here hx rfl (hb hby at_226) rfl (l' := #[.val (.int i0), .val (.int i1), .val (.int i2), .val (.int i3), .val (.int i4), .val (.int (4 : Int32)), .val (.int c0), .val (.int c1), .val (.int c2), .val (.int c3), .val (.ref b174), .val (.ref b349), .val (.ref b373), .val (.ref ra), .val (.int (0 : Int32)), .unset]) rfl zz_) ?_
      refine DnW.of (fun tt_ zz_ => XS.iload X387.here hx rfl (hb hby at_228) rfl zz_) ?_
      show DnW p e below s (own_Q n0) 32 4288 (T387.setTop (mkF m 230 #[.val (.int i0), .val (.int i1), .val (.int i2), .val (.int i3), .val (.int i4), .val (.int (4 : Int32)), .val (.int c0), .val (.int c1), .val (.int c2), .val (.int c3), .val (.ref b174), .val (.ref b349), .val (.ref b373), .val (.ref ra), .val (.int (0 : Int32)), .unset] [(.int (0 : Int32))]))
      refine DnW.of (fun tt_ zz_ => XS.ifYes X387.here hx rfl (pc0 := 230) (pc' := 247) rfl (hb hby at_230) rfl ((if0 _ _).trans (flt (by decide)).2.1) (by decide) (by decide) zz_) ?_
      show DnW p e below s (own_Q n0) 32 4288 (T387.setTop (mkF m 247 #[.val (.int i0), .val (.int i1), .val (.int i2), .val (.int i3), .val (.int i4), .val (.int (4 : Int32)), .val (.int c0), .val (.int c1), .val (.int c2), .val (.int c3), .val (.ref b174), .val (.ref b349), .val (.ref b373), .val (.ref ra), .val (.int (0 : Int32)), .unset] []))
      refine DnW.of (fun tt_ zz_ => XS.iload X387.here hx rfl (hb hby at_247) rfl zz_) ?_
      refine DnW.of (fun tt_ zz_ => XS.iload X387.here hx rfl (hb hby at_249) rfl zz_) ?_
      refine DnW.of (fun tt_ zz_ => XS.isub X387.here hx rfl (hb hby at_251) rfl zz_) ?_
      refine DnW.of (fun tt_ zz_ => XS.iconst X387.here hx rfl (hb hby at_252) zz_) ?_
      show DnW p e below s (own_Q n0) 32 4288 (T387.setTop (mkF m 253 #[.val (.int i0), .val (.int i1), .val (.int i2), .val (.int i3), .val (.int i4), .val (.int (4 : Int32)), .val (.int c0), .val (.int c1), .val (.int c2), .val (.int c3), .val (.ref b174), .val (.ref b349), .val (.ref b373), .val (.ref ra), .val (.int (0 : Int32)), .unset] [(.int (1 : Int32)), (.int ((4 : Int32) - (0 : Int32)))]))
      refine DnW.of (fun tt_ zz_ => XS.isub X387.here hx rfl (hb hby at_253) rfl zz_) ?_
      show DnW p e below s (own_Q n0) 32 4288 (T387.setTop (mkF m 254 #[.val (.int i0), .val (.int i1), .val (.int i2), .val (.int i3), .val (.int i4), .val (.int (4 : Int32)), .val (.int c0), .val (.int c1), .val (.int c2), .val (.int c3), .val (.ref b174), .val (.ref b349), .val (.ref b373), .val (.ref ra), .val (.int (0 : Int32)), .unset] [(.int (((4 : Int32) - (0 : Int32)) - (1 : Int32)))]))
      rw [show (((4 : Int32) - (0 : Int32)) - (1 : Int32)) = (3 : Int32) by decide]
      show DnW p e below s (own_Q n0) 32 4288 (T387.setTop (mkF m 254 #[.val (.int i0), .val (.int i1), .val (.int i2), .val (.int i3), .val (.int i4), .val (.int (4 : Int32)), .val (.int c0), .val (.int c1), .val (.int c2), .val (.int c3), .val (.ref b174), .val (.ref b349), .val (.ref b373), .val (.ref ra), .val (.int (0 : Int32)), .unset] [(.int (3 : Int32))]))
      refine DnW.of (fun tt_ zz_ => XS.istore X387.here hx rfl (hb hby at_254) rfl (l' := #[.val (.int i0), .val (.int i1), .val (.int i2), .val (.int i3), .val (.int i4), .val (.int (4 : Int32)), .val (.int c0), .val (.int c1), .val (.int c2), .val (.int c3), .val (.ref b174), .val (.ref b349), .val (.ref b373), .val (.ref ra), .val (.int (0 : Int32)), .val (.int (3 : Int32))]) rfl zz_) ?_
      refine DnW.of (fun tt_ zz_ => XS.aload X387.here hx rfl (hb hby at_256) rfl rfl zz_) ?_
      show DnW p e below s (own_Q n0) 32 4288 (T387.setTop (mkF m 258 #[.val (.int i0), .val (.int i1), .val (.int i2), .val (.int i3), .val (.int i4), .val (.int (4 : Int32)), .val (.int c0), .val (.int c1), .val (.int c2), .val (.int c3), .val (.ref b174), .val (.ref b349), .val (.ref b373), .val (.ref ra), .val (.int (0 : Int32)), .val (.int (3 : Int32))] [(.ref ra)]))
      obtain ⟨v388, T388, L388, Q388, X388, st388⟩ := cVi X387 hx hZ (C := "java/lang/String") (y := (⟨"java/lang/String", "length", "()I"⟩ : MethodName)) (z := (⟨"java/lang/String", "length", "()I"⟩ : MethodName)) hown (hg 135 rfl) (hg 105 rfl) (notFace_of_selects (args := #[]) (mvT hZ (hg 107 rfl))) (hg 107 rfl) (hg 106 rfl) (hg 7 rfl) (hg 108 rfl) (by decide) (a := ra) (argsL := []) (rest := []) (rmLn l Z a0 hw T383.heap n0 F385 ra rb (3 : Int32) [own_B c1, own_B c2, own_B c3] Sr cz hcz SZ F384) e387 (own_exa Sr) 0 (by decide) (by decide) (by decide) (by decide) (g := (mkF m 258 #[.val (.int i0), .val (.int i1), .val (.int i2), .val (.int i3), .val (.int i4), .val (.int (4 : Int32)), .val (.int c0), .val (.int c1), .val (.int c2), .val (.int c3), .val (.ref b174), .val (.ref b349), .val (.ref b373), .val (.ref ra), .val (.int (0 : Int32)), .val (.int (3 : Int32))] [(.ref ra)])) rfl (by rw [hml]; rfl) (lenOf pd9 rfl) rfl (by show 2 * 0 + _ ≤ _; exact Nat.le_of_eq rfl) (hb hby at_258)
      obtain ⟨rfl, Mq, e388⟩ := Q388
      refine DnW.of st388 ?_
      show DnW p e below s (own_Q n0) 32 4288 (T388.setTop (mkF m 261 #[.val (.int i0), .val (.int i1), .val (.int i2), .val (.int i3), .val (.int i4), .val (.int (4 : Int32)), .val (.int c0), .val (.int c1), .val (.int c2), .val (.int c3), .val (.ref b174), .val (.ref b349), .val (.ref b373), .val (.ref ra), .val (.int (0 : Int32)), .val (.int (3 : Int32))] [(.int (3 : Int32))]))
      refine DnW.of (fun tt_ zz_ => XS.iload X388.here hx rfl (hb hby at_261) rfl zz_) ?_
      show DnW p e below s (own_Q n0) 32 4288 (T388.setTop (mkF m 263 #[.val (.int i0), .val (.int i1), .val (.int i2), .val (.int i3), .val (.int i4), .val (.int (4 : Int32)), .val (.int c0), .val (.int c1), .val (.int c2), .val (.int c3), .val (.ref b174), .val (.ref b349), .val (.ref b373), .val (.ref ra), .val (.int (0 : Int32)), .val (.int (3 : Int32))] [(.int (3 : Int32)), (.int (3 : Int32))]))
      refine DnW.of (fun tt_ zz_ => XS.icmpYes X388.here hx rfl (pc0 := 263) (pc' := 268) rfl (hb hby at_263) rfl (teq rfl).1 (by decide) (by decide) zz_) ?_
      show DnW p e below s (own_Q n0) 32 4288 (T388.setTop (mkF m 268 #[.val (.int i0), .val (.int i1), .val (.int i2), .val (.int i3), .val (.int i4), .val (.int (4 : Int32)), .val (.int c0), .val (.int c1), .val (.int c2), .val (.int c3), .val (.ref b174), .val (.ref b349), .val (.ref b373), .val (.ref ra), .val (.int (0 : Int32)), .val (.int (3 : Int32))] []))
      refine DnW.of (fun tt_ zz_ => XS.aload X388.here hx rfl (hb hby at_268) rfl rfl zz_) ?_
      refine DnW.of (fun tt_ zz_ => XS.aload X388.here hx rfl (hb hby at_270) rfl rfl zz_) ?_
      refine DnW.of (fun tt_ zz_ => XS.iload X388.here hx rfl (hb hby at_272) rfl zz_) ?_
      refine DnW.of (fun tt_ zz_ => XS.iconst X388.here hx rfl (hb hby at_274) zz_) ?_
      show DnW p e below s (own_Q n0) 32 4288 (T388.setTop (mkF m 275 #[.val (.int i0), .val (.int i1), .val (.int i2), .val (.int i3), .val (.int i4), .val (.int (4 : Int32)), .val (.int c0), .val (.int c1), .val (.int c2), .val (.int c3), .val (.ref b174), .val (.ref b349), .val (.ref b373), .val (.ref ra), .val (.int (0 : Int32)), .val (.int (3 : Int32))] [(.int (0 : Int32)), (.int (0 : Int32)), (.ref b174), (.ref ra)]))
      obtain ⟨v389, T389, L389, Q389, X389, st389⟩ := cSt X388 hx hZ (y := (⟨"com/example/vellum/vellum/types/DvUriFragmentIdPinLaw", "same", "(Ljava/lang/String;[CII)Z"⟩ : MethodName)) hown (hg 176 rfl) (hg 177 rfl) (hg 2 rfl) (hg 178 rfl) (by decide) (argsL := [(.ref ra), (.ref b174), (.int (0 : Int32)), (.int (0 : Int32))]) (rest := []) (rmSb l Z a0 hw T383.heap n0 F385 ra rb (3 : Int32) [own_B c1, own_B c2, own_B c3] Sr cz hcz SZ F384 b174 (0 : Int32) (0 : Int32) fv rf SF _ _ c1 (by decide) y1 rfl F386 (by decide) rfl) e388  0 (by decide) (by decide) (by decide) (by decide) (g := (mkF m 275 #[.val (.int i0), .val (.int i1), .val (.int i2), .val (.int i3), .val (.int i4), .val (.int (4 : Int32)), .val (.int c0), .val (.int c1), .val (.int c2), .val (.int c3), .val (.ref b174), .val (.ref b349), .val (.ref b373), .val (.ref ra), .val (.int (0 : Int32)), .val (.int (3 : Int32))] [(.int (0 : Int32)), (.int (0 : Int32)), (.ref b174), (.ref ra)])) rfl (by rw [hml]; rfl) (lenOf pd31 rfl) rfl (by show 2 * 0 + _ ≤ _; exact Nat.le_of_eq rfl) (hb hby at_275)
      obtain ⟨rfl, Mk0, e389⟩ := Q389
      refine DnW.of st389 ?_
      show DnW p e below s (own_Q n0) 32 4288 (T389.setTop (mkF m 278 #[.val (.int i0), .val (.int i1), .val (.int i2), .val (.int i3), .val (.int i4), .val (.int (4 : Int32)), .val (.int c0), .val (.int c1), .val (.int c2), .val (.int c3), .val (.ref b174), .val (.ref b349), .val (.ref b373), .val (.ref ra), .val (.int (0 : Int32)), .val (.int (3 : Int32))] [(.int (1 : Int32))]))
      refine DnW.of (fun tt_ zz_ => XS.ifNo X389.here hx rfl (hb hby at_278) rfl ((if0 _ _).trans (feq (by decide)).1) zz_) ?_
      show DnW p e below s (own_Q n0) 32 4288 (T389.setTop (mkF m 281 #[.val (.int i0), .val (.int i1), .val (.int i2), .val (.int i3), .val (.int i4), .val (.int (4 : Int32)), .val (.int c0), .val (.int c1), .val (.int c2), .val (.int c3), .val (.ref b174), .val (.ref b349), .val (.ref b373), .val (.ref ra), .val (.int (0 : Int32)), .val (.int (3 : Int32))] []))
      refine DnW.of (fun tt_ zz_ => XS.aload X389.here hx rfl (hb hby at_281) rfl rfl zz_) ?_
      refine DnW.of (fun tt_ zz_ => XS.aload X389.here hx rfl (hb hby at_283) rfl rfl zz_) ?_
      refine DnW.of (fun tt_ zz_ => XS.iload X389.here hx rfl (hb hby at_285) rfl zz_) ?_
      refine DnW.of (fun tt_ zz_ => XS.iconst X389.here hx rfl (hb hby at_287) zz_) ?_
      show DnW p e below s (own_Q n0) 32 4288 (T389.setTop (mkF m 288 #[.val (.int i0), .val (.int i1), .val (.int i2), .val (.int i3), .val (.int i4), .val (.int (4 : Int32)), .val (.int c0), .val (.int c1), .val (.int c2), .val (.int c3), .val (.ref b174), .val (.ref b349), .val (.ref b373), .val (.ref ra), .val (.int (0 : Int32)), .val (.int (3 : Int32))] [(.int (1 : Int32)), (.int (0 : Int32)), (.ref b174), (.ref ra)]))
      obtain ⟨v390, T390, L390, Q390, X390, st390⟩ := cSt X389 hx hZ (y := (⟨"com/example/vellum/vellum/types/DvUriFragmentIdPinLaw", "same", "(Ljava/lang/String;[CII)Z"⟩ : MethodName)) hown (hg 176 rfl) (hg 177 rfl) (hg 2 rfl) (hg 178 rfl) (by decide) (argsL := [(.ref ra), (.ref b174), (.int (0 : Int32)), (.int (1 : Int32))]) (rest := []) (rmSb l Z a0 hw T383.heap n0 F385 ra rb (3 : Int32) [own_B c1, own_B c2, own_B c3] Sr cz hcz SZ F384 b174 (0 : Int32) (1 : Int32) fv rf SF _ _ c2 (by decide) y2 rfl F386 (by decide) rfl) e389  0 (by decide) (by decide) (by decide) (by decide) (g := (mkF m 288 #[.val (.int i0), .val (.int i1), .val (.int i2), .val (.int i3), .val (.int i4), .val (.int (4 : Int32)), .val (.int c0), .val (.int c1), .val (.int c2), .val (.int c3), .val (.ref b174), .val (.ref b349), .val (.ref b373), .val (.ref ra), .val (.int (0 : Int32)), .val (.int (3 : Int32))] [(.int (1 : Int32)), (.int (0 : Int32)), (.ref b174), (.ref ra)])) rfl (by rw [hml]; rfl) (lenOf pd31 rfl) rfl (by show 2 * 0 + _ ≤ _; exact Nat.le_of_eq rfl) (hb hby at_288)
      obtain ⟨rfl, Mk1, e390⟩ := Q390
      refine DnW.of st390 ?_
      show DnW p e below s (own_Q n0) 32 4288 (T390.setTop (mkF m 291 #[.val (.int i0), .val (.int i1), .val (.int i2), .val (.int i3), .val (.int i4), .val (.int (4 : Int32)), .val (.int c0), .val (.int c1), .val (.int c2), .val (.int c3), .val (.ref b174), .val (.ref b349), .val (.ref b373), .val (.ref ra), .val (.int (0 : Int32)), .val (.int (3 : Int32))] [(.int (1 : Int32))]))
      refine DnW.of (fun tt_ zz_ => XS.ifNo X390.here hx rfl (hb hby at_291) rfl ((if0 _ _).trans (feq (by decide)).1) zz_) ?_
      show DnW p e below s (own_Q n0) 32 4288 (T390.setTop (mkF m 294 #[.val (.int i0), .val (.int i1), .val (.int i2), .val (.int i3), .val (.int i4), .val (.int (4 : Int32)), .val (.int c0), .val (.int c1), .val (.int c2), .val (.int c3), .val (.ref b174), .val (.ref b349), .val (.ref b373), .val (.ref ra), .val (.int (0 : Int32)), .val (.int (3 : Int32))] []))
      refine DnW.of (fun tt_ zz_ => XS.aload X390.here hx rfl (hb hby at_294) rfl rfl zz_) ?_
      refine DnW.of (fun tt_ zz_ => XS.aload X390.here hx rfl (hb hby at_296) rfl rfl zz_) ?_
      refine DnW.of (fun tt_ zz_ => XS.iload X390.here hx rfl (hb hby at_298) rfl zz_) ?_
      refine DnW.of (fun tt_ zz_ => XS.iconst X390.here hx rfl (hb hby at_300) zz_) ?_
      show DnW p e below s (own_Q n0) 32 4288 (T390.setTop (mkF m 301 #[.val (.int i0), .val (.int i1), .val (.int i2), .val (.int i3), .val (.int i4), .val (.int (4 : Int32)), .val (.int c0), .val (.int c1), .val (.int c2), .val (.int c3), .val (.ref b174), .val (.ref b349), .val (.ref b373), .val (.ref ra), .val (.int (0 : Int32)), .val (.int (3 : Int32))] [(.int (2 : Int32)), (.int (0 : Int32)), (.ref b174), (.ref ra)]))
      obtain ⟨v391, T391, L391, Q391, X391, st391⟩ := cSt X390 hx hZ (y := (⟨"com/example/vellum/vellum/types/DvUriFragmentIdPinLaw", "same", "(Ljava/lang/String;[CII)Z"⟩ : MethodName)) hown (hg 176 rfl) (hg 177 rfl) (hg 2 rfl) (hg 178 rfl) (by decide) (argsL := [(.ref ra), (.ref b174), (.int (0 : Int32)), (.int (2 : Int32))]) (rest := []) (rmSb l Z a0 hw T383.heap n0 F385 ra rb (3 : Int32) [own_B c1, own_B c2, own_B c3] Sr cz hcz SZ F384 b174 (0 : Int32) (2 : Int32) fv rf SF _ _ c3 (by decide) y3 rfl F386 (by decide) rfl) e390  0 (by decide) (by decide) (by decide) (by decide) (g := (mkF m 301 #[.val (.int i0), .val (.int i1), .val (.int i2), .val (.int i3), .val (.int i4), .val (.int (4 : Int32)), .val (.int c0), .val (.int c1), .val (.int c2), .val (.int c3), .val (.ref b174), .val (.ref b349), .val (.ref b373), .val (.ref ra), .val (.int (0 : Int32)), .val (.int (3 : Int32))] [(.int (2 : Int32)), (.int (0 : Int32)), (.ref b174), (.ref ra)])) rfl (by rw [hml]; rfl) (lenOf pd31 rfl) rfl (by show 2 * 0 + _ ≤ _; exact Nat.le_of_eq rfl) (hb hby at_301)
      obtain ⟨rfl, Mk2, e391⟩ := Q391
      refine DnW.of st391 ?_
      show DnW p e below s (own_Q n0) 32 4288 (T391.setTop (mkF m 304 #[.val (.int i0), .val (.int i1), .val (.int i2), .val (.int i3), .val (.int i4), .val (.int (4 : Int32)), .val (.int c0), .val (.int c1), .val (.int c2), .val (.int c3), .val (.ref b174), .val (.ref b349), .val (.ref b373), .val (.ref ra), .val (.int (0 : Int32)), .val (.int (3 : Int32))] [(.int (1 : Int32))]))
      refine DnW.of (fun tt_ zz_ => XS.ifNo X391.here hx rfl (hb hby at_304) rfl ((if0 _ _).trans (feq (by decide)).1) zz_) ?_
      show DnW p e below s (own_Q n0) 32 4288 (T391.setTop (mkF m 307 #[.val (.int i0), .val (.int i1), .val (.int i2), .val (.int i3), .val (.int i4), .val (.int (4 : Int32)), .val (.int c0), .val (.int c1), .val (.int c2), .val (.int c3), .val (.ref b174), .val (.ref b349), .val (.ref b373), .val (.ref ra), .val (.int (0 : Int32)), .val (.int (3 : Int32))] []))
      refine DnW.of (fun tt_ zz_ => XS.iconst X391.here hx rfl (hb hby at_307) zz_) ?_
      refine DnW.of (fun tt_ zz_ => XS.goto X391.here hx rfl (pc0 := 308) (pc' := 312) rfl (hb hby at_308) (by decide) (by decide) zz_) ?_
      show DnW p e below s (own_Q n0) 32 4288 (T391.setTop (mkF m 312 #[.val (.int i0), .val (.int i1), .val (.int i2), .val (.int i3), .val (.int i4), .val (.int (4 : Int32)), .val (.int c0), .val (.int c1), .val (.int c2), .val (.int c3), .val (.ref b174), .val (.ref b349), .val (.ref b373), .val (.ref ra), .val (.int (0 : Int32)), .val (.int (3 : Int32))] [(.int (1 : Int32))]))
      exact DnW.retN hS (by rw [e391]; exact hk3) X391 hx hlk (t := .boolean) hret (by simp) (hb hby at_312) (by decide) (by decide) (⟨rfl, (Fr.app (Fr.app (Fr.app (Fr.app (Fr.app (Fr.app (Fr.app (Fr.app N363 Ms) Md) Mf) Mh) Mq) Mk0) Mk1) Mk2)⟩)
    · skip
      by_cases h11 : c1 = 35
      · skip
        have b0_ := v0 h10
        have b1_ : own_B c1 = 35 := by rw [h11]; decide
        have hi : own_ix [own_B c0, own_B c1, own_B c2, own_B c3] = (1 : Int32) := by simp [own_ix, b0_, b1_]
        have hcut : own_Cut [own_B c0, own_B c1, own_B c2, own_B c3] [own_B c2, own_B c3] (2 : Int32) (4 : Int32) (2 : Int32) := ⟨by decide, by decide, by decide, by decide, by decide, by decide, by decide, by decide, rfl⟩
        obtain ⟨v392, T392, L392, Q392, X392, hS, hZ, hown, hC392, st392⟩ := cVH X379 hx hZ (C := "com/example/vellum/vellum/types/DvUri") (y := (⟨"com/example/vellum/vellum/types/DvUri", "fragmentId", "()Ljava/lang/String;"⟩ : MethodName)) (z := (⟨"com/example/vellum/vellum/types/DvUri", "fragmentId", "()Ljava/lang/String;"⟩ : MethodName)) hown (hg 84 rfl) (hg 85 rfl) (notFace_of_selects (args := #[]) (mvT hZ (hg 87 rfl))) (hg 87 rfl) (hg 86 rfl) (hg 36 rfl) (hg 88 rfl) (by decide) (own_EW hw) hC379.1 hS hk2 (a := b373) (argsL := []) (rest := []) (rmFS l Z a0 hw T379.heap n0 F381 b349 sb (4 : Int32) [own_B c0, own_B c1, own_B c2, own_B c3] S3 (Or.inr (Or.inr (Or.inr ⟨rfl, _, _, _, _, rfl⟩))) cz hcz SZ F380 fv rf SF b373 FD (1 : Int32) hi (by decide) (2 : Int32) (2 : Int32) [own_B c2, own_B c3] hcut (by decide)) rfl ET 0 (by decide) (by decide) (by decide) (by decide) (g := (mkF m 207 #[.val (.int i0), .val (.int i1), .val (.int i2), .val (.int i3), .val (.int i4), .val (.int (4 : Int32)), .val (.int c0), .val (.int c1), .val (.int c2), .val (.int c3), .val (.ref b174), .val (.ref b349), .val (.ref b373), .unset, .unset, .unset] [(.ref b373)])) rfl (by rw [hml]; rfl) (lenOf pd29 rfl) rfl (by show 2 * 0 + _ ≤ _; exact Nat.le_of_eq rfl) (hb hby at_207)
        obtain ⟨ra, rb, rfl, Mf, Xf, Sr⟩ := Q392
        refine DnW.of st392 ?_
        show DnW p e below s (own_Q n0) 32 4288 (T392.setTop (mkF m 210 #[.val (.int i0), .val (.int i1), .val (.int i2), .val (.int i3), .val (.int i4), .val (.int (4 : Int32)), .val (.int c0), .val (.int c1), .val (.int c2), .val (.int c3), .val (.ref b174), .val (.ref b349), .val (.ref b373), .unset, .unset, .unset] [(.ref ra)]))
        have hk3 := Nat.le_refl (T392.heap.size)
        refine DnW.of (fun tt_ zz_ => XS.astore X392.here hx rfl (hb hby at_210) rfl rfl (l' := #[.val (.int i0), .val (.int i1), .val (.int i2), .val (.int i3), .val (.int i4), .val (.int (4 : Int32)), .val (.int c0), .val (.int c1), .val (.int c2), .val (.int c3), .val (.ref b174), .val (.ref b349), .val (.ref b373), .val (.ref ra), .unset, .unset]) rfl zz_) ?_
        refine DnW.of (fun tt_ zz_ => XS.aload X392.here hx rfl (hb hby at_212) rfl rfl zz_) ?_
        show DnW p e below s (own_Q n0) 32 4288 (T392.setTop (mkF m 214 #[.val (.int i0), .val (.int i1), .val (.int i2), .val (.int i3), .val (.int i4), .val (.int (4 : Int32)), .val (.int c0), .val (.int c1), .val (.int c2), .val (.int c3), .val (.ref b174), .val (.ref b349), .val (.ref b373), .val (.ref ra), .unset, .unset] [(.ref ra)]))
        refine DnW.of (fun tt_ zz_ => XS.ifnonnullYes X392.here hx rfl (pc0 := 214) (pc' := 219) rfl (hb hby at_214) rfl (by decide) (by decide) zz_) ?_
        show DnW p e below s (own_Q n0) 32 4288 (T392.setTop (mkF m 219 #[.val (.int i0), .val (.int i1), .val (.int i2), .val (.int i3), .val (.int i4), .val (.int (4 : Int32)), .val (.int c0), .val (.int c1), .val (.int c2), .val (.int c3), .val (.ref b174), .val (.ref b349), .val (.ref b373), .val (.ref ra), .unset, .unset] []))
        refine DnW.of (fun tt_ zz_ => XS.aload X392.here hx rfl (hb hby at_219) rfl rfl zz_) ?_
        refine DnW.of (fun tt_ zz_ => XS.iload X392.here hx rfl (hb hby at_221) rfl zz_) ?_
        show DnW p e below s (own_Q n0) 32 4288 (T392.setTop (mkF m 223 #[.val (.int i0), .val (.int i1), .val (.int i2), .val (.int i3), .val (.int i4), .val (.int (4 : Int32)), .val (.int c0), .val (.int c1), .val (.int c2), .val (.int c3), .val (.ref b174), .val (.ref b349), .val (.ref b373), .val (.ref ra), .unset, .unset] [(.int (4 : Int32)), (.ref b174)]))
        have F393 := (F380.ext Xf)
        have F394 := (Nat.le_trans F381 Xf.1)
        have F395 := (F382.ext Xf)
        obtain ⟨v396, T396, L396, Q396, X396, st396⟩ := cSt X392 hx hZ (y := (⟨"com/example/vellum/vellum/types/DvUriFragmentIdPinLaw", "firstHash", "([CI)I"⟩ : MethodName)) hown (hg 132 rfl) (hg 133 rfl) (hg 2 rfl) (hg 134 rfl) (by decide) (argsL := [(.ref b174), (.int (4 : Int32))]) (rest := []) (rmFH4 l Z a0 hw T392.heap n0 F394 b174 _ c0 c1 c2 c3 F395) rfl  0 (by decide) (by decide) (by decide) (by decide) (g := (mkF m 223 #[.val (.int i0), .val (.int i1), .val (.int i2), .val (.int i3), .val (.int i4), .val (.int (4 : Int32)), .val (.int c0), .val (.int c1), .val (.int c2), .val (.int c3), .val (.ref b174), .val (.ref b349), .val (.ref b373), .val (.ref ra), .unset, .unset] [(.int (4 : Int32)), (.ref b174)])) rfl (by rw [hml]; rfl) (lenOf pd30 rfl) rfl (by show 2 * 0 + _ ≤ _; exact Nat.le_of_eq rfl) (hb hby at_223)
        rw [show own_fh (4 : Int32) c0 c1 c2 c3 = (1 : Int32) by unfold own_fh; rw [if_neg h10, if_pos ⟨by decide, h11⟩]] at Q396
        obtain ⟨rfl, Mh, e396⟩ := Q396
        refine DnW.of st396 ?_
        show DnW p e below s (own_Q n0) 32 4288 (T396.setTop (mkF m 226 #[.val (.int i0), .val (.int i1), .val (.int i2), .val (.int i3), .val (.int i4), .val (.int (4 : Int32)), .val (.int c0), .val (.int c1), .val (.int c2), .val (.int c3), .val (.ref b174), .val (.ref b349), .val (.ref b373), .val (.ref ra), .unset, .unset] [(.int (1 : Int32))]))
        refine DnW.of (fun tt_ zz_ => XS.istore X396.here hx rfl (hb hby at_226) rfl (l' := #[.val (.int i0), .val (.int i1), .val (.int i2), .val (.int i3), .val (.int i4), .val (.int (4 : Int32)), .val (.int c0), .val (.int c1), .val (.int c2), .val (.int c3), .val (.ref b174), .val (.ref b349), .val (.ref b373), .val (.ref ra), .val (.int (1 : Int32)), .unset]) rfl zz_) ?_
        refine DnW.of (fun tt_ zz_ => XS.iload X396.here hx rfl (hb hby at_228) rfl zz_) ?_
        show DnW p e below s (own_Q n0) 32 4288 (T396.setTop (mkF m 230 #[.val (.int i0), .val (.int i1), .val (.int i2), .val (.int i3), .val (.int i4), .val (.int (4 : Int32)), .val (.int c0), .val (.int c1), .val (.int c2), .val (.int c3), .val (.ref b174), .val (.ref b349), .val (.ref b373), .val (.ref ra), .val (.int (1 : Int32)), .unset] [(.int (1 : Int32))]))
        refine DnW.of (fun tt_ zz_ => XS.ifYes X396.here hx rfl (pc0 := 230) (pc' := 247) rfl (hb hby at_230) rfl ((if0 _ _).trans (flt (by decide)).2.1) (by decide) (by decide) zz_) ?_
        show DnW p e below s (own_Q n0) 32 4288 (T396.setTop (mkF m 247 #[.val (.int i0), .val (.int i1), .val (.int i2), .val (.int i3), .val (.int i4), .val (.int (4 : Int32)), .val (.int c0), .val (.int c1), .val (.int c2), .val (.int c3), .val (.ref b174), .val (.ref b349), .val (.ref b373), .val (.ref ra), .val (.int (1 : Int32)), .unset] []))
        refine DnW.of (fun tt_ zz_ => XS.iload X396.here hx rfl (hb hby at_247) rfl zz_) ?_
        refine DnW.of (fun tt_ zz_ => XS.iload X396.here hx rfl (hb hby at_249) rfl zz_) ?_
        refine DnW.of (fun tt_ zz_ => XS.isub X396.here hx rfl (hb hby at_251) rfl zz_) ?_
        refine DnW.of (fun tt_ zz_ => XS.iconst X396.here hx rfl (hb hby at_252) zz_) ?_
        show DnW p e below s (own_Q n0) 32 4288 (T396.setTop (mkF m 253 #[.val (.int i0), .val (.int i1), .val (.int i2), .val (.int i3), .val (.int i4), .val (.int (4 : Int32)), .val (.int c0), .val (.int c1), .val (.int c2), .val (.int c3), .val (.ref b174), .val (.ref b349), .val (.ref b373), .val (.ref ra), .val (.int (1 : Int32)), .unset] [(.int (1 : Int32)), (.int ((4 : Int32) - (1 : Int32)))]))
        refine DnW.of (fun tt_ zz_ => XS.isub X396.here hx rfl (hb hby at_253) rfl zz_) ?_
        show DnW p e below s (own_Q n0) 32 4288 (T396.setTop (mkF m 254 #[.val (.int i0), .val (.int i1), .val (.int i2), .val (.int i3), .val (.int i4), .val (.int (4 : Int32)), .val (.int c0), .val (.int c1), .val (.int c2), .val (.int c3), .val (.ref b174), .val (.ref b349), .val (.ref b373), .val (.ref ra), .val (.int (1 : Int32)), .unset] [(.int (((4 : Int32) - (1 : Int32)) - (1 : Int32)))]))
        rw [show (((4 : Int32) - (1 : Int32)) - (1 : Int32)) = (2 : Int32) by decide]
        show DnW p e below s (own_Q n0) 32 4288 (T396.setTop (mkF m 254 #[.val (.int i0), .val (.int i1), .val (.int i2), .val (.int i3), .val (.int i4), .val (.int (4 : Int32)), .val (.int c0), .val (.int c1), .val (.int c2), .val (.int c3), .val (.ref b174), .val (.ref b349), .val (.ref b373), .val (.ref ra), .val (.int (1 : Int32)), .unset] [(.int (2 : Int32))]))
        refine DnW.of (fun tt_ zz_ => XS.istore X396.here hx rfl (hb hby at_254) rfl (l' := #[.val (.int i0), .val (.int i1), .val (.int i2), .val (.int i3), .val (.int i4), .val (.int (4 : Int32)), .val (.int c0), .val (.int c1), .val (.int c2), .val (.int c3), .val (.ref b174), .val (.ref b349), .val (.ref b373), .val (.ref ra), .val (.int (1 : Int32)), .val (.int (2 : Int32))]) rfl zz_) ?_
        refine DnW.of (fun tt_ zz_ => XS.aload X396.here hx rfl (hb hby at_256) rfl rfl zz_) ?_
        show DnW p e below s (own_Q n0) 32 4288 (T396.setTop (mkF m 258 #[.val (.int i0), .val (.int i1), .val (.int i2), .val (.int i3), .val (.int i4), .val (.int (4 : Int32)), .val (.int c0), .val (.int c1), .val (.int c2), .val (.int c3), .val (.ref b174), .val (.ref b349), .val (.ref b373), .val (.ref ra), .val (.int (1 : Int32)), .val (.int (2 : Int32))] [(.ref ra)]))
        obtain ⟨v397, T397, L397, Q397, X397, st397⟩ := cVi X396 hx hZ (C := "java/lang/String") (y := (⟨"java/lang/String", "length", "()I"⟩ : MethodName)) (z := (⟨"java/lang/String", "length", "()I"⟩ : MethodName)) hown (hg 135 rfl) (hg 105 rfl) (notFace_of_selects (args := #[]) (mvT hZ (hg 107 rfl))) (hg 107 rfl) (hg 106 rfl) (hg 7 rfl) (hg 108 rfl) (by decide) (a := ra) (argsL := []) (rest := []) (rmLn l Z a0 hw T392.heap n0 F394 ra rb (2 : Int32) [own_B c2, own_B c3] Sr cz hcz SZ F393) e396 (own_exa Sr) 0 (by decide) (by decide) (by decide) (by decide) (g := (mkF m 258 #[.val (.int i0), .val (.int i1), .val (.int i2), .val (.int i3), .val (.int i4), .val (.int (4 : Int32)), .val (.int c0), .val (.int c1), .val (.int c2), .val (.int c3), .val (.ref b174), .val (.ref b349), .val (.ref b373), .val (.ref ra), .val (.int (1 : Int32)), .val (.int (2 : Int32))] [(.ref ra)])) rfl (by rw [hml]; rfl) (lenOf pd9 rfl) rfl (by show 2 * 0 + _ ≤ _; exact Nat.le_of_eq rfl) (hb hby at_258)
        obtain ⟨rfl, Mq, e397⟩ := Q397
        refine DnW.of st397 ?_
        show DnW p e below s (own_Q n0) 32 4288 (T397.setTop (mkF m 261 #[.val (.int i0), .val (.int i1), .val (.int i2), .val (.int i3), .val (.int i4), .val (.int (4 : Int32)), .val (.int c0), .val (.int c1), .val (.int c2), .val (.int c3), .val (.ref b174), .val (.ref b349), .val (.ref b373), .val (.ref ra), .val (.int (1 : Int32)), .val (.int (2 : Int32))] [(.int (2 : Int32))]))
        refine DnW.of (fun tt_ zz_ => XS.iload X397.here hx rfl (hb hby at_261) rfl zz_) ?_
        show DnW p e below s (own_Q n0) 32 4288 (T397.setTop (mkF m 263 #[.val (.int i0), .val (.int i1), .val (.int i2), .val (.int i3), .val (.int i4), .val (.int (4 : Int32)), .val (.int c0), .val (.int c1), .val (.int c2), .val (.int c3), .val (.ref b174), .val (.ref b349), .val (.ref b373), .val (.ref ra), .val (.int (1 : Int32)), .val (.int (2 : Int32))] [(.int (2 : Int32)), (.int (2 : Int32))]))
        refine DnW.of (fun tt_ zz_ => XS.icmpYes X397.here hx rfl (pc0 := 263) (pc' := 268) rfl (hb hby at_263) rfl (teq rfl).1 (by decide) (by decide) zz_) ?_
        show DnW p e below s (own_Q n0) 32 4288 (T397.setTop (mkF m 268 #[.val (.int i0), .val (.int i1), .val (.int i2), .val (.int i3), .val (.int i4), .val (.int (4 : Int32)), .val (.int c0), .val (.int c1), .val (.int c2), .val (.int c3), .val (.ref b174), .val (.ref b349), .val (.ref b373), .val (.ref ra), .val (.int (1 : Int32)), .val (.int (2 : Int32))] []))
        refine DnW.of (fun tt_ zz_ => XS.aload X397.here hx rfl (hb hby at_268) rfl rfl zz_) ?_
        refine DnW.of (fun tt_ zz_ => XS.aload X397.here hx rfl (hb hby at_270) rfl rfl zz_) ?_
        refine DnW.of (fun tt_ zz_ => XS.iload X397.here hx rfl (hb hby at_272) rfl zz_) ?_
        refine DnW.of (fun tt_ zz_ => XS.iconst X397.here hx rfl (hb hby at_274) zz_) ?_
        show DnW p e below s (own_Q n0) 32 4288 (T397.setTop (mkF m 275 #[.val (.int i0), .val (.int i1), .val (.int i2), .val (.int i3), .val (.int i4), .val (.int (4 : Int32)), .val (.int c0), .val (.int c1), .val (.int c2), .val (.int c3), .val (.ref b174), .val (.ref b349), .val (.ref b373), .val (.ref ra), .val (.int (1 : Int32)), .val (.int (2 : Int32))] [(.int (0 : Int32)), (.int (1 : Int32)), (.ref b174), (.ref ra)]))
        obtain ⟨v398, T398, L398, Q398, X398, st398⟩ := cSt X397 hx hZ (y := (⟨"com/example/vellum/vellum/types/DvUriFragmentIdPinLaw", "same", "(Ljava/lang/String;[CII)Z"⟩ : MethodName)) hown (hg 176 rfl) (hg 177 rfl) (hg 2 rfl) (hg 178 rfl) (by decide) (argsL := [(.ref ra), (.ref b174), (.int (1 : Int32)), (.int (0 : Int32))]) (rest := []) (rmSb l Z a0 hw T392.heap n0 F394 ra rb (2 : Int32) [own_B c2, own_B c3] Sr cz hcz SZ F393 b174 (1 : Int32) (0 : Int32) fv rf SF _ _ c2 (by decide) y2 rfl F395 (by decide) rfl) e397  0 (by decide) (by decide) (by decide) (by decide) (g := (mkF m 275 #[.val (.int i0), .val (.int i1), .val (.int i2), .val (.int i3), .val (.int i4), .val (.int (4 : Int32)), .val (.int c0), .val (.int c1), .val (.int c2), .val (.int c3), .val (.ref b174), .val (.ref b349), .val (.ref b373), .val (.ref ra), .val (.int (1 : Int32)), .val (.int (2 : Int32))] [(.int (0 : Int32)), (.int (1 : Int32)), (.ref b174), (.ref ra)])) rfl (by rw [hml]; rfl) (lenOf pd31 rfl) rfl (by show 2 * 0 + _ ≤ _; exact Nat.le_of_eq rfl) (hb hby at_275)
        obtain ⟨rfl, Mk0, e398⟩ := Q398
        refine DnW.of st398 ?_
        show DnW p e below s (own_Q n0) 32 4288 (T398.setTop (mkF m 278 #[.val (.int i0), .val (.int i1), .val (.int i2), .val (.int i3), .val (.int i4), .val (.int (4 : Int32)), .val (.int c0), .val (.int c1), .val (.int c2), .val (.int c3), .val (.ref b174), .val (.ref b349), .val (.ref b373), .val (.ref ra), .val (.int (1 : Int32)), .val (.int (2 : Int32))] [(.int (1 : Int32))]))
        refine DnW.of (fun tt_ zz_ => XS.ifNo X398.here hx rfl (hb hby at_278) rfl ((if0 _ _).trans (feq (by decide)).1) zz_) ?_
        show DnW p e below s (own_Q n0) 32 4288 (T398.setTop (mkF m 281 #[.val (.int i0), .val (.int i1), .val (.int i2), .val (.int i3), .val (.int i4), .val (.int (4 : Int32)), .val (.int c0), .val (.int c1), .val (.int c2), .val (.int c3), .val (.ref b174), .val (.ref b349), .val (.ref b373), .val (.ref ra), .val (.int (1 : Int32)), .val (.int (2 : Int32))] []))
        refine DnW.of (fun tt_ zz_ => XS.aload X398.here hx rfl (hb hby at_281) rfl rfl zz_) ?_
        refine DnW.of (fun tt_ zz_ => XS.aload X398.here hx rfl (hb hby at_283) rfl rfl zz_) ?_
        refine DnW.of (fun tt_ zz_ => XS.iload X398.here hx rfl (hb hby at_285) rfl zz_) ?_
        refine DnW.of (fun tt_ zz_ => XS.iconst X398.here hx rfl (hb hby at_287) zz_) ?_
        show DnW p e below s (own_Q n0) 32 4288 (T398.setTop (mkF m 288 #[.val (.int i0), .val (.int i1), .val (.int i2), .val (.int i3), .val (.int i4), .val (.int (4 : Int32)), .val (.int c0), .val (.int c1), .val (.int c2), .val (.int c3), .val (.ref b174), .val (.ref b349), .val (.ref b373), .val (.ref ra), .val (.int (1 : Int32)), .val (.int (2 : Int32))] [(.int (1 : Int32)), (.int (1 : Int32)), (.ref b174), (.ref ra)]))
        obtain ⟨v399, T399, L399, Q399, X399, st399⟩ := cSt X398 hx hZ (y := (⟨"com/example/vellum/vellum/types/DvUriFragmentIdPinLaw", "same", "(Ljava/lang/String;[CII)Z"⟩ : MethodName)) hown (hg 176 rfl) (hg 177 rfl) (hg 2 rfl) (hg 178 rfl) (by decide) (argsL := [(.ref ra), (.ref b174), (.int (1 : Int32)), (.int (1 : Int32))]) (rest := []) (rmSb l Z a0 hw T392.heap n0 F394 ra rb (2 : Int32) [own_B c2, own_B c3] Sr cz hcz SZ F393 b174 (1 : Int32) (1 : Int32) fv rf SF _ _ c3 (by decide) y3 rfl F395 (by decide) rfl) e398  0 (by decide) (by decide) (by decide) (by decide) (g := (mkF m 288 #[.val (.int i0), .val (.int i1), .val (.int i2), .val (.int i3), .val (.int i4), .val (.int (4 : Int32)), .val (.int c0), .val (.int c1), .val (.int c2), .val (.int c3), .val (.ref b174), .val (.ref b349), .val (.ref b373), .val (.ref ra), .val (.int (1 : Int32)), .val (.int (2 : Int32))] [(.int (1 : Int32)), (.int (1 : Int32)), (.ref b174), (.ref ra)])) rfl (by rw [hml]; rfl) (lenOf pd31 rfl) rfl (by show 2 * 0 + _ ≤ _; exact Nat.le_of_eq rfl) (hb hby at_288)
        obtain ⟨rfl, Mk1, e399⟩ := Q399
        refine DnW.of st399 ?_
        show DnW p e below s (own_Q n0) 32 4288 (T399.setTop (mkF m 291 #[.val (.int i0), .val (.int i1), .val (.int i2), .val (.int i3), .val (.int i4), .val (.int (4 : Int32)), .val (.int c0), .val (.int c1), .val (.int c2), .val (.int c3), .val (.ref b174), .val (.ref b349), .val (.ref b373), .val (.ref ra), .val (.int (1 : Int32)), .val (.int (2 : Int32))] [(.int (1 : Int32))]))
        refine DnW.of (fun tt_ zz_ => XS.ifNo X399.here hx rfl (hb hby at_291) rfl ((if0 _ _).trans (feq (by decide)).1) zz_) ?_
        show DnW p e below s (own_Q n0) 32 4288 (T399.setTop (mkF m 294 #[.val (.int i0), .val (.int i1), .val (.int i2), .val (.int i3), .val (.int i4), .val (.int (4 : Int32)), .val (.int c0), .val (.int c1), .val (.int c2), .val (.int c3), .val (.ref b174), .val (.ref b349), .val (.ref b373), .val (.ref ra), .val (.int (1 : Int32)), .val (.int (2 : Int32))] []))
        refine DnW.of (fun tt_ zz_ => XS.aload X399.here hx rfl (hb hby at_294) rfl rfl zz_) ?_
        refine DnW.of (fun tt_ zz_ => XS.aload X399.here hx rfl (hb hby at_296) rfl rfl zz_) ?_
        refine DnW.of (fun tt_ zz_ => XS.iload X399.here hx rfl (hb hby at_298) rfl zz_) ?_
        refine DnW.of (fun tt_ zz_ => XS.iconst X399.here hx rfl (hb hby at_300) zz_) ?_
        show DnW p e below s (own_Q n0) 32 4288 (T399.setTop (mkF m 301 #[.val (.int i0), .val (.int i1), .val (.int i2), .val (.int i3), .val (.int i4), .val (.int (4 : Int32)), .val (.int c0), .val (.int c1), .val (.int c2), .val (.int c3), .val (.ref b174), .val (.ref b349), .val (.ref b373), .val (.ref ra), .val (.int (1 : Int32)), .val (.int (2 : Int32))] [(.int (2 : Int32)), (.int (1 : Int32)), (.ref b174), (.ref ra)]))
        obtain ⟨v400, T400, L400, Q400, X400, st400⟩ := cSt X399 hx hZ (y := (⟨"com/example/vellum/vellum/types/DvUriFragmentIdPinLaw", "same", "(Ljava/lang/String;[CII)Z"⟩ : MethodName)) hown (hg 176 rfl) (hg 177 rfl) (hg 2 rfl) (hg 178 rfl) (by decide) (argsL := [(.ref ra), (.ref b174), (.int (1 : Int32)), (.int (2 : Int32))]) (rest := []) (rmSa l Z a0 hw T392.heap n0 F394 ra rb (2 : Int32) [own_B c2, own_B c3] Sr cz hcz SZ F393 b174 (1 : Int32) (2 : Int32) (by decide)) e399  0 (by decide) (by decide) (by decide) (by decide) (g := (mkF m 301 #[.val (.int i0), .val (.int i1), .val (.int i2), .val (.int i3), .val (.int i4), .val (.int (4 : Int32)), .val (.int c0), .val (.int c1), .val (.int c2), .val (.int c3), .val (.ref b174), .val (.ref b349), .val (.ref b373), .val (.ref ra), .val (.int (1 : Int32)), .val (.int (2 : Int32))] [(.int (2 : Int32)), (.int (1 : Int32)), (.ref b174), (.ref ra)])) rfl (by rw [hml]; rfl) (lenOf pd31 rfl) rfl (by show 2 * 0 + _ ≤ _; exact Nat.le_of_eq rfl) (hb hby at_301)
        obtain ⟨rfl, Mk2, e400⟩ := Q400
        refine DnW.of st400 ?_
        show DnW p e below s (own_Q n0) 32 4288 (T400.setTop (mkF m 304 #[.val (.int i0), .val (.int i1), .val (.int i2), .val (.int i3), .val (.int i4), .val (.int (4 : Int32)), .val (.int c0), .val (.int c1), .val (.int c2), .val (.int c3), .val (.ref b174), .val (.ref b349), .val (.ref b373), .val (.ref ra), .val (.int (1 : Int32)), .val (.int (2 : Int32))] [(.int (1 : Int32))]))
        refine DnW.of (fun tt_ zz_ => XS.ifNo X400.here hx rfl (hb hby at_304) rfl ((if0 _ _).trans (feq (by decide)).1) zz_) ?_
        show DnW p e below s (own_Q n0) 32 4288 (T400.setTop (mkF m 307 #[.val (.int i0), .val (.int i1), .val (.int i2), .val (.int i3), .val (.int i4), .val (.int (4 : Int32)), .val (.int c0), .val (.int c1), .val (.int c2), .val (.int c3), .val (.ref b174), .val (.ref b349), .val (.ref b373), .val (.ref ra), .val (.int (1 : Int32)), .val (.int (2 : Int32))] []))
        refine DnW.of (fun tt_ zz_ => XS.iconst X400.here hx rfl (hb hby at_307) zz_) ?_
        refine DnW.of (fun tt_ zz_ => XS.goto X400.here hx rfl (pc0 := 308) (pc' := 312) rfl (hb hby at_308) (by decide) (by decide) zz_) ?_
        show DnW p e below s (own_Q n0) 32 4288 (T400.setTop (mkF m 312 #[.val (.int i0), .val (.int i1), .val (.int i2), .val (.int i3), .val (.int i4), .val (.int (4 : Int32)), .val (.int c0), .val (.int c1), .val (.int c2), .val (.int c3), .val (.ref b174), .val (.ref b349), .val (.ref b373), .val (.ref ra), .val (.int (1 : Int32)), .val (.int (2 : Int32))] [(.int (1 : Int32))]))
        exact DnW.retN hS (by rw [e400]; exact hk3) X400 hx hlk (t := .boolean) hret (by simp) (hb hby at_312) (by decide) (by decide) (⟨rfl, (Fr.app (Fr.app (Fr.app (Fr.app (Fr.app (Fr.app (Fr.app (Fr.app N363 Ms) Md) Mf) Mh) Mq) Mk0) Mk1) Mk2)⟩)
      · skip
        by_cases h12 : c2 = 35
        · skip
          have b0_ := v0 h10
          have b1_ := v1 h11
          have b2_ : own_B c2 = 35 := by rw [h12]; decide
          have hi : own_ix [own_B c0, own_B c1, own_B c2, own_B c3] = (2 : Int32) := by simp [own_ix, b0_, b1_, b2_]
          have hcut : own_Cut [own_B c0, own_B c1, own_B c2, own_B c3] [own_B c3] (3 : Int32) (4 : Int32) (1 : Int32) := ⟨by decide, by decide, by decide, by decide, by decide, by decide, by decide, by decide, rfl⟩
          obtain ⟨v401, T401, L401, Q401, X401, hS, hZ, hown, hC401, st401⟩ := cVH X379 hx hZ (C := "com/example/vellum/vellum/types/DvUri") (y := (⟨"com/example/vellum/vellum/types/DvUri", "fragmentId", "()Ljava/lang/String;"⟩ : MethodName)) (z := (⟨"com/example/vellum/vellum/types/DvUri", "fragmentId", "()Ljava/lang/String;"⟩ : MethodName)) hown (hg 84 rfl) (hg 85 rfl) (notFace_of_selects (args := #[]) (mvT hZ (hg 87 rfl))) (hg 87 rfl) (hg 86 rfl) (hg 36 rfl) (hg 88 rfl) (by decide) (own_EW hw) hC379.1 hS hk2 (a := b373) (argsL := []) (rest := []) (rmFS l Z a0 hw T379.heap n0 F381 b349 sb (4 : Int32) [own_B c0, own_B c1, own_B c2, own_B c3] S3 (Or.inr (Or.inr (Or.inr ⟨rfl, _, _, _, _, rfl⟩))) cz hcz SZ F380 fv rf SF b373 FD (2 : Int32) hi (by decide) (3 : Int32) (1 : Int32) [own_B c3] hcut (by decide)) rfl ET 0 (by decide) (by decide) (by decide) (by decide) (g := (mkF m 207 #[.val (.int i0), .val (.int i1), .val (.int i2), .val (.int i3), .val (.int i4), .val (.int (4 : Int32)), .val (.int c0), .val (.int c1), .val (.int c2), .val (.int c3), .val (.ref b174), .val (.ref b349), .val (.ref b373), .unset, .unset, .unset] [(.ref b373)])) rfl (by rw [hml]; rfl) (lenOf pd29 rfl) rfl (by show 2 * 0 + _ ≤ _; exact Nat.le_of_eq rfl) (hb hby at_207)
          obtain ⟨ra, rb, rfl, Mf, Xf, Sr⟩ := Q401
          refine DnW.of st401 ?_
          show DnW p e below s (own_Q n0) 32 4288 (T401.setTop (mkF m 210 #[.val (.int i0), .val (.int i1), .val (.int i2), .val (.int i3), .val (.int i4), .val (.int (4 : Int32)), .val (.int c0), .val (.int c1), .val (.int c2), .val (.int c3), .val (.ref b174), .val (.ref b349), .val (.ref b373), .unset, .unset, .unset] [(.ref ra)]))
          have hk3 := Nat.le_refl (T401.heap.size)
          refine DnW.of (fun tt_ zz_ => XS.astore X401.here hx rfl (hb hby at_210) rfl rfl (l' := #[.val (.int i0), .val (.int i1), .val (.int i2), .val (.int i3), .val (.int i4), .val (.int (4 : Int32)), .val (.int c0), .val (.int c1), .val (.int c2), .val (.int c3), .val (.ref b174), .val (.ref b349), .val (.ref b373), .val (.ref ra), .unset, .unset]) rfl zz_) ?_
          refine DnW.of (fun tt_ zz_ => XS.aload X401.here hx rfl (hb hby at_212) rfl rfl zz_) ?_
          show DnW p e below s (own_Q n0) 32 4288 (T401.setTop (mkF m 214 #[.val (.int i0), .val (.int i1), .val (.int i2), .val (.int i3), .val (.int i4), .val (.int (4 : Int32)), .val (.int c0), .val (.int c1), .val (.int c2), .val (.int c3), .val (.ref b174), .val (.ref b349), .val (.ref b373), .val (.ref ra), .unset, .unset] [(.ref ra)]))
          refine DnW.of (fun tt_ zz_ => XS.ifnonnullYes X401.here hx rfl (pc0 := 214) (pc' := 219) rfl (hb hby at_214) rfl (by decide) (by decide) zz_) ?_
          show DnW p e below s (own_Q n0) 32 4288 (T401.setTop (mkF m 219 #[.val (.int i0), .val (.int i1), .val (.int i2), .val (.int i3), .val (.int i4), .val (.int (4 : Int32)), .val (.int c0), .val (.int c1), .val (.int c2), .val (.int c3), .val (.ref b174), .val (.ref b349), .val (.ref b373), .val (.ref ra), .unset, .unset] []))
          refine DnW.of (fun tt_ zz_ => XS.aload X401.here hx rfl (hb hby at_219) rfl rfl zz_) ?_
          refine DnW.of (fun tt_ zz_ => XS.iload X401.here hx rfl (hb hby at_221) rfl zz_) ?_
          show DnW p e below s (own_Q n0) 32 4288 (T401.setTop (mkF m 223 #[.val (.int i0), .val (.int i1), .val (.int i2), .val (.int i3), .val (.int i4), .val (.int (4 : Int32)), .val (.int c0), .val (.int c1), .val (.int c2), .val (.int c3), .val (.ref b174), .val (.ref b349), .val (.ref b373), .val (.ref ra), .unset, .unset] [(.int (4 : Int32)), (.ref b174)]))
          have F402 := (F380.ext Xf)
          have F403 := (Nat.le_trans F381 Xf.1)
          have F404 := (F382.ext Xf)
          obtain ⟨v405, T405, L405, Q405, X405, st405⟩ := cSt X401 hx hZ (y := (⟨"com/example/vellum/vellum/types/DvUriFragmentIdPinLaw", "firstHash", "([CI)I"⟩ : MethodName)) hown (hg 132 rfl) (hg 133 rfl) (hg 2 rfl) (hg 134 rfl) (by decide) (argsL := [(.ref b174), (.int (4 : Int32))]) (rest := []) (rmFH4 l Z a0 hw T401.heap n0 F403 b174 _ c0 c1 c2 c3 F404) rfl  0 (by decide) (by decide) (by decide) (by decide) (g := (mkF m 223 #[.val (.int i0), .val (.int i1), .val (.int i2), .val (.int i3), .val (.int i4), .val (.int (4 : Int32)), .val (.int c0), .val (.int c1), .val (.int c2), .val (.int c3), .val (.ref b174), .val (.ref b349), .val (.ref b373), .val (.ref ra), .unset, .unset] [(.int (4 : Int32)), (.ref b174)])) rfl (by rw [hml]; rfl) (lenOf pd30 rfl) rfl (by show 2 * 0 + _ ≤ _; exact Nat.le_of_eq rfl) (hb hby at_223)
          rw [show own_fh (4 : Int32) c0 c1 c2 c3 = (2 : Int32) by unfold own_fh; rw [if_neg h10, if_neg (fun y => h11 y.2), if_pos ⟨by decide, h12⟩]] at Q405
          obtain ⟨rfl, Mh, e405⟩ := Q405
          refine DnW.of st405 ?_
          show DnW p e below s (own_Q n0) 32 4288 (T405.setTop (mkF m 226 #[.val (.int i0), .val (.int i1), .val (.int i2), .val (.int i3), .val (.int i4), .val (.int (4 : Int32)), .val (.int c0), .val (.int c1), .val (.int c2), .val (.int c3), .val (.ref b174), .val (.ref b349), .val (.ref b373), .val (.ref ra), .unset, .unset] [(.int (2 : Int32))]))
          refine DnW.of (fun tt_ zz_ => XS.istore X405.here hx rfl (hb hby at_226) rfl (l' := #[.val (.int i0), .val (.int i1), .val (.int i2), .val (.int i3), .val (.int i4), .val (.int (4 : Int32)), .val (.int c0), .val (.int c1), .val (.int c2), .val (.int c3), .val (.ref b174), .val (.ref b349), .val (.ref b373), .val (.ref ra), .val (.int (2 : Int32)), .unset]) rfl zz_) ?_
          refine DnW.of (fun tt_ zz_ => XS.iload X405.here hx rfl (hb hby at_228) rfl zz_) ?_
          show DnW p e below s (own_Q n0) 32 4288 (T405.setTop (mkF m 230 #[.val (.int i0), .val (.int i1), .val (.int i2), .val (.int i3), .val (.int i4), .val (.int (4 : Int32)), .val (.int c0), .val (.int c1), .val (.int c2), .val (.int c3), .val (.ref b174), .val (.ref b349), .val (.ref b373), .val (.ref ra), .val (.int (2 : Int32)), .unset] [(.int (2 : Int32))]))
          refine DnW.of (fun tt_ zz_ => XS.ifYes X405.here hx rfl (pc0 := 230) (pc' := 247) rfl (hb hby at_230) rfl ((if0 _ _).trans (flt (by decide)).2.1) (by decide) (by decide) zz_) ?_
          show DnW p e below s (own_Q n0) 32 4288 (T405.setTop (mkF m 247 #[.val (.int i0), .val (.int i1), .val (.int i2), .val (.int i3), .val (.int i4), .val (.int (4 : Int32)), .val (.int c0), .val (.int c1), .val (.int c2), .val (.int c3), .val (.ref b174), .val (.ref b349), .val (.ref b373), .val (.ref ra), .val (.int (2 : Int32)), .unset] []))
          refine DnW.of (fun tt_ zz_ => XS.iload X405.here hx rfl (hb hby at_247) rfl zz_) ?_
          refine DnW.of (fun tt_ zz_ => XS.iload X405.here hx rfl (hb hby at_249) rfl zz_) ?_
          refine DnW.of (fun tt_ zz_ => XS.isub X405.here hx rfl (hb hby at_251) rfl zz_) ?_
          refine DnW.of (fun tt_ zz_ => XS.iconst X405.here hx rfl (hb hby at_252) zz_) ?_
          show DnW p e below s (own_Q n0) 32 4288 (T405.setTop (mkF m 253 #[.val (.int i0), .val (.int i1), .val (.int i2), .val (.int i3), .val (.int i4), .val (.int (4 : Int32)), .val (.int c0), .val (.int c1), .val (.int c2), .val (.int c3), .val (.ref b174), .val (.ref b349), .val (.ref b373), .val (.ref ra), .val (.int (2 : Int32)), .unset] [(.int (1 : Int32)), (.int ((4 : Int32) - (2 : Int32)))]))
          refine DnW.of (fun tt_ zz_ => XS.isub X405.here hx rfl (hb hby at_253) rfl zz_) ?_
          show DnW p e below s (own_Q n0) 32 4288 (T405.setTop (mkF m 254 #[.val (.int i0), .val (.int i1), .val (.int i2), .val (.int i3), .val (.int i4), .val (.int (4 : Int32)), .val (.int c0), .val (.int c1), .val (.int c2), .val (.int c3), .val (.ref b174), .val (.ref b349), .val (.ref b373), .val (.ref ra), .val (.int (2 : Int32)), .unset] [(.int (((4 : Int32) - (2 : Int32)) - (1 : Int32)))]))
          rw [show (((4 : Int32) - (2 : Int32)) - (1 : Int32)) = (1 : Int32) by decide]
          show DnW p e below s (own_Q n0) 32 4288 (T405.setTop (mkF m 254 #[.val (.int i0), .val (.int i1), .val (.int i2), .val (.int i3), .val (.int i4), .val (.int (4 : Int32)), .val (.int c0), .val (.int c1), .val (.int c2), .val (.int c3), .val (.ref b174), .val (.ref b349), .val (.ref b373), .val (.ref ra), .val (.int (2 : Int32)), .unset] [(.int (1 : Int32))]))
          refine DnW.of (fun tt_ zz_ => XS.istore X405.here hx rfl (hb hby at_254) rfl (l' := #[.val (.int i0), .val (.int i1), .val (.int i2), .val (.int i3), .val (.int i4), .val (.int (4 : Int32)), .val (.int c0), .val (.int c1), .val (.int c2), .val (.int c3), .val (.ref b174), .val (.ref b349), .val (.ref b373), .val (.ref ra), .val (.int (2 : Int32)), .val (.int (1 : Int32))]) rfl zz_) ?_
          refine DnW.of (fun tt_ zz_ => XS.aload X405.here hx rfl (hb hby at_256) rfl rfl zz_) ?_
          show DnW p e below s (own_Q n0) 32 4288 (T405.setTop (mkF m 258 #[.val (.int i0), .val (.int i1), .val (.int i2), .val (.int i3), .val (.int i4), .val (.int (4 : Int32)), .val (.int c0), .val (.int c1), .val (.int c2), .val (.int c3), .val (.ref b174), .val (.ref b349), .val (.ref b373), .val (.ref ra), .val (.int (2 : Int32)), .val (.int (1 : Int32))] [(.ref ra)]))
          obtain ⟨v406, T406, L406, Q406, X406, st406⟩ := cVi X405 hx hZ (C := "java/lang/String") (y := (⟨"java/lang/String", "length", "()I"⟩ : MethodName)) (z := (⟨"java/lang/String", "length", "()I"⟩ : MethodName)) hown (hg 135 rfl) (hg 105 rfl) (notFace_of_selects (args := #[]) (mvT hZ (hg 107 rfl))) (hg 107 rfl) (hg 106 rfl) (hg 7 rfl) (hg 108 rfl) (by decide) (a := ra) (argsL := []) (rest := []) (rmLn l Z a0 hw T401.heap n0 F403 ra rb (1 : Int32) [own_B c3] Sr cz hcz SZ F402) e405 (own_exa Sr) 0 (by decide) (by decide) (by decide) (by decide) (g := (mkF m 258 #[.val (.int i0), .val (.int i1), .val (.int i2), .val (.int i3), .val (.int i4), .val (.int (4 : Int32)), .val (.int c0), .val (.int c1), .val (.int c2), .val (.int c3), .val (.ref b174), .val (.ref b349), .val (.ref b373), .val (.ref ra), .val (.int (2 : Int32)), .val (.int (1 : Int32))] [(.ref ra)])) rfl (by rw [hml]; rfl) (lenOf pd9 rfl) rfl (by show 2 * 0 + _ ≤ _; exact Nat.le_of_eq rfl) (hb hby at_258)
          obtain ⟨rfl, Mq, e406⟩ := Q406
          refine DnW.of st406 ?_
          show DnW p e below s (own_Q n0) 32 4288 (T406.setTop (mkF m 261 #[.val (.int i0), .val (.int i1), .val (.int i2), .val (.int i3), .val (.int i4), .val (.int (4 : Int32)), .val (.int c0), .val (.int c1), .val (.int c2), .val (.int c3), .val (.ref b174), .val (.ref b349), .val (.ref b373), .val (.ref ra), .val (.int (2 : Int32)), .val (.int (1 : Int32))] [(.int (1 : Int32))]))
          refine DnW.of (fun tt_ zz_ => XS.iload X406.here hx rfl (hb hby at_261) rfl zz_) ?_
          show DnW p e below s (own_Q n0) 32 4288 (T406.setTop (mkF m 263 #[.val (.int i0), .val (.int i1), .val (.int i2), .val (.int i3), .val (.int i4), .val (.int (4 : Int32)), .val (.int c0), .val (.int c1), .val (.int c2), .val (.int c3), .val (.ref b174), .val (.ref b349), .val (.ref b373), .val (.ref ra), .val (.int (2 : Int32)), .val (.int (1 : Int32))] [(.int (1 : Int32)), (.int (1 : Int32))]))
          refine DnW.of (fun tt_ zz_ => XS.icmpYes X406.here hx rfl (pc0 := 263) (pc' := 268) rfl (hb hby at_263) rfl (teq rfl).1 (by decide) (by decide) zz_) ?_
          show DnW p e below s (own_Q n0) 32 4288 (T406.setTop (mkF m 268 #[.val (.int i0), .val (.int i1), .val (.int i2), .val (.int i3), .val (.int i4), .val (.int (4 : Int32)), .val (.int c0), .val (.int c1), .val (.int c2), .val (.int c3), .val (.ref b174), .val (.ref b349), .val (.ref b373), .val (.ref ra), .val (.int (2 : Int32)), .val (.int (1 : Int32))] []))
          refine DnW.of (fun tt_ zz_ => XS.aload X406.here hx rfl (hb hby at_268) rfl rfl zz_) ?_
          refine DnW.of (fun tt_ zz_ => XS.aload X406.here hx rfl (hb hby at_270) rfl rfl zz_) ?_
          refine DnW.of (fun tt_ zz_ => XS.iload X406.here hx rfl (hb hby at_272) rfl zz_) ?_
          refine DnW.of (fun tt_ zz_ => XS.iconst X406.here hx rfl (hb hby at_274) zz_) ?_
          show DnW p e below s (own_Q n0) 32 4288 (T406.setTop (mkF m 275 #[.val (.int i0), .val (.int i1), .val (.int i2), .val (.int i3), .val (.int i4), .val (.int (4 : Int32)), .val (.int c0), .val (.int c1), .val (.int c2), .val (.int c3), .val (.ref b174), .val (.ref b349), .val (.ref b373), .val (.ref ra), .val (.int (2 : Int32)), .val (.int (1 : Int32))] [(.int (0 : Int32)), (.int (2 : Int32)), (.ref b174), (.ref ra)]))
          obtain ⟨v407, T407, L407, Q407, X407, st407⟩ := cSt X406 hx hZ (y := (⟨"com/example/vellum/vellum/types/DvUriFragmentIdPinLaw", "same", "(Ljava/lang/String;[CII)Z"⟩ : MethodName)) hown (hg 176 rfl) (hg 177 rfl) (hg 2 rfl) (hg 178 rfl) (by decide) (argsL := [(.ref ra), (.ref b174), (.int (2 : Int32)), (.int (0 : Int32))]) (rest := []) (rmSb l Z a0 hw T401.heap n0 F403 ra rb (1 : Int32) [own_B c3] Sr cz hcz SZ F402 b174 (2 : Int32) (0 : Int32) fv rf SF _ _ c3 (by decide) y3 rfl F404 (by decide) rfl) e406  0 (by decide) (by decide) (by decide) (by decide) (g := (mkF m 275 #[.val (.int i0), .val (.int i1), .val (.int i2), .val (.int i3), .val (.int i4), .val (.int (4 : Int32)), .val (.int c0), .val (.int c1), .val (.int c2), .val (.int c3), .val (.ref b174), .val (.ref b349), .val (.ref b373), .val (.ref ra), .val (.int (2 : Int32)), .val (.int (1 : Int32))] [(.int (0 : Int32)), (.int (2 : Int32)), (.ref b174), (.ref ra)])) rfl (by rw [hml]; rfl) (lenOf pd31 rfl) rfl (by show 2 * 0 + _ ≤ _; exact Nat.le_of_eq rfl) (hb hby at_275)
          obtain ⟨rfl, Mk0, e407⟩ := Q407
          refine DnW.of st407 ?_
          show DnW p e below s (own_Q n0) 32 4288 (T407.setTop (mkF m 278 #[.val (.int i0), .val (.int i1), .val (.int i2), .val (.int i3), .val (.int i4), .val (.int (4 : Int32)), .val (.int c0), .val (.int c1), .val (.int c2), .val (.int c3), .val (.ref b174), .val (.ref b349), .val (.ref b373), .val (.ref ra), .val (.int (2 : Int32)), .val (.int (1 : Int32))] [(.int (1 : Int32))]))
          refine DnW.of (fun tt_ zz_ => XS.ifNo X407.here hx rfl (hb hby at_278) rfl ((if0 _ _).trans (feq (by decide)).1) zz_) ?_
          show DnW p e below s (own_Q n0) 32 4288 (T407.setTop (mkF m 281 #[.val (.int i0), .val (.int i1), .val (.int i2), .val (.int i3), .val (.int i4), .val (.int (4 : Int32)), .val (.int c0), .val (.int c1), .val (.int c2), .val (.int c3), .val (.ref b174), .val (.ref b349), .val (.ref b373), .val (.ref ra), .val (.int (2 : Int32)), .val (.int (1 : Int32))] []))
          refine DnW.of (fun tt_ zz_ => XS.aload X407.here hx rfl (hb hby at_281) rfl rfl zz_) ?_
          refine DnW.of (fun tt_ zz_ => XS.aload X407.here hx rfl (hb hby at_283) rfl rfl zz_) ?_
          refine DnW.of (fun tt_ zz_ => XS.iload X407.here hx rfl (hb hby at_285) rfl zz_) ?_
          refine DnW.of (fun tt_ zz_ => XS.iconst X407.here hx rfl (hb hby at_287) zz_) ?_
          show DnW p e below s (own_Q n0) 32 4288 (T407.setTop (mkF m 288 #[.val (.int i0), .val (.int i1), .val (.int i2), .val (.int i3), .val (.int i4), .val (.int (4 : Int32)), .val (.int c0), .val (.int c1), .val (.int c2), .val (.int c3), .val (.ref b174), .val (.ref b349), .val (.ref b373), .val (.ref ra), .val (.int (2 : Int32)), .val (.int (1 : Int32))] [(.int (1 : Int32)), (.int (2 : Int32)), (.ref b174), (.ref ra)]))
          obtain ⟨v408, T408, L408, Q408, X408, st408⟩ := cSt X407 hx hZ (y := (⟨"com/example/vellum/vellum/types/DvUriFragmentIdPinLaw", "same", "(Ljava/lang/String;[CII)Z"⟩ : MethodName)) hown (hg 176 rfl) (hg 177 rfl) (hg 2 rfl) (hg 178 rfl) (by decide) (argsL := [(.ref ra), (.ref b174), (.int (2 : Int32)), (.int (1 : Int32))]) (rest := []) (rmSa l Z a0 hw T401.heap n0 F403 ra rb (1 : Int32) [own_B c3] Sr cz hcz SZ F402 b174 (2 : Int32) (1 : Int32) (by decide)) e407  0 (by decide) (by decide) (by decide) (by decide) (g := (mkF m 288 #[.val (.int i0), .val (.int i1), .val (.int i2), .val (.int i3), .val (.int i4), .val (.int (4 : Int32)), .val (.int c0), .val (.int c1), .val (.int c2), .val (.int c3), .val (.ref b174), .val (.ref b349), .val (.ref b373), .val (.ref ra), .val (.int (2 : Int32)), .val (.int (1 : Int32))] [(.int (1 : Int32)), (.int (2 : Int32)), (.ref b174), (.ref ra)])) rfl (by rw [hml]; rfl) (lenOf pd31 rfl) rfl (by show 2 * 0 + _ ≤ _; exact Nat.le_of_eq rfl) (hb hby at_288)
          obtain ⟨rfl, Mk1, e408⟩ := Q408
          refine DnW.of st408 ?_
          show DnW p e below s (own_Q n0) 32 4288 (T408.setTop (mkF m 291 #[.val (.int i0), .val (.int i1), .val (.int i2), .val (.int i3), .val (.int i4), .val (.int (4 : Int32)), .val (.int c0), .val (.int c1), .val (.int c2), .val (.int c3), .val (.ref b174), .val (.ref b349), .val (.ref b373), .val (.ref ra), .val (.int (2 : Int32)), .val (.int (1 : Int32))] [(.int (1 : Int32))]))
          refine DnW.of (fun tt_ zz_ => XS.ifNo X408.here hx rfl (hb hby at_291) rfl ((if0 _ _).trans (feq (by decide)).1) zz_) ?_
          show DnW p e below s (own_Q n0) 32 4288 (T408.setTop (mkF m 294 #[.val (.int i0), .val (.int i1), .val (.int i2), .val (.int i3), .val (.int i4), .val (.int (4 : Int32)), .val (.int c0), .val (.int c1), .val (.int c2), .val (.int c3), .val (.ref b174), .val (.ref b349), .val (.ref b373), .val (.ref ra), .val (.int (2 : Int32)), .val (.int (1 : Int32))] []))
          refine DnW.of (fun tt_ zz_ => XS.aload X408.here hx rfl (hb hby at_294) rfl rfl zz_) ?_
          refine DnW.of (fun tt_ zz_ => XS.aload X408.here hx rfl (hb hby at_296) rfl rfl zz_) ?_
          refine DnW.of (fun tt_ zz_ => XS.iload X408.here hx rfl (hb hby at_298) rfl zz_) ?_
          refine DnW.of (fun tt_ zz_ => XS.iconst X408.here hx rfl (hb hby at_300) zz_) ?_
          show DnW p e below s (own_Q n0) 32 4288 (T408.setTop (mkF m 301 #[.val (.int i0), .val (.int i1), .val (.int i2), .val (.int i3), .val (.int i4), .val (.int (4 : Int32)), .val (.int c0), .val (.int c1), .val (.int c2), .val (.int c3), .val (.ref b174), .val (.ref b349), .val (.ref b373), .val (.ref ra), .val (.int (2 : Int32)), .val (.int (1 : Int32))] [(.int (2 : Int32)), (.int (2 : Int32)), (.ref b174), (.ref ra)]))
          obtain ⟨v409, T409, L409, Q409, X409, st409⟩ := cSt X408 hx hZ (y := (⟨"com/example/vellum/vellum/types/DvUriFragmentIdPinLaw", "same", "(Ljava/lang/String;[CII)Z"⟩ : MethodName)) hown (hg 176 rfl) (hg 177 rfl) (hg 2 rfl) (hg 178 rfl) (by decide) (argsL := [(.ref ra), (.ref b174), (.int (2 : Int32)), (.int (2 : Int32))]) (rest := []) (rmSa l Z a0 hw T401.heap n0 F403 ra rb (1 : Int32) [own_B c3] Sr cz hcz SZ F402 b174 (2 : Int32) (2 : Int32) (by decide)) e408  0 (by decide) (by decide) (by decide) (by decide) (g := (mkF m 301 #[.val (.int i0), .val (.int i1), .val (.int i2), .val (.int i3), .val (.int i4), .val (.int (4 : Int32)), .val (.int c0), .val (.int c1), .val (.int c2), .val (.int c3), .val (.ref b174), .val (.ref b349), .val (.ref b373), .val (.ref ra), .val (.int (2 : Int32)), .val (.int (1 : Int32))] [(.int (2 : Int32)), (.int (2 : Int32)), (.ref b174), (.ref ra)])) rfl (by rw [hml]; rfl) (lenOf pd31 rfl) rfl (by show 2 * 0 + _ ≤ _; exact Nat.le_of_eq rfl) (hb hby at_301)
          obtain ⟨rfl, Mk2, e409⟩ := Q409
          refine DnW.of st409 ?_
          show DnW p e below s (own_Q n0) 32 4288 (T409.setTop (mkF m 304 #[.val (.int i0), .val (.int i1), .val (.int i2), .val (.int i3), .val (.int i4), .val (.int (4 : Int32)), .val (.int c0), .val (.int c1), .val (.int c2), .val (.int c3), .val (.ref b174), .val (.ref b349), .val (.ref b373), .val (.ref ra), .val (.int (2 : Int32)), .val (.int (1 : Int32))] [(.int (1 : Int32))]))
          refine DnW.of (fun tt_ zz_ => XS.ifNo X409.here hx rfl (hb hby at_304) rfl ((if0 _ _).trans (feq (by decide)).1) zz_) ?_
          show DnW p e below s (own_Q n0) 32 4288 (T409.setTop (mkF m 307 #[.val (.int i0), .val (.int i1), .val (.int i2), .val (.int i3), .val (.int i4), .val (.int (4 : Int32)), .val (.int c0), .val (.int c1), .val (.int c2), .val (.int c3), .val (.ref b174), .val (.ref b349), .val (.ref b373), .val (.ref ra), .val (.int (2 : Int32)), .val (.int (1 : Int32))] []))
          refine DnW.of (fun tt_ zz_ => XS.iconst X409.here hx rfl (hb hby at_307) zz_) ?_
          refine DnW.of (fun tt_ zz_ => XS.goto X409.here hx rfl (pc0 := 308) (pc' := 312) rfl (hb hby at_308) (by decide) (by decide) zz_) ?_
          show DnW p e below s (own_Q n0) 32 4288 (T409.setTop (mkF m 312 #[.val (.int i0), .val (.int i1), .val (.int i2), .val (.int i3), .val (.int i4), .val (.int (4 : Int32)), .val (.int c0), .val (.int c1), .val (.int c2), .val (.int c3), .val (.ref b174), .val (.ref b349), .val (.ref b373), .val (.ref ra), .val (.int (2 : Int32)), .val (.int (1 : Int32))] [(.int (1 : Int32))]))
          exact DnW.retN hS (by rw [e409]; exact hk3) X409 hx hlk (t := .boolean) hret (by simp) (hb hby at_312) (by decide) (by decide) (⟨rfl, (Fr.app (Fr.app (Fr.app (Fr.app (Fr.app (Fr.app (Fr.app (Fr.app N363 Ms) Md) Mf) Mh) Mq) Mk0) Mk1) Mk2)⟩)
        · skip
          by_cases h13 : c3 = 35
          · skip
            have b0_ := v0 h10
            have b1_ := v1 h11
            have b2_ := v2 h12
            have b3_ : own_B c3 = 35 := by rw [h13]; decide
            have hi : own_ix [own_B c0, own_B c1, own_B c2, own_B c3] = (3 : Int32) := by simp [own_ix, b0_, b1_, b2_, b3_]
            have hcut : own_Cut [own_B c0, own_B c1, own_B c2, own_B c3] [] (4 : Int32) (4 : Int32) (0 : Int32) := ⟨by decide, by decide, by decide, by decide, by decide, by decide, by decide, by decide, rfl⟩
            obtain ⟨v410, T410, L410, Q410, X410, hS, hZ, hown, hC410, st410⟩ := cVH X379 hx hZ (C := "com/example/vellum/vellum/types/DvUri") (y := (⟨"com/example/vellum/vellum/types/DvUri", "fragmentId", "()Ljava/lang/String;"⟩ : MethodName)) (z := (⟨"com/example/vellum/vellum/types/DvUri", "fragmentId", "()Ljava/lang/String;"⟩ : MethodName)) hown (hg 84 rfl) (hg 85 rfl) (notFace_of_selects (args := #[]) (mvT hZ (hg 87 rfl))) (hg 87 rfl) (hg 86 rfl) (hg 36 rfl) (hg 88 rfl) (by decide) (own_EW hw) hC379.1 hS hk2 (a := b373) (argsL := []) (rest := []) (rmFS l Z a0 hw T379.heap n0 F381 b349 sb (4 : Int32) [own_B c0, own_B c1, own_B c2, own_B c3] S3 (Or.inr (Or.inr (Or.inr ⟨rfl, _, _, _, _, rfl⟩))) cz hcz SZ F380 fv rf SF b373 FD (3 : Int32) hi (by decide) (4 : Int32) (0 : Int32) [] hcut (by decide)) rfl ET 0 (by decide) (by decide) (by decide) (by decide) (g := (mkF m 207 #[.val (.int i0), .val (.int i1), .val (.int i2), .val (.int i3), .val (.int i4), .val (.int (4 : Int32)), .val (.int c0), .val (.int c1), .val (.int c2), .val (.int c3), .val (.ref b174), .val (.ref b349), .val (.ref b373), .unset, .unset, .unset] [(.ref b373)])) rfl (by rw [hml]; rfl) (lenOf pd29 rfl) rfl (by show 2 * 0 + _ ≤ _; exact Nat.le_of_eq rfl) (hb hby at_207)
            obtain ⟨ra, rb, rfl, Mf, Xf, Sr⟩ := Q410
            refine DnW.of st410 ?_
            show DnW p e below s (own_Q n0) 32 4288 (T410.setTop (mkF m 210 #[.val (.int i0), .val (.int i1), .val (.int i2), .val (.int i3), .val (.int i4), .val (.int (4 : Int32)), .val (.int c0), .val (.int c1), .val (.int c2), .val (.int c3), .val (.ref b174), .val (.ref b349), .val (.ref b373), .unset, .unset, .unset] [(.ref ra)]))
            have hk3 := Nat.le_refl (T410.heap.size)
            refine DnW.of (fun tt_ zz_ => XS.astore X410.here hx rfl (hb hby at_210) rfl rfl (l' := #[.val (.int i0), .val (.int i1), .val (.int i2), .val (.int i3), .val (.int i4), .val (.int (4 : Int32)), .val (.int c0), .val (.int c1), .val (.int c2), .val (.int c3), .val (.ref b174), .val (.ref b349), .val (.ref b373), .val (.ref ra), .unset, .unset]) rfl zz_) ?_
            refine DnW.of (fun tt_ zz_ => XS.aload X410.here hx rfl (hb hby at_212) rfl rfl zz_) ?_
            show DnW p e below s (own_Q n0) 32 4288 (T410.setTop (mkF m 214 #[.val (.int i0), .val (.int i1), .val (.int i2), .val (.int i3), .val (.int i4), .val (.int (4 : Int32)), .val (.int c0), .val (.int c1), .val (.int c2), .val (.int c3), .val (.ref b174), .val (.ref b349), .val (.ref b373), .val (.ref ra), .unset, .unset] [(.ref ra)]))
            refine DnW.of (fun tt_ zz_ => XS.ifnonnullYes X410.here hx rfl (pc0 := 214) (pc' := 219) rfl (hb hby at_214) rfl (by decide) (by decide) zz_) ?_
            show DnW p e below s (own_Q n0) 32 4288 (T410.setTop (mkF m 219 #[.val (.int i0), .val (.int i1), .val (.int i2), .val (.int i3), .val (.int i4), .val (.int (4 : Int32)), .val (.int c0), .val (.int c1), .val (.int c2), .val (.int c3), .val (.ref b174), .val (.ref b349), .val (.ref b373), .val (.ref ra), .unset, .unset] []))
            refine DnW.of (fun tt_ zz_ => XS.aload X410.here hx rfl (hb hby at_219) rfl rfl zz_) ?_
            refine DnW.of (fun tt_ zz_ => XS.iload X410.here hx rfl (hb hby at_221) rfl zz_) ?_
            show DnW p e below s (own_Q n0) 32 4288 (T410.setTop (mkF m 223 #[.val (.int i0), .val (.int i1), .val (.int i2), .val (.int i3), .val (.int i4), .val (.int (4 : Int32)), .val (.int c0), .val (.int c1), .val (.int c2), .val (.int c3), .val (.ref b174), .val (.ref b349), .val (.ref b373), .val (.ref ra), .unset, .unset] [(.int (4 : Int32)), (.ref b174)]))
            have F411 := (F380.ext Xf)
            have F412 := (Nat.le_trans F381 Xf.1)
            have F413 := (F382.ext Xf)
            obtain ⟨v414, T414, L414, Q414, X414, st414⟩ := cSt X410 hx hZ (y := (⟨"com/example/vellum/vellum/types/DvUriFragmentIdPinLaw", "firstHash", "([CI)I"⟩ : MethodName)) hown (hg 132 rfl) (hg 133 rfl) (hg 2 rfl) (hg 134 rfl) (by decide) (argsL := [(.ref b174), (.int (4 : Int32))]) (rest := []) (rmFH4 l Z a0 hw T410.heap n0 F412 b174 _ c0 c1 c2 c3 F413) rfl  0 (by decide) (by decide) (by decide) (by decide) (g := (mkF m 223 #[.val (.int i0), .val (.int i1), .val (.int i2), .val (.int i3), .val (.int i4), .val (.int (4 : Int32)), .val (.int c0), .val (.int c1), .val (.int c2), .val (.int c3), .val (.ref b174), .val (.ref b349), .val (.ref b373), .val (.ref ra), .unset, .unset] [(.int (4 : Int32)), (.ref b174)])) rfl (by rw [hml]; rfl) (lenOf pd30 rfl) rfl (by show 2 * 0 + _ ≤ _; exact Nat.le_of_eq rfl) (hb hby at_223)
            rw [show own_fh (4 : Int32) c0 c1 c2 c3 = (3 : Int32) by unfold own_fh; rw [if_neg h10, if_neg (fun y => h11 y.2), if_neg (fun y => h12 y.2), if_pos ⟨by decide, h13⟩]] at Q414
            obtain ⟨rfl, Mh, e414⟩ := Q414
            refine DnW.of st414 ?_
            show DnW p e below s (own_Q n0) 32 4288 (T414.setTop (mkF m 226 #[.val (.int i0), .val (.int i1), .val (.int i2), .val (.int i3), .val (.int i4), .val (.int (4 : Int32)), .val (.int c0), .val (.int c1), .val (.int c2), .val (.int c3), .val (.ref b174), .val (.ref b349), .val (.ref b373), .val (.ref ra), .unset, .unset] [(.int (3 : Int32))]))
            refine DnW.of (fun tt_ zz_ => XS.istore X414.here hx rfl (hb hby at_226) rfl (l' := #[.val (.int i0), .val (.int i1), .val (.int i2), .val (.int i3), .val (.int i4), .val (.int (4 : Int32)), .val (.int c0), .val (.int c1), .val (.int c2), .val (.int c3), .val (.ref b174), .val (.ref b349), .val (.ref b373), .val (.ref ra), .val (.int (3 : Int32)), .unset]) rfl zz_) ?_
            refine DnW.of (fun tt_ zz_ => XS.iload X414.here hx rfl (hb hby at_228) rfl zz_) ?_
            show DnW p e below s (own_Q n0) 32 4288 (T414.setTop (mkF m 230 #[.val (.int i0), .val (.int i1), .val (.int i2), .val (.int i3), .val (.int i4), .val (.int (4 : Int32)), .val (.int c0), .val (.int c1), .val (.int c2), .val (.int c3), .val (.ref b174), .val (.ref b349), .val (.ref b373), .val (.ref ra), .val (.int (3 : Int32)), .unset] [(.int (3 : Int32))]))
            refine DnW.of (fun tt_ zz_ => XS.ifYes X414.here hx rfl (pc0 := 230) (pc' := 247) rfl (hb hby at_230) rfl ((if0 _ _).trans (flt (by decide)).2.1) (by decide) (by decide) zz_) ?_
            show DnW p e below s (own_Q n0) 32 4288 (T414.setTop (mkF m 247 #[.val (.int i0), .val (.int i1), .val (.int i2), .val (.int i3), .val (.int i4), .val (.int (4 : Int32)), .val (.int c0), .val (.int c1), .val (.int c2), .val (.int c3), .val (.ref b174), .val (.ref b349), .val (.ref b373), .val (.ref ra), .val (.int (3 : Int32)), .unset] []))
            refine DnW.of (fun tt_ zz_ => XS.iload X414.here hx rfl (hb hby at_247) rfl zz_) ?_
            refine DnW.of (fun tt_ zz_ => XS.iload X414.here hx rfl (hb hby at_249) rfl zz_) ?_
            refine DnW.of (fun tt_ zz_ => XS.isub X414.here hx rfl (hb hby at_251) rfl zz_) ?_
            refine DnW.of (fun tt_ zz_ => XS.iconst X414.here hx rfl (hb hby at_252) zz_) ?_
            show DnW p e below s (own_Q n0) 32 4288 (T414.setTop (mkF m 253 #[.val (.int i0), .val (.int i1), .val (.int i2), .val (.int i3), .val (.int i4), .val (.int (4 : Int32)), .val (.int c0), .val (.int c1), .val (.int c2), .val (.int c3), .val (.ref b174), .val (.ref b349), .val (.ref b373), .val (.ref ra), .val (.int (3 : Int32)), .unset] [(.int (1 : Int32)), (.int ((4 : Int32) - (3 : Int32)))]))
            refine DnW.of (fun tt_ zz_ => XS.isub X414.here hx rfl (hb hby at_253) rfl zz_) ?_
            show DnW p e below s (own_Q n0) 32 4288 (T414.setTop (mkF m 254 #[.val (.int i0), .val (.int i1), .val (.int i2), .val (.int i3), .val (.int i4), .val (.int (4 : Int32)), .val (.int c0), .val (.int c1), .val (.int c2), .val (.int c3), .val (.ref b174), .val (.ref b349), .val (.ref b373), .val (.ref ra), .val (.int (3 : Int32)), .unset] [(.int (((4 : Int32) - (3 : Int32)) - (1 : Int32)))]))
            rw [show (((4 : Int32) - (3 : Int32)) - (1 : Int32)) = (0 : Int32) by decide]
            show DnW p e below s (own_Q n0) 32 4288 (T414.setTop (mkF m 254 #[.val (.int i0), .val (.int i1), .val (.int i2), .val (.int i3), .val (.int i4), .val (.int (4 : Int32)), .val (.int c0), .val (.int c1), .val (.int c2), .val (.int c3), .val (.ref b174), .val (.ref b349), .val (.ref b373), .val (.ref ra), .val (.int (3 : Int32)), .unset] [(.int (0 : Int32))]))
            refine DnW.of (fun tt_ zz_ => XS.istore X414.here hx rfl (hb hby at_254) rfl (l' := #[.val (.int i0), .val (.int i1), .val (.int i2), .val (.int i3), .val (.int i4), .val (.int (4 : Int32)), .val (.int c0), .val (.int c1), .val (.int c2), .val (.int c3), .val (.ref b174), .val (.ref b349), .val (.ref b373), .val (.ref ra), .val (.int (3 : Int32)), .val (.int (0 : Int32))]) rfl zz_) ?_
            refine DnW.of (fun tt_ zz_ => XS.aload X414.here hx rfl (hb hby at_256) rfl rfl zz_) ?_
            show DnW p e below s (own_Q n0) 32 4288 (T414.setTop (mkF m 258 #[.val (.int i0), .val (.int i1), .val (.int i2), .val (.int i3), .val (.int i4), .val (.int (4 : Int32)), .val (.int c0), .val (.int c1), .val (.int c2), .val (.int c3), .val (.ref b174), .val (.ref b349), .val (.ref b373), .val (.ref ra), .val (.int (3 : Int32)), .val (.int (0 : Int32))] [(.ref ra)]))
            obtain ⟨v415, T415, L415, Q415, X415, st415⟩ := cVi X414 hx hZ (C := "java/lang/String") (y := (⟨"java/lang/String", "length", "()I"⟩ : MethodName)) (z := (⟨"java/lang/String", "length", "()I"⟩ : MethodName)) hown (hg 135 rfl) (hg 105 rfl) (notFace_of_selects (args := #[]) (mvT hZ (hg 107 rfl))) (hg 107 rfl) (hg 106 rfl) (hg 7 rfl) (hg 108 rfl) (by decide) (a := ra) (argsL := []) (rest := []) (rmLn l Z a0 hw T410.heap n0 F412 ra rb (0 : Int32) [] Sr cz hcz SZ F411) e414 (own_exa Sr) 0 (by decide) (by decide) (by decide) (by decide) (g := (mkF m 258 #[.val (.int i0), .val (.int i1), .val (.int i2), .val (.int i3), .val (.int i4), .val (.int (4 : Int32)), .val (.int c0), .val (.int c1), .val (.int c2), .val (.int c3), .val (.ref b174), .val (.ref b349), .val (.ref b373), .val (.ref ra), .val (.int (3 : Int32)), .val (.int (0 : Int32))] [(.ref ra)])) rfl (by rw [hml]; rfl) (lenOf pd9 rfl) rfl (by show 2 * 0 + _ ≤ _; exact Nat.le_of_eq rfl) (hb hby at_258)
            obtain ⟨rfl, Mq, e415⟩ := Q415
            refine DnW.of st415 ?_
            show DnW p e below s (own_Q n0) 32 4288 (T415.setTop (mkF m 261 #[.val (.int i0), .val (.int i1), .val (.int i2), .val (.int i3), .val (.int i4), .val (.int (4 : Int32)), .val (.int c0), .val (.int c1), .val (.int c2), .val (.int c3), .val (.ref b174), .val (.ref b349), .val (.ref b373), .val (.ref ra), .val (.int (3 : Int32)), .val (.int (0 : Int32))] [(.int (0 : Int32))]))
            refine DnW.of (fun tt_ zz_ => XS.iload X415.here hx rfl (hb hby at_261) rfl zz_) ?_
            show DnW p e below s (own_Q n0) 32 4288 (T415.setTop (mkF m 263 #[.val (.int i0), .val (.int i1), .val (.int i2), .val (.int i3), .val (.int i4), .val (.int (4 : Int32)), .val (.int c0), .val (.int c1), .val (.int c2), .val (.int c3), .val (.ref b174), .val (.ref b349), .val (.ref b373), .val (.ref ra), .val (.int (3 : Int32)), .val (.int (0 : Int32))] [(.int (0 : Int32)), (.int (0 : Int32))]))
            refine DnW.of (fun tt_ zz_ => XS.icmpYes X415.here hx rfl (pc0 := 263) (pc' := 268) rfl (hb hby at_263) rfl (teq rfl).1 (by decide) (by decide) zz_) ?_
            show DnW p e below s (own_Q n0) 32 4288 (T415.setTop (mkF m 268 #[.val (.int i0), .val (.int i1), .val (.int i2), .val (.int i3), .val (.int i4), .val (.int (4 : Int32)), .val (.int c0), .val (.int c1), .val (.int c2), .val (.int c3), .val (.ref b174), .val (.ref b349), .val (.ref b373), .val (.ref ra), .val (.int (3 : Int32)), .val (.int (0 : Int32))] []))
            refine DnW.of (fun tt_ zz_ => XS.aload X415.here hx rfl (hb hby at_268) rfl rfl zz_) ?_
            refine DnW.of (fun tt_ zz_ => XS.aload X415.here hx rfl (hb hby at_270) rfl rfl zz_) ?_
            refine DnW.of (fun tt_ zz_ => XS.iload X415.here hx rfl (hb hby at_272) rfl zz_) ?_
            refine DnW.of (fun tt_ zz_ => XS.iconst X415.here hx rfl (hb hby at_274) zz_) ?_
            show DnW p e below s (own_Q n0) 32 4288 (T415.setTop (mkF m 275 #[.val (.int i0), .val (.int i1), .val (.int i2), .val (.int i3), .val (.int i4), .val (.int (4 : Int32)), .val (.int c0), .val (.int c1), .val (.int c2), .val (.int c3), .val (.ref b174), .val (.ref b349), .val (.ref b373), .val (.ref ra), .val (.int (3 : Int32)), .val (.int (0 : Int32))] [(.int (0 : Int32)), (.int (3 : Int32)), (.ref b174), (.ref ra)]))
            obtain ⟨v416, T416, L416, Q416, X416, st416⟩ := cSt X415 hx hZ (y := (⟨"com/example/vellum/vellum/types/DvUriFragmentIdPinLaw", "same", "(Ljava/lang/String;[CII)Z"⟩ : MethodName)) hown (hg 176 rfl) (hg 177 rfl) (hg 2 rfl) (hg 178 rfl) (by decide) (argsL := [(.ref ra), (.ref b174), (.int (3 : Int32)), (.int (0 : Int32))]) (rest := []) (rmSa l Z a0 hw T410.heap n0 F412 ra rb (0 : Int32) [] Sr cz hcz SZ F411 b174 (3 : Int32) (0 : Int32) (by decide)) e415  0 (by decide) (by decide) (by decide) (by decide) (g := (mkF m 275 #[.val (.int i0), .val (.int i1), .val (.int i2), .val (.int i3), .val (.int i4), .val (.int (4 : Int32)), .val (.int c0), .val (.int c1), .val (.int c2), .val (.int c3), .val (.ref b174), .val (.ref b349), .val (.ref b373), .val (.ref ra), .val (.int (3 : Int32)), .val (.int (0 : Int32))] [(.int (0 : Int32)), (.int (3 : Int32)), (.ref b174), (.ref ra)])) rfl (by rw [hml]; rfl) (lenOf pd31 rfl) rfl (by show 2 * 0 + _ ≤ _; exact Nat.le_of_eq rfl) (hb hby at_275)
            obtain ⟨rfl, Mk0, e416⟩ := Q416
            refine DnW.of st416 ?_
            show DnW p e below s (own_Q n0) 32 4288 (T416.setTop (mkF m 278 #[.val (.int i0), .val (.int i1), .val (.int i2), .val (.int i3), .val (.int i4), .val (.int (4 : Int32)), .val (.int c0), .val (.int c1), .val (.int c2), .val (.int c3), .val (.ref b174), .val (.ref b349), .val (.ref b373), .val (.ref ra), .val (.int (3 : Int32)), .val (.int (0 : Int32))] [(.int (1 : Int32))]))
            refine DnW.of (fun tt_ zz_ => XS.ifNo X416.here hx rfl (hb hby at_278) rfl ((if0 _ _).trans (feq (by decide)).1) zz_) ?_
            show DnW p e below s (own_Q n0) 32 4288 (T416.setTop (mkF m 281 #[.val (.int i0), .val (.int i1), .val (.int i2), .val (.int i3), .val (.int i4), .val (.int (4 : Int32)), .val (.int c0), .val (.int c1), .val (.int c2), .val (.int c3), .val (.ref b174), .val (.ref b349), .val (.ref b373), .val (.ref ra), .val (.int (3 : Int32)), .val (.int (0 : Int32))] []))
            refine DnW.of (fun tt_ zz_ => XS.aload X416.here hx rfl (hb hby at_281) rfl rfl zz_) ?_
            refine DnW.of (fun tt_ zz_ => XS.aload X416.here hx rfl (hb hby at_283) rfl rfl zz_) ?_
            refine DnW.of (fun tt_ zz_ => XS.iload X416.here hx rfl (hb hby at_285) rfl zz_) ?_
            refine DnW.of (fun tt_ zz_ => XS.iconst X416.here hx rfl (hb hby at_287) zz_) ?_
            show DnW p e below s (own_Q n0) 32 4288 (T416.setTop (mkF m 288 #[.val (.int i0), .val (.int i1), .val (.int i2), .val (.int i3), .val (.int i4), .val (.int (4 : Int32)), .val (.int c0), .val (.int c1), .val (.int c2), .val (.int c3), .val (.ref b174), .val (.ref b349), .val (.ref b373), .val (.ref ra), .val (.int (3 : Int32)), .val (.int (0 : Int32))] [(.int (1 : Int32)), (.int (3 : Int32)), (.ref b174), (.ref ra)]))
            obtain ⟨v417, T417, L417, Q417, X417, st417⟩ := cSt X416 hx hZ (y := (⟨"com/example/vellum/vellum/types/DvUriFragmentIdPinLaw", "same", "(Ljava/lang/String;[CII)Z"⟩ : MethodName)) hown (hg 176 rfl) (hg 177 rfl) (hg 2 rfl) (hg 178 rfl) (by decide) (argsL := [(.ref ra), (.ref b174), (.int (3 : Int32)), (.int (1 : Int32))]) (rest := []) (rmSa l Z a0 hw T410.heap n0 F412 ra rb (0 : Int32) [] Sr cz hcz SZ F411 b174 (3 : Int32) (1 : Int32) (by decide)) e416  0 (by decide) (by decide) (by decide) (by decide) (g := (mkF m 288 #[.val (.int i0), .val (.int i1), .val (.int i2), .val (.int i3), .val (.int i4), .val (.int (4 : Int32)), .val (.int c0), .val (.int c1), .val (.int c2), .val (.int c3), .val (.ref b174), .val (.ref b349), .val (.ref b373), .val (.ref ra), .val (.int (3 : Int32)), .val (.int (0 : Int32))] [(.int (1 : Int32)), (.int (3 : Int32)), (.ref b174), (.ref ra)])) rfl (by rw [hml]; rfl) (lenOf pd31 rfl) rfl (by show 2 * 0 + _ ≤ _; exact Nat.le_of_eq rfl) (hb hby at_288)
            obtain ⟨rfl, Mk1, e417⟩ := Q417
            refine DnW.of st417 ?_
            show DnW p e below s (own_Q n0) 32 4288 (T417.setTop (mkF m 291 #[.val (.int i0), .val (.int i1), .val (.int i2), .val (.int i3), .val (.int i4), .val (.int (4 : Int32)), .val (.int c0), .val (.int c1), .val (.int c2), .val (.int c3), .val (.ref b174), .val (.ref b349), .val (.ref b373), .val (.ref ra), .val (.int (3 : Int32)), .val (.int (0 : Int32))] [(.int (1 : Int32))]))
            refine DnW.of (fun tt_ zz_ => XS.ifNo X417.here hx rfl (hb hby at_291) rfl ((if0 _ _).trans (feq (by decide)).1) zz_) ?_
            show DnW p e below s (own_Q n0) 32 4288 (T417.setTop (mkF m 294 #[.val (.int i0), .val (.int i1), .val (.int i2), .val (.int i3), .val (.int i4), .val (.int (4 : Int32)), .val (.int c0), .val (.int c1), .val (.int c2), .val (.int c3), .val (.ref b174), .val (.ref b349), .val (.ref b373), .val (.ref ra), .val (.int (3 : Int32)), .val (.int (0 : Int32))] []))
            refine DnW.of (fun tt_ zz_ => XS.aload X417.here hx rfl (hb hby at_294) rfl rfl zz_) ?_
            refine DnW.of (fun tt_ zz_ => XS.aload X417.here hx rfl (hb hby at_296) rfl rfl zz_) ?_
            refine DnW.of (fun tt_ zz_ => XS.iload X417.here hx rfl (hb hby at_298) rfl zz_) ?_
            refine DnW.of (fun tt_ zz_ => XS.iconst X417.here hx rfl (hb hby at_300) zz_) ?_
            show DnW p e below s (own_Q n0) 32 4288 (T417.setTop (mkF m 301 #[.val (.int i0), .val (.int i1), .val (.int i2), .val (.int i3), .val (.int i4), .val (.int (4 : Int32)), .val (.int c0), .val (.int c1), .val (.int c2), .val (.int c3), .val (.ref b174), .val (.ref b349), .val (.ref b373), .val (.ref ra), .val (.int (3 : Int32)), .val (.int (0 : Int32))] [(.int (2 : Int32)), (.int (3 : Int32)), (.ref b174), (.ref ra)]))
            obtain ⟨v418, T418, L418, Q418, X418, st418⟩ := cSt X417 hx hZ (y := (⟨"com/example/vellum/vellum/types/DvUriFragmentIdPinLaw", "same", "(Ljava/lang/String;[CII)Z"⟩ : MethodName)) hown (hg 176 rfl) (hg 177 rfl) (hg 2 rfl) (hg 178 rfl) (by decide) (argsL := [(.ref ra), (.ref b174), (.int (3 : Int32)), (.int (2 : Int32))]) (rest := []) (rmSa l Z a0 hw T410.heap n0 F412 ra rb (0 : Int32) [] Sr cz hcz SZ F411 b174 (3 : Int32) (2 : Int32) (by decide)) e417  0 (by decide) (by decide) (by decide) (by decide) (g := (mkF m 301 #[.val (.int i0), .val (.int i1), .val (.int i2), .val (.int i3), .val (.int i4), .val (.int (4 : Int32)), .val (.int c0), .val (.int c1), .val (.int c2), .val (.int c3), .val (.ref b174), .val (.ref b349), .val (.ref b373), .val (.ref ra), .val (.int (3 : Int32)), .val (.int (0 : Int32))] [(.int (2 : Int32)), (.int (3 : Int32)), (.ref b174), (.ref ra)])) rfl (by rw [hml]; rfl) (lenOf pd31 rfl) rfl (by show 2 * 0 + _ ≤ _; exact Nat.le_of_eq rfl) (hb hby at_301)
            obtain ⟨rfl, Mk2, e418⟩ := Q418
            refine DnW.of st418 ?_
            show DnW p e below s (own_Q n0) 32 4288 (T418.setTop (mkF m 304 #[.val (.int i0), .val (.int i1), .val (.int i2), .val (.int i3), .val (.int i4), .val (.int (4 : Int32)), .val (.int c0), .val (.int c1), .val (.int c2), .val (.int c3), .val (.ref b174), .val (.ref b349), .val (.ref b373), .val (.ref ra), .val (.int (3 : Int32)), .val (.int (0 : Int32))] [(.int (1 : Int32))]))
            refine DnW.of (fun tt_ zz_ => XS.ifNo X418.here hx rfl (hb hby at_304) rfl ((if0 _ _).trans (feq (by decide)).1) zz_) ?_
            show DnW p e below s (own_Q n0) 32 4288 (T418.setTop (mkF m 307 #[.val (.int i0), .val (.int i1), .val (.int i2), .val (.int i3), .val (.int i4), .val (.int (4 : Int32)), .val (.int c0), .val (.int c1), .val (.int c2), .val (.int c3), .val (.ref b174), .val (.ref b349), .val (.ref b373), .val (.ref ra), .val (.int (3 : Int32)), .val (.int (0 : Int32))] []))
            refine DnW.of (fun tt_ zz_ => XS.iconst X418.here hx rfl (hb hby at_307) zz_) ?_
            refine DnW.of (fun tt_ zz_ => XS.goto X418.here hx rfl (pc0 := 308) (pc' := 312) rfl (hb hby at_308) (by decide) (by decide) zz_) ?_
            show DnW p e below s (own_Q n0) 32 4288 (T418.setTop (mkF m 312 #[.val (.int i0), .val (.int i1), .val (.int i2), .val (.int i3), .val (.int i4), .val (.int (4 : Int32)), .val (.int c0), .val (.int c1), .val (.int c2), .val (.int c3), .val (.ref b174), .val (.ref b349), .val (.ref b373), .val (.ref ra), .val (.int (3 : Int32)), .val (.int (0 : Int32))] [(.int (1 : Int32))]))
            exact DnW.retN hS (by rw [e418]; exact hk3) X418 hx hlk (t := .boolean) hret (by simp) (hb hby at_312) (by decide) (by decide) (⟨rfl, (Fr.app (Fr.app (Fr.app (Fr.app (Fr.app (Fr.app (Fr.app (Fr.app N363 Ms) Md) Mf) Mh) Mq) Mk0) Mk1) Mk2)⟩)
          · skip
            have b0_ := v0 h10
            have b1_ := v1 h11
            have b2_ := v2 h12
            have b3_ := v3 h13
            have hi : own_ix [own_B c0, own_B c1, own_B c2, own_B c3] = (-1 : Int32) := by simp [own_ix, b0_, b1_, b2_, b3_]
            obtain ⟨v419, T419, L419, Q419, X419, hS, hZ, hown, hC419, st419⟩ := cVH X379 hx hZ (C := "com/example/vellum/vellum/types/DvUri") (y := (⟨"com/example/vellum/vellum/types/DvUri", "fragmentId", "()Ljava/lang/String;"⟩ : MethodName)) (z := (⟨"com/example/vellum/vellum/types/DvUri", "fragmentId", "()Ljava/lang/String;"⟩ : MethodName)) hown (hg 84 rfl) (hg 85 rfl) (notFace_of_selects (args := #[]) (mvT hZ (hg 87 rfl))) (hg 87 rfl) (hg 86 rfl) (hg 36 rfl) (hg 88 rfl) (by decide) (own_EW hw) hC379.1 hS hk2 (a := b373) (argsL := []) (rest := []) (rmFN l Z a0 hw T379.heap n0 F381 b349 sb (4 : Int32) [own_B c0, own_B c1, own_B c2, own_B c3] S3 (Or.inr (Or.inr (Or.inr ⟨rfl, _, _, _, _, rfl⟩))) cz hcz SZ F380 b373 FD hi) rfl ET 0 (by decide) (by decide) (by decide) (by decide) (g := (mkF m 207 #[.val (.int i0), .val (.int i1), .val (.int i2), .val (.int i3), .val (.int i4), .val (.int (4 : Int32)), .val (.int c0), .val (.int c1), .val (.int c2), .val (.int c3), .val (.ref b174), .val (.ref b349), .val (.ref b373), .unset, .unset, .unset] [(.ref b373)])) rfl (by rw [hml]; rfl) (lenOf pd29 rfl) rfl (by show 2 * 0 + _ ≤ _; exact Nat.le_of_eq rfl) (hb hby at_207)
            obtain ⟨ra, rb, rfl, Mf, Xf, Sr⟩ := Q419
            refine DnW.of st419 ?_
            show DnW p e below s (own_Q n0) 32 4288 (T419.setTop (mkF m 210 #[.val (.int i0), .val (.int i1), .val (.int i2), .val (.int i3), .val (.int i4), .val (.int (4 : Int32)), .val (.int c0), .val (.int c1), .val (.int c2), .val (.int c3), .val (.ref b174), .val (.ref b349), .val (.ref b373), .unset, .unset, .unset] [(.ref ra)]))
            have hk3 := Nat.le_refl (T419.heap.size)
            refine DnW.of (fun tt_ zz_ => XS.astore X419.here hx rfl (hb hby at_210) rfl rfl (l' := #[.val (.int i0), .val (.int i1), .val (.int i2), .val (.int i3), .val (.int i4), .val (.int (4 : Int32)), .val (.int c0), .val (.int c1), .val (.int c2), .val (.int c3), .val (.ref b174), .val (.ref b349), .val (.ref b373), .val (.ref ra), .unset, .unset]) rfl zz_) ?_
            refine DnW.of (fun tt_ zz_ => XS.aload X419.here hx rfl (hb hby at_212) rfl rfl zz_) ?_
            show DnW p e below s (own_Q n0) 32 4288 (T419.setTop (mkF m 214 #[.val (.int i0), .val (.int i1), .val (.int i2), .val (.int i3), .val (.int i4), .val (.int (4 : Int32)), .val (.int c0), .val (.int c1), .val (.int c2), .val (.int c3), .val (.ref b174), .val (.ref b349), .val (.ref b373), .val (.ref ra), .unset, .unset] [(.ref ra)]))
            refine DnW.of (fun tt_ zz_ => XS.ifnonnullYes X419.here hx rfl (pc0 := 214) (pc' := 219) rfl (hb hby at_214) rfl (by decide) (by decide) zz_) ?_
            show DnW p e below s (own_Q n0) 32 4288 (T419.setTop (mkF m 219 #[.val (.int i0), .val (.int i1), .val (.int i2), .val (.int i3), .val (.int i4), .val (.int (4 : Int32)), .val (.int c0), .val (.int c1), .val (.int c2), .val (.int c3), .val (.ref b174), .val (.ref b349), .val (.ref b373), .val (.ref ra), .unset, .unset] []))
            refine DnW.of (fun tt_ zz_ => XS.aload X419.here hx rfl (hb hby at_219) rfl rfl zz_) ?_
            refine DnW.of (fun tt_ zz_ => XS.iload X419.here hx rfl (hb hby at_221) rfl zz_) ?_
            show DnW p e below s (own_Q n0) 32 4288 (T419.setTop (mkF m 223 #[.val (.int i0), .val (.int i1), .val (.int i2), .val (.int i3), .val (.int i4), .val (.int (4 : Int32)), .val (.int c0), .val (.int c1), .val (.int c2), .val (.int c3), .val (.ref b174), .val (.ref b349), .val (.ref b373), .val (.ref ra), .unset, .unset] [(.int (4 : Int32)), (.ref b174)]))
            have F420 := (F380.ext Xf)
            have F421 := (Nat.le_trans F381 Xf.1)
            have F422 := (F382.ext Xf)
            obtain ⟨v423, T423, L423, Q423, X423, st423⟩ := cSt X419 hx hZ (y := (⟨"com/example/vellum/vellum/types/DvUriFragmentIdPinLaw", "firstHash", "([CI)I"⟩ : MethodName)) hown (hg 132 rfl) (hg 133 rfl) (hg 2 rfl) (hg 134 rfl) (by decide) (argsL := [(.ref b174), (.int (4 : Int32))]) (rest := []) (rmFH4 l Z a0 hw T419.heap n0 F421 b174 _ c0 c1 c2 c3 F422) rfl  0 (by decide) (by decide) (by decide) (by decide) (g := (mkF m 223 #[.val (.int i0), .val (.int i1), .val (.int i2), .val (.int i3), .val (.int i4), .val (.int (4 : Int32)), .val (.int c0), .val (.int c1), .val (.int c2), .val (.int c3), .val (.ref b174), .val (.ref b349), .val (.ref b373), .val (.ref ra), .unset, .unset] [(.int (4 : Int32)), (.ref b174)])) rfl (by rw [hml]; rfl) (lenOf pd30 rfl) rfl (by show 2 * 0 + _ ≤ _; exact Nat.le_of_eq rfl) (hb hby at_223)
            rw [show own_fh (4 : Int32) c0 c1 c2 c3 = (-1 : Int32) by unfold own_fh; rw [if_neg h10, if_neg (fun y => h11 y.2), if_neg (fun y => h12 y.2), if_neg (fun y => h13 y.2)]] at Q423
            obtain ⟨rfl, Mh, e423⟩ := Q423
            refine DnW.of st423 ?_
            show DnW p e below s (own_Q n0) 32 4288 (T423.setTop (mkF m 226 #[.val (.int i0), .val (.int i1), .val (.int i2), .val (.int i3), .val (.int i4), .val (.int (4 : Int32)), .val (.int c0), .val (.int c1), .val (.int c2), .val (.int c3), .val (.ref b174), .val (.ref b349), .val (.ref b373), .val (.ref ra), .unset, .unset] [(.int (-1 : Int32))]))
            refine DnW.of (fun tt_ zz_ => XS.istore X423.here hx rfl (hb hby at_226) rfl (l' := #[.val (.int i0), .val (.int i1), .val (.int i2), .val (.int i3), .val (.int i4), .val (.int (4 : Int32)), .val (.int c0), .val (.int c1), .val (.int c2), .val (.int c3), .val (.ref b174), .val (.ref b349), .val (.ref b373), .val (.ref ra), .val (.int (-1 : Int32)), .unset]) rfl zz_) ?_
            refine DnW.of (fun tt_ zz_ => XS.iload X423.here hx rfl (hb hby at_228) rfl zz_) ?_
            show DnW p e below s (own_Q n0) 32 4288 (T423.setTop (mkF m 230 #[.val (.int i0), .val (.int i1), .val (.int i2), .val (.int i3), .val (.int i4), .val (.int (4 : Int32)), .val (.int c0), .val (.int c1), .val (.int c2), .val (.int c3), .val (.ref b174), .val (.ref b349), .val (.ref b373), .val (.ref ra), .val (.int (-1 : Int32)), .unset] [(.int (-1 : Int32))]))
            refine DnW.of (fun tt_ zz_ => XS.ifNo X423.here hx rfl (hb hby at_230) rfl ((if0 _ _).trans (tlt (by decide)).2.1) zz_) ?_
            show DnW p e below s (own_Q n0) 32 4288 (T423.setTop (mkF m 233 #[.val (.int i0), .val (.int i1), .val (.int i2), .val (.int i3), .val (.int i4), .val (.int (4 : Int32)), .val (.int c0), .val (.int c1), .val (.int c2), .val (.int c3), .val (.ref b174), .val (.ref b349), .val (.ref b373), .val (.ref ra), .val (.int (-1 : Int32)), .unset] []))
            refine DnW.of (fun tt_ zz_ => XS.aload X423.here hx rfl (hb hby at_233) rfl rfl zz_) ?_
            show DnW p e below s (own_Q n0) 32 4288 (T423.setTop (mkF m 235 #[.val (.int i0), .val (.int i1), .val (.int i2), .val (.int i3), .val (.int i4), .val (.int (4 : Int32)), .val (.int c0), .val (.int c1), .val (.int c2), .val (.int c3), .val (.ref b174), .val (.ref b349), .val (.ref b373), .val (.ref ra), .val (.int (-1 : Int32)), .unset] [(.ref ra)]))
            obtain ⟨v424, T424, L424, Q424, X424, st424⟩ := cVi X423 hx hZ (C := "java/lang/String") (y := (⟨"java/lang/String", "length", "()I"⟩ : MethodName)) (z := (⟨"java/lang/String", "length", "()I"⟩ : MethodName)) hown (hg 135 rfl) (hg 105 rfl) (notFace_of_selects (args := #[]) (mvT hZ (hg 107 rfl))) (hg 107 rfl) (hg 106 rfl) (hg 7 rfl) (hg 108 rfl) (by decide) (a := ra) (argsL := []) (rest := []) (rmLn l Z a0 hw T419.heap n0 F421 ra rb (0 : Int32) [] Sr cz hcz SZ F420) e423 (own_exa Sr) 0 (by decide) (by decide) (by decide) (by decide) (g := (mkF m 235 #[.val (.int i0), .val (.int i1), .val (.int i2), .val (.int i3), .val (.int i4), .val (.int (4 : Int32)), .val (.int c0), .val (.int c1), .val (.int c2), .val (.int c3), .val (.ref b174), .val (.ref b349), .val (.ref b373), .val (.ref ra), .val (.int (-1 : Int32)), .unset] [(.ref ra)])) rfl (by rw [hml]; rfl) (lenOf pd9 rfl) rfl (by show 2 * 0 + _ ≤ _; exact Nat.le_of_eq rfl) (hb hby at_235)
            obtain ⟨rfl, Mq, e424⟩ := Q424
            refine DnW.of st424 ?_
            show DnW p e below s (own_Q n0) 32 4288 (T424.setTop (mkF m 238 #[.val (.int i0), .val (.int i1), .val (.int i2), .val (.int i3), .val (.int i4), .val (.int (4 : Int32)), .val (.int c0), .val (.int c1), .val (.int c2), .val (.int c3), .val (.ref b174), .val (.ref b349), .val (.ref b373), .val (.ref ra), .val (.int (-1 : Int32)), .unset] [(.int (0 : Int32))]))
            refine DnW.of (fun tt_ zz_ => XS.ifNo X424.here hx rfl (hb hby at_238) rfl ((if0 _ _).trans (teq rfl).2) zz_) ?_
            show DnW p e below s (own_Q n0) 32 4288 (T424.setTop (mkF m 241 #[.val (.int i0), .val (.int i1), .val (.int i2), .val (.int i3), .val (.int i4), .val (.int (4 : Int32)), .val (.int c0), .val (.int c1), .val (.int c2), .val (.int c3), .val (.ref b174), .val (.ref b349), .val (.ref b373), .val (.ref ra), .val (.int (-1 : Int32)), .unset] []))
            refine DnW.of (fun tt_ zz_ => XS.iconst X424.here hx rfl (hb hby at_241) zz_) ?_
            refine DnW.of (fun tt_ zz_ => XS.goto X424.here hx rfl (pc0 := 242) (pc' := 246) rfl (hb hby at_242) (by decide) (by decide) zz_) ?_
            show DnW p e below s (own_Q n0) 32 4288 (T424.setTop (mkF m 246 #[.val (.int i0), .val (.int i1), .val (.int i2), .val (.int i3), .val (.int i4), .val (.int (4 : Int32)), .val (.int c0), .val (.int c1), .val (.int c2), .val (.int c3), .val (.ref b174), .val (.ref b349), .val (.ref b373), .val (.ref ra), .val (.int (-1 : Int32)), .unset] [(.int (1 : Int32))]))
            exact DnW.retN hS (by rw [e424]; exact hk3) X424 hx hlk (t := .boolean) hret (by simp) (hb hby at_246) (by decide) (by decide) (⟨rfl, (Fr.app (Fr.app (Fr.app (Fr.app (Fr.app N363 Ms) Md) Mf) Mh) Mq)⟩)
set_option maxRecDepth 65536 in
set_option maxHeartbeats 40000000 in
theorem comes_1 {Post : Tables → Env → Array Value → State → Outcome → State → Prop} (hpost : ∀ tb e args s v u, (limb_1_1.after args s (.returned v) u = true ∧ limb_1_2.after args s (.returned v) u = true ∧ True) → ReturnedEndW s (.returned v) u (Jvm.fieldLocs frame_1_writes args s ++ Jvm.arrayLocs frame_1_arrays args s ++ Jvm.staticLocs frame_1_statics s) 32 4288 → Post tb e args s (.returned v) u) :
    ArmFor flags0 classFile x code maxLocals ret World_1 tables_1 room_1 Calls_1 rest_1 Pre_1 Post := by
  intro l hfl _ _ p e ha hc hk s m args below hf hA hF happ hP
  obtain ⟨hcalls, hrest, hpre⟩ := hP
  obtain ⟨-, -, -, hnamed, -, -, -, hat⟩ := (Spec.applies_iff hf).mp happ
  obtain ⟨hg, hn⟩ := and_e (Cond.before_iff.mp (show (Jvm.Cond.and given_1 narrow_1).before args s = true from hpre))
  obtain ⟨hcount, hr⟩ := and_e hg
  obtain ⟨w0, w1, w2, w3, w4, rfl⟩ : ∃ w0 w1 w2 w3 w4 : Value, args = #[w0, w1, w2, w3, w4] := by
    have hs : args.size = 5 := by simpa [Cond.value, given_1] using hcount
    obtain ⟨L⟩ := args
    match L, hs with
    | [w0, w1, w2, w3, w4], _ => exact ⟨w0, w1, w2, w3, w4, rfl⟩
  have hw := fun d (hd : d ∈ tables_1) => atoms_spec (ws := Jvm.Cond.code x code maxLocals ret :: tables_1) hat d (List.mem_cons_of_mem _ hd)
  have hfit : Fit s := fun {y c} hc i hi => by
    obtain ⟨ha, rfl⟩ := Array.getElem?_eq_some_iff.mp hc
    have q := List.all_eq_true.mp ((Array.all_eq_true_iff_forall_mem.mp hF) _ (Array.getElem_mem ha)) i (List.mem_range.mpr hi)
    simpa [Array.getElem?_eq_getElem hi] using q
  obtain ⟨ha0, hr⟩ := and_e hr
  obtain ⟨i0, ei0⟩ := is_v ha0
  obtain rfl : w0 = (.int i0) := Option.some.inj ei0
  obtain ⟨ha1, hr⟩ := and_e hr
  obtain ⟨i1, ei1⟩ := is_v ha1
  obtain rfl : w1 = (.int i1) := Option.some.inj ei1
  obtain ⟨ha2, hr⟩ := and_e hr
  obtain ⟨i2, ei2⟩ := is_v ha2
  obtain rfl : w2 = (.int i2) := Option.some.inj ei2
  obtain ⟨ha3, hr⟩ := and_e hr
  obtain ⟨i3, ei3⟩ := is_v ha3
  obtain rfl : w3 = (.int i3) := Option.some.inj ei3
  have ha4 := hr
  obtain ⟨i4, ei4⟩ := is_v ha4
  obtain rfl : w4 = (.int i4) := Option.some.inj ei4
  obtain ⟨hsets, hown0⟩ := atoms_of _ (rest_1_c_eq ▸ (show rest_1_c.before _ s = true from hrest))
  obtain ⟨cz, ez⟩ := is_v (Cond.before_iff.mp (hsets _ (List.mem_of_getElem? (i := 1) rfl)))
  have SZ := Sta.start ez (Or.inl (hsets _ (List.mem_of_getElem? (i := 0) rfl)))
  have hcz : ¬ cz = 0 := gotF (Cond.eq_ints ez (Term.int_eval 0)) (not_v (Cond.before_iff.mp (hsets _ (List.mem_of_getElem? (i := 2) rfl))))
  obtain ⟨fv, ef, rf⟩ := isR_v (Cond.before_iff.mp (hsets _ (List.mem_of_getElem? (i := 8) rfl)))
  have SF := Sta.start ef (Or.inl (hsets _ (List.mem_of_getElem? (i := 7) rfl)))
  have hCH : CHv s consts_1 s.vm s.heap := CHv.start (own_EW hw) (fun p hp => hcalls.1 p hp) (hsets _ (List.mem_of_getElem? (i := 2) rfl)) (hw _ (List.mem_of_getElem? (i := 23) rfl)) (hw _ (List.mem_of_getElem? (i := 6) rfl))
  obtain ⟨n, o, h1, h2, h3, _, L, rfl, ⟨rfl, N⟩, hq⟩ := rm0 l s _ hw tables_1 s.heap s.heap.size (Nat.le_refl _) i0 i1 i2 i3 i4 cz hcz SZ (Old.start s) fv rf SF p e ha hc hk s m _ below hf ((Spec.applies_iff_loose hf).mp happ).1 ⟨rfl, State.Warmed39.refl s, rfl, hCH⟩ trivial
  refine ⟨n, _, h1, h2, h3, hpost _ _ _ _ _ _ ⟨Cond.after_iff.mpr rfl, Cond.after_iff.mpr (eq_i res_at (Term.int_eval (1)) rfl), trivial⟩ ⟨hq.1, hq.2.1, hq.2.2.1, (hq.2.2.2.sift fun y hy => Or.inr (N y hy)).mono (by decide) (by decide)⟩⟩
theorem main_1_1 : Claimed_1_1 := comes_1 fun _ _ _ _ _ _ h hF => ⟨h.1, hF⟩
theorem main_1_2 : Claimed_1_2 := comes_1 fun _ _ _ _ _ _ h hF => ⟨h.2.1, hF⟩
end Jvm.Pilot.@@N@@
namespace Jvm.Pilot.@@N@@
open Jvm Jvm.ClassFile Sem Op Lib Jvm.Free Jvm.Stand Jvm.Pilot.@@N@@.Jvm.D
/-! MADE BY PROGRAM (witnessworld.py) out of the Statement's table words and the real class files: 25 classes; the members and pool entries that the words name. The judged class is class 1, her method 1. -/
namespace start1
open Jvm.ClassFile
def u (s : String) : CpInfo := .utf8 (stringToUtf16 s)
/-- a pool by its gaps: so many unusable entries, then the entry; so many at the end -/
def gap : Nat → List CpInfo → List CpInfo
  | 0, r => r
  | n + 1, r => .unusable :: gap n r
def poolList (es : List (Nat × CpInfo)) (last : Nat) : List CpInfo := es.foldr (fun e r => gap e.1 (e.2 :: r)) (gap last [])
def pool (es : List (Nat × CpInfo)) (last : Nat) : Array CpInfo := ⟨poolList es last⟩
def fileOf (pool : Array CpInfo) (this : Nat) (attrs : Array Attribute := #[]) (ms : Array MethodInfo := #[]) (fl : Nat := 33) (sup : Nat := 0) (ifs : Array Nat := #[]) (fds : Array FieldInfo := #[]) : ClassFile where
  minorVersion := 0
  majorVersion := 65
  constantPool := pool
  accessFlags := fl
  thisClass := this
  superClass := sup
  interfaces := ifs
  fields := fds
  methods := ms
  attributes := attrs
def plain (name : String) (sup : Option ClassId) : Class where
  name := name
  kind := .ordinary
  loader := none
  accessFlags := 33
  super := sup
  interfaces := #[]
  cf := none
  fields := #[]
  methods := #[]
  instanceTypes := #[]
  staticTypes := #[]
  resolved := #[]
  callSites := []
  init := .initialized
  statics := none
  mirror := none

def pool0 : Array CpInfo := pool [(5, u "<init>"), (0, u "()V"), (1, .class_ 10), (1, u "java/lang/Object")] 113

def k0c0 : Code := { maxStack := 0, maxLocals := 1, code := object_method_1_code, exceptionTable := #[], attributes := #[] }
def k0m0 : Method := { name := "<init>", desc := "()V", sig := { parameters := [], returnType := none }, accessFlags := 1, code := some k0c0 }
/-- java/lang/Object -/
def k0 : Class := { plain "java/lang/Object" none with
  accessFlags := 33
  interfaces := #[]
  cf := some (fileOf pool0 8 #[] #[{ accessFlags := 1, nameIndex := 5, descriptorIndex := 6, attributes := #[] }] 33 0 #[] #[])
  fields := #[]
  methods := #[k0m0]
  instanceTypes := #[]
  staticTypes := #[]
  resolved := Array.replicate 124 none
  statics := none }

def pool1 : Array CpInfo := pool [(2, .class_ 4), (1, u "java/lang/Object"), (0, u "<init>"), (0, u "()V"), (0, .methodref 8 9), (0, .class_ 10), (0, .nameAndType 11 12), (0, u "com/example/vellum/vellum/types/DvUriFragmentIdPinLaw"), (0, u "pick"), (0, u "(III)C"), (0, .class_ 14), (0, u "java/lang/String"), (0, .methodref 13 16), (0, .nameAndType 5 17), (0, u "([C)V"), (0, .class_ 19), (0, u "com/example/vellum/vellum/types/DvUri"), (0, .methodref 18 21), (0, .nameAndType 5 22), (0, u "(Ljava/lang/String;)V"), (0, .methodref 18 24), (0, .nameAndType 25 26), (0, u "fragmentId"), (0, u "()Ljava/lang/String;"), (0, .methodref 8 28), (0, .nameAndType 29 30), (0, u "firstHash"), (0, u "([CI)I"), (0, .methodref 13 32), (0, .nameAndType 33 34), (0, u "length"), (0, u "()I"), (0, .methodref 8 36), (0, .nameAndType 37 38), (0, u "same"), (0, u "(Ljava/lang/String;[CII)Z"), (0, .methodref 13 40), (0, .nameAndType 41 42), (0, u "charAt"), (0, u "(I)C"), (2, u "law"), (0, u "(IIIII)Z")] 5

def k1m0 : Method := { name := "<init>", desc := "()V", sig := { parameters := [], returnType := none }, accessFlags := 1, code := none }
def k1c1 : Code := { maxStack := 6, maxLocals := 16, code := code, exceptionTable := #[], attributes := #[] }
def k1m1 : Method := { name := "law", desc := "(IIIII)Z", sig := { parameters := [.int, .int, .int, .int, .int], returnType := some .boolean }, accessFlags := 9, code := some k1c1 }
def k1c2 : Code := { maxStack := 2, maxLocals := 3, code := method_3_code, exceptionTable := #[], attributes := #[] }
def k1m2 : Method := { name := "pick", desc := "(III)C", sig := { parameters := [.int, .int, .int], returnType := some .char }, accessFlags := 10, code := some k1c2 }
def k1c3 : Code := { maxStack := 2, maxLocals := 2, code := method_4_code, exceptionTable := #[], attributes := #[] }
def k1m3 : Method := { name := "firstHash", desc := "([CI)I", sig := { parameters := [(.array .char), .int], returnType := some .int }, accessFlags := 10, code := some k1c3 }
def k1c4 : Code := { maxStack := 4, maxLocals := 4, code := method_5_code, exceptionTable := #[], attributes := #[] }
def k1m4 : Method := { name := "same", desc := "(Ljava/lang/String;[CII)Z", sig := { parameters := [(.object "java/lang/String"), (.array .char), .int, .int], returnType := some .boolean }, accessFlags := 10, code := some k1c4 }
/-- com/example/vellum/vellum/types/DvUriFragmentIdPinLaw -/
def k1 : Class := { plain "com/example/vellum/vellum/types/DvUriFragmentIdPinLaw" (some 0) with
  accessFlags := 49
  interfaces := #[]
  cf := some (fileOf pool1 8 #[] #[{ accessFlags := 1, nameIndex := 5, descriptorIndex := 6, attributes := #[] }, { accessFlags := 9, nameIndex := 45, descriptorIndex := 46, attributes := #[] }, { accessFlags := 10, nameIndex := 11, descriptorIndex := 12, attributes := #[] }, { accessFlags := 10, nameIndex := 29, descriptorIndex := 30, attributes := #[] }, { accessFlags := 10, nameIndex := 37, descriptorIndex := 38, attributes := #[] }] 49 2 #[] #[])
  fields := #[]
  methods := #[k1m0, k1m1, k1m2, k1m3, k1m4]
  instanceTypes := #[]
  staticTypes := #[]
  resolved := Array.replicate 52 none
  statics := none }

def pool2 : Array CpInfo := pool [(1, .class_ 2), (0, u "java/io/Serializable"), (0, .class_ 4), (0, u "java/lang/Object")] 2

/-- java/io/Serializable -/
def k2 : Class := { plain "java/io/Serializable" (some 0) with
  accessFlags := 1537
  interfaces := #[]
  cf := some (fileOf pool2 1 #[] #[] 1537 3 #[] #[])
  fields := #[]
  methods := #[]
  instanceTypes := #[]
  staticTypes := #[]
  resolved := Array.replicate 7 none
  statics := none }

def pool3 : Array CpInfo := pool [(1, .class_ 2), (0, u "java/lang/Comparable"), (0, .class_ 4), (0, u "java/lang/Object")] 7

/-- java/lang/Comparable -/
def k3 : Class := { plain "java/lang/Comparable" (some 0) with
  accessFlags := 1537
  interfaces := #[]
  cf := some (fileOf pool3 1 #[] #[] 1537 3 #[] #[])
  fields := #[]
  methods := #[]
  instanceTypes := #[]
  staticTypes := #[]
  resolved := Array.replicate 12 none
  statics := none }

def pool4 : Array CpInfo := pool [(2, .class_ 4), (1, u "java/lang/CharSequence"), (42, .class_ 48), (0, u "java/lang/CharSequence$1CodePointIterator"), (10, .class_ 60), (0, u "java/lang/CharSequence$1CharIterator"), (5, .class_ 67), (0, u "java/lang/Object")] 63

/-- java/lang/CharSequence -/
def k4 : Class := { plain "java/lang/CharSequence" (some 0) with
  accessFlags := 1537
  interfaces := #[]
  cf := some (fileOf pool4 2 #[.nestMembers #[47, 59]] #[] 1537 66 #[] #[])
  fields := #[]
  methods := #[]
  instanceTypes := #[]
  staticTypes := #[]
  resolved := Array.replicate 131 none
  statics := none }

def pool5 : Array CpInfo := pool [(1, .class_ 2), (0, u "java/lang/constant/Constable"), (0, .class_ 4), (0, u "java/lang/Object")] 6

/-- java/lang/constant/Constable -/
def k5 : Class := { plain "java/lang/constant/Constable" (some 0) with
  accessFlags := 1537
  interfaces := #[]
  cf := some (fileOf pool5 1 #[] #[] 1537 3 #[] #[])
  fields := #[]
  methods := #[]
  instanceTypes := #[]
  staticTypes := #[]
  resolved := Array.replicate 11 none
  statics := none }

def pool6 : Array CpInfo := pool [(1, .class_ 2), (0, u "java/lang/constant/ConstantDesc"), (0, .class_ 4), (0, u "java/lang/Object")] 32

/-- java/lang/constant/ConstantDesc -/
def k6 : Class := { plain "java/lang/constant/ConstantDesc" (some 0) with
  accessFlags := 1537
  interfaces := #[]
  cf := some (fileOf pool6 1 #[] #[] 1537 3 #[] #[])
  fields := #[]
  methods := #[]
  instanceTypes := #[]
  staticTypes := #[]
  resolved := Array.replicate 37 none
  statics := none }

def pool7 : Array CpInfo := pool [(1, .methodref 2 3), (0, .class_ 4), (0, .nameAndType 5 6), (0, u "java/lang/Object"), (0, u "<init>"), (0, u "()V"), (2, .fieldref 10 11), (0, .class_ 12), (0, .nameAndType 13 14), (0, u "java/lang/String"), (0, u "value"), (0, u "[B"), (0, .fieldref 10 16), (0, .nameAndType 17 18), (0, u "coder"), (0, u "B"), (2, u "hash"), (0, u "I"), (2, u "hashIsZero"), (0, u "Z"), (0, .methodref 10 28), (0, .nameAndType 5 29), (0, u "([CIILjava/lang/Void;)V"), (8, .fieldref 10 39), (0, .nameAndType 40 26), (0, u "COMPACT_STRINGS"), (1, .class_ 44), (1, u "java/lang/StringUTF16"), (0, u "compress"), (1, .methodref 42 48), (0, .nameAndType 49 50), (0, u "coderFromArrayLen"), (0, u "([BI)B"), (56, .class_ 109), (1, u "java/lang/StringLatin1"), (32, u "()Z"), (34, .methodref 42 178), (0, .nameAndType 45 179), (0, u "([CII)[B"), (31, u "([BB)V"), (122, u "()I"), (0, .methodref 10 336), (0, .nameAndType 17 337), (0, u "()B"), (25, u "([BI)C"), (27, u "(II)V"), (35, u "(I)C"), (64, .methodref 10 493), (0, .nameAndType 494 142), (0, u "isLatin1"), (0, .methodref 107 496), (0, .nameAndType 497 363), (0, u "charAt"), (3, u "checkIndex"), (3, .methodref 10 506), (0, .nameAndType 507 334), (0, u "length"), (5, u "checkFromToIndex"), (7, .methodref 10 522), (0, .nameAndType 523 524), (0, u "checkBoundsBeginEnd"), (0, u "(III)V"), (50, .class_ 576), (0, u "java/lang/CharSequence"), (22, u "CASE_INSENSITIVE_ORDER"), (0, u "Ljava/util/Comparator;"), (32, .methodref 10 634), (0, .nameAndType 635 636), (0, u "indexOf"), (0, u "(II)I"), (0, .methodref 107 638), (0, .nameAndType 635 639), (0, u "([BIII)I"), (41, .methodref 10 682), (0, .nameAndType 683 684), (0, u "substring"), (0, u "(II)Ljava/lang/String;"), (0, .methodref 107 686), (0, .nameAndType 687 688), (0, u "newString"), (0, u "([BII)Ljava/lang/String;"), (3, u "isEmpty"), (72, u "(I)I"), (126, u "(I)Ljava/lang/String;"), (117, u "([C)V"), (42, .fieldref 1054 1055), (0, .class_ 1056), (0, .nameAndType 1057 1058), (0, u "jdk/internal/util/Preconditions"), (0, u "SIOOBE_FORMATTER"), (0, u "Ljava/util/function/BiFunction;"), (0, .methodref 1054 1060), (0, .nameAndType 501 1061), (0, u "(IILjava/util/function/BiFunction;)I"), (0, .methodref 1054 1063), (0, .nameAndType 513 1064), (0, u "(IIILjava/util/function/BiFunction;)I"), (36, u "serialPersistentFields"), (0, u "[Ljava/io/ObjectStreamField;"), (0, .class_ 1104), (0, u "java/lang/String$CaseInsensitiveComparator"), (1, .class_ 1107), (0, u "java/io/Serializable"), (0, .class_ 1109), (0, u "java/lang/Comparable"), (0, .class_ 1111), (0, u "java/lang/constant/Constable"), (0, .class_ 1113), (0, u "java/lang/constant/ConstantDesc"), (2, u "serialVersionUID"), (0, u "J"), (3, u "REPL"), (0, u "C"), (2, u "LATIN1"), (1, u "UTF16")] 323

def k7m0 : Method := { name := "<init>", desc := "()V", sig := { parameters := [], returnType := none }, accessFlags := 1, code := none }
def k7c1 : Code := { maxStack := 5, maxLocals := 2, code := jdk_42_method_3_code, exceptionTable := #[], attributes := #[] }
def k7m1 : Method := { name := "<init>", desc := "([C)V", sig := { parameters := [(.array .char)], returnType := none }, accessFlags := 1, code := some k7c1 }
def k7c2 : Code := { maxStack := 2, maxLocals := 1, code := jdk_42_method_54_code, exceptionTable := #[], attributes := #[] }
def k7m2 : Method := { name := "length", desc := "()I", sig := { parameters := [], returnType := some .int }, accessFlags := 1, code := some k7c2 }
def k7c3 : Code := { maxStack := 1, maxLocals := 1, code := jdk_42_method_55_code, exceptionTable := #[], attributes := #[] }
def k7m3 : Method := { name := "isEmpty", desc := "()Z", sig := { parameters := [], returnType := some .boolean }, accessFlags := 1, code := some k7c3 }
def k7c4 : Code := { maxStack := 2, maxLocals := 2, code := jdk_42_method_56_code, exceptionTable := #[], attributes := #[] }
def k7m4 : Method := { name := "charAt", desc := "(I)C", sig := { parameters := [.int], returnType := some .char }, accessFlags := 1, code := some k7c4 }
def k7c5 : Code := { maxStack := 3, maxLocals := 2, code := jdk_42_method_79_code, exceptionTable := #[], attributes := #[] }
def k7m5 : Method := { name := "indexOf", desc := "(I)I", sig := { parameters := [.int], returnType := some .int }, accessFlags := 1, code := some k7c5 }
def k7c6 : Code := { maxStack := 4, maxLocals := 3, code := jdk_42_method_80_code, exceptionTable := #[], attributes := #[] }
def k7m6 : Method := { name := "indexOf", desc := "(II)I", sig := { parameters := [.int, .int], returnType := some .int }, accessFlags := 1, code := some k7c6 }
def k7c7 : Code := { maxStack := 3, maxLocals := 2, code := jdk_42_method_91_code, exceptionTable := #[], attributes := #[] }
def k7m7 : Method := { name := "substring", desc := "(I)Ljava/lang/String;", sig := { parameters := [.int], returnType := some (.object "java/lang/String") }, accessFlags := 1, code := some k7c7 }
def k7c8 : Code := { maxStack := 3, maxLocals := 5, code := jdk_42_method_92_code, exceptionTable := #[], attributes := #[] }
def k7m8 : Method := { name := "substring", desc := "(II)Ljava/lang/String;", sig := { parameters := [.int, .int], returnType := some (.object "java/lang/String") }, accessFlags := 1, code := some k7c8 }
def k7c9 : Code := { maxStack := 4, maxLocals := 6, code := jdk_42_method_149_code, exceptionTable := #[], attributes := #[] }
def k7m9 : Method := { name := "<init>", desc := "([CIILjava/lang/Void;)V", sig := { parameters := [(.array .char), .int, .int, (.object "java/lang/Void")], returnType := none }, accessFlags := 2, code := some k7c9 }
def k7c10 : Code := { maxStack := 2, maxLocals := 3, code := jdk_42_method_151_code, exceptionTable := #[], attributes := #[] }
def k7m10 : Method := { name := "<init>", desc := "([BB)V", sig := { parameters := [(.array .byte), .byte], returnType := none }, accessFlags := 0, code := some k7c10 }
def k7c11 : Code := { maxStack := 1, maxLocals := 1, code := jdk_42_method_152_code, exceptionTable := #[], attributes := #[] }
def k7m11 : Method := { name := "coder", desc := "()B", sig := { parameters := [], returnType := some .byte }, accessFlags := 0, code := some k7c11 }
def k7c12 : Code := { maxStack := 1, maxLocals := 1, code := jdk_42_method_154_code, exceptionTable := #[], attributes := #[] }
def k7m12 : Method := { name := "isLatin1", desc := "()Z", sig := { parameters := [], returnType := some .boolean }, accessFlags := 0, code := some k7c12 }
def k7c13 : Code := { maxStack := 3, maxLocals := 2, code := jdk_42_method_155_code, exceptionTable := #[], attributes := #[] }
def k7m13 : Method := { name := "checkIndex", desc := "(II)V", sig := { parameters := [.int, .int], returnType := none }, accessFlags := 8, code := some k7c13 }
def k7c14 : Code := { maxStack := 4, maxLocals := 3, code := jdk_42_method_158_code, exceptionTable := #[], attributes := #[] }
def k7m14 : Method := { name := "checkBoundsBeginEnd", desc := "(III)V", sig := { parameters := [.int, .int, .int], returnType := none }, accessFlags := 8, code := some k7c14 }
/-- java/lang/String -/
def k7 : Class := { plain "java/lang/String" (some 0) with
  accessFlags := 49
  interfaces := #[2, 3, 4, 5, 6]
  cf := some (fileOf pool7 10 #[.nestMembers #[1103]] #[{ accessFlags := 1, nameIndex := 5, descriptorIndex := 6, attributes := #[] }, { accessFlags := 1, nameIndex := 5, descriptorIndex := 1010, attributes := #[] }, { accessFlags := 1, nameIndex := 507, descriptorIndex := 334, attributes := #[] }, { accessFlags := 1, nameIndex := 692, descriptorIndex := 142, attributes := #[] }, { accessFlags := 1, nameIndex := 497, descriptorIndex := 427, attributes := #[] }, { accessFlags := 1, nameIndex := 635, descriptorIndex := 765, attributes := #[] }, { accessFlags := 1, nameIndex := 635, descriptorIndex := 636, attributes := #[] }, { accessFlags := 1, nameIndex := 683, descriptorIndex := 892, attributes := #[] }, { accessFlags := 1, nameIndex := 683, descriptorIndex := 684, attributes := #[] }, { accessFlags := 2, nameIndex := 5, descriptorIndex := 29, attributes := #[] }, { accessFlags := 0, nameIndex := 5, descriptorIndex := 211, attributes := #[] }, { accessFlags := 0, nameIndex := 17, descriptorIndex := 337, attributes := #[] }, { accessFlags := 0, nameIndex := 494, descriptorIndex := 142, attributes := #[] }, { accessFlags := 8, nameIndex := 501, descriptorIndex := 391, attributes := #[] }, { accessFlags := 8, nameIndex := 523, descriptorIndex := 524, attributes := #[] }] 49 2 #[1106, 1108, 575, 1110, 1112] #[{ accessFlags := 18, nameIndex := 13, descriptorIndex := 14, attributes := #[] }, { accessFlags := 18, nameIndex := 17, descriptorIndex := 18, attributes := #[] }, { accessFlags := 2, nameIndex := 21, descriptorIndex := 22, attributes := #[] }, { accessFlags := 2, nameIndex := 25, descriptorIndex := 26, attributes := #[] }, { accessFlags := 26, nameIndex := 1116, descriptorIndex := 1117, attributes := #[] }, { accessFlags := 24, nameIndex := 40, descriptorIndex := 26, attributes := #[] }, { accessFlags := 26, nameIndex := 1101, descriptorIndex := 1102, attributes := #[] }, { accessFlags := 26, nameIndex := 1121, descriptorIndex := 1122, attributes := #[] }, { accessFlags := 25, nameIndex := 599, descriptorIndex := 600, attributes := #[] }, { accessFlags := 24, nameIndex := 1125, descriptorIndex := 18, attributes := #[] }, { accessFlags := 24, nameIndex := 1127, descriptorIndex := 18, attributes := #[] }])
  fields := #[{ name := "value", type := (.array .byte), accessFlags := 18, slot := 0, constantValue := 0 }, { name := "coder", type := .byte, accessFlags := 18, slot := 1, constantValue := 0 }, { name := "hash", type := .int, accessFlags := 2, slot := 2, constantValue := 0 }, { name := "hashIsZero", type := .boolean, accessFlags := 2, slot := 3, constantValue := 0 }, { name := "serialVersionUID", type := .long, accessFlags := 26, slot := 0, constantValue := 0 }, { name := "COMPACT_STRINGS", type := .boolean, accessFlags := 24, slot := 1, constantValue := 0 }, { name := "serialPersistentFields", type := (.array (.object "java/io/ObjectStreamField")), accessFlags := 26, slot := 2, constantValue := 0 }, { name := "REPL", type := .char, accessFlags := 26, slot := 3, constantValue := 0 }, { name := "CASE_INSENSITIVE_ORDER", type := (.object "java/util/Comparator"), accessFlags := 25, slot := 4, constantValue := 0 }, { name := "LATIN1", type := .byte, accessFlags := 24, slot := 5, constantValue := 0 }, { name := "UTF16", type := .byte, accessFlags := 24, slot := 6, constantValue := 0 }]
  methods := #[k7m0, k7m1, k7m2, k7m3, k7m4, k7m5, k7m6, k7m7, k7m8, k7m9, k7m10, k7m11, k7m12, k7m13, k7m14]
  instanceTypes := #[(.array .byte), .byte, .int, .boolean]
  staticTypes := #[.long, .boolean, (.array (.object "java/io/ObjectStreamField")), .char, (.object "java/util/Comparator"), .byte, .byte]
  resolved := Array.replicate 1451 none
  statics := some 0 }

def pool8 : Array CpInfo := pool [(6, .class_ 8), (1, u "java/lang/Object"), (0, u "<init>"), (0, u "()V"), (1, .class_ 14), (1, u "java/lang/StringUTF16"), (31, u "$assertionsDisabled"), (0, u "Z"), (13, u "HI_BYTE_SHIFT"), (0, u "I"), (2, u "LO_BYTE_SHIFT"), (49, .methodref 12 116), (0, .nameAndType 117 118), (0, u "compress"), (0, u "([CI[BII)I"), (3, u "([CII)[B"), (138, u "coderFromArrayLen"), (0, u "([BI)B"), (106, .class_ 371), (1, u "java/lang/StringUTF16$LinesSpliterator"), (58, u "MAX_LENGTH"), (196, .class_ 628), (0, u "java/lang/StringUTF16$CodePointsSpliterator"), (0, .class_ 630), (0, u "java/lang/StringUTF16$CharsSpliterator")] 4

def k8m0 : Method := { name := "<init>", desc := "()V", sig := { parameters := [], returnType := none }, accessFlags := 0, code := none }
def k8c1 : Code := { maxStack := 2, maxLocals := 2, code := jdk_52_method_15_code, exceptionTable := #[], attributes := #[] }
def k8m1 : Method := { name := "coderFromArrayLen", desc := "([BI)B", sig := { parameters := [(.array .byte), .int], returnType := some .byte }, accessFlags := 8, code := some k8c1 }
def k8c2 : Code := { maxStack := 5, maxLocals := 6, code := jdk_52_method_16_code, exceptionTable := #[], attributes := #[] }
def k8m2 : Method := { name := "compress", desc := "([CII)[B", sig := { parameters := [(.array .char), .int, .int], returnType := some (.array .byte) }, accessFlags := 9, code := some k8c2 }
def k8c3 : Code := { maxStack := 3, maxLocals := 7, code := jdk_52_method_21_code, exceptionTable := #[], attributes := #[] }
def k8m3 : Method := { name := "compress", desc := "([CI[BII)I", sig := { parameters := [(.array .char), .int, (.array .byte), .int, .int], returnType := some .int }, accessFlags := 9, code := some k8c3 }
/-- java/lang/StringUTF16 -/
def k8 : Class := { plain "java/lang/StringUTF16" (some 0) with
  accessFlags := 48
  interfaces := #[]
  cf := some (fileOf pool8 12 #[.nestMembers #[627, 629, 369]] #[{ accessFlags := 0, nameIndex := 9, descriptorIndex := 10, attributes := #[] }, { accessFlags := 8, nameIndex := 261, descriptorIndex := 262, attributes := #[] }, { accessFlags := 9, nameIndex := 117, descriptorIndex := 122, attributes := #[] }, { accessFlags := 9, nameIndex := 117, descriptorIndex := 118, attributes := #[] }] 48 6 #[] #[{ accessFlags := 26, nameIndex := 61, descriptorIndex := 62, attributes := #[] }, { accessFlags := 26, nameIndex := 65, descriptorIndex := 62, attributes := #[] }, { accessFlags := 24, nameIndex := 430, descriptorIndex := 62, attributes := #[] }, { accessFlags := 4120, nameIndex := 46, descriptorIndex := 47, attributes := #[] }])
  fields := #[{ name := "HI_BYTE_SHIFT", type := .int, accessFlags := 26, slot := 0, constantValue := 0 }, { name := "LO_BYTE_SHIFT", type := .int, accessFlags := 26, slot := 1, constantValue := 0 }, { name := "MAX_LENGTH", type := .int, accessFlags := 24, slot := 2, constantValue := 0 }, { name := "$assertionsDisabled", type := .boolean, accessFlags := 4120, slot := 3, constantValue := 0 }]
  methods := #[k8m0, k8m1, k8m2, k8m3]
  instanceTypes := #[]
  staticTypes := #[.int, .int, .int, .boolean]
  resolved := Array.replicate 635 none
  statics := none }

def pool9 : Array CpInfo := pool [(1, .methodref 2 3), (0, .class_ 4), (0, .nameAndType 5 6), (0, u "java/lang/Object"), (0, u "<init>"), (0, u "()V"), (0, .class_ 8), (0, u "com/example/vellum/vellum/types/DataValue")] 4

def k9c0 : Code := { maxStack := 1, maxLocals := 1, code := prog_31_method_1_code, exceptionTable := #[], attributes := #[] }
def k9m0 : Method := { name := "<init>", desc := "()V", sig := { parameters := [], returnType := none }, accessFlags := 0, code := some k9c0 }
/-- com/example/vellum/vellum/types/DataValue -/
def k9 : Class := { plain "com/example/vellum/vellum/types/DataValue" (some 0) with
  accessFlags := 1057
  interfaces := #[]
  cf := some (fileOf pool9 7 #[] #[{ accessFlags := 0, nameIndex := 5, descriptorIndex := 6, attributes := #[] }] 1057 2 #[] #[])
  fields := #[]
  methods := #[k9m0]
  instanceTypes := #[]
  staticTypes := #[]
  resolved := Array.replicate 13 none
  statics := none }

def pool10 : Array CpInfo := pool [(1, .methodref 2 3), (0, .class_ 4), (0, .nameAndType 5 6), (0, u "com/example/vellum/vellum/types/DataValue"), (0, u "<init>"), (0, u "()V"), (0, .class_ 8), (0, u "com/example/vellum/vellum/types/RuleCheck"), (0, .methodref 7 3), (0, .methodref 11 12), (0, .class_ 13), (0, .nameAndType 14 15), (0, u "com/example/vellum/vellum/types/DvUri"), (0, u "checkValue"), (0, u "(Lcom/example/vellum/vellum/types/RuleCheck;Ljava/lang/String;)V"), (0, .methodref 7 17), (0, .nameAndType 18 6), (0, u "enforce"), (0, .fieldref 11 20), (0, .nameAndType 21 22), (0, u "value"), (0, u "Ljava/lang/String;"), (0, .string 21), (0, .methodref 7 25), (0, .nameAndType 26 27), (0, u "requirePresent"), (0, u "(Ljava/lang/Object;Ljava/lang/String;)V"), (0, .string 29), (0, u "Value_valid"), (0, .methodref 7 31), (0, .nameAndType 32 33), (0, u "requireNotEmpty"), (0, u "(Ljava/lang/String;Ljava/lang/String;Ljava/lang/String;)V"), (4, .string 39), (0, u ""), (1, .class_ 43), (1, u "java/lang/String"), (0, u "substring"), (17, .methodref 41 63), (0, .nameAndType 64 65), (0, u "indexOf"), (0, u "(I)I"), (0, .methodref 41 67), (0, .nameAndType 44 68), (0, u "(I)Ljava/lang/String;"), (25, u "(Ljava/lang/String;)V"), (3, u "()Ljava/lang/String;"), (4, u "fragmentId")] 3

def k10c0 : Code := { maxStack := 2, maxLocals := 3, code := prog_61_method_1_code, exceptionTable := #[], attributes := #[] }
def k10m0 : Method := { name := "<init>", desc := "(Ljava/lang/String;)V", sig := { parameters := [(.object "java/lang/String")], returnType := none }, accessFlags := 1, code := some k10c0 }
def k10c1 : Code := { maxStack := 4, maxLocals := 2, code := prog_61_method_3_code, exceptionTable := #[], attributes := #[] }
def k10m1 : Method := { name := "checkValue", desc := "(Lcom/example/vellum/vellum/types/RuleCheck;Ljava/lang/String;)V", sig := { parameters := [(.object "com/example/vellum/vellum/types/RuleCheck"), (.object "java/lang/String")], returnType := none }, accessFlags := 10, code := some k10c1 }
def k10c2 : Code := { maxStack := 3, maxLocals := 2, code := prog_61_method_8_code, exceptionTable := #[], attributes := #[] }
def k10m2 : Method := { name := "fragmentId", desc := "()Ljava/lang/String;", sig := { parameters := [], returnType := some (.object "java/lang/String") }, accessFlags := 1, code := some k10c2 }
/-- com/example/vellum/vellum/types/DvUri -/
def k10 : Class := { plain "com/example/vellum/vellum/types/DvUri" (some 9) with
  accessFlags := 33
  interfaces := #[]
  cf := some (fileOf pool10 11 #[] #[{ accessFlags := 1, nameIndex := 5, descriptorIndex := 94, attributes := #[] }, { accessFlags := 10, nameIndex := 14, descriptorIndex := 15, attributes := #[] }, { accessFlags := 1, nameIndex := 103, descriptorIndex := 98, attributes := #[] }] 33 2 #[] #[{ accessFlags := 18, nameIndex := 21, descriptorIndex := 22, attributes := #[] }])
  fields := #[{ name := "value", type := (.object "java/lang/String"), accessFlags := 18, slot := 0, constantValue := 0 }]
  methods := #[k10m0, k10m1, k10m2]
  instanceTypes := #[(.object "java/lang/String")]
  staticTypes := #[]
  resolved := Array.replicate 107 none
  statics := none }

def pool11 : Array CpInfo := pool [(1, .methodref 2 3), (0, .class_ 4), (0, .nameAndType 5 6), (0, u "java/lang/Object"), (0, u "<init>"), (0, u "()V"), (1, .class_ 10), (1, u "com/example/vellum/vellum/types/RuleCheck"), (8, .nameAndType 21 22), (1, u "isEmpty"), (0, u "()Z"), (8, .methodref 32 19), (0, .class_ 33), (0, u "java/lang/String"), (6, u "(Ljava/lang/String;Ljava/lang/String;Ljava/lang/String;)V"), (0, .fieldref 8 42), (0, .nameAndType 43 44), (0, u "broken"), (0, u "Ljava/util/List;"), (16, u "MISSING_ATTRIBUTE"), (0, u "Ljava/lang/String;"), (1, u "WRONG_TYPE"), (2, u "UNKNOWN_TYPE"), (6, u "requirePresent"), (0, u "(Ljava/lang/Object;Ljava/lang/String;)V"), (1, u "requireNotEmpty"), (2, u "enforce")] 19

def k11c0 : Code := { maxStack := 1, maxLocals := 1, code := prog_86_method_1_code, exceptionTable := #[], attributes := #[] }
def k11m0 : Method := { name := "<init>", desc := "()V", sig := { parameters := [], returnType := none }, accessFlags := 1, code := some k11c0 }
def k11c1 : Code := { maxStack := 2, maxLocals := 3, code := prog_86_method_2_code, exceptionTable := #[], attributes := #[] }
def k11m1 : Method := { name := "requirePresent", desc := "(Ljava/lang/Object;Ljava/lang/String;)V", sig := { parameters := [(.object "java/lang/Object"), (.object "java/lang/String")], returnType := none }, accessFlags := 1, code := some k11c1 }
def k11c2 : Code := { maxStack := 3, maxLocals := 4, code := prog_86_method_4_code, exceptionTable := #[], attributes := #[] }
def k11m2 : Method := { name := "requireNotEmpty", desc := "(Ljava/lang/String;Ljava/lang/String;Ljava/lang/String;)V", sig := { parameters := [(.object "java/lang/String"), (.object "java/lang/String"), (.object "java/lang/String")], returnType := none }, accessFlags := 1, code := some k11c2 }
def k11c3 : Code := { maxStack := 3, maxLocals := 1, code := prog_86_method_6_code, exceptionTable := #[], attributes := #[] }
def k11m3 : Method := { name := "enforce", desc := "()V", sig := { parameters := [], returnType := none }, accessFlags := 1, code := some k11c3 }
/-- com/example/vellum/vellum/types/RuleCheck -/
def k11 : Class := { plain "com/example/vellum/vellum/types/RuleCheck" (some 0) with
  accessFlags := 49
  interfaces := #[]
  cf := some (fileOf pool11 8 #[] #[{ accessFlags := 1, nameIndex := 5, descriptorIndex := 6, attributes := #[] }, { accessFlags := 1, nameIndex := 74, descriptorIndex := 75, attributes := #[] }, { accessFlags := 1, nameIndex := 77, descriptorIndex := 40, attributes := #[] }, { accessFlags := 1, nameIndex := 80, descriptorIndex := 6, attributes := #[] }] 49 2 #[] #[{ accessFlags := 25, nameIndex := 61, descriptorIndex := 62, attributes := #[] }, { accessFlags := 25, nameIndex := 64, descriptorIndex := 62, attributes := #[] }, { accessFlags := 25, nameIndex := 67, descriptorIndex := 62, attributes := #[] }, { accessFlags := 2, nameIndex := 43, descriptorIndex := 44, attributes := #[] }])
  fields := #[{ name := "MISSING_ATTRIBUTE", type := (.object "java/lang/String"), accessFlags := 25, slot := 0, constantValue := 0 }, { name := "WRONG_TYPE", type := (.object "java/lang/String"), accessFlags := 25, slot := 1, constantValue := 0 }, { name := "UNKNOWN_TYPE", type := (.object "java/lang/String"), accessFlags := 25, slot := 2, constantValue := 0 }, { name := "broken", type := (.object "java/util/List"), accessFlags := 2, slot := 0, constantValue := 0 }]
  methods := #[k11m0, k11m1, k11m2, k11m3]
  instanceTypes := #[(.object "java/util/List")]
  staticTypes := #[(.object "java/lang/String"), (.object "java/lang/String"), (.object "java/lang/String")]
  resolved := Array.replicate 100 none
  statics := none }

def pool12 : Array CpInfo := pool [(1, .class_ 2), (0, u "java/lang/String"), (1, .class_ 6), (1, u "java/lang/Object"), (0, u "<init>"), (0, u "()V"), (0, .methodref 1 10), (0, .nameAndType 11 12), (0, u "checkIndex"), (0, u "(II)V"), (1, .class_ 16), (1, u "java/lang/StringLatin1"), (21, .methodref 39 40), (0, .class_ 41), (0, .nameAndType 42 43), (0, u "java/lang/Math"), (0, u "min"), (0, u "(II)I"), (9, u "([BI)C"), (34, .methodref 14 89), (0, .nameAndType 90 91), (0, u "canEncode"), (0, u "(I)Z"), (0, .methodref 39 93), (0, .nameAndType 94 43), (0, u "max"), (0, .methodref 14 96), (0, .nameAndType 97 98), (0, u "indexOfChar"), (0, u "([BIII)I"), (2, u "indexOf"), (10, .methodref 1 113), (0, .nameAndType 7 114), (0, u "([BB)V"), (6, u "$assertionsDisabled"), (0, u "Z"), (8, .class_ 133), (1, u "java/util/Arrays"), (17, .string 152), (0, u ""), (43, u "newString"), (0, u "([BII)Ljava/lang/String;"), (23, .class_ 223), (1, u "java/lang/StringLatin1$LinesSpliterator"), (8, .methodref 131 233), (0, .nameAndType 234 235), (0, u "copyOfRange"), (0, u "([BII)[B"), (16, u "charAt"), (137, .class_ 391), (0, u "java/lang/StringLatin1$CharsSpliterator")] 3

def k12m0 : Method := { name := "<init>", desc := "()V", sig := { parameters := [], returnType := none }, accessFlags := 0, code := none }
def k12c1 : Code := { maxStack := 2, maxLocals := 2, code := jdk_43_method_2_code, exceptionTable := #[], attributes := #[] }
def k12m1 : Method := { name := "charAt", desc := "([BI)C", sig := { parameters := [(.array .byte), .int], returnType := some .char }, accessFlags := 9, code := some k12c1 }
def k12c2 : Code := { maxStack := 2, maxLocals := 1, code := jdk_43_method_4_code, exceptionTable := #[], attributes := #[] }
def k12m2 : Method := { name := "canEncode", desc := "(I)Z", sig := { parameters := [.int], returnType := some .boolean }, accessFlags := 9, code := some k12c2 }
def k12c3 : Code := { maxStack := 4, maxLocals := 4, code := jdk_43_method_22_code, exceptionTable := #[], attributes := #[] }
def k12m3 : Method := { name := "indexOf", desc := "([BIII)I", sig := { parameters := [(.array .byte), .int, .int, .int], returnType := some .int }, accessFlags := 9, code := some k12c3 }
def k12c4 : Code := { maxStack := 2, maxLocals := 6, code := jdk_43_method_23_code, exceptionTable := #[], attributes := #[] }
def k12m4 : Method := { name := "indexOfChar", desc := "([BIII)I", sig := { parameters := [(.array .byte), .int, .int, .int], returnType := some .int }, accessFlags := 10, code := some k12c4 }
def k12c5 : Code := { maxStack := 6, maxLocals := 3, code := jdk_43_method_47_code, exceptionTable := #[], attributes := #[] }
def k12m5 : Method := { name := "newString", desc := "([BII)Ljava/lang/String;", sig := { parameters := [(.array .byte), .int, .int], returnType := some (.object "java/lang/String") }, accessFlags := 9, code := some k12c5 }
/-- java/lang/StringLatin1 -/
def k12 : Class := { plain "java/lang/StringLatin1" (some 0) with
  accessFlags := 48
  interfaces := #[]
  cf := some (fileOf pool12 14 #[.nestMembers #[390, 221]] #[{ accessFlags := 0, nameIndex := 7, descriptorIndex := 8, attributes := #[] }, { accessFlags := 9, nameIndex := 252, descriptorIndex := 53, attributes := #[] }, { accessFlags := 9, nameIndex := 90, descriptorIndex := 91, attributes := #[] }, { accessFlags := 9, nameIndex := 101, descriptorIndex := 98, attributes := #[] }, { accessFlags := 10, nameIndex := 97, descriptorIndex := 98, attributes := #[] }, { accessFlags := 9, nameIndex := 196, descriptorIndex := 197, attributes := #[] }] 48 4 #[] #[{ accessFlags := 4120, nameIndex := 121, descriptorIndex := 122, attributes := #[] }])
  fields := #[{ name := "$assertionsDisabled", type := .boolean, accessFlags := 4120, slot := 0, constantValue := 0 }]
  methods := #[k12m0, k12m1, k12m2, k12m3, k12m4, k12m5]
  instanceTypes := #[]
  staticTypes := #[.boolean]
  resolved := Array.replicate 395 none
  statics := none }

def pool13 : Array CpInfo := pool [(1, .class_ 2), (0, u "java/lang/Math"), (1, .class_ 6), (1, u "java/lang/Object"), (0, u "<init>"), (0, u "()V"), (89, .class_ 100), (1, u "java/lang/Math$RandomNumberGeneratorHolder"), (71, u "negativeZeroFloatBits"), (0, u "J"), (2, u "negativeZeroDoubleBits"), (21, u "max"), (2, u "min"), (43, u "$assertionsDisabled"), (0, u "Z"), (88, u "(II)I"), (2, u "twoToTheDoubleScaleDown"), (0, u "D"), (4, u "twoToTheDoubleScaleUp"), (9, u "E"), (3, u "PI"), (2, u "TAU"), (2, u "DEGREES_TO_RADIANS"), (0, u "RADIANS_TO_DEGREES")] 94

def k13m0 : Method := { name := "<init>", desc := "()V", sig := { parameters := [], returnType := none }, accessFlags := 2, code := none }
def k13c1 : Code := { maxStack := 2, maxLocals := 2, code := jdk_29_method_65_code, exceptionTable := #[], attributes := #[] }
def k13m1 : Method := { name := "max", desc := "(II)I", sig := { parameters := [.int, .int], returnType := some .int }, accessFlags := 9, code := some k13c1 }
def k13c2 : Code := { maxStack := 2, maxLocals := 2, code := jdk_29_method_69_code, exceptionTable := #[], attributes := #[] }
def k13m2 : Method := { name := "min", desc := "(II)I", sig := { parameters := [.int, .int], returnType := some .int }, accessFlags := 9, code := some k13c2 }
/-- java/lang/Math -/
def k13 : Class := { plain "java/lang/Math" (some 0) with
  accessFlags := 49
  interfaces := #[]
  cf := some (fileOf pool13 1 #[.nestMembers #[98]] #[{ accessFlags := 2, nameIndex := 7, descriptorIndex := 8, attributes := #[] }, { accessFlags := 9, nameIndex := 198, descriptorIndex := 335, attributes := #[] }, { accessFlags := 9, nameIndex := 201, descriptorIndex := 335, attributes := #[] }] 49 4 #[] #[{ accessFlags := 25, nameIndex := 354, descriptorIndex := 339, attributes := #[] }, { accessFlags := 25, nameIndex := 358, descriptorIndex := 339, attributes := #[] }, { accessFlags := 25, nameIndex := 361, descriptorIndex := 339, attributes := #[] }, { accessFlags := 26, nameIndex := 364, descriptorIndex := 339, attributes := #[] }, { accessFlags := 26, nameIndex := 365, descriptorIndex := 339, attributes := #[] }, { accessFlags := 26, nameIndex := 172, descriptorIndex := 173, attributes := #[] }, { accessFlags := 26, nameIndex := 176, descriptorIndex := 173, attributes := #[] }, { accessFlags := 8, nameIndex := 344, descriptorIndex := 339, attributes := #[] }, { accessFlags := 8, nameIndex := 338, descriptorIndex := 339, attributes := #[] }, { accessFlags := 4120, nameIndex := 245, descriptorIndex := 246, attributes := #[] }])
  fields := #[{ name := "E", type := .double, accessFlags := 25, slot := 0, constantValue := 0 }, { name := "PI", type := .double, accessFlags := 25, slot := 1, constantValue := 0 }, { name := "TAU", type := .double, accessFlags := 25, slot := 2, constantValue := 0 }, { name := "DEGREES_TO_RADIANS", type := .double, accessFlags := 26, slot := 3, constantValue := 0 }, { name := "RADIANS_TO_DEGREES", type := .double, accessFlags := 26, slot := 4, constantValue := 0 }, { name := "negativeZeroFloatBits", type := .long, accessFlags := 26, slot := 5, constantValue := 0 }, { name := "negativeZeroDoubleBits", type := .long, accessFlags := 26, slot := 6, constantValue := 0 }, { name := "twoToTheDoubleScaleUp", type := .double, accessFlags := 8, slot := 7, constantValue := 0 }, { name := "twoToTheDoubleScaleDown", type := .double, accessFlags := 8, slot := 8, constantValue := 0 }, { name := "$assertionsDisabled", type := .boolean, accessFlags := 4120, slot := 9, constantValue := 0 }]
  methods := #[k13m0, k13m1, k13m2]
  instanceTypes := #[]
  staticTypes := #[.double, .double, .double, .double, .double, .long, .long, .double, .double, .boolean]
  resolved := Array.replicate 460 none
  statics := none }

def pool14 : Array CpInfo := pool [(2, .class_ 4), (1, u "java/lang/Object"), (0, u "<init>"), (0, u "()V"), (17, .class_ 26), (1, u "jdk/internal/util/Preconditions"), (6, u "checkIndex"), (13, u "checkFromToIndex"), (7, .class_ 56), (0, u "jdk/internal/util/Preconditions$4"), (57, .class_ 115), (0, u "jdk/internal/util/Preconditions$1"), (7, u "SIOOBE_FORMATTER"), (0, u "Ljava/util/function/BiFunction;"), (0, .class_ 126), (0, u "jdk/internal/util/Preconditions$2"), (3, u "AIOOBE_FORMATTER"), (0, .class_ 132), (0, u "jdk/internal/util/Preconditions$3"), (3, u "IOOBE_FORMATTER"), (41, u "(IILjava/util/function/BiFunction;)I"), (4, u "(IIILjava/util/function/BiFunction;)I")] 10

def k14m0 : Method := { name := "<init>", desc := "()V", sig := { parameters := [], returnType := none }, accessFlags := 1, code := none }
def k14c1 : Code := { maxStack := 3, maxLocals := 3, code := jdk_41_method_11_code, exceptionTable := #[], attributes := #[] }
def k14m1 : Method := { name := "checkIndex", desc := "(IILjava/util/function/BiFunction;)I", sig := { parameters := [.int, .int, (.object "java/util/function/BiFunction")], returnType := some .int }, accessFlags := 9, code := some k14c1 }
def k14c2 : Code := { maxStack := 4, maxLocals := 4, code := jdk_41_method_12_code, exceptionTable := #[], attributes := #[] }
def k14m2 : Method := { name := "checkFromToIndex", desc := "(IIILjava/util/function/BiFunction;)I", sig := { parameters := [.int, .int, .int, (.object "java/util/function/BiFunction")], returnType := some .int }, accessFlags := 9, code := some k14c2 }
/-- jdk/internal/util/Preconditions -/
def k14 : Class := { plain "jdk/internal/util/Preconditions" (some 0) with
  accessFlags := 33
  interfaces := #[]
  cf := some (fileOf pool14 24 #[.nestMembers #[55, 131, 125, 114]] #[{ accessFlags := 1, nameIndex := 5, descriptorIndex := 6, attributes := #[] }, { accessFlags := 9, nameIndex := 33, descriptorIndex := 178, attributes := #[] }, { accessFlags := 9, nameIndex := 47, descriptorIndex := 183, attributes := #[] }] 33 2 #[] #[{ accessFlags := 25, nameIndex := 123, descriptorIndex := 124, attributes := #[] }, { accessFlags := 25, nameIndex := 130, descriptorIndex := 124, attributes := #[] }, { accessFlags := 25, nameIndex := 136, descriptorIndex := 124, attributes := #[] }])
  fields := #[{ name := "SIOOBE_FORMATTER", type := (.object "java/util/function/BiFunction"), accessFlags := 25, slot := 0, constantValue := 0 }, { name := "AIOOBE_FORMATTER", type := (.object "java/util/function/BiFunction"), accessFlags := 25, slot := 1, constantValue := 0 }, { name := "IOOBE_FORMATTER", type := (.object "java/util/function/BiFunction"), accessFlags := 25, slot := 2, constantValue := 0 }]
  methods := #[k14m0, k14m1, k14m2]
  instanceTypes := #[]
  staticTypes := #[(.object "java/util/function/BiFunction"), (.object "java/util/function/BiFunction"), (.object "java/util/function/BiFunction")]
  resolved := Array.replicate 194 none
  statics := some 1 }

def pool15 : Array CpInfo := pool [(2, .class_ 4), (1, u "java/lang/Object"), (0, u "<init>"), (0, u "()V"), (7, .class_ 16), (1, u "java/util/Arrays"), (57, .class_ 76), (1, u "java/util/Arrays$NaturalOrder"), (36, .class_ 115), (1, u "java/util/Arrays$LegacyMergeSort"), (1, u "Z"), (21, u "copyOfRange"), (10, .methodref 151 152), (0, .class_ 153), (0, .nameAndType 154 155), (0, u "java/lang/System"), (0, u "arraycopy"), (0, u "(Ljava/lang/Object;ILjava/lang/Object;II)V"), (148, .methodref 305 306), (0, .class_ 307), (0, .nameAndType 308 309), (0, u "java/lang/Math"), (0, u "min"), (0, u "(II)I"), (29, .methodref 14 340), (0, .nameAndType 341 342), (0, u "copyOfRangeByte"), (0, u "([BII)[B"), (0, .methodref 14 344), (0, .nameAndType 345 346), (0, u "checkLength"), (0, u "(II)V"), (28, .class_ 376), (0, u "java/util/Arrays$ArrayList"), (68, u "$assertionsDisabled"), (269, u "MIN_ARRAY_SORT_GRAN"), (0, u "I"), (2, u "INSERTIONSORT_THRESHOLD"), (255, .class_ 976), (0, u "java/util/Arrays$ArrayItr")] 52

def k15m0 : Method := { name := "<init>", desc := "()V", sig := { parameters := [], returnType := none }, accessFlags := 2, code := none }
def k15c1 : Code := { maxStack := 4, maxLocals := 2, code := jdk_65_method_131_code, exceptionTable := #[], attributes := #[] }
def k15m1 : Method := { name := "checkLength", desc := "(II)V", sig := { parameters := [.int, .int], returnType := none }, accessFlags := 10, code := some k15c1 }
def k15c2 : Code := { maxStack := 3, maxLocals := 3, code := jdk_65_method_132_code, exceptionTable := #[], attributes := #[] }
def k15m2 : Method := { name := "copyOfRange", desc := "([BII)[B", sig := { parameters := [(.array .byte), .int, .int], returnType := some (.array .byte) }, accessFlags := 9, code := some k15c2 }
def k15c3 : Code := { maxStack := 6, maxLocals := 5, code := jdk_65_method_133_code, exceptionTable := #[], attributes := #[] }
def k15m3 : Method := { name := "copyOfRangeByte", desc := "([BII)[B", sig := { parameters := [(.array .byte), .int, .int], returnType := some (.array .byte) }, accessFlags := 10, code := some k15c3 }
/-- java/util/Arrays -/
def k15 : Class := { plain "java/util/Arrays" (some 0) with
  accessFlags := 49
  interfaces := #[]
  cf := some (fileOf pool15 14 #[.nestMembers #[975, 375, 113, 74]] #[{ accessFlags := 2, nameIndex := 5, descriptorIndex := 6, attributes := #[] }, { accessFlags := 10, nameIndex := 345, descriptorIndex := 346, attributes := #[] }, { accessFlags := 9, nameIndex := 139, descriptorIndex := 342, attributes := #[] }, { accessFlags := 10, nameIndex := 341, descriptorIndex := 342, attributes := #[] }] 49 2 #[] #[{ accessFlags := 26, nameIndex := 715, descriptorIndex := 716, attributes := #[] }, { accessFlags := 26, nameIndex := 719, descriptorIndex := 716, attributes := #[] }, { accessFlags := 4120, nameIndex := 445, descriptorIndex := 117, attributes := #[] }])
  fields := #[{ name := "MIN_ARRAY_SORT_GRAN", type := .int, accessFlags := 26, slot := 0, constantValue := 0 }, { name := "INSERTIONSORT_THRESHOLD", type := .int, accessFlags := 26, slot := 1, constantValue := 0 }, { name := "$assertionsDisabled", type := .boolean, accessFlags := 4120, slot := 2, constantValue := 0 }]
  methods := #[k15m0, k15m1, k15m2, k15m3]
  instanceTypes := #[]
  staticTypes := #[.int, .int, .boolean]
  resolved := Array.replicate 1029 none
  statics := none }

def pool16 : Array CpInfo := pool [(2, .class_ 4), (1, u "java/lang/Object"), (0, u "<init>"), (0, u "()V"), (1, .class_ 10), (1, u "java/lang/System"), (0, u "allowSecurityManager"), (0, u "I"), (16, u "cons"), (0, u "Ljava/io/Console;"), (77, .class_ 110), (1, u "java/lang/System$CallersHolder"), (43, u "initialErrStream"), (0, u "Ljava/io/PrintStream;"), (19, u "security"), (0, u "Ljava/lang/SecurityManager;"), (31, .class_ 209), (0, u "java/lang/System$1"), (7, u "props"), (0, u "Ljava/util/Properties;"), (2, u "lineSeparator"), (0, u "Ljava/lang/String;"), (96, .class_ 321), (1, u "java/lang/System$LoggerFinder"), (5, .class_ 328), (0, u "java/lang/System$Logger"), (67, u "err"), (2, u "out"), (91, u "notSupportedJnuEncoding"), (15, u "in"), (17, u "initialIn"), (0, u "Ljava/io/InputStream;"), (35, u "bootLayer"), (0, u "Ljava/lang/ModuleLayer;"), (99, .class_ 664), (0, u "java/lang/System$2"), (9, u "NEVER"), (2, u "MAYBE"), (49, u "arraycopy"), (0, u "(Ljava/lang/Object;ILjava/lang/Object;II)V"), (72, .class_ 802), (0, u "java/lang/System$Logger$Level")] 31

def k16m0 : Method := { name := "<init>", desc := "()V", sig := { parameters := [], returnType := none }, accessFlags := 2, code := none }
def k16m1 : Method := { name := "arraycopy", desc := "(Ljava/lang/Object;ILjava/lang/Object;II)V", sig := { parameters := [(.object "java/lang/Object"), .int, (.object "java/lang/Object"), .int, .int], returnType := none }, accessFlags := 265, code := none }
/-- java/lang/System -/
def k16 : Class := { plain "java/lang/System" (some 0) with
  accessFlags := 49
  interfaces := #[]
  cf := some (fileOf pool16 8 #[.nestMembers #[319, 327, 801, 108, 663, 208]] #[{ accessFlags := 2, nameIndex := 5, descriptorIndex := 6, attributes := #[] }, { accessFlags := 265, nameIndex := 727, descriptorIndex := 728, attributes := #[] }] 49 2 #[] #[{ accessFlags := 25, nameIndex := 507, descriptorIndex := 526, attributes := #[] }, { accessFlags := 25, nameIndex := 399, descriptorIndex := 155, attributes := #[] }, { accessFlags := 25, nameIndex := 396, descriptorIndex := 155, attributes := #[] }, { accessFlags := 10, nameIndex := 525, descriptorIndex := 526, attributes := #[] }, { accessFlags := 26, nameIndex := 674, descriptorIndex := 12, attributes := #[] }, { accessFlags := 26, nameIndex := 677, descriptorIndex := 12, attributes := #[] }, { accessFlags := 10, nameIndex := 11, descriptorIndex := 12, attributes := #[] }, { accessFlags := 74, nameIndex := 175, descriptorIndex := 176, attributes := #[] }, { accessFlags := 10, nameIndex := 491, descriptorIndex := 222, attributes := #[] }, { accessFlags := 74, nameIndex := 29, descriptorIndex := 30, attributes := #[] }, { accessFlags := 74, nameIndex := 154, descriptorIndex := 155, attributes := #[] }, { accessFlags := 10, nameIndex := 217, descriptorIndex := 218, attributes := #[] }, { accessFlags := 10, nameIndex := 221, descriptorIndex := 222, attributes := #[] }, { accessFlags := 8, nameIndex := 562, descriptorIndex := 563, attributes := #[] }])
  fields := #[{ name := "in", type := (.object "java/io/InputStream"), accessFlags := 25, slot := 0, constantValue := 0 }, { name := "out", type := (.object "java/io/PrintStream"), accessFlags := 25, slot := 1, constantValue := 0 }, { name := "err", type := (.object "java/io/PrintStream"), accessFlags := 25, slot := 2, constantValue := 0 }, { name := "initialIn", type := (.object "java/io/InputStream"), accessFlags := 10, slot := 3, constantValue := 0 }, { name := "NEVER", type := .int, accessFlags := 26, slot := 4, constantValue := 0 }, { name := "MAYBE", type := .int, accessFlags := 26, slot := 5, constantValue := 0 }, { name := "allowSecurityManager", type := .int, accessFlags := 10, slot := 6, constantValue := 0 }, { name := "security", type := (.object "java/lang/SecurityManager"), accessFlags := 74, slot := 7, constantValue := 0 }, { name := "notSupportedJnuEncoding", type := (.object "java/lang/String"), accessFlags := 10, slot := 8, constantValue := 0 }, { name := "cons", type := (.object "java/io/Console"), accessFlags := 74, slot := 9, constantValue := 0 }, { name := "initialErrStream", type := (.object "java/io/PrintStream"), accessFlags := 74, slot := 10, constantValue := 0 }, { name := "props", type := (.object "java/util/Properties"), accessFlags := 10, slot := 11, constantValue := 0 }, { name := "lineSeparator", type := (.object "java/lang/String"), accessFlags := 10, slot := 12, constantValue := 0 }, { name := "bootLayer", type := (.object "java/lang/ModuleLayer"), accessFlags := 8, slot := 13, constantValue := 0 }]
  methods := #[k16m0, k16m1]
  instanceTypes := #[]
  staticTypes := #[(.object "java/io/InputStream"), (.object "java/io/PrintStream"), (.object "java/io/PrintStream"), (.object "java/io/InputStream"), .int, .int, .int, (.object "java/lang/SecurityManager"), (.object "java/lang/String"), (.object "java/io/Console"), (.object "java/io/PrintStream"), (.object "java/util/Properties"), (.object "java/lang/String"), (.object "java/lang/ModuleLayer")]
  resolved := Array.replicate 834 none
  statics := none }

def pool17 : Array CpInfo := pool [(9, u "<init>"), (6, .class_ 18), (1, u "java/lang/Object"), (0, u "()V"), (1, .class_ 23), (1, u "jdk/internal/util/ArraysSupport"), (0, u "LOG2_ARRAY_LONG_INDEX_SCALE"), (0, u "I"), (2, u "U"), (0, u "Ljdk/internal/misc/Unsafe;"), (8, u "BIG_ENDIAN"), (0, u "Z"), (8, u "LOG2_BYTE_BIT_SIZE"), (4, u "LOG2_ARRAY_INT_INDEX_SCALE"), (54, u "JLA"), (0, u "Ljdk/internal/access/JavaLangAccess;"), (11, u "LOG2_ARRAY_BOOLEAN_INDEX_SCALE"), (9, u "LOG2_ARRAY_BYTE_INDEX_SCALE"), (5, u "LOG2_ARRAY_CHAR_INDEX_SCALE"), (5, u "LOG2_ARRAY_SHORT_INDEX_SCALE"), (18, u "LOG2_ARRAY_FLOAT_INDEX_SCALE"), (24, u "LOG2_ARRAY_DOUBLE_INDEX_SCALE"), (89, u "T_BOOLEAN"), (2, u "T_CHAR"), (1, u "T_FLOAT"), (1, u "T_DOUBLE"), (1, u "T_BYTE"), (1, u "T_SHORT"), (1, u "T_INT"), (1, u "T_LONG"), (1, u "SOFT_MAX_ARRAY_LENGTH")] 83

def k17m0 : Method := { name := "<init>", desc := "()V", sig := { parameters := [], returnType := none }, accessFlags := 2, code := none }
/-- jdk/internal/util/ArraysSupport -/
def k17 : Class := { plain "jdk/internal/util/ArraysSupport" (some 0) with
  accessFlags := 33
  interfaces := #[]
  cf := some (fileOf pool17 21 #[] #[{ accessFlags := 2, nameIndex := 9, descriptorIndex := 19, attributes := #[] }] 33 16 #[] #[{ accessFlags := 24, nameIndex := 28, descriptorIndex := 29, attributes := #[] }, { accessFlags := 26, nameIndex := 38, descriptorIndex := 39, attributes := #[] }, { accessFlags := 25, nameIndex := 121, descriptorIndex := 25, attributes := #[] }, { accessFlags := 25, nameIndex := 131, descriptorIndex := 25, attributes := #[] }, { accessFlags := 25, nameIndex := 137, descriptorIndex := 25, attributes := #[] }, { accessFlags := 25, nameIndex := 143, descriptorIndex := 25, attributes := #[] }, { accessFlags := 25, nameIndex := 53, descriptorIndex := 25, attributes := #[] }, { accessFlags := 25, nameIndex := 24, descriptorIndex := 25, attributes := #[] }, { accessFlags := 25, nameIndex := 162, descriptorIndex := 25, attributes := #[] }, { accessFlags := 25, nameIndex := 187, descriptorIndex := 25, attributes := #[] }, { accessFlags := 26, nameIndex := 48, descriptorIndex := 25, attributes := #[] }, { accessFlags := 25, nameIndex := 277, descriptorIndex := 25, attributes := #[] }, { accessFlags := 25, nameIndex := 280, descriptorIndex := 25, attributes := #[] }, { accessFlags := 25, nameIndex := 282, descriptorIndex := 25, attributes := #[] }, { accessFlags := 25, nameIndex := 284, descriptorIndex := 25, attributes := #[] }, { accessFlags := 25, nameIndex := 286, descriptorIndex := 25, attributes := #[] }, { accessFlags := 25, nameIndex := 288, descriptorIndex := 25, attributes := #[] }, { accessFlags := 25, nameIndex := 290, descriptorIndex := 25, attributes := #[] }, { accessFlags := 25, nameIndex := 292, descriptorIndex := 25, attributes := #[] }, { accessFlags := 26, nameIndex := 108, descriptorIndex := 109, attributes := #[] }, { accessFlags := 25, nameIndex := 294, descriptorIndex := 25, attributes := #[] }])
  fields := #[{ name := "U", type := (.object "jdk/internal/misc/Unsafe"), accessFlags := 24, slot := 0, constantValue := 0 }, { name := "BIG_ENDIAN", type := .boolean, accessFlags := 26, slot := 1, constantValue := 0 }, { name := "LOG2_ARRAY_BOOLEAN_INDEX_SCALE", type := .int, accessFlags := 25, slot := 2, constantValue := 0 }, { name := "LOG2_ARRAY_BYTE_INDEX_SCALE", type := .int, accessFlags := 25, slot := 3, constantValue := 0 }, { name := "LOG2_ARRAY_CHAR_INDEX_SCALE", type := .int, accessFlags := 25, slot := 4, constantValue := 0 }, { name := "LOG2_ARRAY_SHORT_INDEX_SCALE", type := .int, accessFlags := 25, slot := 5, constantValue := 0 }, { name := "LOG2_ARRAY_INT_INDEX_SCALE", type := .int, accessFlags := 25, slot := 6, constantValue := 0 }, { name := "LOG2_ARRAY_LONG_INDEX_SCALE", type := .int, accessFlags := 25, slot := 7, constantValue := 0 }, { name := "LOG2_ARRAY_FLOAT_INDEX_SCALE", type := .int, accessFlags := 25, slot := 8, constantValue := 0 }, { name := "LOG2_ARRAY_DOUBLE_INDEX_SCALE", type := .int, accessFlags := 25, slot := 9, constantValue := 0 }, { name := "LOG2_BYTE_BIT_SIZE", type := .int, accessFlags := 26, slot := 10, constantValue := 0 }, { name := "T_BOOLEAN", type := .int, accessFlags := 25, slot := 11, constantValue := 0 }, { name := "T_CHAR", type := .int, accessFlags := 25, slot := 12, constantValue := 0 }, { name := "T_FLOAT", type := .int, accessFlags := 25, slot := 13, constantValue := 0 }, { name := "T_DOUBLE", type := .int, accessFlags := 25, slot := 14, constantValue := 0 }, { name := "T_BYTE", type := .int, accessFlags := 25, slot := 15, constantValue := 0 }, { name := "T_SHORT", type := .int, accessFlags := 25, slot := 16, constantValue := 0 }, { name := "T_INT", type := .int, accessFlags := 25, slot := 17, constantValue := 0 }, { name := "T_LONG", type := .int, accessFlags := 25, slot := 18, constantValue := 0 }, { name := "JLA", type := (.object "jdk/internal/access/JavaLangAccess"), accessFlags := 26, slot := 19, constantValue := 0 }, { name := "SOFT_MAX_ARRAY_LENGTH", type := .int, accessFlags := 25, slot := 20, constantValue := 0 }]
  methods := #[k17m0]
  instanceTypes := #[]
  staticTypes := #[(.object "jdk/internal/misc/Unsafe"), .boolean, .int, .int, .int, .int, .int, .int, .int, .int, .int, .int, .int, .int, .int, .int, .int, .int, .int, (.object "jdk/internal/access/JavaLangAccess"), .int]
  resolved := Array.replicate 378 none
  statics := none }

def pool18 : Array CpInfo := pool [(1, u "java/lang/Cloneable"), (0, .class_ 1), (0, u "java/lang/Object"), (0, .class_ 3)] 3

/-- java/lang/Cloneable -/
def k18 : Class := { plain "java/lang/Cloneable" (some 0) with
  accessFlags := 1537
  interfaces := #[]
  cf := some (fileOf pool18 2 #[] #[] 1537 4 #[] #[])
  fields := #[]
  methods := #[]
  instanceTypes := #[]
  staticTypes := #[]
  resolved := Array.replicate 8 none
  statics := none }

/-- the primitive byte -/
def k19 : Class := { plain "byte" none with kind := .primitive 'B', accessFlags := 0x411 }
/-- [B -/
def k20 : Class := { plain "[B" (some 0) with kind := .array 19 .byte, interfaces := #[18, 2], accessFlags := 1041 }

/-- the primitive char -/
def k21 : Class := { plain "char" none with kind := .primitive 'C', accessFlags := 0x411 }
/-- [C -/
def k22 : Class := { plain "[C" (some 0) with kind := .array 21 .char, interfaces := #[18, 2], accessFlags := 1041 }

/-- the primitive int -/
def k23 : Class := { plain "int" none with kind := .primitive 'I', accessFlags := 0x411 }
/-- [I -/
def k24 : Class := { plain "[I" (some 0) with kind := .array 23 .int, interfaces := #[18, 2], accessFlags := 1041 }

def heap : Heap := #[{ cls := 7, slots := #[.long 0, .int 1, .null, .int 0, .null, .int 0, .int 0], vm := .statics 7 },
  { cls := 14, slots := #[.null, .null, .null], vm := .statics 14 }]
def classes : Array Class := #[k0, k1, k2, k3, k4, k5, k6, k7, k8, k9, k10, k11, k12, k13, k14, k15, k16, k17, k18, k19, k20, k21, k22, k23, k24]
def interned : List (Array UInt16 × Addr) := []
def slotsUsed : Nat := 10
def theMethod : MethodId := ⟨1, 1⟩
def args0 : Array Value := #[.int 5, .int 300, .int 7, .int 9, .int 5]
def aboutOver (below : List Frame) : State where
  vm := { classes := classes, interned := interned.toArray }
  heap := heap
  slotsUsed := slotsUsed
  threads := #[{ frames := .invoking theMethod args0 :: below }]
def below0 : List Frame := [.native { method := ⟨0, 0⟩, args := #[] }]
def about1 : State := aboutOver below0
def p0 : Program := .bare "" "" ""
def e0 : Env := launch0.env 0 0 0
theorem w_frames : about1.frames = Frame.invoking theMethod args0 :: below0 := rfl
set_option maxRecDepth 65536 in
theorem w_args : argsFit about1.vm theMethod args0 = true := by decide +kernel
set_option maxRecDepth 65536 in
theorem w_heap : heapFits about1 = true := by decide +kernel
set_option maxRecDepth 65536 in
theorem w_runnable : about1.curStatus? = some .runnable := by decide +kernel
set_option maxRecDepth 65536 in
theorem w_alone : about1.alone = true := by decide +kernel
set_option maxRecDepth 65536 in
theorem w_named : about1.methodNamed? x = some theMethod := by decide +kernel
set_option maxRecDepth 65536 in
theorem w_hears : about1.hears theMethod below0 = true := by decide +kernel
set_option maxRecDepth 65536 in
theorem w_ripe : about1.ripe theMethod args0 below0 = true := by decide +kernel
theorem w_running : about1.status = .running := rfl
set_option maxRecDepth 65536 in
theorem w_room : about1.hasRoom e0.platform room_1 = true :=
  launch0.hasRoom_least _ room_1 (by decide +kernel) (by decide +kernel) (by decide +kernel) (by decide +kernel) (by decide +kernel) (by decide +kernel)
theorem allAtoms_all (ts : List Jvm.Cond) (a : Array Jvm.Value) (st : Jvm.State) : (allAtoms ts).before a st = ts.all (fun c => c.before a st) := by
  induction ts with
  | nil => rfl
  | cons c t ih =>
    show (Jvm.Cond.and c (allAtoms t)).before a st = _
    rw [Jvm.Cond.before_and, ih, List.all_cons]
def words1 : List Jvm.Cond := Jvm.Cond.code x code maxLocals ret :: tables_1
/-- a 'code' word, met by the world's own term for the bytes: nothing is compared byte by byte -/
theorem code_word {y : MethodName} {bytes : ByteArray} {mx : Nat} {rt : Option FieldType} {a : Array Value} {s : State} {m : MethodId} {meth : Method} {c : Code} (h1 : s.methodNamed? y = some m) (h2 : s.vm.method? m = some meth) (h3 : meth.code = some c) (h4 : c.code = bytes)
    (h5 : (c.maxLocals == mx && c.exceptionTable.isEmpty && decide (c.maxStack ≤ mostOperands) && decide (meth.sig.returnType = rt) && !meth.locks && decide (parseMethodDescriptor y.desc = some meth.sig)) = true) : (Jvm.Cond.code y bytes mx rt).before a s = true := by
  simp only [Bool.and_eq_true, beq_iff_eq, Bool.not_eq_true', decide_eq_true_eq] at h5
  obtain ⟨⟨⟨⟨⟨g1, g2⟩, g3⟩, g4⟩, g5⟩, g6⟩ := h5
  simp [Cond.before, Cond.holds, Cond.value, h1, h2, h3, h4, g1, g2, g3, g4, g5, g6]
def isCode : Jvm.Cond → Bool
  | .code _ _ _ _ => true
  | _ => false
theorem all_split {L : List Jvm.Cond} {P : Jvm.Cond → Bool} (h1 : L.all (fun c => isCode c || P c) = true) (h2 : ∀ c ∈ L.filter isCode, P c = true) : L.all P = true := by
  refine List.all_eq_true.mpr fun c hc => ?_
  have h := List.all_eq_true.mp h1 c hc
  rcases Bool.eq_false_or_eq_true (isCode c) with hi | hi
  · exact h2 c (List.mem_filter.mpr ⟨hc, hi⟩)
  · simpa [hi] using h
set_option maxRecDepth 65536 in
theorem w_c0 : (Jvm.Cond.code x code maxLocals ret).before args0 about1 = true := code_word (m := ⟨1, 1⟩) (meth := k1m1) (c := k1c1) (by decide +kernel) rfl rfl rfl (by decide +kernel)
set_option maxRecDepth 65536 in
theorem w_c1 : (Jvm.Cond.code ({ cls := "com/example/vellum/vellum/types/DvUriFragmentIdPinLaw", name := "pick", desc := "(III)C" } : Jvm.MethodName) method_3_code (3 : Nat) (Option.some Jvm.ClassFile.FieldType.char)).before args0 about1 = true := code_word (m := ⟨1, 2⟩) (meth := k1m2) (c := k1c2) (by decide +kernel) rfl rfl rfl (by decide +kernel)
set_option maxRecDepth 65536 in
theorem w_c2 : (Jvm.Cond.code ({ cls := "java/lang/String", name := "<init>", desc := "([C)V" } : Jvm.MethodName) jdk_42_method_3_code (2 : Nat) (Option.none : Option Jvm.ClassFile.FieldType)).before args0 about1 = true := code_word (m := ⟨7, 1⟩) (meth := k7m1) (c := k7c1) (by decide +kernel) rfl rfl rfl (by decide +kernel)
set_option maxRecDepth 65536 in
theorem w_c3 : (Jvm.Cond.code ({ cls := "java/lang/String", name := "<init>", desc := "([CIILjava/lang/Void;)V" } : Jvm.MethodName) jdk_42_method_149_code (6 : Nat) (Option.none : Option Jvm.ClassFile.FieldType)).before args0 about1 = true := code_word (m := ⟨7, 9⟩) (meth := k7m9) (c := k7c9) (by decide +kernel) rfl rfl rfl (by decide +kernel)
set_option maxRecDepth 65536 in
theorem w_c4 : (Jvm.Cond.code ({ cls := "java/lang/Object", name := "<init>", desc := "()V" } : Jvm.MethodName) object_method_1_code (1 : Nat) (Option.none : Option Jvm.ClassFile.FieldType)).before args0 about1 = true := code_word (m := ⟨0, 0⟩) (meth := k0m0) (c := k0c0) (by decide +kernel) rfl rfl rfl (by decide +kernel)
set_option maxRecDepth 65536 in
theorem w_c5 : (Jvm.Cond.code ({ cls := "java/lang/StringUTF16", name := "compress", desc := "([CII)[B" } : Jvm.MethodName) jdk_52_method_16_code (6 : Nat) (Option.some (Jvm.ClassFile.FieldType.array Jvm.ClassFile.FieldType.byte))).before args0 about1 = true := code_word (m := ⟨8, 2⟩) (meth := k8m2) (c := k8c2) (by decide +kernel) rfl rfl rfl (by decide +kernel)
set_option maxRecDepth 65536 in
theorem w_c6 : (Jvm.Cond.code ({ cls := "java/lang/StringUTF16", name := "compress", desc := "([CI[BII)I" } : Jvm.MethodName) jdk_52_method_21_code (7 : Nat) (Option.some Jvm.ClassFile.FieldType.int)).before args0 about1 = true := code_word (m := ⟨8, 3⟩) (meth := k8m3) (c := k8c3) (by decide +kernel) rfl rfl rfl (by decide +kernel)
set_option maxRecDepth 65536 in
theorem w_c7 : (Jvm.Cond.code ({ cls := "java/lang/StringUTF16", name := "coderFromArrayLen", desc := "([BI)B" } : Jvm.MethodName) jdk_52_method_15_code (2 : Nat) (Option.some Jvm.ClassFile.FieldType.byte)).before args0 about1 = true := code_word (m := ⟨8, 1⟩) (meth := k8m1) (c := k8c1) (by decide +kernel) rfl rfl rfl (by decide +kernel)
set_option maxRecDepth 65536 in
theorem w_c8 : (Jvm.Cond.code ({ cls := "com/example/vellum/vellum/types/DvUri", name := "<init>", desc := "(Ljava/lang/String;)V" } : Jvm.MethodName) prog_61_method_1_code (3 : Nat) (Option.none : Option Jvm.ClassFile.FieldType)).before args0 about1 = true := code_word (m := ⟨10, 0⟩) (meth := k10m0) (c := k10c0) (by decide +kernel) rfl rfl rfl (by decide +kernel)
set_option maxRecDepth 65536 in
theorem w_c9 : (Jvm.Cond.code ({ cls := "com/example/vellum/vellum/types/DataValue", name := "<init>", desc := "()V" } : Jvm.MethodName) prog_31_method_1_code (1 : Nat) (Option.none : Option Jvm.ClassFile.FieldType)).before args0 about1 = true := code_word (m := ⟨9, 0⟩) (meth := k9m0) (c := k9c0) (by decide +kernel) rfl rfl rfl (by decide +kernel)
set_option maxRecDepth 65536 in
theorem w_c10 : (Jvm.Cond.code ({ cls := "com/example/vellum/vellum/types/RuleCheck", name := "<init>", desc := "()V" } : Jvm.MethodName) prog_86_method_1_code (1 : Nat) (Option.none : Option Jvm.ClassFile.FieldType)).before args0 about1 = true := code_word (m := ⟨11, 0⟩) (meth := k11m0) (c := k11c0) (by decide +kernel) rfl rfl rfl (by decide +kernel)
set_option maxRecDepth 65536 in
theorem w_c11 : (Jvm.Cond.code ({ cls := "com/example/vellum/vellum/types/DvUri", name := "checkValue", desc := "(Lcom/example/vellum/vellum/types/RuleCheck;Ljava/lang/String;)V" } : Jvm.MethodName) prog_61_method_3_code (2 : Nat) (Option.none : Option Jvm.ClassFile.FieldType)).before args0 about1 = true := code_word (m := ⟨10, 1⟩) (meth := k10m1) (c := k10c1) (by decide +kernel) rfl rfl rfl (by decide +kernel)
set_option maxRecDepth 65536 in
theorem w_c12 : (Jvm.Cond.code ({ cls := "com/example/vellum/vellum/types/RuleCheck", name := "requirePresent", desc := "(Ljava/lang/Object;Ljava/lang/String;)V" } : Jvm.MethodName) prog_86_method_2_code (3 : Nat) (Option.none : Option Jvm.ClassFile.FieldType)).before args0 about1 = true := code_word (m := ⟨11, 1⟩) (meth := k11m1) (c := k11c1) (by decide +kernel) rfl rfl rfl (by decide +kernel)
set_option maxRecDepth 65536 in
theorem w_c13 : (Jvm.Cond.code ({ cls := "com/example/vellum/vellum/types/RuleCheck", name := "requireNotEmpty", desc := "(Ljava/lang/String;Ljava/lang/String;Ljava/lang/String;)V" } : Jvm.MethodName) prog_86_method_4_code (4 : Nat) (Option.none : Option Jvm.ClassFile.FieldType)).before args0 about1 = true := code_word (m := ⟨11, 2⟩) (meth := k11m2) (c := k11c2) (by decide +kernel) rfl rfl rfl (by decide +kernel)
set_option maxRecDepth 65536 in
theorem w_c14 : (Jvm.Cond.code ({ cls := "java/lang/String", name := "isEmpty", desc := "()Z" } : Jvm.MethodName) jdk_42_method_55_code (1 : Nat) (Option.some Jvm.ClassFile.FieldType.boolean)).before args0 about1 = true := code_word (m := ⟨7, 3⟩) (meth := k7m3) (c := k7c3) (by decide +kernel) rfl rfl rfl (by decide +kernel)
set_option maxRecDepth 65536 in
theorem w_c15 : (Jvm.Cond.code ({ cls := "com/example/vellum/vellum/types/RuleCheck", name := "enforce", desc := "()V" } : Jvm.MethodName) prog_86_method_6_code (1 : Nat) (Option.none : Option Jvm.ClassFile.FieldType)).before args0 about1 = true := code_word (m := ⟨11, 3⟩) (meth := k11m3) (c := k11c3) (by decide +kernel) rfl rfl rfl (by decide +kernel)
set_option maxRecDepth 65536 in
theorem w_c16 : (Jvm.Cond.code ({ cls := "com/example/vellum/vellum/types/DvUri", name := "fragmentId", desc := "()Ljava/lang/String;" } : Jvm.MethodName) prog_61_method_8_code (2 : Nat) (Option.some (Jvm.ClassFile.FieldType.object "java/lang/String"))).before args0 about1 = true := code_word (m := ⟨10, 2⟩) (meth := k10m2) (c := k10c2) (by decide +kernel) rfl rfl rfl (by decide +kernel)
set_option maxRecDepth 65536 in
theorem w_c17 : (Jvm.Cond.code ({ cls := "java/lang/String", name := "indexOf", desc := "(I)I" } : Jvm.MethodName) jdk_42_method_79_code (2 : Nat) (Option.some Jvm.ClassFile.FieldType.int)).before args0 about1 = true := code_word (m := ⟨7, 5⟩) (meth := k7m5) (c := k7c5) (by decide +kernel) rfl rfl rfl (by decide +kernel)
set_option maxRecDepth 65536 in
theorem w_c18 : (Jvm.Cond.code ({ cls := "java/lang/String", name := "indexOf", desc := "(II)I" } : Jvm.MethodName) jdk_42_method_80_code (3 : Nat) (Option.some Jvm.ClassFile.FieldType.int)).before args0 about1 = true := code_word (m := ⟨7, 6⟩) (meth := k7m6) (c := k7c6) (by decide +kernel) rfl rfl rfl (by decide +kernel)
set_option maxRecDepth 65536 in
theorem w_c19 : (Jvm.Cond.code ({ cls := "java/lang/String", name := "isLatin1", desc := "()Z" } : Jvm.MethodName) jdk_42_method_154_code (1 : Nat) (Option.some Jvm.ClassFile.FieldType.boolean)).before args0 about1 = true := code_word (m := ⟨7, 12⟩) (meth := k7m12) (c := k7c12) (by decide +kernel) rfl rfl rfl (by decide +kernel)
set_option maxRecDepth 65536 in
theorem w_c20 : (Jvm.Cond.code ({ cls := "java/lang/String", name := "length", desc := "()I" } : Jvm.MethodName) jdk_42_method_54_code (1 : Nat) (Option.some Jvm.ClassFile.FieldType.int)).before args0 about1 = true := code_word (m := ⟨7, 2⟩) (meth := k7m2) (c := k7c2) (by decide +kernel) rfl rfl rfl (by decide +kernel)
set_option maxRecDepth 65536 in
theorem w_c21 : (Jvm.Cond.code ({ cls := "java/lang/String", name := "coder", desc := "()B" } : Jvm.MethodName) jdk_42_method_152_code (1 : Nat) (Option.some Jvm.ClassFile.FieldType.byte)).before args0 about1 = true := code_word (m := ⟨7, 11⟩) (meth := k7m11) (c := k7c11) (by decide +kernel) rfl rfl rfl (by decide +kernel)
set_option maxRecDepth 65536 in
theorem w_c22 : (Jvm.Cond.code ({ cls := "java/lang/StringLatin1", name := "indexOf", desc := "([BIII)I" } : Jvm.MethodName) jdk_43_method_22_code (4 : Nat) (Option.some Jvm.ClassFile.FieldType.int)).before args0 about1 = true := code_word (m := ⟨12, 3⟩) (meth := k12m3) (c := k12c3) (by decide +kernel) rfl rfl rfl (by decide +kernel)
set_option maxRecDepth 65536 in
theorem w_c23 : (Jvm.Cond.code ({ cls := "java/lang/StringLatin1", name := "canEncode", desc := "(I)Z" } : Jvm.MethodName) jdk_43_method_4_code (1 : Nat) (Option.some Jvm.ClassFile.FieldType.boolean)).before args0 about1 = true := code_word (m := ⟨12, 2⟩) (meth := k12m2) (c := k12c2) (by decide +kernel) rfl rfl rfl (by decide +kernel)
set_option maxRecDepth 65536 in
theorem w_c24 : (Jvm.Cond.code ({ cls := "java/lang/Math", name := "max", desc := "(II)I" } : Jvm.MethodName) jdk_29_method_65_code (2 : Nat) (Option.some Jvm.ClassFile.FieldType.int)).before args0 about1 = true := code_word (m := ⟨13, 1⟩) (meth := k13m1) (c := k13c1) (by decide +kernel) rfl rfl rfl (by decide +kernel)
set_option maxRecDepth 65536 in
theorem w_c25 : (Jvm.Cond.code ({ cls := "java/lang/Math", name := "min", desc := "(II)I" } : Jvm.MethodName) jdk_29_method_69_code (2 : Nat) (Option.some Jvm.ClassFile.FieldType.int)).before args0 about1 = true := code_word (m := ⟨13, 2⟩) (meth := k13m2) (c := k13c2) (by decide +kernel) rfl rfl rfl (by decide +kernel)
set_option maxRecDepth 65536 in
theorem w_c26 : (Jvm.Cond.code ({ cls := "java/lang/StringLatin1", name := "indexOfChar", desc := "([BIII)I" } : Jvm.MethodName) jdk_43_method_23_code (6 : Nat) (Option.some Jvm.ClassFile.FieldType.int)).before args0 about1 = true := code_word (m := ⟨12, 4⟩) (meth := k12m4) (c := k12c4) (by decide +kernel) rfl rfl rfl (by decide +kernel)
set_option maxRecDepth 65536 in
theorem w_c27 : (Jvm.Cond.code ({ cls := "com/example/vellum/vellum/types/DvUriFragmentIdPinLaw", name := "firstHash", desc := "([CI)I" } : Jvm.MethodName) method_4_code (2 : Nat) (Option.some Jvm.ClassFile.FieldType.int)).before args0 about1 = true := code_word (m := ⟨1, 3⟩) (meth := k1m3) (c := k1c3) (by decide +kernel) rfl rfl rfl (by decide +kernel)
set_option maxRecDepth 65536 in
theorem w_c28 : (Jvm.Cond.code ({ cls := "java/lang/String", name := "substring", desc := "(I)Ljava/lang/String;" } : Jvm.MethodName) jdk_42_method_91_code (2 : Nat) (Option.some (Jvm.ClassFile.FieldType.object "java/lang/String"))).before args0 about1 = true := code_word (m := ⟨7, 7⟩) (meth := k7m7) (c := k7c7) (by decide +kernel) rfl rfl rfl (by decide +kernel)
set_option maxRecDepth 65536 in
theorem w_c29 : (Jvm.Cond.code ({ cls := "java/lang/String", name := "substring", desc := "(II)Ljava/lang/String;" } : Jvm.MethodName) jdk_42_method_92_code (5 : Nat) (Option.some (Jvm.ClassFile.FieldType.object "java/lang/String"))).before args0 about1 = true := code_word (m := ⟨7, 8⟩) (meth := k7m8) (c := k7c8) (by decide +kernel) rfl rfl rfl (by decide +kernel)
set_option maxRecDepth 65536 in
theorem w_c30 : (Jvm.Cond.code ({ cls := "java/lang/String", name := "checkBoundsBeginEnd", desc := "(III)V" } : Jvm.MethodName) jdk_42_method_158_code (3 : Nat) (Option.none : Option Jvm.ClassFile.FieldType)).before args0 about1 = true := code_word (m := ⟨7, 14⟩) (meth := k7m14) (c := k7c14) (by decide +kernel) rfl rfl rfl (by decide +kernel)
set_option maxRecDepth 65536 in
theorem w_c31 : (Jvm.Cond.code ({ cls := "jdk/internal/util/Preconditions", name := "checkFromToIndex", desc := "(IIILjava/util/function/BiFunction;)I" } : Jvm.MethodName) jdk_41_method_12_code (4 : Nat) (Option.some Jvm.ClassFile.FieldType.int)).before args0 about1 = true := code_word (m := ⟨14, 2⟩) (meth := k14m2) (c := k14c2) (by decide +kernel) rfl rfl rfl (by decide +kernel)
set_option maxRecDepth 65536 in
theorem w_c32 : (Jvm.Cond.code ({ cls := "java/lang/StringLatin1", name := "newString", desc := "([BII)Ljava/lang/String;" } : Jvm.MethodName) jdk_43_method_47_code (3 : Nat) (Option.some (Jvm.ClassFile.FieldType.object "java/lang/String"))).before args0 about1 = true := code_word (m := ⟨12, 5⟩) (meth := k12m5) (c := k12c5) (by decide +kernel) rfl rfl rfl (by decide +kernel)
set_option maxRecDepth 65536 in
theorem w_c33 : (Jvm.Cond.code ({ cls := "java/util/Arrays", name := "copyOfRange", desc := "([BII)[B" } : Jvm.MethodName) jdk_65_method_132_code (3 : Nat) (Option.some (Jvm.ClassFile.FieldType.array Jvm.ClassFile.FieldType.byte))).before args0 about1 = true := code_word (m := ⟨15, 2⟩) (meth := k15m2) (c := k15c2) (by decide +kernel) rfl rfl rfl (by decide +kernel)
set_option maxRecDepth 65536 in
theorem w_c34 : (Jvm.Cond.code ({ cls := "java/util/Arrays", name := "copyOfRangeByte", desc := "([BII)[B" } : Jvm.MethodName) jdk_65_method_133_code (5 : Nat) (Option.some (Jvm.ClassFile.FieldType.array Jvm.ClassFile.FieldType.byte))).before args0 about1 = true := code_word (m := ⟨15, 3⟩) (meth := k15m3) (c := k15c3) (by decide +kernel) rfl rfl rfl (by decide +kernel)
set_option maxRecDepth 65536 in
theorem w_c35 : (Jvm.Cond.code ({ cls := "java/util/Arrays", name := "checkLength", desc := "(II)V" } : Jvm.MethodName) jdk_65_method_131_code (2 : Nat) (Option.none : Option Jvm.ClassFile.FieldType)).before args0 about1 = true := code_word (m := ⟨15, 1⟩) (meth := k15m1) (c := k15c1) (by decide +kernel) rfl rfl rfl (by decide +kernel)
set_option maxRecDepth 65536 in
theorem w_c36 : (Jvm.Cond.code ({ cls := "java/lang/String", name := "<init>", desc := "([BB)V" } : Jvm.MethodName) jdk_42_method_151_code (3 : Nat) (Option.none : Option Jvm.ClassFile.FieldType)).before args0 about1 = true := code_word (m := ⟨7, 10⟩) (meth := k7m10) (c := k7c10) (by decide +kernel) rfl rfl rfl (by decide +kernel)
set_option maxRecDepth 65536 in
theorem w_c37 : (Jvm.Cond.code ({ cls := "com/example/vellum/vellum/types/DvUriFragmentIdPinLaw", name := "same", desc := "(Ljava/lang/String;[CII)Z" } : Jvm.MethodName) method_5_code (4 : Nat) (Option.some Jvm.ClassFile.FieldType.boolean)).before args0 about1 = true := code_word (m := ⟨1, 4⟩) (meth := k1m4) (c := k1c4) (by decide +kernel) rfl rfl rfl (by decide +kernel)
set_option maxRecDepth 65536 in
theorem w_c38 : (Jvm.Cond.code ({ cls := "java/lang/String", name := "charAt", desc := "(I)C" } : Jvm.MethodName) jdk_42_method_56_code (2 : Nat) (Option.some Jvm.ClassFile.FieldType.char)).before args0 about1 = true := code_word (m := ⟨7, 4⟩) (meth := k7m4) (c := k7c4) (by decide +kernel) rfl rfl rfl (by decide +kernel)
set_option maxRecDepth 65536 in
theorem w_c39 : (Jvm.Cond.code ({ cls := "java/lang/StringLatin1", name := "charAt", desc := "([BI)C" } : Jvm.MethodName) jdk_43_method_2_code (2 : Nat) (Option.some Jvm.ClassFile.FieldType.char)).before args0 about1 = true := code_word (m := ⟨12, 1⟩) (meth := k12m1) (c := k12c1) (by decide +kernel) rfl rfl rfl (by decide +kernel)
set_option maxRecDepth 65536 in
theorem w_c40 : (Jvm.Cond.code ({ cls := "java/lang/String", name := "checkIndex", desc := "(II)V" } : Jvm.MethodName) jdk_42_method_155_code (2 : Nat) (Option.none : Option Jvm.ClassFile.FieldType)).before args0 about1 = true := code_word (m := ⟨7, 13⟩) (meth := k7m13) (c := k7c13) (by decide +kernel) rfl rfl rfl (by decide +kernel)
set_option maxRecDepth 65536 in
theorem w_c41 : (Jvm.Cond.code ({ cls := "jdk/internal/util/Preconditions", name := "checkIndex", desc := "(IILjava/util/function/BiFunction;)I" } : Jvm.MethodName) jdk_41_method_11_code (3 : Nat) (Option.some Jvm.ClassFile.FieldType.int)).before args0 about1 = true := code_word (m := ⟨14, 1⟩) (meth := k14m1) (c := k14c1) (by decide +kernel) rfl rfl rfl (by decide +kernel)
def codes1 : List Jvm.Cond := [Jvm.Cond.code x code maxLocals ret, Jvm.Cond.code ({ cls := "com/example/vellum/vellum/types/DvUriFragmentIdPinLaw", name := "pick", desc := "(III)C" } : Jvm.MethodName) method_3_code (3 : Nat) (Option.some Jvm.ClassFile.FieldType.char), Jvm.Cond.code ({ cls := "java/lang/String", name := "<init>", desc := "([C)V" } : Jvm.MethodName) jdk_42_method_3_code (2 : Nat) (Option.none : Option Jvm.ClassFile.FieldType), Jvm.Cond.code ({ cls := "java/lang/String", name := "<init>", desc := "([CIILjava/lang/Void;)V" } : Jvm.MethodName) jdk_42_method_149_code (6 : Nat) (Option.none : Option Jvm.ClassFile.FieldType), Jvm.Cond.code ({ cls := "java/lang/Object", name := "<init>", desc := "()V" } : Jvm.MethodName) object_method_1_code (1 : Nat) (Option.none : Option Jvm.ClassFile.FieldType), Jvm.Cond.code ({ cls := "java/lang/StringUTF16", name := "compress", desc := "([CII)[B" } : Jvm.MethodName) jdk_52_method_16_code (6 : Nat) (Option.some (Jvm.ClassFile.FieldType.array Jvm.ClassFile.FieldType.byte)), Jvm.Cond.code ({ cls := "java/lang/StringUTF16", name := "compress", desc := "([CI[BII)I" } : Jvm.MethodName) jdk_52_method_21_code (7 : Nat) (Option.some Jvm.ClassFile.FieldType.int), Jvm.Cond.code ({ cls := "java/lang/StringUTF16", name := "coderFromArrayLen", desc := "([BI)B" } : Jvm.MethodName) jdk_52_method_15_code (2 : Nat) (Option.some Jvm.ClassFile.FieldType.byte), Jvm.Cond.code ({ cls := "com/example/vellum/vellum/types/DvUri", name := "<init>", desc := "(Ljava/lang/String;)V" } : Jvm.MethodName) prog_61_method_1_code (3 : Nat) (Option.none : Option Jvm.ClassFile.FieldType), Jvm.Cond.code ({ cls := "com/example/vellum/vellum/types/DataValue", name := "<init>", desc := "()V" } : Jvm.MethodName) prog_31_method_1_code (1 : Nat) (Option.none : Option Jvm.ClassFile.FieldType), Jvm.Cond.code ({ cls := "com/example/vellum/vellum/types/RuleCheck", name := "<init>", desc := "()V" } : Jvm.MethodName) prog_86_method_1_code (1 : Nat) (Option.none : Option Jvm.ClassFile.FieldType), Jvm.Cond.code ({ cls := "com/example/vellum/vellum/types/DvUri", name := "checkValue", desc := "(Lcom/example/vellum/vellum/types/RuleCheck;Ljava/lang/String;)V" } : Jvm.MethodName) prog_61_method_3_code (2 : Nat) (Option.none : Option Jvm.ClassFile.FieldType), Jvm.Cond.code ({ cls := "com/example/vellum/vellum/types/RuleCheck", name := "requirePresent", desc := "(Ljava/lang/Object;Ljava/lang/String;)V" } : Jvm.MethodName) prog_86_method_2_code (3 : Nat) (Option.none : Option Jvm.ClassFile.FieldType), Jvm.Cond.code ({ cls := "com/example/vellum/vellum/types/RuleCheck", name := "requireNotEmpty", desc := "(Ljava/lang/String;Ljava/lang/String;Ljava/lang/String;)V" } : Jvm.MethodName) prog_86_method_4_code (4 : Nat) (Option.none : Option Jvm.ClassFile.FieldType), Jvm.Cond.code ({ cls := "java/lang/String", name := "isEmpty", desc := "()Z" } : Jvm.MethodName) jdk_42_method_55_code (1 : Nat) (Option.some Jvm.ClassFile.FieldType.boolean), Jvm.Cond.code ({ cls := "com/example/vellum/vellum/types/RuleCheck", name := "enforce", desc := "()V" } : Jvm.MethodName) prog_86_method_6_code (1 : Nat) (Option.none : Option Jvm.ClassFile.FieldType), Jvm.Cond.code ({ cls := "com/example/vellum/vellum/types/DvUri", name := "fragmentId", desc := "()Ljava/lang/String;" } : Jvm.MethodName) prog_61_method_8_code (2 : Nat) (Option.some (Jvm.ClassFile.FieldType.object "java/lang/String")), Jvm.Cond.code ({ cls := "java/lang/String", name := "indexOf", desc := "(I)I" } : Jvm.MethodName) jdk_42_method_79_code (2 : Nat) (Option.some Jvm.ClassFile.FieldType.int), Jvm.Cond.code ({ cls := "java/lang/String", name := "indexOf", desc := "(II)I" } : Jvm.MethodName) jdk_42_method_80_code (3 : Nat) (Option.some Jvm.ClassFile.FieldType.int), Jvm.Cond.code ({ cls := "java/lang/String", name := "isLatin1", desc := "()Z" } : Jvm.MethodName) jdk_42_method_154_code (1 : Nat) (Option.some Jvm.ClassFile.FieldType.boolean), Jvm.Cond.code ({ cls := "java/lang/String", name := "length", desc := "()I" } : Jvm.MethodName) jdk_42_method_54_code (1 : Nat) (Option.some Jvm.ClassFile.FieldType.int), Jvm.Cond.code ({ cls := "java/lang/String", name := "coder", desc := "()B" } : Jvm.MethodName) jdk_42_method_152_code (1 : Nat) (Option.some Jvm.ClassFile.FieldType.byte), Jvm.Cond.code ({ cls := "java/lang/StringLatin1", name := "indexOf", desc := "([BIII)I" } : Jvm.MethodName) jdk_43_method_22_code (4 : Nat) (Option.some Jvm.ClassFile.FieldType.int), Jvm.Cond.code ({ cls := "java/lang/StringLatin1", name := "canEncode", desc := "(I)Z" } : Jvm.MethodName) jdk_43_method_4_code (1 : Nat) (Option.some Jvm.ClassFile.FieldType.boolean), Jvm.Cond.code ({ cls := "java/lang/Math", name := "max", desc := "(II)I" } : Jvm.MethodName) jdk_29_method_65_code (2 : Nat) (Option.some Jvm.ClassFile.FieldType.int), Jvm.Cond.code ({ cls := "java/lang/Math", name := "min", desc := "(II)I" } : Jvm.MethodName) jdk_29_method_69_code (2 : Nat) (Option.some Jvm.ClassFile.FieldType.int), Jvm.Cond.code ({ cls := "java/lang/StringLatin1", name := "indexOfChar", desc := "([BIII)I" } : Jvm.MethodName) jdk_43_method_23_code (6 : Nat) (Option.some Jvm.ClassFile.FieldType.int), Jvm.Cond.code ({ cls := "com/example/vellum/vellum/types/DvUriFragmentIdPinLaw", name := "firstHash", desc := "([CI)I" } : Jvm.MethodName) method_4_code (2 : Nat) (Option.some Jvm.ClassFile.FieldType.int), Jvm.Cond.code ({ cls := "java/lang/String", name := "substring", desc := "(I)Ljava/lang/String;" } : Jvm.MethodName) jdk_42_method_91_code (2 : Nat) (Option.some (Jvm.ClassFile.FieldType.object "java/lang/String")), Jvm.Cond.code ({ cls := "java/lang/String", name := "substring", desc := "(II)Ljava/lang/String;" } : Jvm.MethodName) jdk_42_method_92_code (5 : Nat) (Option.some (Jvm.ClassFile.FieldType.object "java/lang/String")), Jvm.Cond.code ({ cls := "java/lang/String", name := "checkBoundsBeginEnd", desc := "(III)V" } : Jvm.MethodName) jdk_42_method_158_code (3 : Nat) (Option.none : Option Jvm.ClassFile.FieldType), Jvm.Cond.code ({ cls := "jdk/internal/util/Preconditions", name := "checkFromToIndex", desc := "(IIILjava/util/function/BiFunction;)I" } : Jvm.MethodName) jdk_41_method_12_code (4 : Nat) (Option.some Jvm.ClassFile.FieldType.int), Jvm.Cond.code ({ cls := "java/lang/StringLatin1", name := "newString", desc := "([BII)Ljava/lang/String;" } : Jvm.MethodName) jdk_43_method_47_code (3 : Nat) (Option.some (Jvm.ClassFile.FieldType.object "java/lang/String")), Jvm.Cond.code ({ cls := "java/util/Arrays", name := "copyOfRange", desc := "([BII)[B" } : Jvm.MethodName) jdk_65_method_132_code (3 : Nat) (Option.some (Jvm.ClassFile.FieldType.array Jvm.ClassFile.FieldType.byte)), Jvm.Cond.code ({ cls := "java/util/Arrays", name := "copyOfRangeByte", desc := "([BII)[B" } : Jvm.MethodName) jdk_65_method_133_code (5 : Nat) (Option.some (Jvm.ClassFile.FieldType.array Jvm.ClassFile.FieldType.byte)), Jvm.Cond.code ({ cls := "java/util/Arrays", name := "checkLength", desc := "(II)V" } : Jvm.MethodName) jdk_65_method_131_code (2 : Nat) (Option.none : Option Jvm.ClassFile.FieldType), Jvm.Cond.code ({ cls := "java/lang/String", name := "<init>", desc := "([BB)V" } : Jvm.MethodName) jdk_42_method_151_code (3 : Nat) (Option.none : Option Jvm.ClassFile.FieldType), Jvm.Cond.code ({ cls := "com/example/vellum/vellum/types/DvUriFragmentIdPinLaw", name := "same", desc := "(Ljava/lang/String;[CII)Z" } : Jvm.MethodName) method_5_code (4 : Nat) (Option.some Jvm.ClassFile.FieldType.boolean), Jvm.Cond.code ({ cls := "java/lang/String", name := "charAt", desc := "(I)C" } : Jvm.MethodName) jdk_42_method_56_code (2 : Nat) (Option.some Jvm.ClassFile.FieldType.char), Jvm.Cond.code ({ cls := "java/lang/StringLatin1", name := "charAt", desc := "([BI)C" } : Jvm.MethodName) jdk_43_method_2_code (2 : Nat) (Option.some Jvm.ClassFile.FieldType.char), Jvm.Cond.code ({ cls := "java/lang/String", name := "checkIndex", desc := "(II)V" } : Jvm.MethodName) jdk_42_method_155_code (2 : Nat) (Option.none : Option Jvm.ClassFile.FieldType), Jvm.Cond.code ({ cls := "jdk/internal/util/Preconditions", name := "checkIndex", desc := "(IILjava/util/function/BiFunction;)I" } : Jvm.MethodName) jdk_41_method_11_code (3 : Nat) (Option.some Jvm.ClassFile.FieldType.int)]
set_option maxRecDepth 65536 in
theorem codes_eq : words1.filter isCode = codes1 := rfl
theorem w_codes : ∀ c ∈ words1.filter isCode, c.before args0 about1 = true := by
  rw [codes_eq]
  intro c hc
  simp only [codes1, List.mem_cons, List.not_mem_nil, or_false] at hc
  rcases hc with rfl | rfl | rfl | rfl | rfl | rfl | rfl | rfl | rfl | rfl | rfl | rfl | rfl | rfl | rfl | rfl | rfl | rfl | rfl | rfl | rfl | rfl | rfl | rfl | rfl | rfl | rfl | rfl | rfl | rfl | rfl | rfl | rfl | rfl | rfl | rfl | rfl | rfl | rfl | rfl | rfl | rfl
  · exact w_c0
  · exact w_c1
  · exact w_c2
  · exact w_c3
  · exact w_c4
  · exact w_c5
  · exact w_c6
  · exact w_c7
  · exact w_c8
  · exact w_c9
  · exact w_c10
  · exact w_c11
  · exact w_c12
  · exact w_c13
  · exact w_c14
  · exact w_c15
  · exact w_c16
  · exact w_c17
  · exact w_c18
  · exact w_c19
  · exact w_c20
  · exact w_c21
  · exact w_c22
  · exact w_c23
  · exact w_c24
  · exact w_c25
  · exact w_c26
  · exact w_c27
  · exact w_c28
  · exact w_c29
  · exact w_c30
  · exact w_c31
  · exact w_c32
  · exact w_c33
  · exact w_c34
  · exact w_c35
  · exact w_c36
  · exact w_c37
  · exact w_c38
  · exact w_c39
  · exact w_c40
  · exact w_c41
set_option maxRecDepth 65536 in
theorem w_t1 : (words1.take 24).all (fun c => isCode c || c.before args0 about1) = true := by decide +kernel
set_option maxRecDepth 65536 in
theorem w_t2 : ((words1.drop 24).take 24).all (fun c => isCode c || c.before args0 about1) = true := by decide +kernel
set_option maxRecDepth 65536 in
theorem w_t3 : (((words1.drop 24).drop 24).take 24).all (fun c => isCode c || c.before args0 about1) = true := by decide +kernel
set_option maxRecDepth 65536 in
theorem w_t4 : ((((words1.drop 24).drop 24).drop 24).take 24).all (fun c => isCode c || c.before args0 about1) = true := by decide +kernel
set_option maxRecDepth 65536 in
theorem w_t5 : (((((words1.drop 24).drop 24).drop 24).drop 24).take 24).all (fun c => isCode c || c.before args0 about1) = true := by decide +kernel
set_option maxRecDepth 65536 in
theorem w_t6 : ((((((words1.drop 24).drop 24).drop 24).drop 24).drop 24).take 24).all (fun c => isCode c || c.before args0 about1) = true := by decide +kernel
set_option maxRecDepth 65536 in
theorem w_t7 : (((((((words1.drop 24).drop 24).drop 24).drop 24).drop 24).drop 24).take 24).all (fun c => isCode c || c.before args0 about1) = true := by decide +kernel
set_option maxRecDepth 65536 in
theorem w_t8 : ((((((((words1.drop 24).drop 24).drop 24).drop 24).drop 24).drop 24).drop 24).take 24).all (fun c => isCode c || c.before args0 about1) = true := by decide +kernel
set_option maxRecDepth 65536 in
theorem w_t9 : ((((((((words1.drop 24).drop 24).drop 24).drop 24).drop 24).drop 24).drop 24).drop 24).all (fun c => isCode c || c.before args0 about1) = true := by decide +kernel
theorem w_tables : (allAtoms (Jvm.Cond.code x code maxLocals ret :: tables_1)).before args0 about1 = true := by
  rw [allAtoms_all]
  show words1.all (fun c => c.before args0 about1) = true
  refine all_split ?_ w_codes
  rw [← List.take_append_drop 24 words1, List.all_append, w_t1, ← List.take_append_drop 24 (words1.drop 24), List.all_append, w_t2, ← List.take_append_drop 24 ((words1.drop 24).drop 24), List.all_append, w_t3, ← List.take_append_drop 24 (((words1.drop 24).drop 24).drop 24), List.all_append, w_t4, ← List.take_append_drop 24 ((((words1.drop 24).drop 24).drop 24).drop 24), List.all_append, w_t5, ← List.take_append_drop 24 (((((words1.drop 24).drop 24).drop 24).drop 24).drop 24), List.all_append, w_t6, ← List.take_append_drop 24 ((((((words1.drop 24).drop 24).drop 24).drop 24).drop 24).drop 24), List.all_append, w_t7, ← List.take_append_drop 24 (((((((words1.drop 24).drop 24).drop 24).drop 24).drop 24).drop 24).drop 24), List.all_append, w_t8, w_t9]
  rfl
set_option maxRecDepth 65536 in
theorem w_rest : rest_1_c.before args0 about1 = true := by decide +kernel
set_option maxRecDepth 65536 in
theorem w_case : (Jvm.Cond.and given_1 narrow_1).before args0 about1 = true := by decide +kernel
set_option maxRecDepth 65536 in
theorem w_consts : constsHeld consts_1 about1 := Jvm.Lit.constsHeldB_iff.mp (by decide +kernel)
theorem w_applies : (headSpec (Jvm.Cond.code x code maxLocals ret :: tables_1) room_1).applies x e0.platform about1 = true :=
  (Spec.applies_iff w_frames).mpr ⟨w_running, w_runnable, w_alone, w_named, w_hears, w_ripe, w_room, w_tables⟩
theorem atStart : AtStart classFile x code maxLocals ret World_1 tables_1 room_1 Calls_1 rest_1 Pre_1 launch0 p0 e0 about1 theMethod args0 below0 :=
  ⟨lists_1, trivial, launch0.admits_env _ _ _, launch0.least_env, fairChoices_fair.cas, fairChoices_fair.clock, w_frames, w_args, w_heap, w_applies, ⟨w_consts, trivial⟩, w_rest, w_case⟩
end start1
theorem witness_1 : WitnessClaimed_1 := ⟨start1.p0, start1.e0, start1.about1, start1.theMethod, start1.args0, start1.below0, start1.atStart⟩
end Jvm.Pilot.@@N@@
