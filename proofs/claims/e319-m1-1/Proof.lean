import JvmDerived
import JvmDerived.Pilot.@@N@@Statement
import JvmDerived.Pilot.@@N@@Code
set_option linter.unusedVariables false
set_option linter.unusedSimpArgs false
namespace Jvm.RoadKit
open Sem ClassFile Op Lib Jvm.Stand Jvm.Free Jvm.LawKit
section Own
variable {p : Program} {l : Launch} {e : Env} {R : Room} {s : State} {m : MethodId} {args : Array Value} {below : List Frame} {meth : Method} {c : Code} {T : State} {locs : List Loc} {cells slots : Nat}
/-- from the state S the run comes to the end of this invocation, and Q says what it returned and left -/
def Dn (p : Program) (e : Env) (below : List Frame) (s : State) (Q : Option Value → Heap → List Loc → Prop) (k n : Nat) (S : State) : Prop :=
  ∃ U o, Steps p.tables e below S U ∧ U.status = .running ∧ Ended U below o ∧ ∃ v L, o = .returned v ∧ Q v U.heap L ∧ FrameEnd s o U L k n
variable {Q Q' : Option Value → Heap → List Loc → Prop} {k n : Nat} {S S' : State} {Z : State} {a0 : Array Value} {h : Heap}
theorem Dn.of (w : ∀ t, Steps p.tables e below S' t → Steps p.tables e below S t) (d : Dn p e below s Q k n S') : Dn p e below s Q k n S := by
  obtain ⟨U, o, st, r⟩ := d
  exact ⟨U, o, w U st, r⟩
theorem Dn.cast {g g' : JFrame} (q : g = g') (d : Dn p e below s Q k n (T.setTop g')) : Dn p e below s Q k n (T.setTop g) := q ▸ d
theorem Dn.ret (X : Stand p l e R s m args below meth c T locs cells slots) (hx : p.tables.exec = Jvm.exec) (hlk : meth.locks = false) {pc : Nat} {Ls : Array Slot} {w : Value} {t : FieldType} {i : Instr} {rest : List Value} (hret : meth.sig.returnType = some t) (hn : narrow t w = w)
    (hi : (i = .ireturn ∧ (t = .int ∨ t = .boolean ∨ t = .byte ∨ t = .char ∨ t = .short) ∧ ∃ z, w = .int z) ∨ (i = .lreturn ∧ t = .long ∧ ∃ z, w = .long z) ∨ (i = .dreturn ∧ t = .double ∧ ∃ z, w = .double z) ∨ (i = .freturn ∧ t = .float ∧ ∃ z, w = .float z) ∨ (i = .areturn ∧ t.isReference = true ∧ w.isRef = true))
    (hd : decode c.code pc = .ok (i, 1)) (hk : cells ≤ k) (hs : slots ≤ n) (hQ : Q (some w) T.heap locs) : Dn p e below s Q k n (T.setTop (mkF m pc Ls (w :: rest))) := by
  obtain ⟨fs, hr, hrun, hended, hW, hsame⟩ := X.leave (v := some w) (fun q => by rw [hret] at q; cases q) hlk
  exact ⟨_, _, retOut X hx hret hn hi hd hr, hrun, hended, _, _, rfl, hQ, ⟨_, rfl⟩, hW, hsame.mono hk hs⟩
theorem Dn.retI (X : Stand p l e R s m args below meth c T locs cells slots) (hx : p.tables.exec = Jvm.exec) (hlk : meth.locks = false) {pc : Nat} {Ls : Array Slot} {z : Int32} {rest : List Value} (hret : meth.sig.returnType = some .int)
    (hd : decode c.code pc = .ok (.ireturn, 1)) (hk : cells ≤ k) (hs : slots ≤ n) (hQ : Q (some (.int z)) T.heap locs) : Dn p e below s Q k n (T.setTop (mkF m pc Ls (.int z :: rest))) :=
  Dn.ret X hx hlk hret rfl (Or.inl ⟨rfl, Or.inl rfl, z, rfl⟩) hd hk hs hQ
theorem Dn.retA (X : Stand p l e R s m args below meth c T locs cells slots) (hx : p.tables.exec = Jvm.exec) (hlk : meth.locks = false) {pc : Nat} {Ls : Array Slot} {w : Value} {t : FieldType} {rest : List Value} (hret : meth.sig.returnType = some t) (ht : t.isReference = true) (hw : w.isRef = true)
    (hd : decode c.code pc = .ok (.areturn, 1)) (hk : cells ≤ k) (hs : slots ≤ n) (hQ : Q (some w) T.heap locs) : Dn p e below s Q k n (T.setTop (mkF m pc Ls (w :: rest))) :=
  Dn.ret X hx hlk hret (by cases t <;> simp [FieldType.isReference] at ht <;> rcases ref_cases hw with rfl | ⟨a, rfl⟩ <;> rfl) (Or.inr (Or.inr (Or.inr (Or.inr ⟨rfl, ht, hw⟩)))) hd hk hs hQ
theorem Dn.retN (X : Stand p l e R s m args below meth c T locs cells slots) (hx : p.tables.exec = Jvm.exec) (hlk : meth.locks = false) {pc : Nat} {Ls : Array Slot} {z : Int32} {t : FieldType} {rest : List Value} (hret : meth.sig.returnType = some t) (ht : t = .boolean ∨ t = .byte ∨ t = .char ∨ t = .short)
    (hd : decode c.code pc = .ok (.ireturn, 1)) (hk : cells ≤ k) (hs : slots ≤ n) (hQ : Q (some (.int (nar t z))) T.heap locs) : Dn p e below s Q k n (T.setTop (mkF m pc Ls (.int z :: rest))) := by
  obtain ⟨fs, hr, hrun, hended, hW, hsame⟩ := X.leave (v := some (.int (nar t z))) (fun q => by rw [hret] at q; cases q) hlk
  exact ⟨_, _, Jvm.RoadKit.retN X hx hret ht hd hr, hrun, hended, _, _, rfl, hQ, ⟨_, rfl⟩, hW, hsame.mono hk hs⟩
theorem Dn.retV (X : Stand p l e R s m args below meth c T locs cells slots) (hx : p.tables.exec = Jvm.exec) (hlk : meth.locks = false) {pc : Nat} {Ls : Array Slot} (hret : meth.sig.returnType = none)
    (hd : decode c.code pc = .ok (.return_, 1)) (hk : cells ≤ k) (hs : slots ≤ n) (hQ : Q none T.heap locs) : Dn p e below s Q k n (T.setTop (mkF m pc Ls [])) := by
  obtain ⟨fs, hr, hrun, hended, hW, hsame⟩ := X.leave (v := none) (fun _ => rfl) hlk
  exact ⟨_, _, X.returnOut hx hret hd hr, hrun, hended, _, _, rfl, hQ, ⟨_, rfl⟩, hW, hsame.mono hk hs⟩
/-- a body's contract: entered with the arguments as' at the heap h, it returns, and Q says what and what it left -/
abbrev ctr (l : Launch) (Z : State) (y : MethodName) (bytes : ByteArray) (maxL : Nat) (ret : Option FieldType) (ws : List Jvm.Cond) (rm : Room) (k n : Nat) (as' : Array Value) (h : Heap) (Q : Option Value → Heap → List Loc → Prop) : Prop :=
  MetFree l y (head1 (Jvm.Cond.code y bytes maxL ret :: ws) rm) (fun a U => a = as' ∧ Z.Warmed39 U.vm ∧ U.heap = h) (fun _ _ _ _ _ => True) (fun _ U o U' => ∃ v L, o = .returned v ∧ Q v U'.heap L ∧ FrameEnd U o U' L k n)
theorem ctr_of {y : MethodName} {bytes : ByteArray} {maxL : Nat} {ret : Option FieldType} {ws : List Jvm.Cond} {rm : Room} {as' : Array Value} (pn : plainFor y = true)
    (body : ∀ (p : Program) (e : Env) (s : State) (m : MethodId) (below : List Frame) (meth : Method) (c : Code) (s₁ : State), p.tables.exec = Jvm.exec → c.code = bytes → c.maxLocals = maxL → meth.sig.returnType = ret → meth.locks = false → meth.name = y.name → s.vm.findClass y.cls = some m.cls →
      Z.Warmed39 s.vm → s₁.heap = h → Stand p l e rm s m as' below meth c s₁ [] 0 0 → Dn p e below s Q k n (s₁.setTop (entryFrame m as' maxL))) : ctr l Z y bytes maxL ret ws rm k n as' h Q := by
  refine MetFree.of_bodySF pn hisR ?_
  intro p e s m args below meth c s₁ Bd hml0 hP hK
  obtain ⟨rfl, hZ, hh⟩ := hP
  exact body p e s m below meth c s₁ Bd.exec Bd.bytes hml0 Bd.returns Bd.notSynchronized (name_of_methodNamed Bd.named Bd.method).1 (findClass_of_methodNamed Bd.named) hZ (by rw [← hh, Bd.state]; rfl) (Stand.of_body Bd)
theorem cSt (X : Stand p l e R s m args below meth c T locs cells slots) (hx : p.tables.exec = Jvm.exec) (hZ : Z.Warmed39 s.vm) {own : String} {index : Nat} {y : MethodName} {bytes : ByteArray} {maxL : Nat} {ret : Option FieldType} (hown : s.vm.findClass own = some m.cls)
    (w1 : (Jvm.Cond.methodLink own index y).before a0 Z = true) (w2 : (Jvm.Cond.static y).before a0 Z = true) (w3 : (Jvm.Cond.initialized y.cls).before a0 Z = true) (w4 : (Jvm.Cond.code y bytes maxL ret).before a0 Z = true) (hy : y.cls ≠ "java/lang/invoke/MethodHandle" ∧ y.cls ≠ "java/lang/invoke/VarHandle")
    {rm : Room} {argsL rest : List Value} (hM : ctr l Z y bytes maxL ret [] rm rm.cells rm.slots argsL.toArray h Q) (eT : T.heap = h) (W : Nat) (hf : rm.frames + 1 ≤ R.frames) (hl : W + (maxL + 11) + rm.locals ≤ R.locals) (hc : cells + rm.cells ≤ R.cells) (hs : slots + rm.slots ≤ R.slots)
    {g : JFrame} (hg : g.method = m) (hsize : g.locals.size = c.maxLocals) (hlen : ∀ sig, parseMethodDescriptor y.desc = some sig → argsL.length = sig.parameters.length) (hstack : g.stack = argsL.reverse ++ rest) (hW : 2 * g.monitorRoom + (rest.map fun v => v.category).sum ≤ W) (hdg : decode c.code g.pc = .ok (.invokestatic index, 3)) :
    ∃ (v : Option Value) (T' : State) (L : List Loc), Q v T'.heap L ∧ Stand p l e R s m args below meth c T' (locs ++ L) (cells + rm.cells) (slots + rm.slots) ∧ ∀ target, Steps p.tables e below (T'.setTop { g with pc := g.pc + 3, stack := v.toList ++ rest }) target → Steps p.tables e below (T.setTop g) target := by
  obtain ⟨v, _, ⟨T', L', k', n'⟩, -, X', ⟨L, hQ, e1, e2, e3⟩, st⟩ := Jvm.LawKit.callS X hx (y := y) hown (mvT hZ w1) (mvT hZ w2) (mvT hZ w3) (mvT hZ w4) hy (backOf (W := W) hM hZ w4 w3 hf hl) hg hsize hlen hstack hW hdg (fun _ _ => ⟨rfl, eT, hc, hs⟩)
  dsimp only [Pt.U, Pt.locs, Pt.cells, Pt.slots] at X' e1 e2 e3 st hQ
  subst e1 e2 e3
  exact ⟨v, T', L, hQ, X', st⟩
theorem cIn (X : Stand p l e R s m args below meth c T locs cells slots) (hx : p.tables.exec = Jvm.exec) (hZ : Z.Warmed39 s.vm) {own : String} {index : Nat} {y : MethodName} {bytes : ByteArray} {maxL : Nat} (hy1 : y.name = "<init>") (hown : s.vm.findClass own = some m.cls)
    (w1 : (Jvm.Cond.methodLink own index y).before a0 Z = true) (w2 : (Jvm.Cond.instanceMethod y).before a0 Z = true) (w3 : (Jvm.Cond.initialized y.cls).before a0 Z = true) (w4 : (Jvm.Cond.code y bytes maxL none).before a0 Z = true) (hy : y.cls ≠ "java/lang/invoke/MethodHandle" ∧ y.cls ≠ "java/lang/invoke/VarHandle")
    {rm : Room} {a : Addr} {argsL rest : List Value} (hM : ctr l Z y bytes maxL none [] rm rm.cells rm.slots (.ref a :: argsL).toArray h Q) (eT : T.heap = h) (W : Nat) (hf : rm.frames + 1 ≤ R.frames) (hl : W + (maxL + 11) + rm.locals ≤ R.locals) (hc : cells + rm.cells ≤ R.cells) (hs : slots + rm.slots ≤ R.slots)
    {g : JFrame} (hg : g.method = m) (hsize : g.locals.size = c.maxLocals) (hlen : ∀ sig, parseMethodDescriptor y.desc = some sig → argsL.length = sig.parameters.length) (hstack : g.stack = argsL.reverse ++ .ref a :: rest) (hW : 2 * g.monitorRoom + (rest.map fun v => v.category).sum ≤ W) (hdg : decode c.code g.pc = .ok (.invokespecial index, 3)) :
    ∃ (v : Option Value) (T' : State) (L : List Loc), Q v T'.heap L ∧ Stand p l e R s m args below meth c T' (locs ++ L) (cells + rm.cells) (slots + rm.slots) ∧ ∀ target, Steps p.tables e below (T'.setTop { g with pc := g.pc + 3, stack := v.toList ++ rest }) target → Steps p.tables e below (T.setTop g) target := by
  obtain ⟨v, _, ⟨T', L', k', n'⟩, -, X', ⟨L, hQ, e1, e2, e3⟩, st⟩ := X.specialBack hx (y := y) hy1 hown (mvT hZ w1) (mvT hZ w2) (mvT hZ w4) hy (backOf (W := W) hM hZ w4 w3 hf hl) hg hsize (Steps.refl _) hlen hstack hW hdg (fun _ _ => ⟨rfl, eT, hc, hs⟩)
  dsimp only [Pt.U, Pt.locs, Pt.cells, Pt.slots] at X' e1 e2 e3 st hQ
  subst e1 e2 e3
  exact ⟨v, T', L, hQ, X', fun _ z => st.trans z⟩
theorem cVi (X : Stand p l e R s m args below meth c T locs cells slots) (hx : p.tables.exec = Jvm.exec) (hZ : Z.Warmed39 s.vm) {own C : String} {index : Nat} {y z : MethodName} {bytes : ByteArray} {maxL : Nat} {ret : Option FieldType} (hown : s.vm.findClass own = some m.cls)
    (w1 : (Jvm.Cond.methodLink own index y).before a0 Z = true) (w2 : (Jvm.Cond.declares y).before a0 Z = true) (nf : NotFace s y) (ws : (Jvm.Cond.selects C y z).before a0 Z = true) (wi : (Jvm.Cond.instanceMethod z).before a0 Z = true) (w3 : (Jvm.Cond.initialized z.cls).before a0 Z = true) (w4 : (Jvm.Cond.code z bytes maxL ret).before a0 Z = true)
    (hy : y.cls ≠ "java/lang/invoke/MethodHandle" ∧ y.cls ≠ "java/lang/invoke/VarHandle")
    {rm : Room} {a : Addr} {argsL rest : List Value} (hM : ctr l Z z bytes maxL ret [] rm rm.cells rm.slots (.ref a :: argsL).toArray h Q) (eT : T.heap = h) (E : Exa Z h a C) (W : Nat) (hf : rm.frames + 1 ≤ R.frames) (hl : W + (maxL + 11) + rm.locals ≤ R.locals) (hc : cells + rm.cells ≤ R.cells) (hs : slots + rm.slots ≤ R.slots)
    {g : JFrame} (hg : g.method = m) (hsize : g.locals.size = c.maxLocals) (hlen : ∀ sig, parseMethodDescriptor y.desc = some sig → argsL.length = sig.parameters.length) (hstack : g.stack = argsL.reverse ++ .ref a :: rest) (hW : 2 * g.monitorRoom + (rest.map fun v => v.category).sum ≤ W) (hdg : decode c.code g.pc = .ok (.invokevirtual index, 3)) :
    ∃ (v : Option Value) (T' : State) (L : List Loc), Q v T'.heap L ∧ Stand p l e R s m args below meth c T' (locs ++ L) (cells + rm.cells) (slots + rm.slots) ∧ ∀ target, Steps p.tables e below (T'.setTop { g with pc := g.pc + 3, stack := v.toList ++ rest }) target → Steps p.tables e below (T.setTop g) target := by
  obtain ⟨cq, kq, qa, qb, qc⟩ := isOf hZ eT E
  obtain ⟨v, _, ⟨T', L', k', n'⟩, -, X', ⟨L, hQ, e1, e2, e3⟩, st⟩ := X.virtualBack hx (y := y) (z := z) hown (mvT hZ w1) (mvT hZ w2) nf (mvT hZ ws) (mvT hZ wi) hy (backOf (W := W) hM hZ w4 w3 hf hl) qa qc hg hsize (Steps.refl _) hlen hstack hW hdg (fun _ _ => ⟨rfl, eT, hc, hs⟩)
  dsimp only [Pt.U, Pt.locs, Pt.cells, Pt.slots] at X' e1 e2 e3 st hQ
  subst e1 e2 e3
  exact ⟨v, T', L, hQ, X', fun _ z => st.trans z⟩
theorem cUp (X : Stand p l e R s m args below meth c T locs cells slots) (hx : p.tables.exec = Jvm.exec) (hZ : Z.Warmed39 s.vm) {own C owner : String} {index : Nat} {y z : MethodName} {bytes : ByteArray} {maxL : Nat} {ret : Option FieldType} (hown : s.vm.findClass own = some m.cls)
    (w1 : (Jvm.Cond.methodLink own index y).before a0 Z = true) (wm : (Jvm.Cond.sameMethod y.cls owner y.name y.desc).before a0 Z = true) (w2 : (Jvm.Cond.declares ⟨owner, y.name, y.desc⟩).before a0 Z = true) (ws : (Jvm.Cond.selects C y z).before a0 Z = true) (wi : (Jvm.Cond.instanceMethod z).before a0 Z = true) (w3 : (Jvm.Cond.initialized z.cls).before a0 Z = true) (w4 : (Jvm.Cond.code z bytes maxL ret).before a0 Z = true)
    (hy : owner ≠ "java/lang/invoke/MethodHandle" ∧ owner ≠ "java/lang/invoke/VarHandle")
    {rm : Room} {a : Addr} {argsL rest : List Value} (hM : ctr l Z z bytes maxL ret [] rm rm.cells rm.slots (.ref a :: argsL).toArray h Q) (eT : T.heap = h) (E : Exa Z h a C) (W : Nat) (hf : rm.frames + 1 ≤ R.frames) (hl : W + (maxL + 11) + rm.locals ≤ R.locals) (hc : cells + rm.cells ≤ R.cells) (hs : slots + rm.slots ≤ R.slots)
    {g : JFrame} (hg : g.method = m) (hsize : g.locals.size = c.maxLocals) (hlen : ∀ sig, parseMethodDescriptor y.desc = some sig → argsL.length = sig.parameters.length) (hstack : g.stack = argsL.reverse ++ .ref a :: rest) (hW : 2 * g.monitorRoom + (rest.map fun v => v.category).sum ≤ W) (hdg : decode c.code g.pc = .ok (.invokevirtual index, 3)) :
    ∃ (v : Option Value) (T' : State) (L : List Loc), Q v T'.heap L ∧ Stand p l e R s m args below meth c T' (locs ++ L) (cells + rm.cells) (slots + rm.slots) ∧ ∀ target, Steps p.tables e below (T'.setTop { g with pc := g.pc + 3, stack := v.toList ++ rest }) target → Steps p.tables e below (T.setTop g) target := by
  obtain ⟨cq, kq, qa, qb, qc⟩ := isOf hZ eT E
  obtain ⟨v, _, ⟨T', L', k', n'⟩, -, X', ⟨L, hQ, e1, e2, e3⟩, st⟩ := X.virtualBackUp hx (x := y) (y := z) (owner := owner) hown (mvT hZ w1) (mvT hZ wm) (mvT hZ w2) hy (mvT hZ ws) (mvT hZ wi) (backOf (W := W) hM hZ w4 w3 hf hl) qa qc hg hsize (Steps.refl _) hlen hstack hW hdg (fun _ _ => ⟨rfl, eT, hc, hs⟩)
  dsimp only [Pt.U, Pt.locs, Pt.cells, Pt.slots] at X' e1 e2 e3 st hQ
  subst e1 e2 e3
  exact ⟨v, T', L, hQ, X', fun _ z => st.trans z⟩
theorem cFa (X : Stand p l e R s m args below meth c T locs cells slots) (hx : p.tables.exec = Jvm.exec) (hZ : Z.Warmed39 s.vm) {own C : String} {index count : Nat} {y z : MethodName} {bytes : ByteArray} {maxL : Nat} {ret : Option FieldType} (hown : s.vm.findClass own = some m.cls)
    (w1 : (Jvm.Cond.methodLink own index y).before a0 Z = true) (w2 : (Jvm.Cond.declares y).before a0 Z = true) (wf : (Jvm.Cond.interfaceMethod y.cls y.cls y.name y.desc).before args s = true) (ws : (Jvm.Cond.selects C y z).before a0 Z = true) (wi : (Jvm.Cond.instanceMethod z).before a0 Z = true) (wp : (Jvm.Cond.publicMethod z).before a0 Z = true) (wu : (Jvm.Cond.unhidden C y.name y.desc).before a0 Z = true) (wk : (Jvm.Cond.castable C y.cls).before a0 Z = true) (w3 : (Jvm.Cond.initialized z.cls).before a0 Z = true) (w4 : (Jvm.Cond.code z bytes maxL ret).before a0 Z = true)
    (hy : y.cls ≠ "java/lang/invoke/MethodHandle" ∧ y.cls ≠ "java/lang/invoke/VarHandle")
    {rm : Room} {a : Addr} {argsL rest : List Value} (hM : ctr l Z z bytes maxL ret [] rm rm.cells rm.slots (.ref a :: argsL).toArray h Q) (eT : T.heap = h) (E : Exa Z h a C) (W : Nat) (hf : rm.frames + 1 ≤ R.frames) (hl : W + (maxL + 11) + rm.locals ≤ R.locals) (hc : cells + rm.cells ≤ R.cells) (hs : slots + rm.slots ≤ R.slots)
    {g : JFrame} (hg : g.method = m) (hsize : g.locals.size = c.maxLocals) (hlen : ∀ sig, parseMethodDescriptor y.desc = some sig → argsL.length = sig.parameters.length) (hstack : g.stack = argsL.reverse ++ .ref a :: rest) (hW : 2 * g.monitorRoom + (rest.map fun v => v.category).sum ≤ W) (hdg : decode c.code g.pc = .ok (.invokeinterface index count, 5)) :
    ∃ (v : Option Value) (T' : State) (L : List Loc), Q v T'.heap L ∧ Stand p l e R s m args below meth c T' (locs ++ L) (cells + rm.cells) (slots + rm.slots) ∧ ∀ target, Steps p.tables e below (T'.setTop { g with pc := g.pc + 5, stack := v.toList ++ rest }) target → Steps p.tables e below (T.setTop g) target := by
  obtain ⟨cq, kq, qa, qb, qc⟩ := isOf hZ eT E
  obtain ⟨v, _, ⟨T', L', k', n'⟩, -, X', ⟨L, hQ, e1, e2, e3⟩, st⟩ := X.interfaceBack hx (xi := y) (y := z) hown (mvT hZ w1) (mvT hZ w2) wf (mvT hZ ws) (mvT hZ wi) (mvT hZ wp) (mvT hZ wu) (mvT hZ wk) hy (backOf (W := W) hM hZ w4 w3 hf hl) qa qb qc hg hsize (Steps.refl _) hlen hstack hW hdg (fun _ _ => ⟨rfl, eT, hc, hs⟩)
  dsimp only [Pt.U, Pt.locs, Pt.cells, Pt.slots] at X' e1 e2 e3 st hQ
  subst e1 e2 e3
  exact ⟨v, T', L, hQ, X', fun _ z => st.trans z⟩
/-- a static's fact over a Keep: its holder's cell is none of the written -/
theorem Sta.keep {h' : Heap} {C n d : String} {v : Value} {ws : List Addr} (F : Sta Z h C n d v) (K : Keep h h' ws) (q : ∀ (x : Addr) (c : Cell), x ∈ ws → h[x]? = some c → c.vm.isStatics = false) : Sta Z h' C n d v := by
  obtain ⟨cf, i, k, f, st, cell, h1, h2, h3, h4, h5, h6, h7⟩ := F
  refine ⟨cf, i, k, f, st, cell, h1, h2, h3, h4, K.2.1 _ _ h5 (fun y => ?_), h6, h7⟩
  rw [q st cell y h5] at h6; cases h6
theorem own_ns {a : Addr} {C : String} (E : Exa Z h a C) : ∀ (x : Addr) (c : Cell), x ∈ [a] → h[x]? = some c → c.vm.isStatics = false := by
  intro x c hx hc
  cases List.mem_singleton.mp hx
  obtain ⟨cell, k, h1, -, -, h4, -⟩ := E
  rw [h1] at hc; cases hc; exact h4
/-- an int field of what a term names, out of an 'eq' of the case -/
theorem own_fld {args : Array Value} {a : Addr} {C n d : String} {t : Term} {x : Int32} (ev : t.eval args Z none [] Z = some (.ref a)) (hq : (Jvm.Cond.eq (.field t C n d) (.int x)).value args Z none Z [] = some true) : Fld Z Z.heap a C n d (.int x) := by
  obtain ⟨u, w, h1, h2, k1, k2⟩ := cmp_v (Or.inl hq)
  have h2' : w = .int x := by rw [Term.int_eval] at h2; exact (Option.some.inj h2).symm
  subst h2'
  obtain ⟨z, rfl⟩ : ∃ z, u = .int z := k2
  have : z = x := gotT (Cond.eq_ints h1 (Term.int_eval x)) hq
  subst this
  exact Fld.start (by rw [← fld_at ev]; exact h1)
theorem own_cat {v : Value} (r : v.isRef = true) : v.category = 1 := by rcases ref_cases r with rfl | ⟨a, rfl⟩ <;> rfl
theorem own_narO {C : String} {v : Value} (r : v.isRef = true) : narrow (.object C) v = v := by rcases ref_cases r with rfl | ⟨a, rfl⟩ <;> rfl
theorem own_fitO {C : String} {v : Value} (r : v.isRef = true) : fits (.object C) v = true := by rcases ref_cases r with rfl | ⟨a, rfl⟩ <;> rfl
theorem own_len {args : Array Value} {a : Addr} {cl : Cell} {ty : FieldType} {t : Term} {x : Int32} (ev : t.eval args Z none [] Z = some (.ref a)) (A : Arr Z Z.heap a cl ty) (hq : (Jvm.Cond.eq (.length t) (.int x)).value args Z none Z [] = some true) : cl.slots.size = x.toNatClampNeg ∧ cl.slots.size < 2 ^ 31 := by
  have ha : Z.arrayAt? a = some cl := IntBox.arrayAt_of A.1 A.2.1 A.2.2
  by_cases p : cl.slots.size < 2 ^ 31
  · have q := gotT (Cond.eq_ints (len_f ev ha p) (Term.int_eval x)) hq
    refine ⟨?_, p⟩
    rw [← q, Int32.toNatClampNeg, len_toInt p]; rfl
  · obtain ⟨u, w, h1, h2, -, -⟩ := cmp_v (Or.inl hq)
    exact absurd h1 (by simp [Term.eval, ev, ha, p])
theorem own_elem {args : Array Value} {a b : Addr} {cl : Cell} {ty : FieldType} {t u : Term} {j : Int32} (ev : t.eval args Z none [] Z = some (.ref a)) (A : Arr Z Z.heap a cl ty) (eu : u.eval args Z none [] Z = some (.ref b)) (hq : (Jvm.Cond.eq (.elem t (.int j)) u).value args Z none Z [] = some true) : cl.slots[j.toNatClampNeg]? = some (.ref b) := by
  obtain ⟨x, y, h1, h2, k1, k2⟩ := cmp_v (Or.inl hq)
  rw [eu] at h2; cases h2
  have e := gotT (eq_R h1 eu k2.2 rfl) hq
  rw [← e]; exact (elem_in h1 ev (Term.int_eval j) A.1).2
end Own
end Jvm.RoadKit
namespace Jvm.RoadKit
open Jvm.FP Jvm.FP.Core Jvm.Free.Fl
section OwnScale
/-- the double x is exactly i * 2^k -/
def Sc (i k : Int) (x : UInt64) : Prop := ∃ (s : Bool) (c : Nat) (q : Int), val64 x = .fin s c q ∧ Whole i (.fin s c (q - k))
theorem Sc.of_int {i : Int} {x : UInt64} (h : DInt i x) : Sc i 0 x := by
  unfold DInt at h
  match e : val64 x, h with
  | .fin s c q, h => exact ⟨s, c, q, e, by rw [Int.sub_zero]; exact h⟩
theorem Sc.noNaN {i k : Int} {x : UInt64} (h : Sc i k x) : NoNaN64 x := by
  obtain ⟨s, c, q, e, -⟩ := h
  rw [val64_no, e]; exact fun y => by cases y
theorem own_fit (s : Bool) {n : Nat} (h0 : 0 < n) (hn : n < 2 ^ 53) {k : Int} (k1 : -1000 ≤ k) (k2 : k ≤ 900) :
    ∃ L : Nat, L ≤ 52 ∧ Jvm.FP.Core.fits b64 (.fin s (n * 2 ^ (52 - L)) (((L : Int) - 52) + k)) := by
  have l1 : 2 ^ n.log2 ≤ n := Nat.log2_self_le (by omega)
  have l2 : n < 2 ^ (n.log2 + 1) := Nat.lt_log2_self
  have l3 : n.log2 < 53 := (Nat.pow_lt_pow_iff_right (by decide : 1 < 2)).mp (Nat.lt_of_le_of_lt l1 hn)
  generalize n.log2 = L at l1 l2 l3
  refine ⟨L, by omega, ?_, ?_, ?_, Or.inr ?_⟩
  · calc n * 2 ^ (52 - L) < 2 ^ (L + 1) * 2 ^ (52 - L) := Nat.mul_lt_mul_of_pos_right l2 (Nat.two_pow_pos _)
      _ = 2 ^ b64.p := by rw [← Nat.pow_add]; congr 1; show L + 1 + (52 - L) = 53; omega
  · show (-1074 : Int) ≤ _; omega
  · show _ ≤ (971 : Int); omega
  · calc b64.tails = 2 ^ L * 2 ^ (52 - L) := by rw [← Nat.pow_add]; show 2 ^ 52 = _; congr 1; omega
      _ ≤ n * 2 ^ (52 - L) := Nat.mul_le_mul_right _ l1
theorem own_pw {a b : Nat} (h : a = b) : 2 ^ a = 2 ^ b := by rw [h]
/-- the heart: c * 2^a = n (a of either sign), spelled with c' = n * 2^t at the exponent -t -/
theorem own_sp {c n t : Nat} {a : Int} (h : c * 2 ^ a.toNat = n * 2 ^ (-a).toNat) : c * 2 ^ (a - -(t : Int)).toNat = n * 2 ^ t * 1 * 2 ^ (-(t : Int) - a).toNat := by
  rw [Nat.mul_one]
  rcases Int.le_total 0 a with p | p
  · rw [show (-a).toNat = 0 by omega, Nat.pow_zero, Nat.mul_one] at h
    rw [show (a - -(t : Int)).toNat = a.toNat + t by omega, show (-(t : Int) - a).toNat = 0 by omega, Nat.pow_add, ← Nat.mul_assoc, h, Nat.pow_zero, Nat.mul_one]
  · rw [show a.toNat = 0 by omega, Nat.pow_zero, Nat.mul_one] at h
    subst h
    rw [Nat.mul_assoc, Nat.mul_assoc, ← Nat.pow_add, ← Nat.pow_add]
    congr 2; omega
theorem own_round {f : Fmt} (hf : f = b64) {s : Bool} {A B : Nat} {e i k : Int} {c : Nat} {q : Int} (hB : 0 < B) (hc : A * 1 * 2 ^ (e - q).toNat = c * B * 2 ^ (q - e).toNat) (h : Whole i (.fin s c (q - k))) (hi : i.natAbs < 2 ^ 53) (k1 : -1000 ≤ k) (k2 : k ≤ 900) :
    ∃ (s' : Bool) (c' : Nat) (q' : Int), roundRatio f s A B e = .fin s' c' q' ∧ Whole i (.fin s' c' (q' - k)) := by
  subst hf
  rw [roundRatio_congr (A' := c) (B' := 1) (e' := q) hB (by decide) hc]
  by_cases h0 : i = 0
  · have hz : c = 0 := (whole_zero h).mpr h0
    subst hz; subst h0
    refine ⟨s, 0, b64.qmin, rfl, ?_⟩
    show signed s (0 * _) = 0 * _
    rw [Nat.zero_mul, signed_zero, Int.zero_mul]
  · have hw := whole_natAbs h
    have hs := whole_sign h h0
    obtain ⟨L, hL, hfit⟩ := own_fit s (n := i.natAbs) (by omega) hi k1 k2
    refine ⟨s, _, _, roundRatio_exact good_b64 (by decide) hfit ?_, ?_⟩
    · have := own_sp (t := 52 - L) (a := q - k) hw
      rw [show ((q : Int) - (((L : Int) - 52) + k)) = q - k - -((52 - L : Nat) : Int) by omega, show ((((L : Int) - 52) + k) - q) = -((52 - L : Nat) : Int) - (q - k) by omega]
      exact this
    · show signed s (_ * _) = i * _
      rw [show (((L : Int) - 52) + k - k).toNat = 0 by omega, show (-(((L : Int) - 52) + k - k)).toNat = 52 - L by omega, Nat.pow_zero, Nat.mul_one, signed_mul]
      congr 1
      rw [hs]; unfold signed
      by_cases p : i < 0
      · simp [p]; omega
      · simp [p]; omega
theorem Sc.mul {i j k m : Int} {x y : UInt64} (hx : Sc i k x) (hy : Sc j m y) (hi : (i * j).natAbs < 2 ^ 53) (k1 : -1000 ≤ k + m) (k2 : k + m ≤ 900) : Sc (i * j) (k + m) (FP.dmul x y) := by
  obtain ⟨s, c, q, e1, w1⟩ := hx
  obtain ⟨t, d, r, e2, w2⟩ := hy
  have w := whole_product w1 w2
  have v := val64_dmul x y
  rw [e1, e2] at v
  obtain ⟨s', c', q', e3, w3⟩ := own_round (f := b64) rfl (s := (s != t)) (A := c * d) (B := 1) (e := q + r) (i := i * j) (k := k + m) (c := c * d) (q := q + r) (by decide) (by simp) (by
    have : q + r - (k + m) = q - k + (r - m) := by omega
    rw [this]; exact w) hi k1 k2
  exact ⟨s', c', q', v.trans e3, w3⟩
theorem own_shift_sum (s : Bool) (c : Nat) (q : Int) (t : Bool) (d : Nat) (r k : Int) :
    exactSum (.fin s c (q - k)) (.fin t d (r - k)) = .fin (sumSign s t (sumUnits s c q t d r (min q r))) (sumUnits s c q t d r (min q r)).natAbs (min q r - k) := by
  have hm : min (q - k) (r - k) = min q r - k := by omega
  have hu : sumUnits s c (q - k) t d (r - k) (min q r - k) = sumUnits s c q t d r (min q r) := by
    unfold sumUnits inUnits
    rw [show q - k - (min q r - k) = q - min q r by omega, show r - k - (min q r - k) = r - min q r by omega]
  show Datum.fin _ _ _ = _
  rw [hm, hu]
theorem Sc.add {i j k : Int} {x y : UInt64} (hx : Sc i k x) (hy : Sc j k y) (hi : (i + j).natAbs < 2 ^ 53) (k1 : -1000 ≤ k) (k2 : k ≤ 900) : Sc (i + j) k (FP.dadd x y) := by
  obtain ⟨s, c, q, e1, w1⟩ := hx
  obtain ⟨t, d, r, e2, w2⟩ := hy
  have w := whole_sum w1 w2
  have v := val64_dadd x y
  rw [e1, e2] at v
  rw [own_shift_sum] at w
  obtain ⟨s', c', q', e3, w3⟩ := own_round (f := b64) rfl (s := sumSign s t (sumUnits s c q t d r (min q r))) (A := (sumUnits s c q t d r (min q r)).natAbs) (B := 1) (e := min q r) (i := i + j) (k := k) (by decide) (by simp) w hi k1 k2
  exact ⟨s', c', q', v.trans e3, w3⟩
theorem Sc.neg' {i k : Int} {s : Bool} {c : Nat} {q : Int} (w : Whole i (.fin s c (q - k))) : Whole (-i) (.fin (!s) c (q - k)) := whole_negate w
theorem Sc.sub {i j k : Int} {x y : UInt64} (hx : Sc i k x) (hy : Sc j k y) (hi : (i - j).natAbs < 2 ^ 53) (k1 : -1000 ≤ k) (k2 : k ≤ 900) : Sc (i - j) k (FP.dsub x y) := by
  obtain ⟨s, c, q, e1, w1⟩ := hx
  obtain ⟨t, d, r, e2, w2⟩ := hy
  have w := whole_sum w1 (Sc.neg' w2)
  have v := val64_dsub x y
  rw [e1, e2] at v
  rw [own_shift_sum] at w
  rw [show i + -j = i - j by omega] at w
  obtain ⟨s', c', q', e3, w3⟩ := own_round (f := b64) rfl (s := sumSign s (!t) (sumUnits s c q (!t) d r (min q r))) (A := (sumUnits s c q (!t) d r (min q r)).natAbs) (B := 1) (e := min q r) (i := i - j) (k := k) (by decide) (by simp) w hi k1 k2
  exact ⟨s', c', q', v.trans e3, w3⟩
/-- by a power of two -/
theorem Sc.div {i k m : Int} {x y : UInt64} (hx : Sc i k x) (hy : Sc 1 m y) (hi : i.natAbs < 2 ^ 53) (k1 : -1000 ≤ k - m) (k2 : k - m ≤ 900) : Sc i (k - m) (FP.ddiv x y) := by
  obtain ⟨s, c, q, e1, w1⟩ := hx
  obtain ⟨t, d, r, e2, w2⟩ := hy
  have v := val64_ddiv x y
  rw [e1, e2] at v
  have hd : d ≠ 0 := fun y => absurd ((whole_zero w2).mp y) (by decide)
  have ht : t = false := (whole_sign w2 (by decide)).trans (by decide)
  subst ht
  have hv : val64 (FP.ddiv x y) = roundRatio b64 s c d (q - r) := by
    rw [v]; show (if d = 0 then _ else _) = _
    rw [if_neg hd]; congr 1; cases s <;> rfl
  have hw := whole_natAbs w2
  rw [show (1 : Int).natAbs = 1 from rfl, Nat.one_mul] at hw
  obtain ⟨s', c', q', e3, w3⟩ := own_round (f := b64) rfl (s := s) (A := c) (B := d) (e := q - r) (i := i) (k := k - m) (c := c) (q := q - m) (by omega) (by
    rw [Nat.mul_one, show (q - r - (q - m)) = -(r - m) by omega, show (q - m - (q - r)) = r - m by omega, Nat.mul_assoc, hw]) (by
    rw [show q - m - (k - m) = q - k by omega]; exact w1) hi k1 k2
  exact ⟨s', c', q', hv.trans e3, w3⟩
theorem Sc.down {i k : Int} {x : UInt64} (h : Sc i k x) (t : Nat) : Sc (i * (2 ^ t : Nat)) (k - t) x := by
  obtain ⟨s, c, q, e1, w1⟩ := h
  refine ⟨s, c, q, e1, ?_⟩
  have w1' : signed s (c * 2 ^ (q - k).toNat) = i * ((2 ^ (-(q - k)).toNat : Nat) : Int) := w1
  show signed s (c * 2 ^ (q - (k - t)).toNat) = i * (2 ^ t : Nat) * ((2 ^ (-(q - (k - t))).toNat : Nat) : Int)
  rw [signed_mul] at w1' ⊢
  rcases Int.le_total 0 (q - k) with p | p
  · rw [show (-(q - k)).toNat = 0 by omega] at w1'
    rw [show (-(q - (k - (t : Int)))).toNat = 0 by omega, show (q - (k - (t : Int))).toNat = (q - k).toNat + t by omega, Nat.pow_add, Int.natCast_mul, ← Int.mul_assoc, w1']
    simp
  · rw [show (q - k).toNat = 0 by omega] at w1'
    rcases Int.le_total 0 (q - (k - (t : Int))) with p' | p'
    · rw [show (-(q - (k - (t : Int)))).toNat = 0 by omega]
      have e : (2 ^ t : Nat) = 2 ^ (-(q - k)).toNat * 2 ^ (q - (k - (t : Int))).toNat := by rw [← Nat.pow_add]; congr 1; omega
      rw [e, Int.natCast_mul, ← Int.mul_assoc, ← w1']; simp
    · rw [show (q - (k - (t : Int))).toNat = 0 by omega]
      have e : 2 ^ (-(q - k)).toNat = (2 ^ t : Nat) * 2 ^ (-(q - (k - (t : Int)))).toNat := by rw [← Nat.pow_add]; congr 1; omega
      rw [w1', e, Int.natCast_mul, Int.mul_assoc]
theorem own_shift_ord (s : Bool) (c : Nat) (q : Int) (t : Bool) (d : Nat) (r k : Int) : order (.fin s c (q - k)) (.fin t d (r - k)) = order (.fin s c q) (.fin t d r) := by
  have hm : min (q - k) (r - k) = min q r - k := by omega
  show some (compare _ _) = some (compare _ _)
  rw [hm]; unfold inUnits
  rw [show q - k - (min q r - k) = q - min q r by omega, show r - k - (min q r - k) = r - min q r by omega]
theorem Sc.cmp {i j k : Int} {x y : UInt64} (hx : Sc i k x) (hy : Sc j k y) : FP.dcmp x y = some (compare i j) := by
  obtain ⟨s, c, q, e1, w1⟩ := hx
  obtain ⟨t, d, r, e2, w2⟩ := hy
  show order (val64 x) (val64 y) = _
  rw [e1, e2, ← own_shift_ord s c q t d r k]
  exact order_whole w1 w2
theorem Sc.fin {i k : Int} {x : UInt64} (h : Sc i k x) : Fin64 x := by
  obtain ⟨s, c, q, e1, -⟩ := h
  rw [fin64_core]
  exact ⟨s, c, q, e1⟩
theorem Sc.pow {n : Nat} {x : UInt64} (h : Sc ((2 ^ n : Nat) : Int) 0 x) : Sc 1 n x := by
  obtain ⟨s, c, q, e1, w⟩ := h
  refine ⟨s, c, q, e1, ?_⟩
  have w' : signed s (c * 2 ^ (q - 0).toNat) = ((2 ^ n : Nat) : Int) * ((2 ^ (-(q - 0)).toNat : Nat) : Int) := w
  show signed s (c * 2 ^ (q - (n : Int)).toNat) = 1 * ((2 ^ (-(q - (n : Int))).toNat : Nat) : Int)
  rw [signed_mul] at w' ⊢
  rw [Int.one_mul, Int.sub_zero] at *
  rcases Int.le_total 0 (q - (n : Int)) with p | p
  · have e : (2 ^ q.toNat : Nat) = 2 ^ (q - (n : Int)).toNat * 2 ^ n := by rw [← Nat.pow_add]; congr 1; omega
    rw [show (-q).toNat = 0 by omega, e, Int.natCast_mul, ← Int.mul_assoc, Int.mul_comm] at w'
    rw [show (-(q - (n : Int))).toNat = 0 by omega]
    exact Int.eq_of_mul_eq_mul_left (a := ((2 ^ n : Nat) : Int)) (by have := Nat.two_pow_pos n; omega) w'
  · rw [show (q - (n : Int)).toNat = 0 by omega, Nat.pow_zero]
    rcases Int.le_total 0 q with p' | p'
    · have e : (2 ^ n : Nat) = 2 ^ (-(q - (n : Int))).toNat * 2 ^ q.toNat := by rw [← Nat.pow_add]; congr 1; omega
      rw [show (-q).toNat = 0 by omega, e, Int.natCast_mul, Nat.pow_zero, Int.natCast_one, Int.mul_one] at w'
      rw [Int.natCast_one, Int.mul_one]
      exact Int.eq_of_mul_eq_mul_right (a := ((2 ^ q.toNat : Nat) : Int)) (by have := Nat.two_pow_pos q.toNat; omega) w'
    · have e : 2 ^ (-(q - (n : Int))).toNat = (2 ^ n : Nat) * 2 ^ (-q).toNat := by rw [← Nat.pow_add]; congr 1; omega
      rw [show q.toNat = 0 by omega, Nat.pow_zero] at w'
      rw [w', e, Int.natCast_mul]
theorem Sc.cast {i k i' k' : Int} {x : UInt64} (h : Sc i k x) (e1 : i = i') (e2 : k = k') : Sc i' k' x := by subst e1; subst e2; exact h
theorem Sc.zero (k : Int) : Sc 0 k 0 := ⟨false, 0, b64.qmin, by decide +kernel, by
  show signed false (0 * _) = 0 * _
  rw [Nat.zero_mul, signed_zero, Int.zero_mul]⟩
theorem Sc.one : Sc 1 0 (4607182418800017408 : UInt64) := ⟨false, 2 ^ 52, -52, by decide +kernel, by
  show signed false (2 ^ 52 * 2 ^ ((-52 - 0 : Int)).toNat) = 1 * ((2 ^ (-(-52 - 0 : Int)).toNat : Nat) : Int)
  decide +kernel⟩
theorem cv_if (a b : Int) (o : ClassFile.CmpOp) : Jvm.Op.cmpValue (some (compare a b)) o = if a < b then (-1 : Int32) else if a = b then 0 else 1 := by
  by_cases h : a < b
  · rw [if_pos h, show compare a b = .lt from compareOfLessAndEq_eq_lt.mpr h]; rfl
  · by_cases h' : a = b
    · subst h'; rw [if_neg h, if_pos rfl, show compare a a = .eq from compareOfLessAndEq_eq_eq (by omega) (by omega) |>.mpr rfl]; rfl
    · rw [if_neg h, if_neg h', show compare a b = .gt by
        show compareOfLessAndEq a b = .gt
        rw [compareOfLessAndEq, if_neg h, if_neg h']]; rfl
theorem cv_eq0 (a b : Int) (o : ClassFile.CmpOp) : Jvm.Op.cmpValue (some (compare a b)) o = (0 : Int32) ↔ a = b := by
  rw [cv_if]
  by_cases h : a < b
  · rw [if_pos h]; exact ⟨fun q => absurd q (by decide), fun q => by omega⟩
  · rw [if_neg h]
    by_cases h' : a = b
    · rw [if_pos h']; exact ⟨fun _ => h', fun _ => rfl⟩
    · rw [if_neg h']; exact ⟨fun q => absurd q (by decide), fun q => absurd q h'⟩
theorem cv_gt0 (a b : Int) (o : ClassFile.CmpOp) : (0 : Int32) < Jvm.Op.cmpValue (some (compare a b)) o ↔ b < a := by
  rw [cv_if]
  by_cases h : a < b
  · rw [if_pos h]; exact ⟨fun q => absurd q (by decide), fun q => by omega⟩
  · rw [if_neg h]
    by_cases h' : a = b
    · rw [if_pos h']; exact ⟨fun q => absurd q (by decide), fun q => by omega⟩
    · rw [if_neg h']; exact ⟨fun _ => by omega, fun _ => by decide⟩
theorem cv_lt0 (a b : Int) (o : ClassFile.CmpOp) : Jvm.Op.cmpValue (some (compare a b)) o < (0 : Int32) ↔ a < b := by
  rw [cv_if]
  by_cases h : a < b
  · rw [if_pos h]; exact ⟨fun _ => h, fun _ => by decide⟩
  · rw [if_neg h]
    by_cases h' : a = b
    · rw [if_pos h']; exact ⟨fun q => absurd q (by decide), fun q => absurd q h⟩
    · rw [if_neg h']; exact ⟨fun q => absurd q (by decide), fun q => absurd q h⟩
end OwnScale
end Jvm.RoadKit
namespace Jvm.Pilot.@@N@@
open Jvm Jvm.ClassFile Sem Op Lib Jvm.Free Jvm.Stand Jvm.LawKit Jvm.RoadKit Bundle Jvm.Pilot.@@N@@.Jvm.D
theorem d1_0 : decode prog_5_method_1_code 0 = .ok (.aload_n 0, 1) := by decide +kernel
theorem d1_1 : decode prog_5_method_1_code 1 = .ok (.invokespecial 1, 3) := by decide +kernel
theorem d1_4 : decode prog_5_method_1_code 4 = .ok (.dload_n 1, 1) := by decide +kernel
theorem d1_5 : decode prog_5_method_1_code 5 = .ok (.dconst 0, 1) := by decide +kernel
theorem d1_6 : decode prog_5_method_1_code 6 = .ok (.dcmp .l, 1) := by decide +kernel
theorem d1_7 : decode prog_5_method_1_code 7 = .ok (.ifCond .lt 9, 3) := by decide +kernel
theorem d1_10 : decode prog_5_method_1_code 10 = .ok (.dload_n 1, 1) := by decide +kernel
theorem d1_11 : decode prog_5_method_1_code 11 = .ok (.dconst 1, 1) := by decide +kernel
theorem d1_12 : decode prog_5_method_1_code 12 = .ok (.dcmp .g, 1) := by decide +kernel
theorem d1_13 : decode prog_5_method_1_code 13 = .ok (.ifCond .le 17, 3) := by decide +kernel
theorem d1_30 : decode prog_5_method_1_code 30 = .ok (.iload_n 3, 1) := by decide +kernel
theorem d1_31 : decode prog_5_method_1_code 31 = .ok (.iconst 1, 1) := by decide +kernel
theorem d1_32 : decode prog_5_method_1_code 32 = .ok (.if_icmp .lt 9, 3) := by decide +kernel
theorem d1_35 : decode prog_5_method_1_code 35 = .ok (.iload 4, 2) := by decide +kernel
theorem d1_37 : decode prog_5_method_1_code 37 = .ok (.iload_n 3, 1) := by decide +kernel
theorem d1_38 : decode prog_5_method_1_code 38 = .ok (.if_icmp .ge 19, 3) := by decide +kernel
theorem d1_57 : decode prog_5_method_1_code 57 = .ok (.aload_n 0, 1) := by decide +kernel
theorem d1_58 : decode prog_5_method_1_code 58 = .ok (.dload_n 1, 1) := by decide +kernel
theorem d1_59 : decode prog_5_method_1_code 59 = .ok (.putfield 19, 3) := by decide +kernel
theorem d1_62 : decode prog_5_method_1_code 62 = .ok (.aload_n 0, 1) := by decide +kernel
theorem d1_63 : decode prog_5_method_1_code 63 = .ok (.iload_n 3, 1) := by decide +kernel
theorem d1_64 : decode prog_5_method_1_code 64 = .ok (.putfield 25, 3) := by decide +kernel
theorem d1_67 : decode prog_5_method_1_code 67 = .ok (.aload_n 0, 1) := by decide +kernel
theorem d1_68 : decode prog_5_method_1_code 68 = .ok (.iload 4, 2) := by decide +kernel
theorem d1_70 : decode prog_5_method_1_code 70 = .ok (.putfield 29, 3) := by decide +kernel
theorem d1_73 : decode prog_5_method_1_code 73 = .ok (.return_, 1) := by decide +kernel
theorem d2_0 : decode jdk_30_method_1_code 0 = .ok (.aload_n 0, 1) := by decide +kernel
theorem d2_1 : decode jdk_30_method_1_code 1 = .ok (.invokespecial 1, 3) := by decide +kernel
theorem d2_4 : decode jdk_30_method_1_code 4 = .ok (.return_, 1) := by decide +kernel
theorem d4_0 : decode prog_5_method_3_code 0 = .ok (.dconst 1, 1) := by decide +kernel
theorem d4_1 : decode prog_5_method_3_code 1 = .ok (.aload_n 0, 1) := by decide +kernel
theorem d4_2 : decode prog_5_method_3_code 2 = .ok (.getfield 19, 3) := by decide +kernel
theorem d4_5 : decode prog_5_method_3_code 5 = .ok (.dsub, 1) := by decide +kernel
theorem d4_6 : decode prog_5_method_3_code 6 = .ok (.aload_n 0, 1) := by decide +kernel
theorem d4_7 : decode prog_5_method_3_code 7 = .ok (.getfield 25, 3) := by decide +kernel
theorem d4_10 : decode prog_5_method_3_code 10 = .ok (.i2d, 1) := by decide +kernel
theorem d4_11 : decode prog_5_method_3_code 11 = .ok (.ddiv, 1) := by decide +kernel
theorem d4_12 : decode prog_5_method_3_code 12 = .ok (.dstore_n 3, 1) := by decide +kernel
theorem d4_13 : decode prog_5_method_3_code 13 = .ok (.dload_n 1, 1) := by decide +kernel
theorem d4_14 : decode prog_5_method_3_code 14 = .ok (.aload_n 0, 1) := by decide +kernel
theorem d4_15 : decode prog_5_method_3_code 15 = .ok (.getfield 25, 3) := by decide +kernel
theorem d4_18 : decode prog_5_method_3_code 18 = .ok (.i2d, 1) := by decide +kernel
theorem d4_19 : decode prog_5_method_3_code 19 = .ok (.dcmp .g, 1) := by decide +kernel
theorem d4_20 : decode prog_5_method_3_code 20 = .ok (.ifCond .ge 12, 3) := by decide +kernel
theorem d4_23 : decode prog_5_method_3_code 23 = .ok (.aload_n 0, 1) := by decide +kernel
theorem d4_24 : decode prog_5_method_3_code 24 = .ok (.getfield 19, 3) := by decide +kernel
theorem d4_27 : decode prog_5_method_3_code 27 = .ok (.dload_n 3, 1) := by decide +kernel
theorem d4_28 : decode prog_5_method_3_code 28 = .ok (.dload_n 1, 1) := by decide +kernel
theorem d4_29 : decode prog_5_method_3_code 29 = .ok (.dmul, 1) := by decide +kernel
theorem d4_30 : decode prog_5_method_3_code 30 = .ok (.dadd, 1) := by decide +kernel
theorem d4_31 : decode prog_5_method_3_code 31 = .ok (.dreturn, 1) := by decide +kernel
theorem d4_32 : decode prog_5_method_3_code 32 = .ok (.dload_n 1, 1) := by decide +kernel
theorem d4_33 : decode prog_5_method_3_code 33 = .ok (.aload_n 0, 1) := by decide +kernel
theorem d4_34 : decode prog_5_method_3_code 34 = .ok (.getfield 29, 3) := by decide +kernel
theorem d4_37 : decode prog_5_method_3_code 37 = .ok (.i2d, 1) := by decide +kernel
theorem d4_38 : decode prog_5_method_3_code 38 = .ok (.dcmp .g, 1) := by decide +kernel
theorem d4_39 : decode prog_5_method_3_code 39 = .ok (.ifCond .gt 5, 3) := by decide +kernel
theorem d4_42 : decode prog_5_method_3_code 42 = .ok (.dconst 1, 1) := by decide +kernel
theorem d4_43 : decode prog_5_method_3_code 43 = .ok (.dreturn, 1) := by decide +kernel
theorem d4_44 : decode prog_5_method_3_code 44 = .ok (.dconst 1, 1) := by decide +kernel
theorem d4_45 : decode prog_5_method_3_code 45 = .ok (.dload_n 3, 1) := by decide +kernel
theorem d4_46 : decode prog_5_method_3_code 46 = .ok (.dload_n 1, 1) := by decide +kernel
theorem d4_47 : decode prog_5_method_3_code 47 = .ok (.aload_n 0, 1) := by decide +kernel
theorem d4_48 : decode prog_5_method_3_code 48 = .ok (.getfield 29, 3) := by decide +kernel
theorem d4_51 : decode prog_5_method_3_code 51 = .ok (.i2d, 1) := by decide +kernel
theorem d4_52 : decode prog_5_method_3_code 52 = .ok (.dsub, 1) := by decide +kernel
theorem d4_53 : decode prog_5_method_3_code 53 = .ok (.dmul, 1) := by decide +kernel
theorem d4_54 : decode prog_5_method_3_code 54 = .ok (.dadd, 1) := by decide +kernel
theorem d4_55 : decode prog_5_method_3_code 55 = .ok (.dreturn, 1) := by decide +kernel
theorem pn0 : plainName "java/lang/Record" = true := by first | (simp [plainName, overriddenIn]; done) | decide +kernel
theorem pn1 : plainName "com/example/warmfront/warmfront/api/ThresholdScale" = true := by first | (simp [plainName, overriddenIn]; done) | decide +kernel
theorem pn2 : plainName "com/example/warmfront/warmfront/api/ThresholdScaleAtPinLaw" = true := by first | (simp [plainName, overriddenIn]; done) | decide +kernel
theorem pd0 : parseMethodDescriptor "()V" = some ⟨[], none⟩ := by decide +kernel
theorem pd1 : parseMethodDescriptor "(DII)V" = some ⟨[.double, .int, .int], none⟩ := by decide +kernel
theorem pd2 : parseMethodDescriptor "(D)D" = some ⟨[.double], some .double⟩ := by decide +kernel
open Jvm.FP Jvm.Free.Fl
def own_num (k j mx : Int) (t : Nat) : Int := if j < (2 ^ t : Nat) then k * (2 ^ t : Nat) + (1048576 - k) * j else if mx < j then (2 ^ (20 + t) : Nat) + (1048576 - k) * (j - mx) else (2 ^ (20 + t) : Nat)
theorem own_p {t : Nat} (h : t ≤ 30) : 1 ≤ (2 : Nat) ^ t ∧ (2 : Nat) ^ t ≤ 1073741824 ∧ (2 : Nat) ^ (20 + t) = 1048576 * 2 ^ t := by
  refine ⟨Nat.two_pow_pos t, ?_, by rw [Nat.pow_add]⟩
  calc (2 : Nat) ^ t ≤ 2 ^ 30 := Nat.pow_le_pow_right (by decide) h
    _ = 1073741824 := by decide
theorem own_b1 {k j : Int} (h1 : 0 ≤ k ∧ k ≤ 1048576) (h2 : 0 ≤ j ∧ j ≤ 2147483647) : 0 ≤ (1048576 - k) * j ∧ (1048576 - k) * j ≤ 1048576 * 2147483647 := by
  refine ⟨Int.mul_nonneg (by omega) (by omega), ?_⟩
  exact Int.mul_le_mul (by omega) (by omega) (by omega) (by omega)
theorem own_b2 {k : Int} {t : Nat} (h1 : 0 ≤ k ∧ k ≤ 1048576) (ht : t ≤ 30) : 0 ≤ k * (2 ^ t : Nat) ∧ k * (2 ^ t : Nat) ≤ 1048576 * 1073741824 := by
  have p := own_p ht
  refine ⟨Int.mul_nonneg (by omega) (by omega), ?_⟩
  exact Int.mul_le_mul (by omega) (by omega) (by omega) (by omega)
section Num
variable {k j mx : Int} {t : Nat} {ms nd jd md : UInt64} (hk : 0 ≤ k ∧ k ≤ 1048576) (hj : 0 ≤ j ∧ j ≤ 2147483647) (hm : 0 ≤ mx ∧ mx ≤ 2147483647) (ht : t ≤ 30) (sk : Sc k (-20) ms) (sn : Sc 1 t nd) (sj : Sc j 0 jd) (sm : Sc mx 0 md)
theorem own_n1 {k : Int} {ms : UInt64} (hk : 0 ≤ k ∧ k ≤ 1048576) (sk : Sc k (-20) ms) : Sc (1048576 - k) (-20) (FP.dsub (4607182418800017408 : UInt64) ms) :=
  Sc.sub ((Sc.one.down 20).cast (by decide) (by decide)) sk (by omega) (by decide) (by decide)
theorem own_n2 {k : Int} {t : Nat} {ms nd : UInt64} (hk : 0 ≤ k ∧ k ≤ 1048576) (ht : t ≤ 30) (sk : Sc k (-20) ms) (sn : Sc 1 t nd) : Sc (1048576 - k) (-20 - t) (FP.ddiv (FP.dsub (4607182418800017408 : UInt64) ms) nd) :=
  Sc.div (own_n1 hk sk) sn (by omega) (by omega) (by omega)
theorem own_n3 {k j : Int} {t : Nat} {ms nd jd : UInt64} (hk : 0 ≤ k ∧ k ≤ 1048576) (hj : 0 ≤ j ∧ j ≤ 2147483647) (ht : t ≤ 30) (sk : Sc k (-20) ms) (sn : Sc 1 t nd) (sj : Sc j 0 jd) : Sc ((1048576 - k) * j) (-20 - t) (FP.dmul (FP.ddiv (FP.dsub (4607182418800017408 : UInt64) ms) nd) jd) := by
  have b := own_b1 hk hj
  exact (Sc.mul (own_n2 hk ht sk sn) sj (by omega) (by omega) (by omega)).cast rfl (by omega)
theorem own_n4 {k j : Int} {t : Nat} {ms nd jd : UInt64} (hk : 0 ≤ k ∧ k ≤ 1048576) (hj : 0 ≤ j ∧ j ≤ 2147483647) (ht : t ≤ 30) (sk : Sc k (-20) ms) (sn : Sc 1 t nd) (sj : Sc j 0 jd) : Sc (k * (2 ^ t : Nat) + (1048576 - k) * j) (-20 - t) (FP.dadd ms (FP.dmul (FP.ddiv (FP.dsub (4607182418800017408 : UInt64) ms) nd) jd)) := by
  have b := own_b1 hk hj
  have b' := own_b2 hk ht
  exact Sc.add ((sk.down t).cast rfl (by omega)) (own_n3 hk hj ht sk sn sj) (by omega) (by omega) (by omega)
theorem own_n5 {t : Nat} : Sc (2 ^ (20 + t) : Nat) (-20 - t) (4607182418800017408 : UInt64) := (Sc.one.down (20 + t)).cast (by omega) (by omega)
theorem own_n6 {k j : Int} {t : Nat} {ms nd jd : UInt64} (hk : 0 ≤ k ∧ k ≤ 1048576) (hj : 0 ≤ j ∧ j ≤ 2147483647) (ht : t ≤ 30) (sk : Sc k (-20) ms) (sn : Sc 1 t nd) (sj : Sc j 0 jd) : Sc ((2 ^ (20 + t) : Nat) + (1048576 - k) * j) (-20 - t) (FP.dadd (4607182418800017408 : UInt64) (FP.dmul (FP.ddiv (FP.dsub (4607182418800017408 : UInt64) ms) nd) jd)) := by
  have b := own_b1 hk hj
  have p := own_p ht
  exact Sc.add own_n5 (own_n3 hk hj ht sk sn sj) (by omega) (by omega) (by omega)
end Num
theorem own_sh : ∀ t : Fin 31, ((1 : Int64) <<< ((Int32.ofNat t.1 + 20) &&& 0x3f).toInt64).toInt = (2 ^ (20 + t.1) : Nat) := by decide
theorem own_sn : ∀ t : Fin 31, ((1 : Int32) <<< ((Int32.ofNat t.1) &&& 31)).toInt = (2 ^ t.1 : Nat) := by decide
theorem own_e (b : Int32) : ∃ t : Fin 31, (b &&& 2147483647) % 31 = Int32.ofNat t.1 := by
  have q := c_mask b 2147483647 31 (by decide) (by decide)
  have r := (c_irem (b &&& 2147483647) 31 31 (by decide)).1 (by omega)
  refine ⟨⟨((b &&& 2147483647) % 31).toInt.toNat, by omega⟩, Int32.toInt_inj.mp ?_⟩
  rw [Int32.toInt_ofNat_of_lt (by show ((b &&& 2147483647) % 31).toInt.toNat < 2 ^ 31; omega)]
  show ((b &&& 2147483647) % 31).toInt = (((b &&& 2147483647) % 31).toInt.toNat : Int)
  omega
theorem own_k (a : Int32) : 0 ≤ ((a &&& 2147483647) % 1048577).toInt ∧ ((a &&& 2147483647) % 1048577).toInt ≤ 1048576 := by
  have q := c_mask a 2147483647 31 (by decide) (by decide)
  have r := (c_irem (a &&& 2147483647) 1048577 1048577 (by decide)).1 (by omega)
  omega
theorem own_j (a : Int32) : 0 ≤ (a &&& 2147483647).toInt ∧ (a &&& 2147483647).toInt ≤ 2147483647 := by
  have q := c_mask a 2147483647 31 (by decide) (by decide)
  omega
theorem own_md (n : Int32) (h : 1 ≤ n.toInt ∧ n.toInt ≤ 1073741824) : (2147483647 - n + 1).toInt = 2147483648 - n.toInt := by
  have u := c_isub 2147483647 n
  have u' := c_iadd (2147483647 - n) 1
  have r := rng32 (2147483647 - n)
  have r' := rng32 (2147483647 - n + 1)
  rw [show (2147483647 : Int32).toInt = 2147483647 by decide] at u
  rw [show (1 : Int32).toInt = 1 by decide] at u'
  omega
theorem own_mz (n : Int32) (h : 1 ≤ n.toInt ∧ n.toInt ≤ 1073741824) : 2147483647 - n + 1 ≠ 0 := by
  intro y
  have m := own_md n h
  rw [y, show (0 : Int32).toInt = 0 by decide] at m
  omega
theorem own_mx (n c : Int32) (h : 1 ≤ n.toInt ∧ n.toInt ≤ 1073741824) : n.toInt ≤ (n + (c &&& 2147483647) % (2147483647 - n + 1)).toInt := by
  have m := own_md n h
  have q := c_mask c 2147483647 31 (by decide) (by decide)
  have r := (c_iremV (c &&& 2147483647) (2147483647 - n + 1)).1 (by omega) (by omega)
  have u := c_iadd n ((c &&& 2147483647) % (2147483647 - n + 1))
  have v := rng32 (n + (c &&& 2147483647) % (2147483647 - n + 1))
  omega
theorem own_L1 {k n j : Int32} (hk : 0 ≤ k.toInt ∧ k.toInt ≤ 1048576) (hj : 0 ≤ j.toInt ∧ j.toInt ≤ 2147483647) {t : Nat} (ht : t ≤ 30) (hn : n.toInt = (2 ^ t : Nat)) : (k.toInt64 * n.toInt64 + (1048576 - k.toInt64) * j.toInt64).toInt = k.toInt * (2 ^ t : Nat) + (1048576 - k.toInt) * j.toInt := by
  have b := own_b1 hk hj
  have b' := own_b2 hk ht
  have e1 : (k.toInt64 * n.toInt64).toInt = k.toInt * (2 ^ t : Nat) := by rw [Jvm.Free.XT.wideMul, hn]
  have e2 : ((1048576 : Int64) - k.toInt64).toInt = 1048576 - k.toInt := by rw [Jvm.Free.XT.sub64 (by unfold Jvm.Free.XT.fits64; rw [c_i2l, show (1048576 : Int64).toInt = 1048576 by decide]; omega), c_i2l, show (1048576 : Int64).toInt = 1048576 by decide]
  have e3 : (((1048576 : Int64) - k.toInt64) * j.toInt64).toInt = (1048576 - k.toInt) * j.toInt := by rw [Jvm.Free.XT.mul64 (by unfold Jvm.Free.XT.fits64; rw [e2, c_i2l]; omega), e2, c_i2l]
  rw [Jvm.Free.XT.add64 (by unfold Jvm.Free.XT.fits64; rw [e1, e3]; omega), e1, e3]
theorem own_L2 {k x j : Int32} (hk : 0 ≤ k.toInt ∧ k.toInt ≤ 1048576) (hj : 0 ≤ j.toInt - x.toInt ∧ j.toInt - x.toInt ≤ 2147483647) (t : Fin 31) : ((1 : Int64) <<< ((Int32.ofNat t.1 + 20) &&& 0x3f).toInt64 + (1048576 - k.toInt64) * (j.toInt64 - x.toInt64)).toInt = (2 ^ (20 + t.1) : Nat) + (1048576 - k.toInt) * (j.toInt - x.toInt) := by
  have b := own_b1 hk hj
  have p := own_p (t := t.1) (by omega)
  have e2 : ((1048576 : Int64) - k.toInt64).toInt = 1048576 - k.toInt := by rw [Jvm.Free.XT.sub64 (by unfold Jvm.Free.XT.fits64; rw [c_i2l, show (1048576 : Int64).toInt = 1048576 by decide]; omega), c_i2l, show (1048576 : Int64).toInt = 1048576 by decide]
  have e4 : (j.toInt64 - x.toInt64).toInt = j.toInt - x.toInt := by rw [Jvm.Free.XT.sub64 (by unfold Jvm.Free.XT.fits64; rw [c_i2l, c_i2l]; omega), c_i2l, c_i2l]
  have e3 : (((1048576 : Int64) - k.toInt64) * (j.toInt64 - x.toInt64)).toInt = (1048576 - k.toInt) * (j.toInt - x.toInt) := by rw [Jvm.Free.XT.mul64 (by unfold Jvm.Free.XT.fits64; rw [e2, e4]; omega), e2, e4]
  rw [Jvm.Free.XT.add64 (by unfold Jvm.Free.XT.fits64; rw [own_sh t, e3]; omega), own_sh t, e3]
theorem own_num_b {k j mx : Int} {t : Nat} (hk : 0 ≤ k ∧ k ≤ 1048576) (hj : 0 ≤ j ∧ j ≤ 2147483647) (hm : 0 ≤ mx) (ht : t ≤ 30) : (own_num k j mx t).natAbs < 2 ^ 53 := by
  have b := own_b1 hk hj
  have b' := own_b2 hk ht
  have p := own_p ht
  unfold own_num
  split
  · omega
  · split
    · have c := own_b1 (k := k) (j := j - mx) hk (by omega)
      omega
    · omega
theorem own_q {num : Int64} {i : Int} (h : num.toInt = i) (hi : i.natAbs < 2 ^ 53) (t : Fin 31) : Sc i (-20 - (t.1 : Int)) (FP.ddiv (FP.l2d num) (FP.l2d ((1 : Int64) <<< ((Int32.ofNat t.1 + 20) &&& 0x3f).toInt64))) := by
  have p := own_p (t := t.1) (by omega)
  have ht := t.2
  subst h
  have d := Core.l2d_int (a := (1 : Int64) <<< ((Int32.ofNat t.1 + 20) &&& 0x3f).toInt64) (by rw [own_sh t, Int.natAbs_natCast]; omega)
  rw [own_sh t] at d
  exact (Sc.div (Sc.of_int (Core.l2d_int (by omega))) (Sc.of_int d).pow hi (by omega) (by omega)).cast rfl (by omega)
theorem own_same {i k : Int} {x y : UInt64} (hx : Sc i k x) (hy : Sc i k y) : cmpValue (FP.dcmp x y) .l = (0 : Int32) := by
  rw [hx.cmp hy]; exact (cv_eq0 i i .l).mpr rfl
theorem ef2_A (m : MethodId) (x0 : Addr) : entryFrame m #[(.ref x0)] 1 = mkF m 0 #[.val (.ref x0)] [] := by first | (simp [entryFrame, mkF, argsToLocals, Value.category]; done) | rfl
set_option maxRecDepth 65536 in
set_option maxHeartbeats 40000000 in
theorem rmR (l : Launch) (Z : State) (a0 : Array Value) (hw : ∀ d ∈ tables_1, d.before a0 Z = true) (h0 : Heap) (n0 : Nat) (Z0 : n0 ≤ h0.size) (a : Addr) :
    ctr l Z (⟨"java/lang/Record", "<init>", "()V"⟩ : MethodName) jdk_30_method_1_code 1 none [] ({ frames := 1, cells := 0, slots := 0, locals := 12 } : Room) 0 0 #[(.ref a)] h0 (fun v h L => v = none ∧ Fr n0 L ∧ h = h0) := by
  refine ctr_of (plainFor_of_name pn0) ?_
  intro p e s m below meth jc s₁ hx hby hml hret hlk hnm hown hZ e0 X0
  have N0 := Fr.nil n0
  refine Dn.cast (ef2_A m a) ?_
  show Dn p e below s _ _ _ (s₁.setTop (mkF m 0 #[.val (.ref a)] []))
  refine Dn.of (fun tt_ zz_ => XS.aloadN X0.here hx rfl (hb hby d2_0) rfl rfl zz_) ?_
  show Dn p e below s _ _ _ (s₁.setTop (mkF m 1 #[.val (.ref a)] [(.ref a)]))
  obtain ⟨T1, X1, e1, st1⟩ := initO X0 hx hZ hown (hw _ (List.mem_of_getElem? (i := 14) rfl)) (hw _ (List.mem_of_getElem? (i := 15) rfl)) (hw _ (List.mem_of_getElem? (i := 16) rfl)) e0 (g := (mkF m 1 #[.val (.ref a)] [(.ref a)])) rfl (by rw [hml]; rfl) rfl (hb hby d2_1) (by decide) (W := 0) (by show 2 * 0 + _ ≤ _; exact Nat.le_of_eq rfl) (by decide)
  refine Dn.of st1 ?_
  show Dn p e below s _ _ _ (T1.setTop (mkF m 4 #[.val (.ref a)] []))
  exact Dn.retV X1 hx hlk hret (hb hby d2_4) (by decide) (by decide) (⟨rfl, N0, e1⟩)
theorem ef1_ADII (m : MethodId) (x0 : Addr) (x1 : UInt64) (x2 : Int32) (x3 : Int32) : entryFrame m #[(.ref x0), (.double x1), (.int x2), (.int x3)] 5 = mkF m 0 #[.val (.ref x0), .val (.double x1), .second, .val (.int x2), .val (.int x3)] [] := by first | (simp [entryFrame, mkF, argsToLocals, Value.category]; done) | rfl
set_option maxRecDepth 65536 in
set_option maxHeartbeats 40000000 in
theorem rmI (l : Launch) (Z : State) (a0 : Array Value) (hw : ∀ d ∈ tables_1, d.before a0 Z = true) (h0 : Heap) (n0 : Nat) (Z0 : n0 ≤ h0.size) (a : Addr) (ms : UInt64) (n x : Int32) (k : Int) (E0 : Exa Z h0 a "com/example/warmfront/warmfront/api/ThresholdScale") (F0 : Fld Z h0 a "com/example/warmfront/warmfront/api/ThresholdScale" "minScale" "D" (.double (0 : UInt64))) (F1 : Fld Z h0 a "com/example/warmfront/warmfront/api/ThresholdScale" "minNormalLoad" "I" (.int (0 : Int32))) (F2 : Fld Z h0 a "com/example/warmfront/warmfront/api/ThresholdScale" "maxNormalLoad" "I" (.int (0 : Int32))) (g0 : n0 ≤ a) (sk : Sc k (-20) ms) (hk : 0 ≤ k ∧ k ≤ 1048576) (c1 : ¬ n < 1) (c2 : ¬ x < n) :
    ctr l Z (⟨"com/example/warmfront/warmfront/api/ThresholdScale", "<init>", "(DII)V"⟩ : MethodName) prog_5_method_1_code 5 none [] ({ frames := 2, cells := 0, slots := 0, locals := 36 } : Room) 0 0 #[(.ref a), (.double ms), (.int n), (.int x)] h0 (fun v h L => v = none ∧ Fr n0 L ∧ Keep h0 h [a] ∧ Fld Z h a "com/example/warmfront/warmfront/api/ThresholdScale" "minScale" "D" (.double ms) ∧ Fld Z h a "com/example/warmfront/warmfront/api/ThresholdScale" "minNormalLoad" "I" (.int n) ∧ Fld Z h a "com/example/warmfront/warmfront/api/ThresholdScale" "maxNormalLoad" "I" (.int x)) := by
  refine ctr_of (plainFor_of_name pn1) ?_
  intro p e s m below meth jc s₁ hx hby hml hret hlk hnm hown hZ e0 X0
  have N0 := Fr.nil n0
  refine Dn.cast (ef1_ADII m a ms n x) ?_
  show Dn p e below s _ _ _ (s₁.setTop (mkF m 0 #[.val (.ref a), .val (.double ms), .second, .val (.int n), .val (.int x)] []))
  have s01 : Jvm.RoadKit.slotOf Z "com/example/warmfront/warmfront/api/ThresholdScale" "minScale" "D" ≠ Jvm.RoadKit.slotOf Z "com/example/warmfront/warmfront/api/ThresholdScale" "minNormalLoad" "I" := slot_ne (Or.inr (hw _ (List.mem_of_getElem? (i := 18) rfl))) (Or.inr (hw _ (List.mem_of_getElem? (i := 20) rfl))) (by decide) (t := .double) (t' := .int) (by decide) (by decide)
  have s02 : Jvm.RoadKit.slotOf Z "com/example/warmfront/warmfront/api/ThresholdScale" "minScale" "D" ≠ Jvm.RoadKit.slotOf Z "com/example/warmfront/warmfront/api/ThresholdScale" "maxNormalLoad" "I" := slot_ne (Or.inr (hw _ (List.mem_of_getElem? (i := 18) rfl))) (Or.inr (hw _ (List.mem_of_getElem? (i := 22) rfl))) (by decide) (t := .double) (t' := .int) (by decide) (by decide)
  have s10 : Jvm.RoadKit.slotOf Z "com/example/warmfront/warmfront/api/ThresholdScale" "minNormalLoad" "I" ≠ Jvm.RoadKit.slotOf Z "com/example/warmfront/warmfront/api/ThresholdScale" "minScale" "D" := slot_ne (Or.inr (hw _ (List.mem_of_getElem? (i := 20) rfl))) (Or.inr (hw _ (List.mem_of_getElem? (i := 18) rfl))) (by decide) (t := .int) (t' := .double) (by decide) (by decide)
  have s12 : Jvm.RoadKit.slotOf Z "com/example/warmfront/warmfront/api/ThresholdScale" "minNormalLoad" "I" ≠ Jvm.RoadKit.slotOf Z "com/example/warmfront/warmfront/api/ThresholdScale" "maxNormalLoad" "I" := slot_ne (Or.inr (hw _ (List.mem_of_getElem? (i := 20) rfl))) (Or.inr (hw _ (List.mem_of_getElem? (i := 22) rfl))) (by decide) (t := .int) (t' := .int) (by decide) (by decide)
  have s20 : Jvm.RoadKit.slotOf Z "com/example/warmfront/warmfront/api/ThresholdScale" "maxNormalLoad" "I" ≠ Jvm.RoadKit.slotOf Z "com/example/warmfront/warmfront/api/ThresholdScale" "minScale" "D" := slot_ne (Or.inr (hw _ (List.mem_of_getElem? (i := 22) rfl))) (Or.inr (hw _ (List.mem_of_getElem? (i := 18) rfl))) (by decide) (t := .int) (t' := .double) (by decide) (by decide)
  have s21 : Jvm.RoadKit.slotOf Z "com/example/warmfront/warmfront/api/ThresholdScale" "maxNormalLoad" "I" ≠ Jvm.RoadKit.slotOf Z "com/example/warmfront/warmfront/api/ThresholdScale" "minNormalLoad" "I" := slot_ne (Or.inr (hw _ (List.mem_of_getElem? (i := 22) rfl))) (Or.inr (hw _ (List.mem_of_getElem? (i := 20) rfl))) (by decide) (t := .int) (t' := .int) (by decide) (by decide)
  refine Dn.of (fun tt_ zz_ => XS.aloadN X0.here hx rfl (hb hby d1_0) rfl rfl zz_) ?_
  show Dn p e below s _ _ _ (s₁.setTop (mkF m 1 #[.val (.ref a), .val (.double ms), .second, .val (.int n), .val (.int x)] [(.ref a)]))
  obtain ⟨v2, T2, L2, Q2, X2, st2⟩ := cIn X0 hx hZ (y := (⟨"java/lang/Record", "<init>", "()V"⟩ : MethodName)) rfl hown (hw _ (List.mem_of_getElem? (i := 9) rfl)) (hw _ (List.mem_of_getElem? (i := 10) rfl)) (hw _ (List.mem_of_getElem? (i := 12) rfl)) (hw _ (List.mem_of_getElem? (i := 13) rfl)) (by decide) (a := a) (argsL := []) (rest := []) (rmR l Z a0 hw h0 n0 Z0 a) e0  0 (by decide) (by decide) (by decide) (by decide) (g := (mkF m 1 #[.val (.ref a), .val (.double ms), .second, .val (.int n), .val (.int x)] [(.ref a)])) rfl (by rw [hml]; rfl) (lenOf pd0 rfl) rfl (by show 2 * 0 + _ ≤ _; exact Nat.le_of_eq rfl) (hb hby d1_1)
  obtain ⟨rfl, M1, e2⟩ := Q2
  refine Dn.of st2 ?_
  show Dn p e below s _ _ _ (T2.setTop (mkF m 4 #[.val (.ref a), .val (.double ms), .second, .val (.int n), .val (.int x)] []))
  refine Dn.of (fun tt_ zz_ => XS.dloadN X2.here hx rfl (hb hby d1_4) rfl zz_) ?_
  show Dn p e below s _ _ _ (T2.setTop (mkF m 5 #[.val (.ref a), .val (.double ms), .second, .val (.int n), .val (.int x)] [(.double ms)]))
  refine Dn.of (fun tt_ zz_ => XS.dconst0 X2.here hx rfl (v := (0 : UInt64)) (hb hby d1_5) rfl zz_) ?_
  show Dn p e below s _ _ _ (T2.setTop (mkF m 6 #[.val (.ref a), .val (.double ms), .second, .val (.int n), .val (.int x)] [(.double (0 : UInt64)), (.double ms)]))
  refine Dn.of (fun tt_ zz_ => XS.dcmpS X2.here hx rfl (v := (cmpValue (FP.dcmp ms (0 : UInt64)) .l)) (hb hby d1_6) rfl rfl zz_) ?_
  show Dn p e below s _ _ _ (T2.setTop (mkF m 7 #[.val (.ref a), .val (.double ms), .second, .val (.int n), .val (.int x)] [(.int (cmpValue (FP.dcmp ms (0 : UInt64)) .l))]))
  refine Dn.of (fun tt_ zz_ => XS.ifNo X2.here hx rfl (hb hby d1_7) rfl ((if0 _ _).trans (flt (by rw [sk.cmp (Sc.zero (-20)), cv_lt0]; omega)).1) zz_) ?_
  show Dn p e below s _ _ _ (T2.setTop (mkF m 10 #[.val (.ref a), .val (.double ms), .second, .val (.int n), .val (.int x)] []))
  refine Dn.of (fun tt_ zz_ => XS.dloadN X2.here hx rfl (hb hby d1_10) rfl zz_) ?_
  show Dn p e below s _ _ _ (T2.setTop (mkF m 11 #[.val (.ref a), .val (.double ms), .second, .val (.int n), .val (.int x)] [(.double ms)]))
  refine Dn.of (fun tt_ zz_ => XS.dconst1 X2.here hx rfl (v := (4607182418800017408 : UInt64)) (hb hby d1_11) rfl zz_) ?_
  show Dn p e below s _ _ _ (T2.setTop (mkF m 12 #[.val (.ref a), .val (.double ms), .second, .val (.int n), .val (.int x)] [(.double (4607182418800017408 : UInt64)), (.double ms)]))
  refine Dn.of (fun tt_ zz_ => XS.dcmpS X2.here hx rfl (v := (cmpValue (FP.dcmp ms (4607182418800017408 : UInt64)) .g)) (hb hby d1_12) rfl rfl zz_) ?_
  show Dn p e below s _ _ _ (T2.setTop (mkF m 13 #[.val (.ref a), .val (.double ms), .second, .val (.int n), .val (.int x)] [(.int (cmpValue (FP.dcmp ms (4607182418800017408 : UInt64)) .g))]))
  refine Dn.of (fun tt_ zz_ => XS.ifYes X2.here hx rfl (pc0 := 13) (pc' := 30) rfl (hb hby d1_13) rfl ((if0 _ _).trans (flt (by rw [sk.cmp ((Sc.one.down 20).cast (by decide : (1 : Int) * (2 ^ 20 : Nat) = 1048576) (by decide)), cv_gt0]; omega)).2.2.2) (by decide) (by decide) zz_) ?_
  show Dn p e below s _ _ _ (T2.setTop (mkF m 30 #[.val (.ref a), .val (.double ms), .second, .val (.int n), .val (.int x)] []))
  refine Dn.of (fun tt_ zz_ => XS.iloadN X2.here hx rfl (hb hby d1_30) rfl zz_) ?_
  show Dn p e below s _ _ _ (T2.setTop (mkF m 31 #[.val (.ref a), .val (.double ms), .second, .val (.int n), .val (.int x)] [(.int n)]))
  refine Dn.of (fun tt_ zz_ => XS.iconst X2.here hx rfl (hb hby d1_31) zz_) ?_
  show Dn p e below s _ _ _ (T2.setTop (mkF m 32 #[.val (.ref a), .val (.double ms), .second, .val (.int n), .val (.int x)] [(.int (1 : Int32)), (.int n)]))
  refine Dn.of (fun tt_ zz_ => XS.icmpNo X2.here hx rfl (hb hby d1_32) rfl (flt c1).1 zz_) ?_
  show Dn p e below s _ _ _ (T2.setTop (mkF m 35 #[.val (.ref a), .val (.double ms), .second, .val (.int n), .val (.int x)] []))
  refine Dn.of (fun tt_ zz_ => XS.iload X2.here hx rfl (hb hby d1_35) rfl zz_) ?_
  show Dn p e below s _ _ _ (T2.setTop (mkF m 37 #[.val (.ref a), .val (.double ms), .second, .val (.int n), .val (.int x)] [(.int x)]))
  refine Dn.of (fun tt_ zz_ => XS.iloadN X2.here hx rfl (hb hby d1_37) rfl zz_) ?_
  show Dn p e below s _ _ _ (T2.setTop (mkF m 38 #[.val (.ref a), .val (.double ms), .second, .val (.int n), .val (.int x)] [(.int n), (.int x)]))
  refine Dn.of (fun tt_ zz_ => XS.icmpYes X2.here hx rfl (pc0 := 38) (pc' := 57) rfl (hb hby d1_38) rfl (flt c2).2.1 (by decide) (by decide) zz_) ?_
  show Dn p e below s _ _ _ (T2.setTop (mkF m 57 #[.val (.ref a), .val (.double ms), .second, .val (.int n), .val (.int x)] []))
  refine Dn.of (fun tt_ zz_ => XS.aloadN X2.here hx rfl (hb hby d1_57) rfl rfl zz_) ?_
  show Dn p e below s _ _ _ (T2.setTop (mkF m 58 #[.val (.ref a), .val (.double ms), .second, .val (.int n), .val (.int x)] [(.ref a)]))
  refine Dn.of (fun tt_ zz_ => XS.dloadN X2.here hx rfl (hb hby d1_58) rfl zz_) ?_
  show Dn p e below s _ _ _ (T2.setTop (mkF m 59 #[.val (.ref a), .val (.double ms), .second, .val (.int n), .val (.int x)] [(.double ms), (.ref a)]))
  obtain ⟨T3, h3, X3, e3, W3, st3⟩ := putF X2 hx hZ hown (host := "") (Or.inl (hw _ (List.mem_of_getElem? (i := 17) rfl))) Via.refl e2 F0 E0 (Or.inr ⟨(hw _ (List.mem_of_getElem? (i := 18) rfl)), rfl, hnm⟩) (hw _ (List.mem_of_getElem? (i := 4) rfl)) (ty := .double) (by decide) rfl rfl (g := (mkF m 59 #[.val (.ref a), .val (.double ms), .second, .val (.int n), .val (.int x)] [(.double ms), (.ref a)])) rfl rfl (hb hby d1_59)
  refine Dn.of st3 ?_
  show Dn p e below s _ _ _ (T3.setTop (mkF m 62 #[.val (.ref a), .val (.double ms), .second, .val (.int n), .val (.int x)] []))
  refine Dn.of (fun tt_ zz_ => XS.aloadN X3.here hx rfl (hb hby d1_62) rfl rfl zz_) ?_
  show Dn p e below s _ _ _ (T3.setTop (mkF m 63 #[.val (.ref a), .val (.double ms), .second, .val (.int n), .val (.int x)] [(.ref a)]))
  refine Dn.of (fun tt_ zz_ => XS.iloadN X3.here hx rfl (hb hby d1_63) rfl zz_) ?_
  show Dn p e below s _ _ _ (T3.setTop (mkF m 64 #[.val (.ref a), .val (.double ms), .second, .val (.int n), .val (.int x)] [(.int n), (.ref a)]))
  obtain ⟨T4, h4, X4, e4, W4, st4⟩ := putF X3 hx hZ hown (host := "") (Or.inl (hw _ (List.mem_of_getElem? (i := 19) rfl))) Via.refl e3 (F1.other W3 (Or.inr s10)) (E0.wr W3) (Or.inr ⟨(hw _ (List.mem_of_getElem? (i := 20) rfl)), rfl, hnm⟩) (hw _ (List.mem_of_getElem? (i := 4) rfl)) (ty := .int) (by decide) rfl rfl (g := (mkF m 64 #[.val (.ref a), .val (.double ms), .second, .val (.int n), .val (.int x)] [(.int n), (.ref a)])) rfl rfl (hb hby d1_64)
  refine Dn.of st4 ?_
  show Dn p e below s _ _ _ (T4.setTop (mkF m 67 #[.val (.ref a), .val (.double ms), .second, .val (.int n), .val (.int x)] []))
  refine Dn.of (fun tt_ zz_ => XS.aloadN X4.here hx rfl (hb hby d1_67) rfl rfl zz_) ?_
  show Dn p e below s _ _ _ (T4.setTop (mkF m 68 #[.val (.ref a), .val (.double ms), .second, .val (.int n), .val (.int x)] [(.ref a)]))
  refine Dn.of (fun tt_ zz_ => XS.iload X4.here hx rfl (hb hby d1_68) rfl zz_) ?_
  show Dn p e below s _ _ _ (T4.setTop (mkF m 70 #[.val (.ref a), .val (.double ms), .second, .val (.int n), .val (.int x)] [(.int x), (.ref a)]))
  obtain ⟨T5, h5, X5, e5, W5, st5⟩ := putF X4 hx hZ hown (host := "") (Or.inl (hw _ (List.mem_of_getElem? (i := 21) rfl))) Via.refl e4 ((F2.other W3 (Or.inr s20)).other W4 (Or.inr s21)) ((E0.wr W3).wr W4) (Or.inr ⟨(hw _ (List.mem_of_getElem? (i := 22) rfl)), rfl, hnm⟩) (hw _ (List.mem_of_getElem? (i := 4) rfl)) (ty := .int) (by decide) rfl rfl (g := (mkF m 70 #[.val (.ref a), .val (.double ms), .second, .val (.int n), .val (.int x)] [(.int x), (.ref a)])) rfl rfl (hb hby d1_70)
  refine Dn.of st5 ?_
  show Dn p e below s _ _ _ (T5.setTop (mkF m 73 #[.val (.ref a), .val (.double ms), .second, .val (.int n), .val (.int x)] []))
  have N1 := Fr.snoc X3 (Fr.app N0 M1) g0
  have N2 := Fr.snoc X4 N1 g0
  have N3 := Fr.snoc X5 N2 g0
  exact Dn.retV X5 hx hlk hret (hb hby d1_73) (by decide) (by decide) (by rw [e5]; exact ⟨rfl, N3, (((Keep.refl h0 [a]).wr W3 (Or.inl (List.mem_of_getElem? (i := 0) rfl))).wr W4 (Or.inl (List.mem_of_getElem? (i := 0) rfl))).wr W5 (Or.inl (List.mem_of_getElem? (i := 0) rfl)), ((F0.same W3).other W4 (Or.inr s01)).other W5 (Or.inr s02), ((F1.other W3 (Or.inr s10)).same W4).other W5 (Or.inr s12), ((F2.other W3 (Or.inr s20)).other W4 (Or.inr s21)).same W5⟩)
theorem ef4_AD (m : MethodId) (x0 : Addr) (x1 : UInt64) : entryFrame m #[(.ref x0), (.double x1)] 5 = mkF m 0 #[.val (.ref x0), .val (.double x1), .second, .unset, .unset] [] := by first | (simp [entryFrame, mkF, argsToLocals, Value.category]; done) | rfl
set_option maxRecDepth 65536 in
set_option maxHeartbeats 40000000 in
theorem rmA (l : Launch) (Z : State) (a0 : Array Value) (hw : ∀ d ∈ tables_1, d.before a0 Z = true) (h0 : Heap) (n0 : Nat) (Z0 : n0 ≤ h0.size) (a : Addr) (ms jd : UInt64) (n x : Int32) (k j : Int) (t : Nat) (F0 : Fld Z h0 a "com/example/warmfront/warmfront/api/ThresholdScale" "minScale" "D" (.double ms)) (F1 : Fld Z h0 a "com/example/warmfront/warmfront/api/ThresholdScale" "minNormalLoad" "I" (.int n)) (F2 : Fld Z h0 a "com/example/warmfront/warmfront/api/ThresholdScale" "maxNormalLoad" "I" (.int x)) (sk : Sc k (-20) ms) (hk : 0 ≤ k ∧ k ≤ 1048576) (sj : Sc j 0 jd) (hj : 0 ≤ j ∧ j ≤ 2147483647) (ht : t ≤ 30) (hn : n.toInt = (2 ^ t : Nat)) (hm : 0 ≤ x.toInt) :
    ctr l Z (⟨"com/example/warmfront/warmfront/api/ThresholdScale", "at", "(D)D"⟩ : MethodName) prog_5_method_3_code 5 (some .double) [] ({ frames := 0, cells := 0, slots := 0, locals := 0 } : Room) 0 0 #[(.ref a), (.double jd)] h0 (fun v h L => ∃ y, v = some (.double y) ∧ Sc (own_num k j x.toInt t) (-20 - t) y ∧ Fr n0 L ∧ h = h0) := by
  refine ctr_of (plainFor_of_name pn1) ?_
  intro p e s m below meth jc s₁ hx hby hml hret hlk hnm hown hZ e0 X0
  have N0 := Fr.nil n0
  refine Dn.cast (ef4_AD m a jd) ?_
  show Dn p e below s _ _ _ (s₁.setTop (mkF m 0 #[.val (.ref a), .val (.double jd), .second, .unset, .unset] []))
  have sn : Sc 1 t (FP.i2d n) := by have d := Core.i2d_int n; rw [hn] at d; exact (Sc.of_int d).pow
  have sn0 : Sc (2 ^ t : Nat) 0 (FP.i2d n) := by have d := Core.i2d_int n; rw [hn] at d; exact Sc.of_int d
  have sx : Sc x.toInt 0 (FP.i2d x) := Sc.of_int (Core.i2d_int x)
  have rx := rng32 x
  refine Dn.of (fun tt_ zz_ => XS.dconst1 X0.here hx rfl (v := (4607182418800017408 : UInt64)) (hb hby d4_0) rfl zz_) ?_
  show Dn p e below s _ _ _ (s₁.setTop (mkF m 1 #[.val (.ref a), .val (.double jd), .second, .unset, .unset] [(.double (4607182418800017408 : UInt64))]))
  refine Dn.of (fun tt_ zz_ => XS.aloadN X0.here hx rfl (hb hby d4_1) rfl rfl zz_) ?_
  show Dn p e below s _ _ _ (s₁.setTop (mkF m 2 #[.val (.ref a), .val (.double jd), .second, .unset, .unset] [(.ref a), (.double (4607182418800017408 : UInt64))]))
  obtain ⟨T6, X6, e6, st6⟩ := getF X0 hx hZ hown (host := "") (Or.inl (hw _ (List.mem_of_getElem? (i := 17) rfl))) Via.refl e0 F0 (g := (mkF m 2 #[.val (.ref a), .val (.double jd), .second, .unset, .unset] [(.ref a), (.double (4607182418800017408 : UInt64))])) rfl rfl (hb hby d4_2)
  refine Dn.of st6 ?_
  show Dn p e below s _ _ _ (T6.setTop (mkF m 5 #[.val (.ref a), .val (.double jd), .second, .unset, .unset] [(.double ms), (.double (4607182418800017408 : UInt64))]))
  refine Dn.of (fun tt_ zz_ => XS.dsubS X6.here hx rfl (v := (FP.dsub (4607182418800017408 : UInt64) ms)) (hb hby d4_5) rfl (own_n1 hk sk).noNaN rfl zz_) ?_
  show Dn p e below s _ _ _ (T6.setTop (mkF m 6 #[.val (.ref a), .val (.double jd), .second, .unset, .unset] [(.double (FP.dsub (4607182418800017408 : UInt64) ms))]))
  refine Dn.of (fun tt_ zz_ => XS.aloadN X6.here hx rfl (hb hby d4_6) rfl rfl zz_) ?_
  show Dn p e below s _ _ _ (T6.setTop (mkF m 7 #[.val (.ref a), .val (.double jd), .second, .unset, .unset] [(.ref a), (.double (FP.dsub (4607182418800017408 : UInt64) ms))]))
  obtain ⟨T7, X7, e7, st7⟩ := getF X6 hx hZ hown (host := "") (Or.inl (hw _ (List.mem_of_getElem? (i := 19) rfl))) Via.refl e6 F1 (g := (mkF m 7 #[.val (.ref a), .val (.double jd), .second, .unset, .unset] [(.ref a), (.double (FP.dsub (4607182418800017408 : UInt64) ms))])) rfl rfl (hb hby d4_7)
  refine Dn.of st7 ?_
  show Dn p e below s _ _ _ (T7.setTop (mkF m 10 #[.val (.ref a), .val (.double jd), .second, .unset, .unset] [(.int n), (.double (FP.dsub (4607182418800017408 : UInt64) ms))]))
  refine Dn.of (fun tt_ zz_ => XS.i2dS X7.here hx rfl (v := FP.i2d n) (hb hby d4_10) rfl rfl zz_) ?_
  show Dn p e below s _ _ _ (T7.setTop (mkF m 11 #[.val (.ref a), .val (.double jd), .second, .unset, .unset] [(.double (FP.i2d n)), (.double (FP.dsub (4607182418800017408 : UInt64) ms))]))
  refine Dn.of (fun tt_ zz_ => XS.ddivS X7.here hx rfl (v := (FP.ddiv (FP.dsub (4607182418800017408 : UInt64) ms) (FP.i2d n))) (hb hby d4_11) rfl (own_n2 hk ht sk sn).noNaN rfl zz_) ?_
  show Dn p e below s _ _ _ (T7.setTop (mkF m 12 #[.val (.ref a), .val (.double jd), .second, .unset, .unset] [(.double (FP.ddiv (FP.dsub (4607182418800017408 : UInt64) ms) (FP.i2d n)))]))
  refine Dn.of (fun tt_ zz_ => XS.dstoreN X7.here hx rfl (hb hby d4_12) rfl (l' := #[.val (.ref a), .val (.double jd), .second, .val (.double (FP.ddiv (FP.dsub (4607182418800017408 : UInt64) ms) (FP.i2d n))), .second]) rfl zz_) ?_
  show Dn p e below s _ _ _ (T7.setTop (mkF m 13 #[.val (.ref a), .val (.double jd), .second, .val (.double (FP.ddiv (FP.dsub (4607182418800017408 : UInt64) ms) (FP.i2d n))), .second] []))
  refine Dn.of (fun tt_ zz_ => XS.dloadN X7.here hx rfl (hb hby d4_13) rfl zz_) ?_
  show Dn p e below s _ _ _ (T7.setTop (mkF m 14 #[.val (.ref a), .val (.double jd), .second, .val (.double (FP.ddiv (FP.dsub (4607182418800017408 : UInt64) ms) (FP.i2d n))), .second] [(.double jd)]))
  refine Dn.of (fun tt_ zz_ => XS.aloadN X7.here hx rfl (hb hby d4_14) rfl rfl zz_) ?_
  show Dn p e below s _ _ _ (T7.setTop (mkF m 15 #[.val (.ref a), .val (.double jd), .second, .val (.double (FP.ddiv (FP.dsub (4607182418800017408 : UInt64) ms) (FP.i2d n))), .second] [(.ref a), (.double jd)]))
  obtain ⟨T8, X8, e8, st8⟩ := getF X7 hx hZ hown (host := "") (Or.inl (hw _ (List.mem_of_getElem? (i := 19) rfl))) Via.refl e7 F1 (g := (mkF m 15 #[.val (.ref a), .val (.double jd), .second, .val (.double (FP.ddiv (FP.dsub (4607182418800017408 : UInt64) ms) (FP.i2d n))), .second] [(.ref a), (.double jd)])) rfl rfl (hb hby d4_15)
  refine Dn.of st8 ?_
  show Dn p e below s _ _ _ (T8.setTop (mkF m 18 #[.val (.ref a), .val (.double jd), .second, .val (.double (FP.ddiv (FP.dsub (4607182418800017408 : UInt64) ms) (FP.i2d n))), .second] [(.int n), (.double jd)]))
  refine Dn.of (fun tt_ zz_ => XS.i2dS X8.here hx rfl (v := FP.i2d n) (hb hby d4_18) rfl rfl zz_) ?_
  show Dn p e below s _ _ _ (T8.setTop (mkF m 19 #[.val (.ref a), .val (.double jd), .second, .val (.double (FP.ddiv (FP.dsub (4607182418800017408 : UInt64) ms) (FP.i2d n))), .second] [(.double (FP.i2d n)), (.double jd)]))
  refine Dn.of (fun tt_ zz_ => XS.dcmpS X8.here hx rfl (v := (cmpValue (FP.dcmp jd (FP.i2d n)) .g)) (hb hby d4_19) rfl rfl zz_) ?_
  show Dn p e below s _ _ _ (T8.setTop (mkF m 20 #[.val (.ref a), .val (.double jd), .second, .val (.double (FP.ddiv (FP.dsub (4607182418800017408 : UInt64) ms) (FP.i2d n))), .second] [(.int (cmpValue (FP.dcmp jd (FP.i2d n)) .g))]))
  by_cases h1 : (cmpValue (FP.dcmp jd (FP.i2d n)) .g) < (0 : Int32)
  · skip
    refine Dn.of (fun tt_ zz_ => XS.ifNo X8.here hx rfl (hb hby d4_20) rfl ((if0 _ _).trans (tlt h1).2.1) zz_) ?_
    show Dn p e below s _ _ _ (T8.setTop (mkF m 23 #[.val (.ref a), .val (.double jd), .second, .val (.double (FP.ddiv (FP.dsub (4607182418800017408 : UInt64) ms) (FP.i2d n))), .second] []))
    rw [sj.cmp sn0, cv_lt0] at h1
    refine Dn.of (fun tt_ zz_ => XS.aloadN X8.here hx rfl (hb hby d4_23) rfl rfl zz_) ?_
    show Dn p e below s _ _ _ (T8.setTop (mkF m 24 #[.val (.ref a), .val (.double jd), .second, .val (.double (FP.ddiv (FP.dsub (4607182418800017408 : UInt64) ms) (FP.i2d n))), .second] [(.ref a)]))
    obtain ⟨T9, X9, e9, st9⟩ := getF X8 hx hZ hown (host := "") (Or.inl (hw _ (List.mem_of_getElem? (i := 17) rfl))) Via.refl e8 F0 (g := (mkF m 24 #[.val (.ref a), .val (.double jd), .second, .val (.double (FP.ddiv (FP.dsub (4607182418800017408 : UInt64) ms) (FP.i2d n))), .second] [(.ref a)])) rfl rfl (hb hby d4_24)
    refine Dn.of st9 ?_
    show Dn p e below s _ _ _ (T9.setTop (mkF m 27 #[.val (.ref a), .val (.double jd), .second, .val (.double (FP.ddiv (FP.dsub (4607182418800017408 : UInt64) ms) (FP.i2d n))), .second] [(.double ms)]))
    refine Dn.of (fun tt_ zz_ => XS.dloadN X9.here hx rfl (hb hby d4_27) rfl zz_) ?_
    show Dn p e below s _ _ _ (T9.setTop (mkF m 28 #[.val (.ref a), .val (.double jd), .second, .val (.double (FP.ddiv (FP.dsub (4607182418800017408 : UInt64) ms) (FP.i2d n))), .second] [(.double (FP.ddiv (FP.dsub (4607182418800017408 : UInt64) ms) (FP.i2d n))), (.double ms)]))
    refine Dn.of (fun tt_ zz_ => XS.dloadN X9.here hx rfl (hb hby d4_28) rfl zz_) ?_
    show Dn p e below s _ _ _ (T9.setTop (mkF m 29 #[.val (.ref a), .val (.double jd), .second, .val (.double (FP.ddiv (FP.dsub (4607182418800017408 : UInt64) ms) (FP.i2d n))), .second] [(.double jd), (.double (FP.ddiv (FP.dsub (4607182418800017408 : UInt64) ms) (FP.i2d n))), (.double ms)]))
    refine Dn.of (fun tt_ zz_ => XS.dmulS X9.here hx rfl (v := (FP.dmul (FP.ddiv (FP.dsub (4607182418800017408 : UInt64) ms) (FP.i2d n)) jd)) (hb hby d4_29) rfl (own_n3 hk hj ht sk sn sj).noNaN rfl zz_) ?_
    show Dn p e below s _ _ _ (T9.setTop (mkF m 30 #[.val (.ref a), .val (.double jd), .second, .val (.double (FP.ddiv (FP.dsub (4607182418800017408 : UInt64) ms) (FP.i2d n))), .second] [(.double (FP.dmul (FP.ddiv (FP.dsub (4607182418800017408 : UInt64) ms) (FP.i2d n)) jd)), (.double ms)]))
    refine Dn.of (fun tt_ zz_ => XS.daddS X9.here hx rfl (v := (FP.dadd ms (FP.dmul (FP.ddiv (FP.dsub (4607182418800017408 : UInt64) ms) (FP.i2d n)) jd))) (hb hby d4_30) rfl (own_n4 hk hj ht sk sn sj).noNaN rfl zz_) ?_
    show Dn p e below s _ _ _ (T9.setTop (mkF m 31 #[.val (.ref a), .val (.double jd), .second, .val (.double (FP.ddiv (FP.dsub (4607182418800017408 : UInt64) ms) (FP.i2d n))), .second] [(.double (FP.dadd ms (FP.dmul (FP.ddiv (FP.dsub (4607182418800017408 : UInt64) ms) (FP.i2d n)) jd)))]))
    exact Dn.ret X9 hx hlk hret rfl (Or.inr (Or.inr (Or.inl ⟨rfl, rfl, _, rfl⟩))) (hb hby d4_31) (by decide) (by decide) (⟨_, rfl, by rw [own_num, if_pos h1]; exact own_n4 hk hj ht sk sn sj, N0, e9⟩)
  · skip
    refine Dn.of (fun tt_ zz_ => XS.ifYes X8.here hx rfl (pc0 := 20) (pc' := 32) rfl (hb hby d4_20) rfl ((if0 _ _).trans (flt h1).2.1) (by decide) (by decide) zz_) ?_
    show Dn p e below s _ _ _ (T8.setTop (mkF m 32 #[.val (.ref a), .val (.double jd), .second, .val (.double (FP.ddiv (FP.dsub (4607182418800017408 : UInt64) ms) (FP.i2d n))), .second] []))
    rw [sj.cmp sn0, cv_lt0] at h1
    refine Dn.of (fun tt_ zz_ => XS.dloadN X8.here hx rfl (hb hby d4_32) rfl zz_) ?_
    show Dn p e below s _ _ _ (T8.setTop (mkF m 33 #[.val (.ref a), .val (.double jd), .second, .val (.double (FP.ddiv (FP.dsub (4607182418800017408 : UInt64) ms) (FP.i2d n))), .second] [(.double jd)]))
    refine Dn.of (fun tt_ zz_ => XS.aloadN X8.here hx rfl (hb hby d4_33) rfl rfl zz_) ?_
    show Dn p e below s _ _ _ (T8.setTop (mkF m 34 #[.val (.ref a), .val (.double jd), .second, .val (.double (FP.ddiv (FP.dsub (4607182418800017408 : UInt64) ms) (FP.i2d n))), .second] [(.ref a), (.double jd)]))
    obtain ⟨T10, X10, e10, st10⟩ := getF X8 hx hZ hown (host := "") (Or.inl (hw _ (List.mem_of_getElem? (i := 21) rfl))) Via.refl e8 F2 (g := (mkF m 34 #[.val (.ref a), .val (.double jd), .second, .val (.double (FP.ddiv (FP.dsub (4607182418800017408 : UInt64) ms) (FP.i2d n))), .second] [(.ref a), (.double jd)])) rfl rfl (hb hby d4_34)
    refine Dn.of st10 ?_
    show Dn p e below s _ _ _ (T10.setTop (mkF m 37 #[.val (.ref a), .val (.double jd), .second, .val (.double (FP.ddiv (FP.dsub (4607182418800017408 : UInt64) ms) (FP.i2d n))), .second] [(.int x), (.double jd)]))
    refine Dn.of (fun tt_ zz_ => XS.i2dS X10.here hx rfl (v := FP.i2d x) (hb hby d4_37) rfl rfl zz_) ?_
    show Dn p e below s _ _ _ (T10.setTop (mkF m 38 #[.val (.ref a), .val (.double jd), .second, .val (.double (FP.ddiv (FP.dsub (4607182418800017408 : UInt64) ms) (FP.i2d n))), .second] [(.double (FP.i2d x)), (.double jd)]))
    refine Dn.of (fun tt_ zz_ => XS.dcmpS X10.here hx rfl (v := (cmpValue (FP.dcmp jd (FP.i2d x)) .g)) (hb hby d4_38) rfl rfl zz_) ?_
    show Dn p e below s _ _ _ (T10.setTop (mkF m 39 #[.val (.ref a), .val (.double jd), .second, .val (.double (FP.ddiv (FP.dsub (4607182418800017408 : UInt64) ms) (FP.i2d n))), .second] [(.int (cmpValue (FP.dcmp jd (FP.i2d x)) .g))]))
    by_cases h2 : (0 : Int32) < (cmpValue (FP.dcmp jd (FP.i2d x)) .g)
    · skip
      refine Dn.of (fun tt_ zz_ => XS.ifYes X10.here hx rfl (pc0 := 39) (pc' := 44) rfl (hb hby d4_39) rfl ((if0 _ _).trans (tlt h2).2.2.1) (by decide) (by decide) zz_) ?_
      show Dn p e below s _ _ _ (T10.setTop (mkF m 44 #[.val (.ref a), .val (.double jd), .second, .val (.double (FP.ddiv (FP.dsub (4607182418800017408 : UInt64) ms) (FP.i2d n))), .second] []))
      rw [sj.cmp sx, cv_gt0] at h2
      have hd : Sc (j - x.toInt) 0 (FP.dsub jd (FP.i2d x)) := Sc.sub sj sx (by omega) (by decide) (by decide)
      have hd' : 0 ≤ j - x.toInt ∧ j - x.toInt ≤ 2147483647 := by omega
      refine Dn.of (fun tt_ zz_ => XS.dconst1 X10.here hx rfl (v := (4607182418800017408 : UInt64)) (hb hby d4_44) rfl zz_) ?_
      show Dn p e below s _ _ _ (T10.setTop (mkF m 45 #[.val (.ref a), .val (.double jd), .second, .val (.double (FP.ddiv (FP.dsub (4607182418800017408 : UInt64) ms) (FP.i2d n))), .second] [(.double (4607182418800017408 : UInt64))]))
      refine Dn.of (fun tt_ zz_ => XS.dloadN X10.here hx rfl (hb hby d4_45) rfl zz_) ?_
      show Dn p e below s _ _ _ (T10.setTop (mkF m 46 #[.val (.ref a), .val (.double jd), .second, .val (.double (FP.ddiv (FP.dsub (4607182418800017408 : UInt64) ms) (FP.i2d n))), .second] [(.double (FP.ddiv (FP.dsub (4607182418800017408 : UInt64) ms) (FP.i2d n))), (.double (4607182418800017408 : UInt64))]))
      refine Dn.of (fun tt_ zz_ => XS.dloadN X10.here hx rfl (hb hby d4_46) rfl zz_) ?_
      show Dn p e below s _ _ _ (T10.setTop (mkF m 47 #[.val (.ref a), .val (.double jd), .second, .val (.double (FP.ddiv (FP.dsub (4607182418800017408 : UInt64) ms) (FP.i2d n))), .second] [(.double jd), (.double (FP.ddiv (FP.dsub (4607182418800017408 : UInt64) ms) (FP.i2d n))), (.double (4607182418800017408 : UInt64))]))
      refine Dn.of (fun tt_ zz_ => XS.aloadN X10.here hx rfl (hb hby d4_47) rfl rfl zz_) ?_
      show Dn p e below s _ _ _ (T10.setTop (mkF m 48 #[.val (.ref a), .val (.double jd), .second, .val (.double (FP.ddiv (FP.dsub (4607182418800017408 : UInt64) ms) (FP.i2d n))), .second] [(.ref a), (.double jd), (.double (FP.ddiv (FP.dsub (4607182418800017408 : UInt64) ms) (FP.i2d n))), (.double (4607182418800017408 : UInt64))]))
      obtain ⟨T11, X11, e11, st11⟩ := getF X10 hx hZ hown (host := "") (Or.inl (hw _ (List.mem_of_getElem? (i := 21) rfl))) Via.refl e10 F2 (g := (mkF m 48 #[.val (.ref a), .val (.double jd), .second, .val (.double (FP.ddiv (FP.dsub (4607182418800017408 : UInt64) ms) (FP.i2d n))), .second] [(.ref a), (.double jd), (.double (FP.ddiv (FP.dsub (4607182418800017408 : UInt64) ms) (FP.i2d n))), (.double (4607182418800017408 : UInt64))])) rfl rfl (hb hby d4_48)
      refine Dn.of st11 ?_
      show Dn p e below s _ _ _ (T11.setTop (mkF m 51 #[.val (.ref a), .val (.double jd), .second, .val (.double (FP.ddiv (FP.dsub (4607182418800017408 : UInt64) ms) (FP.i2d n))), .second] [(.int x), (.double jd), (.double (FP.ddiv (FP.dsub (4607182418800017408 : UInt64) ms) (FP.i2d n))), (.double (4607182418800017408 : UInt64))]))
      refine Dn.of (fun tt_ zz_ => XS.i2dS X11.here hx rfl (v := FP.i2d x) (hb hby d4_51) rfl rfl zz_) ?_
      show Dn p e below s _ _ _ (T11.setTop (mkF m 52 #[.val (.ref a), .val (.double jd), .second, .val (.double (FP.ddiv (FP.dsub (4607182418800017408 : UInt64) ms) (FP.i2d n))), .second] [(.double (FP.i2d x)), (.double jd), (.double (FP.ddiv (FP.dsub (4607182418800017408 : UInt64) ms) (FP.i2d n))), (.double (4607182418800017408 : UInt64))]))
      refine Dn.of (fun tt_ zz_ => XS.dsubS X11.here hx rfl (v := (FP.dsub jd (FP.i2d x))) (hb hby d4_52) rfl hd.noNaN rfl zz_) ?_
      show Dn p e below s _ _ _ (T11.setTop (mkF m 53 #[.val (.ref a), .val (.double jd), .second, .val (.double (FP.ddiv (FP.dsub (4607182418800017408 : UInt64) ms) (FP.i2d n))), .second] [(.double (FP.dsub jd (FP.i2d x))), (.double (FP.ddiv (FP.dsub (4607182418800017408 : UInt64) ms) (FP.i2d n))), (.double (4607182418800017408 : UInt64))]))
      refine Dn.of (fun tt_ zz_ => XS.dmulS X11.here hx rfl (v := (FP.dmul (FP.ddiv (FP.dsub (4607182418800017408 : UInt64) ms) (FP.i2d n)) (FP.dsub jd (FP.i2d x)))) (hb hby d4_53) rfl (own_n3 hk hd' ht sk sn hd).noNaN rfl zz_) ?_
      show Dn p e below s _ _ _ (T11.setTop (mkF m 54 #[.val (.ref a), .val (.double jd), .second, .val (.double (FP.ddiv (FP.dsub (4607182418800017408 : UInt64) ms) (FP.i2d n))), .second] [(.double (FP.dmul (FP.ddiv (FP.dsub (4607182418800017408 : UInt64) ms) (FP.i2d n)) (FP.dsub jd (FP.i2d x)))), (.double (4607182418800017408 : UInt64))]))
      refine Dn.of (fun tt_ zz_ => XS.daddS X11.here hx rfl (v := (FP.dadd (4607182418800017408 : UInt64) (FP.dmul (FP.ddiv (FP.dsub (4607182418800017408 : UInt64) ms) (FP.i2d n)) (FP.dsub jd (FP.i2d x))))) (hb hby d4_54) rfl (own_n6 hk hd' ht sk sn hd).noNaN rfl zz_) ?_
      show Dn p e below s _ _ _ (T11.setTop (mkF m 55 #[.val (.ref a), .val (.double jd), .second, .val (.double (FP.ddiv (FP.dsub (4607182418800017408 : UInt64) ms) (FP.i2d n))), .second] [(.double (FP.dadd (4607182418800017408 : UInt64) (FP.dmul (FP.ddiv (FP.dsub (4607182418800017408 : UInt64) ms) (FP.i2d n)) (FP.dsub jd (FP.i2d x)))))]))
      exact Dn.ret X11 hx hlk hret rfl (Or.inr (Or.inr (Or.inl ⟨rfl, rfl, _, rfl⟩))) (hb hby d4_55) (by decide) (by decide) (⟨_, rfl, by rw [own_num, if_neg h1, if_pos h2]; exact own_n6 hk hd' ht sk sn hd, N0, e11⟩)
    · skip
      refine Dn.of (fun tt_ zz_ => XS.ifNo X10.here hx rfl (hb hby d4_39) rfl ((if0 _ _).trans (flt h2).2.2.1) zz_) ?_
      show Dn p e below s _ _ _ (T10.setTop (mkF m 42 #[.val (.ref a), .val (.double jd), .second, .val (.double (FP.ddiv (FP.dsub (4607182418800017408 : UInt64) ms) (FP.i2d n))), .second] []))
      rw [sj.cmp sx, cv_gt0] at h2
      refine Dn.of (fun tt_ zz_ => XS.dconst1 X10.here hx rfl (v := (4607182418800017408 : UInt64)) (hb hby d4_42) rfl zz_) ?_
      show Dn p e below s _ _ _ (T10.setTop (mkF m 43 #[.val (.ref a), .val (.double jd), .second, .val (.double (FP.ddiv (FP.dsub (4607182418800017408 : UInt64) ms) (FP.i2d n))), .second] [(.double (4607182418800017408 : UInt64))]))
      exact Dn.ret X10 hx hlk hret rfl (Or.inr (Or.inr (Or.inl ⟨rfl, rfl, _, rfl⟩))) (hb hby d4_43) (by decide) (by decide) (⟨_, rfl, by rw [own_num, if_neg h1, if_neg h2]; exact own_n5, N0, e10⟩)
def own_Q (n0 : Nat) (v : Option Value) (h : Heap) (L : List Loc) : Prop := v = some (.int 1) ∧ Fr n0 L
theorem ef0_IIII (m : MethodId) (x0 : Int32) (x1 : Int32) (x2 : Int32) (x3 : Int32) : entryFrame m #[(.int x0), (.int x1), (.int x2), (.int x3)] maxLocals = mkF m 0 #[.val (.int x0), .val (.int x1), .val (.int x2), .val (.int x3), .unset, .unset, .unset, .unset, .unset, .unset, .unset, .unset, .unset, .unset, .unset, .unset, .unset, .unset, .unset, .unset, .unset] [] := by first | (simp [entryFrame, mkF, argsToLocals, Value.category, maxLocals]; done) | rfl
set_option maxRecDepth 65536 in
set_option maxHeartbeats 40000000 in
theorem rm0 (l : Launch) (Z : State) (a0 : Array Value) (hw : ∀ d ∈ tables_1, d.before a0 Z = true) (ws : List Jvm.Cond) (h0 : Heap) (n0 : Nat) (Z0 : n0 ≤ h0.size) (i0 i1 i2 i3 : Int32) :
    ctr l Z x code maxLocals ret ws room_1 16 128 #[(.int i0), (.int i1), (.int i2), (.int i3)] h0 (own_Q n0) := by
  refine ctr_of (plainFor_of_name pn2) ?_
  intro p e s m below meth jc s₁ hx hby hml hret hlk hnm hown hZ e0 X0
  have N0 := Fr.nil n0
  refine Dn.cast (ef0_IIII m i0 i1 i2 i3) ?_
  show Dn p e below s _ _ _ (s₁.setTop (mkF m 0 #[.val (.int i0), .val (.int i1), .val (.int i2), .val (.int i3), .unset, .unset, .unset, .unset, .unset, .unset, .unset, .unset, .unset, .unset, .unset, .unset, .unset, .unset, .unset, .unset, .unset] []))
  obtain ⟨t, ht⟩ := own_e i1
  have hk := own_k i0
  have hj := own_j i3
  have ht' : t.1 ≤ 30 := by omega
  have hp := own_p ht'
  refine Dn.of (fun tt_ zz_ => X0.ldc2J hx hown (mvT hZ (hw _ (List.mem_of_getElem? (i := 0) rfl))) rfl (hb hby at_0) zz_) ?_
  show Dn p e below s (own_Q n0) 16 128 (s₁.setTop (mkF m 3 #[.val (.int i0), .val (.int i1), .val (.int i2), .val (.int i3), .unset, .unset, .unset, .unset, .unset, .unset, .unset, .unset, .unset, .unset, .unset, .unset, .unset, .unset, .unset, .unset, .unset] [(.long (1048576 : Int64))]))
  refine Dn.of (fun tt_ zz_ => XS.lstore X0.here hx rfl (hb hby at_3) rfl (l' := #[.val (.int i0), .val (.int i1), .val (.int i2), .val (.int i3), .val (.long (1048576 : Int64)), .second, .unset, .unset, .unset, .unset, .unset, .unset, .unset, .unset, .unset, .unset, .unset, .unset, .unset, .unset, .unset]) rfl zz_) ?_
  show Dn p e below s (own_Q n0) 16 128 (s₁.setTop (mkF m 5 #[.val (.int i0), .val (.int i1), .val (.int i2), .val (.int i3), .val (.long (1048576 : Int64)), .second, .unset, .unset, .unset, .unset, .unset, .unset, .unset, .unset, .unset, .unset, .unset, .unset, .unset, .unset, .unset] []))
  refine Dn.of (fun tt_ zz_ => XS.iloadN X0.here hx rfl (hb hby at_5) rfl zz_) ?_
  show Dn p e below s (own_Q n0) 16 128 (s₁.setTop (mkF m 6 #[.val (.int i0), .val (.int i1), .val (.int i2), .val (.int i3), .val (.long (1048576 : Int64)), .second, .unset, .unset, .unset, .unset, .unset, .unset, .unset, .unset, .unset, .unset, .unset, .unset, .unset, .unset, .unset] [(.int i0)]))
  refine Dn.of (fun tt_ zz_ => X0.ldcI hx hown (mvT hZ (hw _ (List.mem_of_getElem? (i := 1) rfl))) rfl (hb hby at_6) zz_) ?_
  show Dn p e below s (own_Q n0) 16 128 (s₁.setTop (mkF m 8 #[.val (.int i0), .val (.int i1), .val (.int i2), .val (.int i3), .val (.long (1048576 : Int64)), .second, .unset, .unset, .unset, .unset, .unset, .unset, .unset, .unset, .unset, .unset, .unset, .unset, .unset, .unset, .unset] [(.int (2147483647 : Int32)), (.int i0)]))
  refine Dn.of (fun tt_ zz_ => XS.iand X0.here hx rfl (hb hby at_8) rfl zz_) ?_
  show Dn p e below s (own_Q n0) 16 128 (s₁.setTop (mkF m 9 #[.val (.int i0), .val (.int i1), .val (.int i2), .val (.int i3), .val (.long (1048576 : Int64)), .second, .unset, .unset, .unset, .unset, .unset, .unset, .unset, .unset, .unset, .unset, .unset, .unset, .unset, .unset, .unset] [(.int (i0 &&& (2147483647 : Int32)))]))
  refine Dn.of (fun tt_ zz_ => X0.ldcI hx hown (mvT hZ (hw _ (List.mem_of_getElem? (i := 2) rfl))) rfl (hb hby at_9) zz_) ?_
  show Dn p e below s (own_Q n0) 16 128 (s₁.setTop (mkF m 11 #[.val (.int i0), .val (.int i1), .val (.int i2), .val (.int i3), .val (.long (1048576 : Int64)), .second, .unset, .unset, .unset, .unset, .unset, .unset, .unset, .unset, .unset, .unset, .unset, .unset, .unset, .unset, .unset] [(.int (1048577 : Int32)), (.int (i0 &&& (2147483647 : Int32)))]))
  refine Dn.of (fun tt_ zz_ => iremM X0 hx rfl (hb hby at_11) rfl (by decide) zz_) ?_
  show Dn p e below s (own_Q n0) 16 128 (s₁.setTop (mkF m 12 #[.val (.int i0), .val (.int i1), .val (.int i2), .val (.int i3), .val (.long (1048576 : Int64)), .second, .unset, .unset, .unset, .unset, .unset, .unset, .unset, .unset, .unset, .unset, .unset, .unset, .unset, .unset, .unset] [(.int ((i0 &&& (2147483647 : Int32)) % (1048577 : Int32)))]))
  refine Dn.of (fun tt_ zz_ => XS.istore X0.here hx rfl (hb hby at_12) rfl (l' := #[.val (.int i0), .val (.int i1), .val (.int i2), .val (.int i3), .val (.long (1048576 : Int64)), .second, .val (.int ((i0 &&& (2147483647 : Int32)) % (1048577 : Int32))), .unset, .unset, .unset, .unset, .unset, .unset, .unset, .unset, .unset, .unset, .unset, .unset, .unset, .unset]) rfl zz_) ?_
  show Dn p e below s (own_Q n0) 16 128 (s₁.setTop (mkF m 14 #[.val (.int i0), .val (.int i1), .val (.int i2), .val (.int i3), .val (.long (1048576 : Int64)), .second, .val (.int ((i0 &&& (2147483647 : Int32)) % (1048577 : Int32))), .unset, .unset, .unset, .unset, .unset, .unset, .unset, .unset, .unset, .unset, .unset, .unset, .unset, .unset] []))
  refine Dn.of (fun tt_ zz_ => XS.iloadN X0.here hx rfl (hb hby at_14) rfl zz_) ?_
  show Dn p e below s (own_Q n0) 16 128 (s₁.setTop (mkF m 15 #[.val (.int i0), .val (.int i1), .val (.int i2), .val (.int i3), .val (.long (1048576 : Int64)), .second, .val (.int ((i0 &&& (2147483647 : Int32)) % (1048577 : Int32))), .unset, .unset, .unset, .unset, .unset, .unset, .unset, .unset, .unset, .unset, .unset, .unset, .unset, .unset] [(.int i1)]))
  refine Dn.of (fun tt_ zz_ => X0.ldcI hx hown (mvT hZ (hw _ (List.mem_of_getElem? (i := 1) rfl))) rfl (hb hby at_15) zz_) ?_
  show Dn p e below s (own_Q n0) 16 128 (s₁.setTop (mkF m 17 #[.val (.int i0), .val (.int i1), .val (.int i2), .val (.int i3), .val (.long (1048576 : Int64)), .second, .val (.int ((i0 &&& (2147483647 : Int32)) % (1048577 : Int32))), .unset, .unset, .unset, .unset, .unset, .unset, .unset, .unset, .unset, .unset, .unset, .unset, .unset, .unset] [(.int (2147483647 : Int32)), (.int i1)]))
  refine Dn.of (fun tt_ zz_ => XS.iand X0.here hx rfl (hb hby at_17) rfl zz_) ?_
  show Dn p e below s (own_Q n0) 16 128 (s₁.setTop (mkF m 18 #[.val (.int i0), .val (.int i1), .val (.int i2), .val (.int i3), .val (.long (1048576 : Int64)), .second, .val (.int ((i0 &&& (2147483647 : Int32)) % (1048577 : Int32))), .unset, .unset, .unset, .unset, .unset, .unset, .unset, .unset, .unset, .unset, .unset, .unset, .unset, .unset] [(.int (i1 &&& (2147483647 : Int32)))]))
  refine Dn.of (fun tt_ zz_ => XS.bipush X0.here hx rfl (hb hby at_18) zz_) ?_
  show Dn p e below s (own_Q n0) 16 128 (s₁.setTop (mkF m 20 #[.val (.int i0), .val (.int i1), .val (.int i2), .val (.int i3), .val (.long (1048576 : Int64)), .second, .val (.int ((i0 &&& (2147483647 : Int32)) % (1048577 : Int32))), .unset, .unset, .unset, .unset, .unset, .unset, .unset, .unset, .unset, .unset, .unset, .unset, .unset, .unset] [(.int (31 : Int32)), (.int (i1 &&& (2147483647 : Int32)))]))
  refine Dn.of (fun tt_ zz_ => iremM X0 hx rfl (hb hby at_20) rfl (by decide) zz_) ?_
  show Dn p e below s (own_Q n0) 16 128 (s₁.setTop (mkF m 21 #[.val (.int i0), .val (.int i1), .val (.int i2), .val (.int i3), .val (.long (1048576 : Int64)), .second, .val (.int ((i0 &&& (2147483647 : Int32)) % (1048577 : Int32))), .unset, .unset, .unset, .unset, .unset, .unset, .unset, .unset, .unset, .unset, .unset, .unset, .unset, .unset] [(.int ((i1 &&& (2147483647 : Int32)) % (31 : Int32)))]))
  rw [ht]
  show Dn p e below s (own_Q n0) 16 128 (s₁.setTop (mkF m 21 #[.val (.int i0), .val (.int i1), .val (.int i2), .val (.int i3), .val (.long (1048576 : Int64)), .second, .val (.int ((i0 &&& (2147483647 : Int32)) % (1048577 : Int32))), .unset, .unset, .unset, .unset, .unset, .unset, .unset, .unset, .unset, .unset, .unset, .unset, .unset, .unset] [(.int (Int32.ofNat t.1))]))
  refine Dn.of (fun tt_ zz_ => XS.istore X0.here hx rfl (hb hby at_21) rfl (l' := #[.val (.int i0), .val (.int i1), .val (.int i2), .val (.int i3), .val (.long (1048576 : Int64)), .second, .val (.int ((i0 &&& (2147483647 : Int32)) % (1048577 : Int32))), .val (.int (Int32.ofNat t.1)), .unset, .unset, .unset, .unset, .unset, .unset, .unset, .unset, .unset, .unset, .unset, .unset, .unset]) rfl zz_) ?_
  show Dn p e below s (own_Q n0) 16 128 (s₁.setTop (mkF m 23 #[.val (.int i0), .val (.int i1), .val (.int i2), .val (.int i3), .val (.long (1048576 : Int64)), .second, .val (.int ((i0 &&& (2147483647 : Int32)) % (1048577 : Int32))), .val (.int (Int32.ofNat t.1)), .unset, .unset, .unset, .unset, .unset, .unset, .unset, .unset, .unset, .unset, .unset, .unset, .unset] []))
  refine Dn.of (fun tt_ zz_ => XS.iconst X0.here hx rfl (hb hby at_23) zz_) ?_
  show Dn p e below s (own_Q n0) 16 128 (s₁.setTop (mkF m 24 #[.val (.int i0), .val (.int i1), .val (.int i2), .val (.int i3), .val (.long (1048576 : Int64)), .second, .val (.int ((i0 &&& (2147483647 : Int32)) % (1048577 : Int32))), .val (.int (Int32.ofNat t.1)), .unset, .unset, .unset, .unset, .unset, .unset, .unset, .unset, .unset, .unset, .unset, .unset, .unset] [(.int (1 : Int32))]))
  refine Dn.of (fun tt_ zz_ => XS.iload X0.here hx rfl (hb hby at_24) rfl zz_) ?_
  show Dn p e below s (own_Q n0) 16 128 (s₁.setTop (mkF m 26 #[.val (.int i0), .val (.int i1), .val (.int i2), .val (.int i3), .val (.long (1048576 : Int64)), .second, .val (.int ((i0 &&& (2147483647 : Int32)) % (1048577 : Int32))), .val (.int (Int32.ofNat t.1)), .unset, .unset, .unset, .unset, .unset, .unset, .unset, .unset, .unset, .unset, .unset, .unset, .unset] [(.int (Int32.ofNat t.1)), (.int (1 : Int32))]))
  refine Dn.of (fun tt_ zz_ => XS.ishl X0.here hx rfl (hb hby at_26) rfl zz_) ?_
  show Dn p e below s (own_Q n0) 16 128 (s₁.setTop (mkF m 27 #[.val (.int i0), .val (.int i1), .val (.int i2), .val (.int i3), .val (.long (1048576 : Int64)), .second, .val (.int ((i0 &&& (2147483647 : Int32)) % (1048577 : Int32))), .val (.int (Int32.ofNat t.1)), .unset, .unset, .unset, .unset, .unset, .unset, .unset, .unset, .unset, .unset, .unset, .unset, .unset] [(.int ((1 : Int32) <<< ((Int32.ofNat t.1) &&& 31)))]))
  refine Dn.of (fun tt_ zz_ => XS.istore X0.here hx rfl (hb hby at_27) rfl (l' := #[.val (.int i0), .val (.int i1), .val (.int i2), .val (.int i3), .val (.long (1048576 : Int64)), .second, .val (.int ((i0 &&& (2147483647 : Int32)) % (1048577 : Int32))), .val (.int (Int32.ofNat t.1)), .val (.int ((1 : Int32) <<< ((Int32.ofNat t.1) &&& 31))), .unset, .unset, .unset, .unset, .unset, .unset, .unset, .unset, .unset, .unset, .unset, .unset]) rfl zz_) ?_
  show Dn p e below s (own_Q n0) 16 128 (s₁.setTop (mkF m 29 #[.val (.int i0), .val (.int i1), .val (.int i2), .val (.int i3), .val (.long (1048576 : Int64)), .second, .val (.int ((i0 &&& (2147483647 : Int32)) % (1048577 : Int32))), .val (.int (Int32.ofNat t.1)), .val (.int ((1 : Int32) <<< ((Int32.ofNat t.1) &&& 31))), .unset, .unset, .unset, .unset, .unset, .unset, .unset, .unset, .unset, .unset, .unset, .unset] []))
  have hn := own_sn t
  generalize ((1 : Int32) <<< ((Int32.ofNat t.1) &&& 31)) = n at *
  show Dn p e below s (own_Q n0) 16 128 (s₁.setTop (mkF m 29 #[.val (.int i0), .val (.int i1), .val (.int i2), .val (.int i3), .val (.long (1048576 : Int64)), .second, .val (.int ((i0 &&& (2147483647 : Int32)) % (1048577 : Int32))), .val (.int (Int32.ofNat t.1)), .val (.int n), .unset, .unset, .unset, .unset, .unset, .unset, .unset, .unset, .unset, .unset, .unset, .unset] []))
  have hnb : 1 ≤ n.toInt ∧ n.toInt ≤ 1073741824 := by omega
  have hmx := own_mx n i2 hnb
  refine Dn.of (fun tt_ zz_ => XS.iloadN X0.here hx rfl (hb hby at_29) rfl zz_) ?_
  show Dn p e below s (own_Q n0) 16 128 (s₁.setTop (mkF m 30 #[.val (.int i0), .val (.int i1), .val (.int i2), .val (.int i3), .val (.long (1048576 : Int64)), .second, .val (.int ((i0 &&& (2147483647 : Int32)) % (1048577 : Int32))), .val (.int (Int32.ofNat t.1)), .val (.int n), .unset, .unset, .unset, .unset, .unset, .unset, .unset, .unset, .unset, .unset, .unset, .unset] [(.int i2)]))
  refine Dn.of (fun tt_ zz_ => X0.ldcI hx hown (mvT hZ (hw _ (List.mem_of_getElem? (i := 1) rfl))) rfl (hb hby at_30) zz_) ?_
  show Dn p e below s (own_Q n0) 16 128 (s₁.setTop (mkF m 32 #[.val (.int i0), .val (.int i1), .val (.int i2), .val (.int i3), .val (.long (1048576 : Int64)), .second, .val (.int ((i0 &&& (2147483647 : Int32)) % (1048577 : Int32))), .val (.int (Int32.ofNat t.1)), .val (.int n), .unset, .unset, .unset, .unset, .unset, .unset, .unset, .unset, .unset, .unset, .unset, .unset] [(.int (2147483647 : Int32)), (.int i2)]))
  refine Dn.of (fun tt_ zz_ => XS.iand X0.here hx rfl (hb hby at_32) rfl zz_) ?_
  show Dn p e below s (own_Q n0) 16 128 (s₁.setTop (mkF m 33 #[.val (.int i0), .val (.int i1), .val (.int i2), .val (.int i3), .val (.long (1048576 : Int64)), .second, .val (.int ((i0 &&& (2147483647 : Int32)) % (1048577 : Int32))), .val (.int (Int32.ofNat t.1)), .val (.int n), .unset, .unset, .unset, .unset, .unset, .unset, .unset, .unset, .unset, .unset, .unset, .unset] [(.int (i2 &&& (2147483647 : Int32)))]))
  refine Dn.of (fun tt_ zz_ => X0.ldcI hx hown (mvT hZ (hw _ (List.mem_of_getElem? (i := 1) rfl))) rfl (hb hby at_33) zz_) ?_
  show Dn p e below s (own_Q n0) 16 128 (s₁.setTop (mkF m 35 #[.val (.int i0), .val (.int i1), .val (.int i2), .val (.int i3), .val (.long (1048576 : Int64)), .second, .val (.int ((i0 &&& (2147483647 : Int32)) % (1048577 : Int32))), .val (.int (Int32.ofNat t.1)), .val (.int n), .unset, .unset, .unset, .unset, .unset, .unset, .unset, .unset, .unset, .unset, .unset, .unset] [(.int (2147483647 : Int32)), (.int (i2 &&& (2147483647 : Int32)))]))
  refine Dn.of (fun tt_ zz_ => XS.iload X0.here hx rfl (hb hby at_35) rfl zz_) ?_
  show Dn p e below s (own_Q n0) 16 128 (s₁.setTop (mkF m 37 #[.val (.int i0), .val (.int i1), .val (.int i2), .val (.int i3), .val (.long (1048576 : Int64)), .second, .val (.int ((i0 &&& (2147483647 : Int32)) % (1048577 : Int32))), .val (.int (Int32.ofNat t.1)), .val (.int n), .unset, .unset, .unset, .unset, .unset, .unset, .unset, .unset, .unset, .unset, .unset, .unset] [(.int n), (.int (2147483647 : Int32)), (.int (i2 &&& (2147483647 : Int32)))]))
  refine Dn.of (fun tt_ zz_ => XS.isub X0.here hx rfl (hb hby at_37) rfl zz_) ?_
  show Dn p e below s (own_Q n0) 16 128 (s₁.setTop (mkF m 38 #[.val (.int i0), .val (.int i1), .val (.int i2), .val (.int i3), .val (.long (1048576 : Int64)), .second, .val (.int ((i0 &&& (2147483647 : Int32)) % (1048577 : Int32))), .val (.int (Int32.ofNat t.1)), .val (.int n), .unset, .unset, .unset, .unset, .unset, .unset, .unset, .unset, .unset, .unset, .unset, .unset] [(.int ((2147483647 : Int32) - n)), (.int (i2 &&& (2147483647 : Int32)))]))
  refine Dn.of (fun tt_ zz_ => XS.iconst X0.here hx rfl (hb hby at_38) zz_) ?_
  show Dn p e below s (own_Q n0) 16 128 (s₁.setTop (mkF m 39 #[.val (.int i0), .val (.int i1), .val (.int i2), .val (.int i3), .val (.long (1048576 : Int64)), .second, .val (.int ((i0 &&& (2147483647 : Int32)) % (1048577 : Int32))), .val (.int (Int32.ofNat t.1)), .val (.int n), .unset, .unset, .unset, .unset, .unset, .unset, .unset, .unset, .unset, .unset, .unset, .unset] [(.int (1 : Int32)), (.int ((2147483647 : Int32) - n)), (.int (i2 &&& (2147483647 : Int32)))]))
  refine Dn.of (fun tt_ zz_ => XS.iadd X0.here hx rfl (hb hby at_39) rfl zz_) ?_
  show Dn p e below s (own_Q n0) 16 128 (s₁.setTop (mkF m 40 #[.val (.int i0), .val (.int i1), .val (.int i2), .val (.int i3), .val (.long (1048576 : Int64)), .second, .val (.int ((i0 &&& (2147483647 : Int32)) % (1048577 : Int32))), .val (.int (Int32.ofNat t.1)), .val (.int n), .unset, .unset, .unset, .unset, .unset, .unset, .unset, .unset, .unset, .unset, .unset, .unset] [(.int (((2147483647 : Int32) - n) + (1 : Int32))), (.int (i2 &&& (2147483647 : Int32)))]))
  refine Dn.of (fun tt_ zz_ => iremM X0 hx rfl (hb hby at_40) rfl (own_mz n hnb) zz_) ?_
  show Dn p e below s (own_Q n0) 16 128 (s₁.setTop (mkF m 41 #[.val (.int i0), .val (.int i1), .val (.int i2), .val (.int i3), .val (.long (1048576 : Int64)), .second, .val (.int ((i0 &&& (2147483647 : Int32)) % (1048577 : Int32))), .val (.int (Int32.ofNat t.1)), .val (.int n), .unset, .unset, .unset, .unset, .unset, .unset, .unset, .unset, .unset, .unset, .unset, .unset] [(.int ((i2 &&& (2147483647 : Int32)) % (((2147483647 : Int32) - n) + (1 : Int32))))]))
  refine Dn.of (fun tt_ zz_ => XS.istore X0.here hx rfl (hb hby at_41) rfl (l' := #[.val (.int i0), .val (.int i1), .val (.int i2), .val (.int i3), .val (.long (1048576 : Int64)), .second, .val (.int ((i0 &&& (2147483647 : Int32)) % (1048577 : Int32))), .val (.int (Int32.ofNat t.1)), .val (.int n), .val (.int ((i2 &&& (2147483647 : Int32)) % (((2147483647 : Int32) - n) + (1 : Int32)))), .unset, .unset, .unset, .unset, .unset, .unset, .unset, .unset, .unset, .unset, .unset]) rfl zz_) ?_
  show Dn p e below s (own_Q n0) 16 128 (s₁.setTop (mkF m 43 #[.val (.int i0), .val (.int i1), .val (.int i2), .val (.int i3), .val (.long (1048576 : Int64)), .second, .val (.int ((i0 &&& (2147483647 : Int32)) % (1048577 : Int32))), .val (.int (Int32.ofNat t.1)), .val (.int n), .val (.int ((i2 &&& (2147483647 : Int32)) % (((2147483647 : Int32) - n) + (1 : Int32)))), .unset, .unset, .unset, .unset, .unset, .unset, .unset, .unset, .unset, .unset, .unset] []))
  refine Dn.of (fun tt_ zz_ => XS.iload X0.here hx rfl (hb hby at_43) rfl zz_) ?_
  show Dn p e below s (own_Q n0) 16 128 (s₁.setTop (mkF m 45 #[.val (.int i0), .val (.int i1), .val (.int i2), .val (.int i3), .val (.long (1048576 : Int64)), .second, .val (.int ((i0 &&& (2147483647 : Int32)) % (1048577 : Int32))), .val (.int (Int32.ofNat t.1)), .val (.int n), .val (.int ((i2 &&& (2147483647 : Int32)) % (((2147483647 : Int32) - n) + (1 : Int32)))), .unset, .unset, .unset, .unset, .unset, .unset, .unset, .unset, .unset, .unset, .unset] [(.int n)]))
  refine Dn.of (fun tt_ zz_ => XS.iload X0.here hx rfl (hb hby at_45) rfl zz_) ?_
  show Dn p e below s (own_Q n0) 16 128 (s₁.setTop (mkF m 47 #[.val (.int i0), .val (.int i1), .val (.int i2), .val (.int i3), .val (.long (1048576 : Int64)), .second, .val (.int ((i0 &&& (2147483647 : Int32)) % (1048577 : Int32))), .val (.int (Int32.ofNat t.1)), .val (.int n), .val (.int ((i2 &&& (2147483647 : Int32)) % (((2147483647 : Int32) - n) + (1 : Int32)))), .unset, .unset, .unset, .unset, .unset, .unset, .unset, .unset, .unset, .unset, .unset] [(.int ((i2 &&& (2147483647 : Int32)) % (((2147483647 : Int32) - n) + (1 : Int32)))), (.int n)]))
  refine Dn.of (fun tt_ zz_ => XS.iadd X0.here hx rfl (hb hby at_47) rfl zz_) ?_
  show Dn p e below s (own_Q n0) 16 128 (s₁.setTop (mkF m 48 #[.val (.int i0), .val (.int i1), .val (.int i2), .val (.int i3), .val (.long (1048576 : Int64)), .second, .val (.int ((i0 &&& (2147483647 : Int32)) % (1048577 : Int32))), .val (.int (Int32.ofNat t.1)), .val (.int n), .val (.int ((i2 &&& (2147483647 : Int32)) % (((2147483647 : Int32) - n) + (1 : Int32)))), .unset, .unset, .unset, .unset, .unset, .unset, .unset, .unset, .unset, .unset, .unset] [(.int (n + ((i2 &&& (2147483647 : Int32)) % (((2147483647 : Int32) - n) + (1 : Int32)))))]))
  refine Dn.of (fun tt_ zz_ => XS.istore X0.here hx rfl (hb hby at_48) rfl (l' := #[.val (.int i0), .val (.int i1), .val (.int i2), .val (.int i3), .val (.long (1048576 : Int64)), .second, .val (.int ((i0 &&& (2147483647 : Int32)) % (1048577 : Int32))), .val (.int (Int32.ofNat t.1)), .val (.int n), .val (.int ((i2 &&& (2147483647 : Int32)) % (((2147483647 : Int32) - n) + (1 : Int32)))), .val (.int (n + ((i2 &&& (2147483647 : Int32)) % (((2147483647 : Int32) - n) + (1 : Int32))))), .unset, .unset, .unset, .unset, .unset, .unset, .unset, .unset, .unset, .unset]) rfl zz_) ?_
  show Dn p e below s (own_Q n0) 16 128 (s₁.setTop (mkF m 50 #[.val (.int i0), .val (.int i1), .val (.int i2), .val (.int i3), .val (.long (1048576 : Int64)), .second, .val (.int ((i0 &&& (2147483647 : Int32)) % (1048577 : Int32))), .val (.int (Int32.ofNat t.1)), .val (.int n), .val (.int ((i2 &&& (2147483647 : Int32)) % (((2147483647 : Int32) - n) + (1 : Int32)))), .val (.int (n + ((i2 &&& (2147483647 : Int32)) % (((2147483647 : Int32) - n) + (1 : Int32))))), .unset, .unset, .unset, .unset, .unset, .unset, .unset, .unset, .unset, .unset] []))
  refine Dn.of (fun tt_ zz_ => XS.iloadN X0.here hx rfl (hb hby at_50) rfl zz_) ?_
  show Dn p e below s (own_Q n0) 16 128 (s₁.setTop (mkF m 51 #[.val (.int i0), .val (.int i1), .val (.int i2), .val (.int i3), .val (.long (1048576 : Int64)), .second, .val (.int ((i0 &&& (2147483647 : Int32)) % (1048577 : Int32))), .val (.int (Int32.ofNat t.1)), .val (.int n), .val (.int ((i2 &&& (2147483647 : Int32)) % (((2147483647 : Int32) - n) + (1 : Int32)))), .val (.int (n + ((i2 &&& (2147483647 : Int32)) % (((2147483647 : Int32) - n) + (1 : Int32))))), .unset, .unset, .unset, .unset, .unset, .unset, .unset, .unset, .unset, .unset] [(.int i3)]))
  refine Dn.of (fun tt_ zz_ => X0.ldcI hx hown (mvT hZ (hw _ (List.mem_of_getElem? (i := 1) rfl))) rfl (hb hby at_51) zz_) ?_
  show Dn p e below s (own_Q n0) 16 128 (s₁.setTop (mkF m 53 #[.val (.int i0), .val (.int i1), .val (.int i2), .val (.int i3), .val (.long (1048576 : Int64)), .second, .val (.int ((i0 &&& (2147483647 : Int32)) % (1048577 : Int32))), .val (.int (Int32.ofNat t.1)), .val (.int n), .val (.int ((i2 &&& (2147483647 : Int32)) % (((2147483647 : Int32) - n) + (1 : Int32)))), .val (.int (n + ((i2 &&& (2147483647 : Int32)) % (((2147483647 : Int32) - n) + (1 : Int32))))), .unset, .unset, .unset, .unset, .unset, .unset, .unset, .unset, .unset, .unset] [(.int (2147483647 : Int32)), (.int i3)]))
  refine Dn.of (fun tt_ zz_ => XS.iand X0.here hx rfl (hb hby at_53) rfl zz_) ?_
  show Dn p e below s (own_Q n0) 16 128 (s₁.setTop (mkF m 54 #[.val (.int i0), .val (.int i1), .val (.int i2), .val (.int i3), .val (.long (1048576 : Int64)), .second, .val (.int ((i0 &&& (2147483647 : Int32)) % (1048577 : Int32))), .val (.int (Int32.ofNat t.1)), .val (.int n), .val (.int ((i2 &&& (2147483647 : Int32)) % (((2147483647 : Int32) - n) + (1 : Int32)))), .val (.int (n + ((i2 &&& (2147483647 : Int32)) % (((2147483647 : Int32) - n) + (1 : Int32))))), .unset, .unset, .unset, .unset, .unset, .unset, .unset, .unset, .unset, .unset] [(.int (i3 &&& (2147483647 : Int32)))]))
  refine Dn.of (fun tt_ zz_ => XS.istore X0.here hx rfl (hb hby at_54) rfl (l' := #[.val (.int i0), .val (.int i1), .val (.int i2), .val (.int i3), .val (.long (1048576 : Int64)), .second, .val (.int ((i0 &&& (2147483647 : Int32)) % (1048577 : Int32))), .val (.int (Int32.ofNat t.1)), .val (.int n), .val (.int ((i2 &&& (2147483647 : Int32)) % (((2147483647 : Int32) - n) + (1 : Int32)))), .val (.int (n + ((i2 &&& (2147483647 : Int32)) % (((2147483647 : Int32) - n) + (1 : Int32))))), .val (.int (i3 &&& (2147483647 : Int32))), .unset, .unset, .unset, .unset, .unset, .unset, .unset, .unset, .unset]) rfl zz_) ?_
  show Dn p e below s (own_Q n0) 16 128 (s₁.setTop (mkF m 56 #[.val (.int i0), .val (.int i1), .val (.int i2), .val (.int i3), .val (.long (1048576 : Int64)), .second, .val (.int ((i0 &&& (2147483647 : Int32)) % (1048577 : Int32))), .val (.int (Int32.ofNat t.1)), .val (.int n), .val (.int ((i2 &&& (2147483647 : Int32)) % (((2147483647 : Int32) - n) + (1 : Int32)))), .val (.int (n + ((i2 &&& (2147483647 : Int32)) % (((2147483647 : Int32) - n) + (1 : Int32))))), .val (.int (i3 &&& (2147483647 : Int32))), .unset, .unset, .unset, .unset, .unset, .unset, .unset, .unset, .unset] []))
  generalize ((i0 &&& (2147483647 : Int32)) % (1048577 : Int32)) = k at *
  generalize (n + ((i2 &&& (2147483647 : Int32)) % (((2147483647 : Int32) - n) + (1 : Int32)))) = x at *
  generalize (i3 &&& (2147483647 : Int32)) = j at *
  show Dn p e below s (own_Q n0) 16 128 (s₁.setTop (mkF m 56 #[.val (.int i0), .val (.int i1), .val (.int i2), .val (.int i3), .val (.long (1048576 : Int64)), .second, .val (.int k), .val (.int (Int32.ofNat t.1)), .val (.int n), .val (.int ((i2 &&& (2147483647 : Int32)) % (((2147483647 : Int32) - n) + (1 : Int32)))), .val (.int x), .val (.int j), .unset, .unset, .unset, .unset, .unset, .unset, .unset, .unset, .unset] []))
  have rx := rng32 x
  have sk : Sc k.toInt (-20) (FP.ddiv (FP.i2d k) (FP.l2d (1048576 : Int64))) := (Sc.div (m := 20) (Sc.of_int (Core.i2d_int k)) (Sc.pow (n := 20) (Sc.of_int (by have d := Core.l2d_int (a := (1048576 : Int64)) (by decide); exact d))) (by omega) (by decide) (by decide)).cast rfl (by decide)
  refine Dn.of (fun tt_ zz_ => XS.iload X0.here hx rfl (hb hby at_56) rfl zz_) ?_
  show Dn p e below s (own_Q n0) 16 128 (s₁.setTop (mkF m 58 #[.val (.int i0), .val (.int i1), .val (.int i2), .val (.int i3), .val (.long (1048576 : Int64)), .second, .val (.int k), .val (.int (Int32.ofNat t.1)), .val (.int n), .val (.int ((i2 &&& (2147483647 : Int32)) % (((2147483647 : Int32) - n) + (1 : Int32)))), .val (.int x), .val (.int j), .unset, .unset, .unset, .unset, .unset, .unset, .unset, .unset, .unset] [(.int k)]))
  refine Dn.of (fun tt_ zz_ => XS.i2dS X0.here hx rfl (v := FP.i2d k) (hb hby at_58) rfl rfl zz_) ?_
  show Dn p e below s (own_Q n0) 16 128 (s₁.setTop (mkF m 59 #[.val (.int i0), .val (.int i1), .val (.int i2), .val (.int i3), .val (.long (1048576 : Int64)), .second, .val (.int k), .val (.int (Int32.ofNat t.1)), .val (.int n), .val (.int ((i2 &&& (2147483647 : Int32)) % (((2147483647 : Int32) - n) + (1 : Int32)))), .val (.int x), .val (.int j), .unset, .unset, .unset, .unset, .unset, .unset, .unset, .unset, .unset] [(.double (FP.i2d k))]))
  refine Dn.of (fun tt_ zz_ => XS.lload X0.here hx rfl (hb hby at_59) rfl zz_) ?_
  show Dn p e below s (own_Q n0) 16 128 (s₁.setTop (mkF m 61 #[.val (.int i0), .val (.int i1), .val (.int i2), .val (.int i3), .val (.long (1048576 : Int64)), .second, .val (.int k), .val (.int (Int32.ofNat t.1)), .val (.int n), .val (.int ((i2 &&& (2147483647 : Int32)) % (((2147483647 : Int32) - n) + (1 : Int32)))), .val (.int x), .val (.int j), .unset, .unset, .unset, .unset, .unset, .unset, .unset, .unset, .unset] [(.long (1048576 : Int64)), (.double (FP.i2d k))]))
  refine Dn.of (fun tt_ zz_ => XS.l2dS X0.here hx rfl (v := FP.l2d (1048576 : Int64)) (hb hby at_61) rfl rfl zz_) ?_
  show Dn p e below s (own_Q n0) 16 128 (s₁.setTop (mkF m 62 #[.val (.int i0), .val (.int i1), .val (.int i2), .val (.int i3), .val (.long (1048576 : Int64)), .second, .val (.int k), .val (.int (Int32.ofNat t.1)), .val (.int n), .val (.int ((i2 &&& (2147483647 : Int32)) % (((2147483647 : Int32) - n) + (1 : Int32)))), .val (.int x), .val (.int j), .unset, .unset, .unset, .unset, .unset, .unset, .unset, .unset, .unset] [(.double (FP.l2d (1048576 : Int64))), (.double (FP.i2d k))]))
  refine Dn.of (fun tt_ zz_ => XS.ddivS X0.here hx rfl (v := (FP.ddiv (FP.i2d k) (FP.l2d (1048576 : Int64)))) (hb hby at_62) rfl sk.noNaN rfl zz_) ?_
  show Dn p e below s (own_Q n0) 16 128 (s₁.setTop (mkF m 63 #[.val (.int i0), .val (.int i1), .val (.int i2), .val (.int i3), .val (.long (1048576 : Int64)), .second, .val (.int k), .val (.int (Int32.ofNat t.1)), .val (.int n), .val (.int ((i2 &&& (2147483647 : Int32)) % (((2147483647 : Int32) - n) + (1 : Int32)))), .val (.int x), .val (.int j), .unset, .unset, .unset, .unset, .unset, .unset, .unset, .unset, .unset] [(.double (FP.ddiv (FP.i2d k) (FP.l2d (1048576 : Int64))))]))
  refine Dn.of (fun tt_ zz_ => XS.dstore X0.here hx rfl (hb hby at_63) rfl (l' := #[.val (.int i0), .val (.int i1), .val (.int i2), .val (.int i3), .val (.long (1048576 : Int64)), .second, .val (.int k), .val (.int (Int32.ofNat t.1)), .val (.int n), .val (.int ((i2 &&& (2147483647 : Int32)) % (((2147483647 : Int32) - n) + (1 : Int32)))), .val (.int x), .val (.int j), .val (.double (FP.ddiv (FP.i2d k) (FP.l2d (1048576 : Int64)))), .second, .unset, .unset, .unset, .unset, .unset, .unset, .unset]) rfl zz_) ?_
  show Dn p e below s (own_Q n0) 16 128 (s₁.setTop (mkF m 65 #[.val (.int i0), .val (.int i1), .val (.int i2), .val (.int i3), .val (.long (1048576 : Int64)), .second, .val (.int k), .val (.int (Int32.ofNat t.1)), .val (.int n), .val (.int ((i2 &&& (2147483647 : Int32)) % (((2147483647 : Int32) - n) + (1 : Int32)))), .val (.int x), .val (.int j), .val (.double (FP.ddiv (FP.i2d k) (FP.l2d (1048576 : Int64)))), .second, .unset, .unset, .unset, .unset, .unset, .unset, .unset] []))
  generalize (FP.ddiv (FP.i2d k) (FP.l2d (1048576 : Int64))) = ms at *
  show Dn p e below s (own_Q n0) 16 128 (s₁.setTop (mkF m 65 #[.val (.int i0), .val (.int i1), .val (.int i2), .val (.int i3), .val (.long (1048576 : Int64)), .second, .val (.int k), .val (.int (Int32.ofNat t.1)), .val (.int n), .val (.int ((i2 &&& (2147483647 : Int32)) % (((2147483647 : Int32) - n) + (1 : Int32)))), .val (.int x), .val (.int j), .val (.double ms), .second, .unset, .unset, .unset, .unset, .unset, .unset, .unset] []))
  obtain ⟨T12, h12, X12, e12, E12, A12, D12, U12, st12⟩ := newO X0 hx hZ hown (hw _ (List.mem_of_getElem? (i := 3) rfl)) (hw _ (List.mem_of_getElem? (i := 4) rfl)) (hw _ (List.mem_of_getElem? (i := 5) rfl)) e0 (g := (mkF m 65 #[.val (.int i0), .val (.int i1), .val (.int i2), .val (.int i3), .val (.long (1048576 : Int64)), .second, .val (.int k), .val (.int (Int32.ofNat t.1)), .val (.int n), .val (.int ((i2 &&& (2147483647 : Int32)) % (((2147483647 : Int32) - n) + (1 : Int32)))), .val (.int x), .val (.int j), .val (.double ms), .second, .unset, .unset, .unset, .unset, .unset, .unset, .unset] [])) rfl (hb hby at_65) (by decide) (by decide)
  obtain ⟨b12, g12⟩ : ∃ z, z = h0.size := ⟨_, rfl⟩
  rw [← g12] at A12 D12 U12 st12
  refine Dn.of st12 ?_
  show Dn p e below s (own_Q n0) 16 128 (T12.setTop (mkF m 68 #[.val (.int i0), .val (.int i1), .val (.int i2), .val (.int i3), .val (.long (1048576 : Int64)), .second, .val (.int k), .val (.int (Int32.ofNat t.1)), .val (.int n), .val (.int ((i2 &&& (2147483647 : Int32)) % (((2147483647 : Int32) - n) + (1 : Int32)))), .val (.int x), .val (.int j), .val (.double ms), .second, .unset, .unset, .unset, .unset, .unset, .unset, .unset] [(.ref b12)]))
  have F_minScale_12 : Fld Z h12 b12 "com/example/warmfront/warmfront/api/ThresholdScale" "minScale" "D" (.double (0 : UInt64)) := D12 (Or.inr (hw _ (List.mem_of_getElem? (i := 18) rfl))) (ty := .double) (by decide)
  have F_minNormalLoad_12 : Fld Z h12 b12 "com/example/warmfront/warmfront/api/ThresholdScale" "minNormalLoad" "I" (.int (0 : Int32)) := D12 (Or.inr (hw _ (List.mem_of_getElem? (i := 20) rfl))) (ty := .int) (by decide)
  have F_maxNormalLoad_12 : Fld Z h12 b12 "com/example/warmfront/warmfront/api/ThresholdScale" "maxNormalLoad" "I" (.int (0 : Int32)) := D12 (Or.inr (hw _ (List.mem_of_getElem? (i := 22) rfl))) (ty := .int) (by decide)
  have Z1 : n0 ≤ h12.size := Nat.le_trans Z0 E12.1
  have gb : n0 ≤ b12 := g12 ▸ Z0
  refine Dn.of (fun tt_ zz_ => XS.dup X12.here hx rfl (hb hby at_68) rfl rfl zz_) ?_
  show Dn p e below s (own_Q n0) 16 128 (T12.setTop (mkF m 69 #[.val (.int i0), .val (.int i1), .val (.int i2), .val (.int i3), .val (.long (1048576 : Int64)), .second, .val (.int k), .val (.int (Int32.ofNat t.1)), .val (.int n), .val (.int ((i2 &&& (2147483647 : Int32)) % (((2147483647 : Int32) - n) + (1 : Int32)))), .val (.int x), .val (.int j), .val (.double ms), .second, .unset, .unset, .unset, .unset, .unset, .unset, .unset] [(.ref b12), (.ref b12)]))
  refine Dn.of (fun tt_ zz_ => XS.dload X12.here hx rfl (hb hby at_69) rfl zz_) ?_
  show Dn p e below s (own_Q n0) 16 128 (T12.setTop (mkF m 71 #[.val (.int i0), .val (.int i1), .val (.int i2), .val (.int i3), .val (.long (1048576 : Int64)), .second, .val (.int k), .val (.int (Int32.ofNat t.1)), .val (.int n), .val (.int ((i2 &&& (2147483647 : Int32)) % (((2147483647 : Int32) - n) + (1 : Int32)))), .val (.int x), .val (.int j), .val (.double ms), .second, .unset, .unset, .unset, .unset, .unset, .unset, .unset] [(.double ms), (.ref b12), (.ref b12)]))
  refine Dn.of (fun tt_ zz_ => XS.iload X12.here hx rfl (hb hby at_71) rfl zz_) ?_
  show Dn p e below s (own_Q n0) 16 128 (T12.setTop (mkF m 73 #[.val (.int i0), .val (.int i1), .val (.int i2), .val (.int i3), .val (.long (1048576 : Int64)), .second, .val (.int k), .val (.int (Int32.ofNat t.1)), .val (.int n), .val (.int ((i2 &&& (2147483647 : Int32)) % (((2147483647 : Int32) - n) + (1 : Int32)))), .val (.int x), .val (.int j), .val (.double ms), .second, .unset, .unset, .unset, .unset, .unset, .unset, .unset] [(.int n), (.double ms), (.ref b12), (.ref b12)]))
  refine Dn.of (fun tt_ zz_ => XS.iload X12.here hx rfl (hb hby at_73) rfl zz_) ?_
  show Dn p e below s (own_Q n0) 16 128 (T12.setTop (mkF m 75 #[.val (.int i0), .val (.int i1), .val (.int i2), .val (.int i3), .val (.long (1048576 : Int64)), .second, .val (.int k), .val (.int (Int32.ofNat t.1)), .val (.int n), .val (.int ((i2 &&& (2147483647 : Int32)) % (((2147483647 : Int32) - n) + (1 : Int32)))), .val (.int x), .val (.int j), .val (.double ms), .second, .unset, .unset, .unset, .unset, .unset, .unset, .unset] [(.int x), (.int n), (.double ms), (.ref b12), (.ref b12)]))
  have d1 : ¬ n < 1 := by rw [Int32.lt_iff_toInt_lt, show (1 : Int32).toInt = 1 by decide]; omega
  have d2 : ¬ x < n := by rw [Int32.lt_iff_toInt_lt]; omega
  obtain ⟨v13, T13, L13, Q13, X13, st13⟩ := cIn X12 hx hZ (y := (⟨"com/example/warmfront/warmfront/api/ThresholdScale", "<init>", "(DII)V"⟩ : MethodName)) rfl hown (hw _ (List.mem_of_getElem? (i := 6) rfl)) (hw _ (List.mem_of_getElem? (i := 7) rfl)) (hw _ (List.mem_of_getElem? (i := 5) rfl)) (hw _ (List.mem_of_getElem? (i := 8) rfl)) (by decide) (a := b12) (argsL := [(.double ms), (.int n), (.int x)]) (rest := [(.ref b12)]) (rmI l Z a0 hw h12 n0 Z1 b12 ms n x k.toInt A12 F_minScale_12 F_minNormalLoad_12 F_maxNormalLoad_12 gb sk hk d1 d2) e12  1 (by decide) (by decide) (by decide) (by decide) (g := (mkF m 75 #[.val (.int i0), .val (.int i1), .val (.int i2), .val (.int i3), .val (.long (1048576 : Int64)), .second, .val (.int k), .val (.int (Int32.ofNat t.1)), .val (.int n), .val (.int ((i2 &&& (2147483647 : Int32)) % (((2147483647 : Int32) - n) + (1 : Int32)))), .val (.int x), .val (.int j), .val (.double ms), .second, .unset, .unset, .unset, .unset, .unset, .unset, .unset] [(.int x), (.int n), (.double ms), (.ref b12), (.ref b12)])) rfl (by rw [hml]; rfl) (lenOf pd1 rfl) rfl (by show 2 * 0 + _ ≤ _; exact Nat.le_of_eq rfl) (hb hby at_75)
  obtain ⟨rfl, M1, K1, G0, G1, G2⟩ := Q13
  refine Dn.of st13 ?_
  show Dn p e below s (own_Q n0) 16 128 (T13.setTop (mkF m 78 #[.val (.int i0), .val (.int i1), .val (.int i2), .val (.int i3), .val (.long (1048576 : Int64)), .second, .val (.int k), .val (.int (Int32.ofNat t.1)), .val (.int n), .val (.int ((i2 &&& (2147483647 : Int32)) % (((2147483647 : Int32) - n) + (1 : Int32)))), .val (.int x), .val (.int j), .val (.double ms), .second, .unset, .unset, .unset, .unset, .unset, .unset, .unset] [(.ref b12)]))
  refine Dn.of (fun tt_ zz_ => XS.astore X13.here hx rfl (hb hby at_78) rfl rfl (l' := #[.val (.int i0), .val (.int i1), .val (.int i2), .val (.int i3), .val (.long (1048576 : Int64)), .second, .val (.int k), .val (.int (Int32.ofNat t.1)), .val (.int n), .val (.int ((i2 &&& (2147483647 : Int32)) % (((2147483647 : Int32) - n) + (1 : Int32)))), .val (.int x), .val (.int j), .val (.double ms), .second, .val (.ref b12), .unset, .unset, .unset, .unset, .unset, .unset]) rfl zz_) ?_
  show Dn p e below s (own_Q n0) 16 128 (T13.setTop (mkF m 80 #[.val (.int i0), .val (.int i1), .val (.int i2), .val (.int i3), .val (.long (1048576 : Int64)), .second, .val (.int k), .val (.int (Int32.ofNat t.1)), .val (.int n), .val (.int ((i2 &&& (2147483647 : Int32)) % (((2147483647 : Int32) - n) + (1 : Int32)))), .val (.int x), .val (.int j), .val (.double ms), .second, .val (.ref b12), .unset, .unset, .unset, .unset, .unset, .unset] []))
  refine Dn.of (fun tt_ zz_ => XS.aload X13.here hx rfl (hb hby at_80) rfl rfl zz_) ?_
  show Dn p e below s (own_Q n0) 16 128 (T13.setTop (mkF m 82 #[.val (.int i0), .val (.int i1), .val (.int i2), .val (.int i3), .val (.long (1048576 : Int64)), .second, .val (.int k), .val (.int (Int32.ofNat t.1)), .val (.int n), .val (.int ((i2 &&& (2147483647 : Int32)) % (((2147483647 : Int32) - n) + (1 : Int32)))), .val (.int x), .val (.int j), .val (.double ms), .second, .val (.ref b12), .unset, .unset, .unset, .unset, .unset, .unset] [(.ref b12)]))
  refine Dn.of (fun tt_ zz_ => XS.iload X13.here hx rfl (hb hby at_82) rfl zz_) ?_
  show Dn p e below s (own_Q n0) 16 128 (T13.setTop (mkF m 84 #[.val (.int i0), .val (.int i1), .val (.int i2), .val (.int i3), .val (.long (1048576 : Int64)), .second, .val (.int k), .val (.int (Int32.ofNat t.1)), .val (.int n), .val (.int ((i2 &&& (2147483647 : Int32)) % (((2147483647 : Int32) - n) + (1 : Int32)))), .val (.int x), .val (.int j), .val (.double ms), .second, .val (.ref b12), .unset, .unset, .unset, .unset, .unset, .unset] [(.int j), (.ref b12)]))
  refine Dn.of (fun tt_ zz_ => XS.i2dS X13.here hx rfl (v := FP.i2d j) (hb hby at_84) rfl rfl zz_) ?_
  show Dn p e below s (own_Q n0) 16 128 (T13.setTop (mkF m 85 #[.val (.int i0), .val (.int i1), .val (.int i2), .val (.int i3), .val (.long (1048576 : Int64)), .second, .val (.int k), .val (.int (Int32.ofNat t.1)), .val (.int n), .val (.int ((i2 &&& (2147483647 : Int32)) % (((2147483647 : Int32) - n) + (1 : Int32)))), .val (.int x), .val (.int j), .val (.double ms), .second, .val (.ref b12), .unset, .unset, .unset, .unset, .unset, .unset] [(.double (FP.i2d j)), (.ref b12)]))
  obtain ⟨v14, T14, L14, Q14, X14, st14⟩ := cVi X13 hx hZ (C := "com/example/warmfront/warmfront/api/ThresholdScale") (y := (⟨"com/example/warmfront/warmfront/api/ThresholdScale", "at", "(D)D"⟩ : MethodName)) (z := (⟨"com/example/warmfront/warmfront/api/ThresholdScale", "at", "(D)D"⟩ : MethodName)) hown (hw _ (List.mem_of_getElem? (i := 23) rfl)) (hw _ (List.mem_of_getElem? (i := 24) rfl)) (notFace_of_selects (args := #[]) (mvT hZ (hw _ (List.mem_of_getElem? (i := 26) rfl)))) (hw _ (List.mem_of_getElem? (i := 26) rfl)) (hw _ (List.mem_of_getElem? (i := 25) rfl)) (hw _ (List.mem_of_getElem? (i := 5) rfl)) (hw _ (List.mem_of_getElem? (i := 27) rfl)) (by decide) (a := b12) (argsL := [(.double (FP.i2d j))]) (rest := []) (rmA l Z a0 hw T13.heap n0 (Nat.le_trans Z1 K1.1) b12 ms (FP.i2d j) n x k.toInt j.toInt t.1 G0 G1 G2 sk hk (Sc.of_int (Core.i2d_int j)) hj ht' hn (by omega)) rfl (A12.keep K1) 0 (by decide) (by decide) (by decide) (by decide) (g := (mkF m 85 #[.val (.int i0), .val (.int i1), .val (.int i2), .val (.int i3), .val (.long (1048576 : Int64)), .second, .val (.int k), .val (.int (Int32.ofNat t.1)), .val (.int n), .val (.int ((i2 &&& (2147483647 : Int32)) % (((2147483647 : Int32) - n) + (1 : Int32)))), .val (.int x), .val (.int j), .val (.double ms), .second, .val (.ref b12), .unset, .unset, .unset, .unset, .unset, .unset] [(.double (FP.i2d j)), (.ref b12)])) rfl (by rw [hml]; rfl) (lenOf pd2 rfl) rfl (by show 2 * 0 + _ ≤ _; exact Nat.le_of_eq rfl) (hb hby at_85)
  obtain ⟨y, rfl, sy, M2, e14⟩ := Q14
  refine Dn.of st14 ?_
  show Dn p e below s (own_Q n0) 16 128 (T14.setTop (mkF m 88 #[.val (.int i0), .val (.int i1), .val (.int i2), .val (.int i3), .val (.long (1048576 : Int64)), .second, .val (.int k), .val (.int (Int32.ofNat t.1)), .val (.int n), .val (.int ((i2 &&& (2147483647 : Int32)) % (((2147483647 : Int32) - n) + (1 : Int32)))), .val (.int x), .val (.int j), .val (.double ms), .second, .val (.ref b12), .unset, .unset, .unset, .unset, .unset, .unset] [(.double y)]))
  refine Dn.of (fun tt_ zz_ => XS.dstore X14.here hx rfl (hb hby at_88) rfl (l' := #[.val (.int i0), .val (.int i1), .val (.int i2), .val (.int i3), .val (.long (1048576 : Int64)), .second, .val (.int k), .val (.int (Int32.ofNat t.1)), .val (.int n), .val (.int ((i2 &&& (2147483647 : Int32)) % (((2147483647 : Int32) - n) + (1 : Int32)))), .val (.int x), .val (.int j), .val (.double ms), .second, .val (.ref b12), .val (.double y), .second, .unset, .unset, .unset, .unset]) rfl zz_) ?_
  show Dn p e below s (own_Q n0) 16 128 (T14.setTop (mkF m 90 #[.val (.int i0), .val (.int i1), .val (.int i2), .val (.int i3), .val (.long (1048576 : Int64)), .second, .val (.int k), .val (.int (Int32.ofNat t.1)), .val (.int n), .val (.int ((i2 &&& (2147483647 : Int32)) % (((2147483647 : Int32) - n) + (1 : Int32)))), .val (.int x), .val (.int j), .val (.double ms), .second, .val (.ref b12), .val (.double y), .second, .unset, .unset, .unset, .unset] []))
  refine Dn.of (fun tt_ zz_ => XS.lconst X14.here hx rfl (hb hby at_90) zz_) ?_
  show Dn p e below s (own_Q n0) 16 128 (T14.setTop (mkF m 91 #[.val (.int i0), .val (.int i1), .val (.int i2), .val (.int i3), .val (.long (1048576 : Int64)), .second, .val (.int k), .val (.int (Int32.ofNat t.1)), .val (.int n), .val (.int ((i2 &&& (2147483647 : Int32)) % (((2147483647 : Int32) - n) + (1 : Int32)))), .val (.int x), .val (.int j), .val (.double ms), .second, .val (.ref b12), .val (.double y), .second, .unset, .unset, .unset, .unset] [(.long (1 : Int64))]))
  refine Dn.of (fun tt_ zz_ => XS.iload X14.here hx rfl (hb hby at_91) rfl zz_) ?_
  show Dn p e below s (own_Q n0) 16 128 (T14.setTop (mkF m 93 #[.val (.int i0), .val (.int i1), .val (.int i2), .val (.int i3), .val (.long (1048576 : Int64)), .second, .val (.int k), .val (.int (Int32.ofNat t.1)), .val (.int n), .val (.int ((i2 &&& (2147483647 : Int32)) % (((2147483647 : Int32) - n) + (1 : Int32)))), .val (.int x), .val (.int j), .val (.double ms), .second, .val (.ref b12), .val (.double y), .second, .unset, .unset, .unset, .unset] [(.int (Int32.ofNat t.1)), (.long (1 : Int64))]))
  refine Dn.of (fun tt_ zz_ => XS.bipush X14.here hx rfl (hb hby at_93) zz_) ?_
  show Dn p e below s (own_Q n0) 16 128 (T14.setTop (mkF m 95 #[.val (.int i0), .val (.int i1), .val (.int i2), .val (.int i3), .val (.long (1048576 : Int64)), .second, .val (.int k), .val (.int (Int32.ofNat t.1)), .val (.int n), .val (.int ((i2 &&& (2147483647 : Int32)) % (((2147483647 : Int32) - n) + (1 : Int32)))), .val (.int x), .val (.int j), .val (.double ms), .second, .val (.ref b12), .val (.double y), .second, .unset, .unset, .unset, .unset] [(.int (20 : Int32)), (.int (Int32.ofNat t.1)), (.long (1 : Int64))]))
  refine Dn.of (fun tt_ zz_ => XS.iadd X14.here hx rfl (hb hby at_95) rfl zz_) ?_
  show Dn p e below s (own_Q n0) 16 128 (T14.setTop (mkF m 96 #[.val (.int i0), .val (.int i1), .val (.int i2), .val (.int i3), .val (.long (1048576 : Int64)), .second, .val (.int k), .val (.int (Int32.ofNat t.1)), .val (.int n), .val (.int ((i2 &&& (2147483647 : Int32)) % (((2147483647 : Int32) - n) + (1 : Int32)))), .val (.int x), .val (.int j), .val (.double ms), .second, .val (.ref b12), .val (.double y), .second, .unset, .unset, .unset, .unset] [(.int ((Int32.ofNat t.1) + (20 : Int32))), (.long (1 : Int64))]))
  refine Dn.of (fun tt_ zz_ => XS.lshl X14.here hx rfl (hb hby at_96) rfl zz_) ?_
  show Dn p e below s (own_Q n0) 16 128 (T14.setTop (mkF m 97 #[.val (.int i0), .val (.int i1), .val (.int i2), .val (.int i3), .val (.long (1048576 : Int64)), .second, .val (.int k), .val (.int (Int32.ofNat t.1)), .val (.int n), .val (.int ((i2 &&& (2147483647 : Int32)) % (((2147483647 : Int32) - n) + (1 : Int32)))), .val (.int x), .val (.int j), .val (.double ms), .second, .val (.ref b12), .val (.double y), .second, .unset, .unset, .unset, .unset] [(.long ((1 : Int64) <<< (((Int32.ofNat t.1) + (20 : Int32)) &&& 0x3f).toInt64))]))
  refine Dn.of (fun tt_ zz_ => XS.lstore X14.here hx rfl (hb hby at_97) rfl (l' := #[.val (.int i0), .val (.int i1), .val (.int i2), .val (.int i3), .val (.long (1048576 : Int64)), .second, .val (.int k), .val (.int (Int32.ofNat t.1)), .val (.int n), .val (.int ((i2 &&& (2147483647 : Int32)) % (((2147483647 : Int32) - n) + (1 : Int32)))), .val (.int x), .val (.int j), .val (.double ms), .second, .val (.ref b12), .val (.double y), .second, .val (.long ((1 : Int64) <<< (((Int32.ofNat t.1) + (20 : Int32)) &&& 0x3f).toInt64)), .second, .unset, .unset]) rfl zz_) ?_
  show Dn p e below s (own_Q n0) 16 128 (T14.setTop (mkF m 99 #[.val (.int i0), .val (.int i1), .val (.int i2), .val (.int i3), .val (.long (1048576 : Int64)), .second, .val (.int k), .val (.int (Int32.ofNat t.1)), .val (.int n), .val (.int ((i2 &&& (2147483647 : Int32)) % (((2147483647 : Int32) - n) + (1 : Int32)))), .val (.int x), .val (.int j), .val (.double ms), .second, .val (.ref b12), .val (.double y), .second, .val (.long ((1 : Int64) <<< (((Int32.ofNat t.1) + (20 : Int32)) &&& 0x3f).toInt64)), .second, .unset, .unset] []))
  have KE : ∀ nu : Int64, nu.toInt = own_num k.toInt j.toInt x.toInt t.1 → Dn p e below s (own_Q n0) 16 128 (T14.setTop (mkF m 162 #[.val (.int i0), .val (.int i1), .val (.int i2), .val (.int i3), .val (.long (1048576 : Int64)), .second, .val (.int k), .val (.int (Int32.ofNat t.1)), .val (.int n), .val (.int ((i2 &&& (2147483647 : Int32)) % (((2147483647 : Int32) - n) + (1 : Int32)))), .val (.int x), .val (.int j), .val (.double ms), .second, .val (.ref b12), .val (.double y), .second, .val (.long ((1 : Int64) <<< (((Int32.ofNat t.1) + (20 : Int32)) &&& 0x3f).toInt64)), .second, .val (.long nu), .second] [])) := by
    intro nu hnu
    have sq := own_q hnu (own_num_b hk hj (by omega) ht') t
    refine Dn.of (fun tt_ zz_ => XS.dload X14.here hx rfl (hb hby at_162) rfl zz_) ?_
    show Dn p e below s (own_Q n0) 16 128 (T14.setTop (mkF m 164 #[.val (.int i0), .val (.int i1), .val (.int i2), .val (.int i3), .val (.long (1048576 : Int64)), .second, .val (.int k), .val (.int (Int32.ofNat t.1)), .val (.int n), .val (.int ((i2 &&& (2147483647 : Int32)) % (((2147483647 : Int32) - n) + (1 : Int32)))), .val (.int x), .val (.int j), .val (.double ms), .second, .val (.ref b12), .val (.double y), .second, .val (.long ((1 : Int64) <<< (((Int32.ofNat t.1) + (20 : Int32)) &&& 0x3f).toInt64)), .second, .val (.long nu), .second] [(.double y)]))
    refine Dn.of (fun tt_ zz_ => XS.lload X14.here hx rfl (hb hby at_164) rfl zz_) ?_
    show Dn p e below s (own_Q n0) 16 128 (T14.setTop (mkF m 166 #[.val (.int i0), .val (.int i1), .val (.int i2), .val (.int i3), .val (.long (1048576 : Int64)), .second, .val (.int k), .val (.int (Int32.ofNat t.1)), .val (.int n), .val (.int ((i2 &&& (2147483647 : Int32)) % (((2147483647 : Int32) - n) + (1 : Int32)))), .val (.int x), .val (.int j), .val (.double ms), .second, .val (.ref b12), .val (.double y), .second, .val (.long ((1 : Int64) <<< (((Int32.ofNat t.1) + (20 : Int32)) &&& 0x3f).toInt64)), .second, .val (.long nu), .second] [(.long nu), (.double y)]))
    refine Dn.of (fun tt_ zz_ => XS.l2dS X14.here hx rfl (v := FP.l2d nu) (hb hby at_166) rfl rfl zz_) ?_
    show Dn p e below s (own_Q n0) 16 128 (T14.setTop (mkF m 167 #[.val (.int i0), .val (.int i1), .val (.int i2), .val (.int i3), .val (.long (1048576 : Int64)), .second, .val (.int k), .val (.int (Int32.ofNat t.1)), .val (.int n), .val (.int ((i2 &&& (2147483647 : Int32)) % (((2147483647 : Int32) - n) + (1 : Int32)))), .val (.int x), .val (.int j), .val (.double ms), .second, .val (.ref b12), .val (.double y), .second, .val (.long ((1 : Int64) <<< (((Int32.ofNat t.1) + (20 : Int32)) &&& 0x3f).toInt64)), .second, .val (.long nu), .second] [(.double (FP.l2d nu)), (.double y)]))
    refine Dn.of (fun tt_ zz_ => XS.lload X14.here hx rfl (hb hby at_167) rfl zz_) ?_
    show Dn p e below s (own_Q n0) 16 128 (T14.setTop (mkF m 169 #[.val (.int i0), .val (.int i1), .val (.int i2), .val (.int i3), .val (.long (1048576 : Int64)), .second, .val (.int k), .val (.int (Int32.ofNat t.1)), .val (.int n), .val (.int ((i2 &&& (2147483647 : Int32)) % (((2147483647 : Int32) - n) + (1 : Int32)))), .val (.int x), .val (.int j), .val (.double ms), .second, .val (.ref b12), .val (.double y), .second, .val (.long ((1 : Int64) <<< (((Int32.ofNat t.1) + (20 : Int32)) &&& 0x3f).toInt64)), .second, .val (.long nu), .second] [(.long ((1 : Int64) <<< (((Int32.ofNat t.1) + (20 : Int32)) &&& 0x3f).toInt64)), (.double (FP.l2d nu)), (.double y)]))
    refine Dn.of (fun tt_ zz_ => XS.l2dS X14.here hx rfl (v := FP.l2d ((1 : Int64) <<< (((Int32.ofNat t.1) + (20 : Int32)) &&& 0x3f).toInt64)) (hb hby at_169) rfl rfl zz_) ?_
    show Dn p e below s (own_Q n0) 16 128 (T14.setTop (mkF m 170 #[.val (.int i0), .val (.int i1), .val (.int i2), .val (.int i3), .val (.long (1048576 : Int64)), .second, .val (.int k), .val (.int (Int32.ofNat t.1)), .val (.int n), .val (.int ((i2 &&& (2147483647 : Int32)) % (((2147483647 : Int32) - n) + (1 : Int32)))), .val (.int x), .val (.int j), .val (.double ms), .second, .val (.ref b12), .val (.double y), .second, .val (.long ((1 : Int64) <<< (((Int32.ofNat t.1) + (20 : Int32)) &&& 0x3f).toInt64)), .second, .val (.long nu), .second] [(.double (FP.l2d ((1 : Int64) <<< (((Int32.ofNat t.1) + (20 : Int32)) &&& 0x3f).toInt64))), (.double (FP.l2d nu)), (.double y)]))
    refine Dn.of (fun tt_ zz_ => XS.ddivS X14.here hx rfl (v := (FP.ddiv (FP.l2d nu) (FP.l2d ((1 : Int64) <<< (((Int32.ofNat t.1) + (20 : Int32)) &&& 0x3f).toInt64)))) (hb hby at_170) rfl sq.noNaN rfl zz_) ?_
    show Dn p e below s (own_Q n0) 16 128 (T14.setTop (mkF m 171 #[.val (.int i0), .val (.int i1), .val (.int i2), .val (.int i3), .val (.long (1048576 : Int64)), .second, .val (.int k), .val (.int (Int32.ofNat t.1)), .val (.int n), .val (.int ((i2 &&& (2147483647 : Int32)) % (((2147483647 : Int32) - n) + (1 : Int32)))), .val (.int x), .val (.int j), .val (.double ms), .second, .val (.ref b12), .val (.double y), .second, .val (.long ((1 : Int64) <<< (((Int32.ofNat t.1) + (20 : Int32)) &&& 0x3f).toInt64)), .second, .val (.long nu), .second] [(.double (FP.ddiv (FP.l2d nu) (FP.l2d ((1 : Int64) <<< (((Int32.ofNat t.1) + (20 : Int32)) &&& 0x3f).toInt64)))), (.double y)]))
    refine Dn.of (fun tt_ zz_ => XS.dcmpS X14.here hx rfl (v := (cmpValue (FP.dcmp y (FP.ddiv (FP.l2d nu) (FP.l2d ((1 : Int64) <<< (((Int32.ofNat t.1) + (20 : Int32)) &&& 0x3f).toInt64)))) .l)) (hb hby at_171) rfl rfl zz_) ?_
    show Dn p e below s (own_Q n0) 16 128 (T14.setTop (mkF m 172 #[.val (.int i0), .val (.int i1), .val (.int i2), .val (.int i3), .val (.long (1048576 : Int64)), .second, .val (.int k), .val (.int (Int32.ofNat t.1)), .val (.int n), .val (.int ((i2 &&& (2147483647 : Int32)) % (((2147483647 : Int32) - n) + (1 : Int32)))), .val (.int x), .val (.int j), .val (.double ms), .second, .val (.ref b12), .val (.double y), .second, .val (.long ((1 : Int64) <<< (((Int32.ofNat t.1) + (20 : Int32)) &&& 0x3f).toInt64)), .second, .val (.long nu), .second] [(.int (cmpValue (FP.dcmp y (FP.ddiv (FP.l2d nu) (FP.l2d ((1 : Int64) <<< (((Int32.ofNat t.1) + (20 : Int32)) &&& 0x3f).toInt64)))) .l))]))
    refine Dn.of (fun tt_ zz_ => XS.ifNo X14.here hx rfl (hb hby at_172) rfl ((if0 _ _).trans (teq (own_same sy sq)).2) zz_) ?_
    show Dn p e below s (own_Q n0) 16 128 (T14.setTop (mkF m 175 #[.val (.int i0), .val (.int i1), .val (.int i2), .val (.int i3), .val (.long (1048576 : Int64)), .second, .val (.int k), .val (.int (Int32.ofNat t.1)), .val (.int n), .val (.int ((i2 &&& (2147483647 : Int32)) % (((2147483647 : Int32) - n) + (1 : Int32)))), .val (.int x), .val (.int j), .val (.double ms), .second, .val (.ref b12), .val (.double y), .second, .val (.long ((1 : Int64) <<< (((Int32.ofNat t.1) + (20 : Int32)) &&& 0x3f).toInt64)), .second, .val (.long nu), .second] []))
    refine Dn.of (fun tt_ zz_ => XS.iconst X14.here hx rfl (hb hby at_175) zz_) ?_
    show Dn p e below s (own_Q n0) 16 128 (T14.setTop (mkF m 176 #[.val (.int i0), .val (.int i1), .val (.int i2), .val (.int i3), .val (.long (1048576 : Int64)), .second, .val (.int k), .val (.int (Int32.ofNat t.1)), .val (.int n), .val (.int ((i2 &&& (2147483647 : Int32)) % (((2147483647 : Int32) - n) + (1 : Int32)))), .val (.int x), .val (.int j), .val (.double ms), .second, .val (.ref b12), .val (.double y), .second, .val (.long ((1 : Int64) <<< (((Int32.ofNat t.1) + (20 : Int32)) &&& 0x3f).toInt64)), .second, .val (.long nu), .second] [(.int (1 : Int32))]))
    refine Dn.of (fun tt_ zz_ => XS.goto X14.here hx rfl (pc0 := 176) (pc' := 180) rfl (hb hby at_176) (by decide) (by decide) zz_) ?_
    show Dn p e below s (own_Q n0) 16 128 (T14.setTop (mkF m 180 #[.val (.int i0), .val (.int i1), .val (.int i2), .val (.int i3), .val (.long (1048576 : Int64)), .second, .val (.int k), .val (.int (Int32.ofNat t.1)), .val (.int n), .val (.int ((i2 &&& (2147483647 : Int32)) % (((2147483647 : Int32) - n) + (1 : Int32)))), .val (.int x), .val (.int j), .val (.double ms), .second, .val (.ref b12), .val (.double y), .second, .val (.long ((1 : Int64) <<< (((Int32.ofNat t.1) + (20 : Int32)) &&& 0x3f).toInt64)), .second, .val (.long nu), .second] [(.int (1 : Int32))]))
    exact Dn.retN X14 hx hlk (t := .boolean) hret (by simp) (hb hby at_180) (by decide) (by decide) (⟨rfl, Fr.app (Fr.app N0 M1) M2⟩)
  refine Dn.of (fun tt_ zz_ => XS.iload X14.here hx rfl (hb hby at_99) rfl zz_) ?_
  show Dn p e below s (own_Q n0) 16 128 (T14.setTop (mkF m 101 #[.val (.int i0), .val (.int i1), .val (.int i2), .val (.int i3), .val (.long (1048576 : Int64)), .second, .val (.int k), .val (.int (Int32.ofNat t.1)), .val (.int n), .val (.int ((i2 &&& (2147483647 : Int32)) % (((2147483647 : Int32) - n) + (1 : Int32)))), .val (.int x), .val (.int j), .val (.double ms), .second, .val (.ref b12), .val (.double y), .second, .val (.long ((1 : Int64) <<< (((Int32.ofNat t.1) + (20 : Int32)) &&& 0x3f).toInt64)), .second, .unset, .unset] [(.int j)]))
  refine Dn.of (fun tt_ zz_ => XS.iload X14.here hx rfl (hb hby at_101) rfl zz_) ?_
  show Dn p e below s (own_Q n0) 16 128 (T14.setTop (mkF m 103 #[.val (.int i0), .val (.int i1), .val (.int i2), .val (.int i3), .val (.long (1048576 : Int64)), .second, .val (.int k), .val (.int (Int32.ofNat t.1)), .val (.int n), .val (.int ((i2 &&& (2147483647 : Int32)) % (((2147483647 : Int32) - n) + (1 : Int32)))), .val (.int x), .val (.int j), .val (.double ms), .second, .val (.ref b12), .val (.double y), .second, .val (.long ((1 : Int64) <<< (((Int32.ofNat t.1) + (20 : Int32)) &&& 0x3f).toInt64)), .second, .unset, .unset] [(.int n), (.int j)]))
  by_cases h1 : j < n
  · skip
    refine Dn.of (fun tt_ zz_ => XS.icmpNo X14.here hx rfl (hb hby at_103) rfl (tlt h1).2.1 zz_) ?_
    show Dn p e below s (own_Q n0) 16 128 (T14.setTop (mkF m 106 #[.val (.int i0), .val (.int i1), .val (.int i2), .val (.int i3), .val (.long (1048576 : Int64)), .second, .val (.int k), .val (.int (Int32.ofNat t.1)), .val (.int n), .val (.int ((i2 &&& (2147483647 : Int32)) % (((2147483647 : Int32) - n) + (1 : Int32)))), .val (.int x), .val (.int j), .val (.double ms), .second, .val (.ref b12), .val (.double y), .second, .val (.long ((1 : Int64) <<< (((Int32.ofNat t.1) + (20 : Int32)) &&& 0x3f).toInt64)), .second, .unset, .unset] []))
    rw [Int32.lt_iff_toInt_lt, hn] at h1
    refine Dn.of (fun tt_ zz_ => XS.iload X14.here hx rfl (hb hby at_106) rfl zz_) ?_
    show Dn p e below s (own_Q n0) 16 128 (T14.setTop (mkF m 108 #[.val (.int i0), .val (.int i1), .val (.int i2), .val (.int i3), .val (.long (1048576 : Int64)), .second, .val (.int k), .val (.int (Int32.ofNat t.1)), .val (.int n), .val (.int ((i2 &&& (2147483647 : Int32)) % (((2147483647 : Int32) - n) + (1 : Int32)))), .val (.int x), .val (.int j), .val (.double ms), .second, .val (.ref b12), .val (.double y), .second, .val (.long ((1 : Int64) <<< (((Int32.ofNat t.1) + (20 : Int32)) &&& 0x3f).toInt64)), .second, .unset, .unset] [(.int k)]))
    refine Dn.of (fun tt_ zz_ => XS.i2l X14.here hx rfl (hb hby at_108) rfl zz_) ?_
    show Dn p e below s (own_Q n0) 16 128 (T14.setTop (mkF m 109 #[.val (.int i0), .val (.int i1), .val (.int i2), .val (.int i3), .val (.long (1048576 : Int64)), .second, .val (.int k), .val (.int (Int32.ofNat t.1)), .val (.int n), .val (.int ((i2 &&& (2147483647 : Int32)) % (((2147483647 : Int32) - n) + (1 : Int32)))), .val (.int x), .val (.int j), .val (.double ms), .second, .val (.ref b12), .val (.double y), .second, .val (.long ((1 : Int64) <<< (((Int32.ofNat t.1) + (20 : Int32)) &&& 0x3f).toInt64)), .second, .unset, .unset] [(.long (k.toInt64))]))
    refine Dn.of (fun tt_ zz_ => XS.iload X14.here hx rfl (hb hby at_109) rfl zz_) ?_
    show Dn p e below s (own_Q n0) 16 128 (T14.setTop (mkF m 111 #[.val (.int i0), .val (.int i1), .val (.int i2), .val (.int i3), .val (.long (1048576 : Int64)), .second, .val (.int k), .val (.int (Int32.ofNat t.1)), .val (.int n), .val (.int ((i2 &&& (2147483647 : Int32)) % (((2147483647 : Int32) - n) + (1 : Int32)))), .val (.int x), .val (.int j), .val (.double ms), .second, .val (.ref b12), .val (.double y), .second, .val (.long ((1 : Int64) <<< (((Int32.ofNat t.1) + (20 : Int32)) &&& 0x3f).toInt64)), .second, .unset, .unset] [(.int n), (.long (k.toInt64))]))
    refine Dn.of (fun tt_ zz_ => XS.i2l X14.here hx rfl (hb hby at_111) rfl zz_) ?_
    show Dn p e below s (own_Q n0) 16 128 (T14.setTop (mkF m 112 #[.val (.int i0), .val (.int i1), .val (.int i2), .val (.int i3), .val (.long (1048576 : Int64)), .second, .val (.int k), .val (.int (Int32.ofNat t.1)), .val (.int n), .val (.int ((i2 &&& (2147483647 : Int32)) % (((2147483647 : Int32) - n) + (1 : Int32)))), .val (.int x), .val (.int j), .val (.double ms), .second, .val (.ref b12), .val (.double y), .second, .val (.long ((1 : Int64) <<< (((Int32.ofNat t.1) + (20 : Int32)) &&& 0x3f).toInt64)), .second, .unset, .unset] [(.long (n.toInt64)), (.long (k.toInt64))]))
    refine Dn.of (fun tt_ zz_ => XS.lmul X14.here hx rfl (hb hby at_112) rfl zz_) ?_
    show Dn p e below s (own_Q n0) 16 128 (T14.setTop (mkF m 113 #[.val (.int i0), .val (.int i1), .val (.int i2), .val (.int i3), .val (.long (1048576 : Int64)), .second, .val (.int k), .val (.int (Int32.ofNat t.1)), .val (.int n), .val (.int ((i2 &&& (2147483647 : Int32)) % (((2147483647 : Int32) - n) + (1 : Int32)))), .val (.int x), .val (.int j), .val (.double ms), .second, .val (.ref b12), .val (.double y), .second, .val (.long ((1 : Int64) <<< (((Int32.ofNat t.1) + (20 : Int32)) &&& 0x3f).toInt64)), .second, .unset, .unset] [(.long ((k.toInt64) * (n.toInt64)))]))
    refine Dn.of (fun tt_ zz_ => XS.lload X14.here hx rfl (hb hby at_113) rfl zz_) ?_
    show Dn p e below s (own_Q n0) 16 128 (T14.setTop (mkF m 115 #[.val (.int i0), .val (.int i1), .val (.int i2), .val (.int i3), .val (.long (1048576 : Int64)), .second, .val (.int k), .val (.int (Int32.ofNat t.1)), .val (.int n), .val (.int ((i2 &&& (2147483647 : Int32)) % (((2147483647 : Int32) - n) + (1 : Int32)))), .val (.int x), .val (.int j), .val (.double ms), .second, .val (.ref b12), .val (.double y), .second, .val (.long ((1 : Int64) <<< (((Int32.ofNat t.1) + (20 : Int32)) &&& 0x3f).toInt64)), .second, .unset, .unset] [(.long (1048576 : Int64)), (.long ((k.toInt64) * (n.toInt64)))]))
    refine Dn.of (fun tt_ zz_ => XS.iload X14.here hx rfl (hb hby at_115) rfl zz_) ?_
    show Dn p e below s (own_Q n0) 16 128 (T14.setTop (mkF m 117 #[.val (.int i0), .val (.int i1), .val (.int i2), .val (.int i3), .val (.long (1048576 : Int64)), .second, .val (.int k), .val (.int (Int32.ofNat t.1)), .val (.int n), .val (.int ((i2 &&& (2147483647 : Int32)) % (((2147483647 : Int32) - n) + (1 : Int32)))), .val (.int x), .val (.int j), .val (.double ms), .second, .val (.ref b12), .val (.double y), .second, .val (.long ((1 : Int64) <<< (((Int32.ofNat t.1) + (20 : Int32)) &&& 0x3f).toInt64)), .second, .unset, .unset] [(.int k), (.long (1048576 : Int64)), (.long ((k.toInt64) * (n.toInt64)))]))
    refine Dn.of (fun tt_ zz_ => XS.i2l X14.here hx rfl (hb hby at_117) rfl zz_) ?_
    show Dn p e below s (own_Q n0) 16 128 (T14.setTop (mkF m 118 #[.val (.int i0), .val (.int i1), .val (.int i2), .val (.int i3), .val (.long (1048576 : Int64)), .second, .val (.int k), .val (.int (Int32.ofNat t.1)), .val (.int n), .val (.int ((i2 &&& (2147483647 : Int32)) % (((2147483647 : Int32) - n) + (1 : Int32)))), .val (.int x), .val (.int j), .val (.double ms), .second, .val (.ref b12), .val (.double y), .second, .val (.long ((1 : Int64) <<< (((Int32.ofNat t.1) + (20 : Int32)) &&& 0x3f).toInt64)), .second, .unset, .unset] [(.long (k.toInt64)), (.long (1048576 : Int64)), (.long ((k.toInt64) * (n.toInt64)))]))
    refine Dn.of (fun tt_ zz_ => XS.lsub X14.here hx rfl (hb hby at_118) rfl zz_) ?_
    show Dn p e below s (own_Q n0) 16 128 (T14.setTop (mkF m 119 #[.val (.int i0), .val (.int i1), .val (.int i2), .val (.int i3), .val (.long (1048576 : Int64)), .second, .val (.int k), .val (.int (Int32.ofNat t.1)), .val (.int n), .val (.int ((i2 &&& (2147483647 : Int32)) % (((2147483647 : Int32) - n) + (1 : Int32)))), .val (.int x), .val (.int j), .val (.double ms), .second, .val (.ref b12), .val (.double y), .second, .val (.long ((1 : Int64) <<< (((Int32.ofNat t.1) + (20 : Int32)) &&& 0x3f).toInt64)), .second, .unset, .unset] [(.long ((1048576 : Int64) - (k.toInt64))), (.long ((k.toInt64) * (n.toInt64)))]))
    refine Dn.of (fun tt_ zz_ => XS.iload X14.here hx rfl (hb hby at_119) rfl zz_) ?_
    show Dn p e below s (own_Q n0) 16 128 (T14.setTop (mkF m 121 #[.val (.int i0), .val (.int i1), .val (.int i2), .val (.int i3), .val (.long (1048576 : Int64)), .second, .val (.int k), .val (.int (Int32.ofNat t.1)), .val (.int n), .val (.int ((i2 &&& (2147483647 : Int32)) % (((2147483647 : Int32) - n) + (1 : Int32)))), .val (.int x), .val (.int j), .val (.double ms), .second, .val (.ref b12), .val (.double y), .second, .val (.long ((1 : Int64) <<< (((Int32.ofNat t.1) + (20 : Int32)) &&& 0x3f).toInt64)), .second, .unset, .unset] [(.int j), (.long ((1048576 : Int64) - (k.toInt64))), (.long ((k.toInt64) * (n.toInt64)))]))
    refine Dn.of (fun tt_ zz_ => XS.i2l X14.here hx rfl (hb hby at_121) rfl zz_) ?_
    show Dn p e below s (own_Q n0) 16 128 (T14.setTop (mkF m 122 #[.val (.int i0), .val (.int i1), .val (.int i2), .val (.int i3), .val (.long (1048576 : Int64)), .second, .val (.int k), .val (.int (Int32.ofNat t.1)), .val (.int n), .val (.int ((i2 &&& (2147483647 : Int32)) % (((2147483647 : Int32) - n) + (1 : Int32)))), .val (.int x), .val (.int j), .val (.double ms), .second, .val (.ref b12), .val (.double y), .second, .val (.long ((1 : Int64) <<< (((Int32.ofNat t.1) + (20 : Int32)) &&& 0x3f).toInt64)), .second, .unset, .unset] [(.long (j.toInt64)), (.long ((1048576 : Int64) - (k.toInt64))), (.long ((k.toInt64) * (n.toInt64)))]))
    refine Dn.of (fun tt_ zz_ => XS.lmul X14.here hx rfl (hb hby at_122) rfl zz_) ?_
    show Dn p e below s (own_Q n0) 16 128 (T14.setTop (mkF m 123 #[.val (.int i0), .val (.int i1), .val (.int i2), .val (.int i3), .val (.long (1048576 : Int64)), .second, .val (.int k), .val (.int (Int32.ofNat t.1)), .val (.int n), .val (.int ((i2 &&& (2147483647 : Int32)) % (((2147483647 : Int32) - n) + (1 : Int32)))), .val (.int x), .val (.int j), .val (.double ms), .second, .val (.ref b12), .val (.double y), .second, .val (.long ((1 : Int64) <<< (((Int32.ofNat t.1) + (20 : Int32)) &&& 0x3f).toInt64)), .second, .unset, .unset] [(.long (((1048576 : Int64) - (k.toInt64)) * (j.toInt64))), (.long ((k.toInt64) * (n.toInt64)))]))
    refine Dn.of (fun tt_ zz_ => XS.ladd X14.here hx rfl (hb hby at_123) rfl zz_) ?_
    show Dn p e below s (own_Q n0) 16 128 (T14.setTop (mkF m 124 #[.val (.int i0), .val (.int i1), .val (.int i2), .val (.int i3), .val (.long (1048576 : Int64)), .second, .val (.int k), .val (.int (Int32.ofNat t.1)), .val (.int n), .val (.int ((i2 &&& (2147483647 : Int32)) % (((2147483647 : Int32) - n) + (1 : Int32)))), .val (.int x), .val (.int j), .val (.double ms), .second, .val (.ref b12), .val (.double y), .second, .val (.long ((1 : Int64) <<< (((Int32.ofNat t.1) + (20 : Int32)) &&& 0x3f).toInt64)), .second, .unset, .unset] [(.long (((k.toInt64) * (n.toInt64)) + (((1048576 : Int64) - (k.toInt64)) * (j.toInt64))))]))
    refine Dn.of (fun tt_ zz_ => XS.lstore X14.here hx rfl (hb hby at_124) rfl (l' := #[.val (.int i0), .val (.int i1), .val (.int i2), .val (.int i3), .val (.long (1048576 : Int64)), .second, .val (.int k), .val (.int (Int32.ofNat t.1)), .val (.int n), .val (.int ((i2 &&& (2147483647 : Int32)) % (((2147483647 : Int32) - n) + (1 : Int32)))), .val (.int x), .val (.int j), .val (.double ms), .second, .val (.ref b12), .val (.double y), .second, .val (.long ((1 : Int64) <<< (((Int32.ofNat t.1) + (20 : Int32)) &&& 0x3f).toInt64)), .second, .val (.long (((k.toInt64) * (n.toInt64)) + (((1048576 : Int64) - (k.toInt64)) * (j.toInt64)))), .second]) rfl zz_) ?_
    show Dn p e below s (own_Q n0) 16 128 (T14.setTop (mkF m 126 #[.val (.int i0), .val (.int i1), .val (.int i2), .val (.int i3), .val (.long (1048576 : Int64)), .second, .val (.int k), .val (.int (Int32.ofNat t.1)), .val (.int n), .val (.int ((i2 &&& (2147483647 : Int32)) % (((2147483647 : Int32) - n) + (1 : Int32)))), .val (.int x), .val (.int j), .val (.double ms), .second, .val (.ref b12), .val (.double y), .second, .val (.long ((1 : Int64) <<< (((Int32.ofNat t.1) + (20 : Int32)) &&& 0x3f).toInt64)), .second, .val (.long (((k.toInt64) * (n.toInt64)) + (((1048576 : Int64) - (k.toInt64)) * (j.toInt64)))), .second] []))
    refine Dn.of (fun tt_ zz_ => XS.goto X14.here hx rfl (pc0 := 126) (pc' := 162) rfl (hb hby at_126) (by decide) (by decide) zz_) ?_
    show Dn p e below s (own_Q n0) 16 128 (T14.setTop (mkF m 162 #[.val (.int i0), .val (.int i1), .val (.int i2), .val (.int i3), .val (.long (1048576 : Int64)), .second, .val (.int k), .val (.int (Int32.ofNat t.1)), .val (.int n), .val (.int ((i2 &&& (2147483647 : Int32)) % (((2147483647 : Int32) - n) + (1 : Int32)))), .val (.int x), .val (.int j), .val (.double ms), .second, .val (.ref b12), .val (.double y), .second, .val (.long ((1 : Int64) <<< (((Int32.ofNat t.1) + (20 : Int32)) &&& 0x3f).toInt64)), .second, .val (.long (((k.toInt64) * (n.toInt64)) + (((1048576 : Int64) - (k.toInt64)) * (j.toInt64)))), .second] []))
    exact KE _ (by rw [own_L1 hk hj ht' hn, own_num, if_pos h1])
  · skip
    refine Dn.of (fun tt_ zz_ => XS.icmpYes X14.here hx rfl (pc0 := 103) (pc' := 129) rfl (hb hby at_103) rfl (flt h1).2.1 (by decide) (by decide) zz_) ?_
    show Dn p e below s (own_Q n0) 16 128 (T14.setTop (mkF m 129 #[.val (.int i0), .val (.int i1), .val (.int i2), .val (.int i3), .val (.long (1048576 : Int64)), .second, .val (.int k), .val (.int (Int32.ofNat t.1)), .val (.int n), .val (.int ((i2 &&& (2147483647 : Int32)) % (((2147483647 : Int32) - n) + (1 : Int32)))), .val (.int x), .val (.int j), .val (.double ms), .second, .val (.ref b12), .val (.double y), .second, .val (.long ((1 : Int64) <<< (((Int32.ofNat t.1) + (20 : Int32)) &&& 0x3f).toInt64)), .second, .unset, .unset] []))
    rw [Int32.lt_iff_toInt_lt, hn] at h1
    refine Dn.of (fun tt_ zz_ => XS.iload X14.here hx rfl (hb hby at_129) rfl zz_) ?_
    show Dn p e below s (own_Q n0) 16 128 (T14.setTop (mkF m 131 #[.val (.int i0), .val (.int i1), .val (.int i2), .val (.int i3), .val (.long (1048576 : Int64)), .second, .val (.int k), .val (.int (Int32.ofNat t.1)), .val (.int n), .val (.int ((i2 &&& (2147483647 : Int32)) % (((2147483647 : Int32) - n) + (1 : Int32)))), .val (.int x), .val (.int j), .val (.double ms), .second, .val (.ref b12), .val (.double y), .second, .val (.long ((1 : Int64) <<< (((Int32.ofNat t.1) + (20 : Int32)) &&& 0x3f).toInt64)), .second, .unset, .unset] [(.int j)]))
    refine Dn.of (fun tt_ zz_ => XS.iload X14.here hx rfl (hb hby at_131) rfl zz_) ?_
    show Dn p e below s (own_Q n0) 16 128 (T14.setTop (mkF m 133 #[.val (.int i0), .val (.int i1), .val (.int i2), .val (.int i3), .val (.long (1048576 : Int64)), .second, .val (.int k), .val (.int (Int32.ofNat t.1)), .val (.int n), .val (.int ((i2 &&& (2147483647 : Int32)) % (((2147483647 : Int32) - n) + (1 : Int32)))), .val (.int x), .val (.int j), .val (.double ms), .second, .val (.ref b12), .val (.double y), .second, .val (.long ((1 : Int64) <<< (((Int32.ofNat t.1) + (20 : Int32)) &&& 0x3f).toInt64)), .second, .unset, .unset] [(.int x), (.int j)]))
    by_cases h2 : x < j
    · skip
      refine Dn.of (fun tt_ zz_ => XS.icmpYes X14.here hx rfl (pc0 := 133) (pc' := 143) rfl (hb hby at_133) rfl (tlt h2).2.2.1 (by decide) (by decide) zz_) ?_
      show Dn p e below s (own_Q n0) 16 128 (T14.setTop (mkF m 143 #[.val (.int i0), .val (.int i1), .val (.int i2), .val (.int i3), .val (.long (1048576 : Int64)), .second, .val (.int k), .val (.int (Int32.ofNat t.1)), .val (.int n), .val (.int ((i2 &&& (2147483647 : Int32)) % (((2147483647 : Int32) - n) + (1 : Int32)))), .val (.int x), .val (.int j), .val (.double ms), .second, .val (.ref b12), .val (.double y), .second, .val (.long ((1 : Int64) <<< (((Int32.ofNat t.1) + (20 : Int32)) &&& 0x3f).toInt64)), .second, .unset, .unset] []))
      rw [Int32.lt_iff_toInt_lt] at h2
      refine Dn.of (fun tt_ zz_ => XS.lload X14.here hx rfl (hb hby at_143) rfl zz_) ?_
      show Dn p e below s (own_Q n0) 16 128 (T14.setTop (mkF m 145 #[.val (.int i0), .val (.int i1), .val (.int i2), .val (.int i3), .val (.long (1048576 : Int64)), .second, .val (.int k), .val (.int (Int32.ofNat t.1)), .val (.int n), .val (.int ((i2 &&& (2147483647 : Int32)) % (((2147483647 : Int32) - n) + (1 : Int32)))), .val (.int x), .val (.int j), .val (.double ms), .second, .val (.ref b12), .val (.double y), .second, .val (.long ((1 : Int64) <<< (((Int32.ofNat t.1) + (20 : Int32)) &&& 0x3f).toInt64)), .second, .unset, .unset] [(.long ((1 : Int64) <<< (((Int32.ofNat t.1) + (20 : Int32)) &&& 0x3f).toInt64))]))
      refine Dn.of (fun tt_ zz_ => XS.lload X14.here hx rfl (hb hby at_145) rfl zz_) ?_
      show Dn p e below s (own_Q n0) 16 128 (T14.setTop (mkF m 147 #[.val (.int i0), .val (.int i1), .val (.int i2), .val (.int i3), .val (.long (1048576 : Int64)), .second, .val (.int k), .val (.int (Int32.ofNat t.1)), .val (.int n), .val (.int ((i2 &&& (2147483647 : Int32)) % (((2147483647 : Int32) - n) + (1 : Int32)))), .val (.int x), .val (.int j), .val (.double ms), .second, .val (.ref b12), .val (.double y), .second, .val (.long ((1 : Int64) <<< (((Int32.ofNat t.1) + (20 : Int32)) &&& 0x3f).toInt64)), .second, .unset, .unset] [(.long (1048576 : Int64)), (.long ((1 : Int64) <<< (((Int32.ofNat t.1) + (20 : Int32)) &&& 0x3f).toInt64))]))
      refine Dn.of (fun tt_ zz_ => XS.iload X14.here hx rfl (hb hby at_147) rfl zz_) ?_
      show Dn p e below s (own_Q n0) 16 128 (T14.setTop (mkF m 149 #[.val (.int i0), .val (.int i1), .val (.int i2), .val (.int i3), .val (.long (1048576 : Int64)), .second, .val (.int k), .val (.int (Int32.ofNat t.1)), .val (.int n), .val (.int ((i2 &&& (2147483647 : Int32)) % (((2147483647 : Int32) - n) + (1 : Int32)))), .val (.int x), .val (.int j), .val (.double ms), .second, .val (.ref b12), .val (.double y), .second, .val (.long ((1 : Int64) <<< (((Int32.ofNat t.1) + (20 : Int32)) &&& 0x3f).toInt64)), .second, .unset, .unset] [(.int k), (.long (1048576 : Int64)), (.long ((1 : Int64) <<< (((Int32.ofNat t.1) + (20 : Int32)) &&& 0x3f).toInt64))]))
      refine Dn.of (fun tt_ zz_ => XS.i2l X14.here hx rfl (hb hby at_149) rfl zz_) ?_
      show Dn p e below s (own_Q n0) 16 128 (T14.setTop (mkF m 150 #[.val (.int i0), .val (.int i1), .val (.int i2), .val (.int i3), .val (.long (1048576 : Int64)), .second, .val (.int k), .val (.int (Int32.ofNat t.1)), .val (.int n), .val (.int ((i2 &&& (2147483647 : Int32)) % (((2147483647 : Int32) - n) + (1 : Int32)))), .val (.int x), .val (.int j), .val (.double ms), .second, .val (.ref b12), .val (.double y), .second, .val (.long ((1 : Int64) <<< (((Int32.ofNat t.1) + (20 : Int32)) &&& 0x3f).toInt64)), .second, .unset, .unset] [(.long (k.toInt64)), (.long (1048576 : Int64)), (.long ((1 : Int64) <<< (((Int32.ofNat t.1) + (20 : Int32)) &&& 0x3f).toInt64))]))
      refine Dn.of (fun tt_ zz_ => XS.lsub X14.here hx rfl (hb hby at_150) rfl zz_) ?_
      show Dn p e below s (own_Q n0) 16 128 (T14.setTop (mkF m 151 #[.val (.int i0), .val (.int i1), .val (.int i2), .val (.int i3), .val (.long (1048576 : Int64)), .second, .val (.int k), .val (.int (Int32.ofNat t.1)), .val (.int n), .val (.int ((i2 &&& (2147483647 : Int32)) % (((2147483647 : Int32) - n) + (1 : Int32)))), .val (.int x), .val (.int j), .val (.double ms), .second, .val (.ref b12), .val (.double y), .second, .val (.long ((1 : Int64) <<< (((Int32.ofNat t.1) + (20 : Int32)) &&& 0x3f).toInt64)), .second, .unset, .unset] [(.long ((1048576 : Int64) - (k.toInt64))), (.long ((1 : Int64) <<< (((Int32.ofNat t.1) + (20 : Int32)) &&& 0x3f).toInt64))]))
      refine Dn.of (fun tt_ zz_ => XS.iload X14.here hx rfl (hb hby at_151) rfl zz_) ?_
      show Dn p e below s (own_Q n0) 16 128 (T14.setTop (mkF m 153 #[.val (.int i0), .val (.int i1), .val (.int i2), .val (.int i3), .val (.long (1048576 : Int64)), .second, .val (.int k), .val (.int (Int32.ofNat t.1)), .val (.int n), .val (.int ((i2 &&& (2147483647 : Int32)) % (((2147483647 : Int32) - n) + (1 : Int32)))), .val (.int x), .val (.int j), .val (.double ms), .second, .val (.ref b12), .val (.double y), .second, .val (.long ((1 : Int64) <<< (((Int32.ofNat t.1) + (20 : Int32)) &&& 0x3f).toInt64)), .second, .unset, .unset] [(.int j), (.long ((1048576 : Int64) - (k.toInt64))), (.long ((1 : Int64) <<< (((Int32.ofNat t.1) + (20 : Int32)) &&& 0x3f).toInt64))]))
      refine Dn.of (fun tt_ zz_ => XS.i2l X14.here hx rfl (hb hby at_153) rfl zz_) ?_
      show Dn p e below s (own_Q n0) 16 128 (T14.setTop (mkF m 154 #[.val (.int i0), .val (.int i1), .val (.int i2), .val (.int i3), .val (.long (1048576 : Int64)), .second, .val (.int k), .val (.int (Int32.ofNat t.1)), .val (.int n), .val (.int ((i2 &&& (2147483647 : Int32)) % (((2147483647 : Int32) - n) + (1 : Int32)))), .val (.int x), .val (.int j), .val (.double ms), .second, .val (.ref b12), .val (.double y), .second, .val (.long ((1 : Int64) <<< (((Int32.ofNat t.1) + (20 : Int32)) &&& 0x3f).toInt64)), .second, .unset, .unset] [(.long (j.toInt64)), (.long ((1048576 : Int64) - (k.toInt64))), (.long ((1 : Int64) <<< (((Int32.ofNat t.1) + (20 : Int32)) &&& 0x3f).toInt64))]))
      refine Dn.of (fun tt_ zz_ => XS.iload X14.here hx rfl (hb hby at_154) rfl zz_) ?_
      show Dn p e below s (own_Q n0) 16 128 (T14.setTop (mkF m 156 #[.val (.int i0), .val (.int i1), .val (.int i2), .val (.int i3), .val (.long (1048576 : Int64)), .second, .val (.int k), .val (.int (Int32.ofNat t.1)), .val (.int n), .val (.int ((i2 &&& (2147483647 : Int32)) % (((2147483647 : Int32) - n) + (1 : Int32)))), .val (.int x), .val (.int j), .val (.double ms), .second, .val (.ref b12), .val (.double y), .second, .val (.long ((1 : Int64) <<< (((Int32.ofNat t.1) + (20 : Int32)) &&& 0x3f).toInt64)), .second, .unset, .unset] [(.int x), (.long (j.toInt64)), (.long ((1048576 : Int64) - (k.toInt64))), (.long ((1 : Int64) <<< (((Int32.ofNat t.1) + (20 : Int32)) &&& 0x3f).toInt64))]))
      refine Dn.of (fun tt_ zz_ => XS.i2l X14.here hx rfl (hb hby at_156) rfl zz_) ?_
      show Dn p e below s (own_Q n0) 16 128 (T14.setTop (mkF m 157 #[.val (.int i0), .val (.int i1), .val (.int i2), .val (.int i3), .val (.long (1048576 : Int64)), .second, .val (.int k), .val (.int (Int32.ofNat t.1)), .val (.int n), .val (.int ((i2 &&& (2147483647 : Int32)) % (((2147483647 : Int32) - n) + (1 : Int32)))), .val (.int x), .val (.int j), .val (.double ms), .second, .val (.ref b12), .val (.double y), .second, .val (.long ((1 : Int64) <<< (((Int32.ofNat t.1) + (20 : Int32)) &&& 0x3f).toInt64)), .second, .unset, .unset] [(.long (x.toInt64)), (.long (j.toInt64)), (.long ((1048576 : Int64) - (k.toInt64))), (.long ((1 : Int64) <<< (((Int32.ofNat t.1) + (20 : Int32)) &&& 0x3f).toInt64))]))
      refine Dn.of (fun tt_ zz_ => XS.lsub X14.here hx rfl (hb hby at_157) rfl zz_) ?_
      show Dn p e below s (own_Q n0) 16 128 (T14.setTop (mkF m 158 #[.val (.int i0), .val (.int i1), .val (.int i2), .val (.int i3), .val (.long (1048576 : Int64)), .second, .val (.int k), .val (.int (Int32.ofNat t.1)), .val (.int n), .val (.int ((i2 &&& (2147483647 : Int32)) % (((2147483647 : Int32) - n) + (1 : Int32)))), .val (.int x), .val (.int j), .val (.double ms), .second, .val (.ref b12), .val (.double y), .second, .val (.long ((1 : Int64) <<< (((Int32.ofNat t.1) + (20 : Int32)) &&& 0x3f).toInt64)), .second, .unset, .unset] [(.long ((j.toInt64) - (x.toInt64))), (.long ((1048576 : Int64) - (k.toInt64))), (.long ((1 : Int64) <<< (((Int32.ofNat t.1) + (20 : Int32)) &&& 0x3f).toInt64))]))
      refine Dn.of (fun tt_ zz_ => XS.lmul X14.here hx rfl (hb hby at_158) rfl zz_) ?_
      show Dn p e below s (own_Q n0) 16 128 (T14.setTop (mkF m 159 #[.val (.int i0), .val (.int i1), .val (.int i2), .val (.int i3), .val (.long (1048576 : Int64)), .second, .val (.int k), .val (.int (Int32.ofNat t.1)), .val (.int n), .val (.int ((i2 &&& (2147483647 : Int32)) % (((2147483647 : Int32) - n) + (1 : Int32)))), .val (.int x), .val (.int j), .val (.double ms), .second, .val (.ref b12), .val (.double y), .second, .val (.long ((1 : Int64) <<< (((Int32.ofNat t.1) + (20 : Int32)) &&& 0x3f).toInt64)), .second, .unset, .unset] [(.long (((1048576 : Int64) - (k.toInt64)) * ((j.toInt64) - (x.toInt64)))), (.long ((1 : Int64) <<< (((Int32.ofNat t.1) + (20 : Int32)) &&& 0x3f).toInt64))]))
      refine Dn.of (fun tt_ zz_ => XS.ladd X14.here hx rfl (hb hby at_159) rfl zz_) ?_
      show Dn p e below s (own_Q n0) 16 128 (T14.setTop (mkF m 160 #[.val (.int i0), .val (.int i1), .val (.int i2), .val (.int i3), .val (.long (1048576 : Int64)), .second, .val (.int k), .val (.int (Int32.ofNat t.1)), .val (.int n), .val (.int ((i2 &&& (2147483647 : Int32)) % (((2147483647 : Int32) - n) + (1 : Int32)))), .val (.int x), .val (.int j), .val (.double ms), .second, .val (.ref b12), .val (.double y), .second, .val (.long ((1 : Int64) <<< (((Int32.ofNat t.1) + (20 : Int32)) &&& 0x3f).toInt64)), .second, .unset, .unset] [(.long (((1 : Int64) <<< (((Int32.ofNat t.1) + (20 : Int32)) &&& 0x3f).toInt64) + (((1048576 : Int64) - (k.toInt64)) * ((j.toInt64) - (x.toInt64)))))]))
      refine Dn.of (fun tt_ zz_ => XS.lstore X14.here hx rfl (hb hby at_160) rfl (l' := #[.val (.int i0), .val (.int i1), .val (.int i2), .val (.int i3), .val (.long (1048576 : Int64)), .second, .val (.int k), .val (.int (Int32.ofNat t.1)), .val (.int n), .val (.int ((i2 &&& (2147483647 : Int32)) % (((2147483647 : Int32) - n) + (1 : Int32)))), .val (.int x), .val (.int j), .val (.double ms), .second, .val (.ref b12), .val (.double y), .second, .val (.long ((1 : Int64) <<< (((Int32.ofNat t.1) + (20 : Int32)) &&& 0x3f).toInt64)), .second, .val (.long (((1 : Int64) <<< (((Int32.ofNat t.1) + (20 : Int32)) &&& 0x3f).toInt64) + (((1048576 : Int64) - (k.toInt64)) * ((j.toInt64) - (x.toInt64))))), .second]) rfl zz_) ?_
      show Dn p e below s (own_Q n0) 16 128 (T14.setTop (mkF m 162 #[.val (.int i0), .val (.int i1), .val (.int i2), .val (.int i3), .val (.long (1048576 : Int64)), .second, .val (.int k), .val (.int (Int32.ofNat t.1)), .val (.int n), .val (.int ((i2 &&& (2147483647 : Int32)) % (((2147483647 : Int32) - n) + (1 : Int32)))), .val (.int x), .val (.int j), .val (.double ms), .second, .val (.ref b12), .val (.double y), .second, .val (.long ((1 : Int64) <<< (((Int32.ofNat t.1) + (20 : Int32)) &&& 0x3f).toInt64)), .second, .val (.long (((1 : Int64) <<< (((Int32.ofNat t.1) + (20 : Int32)) &&& 0x3f).toInt64) + (((1048576 : Int64) - (k.toInt64)) * ((j.toInt64) - (x.toInt64))))), .second] []))
      exact KE _ (by rw [own_L2 hk (by omega) t, own_num, if_neg h1, if_pos h2])
    · skip
      refine Dn.of (fun tt_ zz_ => XS.icmpNo X14.here hx rfl (hb hby at_133) rfl (flt h2).2.2.1 zz_) ?_
      show Dn p e below s (own_Q n0) 16 128 (T14.setTop (mkF m 136 #[.val (.int i0), .val (.int i1), .val (.int i2), .val (.int i3), .val (.long (1048576 : Int64)), .second, .val (.int k), .val (.int (Int32.ofNat t.1)), .val (.int n), .val (.int ((i2 &&& (2147483647 : Int32)) % (((2147483647 : Int32) - n) + (1 : Int32)))), .val (.int x), .val (.int j), .val (.double ms), .second, .val (.ref b12), .val (.double y), .second, .val (.long ((1 : Int64) <<< (((Int32.ofNat t.1) + (20 : Int32)) &&& 0x3f).toInt64)), .second, .unset, .unset] []))
      rw [Int32.lt_iff_toInt_lt] at h2
      refine Dn.of (fun tt_ zz_ => XS.lload X14.here hx rfl (hb hby at_136) rfl zz_) ?_
      show Dn p e below s (own_Q n0) 16 128 (T14.setTop (mkF m 138 #[.val (.int i0), .val (.int i1), .val (.int i2), .val (.int i3), .val (.long (1048576 : Int64)), .second, .val (.int k), .val (.int (Int32.ofNat t.1)), .val (.int n), .val (.int ((i2 &&& (2147483647 : Int32)) % (((2147483647 : Int32) - n) + (1 : Int32)))), .val (.int x), .val (.int j), .val (.double ms), .second, .val (.ref b12), .val (.double y), .second, .val (.long ((1 : Int64) <<< (((Int32.ofNat t.1) + (20 : Int32)) &&& 0x3f).toInt64)), .second, .unset, .unset] [(.long ((1 : Int64) <<< (((Int32.ofNat t.1) + (20 : Int32)) &&& 0x3f).toInt64))]))
      refine Dn.of (fun tt_ zz_ => XS.lstore X14.here hx rfl (hb hby at_138) rfl (l' := #[.val (.int i0), .val (.int i1), .val (.int i2), .val (.int i3), .val (.long (1048576 : Int64)), .second, .val (.int k), .val (.int (Int32.ofNat t.1)), .val (.int n), .val (.int ((i2 &&& (2147483647 : Int32)) % (((2147483647 : Int32) - n) + (1 : Int32)))), .val (.int x), .val (.int j), .val (.double ms), .second, .val (.ref b12), .val (.double y), .second, .val (.long ((1 : Int64) <<< (((Int32.ofNat t.1) + (20 : Int32)) &&& 0x3f).toInt64)), .second, .val (.long ((1 : Int64) <<< (((Int32.ofNat t.1) + (20 : Int32)) &&& 0x3f).toInt64)), .second]) rfl zz_) ?_
      show Dn p e below s (own_Q n0) 16 128 (T14.setTop (mkF m 140 #[.val (.int i0), .val (.int i1), .val (.int i2), .val (.int i3), .val (.long (1048576 : Int64)), .second, .val (.int k), .val (.int (Int32.ofNat t.1)), .val (.int n), .val (.int ((i2 &&& (2147483647 : Int32)) % (((2147483647 : Int32) - n) + (1 : Int32)))), .val (.int x), .val (.int j), .val (.double ms), .second, .val (.ref b12), .val (.double y), .second, .val (.long ((1 : Int64) <<< (((Int32.ofNat t.1) + (20 : Int32)) &&& 0x3f).toInt64)), .second, .val (.long ((1 : Int64) <<< (((Int32.ofNat t.1) + (20 : Int32)) &&& 0x3f).toInt64)), .second] []))
      refine Dn.of (fun tt_ zz_ => XS.goto X14.here hx rfl (pc0 := 140) (pc' := 162) rfl (hb hby at_140) (by decide) (by decide) zz_) ?_
      show Dn p e below s (own_Q n0) 16 128 (T14.setTop (mkF m 162 #[.val (.int i0), .val (.int i1), .val (.int i2), .val (.int i3), .val (.long (1048576 : Int64)), .second, .val (.int k), .val (.int (Int32.ofNat t.1)), .val (.int n), .val (.int ((i2 &&& (2147483647 : Int32)) % (((2147483647 : Int32) - n) + (1 : Int32)))), .val (.int x), .val (.int j), .val (.double ms), .second, .val (.ref b12), .val (.double y), .second, .val (.long ((1 : Int64) <<< (((Int32.ofNat t.1) + (20 : Int32)) &&& 0x3f).toInt64)), .second, .val (.long ((1 : Int64) <<< (((Int32.ofNat t.1) + (20 : Int32)) &&& 0x3f).toInt64)), .second] []))
      exact KE _ (by rw [own_sh t, own_num, if_neg h1, if_neg h2])
set_option maxRecDepth 65536 in
set_option maxHeartbeats 40000000 in
theorem comes_1 {Post : Tables → Env → Array Value → State → Outcome → State → Prop} (hpost : ∀ tb e args s v u, (limb_1_1.after args s (.returned v) u = true ∧ limb_1_2.after args s (.returned v) u = true ∧ True) → FrameEnd s (.returned v) u (Jvm.fieldLocs frame_1_writes args s ++ Jvm.arrayLocs frame_1_arrays args s ++ Jvm.staticLocs frame_1_statics s) 16 128 → Post tb e args s (.returned v) u) :
    ArmFor flags0 classFile x code maxLocals ret World_1 tables_1 room_1 Calls_1 rest_1 Pre_1 Post := by
  intro l hfl _ _ p e ha hc hk s m args below hf hA hF happ hP
  obtain ⟨hcalls, hrest, hpre⟩ := hP
  obtain ⟨-, -, -, hnamed, -, -, -, hat⟩ := (Spec.applies_iff hf).mp happ
  obtain ⟨hg, hn⟩ := and_e (Cond.before_iff.mp (show (Jvm.Cond.and given_1 narrow_1).before args s = true from hpre))
  obtain ⟨hcount, hr⟩ := and_e hg
  obtain ⟨w0, w1, w2, w3, rfl⟩ : ∃ w0 w1 w2 w3 : Value, args = #[w0, w1, w2, w3] := by
    have hs : args.size = 4 := by simpa [Cond.value, given_1] using hcount
    obtain ⟨L⟩ := args
    match L, hs with
    | [w0, w1, w2, w3], _ => exact ⟨w0, w1, w2, w3, rfl⟩
  have hw := fun d (hd : d ∈ tables_1) => atoms_spec (ws := Jvm.Cond.code x code maxLocals ret :: tables_1) hat d (List.mem_cons_of_mem _ hd)
  have hfit : Fit s := fun {y c} hc i hi => by
    obtain ⟨ha, rfl⟩ := Array.getElem?_eq_some_iff.mp hc
    have q := List.all_eq_true.mp ((Array.all_eq_true_iff_forall_mem.mp hF) _ (Array.getElem_mem ha)) i (List.mem_range.mpr hi)
    simpa [Array.getElem?_eq_getElem hi] using q
  obtain ⟨ha0, hr⟩ := and_e hr
  obtain ⟨i0, ei0⟩ := is_v ha0
  obtain rfl : w0 = (.int i0) := Option.some.inj ei0
  obtain ⟨ha1, hr⟩ := and_e hr
  obtain ⟨i1, ei1⟩ := is_v ha1
  obtain rfl : w1 = (.int i1) := Option.some.inj ei1
  obtain ⟨ha2, hr⟩ := and_e hr
  obtain ⟨i2, ei2⟩ := is_v ha2
  obtain rfl : w2 = (.int i2) := Option.some.inj ei2
  have ha3 := hr
  obtain ⟨i3, ei3⟩ := is_v ha3
  obtain rfl : w3 = (.int i3) := Option.some.inj ei3
  obtain ⟨n, o, h1, h2, h3, _, L, rfl, ⟨rfl, N⟩, hq⟩ := rm0 l s _ hw tables_1 s.heap s.heap.size (Nat.le_refl _) i0 i1 i2 i3 p e ha hc hk s m _ below hf ((Spec.applies_iff_loose hf).mp happ).1 ⟨rfl, State.Warmed39.refl s, rfl⟩ trivial
  refine ⟨n, _, h1, h2, h3, hpost _ _ _ _ _ _ ⟨Cond.after_iff.mpr rfl, Cond.after_iff.mpr (eq_i res_at (Term.int_eval (1)) rfl), trivial⟩ ⟨hq.1, hq.2.1, (hq.2.2.sift fun y hy => Or.inr (N y hy)).mono (by decide) (by decide)⟩⟩
theorem main_1_1 : Claimed_1_1 := comes_1 fun _ _ _ _ _ _ h hF => ⟨h.1, hF⟩
theorem main_1_2 : Claimed_1_2 := comes_1 fun _ _ _ _ _ _ h hF => ⟨h.2.1, hF⟩
end Jvm.Pilot.@@N@@
namespace Jvm.Pilot.@@N@@
open Jvm Jvm.ClassFile Sem Op Lib Jvm.Free Jvm.Stand Jvm.Pilot.@@N@@.Jvm.D
/-! MADE BY PROGRAM (witnessworld.py) out of the Statement's table words and the real class files: 10 classes; the members and pool entries that the words name. The judged class is class 1, her method 1. -/
namespace start1
open Jvm.ClassFile
def u (s : String) : CpInfo := .utf8 (stringToUtf16 s)
/-- a pool by its gaps: so many unusable entries, then the entry; so many at the end -/
def gap : Nat → List CpInfo → List CpInfo
  | 0, r => r
  | n + 1, r => .unusable :: gap n r
def poolList (es : List (Nat × CpInfo)) (last : Nat) : List CpInfo := es.foldr (fun e r => gap e.1 (e.2 :: r)) (gap last [])
def pool (es : List (Nat × CpInfo)) (last : Nat) : Array CpInfo := ⟨poolList es last⟩
def fileOf (pool : Array CpInfo) (this : Nat) (attrs : Array Attribute := #[]) (ms : Array MethodInfo := #[]) (fl : Nat := 33) (sup : Nat := 0) (ifs : Array Nat := #[]) (fds : Array FieldInfo := #[]) : ClassFile where
  minorVersion := 0
  majorVersion := 65
  constantPool := pool
  accessFlags := fl
  thisClass := this
  superClass := sup
  interfaces := ifs
  fields := fds
  methods := ms
  attributes := attrs
def plain (name : String) (sup : Option ClassId) : Class where
  name := name
  kind := .ordinary
  loader := none
  accessFlags := 33
  super := sup
  interfaces := #[]
  cf := none
  fields := #[]
  methods := #[]
  instanceTypes := #[]
  staticTypes := #[]
  resolved := #[]
  callSites := []
  init := .initialized
  statics := none
  mirror := none

def pool0 : Array CpInfo := pool [(5, u "<init>"), (0, u "()V"), (1, .class_ 10), (1, u "java/lang/Object")] 113

def k0c0 : Code := { maxStack := 0, maxLocals := 1, code := object_method_1_code, exceptionTable := #[], attributes := #[] }
def k0m0 : Method := { name := "<init>", desc := "()V", sig := { parameters := [], returnType := none }, accessFlags := 1, code := some k0c0 }
/-- java/lang/Object -/
def k0 : Class := { plain "java/lang/Object" none with
  accessFlags := 33
  interfaces := #[]
  cf := some (fileOf pool0 8 #[] #[{ accessFlags := 1, nameIndex := 5, descriptorIndex := 6, attributes := #[] }] 33 0 #[] #[])
  fields := #[]
  methods := #[k0m0]
  instanceTypes := #[]
  staticTypes := #[]
  resolved := Array.replicate 124 none
  statics := none }

def pool1 : Array CpInfo := pool [(2, .class_ 4), (1, u "java/lang/Object"), (0, u "<init>"), (0, u "()V"), (0, .long 1048576), (1, .integer 2147483647), (0, .integer 1048577), (2, .class_ 14), (0, u "com/example/warmfront/warmfront/api/ThresholdScale"), (0, .methodref 13 16), (0, .nameAndType 5 17), (0, u "(DII)V"), (0, .methodref 13 19), (0, .nameAndType 20 21), (0, u "at"), (0, u "(D)D"), (0, .class_ 23), (0, u "com/example/warmfront/warmfront/api/ThresholdScaleAtPinLaw"), (2, u "law"), (0, u "(IIII)Z")] 3

def k1m0 : Method := { name := "<init>", desc := "()V", sig := { parameters := [], returnType := none }, accessFlags := 1, code := none }
def k1c1 : Code := { maxStack := 8, maxLocals := 21, code := code, exceptionTable := #[], attributes := #[] }
def k1m1 : Method := { name := "law", desc := "(IIII)Z", sig := { parameters := [.int, .int, .int, .int], returnType := some .boolean }, accessFlags := 9, code := some k1c1 }
/-- com/example/warmfront/warmfront/api/ThresholdScaleAtPinLaw -/
def k1 : Class := { plain "com/example/warmfront/warmfront/api/ThresholdScaleAtPinLaw" (some 0) with
  accessFlags := 49
  interfaces := #[]
  cf := some (fileOf pool1 22 #[] #[{ accessFlags := 1, nameIndex := 5, descriptorIndex := 6, attributes := #[] }, { accessFlags := 9, nameIndex := 26, descriptorIndex := 27, attributes := #[] }] 49 2 #[] #[])
  fields := #[]
  methods := #[k1m0, k1m1]
  instanceTypes := #[]
  staticTypes := #[]
  resolved := Array.replicate 31 none
  statics := none }

def pool2 : Array CpInfo := pool [(1, .methodref 2 3), (0, .class_ 4), (0, .nameAndType 5 6), (0, u "java/lang/Object"), (0, u "<init>"), (0, u "()V"), (0, .class_ 8), (0, u "java/lang/Record")] 13

def k2c0 : Code := { maxStack := 1, maxLocals := 1, code := jdk_30_method_1_code, exceptionTable := #[], attributes := #[] }
def k2m0 : Method := { name := "<init>", desc := "()V", sig := { parameters := [], returnType := none }, accessFlags := 4, code := some k2c0 }
/-- java/lang/Record -/
def k2 : Class := { plain "java/lang/Record" (some 0) with
  accessFlags := 1057
  interfaces := #[]
  cf := some (fileOf pool2 7 #[] #[{ accessFlags := 4, nameIndex := 5, descriptorIndex := 6, attributes := #[] }] 1057 2 #[] #[])
  fields := #[]
  methods := #[k2m0]
  instanceTypes := #[]
  staticTypes := #[]
  resolved := Array.replicate 22 none
  statics := none }

def pool3 : Array CpInfo := pool [(1, .methodref 2 3), (0, .class_ 4), (0, .nameAndType 5 6), (0, u "java/lang/Record"), (0, u "<init>"), (0, u "()V"), (12, .fieldref 20 21), (0, .class_ 22), (0, .nameAndType 23 24), (0, u "com/example/warmfront/warmfront/api/ThresholdScale"), (0, u "minScale"), (0, u "D"), (0, .fieldref 20 26), (0, .nameAndType 27 28), (0, u "minNormalLoad"), (0, u "I"), (0, .fieldref 20 30), (0, .nameAndType 31 28), (0, u "maxNormalLoad"), (30, u "(DII)V"), (2, u "at"), (0, u "(D)D"), (34, u "ROUNDING_SLACK")] 46

def k3c0 : Code := { maxStack := 4, maxLocals := 5, code := prog_5_method_1_code, exceptionTable := #[], attributes := #[] }
def k3m0 : Method := { name := "<init>", desc := "(DII)V", sig := { parameters := [.double, .int, .int], returnType := none }, accessFlags := 0, code := some k3c0 }
def k3c1 : Code := { maxStack := 8, maxLocals := 5, code := prog_5_method_3_code, exceptionTable := #[], attributes := #[] }
def k3m1 : Method := { name := "at", desc := "(D)D", sig := { parameters := [.double], returnType := some .double }, accessFlags := 0, code := some k3c1 }
/-- com/example/warmfront/warmfront/api/ThresholdScale -/
def k3 : Class := { plain "com/example/warmfront/warmfront/api/ThresholdScale" (some 2) with
  accessFlags := 48
  interfaces := #[]
  cf := some (fileOf pool3 20 #[] #[{ accessFlags := 0, nameIndex := 5, descriptorIndex := 62, attributes := #[] }, { accessFlags := 0, nameIndex := 65, descriptorIndex := 66, attributes := #[] }] 48 2 #[] #[{ accessFlags := 18, nameIndex := 23, descriptorIndex := 24, attributes := #[] }, { accessFlags := 18, nameIndex := 27, descriptorIndex := 28, attributes := #[] }, { accessFlags := 18, nameIndex := 31, descriptorIndex := 28, attributes := #[] }, { accessFlags := 26, nameIndex := 101, descriptorIndex := 24, attributes := #[] }])
  fields := #[{ name := "minScale", type := .double, accessFlags := 18, slot := 0, constantValue := 0 }, { name := "minNormalLoad", type := .int, accessFlags := 18, slot := 1, constantValue := 0 }, { name := "maxNormalLoad", type := .int, accessFlags := 18, slot := 2, constantValue := 0 }, { name := "ROUNDING_SLACK", type := .double, accessFlags := 26, slot := 0, constantValue := 0 }]
  methods := #[k3m0, k3m1]
  instanceTypes := #[.double, .int, .int]
  staticTypes := #[.double]
  resolved := Array.replicate 148 none
  statics := none }

def pool4 : Array CpInfo := pool [(1, u "java/lang/Cloneable"), (0, .class_ 1), (0, u "java/lang/Object"), (0, .class_ 3)] 3

/-- java/lang/Cloneable -/
def k4 : Class := { plain "java/lang/Cloneable" (some 0) with
  accessFlags := 1537
  interfaces := #[]
  cf := some (fileOf pool4 2 #[] #[] 1537 4 #[] #[])
  fields := #[]
  methods := #[]
  instanceTypes := #[]
  staticTypes := #[]
  resolved := Array.replicate 8 none
  statics := none }

def pool5 : Array CpInfo := pool [(1, u "java/io/Serializable"), (0, .class_ 1), (0, u "java/lang/Object"), (0, .class_ 3)] 3

/-- java/io/Serializable -/
def k5 : Class := { plain "java/io/Serializable" (some 0) with
  accessFlags := 1537
  interfaces := #[]
  cf := some (fileOf pool5 2 #[] #[] 1537 4 #[] #[])
  fields := #[]
  methods := #[]
  instanceTypes := #[]
  staticTypes := #[]
  resolved := Array.replicate 8 none
  statics := none }

/-- the primitive byte -/
def k6 : Class := { plain "byte" none with kind := .primitive 'B', accessFlags := 0x411 }
/-- [B -/
def k7 : Class := { plain "[B" (some 0) with kind := .array 6 .byte, interfaces := #[4, 5], accessFlags := 1041 }

/-- the primitive int -/
def k8 : Class := { plain "int" none with kind := .primitive 'I', accessFlags := 0x411 }
/-- [I -/
def k9 : Class := { plain "[I" (some 0) with kind := .array 8 .int, interfaces := #[4, 5], accessFlags := 1041 }

def heap : Heap := #[]
def classes : Array Class := #[k0, k1, k2, k3, k4, k5, k6, k7, k8, k9]
def interned : List (Array UInt16 × Addr) := []
def slotsUsed : Nat := 0
def theMethod : MethodId := ⟨1, 1⟩
def args0 : Array Value := #[.int 5, .int 300, .int 7, .int 8]
def aboutOver (below : List Frame) : State where
  vm := { classes := classes, interned := interned.toArray }
  heap := heap
  slotsUsed := slotsUsed
  threads := #[{ frames := .invoking theMethod args0 :: below }]
def below0 : List Frame := [.native { method := ⟨0, 0⟩, args := #[] }]
def about1 : State := aboutOver below0
def p0 : Program := .bare "" "" ""
def e0 : Env := launch0.env 0 0 0
theorem w_frames : about1.frames = Frame.invoking theMethod args0 :: below0 := rfl
set_option maxRecDepth 65536 in
theorem w_args : argsFit about1.vm theMethod args0 = true := by decide +kernel
set_option maxRecDepth 65536 in
theorem w_heap : heapFits about1 = true := by decide +kernel
set_option maxRecDepth 65536 in
theorem w_runnable : about1.curStatus? = some .runnable := by decide +kernel
set_option maxRecDepth 65536 in
theorem w_alone : about1.alone = true := by decide +kernel
set_option maxRecDepth 65536 in
theorem w_named : about1.methodNamed? x = some theMethod := by decide +kernel
set_option maxRecDepth 65536 in
theorem w_hears : about1.hears theMethod below0 = true := by decide +kernel
set_option maxRecDepth 65536 in
theorem w_ripe : about1.ripe theMethod args0 below0 = true := by decide +kernel
theorem w_running : about1.status = .running := rfl
set_option maxRecDepth 65536 in
theorem w_room : about1.hasRoom e0.platform room_1 = true :=
  launch0.hasRoom_least _ room_1 (by decide +kernel) (by decide +kernel) (by decide +kernel) (by decide +kernel) (by decide +kernel) (by decide +kernel)
theorem allAtoms_all (ts : List Jvm.Cond) (a : Array Jvm.Value) (st : Jvm.State) : (allAtoms ts).before a st = ts.all (fun c => c.before a st) := by
  induction ts with
  | nil => rfl
  | cons c t ih =>
    show (Jvm.Cond.and c (allAtoms t)).before a st = _
    rw [Jvm.Cond.before_and, ih, List.all_cons]
def words1 : List Jvm.Cond := Jvm.Cond.code x code maxLocals ret :: tables_1
/-- a 'code' word, met by the world's own term for the bytes: nothing is compared byte by byte -/
theorem code_word {y : MethodName} {bytes : ByteArray} {mx : Nat} {rt : Option FieldType} {a : Array Value} {s : State} {m : MethodId} {meth : Method} {c : Code} (h1 : s.methodNamed? y = some m) (h2 : s.vm.method? m = some meth) (h3 : meth.code = some c) (h4 : c.code = bytes)
    (h5 : (c.maxLocals == mx && c.exceptionTable.isEmpty && decide (c.maxStack ≤ mostOperands) && decide (meth.sig.returnType = rt) && !meth.locks && decide (parseMethodDescriptor y.desc = some meth.sig)) = true) : (Jvm.Cond.code y bytes mx rt).before a s = true := by
  simp only [Bool.and_eq_true, beq_iff_eq, Bool.not_eq_true', decide_eq_true_eq] at h5
  obtain ⟨⟨⟨⟨⟨g1, g2⟩, g3⟩, g4⟩, g5⟩, g6⟩ := h5
  simp [Cond.before, Cond.holds, Cond.value, h1, h2, h3, h4, g1, g2, g3, g4, g5, g6]
def isCode : Jvm.Cond → Bool
  | .code _ _ _ _ => true
  | _ => false
theorem all_split {L : List Jvm.Cond} {P : Jvm.Cond → Bool} (h1 : L.all (fun c => isCode c || P c) = true) (h2 : ∀ c ∈ L.filter isCode, P c = true) : L.all P = true := by
  refine List.all_eq_true.mpr fun c hc => ?_
  have h := List.all_eq_true.mp h1 c hc
  rcases Bool.eq_false_or_eq_true (isCode c) with hi | hi
  · exact h2 c (List.mem_filter.mpr ⟨hc, hi⟩)
  · simpa [hi] using h
set_option maxRecDepth 65536 in
theorem w_c0 : (Jvm.Cond.code x code maxLocals ret).before args0 about1 = true := code_word (m := ⟨1, 1⟩) (meth := k1m1) (c := k1c1) (by decide +kernel) rfl rfl rfl (by decide +kernel)
set_option maxRecDepth 65536 in
theorem w_c1 : (Jvm.Cond.code ({ cls := "com/example/warmfront/warmfront/api/ThresholdScale", name := "<init>", desc := "(DII)V" } : Jvm.MethodName) prog_5_method_1_code (5 : Nat) (Option.none : Option Jvm.ClassFile.FieldType)).before args0 about1 = true := code_word (m := ⟨3, 0⟩) (meth := k3m0) (c := k3c0) (by decide +kernel) rfl rfl rfl (by decide +kernel)
set_option maxRecDepth 65536 in
theorem w_c2 : (Jvm.Cond.code ({ cls := "java/lang/Record", name := "<init>", desc := "()V" } : Jvm.MethodName) jdk_30_method_1_code (1 : Nat) (Option.none : Option Jvm.ClassFile.FieldType)).before args0 about1 = true := code_word (m := ⟨2, 0⟩) (meth := k2m0) (c := k2c0) (by decide +kernel) rfl rfl rfl (by decide +kernel)
set_option maxRecDepth 65536 in
theorem w_c3 : (Jvm.Cond.code ({ cls := "java/lang/Object", name := "<init>", desc := "()V" } : Jvm.MethodName) object_method_1_code (1 : Nat) (Option.none : Option Jvm.ClassFile.FieldType)).before args0 about1 = true := code_word (m := ⟨0, 0⟩) (meth := k0m0) (c := k0c0) (by decide +kernel) rfl rfl rfl (by decide +kernel)
set_option maxRecDepth 65536 in
theorem w_c4 : (Jvm.Cond.code ({ cls := "com/example/warmfront/warmfront/api/ThresholdScale", name := "at", desc := "(D)D" } : Jvm.MethodName) prog_5_method_3_code (5 : Nat) (Option.some Jvm.ClassFile.FieldType.double)).before args0 about1 = true := code_word (m := ⟨3, 1⟩) (meth := k3m1) (c := k3c1) (by decide +kernel) rfl rfl rfl (by decide +kernel)
def codes1 : List Jvm.Cond := [Jvm.Cond.code x code maxLocals ret, Jvm.Cond.code ({ cls := "com/example/warmfront/warmfront/api/ThresholdScale", name := "<init>", desc := "(DII)V" } : Jvm.MethodName) prog_5_method_1_code (5 : Nat) (Option.none : Option Jvm.ClassFile.FieldType), Jvm.Cond.code ({ cls := "java/lang/Record", name := "<init>", desc := "()V" } : Jvm.MethodName) jdk_30_method_1_code (1 : Nat) (Option.none : Option Jvm.ClassFile.FieldType), Jvm.Cond.code ({ cls := "java/lang/Object", name := "<init>", desc := "()V" } : Jvm.MethodName) object_method_1_code (1 : Nat) (Option.none : Option Jvm.ClassFile.FieldType), Jvm.Cond.code ({ cls := "com/example/warmfront/warmfront/api/ThresholdScale", name := "at", desc := "(D)D" } : Jvm.MethodName) prog_5_method_3_code (5 : Nat) (Option.some Jvm.ClassFile.FieldType.double)]
set_option maxRecDepth 65536 in
theorem codes_eq : words1.filter isCode = codes1 := rfl
theorem w_codes : ∀ c ∈ words1.filter isCode, c.before args0 about1 = true := by
  rw [codes_eq]
  intro c hc
  simp only [codes1, List.mem_cons, List.not_mem_nil, or_false] at hc
  rcases hc with rfl | rfl | rfl | rfl | rfl
  · exact w_c0
  · exact w_c1
  · exact w_c2
  · exact w_c3
  · exact w_c4
set_option maxRecDepth 65536 in
theorem w_t1 : (words1.take 24).all (fun c => isCode c || c.before args0 about1) = true := by decide +kernel
set_option maxRecDepth 65536 in
theorem w_t2 : (words1.drop 24).all (fun c => isCode c || c.before args0 about1) = true := by decide +kernel
theorem w_tables : (allAtoms (Jvm.Cond.code x code maxLocals ret :: tables_1)).before args0 about1 = true := by
  rw [allAtoms_all]
  show words1.all (fun c => c.before args0 about1) = true
  refine all_split ?_ w_codes
  rw [← List.take_append_drop 24 words1, List.all_append, w_t1, w_t2]
  rfl
set_option maxRecDepth 65536 in
theorem w_case : (Jvm.Cond.and given_1 narrow_1).before args0 about1 = true := by decide +kernel
theorem w_applies : (headSpec (Jvm.Cond.code x code maxLocals ret :: tables_1) room_1).applies x e0.platform about1 = true :=
  (Spec.applies_iff w_frames).mpr ⟨w_running, w_runnable, w_alone, w_named, w_hears, w_ripe, w_room, w_tables⟩
theorem atStart : AtStart classFile x code maxLocals ret World_1 tables_1 room_1 Calls_1 rest_1 Pre_1 launch0 p0 e0 about1 theMethod args0 below0 :=
  ⟨lists_1, trivial, launch0.admits_env _ _ _, launch0.least_env, fairChoices_fair.cas, fairChoices_fair.clock, w_frames, w_args, w_heap, w_applies, trivial, trivial, w_case⟩
end start1
theorem witness_1 : WitnessClaimed_1 := ⟨start1.p0, start1.e0, start1.about1, start1.theMethod, start1.args0, start1.below0, start1.atStart⟩
end Jvm.Pilot.@@N@@
