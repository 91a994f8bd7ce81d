import JvmDerived
import JvmDerived.Pilot.@@N@@Statement
import JvmDerived.Pilot.@@N@@Code
set_option linter.unusedVariables false
set_option linter.unusedSimpArgs false
namespace Jvm.RoadKit
open Sem ClassFile Op Lib Jvm.Stand Jvm.Free Jvm.LawKit
section Own
variable {p : Program} {l : Launch} {e : Env} {R : Room} {s : State} {m : MethodId} {args : Array Value} {below : List Frame} {meth : Method} {c : Code} {T : State} {locs : List Loc} {cells slots : Nat}
/-- from the state S the run comes to the end of this invocation, and Q says what it returned and left -/
def Dn (p : Program) (e : Env) (below : List Frame) (s : State) (Q : Option Value → Heap → List Loc → Prop) (k n : Nat) (S : State) : Prop :=
  ∃ U o, Steps p.tables e below S U ∧ U.status = .running ∧ Ended U below o ∧ ∃ v L, o = .returned v ∧ Q v U.heap L ∧ FrameEnd s o U L k n
variable {Q Q' : Option Value → Heap → List Loc → Prop} {k n : Nat} {S S' : State} {Z : State} {a0 : Array Value} {h : Heap}
theorem Dn.of (w : ∀ t, Steps p.tables e below S' t → Steps p.tables e below S t) (d : Dn p e below s Q k n S') : Dn p e below s Q k n S := by
  obtain ⟨U, o, st, r⟩ := d
  exact ⟨U, o, w U st, r⟩
theorem Dn.cast {g g' : JFrame} (q : g = g') (d : Dn p e below s Q k n (T.setTop g')) : Dn p e below s Q k n (T.setTop g) := q ▸ d
theorem Dn.ret (X : Stand p l e R s m args below meth c T locs cells slots) (hx : p.tables.exec = Jvm.exec) (hlk : meth.locks = false) {pc : Nat} {Ls : Array Slot} {w : Value} {t : FieldType} {i : Instr} {rest : List Value} (hret : meth.sig.returnType = some t) (hn : narrow t w = w)
    (hi : (i = .ireturn ∧ (t = .int ∨ t = .boolean ∨ t = .byte ∨ t = .char ∨ t = .short) ∧ ∃ z, w = .int z) ∨ (i = .lreturn ∧ t = .long ∧ ∃ z, w = .long z) ∨ (i = .dreturn ∧ t = .double ∧ ∃ z, w = .double z) ∨ (i = .freturn ∧ t = .float ∧ ∃ z, w = .float z) ∨ (i = .areturn ∧ t.isReference = true ∧ w.isRef = true))
    (hd : decode c.code pc = .ok (i, 1)) (hk : cells ≤ k) (hs : slots ≤ n) (hQ : Q (some w) T.heap locs) : Dn p e below s Q k n (T.setTop (mkF m pc Ls (w :: rest))) := by
  obtain ⟨fs, hr, hrun, hended, hW, hsame⟩ := X.leave (v := some w) (fun q => by rw [hret] at q; cases q) hlk
  exact ⟨_, _, retOut X hx hret hn hi hd hr, hrun, hended, _, _, rfl, hQ, ⟨_, rfl⟩, hW, hsame.mono hk hs⟩
theorem Dn.retI (X : Stand p l e R s m args below meth c T locs cells slots) (hx : p.tables.exec = Jvm.exec) (hlk : meth.locks = false) {pc : Nat} {Ls : Array Slot} {z : Int32} {rest : List Value} (hret : meth.sig.returnType = some .int)
    (hd : decode c.code pc = .ok (.ireturn, 1)) (hk : cells ≤ k) (hs : slots ≤ n) (hQ : Q (some (.int z)) T.heap locs) : Dn p e below s Q k n (T.setTop (mkF m pc Ls (.int z :: rest))) :=
  Dn.ret X hx hlk hret rfl (Or.inl ⟨rfl, Or.inl rfl, z, rfl⟩) hd hk hs hQ
theorem Dn.retA (X : Stand p l e R s m args below meth c T locs cells slots) (hx : p.tables.exec = Jvm.exec) (hlk : meth.locks = false) {pc : Nat} {Ls : Array Slot} {w : Value} {t : FieldType} {rest : List Value} (hret : meth.sig.returnType = some t) (ht : t.isReference = true) (hw : w.isRef = true)
    (hd : decode c.code pc = .ok (.areturn, 1)) (hk : cells ≤ k) (hs : slots ≤ n) (hQ : Q (some w) T.heap locs) : Dn p e below s Q k n (T.setTop (mkF m pc Ls (w :: rest))) :=
  Dn.ret X hx hlk hret (by cases t <;> simp [FieldType.isReference] at ht <;> rcases ref_cases hw with rfl | ⟨a, rfl⟩ <;> rfl) (Or.inr (Or.inr (Or.inr (Or.inr ⟨rfl, ht, hw⟩)))) hd hk hs hQ
theorem Dn.retN (X : Stand p l e R s m args below meth c T locs cells slots) (hx : p.tables.exec = Jvm.exec) (hlk : meth.locks = false) {pc : Nat} {Ls : Array Slot} {z : Int32} {t : FieldType} {rest : List Value} (hret : meth.sig.returnType = some t) (ht : t = .boolean ∨ t = .byte ∨ t = .char ∨ t = .short)
    (hd : decode c.code pc = .ok (.ireturn, 1)) (hk : cells ≤ k) (hs : slots ≤ n) (hQ : Q (some (.int (nar t z))) T.heap locs) : Dn p e below s Q k n (T.setTop (mkF m pc Ls (.int z :: rest))) := by
  obtain ⟨fs, hr, hrun, hended, hW, hsame⟩ := X.leave (v := some (.int (nar t z))) (fun q => by rw [hret] at q; cases q) hlk
  exact ⟨_, _, Jvm.RoadKit.retN X hx hret ht hd hr, hrun, hended, _, _, rfl, hQ, ⟨_, rfl⟩, hW, hsame.mono hk hs⟩
theorem Dn.retV (X : Stand p l e R s m args below meth c T locs cells slots) (hx : p.tables.exec = Jvm.exec) (hlk : meth.locks = false) {pc : Nat} {Ls : Array Slot} (hret : meth.sig.returnType = none)
    (hd : decode c.code pc = .ok (.return_, 1)) (hk : cells ≤ k) (hs : slots ≤ n) (hQ : Q none T.heap locs) : Dn p e below s Q k n (T.setTop (mkF m pc Ls [])) := by
  obtain ⟨fs, hr, hrun, hended, hW, hsame⟩ := X.leave (v := none) (fun _ => rfl) hlk
  exact ⟨_, _, X.returnOut hx hret hd hr, hrun, hended, _, _, rfl, hQ, ⟨_, rfl⟩, hW, hsame.mono hk hs⟩
/-- a body's contract: entered with the arguments as' at the heap h, it returns, and Q says what and what it left -/
abbrev ctr (l : Launch) (Z : State) (y : MethodName) (bytes : ByteArray) (maxL : Nat) (ret : Option FieldType) (ws : List Jvm.Cond) (rm : Room) (k n : Nat) (as' : Array Value) (h : Heap) (Q : Option Value → Heap → List Loc → Prop) : Prop :=
  MetFree l y (head1 (Jvm.Cond.code y bytes maxL ret :: ws) rm) (fun a U => a = as' ∧ Z.Warmed39 U.vm ∧ U.heap = h) (fun _ _ _ _ _ => True) (fun _ U o U' => ∃ v L, o = .returned v ∧ Q v U'.heap L ∧ FrameEnd U o U' L k n)
theorem ctr_of {y : MethodName} {bytes : ByteArray} {maxL : Nat} {ret : Option FieldType} {ws : List Jvm.Cond} {rm : Room} {as' : Array Value} (pn : plainFor y = true)
    (body : ∀ (p : Program) (e : Env) (s : State) (m : MethodId) (below : List Frame) (meth : Method) (c : Code) (s₁ : State), p.tables.exec = Jvm.exec → c.code = bytes → c.maxLocals = maxL → meth.sig.returnType = ret → meth.locks = false → meth.name = y.name → s.vm.findClass y.cls = some m.cls →
      Z.Warmed39 s.vm → s₁.heap = h → Stand p l e rm s m as' below meth c s₁ [] 0 0 → Dn p e below s Q k n (s₁.setTop (entryFrame m as' maxL))) : ctr l Z y bytes maxL ret ws rm k n as' h Q := by
  refine MetFree.of_bodySF pn hisR ?_
  intro p e s m args below meth c s₁ Bd hml0 hP hK
  obtain ⟨rfl, hZ, hh⟩ := hP
  exact body p e s m below meth c s₁ Bd.exec Bd.bytes hml0 Bd.returns Bd.notSynchronized (name_of_methodNamed Bd.named Bd.method).1 (findClass_of_methodNamed Bd.named) hZ (by rw [← hh, Bd.state]; rfl) (Stand.of_body Bd)
theorem cSt (X : Stand p l e R s m args below meth c T locs cells slots) (hx : p.tables.exec = Jvm.exec) (hZ : Z.Warmed39 s.vm) {own : String} {index : Nat} {y : MethodName} {bytes : ByteArray} {maxL : Nat} {ret : Option FieldType} (hown : s.vm.findClass own = some m.cls)
    (w1 : (Jvm.Cond.methodLink own index y).before a0 Z = true) (w2 : (Jvm.Cond.static y).before a0 Z = true) (w3 : (Jvm.Cond.initialized y.cls).before a0 Z = true) (w4 : (Jvm.Cond.code y bytes maxL ret).before a0 Z = true) (hy : y.cls ≠ "java/lang/invoke/MethodHandle" ∧ y.cls ≠ "java/lang/invoke/VarHandle")
    {rm : Room} {argsL rest : List Value} (hM : ctr l Z y bytes maxL ret [] rm rm.cells rm.slots argsL.toArray h Q) (eT : T.heap = h) (W : Nat) (hf : rm.frames + 1 ≤ R.frames) (hl : W + (maxL + 11) + rm.locals ≤ R.locals) (hc : cells + rm.cells ≤ R.cells) (hs : slots + rm.slots ≤ R.slots)
    {g : JFrame} (hg : g.method = m) (hsize : g.locals.size = c.maxLocals) (hlen : ∀ sig, parseMethodDescriptor y.desc = some sig → argsL.length = sig.parameters.length) (hstack : g.stack = argsL.reverse ++ rest) (hW : 2 * g.monitorRoom + (rest.map fun v => v.category).sum ≤ W) (hdg : decode c.code g.pc = .ok (.invokestatic index, 3)) :
    ∃ (v : Option Value) (T' : State) (L : List Loc), Q v T'.heap L ∧ Stand p l e R s m args below meth c T' (locs ++ L) (cells + rm.cells) (slots + rm.slots) ∧ ∀ target, Steps p.tables e below (T'.setTop { g with pc := g.pc + 3, stack := v.toList ++ rest }) target → Steps p.tables e below (T.setTop g) target := by
  obtain ⟨v, _, ⟨T', L', k', n'⟩, -, X', ⟨L, hQ, e1, e2, e3⟩, st⟩ := Jvm.LawKit.callS X hx (y := y) hown (mvT hZ w1) (mvT hZ w2) (mvT hZ w3) (mvT hZ w4) hy (backOf (W := W) hM hZ w4 w3 hf hl) hg hsize hlen hstack hW hdg (fun _ _ => ⟨rfl, eT, hc, hs⟩)
  dsimp only [Pt.U, Pt.locs, Pt.cells, Pt.slots] at X' e1 e2 e3 st hQ
  subst e1 e2 e3
  exact ⟨v, T', L, hQ, X', st⟩
theorem cIn (X : Stand p l e R s m args below meth c T locs cells slots) (hx : p.tables.exec = Jvm.exec) (hZ : Z.Warmed39 s.vm) {own : String} {index : Nat} {y : MethodName} {bytes : ByteArray} {maxL : Nat} (hy1 : y.name = "<init>") (hown : s.vm.findClass own = some m.cls)
    (w1 : (Jvm.Cond.methodLink own index y).before a0 Z = true) (w2 : (Jvm.Cond.instanceMethod y).before a0 Z = true) (w3 : (Jvm.Cond.initialized y.cls).before a0 Z = true) (w4 : (Jvm.Cond.code y bytes maxL none).before a0 Z = true) (hy : y.cls ≠ "java/lang/invoke/MethodHandle" ∧ y.cls ≠ "java/lang/invoke/VarHandle")
    {rm : Room} {a : Addr} {argsL rest : List Value} (hM : ctr l Z y bytes maxL none [] rm rm.cells rm.slots (.ref a :: argsL).toArray h Q) (eT : T.heap = h) (W : Nat) (hf : rm.frames + 1 ≤ R.frames) (hl : W + (maxL + 11) + rm.locals ≤ R.locals) (hc : cells + rm.cells ≤ R.cells) (hs : slots + rm.slots ≤ R.slots)
    {g : JFrame} (hg : g.method = m) (hsize : g.locals.size = c.maxLocals) (hlen : ∀ sig, parseMethodDescriptor y.desc = some sig → argsL.length = sig.parameters.length) (hstack : g.stack = argsL.reverse ++ .ref a :: rest) (hW : 2 * g.monitorRoom + (rest.map fun v => v.category).sum ≤ W) (hdg : decode c.code g.pc = .ok (.invokespecial index, 3)) :
    ∃ (v : Option Value) (T' : State) (L : List Loc), Q v T'.heap L ∧ Stand p l e R s m args below meth c T' (locs ++ L) (cells + rm.cells) (slots + rm.slots) ∧ ∀ target, Steps p.tables e below (T'.setTop { g with pc := g.pc + 3, stack := v.toList ++ rest }) target → Steps p.tables e below (T.setTop g) target := by
  obtain ⟨v, _, ⟨T', L', k', n'⟩, -, X', ⟨L, hQ, e1, e2, e3⟩, st⟩ := X.specialBack hx (y := y) hy1 hown (mvT hZ w1) (mvT hZ w2) (mvT hZ w4) hy (backOf (W := W) hM hZ w4 w3 hf hl) hg hsize (Steps.refl _) hlen hstack hW hdg (fun _ _ => ⟨rfl, eT, hc, hs⟩)
  dsimp only [Pt.U, Pt.locs, Pt.cells, Pt.slots] at X' e1 e2 e3 st hQ
  subst e1 e2 e3
  exact ⟨v, T', L, hQ, X', fun _ z => st.trans z⟩
theorem cVi (X : Stand p l e R s m args below meth c T locs cells slots) (hx : p.tables.exec = Jvm.exec) (hZ : Z.Warmed39 s.vm) {own C : String} {index : Nat} {y z : MethodName} {bytes : ByteArray} {maxL : Nat} {ret : Option FieldType} (hown : s.vm.findClass own = some m.cls)
    (w1 : (Jvm.Cond.methodLink own index y).before a0 Z = true) (w2 : (Jvm.Cond.declares y).before a0 Z = true) (nf : NotFace s y) (ws : (Jvm.Cond.selects C y z).before a0 Z = true) (wi : (Jvm.Cond.instanceMethod z).before a0 Z = true) (w3 : (Jvm.Cond.initialized z.cls).before a0 Z = true) (w4 : (Jvm.Cond.code z bytes maxL ret).before a0 Z = true)
    (hy : y.cls ≠ "java/lang/invoke/MethodHandle" ∧ y.cls ≠ "java/lang/invoke/VarHandle")
    {rm : Room} {a : Addr} {argsL rest : List Value} (hM : ctr l Z z bytes maxL ret [] rm rm.cells rm.slots (.ref a :: argsL).toArray h Q) (eT : T.heap = h) (E : Exa Z h a C) (W : Nat) (hf : rm.frames + 1 ≤ R.frames) (hl : W + (maxL + 11) + rm.locals ≤ R.locals) (hc : cells + rm.cells ≤ R.cells) (hs : slots + rm.slots ≤ R.slots)
    {g : JFrame} (hg : g.method = m) (hsize : g.locals.size = c.maxLocals) (hlen : ∀ sig, parseMethodDescriptor y.desc = some sig → argsL.length = sig.parameters.length) (hstack : g.stack = argsL.reverse ++ .ref a :: rest) (hW : 2 * g.monitorRoom + (rest.map fun v => v.category).sum ≤ W) (hdg : decode c.code g.pc = .ok (.invokevirtual index, 3)) :
    ∃ (v : Option Value) (T' : State) (L : List Loc), Q v T'.heap L ∧ Stand p l e R s m args below meth c T' (locs ++ L) (cells + rm.cells) (slots + rm.slots) ∧ ∀ target, Steps p.tables e below (T'.setTop { g with pc := g.pc + 3, stack := v.toList ++ rest }) target → Steps p.tables e below (T.setTop g) target := by
  obtain ⟨cq, kq, qa, qb, qc⟩ := isOf hZ eT E
  obtain ⟨v, _, ⟨T', L', k', n'⟩, -, X', ⟨L, hQ, e1, e2, e3⟩, st⟩ := X.virtualBack hx (y := y) (z := z) hown (mvT hZ w1) (mvT hZ w2) nf (mvT hZ ws) (mvT hZ wi) hy (backOf (W := W) hM hZ w4 w3 hf hl) qa qc hg hsize (Steps.refl _) hlen hstack hW hdg (fun _ _ => ⟨rfl, eT, hc, hs⟩)
  dsimp only [Pt.U, Pt.locs, Pt.cells, Pt.slots] at X' e1 e2 e3 st hQ
  subst e1 e2 e3
  exact ⟨v, T', L, hQ, X', fun _ z => st.trans z⟩
theorem cUp (X : Stand p l e R s m args below meth c T locs cells slots) (hx : p.tables.exec = Jvm.exec) (hZ : Z.Warmed39 s.vm) {own C owner : String} {index : Nat} {y z : MethodName} {bytes : ByteArray} {maxL : Nat} {ret : Option FieldType} (hown : s.vm.findClass own = some m.cls)
    (w1 : (Jvm.Cond.methodLink own index y).before a0 Z = true) (wm : (Jvm.Cond.sameMethod y.cls owner y.name y.desc).before a0 Z = true) (w2 : (Jvm.Cond.declares ⟨owner, y.name, y.desc⟩).before a0 Z = true) (ws : (Jvm.Cond.selects C y z).before a0 Z = true) (wi : (Jvm.Cond.instanceMethod z).before a0 Z = true) (w3 : (Jvm.Cond.initialized z.cls).before a0 Z = true) (w4 : (Jvm.Cond.code z bytes maxL ret).before a0 Z = true)
    (hy : owner ≠ "java/lang/invoke/MethodHandle" ∧ owner ≠ "java/lang/invoke/VarHandle")
    {rm : Room} {a : Addr} {argsL rest : List Value} (hM : ctr l Z z bytes maxL ret [] rm rm.cells rm.slots (.ref a :: argsL).toArray h Q) (eT : T.heap = h) (E : Exa Z h a C) (W : Nat) (hf : rm.frames + 1 ≤ R.frames) (hl : W + (maxL + 11) + rm.locals ≤ R.locals) (hc : cells + rm.cells ≤ R.cells) (hs : slots + rm.slots ≤ R.slots)
    {g : JFrame} (hg : g.method = m) (hsize : g.locals.size = c.maxLocals) (hlen : ∀ sig, parseMethodDescriptor y.desc = some sig → argsL.length = sig.parameters.length) (hstack : g.stack = argsL.reverse ++ .ref a :: rest) (hW : 2 * g.monitorRoom + (rest.map fun v => v.category).sum ≤ W) (hdg : decode c.code g.pc = .ok (.invokevirtual index, 3)) :
    ∃ (v : Option Value) (T' : State) (L : List Loc), Q v T'.heap L ∧ Stand p l e R s m args below meth c T' (locs ++ L) (cells + rm.cells) (slots + rm.slots) ∧ ∀ target, Steps p.tables e below (T'.setTop { g with pc := g.pc + 3, stack := v.toList ++ rest }) target → Steps p.tables e below (T.setTop g) target := by
  obtain ⟨cq, kq, qa, qb, qc⟩ := isOf hZ eT E
  obtain ⟨v, _, ⟨T', L', k', n'⟩, -, X', ⟨L, hQ, e1, e2, e3⟩, st⟩ := X.virtualBackUp hx (x := y) (y := z) (owner := owner) hown (mvT hZ w1) (mvT hZ wm) (mvT hZ w2) hy (mvT hZ ws) (mvT hZ wi) (backOf (W := W) hM hZ w4 w3 hf hl) qa qc hg hsize (Steps.refl _) hlen hstack hW hdg (fun _ _ => ⟨rfl, eT, hc, hs⟩)
  dsimp only [Pt.U, Pt.locs, Pt.cells, Pt.slots] at X' e1 e2 e3 st hQ
  subst e1 e2 e3
  exact ⟨v, T', L, hQ, X', fun _ z => st.trans z⟩
theorem cFa (X : Stand p l e R s m args below meth c T locs cells slots) (hx : p.tables.exec = Jvm.exec) (hZ : Z.Warmed39 s.vm) {own C : String} {index count : Nat} {y z : MethodName} {bytes : ByteArray} {maxL : Nat} {ret : Option FieldType} (hown : s.vm.findClass own = some m.cls)
    (w1 : (Jvm.Cond.methodLink own index y).before a0 Z = true) (w2 : (Jvm.Cond.declares y).before a0 Z = true) (wf : (Jvm.Cond.interfaceMethod y.cls y.cls y.name y.desc).before args s = true) (ws : (Jvm.Cond.selects C y z).before a0 Z = true) (wi : (Jvm.Cond.instanceMethod z).before a0 Z = true) (wp : (Jvm.Cond.publicMethod z).before a0 Z = true) (wu : (Jvm.Cond.unhidden C y.name y.desc).before a0 Z = true) (wk : (Jvm.Cond.castable C y.cls).before a0 Z = true) (w3 : (Jvm.Cond.initialized z.cls).before a0 Z = true) (w4 : (Jvm.Cond.code z bytes maxL ret).before a0 Z = true)
    (hy : y.cls ≠ "java/lang/invoke/MethodHandle" ∧ y.cls ≠ "java/lang/invoke/VarHandle")
    {rm : Room} {a : Addr} {argsL rest : List Value} (hM : ctr l Z z bytes maxL ret [] rm rm.cells rm.slots (.ref a :: argsL).toArray h Q) (eT : T.heap = h) (E : Exa Z h a C) (W : Nat) (hf : rm.frames + 1 ≤ R.frames) (hl : W + (maxL + 11) + rm.locals ≤ R.locals) (hc : cells + rm.cells ≤ R.cells) (hs : slots + rm.slots ≤ R.slots)
    {g : JFrame} (hg : g.method = m) (hsize : g.locals.size = c.maxLocals) (hlen : ∀ sig, parseMethodDescriptor y.desc = some sig → argsL.length = sig.parameters.length) (hstack : g.stack = argsL.reverse ++ .ref a :: rest) (hW : 2 * g.monitorRoom + (rest.map fun v => v.category).sum ≤ W) (hdg : decode c.code g.pc = .ok (.invokeinterface index count, 5)) :
    ∃ (v : Option Value) (T' : State) (L : List Loc), Q v T'.heap L ∧ Stand p l e R s m args below meth c T' (locs ++ L) (cells + rm.cells) (slots + rm.slots) ∧ ∀ target, Steps p.tables e below (T'.setTop { g with pc := g.pc + 5, stack := v.toList ++ rest }) target → Steps p.tables e below (T.setTop g) target := by
  obtain ⟨cq, kq, qa, qb, qc⟩ := isOf hZ eT E
  obtain ⟨v, _, ⟨T', L', k', n'⟩, -, X', ⟨L, hQ, e1, e2, e3⟩, st⟩ := X.interfaceBack hx (xi := y) (y := z) hown (mvT hZ w1) (mvT hZ w2) wf (mvT hZ ws) (mvT hZ wi) (mvT hZ wp) (mvT hZ wu) (mvT hZ wk) hy (backOf (W := W) hM hZ w4 w3 hf hl) qa qb qc hg hsize (Steps.refl _) hlen hstack hW hdg (fun _ _ => ⟨rfl, eT, hc, hs⟩)
  dsimp only [Pt.U, Pt.locs, Pt.cells, Pt.slots] at X' e1 e2 e3 st hQ
  subst e1 e2 e3
  exact ⟨v, T', L, hQ, X', fun _ z => st.trans z⟩
/-- a static's fact over a Keep: its holder's cell is none of the written -/
theorem Sta.keep {h' : Heap} {C n d : String} {v : Value} {ws : List Addr} (F : Sta Z h C n d v) (K : Keep h h' ws) (q : ∀ (x : Addr) (c : Cell), x ∈ ws → h[x]? = some c → c.vm.isStatics = false) : Sta Z h' C n d v := by
  obtain ⟨cf, i, k, f, st, cell, h1, h2, h3, h4, h5, h6, h7⟩ := F
  refine ⟨cf, i, k, f, st, cell, h1, h2, h3, h4, K.2.1 _ _ h5 (fun y => ?_), h6, h7⟩
  rw [q st cell y h5] at h6; cases h6
theorem own_ns {a : Addr} {C : String} (E : Exa Z h a C) : ∀ (x : Addr) (c : Cell), x ∈ [a] → h[x]? = some c → c.vm.isStatics = false := by
  intro x c hx hc
  cases List.mem_singleton.mp hx
  obtain ⟨cell, k, h1, -, -, h4, -⟩ := E
  rw [h1] at hc; cases hc; exact h4
/-- an int field of what a term names, out of an 'eq' of the case -/
theorem own_fld {args : Array Value} {a : Addr} {C n d : String} {t : Term} {x : Int32} (ev : t.eval args Z none [] Z = some (.ref a)) (hq : (Jvm.Cond.eq (.field t C n d) (.int x)).value args Z none Z [] = some true) : Fld Z Z.heap a C n d (.int x) := by
  obtain ⟨u, w, h1, h2, k1, k2⟩ := cmp_v (Or.inl hq)
  have h2' : w = .int x := by rw [Term.int_eval] at h2; exact (Option.some.inj h2).symm
  subst h2'
  obtain ⟨z, rfl⟩ : ∃ z, u = .int z := k2
  have : z = x := gotT (Cond.eq_ints h1 (Term.int_eval x)) hq
  subst this
  exact Fld.start (by rw [← fld_at ev]; exact h1)
theorem own_cat {v : Value} (r : v.isRef = true) : v.category = 1 := by rcases ref_cases r with rfl | ⟨a, rfl⟩ <;> rfl
theorem own_narO {C : String} {v : Value} (r : v.isRef = true) : narrow (.object C) v = v := by rcases ref_cases r with rfl | ⟨a, rfl⟩ <;> rfl
theorem own_fitO {C : String} {v : Value} (r : v.isRef = true) : fits (.object C) v = true := by rcases ref_cases r with rfl | ⟨a, rfl⟩ <;> rfl
theorem own_len {args : Array Value} {a : Addr} {cl : Cell} {ty : FieldType} {t : Term} {x : Int32} (ev : t.eval args Z none [] Z = some (.ref a)) (A : Arr Z Z.heap a cl ty) (hq : (Jvm.Cond.eq (.length t) (.int x)).value args Z none Z [] = some true) : cl.slots.size = x.toNatClampNeg ∧ cl.slots.size < 2 ^ 31 := by
  have ha : Z.arrayAt? a = some cl := IntBox.arrayAt_of A.1 A.2.1 A.2.2
  by_cases p : cl.slots.size < 2 ^ 31
  · have q := gotT (Cond.eq_ints (len_f ev ha p) (Term.int_eval x)) hq
    refine ⟨?_, p⟩
    rw [← q, Int32.toNatClampNeg, len_toInt p]; rfl
  · obtain ⟨u, w, h1, h2, -, -⟩ := cmp_v (Or.inl hq)
    exact absurd h1 (by simp [Term.eval, ev, ha, p])
theorem own_elem {args : Array Value} {a b : Addr} {cl : Cell} {ty : FieldType} {t u : Term} {j : Int32} (ev : t.eval args Z none [] Z = some (.ref a)) (A : Arr Z Z.heap a cl ty) (eu : u.eval args Z none [] Z = some (.ref b)) (hq : (Jvm.Cond.eq (.elem t (.int j)) u).value args Z none Z [] = some true) : cl.slots[j.toNatClampNeg]? = some (.ref b) := by
  obtain ⟨x, y, h1, h2, k1, k2⟩ := cmp_v (Or.inl hq)
  rw [eu] at h2; cases h2
  have e := gotT (eq_R h1 eu k2.2 rfl) hq
  rw [← e]; exact (elem_in h1 ev (Term.int_eval j) A.1).2
end Own
end Jvm.RoadKit
namespace Jvm.Pilot.@@N@@
open Jvm Jvm.ClassFile Sem Op Lib Jvm.Free Jvm.Stand Jvm.LawKit Jvm.RoadKit Bundle Jvm.Pilot.@@N@@.Jvm.D
theorem d1_0 : decode prog_10_method_1_code 0 = .ok (.aload_n 0, 1) := by decide +kernel
theorem d1_1 : decode prog_10_method_1_code 1 = .ok (.invokespecial 1, 3) := by decide +kernel
theorem d1_4 : decode prog_10_method_1_code 4 = .ok (.aload_n 0, 1) := by decide +kernel
theorem d1_5 : decode prog_10_method_1_code 5 = .ok (.new 7, 3) := by decide +kernel
theorem d1_8 : decode prog_10_method_1_code 8 = .ok (.dup, 1) := by decide +kernel
theorem d1_9 : decode prog_10_method_1_code 9 = .ok (.invokespecial 9, 3) := by decide +kernel
theorem d1_12 : decode prog_10_method_1_code 12 = .ok (.putfield 10, 3) := by decide +kernel
theorem d1_15 : decode prog_10_method_1_code 15 = .ok (.aload_n 0, 1) := by decide +kernel
theorem d1_16 : decode prog_10_method_1_code 16 = .ok (.new 7, 3) := by decide +kernel
theorem d1_19 : decode prog_10_method_1_code 19 = .ok (.dup, 1) := by decide +kernel
theorem d1_20 : decode prog_10_method_1_code 20 = .ok (.invokespecial 9, 3) := by decide +kernel
theorem d1_23 : decode prog_10_method_1_code 23 = .ok (.putfield 16, 3) := by decide +kernel
theorem d1_26 : decode prog_10_method_1_code 26 = .ok (.aload_n 0, 1) := by decide +kernel
theorem d1_27 : decode prog_10_method_1_code 27 = .ok (.new 7, 3) := by decide +kernel
theorem d1_30 : decode prog_10_method_1_code 30 = .ok (.dup, 1) := by decide +kernel
theorem d1_31 : decode prog_10_method_1_code 31 = .ok (.invokespecial 9, 3) := by decide +kernel
theorem d1_34 : decode prog_10_method_1_code 34 = .ok (.putfield 19, 3) := by decide +kernel
theorem d1_37 : decode prog_10_method_1_code 37 = .ok (.return_, 1) := by decide +kernel
theorem d3_0 : decode jdk_38_method_2_code 0 = .ok (.aload_n 0, 1) := by decide +kernel
theorem d3_1 : decode jdk_38_method_2_code 1 = .ok (.invokespecial 1, 3) := by decide +kernel
theorem d3_4 : decode jdk_38_method_2_code 4 = .ok (.aload_n 0, 1) := by decide +kernel
theorem d3_5 : decode jdk_38_method_2_code 5 = .ok (.getstatic 39, 3) := by decide +kernel
theorem d3_8 : decode jdk_38_method_2_code 8 = .ok (.putfield 9, 3) := by decide +kernel
theorem d3_11 : decode jdk_38_method_2_code 11 = .ok (.return_, 1) := by decide +kernel
theorem d4_0 : decode jdk_39_method_1_code 0 = .ok (.aload_n 0, 1) := by decide +kernel
theorem d4_1 : decode jdk_39_method_1_code 1 = .ok (.invokespecial 1, 3) := by decide +kernel
theorem d4_4 : decode jdk_39_method_1_code 4 = .ok (.aload_n 0, 1) := by decide +kernel
theorem d4_5 : decode jdk_39_method_1_code 5 = .ok (.iconst 0, 1) := by decide +kernel
theorem d4_6 : decode jdk_39_method_1_code 6 = .ok (.putfield 7, 3) := by decide +kernel
theorem d4_9 : decode jdk_39_method_1_code 9 = .ok (.return_, 1) := by decide +kernel
theorem d5_0 : decode jdk_22_method_1_code 0 = .ok (.aload_n 0, 1) := by decide +kernel
theorem d5_1 : decode jdk_22_method_1_code 1 = .ok (.invokespecial 1, 3) := by decide +kernel
theorem d5_4 : decode jdk_22_method_1_code 4 = .ok (.return_, 1) := by decide +kernel
theorem d6_0 : decode prog_15_method_1_code 0 = .ok (.aload_n 0, 1) := by decide +kernel
theorem d6_1 : decode prog_15_method_1_code 1 = .ok (.invokestatic 1, 3) := by decide +kernel
theorem d6_4 : decode prog_15_method_1_code 4 = .ok (.invokespecial 7, 3) := by decide +kernel
theorem d6_7 : decode prog_15_method_1_code 7 = .ok (.aload_n 0, 1) := by decide +kernel
theorem d6_8 : decode prog_15_method_1_code 8 = .ok (.aload_n 1, 1) := by decide +kernel
theorem d6_9 : decode prog_15_method_1_code 9 = .ok (.putfield 13, 3) := by decide +kernel
theorem d6_12 : decode prog_15_method_1_code 12 = .ok (.return_, 1) := by decide +kernel
theorem d7_0 : decode jdk_40_method_36_code 0 = .ok (.getstatic 90, 3) := by decide +kernel
theorem d7_3 : decode jdk_40_method_36_code 3 = .ok (.areturn, 1) := by decide +kernel
theorem d8_0 : decode prog_30_method_1_code 0 = .ok (.aload_n 0, 1) := by decide +kernel
theorem d8_1 : decode prog_30_method_1_code 1 = .ok (.aload_n 1, 1) := by decide +kernel
theorem d8_2 : decode prog_30_method_1_code 2 = .ok (.invokespecial 1, 3) := by decide +kernel
theorem d8_5 : decode prog_30_method_1_code 5 = .ok (.return_, 1) := by decide +kernel
theorem d9_0 : decode prog_22_method_1_code 0 = .ok (.aload_n 0, 1) := by decide +kernel
theorem d9_1 : decode prog_22_method_1_code 1 = .ok (.invokespecial 1, 3) := by decide +kernel
theorem d9_4 : decode prog_22_method_1_code 4 = .ok (.aload_n 0, 1) := by decide +kernel
theorem d9_5 : decode prog_22_method_1_code 5 = .ok (.new 7, 3) := by decide +kernel
theorem d9_8 : decode prog_22_method_1_code 8 = .ok (.dup, 1) := by decide +kernel
theorem d9_9 : decode prog_22_method_1_code 9 = .ok (.invokespecial 9, 3) := by decide +kernel
theorem d9_12 : decode prog_22_method_1_code 12 = .ok (.putfield 10, 3) := by decide +kernel
theorem d9_15 : decode prog_22_method_1_code 15 = .ok (.aload_n 0, 1) := by decide +kernel
theorem d9_16 : decode prog_22_method_1_code 16 = .ok (.new 7, 3) := by decide +kernel
theorem d9_19 : decode prog_22_method_1_code 19 = .ok (.dup, 1) := by decide +kernel
theorem d9_20 : decode prog_22_method_1_code 20 = .ok (.invokespecial 9, 3) := by decide +kernel
theorem d9_23 : decode prog_22_method_1_code 23 = .ok (.putfield 16, 3) := by decide +kernel
theorem d9_26 : decode prog_22_method_1_code 26 = .ok (.aload_n 0, 1) := by decide +kernel
theorem d9_27 : decode prog_22_method_1_code 27 = .ok (.new 7, 3) := by decide +kernel
theorem d9_30 : decode prog_22_method_1_code 30 = .ok (.dup, 1) := by decide +kernel
theorem d9_31 : decode prog_22_method_1_code 31 = .ok (.invokespecial 9, 3) := by decide +kernel
theorem d9_34 : decode prog_22_method_1_code 34 = .ok (.putfield 19, 3) := by decide +kernel
theorem d9_37 : decode prog_22_method_1_code 37 = .ok (.aload_n 1, 1) := by decide +kernel
theorem d9_38 : decode prog_22_method_1_code 38 = .ok (.invokeinterface 22 1, 5) := by decide +kernel
theorem d9_43 : decode prog_22_method_1_code 43 = .ok (.astore_n 2, 1) := by decide +kernel
theorem d9_44 : decode prog_22_method_1_code 44 = .ok (.aload_n 2, 1) := by decide +kernel
theorem d9_45 : decode prog_22_method_1_code 45 = .ok (.invokeinterface 28 1, 5) := by decide +kernel
theorem d9_50 : decode prog_22_method_1_code 50 = .ok (.ifCond .eq 21, 3) := by decide +kernel
theorem d9_71 : decode prog_22_method_1_code 71 = .ok (.return_, 1) := by decide +kernel
theorem d10_0 : decode jdk_46_method_10_code 0 = .ok (.new 61, 3) := by decide +kernel
theorem d10_3 : decode jdk_46_method_10_code 3 = .ok (.dup, 1) := by decide +kernel
theorem d10_4 : decode jdk_46_method_10_code 4 = .ok (.aload_n 0, 1) := by decide +kernel
theorem d10_5 : decode jdk_46_method_10_code 5 = .ok (.aload_n 0, 1) := by decide +kernel
theorem d10_6 : decode jdk_46_method_10_code 6 = .ok (.invokevirtual 13, 3) := by decide +kernel
theorem d10_9 : decode jdk_46_method_10_code 9 = .ok (.invokespecial 63, 3) := by decide +kernel
theorem d10_12 : decode jdk_46_method_10_code 12 = .ok (.areturn, 1) := by decide +kernel
theorem d11_0 : decode jdk_45_method_3_code 0 = .ok (.aload_n 0, 1) := by decide +kernel
theorem d11_1 : decode jdk_45_method_3_code 1 = .ok (.getfield 7, 3) := by decide +kernel
theorem d11_4 : decode jdk_45_method_3_code 4 = .ok (.arraylength, 1) := by decide +kernel
theorem d11_5 : decode jdk_45_method_3_code 5 = .ok (.ireturn, 1) := by decide +kernel
theorem d12_0 : decode jdk_53_method_1_code 0 = .ok (.aload_n 0, 1) := by decide +kernel
theorem d12_1 : decode jdk_53_method_1_code 1 = .ok (.invokespecial 1, 3) := by decide +kernel
theorem d12_4 : decode jdk_53_method_1_code 4 = .ok (.aload_n 0, 1) := by decide +kernel
theorem d12_5 : decode jdk_53_method_1_code 5 = .ok (.aload_n 1, 1) := by decide +kernel
theorem d12_6 : decode jdk_53_method_1_code 6 = .ok (.putfield 7, 3) := by decide +kernel
theorem d12_9 : decode jdk_53_method_1_code 9 = .ok (.aload_n 0, 1) := by decide +kernel
theorem d12_10 : decode jdk_53_method_1_code 10 = .ok (.iload_n 2, 1) := by decide +kernel
theorem d12_11 : decode jdk_53_method_1_code 11 = .ok (.putfield 13, 3) := by decide +kernel
theorem d12_14 : decode jdk_53_method_1_code 14 = .ok (.aload_n 0, 1) := by decide +kernel
theorem d12_15 : decode jdk_53_method_1_code 15 = .ok (.iconst 0, 1) := by decide +kernel
theorem d12_16 : decode jdk_53_method_1_code 16 = .ok (.putfield 17, 3) := by decide +kernel
theorem d12_19 : decode jdk_53_method_1_code 19 = .ok (.aload_n 0, 1) := by decide +kernel
theorem d12_20 : decode jdk_53_method_1_code 20 = .ok (.iconst 0, 1) := by decide +kernel
theorem d12_21 : decode jdk_53_method_1_code 21 = .ok (.putfield 20, 3) := by decide +kernel
theorem d12_24 : decode jdk_53_method_1_code 24 = .ok (.return_, 1) := by decide +kernel
theorem d13_0 : decode jdk_53_method_3_code 0 = .ok (.aload_n 0, 1) := by decide +kernel
theorem d13_1 : decode jdk_53_method_3_code 1 = .ok (.getfield 17, 3) := by decide +kernel
theorem d13_4 : decode jdk_53_method_3_code 4 = .ok (.aload_n 0, 1) := by decide +kernel
theorem d13_5 : decode jdk_53_method_3_code 5 = .ok (.getfield 13, 3) := by decide +kernel
theorem d13_8 : decode jdk_53_method_3_code 8 = .ok (.if_icmp .eq 7, 3) := by decide +kernel
theorem d13_15 : decode jdk_53_method_3_code 15 = .ok (.iconst 0, 1) := by decide +kernel
theorem d13_16 : decode jdk_53_method_3_code 16 = .ok (.ireturn, 1) := by decide +kernel
theorem d14_0 : decode prog_15_method_4_code 0 = .ok (.aload_n 0, 1) := by decide +kernel
theorem d14_1 : decode prog_15_method_4_code 1 = .ok (.getfield 13, 3) := by decide +kernel
theorem d14_4 : decode prog_15_method_4_code 4 = .ok (.aload_n 1, 1) := by decide +kernel
theorem d14_5 : decode prog_15_method_4_code 5 = .ok (.if_acmp .ne 8, 3) := by decide +kernel
theorem d14_8 : decode prog_15_method_4_code 8 = .ok (.aload_n 0, 1) := by decide +kernel
theorem d14_9 : decode prog_15_method_4_code 9 = .ok (.aload_n 2, 1) := by decide +kernel
theorem d14_10 : decode prog_15_method_4_code 10 = .ok (.putfield 13, 3) := by decide +kernel
theorem d14_13 : decode prog_15_method_4_code 13 = .ok (.return_, 1) := by decide +kernel
theorem d15_0 : decode prog_15_method_2_code 0 = .ok (.aload_n 0, 1) := by decide +kernel
theorem d15_1 : decode prog_15_method_2_code 1 = .ok (.getfield 13, 3) := by decide +kernel
theorem d15_4 : decode prog_15_method_2_code 4 = .ok (.areturn, 1) := by decide +kernel
theorem pn0 : plainName "java/util/AbstractCollection" = true := by first | (simp [plainName, overriddenIn]; done) | decide +kernel
theorem pn1 : plainName "java/util/AbstractList" = true := by first | (simp [plainName, overriddenIn]; done) | decide +kernel
theorem pn2 : plainName "java/util/ArrayList" = true := by first | (simp [plainName, overriddenIn]; done) | decide +kernel
theorem pn3 : plainName "com/example/warmfront/warmfront/ir/Block" = true := by first | (simp [plainName, overriddenIn]; done) | decide +kernel
theorem pn4 : plainName "java/util/ImmutableCollections$ListN" = true := by first | (simp [plainName, overriddenIn]; done) | decide +kernel
theorem pn5 : plainName "java/util/ImmutableCollections$ListItr" = true := by first | (simp [plainName, overriddenIn]; done) | decide +kernel
theorem pn6 : plainName "java/util/ImmutableCollections$AbstractImmutableList" = true := by first | (simp [plainName, overriddenIn]; done) | decide +kernel
theorem pn7 : plainName "com/example/warmfront/warmfront/ir/Instruction" = true := by first | (simp [plainName, overriddenIn]; done) | decide +kernel
theorem pn8 : plainName "com/example/warmfront/warmfront/ir/Terminator" = true := by first | (simp [plainName, overriddenIn]; done) | decide +kernel
theorem pn9 : plainName "java/util/List" = true := by first | (simp [plainName, overriddenIn]; done) | decide +kernel
theorem pn10 : plainName "com/example/warmfront/warmfront/ir/Goto" = true := by first | (simp [plainName, overriddenIn]; done) | decide +kernel
theorem pn11 : plainName "com/example/warmfront/warmfront/ir/GotoReplaceSuccessorPinLaw" = true := by first | (simp [plainName, overriddenIn]; done) | decide +kernel
theorem pd0 : parseMethodDescriptor "()V" = some ⟨[], none⟩ := by decide +kernel
theorem pd1 : parseMethodDescriptor "()I" = some ⟨[], some .int⟩ := by decide +kernel
theorem pd2 : parseMethodDescriptor "(Ljava/util/List;I)V" = some ⟨[(.object "java/util/List"), .int], none⟩ := by decide +kernel
theorem pd3 : parseMethodDescriptor "()Ljava/util/Iterator;" = some ⟨[], some (.object "java/util/Iterator")⟩ := by decide +kernel
theorem pd4 : parseMethodDescriptor "()Z" = some ⟨[], some .boolean⟩ := by decide +kernel
theorem pd5 : parseMethodDescriptor "(Ljava/util/List;)V" = some ⟨[(.object "java/util/List")], none⟩ := by decide +kernel
theorem pd6 : parseMethodDescriptor "()Ljava/util/List;" = some ⟨[], some (.object "java/util/List")⟩ := by decide +kernel
theorem pd7 : parseMethodDescriptor "(Lcom/example/warmfront/warmfront/ir/Block;)V" = some ⟨[(.object "com/example/warmfront/warmfront/ir/Block")], none⟩ := by decide +kernel
theorem pd8 : parseMethodDescriptor "(Lcom/example/warmfront/warmfront/ir/Block;Lcom/example/warmfront/warmfront/ir/Block;)V" = some ⟨[(.object "com/example/warmfront/warmfront/ir/Block"), (.object "com/example/warmfront/warmfront/ir/Block")], none⟩ := by decide +kernel
theorem pd9 : parseMethodDescriptor "()Lcom/example/warmfront/warmfront/ir/Block;" = some ⟨[], some (.object "com/example/warmfront/warmfront/ir/Block")⟩ := by decide +kernel
theorem ef5_A (m : MethodId) (x0 : Addr) : entryFrame m #[(.ref x0)] 1 = mkF m 0 #[.val (.ref x0)] [] := by first | (simp [entryFrame, mkF, argsToLocals, Value.category]; done) | rfl
set_option maxRecDepth 65536 in
set_option maxHeartbeats 40000000 in
theorem rmAC (l : Launch) (Z : State) (a0 : Array Value) (hw : ∀ d ∈ tables_1, d.before a0 Z = true) (h0 : Heap) (n0 : Nat) (Z0 : n0 ≤ h0.size) (a : Addr) :
    ctr l Z (⟨"java/util/AbstractCollection", "<init>", "()V"⟩ : MethodName) jdk_22_method_1_code 1 none [] ({ frames := 1, cells := 0, slots := 0, locals := 12 } : Room) 0 0 #[(.ref a)] h0 (fun v h L => v = none ∧ Fr n0 L ∧ h = h0) := by
  refine ctr_of (plainFor_of_name pn0) ?_
  intro p e s m below meth jc s₁ hx hby hml hret hlk hnm hown hZ e0 X0
  have N0 := Fr.nil n0
  refine Dn.cast (ef5_A m a) ?_
  show Dn p e below s _ _ _ (s₁.setTop (mkF m 0 #[.val (.ref a)] []))
  refine Dn.of (fun tt_ zz_ => XS.aloadN X0.here hx rfl (hb hby d5_0) rfl rfl zz_) ?_
  show Dn p e below s _ _ _ (s₁.setTop (mkF m 1 #[.val (.ref a)] [(.ref a)]))
  obtain ⟨T1, X1, e1, st1⟩ := initO X0 hx hZ hown (hw _ (List.mem_of_getElem? (i := 28) rfl)) (hw _ (List.mem_of_getElem? (i := 8) rfl)) (hw _ (List.mem_of_getElem? (i := 9) rfl)) e0 (g := (mkF m 1 #[.val (.ref a)] [(.ref a)])) rfl (by rw [hml]; rfl) rfl (hb hby d5_1) (by decide) (W := 0) (by show 2 * 0 + _ ≤ _; exact Nat.le_of_eq rfl) (by decide)
  refine Dn.of st1 ?_
  show Dn p e below s _ _ _ (T1.setTop (mkF m 4 #[.val (.ref a)] []))
  exact Dn.retV X1 hx hlk hret (hb hby d5_4) (by decide) (by decide) (⟨rfl, N0, e1⟩)
theorem ef4_A (m : MethodId) (x0 : Addr) : entryFrame m #[(.ref x0)] 1 = mkF m 0 #[.val (.ref x0)] [] := by first | (simp [entryFrame, mkF, argsToLocals, Value.category]; done) | rfl
set_option maxRecDepth 65536 in
set_option maxHeartbeats 40000000 in
theorem rmAL0 (l : Launch) (Z : State) (a0 : Array Value) (hw : ∀ d ∈ tables_1, d.before a0 Z = true) (h0 : Heap) (n0 : Nat) (Z0 : n0 ≤ h0.size) (a : Addr) (E0 : Exa Z h0 a "java/util/ArrayList") (F1 : Fld Z h0 a "java/util/AbstractList" "modCount" "I" (.int (0 : Int32))) (F2 : Fld Z h0 a "java/util/ArrayList" "elementData" "[Ljava/lang/Object;" .null) (g0 : n0 ≤ a) :
    ctr l Z (⟨"java/util/AbstractList", "<init>", "()V"⟩ : MethodName) jdk_39_method_1_code 1 none [] ({ frames := 2, cells := 0, slots := 0, locals := 24 } : Room) 0 0 #[(.ref a)] h0 (fun v h L => v = none ∧ Fr n0 L ∧ Keep h0 h [a] ∧ Fld Z h a "java/util/ArrayList" "elementData" "[Ljava/lang/Object;" .null) := by
  refine ctr_of (plainFor_of_name pn1) ?_
  intro p e s m below meth jc s₁ hx hby hml hret hlk hnm hown hZ e0 X0
  have N0 := Fr.nil n0
  refine Dn.cast (ef4_A m a) ?_
  show Dn p e below s _ _ _ (s₁.setTop (mkF m 0 #[.val (.ref a)] []))
  have sn : Jvm.RoadKit.slotOf Z "java/util/ArrayList" "elementData" "[Ljava/lang/Object;" ≠ Jvm.RoadKit.slotOf Z "java/util/AbstractList" "modCount" "I" := slot_ne (Or.inl (hw _ (List.mem_of_getElem? (i := 33) rfl))) (Or.inl (hw _ (List.mem_of_getElem? (i := 30) rfl))) (by decide) (t := (.array (.object "java/lang/Object"))) (t' := .int) (by decide) (by decide)
  refine Dn.of (fun tt_ zz_ => XS.aloadN X0.here hx rfl (hb hby d4_0) rfl rfl zz_) ?_
  show Dn p e below s _ _ _ (s₁.setTop (mkF m 1 #[.val (.ref a)] [(.ref a)]))
  obtain ⟨v2, T2, L2, Q2, X2, st2⟩ := cIn X0 hx hZ (y := (⟨"java/util/AbstractCollection", "<init>", "()V"⟩ : MethodName)) rfl hown (hw _ (List.mem_of_getElem? (i := 22) rfl)) (hw _ (List.mem_of_getElem? (i := 23) rfl)) (hw _ (List.mem_of_getElem? (i := 26) rfl)) (hw _ (List.mem_of_getElem? (i := 27) rfl)) (by decide) (a := a) (argsL := []) (rest := []) (rmAC l Z a0 hw h0 n0 Z0 a) e0  0 (by decide) (by decide) (by decide) (by decide) (g := (mkF m 1 #[.val (.ref a)] [(.ref a)])) rfl (by rw [hml]; rfl) (lenOf pd0 rfl) rfl (by show 2 * 0 + _ ≤ _; exact Nat.le_of_eq rfl) (hb hby d4_1)
  obtain ⟨rfl, M1, e2⟩ := Q2
  refine Dn.of st2 ?_
  show Dn p e below s _ _ _ (T2.setTop (mkF m 4 #[.val (.ref a)] []))
  refine Dn.of (fun tt_ zz_ => XS.aloadN X2.here hx rfl (hb hby d4_4) rfl rfl zz_) ?_
  show Dn p e below s _ _ _ (T2.setTop (mkF m 5 #[.val (.ref a)] [(.ref a)]))
  refine Dn.of (fun tt_ zz_ => XS.iconst X2.here hx rfl (hb hby d4_5) zz_) ?_
  show Dn p e below s _ _ _ (T2.setTop (mkF m 6 #[.val (.ref a)] [(.int (0 : Int32)), (.ref a)]))
  obtain ⟨T3, h3, X3, e3, W3, st3⟩ := putF X2 hx hZ hown (host := "") (Or.inl (hw _ (List.mem_of_getElem? (i := 29) rfl))) Via.refl e2 F1 E0 (Or.inl (hw _ (List.mem_of_getElem? (i := 30) rfl))) (hw _ (List.mem_of_getElem? (i := 11) rfl)) (ty := .int) (by decide) rfl rfl (g := (mkF m 6 #[.val (.ref a)] [(.int (0 : Int32)), (.ref a)])) rfl rfl (hb hby d4_6)
  refine Dn.of st3 ?_
  show Dn p e below s _ _ _ (T3.setTop (mkF m 9 #[.val (.ref a)] []))
  have N1 := Fr.snoc X3 (Fr.app N0 M1) g0
  exact Dn.retV X3 hx hlk hret (hb hby d4_9) (by decide) (by decide) (by rw [e3]; exact ⟨rfl, N1, (Keep.refl h0 [a]).wr W3 (Or.inl (List.mem_of_getElem? (i := 0) rfl)), F2.other W3 (Or.inr sn)⟩)
theorem ef3_A (m : MethodId) (x0 : Addr) : entryFrame m #[(.ref x0)] 1 = mkF m 0 #[.val (.ref x0)] [] := by first | (simp [entryFrame, mkF, argsToLocals, Value.category]; done) | rfl
set_option maxRecDepth 65536 in
set_option maxHeartbeats 40000000 in
theorem rmAL (l : Launch) (Z : State) (a0 : Array Value) (hw : ∀ d ∈ tables_1, d.before a0 Z = true) (h0 : Heap) (n0 : Nat) (Z0 : n0 ≤ h0.size) (a aD : Addr) (SD : Sta Z Z.heap "java/util/ArrayList" "DEFAULTCAPACITY_EMPTY_ELEMENTDATA" "[Ljava/lang/Object;" (.ref aD)) (O0 : Old Z n0 h0) (E0 : Exa Z h0 a "java/util/ArrayList") (F1 : Fld Z h0 a "java/util/AbstractList" "modCount" "I" (.int (0 : Int32))) (F2 : Fld Z h0 a "java/util/ArrayList" "elementData" "[Ljava/lang/Object;" .null) (g0 : n0 ≤ a) :
    ctr l Z (⟨"java/util/ArrayList", "<init>", "()V"⟩ : MethodName) jdk_38_method_2_code 1 none [] ({ frames := 3, cells := 0, slots := 0, locals := 36 } : Room) 0 0 #[(.ref a)] h0 (fun v h L => v = none ∧ Fr n0 L ∧ Keep h0 h [a]) := by
  refine ctr_of (plainFor_of_name pn2) ?_
  intro p e s m below meth jc s₁ hx hby hml hret hlk hnm hown hZ e0 X0
  have N0 := Fr.nil n0
  refine Dn.cast (ef3_A m a) ?_
  show Dn p e below s _ _ _ (s₁.setTop (mkF m 0 #[.val (.ref a)] []))
  refine Dn.of (fun tt_ zz_ => XS.aloadN X0.here hx rfl (hb hby d3_0) rfl rfl zz_) ?_
  show Dn p e below s _ _ _ (s₁.setTop (mkF m 1 #[.val (.ref a)] [(.ref a)]))
  obtain ⟨v4, T4, L4, Q4, X4, st4⟩ := cIn X0 hx hZ (y := (⟨"java/util/AbstractList", "<init>", "()V"⟩ : MethodName)) rfl hown (hw _ (List.mem_of_getElem? (i := 16) rfl)) (hw _ (List.mem_of_getElem? (i := 17) rfl)) (hw _ (List.mem_of_getElem? (i := 20) rfl)) (hw _ (List.mem_of_getElem? (i := 21) rfl)) (by decide) (a := a) (argsL := []) (rest := []) (rmAL0 l Z a0 hw h0 n0 Z0 a E0 F1 F2 g0) e0  0 (by decide) (by decide) (by decide) (by decide) (g := (mkF m 1 #[.val (.ref a)] [(.ref a)])) rfl (by rw [hml]; rfl) (lenOf pd0 rfl) rfl (by show 2 * 0 + _ ≤ _; exact Nat.le_of_eq rfl) (hb hby d3_1)
  obtain ⟨rfl, M1, K1, F2'⟩ := Q4
  refine Dn.of st4 ?_
  show Dn p e below s _ _ _ (T4.setTop (mkF m 4 #[.val (.ref a)] []))
  have O1 := O0.keep K1 (allS g0 all0)
  refine Dn.of (fun tt_ zz_ => XS.aloadN X4.here hx rfl (hb hby d3_4) rfl rfl zz_) ?_
  show Dn p e below s _ _ _ (T4.setTop (mkF m 5 #[.val (.ref a)] [(.ref a)]))
  obtain ⟨T5, X5, e5, st5⟩ := getS2 X4 hx hZ hown (host := "") (Or.inl (hw _ (List.mem_of_getElem? (i := 31) rfl))) Via.refl rfl (SD.ext O1.2) (g := (mkF m 5 #[.val (.ref a)] [(.ref a)])) rfl (hb hby d3_5)
  refine Dn.of st5 ?_
  show Dn p e below s _ _ _ (T5.setTop (mkF m 8 #[.val (.ref a)] [(.ref aD), (.ref a)]))
  obtain ⟨T6, h6, X6, e6, W6, st6⟩ := putF X5 hx hZ hown (host := "") (Or.inl (hw _ (List.mem_of_getElem? (i := 32) rfl))) Via.refl e5 F2' (E0.keep K1) (Or.inl (hw _ (List.mem_of_getElem? (i := 33) rfl))) (hw _ (List.mem_of_getElem? (i := 11) rfl)) (ty := (.array (.object "java/lang/Object"))) (by decide) rfl rfl (g := (mkF m 8 #[.val (.ref a)] [(.ref aD), (.ref a)])) rfl rfl (hb hby d3_8)
  refine Dn.of st6 ?_
  show Dn p e below s _ _ _ (T6.setTop (mkF m 11 #[.val (.ref a)] []))
  have N1 := Fr.snoc X6 (Fr.app N0 M1) g0
  exact Dn.retV X6 hx hlk hret (hb hby d3_11) (by decide) (by decide) (by rw [e6]; exact ⟨rfl, N1, K1.wr W6 (Or.inl (List.mem_of_getElem? (i := 0) rfl))⟩)
theorem ef1_A (m : MethodId) (x0 : Addr) : entryFrame m #[(.ref x0)] 1 = mkF m 0 #[.val (.ref x0)] [] := by first | (simp [entryFrame, mkF, argsToLocals, Value.category]; done) | rfl
set_option maxRecDepth 65536 in
set_option maxHeartbeats 40000000 in
theorem rmB (l : Launch) (Z : State) (a0 : Array Value) (hw : ∀ d ∈ tables_1, d.before a0 Z = true) (h0 : Heap) (n0 : Nat) (Z0 : n0 ≤ h0.size) (a aD : Addr) (SD : Sta Z Z.heap "java/util/ArrayList" "DEFAULTCAPACITY_EMPTY_ELEMENTDATA" "[Ljava/lang/Object;" (.ref aD)) (O0 : Old Z n0 h0) (E0 : Exa Z h0 a "com/example/warmfront/warmfront/ir/Block") (F1 : Fld Z h0 a "com/example/warmfront/warmfront/ir/Block" "predecessors" "Ljava/util/List;" .null) (F2 : Fld Z h0 a "com/example/warmfront/warmfront/ir/Block" "phis" "Ljava/util/List;" .null) (F3 : Fld Z h0 a "com/example/warmfront/warmfront/ir/Block" "applies" "Ljava/util/List;" .null) (g0 : n0 ≤ a) :
    ctr l Z (⟨"com/example/warmfront/warmfront/ir/Block", "<init>", "()V"⟩ : MethodName) prog_10_method_1_code 1 none [] ({ frames := 4, cells := 3, slots := 9, locals := 52 } : Room) 3 9 #[(.ref a)] h0 (fun v h L => v = none ∧ Fr n0 L ∧ Keep h0 h [a]) := by
  refine ctr_of (plainFor_of_name pn3) ?_
  intro p e s m below meth jc s₁ hx hby hml hret hlk hnm hown hZ e0 X0
  have N0 := Fr.nil n0
  refine Dn.cast (ef1_A m a) ?_
  show Dn p e below s _ _ _ (s₁.setTop (mkF m 0 #[.val (.ref a)] []))
  have s10 : Jvm.RoadKit.slotOf Z "com/example/warmfront/warmfront/ir/Block" "phis" "Ljava/util/List;" ≠ Jvm.RoadKit.slotOf Z "com/example/warmfront/warmfront/ir/Block" "predecessors" "Ljava/util/List;" := slot_ne (Or.inr (hw _ (List.mem_of_getElem? (i := 37) rfl))) (Or.inr (hw _ (List.mem_of_getElem? (i := 35) rfl))) (by decide) (t := (.object "java/util/List")) (t' := (.object "java/util/List")) (by decide) (by decide)
  have s20 : Jvm.RoadKit.slotOf Z "com/example/warmfront/warmfront/ir/Block" "applies" "Ljava/util/List;" ≠ Jvm.RoadKit.slotOf Z "com/example/warmfront/warmfront/ir/Block" "predecessors" "Ljava/util/List;" := slot_ne (Or.inr (hw _ (List.mem_of_getElem? (i := 39) rfl))) (Or.inr (hw _ (List.mem_of_getElem? (i := 35) rfl))) (by decide) (t := (.object "java/util/List")) (t' := (.object "java/util/List")) (by decide) (by decide)
  have s21 : Jvm.RoadKit.slotOf Z "com/example/warmfront/warmfront/ir/Block" "applies" "Ljava/util/List;" ≠ Jvm.RoadKit.slotOf Z "com/example/warmfront/warmfront/ir/Block" "phis" "Ljava/util/List;" := slot_ne (Or.inr (hw _ (List.mem_of_getElem? (i := 39) rfl))) (Or.inr (hw _ (List.mem_of_getElem? (i := 37) rfl))) (by decide) (t := (.object "java/util/List")) (t' := (.object "java/util/List")) (by decide) (by decide)
  have K0 := Keep.refl h0 [a]
  refine Dn.of (fun tt_ zz_ => XS.aloadN X0.here hx rfl (hb hby d1_0) rfl rfl zz_) ?_
  show Dn p e below s _ _ _ (s₁.setTop (mkF m 1 #[.val (.ref a)] [(.ref a)]))
  obtain ⟨T7, X7, e7, st7⟩ := initO X0 hx hZ hown (hw _ (List.mem_of_getElem? (i := 7) rfl)) (hw _ (List.mem_of_getElem? (i := 8) rfl)) (hw _ (List.mem_of_getElem? (i := 9) rfl)) e0 (g := (mkF m 1 #[.val (.ref a)] [(.ref a)])) rfl (by rw [hml]; rfl) rfl (hb hby d1_1) (by decide) (W := 0) (by show 2 * 0 + _ ≤ _; exact Nat.le_of_eq rfl) (by decide)
  refine Dn.of st7 ?_
  show Dn p e below s _ _ _ (T7.setTop (mkF m 4 #[.val (.ref a)] []))
  refine Dn.of (fun tt_ zz_ => XS.aloadN X7.here hx rfl (hb hby d1_4) rfl rfl zz_) ?_
  show Dn p e below s _ _ _ (T7.setTop (mkF m 5 #[.val (.ref a)] [(.ref a)]))
  obtain ⟨T8, h8, X8, e8, E8, A8, D8, U8, st8⟩ := newO X7 hx hZ hown (hw _ (List.mem_of_getElem? (i := 10) rfl)) (hw _ (List.mem_of_getElem? (i := 11) rfl)) (hw _ (List.mem_of_getElem? (i := 12) rfl)) e7 (g := (mkF m 5 #[.val (.ref a)] [(.ref a)])) rfl (hb hby d1_5) (by decide) (by decide)
  obtain ⟨b8, g8⟩ : ∃ z, z = h0.size := ⟨_, rfl⟩
  rw [← g8] at A8 D8 U8 st8
  refine Dn.of st8 ?_
  show Dn p e below s _ _ _ (T8.setTop (mkF m 8 #[.val (.ref a)] [(.ref b8), (.ref a)]))
  have F_modCount_8 : Fld Z h8 b8 "java/util/AbstractList" "modCount" "I" (.int (0 : Int32)) := D8 (Or.inl (hw _ (List.mem_of_getElem? (i := 30) rfl))) (ty := .int) (by decide)
  have F_elementData_8 : Fld Z h8 b8 "java/util/ArrayList" "elementData" "[Ljava/lang/Object;" .null := D8 (Or.inl (hw _ (List.mem_of_getElem? (i := 33) rfl))) (ty := (.array (.object "java/lang/Object"))) (by decide)
  have za8 : n0 ≤ h8.size := Nat.le_trans (Nat.le_trans Z0 K0.1) E8.1
  have gb8 : n0 ≤ b8 := g8 ▸ Nat.le_trans Z0 K0.1
  have lb8 : h0.size ≤ b8 := g8 ▸ K0.1
  refine Dn.of (fun tt_ zz_ => XS.dup X8.here hx rfl (hb hby d1_8) rfl rfl zz_) ?_
  show Dn p e below s _ _ _ (T8.setTop (mkF m 9 #[.val (.ref a)] [(.ref b8), (.ref b8), (.ref a)]))
  obtain ⟨v9, T9, L9, Q9, X9, st9⟩ := cIn X8 hx hZ (y := (⟨"java/util/ArrayList", "<init>", "()V"⟩ : MethodName)) rfl hown (hw _ (List.mem_of_getElem? (i := 13) rfl)) (hw _ (List.mem_of_getElem? (i := 14) rfl)) (hw _ (List.mem_of_getElem? (i := 12) rfl)) (hw _ (List.mem_of_getElem? (i := 15) rfl)) (by decide) (a := b8) (argsL := []) (rest := [(.ref b8), (.ref a)]) (rmAL l Z a0 hw h8 n0 za8 b8 aD SD (O0.ext E8) A8 F_modCount_8 F_elementData_8 gb8) e8  2 (by decide) (by decide) (by decide) (by decide) (g := (mkF m 9 #[.val (.ref a)] [(.ref b8), (.ref b8), (.ref a)])) rfl (by rw [hml]; rfl) (lenOf pd0 rfl) rfl (by show 2 * 0 + _ ≤ _; exact Nat.le_of_eq rfl) (hb hby d1_9)
  obtain ⟨rfl, M9, K9⟩ := Q9
  refine Dn.of st9 ?_
  show Dn p e below s _ _ _ (T9.setTop (mkF m 12 #[.val (.ref a)] [(.ref b8), (.ref a)]))
  have nt8 : a ∉ [b8] := ninS (Nat.ne_of_lt (g8 ▸ E0.lt)) nin0
  obtain ⟨T10, h10, X10, e10, W10, st10⟩ := putF X9 hx hZ hown (host := "") (Or.inl (hw _ (List.mem_of_getElem? (i := 34) rfl))) Via.refl rfl ((F1.ext E8).keep K9 nt8) ((E0.ext E8).keep K9) (Or.inr ⟨(hw _ (List.mem_of_getElem? (i := 35) rfl)), rfl, hnm⟩) (hw _ (List.mem_of_getElem? (i := 2) rfl)) (ty := (.object "java/util/List")) (by decide) rfl rfl (g := (mkF m 12 #[.val (.ref a)] [(.ref b8), (.ref a)])) rfl rfl (hb hby d1_12)
  refine Dn.of st10 ?_
  show Dn p e below s _ _ _ (T10.setTop (mkF m 15 #[.val (.ref a)] []))
  have Kb10 := ((K0.ext E8).trans K9 (allS (Or.inr lb8) all0)).wr W10 (Or.inl (List.mem_of_getElem? (i := 0) rfl))
  have Ob10 := ((O0.ext E8).keep K9 (allS gb8 all0)).wr W10 g0
  have Nb10 := Fr.snoc X10 (Fr.app N0 M9) g0
  have Eb10 := ((E0.ext E8).keep K9).wr W10
  have F2a := ((F2.ext E8).keep K9 nt8).other W10 (Or.inr s10)
  have F3a := ((F3.ext E8).keep K9 nt8).other W10 (Or.inr s20)
  refine Dn.of (fun tt_ zz_ => XS.aloadN X10.here hx rfl (hb hby d1_15) rfl rfl zz_) ?_
  show Dn p e below s _ _ _ (T10.setTop (mkF m 16 #[.val (.ref a)] [(.ref a)]))
  obtain ⟨T11, h11, X11, e11, E11, A11, D11, U11, st11⟩ := newO X10 hx hZ hown (hw _ (List.mem_of_getElem? (i := 10) rfl)) (hw _ (List.mem_of_getElem? (i := 11) rfl)) (hw _ (List.mem_of_getElem? (i := 12) rfl)) e10 (g := (mkF m 16 #[.val (.ref a)] [(.ref a)])) rfl (hb hby d1_16) (by decide) (by decide)
  obtain ⟨b11, g11⟩ : ∃ z, z = h10.size := ⟨_, rfl⟩
  rw [← g11] at A11 D11 U11 st11
  refine Dn.of st11 ?_
  show Dn p e below s _ _ _ (T11.setTop (mkF m 19 #[.val (.ref a)] [(.ref b11), (.ref a)]))
  have F_modCount_11 : Fld Z h11 b11 "java/util/AbstractList" "modCount" "I" (.int (0 : Int32)) := D11 (Or.inl (hw _ (List.mem_of_getElem? (i := 30) rfl))) (ty := .int) (by decide)
  have F_elementData_11 : Fld Z h11 b11 "java/util/ArrayList" "elementData" "[Ljava/lang/Object;" .null := D11 (Or.inl (hw _ (List.mem_of_getElem? (i := 33) rfl))) (ty := (.array (.object "java/lang/Object"))) (by decide)
  have za11 : n0 ≤ h11.size := Nat.le_trans (Nat.le_trans Z0 Kb10.1) E11.1
  have gb11 : n0 ≤ b11 := g11 ▸ Nat.le_trans Z0 Kb10.1
  have lb11 : h0.size ≤ b11 := g11 ▸ Kb10.1
  refine Dn.of (fun tt_ zz_ => XS.dup X11.here hx rfl (hb hby d1_19) rfl rfl zz_) ?_
  show Dn p e below s _ _ _ (T11.setTop (mkF m 20 #[.val (.ref a)] [(.ref b11), (.ref b11), (.ref a)]))
  obtain ⟨v12, T12, L12, Q12, X12, st12⟩ := cIn X11 hx hZ (y := (⟨"java/util/ArrayList", "<init>", "()V"⟩ : MethodName)) rfl hown (hw _ (List.mem_of_getElem? (i := 13) rfl)) (hw _ (List.mem_of_getElem? (i := 14) rfl)) (hw _ (List.mem_of_getElem? (i := 12) rfl)) (hw _ (List.mem_of_getElem? (i := 15) rfl)) (by decide) (a := b11) (argsL := []) (rest := [(.ref b11), (.ref a)]) (rmAL l Z a0 hw h11 n0 za11 b11 aD SD (Ob10.ext E11) A11 F_modCount_11 F_elementData_11 gb11) e11  2 (by decide) (by decide) (by decide) (by decide) (g := (mkF m 20 #[.val (.ref a)] [(.ref b11), (.ref b11), (.ref a)])) rfl (by rw [hml]; rfl) (lenOf pd0 rfl) rfl (by show 2 * 0 + _ ≤ _; exact Nat.le_of_eq rfl) (hb hby d1_20)
  obtain ⟨rfl, M12, K12⟩ := Q12
  refine Dn.of st12 ?_
  show Dn p e below s _ _ _ (T12.setTop (mkF m 23 #[.val (.ref a)] [(.ref b11), (.ref a)]))
  have nt11 : a ∉ [b11] := ninS (Nat.ne_of_lt (g11 ▸ Eb10.lt)) nin0
  obtain ⟨T13, h13, X13, e13, W13, st13⟩ := putF X12 hx hZ hown (host := "") (Or.inl (hw _ (List.mem_of_getElem? (i := 36) rfl))) Via.refl rfl ((F2a.ext E11).keep K12 nt11) ((Eb10.ext E11).keep K12) (Or.inr ⟨(hw _ (List.mem_of_getElem? (i := 37) rfl)), rfl, hnm⟩) (hw _ (List.mem_of_getElem? (i := 2) rfl)) (ty := (.object "java/util/List")) (by decide) rfl rfl (g := (mkF m 23 #[.val (.ref a)] [(.ref b11), (.ref a)])) rfl rfl (hb hby d1_23)
  refine Dn.of st13 ?_
  show Dn p e below s _ _ _ (T13.setTop (mkF m 26 #[.val (.ref a)] []))
  have Kb13 := ((Kb10.ext E11).trans K12 (allS (Or.inr lb11) all0)).wr W13 (Or.inl (List.mem_of_getElem? (i := 0) rfl))
  have Ob13 := ((Ob10.ext E11).keep K12 (allS gb11 all0)).wr W13 g0
  have Nb13 := Fr.snoc X13 (Fr.app Nb10 M12) g0
  have Eb13 := ((Eb10.ext E11).keep K12).wr W13
  have F3b := ((F3a.ext E11).keep K12 nt11).other W13 (Or.inr s21)
  refine Dn.of (fun tt_ zz_ => XS.aloadN X13.here hx rfl (hb hby d1_26) rfl rfl zz_) ?_
  show Dn p e below s _ _ _ (T13.setTop (mkF m 27 #[.val (.ref a)] [(.ref a)]))
  obtain ⟨T14, h14, X14, e14, E14, A14, D14, U14, st14⟩ := newO X13 hx hZ hown (hw _ (List.mem_of_getElem? (i := 10) rfl)) (hw _ (List.mem_of_getElem? (i := 11) rfl)) (hw _ (List.mem_of_getElem? (i := 12) rfl)) e13 (g := (mkF m 27 #[.val (.ref a)] [(.ref a)])) rfl (hb hby d1_27) (by decide) (by decide)
  obtain ⟨b14, g14⟩ : ∃ z, z = h13.size := ⟨_, rfl⟩
  rw [← g14] at A14 D14 U14 st14
  refine Dn.of st14 ?_
  show Dn p e below s _ _ _ (T14.setTop (mkF m 30 #[.val (.ref a)] [(.ref b14), (.ref a)]))
  have F_modCount_14 : Fld Z h14 b14 "java/util/AbstractList" "modCount" "I" (.int (0 : Int32)) := D14 (Or.inl (hw _ (List.mem_of_getElem? (i := 30) rfl))) (ty := .int) (by decide)
  have F_elementData_14 : Fld Z h14 b14 "java/util/ArrayList" "elementData" "[Ljava/lang/Object;" .null := D14 (Or.inl (hw _ (List.mem_of_getElem? (i := 33) rfl))) (ty := (.array (.object "java/lang/Object"))) (by decide)
  have za14 : n0 ≤ h14.size := Nat.le_trans (Nat.le_trans Z0 Kb13.1) E14.1
  have gb14 : n0 ≤ b14 := g14 ▸ Nat.le_trans Z0 Kb13.1
  have lb14 : h0.size ≤ b14 := g14 ▸ Kb13.1
  refine Dn.of (fun tt_ zz_ => XS.dup X14.here hx rfl (hb hby d1_30) rfl rfl zz_) ?_
  show Dn p e below s _ _ _ (T14.setTop (mkF m 31 #[.val (.ref a)] [(.ref b14), (.ref b14), (.ref a)]))
  obtain ⟨v15, T15, L15, Q15, X15, st15⟩ := cIn X14 hx hZ (y := (⟨"java/util/ArrayList", "<init>", "()V"⟩ : MethodName)) rfl hown (hw _ (List.mem_of_getElem? (i := 13) rfl)) (hw _ (List.mem_of_getElem? (i := 14) rfl)) (hw _ (List.mem_of_getElem? (i := 12) rfl)) (hw _ (List.mem_of_getElem? (i := 15) rfl)) (by decide) (a := b14) (argsL := []) (rest := [(.ref b14), (.ref a)]) (rmAL l Z a0 hw h14 n0 za14 b14 aD SD (Ob13.ext E14) A14 F_modCount_14 F_elementData_14 gb14) e14  2 (by decide) (by decide) (by decide) (by decide) (g := (mkF m 31 #[.val (.ref a)] [(.ref b14), (.ref b14), (.ref a)])) rfl (by rw [hml]; rfl) (lenOf pd0 rfl) rfl (by show 2 * 0 + _ ≤ _; exact Nat.le_of_eq rfl) (hb hby d1_31)
  obtain ⟨rfl, M15, K15⟩ := Q15
  refine Dn.of st15 ?_
  show Dn p e below s _ _ _ (T15.setTop (mkF m 34 #[.val (.ref a)] [(.ref b14), (.ref a)]))
  have nt14 : a ∉ [b14] := ninS (Nat.ne_of_lt (g14 ▸ Eb13.lt)) nin0
  obtain ⟨T16, h16, X16, e16, W16, st16⟩ := putF X15 hx hZ hown (host := "") (Or.inl (hw _ (List.mem_of_getElem? (i := 38) rfl))) Via.refl rfl ((F3b.ext E14).keep K15 nt14) ((Eb13.ext E14).keep K15) (Or.inr ⟨(hw _ (List.mem_of_getElem? (i := 39) rfl)), rfl, hnm⟩) (hw _ (List.mem_of_getElem? (i := 2) rfl)) (ty := (.object "java/util/List")) (by decide) rfl rfl (g := (mkF m 34 #[.val (.ref a)] [(.ref b14), (.ref a)])) rfl rfl (hb hby d1_34)
  refine Dn.of st16 ?_
  show Dn p e below s _ _ _ (T16.setTop (mkF m 37 #[.val (.ref a)] []))
  have Kb16 := ((Kb13.ext E14).trans K15 (allS (Or.inr lb14) all0)).wr W16 (Or.inl (List.mem_of_getElem? (i := 0) rfl))
  have Ob16 := ((Ob13.ext E14).keep K15 (allS gb14 all0)).wr W16 g0
  have Nb16 := Fr.snoc X16 (Fr.app Nb13 M15) g0
  have Eb16 := ((Eb13.ext E14).keep K15).wr W16
  exact Dn.retV X16 hx hlk hret (hb hby d1_37) (by decide) (by decide) (by rw [e16]; exact ⟨rfl, Nb16, Kb16⟩)
theorem ef11_A (m : MethodId) (x0 : Addr) : entryFrame m #[(.ref x0)] 1 = mkF m 0 #[.val (.ref x0)] [] := by first | (simp [entryFrame, mkF, argsToLocals, Value.category]; done) | rfl
set_option maxRecDepth 65536 in
set_option maxHeartbeats 40000000 in
theorem rmSz (l : Launch) (Z : State) (a0 : Array Value) (hw : ∀ d ∈ tables_1, d.before a0 Z = true) (h0 : Heap) (n0 : Nat) (Z0 : n0 ≤ h0.size) (aE aX : Addr) (lX : Cell) (EE : Exa Z Z.heap aE "java/util/ImmutableCollections$ListN") (FX : Fld Z Z.heap aE "java/util/ImmutableCollections$ListN" "elements" "[Ljava/lang/Object;" (.ref aX)) (RX : Arr Z Z.heap aX lX (.object "java/lang/Object")) (zX : lX.slots.size = 0) (O0 : Old Z n0 h0) :
    ctr l Z (⟨"java/util/ImmutableCollections$ListN", "size", "()I"⟩ : MethodName) jdk_45_method_3_code 1 (some .int) [] ({ frames := 0, cells := 0, slots := 0, locals := 0 } : Room) 0 0 #[(.ref aE)] h0 (fun v h L => v = some (.int (0 : Int32)) ∧ Fr n0 L ∧ h = h0) := by
  refine ctr_of (plainFor_of_name pn4) ?_
  intro p e s m below meth jc s₁ hx hby hml hret hlk hnm hown hZ e0 X0
  have N0 := Fr.nil n0
  refine Dn.cast (ef11_A m aE) ?_
  show Dn p e below s _ _ _ (s₁.setTop (mkF m 0 #[.val (.ref aE)] []))
  refine Dn.of (fun tt_ zz_ => XS.aloadN X0.here hx rfl (hb hby d11_0) rfl rfl zz_) ?_
  show Dn p e below s _ _ _ (s₁.setTop (mkF m 1 #[.val (.ref aE)] [(.ref aE)]))
  obtain ⟨T17, X17, e17, st17⟩ := getF X0 hx hZ hown (host := "") (Or.inl (hw _ (List.mem_of_getElem? (i := 93) rfl))) Via.refl e0 (FX.ext O0.2) (g := (mkF m 1 #[.val (.ref aE)] [(.ref aE)])) rfl rfl (hb hby d11_1)
  refine Dn.of st17 ?_
  show Dn p e below s _ _ _ (T17.setTop (mkF m 4 #[.val (.ref aE)] [(.ref aX)]))
  refine Dn.of (fun tt_ zz_ => X17.arraylength hx (by rw [e17]; exact (RX.ext O0.2).1) (State.isArrayOf_alike hZ.alike (RX.ext O0.2).2.1) (g := (mkF m 4 #[.val (.ref aE)] [(.ref aX)])) rfl rfl (hb hby d11_4) tt_ zz_) ?_
  rw [zX, show (0 : Nat).toInt32 = (0 : Int32) by decide]
  show Dn p e below s _ _ _ (T17.setTop (mkF m 5 #[.val (.ref aE)] [(.int (0 : Int32))]))
  exact Dn.retI X17 hx hlk hret (hb hby d11_5) (by decide) (by decide) (⟨rfl, N0, e17⟩)
theorem ef12_AAI (m : MethodId) (x0 : Addr) (x1 : Addr) (x2 : Int32) : entryFrame m #[(.ref x0), (.ref x1), (.int x2)] 3 = mkF m 0 #[.val (.ref x0), .val (.ref x1), .val (.int x2)] [] := by first | (simp [entryFrame, mkF, argsToLocals, Value.category]; done) | rfl
set_option maxRecDepth 65536 in
set_option maxHeartbeats 40000000 in
theorem rmLI (l : Launch) (Z : State) (a0 : Array Value) (hw : ∀ d ∈ tables_1, d.before a0 Z = true) (h0 : Heap) (n0 : Nat) (Z0 : n0 ≤ h0.size) (a u : Addr) (E0 : Exa Z h0 a "java/util/ImmutableCollections$ListItr") (F0 : Fld Z h0 a "java/util/ImmutableCollections$ListItr" "list" "Ljava/util/List;" .null) (F1 : Fld Z h0 a "java/util/ImmutableCollections$ListItr" "size" "I" (.int (0 : Int32))) (F2 : Fld Z h0 a "java/util/ImmutableCollections$ListItr" "cursor" "I" (.int (0 : Int32))) (F3 : Fld Z h0 a "java/util/ImmutableCollections$ListItr" "isListIterator" "Z" (.int (0 : Int32))) (g0 : n0 ≤ a) :
    ctr l Z (⟨"java/util/ImmutableCollections$ListItr", "<init>", "(Ljava/util/List;I)V"⟩ : MethodName) jdk_53_method_1_code 3 none [] ({ frames := 1, cells := 0, slots := 0, locals := 12 } : Room) 0 0 #[(.ref a), (.ref u), (.int (0 : Int32))] h0 (fun v h L => v = none ∧ Fr n0 L ∧ Keep h0 h [a] ∧ Fld Z h a "java/util/ImmutableCollections$ListItr" "size" "I" (.int (0 : Int32)) ∧ Fld Z h a "java/util/ImmutableCollections$ListItr" "cursor" "I" (.int (0 : Int32))) := by
  refine ctr_of (plainFor_of_name pn5) ?_
  intro p e s m below meth jc s₁ hx hby hml hret hlk hnm hown hZ e0 X0
  have N0 := Fr.nil n0
  refine Dn.cast (ef12_AAI m a u (0 : Int32)) ?_
  show Dn p e below s _ _ _ (s₁.setTop (mkF m 0 #[.val (.ref a), .val (.ref u), .val (.int (0 : Int32))] []))
  have s10 : Jvm.RoadKit.slotOf Z "java/util/ImmutableCollections$ListItr" "size" "I" ≠ Jvm.RoadKit.slotOf Z "java/util/ImmutableCollections$ListItr" "list" "Ljava/util/List;" := slot_ne (Or.inr (hw _ (List.mem_of_getElem? (i := 103) rfl))) (Or.inr (hw _ (List.mem_of_getElem? (i := 101) rfl))) (by decide) (t := .int) (t' := (.object "java/util/List")) (by decide) (by decide)
  have s12 : Jvm.RoadKit.slotOf Z "java/util/ImmutableCollections$ListItr" "size" "I" ≠ Jvm.RoadKit.slotOf Z "java/util/ImmutableCollections$ListItr" "cursor" "I" := slot_ne (Or.inr (hw _ (List.mem_of_getElem? (i := 103) rfl))) (Or.inl (hw _ (List.mem_of_getElem? (i := 105) rfl))) (by decide) (t := .int) (t' := .int) (by decide) (by decide)
  have s13 : Jvm.RoadKit.slotOf Z "java/util/ImmutableCollections$ListItr" "size" "I" ≠ Jvm.RoadKit.slotOf Z "java/util/ImmutableCollections$ListItr" "isListIterator" "Z" := slot_ne (Or.inr (hw _ (List.mem_of_getElem? (i := 103) rfl))) (Or.inr (hw _ (List.mem_of_getElem? (i := 107) rfl))) (by decide) (t := .int) (t' := .boolean) (by decide) (by decide)
  have s20 : Jvm.RoadKit.slotOf Z "java/util/ImmutableCollections$ListItr" "cursor" "I" ≠ Jvm.RoadKit.slotOf Z "java/util/ImmutableCollections$ListItr" "list" "Ljava/util/List;" := slot_ne (Or.inl (hw _ (List.mem_of_getElem? (i := 105) rfl))) (Or.inr (hw _ (List.mem_of_getElem? (i := 101) rfl))) (by decide) (t := .int) (t' := (.object "java/util/List")) (by decide) (by decide)
  have s21 : Jvm.RoadKit.slotOf Z "java/util/ImmutableCollections$ListItr" "cursor" "I" ≠ Jvm.RoadKit.slotOf Z "java/util/ImmutableCollections$ListItr" "size" "I" := slot_ne (Or.inl (hw _ (List.mem_of_getElem? (i := 105) rfl))) (Or.inr (hw _ (List.mem_of_getElem? (i := 103) rfl))) (by decide) (t := .int) (t' := .int) (by decide) (by decide)
  have s23 : Jvm.RoadKit.slotOf Z "java/util/ImmutableCollections$ListItr" "cursor" "I" ≠ Jvm.RoadKit.slotOf Z "java/util/ImmutableCollections$ListItr" "isListIterator" "Z" := slot_ne (Or.inl (hw _ (List.mem_of_getElem? (i := 105) rfl))) (Or.inr (hw _ (List.mem_of_getElem? (i := 107) rfl))) (by decide) (t := .int) (t' := .boolean) (by decide) (by decide)
  have s30 : Jvm.RoadKit.slotOf Z "java/util/ImmutableCollections$ListItr" "isListIterator" "Z" ≠ Jvm.RoadKit.slotOf Z "java/util/ImmutableCollections$ListItr" "list" "Ljava/util/List;" := slot_ne (Or.inr (hw _ (List.mem_of_getElem? (i := 107) rfl))) (Or.inr (hw _ (List.mem_of_getElem? (i := 101) rfl))) (by decide) (t := .boolean) (t' := (.object "java/util/List")) (by decide) (by decide)
  have s31 : Jvm.RoadKit.slotOf Z "java/util/ImmutableCollections$ListItr" "isListIterator" "Z" ≠ Jvm.RoadKit.slotOf Z "java/util/ImmutableCollections$ListItr" "size" "I" := slot_ne (Or.inr (hw _ (List.mem_of_getElem? (i := 107) rfl))) (Or.inr (hw _ (List.mem_of_getElem? (i := 103) rfl))) (by decide) (t := .boolean) (t' := .int) (by decide) (by decide)
  have s32 : Jvm.RoadKit.slotOf Z "java/util/ImmutableCollections$ListItr" "isListIterator" "Z" ≠ Jvm.RoadKit.slotOf Z "java/util/ImmutableCollections$ListItr" "cursor" "I" := slot_ne (Or.inr (hw _ (List.mem_of_getElem? (i := 107) rfl))) (Or.inl (hw _ (List.mem_of_getElem? (i := 105) rfl))) (by decide) (t := .boolean) (t' := .int) (by decide) (by decide)
  refine Dn.of (fun tt_ zz_ => XS.aloadN X0.here hx rfl (hb hby d12_0) rfl rfl zz_) ?_
  show Dn p e below s _ _ _ (s₁.setTop (mkF m 1 #[.val (.ref a), .val (.ref u), .val (.int (0 : Int32))] [(.ref a)]))
  obtain ⟨T18, X18, e18, st18⟩ := initO X0 hx hZ hown (hw _ (List.mem_of_getElem? (i := 99) rfl)) (hw _ (List.mem_of_getElem? (i := 8) rfl)) (hw _ (List.mem_of_getElem? (i := 9) rfl)) e0 (g := (mkF m 1 #[.val (.ref a), .val (.ref u), .val (.int (0 : Int32))] [(.ref a)])) rfl (by rw [hml]; rfl) rfl (hb hby d12_1) (by decide) (W := 0) (by show 2 * 0 + _ ≤ _; exact Nat.le_of_eq rfl) (by decide)
  refine Dn.of st18 ?_
  show Dn p e below s _ _ _ (T18.setTop (mkF m 4 #[.val (.ref a), .val (.ref u), .val (.int (0 : Int32))] []))
  refine Dn.of (fun tt_ zz_ => XS.aloadN X18.here hx rfl (hb hby d12_4) rfl rfl zz_) ?_
  show Dn p e below s _ _ _ (T18.setTop (mkF m 5 #[.val (.ref a), .val (.ref u), .val (.int (0 : Int32))] [(.ref a)]))
  refine Dn.of (fun tt_ zz_ => XS.aloadN X18.here hx rfl (hb hby d12_5) rfl rfl zz_) ?_
  show Dn p e below s _ _ _ (T18.setTop (mkF m 6 #[.val (.ref a), .val (.ref u), .val (.int (0 : Int32))] [(.ref u), (.ref a)]))
  obtain ⟨T19, h19, X19, e19, W19, st19⟩ := putF X18 hx hZ hown (host := "") (Or.inl (hw _ (List.mem_of_getElem? (i := 100) rfl))) Via.refl e18 (F0) (E0) (Or.inr ⟨(hw _ (List.mem_of_getElem? (i := 101) rfl)), rfl, hnm⟩) (hw _ (List.mem_of_getElem? (i := 84) rfl)) (ty := (.object "java/util/List")) (by decide) rfl rfl (g := (mkF m 6 #[.val (.ref a), .val (.ref u), .val (.int (0 : Int32))] [(.ref u), (.ref a)])) rfl rfl (hb hby d12_6)
  refine Dn.of st19 ?_
  show Dn p e below s _ _ _ (T19.setTop (mkF m 9 #[.val (.ref a), .val (.ref u), .val (.int (0 : Int32))] []))
  have Nn0 := Fr.snoc X19 N0 g0
  refine Dn.of (fun tt_ zz_ => XS.aloadN X19.here hx rfl (hb hby d12_9) rfl rfl zz_) ?_
  show Dn p e below s _ _ _ (T19.setTop (mkF m 10 #[.val (.ref a), .val (.ref u), .val (.int (0 : Int32))] [(.ref a)]))
  refine Dn.of (fun tt_ zz_ => XS.iloadN X19.here hx rfl (hb hby d12_10) rfl zz_) ?_
  show Dn p e below s _ _ _ (T19.setTop (mkF m 11 #[.val (.ref a), .val (.ref u), .val (.int (0 : Int32))] [(.int (0 : Int32)), (.ref a)]))
  obtain ⟨T20, h20, X20, e20, W20, st20⟩ := putF X19 hx hZ hown (host := "") (Or.inl (hw _ (List.mem_of_getElem? (i := 102) rfl))) Via.refl e19 ((F1).other W19 (Or.inr s10)) ((E0).wr W19) (Or.inr ⟨(hw _ (List.mem_of_getElem? (i := 103) rfl)), rfl, hnm⟩) (hw _ (List.mem_of_getElem? (i := 84) rfl)) (ty := .int) (by decide) rfl rfl (g := (mkF m 11 #[.val (.ref a), .val (.ref u), .val (.int (0 : Int32))] [(.int (0 : Int32)), (.ref a)])) rfl rfl (hb hby d12_11)
  refine Dn.of st20 ?_
  show Dn p e below s _ _ _ (T20.setTop (mkF m 14 #[.val (.ref a), .val (.ref u), .val (.int (0 : Int32))] []))
  have Nn1 := Fr.snoc X20 Nn0 g0
  refine Dn.of (fun tt_ zz_ => XS.aloadN X20.here hx rfl (hb hby d12_14) rfl rfl zz_) ?_
  show Dn p e below s _ _ _ (T20.setTop (mkF m 15 #[.val (.ref a), .val (.ref u), .val (.int (0 : Int32))] [(.ref a)]))
  refine Dn.of (fun tt_ zz_ => XS.iconst X20.here hx rfl (hb hby d12_15) zz_) ?_
  show Dn p e below s _ _ _ (T20.setTop (mkF m 16 #[.val (.ref a), .val (.ref u), .val (.int (0 : Int32))] [(.int (0 : Int32)), (.ref a)]))
  obtain ⟨T21, h21, X21, e21, W21, st21⟩ := putF X20 hx hZ hown (host := "") (Or.inl (hw _ (List.mem_of_getElem? (i := 104) rfl))) Via.refl e20 (((F2).other W19 (Or.inr s20)).other W20 (Or.inr s21)) (((E0).wr W19).wr W20) (Or.inl (hw _ (List.mem_of_getElem? (i := 105) rfl))) (hw _ (List.mem_of_getElem? (i := 84) rfl)) (ty := .int) (by decide) rfl rfl (g := (mkF m 16 #[.val (.ref a), .val (.ref u), .val (.int (0 : Int32))] [(.int (0 : Int32)), (.ref a)])) rfl rfl (hb hby d12_16)
  refine Dn.of st21 ?_
  show Dn p e below s _ _ _ (T21.setTop (mkF m 19 #[.val (.ref a), .val (.ref u), .val (.int (0 : Int32))] []))
  have Nn2 := Fr.snoc X21 Nn1 g0
  refine Dn.of (fun tt_ zz_ => XS.aloadN X21.here hx rfl (hb hby d12_19) rfl rfl zz_) ?_
  show Dn p e below s _ _ _ (T21.setTop (mkF m 20 #[.val (.ref a), .val (.ref u), .val (.int (0 : Int32))] [(.ref a)]))
  refine Dn.of (fun tt_ zz_ => XS.iconst X21.here hx rfl (hb hby d12_20) zz_) ?_
  show Dn p e below s _ _ _ (T21.setTop (mkF m 21 #[.val (.ref a), .val (.ref u), .val (.int (0 : Int32))] [(.int (0 : Int32)), (.ref a)]))
  obtain ⟨T22, h22, X22, e22, W22, st22⟩ := putF X21 hx hZ hown (host := "") (Or.inl (hw _ (List.mem_of_getElem? (i := 106) rfl))) Via.refl e21 ((((F3).other W19 (Or.inr s30)).other W20 (Or.inr s31)).other W21 (Or.inr s32)) ((((E0).wr W19).wr W20).wr W21) (Or.inr ⟨(hw _ (List.mem_of_getElem? (i := 107) rfl)), rfl, hnm⟩) (hw _ (List.mem_of_getElem? (i := 84) rfl)) (ty := .boolean) (by decide) rfl rfl (g := (mkF m 21 #[.val (.ref a), .val (.ref u), .val (.int (0 : Int32))] [(.int (0 : Int32)), (.ref a)])) rfl rfl (hb hby d12_21)
  refine Dn.of st22 ?_
  show Dn p e below s _ _ _ (T22.setTop (mkF m 24 #[.val (.ref a), .val (.ref u), .val (.int (0 : Int32))] []))
  have Nn3 := Fr.snoc X22 Nn2 g0
  exact Dn.retV X22 hx hlk hret (hb hby d12_24) (by decide) (by decide) (by rw [e22]; exact ⟨rfl, Nn3, ((((Keep.refl h0 [a]).wr W19 (Or.inl (List.mem_of_getElem? (i := 0) rfl))).wr W20 (Or.inl (List.mem_of_getElem? (i := 0) rfl))).wr W21 (Or.inl (List.mem_of_getElem? (i := 0) rfl))).wr W22 (Or.inl (List.mem_of_getElem? (i := 0) rfl)), ((((F1).other W19 (Or.inr s10)).same W20).other W21 (Or.inr s12)).other W22 (Or.inr s13), ((((F2).other W19 (Or.inr s20)).other W20 (Or.inr s21)).same W21).other W22 (Or.inr s23)⟩)
theorem ef10_A (m : MethodId) (x0 : Addr) : entryFrame m #[(.ref x0)] 1 = mkF m 0 #[.val (.ref x0)] [] := by first | (simp [entryFrame, mkF, argsToLocals, Value.category]; done) | rfl
set_option maxRecDepth 65536 in
set_option maxHeartbeats 40000000 in
theorem rmIt (l : Launch) (Z : State) (a0 : Array Value) (hw : ∀ d ∈ tables_1, d.before a0 Z = true) (h0 : Heap) (n0 : Nat) (Z0 : n0 ≤ h0.size) (aE aX : Addr) (lX : Cell) (EE : Exa Z Z.heap aE "java/util/ImmutableCollections$ListN") (FX : Fld Z Z.heap aE "java/util/ImmutableCollections$ListN" "elements" "[Ljava/lang/Object;" (.ref aX)) (RX : Arr Z Z.heap aX lX (.object "java/lang/Object")) (zX : lX.slots.size = 0) (O0 : Old Z n0 h0) :
    ctr l Z (⟨"java/util/ImmutableCollections$AbstractImmutableList", "iterator", "()Ljava/util/Iterator;"⟩ : MethodName) jdk_46_method_10_code 1 (some (.object "java/util/Iterator")) [] ({ frames := 2, cells := 1, slots := 4, locals := 48 } : Room) 1 4 #[(.ref aE)] h0 (fun v h L => v = some (.ref h0.size) ∧ Fr n0 L ∧ Ext h0 h ∧ Exa Z h h0.size "java/util/ImmutableCollections$ListItr" ∧ Fld Z h h0.size "java/util/ImmutableCollections$ListItr" "size" "I" (.int (0 : Int32)) ∧ Fld Z h h0.size "java/util/ImmutableCollections$ListItr" "cursor" "I" (.int (0 : Int32))) := by
  refine ctr_of (plainFor_of_name pn6) ?_
  intro p e s m below meth jc s₁ hx hby hml hret hlk hnm hown hZ e0 X0
  have N0 := Fr.nil n0
  refine Dn.cast (ef10_A m aE) ?_
  show Dn p e below s _ _ _ (s₁.setTop (mkF m 0 #[.val (.ref aE)] []))
  obtain ⟨T23, h23, X23, e23, E23, A23, D23, U23, st23⟩ := newO X0 hx hZ hown (hw _ (List.mem_of_getElem? (i := 83) rfl)) (hw _ (List.mem_of_getElem? (i := 84) rfl)) (hw _ (List.mem_of_getElem? (i := 85) rfl)) e0 (g := (mkF m 0 #[.val (.ref aE)] [])) rfl (hb hby d10_0) (by decide) (by decide)
  obtain ⟨b23, g23⟩ : ∃ z, z = h0.size := ⟨_, rfl⟩
  rw [← g23] at A23 D23 U23 st23
  refine Dn.of st23 ?_
  show Dn p e below s _ _ _ (T23.setTop (mkF m 3 #[.val (.ref aE)] [(.ref b23)]))
  have F_list_23 : Fld Z h23 b23 "java/util/ImmutableCollections$ListItr" "list" "Ljava/util/List;" .null := D23 (Or.inr (hw _ (List.mem_of_getElem? (i := 101) rfl))) (ty := (.object "java/util/List")) (by decide)
  have F_size_23 : Fld Z h23 b23 "java/util/ImmutableCollections$ListItr" "size" "I" (.int (0 : Int32)) := D23 (Or.inr (hw _ (List.mem_of_getElem? (i := 103) rfl))) (ty := .int) (by decide)
  have F_cursor_23 : Fld Z h23 b23 "java/util/ImmutableCollections$ListItr" "cursor" "I" (.int (0 : Int32)) := D23 (Or.inl (hw _ (List.mem_of_getElem? (i := 105) rfl))) (ty := .int) (by decide)
  have F_isListIterator_23 : Fld Z h23 b23 "java/util/ImmutableCollections$ListItr" "isListIterator" "Z" (.int (0 : Int32)) := D23 (Or.inr (hw _ (List.mem_of_getElem? (i := 107) rfl))) (ty := .boolean) (by decide)
  have Z1 : n0 ≤ h23.size := Nat.le_trans Z0 E23.1
  have O1 := O0.ext E23
  refine Dn.of (fun tt_ zz_ => XS.dup X23.here hx rfl (hb hby d10_3) rfl rfl zz_) ?_
  show Dn p e below s _ _ _ (T23.setTop (mkF m 4 #[.val (.ref aE)] [(.ref b23), (.ref b23)]))
  refine Dn.of (fun tt_ zz_ => XS.aloadN X23.here hx rfl (hb hby d10_4) rfl rfl zz_) ?_
  show Dn p e below s _ _ _ (T23.setTop (mkF m 5 #[.val (.ref aE)] [(.ref aE), (.ref b23), (.ref b23)]))
  refine Dn.of (fun tt_ zz_ => XS.aloadN X23.here hx rfl (hb hby d10_5) rfl rfl zz_) ?_
  show Dn p e below s _ _ _ (T23.setTop (mkF m 6 #[.val (.ref aE)] [(.ref aE), (.ref aE), (.ref b23), (.ref b23)]))
  obtain ⟨v24, T24, L24, Q24, X24, st24⟩ := cUp X23 hx hZ (C := "java/util/ImmutableCollections$ListN") (owner := "java/util/AbstractCollection") (y := (⟨"java/util/ImmutableCollections$AbstractImmutableList", "size", "()I"⟩ : MethodName)) (z := (⟨"java/util/ImmutableCollections$ListN", "size", "()I"⟩ : MethodName)) hown (hw _ (List.mem_of_getElem? (i := 86) rfl)) (hw _ (List.mem_of_getElem? (i := 87) rfl)) (hw _ (List.mem_of_getElem? (i := 88) rfl)) (hw _ (List.mem_of_getElem? (i := 89) rfl)) (hw _ (List.mem_of_getElem? (i := 90) rfl)) (hw _ (List.mem_of_getElem? (i := 91) rfl)) (hw _ (List.mem_of_getElem? (i := 92) rfl)) (by decide) (a := aE) (argsL := []) (rest := [(.ref aE), (.ref b23), (.ref b23)]) (rmSz l Z a0 hw h23 n0 Z1 aE aX lX EE FX RX zX O1) e23 (EE.ext O1.2) 3 (by decide) (by decide) (by decide) (by decide) (g := (mkF m 6 #[.val (.ref aE)] [(.ref aE), (.ref aE), (.ref b23), (.ref b23)])) rfl (by rw [hml]; rfl) (lenOf pd1 rfl) rfl (by show 2 * 0 + _ ≤ _; exact Nat.le_of_eq rfl) (hb hby d10_6)
  obtain ⟨rfl, M1, e24⟩ := Q24
  refine Dn.of st24 ?_
  show Dn p e below s _ _ _ (T24.setTop (mkF m 9 #[.val (.ref aE)] [(.int (0 : Int32)), (.ref aE), (.ref b23), (.ref b23)]))
  have gb : n0 ≤ b23 := g23 ▸ Z0
  obtain ⟨v25, T25, L25, Q25, X25, st25⟩ := cIn X24 hx hZ (y := (⟨"java/util/ImmutableCollections$ListItr", "<init>", "(Ljava/util/List;I)V"⟩ : MethodName)) rfl hown (hw _ (List.mem_of_getElem? (i := 95) rfl)) (hw _ (List.mem_of_getElem? (i := 96) rfl)) (hw _ (List.mem_of_getElem? (i := 85) rfl)) (hw _ (List.mem_of_getElem? (i := 98) rfl)) (by decide) (a := b23) (argsL := [(.ref aE), (.int (0 : Int32))]) (rest := [(.ref b23)]) (rmLI l Z a0 hw h23 n0 Z1 b23 aE A23 F_list_23 F_size_23 F_cursor_23 F_isListIterator_23 gb) e24  1 (by decide) (by decide) (by decide) (by decide) (g := (mkF m 9 #[.val (.ref aE)] [(.int (0 : Int32)), (.ref aE), (.ref b23), (.ref b23)])) rfl (by rw [hml]; rfl) (lenOf pd2 rfl) rfl (by show 2 * 0 + _ ≤ _; exact Nat.le_of_eq rfl) (hb hby d10_9)
  obtain ⟨rfl, M2, K2, G1, G2⟩ := Q25
  refine Dn.of st25 ?_
  show Dn p e below s _ _ _ (T25.setTop (mkF m 12 #[.val (.ref aE)] [(.ref b23)]))
  have X1 : Ext h0 T25.heap := ⟨Nat.le_trans E23.1 K2.1, fun y cy hy => K2.2.1 _ _ (E23.2 _ _ hy) (ninS (Nat.ne_of_lt (g23 ▸ (Array.getElem?_eq_some_iff.mp hy).1)) nin0)⟩
  have A1 := A23.keep K2
  subst g23
  show Dn p e below s _ _ _ (T25.setTop (mkF m 12 #[.val (.ref aE)] [(.ref h0.size)]))
  exact Dn.retA X25 hx hlk hret rfl rfl (hb hby d10_12) (by decide) (by decide) (⟨rfl, Fr.app (Fr.app N0 M1) M2, X1, A1, G1, G2⟩)
theorem ef13_A (m : MethodId) (x0 : Addr) : entryFrame m #[(.ref x0)] 1 = mkF m 0 #[.val (.ref x0)] [] := by first | (simp [entryFrame, mkF, argsToLocals, Value.category]; done) | rfl
set_option maxRecDepth 65536 in
set_option maxHeartbeats 40000000 in
theorem rmHN (l : Launch) (Z : State) (a0 : Array Value) (hw : ∀ d ∈ tables_1, d.before a0 Z = true) (h0 : Heap) (n0 : Nat) (Z0 : n0 ≤ h0.size) (a : Addr) (F1 : Fld Z h0 a "java/util/ImmutableCollections$ListItr" "size" "I" (.int (0 : Int32))) (F2 : Fld Z h0 a "java/util/ImmutableCollections$ListItr" "cursor" "I" (.int (0 : Int32))) :
    ctr l Z (⟨"java/util/ImmutableCollections$ListItr", "hasNext", "()Z"⟩ : MethodName) jdk_53_method_3_code 1 (some .boolean) [] ({ frames := 0, cells := 0, slots := 0, locals := 0 } : Room) 0 0 #[(.ref a)] h0 (fun v h L => v = some (.int (0 : Int32)) ∧ Fr n0 L ∧ h = h0) := by
  refine ctr_of (plainFor_of_name pn5) ?_
  intro p e s m below meth jc s₁ hx hby hml hret hlk hnm hown hZ e0 X0
  have N0 := Fr.nil n0
  refine Dn.cast (ef13_A m a) ?_
  show Dn p e below s _ _ _ (s₁.setTop (mkF m 0 #[.val (.ref a)] []))
  refine Dn.of (fun tt_ zz_ => XS.aloadN X0.here hx rfl (hb hby d13_0) rfl rfl zz_) ?_
  show Dn p e below s _ _ _ (s₁.setTop (mkF m 1 #[.val (.ref a)] [(.ref a)]))
  obtain ⟨T26, X26, e26, st26⟩ := getF X0 hx hZ hown (host := "") (Or.inl (hw _ (List.mem_of_getElem? (i := 104) rfl))) Via.refl e0 F2 (g := (mkF m 1 #[.val (.ref a)] [(.ref a)])) rfl rfl (hb hby d13_1)
  refine Dn.of st26 ?_
  show Dn p e below s _ _ _ (T26.setTop (mkF m 4 #[.val (.ref a)] [(.int (0 : Int32))]))
  refine Dn.of (fun tt_ zz_ => XS.aloadN X26.here hx rfl (hb hby d13_4) rfl rfl zz_) ?_
  show Dn p e below s _ _ _ (T26.setTop (mkF m 5 #[.val (.ref a)] [(.ref a), (.int (0 : Int32))]))
  obtain ⟨T27, X27, e27, st27⟩ := getF X26 hx hZ hown (host := "") (Or.inl (hw _ (List.mem_of_getElem? (i := 102) rfl))) Via.refl e26 F1 (g := (mkF m 5 #[.val (.ref a)] [(.ref a), (.int (0 : Int32))])) rfl rfl (hb hby d13_5)
  refine Dn.of st27 ?_
  show Dn p e below s _ _ _ (T27.setTop (mkF m 8 #[.val (.ref a)] [(.int (0 : Int32)), (.int (0 : Int32))]))
  refine Dn.of (fun tt_ zz_ => XS.icmpYes X27.here hx rfl (pc0 := 8) (pc' := 15) rfl (hb hby d13_8) rfl (teq rfl).1 (by decide) (by decide) zz_) ?_
  show Dn p e below s _ _ _ (T27.setTop (mkF m 15 #[.val (.ref a)] []))
  refine Dn.of (fun tt_ zz_ => XS.iconst X27.here hx rfl (hb hby d13_15) zz_) ?_
  show Dn p e below s _ _ _ (T27.setTop (mkF m 16 #[.val (.ref a)] [(.int (0 : Int32))]))
  exact Dn.retN X27 hx hlk (t := .boolean) hret (by simp) (hb hby d13_16) (by decide) (by decide) (⟨rfl, N0, e27⟩)
theorem ef9_AA (m : MethodId) (x0 : Addr) (x1 : Addr) : entryFrame m #[(.ref x0), (.ref x1)] 4 = mkF m 0 #[.val (.ref x0), .val (.ref x1), .unset, .unset] [] := by first | (simp [entryFrame, mkF, argsToLocals, Value.category]; done) | rfl
set_option maxRecDepth 65536 in
set_option maxHeartbeats 40000000 in
theorem rmI (l : Launch) (Z : State) (a0 : Array Value) (hw : ∀ d ∈ tables_1, d.before a0 Z = true) (h0 : Heap) (n0 : Nat) (Z0 : n0 ≤ h0.size) (a : Addr) (aD : Addr) (SD : Sta Z Z.heap "java/util/ArrayList" "DEFAULTCAPACITY_EMPTY_ELEMENTDATA" "[Ljava/lang/Object;" (.ref aD)) (aE aX : Addr) (lX : Cell) (EE : Exa Z Z.heap aE "java/util/ImmutableCollections$ListN") (FX : Fld Z Z.heap aE "java/util/ImmutableCollections$ListN" "elements" "[Ljava/lang/Object;" (.ref aX)) (RX : Arr Z Z.heap aX lX (.object "java/lang/Object")) (zX : lX.slots.size = 0) (O0 : Old Z n0 h0) (E0 : Exa Z h0 a "com/example/warmfront/warmfront/ir/Goto") (F0 : Fld Z h0 a "com/example/warmfront/warmfront/ir/Instruction" "operands" "Ljava/util/List;" .null) (F1 : Fld Z h0 a "com/example/warmfront/warmfront/ir/Instruction" "stateValues" "Ljava/util/List;" .null) (F2 : Fld Z h0 a "com/example/warmfront/warmfront/ir/Instruction" "users" "Ljava/util/List;" .null) (F3 : Fld Z h0 a "com/example/warmfront/warmfront/ir/Goto" "target" "Lcom/example/warmfront/warmfront/ir/Block;" .null) (g0 : n0 ≤ a) :
    ctr l Z (⟨"com/example/warmfront/warmfront/ir/Instruction", "<init>", "(Ljava/util/List;)V"⟩ : MethodName) prog_22_method_1_code 4 none [] ({ frames := 4, cells := 4, slots := 13, locals := 80 } : Room) 4 13 #[(.ref a), (.ref aE)] h0 (fun v h L => v = none ∧ Fr n0 L ∧ Keep h0 h [a] ∧ Fld Z h a "com/example/warmfront/warmfront/ir/Goto" "target" "Lcom/example/warmfront/warmfront/ir/Block;" .null) := by
  refine ctr_of (plainFor_of_name pn7) ?_
  intro p e s m below meth jc s₁ hx hby hml hret hlk hnm hown hZ e0 X0
  have N0 := Fr.nil n0
  refine Dn.cast (ef9_AA m a aE) ?_
  show Dn p e below s _ _ _ (s₁.setTop (mkF m 0 #[.val (.ref a), .val (.ref aE), .unset, .unset] []))
  have s10 : Jvm.RoadKit.slotOf Z "com/example/warmfront/warmfront/ir/Instruction" "stateValues" "Ljava/util/List;" ≠ Jvm.RoadKit.slotOf Z "com/example/warmfront/warmfront/ir/Instruction" "operands" "Ljava/util/List;" := slot_ne (Or.inr (hw _ (List.mem_of_getElem? (i := 70) rfl))) (Or.inr (hw _ (List.mem_of_getElem? (i := 68) rfl))) (by decide) (t := (.object "java/util/List")) (t' := (.object "java/util/List")) (by decide) (by decide)
  have s20 : Jvm.RoadKit.slotOf Z "com/example/warmfront/warmfront/ir/Instruction" "users" "Ljava/util/List;" ≠ Jvm.RoadKit.slotOf Z "com/example/warmfront/warmfront/ir/Instruction" "operands" "Ljava/util/List;" := slot_ne (Or.inr (hw _ (List.mem_of_getElem? (i := 72) rfl))) (Or.inr (hw _ (List.mem_of_getElem? (i := 68) rfl))) (by decide) (t := (.object "java/util/List")) (t' := (.object "java/util/List")) (by decide) (by decide)
  have s21 : Jvm.RoadKit.slotOf Z "com/example/warmfront/warmfront/ir/Instruction" "users" "Ljava/util/List;" ≠ Jvm.RoadKit.slotOf Z "com/example/warmfront/warmfront/ir/Instruction" "stateValues" "Ljava/util/List;" := slot_ne (Or.inr (hw _ (List.mem_of_getElem? (i := 72) rfl))) (Or.inr (hw _ (List.mem_of_getElem? (i := 70) rfl))) (by decide) (t := (.object "java/util/List")) (t' := (.object "java/util/List")) (by decide) (by decide)
  have s30 : Jvm.RoadKit.slotOf Z "com/example/warmfront/warmfront/ir/Goto" "target" "Lcom/example/warmfront/warmfront/ir/Block;" ≠ Jvm.RoadKit.slotOf Z "com/example/warmfront/warmfront/ir/Instruction" "operands" "Ljava/util/List;" := slot_ne (Or.inl (hw _ (List.mem_of_getElem? (i := 118) rfl))) (Or.inr (hw _ (List.mem_of_getElem? (i := 68) rfl))) (by decide) (t := (.object "com/example/warmfront/warmfront/ir/Block")) (t' := (.object "java/util/List")) (by decide) (by decide)
  have s31 : Jvm.RoadKit.slotOf Z "com/example/warmfront/warmfront/ir/Goto" "target" "Lcom/example/warmfront/warmfront/ir/Block;" ≠ Jvm.RoadKit.slotOf Z "com/example/warmfront/warmfront/ir/Instruction" "stateValues" "Ljava/util/List;" := slot_ne (Or.inl (hw _ (List.mem_of_getElem? (i := 118) rfl))) (Or.inr (hw _ (List.mem_of_getElem? (i := 70) rfl))) (by decide) (t := (.object "com/example/warmfront/warmfront/ir/Block")) (t' := (.object "java/util/List")) (by decide) (by decide)
  have s32 : Jvm.RoadKit.slotOf Z "com/example/warmfront/warmfront/ir/Goto" "target" "Lcom/example/warmfront/warmfront/ir/Block;" ≠ Jvm.RoadKit.slotOf Z "com/example/warmfront/warmfront/ir/Instruction" "users" "Ljava/util/List;" := slot_ne (Or.inl (hw _ (List.mem_of_getElem? (i := 118) rfl))) (Or.inr (hw _ (List.mem_of_getElem? (i := 72) rfl))) (by decide) (t := (.object "com/example/warmfront/warmfront/ir/Block")) (t' := (.object "java/util/List")) (by decide) (by decide)
  have K0 := Keep.refl h0 [a]
  refine Dn.of (fun tt_ zz_ => XS.aloadN X0.here hx rfl (hb hby d9_0) rfl rfl zz_) ?_
  show Dn p e below s _ _ _ (s₁.setTop (mkF m 1 #[.val (.ref a), .val (.ref aE), .unset, .unset] [(.ref a)]))
  obtain ⟨T28, X28, e28, st28⟩ := initO X0 hx hZ hown (hw _ (List.mem_of_getElem? (i := 64) rfl)) (hw _ (List.mem_of_getElem? (i := 8) rfl)) (hw _ (List.mem_of_getElem? (i := 9) rfl)) e0 (g := (mkF m 1 #[.val (.ref a), .val (.ref aE), .unset, .unset] [(.ref a)])) rfl (by rw [hml]; rfl) rfl (hb hby d9_1) (by decide) (W := 0) (by show 2 * 0 + _ ≤ _; exact Nat.le_of_eq rfl) (by decide)
  refine Dn.of st28 ?_
  show Dn p e below s _ _ _ (T28.setTop (mkF m 4 #[.val (.ref a), .val (.ref aE), .unset, .unset] []))
  refine Dn.of (fun tt_ zz_ => XS.aloadN X28.here hx rfl (hb hby d9_4) rfl rfl zz_) ?_
  show Dn p e below s _ _ _ (T28.setTop (mkF m 5 #[.val (.ref a), .val (.ref aE), .unset, .unset] [(.ref a)]))
  obtain ⟨T29, h29, X29, e29, E29, A29, D29, U29, st29⟩ := newO X28 hx hZ hown (hw _ (List.mem_of_getElem? (i := 65) rfl)) (hw _ (List.mem_of_getElem? (i := 11) rfl)) (hw _ (List.mem_of_getElem? (i := 12) rfl)) e28 (g := (mkF m 5 #[.val (.ref a), .val (.ref aE), .unset, .unset] [(.ref a)])) rfl (hb hby d9_5) (by decide) (by decide)
  obtain ⟨b29, g29⟩ : ∃ z, z = h0.size := ⟨_, rfl⟩
  rw [← g29] at A29 D29 U29 st29
  refine Dn.of st29 ?_
  show Dn p e below s _ _ _ (T29.setTop (mkF m 8 #[.val (.ref a), .val (.ref aE), .unset, .unset] [(.ref b29), (.ref a)]))
  have F_modCount_29 : Fld Z h29 b29 "java/util/AbstractList" "modCount" "I" (.int (0 : Int32)) := D29 (Or.inl (hw _ (List.mem_of_getElem? (i := 30) rfl))) (ty := .int) (by decide)
  have F_elementData_29 : Fld Z h29 b29 "java/util/ArrayList" "elementData" "[Ljava/lang/Object;" .null := D29 (Or.inl (hw _ (List.mem_of_getElem? (i := 33) rfl))) (ty := (.array (.object "java/lang/Object"))) (by decide)
  have za29 : n0 ≤ h29.size := Nat.le_trans (Nat.le_trans Z0 K0.1) E29.1
  have gb29 : n0 ≤ b29 := g29 ▸ Nat.le_trans Z0 K0.1
  have lb29 : h0.size ≤ b29 := g29 ▸ K0.1
  refine Dn.of (fun tt_ zz_ => XS.dup X29.here hx rfl (hb hby d9_8) rfl rfl zz_) ?_
  show Dn p e below s _ _ _ (T29.setTop (mkF m 9 #[.val (.ref a), .val (.ref aE), .unset, .unset] [(.ref b29), (.ref b29), (.ref a)]))
  obtain ⟨v30, T30, L30, Q30, X30, st30⟩ := cIn X29 hx hZ (y := (⟨"java/util/ArrayList", "<init>", "()V"⟩ : MethodName)) rfl hown (hw _ (List.mem_of_getElem? (i := 66) rfl)) (hw _ (List.mem_of_getElem? (i := 14) rfl)) (hw _ (List.mem_of_getElem? (i := 12) rfl)) (hw _ (List.mem_of_getElem? (i := 15) rfl)) (by decide) (a := b29) (argsL := []) (rest := [(.ref b29), (.ref a)]) (rmAL l Z a0 hw h29 n0 za29 b29 aD SD (O0.ext E29) A29 F_modCount_29 F_elementData_29 gb29) e29  2 (by decide) (by decide) (by decide) (by decide) (g := (mkF m 9 #[.val (.ref a), .val (.ref aE), .unset, .unset] [(.ref b29), (.ref b29), (.ref a)])) rfl (by rw [hml]; rfl) (lenOf pd0 rfl) rfl (by show 2 * 0 + _ ≤ _; exact Nat.le_of_eq rfl) (hb hby d9_9)
  obtain ⟨rfl, M30, K30⟩ := Q30
  refine Dn.of st30 ?_
  show Dn p e below s _ _ _ (T30.setTop (mkF m 12 #[.val (.ref a), .val (.ref aE), .unset, .unset] [(.ref b29), (.ref a)]))
  have nt29 : a ∉ [b29] := ninS (Nat.ne_of_lt (g29 ▸ E0.lt)) nin0
  obtain ⟨T31, h31, X31, e31, W31, st31⟩ := putF X30 hx hZ hown (host := "") (Or.inl (hw _ (List.mem_of_getElem? (i := 67) rfl))) Via.refl rfl ((F0.ext E29).keep K30 nt29) ((E0.ext E29).keep K30) (Or.inr ⟨(hw _ (List.mem_of_getElem? (i := 68) rfl)), rfl, hnm⟩) (hw _ (List.mem_of_getElem? (i := 43) rfl)) (ty := (.object "java/util/List")) (by decide) rfl rfl (g := (mkF m 12 #[.val (.ref a), .val (.ref aE), .unset, .unset] [(.ref b29), (.ref a)])) rfl rfl (hb hby d9_12)
  refine Dn.of st31 ?_
  show Dn p e below s _ _ _ (T31.setTop (mkF m 15 #[.val (.ref a), .val (.ref aE), .unset, .unset] []))
  have Kb31 := ((K0.ext E29).trans K30 (allS (Or.inr lb29) all0)).wr W31 (Or.inl (List.mem_of_getElem? (i := 0) rfl))
  have Ob31 := ((O0.ext E29).keep K30 (allS gb29 all0)).wr W31 g0
  have Nb31 := Fr.snoc X31 (Fr.app N0 M30) g0
  have Eb31 := ((E0.ext E29).keep K30).wr W31
  have G01 := ((F1.ext E29).keep K30 nt29).other W31 (Or.inr s10)
  have G02 := ((F2.ext E29).keep K30 nt29).other W31 (Or.inr s20)
  have G03 := ((F3.ext E29).keep K30 nt29).other W31 (Or.inr s30)
  refine Dn.of (fun tt_ zz_ => XS.aloadN X31.here hx rfl (hb hby d9_15) rfl rfl zz_) ?_
  show Dn p e below s _ _ _ (T31.setTop (mkF m 16 #[.val (.ref a), .val (.ref aE), .unset, .unset] [(.ref a)]))
  obtain ⟨T32, h32, X32, e32, E32, A32, D32, U32, st32⟩ := newO X31 hx hZ hown (hw _ (List.mem_of_getElem? (i := 65) rfl)) (hw _ (List.mem_of_getElem? (i := 11) rfl)) (hw _ (List.mem_of_getElem? (i := 12) rfl)) e31 (g := (mkF m 16 #[.val (.ref a), .val (.ref aE), .unset, .unset] [(.ref a)])) rfl (hb hby d9_16) (by decide) (by decide)
  obtain ⟨b32, g32⟩ : ∃ z, z = h31.size := ⟨_, rfl⟩
  rw [← g32] at A32 D32 U32 st32
  refine Dn.of st32 ?_
  show Dn p e below s _ _ _ (T32.setTop (mkF m 19 #[.val (.ref a), .val (.ref aE), .unset, .unset] [(.ref b32), (.ref a)]))
  have F_modCount_32 : Fld Z h32 b32 "java/util/AbstractList" "modCount" "I" (.int (0 : Int32)) := D32 (Or.inl (hw _ (List.mem_of_getElem? (i := 30) rfl))) (ty := .int) (by decide)
  have F_elementData_32 : Fld Z h32 b32 "java/util/ArrayList" "elementData" "[Ljava/lang/Object;" .null := D32 (Or.inl (hw _ (List.mem_of_getElem? (i := 33) rfl))) (ty := (.array (.object "java/lang/Object"))) (by decide)
  have za32 : n0 ≤ h32.size := Nat.le_trans (Nat.le_trans Z0 Kb31.1) E32.1
  have gb32 : n0 ≤ b32 := g32 ▸ Nat.le_trans Z0 Kb31.1
  have lb32 : h0.size ≤ b32 := g32 ▸ Kb31.1
  refine Dn.of (fun tt_ zz_ => XS.dup X32.here hx rfl (hb hby d9_19) rfl rfl zz_) ?_
  show Dn p e below s _ _ _ (T32.setTop (mkF m 20 #[.val (.ref a), .val (.ref aE), .unset, .unset] [(.ref b32), (.ref b32), (.ref a)]))
  obtain ⟨v33, T33, L33, Q33, X33, st33⟩ := cIn X32 hx hZ (y := (⟨"java/util/ArrayList", "<init>", "()V"⟩ : MethodName)) rfl hown (hw _ (List.mem_of_getElem? (i := 66) rfl)) (hw _ (List.mem_of_getElem? (i := 14) rfl)) (hw _ (List.mem_of_getElem? (i := 12) rfl)) (hw _ (List.mem_of_getElem? (i := 15) rfl)) (by decide) (a := b32) (argsL := []) (rest := [(.ref b32), (.ref a)]) (rmAL l Z a0 hw h32 n0 za32 b32 aD SD (Ob31.ext E32) A32 F_modCount_32 F_elementData_32 gb32) e32  2 (by decide) (by decide) (by decide) (by decide) (g := (mkF m 20 #[.val (.ref a), .val (.ref aE), .unset, .unset] [(.ref b32), (.ref b32), (.ref a)])) rfl (by rw [hml]; rfl) (lenOf pd0 rfl) rfl (by show 2 * 0 + _ ≤ _; exact Nat.le_of_eq rfl) (hb hby d9_20)
  obtain ⟨rfl, M33, K33⟩ := Q33
  refine Dn.of st33 ?_
  show Dn p e below s _ _ _ (T33.setTop (mkF m 23 #[.val (.ref a), .val (.ref aE), .unset, .unset] [(.ref b32), (.ref a)]))
  have nt32 : a ∉ [b32] := ninS (Nat.ne_of_lt (g32 ▸ Eb31.lt)) nin0
  obtain ⟨T34, h34, X34, e34, W34, st34⟩ := putF X33 hx hZ hown (host := "") (Or.inl (hw _ (List.mem_of_getElem? (i := 69) rfl))) Via.refl rfl ((G01.ext E32).keep K33 nt32) ((Eb31.ext E32).keep K33) (Or.inr ⟨(hw _ (List.mem_of_getElem? (i := 70) rfl)), rfl, hnm⟩) (hw _ (List.mem_of_getElem? (i := 43) rfl)) (ty := (.object "java/util/List")) (by decide) rfl rfl (g := (mkF m 23 #[.val (.ref a), .val (.ref aE), .unset, .unset] [(.ref b32), (.ref a)])) rfl rfl (hb hby d9_23)
  refine Dn.of st34 ?_
  show Dn p e below s _ _ _ (T34.setTop (mkF m 26 #[.val (.ref a), .val (.ref aE), .unset, .unset] []))
  have Kb34 := ((Kb31.ext E32).trans K33 (allS (Or.inr lb32) all0)).wr W34 (Or.inl (List.mem_of_getElem? (i := 0) rfl))
  have Ob34 := ((Ob31.ext E32).keep K33 (allS gb32 all0)).wr W34 g0
  have Nb34 := Fr.snoc X34 (Fr.app Nb31 M33) g0
  have Eb34 := ((Eb31.ext E32).keep K33).wr W34
  have G12 := ((G02.ext E32).keep K33 nt32).other W34 (Or.inr s21)
  have G13 := ((G03.ext E32).keep K33 nt32).other W34 (Or.inr s31)
  refine Dn.of (fun tt_ zz_ => XS.aloadN X34.here hx rfl (hb hby d9_26) rfl rfl zz_) ?_
  show Dn p e below s _ _ _ (T34.setTop (mkF m 27 #[.val (.ref a), .val (.ref aE), .unset, .unset] [(.ref a)]))
  obtain ⟨T35, h35, X35, e35, E35, A35, D35, U35, st35⟩ := newO X34 hx hZ hown (hw _ (List.mem_of_getElem? (i := 65) rfl)) (hw _ (List.mem_of_getElem? (i := 11) rfl)) (hw _ (List.mem_of_getElem? (i := 12) rfl)) e34 (g := (mkF m 27 #[.val (.ref a), .val (.ref aE), .unset, .unset] [(.ref a)])) rfl (hb hby d9_27) (by decide) (by decide)
  obtain ⟨b35, g35⟩ : ∃ z, z = h34.size := ⟨_, rfl⟩
  rw [← g35] at A35 D35 U35 st35
  refine Dn.of st35 ?_
  show Dn p e below s _ _ _ (T35.setTop (mkF m 30 #[.val (.ref a), .val (.ref aE), .unset, .unset] [(.ref b35), (.ref a)]))
  have F_modCount_35 : Fld Z h35 b35 "java/util/AbstractList" "modCount" "I" (.int (0 : Int32)) := D35 (Or.inl (hw _ (List.mem_of_getElem? (i := 30) rfl))) (ty := .int) (by decide)
  have F_elementData_35 : Fld Z h35 b35 "java/util/ArrayList" "elementData" "[Ljava/lang/Object;" .null := D35 (Or.inl (hw _ (List.mem_of_getElem? (i := 33) rfl))) (ty := (.array (.object "java/lang/Object"))) (by decide)
  have za35 : n0 ≤ h35.size := Nat.le_trans (Nat.le_trans Z0 Kb34.1) E35.1
  have gb35 : n0 ≤ b35 := g35 ▸ Nat.le_trans Z0 Kb34.1
  have lb35 : h0.size ≤ b35 := g35 ▸ Kb34.1
  refine Dn.of (fun tt_ zz_ => XS.dup X35.here hx rfl (hb hby d9_30) rfl rfl zz_) ?_
  show Dn p e below s _ _ _ (T35.setTop (mkF m 31 #[.val (.ref a), .val (.ref aE), .unset, .unset] [(.ref b35), (.ref b35), (.ref a)]))
  obtain ⟨v36, T36, L36, Q36, X36, st36⟩ := cIn X35 hx hZ (y := (⟨"java/util/ArrayList", "<init>", "()V"⟩ : MethodName)) rfl hown (hw _ (List.mem_of_getElem? (i := 66) rfl)) (hw _ (List.mem_of_getElem? (i := 14) rfl)) (hw _ (List.mem_of_getElem? (i := 12) rfl)) (hw _ (List.mem_of_getElem? (i := 15) rfl)) (by decide) (a := b35) (argsL := []) (rest := [(.ref b35), (.ref a)]) (rmAL l Z a0 hw h35 n0 za35 b35 aD SD (Ob34.ext E35) A35 F_modCount_35 F_elementData_35 gb35) e35  2 (by decide) (by decide) (by decide) (by decide) (g := (mkF m 31 #[.val (.ref a), .val (.ref aE), .unset, .unset] [(.ref b35), (.ref b35), (.ref a)])) rfl (by rw [hml]; rfl) (lenOf pd0 rfl) rfl (by show 2 * 0 + _ ≤ _; exact Nat.le_of_eq rfl) (hb hby d9_31)
  obtain ⟨rfl, M36, K36⟩ := Q36
  refine Dn.of st36 ?_
  show Dn p e below s _ _ _ (T36.setTop (mkF m 34 #[.val (.ref a), .val (.ref aE), .unset, .unset] [(.ref b35), (.ref a)]))
  have nt35 : a ∉ [b35] := ninS (Nat.ne_of_lt (g35 ▸ Eb34.lt)) nin0
  obtain ⟨T37, h37, X37, e37, W37, st37⟩ := putF X36 hx hZ hown (host := "") (Or.inl (hw _ (List.mem_of_getElem? (i := 71) rfl))) Via.refl rfl ((G12.ext E35).keep K36 nt35) ((Eb34.ext E35).keep K36) (Or.inr ⟨(hw _ (List.mem_of_getElem? (i := 72) rfl)), rfl, hnm⟩) (hw _ (List.mem_of_getElem? (i := 43) rfl)) (ty := (.object "java/util/List")) (by decide) rfl rfl (g := (mkF m 34 #[.val (.ref a), .val (.ref aE), .unset, .unset] [(.ref b35), (.ref a)])) rfl rfl (hb hby d9_34)
  refine Dn.of st37 ?_
  show Dn p e below s _ _ _ (T37.setTop (mkF m 37 #[.val (.ref a), .val (.ref aE), .unset, .unset] []))
  have Kb37 := ((Kb34.ext E35).trans K36 (allS (Or.inr lb35) all0)).wr W37 (Or.inl (List.mem_of_getElem? (i := 0) rfl))
  have Ob37 := ((Ob34.ext E35).keep K36 (allS gb35 all0)).wr W37 g0
  have Nb37 := Fr.snoc X37 (Fr.app Nb34 M36) g0
  have Eb37 := ((Eb34.ext E35).keep K36).wr W37
  have G23 := ((G13.ext E35).keep K36 nt35).other W37 (Or.inr s32)
  refine Dn.of (fun tt_ zz_ => XS.aloadN X37.here hx rfl (hb hby d9_37) rfl rfl zz_) ?_
  show Dn p e below s _ _ _ (T37.setTop (mkF m 38 #[.val (.ref a), .val (.ref aE), .unset, .unset] [(.ref aE)]))
  have Z3 : n0 ≤ h37.size := Nat.le_trans Z0 Kb37.1
  obtain ⟨v38, T38, L38, Q38, X38, st38⟩ := cFa X37 hx hZ (C := "java/util/ImmutableCollections$ListN") (y := (⟨"java/util/List", "iterator", "()Ljava/util/Iterator;"⟩ : MethodName)) (z := (⟨"java/util/ImmutableCollections$AbstractImmutableList", "iterator", "()Ljava/util/Iterator;"⟩ : MethodName)) hown (hw _ (List.mem_of_getElem? (i := 73) rfl)) (hw _ (List.mem_of_getElem? (i := 74) rfl)) (mvT hZ (hw _ (List.mem_of_getElem? (i := 75) rfl))) (hw _ (List.mem_of_getElem? (i := 76) rfl)) (hw _ (List.mem_of_getElem? (i := 77) rfl)) (hw _ (List.mem_of_getElem? (i := 78) rfl)) (hw _ (List.mem_of_getElem? (i := 79) rfl)) (hw _ (List.mem_of_getElem? (i := 80) rfl)) (hw _ (List.mem_of_getElem? (i := 81) rfl)) (hw _ (List.mem_of_getElem? (i := 82) rfl)) (by decide) (a := aE) (argsL := []) (rest := []) (rmIt l Z a0 hw h37 n0 Z3 aE aX lX EE FX RX zX Ob37) e37 (EE.ext Ob37.2) 0 (by decide) (by decide) (by decide) (by decide) (g := (mkF m 38 #[.val (.ref a), .val (.ref aE), .unset, .unset] [(.ref aE)])) rfl (by rw [hml]; rfl) (lenOf pd3 rfl) rfl (by show 2 * 0 + _ ≤ _; exact Nat.le_of_eq rfl) (hb hby d9_38)
  obtain ⟨rfl, M5, X5, A5, I1, I2⟩ := Q38
  refine Dn.of st38 ?_
  show Dn p e below s _ _ _ (T38.setTop (mkF m 43 #[.val (.ref a), .val (.ref aE), .unset, .unset] [(.ref h37.size)]))
  refine Dn.of (fun tt_ zz_ => XS.astoreN X38.here hx rfl (hb hby d9_43) rfl rfl (l' := #[.val (.ref a), .val (.ref aE), .val (.ref h37.size), .unset]) rfl zz_) ?_
  show Dn p e below s _ _ _ (T38.setTop (mkF m 44 #[.val (.ref a), .val (.ref aE), .val (.ref h37.size), .unset] []))
  refine Dn.of (fun tt_ zz_ => XS.aloadN X38.here hx rfl (hb hby d9_44) rfl rfl zz_) ?_
  show Dn p e below s _ _ _ (T38.setTop (mkF m 45 #[.val (.ref a), .val (.ref aE), .val (.ref h37.size), .unset] [(.ref h37.size)]))
  obtain ⟨v39, T39, L39, Q39, X39, st39⟩ := cFa X38 hx hZ (C := "java/util/ImmutableCollections$ListItr") (y := (⟨"java/util/Iterator", "hasNext", "()Z"⟩ : MethodName)) (z := (⟨"java/util/ImmutableCollections$ListItr", "hasNext", "()Z"⟩ : MethodName)) hown (hw _ (List.mem_of_getElem? (i := 108) rfl)) (hw _ (List.mem_of_getElem? (i := 109) rfl)) (mvT hZ (hw _ (List.mem_of_getElem? (i := 110) rfl))) (hw _ (List.mem_of_getElem? (i := 111) rfl)) (hw _ (List.mem_of_getElem? (i := 112) rfl)) (hw _ (List.mem_of_getElem? (i := 113) rfl)) (hw _ (List.mem_of_getElem? (i := 114) rfl)) (hw _ (List.mem_of_getElem? (i := 115) rfl)) (hw _ (List.mem_of_getElem? (i := 85) rfl)) (hw _ (List.mem_of_getElem? (i := 116) rfl)) (by decide) (a := h37.size) (argsL := []) (rest := []) (rmHN l Z a0 hw T38.heap n0 (Nat.le_trans Z3 X5.1) h37.size I1 I2) rfl A5 0 (by decide) (by decide) (by decide) (by decide) (g := (mkF m 45 #[.val (.ref a), .val (.ref aE), .val (.ref h37.size), .unset] [(.ref h37.size)])) rfl (by rw [hml]; rfl) (lenOf pd4 rfl) rfl (by show 2 * 0 + _ ≤ _; exact Nat.le_of_eq rfl) (hb hby d9_45)
  obtain ⟨rfl, M6, e39⟩ := Q39
  refine Dn.of st39 ?_
  show Dn p e below s _ _ _ (T39.setTop (mkF m 50 #[.val (.ref a), .val (.ref aE), .val (.ref h37.size), .unset] [(.int (0 : Int32))]))
  refine Dn.of (fun tt_ zz_ => XS.ifYes X39.here hx rfl (pc0 := 50) (pc' := 71) rfl (hb hby d9_50) rfl ((if0 _ _).trans (teq rfl).1) (by decide) (by decide) zz_) ?_
  show Dn p e below s _ _ _ (T39.setTop (mkF m 71 #[.val (.ref a), .val (.ref aE), .val (.ref h37.size), .unset] []))
  exact Dn.retV X39 hx hlk hret (hb hby d9_71) (by decide) (by decide) (by rw [e39]; exact ⟨rfl, Fr.app (Fr.app Nb37 M5) M6, Kb37.ext X5, G23.ext X5⟩)
theorem ef8_AA (m : MethodId) (x0 : Addr) (x1 : Addr) : entryFrame m #[(.ref x0), (.ref x1)] 2 = mkF m 0 #[.val (.ref x0), .val (.ref x1)] [] := by first | (simp [entryFrame, mkF, argsToLocals, Value.category]; done) | rfl
set_option maxRecDepth 65536 in
set_option maxHeartbeats 40000000 in
theorem rmT (l : Launch) (Z : State) (a0 : Array Value) (hw : ∀ d ∈ tables_1, d.before a0 Z = true) (h0 : Heap) (n0 : Nat) (Z0 : n0 ≤ h0.size) (a : Addr) (aD : Addr) (SD : Sta Z Z.heap "java/util/ArrayList" "DEFAULTCAPACITY_EMPTY_ELEMENTDATA" "[Ljava/lang/Object;" (.ref aD)) (aE aX : Addr) (lX : Cell) (EE : Exa Z Z.heap aE "java/util/ImmutableCollections$ListN") (FX : Fld Z Z.heap aE "java/util/ImmutableCollections$ListN" "elements" "[Ljava/lang/Object;" (.ref aX)) (RX : Arr Z Z.heap aX lX (.object "java/lang/Object")) (zX : lX.slots.size = 0) (O0 : Old Z n0 h0) (E0 : Exa Z h0 a "com/example/warmfront/warmfront/ir/Goto") (F0 : Fld Z h0 a "com/example/warmfront/warmfront/ir/Instruction" "operands" "Ljava/util/List;" .null) (F1 : Fld Z h0 a "com/example/warmfront/warmfront/ir/Instruction" "stateValues" "Ljava/util/List;" .null) (F2 : Fld Z h0 a "com/example/warmfront/warmfront/ir/Instruction" "users" "Ljava/util/List;" .null) (F3 : Fld Z h0 a "com/example/warmfront/warmfront/ir/Goto" "target" "Lcom/example/warmfront/warmfront/ir/Block;" .null) (g0 : n0 ≤ a) :
    ctr l Z (⟨"com/example/warmfront/warmfront/ir/Terminator", "<init>", "(Ljava/util/List;)V"⟩ : MethodName) prog_30_method_1_code 2 none [] ({ frames := 5, cells := 4, slots := 13, locals := 100 } : Room) 4 13 #[(.ref a), (.ref aE)] h0 (fun v h L => v = none ∧ Fr n0 L ∧ Keep h0 h [a] ∧ Fld Z h a "com/example/warmfront/warmfront/ir/Goto" "target" "Lcom/example/warmfront/warmfront/ir/Block;" .null) := by
  refine ctr_of (plainFor_of_name pn8) ?_
  intro p e s m below meth jc s₁ hx hby hml hret hlk hnm hown hZ e0 X0
  have N0 := Fr.nil n0
  refine Dn.cast (ef8_AA m a aE) ?_
  show Dn p e below s _ _ _ (s₁.setTop (mkF m 0 #[.val (.ref a), .val (.ref aE)] []))
  refine Dn.of (fun tt_ zz_ => XS.aloadN X0.here hx rfl (hb hby d8_0) rfl rfl zz_) ?_
  show Dn p e below s _ _ _ (s₁.setTop (mkF m 1 #[.val (.ref a), .val (.ref aE)] [(.ref a)]))
  refine Dn.of (fun tt_ zz_ => XS.aloadN X0.here hx rfl (hb hby d8_1) rfl rfl zz_) ?_
  show Dn p e below s _ _ _ (s₁.setTop (mkF m 2 #[.val (.ref a), .val (.ref aE)] [(.ref aE), (.ref a)]))
  obtain ⟨v40, T40, L40, Q40, X40, st40⟩ := cIn X0 hx hZ (y := (⟨"com/example/warmfront/warmfront/ir/Instruction", "<init>", "(Ljava/util/List;)V"⟩ : MethodName)) rfl hown (hw _ (List.mem_of_getElem? (i := 59) rfl)) (hw _ (List.mem_of_getElem? (i := 60) rfl)) (hw _ (List.mem_of_getElem? (i := 62) rfl)) (hw _ (List.mem_of_getElem? (i := 63) rfl)) (by decide) (a := a) (argsL := [(.ref aE)]) (rest := []) (rmI l Z a0 hw h0 n0 Z0 a aD SD aE aX lX EE FX RX zX O0 E0 F0 F1 F2 F3 g0) e0  0 (by decide) (by decide) (by decide) (by decide) (g := (mkF m 2 #[.val (.ref a), .val (.ref aE)] [(.ref aE), (.ref a)])) rfl (by rw [hml]; rfl) (lenOf pd5 rfl) rfl (by show 2 * 0 + _ ≤ _; exact Nat.le_of_eq rfl) (hb hby d8_2)
  obtain ⟨rfl, M1, K1, G⟩ := Q40
  refine Dn.of st40 ?_
  show Dn p e below s _ _ _ (T40.setTop (mkF m 5 #[.val (.ref a), .val (.ref aE)] []))
  exact Dn.retV X40 hx hlk hret (hb hby d8_5) (by decide) (by decide) (⟨rfl, Fr.app N0 M1, K1, G⟩)
theorem ef7_ (m : MethodId)  : entryFrame m #[] 0 = mkF m 0 #[] [] := by first | (simp [entryFrame, mkF, argsToLocals, Value.category]; done) | rfl
set_option maxRecDepth 65536 in
set_option maxHeartbeats 40000000 in
theorem rmOf (l : Launch) (Z : State) (a0 : Array Value) (hw : ∀ d ∈ tables_1, d.before a0 Z = true) (h0 : Heap) (n0 : Nat) (Z0 : n0 ≤ h0.size) (aE : Addr) (SE : Sta Z Z.heap "java/util/ImmutableCollections" "EMPTY_LIST" "Ljava/util/ImmutableCollections$ListN;" (.ref aE)) (O0 : Old Z n0 h0) :
    ctr l Z (⟨"java/util/List", "of", "()Ljava/util/List;"⟩ : MethodName) jdk_40_method_36_code 0 (some (.object "java/util/List")) [] ({ frames := 0, cells := 0, slots := 0, locals := 0 } : Room) 0 0 #[] h0 (fun v h L => v = some (.ref aE) ∧ Fr n0 L ∧ h = h0) := by
  refine ctr_of (plainFor_of_name pn9) ?_
  intro p e s m below meth jc s₁ hx hby hml hret hlk hnm hown hZ e0 X0
  have N0 := Fr.nil n0
  refine Dn.cast (ef7_ m ) ?_
  show Dn p e below s _ _ _ (s₁.setTop (mkF m 0 #[] []))
  obtain ⟨T41, X41, e41, st41⟩ := getS2 X0 hx hZ hown (host := "") (Or.inl (hw _ (List.mem_of_getElem? (i := 52) rfl))) Via.refl e0 (SE.ext O0.2) (g := (mkF m 0 #[] [])) rfl (hb hby d7_0)
  refine Dn.of st41 ?_
  show Dn p e below s _ _ _ (T41.setTop (mkF m 3 #[] [(.ref aE)]))
  exact Dn.retA X41 hx hlk hret rfl rfl (hb hby d7_3) (by decide) (by decide) (⟨rfl, N0, e41⟩)
theorem ef6_AV (m : MethodId) (x0 : Addr) (x1 : Value) (r1 : x1.isRef = true) : entryFrame m #[(.ref x0), x1] 2 = mkF m 0 #[.val (.ref x0), .val x1] [] := by rcases ref_cases r1 with rfl | ⟨y1, rfl⟩ <;> rfl
set_option maxRecDepth 65536 in
set_option maxHeartbeats 40000000 in
theorem rmG (l : Launch) (Z : State) (a0 : Array Value) (hw : ∀ d ∈ tables_1, d.before a0 Z = true) (h0 : Heap) (n0 : Nat) (Z0 : n0 ≤ h0.size) (a : Addr) (u : Value) (ru : u.isRef = true) (aD : Addr) (SD : Sta Z Z.heap "java/util/ArrayList" "DEFAULTCAPACITY_EMPTY_ELEMENTDATA" "[Ljava/lang/Object;" (.ref aD)) (aE aX : Addr) (lX : Cell) (EE : Exa Z Z.heap aE "java/util/ImmutableCollections$ListN") (FX : Fld Z Z.heap aE "java/util/ImmutableCollections$ListN" "elements" "[Ljava/lang/Object;" (.ref aX)) (RX : Arr Z Z.heap aX lX (.object "java/lang/Object")) (zX : lX.slots.size = 0) (SE : Sta Z Z.heap "java/util/ImmutableCollections" "EMPTY_LIST" "Ljava/util/ImmutableCollections$ListN;" (.ref aE)) (O0 : Old Z n0 h0) (E0 : Exa Z h0 a "com/example/warmfront/warmfront/ir/Goto") (F0 : Fld Z h0 a "com/example/warmfront/warmfront/ir/Instruction" "operands" "Ljava/util/List;" .null) (F1 : Fld Z h0 a "com/example/warmfront/warmfront/ir/Instruction" "stateValues" "Ljava/util/List;" .null) (F2 : Fld Z h0 a "com/example/warmfront/warmfront/ir/Instruction" "users" "Ljava/util/List;" .null) (F3 : Fld Z h0 a "com/example/warmfront/warmfront/ir/Goto" "target" "Lcom/example/warmfront/warmfront/ir/Block;" .null) (g0 : n0 ≤ a) :
    ctr l Z (⟨"com/example/warmfront/warmfront/ir/Goto", "<init>", "(Lcom/example/warmfront/warmfront/ir/Block;)V"⟩ : MethodName) prog_15_method_1_code 2 none [] ({ frames := 6, cells := 4, slots := 13, locals := 120 } : Room) 4 13 #[(.ref a), u] h0 (fun v h L => v = none ∧ Fr n0 L ∧ Keep h0 h [a] ∧ Fld Z h a "com/example/warmfront/warmfront/ir/Goto" "target" "Lcom/example/warmfront/warmfront/ir/Block;" u) := by
  refine ctr_of (plainFor_of_name pn10) ?_
  intro p e s m below meth jc s₁ hx hby hml hret hlk hnm hown hZ e0 X0
  have N0 := Fr.nil n0
  refine Dn.cast (ef6_AV m a u ru) ?_
  show Dn p e below s _ _ _ (s₁.setTop (mkF m 0 #[.val (.ref a), .val u] []))
  refine Dn.of (fun tt_ zz_ => XS.aloadN X0.here hx rfl (hb hby d6_0) rfl rfl zz_) ?_
  show Dn p e below s _ _ _ (s₁.setTop (mkF m 1 #[.val (.ref a), .val u] [(.ref a)]))
  obtain ⟨v42, T42, L42, Q42, X42, st42⟩ := cSt X0 hx hZ (y := (⟨"java/util/List", "of", "()Ljava/util/List;"⟩ : MethodName)) hown (hw _ (List.mem_of_getElem? (i := 48) rfl)) (hw _ (List.mem_of_getElem? (i := 49) rfl)) (hw _ (List.mem_of_getElem? (i := 50) rfl)) (hw _ (List.mem_of_getElem? (i := 51) rfl)) (by decide) (argsL := []) (rest := [(.ref a)]) (rmOf l Z a0 hw h0 n0 Z0 aE SE O0) e0  1 (by decide) (by decide) (by decide) (by decide) (g := (mkF m 1 #[.val (.ref a), .val u] [(.ref a)])) rfl (by rw [hml]; rfl) (lenOf pd6 rfl) rfl (by show 2 * 0 + _ ≤ _; exact Nat.le_of_eq rfl) (hb hby d6_1)
  obtain ⟨rfl, M1, e42⟩ := Q42
  refine Dn.of st42 ?_
  show Dn p e below s _ _ _ (T42.setTop (mkF m 4 #[.val (.ref a), .val u] [(.ref aE), (.ref a)]))
  obtain ⟨v43, T43, L43, Q43, X43, st43⟩ := cIn X42 hx hZ (y := (⟨"com/example/warmfront/warmfront/ir/Terminator", "<init>", "(Ljava/util/List;)V"⟩ : MethodName)) rfl hown (hw _ (List.mem_of_getElem? (i := 54) rfl)) (hw _ (List.mem_of_getElem? (i := 55) rfl)) (hw _ (List.mem_of_getElem? (i := 57) rfl)) (hw _ (List.mem_of_getElem? (i := 58) rfl)) (by decide) (a := a) (argsL := [(.ref aE)]) (rest := []) (rmT l Z a0 hw h0 n0 Z0 a aD SD aE aX lX EE FX RX zX O0 E0 F0 F1 F2 F3 g0) e42  0 (by decide) (by decide) (by decide) (by decide) (g := (mkF m 4 #[.val (.ref a), .val u] [(.ref aE), (.ref a)])) rfl (by rw [hml]; rfl) (lenOf pd5 rfl) rfl (by show 2 * 0 + _ ≤ _; exact Nat.le_of_eq rfl) (hb hby d6_4)
  obtain ⟨rfl, M2, K1, G⟩ := Q43
  refine Dn.of st43 ?_
  show Dn p e below s _ _ _ (T43.setTop (mkF m 7 #[.val (.ref a), .val u] []))
  refine Dn.of (fun tt_ zz_ => XS.aloadN X43.here hx rfl (hb hby d6_7) rfl rfl zz_) ?_
  show Dn p e below s _ _ _ (T43.setTop (mkF m 8 #[.val (.ref a), .val u] [(.ref a)]))
  refine Dn.of (fun tt_ zz_ => XS.aloadN X43.here hx rfl (hb hby d6_8) rfl ru zz_) ?_
  show Dn p e below s _ _ _ (T43.setTop (mkF m 9 #[.val (.ref a), .val u] [u, (.ref a)]))
  obtain ⟨T44, h44, X44, e44, W44, st44⟩ := putF X43 hx hZ hown (host := "") (Or.inl (hw _ (List.mem_of_getElem? (i := 117) rfl))) Via.refl rfl G (E0.keep K1) (Or.inl (hw _ (List.mem_of_getElem? (i := 118) rfl))) (hw _ (List.mem_of_getElem? (i := 43) rfl)) (ty := (.object "com/example/warmfront/warmfront/ir/Block")) (by decide) (own_narO ru) (own_fitO ru) (g := (mkF m 9 #[.val (.ref a), .val u] [u, (.ref a)])) rfl rfl (hb hby d6_9)
  refine Dn.of st44 ?_
  show Dn p e below s _ _ _ (T44.setTop (mkF m 12 #[.val (.ref a), .val u] []))
  have N1 := Fr.snoc X44 (Fr.app (Fr.app N0 M1) M2) g0
  exact Dn.retV X44 hx hlk hret (hb hby d6_12) (by decide) (by decide) (by rw [e44]; exact ⟨rfl, N1, K1.wr W44 (Or.inl (List.mem_of_getElem? (i := 0) rfl)), G.same W44⟩)
theorem ef14_AVV (m : MethodId) (x0 : Addr) (x1 : Value) (x2 : Value) (r1 : x1.isRef = true) (r2 : x2.isRef = true) : entryFrame m #[(.ref x0), x1, x2] 3 = mkF m 0 #[.val (.ref x0), .val x1, .val x2] [] := by rcases ref_cases r1 with rfl | ⟨y1, rfl⟩ <;> rcases ref_cases r2 with rfl | ⟨y2, rfl⟩ <;> rfl
set_option maxRecDepth 65536 in
set_option maxHeartbeats 40000000 in
theorem rmR (l : Launch) (Z : State) (a0 : Array Value) (hw : ∀ d ∈ tables_1, d.before a0 Z = true) (h0 : Heap) (n0 : Nat) (Z0 : n0 ≤ h0.size) (a : Addr) (u o r : Value) (ru : u.isRef = true) (ro : o.isRef = true) (rr : r.isRef = true) (E0 : Exa Z h0 a "com/example/warmfront/warmfront/ir/Goto") (F : Fld Z h0 a "com/example/warmfront/warmfront/ir/Goto" "target" "Lcom/example/warmfront/warmfront/ir/Block;" u) (g0 : n0 ≤ a) :
    ctr l Z (⟨"com/example/warmfront/warmfront/ir/Goto", "replaceSuccessor", "(Lcom/example/warmfront/warmfront/ir/Block;Lcom/example/warmfront/warmfront/ir/Block;)V"⟩ : MethodName) prog_15_method_4_code 3 none [] ({ frames := 0, cells := 0, slots := 0, locals := 0 } : Room) 0 0 #[(.ref a), o, r] h0 (fun v h L => v = none ∧ Fr n0 L ∧ Keep h0 h [a] ∧ Fld Z h a "com/example/warmfront/warmfront/ir/Goto" "target" "Lcom/example/warmfront/warmfront/ir/Block;" (if u = o then r else u)) := by
  refine ctr_of (plainFor_of_name pn10) ?_
  intro p e s m below meth jc s₁ hx hby hml hret hlk hnm hown hZ e0 X0
  have N0 := Fr.nil n0
  refine Dn.cast (ef14_AVV m a o r ro rr) ?_
  show Dn p e below s _ _ _ (s₁.setTop (mkF m 0 #[.val (.ref a), .val o, .val r] []))
  refine Dn.of (fun tt_ zz_ => XS.aloadN X0.here hx rfl (hb hby d14_0) rfl rfl zz_) ?_
  show Dn p e below s _ _ _ (s₁.setTop (mkF m 1 #[.val (.ref a), .val o, .val r] [(.ref a)]))
  obtain ⟨T45, X45, e45, st45⟩ := getF X0 hx hZ hown (host := "") (Or.inl (hw _ (List.mem_of_getElem? (i := 117) rfl))) Via.refl e0 F (g := (mkF m 1 #[.val (.ref a), .val o, .val r] [(.ref a)])) rfl rfl (hb hby d14_1)
  refine Dn.of st45 ?_
  show Dn p e below s _ _ _ (T45.setTop (mkF m 4 #[.val (.ref a), .val o, .val r] [u]))
  refine Dn.of (fun tt_ zz_ => XS.aloadN X45.here hx rfl (hb hby d14_4) rfl ro zz_) ?_
  show Dn p e below s _ _ _ (T45.setTop (mkF m 5 #[.val (.ref a), .val o, .val r] [o, u]))
  by_cases hq : u = o
  · skip
    refine Dn.of (fun tt_ zz_ => Jvm.RoadKit.acmp (g := (mkF m 5 #[.val (.ref a), .val o, .val r] [o, u])) X45 hx rfl ru ro (pc0 := 5) (pc' := 8) (same := true) rfl (hb hby d14_5) rfl (decide_eq_true hq) (by decide) (by decide) zz_) ?_
    show Dn p e below s _ _ _ (T45.setTop (mkF m 8 #[.val (.ref a), .val o, .val r] []))
    refine Dn.of (fun tt_ zz_ => XS.aloadN X45.here hx rfl (hb hby d14_8) rfl rfl zz_) ?_
    show Dn p e below s _ _ _ (T45.setTop (mkF m 9 #[.val (.ref a), .val o, .val r] [(.ref a)]))
    refine Dn.of (fun tt_ zz_ => XS.aloadN X45.here hx rfl (hb hby d14_9) rfl rr zz_) ?_
    show Dn p e below s _ _ _ (T45.setTop (mkF m 10 #[.val (.ref a), .val o, .val r] [r, (.ref a)]))
    obtain ⟨T46, h46, X46, e46, W46, st46⟩ := putF X45 hx hZ hown (host := "") (Or.inl (hw _ (List.mem_of_getElem? (i := 117) rfl))) Via.refl e45 F E0 (Or.inl (hw _ (List.mem_of_getElem? (i := 118) rfl))) (hw _ (List.mem_of_getElem? (i := 43) rfl)) (ty := (.object "com/example/warmfront/warmfront/ir/Block")) (by decide) (own_narO rr) (own_fitO rr) (g := (mkF m 10 #[.val (.ref a), .val o, .val r] [r, (.ref a)])) rfl rfl (hb hby d14_10)
    refine Dn.of st46 ?_
    show Dn p e below s _ _ _ (T46.setTop (mkF m 13 #[.val (.ref a), .val o, .val r] []))
    have N1 := Fr.snoc X46 N0 g0
    exact Dn.retV X46 hx hlk hret (hb hby d14_13) (by decide) (by decide) (by rw [e46, if_pos hq]; exact ⟨rfl, N1, (Keep.refl h0 [a]).wr W46 (Or.inl (List.mem_of_getElem? (i := 0) rfl)), F.same W46⟩)
  · skip
    refine Dn.of (fun tt_ zz_ => Jvm.RoadKit.acmp (g := (mkF m 5 #[.val (.ref a), .val o, .val r] [o, u])) X45 hx rfl ru ro (pc0 := 5) (pc' := 13) (same := false) rfl (hb hby d14_5) rfl (decide_eq_false hq) (by decide) (by decide) zz_) ?_
    show Dn p e below s _ _ _ (T45.setTop (mkF m 13 #[.val (.ref a), .val o, .val r] []))
    exact Dn.retV X45 hx hlk hret (hb hby d14_13) (by decide) (by decide) (by rw [e45, if_neg hq]; exact ⟨rfl, N0, Keep.refl h0 [a], F⟩)
theorem ef15_A (m : MethodId) (x0 : Addr) : entryFrame m #[(.ref x0)] 1 = mkF m 0 #[.val (.ref x0)] [] := by first | (simp [entryFrame, mkF, argsToLocals, Value.category]; done) | rfl
set_option maxRecDepth 65536 in
set_option maxHeartbeats 40000000 in
theorem rmTg (l : Launch) (Z : State) (a0 : Array Value) (hw : ∀ d ∈ tables_1, d.before a0 Z = true) (h0 : Heap) (n0 : Nat) (Z0 : n0 ≤ h0.size) (a : Addr) (u : Value) (ru : u.isRef = true) (F : Fld Z h0 a "com/example/warmfront/warmfront/ir/Goto" "target" "Lcom/example/warmfront/warmfront/ir/Block;" u) :
    ctr l Z (⟨"com/example/warmfront/warmfront/ir/Goto", "target", "()Lcom/example/warmfront/warmfront/ir/Block;"⟩ : MethodName) prog_15_method_2_code 1 (some (.object "com/example/warmfront/warmfront/ir/Block")) [] ({ frames := 0, cells := 0, slots := 0, locals := 0 } : Room) 0 0 #[(.ref a)] h0 (fun v h L => v = some u ∧ Fr n0 L ∧ h = h0) := by
  refine ctr_of (plainFor_of_name pn10) ?_
  intro p e s m below meth jc s₁ hx hby hml hret hlk hnm hown hZ e0 X0
  have N0 := Fr.nil n0
  refine Dn.cast (ef15_A m a) ?_
  show Dn p e below s _ _ _ (s₁.setTop (mkF m 0 #[.val (.ref a)] []))
  refine Dn.of (fun tt_ zz_ => XS.aloadN X0.here hx rfl (hb hby d15_0) rfl rfl zz_) ?_
  show Dn p e below s _ _ _ (s₁.setTop (mkF m 1 #[.val (.ref a)] [(.ref a)]))
  obtain ⟨T47, X47, e47, st47⟩ := getF X0 hx hZ hown (host := "") (Or.inl (hw _ (List.mem_of_getElem? (i := 117) rfl))) Via.refl e0 F (g := (mkF m 1 #[.val (.ref a)] [(.ref a)])) rfl rfl (hb hby d15_1)
  refine Dn.of st47 ?_
  show Dn p e below s _ _ _ (T47.setTop (mkF m 4 #[.val (.ref a)] [u]))
  exact Dn.retA X47 hx hlk hret rfl ru (hb hby d15_4) (by decide) (by decide) (⟨rfl, N0, e47⟩)
def own_bs (b0 b1 b2 : Addr) (i : Int32) : Value := if i = 0 then .ref b0 else if i = 1 then .ref b1 else if i = 2 then .ref b2 else .null
theorem own_bs_ref (b0 b1 b2 : Addr) (i : Int32) : (own_bs b0 b1 b2 i).isRef = true := by
  unfold own_bs
  repeat' split
  all_goals rfl
theorem own_four {i : Int32} (h : ¬ i < 0 ∧ i < 4) : i = 0 ∨ i = 1 ∨ i = 2 ∨ i = 3 := by
  rw [Int32.lt_iff_toInt_lt, Int32.lt_iff_toInt_lt, show (0 : Int32).toInt = 0 by decide, show (4 : Int32).toInt = 4 by decide] at h
  have u : i.toInt = 0 ∨ i.toInt = 1 ∨ i.toInt = 2 ∨ i.toInt = 3 := by omega
  rcases u with u | u | u | u
  · exact Or.inl (Int32.toInt_inj.mp u)
  · exact Or.inr (Or.inl (Int32.toInt_inj.mp u))
  · exact Or.inr (Or.inr (Or.inl (Int32.toInt_inj.mp u)))
  · exact Or.inr (Or.inr (Or.inr (Int32.toInt_inj.mp u)))
theorem own_get (b0 b1 b2 : Addr) {i : Int32} (h : ¬ i < 0 ∧ i < 4) : getH [((3 : Int32), .null), ((2 : Int32), .ref b2), ((1 : Int32), .ref b1), ((0 : Int32), .ref b0)] [] .null i.toNatClampNeg = own_bs b0 b1 b2 i := by
  rcases own_four h with rfl | rfl | rfl | rfl <;> rfl
theorem own_inj {b0 b1 b2 : Addr} (n1 : b0 ≠ b1) (n2 : b0 ≠ b2) (n3 : b1 ≠ b2) {i j : Int32} (hi : ¬ i < 0 ∧ i < 3) (hj : ¬ j < 0 ∧ j < 4) (h : own_bs b0 b1 b2 i = own_bs b0 b1 b2 j) : i = j := by
  have hi' : i = 0 ∨ i = 1 ∨ i = 2 := by
    rcases own_four (i := i) ⟨hi.1, by
      have := hi.2
      rw [Int32.lt_iff_toInt_lt, show (3 : Int32).toInt = 3 by decide] at this
      rw [Int32.lt_iff_toInt_lt, show (4 : Int32).toInt = 4 by decide]; omega⟩ with q | q | q | rfl
    · exact Or.inl q
    · exact Or.inr (Or.inl q)
    · exact Or.inr (Or.inr q)
    · exact absurd hi.2 (by decide)
  rcases hi' with rfl | rfl | rfl <;> rcases own_four hj with rfl | rfl | rfl | rfl <;> first | rfl | (exfalso; revert h; simp [own_bs, n1, n2, n3, n1.symm, n2.symm, n3.symm])
theorem own_rem (a n : Int32) (h1 : 1 ≤ n.toInt) : ¬ ((a &&& 2147483647) % n) < 0 ∧ ((a &&& 2147483647) % n) < n := by
  have m := c_mask a 2147483647 31 (by decide) (by decide)
  have q := (c_iremV (a &&& 2147483647) n).1 (by omega) (by omega)
  rw [Int32.lt_iff_toInt_lt, Int32.lt_iff_toInt_lt, show (0 : Int32).toInt = 0 by decide]; omega
theorem own_34 {i : Int32} (h : ¬ i < 0 ∧ i < 3) : ¬ i < 0 ∧ i < 4 := by
  refine ⟨h.1, ?_⟩
  have := h.2
  rw [Int32.lt_iff_toInt_lt, show (3 : Int32).toInt = 3 by decide] at this
  rw [Int32.lt_iff_toInt_lt, show (4 : Int32).toInt = 4 by decide]; omega
def own_Q (n0 : Nat) (v : Option Value) (h : Heap) (L : List Loc) : Prop := v = some (.int 1) ∧ Fr n0 L
theorem ef0_III (m : MethodId) (x0 : Int32) (x1 : Int32) (x2 : Int32) : entryFrame m #[(.int x0), (.int x1), (.int x2)] maxLocals = mkF m 0 #[.val (.int x0), .val (.int x1), .val (.int x2), .unset, .unset, .unset, .unset, .unset, .unset] [] := by first | (simp [entryFrame, mkF, argsToLocals, Value.category, maxLocals]; done) | rfl
set_option maxRecDepth 65536 in
set_option maxHeartbeats 40000000 in
theorem rm0 (l : Launch) (Z : State) (a0 : Array Value) (hw : ∀ d ∈ tables_1, d.before a0 Z = true) (ws : List Jvm.Cond) (h0 : Heap) (n0 : Nat) (Z0 : n0 ≤ h0.size) (i0 i1 i2 : Int32) (aD : Addr) (SD : Sta Z Z.heap "java/util/ArrayList" "DEFAULTCAPACITY_EMPTY_ELEMENTDATA" "[Ljava/lang/Object;" (.ref aD)) (aE aX : Addr) (lX : Cell) (EE : Exa Z Z.heap aE "java/util/ImmutableCollections$ListN") (FX : Fld Z Z.heap aE "java/util/ImmutableCollections$ListN" "elements" "[Ljava/lang/Object;" (.ref aX)) (RX : Arr Z Z.heap aX lX (.object "java/lang/Object")) (zX : lX.slots.size = 0) (SE : Sta Z Z.heap "java/util/ImmutableCollections" "EMPTY_LIST" "Ljava/util/ImmutableCollections$ListN;" (.ref aE)) (O0 : Old Z n0 h0) :
    ctr l Z x code maxLocals ret ws room_1 48 192 #[(.int i0), (.int i1), (.int i2)] h0 (own_Q n0) := by
  refine ctr_of (plainFor_of_name pn11) ?_
  intro p e s m below meth jc s₁ hx hby hml hret hlk hnm hown hZ e0 X0
  have N0 := Fr.nil n0
  refine Dn.cast (ef0_III m i0 i1 i2) ?_
  show Dn p e below s _ _ _ (s₁.setTop (mkF m 0 #[.val (.int i0), .val (.int i1), .val (.int i2), .unset, .unset, .unset, .unset, .unset, .unset] []))
  refine Dn.of (fun tt_ zz_ => XS.iconst X0.here hx rfl (hb hby at_0) zz_) ?_
  show Dn p e below s (own_Q n0) 48 192 (s₁.setTop (mkF m 1 #[.val (.int i0), .val (.int i1), .val (.int i2), .unset, .unset, .unset, .unset, .unset, .unset] [(.int (4 : Int32))]))
  obtain ⟨T48, h48, k48, X48, e48, E48, A48, O48, st48⟩ := newR X0 hx hZ hown (hw _ (List.mem_of_getElem? (i := 0) rfl)) (hw _ (List.mem_of_getElem? (i := 1) rfl)) e0 (g := (mkF m 1 #[.val (.int i0), .val (.int i1), .val (.int i2), .unset, .unset, .unset, .unset, .unset, .unset] [(.int (4 : Int32))])) rfl (hb hby at_1) rfl (by decide) (cap := 4) (by decide) (by decide) (by decide) (by decide)
  obtain ⟨b48, g48⟩ : ∃ z, z = h0.size := ⟨_, rfl⟩
  rw [← g48] at A48 st48
  refine Dn.of st48 ?_
  show Dn p e below s (own_Q n0) 48 192 (T48.setTop (mkF m 4 #[.val (.int i0), .val (.int i1), .val (.int i2), .unset, .unset, .unset, .unset, .unset, .unset] [(.ref b48)]))
  have R0 := (Arv.new A48 (by decide)).arh
  have O1 := O0.ext E48
  have Z1 := Nat.le_trans Z0 E48.1
  have gv : n0 ≤ b48 := g48 ▸ Z0
  refine Dn.of (fun tt_ zz_ => XS.astoreN X48.here hx rfl (hb hby at_4) rfl rfl (l' := #[.val (.int i0), .val (.int i1), .val (.int i2), .val (.ref b48), .unset, .unset, .unset, .unset, .unset]) rfl zz_) ?_
  show Dn p e below s (own_Q n0) 48 192 (T48.setTop (mkF m 5 #[.val (.int i0), .val (.int i1), .val (.int i2), .val (.ref b48), .unset, .unset, .unset, .unset, .unset] []))
  refine Dn.of (fun tt_ zz_ => XS.aloadN X48.here hx rfl (hb hby at_5) rfl rfl zz_) ?_
  show Dn p e below s (own_Q n0) 48 192 (T48.setTop (mkF m 6 #[.val (.int i0), .val (.int i1), .val (.int i2), .val (.ref b48), .unset, .unset, .unset, .unset, .unset] [(.ref b48)]))
  refine Dn.of (fun tt_ zz_ => XS.iconst X48.here hx rfl (hb hby at_6) zz_) ?_
  show Dn p e below s (own_Q n0) 48 192 (T48.setTop (mkF m 7 #[.val (.int i0), .val (.int i1), .val (.int i2), .val (.ref b48), .unset, .unset, .unset, .unset, .unset] [(.int (0 : Int32)), (.ref b48)]))
  obtain ⟨T49, h49, X49, e49, E49, A49, D49, U49, st49⟩ := newO X48 hx hZ hown (hw _ (List.mem_of_getElem? (i := 0) rfl)) (hw _ (List.mem_of_getElem? (i := 2) rfl)) (hw _ (List.mem_of_getElem? (i := 3) rfl)) e48 (g := (mkF m 7 #[.val (.int i0), .val (.int i1), .val (.int i2), .val (.ref b48), .unset, .unset, .unset, .unset, .unset] [(.int (0 : Int32)), (.ref b48)])) rfl (hb hby at_7) (by decide) (by decide)
  obtain ⟨b49, g49⟩ : ∃ z, z = h48.size := ⟨_, rfl⟩
  rw [← g49] at A49 D49 U49 st49
  refine Dn.of st49 ?_
  show Dn p e below s (own_Q n0) 48 192 (T49.setTop (mkF m 10 #[.val (.int i0), .val (.int i1), .val (.int i2), .val (.ref b48), .unset, .unset, .unset, .unset, .unset] [(.ref b49), (.int (0 : Int32)), (.ref b48)]))
  have F_predecessors_49 : Fld Z h49 b49 "com/example/warmfront/warmfront/ir/Block" "predecessors" "Ljava/util/List;" .null := D49 (Or.inr (hw _ (List.mem_of_getElem? (i := 35) rfl))) (ty := (.object "java/util/List")) (by decide)
  have F_phis_49 : Fld Z h49 b49 "com/example/warmfront/warmfront/ir/Block" "phis" "Ljava/util/List;" .null := D49 (Or.inr (hw _ (List.mem_of_getElem? (i := 37) rfl))) (ty := (.object "java/util/List")) (by decide)
  have F_applies_49 : Fld Z h49 b49 "com/example/warmfront/warmfront/ir/Block" "applies" "Ljava/util/List;" .null := D49 (Or.inr (hw _ (List.mem_of_getElem? (i := 39) rfl))) (ty := (.object "java/util/List")) (by decide)
  refine Dn.of (fun tt_ zz_ => XS.dup X49.here hx rfl (hb hby at_10) rfl rfl zz_) ?_
  show Dn p e below s (own_Q n0) 48 192 (T49.setTop (mkF m 11 #[.val (.int i0), .val (.int i1), .val (.int i2), .val (.ref b48), .unset, .unset, .unset, .unset, .unset] [(.ref b49), (.ref b49), (.int (0 : Int32)), (.ref b48)]))
  have Za0 := Nat.le_trans Z1 E49.1
  have gb0 : n0 ≤ b49 := g49 ▸ Z1
  obtain ⟨v50, T50, L50, Q50, X50, st50⟩ := cIn X49 hx hZ (y := (⟨"com/example/warmfront/warmfront/ir/Block", "<init>", "()V"⟩ : MethodName)) rfl hown (hw _ (List.mem_of_getElem? (i := 4) rfl)) (hw _ (List.mem_of_getElem? (i := 5) rfl)) (hw _ (List.mem_of_getElem? (i := 3) rfl)) (hw _ (List.mem_of_getElem? (i := 6) rfl)) (by decide) (a := b49) (argsL := []) (rest := [(.ref b49), (.int (0 : Int32)), (.ref b48)]) (rmB l Z a0 hw h49 n0 Za0 b49 aD SD (O1.ext E49) A49 F_predecessors_49 F_phis_49 F_applies_49 gb0) e49  3 (by decide) (by decide) (by decide) (by decide) (g := (mkF m 11 #[.val (.int i0), .val (.int i1), .val (.int i2), .val (.ref b48), .unset, .unset, .unset, .unset, .unset] [(.ref b49), (.ref b49), (.int (0 : Int32)), (.ref b48)])) rfl (by rw [hml]; rfl) (lenOf pd0 rfl) rfl (by show 2 * 0 + _ ≤ _; exact Nat.le_of_eq rfl) (hb hby at_11)
  obtain ⟨rfl, M0, K0⟩ := Q50
  refine Dn.of st50 ?_
  show Dn p e below s (own_Q n0) 48 192 (T50.setTop (mkF m 14 #[.val (.int i0), .val (.int i1), .val (.int i2), .val (.ref b48), .unset, .unset, .unset, .unset, .unset] [(.ref b49), (.int (0 : Int32)), (.ref b48)]))
  have lt0 : b48 < b49 := g49 ▸ R0.lt
  have Oa0 := (O1.ext E49).keep K0 (allS gb0 all0)
  have Rb0 := (R0.ext E49).keep K0 (ninS (Nat.ne_of_lt lt0) nin0)
  have Ex0 := A49.keep K0
  obtain ⟨c0, A_0, p0, S0, P0, H0, G0⟩ := Rb0
  have St0 : Sto Z T50.heap b48 (.ref b49) := Sto.ofV A_0 p0 O48 (Ins.self Ex0)
  obtain ⟨T51, h51, X51, e51, W51, st51⟩ := stR X50 hx hZ rfl A_0 (j := (0 : Int32)) (inb_of S0 (by decide)) rfl St0 (g := (mkF m 14 #[.val (.int i0), .val (.int i1), .val (.int i2), .val (.ref b48), .unset, .unset, .unset, .unset, .unset] [(.ref b49), (.int (0 : Int32)), (.ref b48)])) rfl rfl (hb hby at_14)
  refine Dn.of st51 ?_
  show Dn p e below s (own_Q n0) 48 192 (T51.setTop (mkF m 15 #[.val (.int i0), .val (.int i1), .val (.int i2), .val (.ref b48), .unset, .unset, .unset, .unset, .unset] []))
  have Rc0 := Arh.push A_0 p0 S0 P0 H0 G0 (v := .ref b49) rfl W51 (inb_of S0 (by decide))
  have Nc0 := Fr.snoc X51 (Fr.app N0 M0) gv
  have Od0 := Oa0.wr W51 gv
  have Zd0 := Od0.1 ▸ Od0.2.1
  have Ew0 := Ex0.wr W51
  refine Dn.of (fun tt_ zz_ => XS.aloadN X51.here hx rfl (hb hby at_15) rfl rfl zz_) ?_
  show Dn p e below s (own_Q n0) 48 192 (T51.setTop (mkF m 16 #[.val (.int i0), .val (.int i1), .val (.int i2), .val (.ref b48), .unset, .unset, .unset, .unset, .unset] [(.ref b48)]))
  refine Dn.of (fun tt_ zz_ => XS.iconst X51.here hx rfl (hb hby at_16) zz_) ?_
  show Dn p e below s (own_Q n0) 48 192 (T51.setTop (mkF m 17 #[.val (.int i0), .val (.int i1), .val (.int i2), .val (.ref b48), .unset, .unset, .unset, .unset, .unset] [(.int (1 : Int32)), (.ref b48)]))
  obtain ⟨T52, h52, X52, e52, E52, A52, D52, U52, st52⟩ := newO X51 hx hZ hown (hw _ (List.mem_of_getElem? (i := 0) rfl)) (hw _ (List.mem_of_getElem? (i := 2) rfl)) (hw _ (List.mem_of_getElem? (i := 3) rfl)) e51 (g := (mkF m 17 #[.val (.int i0), .val (.int i1), .val (.int i2), .val (.ref b48), .unset, .unset, .unset, .unset, .unset] [(.int (1 : Int32)), (.ref b48)])) rfl (hb hby at_17) (by decide) (by decide)
  obtain ⟨b52, g52⟩ : ∃ z, z = h51.size := ⟨_, rfl⟩
  rw [← g52] at A52 D52 U52 st52
  refine Dn.of st52 ?_
  show Dn p e below s (own_Q n0) 48 192 (T52.setTop (mkF m 20 #[.val (.int i0), .val (.int i1), .val (.int i2), .val (.ref b48), .unset, .unset, .unset, .unset, .unset] [(.ref b52), (.int (1 : Int32)), (.ref b48)]))
  have F_predecessors_52 : Fld Z h52 b52 "com/example/warmfront/warmfront/ir/Block" "predecessors" "Ljava/util/List;" .null := D52 (Or.inr (hw _ (List.mem_of_getElem? (i := 35) rfl))) (ty := (.object "java/util/List")) (by decide)
  have F_phis_52 : Fld Z h52 b52 "com/example/warmfront/warmfront/ir/Block" "phis" "Ljava/util/List;" .null := D52 (Or.inr (hw _ (List.mem_of_getElem? (i := 37) rfl))) (ty := (.object "java/util/List")) (by decide)
  have F_applies_52 : Fld Z h52 b52 "com/example/warmfront/warmfront/ir/Block" "applies" "Ljava/util/List;" .null := D52 (Or.inr (hw _ (List.mem_of_getElem? (i := 39) rfl))) (ty := (.object "java/util/List")) (by decide)
  refine Dn.of (fun tt_ zz_ => XS.dup X52.here hx rfl (hb hby at_20) rfl rfl zz_) ?_
  show Dn p e below s (own_Q n0) 48 192 (T52.setTop (mkF m 21 #[.val (.int i0), .val (.int i1), .val (.int i2), .val (.ref b48), .unset, .unset, .unset, .unset, .unset] [(.ref b52), (.ref b52), (.int (1 : Int32)), (.ref b48)]))
  have Za1 := Nat.le_trans Zd0 E52.1
  have gb1 : n0 ≤ b52 := g52 ▸ Zd0
  obtain ⟨v53, T53, L53, Q53, X53, st53⟩ := cIn X52 hx hZ (y := (⟨"com/example/warmfront/warmfront/ir/Block", "<init>", "()V"⟩ : MethodName)) rfl hown (hw _ (List.mem_of_getElem? (i := 4) rfl)) (hw _ (List.mem_of_getElem? (i := 5) rfl)) (hw _ (List.mem_of_getElem? (i := 3) rfl)) (hw _ (List.mem_of_getElem? (i := 6) rfl)) (by decide) (a := b52) (argsL := []) (rest := [(.ref b52), (.int (1 : Int32)), (.ref b48)]) (rmB l Z a0 hw h52 n0 Za1 b52 aD SD (Od0.ext E52) A52 F_predecessors_52 F_phis_52 F_applies_52 gb1) e52  3 (by decide) (by decide) (by decide) (by decide) (g := (mkF m 21 #[.val (.int i0), .val (.int i1), .val (.int i2), .val (.ref b48), .unset, .unset, .unset, .unset, .unset] [(.ref b52), (.ref b52), (.int (1 : Int32)), (.ref b48)])) rfl (by rw [hml]; rfl) (lenOf pd0 rfl) rfl (by show 2 * 0 + _ ≤ _; exact Nat.le_of_eq rfl) (hb hby at_21)
  obtain ⟨rfl, M1, K1⟩ := Q53
  refine Dn.of st53 ?_
  show Dn p e below s (own_Q n0) 48 192 (T53.setTop (mkF m 24 #[.val (.int i0), .val (.int i1), .val (.int i2), .val (.ref b48), .unset, .unset, .unset, .unset, .unset] [(.ref b52), (.int (1 : Int32)), (.ref b48)]))
  have lt1 : b48 < b52 := g52 ▸ Rc0.lt
  have Oa1 := (Od0.ext E52).keep K1 (allS gb1 all0)
  have Rb1 := (Rc0.ext E52).keep K1 (ninS (Nat.ne_of_lt lt1) nin0)
  have Ex1 := A52.keep K1
  have Ey10 := (Ew0.ext E52).keep K1
  have df01 : b49 ≠ b52 := Nat.ne_of_lt (g52 ▸ Ew0.lt)
  obtain ⟨c1, A_1, p1, S1, P1, H1, G1⟩ := Rb1
  have St1 : Sto Z T53.heap b48 (.ref b52) := Sto.ofV A_1 p1 O48 (Ins.self Ex1)
  obtain ⟨T54, h54, X54, e54, W54, st54⟩ := stR X53 hx hZ rfl A_1 (j := (1 : Int32)) (inb_of S1 (by decide)) rfl St1 (g := (mkF m 24 #[.val (.int i0), .val (.int i1), .val (.int i2), .val (.ref b48), .unset, .unset, .unset, .unset, .unset] [(.ref b52), (.int (1 : Int32)), (.ref b48)])) rfl rfl (hb hby at_24)
  refine Dn.of st54 ?_
  show Dn p e below s (own_Q n0) 48 192 (T54.setTop (mkF m 25 #[.val (.int i0), .val (.int i1), .val (.int i2), .val (.ref b48), .unset, .unset, .unset, .unset, .unset] []))
  have Rc1 := Arh.push A_1 p1 S1 P1 H1 G1 (v := .ref b52) rfl W54 (inb_of S1 (by decide))
  have Nc1 := Fr.snoc X54 (Fr.app Nc0 M1) gv
  have Od1 := Oa1.wr W54 gv
  have Zd1 := Od1.1 ▸ Od1.2.1
  have Ew1 := Ex1.wr W54
  have Ez10 := Ey10.wr W54
  refine Dn.of (fun tt_ zz_ => XS.aloadN X54.here hx rfl (hb hby at_25) rfl rfl zz_) ?_
  show Dn p e below s (own_Q n0) 48 192 (T54.setTop (mkF m 26 #[.val (.int i0), .val (.int i1), .val (.int i2), .val (.ref b48), .unset, .unset, .unset, .unset, .unset] [(.ref b48)]))
  refine Dn.of (fun tt_ zz_ => XS.iconst X54.here hx rfl (hb hby at_26) zz_) ?_
  show Dn p e below s (own_Q n0) 48 192 (T54.setTop (mkF m 27 #[.val (.int i0), .val (.int i1), .val (.int i2), .val (.ref b48), .unset, .unset, .unset, .unset, .unset] [(.int (2 : Int32)), (.ref b48)]))
  obtain ⟨T55, h55, X55, e55, E55, A55, D55, U55, st55⟩ := newO X54 hx hZ hown (hw _ (List.mem_of_getElem? (i := 0) rfl)) (hw _ (List.mem_of_getElem? (i := 2) rfl)) (hw _ (List.mem_of_getElem? (i := 3) rfl)) e54 (g := (mkF m 27 #[.val (.int i0), .val (.int i1), .val (.int i2), .val (.ref b48), .unset, .unset, .unset, .unset, .unset] [(.int (2 : Int32)), (.ref b48)])) rfl (hb hby at_27) (by decide) (by decide)
  obtain ⟨b55, g55⟩ : ∃ z, z = h54.size := ⟨_, rfl⟩
  rw [← g55] at A55 D55 U55 st55
  refine Dn.of st55 ?_
  show Dn p e below s (own_Q n0) 48 192 (T55.setTop (mkF m 30 #[.val (.int i0), .val (.int i1), .val (.int i2), .val (.ref b48), .unset, .unset, .unset, .unset, .unset] [(.ref b55), (.int (2 : Int32)), (.ref b48)]))
  have F_predecessors_55 : Fld Z h55 b55 "com/example/warmfront/warmfront/ir/Block" "predecessors" "Ljava/util/List;" .null := D55 (Or.inr (hw _ (List.mem_of_getElem? (i := 35) rfl))) (ty := (.object "java/util/List")) (by decide)
  have F_phis_55 : Fld Z h55 b55 "com/example/warmfront/warmfront/ir/Block" "phis" "Ljava/util/List;" .null := D55 (Or.inr (hw _ (List.mem_of_getElem? (i := 37) rfl))) (ty := (.object "java/util/List")) (by decide)
  have F_applies_55 : Fld Z h55 b55 "com/example/warmfront/warmfront/ir/Block" "applies" "Ljava/util/List;" .null := D55 (Or.inr (hw _ (List.mem_of_getElem? (i := 39) rfl))) (ty := (.object "java/util/List")) (by decide)
  refine Dn.of (fun tt_ zz_ => XS.dup X55.here hx rfl (hb hby at_30) rfl rfl zz_) ?_
  show Dn p e below s (own_Q n0) 48 192 (T55.setTop (mkF m 31 #[.val (.int i0), .val (.int i1), .val (.int i2), .val (.ref b48), .unset, .unset, .unset, .unset, .unset] [(.ref b55), (.ref b55), (.int (2 : Int32)), (.ref b48)]))
  have Za2 := Nat.le_trans Zd1 E55.1
  have gb2 : n0 ≤ b55 := g55 ▸ Zd1
  obtain ⟨v56, T56, L56, Q56, X56, st56⟩ := cIn X55 hx hZ (y := (⟨"com/example/warmfront/warmfront/ir/Block", "<init>", "()V"⟩ : MethodName)) rfl hown (hw _ (List.mem_of_getElem? (i := 4) rfl)) (hw _ (List.mem_of_getElem? (i := 5) rfl)) (hw _ (List.mem_of_getElem? (i := 3) rfl)) (hw _ (List.mem_of_getElem? (i := 6) rfl)) (by decide) (a := b55) (argsL := []) (rest := [(.ref b55), (.int (2 : Int32)), (.ref b48)]) (rmB l Z a0 hw h55 n0 Za2 b55 aD SD (Od1.ext E55) A55 F_predecessors_55 F_phis_55 F_applies_55 gb2) e55  3 (by decide) (by decide) (by decide) (by decide) (g := (mkF m 31 #[.val (.int i0), .val (.int i1), .val (.int i2), .val (.ref b48), .unset, .unset, .unset, .unset, .unset] [(.ref b55), (.ref b55), (.int (2 : Int32)), (.ref b48)])) rfl (by rw [hml]; rfl) (lenOf pd0 rfl) rfl (by show 2 * 0 + _ ≤ _; exact Nat.le_of_eq rfl) (hb hby at_31)
  obtain ⟨rfl, M2, K2⟩ := Q56
  refine Dn.of st56 ?_
  show Dn p e below s (own_Q n0) 48 192 (T56.setTop (mkF m 34 #[.val (.int i0), .val (.int i1), .val (.int i2), .val (.ref b48), .unset, .unset, .unset, .unset, .unset] [(.ref b55), (.int (2 : Int32)), (.ref b48)]))
  have lt2 : b48 < b55 := g55 ▸ Rc1.lt
  have Oa2 := (Od1.ext E55).keep K2 (allS gb2 all0)
  have Rb2 := (Rc1.ext E55).keep K2 (ninS (Nat.ne_of_lt lt2) nin0)
  have Ex2 := A55.keep K2
  have Ey20 := (Ez10.ext E55).keep K2
  have df02 : b49 ≠ b55 := Nat.ne_of_lt (g55 ▸ Ez10.lt)
  have Ey21 := (Ew1.ext E55).keep K2
  have df12 : b52 ≠ b55 := Nat.ne_of_lt (g55 ▸ Ew1.lt)
  obtain ⟨c2, A_2, p2, S2, P2, H2, G2⟩ := Rb2
  have St2 : Sto Z T56.heap b48 (.ref b55) := Sto.ofV A_2 p2 O48 (Ins.self Ex2)
  obtain ⟨T57, h57, X57, e57, W57, st57⟩ := stR X56 hx hZ rfl A_2 (j := (2 : Int32)) (inb_of S2 (by decide)) rfl St2 (g := (mkF m 34 #[.val (.int i0), .val (.int i1), .val (.int i2), .val (.ref b48), .unset, .unset, .unset, .unset, .unset] [(.ref b55), (.int (2 : Int32)), (.ref b48)])) rfl rfl (hb hby at_34)
  refine Dn.of st57 ?_
  show Dn p e below s (own_Q n0) 48 192 (T57.setTop (mkF m 35 #[.val (.int i0), .val (.int i1), .val (.int i2), .val (.ref b48), .unset, .unset, .unset, .unset, .unset] []))
  have Rc2 := Arh.push A_2 p2 S2 P2 H2 G2 (v := .ref b55) rfl W57 (inb_of S2 (by decide))
  have Nc2 := Fr.snoc X57 (Fr.app Nc1 M2) gv
  have Od2 := Oa2.wr W57 gv
  have Zd2 := Od2.1 ▸ Od2.2.1
  have Ew2 := Ex2.wr W57
  have Ez20 := Ey20.wr W57
  have Ez21 := Ey21.wr W57
  refine Dn.of (fun tt_ zz_ => XS.aloadN X57.here hx rfl (hb hby at_35) rfl rfl zz_) ?_
  show Dn p e below s (own_Q n0) 48 192 (T57.setTop (mkF m 36 #[.val (.int i0), .val (.int i1), .val (.int i2), .val (.ref b48), .unset, .unset, .unset, .unset, .unset] [(.ref b48)]))
  refine Dn.of (fun tt_ zz_ => XS.iconst X57.here hx rfl (hb hby at_36) zz_) ?_
  show Dn p e below s (own_Q n0) 48 192 (T57.setTop (mkF m 37 #[.val (.int i0), .val (.int i1), .val (.int i2), .val (.ref b48), .unset, .unset, .unset, .unset, .unset] [(.int (3 : Int32)), (.ref b48)]))
  refine Dn.of (fun tt_ zz_ => XS.aconstNull X57.here hx rfl (hb hby at_37) zz_) ?_
  show Dn p e below s (own_Q n0) 48 192 (T57.setTop (mkF m 38 #[.val (.int i0), .val (.int i1), .val (.int i2), .val (.ref b48), .unset, .unset, .unset, .unset, .unset] [.null, (.int (3 : Int32)), (.ref b48)]))
  obtain ⟨c3, A_3, p3, S3, P3, H3, G3⟩ := Rc2
  obtain ⟨T58, h58, X58, e58, W58, st58⟩ := stR X57 hx hZ e57 A_3 (j := (3 : Int32)) (inb_of S3 (by decide)) rfl (Or.inl rfl) (g := (mkF m 38 #[.val (.int i0), .val (.int i1), .val (.int i2), .val (.ref b48), .unset, .unset, .unset, .unset, .unset] [.null, (.int (3 : Int32)), (.ref b48)])) rfl rfl (hb hby at_38)
  refine Dn.of st58 ?_
  show Dn p e below s (own_Q n0) 48 192 (T58.setTop (mkF m 39 #[.val (.int i0), .val (.int i1), .val (.int i2), .val (.ref b48), .unset, .unset, .unset, .unset, .unset] []))
  have R4 := Arh.push A_3 p3 S3 P3 H3 G3 (v := .null) rfl W58 (inb_of S3 (by decide))
  have N4 := Fr.snoc X58 Nc2 gv
  have O4 := Od2.wr W58 gv
  have Z4 := O4.1 ▸ O4.2.1
  refine Dn.of (fun tt_ zz_ => XS.iloadN X58.here hx rfl (hb hby at_39) rfl zz_) ?_
  show Dn p e below s (own_Q n0) 48 192 (T58.setTop (mkF m 40 #[.val (.int i0), .val (.int i1), .val (.int i2), .val (.ref b48), .unset, .unset, .unset, .unset, .unset] [(.int i0)]))
  refine Dn.of (fun tt_ zz_ => X58.ldcI hx hown (mvT hZ (hw _ (List.mem_of_getElem? (i := 41) rfl))) rfl (hb hby at_40) zz_) ?_
  show Dn p e below s (own_Q n0) 48 192 (T58.setTop (mkF m 42 #[.val (.int i0), .val (.int i1), .val (.int i2), .val (.ref b48), .unset, .unset, .unset, .unset, .unset] [(.int (2147483647 : Int32)), (.int i0)]))
  refine Dn.of (fun tt_ zz_ => XS.iand X58.here hx rfl (hb hby at_42) rfl zz_) ?_
  show Dn p e below s (own_Q n0) 48 192 (T58.setTop (mkF m 43 #[.val (.int i0), .val (.int i1), .val (.int i2), .val (.ref b48), .unset, .unset, .unset, .unset, .unset] [(.int (i0 &&& (2147483647 : Int32)))]))
  refine Dn.of (fun tt_ zz_ => XS.iconst X58.here hx rfl (hb hby at_43) zz_) ?_
  show Dn p e below s (own_Q n0) 48 192 (T58.setTop (mkF m 44 #[.val (.int i0), .val (.int i1), .val (.int i2), .val (.ref b48), .unset, .unset, .unset, .unset, .unset] [(.int (3 : Int32)), (.int (i0 &&& (2147483647 : Int32)))]))
  refine Dn.of (fun tt_ zz_ => iremM X58 hx rfl (hb hby at_44) rfl (by decide) zz_) ?_
  show Dn p e below s (own_Q n0) 48 192 (T58.setTop (mkF m 45 #[.val (.int i0), .val (.int i1), .val (.int i2), .val (.ref b48), .unset, .unset, .unset, .unset, .unset] [(.int ((i0 &&& (2147483647 : Int32)) % (3 : Int32)))]))
  refine Dn.of (fun tt_ zz_ => XS.istore X58.here hx rfl (hb hby at_45) rfl (l' := #[.val (.int i0), .val (.int i1), .val (.int i2), .val (.ref b48), .val (.int ((i0 &&& (2147483647 : Int32)) % (3 : Int32))), .unset, .unset, .unset, .unset]) rfl zz_) ?_
  show Dn p e below s (own_Q n0) 48 192 (T58.setTop (mkF m 47 #[.val (.int i0), .val (.int i1), .val (.int i2), .val (.ref b48), .val (.int ((i0 &&& (2147483647 : Int32)) % (3 : Int32))), .unset, .unset, .unset, .unset] []))
  refine Dn.of (fun tt_ zz_ => XS.iloadN X58.here hx rfl (hb hby at_47) rfl zz_) ?_
  show Dn p e below s (own_Q n0) 48 192 (T58.setTop (mkF m 48 #[.val (.int i0), .val (.int i1), .val (.int i2), .val (.ref b48), .val (.int ((i0 &&& (2147483647 : Int32)) % (3 : Int32))), .unset, .unset, .unset, .unset] [(.int i1)]))
  refine Dn.of (fun tt_ zz_ => X58.ldcI hx hown (mvT hZ (hw _ (List.mem_of_getElem? (i := 41) rfl))) rfl (hb hby at_48) zz_) ?_
  show Dn p e below s (own_Q n0) 48 192 (T58.setTop (mkF m 50 #[.val (.int i0), .val (.int i1), .val (.int i2), .val (.ref b48), .val (.int ((i0 &&& (2147483647 : Int32)) % (3 : Int32))), .unset, .unset, .unset, .unset] [(.int (2147483647 : Int32)), (.int i1)]))
  refine Dn.of (fun tt_ zz_ => XS.iand X58.here hx rfl (hb hby at_50) rfl zz_) ?_
  show Dn p e below s (own_Q n0) 48 192 (T58.setTop (mkF m 51 #[.val (.int i0), .val (.int i1), .val (.int i2), .val (.ref b48), .val (.int ((i0 &&& (2147483647 : Int32)) % (3 : Int32))), .unset, .unset, .unset, .unset] [(.int (i1 &&& (2147483647 : Int32)))]))
  refine Dn.of (fun tt_ zz_ => XS.iconst X58.here hx rfl (hb hby at_51) zz_) ?_
  show Dn p e below s (own_Q n0) 48 192 (T58.setTop (mkF m 52 #[.val (.int i0), .val (.int i1), .val (.int i2), .val (.ref b48), .val (.int ((i0 &&& (2147483647 : Int32)) % (3 : Int32))), .unset, .unset, .unset, .unset] [(.int (4 : Int32)), (.int (i1 &&& (2147483647 : Int32)))]))
  refine Dn.of (fun tt_ zz_ => iremM X58 hx rfl (hb hby at_52) rfl (by decide) zz_) ?_
  show Dn p e below s (own_Q n0) 48 192 (T58.setTop (mkF m 53 #[.val (.int i0), .val (.int i1), .val (.int i2), .val (.ref b48), .val (.int ((i0 &&& (2147483647 : Int32)) % (3 : Int32))), .unset, .unset, .unset, .unset] [(.int ((i1 &&& (2147483647 : Int32)) % (4 : Int32)))]))
  refine Dn.of (fun tt_ zz_ => XS.istore X58.here hx rfl (hb hby at_53) rfl (l' := #[.val (.int i0), .val (.int i1), .val (.int i2), .val (.ref b48), .val (.int ((i0 &&& (2147483647 : Int32)) % (3 : Int32))), .val (.int ((i1 &&& (2147483647 : Int32)) % (4 : Int32))), .unset, .unset, .unset]) rfl zz_) ?_
  show Dn p e below s (own_Q n0) 48 192 (T58.setTop (mkF m 55 #[.val (.int i0), .val (.int i1), .val (.int i2), .val (.ref b48), .val (.int ((i0 &&& (2147483647 : Int32)) % (3 : Int32))), .val (.int ((i1 &&& (2147483647 : Int32)) % (4 : Int32))), .unset, .unset, .unset] []))
  refine Dn.of (fun tt_ zz_ => XS.iloadN X58.here hx rfl (hb hby at_55) rfl zz_) ?_
  show Dn p e below s (own_Q n0) 48 192 (T58.setTop (mkF m 56 #[.val (.int i0), .val (.int i1), .val (.int i2), .val (.ref b48), .val (.int ((i0 &&& (2147483647 : Int32)) % (3 : Int32))), .val (.int ((i1 &&& (2147483647 : Int32)) % (4 : Int32))), .unset, .unset, .unset] [(.int i2)]))
  refine Dn.of (fun tt_ zz_ => X58.ldcI hx hown (mvT hZ (hw _ (List.mem_of_getElem? (i := 41) rfl))) rfl (hb hby at_56) zz_) ?_
  show Dn p e below s (own_Q n0) 48 192 (T58.setTop (mkF m 58 #[.val (.int i0), .val (.int i1), .val (.int i2), .val (.ref b48), .val (.int ((i0 &&& (2147483647 : Int32)) % (3 : Int32))), .val (.int ((i1 &&& (2147483647 : Int32)) % (4 : Int32))), .unset, .unset, .unset] [(.int (2147483647 : Int32)), (.int i2)]))
  refine Dn.of (fun tt_ zz_ => XS.iand X58.here hx rfl (hb hby at_58) rfl zz_) ?_
  show Dn p e below s (own_Q n0) 48 192 (T58.setTop (mkF m 59 #[.val (.int i0), .val (.int i1), .val (.int i2), .val (.ref b48), .val (.int ((i0 &&& (2147483647 : Int32)) % (3 : Int32))), .val (.int ((i1 &&& (2147483647 : Int32)) % (4 : Int32))), .unset, .unset, .unset] [(.int (i2 &&& (2147483647 : Int32)))]))
  refine Dn.of (fun tt_ zz_ => XS.iconst X58.here hx rfl (hb hby at_59) zz_) ?_
  show Dn p e below s (own_Q n0) 48 192 (T58.setTop (mkF m 60 #[.val (.int i0), .val (.int i1), .val (.int i2), .val (.ref b48), .val (.int ((i0 &&& (2147483647 : Int32)) % (3 : Int32))), .val (.int ((i1 &&& (2147483647 : Int32)) % (4 : Int32))), .unset, .unset, .unset] [(.int (4 : Int32)), (.int (i2 &&& (2147483647 : Int32)))]))
  refine Dn.of (fun tt_ zz_ => iremM X58 hx rfl (hb hby at_60) rfl (by decide) zz_) ?_
  show Dn p e below s (own_Q n0) 48 192 (T58.setTop (mkF m 61 #[.val (.int i0), .val (.int i1), .val (.int i2), .val (.ref b48), .val (.int ((i0 &&& (2147483647 : Int32)) % (3 : Int32))), .val (.int ((i1 &&& (2147483647 : Int32)) % (4 : Int32))), .unset, .unset, .unset] [(.int ((i2 &&& (2147483647 : Int32)) % (4 : Int32)))]))
  refine Dn.of (fun tt_ zz_ => XS.istore X58.here hx rfl (hb hby at_61) rfl (l' := #[.val (.int i0), .val (.int i1), .val (.int i2), .val (.ref b48), .val (.int ((i0 &&& (2147483647 : Int32)) % (3 : Int32))), .val (.int ((i1 &&& (2147483647 : Int32)) % (4 : Int32))), .val (.int ((i2 &&& (2147483647 : Int32)) % (4 : Int32))), .unset, .unset]) rfl zz_) ?_
  show Dn p e below s (own_Q n0) 48 192 (T58.setTop (mkF m 63 #[.val (.int i0), .val (.int i1), .val (.int i2), .val (.ref b48), .val (.int ((i0 &&& (2147483647 : Int32)) % (3 : Int32))), .val (.int ((i1 &&& (2147483647 : Int32)) % (4 : Int32))), .val (.int ((i2 &&& (2147483647 : Int32)) % (4 : Int32))), .unset, .unset] []))
  have ct := own_rem i0 3 (by decide)
  have co := own_rem i1 4 (by decide)
  have cr := own_rem i2 4 (by decide)
  generalize ((i0 &&& (2147483647 : Int32)) % (3 : Int32)) = ti at *
  generalize ((i1 &&& (2147483647 : Int32)) % (4 : Int32)) = oi at *
  generalize ((i2 &&& (2147483647 : Int32)) % (4 : Int32)) = ri at *
  show Dn p e below s (own_Q n0) 48 192 (T58.setTop (mkF m 63 #[.val (.int i0), .val (.int i1), .val (.int i2), .val (.ref b48), .val (.int ti), .val (.int oi), .val (.int ri), .unset, .unset] []))
  have ct4 := own_34 ct
  obtain ⟨T59, h59, X59, e59, E59, A59, D59, U59, st59⟩ := newO X58 hx hZ hown (hw _ (List.mem_of_getElem? (i := 42) rfl)) (hw _ (List.mem_of_getElem? (i := 43) rfl)) (hw _ (List.mem_of_getElem? (i := 44) rfl)) e58 (g := (mkF m 63 #[.val (.int i0), .val (.int i1), .val (.int i2), .val (.ref b48), .val (.int ti), .val (.int oi), .val (.int ri), .unset, .unset] [])) rfl (hb hby at_63) (by decide) (by decide)
  obtain ⟨b59, g59⟩ : ∃ z, z = h58.size := ⟨_, rfl⟩
  rw [← g59] at A59 D59 U59 st59
  refine Dn.of st59 ?_
  show Dn p e below s (own_Q n0) 48 192 (T59.setTop (mkF m 66 #[.val (.int i0), .val (.int i1), .val (.int i2), .val (.ref b48), .val (.int ti), .val (.int oi), .val (.int ri), .unset, .unset] [(.ref b59)]))
  have F_operands_59 : Fld Z h59 b59 "com/example/warmfront/warmfront/ir/Instruction" "operands" "Ljava/util/List;" .null := D59 (Or.inr (hw _ (List.mem_of_getElem? (i := 68) rfl))) (ty := (.object "java/util/List")) (by decide)
  have F_stateValues_59 : Fld Z h59 b59 "com/example/warmfront/warmfront/ir/Instruction" "stateValues" "Ljava/util/List;" .null := D59 (Or.inr (hw _ (List.mem_of_getElem? (i := 70) rfl))) (ty := (.object "java/util/List")) (by decide)
  have F_users_59 : Fld Z h59 b59 "com/example/warmfront/warmfront/ir/Instruction" "users" "Ljava/util/List;" .null := D59 (Or.inr (hw _ (List.mem_of_getElem? (i := 72) rfl))) (ty := (.object "java/util/List")) (by decide)
  have F_target_59 : Fld Z h59 b59 "com/example/warmfront/warmfront/ir/Goto" "target" "Lcom/example/warmfront/warmfront/ir/Block;" .null := D59 (Or.inl (hw _ (List.mem_of_getElem? (i := 118) rfl))) (ty := (.object "com/example/warmfront/warmfront/ir/Block")) (by decide)
  have Z5 := Nat.le_trans Z4 E59.1
  have gg : n0 ≤ b59 := g59 ▸ Z4
  have R5 := R4.ext E59
  have lg : b48 ≠ b59 := Nat.ne_of_lt (g59 ▸ R4.lt)
  refine Dn.of (fun tt_ zz_ => XS.dup X59.here hx rfl (hb hby at_66) rfl rfl zz_) ?_
  show Dn p e below s (own_Q n0) 48 192 (T59.setTop (mkF m 67 #[.val (.int i0), .val (.int i1), .val (.int i2), .val (.ref b48), .val (.int ti), .val (.int oi), .val (.int ri), .unset, .unset] [(.ref b59), (.ref b59)]))
  refine Dn.of (fun tt_ zz_ => XS.aloadN X59.here hx rfl (hb hby at_67) rfl rfl zz_) ?_
  show Dn p e below s (own_Q n0) 48 192 (T59.setTop (mkF m 68 #[.val (.int i0), .val (.int i1), .val (.int i2), .val (.ref b48), .val (.int ti), .val (.int oi), .val (.int ri), .unset, .unset] [(.ref b48), (.ref b59), (.ref b59)]))
  refine Dn.of (fun tt_ zz_ => XS.iload X59.here hx rfl (hb hby at_68) rfl zz_) ?_
  show Dn p e below s (own_Q n0) 48 192 (T59.setTop (mkF m 70 #[.val (.int i0), .val (.int i1), .val (.int i2), .val (.ref b48), .val (.int ti), .val (.int oi), .val (.int ri), .unset, .unset] [(.int ti), (.ref b48), (.ref b59), (.ref b59)]))
  have Rr60 := R5
  obtain ⟨d60, B_60, _, Sd60, _, Hd60, _⟩ := Rr60
  refine Dn.of (fun tt_ zz_ => X59.aaload hx (j := ti) (v := (own_bs b49 b52 b55 ti)) (by rw [e59]; exact B_60.1) (State.isArrayOf_alike hZ.alike B_60.2.1) rfl B_60.2.2 (inb_of Sd60 ct4) (atH Hd60 (inb_of Sd60 ct4) (own_get b49 b52 b55 ct4)) (g := (mkF m 70 #[.val (.int i0), .val (.int i1), .val (.int i2), .val (.ref b48), .val (.int ti), .val (.int oi), .val (.int ri), .unset, .unset] [(.int ti), (.ref b48), (.ref b59), (.ref b59)])) rfl rfl (hb hby at_70) tt_ zz_) ?_
  show Dn p e below s (own_Q n0) 48 192 (T59.setTop (mkF m 71 #[.val (.int i0), .val (.int i1), .val (.int i2), .val (.ref b48), .val (.int ti), .val (.int oi), .val (.int ri), .unset, .unset] [(own_bs b49 b52 b55 ti), (.ref b59), (.ref b59)]))
  obtain ⟨v61, T61, L61, Q61, X61, st61⟩ := cIn X59 hx hZ (y := (⟨"com/example/warmfront/warmfront/ir/Goto", "<init>", "(Lcom/example/warmfront/warmfront/ir/Block;)V"⟩ : MethodName)) rfl hown (hw _ (List.mem_of_getElem? (i := 45) rfl)) (hw _ (List.mem_of_getElem? (i := 46) rfl)) (hw _ (List.mem_of_getElem? (i := 44) rfl)) (hw _ (List.mem_of_getElem? (i := 47) rfl)) (by decide) (a := b59) (argsL := [(own_bs b49 b52 b55 ti)]) (rest := [(.ref b59)]) (rmG l Z a0 hw h59 n0 Z5 b59 (own_bs b49 b52 b55 ti) (own_bs_ref b49 b52 b55 ti) aD SD aE aX lX EE FX RX zX SE (O4.ext E59) A59 F_operands_59 F_stateValues_59 F_users_59 F_target_59 gg) e59  1 (by decide) (by decide) (by decide) (by decide) (g := (mkF m 71 #[.val (.int i0), .val (.int i1), .val (.int i2), .val (.ref b48), .val (.int ti), .val (.int oi), .val (.int ri), .unset, .unset] [(own_bs b49 b52 b55 ti), (.ref b59), (.ref b59)])) rfl (by rw [hml]; rfl) (lenOf pd7 rfl) rfl (by show 2 * 0 + _ ≤ _; exact Nat.le_of_eq rfl) (hb hby at_71)
  obtain ⟨rfl, M6, K6, FT⟩ := Q61
  refine Dn.of st61 ?_
  show Dn p e below s (own_Q n0) 48 192 (T61.setTop (mkF m 74 #[.val (.int i0), .val (.int i1), .val (.int i2), .val (.ref b48), .val (.int ti), .val (.int oi), .val (.int ri), .unset, .unset] [(.ref b59)]))
  have R6 := R5.keep K6 (ninS lg nin0)
  have E6 := A59.keep K6
  have Z6 := Nat.le_trans Z5 K6.1
  refine Dn.of (fun tt_ zz_ => XS.astore X61.here hx rfl (hb hby at_74) rfl rfl (l' := #[.val (.int i0), .val (.int i1), .val (.int i2), .val (.ref b48), .val (.int ti), .val (.int oi), .val (.int ri), .val (.ref b59), .unset]) rfl zz_) ?_
  show Dn p e below s (own_Q n0) 48 192 (T61.setTop (mkF m 76 #[.val (.int i0), .val (.int i1), .val (.int i2), .val (.ref b48), .val (.int ti), .val (.int oi), .val (.int ri), .val (.ref b59), .unset] []))
  refine Dn.of (fun tt_ zz_ => XS.aload X61.here hx rfl (hb hby at_76) rfl rfl zz_) ?_
  show Dn p e below s (own_Q n0) 48 192 (T61.setTop (mkF m 78 #[.val (.int i0), .val (.int i1), .val (.int i2), .val (.ref b48), .val (.int ti), .val (.int oi), .val (.int ri), .val (.ref b59), .unset] [(.ref b59)]))
  refine Dn.of (fun tt_ zz_ => XS.aloadN X61.here hx rfl (hb hby at_78) rfl rfl zz_) ?_
  show Dn p e below s (own_Q n0) 48 192 (T61.setTop (mkF m 79 #[.val (.int i0), .val (.int i1), .val (.int i2), .val (.ref b48), .val (.int ti), .val (.int oi), .val (.int ri), .val (.ref b59), .unset] [(.ref b48), (.ref b59)]))
  refine Dn.of (fun tt_ zz_ => XS.iload X61.here hx rfl (hb hby at_79) rfl zz_) ?_
  show Dn p e below s (own_Q n0) 48 192 (T61.setTop (mkF m 81 #[.val (.int i0), .val (.int i1), .val (.int i2), .val (.ref b48), .val (.int ti), .val (.int oi), .val (.int ri), .val (.ref b59), .unset] [(.int oi), (.ref b48), (.ref b59)]))
  have Rr62 := R6
  obtain ⟨d62, B_62, _, Sd62, _, Hd62, _⟩ := Rr62
  refine Dn.of (fun tt_ zz_ => X61.aaload hx (j := oi) (v := (own_bs b49 b52 b55 oi)) B_62.1 (State.isArrayOf_alike hZ.alike B_62.2.1) rfl B_62.2.2 (inb_of Sd62 co) (atH Hd62 (inb_of Sd62 co) (own_get b49 b52 b55 co)) (g := (mkF m 81 #[.val (.int i0), .val (.int i1), .val (.int i2), .val (.ref b48), .val (.int ti), .val (.int oi), .val (.int ri), .val (.ref b59), .unset] [(.int oi), (.ref b48), (.ref b59)])) rfl rfl (hb hby at_81) tt_ zz_) ?_
  show Dn p e below s (own_Q n0) 48 192 (T61.setTop (mkF m 82 #[.val (.int i0), .val (.int i1), .val (.int i2), .val (.ref b48), .val (.int ti), .val (.int oi), .val (.int ri), .val (.ref b59), .unset] [(own_bs b49 b52 b55 oi), (.ref b59)]))
  refine Dn.of (fun tt_ zz_ => XS.aloadN X61.here hx rfl (hb hby at_82) rfl rfl zz_) ?_
  show Dn p e below s (own_Q n0) 48 192 (T61.setTop (mkF m 83 #[.val (.int i0), .val (.int i1), .val (.int i2), .val (.ref b48), .val (.int ti), .val (.int oi), .val (.int ri), .val (.ref b59), .unset] [(.ref b48), (own_bs b49 b52 b55 oi), (.ref b59)]))
  refine Dn.of (fun tt_ zz_ => XS.iload X61.here hx rfl (hb hby at_83) rfl zz_) ?_
  show Dn p e below s (own_Q n0) 48 192 (T61.setTop (mkF m 85 #[.val (.int i0), .val (.int i1), .val (.int i2), .val (.ref b48), .val (.int ti), .val (.int oi), .val (.int ri), .val (.ref b59), .unset] [(.int ri), (.ref b48), (own_bs b49 b52 b55 oi), (.ref b59)]))
  have Rr63 := R6
  obtain ⟨d63, B_63, _, Sd63, _, Hd63, _⟩ := Rr63
  refine Dn.of (fun tt_ zz_ => X61.aaload hx (j := ri) (v := (own_bs b49 b52 b55 ri)) B_63.1 (State.isArrayOf_alike hZ.alike B_63.2.1) rfl B_63.2.2 (inb_of Sd63 cr) (atH Hd63 (inb_of Sd63 cr) (own_get b49 b52 b55 cr)) (g := (mkF m 85 #[.val (.int i0), .val (.int i1), .val (.int i2), .val (.ref b48), .val (.int ti), .val (.int oi), .val (.int ri), .val (.ref b59), .unset] [(.int ri), (.ref b48), (own_bs b49 b52 b55 oi), (.ref b59)])) rfl rfl (hb hby at_85) tt_ zz_) ?_
  show Dn p e below s (own_Q n0) 48 192 (T61.setTop (mkF m 86 #[.val (.int i0), .val (.int i1), .val (.int i2), .val (.ref b48), .val (.int ti), .val (.int oi), .val (.int ri), .val (.ref b59), .unset] [(own_bs b49 b52 b55 ri), (own_bs b49 b52 b55 oi), (.ref b59)]))
  obtain ⟨v64, T64, L64, Q64, X64, st64⟩ := cVi X61 hx hZ (C := "com/example/warmfront/warmfront/ir/Goto") (y := (⟨"com/example/warmfront/warmfront/ir/Goto", "replaceSuccessor", "(Lcom/example/warmfront/warmfront/ir/Block;Lcom/example/warmfront/warmfront/ir/Block;)V"⟩ : MethodName)) (z := (⟨"com/example/warmfront/warmfront/ir/Goto", "replaceSuccessor", "(Lcom/example/warmfront/warmfront/ir/Block;Lcom/example/warmfront/warmfront/ir/Block;)V"⟩ : MethodName)) hown (hw _ (List.mem_of_getElem? (i := 119) rfl)) (hw _ (List.mem_of_getElem? (i := 120) rfl)) (notFace_of_selects (args := #[]) (mvT hZ (hw _ (List.mem_of_getElem? (i := 122) rfl)))) (hw _ (List.mem_of_getElem? (i := 122) rfl)) (hw _ (List.mem_of_getElem? (i := 121) rfl)) (hw _ (List.mem_of_getElem? (i := 44) rfl)) (hw _ (List.mem_of_getElem? (i := 123) rfl)) (by decide) (a := b59) (argsL := [(own_bs b49 b52 b55 oi), (own_bs b49 b52 b55 ri)]) (rest := []) (rmR l Z a0 hw T61.heap n0 Z6 b59 (own_bs b49 b52 b55 ti) (own_bs b49 b52 b55 oi) (own_bs b49 b52 b55 ri) (own_bs_ref b49 b52 b55 ti) (own_bs_ref b49 b52 b55 oi) (own_bs_ref b49 b52 b55 ri) E6 FT gg) rfl E6 0 (by decide) (by decide) (by decide) (by decide) (g := (mkF m 86 #[.val (.int i0), .val (.int i1), .val (.int i2), .val (.ref b48), .val (.int ti), .val (.int oi), .val (.int ri), .val (.ref b59), .unset] [(own_bs b49 b52 b55 ri), (own_bs b49 b52 b55 oi), (.ref b59)])) rfl (by rw [hml]; rfl) (lenOf pd8 rfl) rfl (by show 2 * 0 + _ ≤ _; exact Nat.le_of_eq rfl) (hb hby at_86)
  obtain ⟨rfl, M7, K7, FU⟩ := Q64
  refine Dn.of st64 ?_
  show Dn p e below s (own_Q n0) 48 192 (T64.setTop (mkF m 89 #[.val (.int i0), .val (.int i1), .val (.int i2), .val (.ref b48), .val (.int ti), .val (.int oi), .val (.int ri), .val (.ref b59), .unset] []))
  have R7 := R6.keep K7 (ninS lg nin0)
  have E7 := E6.keep K7
  have Z7 := Nat.le_trans Z6 K7.1
  refine Dn.of (fun tt_ zz_ => XS.iload X64.here hx rfl (hb hby at_89) rfl zz_) ?_
  show Dn p e below s (own_Q n0) 48 192 (T64.setTop (mkF m 91 #[.val (.int i0), .val (.int i1), .val (.int i2), .val (.ref b48), .val (.int ti), .val (.int oi), .val (.int ri), .val (.ref b59), .unset] [(.int ti)]))
  refine Dn.of (fun tt_ zz_ => XS.iload X64.here hx rfl (hb hby at_91) rfl zz_) ?_
  show Dn p e below s (own_Q n0) 48 192 (T64.setTop (mkF m 93 #[.val (.int i0), .val (.int i1), .val (.int i2), .val (.ref b48), .val (.int ti), .val (.int oi), .val (.int ri), .val (.ref b59), .unset] [(.int oi), (.int ti)]))
  by_cases hq : ti = oi
  · skip
    refine Dn.of (fun tt_ zz_ => XS.icmpNo X64.here hx rfl (hb hby at_93) rfl (teq hq).2 zz_) ?_
    show Dn p e below s (own_Q n0) 48 192 (T64.setTop (mkF m 96 #[.val (.int i0), .val (.int i1), .val (.int i2), .val (.ref b48), .val (.int ti), .val (.int oi), .val (.int ri), .val (.ref b59), .unset] []))
    have FU' : Fld Z T64.heap b59 "com/example/warmfront/warmfront/ir/Goto" "target" "Lcom/example/warmfront/warmfront/ir/Block;" (own_bs b49 b52 b55 ri) := by rw [if_pos (by rw [hq])] at FU; exact FU
    refine Dn.of (fun tt_ zz_ => XS.aloadN X64.here hx rfl (hb hby at_96) rfl rfl zz_) ?_
    show Dn p e below s (own_Q n0) 48 192 (T64.setTop (mkF m 97 #[.val (.int i0), .val (.int i1), .val (.int i2), .val (.ref b48), .val (.int ti), .val (.int oi), .val (.int ri), .val (.ref b59), .unset] [(.ref b48)]))
    refine Dn.of (fun tt_ zz_ => XS.iload X64.here hx rfl (hb hby at_97) rfl zz_) ?_
    show Dn p e below s (own_Q n0) 48 192 (T64.setTop (mkF m 99 #[.val (.int i0), .val (.int i1), .val (.int i2), .val (.ref b48), .val (.int ti), .val (.int oi), .val (.int ri), .val (.ref b59), .unset] [(.int ri), (.ref b48)]))
    have Rr65 := R7
    obtain ⟨d65, B_65, _, Sd65, _, Hd65, _⟩ := Rr65
    refine Dn.of (fun tt_ zz_ => X64.aaload hx (j := ri) (v := (own_bs b49 b52 b55 ri)) B_65.1 (State.isArrayOf_alike hZ.alike B_65.2.1) rfl B_65.2.2 (inb_of Sd65 cr) (atH Hd65 (inb_of Sd65 cr) (own_get b49 b52 b55 cr)) (g := (mkF m 99 #[.val (.int i0), .val (.int i1), .val (.int i2), .val (.ref b48), .val (.int ti), .val (.int oi), .val (.int ri), .val (.ref b59), .unset] [(.int ri), (.ref b48)])) rfl rfl (hb hby at_99) tt_ zz_) ?_
    show Dn p e below s (own_Q n0) 48 192 (T64.setTop (mkF m 100 #[.val (.int i0), .val (.int i1), .val (.int i2), .val (.ref b48), .val (.int ti), .val (.int oi), .val (.int ri), .val (.ref b59), .unset] [(own_bs b49 b52 b55 ri)]))
    refine Dn.of (fun tt_ zz_ => XS.astore X64.here hx rfl (hb hby at_100) rfl (own_bs_ref b49 b52 b55 ri) (l' := #[.val (.int i0), .val (.int i1), .val (.int i2), .val (.ref b48), .val (.int ti), .val (.int oi), .val (.int ri), .val (.ref b59), .val (own_bs b49 b52 b55 ri)]) (XS.store1 rfl (Or.inl rfl) (own_cat (own_bs_ref b49 b52 b55 ri))) zz_) ?_
    show Dn p e below s (own_Q n0) 48 192 (T64.setTop (mkF m 102 #[.val (.int i0), .val (.int i1), .val (.int i2), .val (.ref b48), .val (.int ti), .val (.int oi), .val (.int ri), .val (.ref b59), .val (own_bs b49 b52 b55 ri)] []))
    refine Dn.of (fun tt_ zz_ => XS.goto X64.here hx rfl (pc0 := 102) (pc' := 111) rfl (hb hby at_102) (by decide) (by decide) zz_) ?_
    show Dn p e below s (own_Q n0) 48 192 (T64.setTop (mkF m 111 #[.val (.int i0), .val (.int i1), .val (.int i2), .val (.ref b48), .val (.int ti), .val (.int oi), .val (.int ri), .val (.ref b59), .val (own_bs b49 b52 b55 ri)] []))
    refine Dn.of (fun tt_ zz_ => XS.aload X64.here hx rfl (hb hby at_111) rfl rfl zz_) ?_
    show Dn p e below s (own_Q n0) 48 192 (T64.setTop (mkF m 113 #[.val (.int i0), .val (.int i1), .val (.int i2), .val (.ref b48), .val (.int ti), .val (.int oi), .val (.int ri), .val (.ref b59), .val (own_bs b49 b52 b55 ri)] [(.ref b59)]))
    obtain ⟨v66, T66, L66, Q66, X66, st66⟩ := cVi X64 hx hZ (C := "com/example/warmfront/warmfront/ir/Goto") (y := (⟨"com/example/warmfront/warmfront/ir/Goto", "target", "()Lcom/example/warmfront/warmfront/ir/Block;"⟩ : MethodName)) (z := (⟨"com/example/warmfront/warmfront/ir/Goto", "target", "()Lcom/example/warmfront/warmfront/ir/Block;"⟩ : MethodName)) hown (hw _ (List.mem_of_getElem? (i := 124) rfl)) (hw _ (List.mem_of_getElem? (i := 125) rfl)) (notFace_of_selects (args := #[]) (mvT hZ (hw _ (List.mem_of_getElem? (i := 127) rfl)))) (hw _ (List.mem_of_getElem? (i := 127) rfl)) (hw _ (List.mem_of_getElem? (i := 126) rfl)) (hw _ (List.mem_of_getElem? (i := 44) rfl)) (hw _ (List.mem_of_getElem? (i := 128) rfl)) (by decide) (a := b59) (argsL := []) (rest := []) (rmTg l Z a0 hw T64.heap n0 Z7 b59 (own_bs b49 b52 b55 ri) (own_bs_ref b49 b52 b55 ri) FU') rfl E7 0 (by decide) (by decide) (by decide) (by decide) (g := (mkF m 113 #[.val (.int i0), .val (.int i1), .val (.int i2), .val (.ref b48), .val (.int ti), .val (.int oi), .val (.int ri), .val (.ref b59), .val (own_bs b49 b52 b55 ri)] [(.ref b59)])) rfl (by rw [hml]; rfl) (lenOf pd9 rfl) rfl (by show 2 * 0 + _ ≤ _; exact Nat.le_of_eq rfl) (hb hby at_113)
    obtain ⟨rfl, M8, e66⟩ := Q66
    refine Dn.of st66 ?_
    show Dn p e below s (own_Q n0) 48 192 (T66.setTop (mkF m 116 #[.val (.int i0), .val (.int i1), .val (.int i2), .val (.ref b48), .val (.int ti), .val (.int oi), .val (.int ri), .val (.ref b59), .val (own_bs b49 b52 b55 ri)] [(own_bs b49 b52 b55 ri)]))
    refine Dn.of (fun tt_ zz_ => XS.aload X66.here hx rfl (hb hby at_116) rfl (own_bs_ref b49 b52 b55 ri) zz_) ?_
    show Dn p e below s (own_Q n0) 48 192 (T66.setTop (mkF m 118 #[.val (.int i0), .val (.int i1), .val (.int i2), .val (.ref b48), .val (.int ti), .val (.int oi), .val (.int ri), .val (.ref b59), .val (own_bs b49 b52 b55 ri)] [(own_bs b49 b52 b55 ri), (own_bs b49 b52 b55 ri)]))
    refine Dn.of (fun tt_ zz_ => Jvm.RoadKit.acmp (g := (mkF m 118 #[.val (.int i0), .val (.int i1), .val (.int i2), .val (.ref b48), .val (.int ti), .val (.int oi), .val (.int ri), .val (.ref b59), .val (own_bs b49 b52 b55 ri)] [(own_bs b49 b52 b55 ri), (own_bs b49 b52 b55 ri)])) X66 hx rfl (own_bs_ref b49 b52 b55 ri) (own_bs_ref b49 b52 b55 ri) (pc0 := 118) (pc' := 121) (same := true) rfl (hb hby at_118) rfl (decide_eq_true rfl) (by decide) (by decide) zz_) ?_
    show Dn p e below s (own_Q n0) 48 192 (T66.setTop (mkF m 121 #[.val (.int i0), .val (.int i1), .val (.int i2), .val (.ref b48), .val (.int ti), .val (.int oi), .val (.int ri), .val (.ref b59), .val (own_bs b49 b52 b55 ri)] []))
    refine Dn.of (fun tt_ zz_ => XS.iconst X66.here hx rfl (hb hby at_121) zz_) ?_
    show Dn p e below s (own_Q n0) 48 192 (T66.setTop (mkF m 122 #[.val (.int i0), .val (.int i1), .val (.int i2), .val (.ref b48), .val (.int ti), .val (.int oi), .val (.int ri), .val (.ref b59), .val (own_bs b49 b52 b55 ri)] [(.int (1 : Int32))]))
    refine Dn.of (fun tt_ zz_ => XS.goto X66.here hx rfl (pc0 := 122) (pc' := 126) rfl (hb hby at_122) (by decide) (by decide) zz_) ?_
    show Dn p e below s (own_Q n0) 48 192 (T66.setTop (mkF m 126 #[.val (.int i0), .val (.int i1), .val (.int i2), .val (.ref b48), .val (.int ti), .val (.int oi), .val (.int ri), .val (.ref b59), .val (own_bs b49 b52 b55 ri)] [(.int (1 : Int32))]))
    exact Dn.retN X66 hx hlk (t := .boolean) hret (by simp) (hb hby at_126) (by decide) (by decide) (⟨rfl, Fr.app (Fr.app (Fr.app N4 M6) M7) M8⟩)
  · skip
    refine Dn.of (fun tt_ zz_ => XS.icmpYes X64.here hx rfl (pc0 := 93) (pc' := 105) rfl (hb hby at_93) rfl (feq hq).2 (by decide) (by decide) zz_) ?_
    show Dn p e below s (own_Q n0) 48 192 (T64.setTop (mkF m 105 #[.val (.int i0), .val (.int i1), .val (.int i2), .val (.ref b48), .val (.int ti), .val (.int oi), .val (.int ri), .val (.ref b59), .unset] []))
    have FU' : Fld Z T64.heap b59 "com/example/warmfront/warmfront/ir/Goto" "target" "Lcom/example/warmfront/warmfront/ir/Block;" (own_bs b49 b52 b55 ti) := by rw [if_neg (fun y => hq (own_inj df01 df02 df12 ct co y))] at FU; exact FU
    refine Dn.of (fun tt_ zz_ => XS.aloadN X64.here hx rfl (hb hby at_105) rfl rfl zz_) ?_
    show Dn p e below s (own_Q n0) 48 192 (T64.setTop (mkF m 106 #[.val (.int i0), .val (.int i1), .val (.int i2), .val (.ref b48), .val (.int ti), .val (.int oi), .val (.int ri), .val (.ref b59), .unset] [(.ref b48)]))
    refine Dn.of (fun tt_ zz_ => XS.iload X64.here hx rfl (hb hby at_106) rfl zz_) ?_
    show Dn p e below s (own_Q n0) 48 192 (T64.setTop (mkF m 108 #[.val (.int i0), .val (.int i1), .val (.int i2), .val (.ref b48), .val (.int ti), .val (.int oi), .val (.int ri), .val (.ref b59), .unset] [(.int ti), (.ref b48)]))
    have Rr67 := R7
    obtain ⟨d67, B_67, _, Sd67, _, Hd67, _⟩ := Rr67
    refine Dn.of (fun tt_ zz_ => X64.aaload hx (j := ti) (v := (own_bs b49 b52 b55 ti)) B_67.1 (State.isArrayOf_alike hZ.alike B_67.2.1) rfl B_67.2.2 (inb_of Sd67 ct4) (atH Hd67 (inb_of Sd67 ct4) (own_get b49 b52 b55 ct4)) (g := (mkF m 108 #[.val (.int i0), .val (.int i1), .val (.int i2), .val (.ref b48), .val (.int ti), .val (.int oi), .val (.int ri), .val (.ref b59), .unset] [(.int ti), (.ref b48)])) rfl rfl (hb hby at_108) tt_ zz_) ?_
    show Dn p e below s (own_Q n0) 48 192 (T64.setTop (mkF m 109 #[.val (.int i0), .val (.int i1), .val (.int i2), .val (.ref b48), .val (.int ti), .val (.int oi), .val (.int ri), .val (.ref b59), .unset] [(own_bs b49 b52 b55 ti)]))
    refine Dn.of (fun tt_ zz_ => XS.astore X64.here hx rfl (hb hby at_109) rfl (own_bs_ref b49 b52 b55 ti) (l' := #[.val (.int i0), .val (.int i1), .val (.int i2), .val (.ref b48), .val (.int ti), .val (.int oi), .val (.int ri), .val (.ref b59), .val (own_bs b49 b52 b55 ti)]) (XS.store1 rfl (Or.inl rfl) (own_cat (own_bs_ref b49 b52 b55 ti))) zz_) ?_
    show Dn p e below s (own_Q n0) 48 192 (T64.setTop (mkF m 111 #[.val (.int i0), .val (.int i1), .val (.int i2), .val (.ref b48), .val (.int ti), .val (.int oi), .val (.int ri), .val (.ref b59), .val (own_bs b49 b52 b55 ti)] []))
    refine Dn.of (fun tt_ zz_ => XS.aload X64.here hx rfl (hb hby at_111) rfl rfl zz_) ?_
    show Dn p e below s (own_Q n0) 48 192 (T64.setTop (mkF m 113 #[.val (.int i0), .val (.int i1), .val (.int i2), .val (.ref b48), .val (.int ti), .val (.int oi), .val (.int ri), .val (.ref b59), .val (own_bs b49 b52 b55 ti)] [(.ref b59)]))
    obtain ⟨v68, T68, L68, Q68, X68, st68⟩ := cVi X64 hx hZ (C := "com/example/warmfront/warmfront/ir/Goto") (y := (⟨"com/example/warmfront/warmfront/ir/Goto", "target", "()Lcom/example/warmfront/warmfront/ir/Block;"⟩ : MethodName)) (z := (⟨"com/example/warmfront/warmfront/ir/Goto", "target", "()Lcom/example/warmfront/warmfront/ir/Block;"⟩ : MethodName)) hown (hw _ (List.mem_of_getElem? (i := 124) rfl)) (hw _ (List.mem_of_getElem? (i := 125) rfl)) (notFace_of_selects (args := #[]) (mvT hZ (hw _ (List.mem_of_getElem? (i := 127) rfl)))) (hw _ (List.mem_of_getElem? (i := 127) rfl)) (hw _ (List.mem_of_getElem? (i := 126) rfl)) (hw _ (List.mem_of_getElem? (i := 44) rfl)) (hw _ (List.mem_of_getElem? (i := 128) rfl)) (by decide) (a := b59) (argsL := []) (rest := []) (rmTg l Z a0 hw T64.heap n0 Z7 b59 (own_bs b49 b52 b55 ti) (own_bs_ref b49 b52 b55 ti) FU') rfl E7 0 (by decide) (by decide) (by decide) (by decide) (g := (mkF m 113 #[.val (.int i0), .val (.int i1), .val (.int i2), .val (.ref b48), .val (.int ti), .val (.int oi), .val (.int ri), .val (.ref b59), .val (own_bs b49 b52 b55 ti)] [(.ref b59)])) rfl (by rw [hml]; rfl) (lenOf pd9 rfl) rfl (by show 2 * 0 + _ ≤ _; exact Nat.le_of_eq rfl) (hb hby at_113)
    obtain ⟨rfl, M8, e68⟩ := Q68
    refine Dn.of st68 ?_
    show Dn p e below s (own_Q n0) 48 192 (T68.setTop (mkF m 116 #[.val (.int i0), .val (.int i1), .val (.int i2), .val (.ref b48), .val (.int ti), .val (.int oi), .val (.int ri), .val (.ref b59), .val (own_bs b49 b52 b55 ti)] [(own_bs b49 b52 b55 ti)]))
    refine Dn.of (fun tt_ zz_ => XS.aload X68.here hx rfl (hb hby at_116) rfl (own_bs_ref b49 b52 b55 ti) zz_) ?_
    show Dn p e below s (own_Q n0) 48 192 (T68.setTop (mkF m 118 #[.val (.int i0), .val (.int i1), .val (.int i2), .val (.ref b48), .val (.int ti), .val (.int oi), .val (.int ri), .val (.ref b59), .val (own_bs b49 b52 b55 ti)] [(own_bs b49 b52 b55 ti), (own_bs b49 b52 b55 ti)]))
    refine Dn.of (fun tt_ zz_ => Jvm.RoadKit.acmp (g := (mkF m 118 #[.val (.int i0), .val (.int i1), .val (.int i2), .val (.ref b48), .val (.int ti), .val (.int oi), .val (.int ri), .val (.ref b59), .val (own_bs b49 b52 b55 ti)] [(own_bs b49 b52 b55 ti), (own_bs b49 b52 b55 ti)])) X68 hx rfl (own_bs_ref b49 b52 b55 ti) (own_bs_ref b49 b52 b55 ti) (pc0 := 118) (pc' := 121) (same := true) rfl (hb hby at_118) rfl (decide_eq_true rfl) (by decide) (by decide) zz_) ?_
    show Dn p e below s (own_Q n0) 48 192 (T68.setTop (mkF m 121 #[.val (.int i0), .val (.int i1), .val (.int i2), .val (.ref b48), .val (.int ti), .val (.int oi), .val (.int ri), .val (.ref b59), .val (own_bs b49 b52 b55 ti)] []))
    refine Dn.of (fun tt_ zz_ => XS.iconst X68.here hx rfl (hb hby at_121) zz_) ?_
    show Dn p e below s (own_Q n0) 48 192 (T68.setTop (mkF m 122 #[.val (.int i0), .val (.int i1), .val (.int i2), .val (.ref b48), .val (.int ti), .val (.int oi), .val (.int ri), .val (.ref b59), .val (own_bs b49 b52 b55 ti)] [(.int (1 : Int32))]))
    refine Dn.of (fun tt_ zz_ => XS.goto X68.here hx rfl (pc0 := 122) (pc' := 126) rfl (hb hby at_122) (by decide) (by decide) zz_) ?_
    show Dn p e below s (own_Q n0) 48 192 (T68.setTop (mkF m 126 #[.val (.int i0), .val (.int i1), .val (.int i2), .val (.ref b48), .val (.int ti), .val (.int oi), .val (.int ri), .val (.ref b59), .val (own_bs b49 b52 b55 ti)] [(.int (1 : Int32))]))
    exact Dn.retN X68 hx hlk (t := .boolean) hret (by simp) (hb hby at_126) (by decide) (by decide) (⟨rfl, Fr.app (Fr.app (Fr.app N4 M6) M7) M8⟩)
set_option maxRecDepth 65536 in
set_option maxHeartbeats 40000000 in
theorem comes_1 {Post : Tables → Env → Array Value → State → Outcome → State → Prop} (hpost : ∀ tb e args s v u, (limb_1_1.after args s (.returned v) u = true ∧ limb_1_2.after args s (.returned v) u = true ∧ True) → FrameEnd s (.returned v) u (Jvm.fieldLocs frame_1_writes args s ++ Jvm.arrayLocs frame_1_arrays args s ++ Jvm.staticLocs frame_1_statics s) 48 192 → Post tb e args s (.returned v) u) :
    ArmFor flags0 classFile x code maxLocals ret World_1 tables_1 room_1 Calls_1 rest_1 Pre_1 Post := by
  intro l hfl _ _ p e ha hc hk s m args below hf hA hF happ hP
  obtain ⟨hcalls, hrest, hpre⟩ := hP
  obtain ⟨-, -, -, hnamed, -, -, -, hat⟩ := (Spec.applies_iff hf).mp happ
  obtain ⟨hg, hn⟩ := and_e (Cond.before_iff.mp (show (Jvm.Cond.and given_1 narrow_1).before args s = true from hpre))
  obtain ⟨hcount, hr⟩ := and_e hg
  obtain ⟨w0, w1, w2, rfl⟩ : ∃ w0 w1 w2 : Value, args = #[w0, w1, w2] := by
    have hs : args.size = 3 := by simpa [Cond.value, given_1] using hcount
    obtain ⟨L⟩ := args
    match L, hs with
    | [w0, w1, w2], _ => exact ⟨w0, w1, w2, rfl⟩
  have hw := fun d (hd : d ∈ tables_1) => atoms_spec (ws := Jvm.Cond.code x code maxLocals ret :: tables_1) hat d (List.mem_cons_of_mem _ hd)
  have hfit : Fit s := fun {y c} hc i hi => by
    obtain ⟨ha, rfl⟩ := Array.getElem?_eq_some_iff.mp hc
    have q := List.all_eq_true.mp ((Array.all_eq_true_iff_forall_mem.mp hF) _ (Array.getElem_mem ha)) i (List.mem_range.mpr hi)
    simpa [Array.getElem?_eq_getElem hi] using q
  obtain ⟨ha0, hr⟩ := and_e hr
  obtain ⟨i0, ei0⟩ := is_v ha0
  obtain rfl : w0 = (.int i0) := Option.some.inj ei0
  obtain ⟨ha1, hr⟩ := and_e hr
  obtain ⟨i1, ei1⟩ := is_v ha1
  obtain rfl : w1 = (.int i1) := Option.some.inj ei1
  have ha2 := hr
  obtain ⟨i2, ei2⟩ := is_v ha2
  obtain rfl : w2 = (.int i2) := Option.some.inj ei2
  obtain ⟨hsets, hown0⟩ := atoms_of _ (rest_1_c_eq ▸ (show rest_1_c.before _ s = true from hrest))
  obtain ⟨aD, eD⟩ := arr_v (Cond.before_iff.mp (hsets _ (List.mem_of_getElem? (i := 6) rfl)))
  have SD := Sta.start eD (Or.inr ⟨(hw _ (List.mem_of_getElem? (i := 12) rfl)), hsets _ (List.mem_of_getElem? (i := 2) rfl)⟩)
  obtain ⟨aE, eE⟩ := exa_v (Cond.before_iff.mp (hsets _ (List.mem_of_getElem? (i := 11) rfl)))
  have EE := Exa.start eE (Cond.before_iff.mp (hsets _ (List.mem_of_getElem? (i := 11) rfl)))
  have SE := Sta.start eE (Or.inl (hsets _ (List.mem_of_getElem? (i := 10) rfl)))
  obtain ⟨aX, eX⟩ := arr_v (Cond.before_iff.mp (hsets _ (List.mem_of_getElem? (i := 12) rfl)))
  obtain ⟨lX, RX⟩ := Arr.start eX (Cond.before_iff.mp (hsets _ (List.mem_of_getElem? (i := 12) rfl)))
  have zX : lX.slots.size = 0 := (own_len eX RX (Cond.before_iff.mp (hsets _ (List.mem_of_getElem? (i := 14) rfl)))).1
  have FX : Fld s s.heap aE "java/util/ImmutableCollections$ListN" "elements" "[Ljava/lang/Object;" (.ref aX) := Fld.start (by rw [← fld_at eE]; exact eX)
  obtain ⟨n, o, h1, h2, h3, _, L, rfl, ⟨rfl, N⟩, hq⟩ := rm0 l s _ hw tables_1 s.heap s.heap.size (Nat.le_refl _) i0 i1 i2 aD SD aE aX lX EE FX RX zX SE (Old.start s) p e ha hc hk s m _ below hf ((Spec.applies_iff_loose hf).mp happ).1 ⟨rfl, State.Warmed39.refl s, rfl⟩ trivial
  refine ⟨n, _, h1, h2, h3, hpost _ _ _ _ _ _ ⟨Cond.after_iff.mpr rfl, Cond.after_iff.mpr (eq_i res_at (Term.int_eval (1)) rfl), trivial⟩ ⟨hq.1, hq.2.1, (hq.2.2.sift fun y hy => Or.inr (N y hy)).mono (by decide) (by decide)⟩⟩
theorem main_1_1 : Claimed_1_1 := comes_1 fun _ _ _ _ _ _ h hF => ⟨h.1, hF⟩
theorem main_1_2 : Claimed_1_2 := comes_1 fun _ _ _ _ _ _ h hF => ⟨h.2.1, hF⟩
end Jvm.Pilot.@@N@@
namespace Jvm.Pilot.@@N@@
open Jvm Jvm.ClassFile Sem Op Lib Jvm.Free Jvm.Stand Jvm.Pilot.@@N@@.Jvm.D
/-! MADE BY PROGRAM (witnessworld.py) out of the Statement's table words and the real class files: 29 classes; the members and pool entries that the words name. The judged class is class 1, her method 1. -/
namespace start1
open Jvm.ClassFile
def u (s : String) : CpInfo := .utf8 (stringToUtf16 s)
/-- a pool by its gaps: so many unusable entries, then the entry; so many at the end -/
def gap : Nat → List CpInfo → List CpInfo
  | 0, r => r
  | n + 1, r => .unusable :: gap n r
def poolList (es : List (Nat × CpInfo)) (last : Nat) : List CpInfo := es.foldr (fun e r => gap e.1 (e.2 :: r)) (gap last [])
def pool (es : List (Nat × CpInfo)) (last : Nat) : Array CpInfo := ⟨poolList es last⟩
def fileOf (pool : Array CpInfo) (this : Nat) (attrs : Array Attribute := #[]) (ms : Array MethodInfo := #[]) (fl : Nat := 33) (sup : Nat := 0) (ifs : Array Nat := #[]) (fds : Array FieldInfo := #[]) : ClassFile where
  minorVersion := 0
  majorVersion := 65
  constantPool := pool
  accessFlags := fl
  thisClass := this
  superClass := sup
  interfaces := ifs
  fields := fds
  methods := ms
  attributes := attrs
def plain (name : String) (sup : Option ClassId) : Class where
  name := name
  kind := .ordinary
  loader := none
  accessFlags := 33
  super := sup
  interfaces := #[]
  cf := none
  fields := #[]
  methods := #[]
  instanceTypes := #[]
  staticTypes := #[]
  resolved := #[]
  callSites := []
  init := .initialized
  statics := none
  mirror := none

def pool0 : Array CpInfo := pool [(5, u "<init>"), (0, u "()V"), (1, .class_ 10), (1, u "java/lang/Object")] 113

def k0c0 : Code := { maxStack := 0, maxLocals := 1, code := object_method_1_code, exceptionTable := #[], attributes := #[] }
def k0m0 : Method := { name := "<init>", desc := "()V", sig := { parameters := [], returnType := none }, accessFlags := 1, code := some k0c0 }
/-- java/lang/Object -/
def k0 : Class := { plain "java/lang/Object" none with
  accessFlags := 33
  interfaces := #[]
  cf := some (fileOf pool0 8 #[] #[{ accessFlags := 1, nameIndex := 5, descriptorIndex := 6, attributes := #[] }] 33 0 #[] #[])
  fields := #[]
  methods := #[k0m0]
  instanceTypes := #[]
  staticTypes := #[]
  resolved := Array.replicate 124 none
  statics := none }

def pool1 : Array CpInfo := pool [(2, .class_ 4), (0, .nameAndType 5 6), (0, u "java/lang/Object"), (0, u "<init>"), (0, u "()V"), (0, .class_ 8), (0, u "com/example/warmfront/warmfront/ir/Block"), (0, .methodref 7 3), (0, .integer 2147483647), (0, .class_ 12), (0, u "com/example/warmfront/warmfront/ir/Goto"), (0, .methodref 11 14), (0, .nameAndType 5 15), (0, u "(Lcom/example/warmfront/warmfront/ir/Block;)V"), (0, .methodref 11 17), (0, .nameAndType 18 19), (0, u "replaceSuccessor"), (0, u "(Lcom/example/warmfront/warmfront/ir/Block;Lcom/example/warmfront/warmfront/ir/Block;)V"), (0, .methodref 11 21), (0, .nameAndType 22 23), (0, u "target"), (0, u "()Lcom/example/warmfront/warmfront/ir/Block;"), (0, .class_ 25), (0, u "com/example/warmfront/warmfront/ir/GotoReplaceSuccessorPinLaw"), (2, u "law"), (0, u "(III)Z")] 5

def k1m0 : Method := { name := "<init>", desc := "()V", sig := { parameters := [], returnType := none }, accessFlags := 1, code := none }
def k1c1 : Code := { maxStack := 4, maxLocals := 9, code := code, exceptionTable := #[], attributes := #[] }
def k1m1 : Method := { name := "law", desc := "(III)Z", sig := { parameters := [.int, .int, .int], returnType := some .boolean }, accessFlags := 9, code := some k1c1 }
/-- com/example/warmfront/warmfront/ir/GotoReplaceSuccessorPinLaw -/
def k1 : Class := { plain "com/example/warmfront/warmfront/ir/GotoReplaceSuccessorPinLaw" (some 0) with
  accessFlags := 49
  interfaces := #[]
  cf := some (fileOf pool1 24 #[] #[{ accessFlags := 1, nameIndex := 5, descriptorIndex := 6, attributes := #[] }, { accessFlags := 9, nameIndex := 28, descriptorIndex := 29, attributes := #[] }] 49 2 #[] #[])
  fields := #[]
  methods := #[k1m0, k1m1]
  instanceTypes := #[]
  staticTypes := #[]
  resolved := Array.replicate 35 none
  statics := none }

def pool2 : Array CpInfo := pool [(1, .methodref 2 3), (0, .class_ 4), (0, .nameAndType 5 6), (0, u "java/lang/Object"), (0, u "<init>"), (0, u "()V"), (0, .class_ 8), (0, u "java/util/ArrayList"), (0, .methodref 7 3), (0, .fieldref 11 12), (0, .class_ 13), (0, .nameAndType 14 15), (0, u "com/example/warmfront/warmfront/ir/Block"), (0, u "predecessors"), (0, u "Ljava/util/List;"), (0, .fieldref 11 17), (0, .nameAndType 18 15), (0, u "phis"), (0, .fieldref 11 20), (0, .nameAndType 21 15), (0, u "applies"), (8, u "terminator"), (0, u "Lcom/example/warmfront/warmfront/ir/Terminator;")] 108

def k2c0 : Code := { maxStack := 3, maxLocals := 1, code := prog_10_method_1_code, exceptionTable := #[], attributes := #[] }
def k2m0 : Method := { name := "<init>", desc := "()V", sig := { parameters := [], returnType := none }, accessFlags := 0, code := some k2c0 }
/-- com/example/warmfront/warmfront/ir/Block -/
def k2 : Class := { plain "com/example/warmfront/warmfront/ir/Block" (some 0) with
  accessFlags := 49
  interfaces := #[]
  cf := some (fileOf pool2 11 #[] #[{ accessFlags := 0, nameIndex := 5, descriptorIndex := 6, attributes := #[] }] 49 2 #[] #[{ accessFlags := 18, nameIndex := 14, descriptorIndex := 15, attributes := #[] }, { accessFlags := 18, nameIndex := 18, descriptorIndex := 15, attributes := #[] }, { accessFlags := 18, nameIndex := 21, descriptorIndex := 15, attributes := #[] }, { accessFlags := 2, nameIndex := 30, descriptorIndex := 31, attributes := #[] }])
  fields := #[{ name := "predecessors", type := (.object "java/util/List"), accessFlags := 18, slot := 0, constantValue := 0 }, { name := "phis", type := (.object "java/util/List"), accessFlags := 18, slot := 1, constantValue := 0 }, { name := "applies", type := (.object "java/util/List"), accessFlags := 18, slot := 2, constantValue := 0 }, { name := "terminator", type := (.object "com/example/warmfront/warmfront/ir/Terminator"), accessFlags := 2, slot := 3, constantValue := 0 }]
  methods := #[k2m0]
  instanceTypes := #[(.object "java/util/List"), (.object "java/util/List"), (.object "java/util/List"), (.object "com/example/warmfront/warmfront/ir/Terminator")]
  staticTypes := #[]
  resolved := Array.replicate 140 none
  statics := none }

def pool3 : Array CpInfo := pool [(8, .class_ 10), (1, u "java/lang/Iterable"), (24, .class_ 36), (0, u "java/lang/Object")] 25

/-- java/lang/Iterable -/
def k3 : Class := { plain "java/lang/Iterable" (some 0) with
  accessFlags := 1537
  interfaces := #[]
  cf := some (fileOf pool3 8 #[] #[] 1537 35 #[] #[])
  fields := #[]
  methods := #[]
  instanceTypes := #[]
  staticTypes := #[]
  resolved := Array.replicate 62 none
  statics := none }

def pool4 : Array CpInfo := pool [(10, .class_ 12), (1, u "java/util/Collection"), (47, .class_ 61), (0, u "java/lang/Object"), (0, .class_ 63), (0, u "java/lang/Iterable")] 51

/-- java/util/Collection -/
def k4 : Class := { plain "java/util/Collection" (some 0) with
  accessFlags := 1537
  interfaces := #[3]
  cf := some (fileOf pool4 10 #[] #[] 1537 60 #[62] #[])
  fields := #[]
  methods := #[]
  instanceTypes := #[]
  staticTypes := #[]
  resolved := Array.replicate 115 none
  statics := none }

def pool5 : Array CpInfo := pool [(1, .methodref 2 3), (0, .class_ 4), (0, .nameAndType 5 6), (0, u "java/lang/Object"), (0, u "<init>"), (0, u "()V"), (1, .class_ 10), (1, u "java/util/AbstractCollection"), (0, u "size"), (0, u "()I"), (64, .class_ 78), (0, u "java/util/Collection")] 81

def k5c0 : Code := { maxStack := 1, maxLocals := 1, code := jdk_22_method_1_code, exceptionTable := #[], attributes := #[] }
def k5m0 : Method := { name := "<init>", desc := "()V", sig := { parameters := [], returnType := none }, accessFlags := 4, code := some k5c0 }
def k5m1 : Method := { name := "size", desc := "()I", sig := { parameters := [], returnType := some .int }, accessFlags := 1025, code := none }
/-- java/util/AbstractCollection -/
def k5 : Class := { plain "java/util/AbstractCollection" (some 0) with
  accessFlags := 1057
  interfaces := #[4]
  cf := some (fileOf pool5 8 #[] #[{ accessFlags := 4, nameIndex := 5, descriptorIndex := 6, attributes := #[] }, { accessFlags := 1025, nameIndex := 11, descriptorIndex := 12, attributes := #[] }] 1057 2 #[77] #[])
  fields := #[]
  methods := #[k5m0, k5m1]
  instanceTypes := #[]
  staticTypes := #[]
  resolved := Array.replicate 160 none
  statics := none }

def pool6 : Array CpInfo := pool [(8, .class_ 10), (1, u "java/util/SequencedCollection"), (15, .class_ 27), (0, u "java/lang/Object"), (0, .class_ 29), (0, u "java/util/Collection")] 27

/-- java/util/SequencedCollection -/
def k6 : Class := { plain "java/util/SequencedCollection" (some 0) with
  accessFlags := 1537
  interfaces := #[4]
  cf := some (fileOf pool6 8 #[] #[] 1537 26 #[28] #[])
  fields := #[]
  methods := #[]
  instanceTypes := #[]
  staticTypes := #[]
  resolved := Array.replicate 57 none
  statics := none }

def pool7 : Array CpInfo := pool [(8, .class_ 10), (1, u "java/util/List"), (77, u "of"), (1, .fieldref 91 92), (0, .class_ 93), (0, .nameAndType 94 95), (0, u "java/util/ImmutableCollections"), (0, u "EMPTY_LIST"), (0, u "Ljava/util/ImmutableCollections$ListN;"), (7, .class_ 104), (0, u "java/lang/Object"), (14, u "()Ljava/util/List;"), (0, .class_ 121), (0, u "java/util/SequencedCollection"), (1, u "iterator"), (0, u "()Ljava/util/Iterator;")] 126

def k7m0 : Method := { name := "iterator", desc := "()Ljava/util/Iterator;", sig := { parameters := [], returnType := some (.object "java/util/Iterator") }, accessFlags := 1025, code := none }
def k7c1 : Code := { maxStack := 1, maxLocals := 0, code := jdk_40_method_36_code, exceptionTable := #[], attributes := #[] }
def k7m1 : Method := { name := "of", desc := "()Ljava/util/List;", sig := { parameters := [], returnType := some (.object "java/util/List") }, accessFlags := 9, code := some k7c1 }
/-- java/util/List -/
def k7 : Class := { plain "java/util/List" (some 0) with
  accessFlags := 1537
  interfaces := #[6]
  cf := some (fileOf pool7 8 #[] #[{ accessFlags := 1025, nameIndex := 123, descriptorIndex := 124, attributes := #[] }, { accessFlags := 9, nameIndex := 88, descriptorIndex := 119, attributes := #[] }] 1537 103 #[120] #[])
  fields := #[]
  methods := #[k7m0, k7m1]
  instanceTypes := #[]
  staticTypes := #[]
  resolved := Array.replicate 251 none
  statics := none }

def pool8 : Array CpInfo := pool [(1, .methodref 2 3), (0, .class_ 4), (0, .nameAndType 5 6), (0, u "java/util/AbstractCollection"), (0, u "<init>"), (0, u "()V"), (0, .fieldref 8 9), (0, .class_ 10), (0, .nameAndType 11 12), (0, u "java/util/AbstractList"), (0, u "modCount"), (0, u "I"), (64, .class_ 78), (0, u "java/util/AbstractList$Itr"), (3, .class_ 83), (0, u "java/util/AbstractList$ListItr"), (9, .class_ 94), (0, u "java/util/AbstractList$RandomAccessSubList"), (3, .class_ 99), (0, u "java/util/AbstractList$SubList"), (33, .class_ 134), (0, u "java/util/List"), (73, .class_ 209), (0, u "java/util/AbstractList$SubList$1"), (0, .class_ 211), (0, u "java/util/AbstractList$RandomAccessSpliterator")] 6

def k8c0 : Code := { maxStack := 2, maxLocals := 1, code := jdk_39_method_1_code, exceptionTable := #[], attributes := #[] }
def k8m0 : Method := { name := "<init>", desc := "()V", sig := { parameters := [], returnType := none }, accessFlags := 4, code := some k8c0 }
/-- java/util/AbstractList -/
def k8 : Class := { plain "java/util/AbstractList" (some 5) with
  accessFlags := 1057
  interfaces := #[7]
  cf := some (fileOf pool8 8 #[.nestMembers #[93, 98, 208, 210, 82, 77]] #[{ accessFlags := 4, nameIndex := 5, descriptorIndex := 6, attributes := #[] }] 1057 2 #[133] #[{ accessFlags := 132, nameIndex := 11, descriptorIndex := 12, attributes := #[] }])
  fields := #[{ name := "modCount", type := .int, accessFlags := 132, slot := 0, constantValue := 0 }]
  methods := #[k8m0]
  instanceTypes := #[.int]
  staticTypes := #[]
  resolved := Array.replicate 218 none
  statics := none }

def pool9 : Array CpInfo := pool [(1, .class_ 2), (0, u "java/util/RandomAccess"), (0, .class_ 4), (0, u "java/lang/Object")] 2

/-- java/util/RandomAccess -/
def k9 : Class := { plain "java/util/RandomAccess" (some 0) with
  accessFlags := 1537
  interfaces := #[]
  cf := some (fileOf pool9 1 #[] #[] 1537 3 #[] #[])
  fields := #[]
  methods := #[]
  instanceTypes := #[]
  staticTypes := #[]
  resolved := Array.replicate 7 none
  statics := none }

def pool10 : Array CpInfo := pool [(1, .class_ 2), (0, u "java/lang/Cloneable"), (0, .class_ 4), (0, u "java/lang/Object")] 2

/-- java/lang/Cloneable -/
def k10 : Class := { plain "java/lang/Cloneable" (some 0) with
  accessFlags := 1537
  interfaces := #[]
  cf := some (fileOf pool10 1 #[] #[] 1537 3 #[] #[])
  fields := #[]
  methods := #[]
  instanceTypes := #[]
  staticTypes := #[]
  resolved := Array.replicate 7 none
  statics := none }

def pool11 : Array CpInfo := pool [(1, .class_ 2), (0, u "java/io/Serializable"), (0, .class_ 4), (0, u "java/lang/Object")] 2

/-- java/io/Serializable -/
def k11 : Class := { plain "java/io/Serializable" (some 0) with
  accessFlags := 1537
  interfaces := #[]
  cf := some (fileOf pool11 1 #[] #[] 1537 3 #[] #[])
  fields := #[]
  methods := #[]
  instanceTypes := #[]
  staticTypes := #[]
  resolved := Array.replicate 7 none
  statics := none }

def pool12 : Array CpInfo := pool [(1, .methodref 2 3), (0, .class_ 4), (0, .nameAndType 5 6), (0, u "java/util/AbstractList"), (0, u "<init>"), (0, u "()V"), (2, .fieldref 10 11), (0, .class_ 12), (0, .nameAndType 13 14), (0, u "java/util/ArrayList"), (0, u "elementData"), (0, u "[Ljava/lang/Object;"), (2, u "EMPTY_ELEMENTDATA"), (21, .fieldref 10 40), (0, .nameAndType 41 14), (0, u "DEFAULTCAPACITY_EMPTY_ELEMENTDATA"), (8, u "size"), (0, u "I"), (96, .class_ 149), (0, u "java/util/List"), (112, .class_ 263), (0, u "java/util/ArrayList$ListItr"), (3, .class_ 268), (0, u "java/util/ArrayList$Itr"), (7, .class_ 277), (0, u "java/util/ArrayList$SubList"), (12, .class_ 291), (0, u "java/util/ArrayList$ArrayListSpliterator"), (37, .class_ 330), (0, u "java/util/RandomAccess"), (0, .class_ 332), (0, u "java/lang/Cloneable"), (0, .class_ 334), (0, u "java/io/Serializable"), (0, u "serialVersionUID"), (0, u "J"), (3, u "DEFAULT_CAPACITY"), (159, .class_ 501), (0, u "java/util/ArrayList$SubList$2"), (0, .class_ 503), (0, u "java/util/ArrayList$SubList$1")] 5

def k12c0 : Code := { maxStack := 2, maxLocals := 1, code := jdk_38_method_2_code, exceptionTable := #[], attributes := #[] }
def k12m0 : Method := { name := "<init>", desc := "()V", sig := { parameters := [], returnType := none }, accessFlags := 1, code := some k12c0 }
/-- java/util/ArrayList -/
def k12 : Class := { plain "java/util/ArrayList" (some 8) with
  accessFlags := 33
  interfaces := #[7, 9, 10, 11]
  cf := some (fileOf pool12 10 #[.nestMembers #[290, 276, 500, 502, 262, 267]] #[{ accessFlags := 1, nameIndex := 5, descriptorIndex := 6, attributes := #[] }] 33 2 #[148, 329, 331, 333] #[{ accessFlags := 26, nameIndex := 335, descriptorIndex := 336, attributes := #[] }, { accessFlags := 26, nameIndex := 340, descriptorIndex := 51, attributes := #[] }, { accessFlags := 26, nameIndex := 17, descriptorIndex := 14, attributes := #[] }, { accessFlags := 26, nameIndex := 41, descriptorIndex := 14, attributes := #[] }, { accessFlags := 128, nameIndex := 13, descriptorIndex := 14, attributes := #[] }, { accessFlags := 2, nameIndex := 50, descriptorIndex := 51, attributes := #[] }])
  fields := #[{ name := "serialVersionUID", type := .long, accessFlags := 26, slot := 0, constantValue := 0 }, { name := "DEFAULT_CAPACITY", type := .int, accessFlags := 26, slot := 1, constantValue := 0 }, { name := "EMPTY_ELEMENTDATA", type := (.array (.object "java/lang/Object")), accessFlags := 26, slot := 2, constantValue := 0 }, { name := "DEFAULTCAPACITY_EMPTY_ELEMENTDATA", type := (.array (.object "java/lang/Object")), accessFlags := 26, slot := 3, constantValue := 0 }, { name := "elementData", type := (.array (.object "java/lang/Object")), accessFlags := 128, slot := 1, constantValue := 0 }, { name := "size", type := .int, accessFlags := 2, slot := 2, constantValue := 0 }]
  methods := #[k12m0]
  instanceTypes := #[.int, (.array (.object "java/lang/Object")), .int]
  staticTypes := #[.long, .int, (.array (.object "java/lang/Object")), (.array (.object "java/lang/Object"))]
  resolved := Array.replicate 509 none
  statics := some 0 }

def pool13 : Array CpInfo := pool [(1, .methodref 2 3), (0, .class_ 4), (0, .nameAndType 5 6), (0, u "java/lang/Object"), (0, u "<init>"), (0, u "()V"), (0, .class_ 8), (0, u "java/util/ArrayList"), (0, .methodref 7 3), (0, .fieldref 11 12), (0, .class_ 13), (0, .nameAndType 14 15), (0, u "com/example/warmfront/warmfront/ir/Instruction"), (0, u "operands"), (0, u "Ljava/util/List;"), (0, .fieldref 11 17), (0, .nameAndType 18 15), (0, u "stateValues"), (0, .fieldref 11 20), (0, .nameAndType 21 15), (0, u "users"), (0, .interfaceMethodref 23 24), (0, .class_ 25), (0, .nameAndType 26 27), (0, u "java/util/List"), (0, u "iterator"), (0, u "()Ljava/util/Iterator;"), (0, .interfaceMethodref 29 30), (0, .class_ 31), (0, .nameAndType 32 33), (0, u "java/util/Iterator"), (0, u "hasNext"), (0, u "()Z"), (12, u "block"), (0, u "Lcom/example/warmfront/warmfront/ir/Block;"), (80, u "(Ljava/util/List;)V")] 28

def k13c0 : Code := { maxStack := 3, maxLocals := 4, code := prog_22_method_1_code, exceptionTable := #[], attributes := #[] }
def k13m0 : Method := { name := "<init>", desc := "(Ljava/util/List;)V", sig := { parameters := [(.object "java/util/List")], returnType := none }, accessFlags := 0, code := some k13c0 }
/-- com/example/warmfront/warmfront/ir/Instruction -/
def k13 : Class := { plain "com/example/warmfront/warmfront/ir/Instruction" (some 0) with
  accessFlags := 1057
  interfaces := #[]
  cf := some (fileOf pool13 11 #[] #[{ accessFlags := 0, nameIndex := 5, descriptorIndex := 128, attributes := #[] }] 1057 2 #[] #[{ accessFlags := 2, nameIndex := 46, descriptorIndex := 47, attributes := #[] }, { accessFlags := 18, nameIndex := 14, descriptorIndex := 15, attributes := #[] }, { accessFlags := 18, nameIndex := 18, descriptorIndex := 15, attributes := #[] }, { accessFlags := 18, nameIndex := 21, descriptorIndex := 15, attributes := #[] }])
  fields := #[{ name := "block", type := (.object "com/example/warmfront/warmfront/ir/Block"), accessFlags := 2, slot := 0, constantValue := 0 }, { name := "operands", type := (.object "java/util/List"), accessFlags := 18, slot := 1, constantValue := 0 }, { name := "stateValues", type := (.object "java/util/List"), accessFlags := 18, slot := 2, constantValue := 0 }, { name := "users", type := (.object "java/util/List"), accessFlags := 18, slot := 3, constantValue := 0 }]
  methods := #[k13m0]
  instanceTypes := #[(.object "com/example/warmfront/warmfront/ir/Block"), (.object "java/util/List"), (.object "java/util/List"), (.object "java/util/List")]
  staticTypes := #[]
  resolved := Array.replicate 157 none
  statics := none }

def pool14 : Array CpInfo := pool [(1, .methodref 2 3), (0, .class_ 4), (0, .nameAndType 5 6), (0, u "com/example/warmfront/warmfront/ir/Instruction"), (0, u "<init>"), (0, u "(Ljava/util/List;)V"), (0, .class_ 8), (0, u "com/example/warmfront/warmfront/ir/Terminator")] 18

def k14c0 : Code := { maxStack := 2, maxLocals := 2, code := prog_30_method_1_code, exceptionTable := #[], attributes := #[] }
def k14m0 : Method := { name := "<init>", desc := "(Ljava/util/List;)V", sig := { parameters := [(.object "java/util/List")], returnType := none }, accessFlags := 0, code := some k14c0 }
/-- com/example/warmfront/warmfront/ir/Terminator -/
def k14 : Class := { plain "com/example/warmfront/warmfront/ir/Terminator" (some 13) with
  accessFlags := 1057
  interfaces := #[]
  cf := some (fileOf pool14 7 #[] #[{ accessFlags := 0, nameIndex := 5, descriptorIndex := 6, attributes := #[] }] 1057 2 #[] #[])
  fields := #[]
  methods := #[k14m0]
  instanceTypes := #[(.object "com/example/warmfront/warmfront/ir/Block"), (.object "java/util/List"), (.object "java/util/List"), (.object "java/util/List")]
  staticTypes := #[]
  resolved := Array.replicate 27 none
  statics := none }

def pool15 : Array CpInfo := pool [(1, .interfaceMethodref 2 3), (0, .class_ 4), (0, .nameAndType 5 6), (0, u "java/util/List"), (0, u "of"), (0, u "()Ljava/util/List;"), (0, .methodref 8 9), (0, .class_ 10), (0, .nameAndType 11 12), (0, u "com/example/warmfront/warmfront/ir/Terminator"), (0, u "<init>"), (0, u "(Ljava/util/List;)V"), (0, .fieldref 14 15), (0, .class_ 16), (0, .nameAndType 17 18), (0, u "com/example/warmfront/warmfront/ir/Goto"), (0, u "target"), (0, u "Lcom/example/warmfront/warmfront/ir/Block;"), (3, u "(Lcom/example/warmfront/warmfront/ir/Block;)V"), (2, u "()Lcom/example/warmfront/warmfront/ir/Block;"), (3, u "replaceSuccessor"), (0, u "(Lcom/example/warmfront/warmfront/ir/Block;Lcom/example/warmfront/warmfront/ir/Block;)V")] 3

def k15c0 : Code := { maxStack := 2, maxLocals := 2, code := prog_15_method_1_code, exceptionTable := #[], attributes := #[] }
def k15m0 : Method := { name := "<init>", desc := "(Lcom/example/warmfront/warmfront/ir/Block;)V", sig := { parameters := [(.object "com/example/warmfront/warmfront/ir/Block")], returnType := none }, accessFlags := 0, code := some k15c0 }
def k15c1 : Code := { maxStack := 1, maxLocals := 1, code := prog_15_method_2_code, exceptionTable := #[], attributes := #[] }
def k15m1 : Method := { name := "target", desc := "()Lcom/example/warmfront/warmfront/ir/Block;", sig := { parameters := [], returnType := some (.object "com/example/warmfront/warmfront/ir/Block") }, accessFlags := 1, code := some k15c1 }
def k15c2 : Code := { maxStack := 2, maxLocals := 3, code := prog_15_method_4_code, exceptionTable := #[], attributes := #[] }
def k15m2 : Method := { name := "replaceSuccessor", desc := "(Lcom/example/warmfront/warmfront/ir/Block;Lcom/example/warmfront/warmfront/ir/Block;)V", sig := { parameters := [(.object "com/example/warmfront/warmfront/ir/Block"), (.object "com/example/warmfront/warmfront/ir/Block")], returnType := none }, accessFlags := 0, code := some k15c2 }
/-- com/example/warmfront/warmfront/ir/Goto -/
def k15 : Class := { plain "com/example/warmfront/warmfront/ir/Goto" (some 14) with
  accessFlags := 49
  interfaces := #[]
  cf := some (fileOf pool15 14 #[] #[{ accessFlags := 0, nameIndex := 11, descriptorIndex := 22, attributes := #[] }, { accessFlags := 1, nameIndex := 17, descriptorIndex := 25, attributes := #[] }, { accessFlags := 0, nameIndex := 29, descriptorIndex := 30, attributes := #[] }] 49 8 #[] #[{ accessFlags := 2, nameIndex := 17, descriptorIndex := 18, attributes := #[] }])
  fields := #[{ name := "target", type := (.object "com/example/warmfront/warmfront/ir/Block"), accessFlags := 2, slot := 4, constantValue := 0 }]
  methods := #[k15m0, k15m1, k15m2]
  instanceTypes := #[(.object "com/example/warmfront/warmfront/ir/Block"), (.object "java/util/List"), (.object "java/util/List"), (.object "java/util/List"), (.object "com/example/warmfront/warmfront/ir/Block")]
  staticTypes := #[]
  resolved := Array.replicate 34 none
  statics := none }

def pool16 : Array CpInfo := pool [(2, .class_ 4), (1, u "java/lang/Object"), (0, u "<init>"), (0, u "()V"), (3, .class_ 11), (0, u "java/util/ImmutableCollections$List12"), (0, .class_ 13), (0, u "java/util/ImmutableCollections$ListN"), (3, u "Z"), (29, .class_ 49), (1, u "java/util/ImmutableCollections"), (0, u "$assertionsDisabled"), (5, u "[Ljava/lang/Object;"), (5, u "EMPTY_LIST"), (0, u "Ljava/util/ImmutableCollections$ListN;"), (8, u "EMPTY_LIST_NULLS"), (22, u "SALT32L"), (0, u "J"), (2, u "REVERSE"), (6, u "archivedObjects"), (2, u "EMPTY"), (0, u "Ljava/lang/Object;"), (0, .class_ 112), (0, u "java/util/ImmutableCollections$SetN"), (5, u "EMPTY_SET"), (0, u "Ljava/util/ImmutableCollections$SetN;"), (0, .class_ 121), (0, u "java/util/ImmutableCollections$MapN"), (3, u "EMPTY_MAP"), (0, u "Ljava/util/ImmutableCollections$MapN;"), (4, u "EXPAND_FACTOR"), (0, u "I"), (36, .class_ 170), (0, u "java/util/ImmutableCollections$MapN$MapNIterator"), (0, .class_ 172), (0, u "java/util/ImmutableCollections$MapN$1"), (0, .class_ 174), (0, u "java/util/ImmutableCollections$Map1"), (0, .class_ 176), (0, u "java/util/ImmutableCollections$AbstractImmutableMap"), (0, .class_ 178), (0, u "java/util/ImmutableCollections$SetN$SetNIterator"), (0, .class_ 180), (0, u "java/util/ImmutableCollections$Set12"), (0, .class_ 182), (0, u "java/util/ImmutableCollections$Set12$1"), (0, .class_ 184), (0, u "java/util/ImmutableCollections$AbstractImmutableSet"), (0, .class_ 186), (0, u "java/util/ImmutableCollections$SubList"), (0, .class_ 188), (0, u "java/util/ImmutableCollections$ListItr"), (0, .class_ 190), (0, u "java/util/ImmutableCollections$AbstractImmutableList"), (0, .class_ 192), (0, u "java/util/ImmutableCollections$AbstractImmutableCollection"), (0, .class_ 194), (0, u "java/util/ImmutableCollections$Access"), (0, .class_ 196), (0, u "java/util/ImmutableCollections$Access$1")] 16

def k16m0 : Method := { name := "<init>", desc := "()V", sig := { parameters := [], returnType := none }, accessFlags := 2, code := none }
/-- java/util/ImmutableCollections -/
def k16 : Class := { plain "java/util/ImmutableCollections" (some 0) with
  accessFlags := 32
  interfaces := #[]
  cf := some (fileOf pool16 47 #[.nestMembers #[120, 169, 171, 173, 175, 111, 177, 179, 181, 183, 12, 10, 185, 187, 189, 191, 193, 195]] #[{ accessFlags := 2, nameIndex := 5, descriptorIndex := 6, attributes := #[] }] 32 2 #[] #[{ accessFlags := 26, nameIndex := 95, descriptorIndex := 96, attributes := #[] }, { accessFlags := 26, nameIndex := 99, descriptorIndex := 17, attributes := #[] }, { accessFlags := 10, nameIndex := 106, descriptorIndex := 56, attributes := #[] }, { accessFlags := 26, nameIndex := 109, descriptorIndex := 110, attributes := #[] }, { accessFlags := 24, nameIndex := 62, descriptorIndex := 63, attributes := #[] }, { accessFlags := 24, nameIndex := 72, descriptorIndex := 63, attributes := #[] }, { accessFlags := 24, nameIndex := 118, descriptorIndex := 119, attributes := #[] }, { accessFlags := 24, nameIndex := 125, descriptorIndex := 126, attributes := #[] }, { accessFlags := 24, nameIndex := 131, descriptorIndex := 132, attributes := #[] }, { accessFlags := 4120, nameIndex := 50, descriptorIndex := 17, attributes := #[] }])
  fields := #[{ name := "SALT32L", type := .long, accessFlags := 26, slot := 0, constantValue := 0 }, { name := "REVERSE", type := .boolean, accessFlags := 26, slot := 1, constantValue := 0 }, { name := "archivedObjects", type := (.array (.object "java/lang/Object")), accessFlags := 10, slot := 2, constantValue := 0 }, { name := "EMPTY", type := (.object "java/lang/Object"), accessFlags := 26, slot := 3, constantValue := 0 }, { name := "EMPTY_LIST", type := (.object "java/util/ImmutableCollections$ListN"), accessFlags := 24, slot := 4, constantValue := 0 }, { name := "EMPTY_LIST_NULLS", type := (.object "java/util/ImmutableCollections$ListN"), accessFlags := 24, slot := 5, constantValue := 0 }, { name := "EMPTY_SET", type := (.object "java/util/ImmutableCollections$SetN"), accessFlags := 24, slot := 6, constantValue := 0 }, { name := "EMPTY_MAP", type := (.object "java/util/ImmutableCollections$MapN"), accessFlags := 24, slot := 7, constantValue := 0 }, { name := "EXPAND_FACTOR", type := .int, accessFlags := 24, slot := 8, constantValue := 0 }, { name := "$assertionsDisabled", type := .boolean, accessFlags := 4120, slot := 9, constantValue := 0 }]
  methods := #[k16m0]
  instanceTypes := #[]
  staticTypes := #[.long, .boolean, (.array (.object "java/lang/Object")), (.object "java/lang/Object"), (.object "java/util/ImmutableCollections$ListN"), (.object "java/util/ImmutableCollections$ListN"), (.object "java/util/ImmutableCollections$SetN"), (.object "java/util/ImmutableCollections$MapN"), .int, .boolean]
  resolved := Array.replicate 213 none
  statics := some 1 }

def pool17 : Array CpInfo := pool [(2, .class_ 4), (1, u "java/util/AbstractCollection"), (0, u "<init>"), (0, u "()V"), (1, .class_ 10), (1, u "java/util/ImmutableCollections"), (2, .class_ 14), (0, u "java/util/ImmutableCollections$AbstractImmutableCollection")] 41

def k17m0 : Method := { name := "<init>", desc := "()V", sig := { parameters := [], returnType := none }, accessFlags := 0, code := none }
/-- java/util/ImmutableCollections$AbstractImmutableCollection -/
def k17 : Class := { plain "java/util/ImmutableCollections$AbstractImmutableCollection" (some 5) with
  accessFlags := 1056
  interfaces := #[]
  cf := some (fileOf pool17 13 #[.nestHost 8] #[{ accessFlags := 0, nameIndex := 5, descriptorIndex := 6, attributes := #[] }] 1056 2 #[] #[])
  fields := #[]
  methods := #[k17m0]
  instanceTypes := #[]
  staticTypes := #[]
  resolved := Array.replicate 56 none
  statics := none }

def pool18 : Array CpInfo := pool [(2, .class_ 4), (1, u "java/util/ImmutableCollections$AbstractImmutableCollection"), (0, u "<init>"), (0, u "()V"), (1, .class_ 10), (1, u "java/util/ImmutableCollections"), (2, .methodref 14 15), (0, .class_ 16), (0, .nameAndType 17 18), (0, u "java/util/ImmutableCollections$AbstractImmutableList"), (0, u "size"), (0, u "()I"), (42, .class_ 62), (0, u "java/util/ImmutableCollections$ListItr"), (0, .methodref 61 64), (0, .nameAndType 5 65), (0, u "(Ljava/util/List;I)V"), (11, .class_ 78), (0, u "java/util/List"), (2, u "iterator"), (0, u "()Ljava/util/Iterator;"), (41, .class_ 125), (0, u "java/util/RandomAccess")] 70

def k18m0 : Method := { name := "<init>", desc := "()V", sig := { parameters := [], returnType := none }, accessFlags := 0, code := none }
def k18c1 : Code := { maxStack := 4, maxLocals := 1, code := jdk_46_method_10_code, exceptionTable := #[], attributes := #[] }
def k18m1 : Method := { name := "iterator", desc := "()Ljava/util/Iterator;", sig := { parameters := [], returnType := some (.object "java/util/Iterator") }, accessFlags := 1, code := some k18c1 }
/-- java/util/ImmutableCollections$AbstractImmutableList -/
def k18 : Class := { plain "java/util/ImmutableCollections$AbstractImmutableList" (some 17) with
  accessFlags := 1056
  interfaces := #[7, 9]
  cf := some (fileOf pool18 14 #[.nestHost 8] #[{ accessFlags := 0, nameIndex := 5, descriptorIndex := 6, attributes := #[] }, { accessFlags := 1, nameIndex := 81, descriptorIndex := 82, attributes := #[] }] 1056 2 #[77, 124] #[])
  fields := #[]
  methods := #[k18m0, k18m1]
  instanceTypes := #[]
  staticTypes := #[]
  resolved := Array.replicate 196 none
  statics := none }

def pool19 : Array CpInfo := pool [(2, .class_ 4), (1, u "java/util/ImmutableCollections$AbstractImmutableList"), (2, .fieldref 8 9), (0, .class_ 10), (0, .nameAndType 11 12), (0, u "java/util/ImmutableCollections$ListN"), (0, u "elements"), (0, u "[Ljava/lang/Object;"), (2, u "allowNulls"), (0, u "Z"), (42, .class_ 60), (0, u "java/io/Serializable"), (16, u "size"), (0, u "()I"), (35, .class_ 115), (0, u "java/util/ImmutableCollections")] 3

def k19c0 : Code := { maxStack := 1, maxLocals := 1, code := jdk_45_method_3_code, exceptionTable := #[], attributes := #[] }
def k19m0 : Method := { name := "size", desc := "()I", sig := { parameters := [], returnType := some .int }, accessFlags := 1, code := some k19c0 }
/-- java/util/ImmutableCollections$ListN -/
def k19 : Class := { plain "java/util/ImmutableCollections$ListN" (some 18) with
  accessFlags := 48
  interfaces := #[11]
  cf := some (fileOf pool19 8 #[.nestHost 114] #[{ accessFlags := 1, nameIndex := 77, descriptorIndex := 78, attributes := #[] }] 48 2 #[59] #[{ accessFlags := 18, nameIndex := 11, descriptorIndex := 12, attributes := #[] }, { accessFlags := 18, nameIndex := 15, descriptorIndex := 16, attributes := #[] }])
  fields := #[{ name := "elements", type := (.array (.object "java/lang/Object")), accessFlags := 18, slot := 0, constantValue := 0 }, { name := "allowNulls", type := .boolean, accessFlags := 18, slot := 1, constantValue := 0 }]
  methods := #[k19m0]
  instanceTypes := #[(.array (.object "java/lang/Object")), .boolean]
  staticTypes := #[]
  resolved := Array.replicate 119 none
  statics := none }

def pool20 : Array CpInfo := pool [(16, .class_ 18), (1, u "java/util/Iterator"), (0, u "hasNext"), (0, u "()Z"), (10, .class_ 32), (0, u "java/lang/Object")] 20

def k20m0 : Method := { name := "hasNext", desc := "()Z", sig := { parameters := [], returnType := some .boolean }, accessFlags := 1025, code := none }
/-- java/util/Iterator -/
def k20 : Class := { plain "java/util/Iterator" (some 0) with
  accessFlags := 1537
  interfaces := #[]
  cf := some (fileOf pool20 16 #[] #[{ accessFlags := 1025, nameIndex := 19, descriptorIndex := 20, attributes := #[] }] 1537 31 #[] #[])
  fields := #[]
  methods := #[k20m0]
  instanceTypes := #[]
  staticTypes := #[]
  resolved := Array.replicate 53 none
  statics := none }

def pool21 : Array CpInfo := pool [(1, .class_ 2), (0, u "java/util/ListIterator"), (0, .class_ 4), (0, u "java/lang/Object"), (0, .class_ 6), (0, u "java/util/Iterator")] 20

/-- java/util/ListIterator -/
def k21 : Class := { plain "java/util/ListIterator" (some 0) with
  accessFlags := 1537
  interfaces := #[20]
  cf := some (fileOf pool21 1 #[] #[] 1537 3 #[5] #[])
  fields := #[]
  methods := #[]
  instanceTypes := #[]
  staticTypes := #[]
  resolved := Array.replicate 27 none
  statics := none }

def pool22 : Array CpInfo := pool [(1, .methodref 2 3), (0, .class_ 4), (0, .nameAndType 5 6), (0, u "java/lang/Object"), (0, u "<init>"), (0, u "()V"), (0, .fieldref 8 9), (0, .class_ 10), (0, .nameAndType 11 12), (0, u "java/util/ImmutableCollections$ListItr"), (0, u "list"), (0, u "Ljava/util/List;"), (0, .fieldref 8 14), (0, .nameAndType 15 16), (0, u "size"), (0, u "I"), (0, .fieldref 8 18), (0, .nameAndType 19 16), (0, u "cursor"), (0, .fieldref 8 21), (0, .nameAndType 22 23), (0, u "isListIterator"), (0, u "Z"), (12, .class_ 38), (1, u "java/util/ImmutableCollections"), (2, .class_ 42), (0, u "java/util/ListIterator"), (4, u "(Ljava/util/List;I)V"), (11, u "hasNext"), (0, u "()Z")] 25

def k22c0 : Code := { maxStack := 2, maxLocals := 3, code := jdk_53_method_1_code, exceptionTable := #[], attributes := #[] }
def k22m0 : Method := { name := "<init>", desc := "(Ljava/util/List;I)V", sig := { parameters := [(.object "java/util/List"), .int], returnType := none }, accessFlags := 0, code := some k22c0 }
def k22c1 : Code := { maxStack := 2, maxLocals := 1, code := jdk_53_method_3_code, exceptionTable := #[], attributes := #[] }
def k22m1 : Method := { name := "hasNext", desc := "()Z", sig := { parameters := [], returnType := some .boolean }, accessFlags := 1, code := some k22c1 }
/-- java/util/ImmutableCollections$ListItr -/
def k22 : Class := { plain "java/util/ImmutableCollections$ListItr" (some 0) with
  accessFlags := 48
  interfaces := #[21]
  cf := some (fileOf pool22 8 #[.nestHost 36] #[{ accessFlags := 0, nameIndex := 5, descriptorIndex := 47, attributes := #[] }, { accessFlags := 1, nameIndex := 59, descriptorIndex := 60, attributes := #[] }] 48 2 #[41] #[{ accessFlags := 18, nameIndex := 11, descriptorIndex := 12, attributes := #[] }, { accessFlags := 18, nameIndex := 15, descriptorIndex := 16, attributes := #[] }, { accessFlags := 18, nameIndex := 22, descriptorIndex := 23, attributes := #[] }, { accessFlags := 2, nameIndex := 19, descriptorIndex := 16, attributes := #[] }])
  fields := #[{ name := "list", type := (.object "java/util/List"), accessFlags := 18, slot := 0, constantValue := 0 }, { name := "size", type := .int, accessFlags := 18, slot := 1, constantValue := 0 }, { name := "isListIterator", type := .boolean, accessFlags := 18, slot := 2, constantValue := 0 }, { name := "cursor", type := .int, accessFlags := 2, slot := 3, constantValue := 0 }]
  methods := #[k22m0, k22m1]
  instanceTypes := #[(.object "java/util/List"), .int, .boolean, .int]
  staticTypes := #[]
  resolved := Array.replicate 86 none
  statics := none }

/-- the primitive byte -/
def k23 : Class := { plain "byte" none with kind := .primitive 'B', accessFlags := 0x411 }
/-- [B -/
def k24 : Class := { plain "[B" (some 0) with kind := .array 23 .byte, interfaces := #[10, 11], accessFlags := 1041 }

/-- the primitive int -/
def k25 : Class := { plain "int" none with kind := .primitive 'I', accessFlags := 0x411 }
/-- [I -/
def k26 : Class := { plain "[I" (some 0) with kind := .array 25 .int, interfaces := #[10, 11], accessFlags := 1041 }

/-- [Lcom/example/warmfront/warmfront/ir/Block; -/
def k27 : Class := { plain "[Lcom/example/warmfront/warmfront/ir/Block;" (some 0) with kind := .array 2 (.object "com/example/warmfront/warmfront/ir/Block"), interfaces := #[10, 11], accessFlags := 1041 }

/-- [Ljava/lang/Object; -/
def k28 : Class := { plain "[Ljava/lang/Object;" (some 0) with kind := .array 0 (.object "java/lang/Object"), interfaces := #[10, 11], accessFlags := 1041 }

def heap : Heap := #[{ cls := 12, slots := #[.long 0, .int 0, .ref 4, .ref 5], vm := .statics 12 },
  { cls := 16, slots := #[.long 0, .int 0, .null, .null, .ref 3, .null, .null, .null, .int 0, .int 0], vm := .statics 16 },
  { cls := 28, slots := #[], vm := .none },
  { cls := 19, slots := #[.ref 2, .int 0], vm := .none },
  { cls := 28, slots := #[], vm := .none },
  { cls := 28, slots := #[], vm := .none }]
def classes : Array Class := #[k0, k1, k2, k3, k4, k5, k6, k7, k8, k9, k10, k11, k12, k13, k14, k15, k16, k17, k18, k19, k20, k21, k22, k23, k24, k25, k26, k27, k28]
def interned : List (Array UInt16 × Addr) := []
def slotsUsed : Nat := 16
def theMethod : MethodId := ⟨1, 1⟩
def args0 : Array Value := #[.int 5, .int 300, .int 7]
def aboutOver (below : List Frame) : State where
  vm := { classes := classes, interned := interned.toArray }
  heap := heap
  slotsUsed := slotsUsed
  threads := #[{ frames := .invoking theMethod args0 :: below }]
def below0 : List Frame := [.native { method := ⟨0, 0⟩, args := #[] }]
def about1 : State := aboutOver below0
def p0 : Program := .bare "" "" ""
def e0 : Env := launch0.env 0 0 0
theorem w_frames : about1.frames = Frame.invoking theMethod args0 :: below0 := rfl
set_option maxRecDepth 65536 in
theorem w_args : argsFit about1.vm theMethod args0 = true := by decide +kernel
set_option maxRecDepth 65536 in
theorem w_heap : heapFits about1 = true := by decide +kernel
set_option maxRecDepth 65536 in
theorem w_runnable : about1.curStatus? = some .runnable := by decide +kernel
set_option maxRecDepth 65536 in
theorem w_alone : about1.alone = true := by decide +kernel
set_option maxRecDepth 65536 in
theorem w_named : about1.methodNamed? x = some theMethod := by decide +kernel
set_option maxRecDepth 65536 in
theorem w_hears : about1.hears theMethod below0 = true := by decide +kernel
set_option maxRecDepth 65536 in
theorem w_ripe : about1.ripe theMethod args0 below0 = true := by decide +kernel
theorem w_running : about1.status = .running := rfl
set_option maxRecDepth 65536 in
theorem w_room : about1.hasRoom e0.platform room_1 = true :=
  launch0.hasRoom_least _ room_1 (by decide +kernel) (by decide +kernel) (by decide +kernel) (by decide +kernel) (by decide +kernel) (by decide +kernel)
theorem allAtoms_all (ts : List Jvm.Cond) (a : Array Jvm.Value) (st : Jvm.State) : (allAtoms ts).before a st = ts.all (fun c => c.before a st) := by
  induction ts with
  | nil => rfl
  | cons c t ih =>
    show (Jvm.Cond.and c (allAtoms t)).before a st = _
    rw [Jvm.Cond.before_and, ih, List.all_cons]
def words1 : List Jvm.Cond := Jvm.Cond.code x code maxLocals ret :: tables_1
/-- a 'code' word, met by the world's own term for the bytes: nothing is compared byte by byte -/
theorem code_word {y : MethodName} {bytes : ByteArray} {mx : Nat} {rt : Option FieldType} {a : Array Value} {s : State} {m : MethodId} {meth : Method} {c : Code} (h1 : s.methodNamed? y = some m) (h2 : s.vm.method? m = some meth) (h3 : meth.code = some c) (h4 : c.code = bytes)
    (h5 : (c.maxLocals == mx && c.exceptionTable.isEmpty && decide (c.maxStack ≤ mostOperands) && decide (meth.sig.returnType = rt) && !meth.locks && decide (parseMethodDescriptor y.desc = some meth.sig)) = true) : (Jvm.Cond.code y bytes mx rt).before a s = true := by
  simp only [Bool.and_eq_true, beq_iff_eq, Bool.not_eq_true', decide_eq_true_eq] at h5
  obtain ⟨⟨⟨⟨⟨g1, g2⟩, g3⟩, g4⟩, g5⟩, g6⟩ := h5
  simp [Cond.before, Cond.holds, Cond.value, h1, h2, h3, h4, g1, g2, g3, g4, g5, g6]
def isCode : Jvm.Cond → Bool
  | .code _ _ _ _ => true
  | _ => false
theorem all_split {L : List Jvm.Cond} {P : Jvm.Cond → Bool} (h1 : L.all (fun c => isCode c || P c) = true) (h2 : ∀ c ∈ L.filter isCode, P c = true) : L.all P = true := by
  refine List.all_eq_true.mpr fun c hc => ?_
  have h := List.all_eq_true.mp h1 c hc
  rcases Bool.eq_false_or_eq_true (isCode c) with hi | hi
  · exact h2 c (List.mem_filter.mpr ⟨hc, hi⟩)
  · simpa [hi] using h
set_option maxRecDepth 65536 in
theorem w_c0 : (Jvm.Cond.code x code maxLocals ret).before args0 about1 = true := code_word (m := ⟨1, 1⟩) (meth := k1m1) (c := k1c1) (by decide +kernel) rfl rfl rfl (by decide +kernel)
set_option maxRecDepth 65536 in
theorem w_c1 : (Jvm.Cond.code ({ cls := "com/example/warmfront/warmfront/ir/Block", name := "<init>", desc := "()V" } : Jvm.MethodName) prog_10_method_1_code (1 : Nat) (Option.none : Option Jvm.ClassFile.FieldType)).before args0 about1 = true := code_word (m := ⟨2, 0⟩) (meth := k2m0) (c := k2c0) (by decide +kernel) rfl rfl rfl (by decide +kernel)
set_option maxRecDepth 65536 in
theorem w_c2 : (Jvm.Cond.code ({ cls := "java/lang/Object", name := "<init>", desc := "()V" } : Jvm.MethodName) object_method_1_code (1 : Nat) (Option.none : Option Jvm.ClassFile.FieldType)).before args0 about1 = true := code_word (m := ⟨0, 0⟩) (meth := k0m0) (c := k0c0) (by decide +kernel) rfl rfl rfl (by decide +kernel)
set_option maxRecDepth 65536 in
theorem w_c3 : (Jvm.Cond.code ({ cls := "java/util/ArrayList", name := "<init>", desc := "()V" } : Jvm.MethodName) jdk_38_method_2_code (1 : Nat) (Option.none : Option Jvm.ClassFile.FieldType)).before args0 about1 = true := code_word (m := ⟨12, 0⟩) (meth := k12m0) (c := k12c0) (by decide +kernel) rfl rfl rfl (by decide +kernel)
set_option maxRecDepth 65536 in
theorem w_c4 : (Jvm.Cond.code ({ cls := "java/util/AbstractList", name := "<init>", desc := "()V" } : Jvm.MethodName) jdk_39_method_1_code (1 : Nat) (Option.none : Option Jvm.ClassFile.FieldType)).before args0 about1 = true := code_word (m := ⟨8, 0⟩) (meth := k8m0) (c := k8c0) (by decide +kernel) rfl rfl rfl (by decide +kernel)
set_option maxRecDepth 65536 in
theorem w_c5 : (Jvm.Cond.code ({ cls := "java/util/AbstractCollection", name := "<init>", desc := "()V" } : Jvm.MethodName) jdk_22_method_1_code (1 : Nat) (Option.none : Option Jvm.ClassFile.FieldType)).before args0 about1 = true := code_word (m := ⟨5, 0⟩) (meth := k5m0) (c := k5c0) (by decide +kernel) rfl rfl rfl (by decide +kernel)
set_option maxRecDepth 65536 in
theorem w_c6 : (Jvm.Cond.code ({ cls := "com/example/warmfront/warmfront/ir/Goto", name := "<init>", desc := "(Lcom/example/warmfront/warmfront/ir/Block;)V" } : Jvm.MethodName) prog_15_method_1_code (2 : Nat) (Option.none : Option Jvm.ClassFile.FieldType)).before args0 about1 = true := code_word (m := ⟨15, 0⟩) (meth := k15m0) (c := k15c0) (by decide +kernel) rfl rfl rfl (by decide +kernel)
set_option maxRecDepth 65536 in
theorem w_c7 : (Jvm.Cond.code ({ cls := "java/util/List", name := "of", desc := "()Ljava/util/List;" } : Jvm.MethodName) jdk_40_method_36_code (0 : Nat) (Option.some (Jvm.ClassFile.FieldType.object "java/util/List"))).before args0 about1 = true := code_word (m := ⟨7, 1⟩) (meth := k7m1) (c := k7c1) (by decide +kernel) rfl rfl rfl (by decide +kernel)
set_option maxRecDepth 65536 in
theorem w_c8 : (Jvm.Cond.code ({ cls := "com/example/warmfront/warmfront/ir/Terminator", name := "<init>", desc := "(Ljava/util/List;)V" } : Jvm.MethodName) prog_30_method_1_code (2 : Nat) (Option.none : Option Jvm.ClassFile.FieldType)).before args0 about1 = true := code_word (m := ⟨14, 0⟩) (meth := k14m0) (c := k14c0) (by decide +kernel) rfl rfl rfl (by decide +kernel)
set_option maxRecDepth 65536 in
theorem w_c9 : (Jvm.Cond.code ({ cls := "com/example/warmfront/warmfront/ir/Instruction", name := "<init>", desc := "(Ljava/util/List;)V" } : Jvm.MethodName) prog_22_method_1_code (4 : Nat) (Option.none : Option Jvm.ClassFile.FieldType)).before args0 about1 = true := code_word (m := ⟨13, 0⟩) (meth := k13m0) (c := k13c0) (by decide +kernel) rfl rfl rfl (by decide +kernel)
set_option maxRecDepth 65536 in
theorem w_c10 : (Jvm.Cond.code ({ cls := "java/util/ImmutableCollections$AbstractImmutableList", name := "iterator", desc := "()Ljava/util/Iterator;" } : Jvm.MethodName) jdk_46_method_10_code (1 : Nat) (Option.some (Jvm.ClassFile.FieldType.object "java/util/Iterator"))).before args0 about1 = true := code_word (m := ⟨18, 1⟩) (meth := k18m1) (c := k18c1) (by decide +kernel) rfl rfl rfl (by decide +kernel)
set_option maxRecDepth 65536 in
theorem w_c11 : (Jvm.Cond.code ({ cls := "java/util/ImmutableCollections$ListN", name := "size", desc := "()I" } : Jvm.MethodName) jdk_45_method_3_code (1 : Nat) (Option.some Jvm.ClassFile.FieldType.int)).before args0 about1 = true := code_word (m := ⟨19, 0⟩) (meth := k19m0) (c := k19c0) (by decide +kernel) rfl rfl rfl (by decide +kernel)
set_option maxRecDepth 65536 in
theorem w_c12 : (Jvm.Cond.code ({ cls := "java/util/ImmutableCollections$ListItr", name := "<init>", desc := "(Ljava/util/List;I)V" } : Jvm.MethodName) jdk_53_method_1_code (3 : Nat) (Option.none : Option Jvm.ClassFile.FieldType)).before args0 about1 = true := code_word (m := ⟨22, 0⟩) (meth := k22m0) (c := k22c0) (by decide +kernel) rfl rfl rfl (by decide +kernel)
set_option maxRecDepth 65536 in
theorem w_c13 : (Jvm.Cond.code ({ cls := "java/util/ImmutableCollections$ListItr", name := "hasNext", desc := "()Z" } : Jvm.MethodName) jdk_53_method_3_code (1 : Nat) (Option.some Jvm.ClassFile.FieldType.boolean)).before args0 about1 = true := code_word (m := ⟨22, 1⟩) (meth := k22m1) (c := k22c1) (by decide +kernel) rfl rfl rfl (by decide +kernel)
set_option maxRecDepth 65536 in
theorem w_c14 : (Jvm.Cond.code ({ cls := "com/example/warmfront/warmfront/ir/Goto", name := "replaceSuccessor", desc := "(Lcom/example/warmfront/warmfront/ir/Block;Lcom/example/warmfront/warmfront/ir/Block;)V" } : Jvm.MethodName) prog_15_method_4_code (3 : Nat) (Option.none : Option Jvm.ClassFile.FieldType)).before args0 about1 = true := code_word (m := ⟨15, 2⟩) (meth := k15m2) (c := k15c2) (by decide +kernel) rfl rfl rfl (by decide +kernel)
set_option maxRecDepth 65536 in
theorem w_c15 : (Jvm.Cond.code ({ cls := "com/example/warmfront/warmfront/ir/Goto", name := "target", desc := "()Lcom/example/warmfront/warmfront/ir/Block;" } : Jvm.MethodName) prog_15_method_2_code (1 : Nat) (Option.some (Jvm.ClassFile.FieldType.object "com/example/warmfront/warmfront/ir/Block"))).before args0 about1 = true := code_word (m := ⟨15, 1⟩) (meth := k15m1) (c := k15c1) (by decide +kernel) rfl rfl rfl (by decide +kernel)
def codes1 : List Jvm.Cond := [Jvm.Cond.code x code maxLocals ret, Jvm.Cond.code ({ cls := "com/example/warmfront/warmfront/ir/Block", name := "<init>", desc := "()V" } : Jvm.MethodName) prog_10_method_1_code (1 : Nat) (Option.none : Option Jvm.ClassFile.FieldType), Jvm.Cond.code ({ cls := "java/lang/Object", name := "<init>", desc := "()V" } : Jvm.MethodName) object_method_1_code (1 : Nat) (Option.none : Option Jvm.ClassFile.FieldType), Jvm.Cond.code ({ cls := "java/util/ArrayList", name := "<init>", desc := "()V" } : Jvm.MethodName) jdk_38_method_2_code (1 : Nat) (Option.none : Option Jvm.ClassFile.FieldType), Jvm.Cond.code ({ cls := "java/util/AbstractList", name := "<init>", desc := "()V" } : Jvm.MethodName) jdk_39_method_1_code (1 : Nat) (Option.none : Option Jvm.ClassFile.FieldType), Jvm.Cond.code ({ cls := "java/util/AbstractCollection", name := "<init>", desc := "()V" } : Jvm.MethodName) jdk_22_method_1_code (1 : Nat) (Option.none : Option Jvm.ClassFile.FieldType), Jvm.Cond.code ({ cls := "com/example/warmfront/warmfront/ir/Goto", name := "<init>", desc := "(Lcom/example/warmfront/warmfront/ir/Block;)V" } : Jvm.MethodName) prog_15_method_1_code (2 : Nat) (Option.none : Option Jvm.ClassFile.FieldType), Jvm.Cond.code ({ cls := "java/util/List", name := "of", desc := "()Ljava/util/List;" } : Jvm.MethodName) jdk_40_method_36_code (0 : Nat) (Option.some (Jvm.ClassFile.FieldType.object "java/util/List")), Jvm.Cond.code ({ cls := "com/example/warmfront/warmfront/ir/Terminator", name := "<init>", desc := "(Ljava/util/List;)V" } : Jvm.MethodName) prog_30_method_1_code (2 : Nat) (Option.none : Option Jvm.ClassFile.FieldType), Jvm.Cond.code ({ cls := "com/example/warmfront/warmfront/ir/Instruction", name := "<init>", desc := "(Ljava/util/List;)V" } : Jvm.MethodName) prog_22_method_1_code (4 : Nat) (Option.none : Option Jvm.ClassFile.FieldType), Jvm.Cond.code ({ cls := "java/util/ImmutableCollections$AbstractImmutableList", name := "iterator", desc := "()Ljava/util/Iterator;" } : Jvm.MethodName) jdk_46_method_10_code (1 : Nat) (Option.some (Jvm.ClassFile.FieldType.object "java/util/Iterator")), Jvm.Cond.code ({ cls := "java/util/ImmutableCollections$ListN", name := "size", desc := "()I" } : Jvm.MethodName) jdk_45_method_3_code (1 : Nat) (Option.some Jvm.ClassFile.FieldType.int), Jvm.Cond.code ({ cls := "java/util/ImmutableCollections$ListItr", name := "<init>", desc := "(Ljava/util/List;I)V" } : Jvm.MethodName) jdk_53_method_1_code (3 : Nat) (Option.none : Option Jvm.ClassFile.FieldType), Jvm.Cond.code ({ cls := "java/util/ImmutableCollections$ListItr", name := "hasNext", desc := "()Z" } : Jvm.MethodName) jdk_53_method_3_code (1 : Nat) (Option.some Jvm.ClassFile.FieldType.boolean), Jvm.Cond.code ({ cls := "com/example/warmfront/warmfront/ir/Goto", name := "replaceSuccessor", desc := "(Lcom/example/warmfront/warmfront/ir/Block;Lcom/example/warmfront/warmfront/ir/Block;)V" } : Jvm.MethodName) prog_15_method_4_code (3 : Nat) (Option.none : Option Jvm.ClassFile.FieldType), Jvm.Cond.code ({ cls := "com/example/warmfront/warmfront/ir/Goto", name := "target", desc := "()Lcom/example/warmfront/warmfront/ir/Block;" } : Jvm.MethodName) prog_15_method_2_code (1 : Nat) (Option.some (Jvm.ClassFile.FieldType.object "com/example/warmfront/warmfront/ir/Block"))]
set_option maxRecDepth 65536 in
theorem codes_eq : words1.filter isCode = codes1 := rfl
theorem w_codes : ∀ c ∈ words1.filter isCode, c.before args0 about1 = true := by
  rw [codes_eq]
  intro c hc
  simp only [codes1, List.mem_cons, List.not_mem_nil, or_false] at hc
  rcases hc with rfl | rfl | rfl | rfl | rfl | rfl | rfl | rfl | rfl | rfl | rfl | rfl | rfl | rfl | rfl | rfl
  · exact w_c0
  · exact w_c1
  · exact w_c2
  · exact w_c3
  · exact w_c4
  · exact w_c5
  · exact w_c6
  · exact w_c7
  · exact w_c8
  · exact w_c9
  · exact w_c10
  · exact w_c11
  · exact w_c12
  · exact w_c13
  · exact w_c14
  · exact w_c15
set_option maxRecDepth 65536 in
theorem w_t1 : (words1.take 24).all (fun c => isCode c || c.before args0 about1) = true := by decide +kernel
set_option maxRecDepth 65536 in
theorem w_t2 : ((words1.drop 24).take 24).all (fun c => isCode c || c.before args0 about1) = true := by decide +kernel
set_option maxRecDepth 65536 in
theorem w_t3 : (((words1.drop 24).drop 24).take 24).all (fun c => isCode c || c.before args0 about1) = true := by decide +kernel
set_option maxRecDepth 65536 in
theorem w_t4 : ((((words1.drop 24).drop 24).drop 24).take 24).all (fun c => isCode c || c.before args0 about1) = true := by decide +kernel
set_option maxRecDepth 65536 in
theorem w_t5 : (((((words1.drop 24).drop 24).drop 24).drop 24).take 24).all (fun c => isCode c || c.before args0 about1) = true := by decide +kernel
set_option maxRecDepth 65536 in
theorem w_t6 : (((((words1.drop 24).drop 24).drop 24).drop 24).drop 24).all (fun c => isCode c || c.before args0 about1) = true := by decide +kernel
theorem w_tables : (allAtoms (Jvm.Cond.code x code maxLocals ret :: tables_1)).before args0 about1 = true := by
  rw [allAtoms_all]
  show words1.all (fun c => c.before args0 about1) = true
  refine all_split ?_ w_codes
  rw [← List.take_append_drop 24 words1, List.all_append, w_t1, ← List.take_append_drop 24 (words1.drop 24), List.all_append, w_t2, ← List.take_append_drop 24 ((words1.drop 24).drop 24), List.all_append, w_t3, ← List.take_append_drop 24 (((words1.drop 24).drop 24).drop 24), List.all_append, w_t4, ← List.take_append_drop 24 ((((words1.drop 24).drop 24).drop 24).drop 24), List.all_append, w_t5, w_t6]
  rfl
set_option maxRecDepth 65536 in
theorem w_rest : rest_1_c.before args0 about1 = true := by decide +kernel
set_option maxRecDepth 65536 in
theorem w_case : (Jvm.Cond.and given_1 narrow_1).before args0 about1 = true := by decide +kernel
theorem w_applies : (headSpec (Jvm.Cond.code x code maxLocals ret :: tables_1) room_1).applies x e0.platform about1 = true :=
  (Spec.applies_iff w_frames).mpr ⟨w_running, w_runnable, w_alone, w_named, w_hears, w_ripe, w_room, w_tables⟩
theorem atStart : AtStart classFile x code maxLocals ret World_1 tables_1 room_1 Calls_1 rest_1 Pre_1 launch0 p0 e0 about1 theMethod args0 below0 :=
  ⟨lists_1, trivial, launch0.admits_env _ _ _, launch0.least_env, fairChoices_fair.cas, fairChoices_fair.clock, w_frames, w_args, w_heap, w_applies, trivial, w_rest, w_case⟩
end start1
theorem witness_1 : WitnessClaimed_1 := ⟨start1.p0, start1.e0, start1.about1, start1.theMethod, start1.args0, start1.below0, start1.atStart⟩
end Jvm.Pilot.@@N@@
