import JvmDerived
import JvmDerived.Pilot.@@N@@Statement
import JvmDerived.Pilot.@@N@@Code
set_option linter.unusedVariables false
set_option linter.unusedSimpArgs false
namespace Jvm.RoadKit
open Sem ClassFile Op Lib Jvm.Stand Jvm.Free Jvm.LawKit
section Own
variable {p : Program} {l : Launch} {e : Env} {R : Room} {s : State} {m : MethodId} {args : Array Value} {below : List Frame} {meth : Method} {c : Code} {T : State} {locs : List Loc} {cells slots : Nat}
/-- from the state S the run comes to the end of this invocation, and Q says what it returned and left -/
def Dn (p : Program) (e : Env) (below : List Frame) (s : State) (Q : Option Value → Heap → List Loc → Prop) (k n : Nat) (S : State) : Prop :=
  ∃ U o, Steps p.tables e below S U ∧ U.status = .running ∧ Ended U below o ∧ ∃ v L, o = .returned v ∧ Q v U.heap L ∧ FrameEnd s o U L k n
variable {Q Q' : Option Value → Heap → List Loc → Prop} {k n : Nat} {S S' : State} {Z : State} {a0 : Array Value} {h : Heap}
theorem Dn.of (w : ∀ t, Steps p.tables e below S' t → Steps p.tables e below S t) (d : Dn p e below s Q k n S') : Dn p e below s Q k n S := by
  obtain ⟨U, o, st, r⟩ := d
  exact ⟨U, o, w U st, r⟩
theorem Dn.cast {g g' : JFrame} (q : g = g') (d : Dn p e below s Q k n (T.setTop g')) : Dn p e below s Q k n (T.setTop g) := q ▸ d
theorem Dn.ret (X : Stand p l e R s m args below meth c T locs cells slots) (hx : p.tables.exec = Jvm.exec) (hlk : meth.locks = false) {pc : Nat} {Ls : Array Slot} {w : Value} {t : FieldType} {i : Instr} {rest : List Value} (hret : meth.sig.returnType = some t) (hn : narrow t w = w)
    (hi : (i = .ireturn ∧ (t = .int ∨ t = .boolean ∨ t = .byte ∨ t = .char ∨ t = .short) ∧ ∃ z, w = .int z) ∨ (i = .lreturn ∧ t = .long ∧ ∃ z, w = .long z) ∨ (i = .dreturn ∧ t = .double ∧ ∃ z, w = .double z) ∨ (i = .freturn ∧ t = .float ∧ ∃ z, w = .float z) ∨ (i = .areturn ∧ t.isReference = true ∧ w.isRef = true))
    (hd : decode c.code pc = .ok (i, 1)) (hk : cells ≤ k) (hs : slots ≤ n) (hQ : Q (some w) T.heap locs) : Dn p e below s Q k n (T.setTop (mkF m pc Ls (w :: rest))) := by
  obtain ⟨fs, hr, hrun, hended, hW, hsame⟩ := X.leave (v := some w) (fun q => by rw [hret] at q; cases q) hlk
  exact ⟨_, _, retOut X hx hret hn hi hd hr, hrun, hended, _, _, rfl, hQ, ⟨_, rfl⟩, hW, hsame.mono hk hs⟩
theorem Dn.retI (X : Stand p l e R s m args below meth c T locs cells slots) (hx : p.tables.exec = Jvm.exec) (hlk : meth.locks = false) {pc : Nat} {Ls : Array Slot} {z : Int32} {rest : List Value} (hret : meth.sig.returnType = some .int)
    (hd : decode c.code pc = .ok (.ireturn, 1)) (hk : cells ≤ k) (hs : slots ≤ n) (hQ : Q (some (.int z)) T.heap locs) : Dn p e below s Q k n (T.setTop (mkF m pc Ls (.int z :: rest))) :=
  Dn.ret X hx hlk hret rfl (Or.inl ⟨rfl, Or.inl rfl, z, rfl⟩) hd hk hs hQ
theorem Dn.retA (X : Stand p l e R s m args below meth c T locs cells slots) (hx : p.tables.exec = Jvm.exec) (hlk : meth.locks = false) {pc : Nat} {Ls : Array Slot} {w : Value} {t : FieldType} {rest : List Value} (hret : meth.sig.returnType = some t) (ht : t.isReference = true) (hw : w.isRef = true)
    (hd : decode c.code pc = .ok (.areturn, 1)) (hk : cells ≤ k) (hs : slots ≤ n) (hQ : Q (some w) T.heap locs) : Dn p e below s Q k n (T.setTop (mkF m pc Ls (w :: rest))) :=
  Dn.ret X hx hlk hret (by cases t <;> simp [FieldType.isReference] at ht <;> rcases ref_cases hw with rfl | ⟨a, rfl⟩ <;> rfl) (Or.inr (Or.inr (Or.inr (Or.inr ⟨rfl, ht, hw⟩)))) hd hk hs hQ
theorem Dn.retN (X : Stand p l e R s m args below meth c T locs cells slots) (hx : p.tables.exec = Jvm.exec) (hlk : meth.locks = false) {pc : Nat} {Ls : Array Slot} {z : Int32} {t : FieldType} {rest : List Value} (hret : meth.sig.returnType = some t) (ht : t = .boolean ∨ t = .byte ∨ t = .char ∨ t = .short)
    (hd : decode c.code pc = .ok (.ireturn, 1)) (hk : cells ≤ k) (hs : slots ≤ n) (hQ : Q (some (.int (nar t z))) T.heap locs) : Dn p e below s Q k n (T.setTop (mkF m pc Ls (.int z :: rest))) := by
  obtain ⟨fs, hr, hrun, hended, hW, hsame⟩ := X.leave (v := some (.int (nar t z))) (fun q => by rw [hret] at q; cases q) hlk
  exact ⟨_, _, Jvm.RoadKit.retN X hx hret ht hd hr, hrun, hended, _, _, rfl, hQ, ⟨_, rfl⟩, hW, hsame.mono hk hs⟩
theorem Dn.retV (X : Stand p l e R s m args below meth c T locs cells slots) (hx : p.tables.exec = Jvm.exec) (hlk : meth.locks = false) {pc : Nat} {Ls : Array Slot} (hret : meth.sig.returnType = none)
    (hd : decode c.code pc = .ok (.return_, 1)) (hk : cells ≤ k) (hs : slots ≤ n) (hQ : Q none T.heap locs) : Dn p e below s Q k n (T.setTop (mkF m pc Ls [])) := by
  obtain ⟨fs, hr, hrun, hended, hW, hsame⟩ := X.leave (v := none) (fun _ => rfl) hlk
  exact ⟨_, _, X.returnOut hx hret hd hr, hrun, hended, _, _, rfl, hQ, ⟨_, rfl⟩, hW, hsame.mono hk hs⟩
/-- a body's contract: entered with the arguments as' at the heap h, it returns, and Q says what and what it left -/
abbrev ctr (l : Launch) (Z : State) (y : MethodName) (bytes : ByteArray) (maxL : Nat) (ret : Option FieldType) (ws : List Jvm.Cond) (rm : Room) (k n : Nat) (as' : Array Value) (h : Heap) (Q : Option Value → Heap → List Loc → Prop) : Prop :=
  MetFree l y (head1 (Jvm.Cond.code y bytes maxL ret :: ws) rm) (fun a U => a = as' ∧ Z.Warmed39 U.vm ∧ U.heap = h) (fun _ _ _ _ _ => True) (fun _ U o U' => ∃ v L, o = .returned v ∧ Q v U'.heap L ∧ FrameEnd U o U' L k n)
theorem ctr_of {y : MethodName} {bytes : ByteArray} {maxL : Nat} {ret : Option FieldType} {ws : List Jvm.Cond} {rm : Room} {as' : Array Value} (pn : plainFor y = true)
    (body : ∀ (p : Program) (e : Env) (s : State) (m : MethodId) (below : List Frame) (meth : Method) (c : Code) (s₁ : State), p.tables.exec = Jvm.exec → c.code = bytes → c.maxLocals = maxL → meth.sig.returnType = ret → meth.locks = false → meth.name = y.name → s.vm.findClass y.cls = some m.cls →
      Z.Warmed39 s.vm → s₁.heap = h → Stand p l e rm s m as' below meth c s₁ [] 0 0 → Dn p e below s Q k n (s₁.setTop (entryFrame m as' maxL))) : ctr l Z y bytes maxL ret ws rm k n as' h Q := by
  refine MetFree.of_bodySF pn hisR ?_
  intro p e s m args below meth c s₁ Bd hml0 hP hK
  obtain ⟨rfl, hZ, hh⟩ := hP
  exact body p e s m below meth c s₁ Bd.exec Bd.bytes hml0 Bd.returns Bd.notSynchronized (name_of_methodNamed Bd.named Bd.method).1 (findClass_of_methodNamed Bd.named) hZ (by rw [← hh, Bd.state]; rfl) (Stand.of_body Bd)
theorem cSt (X : Stand p l e R s m args below meth c T locs cells slots) (hx : p.tables.exec = Jvm.exec) (hZ : Z.Warmed39 s.vm) {own : String} {index : Nat} {y : MethodName} {bytes : ByteArray} {maxL : Nat} {ret : Option FieldType} (hown : s.vm.findClass own = some m.cls)
    (w1 : (Jvm.Cond.methodLink own index y).before a0 Z = true) (w2 : (Jvm.Cond.static y).before a0 Z = true) (w3 : (Jvm.Cond.initialized y.cls).before a0 Z = true) (w4 : (Jvm.Cond.code y bytes maxL ret).before a0 Z = true) (hy : y.cls ≠ "java/lang/invoke/MethodHandle" ∧ y.cls ≠ "java/lang/invoke/VarHandle")
    {rm : Room} {argsL rest : List Value} (hM : ctr l Z y bytes maxL ret [] rm rm.cells rm.slots argsL.toArray h Q) (eT : T.heap = h) (W : Nat) (hf : rm.frames + 1 ≤ R.frames) (hl : W + (maxL + 11) + rm.locals ≤ R.locals) (hc : cells + rm.cells ≤ R.cells) (hs : slots + rm.slots ≤ R.slots)
    {g : JFrame} (hg : g.method = m) (hsize : g.locals.size = c.maxLocals) (hlen : ∀ sig, parseMethodDescriptor y.desc = some sig → argsL.length = sig.parameters.length) (hstack : g.stack = argsL.reverse ++ rest) (hW : 2 * g.monitorRoom + (rest.map fun v => v.category).sum ≤ W) (hdg : decode c.code g.pc = .ok (.invokestatic index, 3)) :
    ∃ (v : Option Value) (T' : State) (L : List Loc), Q v T'.heap L ∧ Stand p l e R s m args below meth c T' (locs ++ L) (cells + rm.cells) (slots + rm.slots) ∧ ∀ target, Steps p.tables e below (T'.setTop { g with pc := g.pc + 3, stack := v.toList ++ rest }) target → Steps p.tables e below (T.setTop g) target := by
  obtain ⟨v, _, ⟨T', L', k', n'⟩, -, X', ⟨L, hQ, e1, e2, e3⟩, st⟩ := Jvm.LawKit.callS X hx (y := y) hown (mvT hZ w1) (mvT hZ w2) (mvT hZ w3) (mvT hZ w4) hy (backOf (W := W) hM hZ w4 w3 hf hl) hg hsize hlen hstack hW hdg (fun _ _ => ⟨rfl, eT, hc, hs⟩)
  dsimp only [Pt.U, Pt.locs, Pt.cells, Pt.slots] at X' e1 e2 e3 st hQ
  subst e1 e2 e3
  exact ⟨v, T', L, hQ, X', st⟩
theorem cIn (X : Stand p l e R s m args below meth c T locs cells slots) (hx : p.tables.exec = Jvm.exec) (hZ : Z.Warmed39 s.vm) {own : String} {index : Nat} {y : MethodName} {bytes : ByteArray} {maxL : Nat} (hy1 : y.name = "<init>") (hown : s.vm.findClass own = some m.cls)
    (w1 : (Jvm.Cond.methodLink own index y).before a0 Z = true) (w2 : (Jvm.Cond.instanceMethod y).before a0 Z = true) (w3 : (Jvm.Cond.initialized y.cls).before a0 Z = true) (w4 : (Jvm.Cond.code y bytes maxL none).before a0 Z = true) (hy : y.cls ≠ "java/lang/invoke/MethodHandle" ∧ y.cls ≠ "java/lang/invoke/VarHandle")
    {rm : Room} {a : Addr} {argsL rest : List Value} (hM : ctr l Z y bytes maxL none [] rm rm.cells rm.slots (.ref a :: argsL).toArray h Q) (eT : T.heap = h) (W : Nat) (hf : rm.frames + 1 ≤ R.frames) (hl : W + (maxL + 11) + rm.locals ≤ R.locals) (hc : cells + rm.cells ≤ R.cells) (hs : slots + rm.slots ≤ R.slots)
    {g : JFrame} (hg : g.method = m) (hsize : g.locals.size = c.maxLocals) (hlen : ∀ sig, parseMethodDescriptor y.desc = some sig → argsL.length = sig.parameters.length) (hstack : g.stack = argsL.reverse ++ .ref a :: rest) (hW : 2 * g.monitorRoom + (rest.map fun v => v.category).sum ≤ W) (hdg : decode c.code g.pc = .ok (.invokespecial index, 3)) :
    ∃ (v : Option Value) (T' : State) (L : List Loc), Q v T'.heap L ∧ Stand p l e R s m args below meth c T' (locs ++ L) (cells + rm.cells) (slots + rm.slots) ∧ ∀ target, Steps p.tables e below (T'.setTop { g with pc := g.pc + 3, stack := v.toList ++ rest }) target → Steps p.tables e below (T.setTop g) target := by
  obtain ⟨v, _, ⟨T', L', k', n'⟩, -, X', ⟨L, hQ, e1, e2, e3⟩, st⟩ := X.specialBack hx (y := y) hy1 hown (mvT hZ w1) (mvT hZ w2) (mvT hZ w4) hy (backOf (W := W) hM hZ w4 w3 hf hl) hg hsize (Steps.refl _) hlen hstack hW hdg (fun _ _ => ⟨rfl, eT, hc, hs⟩)
  dsimp only [Pt.U, Pt.locs, Pt.cells, Pt.slots] at X' e1 e2 e3 st hQ
  subst e1 e2 e3
  exact ⟨v, T', L, hQ, X', fun _ z => st.trans z⟩
theorem cVi (X : Stand p l e R s m args below meth c T locs cells slots) (hx : p.tables.exec = Jvm.exec) (hZ : Z.Warmed39 s.vm) {own C : String} {index : Nat} {y z : MethodName} {bytes : ByteArray} {maxL : Nat} {ret : Option FieldType} (hown : s.vm.findClass own = some m.cls)
    (w1 : (Jvm.Cond.methodLink own index y).before a0 Z = true) (w2 : (Jvm.Cond.declares y).before a0 Z = true) (nf : NotFace s y) (ws : (Jvm.Cond.selects C y z).before a0 Z = true) (wi : (Jvm.Cond.instanceMethod z).before a0 Z = true) (w3 : (Jvm.Cond.initialized z.cls).before a0 Z = true) (w4 : (Jvm.Cond.code z bytes maxL ret).before a0 Z = true)
    (hy : y.cls ≠ "java/lang/invoke/MethodHandle" ∧ y.cls ≠ "java/lang/invoke/VarHandle")
    {rm : Room} {a : Addr} {argsL rest : List Value} (hM : ctr l Z z bytes maxL ret [] rm rm.cells rm.slots (.ref a :: argsL).toArray h Q) (eT : T.heap = h) (E : Exa Z h a C) (W : Nat) (hf : rm.frames + 1 ≤ R.frames) (hl : W + (maxL + 11) + rm.locals ≤ R.locals) (hc : cells + rm.cells ≤ R.cells) (hs : slots + rm.slots ≤ R.slots)
    {g : JFrame} (hg : g.method = m) (hsize : g.locals.size = c.maxLocals) (hlen : ∀ sig, parseMethodDescriptor y.desc = some sig → argsL.length = sig.parameters.length) (hstack : g.stack = argsL.reverse ++ .ref a :: rest) (hW : 2 * g.monitorRoom + (rest.map fun v => v.category).sum ≤ W) (hdg : decode c.code g.pc = .ok (.invokevirtual index, 3)) :
    ∃ (v : Option Value) (T' : State) (L : List Loc), Q v T'.heap L ∧ Stand p l e R s m args below meth c T' (locs ++ L) (cells + rm.cells) (slots + rm.slots) ∧ ∀ target, Steps p.tables e below (T'.setTop { g with pc := g.pc + 3, stack := v.toList ++ rest }) target → Steps p.tables e below (T.setTop g) target := by
  obtain ⟨cq, kq, qa, qb, qc⟩ := isOf hZ eT E
  obtain ⟨v, _, ⟨T', L', k', n'⟩, -, X', ⟨L, hQ, e1, e2, e3⟩, st⟩ := X.virtualBack hx (y := y) (z := z) hown (mvT hZ w1) (mvT hZ w2) nf (mvT hZ ws) (mvT hZ wi) hy (backOf (W := W) hM hZ w4 w3 hf hl) qa qc hg hsize (Steps.refl _) hlen hstack hW hdg (fun _ _ => ⟨rfl, eT, hc, hs⟩)
  dsimp only [Pt.U, Pt.locs, Pt.cells, Pt.slots] at X' e1 e2 e3 st hQ
  subst e1 e2 e3
  exact ⟨v, T', L, hQ, X', fun _ z => st.trans z⟩
theorem cUp (X : Stand p l e R s m args below meth c T locs cells slots) (hx : p.tables.exec = Jvm.exec) (hZ : Z.Warmed39 s.vm) {own C owner : String} {index : Nat} {y z : MethodName} {bytes : ByteArray} {maxL : Nat} {ret : Option FieldType} (hown : s.vm.findClass own = some m.cls)
    (w1 : (Jvm.Cond.methodLink own index y).before a0 Z = true) (wm : (Jvm.Cond.sameMethod y.cls owner y.name y.desc).before a0 Z = true) (w2 : (Jvm.Cond.declares ⟨owner, y.name, y.desc⟩).before a0 Z = true) (ws : (Jvm.Cond.selects C y z).before a0 Z = true) (wi : (Jvm.Cond.instanceMethod z).before a0 Z = true) (w3 : (Jvm.Cond.initialized z.cls).before a0 Z = true) (w4 : (Jvm.Cond.code z bytes maxL ret).before a0 Z = true)
    (hy : owner ≠ "java/lang/invoke/MethodHandle" ∧ owner ≠ "java/lang/invoke/VarHandle")
    {rm : Room} {a : Addr} {argsL rest : List Value} (hM : ctr l Z z bytes maxL ret [] rm rm.cells rm.slots (.ref a :: argsL).toArray h Q) (eT : T.heap = h) (E : Exa Z h a C) (W : Nat) (hf : rm.frames + 1 ≤ R.frames) (hl : W + (maxL + 11) + rm.locals ≤ R.locals) (hc : cells + rm.cells ≤ R.cells) (hs : slots + rm.slots ≤ R.slots)
    {g : JFrame} (hg : g.method = m) (hsize : g.locals.size = c.maxLocals) (hlen : ∀ sig, parseMethodDescriptor y.desc = some sig → argsL.length = sig.parameters.length) (hstack : g.stack = argsL.reverse ++ .ref a :: rest) (hW : 2 * g.monitorRoom + (rest.map fun v => v.category).sum ≤ W) (hdg : decode c.code g.pc = .ok (.invokevirtual index, 3)) :
    ∃ (v : Option Value) (T' : State) (L : List Loc), Q v T'.heap L ∧ Stand p l e R s m args below meth c T' (locs ++ L) (cells + rm.cells) (slots + rm.slots) ∧ ∀ target, Steps p.tables e below (T'.setTop { g with pc := g.pc + 3, stack := v.toList ++ rest }) target → Steps p.tables e below (T.setTop g) target := by
  obtain ⟨cq, kq, qa, qb, qc⟩ := isOf hZ eT E
  obtain ⟨v, _, ⟨T', L', k', n'⟩, -, X', ⟨L, hQ, e1, e2, e3⟩, st⟩ := X.virtualBackUp hx (x := y) (y := z) (owner := owner) hown (mvT hZ w1) (mvT hZ wm) (mvT hZ w2) hy (mvT hZ ws) (mvT hZ wi) (backOf (W := W) hM hZ w4 w3 hf hl) qa qc hg hsize (Steps.refl _) hlen hstack hW hdg (fun _ _ => ⟨rfl, eT, hc, hs⟩)
  dsimp only [Pt.U, Pt.locs, Pt.cells, Pt.slots] at X' e1 e2 e3 st hQ
  subst e1 e2 e3
  exact ⟨v, T', L, hQ, X', fun _ z => st.trans z⟩
theorem cFa (X : Stand p l e R s m args below meth c T locs cells slots) (hx : p.tables.exec = Jvm.exec) (hZ : Z.Warmed39 s.vm) {own C : String} {index count : Nat} {y z : MethodName} {bytes : ByteArray} {maxL : Nat} {ret : Option FieldType} (hown : s.vm.findClass own = some m.cls)
    (w1 : (Jvm.Cond.methodLink own index y).before a0 Z = true) (w2 : (Jvm.Cond.declares y).before a0 Z = true) (wf : (Jvm.Cond.interfaceMethod y.cls y.cls y.name y.desc).before args s = true) (ws : (Jvm.Cond.selects C y z).before a0 Z = true) (wi : (Jvm.Cond.instanceMethod z).before a0 Z = true) (wp : (Jvm.Cond.publicMethod z).before a0 Z = true) (wu : (Jvm.Cond.unhidden C y.name y.desc).before a0 Z = true) (wk : (Jvm.Cond.castable C y.cls).before a0 Z = true) (w3 : (Jvm.Cond.initialized z.cls).before a0 Z = true) (w4 : (Jvm.Cond.code z bytes maxL ret).before a0 Z = true)
    (hy : y.cls ≠ "java/lang/invoke/MethodHandle" ∧ y.cls ≠ "java/lang/invoke/VarHandle")
    {rm : Room} {a : Addr} {argsL rest : List Value} (hM : ctr l Z z bytes maxL ret [] rm rm.cells rm.slots (.ref a :: argsL).toArray h Q) (eT : T.heap = h) (E : Exa Z h a C) (W : Nat) (hf : rm.frames + 1 ≤ R.frames) (hl : W + (maxL + 11) + rm.locals ≤ R.locals) (hc : cells + rm.cells ≤ R.cells) (hs : slots + rm.slots ≤ R.slots)
    {g : JFrame} (hg : g.method = m) (hsize : g.locals.size = c.maxLocals) (hlen : ∀ sig, parseMethodDescriptor y.desc = some sig → argsL.length = sig.parameters.length) (hstack : g.stack = argsL.reverse ++ .ref a :: rest) (hW : 2 * g.monitorRoom + (rest.map fun v => v.category).sum ≤ W) (hdg : decode c.code g.pc = .ok (.invokeinterface index count, 5)) :
    ∃ (v : Option Value) (T' : State) (L : List Loc), Q v T'.heap L ∧ Stand p l e R s m args below meth c T' (locs ++ L) (cells + rm.cells) (slots + rm.slots) ∧ ∀ target, Steps p.tables e below (T'.setTop { g with pc := g.pc + 5, stack := v.toList ++ rest }) target → Steps p.tables e below (T.setTop g) target := by
  obtain ⟨cq, kq, qa, qb, qc⟩ := isOf hZ eT E
  obtain ⟨v, _, ⟨T', L', k', n'⟩, -, X', ⟨L, hQ, e1, e2, e3⟩, st⟩ := X.interfaceBack hx (xi := y) (y := z) hown (mvT hZ w1) (mvT hZ w2) wf (mvT hZ ws) (mvT hZ wi) (mvT hZ wp) (mvT hZ wu) (mvT hZ wk) hy (backOf (W := W) hM hZ w4 w3 hf hl) qa qb qc hg hsize (Steps.refl _) hlen hstack hW hdg (fun _ _ => ⟨rfl, eT, hc, hs⟩)
  dsimp only [Pt.U, Pt.locs, Pt.cells, Pt.slots] at X' e1 e2 e3 st hQ
  subst e1 e2 e3
  exact ⟨v, T', L, hQ, X', fun _ z => st.trans z⟩
/-- a static's fact over a Keep: its holder's cell is none of the written -/
theorem Sta.keep {h' : Heap} {C n d : String} {v : Value} {ws : List Addr} (F : Sta Z h C n d v) (K : Keep h h' ws) (q : ∀ (x : Addr) (c : Cell), x ∈ ws → h[x]? = some c → c.vm.isStatics = false) : Sta Z h' C n d v := by
  obtain ⟨cf, i, k, f, st, cell, h1, h2, h3, h4, h5, h6, h7⟩ := F
  refine ⟨cf, i, k, f, st, cell, h1, h2, h3, h4, K.2.1 _ _ h5 (fun y => ?_), h6, h7⟩
  rw [q st cell y h5] at h6; cases h6
theorem own_ns {a : Addr} {C : String} (E : Exa Z h a C) : ∀ (x : Addr) (c : Cell), x ∈ [a] → h[x]? = some c → c.vm.isStatics = false := by
  intro x c hx hc
  cases List.mem_singleton.mp hx
  obtain ⟨cell, k, h1, -, -, h4, -⟩ := E
  rw [h1] at hc; cases hc; exact h4
/-- an int field of what a term names, out of an 'eq' of the case -/
theorem own_fld {args : Array Value} {a : Addr} {C n d : String} {t : Term} {x : Int32} (ev : t.eval args Z none [] Z = some (.ref a)) (hq : (Jvm.Cond.eq (.field t C n d) (.int x)).value args Z none Z [] = some true) : Fld Z Z.heap a C n d (.int x) := by
  obtain ⟨u, w, h1, h2, k1, k2⟩ := cmp_v (Or.inl hq)
  have h2' : w = .int x := by rw [Term.int_eval] at h2; exact (Option.some.inj h2).symm
  subst h2'
  obtain ⟨z, rfl⟩ : ∃ z, u = .int z := k2
  have : z = x := gotT (Cond.eq_ints h1 (Term.int_eval x)) hq
  subst this
  exact Fld.start (by rw [← fld_at ev]; exact h1)
theorem own_cat {v : Value} (r : v.isRef = true) : v.category = 1 := by rcases ref_cases r with rfl | ⟨a, rfl⟩ <;> rfl
theorem own_narO {C : String} {v : Value} (r : v.isRef = true) : narrow (.object C) v = v := by rcases ref_cases r with rfl | ⟨a, rfl⟩ <;> rfl
theorem own_fitO {C : String} {v : Value} (r : v.isRef = true) : fits (.object C) v = true := by rcases ref_cases r with rfl | ⟨a, rfl⟩ <;> rfl
theorem own_len {args : Array Value} {a : Addr} {cl : Cell} {ty : FieldType} {t : Term} {x : Int32} (ev : t.eval args Z none [] Z = some (.ref a)) (A : Arr Z Z.heap a cl ty) (hq : (Jvm.Cond.eq (.length t) (.int x)).value args Z none Z [] = some true) : cl.slots.size = x.toNatClampNeg ∧ cl.slots.size < 2 ^ 31 := by
  have ha : Z.arrayAt? a = some cl := IntBox.arrayAt_of A.1 A.2.1 A.2.2
  by_cases p : cl.slots.size < 2 ^ 31
  · have q := gotT (Cond.eq_ints (len_f ev ha p) (Term.int_eval x)) hq
    refine ⟨?_, p⟩
    rw [← q, Int32.toNatClampNeg, len_toInt p]; rfl
  · obtain ⟨u, w, h1, h2, -, -⟩ := cmp_v (Or.inl hq)
    exact absurd h1 (by simp [Term.eval, ev, ha, p])
theorem own_elem {args : Array Value} {a b : Addr} {cl : Cell} {ty : FieldType} {t u : Term} {j : Int32} (ev : t.eval args Z none [] Z = some (.ref a)) (A : Arr Z Z.heap a cl ty) (eu : u.eval args Z none [] Z = some (.ref b)) (hq : (Jvm.Cond.eq (.elem t (.int j)) u).value args Z none Z [] = some true) : cl.slots[j.toNatClampNeg]? = some (.ref b) := by
  obtain ⟨x, y, h1, h2, k1, k2⟩ := cmp_v (Or.inl hq)
  rw [eu] at h2; cases h2
  have e := gotT (eq_R h1 eu k2.2 rfl) hq
  rw [← e]; exact (elem_in h1 ev (Term.int_eval j) A.1).2
end Own
end Jvm.RoadKit
namespace Jvm.Pilot.@@N@@
open Jvm Jvm.ClassFile Sem Op Lib Jvm.Free Jvm.Stand Jvm.LawKit Jvm.RoadKit Bundle Jvm.Pilot.@@N@@.Jvm.D
theorem d1_0 : decode prog_21_method_1_code 0 = .ok (.aload_n 0, 1) := by decide +kernel
theorem d1_1 : decode prog_21_method_1_code 1 = .ok (.invokespecial 1, 3) := by decide +kernel
theorem d1_4 : decode prog_21_method_1_code 4 = .ok (.iload_n 1, 1) := by decide +kernel
theorem d1_5 : decode prog_21_method_1_code 5 = .ok (.ifCond .lt 19, 3) := by decide +kernel
theorem d1_8 : decode prog_21_method_1_code 8 = .ok (.iload_n 1, 1) := by decide +kernel
theorem d1_9 : decode prog_21_method_1_code 9 = .ok (.ldc 9, 2) := by decide +kernel
theorem d1_11 : decode prog_21_method_1_code 11 = .ok (.if_icmp .gt 13, 3) := by decide +kernel
theorem d1_14 : decode prog_21_method_1_code 14 = .ok (.iload_n 2, 1) := by decide +kernel
theorem d1_15 : decode prog_21_method_1_code 15 = .ok (.ifCond .lt 9, 3) := by decide +kernel
theorem d1_18 : decode prog_21_method_1_code 18 = .ok (.iload_n 2, 1) := by decide +kernel
theorem d1_19 : decode prog_21_method_1_code 19 = .ok (.ldc 9, 2) := by decide +kernel
theorem d1_21 : decode prog_21_method_1_code 21 = .ok (.if_icmp .le 18, 3) := by decide +kernel
theorem d1_39 : decode prog_21_method_1_code 39 = .ok (.aload_n 0, 1) := by decide +kernel
theorem d1_40 : decode prog_21_method_1_code 40 = .ok (.iload_n 1, 1) := by decide +kernel
theorem d1_41 : decode prog_21_method_1_code 41 = .ok (.putfield 19, 3) := by decide +kernel
theorem d1_44 : decode prog_21_method_1_code 44 = .ok (.aload_n 0, 1) := by decide +kernel
theorem d1_45 : decode prog_21_method_1_code 45 = .ok (.iload_n 2, 1) := by decide +kernel
theorem d1_46 : decode prog_21_method_1_code 46 = .ok (.putfield 23, 3) := by decide +kernel
theorem d1_49 : decode prog_21_method_1_code 49 = .ok (.return_, 1) := by decide +kernel
theorem d2_0 : decode jdk_30_method_1_code 0 = .ok (.aload_n 0, 1) := by decide +kernel
theorem d2_1 : decode jdk_30_method_1_code 1 = .ok (.invokespecial 1, 3) := by decide +kernel
theorem d2_4 : decode jdk_30_method_1_code 4 = .ok (.return_, 1) := by decide +kernel
theorem d4_0 : decode prog_21_method_2_code 0 = .ok (.aload_n 0, 1) := by decide +kernel
theorem d4_1 : decode prog_21_method_2_code 1 = .ok (.getfield 19, 3) := by decide +kernel
theorem d4_4 : decode prog_21_method_2_code 4 = .ok (.getstatic 26, 3) := by decide +kernel
theorem d4_7 : decode prog_21_method_2_code 7 = .ok (.getfield 19, 3) := by decide +kernel
theorem d4_10 : decode prog_21_method_2_code 10 = .ok (.if_icmp .lt 16, 3) := by decide +kernel
theorem d4_13 : decode prog_21_method_2_code 13 = .ok (.aload_n 0, 1) := by decide +kernel
theorem d4_14 : decode prog_21_method_2_code 14 = .ok (.getfield 19, 3) := by decide +kernel
theorem d4_17 : decode prog_21_method_2_code 17 = .ok (.getstatic 30, 3) := by decide +kernel
theorem d4_20 : decode prog_21_method_2_code 20 = .ok (.getfield 19, 3) := by decide +kernel
theorem d4_23 : decode prog_21_method_2_code 23 = .ok (.if_icmp .le 5, 3) := by decide +kernel
theorem d4_26 : decode prog_21_method_2_code 26 = .ok (.iconst 0, 1) := by decide +kernel
theorem d4_27 : decode prog_21_method_2_code 27 = .ok (.ireturn, 1) := by decide +kernel
theorem d4_28 : decode prog_21_method_2_code 28 = .ok (.aload_n 0, 1) := by decide +kernel
theorem d4_29 : decode prog_21_method_2_code 29 = .ok (.getfield 19, 3) := by decide +kernel
theorem d4_32 : decode prog_21_method_2_code 32 = .ok (.bipush 56, 2) := by decide +kernel
theorem d4_34 : decode prog_21_method_2_code 34 = .ok (.if_icmp .lt 19, 3) := by decide +kernel
theorem d4_37 : decode prog_21_method_2_code 37 = .ok (.aload_n 0, 1) := by decide +kernel
theorem d4_38 : decode prog_21_method_2_code 38 = .ok (.getfield 23, 3) := by decide +kernel
theorem d4_41 : decode prog_21_method_2_code 41 = .ok (.ifCond .eq 12, 3) := by decide +kernel
theorem d4_44 : decode prog_21_method_2_code 44 = .ok (.aload_n 0, 1) := by decide +kernel
theorem d4_45 : decode prog_21_method_2_code 45 = .ok (.getfield 23, 3) := by decide +kernel
theorem d4_48 : decode prog_21_method_2_code 48 = .ok (.ldc 9, 2) := by decide +kernel
theorem d4_50 : decode prog_21_method_2_code 50 = .ok (.if_icmp .ne 7, 3) := by decide +kernel
theorem d4_53 : decode prog_21_method_2_code 53 = .ok (.iconst 1, 1) := by decide +kernel
theorem d4_54 : decode prog_21_method_2_code 54 = .ok (.goto 4, 3) := by decide +kernel
theorem d4_57 : decode prog_21_method_2_code 57 = .ok (.iconst 0, 1) := by decide +kernel
theorem d4_58 : decode prog_21_method_2_code 58 = .ok (.ireturn, 1) := by decide +kernel
theorem pn0 : plainName "java/lang/Record" = true := by first | (simp [plainName, overriddenIn]; done) | decide +kernel
theorem pn1 : plainName "com/example/bytewright/bytewright/ClassFileVersion" = true := by first | (simp [plainName, overriddenIn]; done) | decide +kernel
theorem pn2 : plainName "com/example/bytewright/bytewright/ClassFileVersionIsSupportedPinLaw" = true := by first | (simp [plainName, overriddenIn]; done) | decide +kernel
theorem pd0 : parseMethodDescriptor "()V" = some ⟨[], none⟩ := by decide +kernel
theorem pd1 : parseMethodDescriptor "(II)V" = some ⟨[.int, .int], none⟩ := by decide +kernel
theorem pd2 : parseMethodDescriptor "()Z" = some ⟨[], some .boolean⟩ := by decide +kernel
/-- what isSupported answers -/
def own_sup (mj mn : Int32) : Int32 := if mj < 45 then 0 else if 69 < mj then 0 else if ¬ 55 < mj then 1 else if mn = 0 then 1 else if mn = 65535 then 1 else 0
theorem own_56 (x : Int32) : x < 56 ↔ ¬ 55 < x := by
  rw [Int32.lt_iff_toInt_lt, Int32.lt_iff_toInt_lt, show (56 : Int32).toInt = 56 by decide, show (55 : Int32).toInt = 55 by decide]; omega
theorem own_m16 (a : Int32) : ¬ (a &&& 65535) < 0 ∧ ¬ 65535 < (a &&& 65535) := by
  have q := c_mask a 65535 16 (by decide) (by decide)
  rw [Int32.lt_iff_toInt_lt, Int32.lt_iff_toInt_lt, show (65535 : Int32).toInt = 65535 by decide, show (0 : Int32).toInt = 0 by decide]; omega
theorem own_m35 (a : Int32) : ¬ (40 + (a &&& 2147483647) % 35) < 0 ∧ ¬ 65535 < (40 + (a &&& 2147483647) % 35) := by
  have q := c_mask a 2147483647 31 (by decide) (by decide)
  have r := (c_irem (a &&& 2147483647) 35 35 (by decide)).1 (by omega)
  have u := c_iadd 40 ((a &&& 2147483647) % 35)
  have v := rng32 (40 + (a &&& 2147483647) % 35)
  rw [show (40 : Int32).toInt = 40 by decide] at u
  rw [Int32.lt_iff_toInt_lt, Int32.lt_iff_toInt_lt, show (65535 : Int32).toInt = 65535 by decide, show (0 : Int32).toInt = 0 by decide]; omega
theorem own_mn (b : Int32) : ¬ (1 + (b &&& 1) * 65533) < 0 ∧ ¬ 65535 < (1 + (b &&& 1) * 65533) := by
  have q := c_mask b 1 1 (by decide) (by decide)
  have r := c_imul (b &&& 1) 65533
  have u := c_iadd 1 ((b &&& 1) * 65533)
  have v := rng32 (1 + (b &&& 1) * 65533)
  have v' := rng32 ((b &&& 1) * 65533)
  rw [show (65533 : Int32).toInt = 65533 by decide] at r
  rw [show (1 : Int32).toInt = 1 by decide] at u
  have q' : (b &&& 1).toInt = 0 ∨ (b &&& 1).toInt = 1 := by omega
  rw [Int32.lt_iff_toInt_lt, Int32.lt_iff_toInt_lt, show (65535 : Int32).toInt = 65535 by decide, show (0 : Int32).toInt = 0 by decide]
  rcases q' with q' | q' <;> rw [q'] at r <;> omega
theorem ef2 (m : MethodId) (x0 : Addr) : entryFrame m #[(.ref x0)] 1 = mkF m 0 #[.val (.ref x0)] [] := by first | (simp [entryFrame, mkF, argsToLocals, Value.category]; done) | rfl
set_option maxRecDepth 65536 in
set_option maxHeartbeats 40000000 in
theorem rm2 (l : Launch) (Z : State) (a0 : Array Value) (hw : ∀ d ∈ tables_1, d.before a0 Z = true) (h0 : Heap) (n0 : Nat) (Z0 : n0 ≤ h0.size) (a : Addr) :
    ctr l Z (⟨"java/lang/Record", "<init>", "()V"⟩ : MethodName) jdk_30_method_1_code 1 none [] ({ frames := 1, cells := 0, slots := 0, locals := 12 } : Room) 0 0 #[(.ref a)] h0 (fun v h L => v = none ∧ Fr n0 L ∧ h = h0) := by
  refine ctr_of (plainFor_of_name pn0) ?_
  intro p e s m below meth jc s₁ hx hby hml hret hlk hnm hown hZ e0 X0
  have N0 := Fr.nil n0
  refine Dn.cast (ef2 m a) ?_
  show Dn p e below s _ _ _ (s₁.setTop (mkF m 0 #[.val (.ref a)] []))
  refine Dn.of (fun tt_ zz_ => XS.aloadN X0.here hx rfl (hb hby d2_0) rfl rfl zz_) ?_
  show Dn p e below s _ _ _ (s₁.setTop (mkF m 1 #[.val (.ref a)] [(.ref a)]))
  obtain ⟨T1, X1, e1, st1⟩ := initO X0 hx hZ hown (hw _ (List.mem_of_getElem? (i := 12) rfl)) (hw _ (List.mem_of_getElem? (i := 13) rfl)) (hw _ (List.mem_of_getElem? (i := 14) rfl)) e0 (g := (mkF m 1 #[.val (.ref a)] [(.ref a)])) rfl (by rw [hml]; rfl) rfl (hb hby d2_1) (by decide) (W := 0) (by show 2 * 0 + _ ≤ _; exact Nat.le_of_eq rfl) (by decide)
  refine Dn.of st1 ?_
  show Dn p e below s _ _ _ (T1.setTop (mkF m 4 #[.val (.ref a)] []))
  exact Dn.retV X1 hx hlk hret (hb hby d2_4) (by decide) (by decide) (⟨rfl, N0, e1⟩)
theorem ef1 (m : MethodId) (x0 : Addr) (x1 : Int32) (x2 : Int32) : entryFrame m #[(.ref x0), (.int x1), (.int x2)] 3 = mkF m 0 #[.val (.ref x0), .val (.int x1), .val (.int x2)] [] := by first | (simp [entryFrame, mkF, argsToLocals, Value.category]; done) | rfl
set_option maxRecDepth 65536 in
set_option maxHeartbeats 40000000 in
theorem rm1 (l : Launch) (Z : State) (a0 : Array Value) (hw : ∀ d ∈ tables_1, d.before a0 Z = true) (h0 : Heap) (n0 : Nat) (Z0 : n0 ≤ h0.size) (a : Addr) (mj mn : Int32) (E0 : Exa Z h0 a "com/example/bytewright/bytewright/ClassFileVersion") (F1 : Fld Z h0 a "com/example/bytewright/bytewright/ClassFileVersion" "major" "I" (.int (0 : Int32))) (F2 : Fld Z h0 a "com/example/bytewright/bytewright/ClassFileVersion" "minor" "I" (.int (0 : Int32))) (g0 : n0 ≤ a) (c1 : ¬ mj < 0) (c2 : ¬ 65535 < mj) (c3 : ¬ mn < 0) (c4 : ¬ 65535 < mn) :
    ctr l Z (⟨"com/example/bytewright/bytewright/ClassFileVersion", "<init>", "(II)V"⟩ : MethodName) prog_21_method_1_code 3 none [] ({ frames := 2, cells := 0, slots := 0, locals := 36 } : Room) 0 0 #[(.ref a), (.int mj), (.int mn)] h0 (fun v h L => v = none ∧ Fr n0 L ∧ Keep h0 h [a] ∧ Exa Z h a "com/example/bytewright/bytewright/ClassFileVersion" ∧ Fld Z h a "com/example/bytewright/bytewright/ClassFileVersion" "major" "I" (.int mj) ∧ Fld Z h a "com/example/bytewright/bytewright/ClassFileVersion" "minor" "I" (.int mn)) := by
  refine ctr_of (plainFor_of_name pn1) ?_
  intro p e s m below meth jc s₁ hx hby hml hret hlk hnm hown hZ e0 X0
  have N0 := Fr.nil n0
  refine Dn.cast (ef1 m a mj mn) ?_
  show Dn p e below s _ _ _ (s₁.setTop (mkF m 0 #[.val (.ref a), .val (.int mj), .val (.int mn)] []))
  refine Dn.of (fun tt_ zz_ => XS.aloadN X0.here hx rfl (hb hby d1_0) rfl rfl zz_) ?_
  show Dn p e below s _ _ _ (s₁.setTop (mkF m 1 #[.val (.ref a), .val (.int mj), .val (.int mn)] [(.ref a)]))
  obtain ⟨v2, T2, L2, Q2, X2, st2⟩ := cIn X0 hx hZ (y := (⟨"java/lang/Record", "<init>", "()V"⟩ : MethodName)) rfl hown (hw _ (List.mem_of_getElem? (i := 7) rfl)) (hw _ (List.mem_of_getElem? (i := 8) rfl)) (hw _ (List.mem_of_getElem? (i := 10) rfl)) (hw _ (List.mem_of_getElem? (i := 11) rfl)) (by decide) (a := a) (argsL := []) (rest := []) (rm2 l Z a0 hw h0 n0 Z0 a) e0  0 (by decide) (by decide) (by decide) (by decide) (g := (mkF m 1 #[.val (.ref a), .val (.int mj), .val (.int mn)] [(.ref a)])) rfl (by rw [hml]; rfl) (lenOf pd0 rfl) rfl (by show 2 * 0 + _ ≤ _; exact Nat.le_of_eq rfl) (hb hby d1_1)
  obtain ⟨rfl, M1, e2⟩ := Q2
  refine Dn.of st2 ?_
  show Dn p e below s _ _ _ (T2.setTop (mkF m 4 #[.val (.ref a), .val (.int mj), .val (.int mn)] []))
  refine Dn.of (fun tt_ zz_ => XS.iloadN X2.here hx rfl (hb hby d1_4) rfl zz_) ?_
  show Dn p e below s _ _ _ (T2.setTop (mkF m 5 #[.val (.ref a), .val (.int mj), .val (.int mn)] [(.int mj)]))
  refine Dn.of (fun tt_ zz_ => XS.ifNo X2.here hx rfl (hb hby d1_5) rfl ((if0 _ _).trans (flt c1).1) zz_) ?_
  show Dn p e below s _ _ _ (T2.setTop (mkF m 8 #[.val (.ref a), .val (.int mj), .val (.int mn)] []))
  refine Dn.of (fun tt_ zz_ => XS.iloadN X2.here hx rfl (hb hby d1_8) rfl zz_) ?_
  show Dn p e below s _ _ _ (T2.setTop (mkF m 9 #[.val (.ref a), .val (.int mj), .val (.int mn)] [(.int mj)]))
  refine Dn.of (fun tt_ zz_ => X2.ldcI hx hown (mvT hZ (hw _ (List.mem_of_getElem? (i := 15) rfl))) rfl (hb hby d1_9) zz_) ?_
  show Dn p e below s _ _ _ (T2.setTop (mkF m 11 #[.val (.ref a), .val (.int mj), .val (.int mn)] [(.int (65535 : Int32)), (.int mj)]))
  refine Dn.of (fun tt_ zz_ => XS.icmpNo X2.here hx rfl (hb hby d1_11) rfl (flt c2).2.2.1 zz_) ?_
  show Dn p e below s _ _ _ (T2.setTop (mkF m 14 #[.val (.ref a), .val (.int mj), .val (.int mn)] []))
  refine Dn.of (fun tt_ zz_ => XS.iloadN X2.here hx rfl (hb hby d1_14) rfl zz_) ?_
  show Dn p e below s _ _ _ (T2.setTop (mkF m 15 #[.val (.ref a), .val (.int mj), .val (.int mn)] [(.int mn)]))
  refine Dn.of (fun tt_ zz_ => XS.ifNo X2.here hx rfl (hb hby d1_15) rfl ((if0 _ _).trans (flt c3).1) zz_) ?_
  show Dn p e below s _ _ _ (T2.setTop (mkF m 18 #[.val (.ref a), .val (.int mj), .val (.int mn)] []))
  refine Dn.of (fun tt_ zz_ => XS.iloadN X2.here hx rfl (hb hby d1_18) rfl zz_) ?_
  show Dn p e below s _ _ _ (T2.setTop (mkF m 19 #[.val (.ref a), .val (.int mj), .val (.int mn)] [(.int mn)]))
  refine Dn.of (fun tt_ zz_ => X2.ldcI hx hown (mvT hZ (hw _ (List.mem_of_getElem? (i := 15) rfl))) rfl (hb hby d1_19) zz_) ?_
  show Dn p e below s _ _ _ (T2.setTop (mkF m 21 #[.val (.ref a), .val (.int mj), .val (.int mn)] [(.int (65535 : Int32)), (.int mn)]))
  refine Dn.of (fun tt_ zz_ => XS.icmpYes X2.here hx rfl (pc0 := 21) (pc' := 39) rfl (hb hby d1_21) rfl (flt c4).2.2.2 (by decide) (by decide) zz_) ?_
  show Dn p e below s _ _ _ (T2.setTop (mkF m 39 #[.val (.ref a), .val (.int mj), .val (.int mn)] []))
  refine Dn.of (fun tt_ zz_ => XS.aloadN X2.here hx rfl (hb hby d1_39) rfl rfl zz_) ?_
  show Dn p e below s _ _ _ (T2.setTop (mkF m 40 #[.val (.ref a), .val (.int mj), .val (.int mn)] [(.ref a)]))
  refine Dn.of (fun tt_ zz_ => XS.iloadN X2.here hx rfl (hb hby d1_40) rfl zz_) ?_
  show Dn p e below s _ _ _ (T2.setTop (mkF m 41 #[.val (.ref a), .val (.int mj), .val (.int mn)] [(.int mj), (.ref a)]))
  obtain ⟨T3, h3, X3, e3, W3, st3⟩ := putF X2 hx hZ hown (host := "") (Or.inl (hw _ (List.mem_of_getElem? (i := 16) rfl))) Via.refl e2 F1 E0 (Or.inr ⟨(hw _ (List.mem_of_getElem? (i := 17) rfl)), rfl, hnm⟩) (hw _ (List.mem_of_getElem? (i := 2) rfl)) (ty := .int) (by decide) rfl rfl (g := (mkF m 41 #[.val (.ref a), .val (.int mj), .val (.int mn)] [(.int mj), (.ref a)])) rfl rfl (hb hby d1_41)
  refine Dn.of st3 ?_
  show Dn p e below s _ _ _ (T3.setTop (mkF m 44 #[.val (.ref a), .val (.int mj), .val (.int mn)] []))
  refine Dn.of (fun tt_ zz_ => XS.aloadN X3.here hx rfl (hb hby d1_44) rfl rfl zz_) ?_
  show Dn p e below s _ _ _ (T3.setTop (mkF m 45 #[.val (.ref a), .val (.int mj), .val (.int mn)] [(.ref a)]))
  refine Dn.of (fun tt_ zz_ => XS.iloadN X3.here hx rfl (hb hby d1_45) rfl zz_) ?_
  show Dn p e below s _ _ _ (T3.setTop (mkF m 46 #[.val (.ref a), .val (.int mj), .val (.int mn)] [(.int mn), (.ref a)]))
  have sn : Jvm.RoadKit.slotOf Z "com/example/bytewright/bytewright/ClassFileVersion" "minor" "I" ≠ Jvm.RoadKit.slotOf Z "com/example/bytewright/bytewright/ClassFileVersion" "major" "I" := slot_ne (Or.inr (hw _ (List.mem_of_getElem? (i := 19) rfl))) (Or.inr (hw _ (List.mem_of_getElem? (i := 17) rfl))) (by decide) (t := .int) (t' := .int) (by decide) (by decide)
  obtain ⟨T4, h4, X4, e4, W4, st4⟩ := putF X3 hx hZ hown (host := "") (Or.inl (hw _ (List.mem_of_getElem? (i := 18) rfl))) Via.refl e3 (F2.other W3 (Or.inr sn)) (E0.wr W3) (Or.inr ⟨(hw _ (List.mem_of_getElem? (i := 19) rfl)), rfl, hnm⟩) (hw _ (List.mem_of_getElem? (i := 2) rfl)) (ty := .int) (by decide) rfl rfl (g := (mkF m 46 #[.val (.ref a), .val (.int mj), .val (.int mn)] [(.int mn), (.ref a)])) rfl rfl (hb hby d1_46)
  refine Dn.of st4 ?_
  show Dn p e below s _ _ _ (T4.setTop (mkF m 49 #[.val (.ref a), .val (.int mj), .val (.int mn)] []))
  have N1 := Fr.snoc X3 (Fr.app N0 M1) g0
  have N2 := Fr.snoc X4 N1 g0
  have K := ((Keep.refl h0 [a]).wr W3 (Or.inl (List.mem_of_getElem? (i := 0) rfl))).wr W4 (Or.inl (List.mem_of_getElem? (i := 0) rfl))
  exact Dn.retV X4 hx hlk hret (hb hby d1_49) (by decide) (by decide) (by rw [e4]; exact ⟨rfl, N2, K, (E0.wr W3).wr W4, (F1.same W3).other W4 (Or.inr sn.symm), (F2.other W3 (Or.inr sn)).same W4⟩)
theorem ef4 (m : MethodId) (x0 : Addr) : entryFrame m #[(.ref x0)] 1 = mkF m 0 #[.val (.ref x0)] [] := by first | (simp [entryFrame, mkF, argsToLocals, Value.category]; done) | rfl
set_option maxRecDepth 65536 in
set_option maxHeartbeats 40000000 in
theorem rm4 (l : Launch) (Z : State) (a0 : Array Value) (hw : ∀ d ∈ tables_1, d.before a0 Z = true) (h0 : Heap) (n0 : Nat) (Z0 : n0 ≤ h0.size) (a aO aN : Addr) (mj mn : Int32) (F1 : Fld Z h0 a "com/example/bytewright/bytewright/ClassFileVersion" "major" "I" (.int mj)) (F2 : Fld Z h0 a "com/example/bytewright/bytewright/ClassFileVersion" "minor" "I" (.int mn)) (SO : Sta Z h0 "com/example/bytewright/bytewright/ClassFileVersion" "OLDEST" "Lcom/example/bytewright/bytewright/ClassFileVersion;" (.ref aO)) (SN : Sta Z h0 "com/example/bytewright/bytewright/ClassFileVersion" "NEWEST" "Lcom/example/bytewright/bytewright/ClassFileVersion;" (.ref aN)) (FO : Fld Z h0 aO "com/example/bytewright/bytewright/ClassFileVersion" "major" "I" (.int 45)) (FN : Fld Z h0 aN "com/example/bytewright/bytewright/ClassFileVersion" "major" "I" (.int 69)) :
    ctr l Z (⟨"com/example/bytewright/bytewright/ClassFileVersion", "isSupported", "()Z"⟩ : MethodName) prog_21_method_2_code 1 (some .boolean) [] ({ frames := 0, cells := 0, slots := 0, locals := 0 } : Room) 0 0 #[(.ref a)] h0 (fun v h L => v = some (.int (own_sup mj mn)) ∧ Fr n0 L ∧ h = h0) := by
  refine ctr_of (plainFor_of_name pn1) ?_
  intro p e s m below meth jc s₁ hx hby hml hret hlk hnm hown hZ e0 X0
  have N0 := Fr.nil n0
  refine Dn.cast (ef4 m a) ?_
  show Dn p e below s _ _ _ (s₁.setTop (mkF m 0 #[.val (.ref a)] []))
  refine Dn.of (fun tt_ zz_ => XS.aloadN X0.here hx rfl (hb hby d4_0) rfl rfl zz_) ?_
  show Dn p e below s _ _ _ (s₁.setTop (mkF m 1 #[.val (.ref a)] [(.ref a)]))
  obtain ⟨T5, X5, e5, st5⟩ := getF X0 hx hZ hown (host := "") (Or.inl (hw _ (List.mem_of_getElem? (i := 16) rfl))) Via.refl e0 F1 (g := (mkF m 1 #[.val (.ref a)] [(.ref a)])) rfl rfl (hb hby d4_1)
  refine Dn.of st5 ?_
  show Dn p e below s _ _ _ (T5.setTop (mkF m 4 #[.val (.ref a)] [(.int mj)]))
  obtain ⟨T6, X6, e6, st6⟩ := getS2 X5 hx hZ hown (host := "") (Or.inl (hw _ (List.mem_of_getElem? (i := 25) rfl))) Via.refl e5 SO (g := (mkF m 4 #[.val (.ref a)] [(.int mj)])) rfl (hb hby d4_4)
  refine Dn.of st6 ?_
  show Dn p e below s _ _ _ (T6.setTop (mkF m 7 #[.val (.ref a)] [(.ref aO), (.int mj)]))
  obtain ⟨T7, X7, e7, st7⟩ := getF X6 hx hZ hown (host := "") (Or.inl (hw _ (List.mem_of_getElem? (i := 16) rfl))) Via.refl e6 FO (g := (mkF m 7 #[.val (.ref a)] [(.ref aO), (.int mj)])) rfl rfl (hb hby d4_7)
  refine Dn.of st7 ?_
  show Dn p e below s _ _ _ (T7.setTop (mkF m 10 #[.val (.ref a)] [(.int (45 : Int32)), (.int mj)]))
  by_cases h1 : mj < (45 : Int32)
  · skip
    refine Dn.of (fun tt_ zz_ => XS.icmpYes X7.here hx rfl (pc0 := 10) (pc' := 26) rfl (hb hby d4_10) rfl (tlt h1).1 (by decide) (by decide) zz_) ?_
    show Dn p e below s _ _ _ (T7.setTop (mkF m 26 #[.val (.ref a)] []))
    refine Dn.of (fun tt_ zz_ => XS.iconst X7.here hx rfl (hb hby d4_26) zz_) ?_
    show Dn p e below s _ _ _ (T7.setTop (mkF m 27 #[.val (.ref a)] [(.int (0 : Int32))]))
    exact Dn.retN X7 hx hlk (t := .boolean) hret (by simp) (hb hby d4_27) (by decide) (by decide) (⟨by rw [show own_sup mj mn = 0 by simp [own_sup, h1]]; rfl, N0, e7⟩)
  · skip
    refine Dn.of (fun tt_ zz_ => XS.icmpNo X7.here hx rfl (hb hby d4_10) rfl (flt h1).1 zz_) ?_
    show Dn p e below s _ _ _ (T7.setTop (mkF m 13 #[.val (.ref a)] []))
    refine Dn.of (fun tt_ zz_ => XS.aloadN X7.here hx rfl (hb hby d4_13) rfl rfl zz_) ?_
    show Dn p e below s _ _ _ (T7.setTop (mkF m 14 #[.val (.ref a)] [(.ref a)]))
    obtain ⟨T8, X8, e8, st8⟩ := getF X7 hx hZ hown (host := "") (Or.inl (hw _ (List.mem_of_getElem? (i := 16) rfl))) Via.refl e7 F1 (g := (mkF m 14 #[.val (.ref a)] [(.ref a)])) rfl rfl (hb hby d4_14)
    refine Dn.of st8 ?_
    show Dn p e below s _ _ _ (T8.setTop (mkF m 17 #[.val (.ref a)] [(.int mj)]))
    obtain ⟨T9, X9, e9, st9⟩ := getS2 X8 hx hZ hown (host := "") (Or.inl (hw _ (List.mem_of_getElem? (i := 29) rfl))) Via.refl e8 SN (g := (mkF m 17 #[.val (.ref a)] [(.int mj)])) rfl (hb hby d4_17)
    refine Dn.of st9 ?_
    show Dn p e below s _ _ _ (T9.setTop (mkF m 20 #[.val (.ref a)] [(.ref aN), (.int mj)]))
    obtain ⟨T10, X10, e10, st10⟩ := getF X9 hx hZ hown (host := "") (Or.inl (hw _ (List.mem_of_getElem? (i := 16) rfl))) Via.refl e9 FN (g := (mkF m 20 #[.val (.ref a)] [(.ref aN), (.int mj)])) rfl rfl (hb hby d4_20)
    refine Dn.of st10 ?_
    show Dn p e below s _ _ _ (T10.setTop (mkF m 23 #[.val (.ref a)] [(.int (69 : Int32)), (.int mj)]))
    by_cases h2 : (69 : Int32) < mj
    · skip
      refine Dn.of (fun tt_ zz_ => XS.icmpNo X10.here hx rfl (hb hby d4_23) rfl (tlt h2).2.2.2 zz_) ?_
      show Dn p e below s _ _ _ (T10.setTop (mkF m 26 #[.val (.ref a)] []))
      refine Dn.of (fun tt_ zz_ => XS.iconst X10.here hx rfl (hb hby d4_26) zz_) ?_
      show Dn p e below s _ _ _ (T10.setTop (mkF m 27 #[.val (.ref a)] [(.int (0 : Int32))]))
      exact Dn.retN X10 hx hlk (t := .boolean) hret (by simp) (hb hby d4_27) (by decide) (by decide) (⟨by rw [show own_sup mj mn = 0 by simp [own_sup, h1, h2]]; rfl, N0, e10⟩)
    · skip
      refine Dn.of (fun tt_ zz_ => XS.icmpYes X10.here hx rfl (pc0 := 23) (pc' := 28) rfl (hb hby d4_23) rfl (flt h2).2.2.2 (by decide) (by decide) zz_) ?_
      show Dn p e below s _ _ _ (T10.setTop (mkF m 28 #[.val (.ref a)] []))
      refine Dn.of (fun tt_ zz_ => XS.aloadN X10.here hx rfl (hb hby d4_28) rfl rfl zz_) ?_
      show Dn p e below s _ _ _ (T10.setTop (mkF m 29 #[.val (.ref a)] [(.ref a)]))
      obtain ⟨T11, X11, e11, st11⟩ := getF X10 hx hZ hown (host := "") (Or.inl (hw _ (List.mem_of_getElem? (i := 16) rfl))) Via.refl e10 F1 (g := (mkF m 29 #[.val (.ref a)] [(.ref a)])) rfl rfl (hb hby d4_29)
      refine Dn.of st11 ?_
      show Dn p e below s _ _ _ (T11.setTop (mkF m 32 #[.val (.ref a)] [(.int mj)]))
      refine Dn.of (fun tt_ zz_ => XS.bipush X11.here hx rfl (hb hby d4_32) zz_) ?_
      show Dn p e below s _ _ _ (T11.setTop (mkF m 34 #[.val (.ref a)] [(.int (56 : Int32)), (.int mj)]))
      by_cases h3 : mj < (56 : Int32)
      · skip
        refine Dn.of (fun tt_ zz_ => XS.icmpYes X11.here hx rfl (pc0 := 34) (pc' := 53) rfl (hb hby d4_34) rfl (tlt h3).1 (by decide) (by decide) zz_) ?_
        show Dn p e below s _ _ _ (T11.setTop (mkF m 53 #[.val (.ref a)] []))
        have h3' := (own_56 mj).mp h3
        refine Dn.of (fun tt_ zz_ => XS.iconst X11.here hx rfl (hb hby d4_53) zz_) ?_
        show Dn p e below s _ _ _ (T11.setTop (mkF m 54 #[.val (.ref a)] [(.int (1 : Int32))]))
        refine Dn.of (fun tt_ zz_ => XS.goto X11.here hx rfl (pc0 := 54) (pc' := 58) rfl (hb hby d4_54) (by decide) (by decide) zz_) ?_
        show Dn p e below s _ _ _ (T11.setTop (mkF m 58 #[.val (.ref a)] [(.int (1 : Int32))]))
        exact Dn.retN X11 hx hlk (t := .boolean) hret (by simp) (hb hby d4_58) (by decide) (by decide) (⟨by rw [show own_sup mj mn = 1 by simp [own_sup, h1, h2, h3']]; rfl, N0, e11⟩)
      · skip
        refine Dn.of (fun tt_ zz_ => XS.icmpNo X11.here hx rfl (hb hby d4_34) rfl (flt h3).1 zz_) ?_
        show Dn p e below s _ _ _ (T11.setTop (mkF m 37 #[.val (.ref a)] []))
        have h3' : 55 < mj := Decidable.byContradiction fun q => h3 ((own_56 mj).mpr q)
        refine Dn.of (fun tt_ zz_ => XS.aloadN X11.here hx rfl (hb hby d4_37) rfl rfl zz_) ?_
        show Dn p e below s _ _ _ (T11.setTop (mkF m 38 #[.val (.ref a)] [(.ref a)]))
        obtain ⟨T12, X12, e12, st12⟩ := getF X11 hx hZ hown (host := "") (Or.inl (hw _ (List.mem_of_getElem? (i := 18) rfl))) Via.refl e11 F2 (g := (mkF m 38 #[.val (.ref a)] [(.ref a)])) rfl rfl (hb hby d4_38)
        refine Dn.of st12 ?_
        show Dn p e below s _ _ _ (T12.setTop (mkF m 41 #[.val (.ref a)] [(.int mn)]))
        by_cases h4 : mn = (0 : Int32)
        · skip
          refine Dn.of (fun tt_ zz_ => XS.ifYes X12.here hx rfl (pc0 := 41) (pc' := 53) rfl (hb hby d4_41) rfl ((if0 _ _).trans (teq h4).1) (by decide) (by decide) zz_) ?_
          show Dn p e below s _ _ _ (T12.setTop (mkF m 53 #[.val (.ref a)] []))
          refine Dn.of (fun tt_ zz_ => XS.iconst X12.here hx rfl (hb hby d4_53) zz_) ?_
          show Dn p e below s _ _ _ (T12.setTop (mkF m 54 #[.val (.ref a)] [(.int (1 : Int32))]))
          refine Dn.of (fun tt_ zz_ => XS.goto X12.here hx rfl (pc0 := 54) (pc' := 58) rfl (hb hby d4_54) (by decide) (by decide) zz_) ?_
          show Dn p e below s _ _ _ (T12.setTop (mkF m 58 #[.val (.ref a)] [(.int (1 : Int32))]))
          exact Dn.retN X12 hx hlk (t := .boolean) hret (by simp) (hb hby d4_58) (by decide) (by decide) (⟨by rw [show own_sup mj mn = 1 by simp [own_sup, h1, h2, h3', h4]]; rfl, N0, e12⟩)
        · skip
          refine Dn.of (fun tt_ zz_ => XS.ifNo X12.here hx rfl (hb hby d4_41) rfl ((if0 _ _).trans (feq h4).1) zz_) ?_
          show Dn p e below s _ _ _ (T12.setTop (mkF m 44 #[.val (.ref a)] []))
          refine Dn.of (fun tt_ zz_ => XS.aloadN X12.here hx rfl (hb hby d4_44) rfl rfl zz_) ?_
          show Dn p e below s _ _ _ (T12.setTop (mkF m 45 #[.val (.ref a)] [(.ref a)]))
          obtain ⟨T13, X13, e13, st13⟩ := getF X12 hx hZ hown (host := "") (Or.inl (hw _ (List.mem_of_getElem? (i := 18) rfl))) Via.refl e12 F2 (g := (mkF m 45 #[.val (.ref a)] [(.ref a)])) rfl rfl (hb hby d4_45)
          refine Dn.of st13 ?_
          show Dn p e below s _ _ _ (T13.setTop (mkF m 48 #[.val (.ref a)] [(.int mn)]))
          refine Dn.of (fun tt_ zz_ => X13.ldcI hx hown (mvT hZ (hw _ (List.mem_of_getElem? (i := 15) rfl))) rfl (hb hby d4_48) zz_) ?_
          show Dn p e below s _ _ _ (T13.setTop (mkF m 50 #[.val (.ref a)] [(.int (65535 : Int32)), (.int mn)]))
          by_cases h5 : mn = (65535 : Int32)
          · skip
            refine Dn.of (fun tt_ zz_ => XS.icmpNo X13.here hx rfl (hb hby d4_50) rfl (teq h5).2 zz_) ?_
            show Dn p e below s _ _ _ (T13.setTop (mkF m 53 #[.val (.ref a)] []))
            refine Dn.of (fun tt_ zz_ => XS.iconst X13.here hx rfl (hb hby d4_53) zz_) ?_
            show Dn p e below s _ _ _ (T13.setTop (mkF m 54 #[.val (.ref a)] [(.int (1 : Int32))]))
            refine Dn.of (fun tt_ zz_ => XS.goto X13.here hx rfl (pc0 := 54) (pc' := 58) rfl (hb hby d4_54) (by decide) (by decide) zz_) ?_
            show Dn p e below s _ _ _ (T13.setTop (mkF m 58 #[.val (.ref a)] [(.int (1 : Int32))]))
            exact Dn.retN X13 hx hlk (t := .boolean) hret (by simp) (hb hby d4_58) (by decide) (by decide) (⟨by rw [show own_sup mj mn = 1 by simp [own_sup, h1, h2, h3', h4, h5]]; rfl, N0, e13⟩)
          · skip
            refine Dn.of (fun tt_ zz_ => XS.icmpYes X13.here hx rfl (pc0 := 50) (pc' := 57) rfl (hb hby d4_50) rfl (feq h5).2 (by decide) (by decide) zz_) ?_
            show Dn p e below s _ _ _ (T13.setTop (mkF m 57 #[.val (.ref a)] []))
            refine Dn.of (fun tt_ zz_ => XS.iconst X13.here hx rfl (hb hby d4_57) zz_) ?_
            show Dn p e below s _ _ _ (T13.setTop (mkF m 58 #[.val (.ref a)] [(.int (0 : Int32))]))
            exact Dn.retN X13 hx hlk (t := .boolean) hret (by simp) (hb hby d4_58) (by decide) (by decide) (⟨by rw [show own_sup mj mn = 0 by simp [own_sup, h1, h2, h3', h4, h5]]; rfl, N0, e13⟩)
def own_Q (n0 : Nat) (v : Option Value) (h : Heap) (L : List Loc) : Prop := v = some (.int 1) ∧ Fr n0 L
theorem ef0 (m : MethodId) (x0 : Int32) (x1 : Int32) (x2 : Int32) : entryFrame m #[(.int x0), (.int x1), (.int x2)] maxLocals = mkF m 0 #[.val (.int x0), .val (.int x1), .val (.int x2), .unset, .unset, .unset, .unset, .unset, .unset, .unset] [] := by first | (simp [entryFrame, mkF, argsToLocals, Value.category, maxLocals]; done) | rfl
set_option maxRecDepth 65536 in
set_option maxHeartbeats 40000000 in
theorem rm0 (l : Launch) (Z : State) (a0 : Array Value) (hw : ∀ d ∈ tables_1, d.before a0 Z = true) (ws : List Jvm.Cond) (h0 : Heap) (n0 : Nat) (Z0 : n0 ≤ h0.size) (i0 i1 i2 : Int32) (aO aN : Addr) (SO : Sta Z h0 "com/example/bytewright/bytewright/ClassFileVersion" "OLDEST" "Lcom/example/bytewright/bytewright/ClassFileVersion;" (.ref aO)) (SN : Sta Z h0 "com/example/bytewright/bytewright/ClassFileVersion" "NEWEST" "Lcom/example/bytewright/bytewright/ClassFileVersion;" (.ref aN)) (FO : Fld Z h0 aO "com/example/bytewright/bytewright/ClassFileVersion" "major" "I" (.int 45)) (FN : Fld Z h0 aN "com/example/bytewright/bytewright/ClassFileVersion" "major" "I" (.int 69)) :
    ctr l Z x code maxLocals ret ws room_1 16 128 #[(.int i0), (.int i1), (.int i2)] h0 (own_Q n0) := by
  refine ctr_of (plainFor_of_name pn2) ?_
  intro p e s m below meth jc s₁ hx hby hml hret hlk hnm hown hZ e0 X0
  have N0 := Fr.nil n0
  refine Dn.cast (ef0 m i0 i1 i2) ?_
  show Dn p e below s _ _ _ (s₁.setTop (mkF m 0 #[.val (.int i0), .val (.int i1), .val (.int i2), .unset, .unset, .unset, .unset, .unset, .unset, .unset] []))
  have K81 : ∀ mj sel mn : Int32, ¬ mj < 0 → ¬ 65535 < mj → ¬ mn < 0 → ¬ 65535 < mn → Dn p e below s (own_Q n0) 16 128 (s₁.setTop (mkF m 81 #[.val (.int i0), .val (.int i1), .val (.int i2), .val (.int mj), .val (.int sel), .val (.int mn), .unset, .unset, .unset, .unset] [])) := by
    intro mj sel mn c1 c2 c3 c4
    obtain ⟨T14, h14, X14, e14, E14, A14, D14, U14, st14⟩ := newO X0 hx hZ hown (hw _ (List.mem_of_getElem? (i := 1) rfl)) (hw _ (List.mem_of_getElem? (i := 2) rfl)) (hw _ (List.mem_of_getElem? (i := 3) rfl)) e0 (g := (mkF m 81 #[.val (.int i0), .val (.int i1), .val (.int i2), .val (.int mj), .val (.int sel), .val (.int mn), .unset, .unset, .unset, .unset] [])) rfl (hb hby at_81) (by decide) (by decide)
    obtain ⟨b14, g14⟩ : ∃ z, z = h0.size := ⟨_, rfl⟩
    rw [← g14] at A14 D14 U14 st14
    refine Dn.of st14 ?_
    show Dn p e below s (own_Q n0) 16 128 (T14.setTop (mkF m 84 #[.val (.int i0), .val (.int i1), .val (.int i2), .val (.int mj), .val (.int sel), .val (.int mn), .unset, .unset, .unset, .unset] [(.ref b14)]))
    refine Dn.of (fun tt_ zz_ => XS.dup X14.here hx rfl (hb hby at_84) rfl rfl zz_) ?_
    show Dn p e below s (own_Q n0) 16 128 (T14.setTop (mkF m 85 #[.val (.int i0), .val (.int i1), .val (.int i2), .val (.int mj), .val (.int sel), .val (.int mn), .unset, .unset, .unset, .unset] [(.ref b14), (.ref b14)]))
    refine Dn.of (fun tt_ zz_ => XS.iloadN X14.here hx rfl (hb hby at_85) rfl zz_) ?_
    show Dn p e below s (own_Q n0) 16 128 (T14.setTop (mkF m 86 #[.val (.int i0), .val (.int i1), .val (.int i2), .val (.int mj), .val (.int sel), .val (.int mn), .unset, .unset, .unset, .unset] [(.int mj), (.ref b14), (.ref b14)]))
    refine Dn.of (fun tt_ zz_ => XS.iload X14.here hx rfl (hb hby at_86) rfl zz_) ?_
    show Dn p e below s (own_Q n0) 16 128 (T14.setTop (mkF m 88 #[.val (.int i0), .val (.int i1), .val (.int i2), .val (.int mj), .val (.int sel), .val (.int mn), .unset, .unset, .unset, .unset] [(.int mn), (.int mj), (.ref b14), (.ref b14)]))
    have F_major_14 : Fld Z h14 b14 "com/example/bytewright/bytewright/ClassFileVersion" "major" "I" (.int (0 : Int32)) := D14 (Or.inr (hw _ (List.mem_of_getElem? (i := 17) rfl))) (ty := .int) (by decide)
    have F_minor_14 : Fld Z h14 b14 "com/example/bytewright/bytewright/ClassFileVersion" "minor" "I" (.int (0 : Int32)) := D14 (Or.inr (hw _ (List.mem_of_getElem? (i := 19) rfl))) (ty := .int) (by decide)
    have Z1 : n0 ≤ h14.size := Nat.le_trans Z0 E14.1
    have gb : n0 ≤ b14 := g14 ▸ Z0
    obtain ⟨v15, T15, L15, Q15, X15, st15⟩ := cIn X14 hx hZ (y := (⟨"com/example/bytewright/bytewright/ClassFileVersion", "<init>", "(II)V"⟩ : MethodName)) rfl hown (hw _ (List.mem_of_getElem? (i := 4) rfl)) (hw _ (List.mem_of_getElem? (i := 5) rfl)) (hw _ (List.mem_of_getElem? (i := 3) rfl)) (hw _ (List.mem_of_getElem? (i := 6) rfl)) (by decide) (a := b14) (argsL := [(.int mj), (.int mn)]) (rest := [(.ref b14)]) (rm1 l Z a0 hw h14 n0 Z1 b14 mj mn A14 F_major_14 F_minor_14 gb c1 c2 c3 c4) e14  1 (by decide) (by decide) (by decide) (by decide) (g := (mkF m 88 #[.val (.int i0), .val (.int i1), .val (.int i2), .val (.int mj), .val (.int sel), .val (.int mn), .unset, .unset, .unset, .unset] [(.int mn), (.int mj), (.ref b14), (.ref b14)])) rfl (by rw [hml]; rfl) (lenOf pd1 rfl) rfl (by show 2 * 0 + _ ≤ _; exact Nat.le_of_eq rfl) (hb hby at_88)
    obtain ⟨rfl, M1, K1, A1, G1, G2⟩ := Q15
    refine Dn.of st15 ?_
    show Dn p e below s (own_Q n0) 16 128 (T15.setTop (mkF m 91 #[.val (.int i0), .val (.int i1), .val (.int i2), .val (.int mj), .val (.int sel), .val (.int mn), .unset, .unset, .unset, .unset] [(.ref b14)]))
    refine Dn.of (fun tt_ zz_ => XS.astore X15.here hx rfl (hb hby at_91) rfl rfl (l' := #[.val (.int i0), .val (.int i1), .val (.int i2), .val (.int mj), .val (.int sel), .val (.int mn), .val (.ref b14), .unset, .unset, .unset]) rfl zz_) ?_
    show Dn p e below s (own_Q n0) 16 128 (T15.setTop (mkF m 93 #[.val (.int i0), .val (.int i1), .val (.int i2), .val (.int mj), .val (.int sel), .val (.int mn), .val (.ref b14), .unset, .unset, .unset] []))
    have nO : aO ∉ [b14] := by intro q; cases List.mem_singleton.mp q; exact absurd FO.lt (by rw [g14]; exact Nat.lt_irrefl _)
    have nN : aN ∉ [b14] := by intro q; cases List.mem_singleton.mp q; exact absurd FN.lt (by rw [g14]; exact Nat.lt_irrefl _)
    have FO' := (FO.ext E14).keep K1 nO
    have FN' := (FN.ext E14).keep K1 nN
    have SO' := (SO.ext E14).keep K1 (own_ns A14)
    have SN' := (SN.ext E14).keep K1 (own_ns A14)
    have K9 : ∀ j7 j8 ex : Int32, ex = own_sup mj mn → Dn p e below s (own_Q n0) 16 128 (T15.setTop (mkF m 154 #[.val (.int i0), .val (.int i1), .val (.int i2), .val (.int mj), .val (.int sel), .val (.int mn), .val (.ref b14), .val (.int j7), .val (.int j8), .val (.int ex)] [])) := by
      intro j7 j8 ex hex
      refine Dn.of (fun tt_ zz_ => XS.aload X15.here hx rfl (hb hby at_154) rfl rfl zz_) ?_
      show Dn p e below s (own_Q n0) 16 128 (T15.setTop (mkF m 156 #[.val (.int i0), .val (.int i1), .val (.int i2), .val (.int mj), .val (.int sel), .val (.int mn), .val (.ref b14), .val (.int j7), .val (.int j8), .val (.int ex)] [(.ref b14)]))
      obtain ⟨v16, T16, L16, Q16, X16, st16⟩ := cVi X15 hx hZ (C := "com/example/bytewright/bytewright/ClassFileVersion") (y := (⟨"com/example/bytewright/bytewright/ClassFileVersion", "isSupported", "()Z"⟩ : MethodName)) (z := (⟨"com/example/bytewright/bytewright/ClassFileVersion", "isSupported", "()Z"⟩ : MethodName)) hown (hw _ (List.mem_of_getElem? (i := 20) rfl)) (hw _ (List.mem_of_getElem? (i := 21) rfl)) (notFace_of_selects (args := #[]) (mvT hZ (hw _ (List.mem_of_getElem? (i := 23) rfl)))) (hw _ (List.mem_of_getElem? (i := 23) rfl)) (hw _ (List.mem_of_getElem? (i := 22) rfl)) (hw _ (List.mem_of_getElem? (i := 3) rfl)) (hw _ (List.mem_of_getElem? (i := 24) rfl)) (by decide) (a := b14) (argsL := []) (rest := []) (rm4 l Z a0 hw T15.heap n0 (Nat.le_trans Z1 K1.1) b14 aO aN mj mn G1 G2 SO' SN' FO' FN') rfl A1 0 (by decide) (by decide) (by decide) (by decide) (g := (mkF m 156 #[.val (.int i0), .val (.int i1), .val (.int i2), .val (.int mj), .val (.int sel), .val (.int mn), .val (.ref b14), .val (.int j7), .val (.int j8), .val (.int ex)] [(.ref b14)])) rfl (by rw [hml]; rfl) (lenOf pd2 rfl) rfl (by show 2 * 0 + _ ≤ _; exact Nat.le_of_eq rfl) (hb hby at_156)
      obtain ⟨rfl, M2, e16⟩ := Q16
      refine Dn.of st16 ?_
      show Dn p e below s (own_Q n0) 16 128 (T16.setTop (mkF m 159 #[.val (.int i0), .val (.int i1), .val (.int i2), .val (.int mj), .val (.int sel), .val (.int mn), .val (.ref b14), .val (.int j7), .val (.int j8), .val (.int ex)] [(.int (own_sup mj mn))]))
      refine Dn.of (fun tt_ zz_ => XS.iload X16.here hx rfl (hb hby at_159) rfl zz_) ?_
      show Dn p e below s (own_Q n0) 16 128 (T16.setTop (mkF m 161 #[.val (.int i0), .val (.int i1), .val (.int i2), .val (.int mj), .val (.int sel), .val (.int mn), .val (.ref b14), .val (.int j7), .val (.int j8), .val (.int ex)] [(.int ex), (.int (own_sup mj mn))]))
      refine Dn.of (fun tt_ zz_ => XS.icmpNo X16.here hx rfl (hb hby at_161) rfl (teq hex.symm).2 zz_) ?_
      show Dn p e below s (own_Q n0) 16 128 (T16.setTop (mkF m 164 #[.val (.int i0), .val (.int i1), .val (.int i2), .val (.int mj), .val (.int sel), .val (.int mn), .val (.ref b14), .val (.int j7), .val (.int j8), .val (.int ex)] []))
      refine Dn.of (fun tt_ zz_ => XS.iconst X16.here hx rfl (hb hby at_164) zz_) ?_
      show Dn p e below s (own_Q n0) 16 128 (T16.setTop (mkF m 165 #[.val (.int i0), .val (.int i1), .val (.int i2), .val (.int mj), .val (.int sel), .val (.int mn), .val (.ref b14), .val (.int j7), .val (.int j8), .val (.int ex)] [(.int (1 : Int32))]))
      refine Dn.of (fun tt_ zz_ => XS.goto X16.here hx rfl (pc0 := 165) (pc' := 169) rfl (hb hby at_165) (by decide) (by decide) zz_) ?_
      show Dn p e below s (own_Q n0) 16 128 (T16.setTop (mkF m 169 #[.val (.int i0), .val (.int i1), .val (.int i2), .val (.int mj), .val (.int sel), .val (.int mn), .val (.ref b14), .val (.int j7), .val (.int j8), .val (.int ex)] [(.int (1 : Int32))]))
      exact Dn.retN X16 hx hlk (t := .boolean) hret (by simp) (hb hby at_169) (by decide) (by decide) (⟨rfl, Fr.app (Fr.app N0 M1) M2⟩)
    refine Dn.of (fun tt_ zz_ => XS.iloadN X15.here hx rfl (hb hby at_93) rfl zz_) ?_
    show Dn p e below s (own_Q n0) 16 128 (T15.setTop (mkF m 94 #[.val (.int i0), .val (.int i1), .val (.int i2), .val (.int mj), .val (.int sel), .val (.int mn), .val (.ref b14), .unset, .unset, .unset] [(.int mj)]))
    refine Dn.of (fun tt_ zz_ => XS.bipush X15.here hx rfl (hb hby at_94) zz_) ?_
    show Dn p e below s (own_Q n0) 16 128 (T15.setTop (mkF m 96 #[.val (.int i0), .val (.int i1), .val (.int i2), .val (.int mj), .val (.int sel), .val (.int mn), .val (.ref b14), .unset, .unset, .unset] [(.int (45 : Int32)), (.int mj)]))
    by_cases h1 : mj < (45 : Int32)
    · skip
      refine Dn.of (fun tt_ zz_ => XS.icmpYes X15.here hx rfl (pc0 := 96) (pc' := 109) rfl (hb hby at_96) rfl (tlt h1).1 (by decide) (by decide) zz_) ?_
      show Dn p e below s (own_Q n0) 16 128 (T15.setTop (mkF m 109 #[.val (.int i0), .val (.int i1), .val (.int i2), .val (.int mj), .val (.int sel), .val (.int mn), .val (.ref b14), .unset, .unset, .unset] []))
      refine Dn.of (fun tt_ zz_ => XS.iconst X15.here hx rfl (hb hby at_109) zz_) ?_
      show Dn p e below s (own_Q n0) 16 128 (T15.setTop (mkF m 110 #[.val (.int i0), .val (.int i1), .val (.int i2), .val (.int mj), .val (.int sel), .val (.int mn), .val (.ref b14), .unset, .unset, .unset] [(.int (0 : Int32))]))
      refine Dn.of (fun tt_ zz_ => XS.istore X15.here hx rfl (hb hby at_110) rfl (l' := #[.val (.int i0), .val (.int i1), .val (.int i2), .val (.int mj), .val (.int sel), .val (.int mn), .val (.ref b14), .val (.int (0 : Int32)), .unset, .unset]) rfl zz_) ?_
      show Dn p e below s (own_Q n0) 16 128 (T15.setTop (mkF m 112 #[.val (.int i0), .val (.int i1), .val (.int i2), .val (.int mj), .val (.int sel), .val (.int mn), .val (.ref b14), .val (.int (0 : Int32)), .unset, .unset] []))
      refine Dn.of (fun tt_ zz_ => XS.iloadN X15.here hx rfl (hb hby at_112) rfl zz_) ?_
      show Dn p e below s (own_Q n0) 16 128 (T15.setTop (mkF m 113 #[.val (.int i0), .val (.int i1), .val (.int i2), .val (.int mj), .val (.int sel), .val (.int mn), .val (.ref b14), .val (.int (0 : Int32)), .unset, .unset] [(.int mj)]))
      refine Dn.of (fun tt_ zz_ => XS.bipush X15.here hx rfl (hb hby at_113) zz_) ?_
      show Dn p e below s (own_Q n0) 16 128 (T15.setTop (mkF m 115 #[.val (.int i0), .val (.int i1), .val (.int i2), .val (.int mj), .val (.int sel), .val (.int mn), .val (.ref b14), .val (.int (0 : Int32)), .unset, .unset] [(.int (55 : Int32)), (.int mj)]))
      by_cases h3 : (55 : Int32) < mj
      · skip
        refine Dn.of (fun tt_ zz_ => XS.icmpNo X15.here hx rfl (hb hby at_115) rfl (tlt h3).2.2.2 zz_) ?_
        show Dn p e below s (own_Q n0) 16 128 (T15.setTop (mkF m 118 #[.val (.int i0), .val (.int i1), .val (.int i2), .val (.int mj), .val (.int sel), .val (.int mn), .val (.ref b14), .val (.int (0 : Int32)), .unset, .unset] []))
        refine Dn.of (fun tt_ zz_ => XS.iload X15.here hx rfl (hb hby at_118) rfl zz_) ?_
        show Dn p e below s (own_Q n0) 16 128 (T15.setTop (mkF m 120 #[.val (.int i0), .val (.int i1), .val (.int i2), .val (.int mj), .val (.int sel), .val (.int mn), .val (.ref b14), .val (.int (0 : Int32)), .unset, .unset] [(.int mn)]))
        by_cases h4 : mn = (0 : Int32)
        · skip
          refine Dn.of (fun tt_ zz_ => XS.ifYes X15.here hx rfl (pc0 := 120) (pc' := 130) rfl (hb hby at_120) rfl ((if0 _ _).trans (teq h4).1) (by decide) (by decide) zz_) ?_
          show Dn p e below s (own_Q n0) 16 128 (T15.setTop (mkF m 130 #[.val (.int i0), .val (.int i1), .val (.int i2), .val (.int mj), .val (.int sel), .val (.int mn), .val (.ref b14), .val (.int (0 : Int32)), .unset, .unset] []))
          refine Dn.of (fun tt_ zz_ => XS.iconst X15.here hx rfl (hb hby at_130) zz_) ?_
          show Dn p e below s (own_Q n0) 16 128 (T15.setTop (mkF m 131 #[.val (.int i0), .val (.int i1), .val (.int i2), .val (.int mj), .val (.int sel), .val (.int mn), .val (.ref b14), .val (.int (0 : Int32)), .unset, .unset] [(.int (1 : Int32))]))
          refine Dn.of (fun tt_ zz_ => XS.goto X15.here hx rfl (pc0 := 131) (pc' := 135) rfl (hb hby at_131) (by decide) (by decide) zz_) ?_
          show Dn p e below s (own_Q n0) 16 128 (T15.setTop (mkF m 135 #[.val (.int i0), .val (.int i1), .val (.int i2), .val (.int mj), .val (.int sel), .val (.int mn), .val (.ref b14), .val (.int (0 : Int32)), .unset, .unset] [(.int (1 : Int32))]))
          refine Dn.of (fun tt_ zz_ => XS.istore X15.here hx rfl (hb hby at_135) rfl (l' := #[.val (.int i0), .val (.int i1), .val (.int i2), .val (.int mj), .val (.int sel), .val (.int mn), .val (.ref b14), .val (.int (0 : Int32)), .val (.int (1 : Int32)), .unset]) rfl zz_) ?_
          show Dn p e below s (own_Q n0) 16 128 (T15.setTop (mkF m 137 #[.val (.int i0), .val (.int i1), .val (.int i2), .val (.int mj), .val (.int sel), .val (.int mn), .val (.ref b14), .val (.int (0 : Int32)), .val (.int (1 : Int32)), .unset] []))
          refine Dn.of (fun tt_ zz_ => XS.iload X15.here hx rfl (hb hby at_137) rfl zz_) ?_
          show Dn p e below s (own_Q n0) 16 128 (T15.setTop (mkF m 139 #[.val (.int i0), .val (.int i1), .val (.int i2), .val (.int mj), .val (.int sel), .val (.int mn), .val (.ref b14), .val (.int (0 : Int32)), .val (.int (1 : Int32)), .unset] [(.int (0 : Int32))]))
          refine Dn.of (fun tt_ zz_ => XS.ifYes X15.here hx rfl (pc0 := 139) (pc' := 151) rfl (hb hby at_139) rfl ((if0 _ _).trans (teq rfl).1) (by decide) (by decide) zz_) ?_
          show Dn p e below s (own_Q n0) 16 128 (T15.setTop (mkF m 151 #[.val (.int i0), .val (.int i1), .val (.int i2), .val (.int mj), .val (.int sel), .val (.int mn), .val (.ref b14), .val (.int (0 : Int32)), .val (.int (1 : Int32)), .unset] []))
          refine Dn.of (fun tt_ zz_ => XS.iconst X15.here hx rfl (hb hby at_151) zz_) ?_
          show Dn p e below s (own_Q n0) 16 128 (T15.setTop (mkF m 152 #[.val (.int i0), .val (.int i1), .val (.int i2), .val (.int mj), .val (.int sel), .val (.int mn), .val (.ref b14), .val (.int (0 : Int32)), .val (.int (1 : Int32)), .unset] [(.int (0 : Int32))]))
          refine Dn.of (fun tt_ zz_ => XS.istore X15.here hx rfl (hb hby at_152) rfl (l' := #[.val (.int i0), .val (.int i1), .val (.int i2), .val (.int mj), .val (.int sel), .val (.int mn), .val (.ref b14), .val (.int (0 : Int32)), .val (.int (1 : Int32)), .val (.int (0 : Int32))]) rfl zz_) ?_
          show Dn p e below s (own_Q n0) 16 128 (T15.setTop (mkF m 154 #[.val (.int i0), .val (.int i1), .val (.int i2), .val (.int mj), .val (.int sel), .val (.int mn), .val (.ref b14), .val (.int (0 : Int32)), .val (.int (1 : Int32)), .val (.int (0 : Int32))] []))
          exact K9 (0 : Int32) (1 : Int32) (0 : Int32) (by simp [own_sup, h1, h3, h4])
        · skip
          refine Dn.of (fun tt_ zz_ => XS.ifNo X15.here hx rfl (hb hby at_120) rfl ((if0 _ _).trans (feq h4).1) zz_) ?_
          show Dn p e below s (own_Q n0) 16 128 (T15.setTop (mkF m 123 #[.val (.int i0), .val (.int i1), .val (.int i2), .val (.int mj), .val (.int sel), .val (.int mn), .val (.ref b14), .val (.int (0 : Int32)), .unset, .unset] []))
          refine Dn.of (fun tt_ zz_ => XS.iload X15.here hx rfl (hb hby at_123) rfl zz_) ?_
          show Dn p e below s (own_Q n0) 16 128 (T15.setTop (mkF m 125 #[.val (.int i0), .val (.int i1), .val (.int i2), .val (.int mj), .val (.int sel), .val (.int mn), .val (.ref b14), .val (.int (0 : Int32)), .unset, .unset] [(.int mn)]))
          refine Dn.of (fun tt_ zz_ => X15.ldcI hx hown (mvT hZ (hw _ (List.mem_of_getElem? (i := 27) rfl))) rfl (hb hby at_125) zz_) ?_
          show Dn p e below s (own_Q n0) 16 128 (T15.setTop (mkF m 127 #[.val (.int i0), .val (.int i1), .val (.int i2), .val (.int mj), .val (.int sel), .val (.int mn), .val (.ref b14), .val (.int (0 : Int32)), .unset, .unset] [(.int (65535 : Int32)), (.int mn)]))
          by_cases h5 : mn = (65535 : Int32)
          · skip
            refine Dn.of (fun tt_ zz_ => XS.icmpNo X15.here hx rfl (hb hby at_127) rfl (teq h5).2 zz_) ?_
            show Dn p e below s (own_Q n0) 16 128 (T15.setTop (mkF m 130 #[.val (.int i0), .val (.int i1), .val (.int i2), .val (.int mj), .val (.int sel), .val (.int mn), .val (.ref b14), .val (.int (0 : Int32)), .unset, .unset] []))
            refine Dn.of (fun tt_ zz_ => XS.iconst X15.here hx rfl (hb hby at_130) zz_) ?_
            show Dn p e below s (own_Q n0) 16 128 (T15.setTop (mkF m 131 #[.val (.int i0), .val (.int i1), .val (.int i2), .val (.int mj), .val (.int sel), .val (.int mn), .val (.ref b14), .val (.int (0 : Int32)), .unset, .unset] [(.int (1 : Int32))]))
            refine Dn.of (fun tt_ zz_ => XS.goto X15.here hx rfl (pc0 := 131) (pc' := 135) rfl (hb hby at_131) (by decide) (by decide) zz_) ?_
            show Dn p e below s (own_Q n0) 16 128 (T15.setTop (mkF m 135 #[.val (.int i0), .val (.int i1), .val (.int i2), .val (.int mj), .val (.int sel), .val (.int mn), .val (.ref b14), .val (.int (0 : Int32)), .unset, .unset] [(.int (1 : Int32))]))
            refine Dn.of (fun tt_ zz_ => XS.istore X15.here hx rfl (hb hby at_135) rfl (l' := #[.val (.int i0), .val (.int i1), .val (.int i2), .val (.int mj), .val (.int sel), .val (.int mn), .val (.ref b14), .val (.int (0 : Int32)), .val (.int (1 : Int32)), .unset]) rfl zz_) ?_
            show Dn p e below s (own_Q n0) 16 128 (T15.setTop (mkF m 137 #[.val (.int i0), .val (.int i1), .val (.int i2), .val (.int mj), .val (.int sel), .val (.int mn), .val (.ref b14), .val (.int (0 : Int32)), .val (.int (1 : Int32)), .unset] []))
            refine Dn.of (fun tt_ zz_ => XS.iload X15.here hx rfl (hb hby at_137) rfl zz_) ?_
            show Dn p e below s (own_Q n0) 16 128 (T15.setTop (mkF m 139 #[.val (.int i0), .val (.int i1), .val (.int i2), .val (.int mj), .val (.int sel), .val (.int mn), .val (.ref b14), .val (.int (0 : Int32)), .val (.int (1 : Int32)), .unset] [(.int (0 : Int32))]))
            refine Dn.of (fun tt_ zz_ => XS.ifYes X15.here hx rfl (pc0 := 139) (pc' := 151) rfl (hb hby at_139) rfl ((if0 _ _).trans (teq rfl).1) (by decide) (by decide) zz_) ?_
            show Dn p e below s (own_Q n0) 16 128 (T15.setTop (mkF m 151 #[.val (.int i0), .val (.int i1), .val (.int i2), .val (.int mj), .val (.int sel), .val (.int mn), .val (.ref b14), .val (.int (0 : Int32)), .val (.int (1 : Int32)), .unset] []))
            refine Dn.of (fun tt_ zz_ => XS.iconst X15.here hx rfl (hb hby at_151) zz_) ?_
            show Dn p e below s (own_Q n0) 16 128 (T15.setTop (mkF m 152 #[.val (.int i0), .val (.int i1), .val (.int i2), .val (.int mj), .val (.int sel), .val (.int mn), .val (.ref b14), .val (.int (0 : Int32)), .val (.int (1 : Int32)), .unset] [(.int (0 : Int32))]))
            refine Dn.of (fun tt_ zz_ => XS.istore X15.here hx rfl (hb hby at_152) rfl (l' := #[.val (.int i0), .val (.int i1), .val (.int i2), .val (.int mj), .val (.int sel), .val (.int mn), .val (.ref b14), .val (.int (0 : Int32)), .val (.int (1 : Int32)), .val (.int (0 : Int32))]) rfl zz_) ?_
            show Dn p e below s (own_Q n0) 16 128 (T15.setTop (mkF m 154 #[.val (.int i0), .val (.int i1), .val (.int i2), .val (.int mj), .val (.int sel), .val (.int mn), .val (.ref b14), .val (.int (0 : Int32)), .val (.int (1 : Int32)), .val (.int (0 : Int32))] []))
            exact K9 (0 : Int32) (1 : Int32) (0 : Int32) (by simp [own_sup, h1, h3, h4, h5])
          · skip
            refine Dn.of (fun tt_ zz_ => XS.icmpYes X15.here hx rfl (pc0 := 127) (pc' := 134) rfl (hb hby at_127) rfl (feq h5).2 (by decide) (by decide) zz_) ?_
            show Dn p e below s (own_Q n0) 16 128 (T15.setTop (mkF m 134 #[.val (.int i0), .val (.int i1), .val (.int i2), .val (.int mj), .val (.int sel), .val (.int mn), .val (.ref b14), .val (.int (0 : Int32)), .unset, .unset] []))
            refine Dn.of (fun tt_ zz_ => XS.iconst X15.here hx rfl (hb hby at_134) zz_) ?_
            show Dn p e below s (own_Q n0) 16 128 (T15.setTop (mkF m 135 #[.val (.int i0), .val (.int i1), .val (.int i2), .val (.int mj), .val (.int sel), .val (.int mn), .val (.ref b14), .val (.int (0 : Int32)), .unset, .unset] [(.int (0 : Int32))]))
            refine Dn.of (fun tt_ zz_ => XS.istore X15.here hx rfl (hb hby at_135) rfl (l' := #[.val (.int i0), .val (.int i1), .val (.int i2), .val (.int mj), .val (.int sel), .val (.int mn), .val (.ref b14), .val (.int (0 : Int32)), .val (.int (0 : Int32)), .unset]) rfl zz_) ?_
            show Dn p e below s (own_Q n0) 16 128 (T15.setTop (mkF m 137 #[.val (.int i0), .val (.int i1), .val (.int i2), .val (.int mj), .val (.int sel), .val (.int mn), .val (.ref b14), .val (.int (0 : Int32)), .val (.int (0 : Int32)), .unset] []))
            refine Dn.of (fun tt_ zz_ => XS.iload X15.here hx rfl (hb hby at_137) rfl zz_) ?_
            show Dn p e below s (own_Q n0) 16 128 (T15.setTop (mkF m 139 #[.val (.int i0), .val (.int i1), .val (.int i2), .val (.int mj), .val (.int sel), .val (.int mn), .val (.ref b14), .val (.int (0 : Int32)), .val (.int (0 : Int32)), .unset] [(.int (0 : Int32))]))
            refine Dn.of (fun tt_ zz_ => XS.ifYes X15.here hx rfl (pc0 := 139) (pc' := 151) rfl (hb hby at_139) rfl ((if0 _ _).trans (teq rfl).1) (by decide) (by decide) zz_) ?_
            show Dn p e below s (own_Q n0) 16 128 (T15.setTop (mkF m 151 #[.val (.int i0), .val (.int i1), .val (.int i2), .val (.int mj), .val (.int sel), .val (.int mn), .val (.ref b14), .val (.int (0 : Int32)), .val (.int (0 : Int32)), .unset] []))
            refine Dn.of (fun tt_ zz_ => XS.iconst X15.here hx rfl (hb hby at_151) zz_) ?_
            show Dn p e below s (own_Q n0) 16 128 (T15.setTop (mkF m 152 #[.val (.int i0), .val (.int i1), .val (.int i2), .val (.int mj), .val (.int sel), .val (.int mn), .val (.ref b14), .val (.int (0 : Int32)), .val (.int (0 : Int32)), .unset] [(.int (0 : Int32))]))
            refine Dn.of (fun tt_ zz_ => XS.istore X15.here hx rfl (hb hby at_152) rfl (l' := #[.val (.int i0), .val (.int i1), .val (.int i2), .val (.int mj), .val (.int sel), .val (.int mn), .val (.ref b14), .val (.int (0 : Int32)), .val (.int (0 : Int32)), .val (.int (0 : Int32))]) rfl zz_) ?_
            show Dn p e below s (own_Q n0) 16 128 (T15.setTop (mkF m 154 #[.val (.int i0), .val (.int i1), .val (.int i2), .val (.int mj), .val (.int sel), .val (.int mn), .val (.ref b14), .val (.int (0 : Int32)), .val (.int (0 : Int32)), .val (.int (0 : Int32))] []))
            exact K9 (0 : Int32) (0 : Int32) (0 : Int32) (by simp [own_sup, h1, h3, h4, h5])
      · skip
        refine Dn.of (fun tt_ zz_ => XS.icmpYes X15.here hx rfl (pc0 := 115) (pc' := 130) rfl (hb hby at_115) rfl (flt h3).2.2.2 (by decide) (by decide) zz_) ?_
        show Dn p e below s (own_Q n0) 16 128 (T15.setTop (mkF m 130 #[.val (.int i0), .val (.int i1), .val (.int i2), .val (.int mj), .val (.int sel), .val (.int mn), .val (.ref b14), .val (.int (0 : Int32)), .unset, .unset] []))
        refine Dn.of (fun tt_ zz_ => XS.iconst X15.here hx rfl (hb hby at_130) zz_) ?_
        show Dn p e below s (own_Q n0) 16 128 (T15.setTop (mkF m 131 #[.val (.int i0), .val (.int i1), .val (.int i2), .val (.int mj), .val (.int sel), .val (.int mn), .val (.ref b14), .val (.int (0 : Int32)), .unset, .unset] [(.int (1 : Int32))]))
        refine Dn.of (fun tt_ zz_ => XS.goto X15.here hx rfl (pc0 := 131) (pc' := 135) rfl (hb hby at_131) (by decide) (by decide) zz_) ?_
        show Dn p e below s (own_Q n0) 16 128 (T15.setTop (mkF m 135 #[.val (.int i0), .val (.int i1), .val (.int i2), .val (.int mj), .val (.int sel), .val (.int mn), .val (.ref b14), .val (.int (0 : Int32)), .unset, .unset] [(.int (1 : Int32))]))
        refine Dn.of (fun tt_ zz_ => XS.istore X15.here hx rfl (hb hby at_135) rfl (l' := #[.val (.int i0), .val (.int i1), .val (.int i2), .val (.int mj), .val (.int sel), .val (.int mn), .val (.ref b14), .val (.int (0 : Int32)), .val (.int (1 : Int32)), .unset]) rfl zz_) ?_
        show Dn p e below s (own_Q n0) 16 128 (T15.setTop (mkF m 137 #[.val (.int i0), .val (.int i1), .val (.int i2), .val (.int mj), .val (.int sel), .val (.int mn), .val (.ref b14), .val (.int (0 : Int32)), .val (.int (1 : Int32)), .unset] []))
        refine Dn.of (fun tt_ zz_ => XS.iload X15.here hx rfl (hb hby at_137) rfl zz_) ?_
        show Dn p e below s (own_Q n0) 16 128 (T15.setTop (mkF m 139 #[.val (.int i0), .val (.int i1), .val (.int i2), .val (.int mj), .val (.int sel), .val (.int mn), .val (.ref b14), .val (.int (0 : Int32)), .val (.int (1 : Int32)), .unset] [(.int (0 : Int32))]))
        refine Dn.of (fun tt_ zz_ => XS.ifYes X15.here hx rfl (pc0 := 139) (pc' := 151) rfl (hb hby at_139) rfl ((if0 _ _).trans (teq rfl).1) (by decide) (by decide) zz_) ?_
        show Dn p e below s (own_Q n0) 16 128 (T15.setTop (mkF m 151 #[.val (.int i0), .val (.int i1), .val (.int i2), .val (.int mj), .val (.int sel), .val (.int mn), .val (.ref b14), .val (.int (0 : Int32)), .val (.int (1 : Int32)), .unset] []))
        refine Dn.of (fun tt_ zz_ => XS.iconst X15.here hx rfl (hb hby at_151) zz_) ?_
        show Dn p e below s (own_Q n0) 16 128 (T15.setTop (mkF m 152 #[.val (.int i0), .val (.int i1), .val (.int i2), .val (.int mj), .val (.int sel), .val (.int mn), .val (.ref b14), .val (.int (0 : Int32)), .val (.int (1 : Int32)), .unset] [(.int (0 : Int32))]))
        refine Dn.of (fun tt_ zz_ => XS.istore X15.here hx rfl (hb hby at_152) rfl (l' := #[.val (.int i0), .val (.int i1), .val (.int i2), .val (.int mj), .val (.int sel), .val (.int mn), .val (.ref b14), .val (.int (0 : Int32)), .val (.int (1 : Int32)), .val (.int (0 : Int32))]) rfl zz_) ?_
        show Dn p e below s (own_Q n0) 16 128 (T15.setTop (mkF m 154 #[.val (.int i0), .val (.int i1), .val (.int i2), .val (.int mj), .val (.int sel), .val (.int mn), .val (.ref b14), .val (.int (0 : Int32)), .val (.int (1 : Int32)), .val (.int (0 : Int32))] []))
        exact K9 (0 : Int32) (1 : Int32) (0 : Int32) (by simp [own_sup, h1, h3])
    · skip
      refine Dn.of (fun tt_ zz_ => XS.icmpNo X15.here hx rfl (hb hby at_96) rfl (flt h1).1 zz_) ?_
      show Dn p e below s (own_Q n0) 16 128 (T15.setTop (mkF m 99 #[.val (.int i0), .val (.int i1), .val (.int i2), .val (.int mj), .val (.int sel), .val (.int mn), .val (.ref b14), .unset, .unset, .unset] []))
      refine Dn.of (fun tt_ zz_ => XS.iloadN X15.here hx rfl (hb hby at_99) rfl zz_) ?_
      show Dn p e below s (own_Q n0) 16 128 (T15.setTop (mkF m 100 #[.val (.int i0), .val (.int i1), .val (.int i2), .val (.int mj), .val (.int sel), .val (.int mn), .val (.ref b14), .unset, .unset, .unset] [(.int mj)]))
      refine Dn.of (fun tt_ zz_ => XS.bipush X15.here hx rfl (hb hby at_100) zz_) ?_
      show Dn p e below s (own_Q n0) 16 128 (T15.setTop (mkF m 102 #[.val (.int i0), .val (.int i1), .val (.int i2), .val (.int mj), .val (.int sel), .val (.int mn), .val (.ref b14), .unset, .unset, .unset] [(.int (69 : Int32)), (.int mj)]))
      by_cases h2 : (69 : Int32) < mj
      · skip
        refine Dn.of (fun tt_ zz_ => XS.icmpYes X15.here hx rfl (pc0 := 102) (pc' := 109) rfl (hb hby at_102) rfl (tlt h2).2.2.1 (by decide) (by decide) zz_) ?_
        show Dn p e below s (own_Q n0) 16 128 (T15.setTop (mkF m 109 #[.val (.int i0), .val (.int i1), .val (.int i2), .val (.int mj), .val (.int sel), .val (.int mn), .val (.ref b14), .unset, .unset, .unset] []))
        refine Dn.of (fun tt_ zz_ => XS.iconst X15.here hx rfl (hb hby at_109) zz_) ?_
        show Dn p e below s (own_Q n0) 16 128 (T15.setTop (mkF m 110 #[.val (.int i0), .val (.int i1), .val (.int i2), .val (.int mj), .val (.int sel), .val (.int mn), .val (.ref b14), .unset, .unset, .unset] [(.int (0 : Int32))]))
        refine Dn.of (fun tt_ zz_ => XS.istore X15.here hx rfl (hb hby at_110) rfl (l' := #[.val (.int i0), .val (.int i1), .val (.int i2), .val (.int mj), .val (.int sel), .val (.int mn), .val (.ref b14), .val (.int (0 : Int32)), .unset, .unset]) rfl zz_) ?_
        show Dn p e below s (own_Q n0) 16 128 (T15.setTop (mkF m 112 #[.val (.int i0), .val (.int i1), .val (.int i2), .val (.int mj), .val (.int sel), .val (.int mn), .val (.ref b14), .val (.int (0 : Int32)), .unset, .unset] []))
        refine Dn.of (fun tt_ zz_ => XS.iloadN X15.here hx rfl (hb hby at_112) rfl zz_) ?_
        show Dn p e below s (own_Q n0) 16 128 (T15.setTop (mkF m 113 #[.val (.int i0), .val (.int i1), .val (.int i2), .val (.int mj), .val (.int sel), .val (.int mn), .val (.ref b14), .val (.int (0 : Int32)), .unset, .unset] [(.int mj)]))
        refine Dn.of (fun tt_ zz_ => XS.bipush X15.here hx rfl (hb hby at_113) zz_) ?_
        show Dn p e below s (own_Q n0) 16 128 (T15.setTop (mkF m 115 #[.val (.int i0), .val (.int i1), .val (.int i2), .val (.int mj), .val (.int sel), .val (.int mn), .val (.ref b14), .val (.int (0 : Int32)), .unset, .unset] [(.int (55 : Int32)), (.int mj)]))
        by_cases h3 : (55 : Int32) < mj
        · skip
          refine Dn.of (fun tt_ zz_ => XS.icmpNo X15.here hx rfl (hb hby at_115) rfl (tlt h3).2.2.2 zz_) ?_
          show Dn p e below s (own_Q n0) 16 128 (T15.setTop (mkF m 118 #[.val (.int i0), .val (.int i1), .val (.int i2), .val (.int mj), .val (.int sel), .val (.int mn), .val (.ref b14), .val (.int (0 : Int32)), .unset, .unset] []))
          refine Dn.of (fun tt_ zz_ => XS.iload X15.here hx rfl (hb hby at_118) rfl zz_) ?_
          show Dn p e below s (own_Q n0) 16 128 (T15.setTop (mkF m 120 #[.val (.int i0), .val (.int i1), .val (.int i2), .val (.int mj), .val (.int sel), .val (.int mn), .val (.ref b14), .val (.int (0 : Int32)), .unset, .unset] [(.int mn)]))
          by_cases h4 : mn = (0 : Int32)
          · skip
            refine Dn.of (fun tt_ zz_ => XS.ifYes X15.here hx rfl (pc0 := 120) (pc' := 130) rfl (hb hby at_120) rfl ((if0 _ _).trans (teq h4).1) (by decide) (by decide) zz_) ?_
            show Dn p e below s (own_Q n0) 16 128 (T15.setTop (mkF m 130 #[.val (.int i0), .val (.int i1), .val (.int i2), .val (.int mj), .val (.int sel), .val (.int mn), .val (.ref b14), .val (.int (0 : Int32)), .unset, .unset] []))
            refine Dn.of (fun tt_ zz_ => XS.iconst X15.here hx rfl (hb hby at_130) zz_) ?_
            show Dn p e below s (own_Q n0) 16 128 (T15.setTop (mkF m 131 #[.val (.int i0), .val (.int i1), .val (.int i2), .val (.int mj), .val (.int sel), .val (.int mn), .val (.ref b14), .val (.int (0 : Int32)), .unset, .unset] [(.int (1 : Int32))]))
            refine Dn.of (fun tt_ zz_ => XS.goto X15.here hx rfl (pc0 := 131) (pc' := 135) rfl (hb hby at_131) (by decide) (by decide) zz_) ?_
            show Dn p e below s (own_Q n0) 16 128 (T15.setTop (mkF m 135 #[.val (.int i0), .val (.int i1), .val (.int i2), .val (.int mj), .val (.int sel), .val (.int mn), .val (.ref b14), .val (.int (0 : Int32)), .unset, .unset] [(.int (1 : Int32))]))
            refine Dn.of (fun tt_ zz_ => XS.istore X15.here hx rfl (hb hby at_135) rfl (l' := #[.val (.int i0), .val (.int i1), .val (.int i2), .val (.int mj), .val (.int sel), .val (.int mn), .val (.ref b14), .val (.int (0 : Int32)), .val (.int (1 : Int32)), .unset]) rfl zz_) ?_
            show Dn p e below s (own_Q n0) 16 128 (T15.setTop (mkF m 137 #[.val (.int i0), .val (.int i1), .val (.int i2), .val (.int mj), .val (.int sel), .val (.int mn), .val (.ref b14), .val (.int (0 : Int32)), .val (.int (1 : Int32)), .unset] []))
            refine Dn.of (fun tt_ zz_ => XS.iload X15.here hx rfl (hb hby at_137) rfl zz_) ?_
            show Dn p e below s (own_Q n0) 16 128 (T15.setTop (mkF m 139 #[.val (.int i0), .val (.int i1), .val (.int i2), .val (.int mj), .val (.int sel), .val (.int mn), .val (.ref b14), .val (.int (0 : Int32)), .val (.int (1 : Int32)), .unset] [(.int (0 : Int32))]))
            refine Dn.of (fun tt_ zz_ => XS.ifYes X15.here hx rfl (pc0 := 139) (pc' := 151) rfl (hb hby at_139) rfl ((if0 _ _).trans (teq rfl).1) (by decide) (by decide) zz_) ?_
            show Dn p e below s (own_Q n0) 16 128 (T15.setTop (mkF m 151 #[.val (.int i0), .val (.int i1), .val (.int i2), .val (.int mj), .val (.int sel), .val (.int mn), .val (.ref b14), .val (.int (0 : Int32)), .val (.int (1 : Int32)), .unset] []))
            refine Dn.of (fun tt_ zz_ => XS.iconst X15.here hx rfl (hb hby at_151) zz_) ?_
            show Dn p e below s (own_Q n0) 16 128 (T15.setTop (mkF m 152 #[.val (.int i0), .val (.int i1), .val (.int i2), .val (.int mj), .val (.int sel), .val (.int mn), .val (.ref b14), .val (.int (0 : Int32)), .val (.int (1 : Int32)), .unset] [(.int (0 : Int32))]))
            refine Dn.of (fun tt_ zz_ => XS.istore X15.here hx rfl (hb hby at_152) rfl (l' := #[.val (.int i0), .val (.int i1), .val (.int i2), .val (.int mj), .val (.int sel), .val (.int mn), .val (.ref b14), .val (.int (0 : Int32)), .val (.int (1 : Int32)), .val (.int (0 : Int32))]) rfl zz_) ?_
            show Dn p e below s (own_Q n0) 16 128 (T15.setTop (mkF m 154 #[.val (.int i0), .val (.int i1), .val (.int i2), .val (.int mj), .val (.int sel), .val (.int mn), .val (.ref b14), .val (.int (0 : Int32)), .val (.int (1 : Int32)), .val (.int (0 : Int32))] []))
            exact K9 (0 : Int32) (1 : Int32) (0 : Int32) (by simp [own_sup, h1, h2, h3, h4])
          · skip
            refine Dn.of (fun tt_ zz_ => XS.ifNo X15.here hx rfl (hb hby at_120) rfl ((if0 _ _).trans (feq h4).1) zz_) ?_
            show Dn p e below s (own_Q n0) 16 128 (T15.setTop (mkF m 123 #[.val (.int i0), .val (.int i1), .val (.int i2), .val (.int mj), .val (.int sel), .val (.int mn), .val (.ref b14), .val (.int (0 : Int32)), .unset, .unset] []))
            refine Dn.of (fun tt_ zz_ => XS.iload X15.here hx rfl (hb hby at_123) rfl zz_) ?_
            show Dn p e below s (own_Q n0) 16 128 (T15.setTop (mkF m 125 #[.val (.int i0), .val (.int i1), .val (.int i2), .val (.int mj), .val (.int sel), .val (.int mn), .val (.ref b14), .val (.int (0 : Int32)), .unset, .unset] [(.int mn)]))
            refine Dn.of (fun tt_ zz_ => X15.ldcI hx hown (mvT hZ (hw _ (List.mem_of_getElem? (i := 27) rfl))) rfl (hb hby at_125) zz_) ?_
            show Dn p e below s (own_Q n0) 16 128 (T15.setTop (mkF m 127 #[.val (.int i0), .val (.int i1), .val (.int i2), .val (.int mj), .val (.int sel), .val (.int mn), .val (.ref b14), .val (.int (0 : Int32)), .unset, .unset] [(.int (65535 : Int32)), (.int mn)]))
            by_cases h5 : mn = (65535 : Int32)
            · skip
              refine Dn.of (fun tt_ zz_ => XS.icmpNo X15.here hx rfl (hb hby at_127) rfl (teq h5).2 zz_) ?_
              show Dn p e below s (own_Q n0) 16 128 (T15.setTop (mkF m 130 #[.val (.int i0), .val (.int i1), .val (.int i2), .val (.int mj), .val (.int sel), .val (.int mn), .val (.ref b14), .val (.int (0 : Int32)), .unset, .unset] []))
              refine Dn.of (fun tt_ zz_ => XS.iconst X15.here hx rfl (hb hby at_130) zz_) ?_
              show Dn p e below s (own_Q n0) 16 128 (T15.setTop (mkF m 131 #[.val (.int i0), .val (.int i1), .val (.int i2), .val (.int mj), .val (.int sel), .val (.int mn), .val (.ref b14), .val (.int (0 : Int32)), .unset, .unset] [(.int (1 : Int32))]))
              refine Dn.of (fun tt_ zz_ => XS.goto X15.here hx rfl (pc0 := 131) (pc' := 135) rfl (hb hby at_131) (by decide) (by decide) zz_) ?_
              show Dn p e below s (own_Q n0) 16 128 (T15.setTop (mkF m 135 #[.val (.int i0), .val (.int i1), .val (.int i2), .val (.int mj), .val (.int sel), .val (.int mn), .val (.ref b14), .val (.int (0 : Int32)), .unset, .unset] [(.int (1 : Int32))]))
              refine Dn.of (fun tt_ zz_ => XS.istore X15.here hx rfl (hb hby at_135) rfl (l' := #[.val (.int i0), .val (.int i1), .val (.int i2), .val (.int mj), .val (.int sel), .val (.int mn), .val (.ref b14), .val (.int (0 : Int32)), .val (.int (1 : Int32)), .unset]) rfl zz_) ?_
              show Dn p e below s (own_Q n0) 16 128 (T15.setTop (mkF m 137 #[.val (.int i0), .val (.int i1), .val (.int i2), .val (.int mj), .val (.int sel), .val (.int mn), .val (.ref b14), .val (.int (0 : Int32)), .val (.int (1 : Int32)), .unset] []))
              refine Dn.of (fun tt_ zz_ => XS.iload X15.here hx rfl (hb hby at_137) rfl zz_) ?_
              show Dn p e below s (own_Q n0) 16 128 (T15.setTop (mkF m 139 #[.val (.int i0), .val (.int i1), .val (.int i2), .val (.int mj), .val (.int sel), .val (.int mn), .val (.ref b14), .val (.int (0 : Int32)), .val (.int (1 : Int32)), .unset] [(.int (0 : Int32))]))
              refine Dn.of (fun tt_ zz_ => XS.ifYes X15.here hx rfl (pc0 := 139) (pc' := 151) rfl (hb hby at_139) rfl ((if0 _ _).trans (teq rfl).1) (by decide) (by decide) zz_) ?_
              show Dn p e below s (own_Q n0) 16 128 (T15.setTop (mkF m 151 #[.val (.int i0), .val (.int i1), .val (.int i2), .val (.int mj), .val (.int sel), .val (.int mn), .val (.ref b14), .val (.int (0 : Int32)), .val (.int (1 : Int32)), .unset] []))
              refine Dn.of (fun tt_ zz_ => XS.iconst X15.here hx rfl (hb hby at_151) zz_) ?_
              show Dn p e below s (own_Q n0) 16 128 (T15.setTop (mkF m 152 #[.val (.int i0), .val (.int i1), .val (.int i2), .val (.int mj), .val (.int sel), .val (.int mn), .val (.ref b14), .val (.int (0 : Int32)), .val (.int (1 : Int32)), .unset] [(.int (0 : Int32))]))
              refine Dn.of (fun tt_ zz_ => XS.istore X15.here hx rfl (hb hby at_152) rfl (l' := #[.val (.int i0), .val (.int i1), .val (.int i2), .val (.int mj), .val (.int sel), .val (.int mn), .val (.ref b14), .val (.int (0 : Int32)), .val (.int (1 : Int32)), .val (.int (0 : Int32))]) rfl zz_) ?_
              show Dn p e below s (own_Q n0) 16 128 (T15.setTop (mkF m 154 #[.val (.int i0), .val (.int i1), .val (.int i2), .val (.int mj), .val (.int sel), .val (.int mn), .val (.ref b14), .val (.int (0 : Int32)), .val (.int (1 : Int32)), .val (.int (0 : Int32))] []))
              exact K9 (0 : Int32) (1 : Int32) (0 : Int32) (by simp [own_sup, h1, h2, h3, h4, h5])
            · skip
              refine Dn.of (fun tt_ zz_ => XS.icmpYes X15.here hx rfl (pc0 := 127) (pc' := 134) rfl (hb hby at_127) rfl (feq h5).2 (by decide) (by decide) zz_) ?_
              show Dn p e below s (own_Q n0) 16 128 (T15.setTop (mkF m 134 #[.val (.int i0), .val (.int i1), .val (.int i2), .val (.int mj), .val (.int sel), .val (.int mn), .val (.ref b14), .val (.int (0 : Int32)), .unset, .unset] []))
              refine Dn.of (fun tt_ zz_ => XS.iconst X15.here hx rfl (hb hby at_134) zz_) ?_
              show Dn p e below s (own_Q n0) 16 128 (T15.setTop (mkF m 135 #[.val (.int i0), .val (.int i1), .val (.int i2), .val (.int mj), .val (.int sel), .val (.int mn), .val (.ref b14), .val (.int (0 : Int32)), .unset, .unset] [(.int (0 : Int32))]))
              refine Dn.of (fun tt_ zz_ => XS.istore X15.here hx rfl (hb hby at_135) rfl (l' := #[.val (.int i0), .val (.int i1), .val (.int i2), .val (.int mj), .val (.int sel), .val (.int mn), .val (.ref b14), .val (.int (0 : Int32)), .val (.int (0 : Int32)), .unset]) rfl zz_) ?_
              show Dn p e below s (own_Q n0) 16 128 (T15.setTop (mkF m 137 #[.val (.int i0), .val (.int i1), .val (.int i2), .val (.int mj), .val (.int sel), .val (.int mn), .val (.ref b14), .val (.int (0 : Int32)), .val (.int (0 : Int32)), .unset] []))
              refine Dn.of (fun tt_ zz_ => XS.iload X15.here hx rfl (hb hby at_137) rfl zz_) ?_
              show Dn p e below s (own_Q n0) 16 128 (T15.setTop (mkF m 139 #[.val (.int i0), .val (.int i1), .val (.int i2), .val (.int mj), .val (.int sel), .val (.int mn), .val (.ref b14), .val (.int (0 : Int32)), .val (.int (0 : Int32)), .unset] [(.int (0 : Int32))]))
              refine Dn.of (fun tt_ zz_ => XS.ifYes X15.here hx rfl (pc0 := 139) (pc' := 151) rfl (hb hby at_139) rfl ((if0 _ _).trans (teq rfl).1) (by decide) (by decide) zz_) ?_
              show Dn p e below s (own_Q n0) 16 128 (T15.setTop (mkF m 151 #[.val (.int i0), .val (.int i1), .val (.int i2), .val (.int mj), .val (.int sel), .val (.int mn), .val (.ref b14), .val (.int (0 : Int32)), .val (.int (0 : Int32)), .unset] []))
              refine Dn.of (fun tt_ zz_ => XS.iconst X15.here hx rfl (hb hby at_151) zz_) ?_
              show Dn p e below s (own_Q n0) 16 128 (T15.setTop (mkF m 152 #[.val (.int i0), .val (.int i1), .val (.int i2), .val (.int mj), .val (.int sel), .val (.int mn), .val (.ref b14), .val (.int (0 : Int32)), .val (.int (0 : Int32)), .unset] [(.int (0 : Int32))]))
              refine Dn.of (fun tt_ zz_ => XS.istore X15.here hx rfl (hb hby at_152) rfl (l' := #[.val (.int i0), .val (.int i1), .val (.int i2), .val (.int mj), .val (.int sel), .val (.int mn), .val (.ref b14), .val (.int (0 : Int32)), .val (.int (0 : Int32)), .val (.int (0 : Int32))]) rfl zz_) ?_
              show Dn p e below s (own_Q n0) 16 128 (T15.setTop (mkF m 154 #[.val (.int i0), .val (.int i1), .val (.int i2), .val (.int mj), .val (.int sel), .val (.int mn), .val (.ref b14), .val (.int (0 : Int32)), .val (.int (0 : Int32)), .val (.int (0 : Int32))] []))
              exact K9 (0 : Int32) (0 : Int32) (0 : Int32) (by simp [own_sup, h1, h2, h3, h4, h5])
        · skip
          refine Dn.of (fun tt_ zz_ => XS.icmpYes X15.here hx rfl (pc0 := 115) (pc' := 130) rfl (hb hby at_115) rfl (flt h3).2.2.2 (by decide) (by decide) zz_) ?_
          show Dn p e below s (own_Q n0) 16 128 (T15.setTop (mkF m 130 #[.val (.int i0), .val (.int i1), .val (.int i2), .val (.int mj), .val (.int sel), .val (.int mn), .val (.ref b14), .val (.int (0 : Int32)), .unset, .unset] []))
          refine Dn.of (fun tt_ zz_ => XS.iconst X15.here hx rfl (hb hby at_130) zz_) ?_
          show Dn p e below s (own_Q n0) 16 128 (T15.setTop (mkF m 131 #[.val (.int i0), .val (.int i1), .val (.int i2), .val (.int mj), .val (.int sel), .val (.int mn), .val (.ref b14), .val (.int (0 : Int32)), .unset, .unset] [(.int (1 : Int32))]))
          refine Dn.of (fun tt_ zz_ => XS.goto X15.here hx rfl (pc0 := 131) (pc' := 135) rfl (hb hby at_131) (by decide) (by decide) zz_) ?_
          show Dn p e below s (own_Q n0) 16 128 (T15.setTop (mkF m 135 #[.val (.int i0), .val (.int i1), .val (.int i2), .val (.int mj), .val (.int sel), .val (.int mn), .val (.ref b14), .val (.int (0 : Int32)), .unset, .unset] [(.int (1 : Int32))]))
          refine Dn.of (fun tt_ zz_ => XS.istore X15.here hx rfl (hb hby at_135) rfl (l' := #[.val (.int i0), .val (.int i1), .val (.int i2), .val (.int mj), .val (.int sel), .val (.int mn), .val (.ref b14), .val (.int (0 : Int32)), .val (.int (1 : Int32)), .unset]) rfl zz_) ?_
          show Dn p e below s (own_Q n0) 16 128 (T15.setTop (mkF m 137 #[.val (.int i0), .val (.int i1), .val (.int i2), .val (.int mj), .val (.int sel), .val (.int mn), .val (.ref b14), .val (.int (0 : Int32)), .val (.int (1 : Int32)), .unset] []))
          refine Dn.of (fun tt_ zz_ => XS.iload X15.here hx rfl (hb hby at_137) rfl zz_) ?_
          show Dn p e below s (own_Q n0) 16 128 (T15.setTop (mkF m 139 #[.val (.int i0), .val (.int i1), .val (.int i2), .val (.int mj), .val (.int sel), .val (.int mn), .val (.ref b14), .val (.int (0 : Int32)), .val (.int (1 : Int32)), .unset] [(.int (0 : Int32))]))
          refine Dn.of (fun tt_ zz_ => XS.ifYes X15.here hx rfl (pc0 := 139) (pc' := 151) rfl (hb hby at_139) rfl ((if0 _ _).trans (teq rfl).1) (by decide) (by decide) zz_) ?_
          show Dn p e below s (own_Q n0) 16 128 (T15.setTop (mkF m 151 #[.val (.int i0), .val (.int i1), .val (.int i2), .val (.int mj), .val (.int sel), .val (.int mn), .val (.ref b14), .val (.int (0 : Int32)), .val (.int (1 : Int32)), .unset] []))
          refine Dn.of (fun tt_ zz_ => XS.iconst X15.here hx rfl (hb hby at_151) zz_) ?_
          show Dn p e below s (own_Q n0) 16 128 (T15.setTop (mkF m 152 #[.val (.int i0), .val (.int i1), .val (.int i2), .val (.int mj), .val (.int sel), .val (.int mn), .val (.ref b14), .val (.int (0 : Int32)), .val (.int (1 : Int32)), .unset] [(.int (0 : Int32))]))
          refine Dn.of (fun tt_ zz_ => XS.istore X15.here hx rfl (hb hby at_152) rfl (l' := #[.val (.int i0), .val (.int i1), .val (.int i2), .val (.int mj), .val (.int sel), .val (.int mn), .val (.ref b14), .val (.int (0 : Int32)), .val (.int (1 : Int32)), .val (.int (0 : Int32))]) rfl zz_) ?_
          show Dn p e below s (own_Q n0) 16 128 (T15.setTop (mkF m 154 #[.val (.int i0), .val (.int i1), .val (.int i2), .val (.int mj), .val (.int sel), .val (.int mn), .val (.ref b14), .val (.int (0 : Int32)), .val (.int (1 : Int32)), .val (.int (0 : Int32))] []))
          exact K9 (0 : Int32) (1 : Int32) (0 : Int32) (by simp [own_sup, h1, h2, h3])
      · skip
        refine Dn.of (fun tt_ zz_ => XS.icmpNo X15.here hx rfl (hb hby at_102) rfl (flt h2).2.2.1 zz_) ?_
        show Dn p e below s (own_Q n0) 16 128 (T15.setTop (mkF m 105 #[.val (.int i0), .val (.int i1), .val (.int i2), .val (.int mj), .val (.int sel), .val (.int mn), .val (.ref b14), .unset, .unset, .unset] []))
        refine Dn.of (fun tt_ zz_ => XS.iconst X15.here hx rfl (hb hby at_105) zz_) ?_
        show Dn p e below s (own_Q n0) 16 128 (T15.setTop (mkF m 106 #[.val (.int i0), .val (.int i1), .val (.int i2), .val (.int mj), .val (.int sel), .val (.int mn), .val (.ref b14), .unset, .unset, .unset] [(.int (1 : Int32))]))
        refine Dn.of (fun tt_ zz_ => XS.goto X15.here hx rfl (pc0 := 106) (pc' := 110) rfl (hb hby at_106) (by decide) (by decide) zz_) ?_
        show Dn p e below s (own_Q n0) 16 128 (T15.setTop (mkF m 110 #[.val (.int i0), .val (.int i1), .val (.int i2), .val (.int mj), .val (.int sel), .val (.int mn), .val (.ref b14), .unset, .unset, .unset] [(.int (1 : Int32))]))
        refine Dn.of (fun tt_ zz_ => XS.istore X15.here hx rfl (hb hby at_110) rfl (l' := #[.val (.int i0), .val (.int i1), .val (.int i2), .val (.int mj), .val (.int sel), .val (.int mn), .val (.ref b14), .val (.int (1 : Int32)), .unset, .unset]) rfl zz_) ?_
        show Dn p e below s (own_Q n0) 16 128 (T15.setTop (mkF m 112 #[.val (.int i0), .val (.int i1), .val (.int i2), .val (.int mj), .val (.int sel), .val (.int mn), .val (.ref b14), .val (.int (1 : Int32)), .unset, .unset] []))
        refine Dn.of (fun tt_ zz_ => XS.iloadN X15.here hx rfl (hb hby at_112) rfl zz_) ?_
        show Dn p e below s (own_Q n0) 16 128 (T15.setTop (mkF m 113 #[.val (.int i0), .val (.int i1), .val (.int i2), .val (.int mj), .val (.int sel), .val (.int mn), .val (.ref b14), .val (.int (1 : Int32)), .unset, .unset] [(.int mj)]))
        refine Dn.of (fun tt_ zz_ => XS.bipush X15.here hx rfl (hb hby at_113) zz_) ?_
        show Dn p e below s (own_Q n0) 16 128 (T15.setTop (mkF m 115 #[.val (.int i0), .val (.int i1), .val (.int i2), .val (.int mj), .val (.int sel), .val (.int mn), .val (.ref b14), .val (.int (1 : Int32)), .unset, .unset] [(.int (55 : Int32)), (.int mj)]))
        by_cases h3 : (55 : Int32) < mj
        · skip
          refine Dn.of (fun tt_ zz_ => XS.icmpNo X15.here hx rfl (hb hby at_115) rfl (tlt h3).2.2.2 zz_) ?_
          show Dn p e below s (own_Q n0) 16 128 (T15.setTop (mkF m 118 #[.val (.int i0), .val (.int i1), .val (.int i2), .val (.int mj), .val (.int sel), .val (.int mn), .val (.ref b14), .val (.int (1 : Int32)), .unset, .unset] []))
          refine Dn.of (fun tt_ zz_ => XS.iload X15.here hx rfl (hb hby at_118) rfl zz_) ?_
          show Dn p e below s (own_Q n0) 16 128 (T15.setTop (mkF m 120 #[.val (.int i0), .val (.int i1), .val (.int i2), .val (.int mj), .val (.int sel), .val (.int mn), .val (.ref b14), .val (.int (1 : Int32)), .unset, .unset] [(.int mn)]))
          by_cases h4 : mn = (0 : Int32)
          · skip
            refine Dn.of (fun tt_ zz_ => XS.ifYes X15.here hx rfl (pc0 := 120) (pc' := 130) rfl (hb hby at_120) rfl ((if0 _ _).trans (teq h4).1) (by decide) (by decide) zz_) ?_
            show Dn p e below s (own_Q n0) 16 128 (T15.setTop (mkF m 130 #[.val (.int i0), .val (.int i1), .val (.int i2), .val (.int mj), .val (.int sel), .val (.int mn), .val (.ref b14), .val (.int (1 : Int32)), .unset, .unset] []))
            refine Dn.of (fun tt_ zz_ => XS.iconst X15.here hx rfl (hb hby at_130) zz_) ?_
            show Dn p e below s (own_Q n0) 16 128 (T15.setTop (mkF m 131 #[.val (.int i0), .val (.int i1), .val (.int i2), .val (.int mj), .val (.int sel), .val (.int mn), .val (.ref b14), .val (.int (1 : Int32)), .unset, .unset] [(.int (1 : Int32))]))
            refine Dn.of (fun tt_ zz_ => XS.goto X15.here hx rfl (pc0 := 131) (pc' := 135) rfl (hb hby at_131) (by decide) (by decide) zz_) ?_
            show Dn p e below s (own_Q n0) 16 128 (T15.setTop (mkF m 135 #[.val (.int i0), .val (.int i1), .val (.int i2), .val (.int mj), .val (.int sel), .val (.int mn), .val (.ref b14), .val (.int (1 : Int32)), .unset, .unset] [(.int (1 : Int32))]))
            refine Dn.of (fun tt_ zz_ => XS.istore X15.here hx rfl (hb hby at_135) rfl (l' := #[.val (.int i0), .val (.int i1), .val (.int i2), .val (.int mj), .val (.int sel), .val (.int mn), .val (.ref b14), .val (.int (1 : Int32)), .val (.int (1 : Int32)), .unset]) rfl zz_) ?_
            show Dn p e below s (own_Q n0) 16 128 (T15.setTop (mkF m 137 #[.val (.int i0), .val (.int i1), .val (.int i2), .val (.int mj), .val (.int sel), .val (.int mn), .val (.ref b14), .val (.int (1 : Int32)), .val (.int (1 : Int32)), .unset] []))
            refine Dn.of (fun tt_ zz_ => XS.iload X15.here hx rfl (hb hby at_137) rfl zz_) ?_
            show Dn p e below s (own_Q n0) 16 128 (T15.setTop (mkF m 139 #[.val (.int i0), .val (.int i1), .val (.int i2), .val (.int mj), .val (.int sel), .val (.int mn), .val (.ref b14), .val (.int (1 : Int32)), .val (.int (1 : Int32)), .unset] [(.int (1 : Int32))]))
            refine Dn.of (fun tt_ zz_ => XS.ifNo X15.here hx rfl (hb hby at_139) rfl ((if0 _ _).trans (feq (by decide)).1) zz_) ?_
            show Dn p e below s (own_Q n0) 16 128 (T15.setTop (mkF m 142 #[.val (.int i0), .val (.int i1), .val (.int i2), .val (.int mj), .val (.int sel), .val (.int mn), .val (.ref b14), .val (.int (1 : Int32)), .val (.int (1 : Int32)), .unset] []))
            refine Dn.of (fun tt_ zz_ => XS.iload X15.here hx rfl (hb hby at_142) rfl zz_) ?_
            show Dn p e below s (own_Q n0) 16 128 (T15.setTop (mkF m 144 #[.val (.int i0), .val (.int i1), .val (.int i2), .val (.int mj), .val (.int sel), .val (.int mn), .val (.ref b14), .val (.int (1 : Int32)), .val (.int (1 : Int32)), .unset] [(.int (1 : Int32))]))
            refine Dn.of (fun tt_ zz_ => XS.ifNo X15.here hx rfl (hb hby at_144) rfl ((if0 _ _).trans (feq (by decide)).1) zz_) ?_
            show Dn p e below s (own_Q n0) 16 128 (T15.setTop (mkF m 147 #[.val (.int i0), .val (.int i1), .val (.int i2), .val (.int mj), .val (.int sel), .val (.int mn), .val (.ref b14), .val (.int (1 : Int32)), .val (.int (1 : Int32)), .unset] []))
            refine Dn.of (fun tt_ zz_ => XS.iconst X15.here hx rfl (hb hby at_147) zz_) ?_
            show Dn p e below s (own_Q n0) 16 128 (T15.setTop (mkF m 148 #[.val (.int i0), .val (.int i1), .val (.int i2), .val (.int mj), .val (.int sel), .val (.int mn), .val (.ref b14), .val (.int (1 : Int32)), .val (.int (1 : Int32)), .unset] [(.int (1 : Int32))]))
            refine Dn.of (fun tt_ zz_ => XS.goto X15.here hx rfl (pc0 := 148) (pc' := 152) rfl (hb hby at_148) (by decide) (by decide) zz_) ?_
            show Dn p e below s (own_Q n0) 16 128 (T15.setTop (mkF m 152 #[.val (.int i0), .val (.int i1), .val (.int i2), .val (.int mj), .val (.int sel), .val (.int mn), .val (.ref b14), .val (.int (1 : Int32)), .val (.int (1 : Int32)), .unset] [(.int (1 : Int32))]))
            refine Dn.of (fun tt_ zz_ => XS.istore X15.here hx rfl (hb hby at_152) rfl (l' := #[.val (.int i0), .val (.int i1), .val (.int i2), .val (.int mj), .val (.int sel), .val (.int mn), .val (.ref b14), .val (.int (1 : Int32)), .val (.int (1 : Int32)), .val (.int (1 : Int32))]) rfl zz_) ?_
            show Dn p e below s (own_Q n0) 16 128 (T15.setTop (mkF m 154 #[.val (.int i0), .val (.int i1), .val (.int i2), .val (.int mj), .val (.int sel), .val (.int mn), .val (.ref b14), .val (.int (1 : Int32)), .val (.int (1 : Int32)), .val (.int (1 : Int32))] []))
            exact K9 (1 : Int32) (1 : Int32) (1 : Int32) (by simp [own_sup, h1, h2, h3, h4])
          · skip
            refine Dn.of (fun tt_ zz_ => XS.ifNo X15.here hx rfl (hb hby at_120) rfl ((if0 _ _).trans (feq h4).1) zz_) ?_
            show Dn p e below s (own_Q n0) 16 128 (T15.setTop (mkF m 123 #[.val (.int i0), .val (.int i1), .val (.int i2), .val (.int mj), .val (.int sel), .val (.int mn), .val (.ref b14), .val (.int (1 : Int32)), .unset, .unset] []))
            refine Dn.of (fun tt_ zz_ => XS.iload X15.here hx rfl (hb hby at_123) rfl zz_) ?_
            show Dn p e below s (own_Q n0) 16 128 (T15.setTop (mkF m 125 #[.val (.int i0), .val (.int i1), .val (.int i2), .val (.int mj), .val (.int sel), .val (.int mn), .val (.ref b14), .val (.int (1 : Int32)), .unset, .unset] [(.int mn)]))
            refine Dn.of (fun tt_ zz_ => X15.ldcI hx hown (mvT hZ (hw _ (List.mem_of_getElem? (i := 27) rfl))) rfl (hb hby at_125) zz_) ?_
            show Dn p e below s (own_Q n0) 16 128 (T15.setTop (mkF m 127 #[.val (.int i0), .val (.int i1), .val (.int i2), .val (.int mj), .val (.int sel), .val (.int mn), .val (.ref b14), .val (.int (1 : Int32)), .unset, .unset] [(.int (65535 : Int32)), (.int mn)]))
            by_cases h5 : mn = (65535 : Int32)
            · skip
              refine Dn.of (fun tt_ zz_ => XS.icmpNo X15.here hx rfl (hb hby at_127) rfl (teq h5).2 zz_) ?_
              show Dn p e below s (own_Q n0) 16 128 (T15.setTop (mkF m 130 #[.val (.int i0), .val (.int i1), .val (.int i2), .val (.int mj), .val (.int sel), .val (.int mn), .val (.ref b14), .val (.int (1 : Int32)), .unset, .unset] []))
              refine Dn.of (fun tt_ zz_ => XS.iconst X15.here hx rfl (hb hby at_130) zz_) ?_
              show Dn p e below s (own_Q n0) 16 128 (T15.setTop (mkF m 131 #[.val (.int i0), .val (.int i1), .val (.int i2), .val (.int mj), .val (.int sel), .val (.int mn), .val (.ref b14), .val (.int (1 : Int32)), .unset, .unset] [(.int (1 : Int32))]))
              refine Dn.of (fun tt_ zz_ => XS.goto X15.here hx rfl (pc0 := 131) (pc' := 135) rfl (hb hby at_131) (by decide) (by decide) zz_) ?_
              show Dn p e below s (own_Q n0) 16 128 (T15.setTop (mkF m 135 #[.val (.int i0), .val (.int i1), .val (.int i2), .val (.int mj), .val (.int sel), .val (.int mn), .val (.ref b14), .val (.int (1 : Int32)), .unset, .unset] [(.int (1 : Int32))]))
              refine Dn.of (fun tt_ zz_ => XS.istore X15.here hx rfl (hb hby at_135) rfl (l' := #[.val (.int i0), .val (.int i1), .val (.int i2), .val (.int mj), .val (.int sel), .val (.int mn), .val (.ref b14), .val (.int (1 : Int32)), .val (.int (1 : Int32)), .unset]) rfl zz_) ?_
              show Dn p e below s (own_Q n0) 16 128 (T15.setTop (mkF m 137 #[.val (.int i0), .val (.int i1), .val (.int i2), .val (.int mj), .val (.int sel), .val (.int mn), .val (.ref b14), .val (.int (1 : Int32)), .val (.int (1 : Int32)), .unset] []))
              refine Dn.of (fun tt_ zz_ => XS.iload X15.here hx rfl (hb hby at_137) rfl zz_) ?_
              show Dn p e below s (own_Q n0) 16 128 (T15.setTop (mkF m 139 #[.val (.int i0), .val (.int i1), .val (.int i2), .val (.int mj), .val (.int sel), .val (.int mn), .val (.ref b14), .val (.int (1 : Int32)), .val (.int (1 : Int32)), .unset] [(.int (1 : Int32))]))
              refine Dn.of (fun tt_ zz_ => XS.ifNo X15.here hx rfl (hb hby at_139) rfl ((if0 _ _).trans (feq (by decide)).1) zz_) ?_
              show Dn p e below s (own_Q n0) 16 128 (T15.setTop (mkF m 142 #[.val (.int i0), .val (.int i1), .val (.int i2), .val (.int mj), .val (.int sel), .val (.int mn), .val (.ref b14), .val (.int (1 : Int32)), .val (.int (1 : Int32)), .unset] []))
              refine Dn.of (fun tt_ zz_ => XS.iload X15.here hx rfl (hb hby at_142) rfl zz_) ?_
              show Dn p e below s (own_Q n0) 16 128 (T15.setTop (mkF m 144 #[.val (.int i0), .val (.int i1), .val (.int i2), .val (.int mj), .val (.int sel), .val (.int mn), .val (.ref b14), .val (.int (1 : Int32)), .val (.int (1 : Int32)), .unset] [(.int (1 : Int32))]))
              refine Dn.of (fun tt_ zz_ => XS.ifNo X15.here hx rfl (hb hby at_144) rfl ((if0 _ _).trans (feq (by decide)).1) zz_) ?_
              show Dn p e below s (own_Q n0) 16 128 (T15.setTop (mkF m 147 #[.val (.int i0), .val (.int i1), .val (.int i2), .val (.int mj), .val (.int sel), .val (.int mn), .val (.ref b14), .val (.int (1 : Int32)), .val (.int (1 : Int32)), .unset] []))
              refine Dn.of (fun tt_ zz_ => XS.iconst X15.here hx rfl (hb hby at_147) zz_) ?_
              show Dn p e below s (own_Q n0) 16 128 (T15.setTop (mkF m 148 #[.val (.int i0), .val (.int i1), .val (.int i2), .val (.int mj), .val (.int sel), .val (.int mn), .val (.ref b14), .val (.int (1 : Int32)), .val (.int (1 : Int32)), .unset] [(.int (1 : Int32))]))
              refine Dn.of (fun tt_ zz_ => XS.goto X15.here hx rfl (pc0 := 148) (pc' := 152) rfl (hb hby at_148) (by decide) (by decide) zz_) ?_
              show Dn p e below s (own_Q n0) 16 128 (T15.setTop (mkF m 152 #[.val (.int i0), .val (.int i1), .val (.int i2), .val (.int mj), .val (.int sel), .val (.int mn), .val (.ref b14), .val (.int (1 : Int32)), .val (.int (1 : Int32)), .unset] [(.int (1 : Int32))]))
              refine Dn.of (fun tt_ zz_ => XS.istore X15.here hx rfl (hb hby at_152) rfl (l' := #[.val (.int i0), .val (.int i1), .val (.int i2), .val (.int mj), .val (.int sel), .val (.int mn), .val (.ref b14), .val (.int (1 : Int32)), .val (.int (1 : Int32)), .val (.int (1 : Int32))]) rfl zz_) ?_
              show Dn p e below s (own_Q n0) 16 128 (T15.setTop (mkF m 154 #[.val (.int i0), .val (.int i1), .val (.int i2), .val (.int mj), .val (.int sel), .val (.int mn), .val (.ref b14), .val (.int (1 : Int32)), .val (.int (1 : Int32)), .val (.int (1 : Int32))] []))
              exact K9 (1 : Int32) (1 : Int32) (1 : Int32) (by simp [own_sup, h1, h2, h3, h4, h5])
            · skip
              refine Dn.of (fun tt_ zz_ => XS.icmpYes X15.here hx rfl (pc0 := 127) (pc' := 134) rfl (hb hby at_127) rfl (feq h5).2 (by decide) (by decide) zz_) ?_
              show Dn p e below s (own_Q n0) 16 128 (T15.setTop (mkF m 134 #[.val (.int i0), .val (.int i1), .val (.int i2), .val (.int mj), .val (.int sel), .val (.int mn), .val (.ref b14), .val (.int (1 : Int32)), .unset, .unset] []))
              refine Dn.of (fun tt_ zz_ => XS.iconst X15.here hx rfl (hb hby at_134) zz_) ?_
              show Dn p e below s (own_Q n0) 16 128 (T15.setTop (mkF m 135 #[.val (.int i0), .val (.int i1), .val (.int i2), .val (.int mj), .val (.int sel), .val (.int mn), .val (.ref b14), .val (.int (1 : Int32)), .unset, .unset] [(.int (0 : Int32))]))
              refine Dn.of (fun tt_ zz_ => XS.istore X15.here hx rfl (hb hby at_135) rfl (l' := #[.val (.int i0), .val (.int i1), .val (.int i2), .val (.int mj), .val (.int sel), .val (.int mn), .val (.ref b14), .val (.int (1 : Int32)), .val (.int (0 : Int32)), .unset]) rfl zz_) ?_
              show Dn p e below s (own_Q n0) 16 128 (T15.setTop (mkF m 137 #[.val (.int i0), .val (.int i1), .val (.int i2), .val (.int mj), .val (.int sel), .val (.int mn), .val (.ref b14), .val (.int (1 : Int32)), .val (.int (0 : Int32)), .unset] []))
              refine Dn.of (fun tt_ zz_ => XS.iload X15.here hx rfl (hb hby at_137) rfl zz_) ?_
              show Dn p e below s (own_Q n0) 16 128 (T15.setTop (mkF m 139 #[.val (.int i0), .val (.int i1), .val (.int i2), .val (.int mj), .val (.int sel), .val (.int mn), .val (.ref b14), .val (.int (1 : Int32)), .val (.int (0 : Int32)), .unset] [(.int (1 : Int32))]))
              refine Dn.of (fun tt_ zz_ => XS.ifNo X15.here hx rfl (hb hby at_139) rfl ((if0 _ _).trans (feq (by decide)).1) zz_) ?_
              show Dn p e below s (own_Q n0) 16 128 (T15.setTop (mkF m 142 #[.val (.int i0), .val (.int i1), .val (.int i2), .val (.int mj), .val (.int sel), .val (.int mn), .val (.ref b14), .val (.int (1 : Int32)), .val (.int (0 : Int32)), .unset] []))
              refine Dn.of (fun tt_ zz_ => XS.iload X15.here hx rfl (hb hby at_142) rfl zz_) ?_
              show Dn p e below s (own_Q n0) 16 128 (T15.setTop (mkF m 144 #[.val (.int i0), .val (.int i1), .val (.int i2), .val (.int mj), .val (.int sel), .val (.int mn), .val (.ref b14), .val (.int (1 : Int32)), .val (.int (0 : Int32)), .unset] [(.int (0 : Int32))]))
              refine Dn.of (fun tt_ zz_ => XS.ifYes X15.here hx rfl (pc0 := 144) (pc' := 151) rfl (hb hby at_144) rfl ((if0 _ _).trans (teq rfl).1) (by decide) (by decide) zz_) ?_
              show Dn p e below s (own_Q n0) 16 128 (T15.setTop (mkF m 151 #[.val (.int i0), .val (.int i1), .val (.int i2), .val (.int mj), .val (.int sel), .val (.int mn), .val (.ref b14), .val (.int (1 : Int32)), .val (.int (0 : Int32)), .unset] []))
              refine Dn.of (fun tt_ zz_ => XS.iconst X15.here hx rfl (hb hby at_151) zz_) ?_
              show Dn p e below s (own_Q n0) 16 128 (T15.setTop (mkF m 152 #[.val (.int i0), .val (.int i1), .val (.int i2), .val (.int mj), .val (.int sel), .val (.int mn), .val (.ref b14), .val (.int (1 : Int32)), .val (.int (0 : Int32)), .unset] [(.int (0 : Int32))]))
              refine Dn.of (fun tt_ zz_ => XS.istore X15.here hx rfl (hb hby at_152) rfl (l' := #[.val (.int i0), .val (.int i1), .val (.int i2), .val (.int mj), .val (.int sel), .val (.int mn), .val (.ref b14), .val (.int (1 : Int32)), .val (.int (0 : Int32)), .val (.int (0 : Int32))]) rfl zz_) ?_
              show Dn p e below s (own_Q n0) 16 128 (T15.setTop (mkF m 154 #[.val (.int i0), .val (.int i1), .val (.int i2), .val (.int mj), .val (.int sel), .val (.int mn), .val (.ref b14), .val (.int (1 : Int32)), .val (.int (0 : Int32)), .val (.int (0 : Int32))] []))
              exact K9 (1 : Int32) (0 : Int32) (0 : Int32) (by simp [own_sup, h1, h2, h3, h4, h5])
        · skip
          refine Dn.of (fun tt_ zz_ => XS.icmpYes X15.here hx rfl (pc0 := 115) (pc' := 130) rfl (hb hby at_115) rfl (flt h3).2.2.2 (by decide) (by decide) zz_) ?_
          show Dn p e below s (own_Q n0) 16 128 (T15.setTop (mkF m 130 #[.val (.int i0), .val (.int i1), .val (.int i2), .val (.int mj), .val (.int sel), .val (.int mn), .val (.ref b14), .val (.int (1 : Int32)), .unset, .unset] []))
          refine Dn.of (fun tt_ zz_ => XS.iconst X15.here hx rfl (hb hby at_130) zz_) ?_
          show Dn p e below s (own_Q n0) 16 128 (T15.setTop (mkF m 131 #[.val (.int i0), .val (.int i1), .val (.int i2), .val (.int mj), .val (.int sel), .val (.int mn), .val (.ref b14), .val (.int (1 : Int32)), .unset, .unset] [(.int (1 : Int32))]))
          refine Dn.of (fun tt_ zz_ => XS.goto X15.here hx rfl (pc0 := 131) (pc' := 135) rfl (hb hby at_131) (by decide) (by decide) zz_) ?_
          show Dn p e below s (own_Q n0) 16 128 (T15.setTop (mkF m 135 #[.val (.int i0), .val (.int i1), .val (.int i2), .val (.int mj), .val (.int sel), .val (.int mn), .val (.ref b14), .val (.int (1 : Int32)), .unset, .unset] [(.int (1 : Int32))]))
          refine Dn.of (fun tt_ zz_ => XS.istore X15.here hx rfl (hb hby at_135) rfl (l' := #[.val (.int i0), .val (.int i1), .val (.int i2), .val (.int mj), .val (.int sel), .val (.int mn), .val (.ref b14), .val (.int (1 : Int32)), .val (.int (1 : Int32)), .unset]) rfl zz_) ?_
          show Dn p e below s (own_Q n0) 16 128 (T15.setTop (mkF m 137 #[.val (.int i0), .val (.int i1), .val (.int i2), .val (.int mj), .val (.int sel), .val (.int mn), .val (.ref b14), .val (.int (1 : Int32)), .val (.int (1 : Int32)), .unset] []))
          refine Dn.of (fun tt_ zz_ => XS.iload X15.here hx rfl (hb hby at_137) rfl zz_) ?_
          show Dn p e below s (own_Q n0) 16 128 (T15.setTop (mkF m 139 #[.val (.int i0), .val (.int i1), .val (.int i2), .val (.int mj), .val (.int sel), .val (.int mn), .val (.ref b14), .val (.int (1 : Int32)), .val (.int (1 : Int32)), .unset] [(.int (1 : Int32))]))
          refine Dn.of (fun tt_ zz_ => XS.ifNo X15.here hx rfl (hb hby at_139) rfl ((if0 _ _).trans (feq (by decide)).1) zz_) ?_
          show Dn p e below s (own_Q n0) 16 128 (T15.setTop (mkF m 142 #[.val (.int i0), .val (.int i1), .val (.int i2), .val (.int mj), .val (.int sel), .val (.int mn), .val (.ref b14), .val (.int (1 : Int32)), .val (.int (1 : Int32)), .unset] []))
          refine Dn.of (fun tt_ zz_ => XS.iload X15.here hx rfl (hb hby at_142) rfl zz_) ?_
          show Dn p e below s (own_Q n0) 16 128 (T15.setTop (mkF m 144 #[.val (.int i0), .val (.int i1), .val (.int i2), .val (.int mj), .val (.int sel), .val (.int mn), .val (.ref b14), .val (.int (1 : Int32)), .val (.int (1 : Int32)), .unset] [(.int (1 : Int32))]))
          refine Dn.of (fun tt_ zz_ => XS.ifNo X15.here hx rfl (hb hby at_144) rfl ((if0 _ _).trans (feq (by decide)).1) zz_) ?_
          show Dn p e below s (own_Q n0) 16 128 (T15.setTop (mkF m 147 #[.val (.int i0), .val (.int i1), .val (.int i2), .val (.int mj), .val (.int sel), .val (.int mn), .val (.ref b14), .val (.int (1 : Int32)), .val (.int (1 : Int32)), .unset] []))
          refine Dn.of (fun tt_ zz_ => XS.iconst X15.here hx rfl (hb hby at_147) zz_) ?_
          show Dn p e below s (own_Q n0) 16 128 (T15.setTop (mkF m 148 #[.val (.int i0), .val (.int i1), .val (.int i2), .val (.int mj), .val (.int sel), .val (.int mn), .val (.ref b14), .val (.int (1 : Int32)), .val (.int (1 : Int32)), .unset] [(.int (1 : Int32))]))
          refine Dn.of (fun tt_ zz_ => XS.goto X15.here hx rfl (pc0 := 148) (pc' := 152) rfl (hb hby at_148) (by decide) (by decide) zz_) ?_
          show Dn p e below s (own_Q n0) 16 128 (T15.setTop (mkF m 152 #[.val (.int i0), .val (.int i1), .val (.int i2), .val (.int mj), .val (.int sel), .val (.int mn), .val (.ref b14), .val (.int (1 : Int32)), .val (.int (1 : Int32)), .unset] [(.int (1 : Int32))]))
          refine Dn.of (fun tt_ zz_ => XS.istore X15.here hx rfl (hb hby at_152) rfl (l' := #[.val (.int i0), .val (.int i1), .val (.int i2), .val (.int mj), .val (.int sel), .val (.int mn), .val (.ref b14), .val (.int (1 : Int32)), .val (.int (1 : Int32)), .val (.int (1 : Int32))]) rfl zz_) ?_
          show Dn p e below s (own_Q n0) 16 128 (T15.setTop (mkF m 154 #[.val (.int i0), .val (.int i1), .val (.int i2), .val (.int mj), .val (.int sel), .val (.int mn), .val (.ref b14), .val (.int (1 : Int32)), .val (.int (1 : Int32)), .val (.int (1 : Int32))] []))
          exact K9 (1 : Int32) (1 : Int32) (1 : Int32) (by simp [own_sup, h1, h2, h3])
  have K32 : ∀ mj sel : Int32, ¬ mj < 0 → ¬ 65535 < mj → Dn p e below s (own_Q n0) 16 128 (s₁.setTop (mkF m 32 #[.val (.int i0), .val (.int i1), .val (.int i2), .val (.int mj), .val (.int sel), .unset, .unset, .unset, .unset, .unset] [])) := by
    intro mj sel c1 c2
    refine Dn.of (fun tt_ zz_ => XS.iload X0.here hx rfl (hb hby at_32) rfl zz_) ?_
    show Dn p e below s (own_Q n0) 16 128 (s₁.setTop (mkF m 34 #[.val (.int i0), .val (.int i1), .val (.int i2), .val (.int mj), .val (.int sel), .unset, .unset, .unset, .unset, .unset] [(.int sel)]))
    by_cases h1 : sel = (0 : Int32)
    · skip
      refine Dn.of (fun tt_ zz_ => XS.ifNo X0.here hx rfl (hb hby at_34) rfl ((if0 _ _).trans (teq h1).2) zz_) ?_
      show Dn p e below s (own_Q n0) 16 128 (s₁.setTop (mkF m 37 #[.val (.int i0), .val (.int i1), .val (.int i2), .val (.int mj), .val (.int sel), .unset, .unset, .unset, .unset, .unset] []))
      refine Dn.of (fun tt_ zz_ => XS.iloadN X0.here hx rfl (hb hby at_37) rfl zz_) ?_
      show Dn p e below s (own_Q n0) 16 128 (s₁.setTop (mkF m 38 #[.val (.int i0), .val (.int i1), .val (.int i2), .val (.int mj), .val (.int sel), .unset, .unset, .unset, .unset, .unset] [(.int i1)]))
      refine Dn.of (fun tt_ zz_ => X0.ldcI hx hown (mvT hZ (hw _ (List.mem_of_getElem? (i := 27) rfl))) rfl (hb hby at_38) zz_) ?_
      show Dn p e below s (own_Q n0) 16 128 (s₁.setTop (mkF m 40 #[.val (.int i0), .val (.int i1), .val (.int i2), .val (.int mj), .val (.int sel), .unset, .unset, .unset, .unset, .unset] [(.int (65535 : Int32)), (.int i1)]))
      refine Dn.of (fun tt_ zz_ => XS.iand X0.here hx rfl (hb hby at_40) rfl zz_) ?_
      show Dn p e below s (own_Q n0) 16 128 (s₁.setTop (mkF m 41 #[.val (.int i0), .val (.int i1), .val (.int i2), .val (.int mj), .val (.int sel), .unset, .unset, .unset, .unset, .unset] [(.int (i1 &&& (65535 : Int32)))]))
      refine Dn.of (fun tt_ zz_ => XS.istore X0.here hx rfl (hb hby at_41) rfl (l' := #[.val (.int i0), .val (.int i1), .val (.int i2), .val (.int mj), .val (.int sel), .val (.int (i1 &&& (65535 : Int32))), .unset, .unset, .unset, .unset]) rfl zz_) ?_
      show Dn p e below s (own_Q n0) 16 128 (s₁.setTop (mkF m 43 #[.val (.int i0), .val (.int i1), .val (.int i2), .val (.int mj), .val (.int sel), .val (.int (i1 &&& (65535 : Int32))), .unset, .unset, .unset, .unset] []))
      refine Dn.of (fun tt_ zz_ => XS.goto X0.here hx rfl (pc0 := 43) (pc' := 81) rfl (hb hby at_43) (by decide) (by decide) zz_) ?_
      show Dn p e below s (own_Q n0) 16 128 (s₁.setTop (mkF m 81 #[.val (.int i0), .val (.int i1), .val (.int i2), .val (.int mj), .val (.int sel), .val (.int (i1 &&& (65535 : Int32))), .unset, .unset, .unset, .unset] []))
      exact K81 _ _ _ c1 c2 (own_m16 i1).1 (own_m16 i1).2
    · skip
      refine Dn.of (fun tt_ zz_ => XS.ifYes X0.here hx rfl (pc0 := 34) (pc' := 46) rfl (hb hby at_34) rfl ((if0 _ _).trans (feq h1).2) (by decide) (by decide) zz_) ?_
      show Dn p e below s (own_Q n0) 16 128 (s₁.setTop (mkF m 46 #[.val (.int i0), .val (.int i1), .val (.int i2), .val (.int mj), .val (.int sel), .unset, .unset, .unset, .unset, .unset] []))
      refine Dn.of (fun tt_ zz_ => XS.iload X0.here hx rfl (hb hby at_46) rfl zz_) ?_
      show Dn p e below s (own_Q n0) 16 128 (s₁.setTop (mkF m 48 #[.val (.int i0), .val (.int i1), .val (.int i2), .val (.int mj), .val (.int sel), .unset, .unset, .unset, .unset, .unset] [(.int sel)]))
      refine Dn.of (fun tt_ zz_ => XS.iconst X0.here hx rfl (hb hby at_48) zz_) ?_
      show Dn p e below s (own_Q n0) 16 128 (s₁.setTop (mkF m 49 #[.val (.int i0), .val (.int i1), .val (.int i2), .val (.int mj), .val (.int sel), .unset, .unset, .unset, .unset, .unset] [(.int (1 : Int32)), (.int sel)]))
      by_cases h2 : sel = (1 : Int32)
      · skip
        refine Dn.of (fun tt_ zz_ => XS.icmpNo X0.here hx rfl (hb hby at_49) rfl (teq h2).2 zz_) ?_
        show Dn p e below s (own_Q n0) 16 128 (s₁.setTop (mkF m 52 #[.val (.int i0), .val (.int i1), .val (.int i2), .val (.int mj), .val (.int sel), .unset, .unset, .unset, .unset, .unset] []))
        refine Dn.of (fun tt_ zz_ => XS.iconst X0.here hx rfl (hb hby at_52) zz_) ?_
        show Dn p e below s (own_Q n0) 16 128 (s₁.setTop (mkF m 53 #[.val (.int i0), .val (.int i1), .val (.int i2), .val (.int mj), .val (.int sel), .unset, .unset, .unset, .unset, .unset] [(.int (0 : Int32))]))
        refine Dn.of (fun tt_ zz_ => XS.istore X0.here hx rfl (hb hby at_53) rfl (l' := #[.val (.int i0), .val (.int i1), .val (.int i2), .val (.int mj), .val (.int sel), .val (.int (0 : Int32)), .unset, .unset, .unset, .unset]) rfl zz_) ?_
        show Dn p e below s (own_Q n0) 16 128 (s₁.setTop (mkF m 55 #[.val (.int i0), .val (.int i1), .val (.int i2), .val (.int mj), .val (.int sel), .val (.int (0 : Int32)), .unset, .unset, .unset, .unset] []))
        refine Dn.of (fun tt_ zz_ => XS.goto X0.here hx rfl (pc0 := 55) (pc' := 81) rfl (hb hby at_55) (by decide) (by decide) zz_) ?_
        show Dn p e below s (own_Q n0) 16 128 (s₁.setTop (mkF m 81 #[.val (.int i0), .val (.int i1), .val (.int i2), .val (.int mj), .val (.int sel), .val (.int (0 : Int32)), .unset, .unset, .unset, .unset] []))
        exact K81 _ _ _ c1 c2 (by decide) (by decide)
      · skip
        refine Dn.of (fun tt_ zz_ => XS.icmpYes X0.here hx rfl (pc0 := 49) (pc' := 58) rfl (hb hby at_49) rfl (feq h2).2 (by decide) (by decide) zz_) ?_
        show Dn p e below s (own_Q n0) 16 128 (s₁.setTop (mkF m 58 #[.val (.int i0), .val (.int i1), .val (.int i2), .val (.int mj), .val (.int sel), .unset, .unset, .unset, .unset, .unset] []))
        refine Dn.of (fun tt_ zz_ => XS.iload X0.here hx rfl (hb hby at_58) rfl zz_) ?_
        show Dn p e below s (own_Q n0) 16 128 (s₁.setTop (mkF m 60 #[.val (.int i0), .val (.int i1), .val (.int i2), .val (.int mj), .val (.int sel), .unset, .unset, .unset, .unset, .unset] [(.int sel)]))
        refine Dn.of (fun tt_ zz_ => XS.iconst X0.here hx rfl (hb hby at_60) zz_) ?_
        show Dn p e below s (own_Q n0) 16 128 (s₁.setTop (mkF m 61 #[.val (.int i0), .val (.int i1), .val (.int i2), .val (.int mj), .val (.int sel), .unset, .unset, .unset, .unset, .unset] [(.int (2 : Int32)), (.int sel)]))
        by_cases h3 : sel = (2 : Int32)
        · skip
          refine Dn.of (fun tt_ zz_ => XS.icmpNo X0.here hx rfl (hb hby at_61) rfl (teq h3).2 zz_) ?_
          show Dn p e below s (own_Q n0) 16 128 (s₁.setTop (mkF m 64 #[.val (.int i0), .val (.int i1), .val (.int i2), .val (.int mj), .val (.int sel), .unset, .unset, .unset, .unset, .unset] []))
          refine Dn.of (fun tt_ zz_ => X0.ldcI hx hown (mvT hZ (hw _ (List.mem_of_getElem? (i := 27) rfl))) rfl (hb hby at_64) zz_) ?_
          show Dn p e below s (own_Q n0) 16 128 (s₁.setTop (mkF m 66 #[.val (.int i0), .val (.int i1), .val (.int i2), .val (.int mj), .val (.int sel), .unset, .unset, .unset, .unset, .unset] [(.int (65535 : Int32))]))
          refine Dn.of (fun tt_ zz_ => XS.istore X0.here hx rfl (hb hby at_66) rfl (l' := #[.val (.int i0), .val (.int i1), .val (.int i2), .val (.int mj), .val (.int sel), .val (.int (65535 : Int32)), .unset, .unset, .unset, .unset]) rfl zz_) ?_
          show Dn p e below s (own_Q n0) 16 128 (s₁.setTop (mkF m 68 #[.val (.int i0), .val (.int i1), .val (.int i2), .val (.int mj), .val (.int sel), .val (.int (65535 : Int32)), .unset, .unset, .unset, .unset] []))
          refine Dn.of (fun tt_ zz_ => XS.goto X0.here hx rfl (pc0 := 68) (pc' := 81) rfl (hb hby at_68) (by decide) (by decide) zz_) ?_
          show Dn p e below s (own_Q n0) 16 128 (s₁.setTop (mkF m 81 #[.val (.int i0), .val (.int i1), .val (.int i2), .val (.int mj), .val (.int sel), .val (.int (65535 : Int32)), .unset, .unset, .unset, .unset] []))
          exact K81 _ _ _ c1 c2 (by decide) (by decide)
        · skip
          refine Dn.of (fun tt_ zz_ => XS.icmpYes X0.here hx rfl (pc0 := 61) (pc' := 71) rfl (hb hby at_61) rfl (feq h3).2 (by decide) (by decide) zz_) ?_
          show Dn p e below s (own_Q n0) 16 128 (s₁.setTop (mkF m 71 #[.val (.int i0), .val (.int i1), .val (.int i2), .val (.int mj), .val (.int sel), .unset, .unset, .unset, .unset, .unset] []))
          refine Dn.of (fun tt_ zz_ => XS.iconst X0.here hx rfl (hb hby at_71) zz_) ?_
          show Dn p e below s (own_Q n0) 16 128 (s₁.setTop (mkF m 72 #[.val (.int i0), .val (.int i1), .val (.int i2), .val (.int mj), .val (.int sel), .unset, .unset, .unset, .unset, .unset] [(.int (1 : Int32))]))
          refine Dn.of (fun tt_ zz_ => XS.iloadN X0.here hx rfl (hb hby at_72) rfl zz_) ?_
          show Dn p e below s (own_Q n0) 16 128 (s₁.setTop (mkF m 73 #[.val (.int i0), .val (.int i1), .val (.int i2), .val (.int mj), .val (.int sel), .unset, .unset, .unset, .unset, .unset] [(.int i1), (.int (1 : Int32))]))
          refine Dn.of (fun tt_ zz_ => XS.iconst X0.here hx rfl (hb hby at_73) zz_) ?_
          show Dn p e below s (own_Q n0) 16 128 (s₁.setTop (mkF m 74 #[.val (.int i0), .val (.int i1), .val (.int i2), .val (.int mj), .val (.int sel), .unset, .unset, .unset, .unset, .unset] [(.int (1 : Int32)), (.int i1), (.int (1 : Int32))]))
          refine Dn.of (fun tt_ zz_ => XS.iand X0.here hx rfl (hb hby at_74) rfl zz_) ?_
          show Dn p e below s (own_Q n0) 16 128 (s₁.setTop (mkF m 75 #[.val (.int i0), .val (.int i1), .val (.int i2), .val (.int mj), .val (.int sel), .unset, .unset, .unset, .unset, .unset] [(.int (i1 &&& (1 : Int32))), (.int (1 : Int32))]))
          refine Dn.of (fun tt_ zz_ => X0.ldcI hx hown (mvT hZ (hw _ (List.mem_of_getElem? (i := 28) rfl))) rfl (hb hby at_75) zz_) ?_
          show Dn p e below s (own_Q n0) 16 128 (s₁.setTop (mkF m 77 #[.val (.int i0), .val (.int i1), .val (.int i2), .val (.int mj), .val (.int sel), .unset, .unset, .unset, .unset, .unset] [(.int (65533 : Int32)), (.int (i1 &&& (1 : Int32))), (.int (1 : Int32))]))
          refine Dn.of (fun tt_ zz_ => XS.imul X0.here hx rfl (hb hby at_77) rfl zz_) ?_
          show Dn p e below s (own_Q n0) 16 128 (s₁.setTop (mkF m 78 #[.val (.int i0), .val (.int i1), .val (.int i2), .val (.int mj), .val (.int sel), .unset, .unset, .unset, .unset, .unset] [(.int ((i1 &&& (1 : Int32)) * (65533 : Int32))), (.int (1 : Int32))]))
          refine Dn.of (fun tt_ zz_ => XS.iadd X0.here hx rfl (hb hby at_78) rfl zz_) ?_
          show Dn p e below s (own_Q n0) 16 128 (s₁.setTop (mkF m 79 #[.val (.int i0), .val (.int i1), .val (.int i2), .val (.int mj), .val (.int sel), .unset, .unset, .unset, .unset, .unset] [(.int ((1 : Int32) + ((i1 &&& (1 : Int32)) * (65533 : Int32))))]))
          refine Dn.of (fun tt_ zz_ => XS.istore X0.here hx rfl (hb hby at_79) rfl (l' := #[.val (.int i0), .val (.int i1), .val (.int i2), .val (.int mj), .val (.int sel), .val (.int ((1 : Int32) + ((i1 &&& (1 : Int32)) * (65533 : Int32)))), .unset, .unset, .unset, .unset]) rfl zz_) ?_
          show Dn p e below s (own_Q n0) 16 128 (s₁.setTop (mkF m 81 #[.val (.int i0), .val (.int i1), .val (.int i2), .val (.int mj), .val (.int sel), .val (.int ((1 : Int32) + ((i1 &&& (1 : Int32)) * (65533 : Int32)))), .unset, .unset, .unset, .unset] []))
          exact K81 _ _ _ c1 c2 (own_mn i1).1 (own_mn i1).2
  refine Dn.of (fun tt_ zz_ => XS.iloadN X0.here hx rfl (hb hby at_0) rfl zz_) ?_
  show Dn p e below s (own_Q n0) 16 128 (s₁.setTop (mkF m 1 #[.val (.int i0), .val (.int i1), .val (.int i2), .unset, .unset, .unset, .unset, .unset, .unset, .unset] [(.int i2)]))
  refine Dn.of (fun tt_ zz_ => XS.iconst X0.here hx rfl (hb hby at_1) zz_) ?_
  show Dn p e below s (own_Q n0) 16 128 (s₁.setTop (mkF m 2 #[.val (.int i0), .val (.int i1), .val (.int i2), .unset, .unset, .unset, .unset, .unset, .unset, .unset] [(.int (1 : Int32)), (.int i2)]))
  refine Dn.of (fun tt_ zz_ => XS.iand X0.here hx rfl (hb hby at_2) rfl zz_) ?_
  show Dn p e below s (own_Q n0) 16 128 (s₁.setTop (mkF m 3 #[.val (.int i0), .val (.int i1), .val (.int i2), .unset, .unset, .unset, .unset, .unset, .unset, .unset] [(.int (i2 &&& (1 : Int32)))]))
  by_cases h1 : (i2 &&& (1 : Int32)) = (0 : Int32)
  · skip
    refine Dn.of (fun tt_ zz_ => XS.ifYes X0.here hx rfl (pc0 := 3) (pc' := 14) rfl (hb hby at_3) rfl ((if0 _ _).trans (teq h1).1) (by decide) (by decide) zz_) ?_
    show Dn p e below s (own_Q n0) 16 128 (s₁.setTop (mkF m 14 #[.val (.int i0), .val (.int i1), .val (.int i2), .unset, .unset, .unset, .unset, .unset, .unset, .unset] []))
    refine Dn.of (fun tt_ zz_ => XS.bipush X0.here hx rfl (hb hby at_14) zz_) ?_
    show Dn p e below s (own_Q n0) 16 128 (s₁.setTop (mkF m 16 #[.val (.int i0), .val (.int i1), .val (.int i2), .unset, .unset, .unset, .unset, .unset, .unset, .unset] [(.int (40 : Int32))]))
    refine Dn.of (fun tt_ zz_ => XS.iloadN X0.here hx rfl (hb hby at_16) rfl zz_) ?_
    show Dn p e below s (own_Q n0) 16 128 (s₁.setTop (mkF m 17 #[.val (.int i0), .val (.int i1), .val (.int i2), .unset, .unset, .unset, .unset, .unset, .unset, .unset] [(.int i0), (.int (40 : Int32))]))
    refine Dn.of (fun tt_ zz_ => X0.ldcI hx hown (mvT hZ (hw _ (List.mem_of_getElem? (i := 0) rfl))) rfl (hb hby at_17) zz_) ?_
    show Dn p e below s (own_Q n0) 16 128 (s₁.setTop (mkF m 19 #[.val (.int i0), .val (.int i1), .val (.int i2), .unset, .unset, .unset, .unset, .unset, .unset, .unset] [(.int (2147483647 : Int32)), (.int i0), (.int (40 : Int32))]))
    refine Dn.of (fun tt_ zz_ => XS.iand X0.here hx rfl (hb hby at_19) rfl zz_) ?_
    show Dn p e below s (own_Q n0) 16 128 (s₁.setTop (mkF m 20 #[.val (.int i0), .val (.int i1), .val (.int i2), .unset, .unset, .unset, .unset, .unset, .unset, .unset] [(.int (i0 &&& (2147483647 : Int32))), (.int (40 : Int32))]))
    refine Dn.of (fun tt_ zz_ => XS.bipush X0.here hx rfl (hb hby at_20) zz_) ?_
    show Dn p e below s (own_Q n0) 16 128 (s₁.setTop (mkF m 22 #[.val (.int i0), .val (.int i1), .val (.int i2), .unset, .unset, .unset, .unset, .unset, .unset, .unset] [(.int (35 : Int32)), (.int (i0 &&& (2147483647 : Int32))), (.int (40 : Int32))]))
    refine Dn.of (fun tt_ zz_ => iremM X0 hx rfl (hb hby at_22) rfl (by decide) zz_) ?_
    show Dn p e below s (own_Q n0) 16 128 (s₁.setTop (mkF m 23 #[.val (.int i0), .val (.int i1), .val (.int i2), .unset, .unset, .unset, .unset, .unset, .unset, .unset] [(.int ((i0 &&& (2147483647 : Int32)) % (35 : Int32))), (.int (40 : Int32))]))
    refine Dn.of (fun tt_ zz_ => XS.iadd X0.here hx rfl (hb hby at_23) rfl zz_) ?_
    show Dn p e below s (own_Q n0) 16 128 (s₁.setTop (mkF m 24 #[.val (.int i0), .val (.int i1), .val (.int i2), .unset, .unset, .unset, .unset, .unset, .unset, .unset] [(.int ((40 : Int32) + ((i0 &&& (2147483647 : Int32)) % (35 : Int32))))]))
    refine Dn.of (fun tt_ zz_ => XS.istoreN X0.here hx rfl (hb hby at_24) rfl (l' := #[.val (.int i0), .val (.int i1), .val (.int i2), .val (.int ((40 : Int32) + ((i0 &&& (2147483647 : Int32)) % (35 : Int32)))), .unset, .unset, .unset, .unset, .unset, .unset]) rfl zz_) ?_
    show Dn p e below s (own_Q n0) 16 128 (s₁.setTop (mkF m 25 #[.val (.int i0), .val (.int i1), .val (.int i2), .val (.int ((40 : Int32) + ((i0 &&& (2147483647 : Int32)) % (35 : Int32)))), .unset, .unset, .unset, .unset, .unset, .unset] []))
    refine Dn.of (fun tt_ zz_ => XS.iloadN X0.here hx rfl (hb hby at_25) rfl zz_) ?_
    show Dn p e below s (own_Q n0) 16 128 (s₁.setTop (mkF m 26 #[.val (.int i0), .val (.int i1), .val (.int i2), .val (.int ((40 : Int32) + ((i0 &&& (2147483647 : Int32)) % (35 : Int32)))), .unset, .unset, .unset, .unset, .unset, .unset] [(.int i2)]))
    refine Dn.of (fun tt_ zz_ => XS.iconst X0.here hx rfl (hb hby at_26) zz_) ?_
    show Dn p e below s (own_Q n0) 16 128 (s₁.setTop (mkF m 27 #[.val (.int i0), .val (.int i1), .val (.int i2), .val (.int ((40 : Int32) + ((i0 &&& (2147483647 : Int32)) % (35 : Int32)))), .unset, .unset, .unset, .unset, .unset, .unset] [(.int (1 : Int32)), (.int i2)]))
    refine Dn.of (fun tt_ zz_ => XS.iushr X0.here hx rfl (hb hby at_27) rfl zz_) ?_
    show Dn p e below s (own_Q n0) 16 128 (s₁.setTop (mkF m 28 #[.val (.int i0), .val (.int i1), .val (.int i2), .val (.int ((40 : Int32) + ((i0 &&& (2147483647 : Int32)) % (35 : Int32)))), .unset, .unset, .unset, .unset, .unset, .unset] [(.int ((i2.toUInt32 >>> ((1 : Int32) &&& 31).toUInt32).toInt32))]))
    refine Dn.of (fun tt_ zz_ => XS.iconst X0.here hx rfl (hb hby at_28) zz_) ?_
    show Dn p e below s (own_Q n0) 16 128 (s₁.setTop (mkF m 29 #[.val (.int i0), .val (.int i1), .val (.int i2), .val (.int ((40 : Int32) + ((i0 &&& (2147483647 : Int32)) % (35 : Int32)))), .unset, .unset, .unset, .unset, .unset, .unset] [(.int (3 : Int32)), (.int ((i2.toUInt32 >>> ((1 : Int32) &&& 31).toUInt32).toInt32))]))
    refine Dn.of (fun tt_ zz_ => XS.iand X0.here hx rfl (hb hby at_29) rfl zz_) ?_
    show Dn p e below s (own_Q n0) 16 128 (s₁.setTop (mkF m 30 #[.val (.int i0), .val (.int i1), .val (.int i2), .val (.int ((40 : Int32) + ((i0 &&& (2147483647 : Int32)) % (35 : Int32)))), .unset, .unset, .unset, .unset, .unset, .unset] [(.int (((i2.toUInt32 >>> ((1 : Int32) &&& 31).toUInt32).toInt32) &&& (3 : Int32)))]))
    refine Dn.of (fun tt_ zz_ => XS.istore X0.here hx rfl (hb hby at_30) rfl (l' := #[.val (.int i0), .val (.int i1), .val (.int i2), .val (.int ((40 : Int32) + ((i0 &&& (2147483647 : Int32)) % (35 : Int32)))), .val (.int (((i2.toUInt32 >>> ((1 : Int32) &&& 31).toUInt32).toInt32) &&& (3 : Int32))), .unset, .unset, .unset, .unset, .unset]) rfl zz_) ?_
    show Dn p e below s (own_Q n0) 16 128 (s₁.setTop (mkF m 32 #[.val (.int i0), .val (.int i1), .val (.int i2), .val (.int ((40 : Int32) + ((i0 &&& (2147483647 : Int32)) % (35 : Int32)))), .val (.int (((i2.toUInt32 >>> ((1 : Int32) &&& 31).toUInt32).toInt32) &&& (3 : Int32))), .unset, .unset, .unset, .unset, .unset] []))
    exact K32 _ _ (own_m35 i0).1 (own_m35 i0).2
  · skip
    refine Dn.of (fun tt_ zz_ => XS.ifNo X0.here hx rfl (hb hby at_3) rfl ((if0 _ _).trans (feq h1).1) zz_) ?_
    show Dn p e below s (own_Q n0) 16 128 (s₁.setTop (mkF m 6 #[.val (.int i0), .val (.int i1), .val (.int i2), .unset, .unset, .unset, .unset, .unset, .unset, .unset] []))
    refine Dn.of (fun tt_ zz_ => XS.iloadN X0.here hx rfl (hb hby at_6) rfl zz_) ?_
    show Dn p e below s (own_Q n0) 16 128 (s₁.setTop (mkF m 7 #[.val (.int i0), .val (.int i1), .val (.int i2), .unset, .unset, .unset, .unset, .unset, .unset, .unset] [(.int i0)]))
    refine Dn.of (fun tt_ zz_ => X0.ldcI hx hown (mvT hZ (hw _ (List.mem_of_getElem? (i := 27) rfl))) rfl (hb hby at_7) zz_) ?_
    show Dn p e below s (own_Q n0) 16 128 (s₁.setTop (mkF m 9 #[.val (.int i0), .val (.int i1), .val (.int i2), .unset, .unset, .unset, .unset, .unset, .unset, .unset] [(.int (65535 : Int32)), (.int i0)]))
    refine Dn.of (fun tt_ zz_ => XS.iand X0.here hx rfl (hb hby at_9) rfl zz_) ?_
    show Dn p e below s (own_Q n0) 16 128 (s₁.setTop (mkF m 10 #[.val (.int i0), .val (.int i1), .val (.int i2), .unset, .unset, .unset, .unset, .unset, .unset, .unset] [(.int (i0 &&& (65535 : Int32)))]))
    refine Dn.of (fun tt_ zz_ => XS.istoreN X0.here hx rfl (hb hby at_10) rfl (l' := #[.val (.int i0), .val (.int i1), .val (.int i2), .val (.int (i0 &&& (65535 : Int32))), .unset, .unset, .unset, .unset, .unset, .unset]) rfl zz_) ?_
    show Dn p e below s (own_Q n0) 16 128 (s₁.setTop (mkF m 11 #[.val (.int i0), .val (.int i1), .val (.int i2), .val (.int (i0 &&& (65535 : Int32))), .unset, .unset, .unset, .unset, .unset, .unset] []))
    refine Dn.of (fun tt_ zz_ => XS.goto X0.here hx rfl (pc0 := 11) (pc' := 25) rfl (hb hby at_11) (by decide) (by decide) zz_) ?_
    show Dn p e below s (own_Q n0) 16 128 (s₁.setTop (mkF m 25 #[.val (.int i0), .val (.int i1), .val (.int i2), .val (.int (i0 &&& (65535 : Int32))), .unset, .unset, .unset, .unset, .unset, .unset] []))
    refine Dn.of (fun tt_ zz_ => XS.iloadN X0.here hx rfl (hb hby at_25) rfl zz_) ?_
    show Dn p e below s (own_Q n0) 16 128 (s₁.setTop (mkF m 26 #[.val (.int i0), .val (.int i1), .val (.int i2), .val (.int (i0 &&& (65535 : Int32))), .unset, .unset, .unset, .unset, .unset, .unset] [(.int i2)]))
    refine Dn.of (fun tt_ zz_ => XS.iconst X0.here hx rfl (hb hby at_26) zz_) ?_
    show Dn p e below s (own_Q n0) 16 128 (s₁.setTop (mkF m 27 #[.val (.int i0), .val (.int i1), .val (.int i2), .val (.int (i0 &&& (65535 : Int32))), .unset, .unset, .unset, .unset, .unset, .unset] [(.int (1 : Int32)), (.int i2)]))
    refine Dn.of (fun tt_ zz_ => XS.iushr X0.here hx rfl (hb hby at_27) rfl zz_) ?_
    show Dn p e below s (own_Q n0) 16 128 (s₁.setTop (mkF m 28 #[.val (.int i0), .val (.int i1), .val (.int i2), .val (.int (i0 &&& (65535 : Int32))), .unset, .unset, .unset, .unset, .unset, .unset] [(.int ((i2.toUInt32 >>> ((1 : Int32) &&& 31).toUInt32).toInt32))]))
    refine Dn.of (fun tt_ zz_ => XS.iconst X0.here hx rfl (hb hby at_28) zz_) ?_
    show Dn p e below s (own_Q n0) 16 128 (s₁.setTop (mkF m 29 #[.val (.int i0), .val (.int i1), .val (.int i2), .val (.int (i0 &&& (65535 : Int32))), .unset, .unset, .unset, .unset, .unset, .unset] [(.int (3 : Int32)), (.int ((i2.toUInt32 >>> ((1 : Int32) &&& 31).toUInt32).toInt32))]))
    refine Dn.of (fun tt_ zz_ => XS.iand X0.here hx rfl (hb hby at_29) rfl zz_) ?_
    show Dn p e below s (own_Q n0) 16 128 (s₁.setTop (mkF m 30 #[.val (.int i0), .val (.int i1), .val (.int i2), .val (.int (i0 &&& (65535 : Int32))), .unset, .unset, .unset, .unset, .unset, .unset] [(.int (((i2.toUInt32 >>> ((1 : Int32) &&& 31).toUInt32).toInt32) &&& (3 : Int32)))]))
    refine Dn.of (fun tt_ zz_ => XS.istore X0.here hx rfl (hb hby at_30) rfl (l' := #[.val (.int i0), .val (.int i1), .val (.int i2), .val (.int (i0 &&& (65535 : Int32))), .val (.int (((i2.toUInt32 >>> ((1 : Int32) &&& 31).toUInt32).toInt32) &&& (3 : Int32))), .unset, .unset, .unset, .unset, .unset]) rfl zz_) ?_
    show Dn p e below s (own_Q n0) 16 128 (s₁.setTop (mkF m 32 #[.val (.int i0), .val (.int i1), .val (.int i2), .val (.int (i0 &&& (65535 : Int32))), .val (.int (((i2.toUInt32 >>> ((1 : Int32) &&& 31).toUInt32).toInt32) &&& (3 : Int32))), .unset, .unset, .unset, .unset, .unset] []))
    exact K32 _ _ (own_m16 i0).1 (own_m16 i0).2
set_option maxRecDepth 65536 in
set_option maxHeartbeats 40000000 in
theorem comes_1 {Post : Tables → Env → Array Value → State → Outcome → State → Prop} (hpost : ∀ tb e args s v u, (limb_1_1.after args s (.returned v) u = true ∧ limb_1_2.after args s (.returned v) u = true ∧ True) → FrameEnd s (.returned v) u (Jvm.fieldLocs frame_1_writes args s ++ Jvm.arrayLocs frame_1_arrays args s ++ Jvm.staticLocs frame_1_statics s) 16 128 → Post tb e args s (.returned v) u) :
    ArmFor flags0 classFile x code maxLocals ret World_1 tables_1 room_1 Calls_1 rest_1 Pre_1 Post := by
  intro l hfl _ _ p e ha hc hk s m args below hf hA hF happ hP
  obtain ⟨hcalls, hrest, hpre⟩ := hP
  obtain ⟨-, -, -, hnamed, -, -, -, hat⟩ := (Spec.applies_iff hf).mp happ
  obtain ⟨hg, hn⟩ := and_e (Cond.before_iff.mp (show (Jvm.Cond.and given_1 narrow_1).before args s = true from hpre))
  obtain ⟨hcount, hr⟩ := and_e hg
  obtain ⟨w0, w1, w2, rfl⟩ : ∃ w0 w1 w2 : Value, args = #[w0, w1, w2] := by
    have hs : args.size = 3 := by simpa [Cond.value, given_1] using hcount
    obtain ⟨L⟩ := args
    match L, hs with
    | [w0, w1, w2], _ => exact ⟨w0, w1, w2, rfl⟩
  have hw := fun d (hd : d ∈ tables_1) => atoms_spec (ws := Jvm.Cond.code x code maxLocals ret :: tables_1) hat d (List.mem_cons_of_mem _ hd)
  have hfit : Fit s := fun {y c} hc i hi => by
    obtain ⟨ha, rfl⟩ := Array.getElem?_eq_some_iff.mp hc
    have q := List.all_eq_true.mp ((Array.all_eq_true_iff_forall_mem.mp hF) _ (Array.getElem_mem ha)) i (List.mem_range.mpr hi)
    simpa [Array.getElem?_eq_getElem hi] using q
  obtain ⟨ha0, hr⟩ := and_e hr
  obtain ⟨i0, ei0⟩ := is_v ha0
  obtain rfl : w0 = (.int i0) := Option.some.inj ei0
  obtain ⟨ha1, hr⟩ := and_e hr
  obtain ⟨i1, ei1⟩ := is_v ha1
  obtain rfl : w1 = (.int i1) := Option.some.inj ei1
  have ha2 := hr
  obtain ⟨i2, ei2⟩ := is_v ha2
  obtain rfl : w2 = (.int i2) := Option.some.inj ei2
  obtain ⟨q1, q2⟩ := and_e hn
  obtain ⟨q3, q4⟩ := and_e q2
  obtain ⟨q5, q6⟩ := and_e q4
  obtain ⟨aO, eO⟩ := exa_v q1
  obtain ⟨aN, eN⟩ := exa_v q5
  have SO := Sta.start eO (Or.inr ⟨(hw _ (List.mem_of_getElem? (i := 3) rfl)), (hw _ (List.mem_of_getElem? (i := 26) rfl))⟩)
  have SN := Sta.start eN (Or.inr ⟨(hw _ (List.mem_of_getElem? (i := 3) rfl)), (hw _ (List.mem_of_getElem? (i := 30) rfl))⟩)
  have FO := own_fld eO q3
  have FN := own_fld eN q6
  obtain ⟨n, o, h1, h2, h3, _, L, rfl, ⟨rfl, N⟩, hq⟩ := rm0 l s _ hw tables_1 s.heap s.heap.size (Nat.le_refl _) i0 i1 i2 aO aN SO SN FO FN p e ha hc hk s m _ below hf ((Spec.applies_iff_loose hf).mp happ).1 ⟨rfl, State.Warmed39.refl s, rfl⟩ trivial
  refine ⟨n, _, h1, h2, h3, hpost _ _ _ _ _ _ ⟨Cond.after_iff.mpr rfl, Cond.after_iff.mpr (eq_i res_at (Term.int_eval (1)) rfl), trivial⟩ ⟨hq.1, hq.2.1, (hq.2.2.sift fun y hy => Or.inr (N y hy)).mono (by decide) (by decide)⟩⟩
theorem main_1_1 : Claimed_1_1 := comes_1 fun _ _ _ _ _ _ h hF => ⟨h.1, hF⟩
theorem main_1_2 : Claimed_1_2 := comes_1 fun _ _ _ _ _ _ h hF => ⟨h.2.1, hF⟩
end Jvm.Pilot.@@N@@
namespace Jvm.Pilot.@@N@@
open Jvm Jvm.ClassFile Sem Op Lib Jvm.Free Jvm.Stand Jvm.Pilot.@@N@@.Jvm.D
/-! MADE BY PROGRAM (witnessworld.py) out of the Statement's table words and the real class files: 10 classes; the members and pool entries that the words name. The judged class is class 1, her method 1. -/
namespace start1
open Jvm.ClassFile
def u (s : String) : CpInfo := .utf8 (stringToUtf16 s)
/-- a pool by its gaps: so many unusable entries, then the entry; so many at the end -/
def gap : Nat → List CpInfo → List CpInfo
  | 0, r => r
  | n + 1, r => .unusable :: gap n r
def poolList (es : List (Nat × CpInfo)) (last : Nat) : List CpInfo := es.foldr (fun e r => gap e.1 (e.2 :: r)) (gap last [])
def pool (es : List (Nat × CpInfo)) (last : Nat) : Array CpInfo := ⟨poolList es last⟩
def fileOf (pool : Array CpInfo) (this : Nat) (attrs : Array Attribute := #[]) (ms : Array MethodInfo := #[]) (fl : Nat := 33) (sup : Nat := 0) (ifs : Array Nat := #[]) (fds : Array FieldInfo := #[]) : ClassFile where
  minorVersion := 0
  majorVersion := 65
  constantPool := pool
  accessFlags := fl
  thisClass := this
  superClass := sup
  interfaces := ifs
  fields := fds
  methods := ms
  attributes := attrs
def plain (name : String) (sup : Option ClassId) : Class where
  name := name
  kind := .ordinary
  loader := none
  accessFlags := 33
  super := sup
  interfaces := #[]
  cf := none
  fields := #[]
  methods := #[]
  instanceTypes := #[]
  staticTypes := #[]
  resolved := #[]
  callSites := []
  init := .initialized
  statics := none
  mirror := none

def pool0 : Array CpInfo := pool [(5, u "<init>"), (0, u "()V"), (1, .class_ 10), (1, u "java/lang/Object")] 113

def k0c0 : Code := { maxStack := 0, maxLocals := 1, code := object_method_1_code, exceptionTable := #[], attributes := #[] }
def k0m0 : Method := { name := "<init>", desc := "()V", sig := { parameters := [], returnType := none }, accessFlags := 1, code := some k0c0 }
/-- java/lang/Object -/
def k0 : Class := { plain "java/lang/Object" none with
  accessFlags := 33
  interfaces := #[]
  cf := some (fileOf pool0 8 #[] #[{ accessFlags := 1, nameIndex := 5, descriptorIndex := 6, attributes := #[] }] 33 0 #[] #[])
  fields := #[]
  methods := #[k0m0]
  instanceTypes := #[]
  staticTypes := #[]
  resolved := Array.replicate 124 none
  statics := none }

def pool1 : Array CpInfo := pool [(2, .class_ 4), (1, u "java/lang/Object"), (0, u "<init>"), (0, u "()V"), (0, .integer 65535), (0, .integer 2147483647), (0, .integer 65533), (0, .class_ 11), (0, u "com/example/bytewright/bytewright/ClassFileVersion"), (0, .methodref 10 13), (0, .nameAndType 5 14), (0, u "(II)V"), (0, .methodref 10 16), (0, .nameAndType 17 18), (0, u "isSupported"), (0, u "()Z"), (0, .class_ 20), (0, u "com/example/bytewright/bytewright/ClassFileVersionIsSupportedPinLaw"), (2, u "law"), (0, u "(III)Z")] 3

def k1m0 : Method := { name := "<init>", desc := "()V", sig := { parameters := [], returnType := none }, accessFlags := 1, code := none }
def k1c1 : Code := { maxStack := 4, maxLocals := 10, code := code, exceptionTable := #[], attributes := #[] }
def k1m1 : Method := { name := "law", desc := "(III)Z", sig := { parameters := [.int, .int, .int], returnType := some .boolean }, accessFlags := 9, code := some k1c1 }
/-- com/example/bytewright/bytewright/ClassFileVersionIsSupportedPinLaw -/
def k1 : Class := { plain "com/example/bytewright/bytewright/ClassFileVersionIsSupportedPinLaw" (some 0) with
  accessFlags := 49
  interfaces := #[]
  cf := some (fileOf pool1 19 #[] #[{ accessFlags := 1, nameIndex := 5, descriptorIndex := 6, attributes := #[] }, { accessFlags := 9, nameIndex := 23, descriptorIndex := 24, attributes := #[] }] 49 2 #[] #[])
  fields := #[]
  methods := #[k1m0, k1m1]
  instanceTypes := #[]
  staticTypes := #[]
  resolved := Array.replicate 28 none
  statics := none }

def pool2 : Array CpInfo := pool [(1, .methodref 2 3), (0, .class_ 4), (0, .nameAndType 5 6), (0, u "java/lang/Object"), (0, u "<init>"), (0, u "()V"), (0, .class_ 8), (0, u "java/lang/Record")] 13

def k2c0 : Code := { maxStack := 1, maxLocals := 1, code := jdk_30_method_1_code, exceptionTable := #[], attributes := #[] }
def k2m0 : Method := { name := "<init>", desc := "()V", sig := { parameters := [], returnType := none }, accessFlags := 4, code := some k2c0 }
/-- java/lang/Record -/
def k2 : Class := { plain "java/lang/Record" (some 0) with
  accessFlags := 1057
  interfaces := #[]
  cf := some (fileOf pool2 7 #[] #[{ accessFlags := 4, nameIndex := 5, descriptorIndex := 6, attributes := #[] }] 1057 2 #[] #[])
  fields := #[]
  methods := #[k2m0]
  instanceTypes := #[]
  staticTypes := #[]
  resolved := Array.replicate 22 none
  statics := none }

def pool3 : Array CpInfo := pool [(1, .methodref 2 3), (0, .class_ 4), (0, .nameAndType 5 6), (0, u "java/lang/Record"), (0, u "<init>"), (0, u "()V"), (0, .class_ 8), (0, u "com/example/bytewright/bytewright/ClassFileVersion"), (0, .integer 65535), (9, .fieldref 7 20), (0, .nameAndType 21 22), (0, u "major"), (0, u "I"), (0, .fieldref 7 24), (0, .nameAndType 25 22), (0, u "minor"), (0, .fieldref 7 27), (0, .nameAndType 28 29), (0, u "OLDEST"), (0, u "Lcom/example/bytewright/bytewright/ClassFileVersion;"), (0, .fieldref 7 31), (0, .nameAndType 32 29), (0, u "NEWEST"), (11, u "(II)V"), (0, u "MAX_U2"), (1, u "FIRST_MAJOR_WITH_PREVIEW_MINOR"), (1, u "LAST_MAJOR_WITH_OVERLONG_UTF8"), (5, u "isSupported"), (0, u "()Z")] 37

def k3c0 : Code := { maxStack := 4, maxLocals := 3, code := prog_21_method_1_code, exceptionTable := #[], attributes := #[] }
def k3m0 : Method := { name := "<init>", desc := "(II)V", sig := { parameters := [.int, .int], returnType := none }, accessFlags := 1, code := some k3c0 }
def k3c1 : Code := { maxStack := 2, maxLocals := 1, code := prog_21_method_2_code, exceptionTable := #[], attributes := #[] }
def k3m1 : Method := { name := "isSupported", desc := "()Z", sig := { parameters := [], returnType := some .boolean }, accessFlags := 1, code := some k3c1 }
/-- com/example/bytewright/bytewright/ClassFileVersion -/
def k3 : Class := { plain "com/example/bytewright/bytewright/ClassFileVersion" (some 2) with
  accessFlags := 49
  interfaces := #[]
  cf := some (fileOf pool3 7 #[] #[{ accessFlags := 1, nameIndex := 5, descriptorIndex := 44, attributes := #[] }, { accessFlags := 1, nameIndex := 55, descriptorIndex := 56, attributes := #[] }] 49 2 #[] #[{ accessFlags := 18, nameIndex := 21, descriptorIndex := 22, attributes := #[] }, { accessFlags := 18, nameIndex := 25, descriptorIndex := 22, attributes := #[] }, { accessFlags := 26, nameIndex := 45, descriptorIndex := 22, attributes := #[] }, { accessFlags := 26, nameIndex := 47, descriptorIndex := 22, attributes := #[] }, { accessFlags := 26, nameIndex := 49, descriptorIndex := 22, attributes := #[] }, { accessFlags := 25, nameIndex := 28, descriptorIndex := 29, attributes := #[] }, { accessFlags := 25, nameIndex := 32, descriptorIndex := 29, attributes := #[] }])
  fields := #[{ name := "major", type := .int, accessFlags := 18, slot := 0, constantValue := 0 }, { name := "minor", type := .int, accessFlags := 18, slot := 1, constantValue := 0 }, { name := "MAX_U2", type := .int, accessFlags := 26, slot := 0, constantValue := 0 }, { name := "FIRST_MAJOR_WITH_PREVIEW_MINOR", type := .int, accessFlags := 26, slot := 1, constantValue := 0 }, { name := "LAST_MAJOR_WITH_OVERLONG_UTF8", type := .int, accessFlags := 26, slot := 2, constantValue := 0 }, { name := "OLDEST", type := (.object "com/example/bytewright/bytewright/ClassFileVersion"), accessFlags := 25, slot := 3, constantValue := 0 }, { name := "NEWEST", type := (.object "com/example/bytewright/bytewright/ClassFileVersion"), accessFlags := 25, slot := 4, constantValue := 0 }]
  methods := #[k3m0, k3m1]
  instanceTypes := #[.int, .int]
  staticTypes := #[.int, .int, .int, (.object "com/example/bytewright/bytewright/ClassFileVersion"), (.object "com/example/bytewright/bytewright/ClassFileVersion")]
  resolved := Array.replicate 94 none
  statics := some 0 }

def pool4 : Array CpInfo := pool [(1, u "java/lang/Cloneable"), (0, .class_ 1), (0, u "java/lang/Object"), (0, .class_ 3)] 3

/-- java/lang/Cloneable -/
def k4 : Class := { plain "java/lang/Cloneable" (some 0) with
  accessFlags := 1537
  interfaces := #[]
  cf := some (fileOf pool4 2 #[] #[] 1537 4 #[] #[])
  fields := #[]
  methods := #[]
  instanceTypes := #[]
  staticTypes := #[]
  resolved := Array.replicate 8 none
  statics := none }

def pool5 : Array CpInfo := pool [(1, u "java/io/Serializable"), (0, .class_ 1), (0, u "java/lang/Object"), (0, .class_ 3)] 3

/-- java/io/Serializable -/
def k5 : Class := { plain "java/io/Serializable" (some 0) with
  accessFlags := 1537
  interfaces := #[]
  cf := some (fileOf pool5 2 #[] #[] 1537 4 #[] #[])
  fields := #[]
  methods := #[]
  instanceTypes := #[]
  staticTypes := #[]
  resolved := Array.replicate 8 none
  statics := none }

/-- the primitive byte -/
def k6 : Class := { plain "byte" none with kind := .primitive 'B', accessFlags := 0x411 }
/-- [B -/
def k7 : Class := { plain "[B" (some 0) with kind := .array 6 .byte, interfaces := #[4, 5], accessFlags := 1041 }

/-- the primitive int -/
def k8 : Class := { plain "int" none with kind := .primitive 'I', accessFlags := 0x411 }
/-- [I -/
def k9 : Class := { plain "[I" (some 0) with kind := .array 8 .int, interfaces := #[4, 5], accessFlags := 1041 }

def heap : Heap := #[{ cls := 3, slots := #[.int 0, .int 0, .int 0, .ref 1, .ref 2], vm := .statics 3 },
  { cls := 3, slots := #[.int 45, .int 0], vm := .none },
  { cls := 3, slots := #[.int 69, .int 0], vm := .none }]
def classes : Array Class := #[k0, k1, k2, k3, k4, k5, k6, k7, k8, k9]
def interned : List (Array UInt16 × Addr) := []
def slotsUsed : Nat := 9
def theMethod : MethodId := ⟨1, 1⟩
def args0 : Array Value := #[.int 5, .int 300, .int 7]
def aboutOver (below : List Frame) : State where
  vm := { classes := classes, interned := interned.toArray }
  heap := heap
  slotsUsed := slotsUsed
  threads := #[{ frames := .invoking theMethod args0 :: below }]
def below0 : List Frame := [.native { method := ⟨0, 0⟩, args := #[] }]
def about1 : State := aboutOver below0
def p0 : Program := .bare "" "" ""
def e0 : Env := launch0.env 0 0 0
theorem w_frames : about1.frames = Frame.invoking theMethod args0 :: below0 := rfl
set_option maxRecDepth 65536 in
theorem w_args : argsFit about1.vm theMethod args0 = true := by decide +kernel
set_option maxRecDepth 65536 in
theorem w_heap : heapFits about1 = true := by decide +kernel
set_option maxRecDepth 65536 in
theorem w_runnable : about1.curStatus? = some .runnable := by decide +kernel
set_option maxRecDepth 65536 in
theorem w_alone : about1.alone = true := by decide +kernel
set_option maxRecDepth 65536 in
theorem w_named : about1.methodNamed? x = some theMethod := by decide +kernel
set_option maxRecDepth 65536 in
theorem w_hears : about1.hears theMethod below0 = true := by decide +kernel
set_option maxRecDepth 65536 in
theorem w_ripe : about1.ripe theMethod args0 below0 = true := by decide +kernel
theorem w_running : about1.status = .running := rfl
set_option maxRecDepth 65536 in
theorem w_room : about1.hasRoom e0.platform room_1 = true :=
  launch0.hasRoom_least _ room_1 (by decide +kernel) (by decide +kernel) (by decide +kernel) (by decide +kernel) (by decide +kernel) (by decide +kernel)
theorem allAtoms_all (ts : List Jvm.Cond) (a : Array Jvm.Value) (st : Jvm.State) : (allAtoms ts).before a st = ts.all (fun c => c.before a st) := by
  induction ts with
  | nil => rfl
  | cons c t ih =>
    show (Jvm.Cond.and c (allAtoms t)).before a st = _
    rw [Jvm.Cond.before_and, ih, List.all_cons]
def words1 : List Jvm.Cond := Jvm.Cond.code x code maxLocals ret :: tables_1
/-- a 'code' word, met by the world's own term for the bytes: nothing is compared byte by byte -/
theorem code_word {y : MethodName} {bytes : ByteArray} {mx : Nat} {rt : Option FieldType} {a : Array Value} {s : State} {m : MethodId} {meth : Method} {c : Code} (h1 : s.methodNamed? y = some m) (h2 : s.vm.method? m = some meth) (h3 : meth.code = some c) (h4 : c.code = bytes)
    (h5 : (c.maxLocals == mx && c.exceptionTable.isEmpty && decide (c.maxStack ≤ mostOperands) && decide (meth.sig.returnType = rt) && !meth.locks && decide (parseMethodDescriptor y.desc = some meth.sig)) = true) : (Jvm.Cond.code y bytes mx rt).before a s = true := by
  simp only [Bool.and_eq_true, beq_iff_eq, Bool.not_eq_true', decide_eq_true_eq] at h5
  obtain ⟨⟨⟨⟨⟨g1, g2⟩, g3⟩, g4⟩, g5⟩, g6⟩ := h5
  simp [Cond.before, Cond.holds, Cond.value, h1, h2, h3, h4, g1, g2, g3, g4, g5, g6]
def isCode : Jvm.Cond → Bool
  | .code _ _ _ _ => true
  | _ => false
theorem all_split {L : List Jvm.Cond} {P : Jvm.Cond → Bool} (h1 : L.all (fun c => isCode c || P c) = true) (h2 : ∀ c ∈ L.filter isCode, P c = true) : L.all P = true := by
  refine List.all_eq_true.mpr fun c hc => ?_
  have h := List.all_eq_true.mp h1 c hc
  rcases Bool.eq_false_or_eq_true (isCode c) with hi | hi
  · exact h2 c (List.mem_filter.mpr ⟨hc, hi⟩)
  · simpa [hi] using h
set_option maxRecDepth 65536 in
theorem w_c0 : (Jvm.Cond.code x code maxLocals ret).before args0 about1 = true := code_word (m := ⟨1, 1⟩) (meth := k1m1) (c := k1c1) (by decide +kernel) rfl rfl rfl (by decide +kernel)
set_option maxRecDepth 65536 in
theorem w_c1 : (Jvm.Cond.code ({ cls := "com/example/bytewright/bytewright/ClassFileVersion", name := "<init>", desc := "(II)V" } : Jvm.MethodName) prog_21_method_1_code (3 : Nat) (Option.none : Option Jvm.ClassFile.FieldType)).before args0 about1 = true := code_word (m := ⟨3, 0⟩) (meth := k3m0) (c := k3c0) (by decide +kernel) rfl rfl rfl (by decide +kernel)
set_option maxRecDepth 65536 in
theorem w_c2 : (Jvm.Cond.code ({ cls := "java/lang/Record", name := "<init>", desc := "()V" } : Jvm.MethodName) jdk_30_method_1_code (1 : Nat) (Option.none : Option Jvm.ClassFile.FieldType)).before args0 about1 = true := code_word (m := ⟨2, 0⟩) (meth := k2m0) (c := k2c0) (by decide +kernel) rfl rfl rfl (by decide +kernel)
set_option maxRecDepth 65536 in
theorem w_c3 : (Jvm.Cond.code ({ cls := "java/lang/Object", name := "<init>", desc := "()V" } : Jvm.MethodName) object_method_1_code (1 : Nat) (Option.none : Option Jvm.ClassFile.FieldType)).before args0 about1 = true := code_word (m := ⟨0, 0⟩) (meth := k0m0) (c := k0c0) (by decide +kernel) rfl rfl rfl (by decide +kernel)
set_option maxRecDepth 65536 in
theorem w_c4 : (Jvm.Cond.code ({ cls := "com/example/bytewright/bytewright/ClassFileVersion", name := "isSupported", desc := "()Z" } : Jvm.MethodName) prog_21_method_2_code (1 : Nat) (Option.some Jvm.ClassFile.FieldType.boolean)).before args0 about1 = true := code_word (m := ⟨3, 1⟩) (meth := k3m1) (c := k3c1) (by decide +kernel) rfl rfl rfl (by decide +kernel)
def codes1 : List Jvm.Cond := [Jvm.Cond.code x code maxLocals ret, Jvm.Cond.code ({ cls := "com/example/bytewright/bytewright/ClassFileVersion", name := "<init>", desc := "(II)V" } : Jvm.MethodName) prog_21_method_1_code (3 : Nat) (Option.none : Option Jvm.ClassFile.FieldType), Jvm.Cond.code ({ cls := "java/lang/Record", name := "<init>", desc := "()V" } : Jvm.MethodName) jdk_30_method_1_code (1 : Nat) (Option.none : Option Jvm.ClassFile.FieldType), Jvm.Cond.code ({ cls := "java/lang/Object", name := "<init>", desc := "()V" } : Jvm.MethodName) object_method_1_code (1 : Nat) (Option.none : Option Jvm.ClassFile.FieldType), Jvm.Cond.code ({ cls := "com/example/bytewright/bytewright/ClassFileVersion", name := "isSupported", desc := "()Z" } : Jvm.MethodName) prog_21_method_2_code (1 : Nat) (Option.some Jvm.ClassFile.FieldType.boolean)]
set_option maxRecDepth 65536 in
theorem codes_eq : words1.filter isCode = codes1 := rfl
theorem w_codes : ∀ c ∈ words1.filter isCode, c.before args0 about1 = true := by
  rw [codes_eq]
  intro c hc
  simp only [codes1, List.mem_cons, List.not_mem_nil, or_false] at hc
  rcases hc with rfl | rfl | rfl | rfl | rfl
  · exact w_c0
  · exact w_c1
  · exact w_c2
  · exact w_c3
  · exact w_c4
set_option maxRecDepth 65536 in
theorem w_t1 : (words1.take 24).all (fun c => isCode c || c.before args0 about1) = true := by decide +kernel
set_option maxRecDepth 65536 in
theorem w_t2 : (words1.drop 24).all (fun c => isCode c || c.before args0 about1) = true := by decide +kernel
theorem w_tables : (allAtoms (Jvm.Cond.code x code maxLocals ret :: tables_1)).before args0 about1 = true := by
  rw [allAtoms_all]
  show words1.all (fun c => c.before args0 about1) = true
  refine all_split ?_ w_codes
  rw [← List.take_append_drop 24 words1, List.all_append, w_t1, w_t2]
  rfl
set_option maxRecDepth 65536 in
theorem w_case : (Jvm.Cond.and given_1 narrow_1).before args0 about1 = true := by decide +kernel
theorem w_applies : (headSpec (Jvm.Cond.code x code maxLocals ret :: tables_1) room_1).applies x e0.platform about1 = true :=
  (Spec.applies_iff w_frames).mpr ⟨w_running, w_runnable, w_alone, w_named, w_hears, w_ripe, w_room, w_tables⟩
theorem atStart : AtStart classFile x code maxLocals ret World_1 tables_1 room_1 Calls_1 rest_1 Pre_1 launch0 p0 e0 about1 theMethod args0 below0 :=
  ⟨lists_1, trivial, launch0.admits_env _ _ _, launch0.least_env, fairChoices_fair.cas, fairChoices_fair.clock, w_frames, w_args, w_heap, w_applies, trivial, trivial, w_case⟩
end start1
theorem witness_1 : WitnessClaimed_1 := ⟨start1.p0, start1.e0, start1.about1, start1.theMethod, start1.args0, start1.below0, start1.atStart⟩
end Jvm.Pilot.@@N@@
