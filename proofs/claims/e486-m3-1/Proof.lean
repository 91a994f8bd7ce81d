import JvmDerived
import JvmDerived.Pilot.@@N@@Statement
import JvmDerived.Pilot.@@N@@Code
set_option linter.unusedVariables false
set_option linter.unusedSimpArgs false
namespace Jvm.RoadKit
open Sem ClassFile Op Lib Jvm.Stand Jvm.Free Jvm.LawKit
section Own
variable {p : Program} {l : Launch} {e : Env} {R : Room} {s : State} {m : MethodId} {args : Array Value} {below : List Frame} {meth : Method} {c : Code} {T : State} {locs : List Loc} {cells slots : Nat}
/-- from the state S the run comes to the end of this invocation, and Q says what it returned and left -/
def Dn (p : Program) (e : Env) (below : List Frame) (s : State) (Q : Option Value → Heap → List Loc → Prop) (k n : Nat) (S : State) : Prop :=
  ∃ U o, Steps p.tables e below S U ∧ U.status = .running ∧ Ended U below o ∧ ∃ v L, o = .returned v ∧ Q v U.heap L ∧ FrameEnd s o U L k n
variable {Q Q' : Option Value → Heap → List Loc → Prop} {k n : Nat} {S S' : State} {Z : State} {a0 : Array Value} {h : Heap}
theorem Dn.of (w : ∀ t, Steps p.tables e below S' t → Steps p.tables e below S t) (d : Dn p e below s Q k n S') : Dn p e below s Q k n S := by
  obtain ⟨U, o, st, r⟩ := d
  exact ⟨U, o, w U st, r⟩
theorem Dn.cast {g g' : JFrame} (q : g = g') (d : Dn p e below s Q k n (T.setTop g')) : Dn p e below s Q k n (T.setTop g) := q ▸ d
theorem Dn.ret (X : Stand p l e R s m args below meth c T locs cells slots) (hx : p.tables.exec = Jvm.exec) (hlk : meth.locks = false) {pc : Nat} {Ls : Array Slot} {w : Value} {t : FieldType} {i : Instr} {rest : List Value} (hret : meth.sig.returnType = some t) (hn : narrow t w = w)
    (hi : (i = .ireturn ∧ (t = .int ∨ t = .boolean ∨ t = .byte ∨ t = .char ∨ t = .short) ∧ ∃ z, w = .int z) ∨ (i = .lreturn ∧ t = .long ∧ ∃ z, w = .long z) ∨ (i = .dreturn ∧ t = .double ∧ ∃ z, w = .double z) ∨ (i = .freturn ∧ t = .float ∧ ∃ z, w = .float z) ∨ (i = .areturn ∧ t.isReference = true ∧ w.isRef = true))
    (hd : decode c.code pc = .ok (i, 1)) (hk : cells ≤ k) (hs : slots ≤ n) (hQ : Q (some w) T.heap locs) : Dn p e below s Q k n (T.setTop (mkF m pc Ls (w :: rest))) := by
  obtain ⟨fs, hr, hrun, hended, hW, hsame⟩ := X.leave (v := some w) (fun q => by rw [hret] at q; cases q) hlk
  exact ⟨_, _, retOut X hx hret hn hi hd hr, hrun, hended, _, _, rfl, hQ, ⟨_, rfl⟩, hW, hsame.mono hk hs⟩
theorem Dn.retI (X : Stand p l e R s m args below meth c T locs cells slots) (hx : p.tables.exec = Jvm.exec) (hlk : meth.locks = false) {pc : Nat} {Ls : Array Slot} {z : Int32} {rest : List Value} (hret : meth.sig.returnType = some .int)
    (hd : decode c.code pc = .ok (.ireturn, 1)) (hk : cells ≤ k) (hs : slots ≤ n) (hQ : Q (some (.int z)) T.heap locs) : Dn p e below s Q k n (T.setTop (mkF m pc Ls (.int z :: rest))) :=
  Dn.ret X hx hlk hret rfl (Or.inl ⟨rfl, Or.inl rfl, z, rfl⟩) hd hk hs hQ
theorem Dn.retA (X : Stand p l e R s m args below meth c T locs cells slots) (hx : p.tables.exec = Jvm.exec) (hlk : meth.locks = false) {pc : Nat} {Ls : Array Slot} {w : Value} {t : FieldType} {rest : List Value} (hret : meth.sig.returnType = some t) (ht : t.isReference = true) (hw : w.isRef = true)
    (hd : decode c.code pc = .ok (.areturn, 1)) (hk : cells ≤ k) (hs : slots ≤ n) (hQ : Q (some w) T.heap locs) : Dn p e below s Q k n (T.setTop (mkF m pc Ls (w :: rest))) :=
  Dn.ret X hx hlk hret (by cases t <;> simp [FieldType.isReference] at ht <;> rcases ref_cases hw with rfl | ⟨a, rfl⟩ <;> rfl) (Or.inr (Or.inr (Or.inr (Or.inr ⟨rfl, ht, hw⟩)))) hd hk hs hQ
theorem Dn.retN (X : Stand p l e R s m args below meth c T locs cells slots) (hx : p.tables.exec = Jvm.exec) (hlk : meth.locks = false) {pc : Nat} {Ls : Array Slot} {z : Int32} {t : FieldType} {rest : List Value} (hret : meth.sig.returnType = some t) (ht : t = .boolean ∨ t = .byte ∨ t = .char ∨ t = .short)
    (hd : decode c.code pc = .ok (.ireturn, 1)) (hk : cells ≤ k) (hs : slots ≤ n) (hQ : Q (some (.int (nar t z))) T.heap locs) : Dn p e below s Q k n (T.setTop (mkF m pc Ls (.int z :: rest))) := by
  obtain ⟨fs, hr, hrun, hended, hW, hsame⟩ := X.leave (v := some (.int (nar t z))) (fun q => by rw [hret] at q; cases q) hlk
  exact ⟨_, _, Jvm.RoadKit.retN X hx hret ht hd hr, hrun, hended, _, _, rfl, hQ, ⟨_, rfl⟩, hW, hsame.mono hk hs⟩
theorem Dn.retV (X : Stand p l e R s m args below meth c T locs cells slots) (hx : p.tables.exec = Jvm.exec) (hlk : meth.locks = false) {pc : Nat} {Ls : Array Slot} (hret : meth.sig.returnType = none)
    (hd : decode c.code pc = .ok (.return_, 1)) (hk : cells ≤ k) (hs : slots ≤ n) (hQ : Q none T.heap locs) : Dn p e below s Q k n (T.setTop (mkF m pc Ls [])) := by
  obtain ⟨fs, hr, hrun, hended, hW, hsame⟩ := X.leave (v := none) (fun _ => rfl) hlk
  exact ⟨_, _, X.returnOut hx hret hd hr, hrun, hended, _, _, rfl, hQ, ⟨_, rfl⟩, hW, hsame.mono hk hs⟩
/-- a body's contract: entered with the arguments as' at the heap h, it returns, and Q says what and what it left -/
abbrev ctr (l : Launch) (Z : State) (y : MethodName) (bytes : ByteArray) (maxL : Nat) (ret : Option FieldType) (ws : List Jvm.Cond) (rm : Room) (k n : Nat) (as' : Array Value) (h : Heap) (Q : Option Value → Heap → List Loc → Prop) : Prop :=
  MetFree l y (head1 (Jvm.Cond.code y bytes maxL ret :: ws) rm) (fun a U => a = as' ∧ Z.Warmed39 U.vm ∧ U.heap = h) (fun _ _ _ _ _ => True) (fun _ U o U' => ∃ v L, o = .returned v ∧ Q v U'.heap L ∧ FrameEnd U o U' L k n)
theorem ctr_of {y : MethodName} {bytes : ByteArray} {maxL : Nat} {ret : Option FieldType} {ws : List Jvm.Cond} {rm : Room} {as' : Array Value} (pn : plainFor y = true)
    (body : ∀ (p : Program) (e : Env) (s : State) (m : MethodId) (below : List Frame) (meth : Method) (c : Code) (s₁ : State), p.tables.exec = Jvm.exec → c.code = bytes → c.maxLocals = maxL → meth.sig.returnType = ret → meth.locks = false → meth.name = y.name → s.vm.findClass y.cls = some m.cls →
      Z.Warmed39 s.vm → s₁.heap = h → Stand p l e rm s m as' below meth c s₁ [] 0 0 → Dn p e below s Q k n (s₁.setTop (entryFrame m as' maxL))) : ctr l Z y bytes maxL ret ws rm k n as' h Q := by
  refine MetFree.of_bodySF pn hisR ?_
  intro p e s m args below meth c s₁ Bd hml0 hP hK
  obtain ⟨rfl, hZ, hh⟩ := hP
  exact body p e s m below meth c s₁ Bd.exec Bd.bytes hml0 Bd.returns Bd.notSynchronized (name_of_methodNamed Bd.named Bd.method).1 (findClass_of_methodNamed Bd.named) hZ (by rw [← hh, Bd.state]; rfl) (Stand.of_body Bd)
theorem cSt (X : Stand p l e R s m args below meth c T locs cells slots) (hx : p.tables.exec = Jvm.exec) (hZ : Z.Warmed39 s.vm) {own : String} {index : Nat} {y : MethodName} {bytes : ByteArray} {maxL : Nat} {ret : Option FieldType} (hown : s.vm.findClass own = some m.cls)
    (w1 : (Jvm.Cond.methodLink own index y).before a0 Z = true) (w2 : (Jvm.Cond.static y).before a0 Z = true) (w3 : (Jvm.Cond.initialized y.cls).before a0 Z = true) (w4 : (Jvm.Cond.code y bytes maxL ret).before a0 Z = true) (hy : y.cls ≠ "java/lang/invoke/MethodHandle" ∧ y.cls ≠ "java/lang/invoke/VarHandle")
    {rm : Room} {argsL rest : List Value} (hM : ctr l Z y bytes maxL ret [] rm rm.cells rm.slots argsL.toArray h Q) (eT : T.heap = h) (W : Nat) (hf : rm.frames + 1 ≤ R.frames) (hl : W + (maxL + 11) + rm.locals ≤ R.locals) (hc : cells + rm.cells ≤ R.cells) (hs : slots + rm.slots ≤ R.slots)
    {g : JFrame} (hg : g.method = m) (hsize : g.locals.size = c.maxLocals) (hlen : ∀ sig, parseMethodDescriptor y.desc = some sig → argsL.length = sig.parameters.length) (hstack : g.stack = argsL.reverse ++ rest) (hW : 2 * g.monitorRoom + (rest.map fun v => v.category).sum ≤ W) (hdg : decode c.code g.pc = .ok (.invokestatic index, 3)) :
    ∃ (v : Option Value) (T' : State) (L : List Loc), Q v T'.heap L ∧ Stand p l e R s m args below meth c T' (locs ++ L) (cells + rm.cells) (slots + rm.slots) ∧ ∀ target, Steps p.tables e below (T'.setTop { g with pc := g.pc + 3, stack := v.toList ++ rest }) target → Steps p.tables e below (T.setTop g) target := by
  obtain ⟨v, _, ⟨T', L', k', n'⟩, -, X', ⟨L, hQ, e1, e2, e3⟩, st⟩ := Jvm.LawKit.callS X hx (y := y) hown (mvT hZ w1) (mvT hZ w2) (mvT hZ w3) (mvT hZ w4) hy (backOf (W := W) hM hZ w4 w3 hf hl) hg hsize hlen hstack hW hdg (fun _ _ => ⟨rfl, eT, hc, hs⟩)
  dsimp only [Pt.U, Pt.locs, Pt.cells, Pt.slots] at X' e1 e2 e3 st hQ
  subst e1 e2 e3
  exact ⟨v, T', L, hQ, X', st⟩
theorem cIn (X : Stand p l e R s m args below meth c T locs cells slots) (hx : p.tables.exec = Jvm.exec) (hZ : Z.Warmed39 s.vm) {own : String} {index : Nat} {y : MethodName} {bytes : ByteArray} {maxL : Nat} (hy1 : y.name = "<init>") (hown : s.vm.findClass own = some m.cls)
    (w1 : (Jvm.Cond.methodLink own index y).before a0 Z = true) (w2 : (Jvm.Cond.instanceMethod y).before a0 Z = true) (w3 : (Jvm.Cond.initialized y.cls).before a0 Z = true) (w4 : (Jvm.Cond.code y bytes maxL none).before a0 Z = true) (hy : y.cls ≠ "java/lang/invoke/MethodHandle" ∧ y.cls ≠ "java/lang/invoke/VarHandle")
    {rm : Room} {a : Addr} {argsL rest : List Value} (hM : ctr l Z y bytes maxL none [] rm rm.cells rm.slots (.ref a :: argsL).toArray h Q) (eT : T.heap = h) (W : Nat) (hf : rm.frames + 1 ≤ R.frames) (hl : W + (maxL + 11) + rm.locals ≤ R.locals) (hc : cells + rm.cells ≤ R.cells) (hs : slots + rm.slots ≤ R.slots)
    {g : JFrame} (hg : g.method = m) (hsize : g.locals.size = c.maxLocals) (hlen : ∀ sig, parseMethodDescriptor y.desc = some sig → argsL.length = sig.parameters.length) (hstack : g.stack = argsL.reverse ++ .ref a :: rest) (hW : 2 * g.monitorRoom + (rest.map fun v => v.category).sum ≤ W) (hdg : decode c.code g.pc = .ok (.invokespecial index, 3)) :
    ∃ (v : Option Value) (T' : State) (L : List Loc), Q v T'.heap L ∧ Stand p l e R s m args below meth c T' (locs ++ L) (cells + rm.cells) (slots + rm.slots) ∧ ∀ target, Steps p.tables e below (T'.setTop { g with pc := g.pc + 3, stack := v.toList ++ rest }) target → Steps p.tables e below (T.setTop g) target := by
  obtain ⟨v, _, ⟨T', L', k', n'⟩, -, X', ⟨L, hQ, e1, e2, e3⟩, st⟩ := X.specialBack hx (y := y) hy1 hown (mvT hZ w1) (mvT hZ w2) (mvT hZ w4) hy (backOf (W := W) hM hZ w4 w3 hf hl) hg hsize (Steps.refl _) hlen hstack hW hdg (fun _ _ => ⟨rfl, eT, hc, hs⟩)
  dsimp only [Pt.U, Pt.locs, Pt.cells, Pt.slots] at X' e1 e2 e3 st hQ
  subst e1 e2 e3
  exact ⟨v, T', L, hQ, X', fun _ z => st.trans z⟩
theorem cVi (X : Stand p l e R s m args below meth c T locs cells slots) (hx : p.tables.exec = Jvm.exec) (hZ : Z.Warmed39 s.vm) {own C : String} {index : Nat} {y z : MethodName} {bytes : ByteArray} {maxL : Nat} {ret : Option FieldType} (hown : s.vm.findClass own = some m.cls)
    (w1 : (Jvm.Cond.methodLink own index y).before a0 Z = true) (w2 : (Jvm.Cond.declares y).before a0 Z = true) (nf : NotFace s y) (ws : (Jvm.Cond.selects C y z).before a0 Z = true) (wi : (Jvm.Cond.instanceMethod z).before a0 Z = true) (w3 : (Jvm.Cond.initialized z.cls).before a0 Z = true) (w4 : (Jvm.Cond.code z bytes maxL ret).before a0 Z = true)
    (hy : y.cls ≠ "java/lang/invoke/MethodHandle" ∧ y.cls ≠ "java/lang/invoke/VarHandle")
    {rm : Room} {a : Addr} {argsL rest : List Value} (hM : ctr l Z z bytes maxL ret [] rm rm.cells rm.slots (.ref a :: argsL).toArray h Q) (eT : T.heap = h) (E : Exa Z h a C) (W : Nat) (hf : rm.frames + 1 ≤ R.frames) (hl : W + (maxL + 11) + rm.locals ≤ R.locals) (hc : cells + rm.cells ≤ R.cells) (hs : slots + rm.slots ≤ R.slots)
    {g : JFrame} (hg : g.method = m) (hsize : g.locals.size = c.maxLocals) (hlen : ∀ sig, parseMethodDescriptor y.desc = some sig → argsL.length = sig.parameters.length) (hstack : g.stack = argsL.reverse ++ .ref a :: rest) (hW : 2 * g.monitorRoom + (rest.map fun v => v.category).sum ≤ W) (hdg : decode c.code g.pc = .ok (.invokevirtual index, 3)) :
    ∃ (v : Option Value) (T' : State) (L : List Loc), Q v T'.heap L ∧ Stand p l e R s m args below meth c T' (locs ++ L) (cells + rm.cells) (slots + rm.slots) ∧ ∀ target, Steps p.tables e below (T'.setTop { g with pc := g.pc + 3, stack := v.toList ++ rest }) target → Steps p.tables e below (T.setTop g) target := by
  obtain ⟨cq, kq, qa, qb, qc⟩ := isOf hZ eT E
  obtain ⟨v, _, ⟨T', L', k', n'⟩, -, X', ⟨L, hQ, e1, e2, e3⟩, st⟩ := X.virtualBack hx (y := y) (z := z) hown (mvT hZ w1) (mvT hZ w2) nf (mvT hZ ws) (mvT hZ wi) hy (backOf (W := W) hM hZ w4 w3 hf hl) qa qc hg hsize (Steps.refl _) hlen hstack hW hdg (fun _ _ => ⟨rfl, eT, hc, hs⟩)
  dsimp only [Pt.U, Pt.locs, Pt.cells, Pt.slots] at X' e1 e2 e3 st hQ
  subst e1 e2 e3
  exact ⟨v, T', L, hQ, X', fun _ z => st.trans z⟩
theorem cUp (X : Stand p l e R s m args below meth c T locs cells slots) (hx : p.tables.exec = Jvm.exec) (hZ : Z.Warmed39 s.vm) {own C owner : String} {index : Nat} {y z : MethodName} {bytes : ByteArray} {maxL : Nat} {ret : Option FieldType} (hown : s.vm.findClass own = some m.cls)
    (w1 : (Jvm.Cond.methodLink own index y).before a0 Z = true) (wm : (Jvm.Cond.sameMethod y.cls owner y.name y.desc).before a0 Z = true) (w2 : (Jvm.Cond.declares ⟨owner, y.name, y.desc⟩).before a0 Z = true) (ws : (Jvm.Cond.selects C y z).before a0 Z = true) (wi : (Jvm.Cond.instanceMethod z).before a0 Z = true) (w3 : (Jvm.Cond.initialized z.cls).before a0 Z = true) (w4 : (Jvm.Cond.code z bytes maxL ret).before a0 Z = true)
    (hy : owner ≠ "java/lang/invoke/MethodHandle" ∧ owner ≠ "java/lang/invoke/VarHandle")
    {rm : Room} {a : Addr} {argsL rest : List Value} (hM : ctr l Z z bytes maxL ret [] rm rm.cells rm.slots (.ref a :: argsL).toArray h Q) (eT : T.heap = h) (E : Exa Z h a C) (W : Nat) (hf : rm.frames + 1 ≤ R.frames) (hl : W + (maxL + 11) + rm.locals ≤ R.locals) (hc : cells + rm.cells ≤ R.cells) (hs : slots + rm.slots ≤ R.slots)
    {g : JFrame} (hg : g.method = m) (hsize : g.locals.size = c.maxLocals) (hlen : ∀ sig, parseMethodDescriptor y.desc = some sig → argsL.length = sig.parameters.length) (hstack : g.stack = argsL.reverse ++ .ref a :: rest) (hW : 2 * g.monitorRoom + (rest.map fun v => v.category).sum ≤ W) (hdg : decode c.code g.pc = .ok (.invokevirtual index, 3)) :
    ∃ (v : Option Value) (T' : State) (L : List Loc), Q v T'.heap L ∧ Stand p l e R s m args below meth c T' (locs ++ L) (cells + rm.cells) (slots + rm.slots) ∧ ∀ target, Steps p.tables e below (T'.setTop { g with pc := g.pc + 3, stack := v.toList ++ rest }) target → Steps p.tables e below (T.setTop g) target := by
  obtain ⟨cq, kq, qa, qb, qc⟩ := isOf hZ eT E
  obtain ⟨v, _, ⟨T', L', k', n'⟩, -, X', ⟨L, hQ, e1, e2, e3⟩, st⟩ := X.virtualBackUp hx (x := y) (y := z) (owner := owner) hown (mvT hZ w1) (mvT hZ wm) (mvT hZ w2) hy (mvT hZ ws) (mvT hZ wi) (backOf (W := W) hM hZ w4 w3 hf hl) qa qc hg hsize (Steps.refl _) hlen hstack hW hdg (fun _ _ => ⟨rfl, eT, hc, hs⟩)
  dsimp only [Pt.U, Pt.locs, Pt.cells, Pt.slots] at X' e1 e2 e3 st hQ
  subst e1 e2 e3
  exact ⟨v, T', L, hQ, X', fun _ z => st.trans z⟩
theorem cFa (X : Stand p l e R s m args below meth c T locs cells slots) (hx : p.tables.exec = Jvm.exec) (hZ : Z.Warmed39 s.vm) {own C : String} {index count : Nat} {y z : MethodName} {bytes : ByteArray} {maxL : Nat} {ret : Option FieldType} (hown : s.vm.findClass own = some m.cls)
    (w1 : (Jvm.Cond.methodLink own index y).before a0 Z = true) (w2 : (Jvm.Cond.declares y).before a0 Z = true) (wf : (Jvm.Cond.interfaceMethod y.cls y.cls y.name y.desc).before args s = true) (ws : (Jvm.Cond.selects C y z).before a0 Z = true) (wi : (Jvm.Cond.instanceMethod z).before a0 Z = true) (wp : (Jvm.Cond.publicMethod z).before a0 Z = true) (wu : (Jvm.Cond.unhidden C y.name y.desc).before a0 Z = true) (wk : (Jvm.Cond.castable C y.cls).before a0 Z = true) (w3 : (Jvm.Cond.initialized z.cls).before a0 Z = true) (w4 : (Jvm.Cond.code z bytes maxL ret).before a0 Z = true)
    (hy : y.cls ≠ "java/lang/invoke/MethodHandle" ∧ y.cls ≠ "java/lang/invoke/VarHandle")
    {rm : Room} {a : Addr} {argsL rest : List Value} (hM : ctr l Z z bytes maxL ret [] rm rm.cells rm.slots (.ref a :: argsL).toArray h Q) (eT : T.heap = h) (E : Exa Z h a C) (W : Nat) (hf : rm.frames + 1 ≤ R.frames) (hl : W + (maxL + 11) + rm.locals ≤ R.locals) (hc : cells + rm.cells ≤ R.cells) (hs : slots + rm.slots ≤ R.slots)
    {g : JFrame} (hg : g.method = m) (hsize : g.locals.size = c.maxLocals) (hlen : ∀ sig, parseMethodDescriptor y.desc = some sig → argsL.length = sig.parameters.length) (hstack : g.stack = argsL.reverse ++ .ref a :: rest) (hW : 2 * g.monitorRoom + (rest.map fun v => v.category).sum ≤ W) (hdg : decode c.code g.pc = .ok (.invokeinterface index count, 5)) :
    ∃ (v : Option Value) (T' : State) (L : List Loc), Q v T'.heap L ∧ Stand p l e R s m args below meth c T' (locs ++ L) (cells + rm.cells) (slots + rm.slots) ∧ ∀ target, Steps p.tables e below (T'.setTop { g with pc := g.pc + 5, stack := v.toList ++ rest }) target → Steps p.tables e below (T.setTop g) target := by
  obtain ⟨cq, kq, qa, qb, qc⟩ := isOf hZ eT E
  obtain ⟨v, _, ⟨T', L', k', n'⟩, -, X', ⟨L, hQ, e1, e2, e3⟩, st⟩ := X.interfaceBack hx (xi := y) (y := z) hown (mvT hZ w1) (mvT hZ w2) wf (mvT hZ ws) (mvT hZ wi) (mvT hZ wp) (mvT hZ wu) (mvT hZ wk) hy (backOf (W := W) hM hZ w4 w3 hf hl) qa qb qc hg hsize (Steps.refl _) hlen hstack hW hdg (fun _ _ => ⟨rfl, eT, hc, hs⟩)
  dsimp only [Pt.U, Pt.locs, Pt.cells, Pt.slots] at X' e1 e2 e3 st hQ
  subst e1 e2 e3
  exact ⟨v, T', L, hQ, X', fun _ z => st.trans z⟩
/-- a static's fact over a Keep: its holder's cell is none of the written -/
theorem Sta.keep {h' : Heap} {C n d : String} {v : Value} {ws : List Addr} (F : Sta Z h C n d v) (K : Keep h h' ws) (q : ∀ (x : Addr) (c : Cell), x ∈ ws → h[x]? = some c → c.vm.isStatics = false) : Sta Z h' C n d v := by
  obtain ⟨cf, i, k, f, st, cell, h1, h2, h3, h4, h5, h6, h7⟩ := F
  refine ⟨cf, i, k, f, st, cell, h1, h2, h3, h4, K.2.1 _ _ h5 (fun y => ?_), h6, h7⟩
  rw [q st cell y h5] at h6; cases h6
theorem own_ns {a : Addr} {C : String} (E : Exa Z h a C) : ∀ (x : Addr) (c : Cell), x ∈ [a] → h[x]? = some c → c.vm.isStatics = false := by
  intro x c hx hc
  cases List.mem_singleton.mp hx
  obtain ⟨cell, k, h1, -, -, h4, -⟩ := E
  rw [h1] at hc; cases hc; exact h4
/-- an int field of what a term names, out of an 'eq' of the case -/
theorem own_fld {args : Array Value} {a : Addr} {C n d : String} {t : Term} {x : Int32} (ev : t.eval args Z none [] Z = some (.ref a)) (hq : (Jvm.Cond.eq (.field t C n d) (.int x)).value args Z none Z [] = some true) : Fld Z Z.heap a C n d (.int x) := by
  obtain ⟨u, w, h1, h2, k1, k2⟩ := cmp_v (Or.inl hq)
  have h2' : w = .int x := by rw [Term.int_eval] at h2; exact (Option.some.inj h2).symm
  subst h2'
  obtain ⟨z, rfl⟩ : ∃ z, u = .int z := k2
  have : z = x := gotT (Cond.eq_ints h1 (Term.int_eval x)) hq
  subst this
  exact Fld.start (by rw [← fld_at ev]; exact h1)
theorem own_cat {v : Value} (r : v.isRef = true) : v.category = 1 := by rcases ref_cases r with rfl | ⟨a, rfl⟩ <;> rfl
theorem own_narO {C : String} {v : Value} (r : v.isRef = true) : narrow (.object C) v = v := by rcases ref_cases r with rfl | ⟨a, rfl⟩ <;> rfl
theorem own_fitO {C : String} {v : Value} (r : v.isRef = true) : fits (.object C) v = true := by rcases ref_cases r with rfl | ⟨a, rfl⟩ <;> rfl
theorem own_len {args : Array Value} {a : Addr} {cl : Cell} {ty : FieldType} {t : Term} {x : Int32} (ev : t.eval args Z none [] Z = some (.ref a)) (A : Arr Z Z.heap a cl ty) (hq : (Jvm.Cond.eq (.length t) (.int x)).value args Z none Z [] = some true) : cl.slots.size = x.toNatClampNeg ∧ cl.slots.size < 2 ^ 31 := by
  have ha : Z.arrayAt? a = some cl := IntBox.arrayAt_of A.1 A.2.1 A.2.2
  by_cases p : cl.slots.size < 2 ^ 31
  · have q := gotT (Cond.eq_ints (len_f ev ha p) (Term.int_eval x)) hq
    refine ⟨?_, p⟩
    rw [← q, Int32.toNatClampNeg, len_toInt p]; rfl
  · obtain ⟨u, w, h1, h2, -, -⟩ := cmp_v (Or.inl hq)
    exact absurd h1 (by simp [Term.eval, ev, ha, p])
theorem own_elem {args : Array Value} {a b : Addr} {cl : Cell} {ty : FieldType} {t u : Term} {j : Int32} (ev : t.eval args Z none [] Z = some (.ref a)) (A : Arr Z Z.heap a cl ty) (eu : u.eval args Z none [] Z = some (.ref b)) (hq : (Jvm.Cond.eq (.elem t (.int j)) u).value args Z none Z [] = some true) : cl.slots[j.toNatClampNeg]? = some (.ref b) := by
  obtain ⟨x, y, h1, h2, k1, k2⟩ := cmp_v (Or.inl hq)
  rw [eu] at h2; cases h2
  have e := gotT (eq_R h1 eu k2.2 rfl) hq
  rw [← e]; exact (elem_in h1 ev (Term.int_eval j) A.1).2
end Own
end Jvm.RoadKit
namespace Jvm.Pilot.@@N@@
open Jvm Jvm.ClassFile Sem Op Lib Jvm.Free Jvm.Stand Jvm.LawKit Jvm.RoadKit Bundle Jvm.Pilot.@@N@@.Jvm.D
theorem d1_0 : decode prog_131_method_4_code 0 = .ok (.iload_n 0, 1) := by decide +kernel
theorem d1_1 : decode prog_131_method_4_code 1 = .ok (.getstatic 3, 3) := by decide +kernel
theorem d1_4 : decode prog_131_method_4_code 4 = .ok (.getfield 47, 3) := by decide +kernel
theorem d1_7 : decode prog_131_method_4_code 7 = .ok (.isub, 1) := by decide +kernel
theorem d1_8 : decode prog_131_method_4_code 8 = .ok (.istore_n 1, 1) := by decide +kernel
theorem d1_9 : decode prog_131_method_4_code 9 = .ok (.iload_n 1, 1) := by decide +kernel
theorem d1_10 : decode prog_131_method_4_code 10 = .ok (.ifCond .lt 19, 3) := by decide +kernel
theorem d1_13 : decode prog_131_method_4_code 13 = .ok (.iload_n 1, 1) := by decide +kernel
theorem d1_14 : decode prog_131_method_4_code 14 = .ok (.getstatic 55, 3) := by decide +kernel
theorem d1_17 : decode prog_131_method_4_code 17 = .ok (.arraylength, 1) := by decide +kernel
theorem d1_18 : decode prog_131_method_4_code 18 = .ok (.if_icmp .ge 11, 3) := by decide +kernel
theorem d1_21 : decode prog_131_method_4_code 21 = .ok (.getstatic 55, 3) := by decide +kernel
theorem d1_24 : decode prog_131_method_4_code 24 = .ok (.iload_n 1, 1) := by decide +kernel
theorem d1_25 : decode prog_131_method_4_code 25 = .ok (.aaload, 1) := by decide +kernel
theorem d1_26 : decode prog_131_method_4_code 26 = .ok (.goto 4, 3) := by decide +kernel
theorem d1_29 : decode prog_131_method_4_code 29 = .ok (.aconst_null, 1) := by decide +kernel
theorem d1_30 : decode prog_131_method_4_code 30 = .ok (.areturn, 1) := by decide +kernel
theorem d2_0 : decode method_2_code 0 = .ok (.iload_n 0, 1) := by decide +kernel
theorem d2_1 : decode method_2_code 1 = .ok (.iconst 4, 1) := by decide +kernel
theorem d2_2 : decode method_2_code 2 = .ok (.if_icmp .ne 7, 3) := by decide +kernel
theorem d2_5 : decode method_2_code 5 = .ok (.getstatic 7, 3) := by decide +kernel
theorem d2_8 : decode method_2_code 8 = .ok (.areturn, 1) := by decide +kernel
theorem d2_9 : decode method_2_code 9 = .ok (.iload_n 0, 1) := by decide +kernel
theorem d2_10 : decode method_2_code 10 = .ok (.iconst 5, 1) := by decide +kernel
theorem d2_11 : decode method_2_code 11 = .ok (.if_icmp .ne 7, 3) := by decide +kernel
theorem d2_14 : decode method_2_code 14 = .ok (.getstatic 13, 3) := by decide +kernel
theorem d2_17 : decode method_2_code 17 = .ok (.areturn, 1) := by decide +kernel
theorem d2_18 : decode method_2_code 18 = .ok (.iload_n 0, 1) := by decide +kernel
theorem d2_19 : decode method_2_code 19 = .ok (.bipush 6, 2) := by decide +kernel
theorem d2_21 : decode method_2_code 21 = .ok (.if_icmp .ne 7, 3) := by decide +kernel
theorem d2_24 : decode method_2_code 24 = .ok (.getstatic 16, 3) := by decide +kernel
theorem d2_27 : decode method_2_code 27 = .ok (.areturn, 1) := by decide +kernel
theorem d2_28 : decode method_2_code 28 = .ok (.iload_n 0, 1) := by decide +kernel
theorem d2_29 : decode method_2_code 29 = .ok (.bipush 7, 2) := by decide +kernel
theorem d2_31 : decode method_2_code 31 = .ok (.if_icmp .ne 7, 3) := by decide +kernel
theorem d2_34 : decode method_2_code 34 = .ok (.getstatic 19, 3) := by decide +kernel
theorem d2_37 : decode method_2_code 37 = .ok (.areturn, 1) := by decide +kernel
theorem d2_38 : decode method_2_code 38 = .ok (.iload_n 0, 1) := by decide +kernel
theorem d2_39 : decode method_2_code 39 = .ok (.bipush 8, 2) := by decide +kernel
theorem d2_41 : decode method_2_code 41 = .ok (.if_icmp .ne 7, 3) := by decide +kernel
theorem d2_44 : decode method_2_code 44 = .ok (.getstatic 22, 3) := by decide +kernel
theorem d2_47 : decode method_2_code 47 = .ok (.areturn, 1) := by decide +kernel
theorem d2_48 : decode method_2_code 48 = .ok (.iload_n 0, 1) := by decide +kernel
theorem d2_49 : decode method_2_code 49 = .ok (.bipush 9, 2) := by decide +kernel
theorem d2_51 : decode method_2_code 51 = .ok (.if_icmp .ne 7, 3) := by decide +kernel
theorem d2_54 : decode method_2_code 54 = .ok (.getstatic 25, 3) := by decide +kernel
theorem d2_57 : decode method_2_code 57 = .ok (.areturn, 1) := by decide +kernel
theorem d2_58 : decode method_2_code 58 = .ok (.iload_n 0, 1) := by decide +kernel
theorem d2_59 : decode method_2_code 59 = .ok (.bipush 10, 2) := by decide +kernel
theorem d2_61 : decode method_2_code 61 = .ok (.if_icmp .ne 7, 3) := by decide +kernel
theorem d2_64 : decode method_2_code 64 = .ok (.getstatic 28, 3) := by decide +kernel
theorem d2_67 : decode method_2_code 67 = .ok (.areturn, 1) := by decide +kernel
theorem d2_68 : decode method_2_code 68 = .ok (.iload_n 0, 1) := by decide +kernel
theorem d2_69 : decode method_2_code 69 = .ok (.bipush 11, 2) := by decide +kernel
theorem d2_71 : decode method_2_code 71 = .ok (.if_icmp .ne 7, 3) := by decide +kernel
theorem d2_74 : decode method_2_code 74 = .ok (.getstatic 31, 3) := by decide +kernel
theorem d2_77 : decode method_2_code 77 = .ok (.areturn, 1) := by decide +kernel
theorem d2_78 : decode method_2_code 78 = .ok (.aconst_null, 1) := by decide +kernel
theorem d2_79 : decode method_2_code 79 = .ok (.areturn, 1) := by decide +kernel
theorem pn0 : plainName "com/example/bytewright/bytewright/PrimitiveType" = true := by first | (simp [plainName, overriddenIn]; done) | decide +kernel
theorem pn1 : plainName "com/example/bytewright/bytewright/PrimitiveTypeOfArrayTypeCodePinLaw" = true := by first | (simp [plainName, overriddenIn]; done) | decide +kernel
theorem pd0 : parseMethodDescriptor "(I)Lcom/example/bytewright/bytewright/PrimitiveType;" = some ⟨[.int], some (.object "com/example/bytewright/bytewright/PrimitiveType")⟩ := by decide +kernel
def own_val (a_BOOLEAN a_CHAR a_FLOAT a_DOUBLE a_BYTE a_SHORT a_INT a_LONG : Addr) (c : Int32) : Value := if c = 4 then .ref a_BOOLEAN else if c = 5 then .ref a_CHAR else if c = 6 then .ref a_FLOAT else if c = 7 then .ref a_DOUBLE else if c = 8 then .ref a_BYTE else if c = 9 then .ref a_SHORT else if c = 10 then .ref a_INT else if c = 11 then .ref a_LONG else .null
theorem own_val_ref (a_BOOLEAN a_CHAR a_FLOAT a_DOUBLE a_BYTE a_SHORT a_INT a_LONG : Addr) (c : Int32) : (own_val a_BOOLEAN a_CHAR a_FLOAT a_DOUBLE a_BYTE a_SHORT a_INT a_LONG c).isRef = true := by
  unfold own_val
  repeat' split
  all_goals rfl
theorem own_out (a_BOOLEAN a_CHAR a_FLOAT a_DOUBLE a_BYTE a_SHORT a_INT a_LONG : Addr) (c : Int32) (h : c - 4 < 0 ∨ ¬ c - 4 < 8) : own_val a_BOOLEAN a_CHAR a_FLOAT a_DOUBLE a_BYTE a_SHORT a_INT a_LONG c = .null := by
  have n0 : ¬ c = 4 := by rintro rfl; revert h; decide
  have n1 : ¬ c = 5 := by rintro rfl; revert h; decide
  have n2 : ¬ c = 6 := by rintro rfl; revert h; decide
  have n3 : ¬ c = 7 := by rintro rfl; revert h; decide
  have n4 : ¬ c = 8 := by rintro rfl; revert h; decide
  have n5 : ¬ c = 9 := by rintro rfl; revert h; decide
  have n6 : ¬ c = 10 := by rintro rfl; revert h; decide
  have n7 : ¬ c = 11 := by rintro rfl; revert h; decide
  simp [own_val, n0, n1, n2, n3, n4, n5, n6, n7]
theorem own_in (c : Int32) (h1 : ¬ c - 4 < 0) (h2 : c - 4 < 8) : c = 4 ∨ c = 5 ∨ c = 6 ∨ c = 7 ∨ c = 8 ∨ c = 9 ∨ c = 10 ∨ c = 11 := by
  have q := c_isub c 4
  have r := rng32 c
  have r' := rng32 (c - 4)
  rw [Int32.lt_iff_toInt_lt, show (0 : Int32).toInt = 0 by decide] at h1
  rw [Int32.lt_iff_toInt_lt, show (8 : Int32).toInt = 8 by decide] at h2
  rw [show (4 : Int32).toInt = 4 by decide] at q
  have u : c.toInt = 4 ∨ c.toInt = 5 ∨ c.toInt = 6 ∨ c.toInt = 7 ∨ c.toInt = 8 ∨ c.toInt = 9 ∨ c.toInt = 10 ∨ c.toInt = 11 := by omega
  rcases u with u | u | u | u | u | u | u | u
  · exact Or.inl (Int32.toInt_inj.mp u)
  · exact Or.inr (Or.inl (Int32.toInt_inj.mp u))
  · exact Or.inr (Or.inr (Or.inl (Int32.toInt_inj.mp u)))
  · exact Or.inr (Or.inr (Or.inr (Or.inl (Int32.toInt_inj.mp u))))
  · exact Or.inr (Or.inr (Or.inr (Or.inr (Or.inl (Int32.toInt_inj.mp u)))))
  · exact Or.inr (Or.inr (Or.inr (Or.inr (Or.inr (Or.inl (Int32.toInt_inj.mp u))))))
  · exact Or.inr (Or.inr (Or.inr (Or.inr (Or.inr (Or.inr (Or.inl (Int32.toInt_inj.mp u)))))))
  · exact Or.inr (Or.inr (Or.inr (Or.inr (Or.inr (Or.inr (Or.inr (Int32.toInt_inj.mp u)))))))
theorem own_at (a_BOOLEAN a_CHAR a_FLOAT a_DOUBLE a_BYTE a_SHORT a_INT a_LONG : Addr) (l : Cell) (v0 : l.slots[0]? = some (.ref a_BOOLEAN)) (v1 : l.slots[1]? = some (.ref a_CHAR)) (v2 : l.slots[2]? = some (.ref a_FLOAT)) (v3 : l.slots[3]? = some (.ref a_DOUBLE)) (v4 : l.slots[4]? = some (.ref a_BYTE)) (v5 : l.slots[5]? = some (.ref a_SHORT)) (v6 : l.slots[6]? = some (.ref a_INT)) (v7 : l.slots[7]? = some (.ref a_LONG)) (c : Int32) (h1 : ¬ c - 4 < 0) (h2 : c - 4 < 8) : l.slots[(c - 4).toNatClampNeg]? = some (own_val a_BOOLEAN a_CHAR a_FLOAT a_DOUBLE a_BYTE a_SHORT a_INT a_LONG c) := by
  rcases own_in c h1 h2 with rfl | rfl | rfl | rfl | rfl | rfl | rfl | rfl
  · exact v0
  · exact v1
  · exact v2
  · exact v3
  · exact v4
  · exact v5
  · exact v6
  · exact v7
theorem own_nin (l : Cell) (z : l.slots.size = 8) (c : Int32) (h1 : ¬ c - 4 < 0) (h2 : c - 4 < 8) : ¬ (c - 4 < 0 ∨ l.slots.size ≤ (c - 4).toNatClampNeg) := by
  rintro (q | q)
  · exact h1 q
  · rw [z] at q
    rcases own_in c h1 h2 with rfl | rfl | rfl | rfl | rfl | rfl | rfl | rfl <;> revert q <;> decide
theorem ef1 (m : MethodId) (x0 : Int32) : entryFrame m #[(.int x0)] 2 = mkF m 0 #[.val (.int x0), .unset] [] := by first | (simp [entryFrame, mkF, argsToLocals, Value.category]; done) | rfl
set_option maxRecDepth 65536 in
set_option maxHeartbeats 40000000 in
theorem rm1 (l : Launch) (Z : State) (a0 : Array Value) (hw : ∀ d ∈ tables_1, d.before a0 Z = true) (h0 : Heap) (n0 : Nat) (Z0 : n0 ≤ h0.size) (c : Int32) (a_BOOLEAN a_VALUES a_FLOAT a_BYTE a_CHAR a_DOUBLE a_SHORT a_INT a_LONG : Addr) (l_VALUES : Cell) (S_BOOLEAN : Sta Z h0 "com/example/bytewright/bytewright/PrimitiveType" "BOOLEAN" "Lcom/example/bytewright/bytewright/PrimitiveType;" (.ref a_BOOLEAN)) (F_BOOLEAN_arrayTypeCode : Fld Z h0 a_BOOLEAN "com/example/bytewright/bytewright/PrimitiveType" "arrayTypeCode" "I" (.int (4 : Int32))) (S_VALUES : Sta Z h0 "com/example/bytewright/bytewright/PrimitiveType" "VALUES" "[Lcom/example/bytewright/bytewright/PrimitiveType;" (.ref a_VALUES)) (R_VALUES : Arr Z h0 a_VALUES l_VALUES (.object "com/example/bytewright/bytewright/PrimitiveType")) (z_VALUES : l_VALUES.slots.size = 8) (v_VALUES_0 : l_VALUES.slots[0]? = some (.ref a_BOOLEAN)) (v_VALUES_2 : l_VALUES.slots[2]? = some (.ref a_FLOAT)) (v_VALUES_4 : l_VALUES.slots[4]? = some (.ref a_BYTE)) (v_VALUES_1 : l_VALUES.slots[1]? = some (.ref a_CHAR)) (v_VALUES_3 : l_VALUES.slots[3]? = some (.ref a_DOUBLE)) (v_VALUES_5 : l_VALUES.slots[5]? = some (.ref a_SHORT)) (v_VALUES_6 : l_VALUES.slots[6]? = some (.ref a_INT)) (v_VALUES_7 : l_VALUES.slots[7]? = some (.ref a_LONG)) :
    ctr l Z (⟨"com/example/bytewright/bytewright/PrimitiveType", "ofArrayTypeCode", "(I)Lcom/example/bytewright/bytewright/PrimitiveType;"⟩ : MethodName) prog_131_method_4_code 2 (some (.object "com/example/bytewright/bytewright/PrimitiveType")) [] ({ frames := 0, cells := 0, slots := 0, locals := 0 } : Room) 0 0 #[(.int c)] h0 (fun v h L => v = some (own_val a_BOOLEAN a_CHAR a_FLOAT a_DOUBLE a_BYTE a_SHORT a_INT a_LONG c) ∧ Fr n0 L ∧ h = h0) := by
  refine ctr_of (plainFor_of_name pn0) ?_
  intro p e s m below meth jc s₁ hx hby hml hret hlk hnm hown hZ e0 X0
  have N0 := Fr.nil n0
  refine Dn.cast (ef1 m c) ?_
  show Dn p e below s _ _ _ (s₁.setTop (mkF m 0 #[.val (.int c), .unset] []))
  refine Dn.of (fun tt_ zz_ => XS.iloadN X0.here hx rfl (hb hby d1_0) rfl zz_) ?_
  show Dn p e below s _ _ _ (s₁.setTop (mkF m 1 #[.val (.int c), .unset] [(.int c)]))
  obtain ⟨T1, X1, e1, st1⟩ := getS2 X0 hx hZ hown (host := "") (Or.inl (hw _ (List.mem_of_getElem? (i := 4) rfl))) Via.refl e0 S_BOOLEAN (g := (mkF m 1 #[.val (.int c), .unset] [(.int c)])) rfl (hb hby d1_1)
  refine Dn.of st1 ?_
  show Dn p e below s _ _ _ (T1.setTop (mkF m 4 #[.val (.int c), .unset] [(.ref a_BOOLEAN), (.int c)]))
  obtain ⟨T2, X2, e2, st2⟩ := getF X1 hx hZ hown (host := "") (Or.inl (hw _ (List.mem_of_getElem? (i := 6) rfl))) Via.refl e1 F_BOOLEAN_arrayTypeCode (g := (mkF m 4 #[.val (.int c), .unset] [(.ref a_BOOLEAN), (.int c)])) rfl rfl (hb hby d1_4)
  refine Dn.of st2 ?_
  show Dn p e below s _ _ _ (T2.setTop (mkF m 7 #[.val (.int c), .unset] [(.int (4 : Int32)), (.int c)]))
  refine Dn.of (fun tt_ zz_ => XS.isub X2.here hx rfl (hb hby d1_7) rfl zz_) ?_
  show Dn p e below s _ _ _ (T2.setTop (mkF m 8 #[.val (.int c), .unset] [(.int (c - (4 : Int32)))]))
  refine Dn.of (fun tt_ zz_ => XS.istoreN X2.here hx rfl (hb hby d1_8) rfl (l' := #[.val (.int c), .val (.int (c - (4 : Int32)))]) rfl zz_) ?_
  show Dn p e below s _ _ _ (T2.setTop (mkF m 9 #[.val (.int c), .val (.int (c - (4 : Int32)))] []))
  refine Dn.of (fun tt_ zz_ => XS.iloadN X2.here hx rfl (hb hby d1_9) rfl zz_) ?_
  show Dn p e below s _ _ _ (T2.setTop (mkF m 10 #[.val (.int c), .val (.int (c - (4 : Int32)))] [(.int (c - (4 : Int32)))]))
  by_cases h1 : (c - (4 : Int32)) < (0 : Int32)
  · skip
    refine Dn.of (fun tt_ zz_ => XS.ifYes X2.here hx rfl (pc0 := 10) (pc' := 29) rfl (hb hby d1_10) rfl ((if0 _ _).trans (tlt h1).1) (by decide) (by decide) zz_) ?_
    show Dn p e below s _ _ _ (T2.setTop (mkF m 29 #[.val (.int c), .val (.int (c - (4 : Int32)))] []))
    refine Dn.of (fun tt_ zz_ => XS.aconstNull X2.here hx rfl (hb hby d1_29) zz_) ?_
    show Dn p e below s _ _ _ (T2.setTop (mkF m 30 #[.val (.int c), .val (.int (c - (4 : Int32)))] [.null]))
    exact Dn.retA X2 hx hlk hret rfl rfl (hb hby d1_30) (by decide) (by decide) (⟨congrArg some (own_out a_BOOLEAN a_CHAR a_FLOAT a_DOUBLE a_BYTE a_SHORT a_INT a_LONG c (Or.inl h1)).symm, N0, e2⟩)
  · skip
    refine Dn.of (fun tt_ zz_ => XS.ifNo X2.here hx rfl (hb hby d1_10) rfl ((if0 _ _).trans (flt h1).1) zz_) ?_
    show Dn p e below s _ _ _ (T2.setTop (mkF m 13 #[.val (.int c), .val (.int (c - (4 : Int32)))] []))
    refine Dn.of (fun tt_ zz_ => XS.iloadN X2.here hx rfl (hb hby d1_13) rfl zz_) ?_
    show Dn p e below s _ _ _ (T2.setTop (mkF m 14 #[.val (.int c), .val (.int (c - (4 : Int32)))] [(.int (c - (4 : Int32)))]))
    obtain ⟨T3, X3, e3, st3⟩ := getS2 X2 hx hZ hown (host := "") (Or.inl (hw _ (List.mem_of_getElem? (i := 12) rfl))) Via.refl e2 S_VALUES (g := (mkF m 14 #[.val (.int c), .val (.int (c - (4 : Int32)))] [(.int (c - (4 : Int32)))])) rfl (hb hby d1_14)
    refine Dn.of st3 ?_
    show Dn p e below s _ _ _ (T3.setTop (mkF m 17 #[.val (.int c), .val (.int (c - (4 : Int32)))] [(.ref a_VALUES), (.int (c - (4 : Int32)))]))
    refine Dn.of (fun tt_ zz_ => X3.arraylength hx (by rw [e3]; exact R_VALUES.1) (State.isArrayOf_alike hZ.alike R_VALUES.2.1) (g := (mkF m 17 #[.val (.int c), .val (.int (c - (4 : Int32)))] [(.ref a_VALUES), (.int (c - (4 : Int32)))])) rfl rfl (hb hby d1_17) tt_ zz_) ?_
    rw [z_VALUES, show (8 : Nat).toInt32 = (8 : Int32) by decide]
    show Dn p e below s _ _ _ (T3.setTop (mkF m 18 #[.val (.int c), .val (.int (c - (4 : Int32)))] [(.int (8 : Int32)), (.int (c - (4 : Int32)))]))
    by_cases h2 : (c - (4 : Int32)) < (8 : Int32)
    · skip
      refine Dn.of (fun tt_ zz_ => XS.icmpNo X3.here hx rfl (hb hby d1_18) rfl (tlt h2).2.1 zz_) ?_
      show Dn p e below s _ _ _ (T3.setTop (mkF m 21 #[.val (.int c), .val (.int (c - (4 : Int32)))] []))
      obtain ⟨T4, X4, e4, st4⟩ := getS2 X3 hx hZ hown (host := "") (Or.inl (hw _ (List.mem_of_getElem? (i := 12) rfl))) Via.refl e3 S_VALUES (g := (mkF m 21 #[.val (.int c), .val (.int (c - (4 : Int32)))] [])) rfl (hb hby d1_21)
      refine Dn.of st4 ?_
      show Dn p e below s _ _ _ (T4.setTop (mkF m 24 #[.val (.int c), .val (.int (c - (4 : Int32)))] [(.ref a_VALUES)]))
      refine Dn.of (fun tt_ zz_ => XS.iloadN X4.here hx rfl (hb hby d1_24) rfl zz_) ?_
      show Dn p e below s _ _ _ (T4.setTop (mkF m 25 #[.val (.int c), .val (.int (c - (4 : Int32)))] [(.int (c - (4 : Int32))), (.ref a_VALUES)]))
      refine Dn.of (fun tt_ zz_ => X4.aaload hx (j := (c - (4 : Int32))) (v := (own_val a_BOOLEAN a_CHAR a_FLOAT a_DOUBLE a_BYTE a_SHORT a_INT a_LONG c)) (by rw [e4]; exact R_VALUES.1) (State.isArrayOf_alike hZ.alike R_VALUES.2.1) rfl R_VALUES.2.2 (own_nin l_VALUES z_VALUES c h1 h2) (own_at a_BOOLEAN a_CHAR a_FLOAT a_DOUBLE a_BYTE a_SHORT a_INT a_LONG l_VALUES v_VALUES_0 v_VALUES_1 v_VALUES_2 v_VALUES_3 v_VALUES_4 v_VALUES_5 v_VALUES_6 v_VALUES_7 c h1 h2) (g := (mkF m 25 #[.val (.int c), .val (.int (c - (4 : Int32)))] [(.int (c - (4 : Int32))), (.ref a_VALUES)])) rfl rfl (hb hby d1_25) tt_ zz_) ?_
      show Dn p e below s _ _ _ (T4.setTop (mkF m 26 #[.val (.int c), .val (.int (c - (4 : Int32)))] [(own_val a_BOOLEAN a_CHAR a_FLOAT a_DOUBLE a_BYTE a_SHORT a_INT a_LONG c)]))
      refine Dn.of (fun tt_ zz_ => XS.goto X4.here hx rfl (pc0 := 26) (pc' := 30) rfl (hb hby d1_26) (by decide) (by decide) zz_) ?_
      show Dn p e below s _ _ _ (T4.setTop (mkF m 30 #[.val (.int c), .val (.int (c - (4 : Int32)))] [(own_val a_BOOLEAN a_CHAR a_FLOAT a_DOUBLE a_BYTE a_SHORT a_INT a_LONG c)]))
      exact Dn.retA X4 hx hlk hret rfl (own_val_ref a_BOOLEAN a_CHAR a_FLOAT a_DOUBLE a_BYTE a_SHORT a_INT a_LONG c) (hb hby d1_30) (by decide) (by decide) (⟨rfl, N0, e4⟩)
    · skip
      refine Dn.of (fun tt_ zz_ => XS.icmpYes X3.here hx rfl (pc0 := 18) (pc' := 29) rfl (hb hby d1_18) rfl (flt h2).2.1 (by decide) (by decide) zz_) ?_
      show Dn p e below s _ _ _ (T3.setTop (mkF m 29 #[.val (.int c), .val (.int (c - (4 : Int32)))] []))
      refine Dn.of (fun tt_ zz_ => XS.aconstNull X3.here hx rfl (hb hby d1_29) zz_) ?_
      show Dn p e below s _ _ _ (T3.setTop (mkF m 30 #[.val (.int c), .val (.int (c - (4 : Int32)))] [.null]))
      exact Dn.retA X3 hx hlk hret rfl rfl (hb hby d1_30) (by decide) (by decide) (⟨congrArg some (own_out a_BOOLEAN a_CHAR a_FLOAT a_DOUBLE a_BYTE a_SHORT a_INT a_LONG c (Or.inr h2)).symm, N0, e3⟩)
theorem ef2 (m : MethodId) (x0 : Int32) : entryFrame m #[(.int x0)] 1 = mkF m 0 #[.val (.int x0)] [] := by first | (simp [entryFrame, mkF, argsToLocals, Value.category]; done) | rfl
set_option maxRecDepth 65536 in
set_option maxHeartbeats 40000000 in
theorem rm2 (l : Launch) (Z : State) (a0 : Array Value) (hw : ∀ d ∈ tables_1, d.before a0 Z = true) (h0 : Heap) (n0 : Nat) (Z0 : n0 ≤ h0.size) (c : Int32) (a_BOOLEAN a_VALUES a_FLOAT a_BYTE a_CHAR a_DOUBLE a_SHORT a_INT a_LONG : Addr) (l_VALUES : Cell) (S_BOOLEAN : Sta Z h0 "com/example/bytewright/bytewright/PrimitiveType" "BOOLEAN" "Lcom/example/bytewright/bytewright/PrimitiveType;" (.ref a_BOOLEAN)) (S_FLOAT : Sta Z h0 "com/example/bytewright/bytewright/PrimitiveType" "FLOAT" "Lcom/example/bytewright/bytewright/PrimitiveType;" (.ref a_FLOAT)) (S_BYTE : Sta Z h0 "com/example/bytewright/bytewright/PrimitiveType" "BYTE" "Lcom/example/bytewright/bytewright/PrimitiveType;" (.ref a_BYTE)) (S_CHAR : Sta Z h0 "com/example/bytewright/bytewright/PrimitiveType" "CHAR" "Lcom/example/bytewright/bytewright/PrimitiveType;" (.ref a_CHAR)) (S_DOUBLE : Sta Z h0 "com/example/bytewright/bytewright/PrimitiveType" "DOUBLE" "Lcom/example/bytewright/bytewright/PrimitiveType;" (.ref a_DOUBLE)) (S_SHORT : Sta Z h0 "com/example/bytewright/bytewright/PrimitiveType" "SHORT" "Lcom/example/bytewright/bytewright/PrimitiveType;" (.ref a_SHORT)) (S_INT : Sta Z h0 "com/example/bytewright/bytewright/PrimitiveType" "INT" "Lcom/example/bytewright/bytewright/PrimitiveType;" (.ref a_INT)) (S_LONG : Sta Z h0 "com/example/bytewright/bytewright/PrimitiveType" "LONG" "Lcom/example/bytewright/bytewright/PrimitiveType;" (.ref a_LONG)) :
    ctr l Z (⟨"com/example/bytewright/bytewright/PrimitiveTypeOfArrayTypeCodePinLaw", "expected", "(I)Lcom/example/bytewright/bytewright/PrimitiveType;"⟩ : MethodName) method_2_code 1 (some (.object "com/example/bytewright/bytewright/PrimitiveType")) [] ({ frames := 0, cells := 0, slots := 0, locals := 0 } : Room) 0 0 #[(.int c)] h0 (fun v h L => v = some (own_val a_BOOLEAN a_CHAR a_FLOAT a_DOUBLE a_BYTE a_SHORT a_INT a_LONG c) ∧ Fr n0 L ∧ h = h0) := by
  refine ctr_of (plainFor_of_name pn1) ?_
  intro p e s m below meth jc s₁ hx hby hml hret hlk hnm hown hZ e0 X0
  have N0 := Fr.nil n0
  refine Dn.cast (ef2 m c) ?_
  show Dn p e below s _ _ _ (s₁.setTop (mkF m 0 #[.val (.int c)] []))
  refine Dn.of (fun tt_ zz_ => XS.iloadN X0.here hx rfl (hb hby d2_0) rfl zz_) ?_
  show Dn p e below s _ _ _ (s₁.setTop (mkF m 1 #[.val (.int c)] [(.int c)]))
  refine Dn.of (fun tt_ zz_ => XS.iconst X0.here hx rfl (hb hby d2_1) zz_) ?_
  show Dn p e below s _ _ _ (s₁.setTop (mkF m 2 #[.val (.int c)] [(.int (4 : Int32)), (.int c)]))
  by_cases h0 : c = (4 : Int32)
  · skip
    refine Dn.of (fun tt_ zz_ => XS.icmpNo X0.here hx rfl (hb hby d2_2) rfl (teq h0).2 zz_) ?_
    show Dn p e below s _ _ _ (s₁.setTop (mkF m 5 #[.val (.int c)] []))
    obtain ⟨T5, X5, e5, st5⟩ := getS2 X0 hx hZ hown (host := "") (Or.inl (hw _ (List.mem_of_getElem? (i := 14) rfl))) Via.refl e0 S_BOOLEAN (g := (mkF m 5 #[.val (.int c)] [])) rfl (hb hby d2_5)
    refine Dn.of st5 ?_
    show Dn p e below s _ _ _ (T5.setTop (mkF m 8 #[.val (.int c)] [(.ref a_BOOLEAN)]))
    exact Dn.retA X5 hx hlk hret rfl rfl (hb hby d2_8) (by decide) (by decide) (⟨by simp [own_val, h0], N0, e5⟩)
  · skip
    refine Dn.of (fun tt_ zz_ => XS.icmpYes X0.here hx rfl (pc0 := 2) (pc' := 9) rfl (hb hby d2_2) rfl (feq h0).2 (by decide) (by decide) zz_) ?_
    show Dn p e below s _ _ _ (s₁.setTop (mkF m 9 #[.val (.int c)] []))
    refine Dn.of (fun tt_ zz_ => XS.iloadN X0.here hx rfl (hb hby d2_9) rfl zz_) ?_
    show Dn p e below s _ _ _ (s₁.setTop (mkF m 10 #[.val (.int c)] [(.int c)]))
    refine Dn.of (fun tt_ zz_ => XS.iconst X0.here hx rfl (hb hby d2_10) zz_) ?_
    show Dn p e below s _ _ _ (s₁.setTop (mkF m 11 #[.val (.int c)] [(.int (5 : Int32)), (.int c)]))
    by_cases h1 : c = (5 : Int32)
    · skip
      refine Dn.of (fun tt_ zz_ => XS.icmpNo X0.here hx rfl (hb hby d2_11) rfl (teq h1).2 zz_) ?_
      show Dn p e below s _ _ _ (s₁.setTop (mkF m 14 #[.val (.int c)] []))
      obtain ⟨T6, X6, e6, st6⟩ := getS2 X0 hx hZ hown (host := "") (Or.inl (hw _ (List.mem_of_getElem? (i := 20) rfl))) Via.refl e0 S_CHAR (g := (mkF m 14 #[.val (.int c)] [])) rfl (hb hby d2_14)
      refine Dn.of st6 ?_
      show Dn p e below s _ _ _ (T6.setTop (mkF m 17 #[.val (.int c)] [(.ref a_CHAR)]))
      exact Dn.retA X6 hx hlk hret rfl rfl (hb hby d2_17) (by decide) (by decide) (⟨by simp [own_val, h1], N0, e6⟩)
    · skip
      refine Dn.of (fun tt_ zz_ => XS.icmpYes X0.here hx rfl (pc0 := 11) (pc' := 18) rfl (hb hby d2_11) rfl (feq h1).2 (by decide) (by decide) zz_) ?_
      show Dn p e below s _ _ _ (s₁.setTop (mkF m 18 #[.val (.int c)] []))
      refine Dn.of (fun tt_ zz_ => XS.iloadN X0.here hx rfl (hb hby d2_18) rfl zz_) ?_
      show Dn p e below s _ _ _ (s₁.setTop (mkF m 19 #[.val (.int c)] [(.int c)]))
      refine Dn.of (fun tt_ zz_ => XS.bipush X0.here hx rfl (hb hby d2_19) zz_) ?_
      show Dn p e below s _ _ _ (s₁.setTop (mkF m 21 #[.val (.int c)] [(.int (6 : Int32)), (.int c)]))
      by_cases h2 : c = (6 : Int32)
      · skip
        refine Dn.of (fun tt_ zz_ => XS.icmpNo X0.here hx rfl (hb hby d2_21) rfl (teq h2).2 zz_) ?_
        show Dn p e below s _ _ _ (s₁.setTop (mkF m 24 #[.val (.int c)] []))
        obtain ⟨T7, X7, e7, st7⟩ := getS2 X0 hx hZ hown (host := "") (Or.inl (hw _ (List.mem_of_getElem? (i := 16) rfl))) Via.refl e0 S_FLOAT (g := (mkF m 24 #[.val (.int c)] [])) rfl (hb hby d2_24)
        refine Dn.of st7 ?_
        show Dn p e below s _ _ _ (T7.setTop (mkF m 27 #[.val (.int c)] [(.ref a_FLOAT)]))
        exact Dn.retA X7 hx hlk hret rfl rfl (hb hby d2_27) (by decide) (by decide) (⟨by simp [own_val, h2], N0, e7⟩)
      · skip
        refine Dn.of (fun tt_ zz_ => XS.icmpYes X0.here hx rfl (pc0 := 21) (pc' := 28) rfl (hb hby d2_21) rfl (feq h2).2 (by decide) (by decide) zz_) ?_
        show Dn p e below s _ _ _ (s₁.setTop (mkF m 28 #[.val (.int c)] []))
        refine Dn.of (fun tt_ zz_ => XS.iloadN X0.here hx rfl (hb hby d2_28) rfl zz_) ?_
        show Dn p e below s _ _ _ (s₁.setTop (mkF m 29 #[.val (.int c)] [(.int c)]))
        refine Dn.of (fun tt_ zz_ => XS.bipush X0.here hx rfl (hb hby d2_29) zz_) ?_
        show Dn p e below s _ _ _ (s₁.setTop (mkF m 31 #[.val (.int c)] [(.int (7 : Int32)), (.int c)]))
        by_cases h3 : c = (7 : Int32)
        · skip
          refine Dn.of (fun tt_ zz_ => XS.icmpNo X0.here hx rfl (hb hby d2_31) rfl (teq h3).2 zz_) ?_
          show Dn p e below s _ _ _ (s₁.setTop (mkF m 34 #[.val (.int c)] []))
          obtain ⟨T8, X8, e8, st8⟩ := getS2 X0 hx hZ hown (host := "") (Or.inl (hw _ (List.mem_of_getElem? (i := 22) rfl))) Via.refl e0 S_DOUBLE (g := (mkF m 34 #[.val (.int c)] [])) rfl (hb hby d2_34)
          refine Dn.of st8 ?_
          show Dn p e below s _ _ _ (T8.setTop (mkF m 37 #[.val (.int c)] [(.ref a_DOUBLE)]))
          exact Dn.retA X8 hx hlk hret rfl rfl (hb hby d2_37) (by decide) (by decide) (⟨by simp [own_val, h3], N0, e8⟩)
        · skip
          refine Dn.of (fun tt_ zz_ => XS.icmpYes X0.here hx rfl (pc0 := 31) (pc' := 38) rfl (hb hby d2_31) rfl (feq h3).2 (by decide) (by decide) zz_) ?_
          show Dn p e below s _ _ _ (s₁.setTop (mkF m 38 #[.val (.int c)] []))
          refine Dn.of (fun tt_ zz_ => XS.iloadN X0.here hx rfl (hb hby d2_38) rfl zz_) ?_
          show Dn p e below s _ _ _ (s₁.setTop (mkF m 39 #[.val (.int c)] [(.int c)]))
          refine Dn.of (fun tt_ zz_ => XS.bipush X0.here hx rfl (hb hby d2_39) zz_) ?_
          show Dn p e below s _ _ _ (s₁.setTop (mkF m 41 #[.val (.int c)] [(.int (8 : Int32)), (.int c)]))
          by_cases h4 : c = (8 : Int32)
          · skip
            refine Dn.of (fun tt_ zz_ => XS.icmpNo X0.here hx rfl (hb hby d2_41) rfl (teq h4).2 zz_) ?_
            show Dn p e below s _ _ _ (s₁.setTop (mkF m 44 #[.val (.int c)] []))
            obtain ⟨T9, X9, e9, st9⟩ := getS2 X0 hx hZ hown (host := "") (Or.inl (hw _ (List.mem_of_getElem? (i := 18) rfl))) Via.refl e0 S_BYTE (g := (mkF m 44 #[.val (.int c)] [])) rfl (hb hby d2_44)
            refine Dn.of st9 ?_
            show Dn p e below s _ _ _ (T9.setTop (mkF m 47 #[.val (.int c)] [(.ref a_BYTE)]))
            exact Dn.retA X9 hx hlk hret rfl rfl (hb hby d2_47) (by decide) (by decide) (⟨by simp [own_val, h4], N0, e9⟩)
          · skip
            refine Dn.of (fun tt_ zz_ => XS.icmpYes X0.here hx rfl (pc0 := 41) (pc' := 48) rfl (hb hby d2_41) rfl (feq h4).2 (by decide) (by decide) zz_) ?_
            show Dn p e below s _ _ _ (s₁.setTop (mkF m 48 #[.val (.int c)] []))
            refine Dn.of (fun tt_ zz_ => XS.iloadN X0.here hx rfl (hb hby d2_48) rfl zz_) ?_
            show Dn p e below s _ _ _ (s₁.setTop (mkF m 49 #[.val (.int c)] [(.int c)]))
            refine Dn.of (fun tt_ zz_ => XS.bipush X0.here hx rfl (hb hby d2_49) zz_) ?_
            show Dn p e below s _ _ _ (s₁.setTop (mkF m 51 #[.val (.int c)] [(.int (9 : Int32)), (.int c)]))
            by_cases h5 : c = (9 : Int32)
            · skip
              refine Dn.of (fun tt_ zz_ => XS.icmpNo X0.here hx rfl (hb hby d2_51) rfl (teq h5).2 zz_) ?_
              show Dn p e below s _ _ _ (s₁.setTop (mkF m 54 #[.val (.int c)] []))
              obtain ⟨T10, X10, e10, st10⟩ := getS2 X0 hx hZ hown (host := "") (Or.inl (hw _ (List.mem_of_getElem? (i := 24) rfl))) Via.refl e0 S_SHORT (g := (mkF m 54 #[.val (.int c)] [])) rfl (hb hby d2_54)
              refine Dn.of st10 ?_
              show Dn p e below s _ _ _ (T10.setTop (mkF m 57 #[.val (.int c)] [(.ref a_SHORT)]))
              exact Dn.retA X10 hx hlk hret rfl rfl (hb hby d2_57) (by decide) (by decide) (⟨by simp [own_val, h5], N0, e10⟩)
            · skip
              refine Dn.of (fun tt_ zz_ => XS.icmpYes X0.here hx rfl (pc0 := 51) (pc' := 58) rfl (hb hby d2_51) rfl (feq h5).2 (by decide) (by decide) zz_) ?_
              show Dn p e below s _ _ _ (s₁.setTop (mkF m 58 #[.val (.int c)] []))
              refine Dn.of (fun tt_ zz_ => XS.iloadN X0.here hx rfl (hb hby d2_58) rfl zz_) ?_
              show Dn p e below s _ _ _ (s₁.setTop (mkF m 59 #[.val (.int c)] [(.int c)]))
              refine Dn.of (fun tt_ zz_ => XS.bipush X0.here hx rfl (hb hby d2_59) zz_) ?_
              show Dn p e below s _ _ _ (s₁.setTop (mkF m 61 #[.val (.int c)] [(.int (10 : Int32)), (.int c)]))
              by_cases h6 : c = (10 : Int32)
              · skip
                refine Dn.of (fun tt_ zz_ => XS.icmpNo X0.here hx rfl (hb hby d2_61) rfl (teq h6).2 zz_) ?_
                show Dn p e below s _ _ _ (s₁.setTop (mkF m 64 #[.val (.int c)] []))
                obtain ⟨T11, X11, e11, st11⟩ := getS2 X0 hx hZ hown (host := "") (Or.inl (hw _ (List.mem_of_getElem? (i := 26) rfl))) Via.refl e0 S_INT (g := (mkF m 64 #[.val (.int c)] [])) rfl (hb hby d2_64)
                refine Dn.of st11 ?_
                show Dn p e below s _ _ _ (T11.setTop (mkF m 67 #[.val (.int c)] [(.ref a_INT)]))
                exact Dn.retA X11 hx hlk hret rfl rfl (hb hby d2_67) (by decide) (by decide) (⟨by simp [own_val, h6], N0, e11⟩)
              · skip
                refine Dn.of (fun tt_ zz_ => XS.icmpYes X0.here hx rfl (pc0 := 61) (pc' := 68) rfl (hb hby d2_61) rfl (feq h6).2 (by decide) (by decide) zz_) ?_
                show Dn p e below s _ _ _ (s₁.setTop (mkF m 68 #[.val (.int c)] []))
                refine Dn.of (fun tt_ zz_ => XS.iloadN X0.here hx rfl (hb hby d2_68) rfl zz_) ?_
                show Dn p e below s _ _ _ (s₁.setTop (mkF m 69 #[.val (.int c)] [(.int c)]))
                refine Dn.of (fun tt_ zz_ => XS.bipush X0.here hx rfl (hb hby d2_69) zz_) ?_
                show Dn p e below s _ _ _ (s₁.setTop (mkF m 71 #[.val (.int c)] [(.int (11 : Int32)), (.int c)]))
                by_cases h7 : c = (11 : Int32)
                · skip
                  refine Dn.of (fun tt_ zz_ => XS.icmpNo X0.here hx rfl (hb hby d2_71) rfl (teq h7).2 zz_) ?_
                  show Dn p e below s _ _ _ (s₁.setTop (mkF m 74 #[.val (.int c)] []))
                  obtain ⟨T12, X12, e12, st12⟩ := getS2 X0 hx hZ hown (host := "") (Or.inl (hw _ (List.mem_of_getElem? (i := 28) rfl))) Via.refl e0 S_LONG (g := (mkF m 74 #[.val (.int c)] [])) rfl (hb hby d2_74)
                  refine Dn.of st12 ?_
                  show Dn p e below s _ _ _ (T12.setTop (mkF m 77 #[.val (.int c)] [(.ref a_LONG)]))
                  exact Dn.retA X12 hx hlk hret rfl rfl (hb hby d2_77) (by decide) (by decide) (⟨by simp [own_val, h7], N0, e12⟩)
                · skip
                  refine Dn.of (fun tt_ zz_ => XS.icmpYes X0.here hx rfl (pc0 := 71) (pc' := 78) rfl (hb hby d2_71) rfl (feq h7).2 (by decide) (by decide) zz_) ?_
                  show Dn p e below s _ _ _ (s₁.setTop (mkF m 78 #[.val (.int c)] []))
                  refine Dn.of (fun tt_ zz_ => XS.aconstNull X0.here hx rfl (hb hby d2_78) zz_) ?_
                  show Dn p e below s _ _ _ (s₁.setTop (mkF m 79 #[.val (.int c)] [.null]))
                  exact Dn.retA X0 hx hlk hret rfl rfl (hb hby d2_79) (by decide) (by decide) (⟨by simp [own_val, h0, h1, h2, h3, h4, h5, h6, h7], N0, e0⟩)
def own_Q (n0 : Nat) (v : Option Value) (h : Heap) (L : List Loc) : Prop := v = some (.int 1) ∧ Fr n0 L
theorem ef0 (m : MethodId) (x0 : Int32) (x1 : Int32) : entryFrame m #[(.int x0), (.int x1)] maxLocals = mkF m 0 #[.val (.int x0), .val (.int x1), .unset, .unset, .unset] [] := by first | (simp [entryFrame, mkF, argsToLocals, Value.category, maxLocals]; done) | rfl
set_option maxRecDepth 65536 in
set_option maxHeartbeats 40000000 in
theorem rm0 (l : Launch) (Z : State) (a0 : Array Value) (hw : ∀ d ∈ tables_1, d.before a0 Z = true) (ws : List Jvm.Cond) (h0 : Heap) (n0 : Nat) (Z0 : n0 ≤ h0.size) (i0 i1 : Int32) (a_BOOLEAN a_VALUES a_FLOAT a_BYTE a_CHAR a_DOUBLE a_SHORT a_INT a_LONG : Addr) (l_VALUES : Cell) (S_BOOLEAN : Sta Z h0 "com/example/bytewright/bytewright/PrimitiveType" "BOOLEAN" "Lcom/example/bytewright/bytewright/PrimitiveType;" (.ref a_BOOLEAN)) (E_BOOLEAN : Exa Z h0 a_BOOLEAN "com/example/bytewright/bytewright/PrimitiveType") (F_BOOLEAN_arrayTypeCode : Fld Z h0 a_BOOLEAN "com/example/bytewright/bytewright/PrimitiveType" "arrayTypeCode" "I" (.int (4 : Int32))) (S_VALUES : Sta Z h0 "com/example/bytewright/bytewright/PrimitiveType" "VALUES" "[Lcom/example/bytewright/bytewright/PrimitiveType;" (.ref a_VALUES)) (R_VALUES : Arr Z h0 a_VALUES l_VALUES (.object "com/example/bytewright/bytewright/PrimitiveType")) (z_VALUES : l_VALUES.slots.size = 8) (v_VALUES_0 : l_VALUES.slots[0]? = some (.ref a_BOOLEAN)) (S_FLOAT : Sta Z h0 "com/example/bytewright/bytewright/PrimitiveType" "FLOAT" "Lcom/example/bytewright/bytewright/PrimitiveType;" (.ref a_FLOAT)) (E_FLOAT : Exa Z h0 a_FLOAT "com/example/bytewright/bytewright/PrimitiveType") (v_VALUES_2 : l_VALUES.slots[2]? = some (.ref a_FLOAT)) (S_BYTE : Sta Z h0 "com/example/bytewright/bytewright/PrimitiveType" "BYTE" "Lcom/example/bytewright/bytewright/PrimitiveType;" (.ref a_BYTE)) (E_BYTE : Exa Z h0 a_BYTE "com/example/bytewright/bytewright/PrimitiveType") (v_VALUES_4 : l_VALUES.slots[4]? = some (.ref a_BYTE)) (S_CHAR : Sta Z h0 "com/example/bytewright/bytewright/PrimitiveType" "CHAR" "Lcom/example/bytewright/bytewright/PrimitiveType;" (.ref a_CHAR)) (E_CHAR : Exa Z h0 a_CHAR "com/example/bytewright/bytewright/PrimitiveType") (v_VALUES_1 : l_VALUES.slots[1]? = some (.ref a_CHAR)) (S_DOUBLE : Sta Z h0 "com/example/bytewright/bytewright/PrimitiveType" "DOUBLE" "Lcom/example/bytewright/bytewright/PrimitiveType;" (.ref a_DOUBLE)) (E_DOUBLE : Exa Z h0 a_DOUBLE "com/example/bytewright/bytewright/PrimitiveType") (v_VALUES_3 : l_VALUES.slots[3]? = some (.ref a_DOUBLE)) (S_SHORT : Sta Z h0 "com/example/bytewright/bytewright/PrimitiveType" "SHORT" "Lcom/example/bytewright/bytewright/PrimitiveType;" (.ref a_SHORT)) (E_SHORT : Exa Z h0 a_SHORT "com/example/bytewright/bytewright/PrimitiveType") (v_VALUES_5 : l_VALUES.slots[5]? = some (.ref a_SHORT)) (S_INT : Sta Z h0 "com/example/bytewright/bytewright/PrimitiveType" "INT" "Lcom/example/bytewright/bytewright/PrimitiveType;" (.ref a_INT)) (E_INT : Exa Z h0 a_INT "com/example/bytewright/bytewright/PrimitiveType") (v_VALUES_6 : l_VALUES.slots[6]? = some (.ref a_INT)) (S_LONG : Sta Z h0 "com/example/bytewright/bytewright/PrimitiveType" "LONG" "Lcom/example/bytewright/bytewright/PrimitiveType;" (.ref a_LONG)) (E_LONG : Exa Z h0 a_LONG "com/example/bytewright/bytewright/PrimitiveType") (v_VALUES_7 : l_VALUES.slots[7]? = some (.ref a_LONG)) (F_FLOAT_arrayTypeCode : Fld Z h0 a_FLOAT "com/example/bytewright/bytewright/PrimitiveType" "arrayTypeCode" "I" (.int (6 : Int32))) (F_BYTE_arrayTypeCode : Fld Z h0 a_BYTE "com/example/bytewright/bytewright/PrimitiveType" "arrayTypeCode" "I" (.int (8 : Int32))) (F_CHAR_arrayTypeCode : Fld Z h0 a_CHAR "com/example/bytewright/bytewright/PrimitiveType" "arrayTypeCode" "I" (.int (5 : Int32))) (F_DOUBLE_arrayTypeCode : Fld Z h0 a_DOUBLE "com/example/bytewright/bytewright/PrimitiveType" "arrayTypeCode" "I" (.int (7 : Int32))) (F_SHORT_arrayTypeCode : Fld Z h0 a_SHORT "com/example/bytewright/bytewright/PrimitiveType" "arrayTypeCode" "I" (.int (9 : Int32))) (F_INT_arrayTypeCode : Fld Z h0 a_INT "com/example/bytewright/bytewright/PrimitiveType" "arrayTypeCode" "I" (.int (10 : Int32))) (F_LONG_arrayTypeCode : Fld Z h0 a_LONG "com/example/bytewright/bytewright/PrimitiveType" "arrayTypeCode" "I" (.int (11 : Int32))) :
    ctr l Z x code maxLocals ret ws room_1 0 0 #[(.int i0), (.int i1)] h0 (own_Q n0) := by
  refine ctr_of (plainFor_of_name pn1) ?_
  intro p e s m below meth jc s₁ hx hby hml hret hlk hnm hown hZ e0 X0
  have N0 := Fr.nil n0
  refine Dn.cast (ef0 m i0 i1) ?_
  show Dn p e below s _ _ _ (s₁.setTop (mkF m 0 #[.val (.int i0), .val (.int i1), .unset, .unset, .unset] []))
  refine Dn.of (fun tt_ zz_ => XS.iloadN X0.here hx rfl (hb hby at_0) rfl zz_) ?_
  show Dn p e below s _ _ _ (s₁.setTop (mkF m 1 #[.val (.int i0), .val (.int i1), .unset, .unset, .unset] [(.int i1)]))
  refine Dn.of (fun tt_ zz_ => XS.bipush X0.here hx rfl (hb hby at_1) zz_) ?_
  show Dn p e below s _ _ _ (s₁.setTop (mkF m 3 #[.val (.int i0), .val (.int i1), .unset, .unset, .unset] [(.int (15 : Int32)), (.int i1)]))
  refine Dn.of (fun tt_ zz_ => XS.iand X0.here hx rfl (hb hby at_3) rfl zz_) ?_
  show Dn p e below s _ _ _ (s₁.setTop (mkF m 4 #[.val (.int i0), .val (.int i1), .unset, .unset, .unset] [(.int (i1 &&& (15 : Int32)))]))
  refine Dn.of (fun tt_ zz_ => XS.istoreN X0.here hx rfl (hb hby at_4) rfl (l' := #[.val (.int i0), .val (.int i1), .val (.int (i1 &&& (15 : Int32))), .unset, .unset]) rfl zz_) ?_
  show Dn p e below s _ _ _ (s₁.setTop (mkF m 5 #[.val (.int i0), .val (.int i1), .val (.int (i1 &&& (15 : Int32))), .unset, .unset] []))
  refine Dn.of (fun tt_ zz_ => XS.iloadN X0.here hx rfl (hb hby at_5) rfl zz_) ?_
  show Dn p e below s _ _ _ (s₁.setTop (mkF m 6 #[.val (.int i0), .val (.int i1), .val (.int (i1 &&& (15 : Int32))), .unset, .unset] [(.int i0)]))
  obtain ⟨v13, T13, L13, Q13, X13, st13⟩ := cSt X0 hx hZ (y := (⟨"com/example/bytewright/bytewright/PrimitiveType", "ofArrayTypeCode", "(I)Lcom/example/bytewright/bytewright/PrimitiveType;"⟩ : MethodName)) hown (hw _ (List.mem_of_getElem? (i := 0) rfl)) (hw _ (List.mem_of_getElem? (i := 1) rfl)) (hw _ (List.mem_of_getElem? (i := 2) rfl)) (hw _ (List.mem_of_getElem? (i := 3) rfl)) (by decide) (argsL := [(.int i0)]) (rest := []) (rm1 l Z a0 hw h0 n0 Z0 i0 a_BOOLEAN a_VALUES a_FLOAT a_BYTE a_CHAR a_DOUBLE a_SHORT a_INT a_LONG l_VALUES S_BOOLEAN F_BOOLEAN_arrayTypeCode S_VALUES R_VALUES z_VALUES v_VALUES_0 v_VALUES_2 v_VALUES_4 v_VALUES_1 v_VALUES_3 v_VALUES_5 v_VALUES_6 v_VALUES_7) e0  0 (by decide) (by decide) (by decide) (by decide) (g := (mkF m 6 #[.val (.int i0), .val (.int i1), .val (.int (i1 &&& (15 : Int32))), .unset, .unset] [(.int i0)])) rfl (by rw [hml]; rfl) (lenOf pd0 rfl) rfl (by show 2 * 0 + _ ≤ _; exact Nat.le_of_eq rfl) (hb hby at_6)
  obtain ⟨rfl, M13, e13⟩ := Q13
  refine Dn.of st13 ?_
  show Dn p e below s _ _ _ (T13.setTop (mkF m 9 #[.val (.int i0), .val (.int i1), .val (.int (i1 &&& (15 : Int32))), .unset, .unset] [(own_val a_BOOLEAN a_CHAR a_FLOAT a_DOUBLE a_BYTE a_SHORT a_INT a_LONG i0)]))
  have P13 := Fr.app N0 M13
  refine Dn.of (fun tt_ zz_ => XS.astoreN X13.here hx rfl (hb hby at_9) rfl (own_val_ref a_BOOLEAN a_CHAR a_FLOAT a_DOUBLE a_BYTE a_SHORT a_INT a_LONG i0) (l' := #[.val (.int i0), .val (.int i1), .val (.int (i1 &&& (15 : Int32))), .val (own_val a_BOOLEAN a_CHAR a_FLOAT a_DOUBLE a_BYTE a_SHORT a_INT a_LONG i0), .unset]) (XS.store1 rfl (Or.inl rfl) (own_cat (own_val_ref a_BOOLEAN a_CHAR a_FLOAT a_DOUBLE a_BYTE a_SHORT a_INT a_LONG i0))) zz_) ?_
  show Dn p e below s _ _ _ (T13.setTop (mkF m 10 #[.val (.int i0), .val (.int i1), .val (.int (i1 &&& (15 : Int32))), .val (own_val a_BOOLEAN a_CHAR a_FLOAT a_DOUBLE a_BYTE a_SHORT a_INT a_LONG i0), .unset] []))
  refine Dn.of (fun tt_ zz_ => XS.iloadN X13.here hx rfl (hb hby at_10) rfl zz_) ?_
  show Dn p e below s _ _ _ (T13.setTop (mkF m 11 #[.val (.int i0), .val (.int i1), .val (.int (i1 &&& (15 : Int32))), .val (own_val a_BOOLEAN a_CHAR a_FLOAT a_DOUBLE a_BYTE a_SHORT a_INT a_LONG i0), .unset] [(.int (i1 &&& (15 : Int32)))]))
  obtain ⟨v14, T14, L14, Q14, X14, st14⟩ := cSt X13 hx hZ (y := (⟨"com/example/bytewright/bytewright/PrimitiveType", "ofArrayTypeCode", "(I)Lcom/example/bytewright/bytewright/PrimitiveType;"⟩ : MethodName)) hown (hw _ (List.mem_of_getElem? (i := 0) rfl)) (hw _ (List.mem_of_getElem? (i := 1) rfl)) (hw _ (List.mem_of_getElem? (i := 2) rfl)) (hw _ (List.mem_of_getElem? (i := 3) rfl)) (by decide) (argsL := [(.int (i1 &&& (15 : Int32)))]) (rest := []) (rm1 l Z a0 hw h0 n0 Z0 (i1 &&& (15 : Int32)) a_BOOLEAN a_VALUES a_FLOAT a_BYTE a_CHAR a_DOUBLE a_SHORT a_INT a_LONG l_VALUES S_BOOLEAN F_BOOLEAN_arrayTypeCode S_VALUES R_VALUES z_VALUES v_VALUES_0 v_VALUES_2 v_VALUES_4 v_VALUES_1 v_VALUES_3 v_VALUES_5 v_VALUES_6 v_VALUES_7) e13  0 (by decide) (by decide) (by decide) (by decide) (g := (mkF m 11 #[.val (.int i0), .val (.int i1), .val (.int (i1 &&& (15 : Int32))), .val (own_val a_BOOLEAN a_CHAR a_FLOAT a_DOUBLE a_BYTE a_SHORT a_INT a_LONG i0), .unset] [(.int (i1 &&& (15 : Int32)))])) rfl (by rw [hml]; rfl) (lenOf pd0 rfl) rfl (by show 2 * 0 + _ ≤ _; exact Nat.le_of_eq rfl) (hb hby at_11)
  obtain ⟨rfl, M14, e14⟩ := Q14
  refine Dn.of st14 ?_
  show Dn p e below s _ _ _ (T14.setTop (mkF m 14 #[.val (.int i0), .val (.int i1), .val (.int (i1 &&& (15 : Int32))), .val (own_val a_BOOLEAN a_CHAR a_FLOAT a_DOUBLE a_BYTE a_SHORT a_INT a_LONG i0), .unset] [(own_val a_BOOLEAN a_CHAR a_FLOAT a_DOUBLE a_BYTE a_SHORT a_INT a_LONG (i1 &&& (15 : Int32)))]))
  have P14 := Fr.app P13 M14
  refine Dn.of (fun tt_ zz_ => XS.astore X14.here hx rfl (hb hby at_14) rfl (own_val_ref a_BOOLEAN a_CHAR a_FLOAT a_DOUBLE a_BYTE a_SHORT a_INT a_LONG (i1 &&& (15 : Int32))) (l' := #[.val (.int i0), .val (.int i1), .val (.int (i1 &&& (15 : Int32))), .val (own_val a_BOOLEAN a_CHAR a_FLOAT a_DOUBLE a_BYTE a_SHORT a_INT a_LONG i0), .val (own_val a_BOOLEAN a_CHAR a_FLOAT a_DOUBLE a_BYTE a_SHORT a_INT a_LONG (i1 &&& (15 : Int32)))]) (XS.store1 rfl (Or.inl rfl) (own_cat (own_val_ref a_BOOLEAN a_CHAR a_FLOAT a_DOUBLE a_BYTE a_SHORT a_INT a_LONG (i1 &&& (15 : Int32))))) zz_) ?_
  show Dn p e below s _ _ _ (T14.setTop (mkF m 16 #[.val (.int i0), .val (.int i1), .val (.int (i1 &&& (15 : Int32))), .val (own_val a_BOOLEAN a_CHAR a_FLOAT a_DOUBLE a_BYTE a_SHORT a_INT a_LONG i0), .val (own_val a_BOOLEAN a_CHAR a_FLOAT a_DOUBLE a_BYTE a_SHORT a_INT a_LONG (i1 &&& (15 : Int32)))] []))
  refine Dn.of (fun tt_ zz_ => XS.aloadN X14.here hx rfl (hb hby at_16) rfl (own_val_ref a_BOOLEAN a_CHAR a_FLOAT a_DOUBLE a_BYTE a_SHORT a_INT a_LONG i0) zz_) ?_
  show Dn p e below s _ _ _ (T14.setTop (mkF m 17 #[.val (.int i0), .val (.int i1), .val (.int (i1 &&& (15 : Int32))), .val (own_val a_BOOLEAN a_CHAR a_FLOAT a_DOUBLE a_BYTE a_SHORT a_INT a_LONG i0), .val (own_val a_BOOLEAN a_CHAR a_FLOAT a_DOUBLE a_BYTE a_SHORT a_INT a_LONG (i1 &&& (15 : Int32)))] [(own_val a_BOOLEAN a_CHAR a_FLOAT a_DOUBLE a_BYTE a_SHORT a_INT a_LONG i0)]))
  refine Dn.of (fun tt_ zz_ => XS.iloadN X14.here hx rfl (hb hby at_17) rfl zz_) ?_
  show Dn p e below s _ _ _ (T14.setTop (mkF m 18 #[.val (.int i0), .val (.int i1), .val (.int (i1 &&& (15 : Int32))), .val (own_val a_BOOLEAN a_CHAR a_FLOAT a_DOUBLE a_BYTE a_SHORT a_INT a_LONG i0), .val (own_val a_BOOLEAN a_CHAR a_FLOAT a_DOUBLE a_BYTE a_SHORT a_INT a_LONG (i1 &&& (15 : Int32)))] [(.int i0), (own_val a_BOOLEAN a_CHAR a_FLOAT a_DOUBLE a_BYTE a_SHORT a_INT a_LONG i0)]))
  obtain ⟨v15, T15, L15, Q15, X15, st15⟩ := cSt X14 hx hZ (y := (⟨"com/example/bytewright/bytewright/PrimitiveTypeOfArrayTypeCodePinLaw", "expected", "(I)Lcom/example/bytewright/bytewright/PrimitiveType;"⟩ : MethodName)) hown (hw _ (List.mem_of_getElem? (i := 8) rfl)) (hw _ (List.mem_of_getElem? (i := 9) rfl)) (hw _ (List.mem_of_getElem? (i := 10) rfl)) (hw _ (List.mem_of_getElem? (i := 11) rfl)) (by decide) (argsL := [(.int i0)]) (rest := [(own_val a_BOOLEAN a_CHAR a_FLOAT a_DOUBLE a_BYTE a_SHORT a_INT a_LONG i0)]) (rm2 l Z a0 hw h0 n0 Z0 i0 a_BOOLEAN a_VALUES a_FLOAT a_BYTE a_CHAR a_DOUBLE a_SHORT a_INT a_LONG l_VALUES S_BOOLEAN S_FLOAT S_BYTE S_CHAR S_DOUBLE S_SHORT S_INT S_LONG) e14  1 (by decide) (by decide) (by decide) (by decide) (g := (mkF m 18 #[.val (.int i0), .val (.int i1), .val (.int (i1 &&& (15 : Int32))), .val (own_val a_BOOLEAN a_CHAR a_FLOAT a_DOUBLE a_BYTE a_SHORT a_INT a_LONG i0), .val (own_val a_BOOLEAN a_CHAR a_FLOAT a_DOUBLE a_BYTE a_SHORT a_INT a_LONG (i1 &&& (15 : Int32)))] [(.int i0), (own_val a_BOOLEAN a_CHAR a_FLOAT a_DOUBLE a_BYTE a_SHORT a_INT a_LONG i0)])) rfl (by rw [hml]; rfl) (lenOf pd0 rfl) rfl (by show 2 * 0 + _ ≤ _; simp only [List.map, List.sum_cons, List.sum_nil, own_cat (own_val_ref a_BOOLEAN a_CHAR a_FLOAT a_DOUBLE a_BYTE a_SHORT a_INT a_LONG i0)]; exact Nat.le_of_eq rfl) (hb hby at_18)
  obtain ⟨rfl, M15, e15⟩ := Q15
  refine Dn.of st15 ?_
  show Dn p e below s _ _ _ (T15.setTop (mkF m 21 #[.val (.int i0), .val (.int i1), .val (.int (i1 &&& (15 : Int32))), .val (own_val a_BOOLEAN a_CHAR a_FLOAT a_DOUBLE a_BYTE a_SHORT a_INT a_LONG i0), .val (own_val a_BOOLEAN a_CHAR a_FLOAT a_DOUBLE a_BYTE a_SHORT a_INT a_LONG (i1 &&& (15 : Int32)))] [(own_val a_BOOLEAN a_CHAR a_FLOAT a_DOUBLE a_BYTE a_SHORT a_INT a_LONG i0), (own_val a_BOOLEAN a_CHAR a_FLOAT a_DOUBLE a_BYTE a_SHORT a_INT a_LONG i0)]))
  have P15 := Fr.app P14 M15
  refine Dn.of (fun tt_ zz_ => Jvm.RoadKit.acmp (g := (mkF m 21 #[.val (.int i0), .val (.int i1), .val (.int (i1 &&& (15 : Int32))), .val (own_val a_BOOLEAN a_CHAR a_FLOAT a_DOUBLE a_BYTE a_SHORT a_INT a_LONG i0), .val (own_val a_BOOLEAN a_CHAR a_FLOAT a_DOUBLE a_BYTE a_SHORT a_INT a_LONG (i1 &&& (15 : Int32)))] [(own_val a_BOOLEAN a_CHAR a_FLOAT a_DOUBLE a_BYTE a_SHORT a_INT a_LONG i0), (own_val a_BOOLEAN a_CHAR a_FLOAT a_DOUBLE a_BYTE a_SHORT a_INT a_LONG i0)])) X15 hx rfl (own_val_ref a_BOOLEAN a_CHAR a_FLOAT a_DOUBLE a_BYTE a_SHORT a_INT a_LONG i0) (own_val_ref a_BOOLEAN a_CHAR a_FLOAT a_DOUBLE a_BYTE a_SHORT a_INT a_LONG i0) (pc0 := 21) (pc' := 24) (same := true) rfl (hb hby at_21) rfl (decide_eq_true rfl) (by decide) (by decide) zz_) ?_
  show Dn p e below s _ _ _ (T15.setTop (mkF m 24 #[.val (.int i0), .val (.int i1), .val (.int (i1 &&& (15 : Int32))), .val (own_val a_BOOLEAN a_CHAR a_FLOAT a_DOUBLE a_BYTE a_SHORT a_INT a_LONG i0), .val (own_val a_BOOLEAN a_CHAR a_FLOAT a_DOUBLE a_BYTE a_SHORT a_INT a_LONG (i1 &&& (15 : Int32)))] []))
  refine Dn.of (fun tt_ zz_ => XS.aload X15.here hx rfl (hb hby at_24) rfl (own_val_ref a_BOOLEAN a_CHAR a_FLOAT a_DOUBLE a_BYTE a_SHORT a_INT a_LONG (i1 &&& (15 : Int32))) zz_) ?_
  show Dn p e below s _ _ _ (T15.setTop (mkF m 26 #[.val (.int i0), .val (.int i1), .val (.int (i1 &&& (15 : Int32))), .val (own_val a_BOOLEAN a_CHAR a_FLOAT a_DOUBLE a_BYTE a_SHORT a_INT a_LONG i0), .val (own_val a_BOOLEAN a_CHAR a_FLOAT a_DOUBLE a_BYTE a_SHORT a_INT a_LONG (i1 &&& (15 : Int32)))] [(own_val a_BOOLEAN a_CHAR a_FLOAT a_DOUBLE a_BYTE a_SHORT a_INT a_LONG (i1 &&& (15 : Int32)))]))
  refine Dn.of (fun tt_ zz_ => XS.iloadN X15.here hx rfl (hb hby at_26) rfl zz_) ?_
  show Dn p e below s _ _ _ (T15.setTop (mkF m 27 #[.val (.int i0), .val (.int i1), .val (.int (i1 &&& (15 : Int32))), .val (own_val a_BOOLEAN a_CHAR a_FLOAT a_DOUBLE a_BYTE a_SHORT a_INT a_LONG i0), .val (own_val a_BOOLEAN a_CHAR a_FLOAT a_DOUBLE a_BYTE a_SHORT a_INT a_LONG (i1 &&& (15 : Int32)))] [(.int (i1 &&& (15 : Int32))), (own_val a_BOOLEAN a_CHAR a_FLOAT a_DOUBLE a_BYTE a_SHORT a_INT a_LONG (i1 &&& (15 : Int32)))]))
  obtain ⟨v16, T16, L16, Q16, X16, st16⟩ := cSt X15 hx hZ (y := (⟨"com/example/bytewright/bytewright/PrimitiveTypeOfArrayTypeCodePinLaw", "expected", "(I)Lcom/example/bytewright/bytewright/PrimitiveType;"⟩ : MethodName)) hown (hw _ (List.mem_of_getElem? (i := 8) rfl)) (hw _ (List.mem_of_getElem? (i := 9) rfl)) (hw _ (List.mem_of_getElem? (i := 10) rfl)) (hw _ (List.mem_of_getElem? (i := 11) rfl)) (by decide) (argsL := [(.int (i1 &&& (15 : Int32)))]) (rest := [(own_val a_BOOLEAN a_CHAR a_FLOAT a_DOUBLE a_BYTE a_SHORT a_INT a_LONG (i1 &&& (15 : Int32)))]) (rm2 l Z a0 hw h0 n0 Z0 (i1 &&& (15 : Int32)) a_BOOLEAN a_VALUES a_FLOAT a_BYTE a_CHAR a_DOUBLE a_SHORT a_INT a_LONG l_VALUES S_BOOLEAN S_FLOAT S_BYTE S_CHAR S_DOUBLE S_SHORT S_INT S_LONG) e15  1 (by decide) (by decide) (by decide) (by decide) (g := (mkF m 27 #[.val (.int i0), .val (.int i1), .val (.int (i1 &&& (15 : Int32))), .val (own_val a_BOOLEAN a_CHAR a_FLOAT a_DOUBLE a_BYTE a_SHORT a_INT a_LONG i0), .val (own_val a_BOOLEAN a_CHAR a_FLOAT a_DOUBLE a_BYTE a_SHORT a_INT a_LONG (i1 &&& (15 : Int32)))] [(.int (i1 &&& (15 : Int32))), (own_val a_BOOLEAN a_CHAR a_FLOAT a_DOUBLE a_BYTE a_SHORT a_INT a_LONG (i1 &&& (15 : Int32)))])) rfl (by rw [hml]; rfl) (lenOf pd0 rfl) rfl (by show 2 * 0 + _ ≤ _; simp only [List.map, List.sum_cons, List.sum_nil, own_cat (own_val_ref a_BOOLEAN a_CHAR a_FLOAT a_DOUBLE a_BYTE a_SHORT a_INT a_LONG (i1 &&& (15 : Int32)))]; exact Nat.le_of_eq rfl) (hb hby at_27)
  obtain ⟨rfl, M16, e16⟩ := Q16
  refine Dn.of st16 ?_
  show Dn p e below s _ _ _ (T16.setTop (mkF m 30 #[.val (.int i0), .val (.int i1), .val (.int (i1 &&& (15 : Int32))), .val (own_val a_BOOLEAN a_CHAR a_FLOAT a_DOUBLE a_BYTE a_SHORT a_INT a_LONG i0), .val (own_val a_BOOLEAN a_CHAR a_FLOAT a_DOUBLE a_BYTE a_SHORT a_INT a_LONG (i1 &&& (15 : Int32)))] [(own_val a_BOOLEAN a_CHAR a_FLOAT a_DOUBLE a_BYTE a_SHORT a_INT a_LONG (i1 &&& (15 : Int32))), (own_val a_BOOLEAN a_CHAR a_FLOAT a_DOUBLE a_BYTE a_SHORT a_INT a_LONG (i1 &&& (15 : Int32)))]))
  have P16 := Fr.app P15 M16
  refine Dn.of (fun tt_ zz_ => Jvm.RoadKit.acmp (g := (mkF m 30 #[.val (.int i0), .val (.int i1), .val (.int (i1 &&& (15 : Int32))), .val (own_val a_BOOLEAN a_CHAR a_FLOAT a_DOUBLE a_BYTE a_SHORT a_INT a_LONG i0), .val (own_val a_BOOLEAN a_CHAR a_FLOAT a_DOUBLE a_BYTE a_SHORT a_INT a_LONG (i1 &&& (15 : Int32)))] [(own_val a_BOOLEAN a_CHAR a_FLOAT a_DOUBLE a_BYTE a_SHORT a_INT a_LONG (i1 &&& (15 : Int32))), (own_val a_BOOLEAN a_CHAR a_FLOAT a_DOUBLE a_BYTE a_SHORT a_INT a_LONG (i1 &&& (15 : Int32)))])) X16 hx rfl (own_val_ref a_BOOLEAN a_CHAR a_FLOAT a_DOUBLE a_BYTE a_SHORT a_INT a_LONG (i1 &&& (15 : Int32))) (own_val_ref a_BOOLEAN a_CHAR a_FLOAT a_DOUBLE a_BYTE a_SHORT a_INT a_LONG (i1 &&& (15 : Int32))) (pc0 := 30) (pc' := 33) (same := true) rfl (hb hby at_30) rfl (decide_eq_true rfl) (by decide) (by decide) zz_) ?_
  show Dn p e below s _ _ _ (T16.setTop (mkF m 33 #[.val (.int i0), .val (.int i1), .val (.int (i1 &&& (15 : Int32))), .val (own_val a_BOOLEAN a_CHAR a_FLOAT a_DOUBLE a_BYTE a_SHORT a_INT a_LONG i0), .val (own_val a_BOOLEAN a_CHAR a_FLOAT a_DOUBLE a_BYTE a_SHORT a_INT a_LONG (i1 &&& (15 : Int32)))] []))
  refine Dn.of (fun tt_ zz_ => XS.iconst X16.here hx rfl (hb hby at_33) zz_) ?_
  show Dn p e below s _ _ _ (T16.setTop (mkF m 34 #[.val (.int i0), .val (.int i1), .val (.int (i1 &&& (15 : Int32))), .val (own_val a_BOOLEAN a_CHAR a_FLOAT a_DOUBLE a_BYTE a_SHORT a_INT a_LONG i0), .val (own_val a_BOOLEAN a_CHAR a_FLOAT a_DOUBLE a_BYTE a_SHORT a_INT a_LONG (i1 &&& (15 : Int32)))] [(.int (1 : Int32))]))
  refine Dn.of (fun tt_ zz_ => XS.goto X16.here hx rfl (pc0 := 34) (pc' := 38) rfl (hb hby at_34) (by decide) (by decide) zz_) ?_
  show Dn p e below s _ _ _ (T16.setTop (mkF m 38 #[.val (.int i0), .val (.int i1), .val (.int (i1 &&& (15 : Int32))), .val (own_val a_BOOLEAN a_CHAR a_FLOAT a_DOUBLE a_BYTE a_SHORT a_INT a_LONG i0), .val (own_val a_BOOLEAN a_CHAR a_FLOAT a_DOUBLE a_BYTE a_SHORT a_INT a_LONG (i1 &&& (15 : Int32)))] [(.int (1 : Int32))]))
  exact Dn.retN X16 hx hlk (t := .boolean) hret (by simp) (hb hby at_38) (by decide) (by decide) (⟨rfl, P16⟩)
set_option maxRecDepth 65536 in
set_option maxHeartbeats 40000000 in
theorem comes_1 {Post : Tables → Env → Array Value → State → Outcome → State → Prop} (hpost : ∀ tb e args s v u, (limb_1_1.after args s (.returned v) u = true ∧ limb_1_2.after args s (.returned v) u = true ∧ True) → FrameEnd s (.returned v) u (Jvm.fieldLocs frame_1_writes args s ++ Jvm.arrayLocs frame_1_arrays args s ++ Jvm.staticLocs frame_1_statics s) 0 0 → Post tb e args s (.returned v) u) :
    ArmFor flags0 classFile x code maxLocals ret World_1 tables_1 room_1 Calls_1 rest_1 Pre_1 Post := by
  intro l hfl _ _ p e ha hc hk s m args below hf hA hF happ hP
  obtain ⟨hcalls, hrest, hpre⟩ := hP
  obtain ⟨-, -, -, hnamed, -, -, -, hat⟩ := (Spec.applies_iff hf).mp happ
  obtain ⟨hg, hn⟩ := and_e (Cond.before_iff.mp (show (Jvm.Cond.and given_1 narrow_1).before args s = true from hpre))
  obtain ⟨hcount, hr⟩ := and_e hg
  obtain ⟨w0, w1, rfl⟩ : ∃ w0 w1 : Value, args = #[w0, w1] := by
    have hs : args.size = 2 := by simpa [Cond.value, given_1] using hcount
    obtain ⟨L⟩ := args
    match L, hs with
    | [w0, w1], _ => exact ⟨w0, w1, rfl⟩
  have hw := fun d (hd : d ∈ tables_1) => atoms_spec (ws := Jvm.Cond.code x code maxLocals ret :: tables_1) hat d (List.mem_cons_of_mem _ hd)
  have hfit : Fit s := fun {y c} hc i hi => by
    obtain ⟨ha, rfl⟩ := Array.getElem?_eq_some_iff.mp hc
    have q := List.all_eq_true.mp ((Array.all_eq_true_iff_forall_mem.mp hF) _ (Array.getElem_mem ha)) i (List.mem_range.mpr hi)
    simpa [Array.getElem?_eq_getElem hi] using q
  obtain ⟨ha0, hr⟩ := and_e hr
  obtain ⟨i0, ei0⟩ := is_v ha0
  obtain rfl : w0 = (.int i0) := Option.some.inj ei0
  have ha1 := hr
  obtain ⟨i1, ei1⟩ := is_v ha1
  obtain rfl : w1 = (.int i1) := Option.some.inj ei1
  obtain ⟨c0, hn⟩ := and_e hn
  obtain ⟨a_BOOLEAN, e_BOOLEAN⟩ := exa_v c0
  have S_BOOLEAN := Sta.start e_BOOLEAN (Or.inr ⟨(hw _ (List.mem_of_getElem? (i := 2) rfl)), (hw _ (List.mem_of_getElem? (i := 5) rfl))⟩)
  have E_BOOLEAN := Exa.start e_BOOLEAN c0
  obtain ⟨c1, hn⟩ := and_e hn
  have F_BOOLEAN_arrayTypeCode := own_fld e_BOOLEAN c1
  obtain ⟨c2, hn⟩ := and_e hn
  obtain ⟨a_VALUES, e_VALUES⟩ := arr_v c2
  have S_VALUES := Sta.start e_VALUES (Or.inr ⟨(hw _ (List.mem_of_getElem? (i := 2) rfl)), (hw _ (List.mem_of_getElem? (i := 13) rfl))⟩)
  obtain ⟨l_VALUES, R_VALUES⟩ := Arr.start e_VALUES c2
  obtain ⟨c3, hn⟩ := and_e hn
  have z_VALUES : l_VALUES.slots.size = 8 := (own_len e_VALUES R_VALUES c3).1
  obtain ⟨c4, hn⟩ := and_e hn
  have v_VALUES_0 : l_VALUES.slots[0]? = some (.ref a_BOOLEAN) := own_elem e_VALUES R_VALUES e_BOOLEAN c4
  obtain ⟨c5, hn⟩ := and_e hn
  obtain ⟨a_FLOAT, e_FLOAT⟩ := exa_v c5
  have S_FLOAT := Sta.start e_FLOAT (Or.inr ⟨(hw _ (List.mem_of_getElem? (i := 2) rfl)), (hw _ (List.mem_of_getElem? (i := 15) rfl))⟩)
  have E_FLOAT := Exa.start e_FLOAT c5
  obtain ⟨c6, hn⟩ := and_e hn
  have v_VALUES_2 : l_VALUES.slots[2]? = some (.ref a_FLOAT) := own_elem e_VALUES R_VALUES e_FLOAT c6
  obtain ⟨c7, hn⟩ := and_e hn
  obtain ⟨a_BYTE, e_BYTE⟩ := exa_v c7
  have S_BYTE := Sta.start e_BYTE (Or.inr ⟨(hw _ (List.mem_of_getElem? (i := 2) rfl)), (hw _ (List.mem_of_getElem? (i := 17) rfl))⟩)
  have E_BYTE := Exa.start e_BYTE c7
  obtain ⟨c8, hn⟩ := and_e hn
  have v_VALUES_4 : l_VALUES.slots[4]? = some (.ref a_BYTE) := own_elem e_VALUES R_VALUES e_BYTE c8
  obtain ⟨c9, hn⟩ := and_e hn
  obtain ⟨a_CHAR, e_CHAR⟩ := exa_v c9
  have S_CHAR := Sta.start e_CHAR (Or.inr ⟨(hw _ (List.mem_of_getElem? (i := 2) rfl)), (hw _ (List.mem_of_getElem? (i := 19) rfl))⟩)
  have E_CHAR := Exa.start e_CHAR c9
  obtain ⟨c10, hn⟩ := and_e hn
  have v_VALUES_1 : l_VALUES.slots[1]? = some (.ref a_CHAR) := own_elem e_VALUES R_VALUES e_CHAR c10
  obtain ⟨c11, hn⟩ := and_e hn
  obtain ⟨a_DOUBLE, e_DOUBLE⟩ := exa_v c11
  have S_DOUBLE := Sta.start e_DOUBLE (Or.inr ⟨(hw _ (List.mem_of_getElem? (i := 2) rfl)), (hw _ (List.mem_of_getElem? (i := 21) rfl))⟩)
  have E_DOUBLE := Exa.start e_DOUBLE c11
  obtain ⟨c12, hn⟩ := and_e hn
  have v_VALUES_3 : l_VALUES.slots[3]? = some (.ref a_DOUBLE) := own_elem e_VALUES R_VALUES e_DOUBLE c12
  obtain ⟨c13, hn⟩ := and_e hn
  obtain ⟨a_SHORT, e_SHORT⟩ := exa_v c13
  have S_SHORT := Sta.start e_SHORT (Or.inr ⟨(hw _ (List.mem_of_getElem? (i := 2) rfl)), (hw _ (List.mem_of_getElem? (i := 23) rfl))⟩)
  have E_SHORT := Exa.start e_SHORT c13
  obtain ⟨c14, hn⟩ := and_e hn
  have v_VALUES_5 : l_VALUES.slots[5]? = some (.ref a_SHORT) := own_elem e_VALUES R_VALUES e_SHORT c14
  obtain ⟨c15, hn⟩ := and_e hn
  obtain ⟨a_INT, e_INT⟩ := exa_v c15
  have S_INT := Sta.start e_INT (Or.inr ⟨(hw _ (List.mem_of_getElem? (i := 2) rfl)), (hw _ (List.mem_of_getElem? (i := 25) rfl))⟩)
  have E_INT := Exa.start e_INT c15
  obtain ⟨c16, hn⟩ := and_e hn
  have v_VALUES_6 : l_VALUES.slots[6]? = some (.ref a_INT) := own_elem e_VALUES R_VALUES e_INT c16
  obtain ⟨c17, hn⟩ := and_e hn
  obtain ⟨a_LONG, e_LONG⟩ := exa_v c17
  have S_LONG := Sta.start e_LONG (Or.inr ⟨(hw _ (List.mem_of_getElem? (i := 2) rfl)), (hw _ (List.mem_of_getElem? (i := 27) rfl))⟩)
  have E_LONG := Exa.start e_LONG c17
  obtain ⟨c18, hn⟩ := and_e hn
  have v_VALUES_7 : l_VALUES.slots[7]? = some (.ref a_LONG) := own_elem e_VALUES R_VALUES e_LONG c18
  obtain ⟨c19, hn⟩ := and_e hn
  have F_FLOAT_arrayTypeCode := own_fld e_FLOAT c19
  obtain ⟨c20, hn⟩ := and_e hn
  have F_BYTE_arrayTypeCode := own_fld e_BYTE c20
  obtain ⟨c21, hn⟩ := and_e hn
  have F_CHAR_arrayTypeCode := own_fld e_CHAR c21
  obtain ⟨c22, hn⟩ := and_e hn
  have F_DOUBLE_arrayTypeCode := own_fld e_DOUBLE c22
  obtain ⟨c23, hn⟩ := and_e hn
  have F_SHORT_arrayTypeCode := own_fld e_SHORT c23
  obtain ⟨c24, hn⟩ := and_e hn
  have F_INT_arrayTypeCode := own_fld e_INT c24
  have c25 := hn
  have F_LONG_arrayTypeCode := own_fld e_LONG c25
  obtain ⟨n, o, h1, h2, h3, _, L, rfl, ⟨rfl, N⟩, hq⟩ := rm0 l s _ hw tables_1 s.heap s.heap.size (Nat.le_refl _) i0 i1 a_BOOLEAN a_VALUES a_FLOAT a_BYTE a_CHAR a_DOUBLE a_SHORT a_INT a_LONG l_VALUES S_BOOLEAN E_BOOLEAN F_BOOLEAN_arrayTypeCode S_VALUES R_VALUES z_VALUES v_VALUES_0 S_FLOAT E_FLOAT v_VALUES_2 S_BYTE E_BYTE v_VALUES_4 S_CHAR E_CHAR v_VALUES_1 S_DOUBLE E_DOUBLE v_VALUES_3 S_SHORT E_SHORT v_VALUES_5 S_INT E_INT v_VALUES_6 S_LONG E_LONG v_VALUES_7 F_FLOAT_arrayTypeCode F_BYTE_arrayTypeCode F_CHAR_arrayTypeCode F_DOUBLE_arrayTypeCode F_SHORT_arrayTypeCode F_INT_arrayTypeCode F_LONG_arrayTypeCode p e ha hc hk s m _ below hf ((Spec.applies_iff_loose hf).mp happ).1 ⟨rfl, State.Warmed39.refl s, rfl⟩ trivial
  refine ⟨n, _, h1, h2, h3, hpost _ _ _ _ _ _ ⟨Cond.after_iff.mpr rfl, Cond.after_iff.mpr (eq_i res_at (Term.int_eval (1)) rfl), trivial⟩ ⟨hq.1, hq.2.1, (hq.2.2.sift fun y hy => Or.inr (N y hy)).mono (by decide) (by decide)⟩⟩
theorem main_1_1 : Claimed_1_1 := comes_1 fun _ _ _ _ _ _ h hF => ⟨h.1, hF⟩
theorem main_1_2 : Claimed_1_2 := comes_1 fun _ _ _ _ _ _ h hF => ⟨h.2.1, hF⟩
end Jvm.Pilot.@@N@@
namespace Jvm.Pilot.@@N@@
open Jvm Jvm.ClassFile Sem Op Lib Jvm.Free Jvm.Stand Jvm.Pilot.@@N@@.Jvm.D
/-! MADE BY PROGRAM (witnessworld.py) out of the Statement's table words and the real class files: 13 classes; the members and pool entries that the words name. The judged class is class 1, her method 2. -/
namespace start1
open Jvm.ClassFile
def u (s : String) : CpInfo := .utf8 (stringToUtf16 s)
/-- a pool by its gaps: so many unusable entries, then the entry; so many at the end -/
def gap : Nat → List CpInfo → List CpInfo
  | 0, r => r
  | n + 1, r => .unusable :: gap n r
def poolList (es : List (Nat × CpInfo)) (last : Nat) : List CpInfo := es.foldr (fun e r => gap e.1 (e.2 :: r)) (gap last [])
def pool (es : List (Nat × CpInfo)) (last : Nat) : Array CpInfo := ⟨poolList es last⟩
def fileOf (pool : Array CpInfo) (this : Nat) (attrs : Array Attribute := #[]) (ms : Array MethodInfo := #[]) (fl : Nat := 33) (sup : Nat := 0) (ifs : Array Nat := #[]) (fds : Array FieldInfo := #[]) : ClassFile where
  minorVersion := 0
  majorVersion := 65
  constantPool := pool
  accessFlags := fl
  thisClass := this
  superClass := sup
  interfaces := ifs
  fields := fds
  methods := ms
  attributes := attrs
def plain (name : String) (sup : Option ClassId) : Class where
  name := name
  kind := .ordinary
  loader := none
  accessFlags := 33
  super := sup
  interfaces := #[]
  cf := none
  fields := #[]
  methods := #[]
  instanceTypes := #[]
  staticTypes := #[]
  resolved := #[]
  callSites := []
  init := .initialized
  statics := none
  mirror := none

def pool0 : Array CpInfo := pool [(5, u "<init>"), (0, u "()V"), (1, .class_ 10), (1, u "java/lang/Object")] 113

def k0m0 : Method := { name := "<init>", desc := "()V", sig := { parameters := [], returnType := none }, accessFlags := 1, code := none }
/-- java/lang/Object -/
def k0 : Class := { plain "java/lang/Object" none with
  accessFlags := 33
  interfaces := #[]
  cf := some (fileOf pool0 8 #[] #[{ accessFlags := 1, nameIndex := 5, descriptorIndex := 6, attributes := #[] }] 33 0 #[] #[])
  fields := #[]
  methods := #[k0m0]
  instanceTypes := #[]
  staticTypes := #[]
  resolved := Array.replicate 124 none
  statics := none }

def pool1 : Array CpInfo := pool [(2, .class_ 4), (1, u "java/lang/Object"), (0, u "<init>"), (0, u "()V"), (0, .fieldref 8 9), (0, .class_ 10), (0, .nameAndType 11 12), (0, u "com/example/bytewright/bytewright/PrimitiveType"), (0, u "BOOLEAN"), (0, u "Lcom/example/bytewright/bytewright/PrimitiveType;"), (0, .fieldref 8 14), (0, .nameAndType 15 12), (0, u "CHAR"), (0, .fieldref 8 17), (0, .nameAndType 18 12), (0, u "FLOAT"), (0, .fieldref 8 20), (0, .nameAndType 21 12), (0, u "DOUBLE"), (0, .fieldref 8 23), (0, .nameAndType 24 12), (0, u "BYTE"), (0, .fieldref 8 26), (0, .nameAndType 27 12), (0, u "SHORT"), (0, .fieldref 8 29), (0, .nameAndType 30 12), (0, u "INT"), (0, .fieldref 8 32), (0, .nameAndType 33 12), (0, u "LONG"), (0, .methodref 8 35), (0, .nameAndType 36 37), (0, u "ofArrayTypeCode"), (0, u "(I)Lcom/example/bytewright/bytewright/PrimitiveType;"), (0, .methodref 39 40), (0, .class_ 41), (0, .nameAndType 42 37), (0, u "com/example/bytewright/bytewright/PrimitiveTypeOfArrayTypeCodePinLaw"), (0, u "expected"), (3, u "law"), (0, u "(II)Z")] 2

def k1m0 : Method := { name := "<init>", desc := "()V", sig := { parameters := [], returnType := none }, accessFlags := 2, code := none }
def k1c1 : Code := { maxStack := 2, maxLocals := 1, code := method_2_code, exceptionTable := #[], attributes := #[] }
def k1m1 : Method := { name := "expected", desc := "(I)Lcom/example/bytewright/bytewright/PrimitiveType;", sig := { parameters := [.int], returnType := some (.object "com/example/bytewright/bytewright/PrimitiveType") }, accessFlags := 10, code := some k1c1 }
def k1c2 : Code := { maxStack := 2, maxLocals := 5, code := code, exceptionTable := #[], attributes := #[] }
def k1m2 : Method := { name := "law", desc := "(II)Z", sig := { parameters := [.int, .int], returnType := some .boolean }, accessFlags := 9, code := some k1c2 }
/-- com/example/bytewright/bytewright/PrimitiveTypeOfArrayTypeCodePinLaw -/
def k1 : Class := { plain "com/example/bytewright/bytewright/PrimitiveTypeOfArrayTypeCodePinLaw" (some 0) with
  accessFlags := 49
  interfaces := #[]
  cf := some (fileOf pool1 39 #[] #[{ accessFlags := 2, nameIndex := 5, descriptorIndex := 6, attributes := #[] }, { accessFlags := 10, nameIndex := 42, descriptorIndex := 37, attributes := #[] }, { accessFlags := 9, nameIndex := 46, descriptorIndex := 47, attributes := #[] }] 49 2 #[] #[])
  fields := #[]
  methods := #[k1m0, k1m1, k1m2]
  instanceTypes := #[]
  staticTypes := #[]
  resolved := Array.replicate 50 none
  statics := none }

def pool2 : Array CpInfo := pool [(1, .class_ 2), (0, u "java/lang/constant/Constable"), (0, .class_ 4), (0, u "java/lang/Object")] 6

/-- java/lang/constant/Constable -/
def k2 : Class := { plain "java/lang/constant/Constable" (some 0) with
  accessFlags := 1537
  interfaces := #[]
  cf := some (fileOf pool2 1 #[] #[] 1537 3 #[] #[])
  fields := #[]
  methods := #[]
  instanceTypes := #[]
  staticTypes := #[]
  resolved := Array.replicate 11 none
  statics := none }

def pool3 : Array CpInfo := pool [(1, .class_ 2), (0, u "java/lang/Comparable"), (0, .class_ 4), (0, u "java/lang/Object")] 7

/-- java/lang/Comparable -/
def k3 : Class := { plain "java/lang/Comparable" (some 0) with
  accessFlags := 1537
  interfaces := #[]
  cf := some (fileOf pool3 1 #[] #[] 1537 3 #[] #[])
  fields := #[]
  methods := #[]
  instanceTypes := #[]
  staticTypes := #[]
  resolved := Array.replicate 12 none
  statics := none }

def pool4 : Array CpInfo := pool [(1, .class_ 2), (0, u "java/io/Serializable"), (0, .class_ 4), (0, u "java/lang/Object")] 2

/-- java/io/Serializable -/
def k4 : Class := { plain "java/io/Serializable" (some 0) with
  accessFlags := 1537
  interfaces := #[]
  cf := some (fileOf pool4 1 #[] #[] 1537 3 #[] #[])
  fields := #[]
  methods := #[]
  instanceTypes := #[]
  staticTypes := #[]
  resolved := Array.replicate 7 none
  statics := none }

def pool5 : Array CpInfo := pool [(2, .class_ 4), (1, u "java/lang/Enum"), (0, u "name"), (0, u "Ljava/lang/String;"), (2, u "ordinal"), (0, u "I"), (1, .class_ 14), (1, u "java/lang/Object"), (4, u "hash"), (86, .class_ 108), (1, u "java/lang/Enum$EnumDesc"), (2, .class_ 112), (0, u "java/lang/constant/Constable"), (0, .class_ 114), (0, u "java/lang/Comparable"), (0, .class_ 116), (0, u "java/io/Serializable")] 87

/-- java/lang/Enum -/
def k5 : Class := { plain "java/lang/Enum" (some 0) with
  accessFlags := 1057
  interfaces := #[2, 3, 4]
  cf := some (fileOf pool5 2 #[.nestMembers #[106]] #[] 1057 12 #[111, 113, 115] #[{ accessFlags := 18, nameIndex := 5, descriptorIndex := 6, attributes := #[] }, { accessFlags := 18, nameIndex := 9, descriptorIndex := 10, attributes := #[] }, { accessFlags := 2, nameIndex := 19, descriptorIndex := 10, attributes := #[] }])
  fields := #[{ name := "name", type := (.object "java/lang/String"), accessFlags := 18, slot := 0, constantValue := 0 }, { name := "ordinal", type := .int, accessFlags := 18, slot := 1, constantValue := 0 }, { name := "hash", type := .int, accessFlags := 2, slot := 2, constantValue := 0 }]
  methods := #[]
  instanceTypes := #[(.object "java/lang/String"), .int, .int]
  staticTypes := #[]
  resolved := Array.replicate 204 none
  statics := none }

def pool6 : Array CpInfo := pool [(1, .class_ 2), (0, u "com/example/bytewright/bytewright/PrimitiveType"), (0, .fieldref 1 4), (0, .nameAndType 5 6), (0, u "BOOLEAN"), (0, u "Lcom/example/bytewright/bytewright/PrimitiveType;"), (2, u "CHAR"), (2, u "FLOAT"), (2, u "DOUBLE"), (2, u "BYTE"), (2, u "SHORT"), (2, u "INT"), (2, u "LONG"), (2, u "$VALUES"), (0, u "[Lcom/example/bytewright/bytewright/PrimitiveType;"), (6, .class_ 40), (1, u "java/lang/Enum"), (6, .fieldref 1 48), (0, .nameAndType 49 50), (0, u "arrayTypeCode"), (0, u "I"), (2, u "descriptor"), (0, u "C"), (0, .fieldref 1 56), (0, .nameAndType 57 31), (0, u "VALUES"), (43, u "ofArrayTypeCode"), (0, u "(I)Lcom/example/bytewright/bytewright/PrimitiveType;")] 9

def k6c0 : Code := { maxStack := 2, maxLocals := 2, code := prog_131_method_4_code, exceptionTable := #[], attributes := #[] }
def k6m0 : Method := { name := "ofArrayTypeCode", desc := "(I)Lcom/example/bytewright/bytewright/PrimitiveType;", sig := { parameters := [.int], returnType := some (.object "com/example/bytewright/bytewright/PrimitiveType") }, accessFlags := 9, code := some k6c0 }
/-- com/example/bytewright/bytewright/PrimitiveType -/
def k6 : Class := { plain "com/example/bytewright/bytewright/PrimitiveType" (some 5) with
  accessFlags := 16433
  interfaces := #[]
  cf := some (fileOf pool6 1 #[] #[{ accessFlags := 9, nameIndex := 101, descriptorIndex := 102, attributes := #[] }] 16433 38 #[] #[{ accessFlags := 16409, nameIndex := 5, descriptorIndex := 6, attributes := #[] }, { accessFlags := 16409, nameIndex := 9, descriptorIndex := 6, attributes := #[] }, { accessFlags := 16409, nameIndex := 12, descriptorIndex := 6, attributes := #[] }, { accessFlags := 16409, nameIndex := 15, descriptorIndex := 6, attributes := #[] }, { accessFlags := 16409, nameIndex := 18, descriptorIndex := 6, attributes := #[] }, { accessFlags := 16409, nameIndex := 21, descriptorIndex := 6, attributes := #[] }, { accessFlags := 16409, nameIndex := 24, descriptorIndex := 6, attributes := #[] }, { accessFlags := 16409, nameIndex := 27, descriptorIndex := 6, attributes := #[] }, { accessFlags := 26, nameIndex := 57, descriptorIndex := 31, attributes := #[] }, { accessFlags := 18, nameIndex := 49, descriptorIndex := 50, attributes := #[] }, { accessFlags := 18, nameIndex := 53, descriptorIndex := 54, attributes := #[] }, { accessFlags := 4122, nameIndex := 30, descriptorIndex := 31, attributes := #[] }])
  fields := #[{ name := "BOOLEAN", type := (.object "com/example/bytewright/bytewright/PrimitiveType"), accessFlags := 16409, slot := 0, constantValue := 0 }, { name := "CHAR", type := (.object "com/example/bytewright/bytewright/PrimitiveType"), accessFlags := 16409, slot := 1, constantValue := 0 }, { name := "FLOAT", type := (.object "com/example/bytewright/bytewright/PrimitiveType"), accessFlags := 16409, slot := 2, constantValue := 0 }, { name := "DOUBLE", type := (.object "com/example/bytewright/bytewright/PrimitiveType"), accessFlags := 16409, slot := 3, constantValue := 0 }, { name := "BYTE", type := (.object "com/example/bytewright/bytewright/PrimitiveType"), accessFlags := 16409, slot := 4, constantValue := 0 }, { name := "SHORT", type := (.object "com/example/bytewright/bytewright/PrimitiveType"), accessFlags := 16409, slot := 5, constantValue := 0 }, { name := "INT", type := (.object "com/example/bytewright/bytewright/PrimitiveType"), accessFlags := 16409, slot := 6, constantValue := 0 }, { name := "LONG", type := (.object "com/example/bytewright/bytewright/PrimitiveType"), accessFlags := 16409, slot := 7, constantValue := 0 }, { name := "VALUES", type := (.array (.object "com/example/bytewright/bytewright/PrimitiveType")), accessFlags := 26, slot := 8, constantValue := 0 }, { name := "arrayTypeCode", type := .int, accessFlags := 18, slot := 3, constantValue := 0 }, { name := "descriptor", type := .char, accessFlags := 18, slot := 4, constantValue := 0 }, { name := "$VALUES", type := (.array (.object "com/example/bytewright/bytewright/PrimitiveType")), accessFlags := 4122, slot := 9, constantValue := 0 }]
  methods := #[k6m0]
  instanceTypes := #[(.object "java/lang/String"), .int, .int, .int, .char]
  staticTypes := #[(.object "com/example/bytewright/bytewright/PrimitiveType"), (.object "com/example/bytewright/bytewright/PrimitiveType"), (.object "com/example/bytewright/bytewright/PrimitiveType"), (.object "com/example/bytewright/bytewright/PrimitiveType"), (.object "com/example/bytewright/bytewright/PrimitiveType"), (.object "com/example/bytewright/bytewright/PrimitiveType"), (.object "com/example/bytewright/bytewright/PrimitiveType"), (.object "com/example/bytewright/bytewright/PrimitiveType"), (.array (.object "com/example/bytewright/bytewright/PrimitiveType")), (.array (.object "com/example/bytewright/bytewright/PrimitiveType"))]
  resolved := Array.replicate 112 none
  statics := some 0 }

def pool7 : Array CpInfo := pool [(1, u "java/lang/Cloneable"), (0, .class_ 1), (0, u "java/lang/Object"), (0, .class_ 3)] 3

/-- java/lang/Cloneable -/
def k7 : Class := { plain "java/lang/Cloneable" (some 0) with
  accessFlags := 1537
  interfaces := #[]
  cf := some (fileOf pool7 2 #[] #[] 1537 4 #[] #[])
  fields := #[]
  methods := #[]
  instanceTypes := #[]
  staticTypes := #[]
  resolved := Array.replicate 8 none
  statics := none }

/-- the primitive byte -/
def k8 : Class := { plain "byte" none with kind := .primitive 'B', accessFlags := 0x411 }
/-- [B -/
def k9 : Class := { plain "[B" (some 0) with kind := .array 8 .byte, interfaces := #[7, 4], accessFlags := 1041 }

/-- the primitive int -/
def k10 : Class := { plain "int" none with kind := .primitive 'I', accessFlags := 0x411 }
/-- [I -/
def k11 : Class := { plain "[I" (some 0) with kind := .array 10 .int, interfaces := #[7, 4], accessFlags := 1041 }

/-- [Lcom/example/bytewright/bytewright/PrimitiveType; -/
def k12 : Class := { plain "[Lcom/example/bytewright/bytewright/PrimitiveType;" (some 0) with kind := .array 6 (.object "com/example/bytewright/bytewright/PrimitiveType"), interfaces := #[7, 4], accessFlags := 1041 }

def heap : Heap := #[{ cls := 6, slots := #[.ref 2, .ref 3, .ref 4, .ref 5, .ref 6, .ref 7, .ref 8, .ref 9, .ref 1, .null], vm := .statics 6 },
  { cls := 12, slots := #[.ref 2, .ref 3, .ref 4, .ref 5, .ref 6, .ref 7, .ref 8, .ref 9], vm := .none },
  { cls := 6, slots := #[.null, .int 0, .int 0, .int 4, .int 66], vm := .none },
  { cls := 6, slots := #[.null, .int 1, .int 0, .int 5, .int 66], vm := .none },
  { cls := 6, slots := #[.null, .int 2, .int 0, .int 6, .int 66], vm := .none },
  { cls := 6, slots := #[.null, .int 3, .int 0, .int 7, .int 66], vm := .none },
  { cls := 6, slots := #[.null, .int 4, .int 0, .int 8, .int 66], vm := .none },
  { cls := 6, slots := #[.null, .int 5, .int 0, .int 9, .int 66], vm := .none },
  { cls := 6, slots := #[.null, .int 6, .int 0, .int 10, .int 66], vm := .none },
  { cls := 6, slots := #[.null, .int 7, .int 0, .int 11, .int 66], vm := .none }]
def classes : Array Class := #[k0, k1, k2, k3, k4, k5, k6, k7, k8, k9, k10, k11, k12]
def interned : List (Array UInt16 × Addr) := []
def slotsUsed : Nat := 58
def theMethod : MethodId := ⟨1, 2⟩
def args0 : Array Value := #[.int 5, .int 300]
def aboutOver (below : List Frame) : State where
  vm := { classes := classes, interned := interned.toArray }
  heap := heap
  slotsUsed := slotsUsed
  threads := #[{ frames := .invoking theMethod args0 :: below }]
def below0 : List Frame := [.native { method := ⟨0, 0⟩, args := #[] }]
def about1 : State := aboutOver below0
def p0 : Program := .bare "" "" ""
def e0 : Env := launch0.env 0 0 0
theorem w_frames : about1.frames = Frame.invoking theMethod args0 :: below0 := rfl
set_option maxRecDepth 65536 in
theorem w_args : argsFit about1.vm theMethod args0 = true := by decide +kernel
set_option maxRecDepth 65536 in
theorem w_heap : heapFits about1 = true := by decide +kernel
set_option maxRecDepth 65536 in
theorem w_runnable : about1.curStatus? = some .runnable := by decide +kernel
set_option maxRecDepth 65536 in
theorem w_alone : about1.alone = true := by decide +kernel
set_option maxRecDepth 65536 in
theorem w_named : about1.methodNamed? x = some theMethod := by decide +kernel
set_option maxRecDepth 65536 in
theorem w_hears : about1.hears theMethod below0 = true := by decide +kernel
set_option maxRecDepth 65536 in
theorem w_ripe : about1.ripe theMethod args0 below0 = true := by decide +kernel
theorem w_running : about1.status = .running := rfl
set_option maxRecDepth 65536 in
theorem w_room : about1.hasRoom e0.platform room_1 = true :=
  launch0.hasRoom_least _ room_1 (by decide +kernel) (by decide +kernel) (by decide +kernel) (by decide +kernel) (by decide +kernel) (by decide +kernel)
theorem allAtoms_all (ts : List Jvm.Cond) (a : Array Jvm.Value) (st : Jvm.State) : (allAtoms ts).before a st = ts.all (fun c => c.before a st) := by
  induction ts with
  | nil => rfl
  | cons c t ih =>
    show (Jvm.Cond.and c (allAtoms t)).before a st = _
    rw [Jvm.Cond.before_and, ih, List.all_cons]
def words1 : List Jvm.Cond := Jvm.Cond.code x code maxLocals ret :: tables_1
/-- a 'code' word, met by the world's own term for the bytes: nothing is compared byte by byte -/
theorem code_word {y : MethodName} {bytes : ByteArray} {mx : Nat} {rt : Option FieldType} {a : Array Value} {s : State} {m : MethodId} {meth : Method} {c : Code} (h1 : s.methodNamed? y = some m) (h2 : s.vm.method? m = some meth) (h3 : meth.code = some c) (h4 : c.code = bytes)
    (h5 : (c.maxLocals == mx && c.exceptionTable.isEmpty && decide (c.maxStack ≤ mostOperands) && decide (meth.sig.returnType = rt) && !meth.locks && decide (parseMethodDescriptor y.desc = some meth.sig)) = true) : (Jvm.Cond.code y bytes mx rt).before a s = true := by
  simp only [Bool.and_eq_true, beq_iff_eq, Bool.not_eq_true', decide_eq_true_eq] at h5
  obtain ⟨⟨⟨⟨⟨g1, g2⟩, g3⟩, g4⟩, g5⟩, g6⟩ := h5
  simp [Cond.before, Cond.holds, Cond.value, h1, h2, h3, h4, g1, g2, g3, g4, g5, g6]
def isCode : Jvm.Cond → Bool
  | .code _ _ _ _ => true
  | _ => false
theorem all_split {L : List Jvm.Cond} {P : Jvm.Cond → Bool} (h1 : L.all (fun c => isCode c || P c) = true) (h2 : ∀ c ∈ L.filter isCode, P c = true) : L.all P = true := by
  refine List.all_eq_true.mpr fun c hc => ?_
  have h := List.all_eq_true.mp h1 c hc
  rcases Bool.eq_false_or_eq_true (isCode c) with hi | hi
  · exact h2 c (List.mem_filter.mpr ⟨hc, hi⟩)
  · simpa [hi] using h
set_option maxRecDepth 65536 in
theorem w_c0 : (Jvm.Cond.code x code maxLocals ret).before args0 about1 = true := code_word (m := ⟨1, 2⟩) (meth := k1m2) (c := k1c2) (by decide +kernel) rfl rfl rfl (by decide +kernel)
set_option maxRecDepth 65536 in
theorem w_c1 : (Jvm.Cond.code ({ cls := "com/example/bytewright/bytewright/PrimitiveType", name := "ofArrayTypeCode", desc := "(I)Lcom/example/bytewright/bytewright/PrimitiveType;" } : Jvm.MethodName) prog_131_method_4_code (2 : Nat) (Option.some (Jvm.ClassFile.FieldType.object "com/example/bytewright/bytewright/PrimitiveType"))).before args0 about1 = true := code_word (m := ⟨6, 0⟩) (meth := k6m0) (c := k6c0) (by decide +kernel) rfl rfl rfl (by decide +kernel)
set_option maxRecDepth 65536 in
theorem w_c2 : (Jvm.Cond.code ({ cls := "com/example/bytewright/bytewright/PrimitiveTypeOfArrayTypeCodePinLaw", name := "expected", desc := "(I)Lcom/example/bytewright/bytewright/PrimitiveType;" } : Jvm.MethodName) method_2_code (1 : Nat) (Option.some (Jvm.ClassFile.FieldType.object "com/example/bytewright/bytewright/PrimitiveType"))).before args0 about1 = true := code_word (m := ⟨1, 1⟩) (meth := k1m1) (c := k1c1) (by decide +kernel) rfl rfl rfl (by decide +kernel)
def codes1 : List Jvm.Cond := [Jvm.Cond.code x code maxLocals ret, Jvm.Cond.code ({ cls := "com/example/bytewright/bytewright/PrimitiveType", name := "ofArrayTypeCode", desc := "(I)Lcom/example/bytewright/bytewright/PrimitiveType;" } : Jvm.MethodName) prog_131_method_4_code (2 : Nat) (Option.some (Jvm.ClassFile.FieldType.object "com/example/bytewright/bytewright/PrimitiveType")), Jvm.Cond.code ({ cls := "com/example/bytewright/bytewright/PrimitiveTypeOfArrayTypeCodePinLaw", name := "expected", desc := "(I)Lcom/example/bytewright/bytewright/PrimitiveType;" } : Jvm.MethodName) method_2_code (1 : Nat) (Option.some (Jvm.ClassFile.FieldType.object "com/example/bytewright/bytewright/PrimitiveType"))]
set_option maxRecDepth 65536 in
theorem codes_eq : words1.filter isCode = codes1 := rfl
theorem w_codes : ∀ c ∈ words1.filter isCode, c.before args0 about1 = true := by
  rw [codes_eq]
  intro c hc
  simp only [codes1, List.mem_cons, List.not_mem_nil, or_false] at hc
  rcases hc with rfl | rfl | rfl
  · exact w_c0
  · exact w_c1
  · exact w_c2
set_option maxRecDepth 65536 in
theorem w_t1 : (words1.take 24).all (fun c => isCode c || c.before args0 about1) = true := by decide +kernel
set_option maxRecDepth 65536 in
theorem w_t2 : (words1.drop 24).all (fun c => isCode c || c.before args0 about1) = true := by decide +kernel
theorem w_tables : (allAtoms (Jvm.Cond.code x code maxLocals ret :: tables_1)).before args0 about1 = true := by
  rw [allAtoms_all]
  show words1.all (fun c => c.before args0 about1) = true
  refine all_split ?_ w_codes
  rw [← List.take_append_drop 24 words1, List.all_append, w_t1, w_t2]
  rfl
set_option maxRecDepth 65536 in
theorem w_case : (Jvm.Cond.and given_1 narrow_1).before args0 about1 = true := by decide +kernel
theorem w_applies : (headSpec (Jvm.Cond.code x code maxLocals ret :: tables_1) room_1).applies x e0.platform about1 = true :=
  (Spec.applies_iff w_frames).mpr ⟨w_running, w_runnable, w_alone, w_named, w_hears, w_ripe, w_room, w_tables⟩
theorem atStart : AtStart classFile x code maxLocals ret World_1 tables_1 room_1 Calls_1 rest_1 Pre_1 launch0 p0 e0 about1 theMethod args0 below0 :=
  ⟨lists_1, trivial, launch0.admits_env _ _ _, launch0.least_env, fairChoices_fair.cas, fairChoices_fair.clock, w_frames, w_args, w_heap, w_applies, trivial, trivial, w_case⟩
end start1
theorem witness_1 : WitnessClaimed_1 := ⟨start1.p0, start1.e0, start1.about1, start1.theMethod, start1.args0, start1.below0, start1.atStart⟩
end Jvm.Pilot.@@N@@
