import JvmDerived
import JvmDerived.Pilot.@@N@@Statement
import JvmDerived.Pilot.@@N@@Code
set_option linter.unusedVariables false
set_option linter.unusedSimpArgs false
namespace Jvm.Pilot.@@N@@
open Jvm Jvm.ClassFile Sem Op Lib Jvm.Free Jvm.Stand Jvm.LawKit Jvm.RoadKit Bundle Jvm.Pilot.@@N@@.Jvm.D
section OwnKit
variable {p : Program} {l : Launch} {e : Env} {R : Room} {s : State} {m : MethodId} {args : Array Value} {below : List Frame} {meth : Method} {c : Code} {T T' : State} {locs : List Loc} {cells slots : Nat} {Z : State} {a0 : Array Value} {h : Heap}
/-- from here the run comes to an end of which E speaks -/
def own_Go (p : Program) (e : Env) (below : List Frame) (E : State → Outcome → Prop) (T : State) (g : JFrame) : Prop :=
  ∃ t o, Steps p.tables e below (T.setTop g) t ∧ t.status = .running ∧ Ended t below o ∧ E t o
def own_End (s : State) (k n : Nat) (Q : Option Value → Heap → List Loc → Prop) (t : State) (o : Outcome) : Prop :=
  ∃ v L, o = .returned v ∧ Q v t.heap L ∧ FrameEnd s o t L k n
theorem own_by {E : State → Outcome → Prop} {g g' : JFrame} (st : ∀ target, Steps p.tables e below (T'.setTop g') target → Steps p.tables e below (T.setTop g) target) (k : own_Go p e below E T' g') : own_Go p e below E T g := by
  obtain ⟨t, o, h1, r⟩ := k
  exact ⟨t, o, st t h1, r⟩
theorem own_retW (X : Stand p l e R s m args below meth c T locs cells slots) (hx : p.tables.exec = Jvm.exec) (hlk : meth.locks = false) {pc : Nat} {Ls : Array Slot} {w : Value} {t : FieldType} {i : Instr} {rest : List Value} (hret : meth.sig.returnType = some t) (hn : narrow t w = w)
    (hi : (i = .ireturn ∧ (t = .int ∨ t = .boolean ∨ t = .byte ∨ t = .char ∨ t = .short) ∧ ∃ z, w = .int z) ∨ (i = .lreturn ∧ t = .long ∧ ∃ z, w = .long z) ∨ (i = .dreturn ∧ t = .double ∧ ∃ z, w = .double z) ∨ (i = .freturn ∧ t = .float ∧ ∃ z, w = .float z) ∨ (i = .areturn ∧ t.isReference = true ∧ w.isRef = true))
    (hd : decode c.code pc = .ok (i, 1)) {Q : Option Value → Heap → List Loc → Prop} {k n : Nat} (hQ : Q (some w) T.heap locs) (hk : cells ≤ k) (hs : slots ≤ n) : own_Go p e below (own_End s k n Q) T (mkF m pc Ls (w :: rest)) := by
  obtain ⟨fs, hr, hrun, hended, hW, hsame⟩ := X.leave (v := some w) (fun h => by rw [hret] at h; cases h) hlk
  exact ⟨_, _, retOut X hx hret hn hi hd hr, hrun, hended, _, _, rfl, hQ, ⟨_, rfl⟩, hW, hsame.mono hk hs⟩
theorem own_retI (X : Stand p l e R s m args below meth c T locs cells slots) (hx : p.tables.exec = Jvm.exec) (hlk : meth.locks = false) {pc : Nat} {Ls : Array Slot} {z : Int32} {rest : List Value} (hret : meth.sig.returnType = some .int) (hd : decode c.code pc = .ok (.ireturn, 1)) {Q : Option Value → Heap → List Loc → Prop} {k n : Nat} (hQ : Q (some (.int z)) T.heap locs) (hk : cells ≤ k) (hs : slots ≤ n) : own_Go p e below (own_End s k n Q) T (mkF m pc Ls (.int z :: rest)) :=
  own_retW X hx hlk hret rfl (Or.inl ⟨rfl, Or.inl rfl, z, rfl⟩) hd hQ hk hs
theorem own_retJ (X : Stand p l e R s m args below meth c T locs cells slots) (hx : p.tables.exec = Jvm.exec) (hlk : meth.locks = false) {pc : Nat} {Ls : Array Slot} {z : Int64} {rest : List Value} (hret : meth.sig.returnType = some .long) (hd : decode c.code pc = .ok (.lreturn, 1)) {Q : Option Value → Heap → List Loc → Prop} {k n : Nat} (hQ : Q (some (.long z)) T.heap locs) (hk : cells ≤ k) (hs : slots ≤ n) : own_Go p e below (own_End s k n Q) T (mkF m pc Ls (.long z :: rest)) :=
  own_retW X hx hlk hret rfl (Or.inr (Or.inl ⟨rfl, rfl, z, rfl⟩)) hd hQ hk hs
theorem own_retA (X : Stand p l e R s m args below meth c T locs cells slots) (hx : p.tables.exec = Jvm.exec) (hlk : meth.locks = false) {pc : Nat} {Ls : Array Slot} {w : Value} {t : FieldType} {rest : List Value} (hret : meth.sig.returnType = some t) (ht : t.isReference = true) (hw : w.isRef = true) (hd : decode c.code pc = .ok (.areturn, 1)) {Q : Option Value → Heap → List Loc → Prop} {k n : Nat} (hQ : Q (some w) T.heap locs) (hk : cells ≤ k) (hs : slots ≤ n) : own_Go p e below (own_End s k n Q) T (mkF m pc Ls (w :: rest)) :=
  own_retW X hx hlk hret (by cases t <;> first | (cases ht; done) | (cases w <;> first | rfl | (cases hw; done))) (Or.inr (Or.inr (Or.inr (Or.inr ⟨rfl, ht, hw⟩)))) hd hQ hk hs
theorem own_retN (X : Stand p l e R s m args below meth c T locs cells slots) (hx : p.tables.exec = Jvm.exec) (hlk : meth.locks = false) {pc : Nat} {Ls : Array Slot} {z : Int32} {t : FieldType} {rest : List Value} (hret : meth.sig.returnType = some t) (ht : t = .boolean ∨ t = .byte ∨ t = .char ∨ t = .short) (hn : nar t z = z) (hd : decode c.code pc = .ok (.ireturn, 1)) {Q : Option Value → Heap → List Loc → Prop} {k n : Nat} (hQ : Q (some (.int z)) T.heap locs) (hk : cells ≤ k) (hs : slots ≤ n) : own_Go p e below (own_End s k n Q) T (mkF m pc Ls (.int z :: rest)) :=
  own_retW X hx hlk hret (by rcases ht with rfl | rfl | rfl | rfl <;> exact congrArg Value.int hn) (Or.inl ⟨rfl, Or.inr ht, z, rfl⟩) hd hQ hk hs
theorem own_ret0 (X : Stand p l e R s m args below meth c T locs cells slots) (hx : p.tables.exec = Jvm.exec) (hlk : meth.locks = false) {pc : Nat} {Ls : Array Slot} (hret : meth.sig.returnType = none) (hd : decode c.code pc = .ok (.return_, 1)) {Q : Option Value → Heap → List Loc → Prop} {k n : Nat} (hQ : Q none T.heap locs) (hk : cells ≤ k) (hs : slots ≤ n) : own_Go p e below (own_End s k n Q) T (mkF m pc Ls []) := by
  obtain ⟨fs, hr, hrun, hended, hW, hsame⟩ := X.leave (v := none) (fun _ => rfl) hlk
  exact ⟨_, _, X.returnOut hx hret hd hr, hrun, hended, _, _, rfl, hQ, ⟨_, rfl⟩, hW, hsame.mono hk hs⟩
theorem own_lrem {g : JFrame} {target : State} (X : Stand p l e R s m args below meth c T locs cells slots) (hx : p.tables.exec = Jvm.exec) (hg : g.method = m) {x y : Int64} {rest : List Value} (hd : decode c.code g.pc = .ok (.lrem, 1)) (hs : g.stack = .long y :: .long x :: rest) (hy : y ≠ 0)
    (hr : Steps p.tables e below (T.setTop { g with pc := g.pc + 1, stack := .long (x % y) :: rest }) target) : Steps p.tables e below (T.setTop g) target :=
  XS.lrem X.here hx hg hd hs hy (by rw [lrem_mod]; exact hr)
/-- a body's contract: called with as' at the heap h it returns, and Q speaks of what it returns, the heap that it leaves and the places that it wrote -/
abbrev own_Met (l : Launch) (Z : State) (y : MethodName) (bytes : ByteArray) (maxL : Nat) (rt : Option FieldType) (ws : List Jvm.Cond) (rm : Room) (as' : Array Value) (h : Heap) (Q : Option Value → Heap → List Loc → Prop) : Prop :=
  MetFree l y (head1 (Jvm.Cond.code y bytes maxL rt :: ws) rm) (fun a U => a = as' ∧ Z.Warmed39 U.vm ∧ U.heap = h) (fun _ _ _ _ _ => True) (fun _ U o U' => ∃ v L, o = .returned v ∧ Q v U'.heap L ∧ FrameEnd U o U' L rm.cells rm.slots)
theorem own_enter {y : MethodName} {bytes : ByteArray} {maxL : Nat} {rt : Option FieldType} {ws : List Jvm.Cond} {rm : Room} {as' : Array Value} {Q : Option Value → Heap → List Loc → Prop} (hy : plainFor y = true) {g0 : MethodId → JFrame} (hg0 : ∀ m, entryFrame m as' maxL = g0 m)
    (body : ∀ (p : Program) (e : Env) (s : State) (m : MethodId) (below : List Frame) (meth : Method) (c : Code) (s₁ : State), p.tables.exec = Jvm.exec → c.code = bytes → c.maxLocals = maxL → s.vm.findClass y.cls = some m.cls → meth.name = y.name → meth.sig.returnType = rt → meth.locks = false → Z.Warmed39 s.vm → Stand p l e rm s m as' below meth c s₁ [] 0 0 → s₁.heap = h → own_Go p e below (own_End s rm.cells rm.slots Q) s₁ (g0 m)) :
    own_Met l Z y bytes maxL rt ws rm as' h Q := by
  refine MetFree.of_bodySF hy hisR ?_
  intro p e s m args below meth c s₁ Bd hml0 hP hK
  obtain ⟨rfl, hZ, hh⟩ := hP
  obtain ⟨t, o, h1, h2, h3, h4⟩ := body p e s m below meth c s₁ Bd.exec Bd.bytes hml0 (findClass_of_methodNamed Bd.named) (name_of_methodNamed Bd.named Bd.method).1 Bd.returns (BodyLoose.notSynchronized Bd) hZ (Stand.of_body Bd) (by rw [← hh, Bd.state]; rfl)
  exact ⟨t, o, castTop (hg0 m) h1, h2, h3, h4⟩
theorem own_callS (X : Stand p l e R s m args below meth c T locs cells slots) (hx : p.tables.exec = Jvm.exec) (hZ : Z.Warmed39 s.vm) {own : String} (hown : s.vm.findClass own = some m.cls) {index : Nat} {y : MethodName} {bytes : ByteArray} {maxL : Nat} {rt : Option FieldType}
    (w1 : (Jvm.Cond.methodLink own index y).before a0 Z = true) (w2 : (Jvm.Cond.static y).before a0 Z = true) (w3 : (Jvm.Cond.initialized y.cls).before a0 Z = true) (w4 : (Jvm.Cond.code y bytes maxL rt).before a0 Z = true)
    (hy : y.cls ≠ "java/lang/invoke/MethodHandle" ∧ y.cls ≠ "java/lang/invoke/VarHandle") {rm : Room} {argsL rest : List Value} {Q : Option Value → Heap → List Loc → Prop} (eT : T.heap = h) (hM : own_Met l Z y bytes maxL rt [] rm argsL.toArray h Q)
    {g : JFrame} (hg : g.method = m) (hsize : g.locals.size = c.maxLocals) (hlen : ∀ sig, parseMethodDescriptor y.desc = some sig → argsL.length = sig.parameters.length) (hstack : g.stack = argsL.reverse ++ rest) {W : Nat} (hW : 2 * g.monitorRoom + (rest.map fun v => v.category).sum ≤ W) (hd : decode c.code g.pc = .ok (.invokestatic index, 3))
    (hf : rm.frames + 1 ≤ R.frames) (hl : W + (maxL + 11) + rm.locals ≤ R.locals) (hc : cells + rm.cells ≤ R.cells) (hs : slots + rm.slots ≤ R.slots) :
    ∃ v T' L, Stand p l e R s m args below meth c T' (locs ++ L) (cells + rm.cells) (slots + rm.slots) ∧ Q v T'.heap L ∧ ∀ target, Steps p.tables e below (T'.setTop { g with pc := g.pc + 3, stack := v.toList ++ rest }) target → Steps p.tables e below (T.setTop g) target := by
  obtain ⟨v, _, ⟨T1, L1, k1, n1⟩, -, X1, ⟨Lc, hQ, l1, y1, z1⟩, st⟩ := Jvm.LawKit.callS X hx (y := y) hown (mvT hZ w1) (mvT hZ w2) (mvT hZ w3) (mvT hZ w4) hy (backOf (W := W) hM hZ w4 w3 hf hl) (g := g) hg hsize (argsL := argsL) (rest := rest) hlen hstack hW hd (fun _ _ => ⟨rfl, eT, hc, hs⟩)
  dsimp only [Pt.U, Pt.locs, Pt.cells, Pt.slots] at X1 l1 y1 z1 st hQ
  subst l1 y1 z1
  exact ⟨v, T1, Lc, X1, hQ, st⟩
theorem own_callI (X : Stand p l e R s m args below meth c T locs cells slots) (hx : p.tables.exec = Jvm.exec) (hZ : Z.Warmed39 s.vm) {own : String} (hown : s.vm.findClass own = some m.cls) {index : Nat} {y : MethodName} {bytes : ByteArray} {maxL : Nat} (hy1 : y.name = "<init>")
    (w1 : (Jvm.Cond.methodLink own index y).before a0 Z = true) (w2 : (Jvm.Cond.instanceMethod y).before a0 Z = true) (w3 : (Jvm.Cond.initialized y.cls).before a0 Z = true) (w4 : (Jvm.Cond.code y bytes maxL none).before a0 Z = true)
    (hy : y.cls ≠ "java/lang/invoke/MethodHandle" ∧ y.cls ≠ "java/lang/invoke/VarHandle") {rm : Room} {a : Addr} {argsL rest : List Value} {Q : Option Value → Heap → List Loc → Prop} (eT : T.heap = h) (hM : own_Met l Z y bytes maxL none [] rm (.ref a :: argsL).toArray h Q)
    {g : JFrame} (hg : g.method = m) (hsize : g.locals.size = c.maxLocals) (hlen : ∀ sig, parseMethodDescriptor y.desc = some sig → argsL.length = sig.parameters.length) (hstack : g.stack = argsL.reverse ++ .ref a :: rest) {W : Nat} (hW : 2 * g.monitorRoom + (rest.map fun v => v.category).sum ≤ W) (hd : decode c.code g.pc = .ok (.invokespecial index, 3))
    (hf : rm.frames + 1 ≤ R.frames) (hl : W + (maxL + 11) + rm.locals ≤ R.locals) (hc : cells + rm.cells ≤ R.cells) (hs : slots + rm.slots ≤ R.slots) :
    ∃ v T' L, Stand p l e R s m args below meth c T' (locs ++ L) (cells + rm.cells) (slots + rm.slots) ∧ Q v T'.heap L ∧ ∀ target, Steps p.tables e below (T'.setTop { g with pc := g.pc + 3, stack := v.toList ++ rest }) target → Steps p.tables e below (T.setTop g) target := by
  obtain ⟨v, _, ⟨T1, L1, k1, n1⟩, -, X1, ⟨Lc, hQ, l1, y1, z1⟩, st⟩ := X.specialBack hx (y := y) hy1 hown (mvT hZ w1) (mvT hZ w2) (mvT hZ w4) hy (backOf (W := W) hM hZ w4 w3 hf hl) (g := g) hg hsize (Steps.refl _) (a := a) (argsL := argsL) (rest := rest) hlen hstack hW hd (fun _ _ => ⟨rfl, eT, hc, hs⟩)
  dsimp only [Pt.U, Pt.locs, Pt.cells, Pt.slots] at X1 l1 y1 z1 st hQ
  subst l1 y1 z1
  exact ⟨v, T1, Lc, X1, hQ, fun _ k => st.trans k⟩
theorem own_callV (X : Stand p l e R s m args below meth c T locs cells slots) (hx : p.tables.exec = Jvm.exec) (hZ : Z.Warmed39 s.vm) {own C : String} (hown : s.vm.findClass own = some m.cls) {index : Nat} {y : MethodName} {bytes : ByteArray} {maxL : Nat} {rt : Option FieldType}
    (w1 : (Jvm.Cond.methodLink own index y).before a0 Z = true) (w2 : (Jvm.Cond.declares y).before a0 Z = true) (w5 : (Jvm.Cond.selects C y y).before a0 Z = true) (w6 : (Jvm.Cond.instanceMethod y).before a0 Z = true) (w3 : (Jvm.Cond.initialized y.cls).before a0 Z = true) (w4 : (Jvm.Cond.code y bytes maxL rt).before a0 Z = true)
    (hy : y.cls ≠ "java/lang/invoke/MethodHandle" ∧ y.cls ≠ "java/lang/invoke/VarHandle") {rm : Room} {a : Addr} {argsL rest : List Value} {Q : Option Value → Heap → List Loc → Prop} (hE : Exa Z h a C) (eT : T.heap = h) (hM : own_Met l Z y bytes maxL rt [] rm (.ref a :: argsL).toArray h Q)
    {g : JFrame} (hg : g.method = m) (hsize : g.locals.size = c.maxLocals) (hlen : ∀ sig, parseMethodDescriptor y.desc = some sig → argsL.length = sig.parameters.length) (hstack : g.stack = argsL.reverse ++ .ref a :: rest) {W : Nat} (hW : 2 * g.monitorRoom + (rest.map fun v => v.category).sum ≤ W) (hd : decode c.code g.pc = .ok (.invokevirtual index, 3))
    (hf : rm.frames + 1 ≤ R.frames) (hl : W + (maxL + 11) + rm.locals ≤ R.locals) (hc : cells + rm.cells ≤ R.cells) (hs : slots + rm.slots ≤ R.slots) (hC : C = y.cls := by rfl) :
    ∃ v T' L, Stand p l e R s m args below meth c T' (locs ++ L) (cells + rm.cells) (slots + rm.slots) ∧ Q v T'.heap L ∧ ∀ target, Steps p.tables e below (T'.setTop { g with pc := g.pc + 3, stack := v.toList ++ rest }) target → Steps p.tables e below (T.setTop g) target := by
  subst hC
  obtain ⟨_, _, qa, -, qc⟩ := isOf hZ eT hE
  obtain ⟨v, _, ⟨T1, L1, k1, n1⟩, -, X1, ⟨Lc, hQ, l1, y1, z1⟩, st⟩ := X.virtualBack hx (y := y) (z := y) hown (mvT hZ w1) (mvT hZ w2) (notFace_of_selects (args := #[]) (mvT hZ w5)) (mvT hZ w5) (mvT hZ w6) hy (backOf (W := W) hM hZ w4 w3 hf hl) qa qc (g := g) hg hsize (Steps.refl _) (argsL := argsL) (rest := rest) hlen hstack hW hd (fun _ _ => ⟨rfl, eT, hc, hs⟩)
  dsimp only [Pt.U, Pt.locs, Pt.cells, Pt.slots] at X1 l1 y1 z1 st hQ
  subst l1 y1 z1
  exact ⟨v, T1, Lc, X1, hQ, fun _ k => st.trans k⟩
theorem own_callU (X : Stand p l e R s m args below meth c T locs cells slots) (hx : p.tables.exec = Jvm.exec) (hZ : Z.Warmed39 s.vm) {own C owner : String} (hown : s.vm.findClass own = some m.cls) {index : Nat} {x y : MethodName} {bytes : ByteArray} {maxL : Nat} {rt : Option FieldType}
    (w1 : (Jvm.Cond.methodLink own index x).before a0 Z = true) (w7 : (Jvm.Cond.sameMethod x.cls owner x.name x.desc).before a0 Z = true) (w2 : (Jvm.Cond.declares ⟨owner, x.name, x.desc⟩).before a0 Z = true) (hy : owner ≠ "java/lang/invoke/MethodHandle" ∧ owner ≠ "java/lang/invoke/VarHandle") (w5 : (Jvm.Cond.selects C x y).before a0 Z = true) (w6 : (Jvm.Cond.instanceMethod y).before a0 Z = true) (w3 : (Jvm.Cond.initialized y.cls).before a0 Z = true) (w4 : (Jvm.Cond.code y bytes maxL rt).before a0 Z = true)
    {rm : Room} {a : Addr} {argsL rest : List Value} {Q : Option Value → Heap → List Loc → Prop} (hE : Exa Z h a C) (eT : T.heap = h) (hM : own_Met l Z y bytes maxL rt [] rm (.ref a :: argsL).toArray h Q)
    {g : JFrame} (hg : g.method = m) (hsize : g.locals.size = c.maxLocals) (hlen : ∀ sig, parseMethodDescriptor x.desc = some sig → argsL.length = sig.parameters.length) (hstack : g.stack = argsL.reverse ++ .ref a :: rest) {W : Nat} (hW : 2 * g.monitorRoom + (rest.map fun v => v.category).sum ≤ W) (hd : decode c.code g.pc = .ok (.invokevirtual index, 3))
    (hf : rm.frames + 1 ≤ R.frames) (hl : W + (maxL + 11) + rm.locals ≤ R.locals) (hc : cells + rm.cells ≤ R.cells) (hs : slots + rm.slots ≤ R.slots) :
    ∃ v T' L, Stand p l e R s m args below meth c T' (locs ++ L) (cells + rm.cells) (slots + rm.slots) ∧ Q v T'.heap L ∧ ∀ target, Steps p.tables e below (T'.setTop { g with pc := g.pc + 3, stack := v.toList ++ rest }) target → Steps p.tables e below (T.setTop g) target := by
  obtain ⟨_, _, qa, -, qc⟩ := isOf hZ eT hE
  obtain ⟨v, _, ⟨T1, L1, k1, n1⟩, -, X1, ⟨Lc, hQ, l1, y1, z1⟩, st⟩ := X.virtualBackUp hx (x := x) (y := y) hown (mvT hZ w1) (mvT hZ w7) (mvT hZ w2) hy (mvT hZ w5) (mvT hZ w6) (backOf (W := W) hM hZ w4 w3 hf hl) qa qc (g := g) hg hsize (Steps.refl _) (argsL := argsL) (rest := rest) hlen hstack hW hd (fun _ _ => ⟨rfl, eT, hc, hs⟩)
  dsimp only [Pt.U, Pt.locs, Pt.cells, Pt.slots] at X1 l1 y1 z1 st hQ
  subst l1 y1 z1
  exact ⟨v, T1, Lc, X1, hQ, fun _ k => st.trans k⟩
theorem own_arv {a : Addr} {k : ClassId} {ty : FieldType} {z : Int32} {vs : List Value} {dv : Value} (V : Arv Z h a k ty z vs dv) {j : Int32} (q : ¬ j < 0 ∧ j < z) :
    ∃ cl : Cell, Arr Z h a cl ty ∧ cl.cls = k ∧ ¬ (j < 0 ∨ cl.slots.size ≤ j.toNatClampNeg) ∧ cl.slots[j.toNatClampNeg]? = some (vs.getD j.toNatClampNeg dv) ∧ ∀ {h' : Heap} {v : Value}, fits ty v = true → Wr h h' a j.toNatClampNeg v → ∀ i, j.toNatClampNeg = i → i < vs.length → Arv Z h' a k ty z (vs.set i v) dv := by
  obtain ⟨cl, A, q1, S, q3, H, G⟩ := V
  have hin := inb_of S q
  exact ⟨cl, A, q1, hin, Has.at H hin rfl, fun hf W i hj hi => Arv.set A q1 S q3 H G hf W i hj hi⟩
theorem own_len {a : Addr} {k : ClassId} {ty : FieldType} {z : Int32} {vs : List Value} {dv : Value} (V : Arv Z h a k ty z vs dv) : ∃ cl : Cell, Arr Z h a cl ty ∧ cl.slots.size.toInt32 = z := by
  obtain ⟨cl, A, q1, S, q3, -⟩ := V
  exact ⟨cl, A, len_of S q3⟩
theorem own_sta {C f d K : String} (hx : (Jvm.Cond.exactly (.static C f d) K).value args s none s [] = some true) (w1 : (Jvm.Cond.initialized C).before args s = true) (w2 : (Jvm.Cond.laysStatic C f d).before args s = true) :
    ∃ a, (Term.static C f d).eval args s none [] s = some (.ref a) ∧ Sta s s.heap C f d (.ref a) ∧ Exa s s.heap a K := by
  obtain ⟨a, ev⟩ := exa_v hx
  exact ⟨a, ev, Sta.start ev (Or.inr ⟨w1, w2⟩), Exa.start ev hx⟩
theorem own_fldI {t : Term} {C f d : String} {a : Addr} {k : Int32} (ev : t.eval args s none [] s = some (.ref a)) (hx : (Jvm.Cond.eq (.field t C f d) (.int k)).value args s none s [] = some true) : Fld s s.heap a C f d (.int k) := by
  obtain ⟨v, w, e1, e2, k1, k2⟩ := cmp_v (Or.inl hx)
  obtain rfl : w = .int k := Option.some.inj (e2.symm.trans (Term.int_eval k))
  obtain ⟨z, rfl⟩ : ∃ z, v = .int z := k2
  have q : z = k := by simpa [Cond.value, e1, e2] using hx
  subst q
  exact Fld.start (by rw [← fld_at ev]; exact e1)
theorem own_neS {t u : Term} {a b : Addr} (ea : t.eval args s none [] s = some (.ref a)) (eb : u.eval args s none [] s = some (.ref b)) (hx : (Jvm.Cond.not (.eq t u)).value args s none s [] = some true) : a ≠ b := fun q =>
  gotF (eq_R ea eb rfl rfl) (not_v hx) (congrArg Value.ref q)
theorem own_staK {C f d : String} {v : Value} {h' : Heap} {ws : List Addr} (S : Sta Z h C f d v) (K : Keep h h' ws) (q : ∀ x ∈ ws, ∀ cell : Cell, h[x]? = some cell → cell.vm.isStatics = false) : Sta Z h' C f d v := by
  obtain ⟨cf, i, k, fl, st, cell, h1, h2, h3, h4, h5, h6, h7⟩ := S
  refine ⟨cf, i, k, fl, st, cell, h1, h2, h3, h4, K.2.1 st cell h5 (fun hm => ?_), h6, h7⟩
  have := q st hm cell h5
  rw [h6] at this
  cases this
end OwnKit
def own_of (y m d : Int32) : Int32 := y * 10000 + m * 100 + d
def own_sign (a b : Int32) : Int32 := if a < b then -1 else if a = b then 0 else 1
def own_ok (y m d : Int32) : Prop := (0 ≤ y.toInt ∧ y.toInt < 10000) ∧ (1 ≤ m.toInt ∧ m.toInt ≤ 12) ∧ (1 ≤ d.toInt ∧ d.toInt ≤ 31)
theorem own_rg (x y : Int32) (d : Int) (hy : y.toInt = d) (hd : 0 < d) : 0 ≤ ((x &&& 2147483647) % y).toInt ∧ ((x &&& 2147483647) % y).toInt < d := by
  have h := c_mask x 2147483647 31 (by decide) (by decide)
  have h0 : 0 ≤ (x &&& 2147483647).toInt := by rw [h]; omega
  rw [(c_irem (x &&& 2147483647) y d hy).1 h0]
  exact ⟨Int.emod_nonneg _ (by omega), Int.emod_lt_of_pos _ hd⟩
theorem own_rg1 (x y : Int32) (d : Int) (hy : y.toInt = d) (hd : 0 < d) (hb : d ≤ 100) : 1 ≤ ((x &&& 2147483647) % y + 1).toInt ∧ ((x &&& 2147483647) % y + 1).toInt ≤ d := by
  have h := own_rg x y d hy hd
  have ha := c_iadd ((x &&& 2147483647) % y) 1
  have r := rng32 ((x &&& 2147483647) % y + 1)
  have e1 : (1 : Int32).toInt = 1 := rfl
  omega
theorem own_sm (k a : Int) (h : (k - a) % 4294967296 = 0) (h1 : -2147483648 ≤ k ∧ k < 2147483648) (h2 : -2147483648 ≤ a ∧ a < 2147483648) : k = a := by omega
theorem own_val {y m d : Int32} (h : own_ok y m d) : (own_of y m d).toInt = y.toInt * 10000 + m.toInt * 100 + d.toInt := by
  obtain ⟨h1, h2, h3⟩ := h
  have a1 : (y * 10000).toInt = y.toInt * 10000 := own_sm _ _ (c_imul y 10000) (rng32 _) (by show _ ≤ y.toInt * 10000 ∧ y.toInt * 10000 < _; omega)
  have a2 : (m * 100).toInt = m.toInt * 100 := own_sm _ _ (c_imul m 100) (rng32 _) (by show _ ≤ m.toInt * 100 ∧ m.toInt * 100 < _; omega)
  have a3 : (y * 10000 + m * 100).toInt = y.toInt * 10000 + m.toInt * 100 := by rw [own_sm _ _ (c_iadd _ _) (rng32 _) (by rw [a1, a2]; omega), a1, a2]
  show (y * 10000 + m * 100 + d).toInt = _
  rw [own_sm _ _ (c_iadd _ _) (rng32 _) (by rw [a3]; omega), a3]
theorem own_year {y m d : Int32} (h : own_ok y m d) : own_of y m d / 10000 = y := by
  have v := own_val h
  obtain ⟨h1, h2, h3⟩ := h
  apply Int32.toInt_inj.mp
  rw [(c_idiv (own_of y m d) 10000 10000 rfl (by decide)).1 (by omega), v]
  omega
theorem own_month {y m d : Int32} (h : own_ok y m d) : own_of y m d / 100 % 100 = m := by
  have v := own_val h
  obtain ⟨h1, h2, h3⟩ := h
  have q := (c_idiv (own_of y m d) 100 100 rfl (by decide)).1 (by omega)
  apply Int32.toInt_inj.mp
  rw [(c_irem (own_of y m d / 100) 100 100 rfl).1 (by omega), q, v]
  omega
theorem own_day {y m d : Int32} (h : own_ok y m d) : own_of y m d % 100 = d := by
  have v := own_val h
  obtain ⟨h1, h2, h3⟩ := h
  apply Int32.toInt_inj.mp
  rw [(c_irem (own_of y m d) 100 100 rfl).1 (by omega), v]
  omega
theorem own_pos {y m d : Int32} (h : own_ok y m d) : (0 : Int32) < own_of y m d := by
  have v := own_val h
  obtain ⟨h1, h2, h3⟩ := h
  rw [Int32.lt_iff_toInt_lt, v]
  show (0 : Int) < _
  omega
theorem own_sg {a b a' b' : Int32} (h : a.toInt < b.toInt ↔ a'.toInt < b'.toInt) (h2 : a.toInt = b.toInt ↔ a'.toInt = b'.toInt) : own_sign a b = own_sign a' b' := by
  have g1 : a < b ↔ a' < b' := by rw [Int32.lt_iff_toInt_lt, Int32.lt_iff_toInt_lt]; exact h
  have g2 : a = b ↔ a' = b' := by rw [← Int32.toInt_inj, ← Int32.toInt_inj]; exact h2
  simp only [own_sign, g1, g2]
theorem own_l1 {y m d y' m' d' : Int32} (h : own_ok y m d) (h' : own_ok y' m' d') (q : ¬ y = y') : own_sign y y' = own_sign (own_of y m d) (own_of y' m' d') := by
  have v := own_val h
  have v' := own_val h'
  obtain ⟨h1, h2, h3⟩ := h
  obtain ⟨h1', h2', h3'⟩ := h'
  have q' : y.toInt ≠ y'.toInt := fun z => q (Int32.toInt_inj.mp z)
  refine own_sg ?_ ?_ <;> rw [v, v'] <;> omega
theorem own_l2 {y m d m' d' : Int32} (h : own_ok y m d) (h' : own_ok y m' d') (q : ¬ m = m') : own_sign m m' = own_sign (own_of y m d) (own_of y m' d') := by
  have v := own_val h
  have v' := own_val h'
  obtain ⟨h1, h2, h3⟩ := h
  obtain ⟨h1', h2', h3'⟩ := h'
  have q' : m.toInt ≠ m'.toInt := fun z => q (Int32.toInt_inj.mp z)
  refine own_sg ?_ ?_ <;> rw [v, v'] <;> omega
theorem own_l3 {y m d d' : Int32} (h : own_ok y m d) (h' : own_ok y m d') : own_sign d d' = own_sign (own_of y m d) (own_of y m d') := by
  have v := own_val h
  have v' := own_val h'
  refine own_sg ?_ ?_ <;> rw [v, v'] <;> omega
def Q_rm1 (Z : State) (p1 p2 p3 : Int32) (h0 : Heap) (n0 : Nat) (v : Option Value) (h : Heap) (L : List Loc) : Prop := v = some (.int (own_of p1 p2 p3)) ∧ Fr n0 L ∧ h = h0
theorem pn_rm1 : plainFor (⟨"com/example/vestwright/vestwright/input/PackedDate", "of", "(III)I"⟩ : MethodName) = true := plainFor_of_name (by first | (simp [plainName, overriddenIn, x]; done) | decide +kernel)
theorem d1_0 : decode prog_61_method_2_code 0 = .ok (.iload_n 0, 1) := by decide +kernel
theorem d1_1 : decode prog_61_method_2_code 1 = .ok (.sipush 10000, 3) := by decide +kernel
theorem d1_4 : decode prog_61_method_2_code 4 = .ok (.imul, 1) := by decide +kernel
theorem d1_5 : decode prog_61_method_2_code 5 = .ok (.iload_n 1, 1) := by decide +kernel
theorem d1_6 : decode prog_61_method_2_code 6 = .ok (.bipush 100, 2) := by decide +kernel
theorem d1_8 : decode prog_61_method_2_code 8 = .ok (.imul, 1) := by decide +kernel
theorem d1_9 : decode prog_61_method_2_code 9 = .ok (.iadd, 1) := by decide +kernel
theorem d1_10 : decode prog_61_method_2_code 10 = .ok (.iload_n 2, 1) := by decide +kernel
theorem d1_11 : decode prog_61_method_2_code 11 = .ok (.iadd, 1) := by decide +kernel
theorem d1_12 : decode prog_61_method_2_code 12 = .ok (.ireturn, 1) := by decide +kernel
set_option maxRecDepth 65536 in
set_option maxHeartbeats 40000000 in
theorem rm1 (l : Launch) (Z : State) (a0 : Array Value) (hw : ∀ d ∈ tables_1, d.before a0 Z = true) (ws : List Jvm.Cond) (p1 p2 p3 : Int32) (h0 : Heap) (n0 : Nat) (Z0 : n0 ≤ h0.size)  :
    own_Met l Z (⟨"com/example/vestwright/vestwright/input/PackedDate", "of", "(III)I"⟩ : MethodName) prog_61_method_2_code 3 (some .int) ws ({ frames := 0, cells := 0, slots := 0, locals := 0 } : Room) #[(.int p1), (.int p2), (.int p3)] h0 (Q_rm1 Z p1 p2 p3 h0 n0) := by
  refine own_enter (g0 := fun m => (mkF m 0 #[.val (.int p1), .val (.int p2), .val (.int p3)] [])) pn_rm1 (fun m => by first | (simp [entryFrame, mkF, argsToLocals, Value.category, maxLocals]; done) | rfl) ?_
  intro p e s m below meth c s₁ hx hby hml hown hnm hret hlk hZ X0 e0
  have hml : c.maxLocals = 3 := hml
  have hown : s.vm.findClass "com/example/vestwright/vestwright/input/PackedDate" = some m.cls := hown
  have N0 := Fr.nil n0
  show own_Go p e below _ s₁ (mkF m 0 #[.val (.int p1), .val (.int p2), .val (.int p3)] [])
  refine own_by (fun _ k => XS.iloadN X0.here hx rfl (hb hby d1_0) rfl k) ?_
  show own_Go p e below _ s₁ (mkF m 1 #[.val (.int p1), .val (.int p2), .val (.int p3)] [(.int p1)])
  refine own_by (fun _ k => XS.sipush X0.here hx rfl (hb hby d1_1) k) ?_
  show own_Go p e below _ s₁ (mkF m 4 #[.val (.int p1), .val (.int p2), .val (.int p3)] [(.int (10000 : Int32)), (.int p1)])
  refine own_by (fun _ k => XS.imul X0.here hx rfl (hb hby d1_4) rfl k) ?_
  show own_Go p e below _ s₁ (mkF m 5 #[.val (.int p1), .val (.int p2), .val (.int p3)] [(.int (p1 * (10000 : Int32)))])
  refine own_by (fun _ k => XS.iloadN X0.here hx rfl (hb hby d1_5) rfl k) ?_
  show own_Go p e below _ s₁ (mkF m 6 #[.val (.int p1), .val (.int p2), .val (.int p3)] [(.int p2), (.int (p1 * (10000 : Int32)))])
  refine own_by (fun _ k => XS.bipush X0.here hx rfl (hb hby d1_6) k) ?_
  show own_Go p e below _ s₁ (mkF m 8 #[.val (.int p1), .val (.int p2), .val (.int p3)] [(.int (100 : Int32)), (.int p2), (.int (p1 * (10000 : Int32)))])
  refine own_by (fun _ k => XS.imul X0.here hx rfl (hb hby d1_8) rfl k) ?_
  show own_Go p e below _ s₁ (mkF m 9 #[.val (.int p1), .val (.int p2), .val (.int p3)] [(.int (p2 * (100 : Int32))), (.int (p1 * (10000 : Int32)))])
  refine own_by (fun _ k => XS.iadd X0.here hx rfl (hb hby d1_9) rfl k) ?_
  show own_Go p e below _ s₁ (mkF m 10 #[.val (.int p1), .val (.int p2), .val (.int p3)] [(.int ((p1 * (10000 : Int32)) + (p2 * (100 : Int32))))])
  refine own_by (fun _ k => XS.iloadN X0.here hx rfl (hb hby d1_10) rfl k) ?_
  show own_Go p e below _ s₁ (mkF m 11 #[.val (.int p1), .val (.int p2), .val (.int p3)] [(.int p3), (.int ((p1 * (10000 : Int32)) + (p2 * (100 : Int32))))])
  refine own_by (fun _ k => XS.iadd X0.here hx rfl (hb hby d1_11) rfl k) ?_
  show own_Go p e below _ s₁ (mkF m 12 #[.val (.int p1), .val (.int p2), .val (.int p3)] [(.int (((p1 * (10000 : Int32)) + (p2 * (100 : Int32))) + p3))])
  exact own_retI X0 hx hlk hret  (hb hby d1_12) (by first | exact ⟨rfl, N0, rfl⟩ | (rw [e0]; exact ⟨rfl, N0, rfl⟩)) (by decide) (by decide)
def Q_rm2 (Z : State) (p1 : Int32) (h0 : Heap) (n0 : Nat) (v : Option Value) (h : Heap) (L : List Loc) : Prop := v = some (.int (p1 / 10000)) ∧ Fr n0 L ∧ h = h0
theorem pn_rm2 : plainFor (⟨"com/example/vestwright/vestwright/input/PackedDate", "year", "(I)I"⟩ : MethodName) = true := plainFor_of_name (by first | (simp [plainName, overriddenIn, x]; done) | decide +kernel)
theorem d2_0 : decode prog_61_method_5_code 0 = .ok (.iload_n 0, 1) := by decide +kernel
theorem d2_1 : decode prog_61_method_5_code 1 = .ok (.sipush 10000, 3) := by decide +kernel
theorem d2_4 : decode prog_61_method_5_code 4 = .ok (.idiv, 1) := by decide +kernel
theorem d2_5 : decode prog_61_method_5_code 5 = .ok (.ireturn, 1) := by decide +kernel
set_option maxRecDepth 65536 in
set_option maxHeartbeats 40000000 in
theorem rm2 (l : Launch) (Z : State) (a0 : Array Value) (hw : ∀ d ∈ tables_1, d.before a0 Z = true) (ws : List Jvm.Cond) (p1 : Int32) (h0 : Heap) (n0 : Nat) (Z0 : n0 ≤ h0.size)  :
    own_Met l Z (⟨"com/example/vestwright/vestwright/input/PackedDate", "year", "(I)I"⟩ : MethodName) prog_61_method_5_code 1 (some .int) ws ({ frames := 0, cells := 0, slots := 0, locals := 0 } : Room) #[(.int p1)] h0 (Q_rm2 Z p1 h0 n0) := by
  refine own_enter (g0 := fun m => (mkF m 0 #[.val (.int p1)] [])) pn_rm2 (fun m => by first | (simp [entryFrame, mkF, argsToLocals, Value.category, maxLocals]; done) | rfl) ?_
  intro p e s m below meth c s₁ hx hby hml hown hnm hret hlk hZ X0 e0
  have hml : c.maxLocals = 1 := hml
  have hown : s.vm.findClass "com/example/vestwright/vestwright/input/PackedDate" = some m.cls := hown
  have N0 := Fr.nil n0
  show own_Go p e below _ s₁ (mkF m 0 #[.val (.int p1)] [])
  refine own_by (fun _ k => XS.iloadN X0.here hx rfl (hb hby d2_0) rfl k) ?_
  show own_Go p e below _ s₁ (mkF m 1 #[.val (.int p1)] [(.int p1)])
  refine own_by (fun _ k => XS.sipush X0.here hx rfl (hb hby d2_1) k) ?_
  show own_Go p e below _ s₁ (mkF m 4 #[.val (.int p1)] [(.int (10000 : Int32)), (.int p1)])
  refine own_by (fun _ k => XS.idiv X0.here hx rfl (hb hby d2_4) rfl (by decide) k) ?_
  show own_Go p e below _ s₁ (mkF m 5 #[.val (.int p1)] [(.int (p1 / (10000 : Int32)))])
  exact own_retI X0 hx hlk hret  (hb hby d2_5) (by first | exact ⟨rfl, N0, rfl⟩ | (rw [e0]; exact ⟨rfl, N0, rfl⟩)) (by decide) (by decide)
def Q_rm3 (Z : State) (p1 : Int32) (h0 : Heap) (n0 : Nat) (v : Option Value) (h : Heap) (L : List Loc) : Prop := v = some (.int (p1 / 100 % 100)) ∧ Fr n0 L ∧ h = h0
theorem pn_rm3 : plainFor (⟨"com/example/vestwright/vestwright/input/PackedDate", "month", "(I)I"⟩ : MethodName) = true := plainFor_of_name (by first | (simp [plainName, overriddenIn, x]; done) | decide +kernel)
theorem d3_0 : decode prog_61_method_6_code 0 = .ok (.iload_n 0, 1) := by decide +kernel
theorem d3_1 : decode prog_61_method_6_code 1 = .ok (.bipush 100, 2) := by decide +kernel
theorem d3_3 : decode prog_61_method_6_code 3 = .ok (.idiv, 1) := by decide +kernel
theorem d3_4 : decode prog_61_method_6_code 4 = .ok (.bipush 100, 2) := by decide +kernel
theorem d3_6 : decode prog_61_method_6_code 6 = .ok (.irem, 1) := by decide +kernel
theorem d3_7 : decode prog_61_method_6_code 7 = .ok (.ireturn, 1) := by decide +kernel
set_option maxRecDepth 65536 in
set_option maxHeartbeats 40000000 in
theorem rm3 (l : Launch) (Z : State) (a0 : Array Value) (hw : ∀ d ∈ tables_1, d.before a0 Z = true) (ws : List Jvm.Cond) (p1 : Int32) (h0 : Heap) (n0 : Nat) (Z0 : n0 ≤ h0.size)  :
    own_Met l Z (⟨"com/example/vestwright/vestwright/input/PackedDate", "month", "(I)I"⟩ : MethodName) prog_61_method_6_code 1 (some .int) ws ({ frames := 0, cells := 0, slots := 0, locals := 0 } : Room) #[(.int p1)] h0 (Q_rm3 Z p1 h0 n0) := by
  refine own_enter (g0 := fun m => (mkF m 0 #[.val (.int p1)] [])) pn_rm3 (fun m => by first | (simp [entryFrame, mkF, argsToLocals, Value.category, maxLocals]; done) | rfl) ?_
  intro p e s m below meth c s₁ hx hby hml hown hnm hret hlk hZ X0 e0
  have hml : c.maxLocals = 1 := hml
  have hown : s.vm.findClass "com/example/vestwright/vestwright/input/PackedDate" = some m.cls := hown
  have N0 := Fr.nil n0
  show own_Go p e below _ s₁ (mkF m 0 #[.val (.int p1)] [])
  refine own_by (fun _ k => XS.iloadN X0.here hx rfl (hb hby d3_0) rfl k) ?_
  show own_Go p e below _ s₁ (mkF m 1 #[.val (.int p1)] [(.int p1)])
  refine own_by (fun _ k => XS.bipush X0.here hx rfl (hb hby d3_1) k) ?_
  show own_Go p e below _ s₁ (mkF m 3 #[.val (.int p1)] [(.int (100 : Int32)), (.int p1)])
  refine own_by (fun _ k => XS.idiv X0.here hx rfl (hb hby d3_3) rfl (by decide) k) ?_
  show own_Go p e below _ s₁ (mkF m 4 #[.val (.int p1)] [(.int (p1 / (100 : Int32)))])
  refine own_by (fun _ k => XS.bipush X0.here hx rfl (hb hby d3_4) k) ?_
  show own_Go p e below _ s₁ (mkF m 6 #[.val (.int p1)] [(.int (100 : Int32)), (.int (p1 / (100 : Int32)))])
  refine own_by (fun _ k => iremM X0 hx rfl (hb hby d3_6) rfl (by decide) k) ?_
  show own_Go p e below _ s₁ (mkF m 7 #[.val (.int p1)] [(.int ((p1 / (100 : Int32)) % (100 : Int32)))])
  exact own_retI X0 hx hlk hret  (hb hby d3_7) (by first | exact ⟨rfl, N0, rfl⟩ | (rw [e0]; exact ⟨rfl, N0, rfl⟩)) (by decide) (by decide)
def Q_rm4 (Z : State) (p1 : Int32) (h0 : Heap) (n0 : Nat) (v : Option Value) (h : Heap) (L : List Loc) : Prop := v = some (.int (p1 % 100)) ∧ Fr n0 L ∧ h = h0
theorem pn_rm4 : plainFor (⟨"com/example/vestwright/vestwright/input/PackedDate", "day", "(I)I"⟩ : MethodName) = true := plainFor_of_name (by first | (simp [plainName, overriddenIn, x]; done) | decide +kernel)
theorem d4_0 : decode prog_61_method_7_code 0 = .ok (.iload_n 0, 1) := by decide +kernel
theorem d4_1 : decode prog_61_method_7_code 1 = .ok (.bipush 100, 2) := by decide +kernel
theorem d4_3 : decode prog_61_method_7_code 3 = .ok (.irem, 1) := by decide +kernel
theorem d4_4 : decode prog_61_method_7_code 4 = .ok (.ireturn, 1) := by decide +kernel
set_option maxRecDepth 65536 in
set_option maxHeartbeats 40000000 in
theorem rm4 (l : Launch) (Z : State) (a0 : Array Value) (hw : ∀ d ∈ tables_1, d.before a0 Z = true) (ws : List Jvm.Cond) (p1 : Int32) (h0 : Heap) (n0 : Nat) (Z0 : n0 ≤ h0.size)  :
    own_Met l Z (⟨"com/example/vestwright/vestwright/input/PackedDate", "day", "(I)I"⟩ : MethodName) prog_61_method_7_code 1 (some .int) ws ({ frames := 0, cells := 0, slots := 0, locals := 0 } : Room) #[(.int p1)] h0 (Q_rm4 Z p1 h0 n0) := by
  refine own_enter (g0 := fun m => (mkF m 0 #[.val (.int p1)] [])) pn_rm4 (fun m => by first | (simp [entryFrame, mkF, argsToLocals, Value.category, maxLocals]; done) | rfl) ?_
  intro p e s m below meth c s₁ hx hby hml hown hnm hret hlk hZ X0 e0
  have hml : c.maxLocals = 1 := hml
  have hown : s.vm.findClass "com/example/vestwright/vestwright/input/PackedDate" = some m.cls := hown
  have N0 := Fr.nil n0
  show own_Go p e below _ s₁ (mkF m 0 #[.val (.int p1)] [])
  refine own_by (fun _ k => XS.iloadN X0.here hx rfl (hb hby d4_0) rfl k) ?_
  show own_Go p e below _ s₁ (mkF m 1 #[.val (.int p1)] [(.int p1)])
  refine own_by (fun _ k => XS.bipush X0.here hx rfl (hb hby d4_1) k) ?_
  show own_Go p e below _ s₁ (mkF m 3 #[.val (.int p1)] [(.int (100 : Int32)), (.int p1)])
  refine own_by (fun _ k => iremM X0 hx rfl (hb hby d4_3) rfl (by decide) k) ?_
  show own_Go p e below _ s₁ (mkF m 4 #[.val (.int p1)] [(.int (p1 % (100 : Int32)))])
  exact own_retI X0 hx hlk hret  (hb hby d4_4) (by first | exact ⟨rfl, N0, rfl⟩ | (rw [e0]; exact ⟨rfl, N0, rfl⟩)) (by decide) (by decide)
def Q_rm5 (Z : State) (p1 p2 : Int32) (h0 : Heap) (n0 : Nat) (v : Option Value) (h : Heap) (L : List Loc) : Prop := v = some (.int (own_sign p1 p2)) ∧ Fr n0 L ∧ h = h0
theorem pn_rm5 : plainFor (⟨"com/example/vestwright/vestwright/input/PackedDateOfPinLaw", "sign", "(II)I"⟩ : MethodName) = true := plainFor_of_name (by first | (simp [plainName, overriddenIn, x]; done) | decide +kernel)
theorem d5_0 : decode method_2_code 0 = .ok (.iload_n 0, 1) := by decide +kernel
theorem d5_1 : decode method_2_code 1 = .ok (.iload_n 1, 1) := by decide +kernel
theorem d5_2 : decode method_2_code 2 = .ok (.if_icmp .ge 5, 3) := by decide +kernel
theorem d5_5 : decode method_2_code 5 = .ok (.iconst (-1), 1) := by decide +kernel
theorem d5_6 : decode method_2_code 6 = .ok (.ireturn, 1) := by decide +kernel
theorem d5_7 : decode method_2_code 7 = .ok (.iload_n 0, 1) := by decide +kernel
theorem d5_8 : decode method_2_code 8 = .ok (.iload_n 1, 1) := by decide +kernel
theorem d5_9 : decode method_2_code 9 = .ok (.if_icmp .ne 5, 3) := by decide +kernel
theorem d5_12 : decode method_2_code 12 = .ok (.iconst 0, 1) := by decide +kernel
theorem d5_13 : decode method_2_code 13 = .ok (.ireturn, 1) := by decide +kernel
theorem d5_14 : decode method_2_code 14 = .ok (.iconst 1, 1) := by decide +kernel
theorem d5_15 : decode method_2_code 15 = .ok (.ireturn, 1) := by decide +kernel
set_option maxRecDepth 65536 in
set_option maxHeartbeats 40000000 in
theorem rm5 (l : Launch) (Z : State) (a0 : Array Value) (hw : ∀ d ∈ tables_1, d.before a0 Z = true) (ws : List Jvm.Cond) (p1 p2 : Int32) (h0 : Heap) (n0 : Nat) (Z0 : n0 ≤ h0.size)  :
    own_Met l Z (⟨"com/example/vestwright/vestwright/input/PackedDateOfPinLaw", "sign", "(II)I"⟩ : MethodName) method_2_code 2 (some .int) ws ({ frames := 0, cells := 0, slots := 0, locals := 0 } : Room) #[(.int p1), (.int p2)] h0 (Q_rm5 Z p1 p2 h0 n0) := by
  refine own_enter (g0 := fun m => (mkF m 0 #[.val (.int p1), .val (.int p2)] [])) pn_rm5 (fun m => by first | (simp [entryFrame, mkF, argsToLocals, Value.category, maxLocals]; done) | rfl) ?_
  intro p e s m below meth c s₁ hx hby hml hown hnm hret hlk hZ X0 e0
  have hml : c.maxLocals = 2 := hml
  have hown : s.vm.findClass "com/example/vestwright/vestwright/input/PackedDateOfPinLaw" = some m.cls := hown
  have N0 := Fr.nil n0
  show own_Go p e below _ s₁ (mkF m 0 #[.val (.int p1), .val (.int p2)] [])
  refine own_by (fun _ k => XS.iloadN X0.here hx rfl (hb hby d5_0) rfl k) ?_
  show own_Go p e below _ s₁ (mkF m 1 #[.val (.int p1), .val (.int p2)] [(.int p1)])
  refine own_by (fun _ k => XS.iloadN X0.here hx rfl (hb hby d5_1) rfl k) ?_
  show own_Go p e below _ s₁ (mkF m 2 #[.val (.int p1), .val (.int p2)] [(.int p2), (.int p1)])
  by_cases h1 : p1 < p2
  · refine own_by (fun _ k => XS.icmpNo X0.here hx rfl (hb hby d5_2) rfl (tlt (h1 : p1 < p2)).2.1 k) ?_
    show own_Go p e below _ s₁ (mkF m 5 #[.val (.int p1), .val (.int p2)] [])
    refine own_by (fun _ k => XS.iconst X0.here hx rfl (hb hby d5_5) k) ?_
    show own_Go p e below _ s₁ (mkF m 6 #[.val (.int p1), .val (.int p2)] [(.int (-1 : Int32))])
    exact own_retI X0 hx hlk hret  (hb hby d5_6) (by first | exact ⟨by simp only [own_sign, if_pos h1], N0, rfl⟩ | (rw [e0]; exact ⟨by simp only [own_sign, if_pos h1], N0, rfl⟩)) (by decide) (by decide)
  · refine own_by (fun _ k => XS.icmpYes X0.here hx rfl (pc0 := 2) (pc' := 7) rfl (hb hby d5_2) rfl (flt (h1 : ¬ (p1 < p2))).2.1 (by decide) (by decide) k) ?_
    show own_Go p e below _ s₁ (mkF m 7 #[.val (.int p1), .val (.int p2)] [])
    refine own_by (fun _ k => XS.iloadN X0.here hx rfl (hb hby d5_7) rfl k) ?_
    show own_Go p e below _ s₁ (mkF m 8 #[.val (.int p1), .val (.int p2)] [(.int p1)])
    refine own_by (fun _ k => XS.iloadN X0.here hx rfl (hb hby d5_8) rfl k) ?_
    show own_Go p e below _ s₁ (mkF m 9 #[.val (.int p1), .val (.int p2)] [(.int p2), (.int p1)])
    by_cases h2 : p1 = p2
    · refine own_by (fun _ k => XS.icmpNo X0.here hx rfl (hb hby d5_9) rfl (teq (h2 : p1 = p2)).2 k) ?_
      show own_Go p e below _ s₁ (mkF m 12 #[.val (.int p1), .val (.int p2)] [])
      refine own_by (fun _ k => XS.iconst X0.here hx rfl (hb hby d5_12) k) ?_
      show own_Go p e below _ s₁ (mkF m 13 #[.val (.int p1), .val (.int p2)] [(.int (0 : Int32))])
      exact own_retI X0 hx hlk hret  (hb hby d5_13) (by first | exact ⟨by simp only [own_sign, if_neg h1, if_pos h2], N0, rfl⟩ | (rw [e0]; exact ⟨by simp only [own_sign, if_neg h1, if_pos h2], N0, rfl⟩)) (by decide) (by decide)
    · refine own_by (fun _ k => XS.icmpYes X0.here hx rfl (pc0 := 9) (pc' := 14) rfl (hb hby d5_9) rfl (feq (h2 : ¬ (p1 = p2))).2 (by decide) (by decide) k) ?_
      show own_Go p e below _ s₁ (mkF m 14 #[.val (.int p1), .val (.int p2)] [])
      refine own_by (fun _ k => XS.iconst X0.here hx rfl (hb hby d5_14) k) ?_
      show own_Go p e below _ s₁ (mkF m 15 #[.val (.int p1), .val (.int p2)] [(.int (1 : Int32))])
      exact own_retI X0 hx hlk hret  (hb hby d5_15) (by first | exact ⟨by simp only [own_sign, if_neg h1, if_neg h2], N0, rfl⟩ | (rw [e0]; exact ⟨by simp only [own_sign, if_neg h1, if_neg h2], N0, rfl⟩)) (by decide) (by decide)
def Q_rm0 (Z : State) (p1 p2 p3 p4 p5 p6 : Int32) (h0 : Heap) (n0 : Nat) (v : Option Value) (h : Heap) (L : List Loc) : Prop := v = some (.int 1) ∧ Fr n0 L
theorem pn_rm0 : plainFor x = true := plainFor_of_name (by first | (simp [plainName, overriddenIn, x]; done) | decide +kernel)
theorem pd_0 : parseMethodDescriptor "(III)I" = some ⟨[.int, .int, .int], some .int⟩ := by decide +kernel
theorem pd_1 : parseMethodDescriptor "(I)I" = some ⟨[.int], some .int⟩ := by decide +kernel
theorem pd_2 : parseMethodDescriptor "(II)I" = some ⟨[.int, .int], some .int⟩ := by decide +kernel
set_option maxRecDepth 65536 in
set_option maxHeartbeats 40000000 in
theorem rm0 (l : Launch) (Z : State) (a0 : Array Value) (hw : ∀ d ∈ tables_1, d.before a0 Z = true) (ws : List Jvm.Cond) (p1 p2 p3 p4 p5 p6 : Int32) (h0 : Heap) (n0 : Nat) (Z0 : n0 ≤ h0.size)  :
    own_Met l Z x code maxLocals ret ws room_1 #[(.int p1), (.int p2), (.int p3), (.int p4), (.int p5), (.int p6)] h0 (Q_rm0 Z p1 p2 p3 p4 p5 p6 h0 n0) := by
  refine own_enter (g0 := fun m => (mkF m 0 #[.val (.int p1), .val (.int p2), .val (.int p3), .val (.int p4), .val (.int p5), .val (.int p6), .unset, .unset, .unset, .unset, .unset, .unset, .unset, .unset, .unset, .unset, .unset, .unset] [])) pn_rm0 (fun m => by first | (simp [entryFrame, mkF, argsToLocals, Value.category, maxLocals]; done) | rfl) ?_
  intro p e s m below meth c s₁ hx hby hml hown hnm hret hlk hZ X0 e0
  have hml : c.maxLocals = 18 := hml
  have hown : s.vm.findClass "com/example/vestwright/vestwright/input/PackedDateOfPinLaw" = some m.cls := hown
  have N0 := Fr.nil n0
  show own_Go p e below _ s₁ (mkF m 0 #[.val (.int p1), .val (.int p2), .val (.int p3), .val (.int p4), .val (.int p5), .val (.int p6), .unset, .unset, .unset, .unset, .unset, .unset, .unset, .unset, .unset, .unset, .unset, .unset] [])
  refine own_by (fun _ k => XS.iloadN X0.here hx rfl (hb hby at_0) rfl k) ?_
  show own_Go p e below _ s₁ (mkF m 1 #[.val (.int p1), .val (.int p2), .val (.int p3), .val (.int p4), .val (.int p5), .val (.int p6), .unset, .unset, .unset, .unset, .unset, .unset, .unset, .unset, .unset, .unset, .unset, .unset] [(.int p1)])
  refine own_by (fun _ k => Stand.ldcI X0 hx hown (mvT hZ (hw _ (List.mem_of_getElem? (i := 0) rfl))) rfl (hb hby at_1) k) ?_
  show own_Go p e below _ s₁ (mkF m 3 #[.val (.int p1), .val (.int p2), .val (.int p3), .val (.int p4), .val (.int p5), .val (.int p6), .unset, .unset, .unset, .unset, .unset, .unset, .unset, .unset, .unset, .unset, .unset, .unset] [(.int (2147483647 : Int32)), (.int p1)])
  refine own_by (fun _ k => XS.iand X0.here hx rfl (hb hby at_3) rfl k) ?_
  show own_Go p e below _ s₁ (mkF m 4 #[.val (.int p1), .val (.int p2), .val (.int p3), .val (.int p4), .val (.int p5), .val (.int p6), .unset, .unset, .unset, .unset, .unset, .unset, .unset, .unset, .unset, .unset, .unset, .unset] [(.int (p1 &&& (2147483647 : Int32)))])
  refine own_by (fun _ k => XS.sipush X0.here hx rfl (hb hby at_4) k) ?_
  show own_Go p e below _ s₁ (mkF m 7 #[.val (.int p1), .val (.int p2), .val (.int p3), .val (.int p4), .val (.int p5), .val (.int p6), .unset, .unset, .unset, .unset, .unset, .unset, .unset, .unset, .unset, .unset, .unset, .unset] [(.int (10000 : Int32)), (.int (p1 &&& (2147483647 : Int32)))])
  refine own_by (fun _ k => iremM X0 hx rfl (hb hby at_7) rfl (by decide) k) ?_
  show own_Go p e below _ s₁ (mkF m 8 #[.val (.int p1), .val (.int p2), .val (.int p3), .val (.int p4), .val (.int p5), .val (.int p6), .unset, .unset, .unset, .unset, .unset, .unset, .unset, .unset, .unset, .unset, .unset, .unset] [(.int ((p1 &&& (2147483647 : Int32)) % (10000 : Int32)))])
  refine own_by (fun _ k => XS.istore X0.here hx rfl (hb hby at_8) rfl (l' := #[.val (.int p1), .val (.int p2), .val (.int p3), .val (.int p4), .val (.int p5), .val (.int p6), .val (.int ((p1 &&& (2147483647 : Int32)) % (10000 : Int32))), .unset, .unset, .unset, .unset, .unset, .unset, .unset, .unset, .unset, .unset, .unset]) rfl k) ?_
  show own_Go p e below _ s₁ (mkF m 10 #[.val (.int p1), .val (.int p2), .val (.int p3), .val (.int p4), .val (.int p5), .val (.int p6), .val (.int ((p1 &&& (2147483647 : Int32)) % (10000 : Int32))), .unset, .unset, .unset, .unset, .unset, .unset, .unset, .unset, .unset, .unset, .unset] [])
  obtain ⟨ya, hya⟩ : ∃ z, z = ((p1 &&& (2147483647 : Int32)) % (10000 : Int32)) := ⟨_, rfl⟩
  rw [← hya]
  show own_Go p e below _ s₁ (mkF m 10 #[.val (.int p1), .val (.int p2), .val (.int p3), .val (.int p4), .val (.int p5), .val (.int p6), .val (.int ya), .unset, .unset, .unset, .unset, .unset, .unset, .unset, .unset, .unset, .unset, .unset] [])
  refine own_by (fun _ k => XS.iloadN X0.here hx rfl (hb hby at_10) rfl k) ?_
  show own_Go p e below _ s₁ (mkF m 11 #[.val (.int p1), .val (.int p2), .val (.int p3), .val (.int p4), .val (.int p5), .val (.int p6), .val (.int ya), .unset, .unset, .unset, .unset, .unset, .unset, .unset, .unset, .unset, .unset, .unset] [(.int p2)])
  refine own_by (fun _ k => Stand.ldcI X0 hx hown (mvT hZ (hw _ (List.mem_of_getElem? (i := 0) rfl))) rfl (hb hby at_11) k) ?_
  show own_Go p e below _ s₁ (mkF m 13 #[.val (.int p1), .val (.int p2), .val (.int p3), .val (.int p4), .val (.int p5), .val (.int p6), .val (.int ya), .unset, .unset, .unset, .unset, .unset, .unset, .unset, .unset, .unset, .unset, .unset] [(.int (2147483647 : Int32)), (.int p2)])
  refine own_by (fun _ k => XS.iand X0.here hx rfl (hb hby at_13) rfl k) ?_
  show own_Go p e below _ s₁ (mkF m 14 #[.val (.int p1), .val (.int p2), .val (.int p3), .val (.int p4), .val (.int p5), .val (.int p6), .val (.int ya), .unset, .unset, .unset, .unset, .unset, .unset, .unset, .unset, .unset, .unset, .unset] [(.int (p2 &&& (2147483647 : Int32)))])
  refine own_by (fun _ k => XS.bipush X0.here hx rfl (hb hby at_14) k) ?_
  show own_Go p e below _ s₁ (mkF m 16 #[.val (.int p1), .val (.int p2), .val (.int p3), .val (.int p4), .val (.int p5), .val (.int p6), .val (.int ya), .unset, .unset, .unset, .unset, .unset, .unset, .unset, .unset, .unset, .unset, .unset] [(.int (12 : Int32)), (.int (p2 &&& (2147483647 : Int32)))])
  refine own_by (fun _ k => iremM X0 hx rfl (hb hby at_16) rfl (by decide) k) ?_
  show own_Go p e below _ s₁ (mkF m 17 #[.val (.int p1), .val (.int p2), .val (.int p3), .val (.int p4), .val (.int p5), .val (.int p6), .val (.int ya), .unset, .unset, .unset, .unset, .unset, .unset, .unset, .unset, .unset, .unset, .unset] [(.int ((p2 &&& (2147483647 : Int32)) % (12 : Int32)))])
  refine own_by (fun _ k => XS.iconst X0.here hx rfl (hb hby at_17) k) ?_
  show own_Go p e below _ s₁ (mkF m 18 #[.val (.int p1), .val (.int p2), .val (.int p3), .val (.int p4), .val (.int p5), .val (.int p6), .val (.int ya), .unset, .unset, .unset, .unset, .unset, .unset, .unset, .unset, .unset, .unset, .unset] [(.int (1 : Int32)), (.int ((p2 &&& (2147483647 : Int32)) % (12 : Int32)))])
  refine own_by (fun _ k => XS.iadd X0.here hx rfl (hb hby at_18) rfl k) ?_
  show own_Go p e below _ s₁ (mkF m 19 #[.val (.int p1), .val (.int p2), .val (.int p3), .val (.int p4), .val (.int p5), .val (.int p6), .val (.int ya), .unset, .unset, .unset, .unset, .unset, .unset, .unset, .unset, .unset, .unset, .unset] [(.int (((p2 &&& (2147483647 : Int32)) % (12 : Int32)) + (1 : Int32)))])
  refine own_by (fun _ k => XS.istore X0.here hx rfl (hb hby at_19) rfl (l' := #[.val (.int p1), .val (.int p2), .val (.int p3), .val (.int p4), .val (.int p5), .val (.int p6), .val (.int ya), .val (.int (((p2 &&& (2147483647 : Int32)) % (12 : Int32)) + (1 : Int32))), .unset, .unset, .unset, .unset, .unset, .unset, .unset, .unset, .unset, .unset]) rfl k) ?_
  show own_Go p e below _ s₁ (mkF m 21 #[.val (.int p1), .val (.int p2), .val (.int p3), .val (.int p4), .val (.int p5), .val (.int p6), .val (.int ya), .val (.int (((p2 &&& (2147483647 : Int32)) % (12 : Int32)) + (1 : Int32))), .unset, .unset, .unset, .unset, .unset, .unset, .unset, .unset, .unset, .unset] [])
  obtain ⟨ma, hma⟩ : ∃ z, z = (((p2 &&& (2147483647 : Int32)) % (12 : Int32)) + (1 : Int32)) := ⟨_, rfl⟩
  rw [← hma]
  show own_Go p e below _ s₁ (mkF m 21 #[.val (.int p1), .val (.int p2), .val (.int p3), .val (.int p4), .val (.int p5), .val (.int p6), .val (.int ya), .val (.int ma), .unset, .unset, .unset, .unset, .unset, .unset, .unset, .unset, .unset, .unset] [])
  refine own_by (fun _ k => XS.iloadN X0.here hx rfl (hb hby at_21) rfl k) ?_
  show own_Go p e below _ s₁ (mkF m 22 #[.val (.int p1), .val (.int p2), .val (.int p3), .val (.int p4), .val (.int p5), .val (.int p6), .val (.int ya), .val (.int ma), .unset, .unset, .unset, .unset, .unset, .unset, .unset, .unset, .unset, .unset] [(.int p3)])
  refine own_by (fun _ k => Stand.ldcI X0 hx hown (mvT hZ (hw _ (List.mem_of_getElem? (i := 0) rfl))) rfl (hb hby at_22) k) ?_
  show own_Go p e below _ s₁ (mkF m 24 #[.val (.int p1), .val (.int p2), .val (.int p3), .val (.int p4), .val (.int p5), .val (.int p6), .val (.int ya), .val (.int ma), .unset, .unset, .unset, .unset, .unset, .unset, .unset, .unset, .unset, .unset] [(.int (2147483647 : Int32)), (.int p3)])
  refine own_by (fun _ k => XS.iand X0.here hx rfl (hb hby at_24) rfl k) ?_
  show own_Go p e below _ s₁ (mkF m 25 #[.val (.int p1), .val (.int p2), .val (.int p3), .val (.int p4), .val (.int p5), .val (.int p6), .val (.int ya), .val (.int ma), .unset, .unset, .unset, .unset, .unset, .unset, .unset, .unset, .unset, .unset] [(.int (p3 &&& (2147483647 : Int32)))])
  refine own_by (fun _ k => XS.bipush X0.here hx rfl (hb hby at_25) k) ?_
  show own_Go p e below _ s₁ (mkF m 27 #[.val (.int p1), .val (.int p2), .val (.int p3), .val (.int p4), .val (.int p5), .val (.int p6), .val (.int ya), .val (.int ma), .unset, .unset, .unset, .unset, .unset, .unset, .unset, .unset, .unset, .unset] [(.int (31 : Int32)), (.int (p3 &&& (2147483647 : Int32)))])
  refine own_by (fun _ k => iremM X0 hx rfl (hb hby at_27) rfl (by decide) k) ?_
  show own_Go p e below _ s₁ (mkF m 28 #[.val (.int p1), .val (.int p2), .val (.int p3), .val (.int p4), .val (.int p5), .val (.int p6), .val (.int ya), .val (.int ma), .unset, .unset, .unset, .unset, .unset, .unset, .unset, .unset, .unset, .unset] [(.int ((p3 &&& (2147483647 : Int32)) % (31 : Int32)))])
  refine own_by (fun _ k => XS.iconst X0.here hx rfl (hb hby at_28) k) ?_
  show own_Go p e below _ s₁ (mkF m 29 #[.val (.int p1), .val (.int p2), .val (.int p3), .val (.int p4), .val (.int p5), .val (.int p6), .val (.int ya), .val (.int ma), .unset, .unset, .unset, .unset, .unset, .unset, .unset, .unset, .unset, .unset] [(.int (1 : Int32)), (.int ((p3 &&& (2147483647 : Int32)) % (31 : Int32)))])
  refine own_by (fun _ k => XS.iadd X0.here hx rfl (hb hby at_29) rfl k) ?_
  show own_Go p e below _ s₁ (mkF m 30 #[.val (.int p1), .val (.int p2), .val (.int p3), .val (.int p4), .val (.int p5), .val (.int p6), .val (.int ya), .val (.int ma), .unset, .unset, .unset, .unset, .unset, .unset, .unset, .unset, .unset, .unset] [(.int (((p3 &&& (2147483647 : Int32)) % (31 : Int32)) + (1 : Int32)))])
  refine own_by (fun _ k => XS.istore X0.here hx rfl (hb hby at_30) rfl (l' := #[.val (.int p1), .val (.int p2), .val (.int p3), .val (.int p4), .val (.int p5), .val (.int p6), .val (.int ya), .val (.int ma), .val (.int (((p3 &&& (2147483647 : Int32)) % (31 : Int32)) + (1 : Int32))), .unset, .unset, .unset, .unset, .unset, .unset, .unset, .unset, .unset]) rfl k) ?_
  show own_Go p e below _ s₁ (mkF m 32 #[.val (.int p1), .val (.int p2), .val (.int p3), .val (.int p4), .val (.int p5), .val (.int p6), .val (.int ya), .val (.int ma), .val (.int (((p3 &&& (2147483647 : Int32)) % (31 : Int32)) + (1 : Int32))), .unset, .unset, .unset, .unset, .unset, .unset, .unset, .unset, .unset] [])
  obtain ⟨da, hda⟩ : ∃ z, z = (((p3 &&& (2147483647 : Int32)) % (31 : Int32)) + (1 : Int32)) := ⟨_, rfl⟩
  rw [← hda]
  show own_Go p e below _ s₁ (mkF m 32 #[.val (.int p1), .val (.int p2), .val (.int p3), .val (.int p4), .val (.int p5), .val (.int p6), .val (.int ya), .val (.int ma), .val (.int da), .unset, .unset, .unset, .unset, .unset, .unset, .unset, .unset, .unset] [])
  refine own_by (fun _ k => XS.iloadN X0.here hx rfl (hb hby at_32) rfl k) ?_
  show own_Go p e below _ s₁ (mkF m 33 #[.val (.int p1), .val (.int p2), .val (.int p3), .val (.int p4), .val (.int p5), .val (.int p6), .val (.int ya), .val (.int ma), .val (.int da), .unset, .unset, .unset, .unset, .unset, .unset, .unset, .unset, .unset] [(.int p4)])
  refine own_by (fun _ k => Stand.ldcI X0 hx hown (mvT hZ (hw _ (List.mem_of_getElem? (i := 0) rfl))) rfl (hb hby at_33) k) ?_
  show own_Go p e below _ s₁ (mkF m 35 #[.val (.int p1), .val (.int p2), .val (.int p3), .val (.int p4), .val (.int p5), .val (.int p6), .val (.int ya), .val (.int ma), .val (.int da), .unset, .unset, .unset, .unset, .unset, .unset, .unset, .unset, .unset] [(.int (2147483647 : Int32)), (.int p4)])
  refine own_by (fun _ k => XS.iand X0.here hx rfl (hb hby at_35) rfl k) ?_
  show own_Go p e below _ s₁ (mkF m 36 #[.val (.int p1), .val (.int p2), .val (.int p3), .val (.int p4), .val (.int p5), .val (.int p6), .val (.int ya), .val (.int ma), .val (.int da), .unset, .unset, .unset, .unset, .unset, .unset, .unset, .unset, .unset] [(.int (p4 &&& (2147483647 : Int32)))])
  refine own_by (fun _ k => XS.sipush X0.here hx rfl (hb hby at_36) k) ?_
  show own_Go p e below _ s₁ (mkF m 39 #[.val (.int p1), .val (.int p2), .val (.int p3), .val (.int p4), .val (.int p5), .val (.int p6), .val (.int ya), .val (.int ma), .val (.int da), .unset, .unset, .unset, .unset, .unset, .unset, .unset, .unset, .unset] [(.int (10000 : Int32)), (.int (p4 &&& (2147483647 : Int32)))])
  refine own_by (fun _ k => iremM X0 hx rfl (hb hby at_39) rfl (by decide) k) ?_
  show own_Go p e below _ s₁ (mkF m 40 #[.val (.int p1), .val (.int p2), .val (.int p3), .val (.int p4), .val (.int p5), .val (.int p6), .val (.int ya), .val (.int ma), .val (.int da), .unset, .unset, .unset, .unset, .unset, .unset, .unset, .unset, .unset] [(.int ((p4 &&& (2147483647 : Int32)) % (10000 : Int32)))])
  refine own_by (fun _ k => XS.istore X0.here hx rfl (hb hby at_40) rfl (l' := #[.val (.int p1), .val (.int p2), .val (.int p3), .val (.int p4), .val (.int p5), .val (.int p6), .val (.int ya), .val (.int ma), .val (.int da), .val (.int ((p4 &&& (2147483647 : Int32)) % (10000 : Int32))), .unset, .unset, .unset, .unset, .unset, .unset, .unset, .unset]) rfl k) ?_
  show own_Go p e below _ s₁ (mkF m 42 #[.val (.int p1), .val (.int p2), .val (.int p3), .val (.int p4), .val (.int p5), .val (.int p6), .val (.int ya), .val (.int ma), .val (.int da), .val (.int ((p4 &&& (2147483647 : Int32)) % (10000 : Int32))), .unset, .unset, .unset, .unset, .unset, .unset, .unset, .unset] [])
  obtain ⟨yb, hyb⟩ : ∃ z, z = ((p4 &&& (2147483647 : Int32)) % (10000 : Int32)) := ⟨_, rfl⟩
  rw [← hyb]
  show own_Go p e below _ s₁ (mkF m 42 #[.val (.int p1), .val (.int p2), .val (.int p3), .val (.int p4), .val (.int p5), .val (.int p6), .val (.int ya), .val (.int ma), .val (.int da), .val (.int yb), .unset, .unset, .unset, .unset, .unset, .unset, .unset, .unset] [])
  refine own_by (fun _ k => XS.iload X0.here hx rfl (hb hby at_42) rfl k) ?_
  show own_Go p e below _ s₁ (mkF m 44 #[.val (.int p1), .val (.int p2), .val (.int p3), .val (.int p4), .val (.int p5), .val (.int p6), .val (.int ya), .val (.int ma), .val (.int da), .val (.int yb), .unset, .unset, .unset, .unset, .unset, .unset, .unset, .unset] [(.int p5)])
  refine own_by (fun _ k => Stand.ldcI X0 hx hown (mvT hZ (hw _ (List.mem_of_getElem? (i := 0) rfl))) rfl (hb hby at_44) k) ?_
  show own_Go p e below _ s₁ (mkF m 46 #[.val (.int p1), .val (.int p2), .val (.int p3), .val (.int p4), .val (.int p5), .val (.int p6), .val (.int ya), .val (.int ma), .val (.int da), .val (.int yb), .unset, .unset, .unset, .unset, .unset, .unset, .unset, .unset] [(.int (2147483647 : Int32)), (.int p5)])
  refine own_by (fun _ k => XS.iand X0.here hx rfl (hb hby at_46) rfl k) ?_
  show own_Go p e below _ s₁ (mkF m 47 #[.val (.int p1), .val (.int p2), .val (.int p3), .val (.int p4), .val (.int p5), .val (.int p6), .val (.int ya), .val (.int ma), .val (.int da), .val (.int yb), .unset, .unset, .unset, .unset, .unset, .unset, .unset, .unset] [(.int (p5 &&& (2147483647 : Int32)))])
  refine own_by (fun _ k => XS.bipush X0.here hx rfl (hb hby at_47) k) ?_
  show own_Go p e below _ s₁ (mkF m 49 #[.val (.int p1), .val (.int p2), .val (.int p3), .val (.int p4), .val (.int p5), .val (.int p6), .val (.int ya), .val (.int ma), .val (.int da), .val (.int yb), .unset, .unset, .unset, .unset, .unset, .unset, .unset, .unset] [(.int (12 : Int32)), (.int (p5 &&& (2147483647 : Int32)))])
  refine own_by (fun _ k => iremM X0 hx rfl (hb hby at_49) rfl (by decide) k) ?_
  show own_Go p e below _ s₁ (mkF m 50 #[.val (.int p1), .val (.int p2), .val (.int p3), .val (.int p4), .val (.int p5), .val (.int p6), .val (.int ya), .val (.int ma), .val (.int da), .val (.int yb), .unset, .unset, .unset, .unset, .unset, .unset, .unset, .unset] [(.int ((p5 &&& (2147483647 : Int32)) % (12 : Int32)))])
  refine own_by (fun _ k => XS.iconst X0.here hx rfl (hb hby at_50) k) ?_
  show own_Go p e below _ s₁ (mkF m 51 #[.val (.int p1), .val (.int p2), .val (.int p3), .val (.int p4), .val (.int p5), .val (.int p6), .val (.int ya), .val (.int ma), .val (.int da), .val (.int yb), .unset, .unset, .unset, .unset, .unset, .unset, .unset, .unset] [(.int (1 : Int32)), (.int ((p5 &&& (2147483647 : Int32)) % (12 : Int32)))])
  refine own_by (fun _ k => XS.iadd X0.here hx rfl (hb hby at_51) rfl k) ?_
  show own_Go p e below _ s₁ (mkF m 52 #[.val (.int p1), .val (.int p2), .val (.int p3), .val (.int p4), .val (.int p5), .val (.int p6), .val (.int ya), .val (.int ma), .val (.int da), .val (.int yb), .unset, .unset, .unset, .unset, .unset, .unset, .unset, .unset] [(.int (((p5 &&& (2147483647 : Int32)) % (12 : Int32)) + (1 : Int32)))])
  refine own_by (fun _ k => XS.istore X0.here hx rfl (hb hby at_52) rfl (l' := #[.val (.int p1), .val (.int p2), .val (.int p3), .val (.int p4), .val (.int p5), .val (.int p6), .val (.int ya), .val (.int ma), .val (.int da), .val (.int yb), .val (.int (((p5 &&& (2147483647 : Int32)) % (12 : Int32)) + (1 : Int32))), .unset, .unset, .unset, .unset, .unset, .unset, .unset]) rfl k) ?_
  show own_Go p e below _ s₁ (mkF m 54 #[.val (.int p1), .val (.int p2), .val (.int p3), .val (.int p4), .val (.int p5), .val (.int p6), .val (.int ya), .val (.int ma), .val (.int da), .val (.int yb), .val (.int (((p5 &&& (2147483647 : Int32)) % (12 : Int32)) + (1 : Int32))), .unset, .unset, .unset, .unset, .unset, .unset, .unset] [])
  obtain ⟨mb, hmb⟩ : ∃ z, z = (((p5 &&& (2147483647 : Int32)) % (12 : Int32)) + (1 : Int32)) := ⟨_, rfl⟩
  rw [← hmb]
  show own_Go p e below _ s₁ (mkF m 54 #[.val (.int p1), .val (.int p2), .val (.int p3), .val (.int p4), .val (.int p5), .val (.int p6), .val (.int ya), .val (.int ma), .val (.int da), .val (.int yb), .val (.int mb), .unset, .unset, .unset, .unset, .unset, .unset, .unset] [])
  refine own_by (fun _ k => XS.iload X0.here hx rfl (hb hby at_54) rfl k) ?_
  show own_Go p e below _ s₁ (mkF m 56 #[.val (.int p1), .val (.int p2), .val (.int p3), .val (.int p4), .val (.int p5), .val (.int p6), .val (.int ya), .val (.int ma), .val (.int da), .val (.int yb), .val (.int mb), .unset, .unset, .unset, .unset, .unset, .unset, .unset] [(.int p6)])
  refine own_by (fun _ k => Stand.ldcI X0 hx hown (mvT hZ (hw _ (List.mem_of_getElem? (i := 0) rfl))) rfl (hb hby at_56) k) ?_
  show own_Go p e below _ s₁ (mkF m 58 #[.val (.int p1), .val (.int p2), .val (.int p3), .val (.int p4), .val (.int p5), .val (.int p6), .val (.int ya), .val (.int ma), .val (.int da), .val (.int yb), .val (.int mb), .unset, .unset, .unset, .unset, .unset, .unset, .unset] [(.int (2147483647 : Int32)), (.int p6)])
  refine own_by (fun _ k => XS.iand X0.here hx rfl (hb hby at_58) rfl k) ?_
  show own_Go p e below _ s₁ (mkF m 59 #[.val (.int p1), .val (.int p2), .val (.int p3), .val (.int p4), .val (.int p5), .val (.int p6), .val (.int ya), .val (.int ma), .val (.int da), .val (.int yb), .val (.int mb), .unset, .unset, .unset, .unset, .unset, .unset, .unset] [(.int (p6 &&& (2147483647 : Int32)))])
  refine own_by (fun _ k => XS.bipush X0.here hx rfl (hb hby at_59) k) ?_
  show own_Go p e below _ s₁ (mkF m 61 #[.val (.int p1), .val (.int p2), .val (.int p3), .val (.int p4), .val (.int p5), .val (.int p6), .val (.int ya), .val (.int ma), .val (.int da), .val (.int yb), .val (.int mb), .unset, .unset, .unset, .unset, .unset, .unset, .unset] [(.int (31 : Int32)), (.int (p6 &&& (2147483647 : Int32)))])
  refine own_by (fun _ k => iremM X0 hx rfl (hb hby at_61) rfl (by decide) k) ?_
  show own_Go p e below _ s₁ (mkF m 62 #[.val (.int p1), .val (.int p2), .val (.int p3), .val (.int p4), .val (.int p5), .val (.int p6), .val (.int ya), .val (.int ma), .val (.int da), .val (.int yb), .val (.int mb), .unset, .unset, .unset, .unset, .unset, .unset, .unset] [(.int ((p6 &&& (2147483647 : Int32)) % (31 : Int32)))])
  refine own_by (fun _ k => XS.iconst X0.here hx rfl (hb hby at_62) k) ?_
  show own_Go p e below _ s₁ (mkF m 63 #[.val (.int p1), .val (.int p2), .val (.int p3), .val (.int p4), .val (.int p5), .val (.int p6), .val (.int ya), .val (.int ma), .val (.int da), .val (.int yb), .val (.int mb), .unset, .unset, .unset, .unset, .unset, .unset, .unset] [(.int (1 : Int32)), (.int ((p6 &&& (2147483647 : Int32)) % (31 : Int32)))])
  refine own_by (fun _ k => XS.iadd X0.here hx rfl (hb hby at_63) rfl k) ?_
  show own_Go p e below _ s₁ (mkF m 64 #[.val (.int p1), .val (.int p2), .val (.int p3), .val (.int p4), .val (.int p5), .val (.int p6), .val (.int ya), .val (.int ma), .val (.int da), .val (.int yb), .val (.int mb), .unset, .unset, .unset, .unset, .unset, .unset, .unset] [(.int (((p6 &&& (2147483647 : Int32)) % (31 : Int32)) + (1 : Int32)))])
  refine own_by (fun _ k => XS.istore X0.here hx rfl (hb hby at_64) rfl (l' := #[.val (.int p1), .val (.int p2), .val (.int p3), .val (.int p4), .val (.int p5), .val (.int p6), .val (.int ya), .val (.int ma), .val (.int da), .val (.int yb), .val (.int mb), .val (.int (((p6 &&& (2147483647 : Int32)) % (31 : Int32)) + (1 : Int32))), .unset, .unset, .unset, .unset, .unset, .unset]) rfl k) ?_
  show own_Go p e below _ s₁ (mkF m 66 #[.val (.int p1), .val (.int p2), .val (.int p3), .val (.int p4), .val (.int p5), .val (.int p6), .val (.int ya), .val (.int ma), .val (.int da), .val (.int yb), .val (.int mb), .val (.int (((p6 &&& (2147483647 : Int32)) % (31 : Int32)) + (1 : Int32))), .unset, .unset, .unset, .unset, .unset, .unset] [])
  obtain ⟨db, hdb⟩ : ∃ z, z = (((p6 &&& (2147483647 : Int32)) % (31 : Int32)) + (1 : Int32)) := ⟨_, rfl⟩
  rw [← hdb]
  show own_Go p e below _ s₁ (mkF m 66 #[.val (.int p1), .val (.int p2), .val (.int p3), .val (.int p4), .val (.int p5), .val (.int p6), .val (.int ya), .val (.int ma), .val (.int da), .val (.int yb), .val (.int mb), .val (.int db), .unset, .unset, .unset, .unset, .unset, .unset] [])
  refine own_by (fun _ k => XS.iload X0.here hx rfl (hb hby at_66) rfl k) ?_
  show own_Go p e below _ s₁ (mkF m 68 #[.val (.int p1), .val (.int p2), .val (.int p3), .val (.int p4), .val (.int p5), .val (.int p6), .val (.int ya), .val (.int ma), .val (.int da), .val (.int yb), .val (.int mb), .val (.int db), .unset, .unset, .unset, .unset, .unset, .unset] [(.int ya)])
  refine own_by (fun _ k => XS.iload X0.here hx rfl (hb hby at_68) rfl k) ?_
  show own_Go p e below _ s₁ (mkF m 70 #[.val (.int p1), .val (.int p2), .val (.int p3), .val (.int p4), .val (.int p5), .val (.int p6), .val (.int ya), .val (.int ma), .val (.int da), .val (.int yb), .val (.int mb), .val (.int db), .unset, .unset, .unset, .unset, .unset, .unset] [(.int ma), (.int ya)])
  refine own_by (fun _ k => XS.iload X0.here hx rfl (hb hby at_70) rfl k) ?_
  show own_Go p e below _ s₁ (mkF m 72 #[.val (.int p1), .val (.int p2), .val (.int p3), .val (.int p4), .val (.int p5), .val (.int p6), .val (.int ya), .val (.int ma), .val (.int da), .val (.int yb), .val (.int mb), .val (.int db), .unset, .unset, .unset, .unset, .unset, .unset] [(.int da), (.int ma), (.int ya)])
  have ka : own_ok ya ma da := by rw [hya, hma, hda]; exact ⟨own_rg _ 10000 10000 rfl (by decide), own_rg1 _ 12 12 rfl (by decide) (by decide), own_rg1 _ 31 31 rfl (by decide) (by decide)⟩
  have kb : own_ok yb mb db := by rw [hyb, hmb, hdb]; exact ⟨own_rg _ 10000 10000 rfl (by decide), own_rg1 _ 12 12 rfl (by decide) (by decide), own_rg1 _ 31 31 rfl (by decide) (by decide)⟩
  obtain ⟨_, T101, L101, X101, ⟨rfl, N101q, e101⟩, st101⟩ := own_callS X0 hx hZ hown (y := (⟨"com/example/vestwright/vestwright/input/PackedDate", "of", "(III)I"⟩ : MethodName)) (hw _ (List.mem_of_getElem? (i := 1) rfl)) (hw _ (List.mem_of_getElem? (i := 2) rfl)) (hw _ (List.mem_of_getElem? (i := 3) rfl)) (hw _ (List.mem_of_getElem? (i := 4) rfl)) (by decide) (argsL := [(.int ya), (.int ma), (.int da)]) (rest := []) e0 (rm1 l Z a0 hw [] ya ma da h0 n0 Z0) (g := (mkF m 72 #[.val (.int p1), .val (.int p2), .val (.int p3), .val (.int p4), .val (.int p5), .val (.int p6), .val (.int ya), .val (.int ma), .val (.int da), .val (.int yb), .val (.int mb), .val (.int db), .unset, .unset, .unset, .unset, .unset, .unset] [(.int da), (.int ma), (.int ya)])) rfl (by rw [hml]; rfl) (lenOf pd_0 rfl) rfl (W := 0) (by show 2 * 0 + _ ≤ _; exact Nat.le_of_eq rfl) (hb hby at_72) (by decide) (by decide) (by decide) (by decide)
  have N101 := Fr.app N0 N101q
  refine own_by st101 ?_
  show own_Go p e below _ T101 (mkF m 75 #[.val (.int p1), .val (.int p2), .val (.int p3), .val (.int p4), .val (.int p5), .val (.int p6), .val (.int ya), .val (.int ma), .val (.int da), .val (.int yb), .val (.int mb), .val (.int db), .unset, .unset, .unset, .unset, .unset, .unset] [(.int (own_of ya ma da))])
  refine own_by (fun _ k => XS.istore X101.here hx rfl (hb hby at_75) rfl (l' := #[.val (.int p1), .val (.int p2), .val (.int p3), .val (.int p4), .val (.int p5), .val (.int p6), .val (.int ya), .val (.int ma), .val (.int da), .val (.int yb), .val (.int mb), .val (.int db), .val (.int (own_of ya ma da)), .unset, .unset, .unset, .unset, .unset]) rfl k) ?_
  show own_Go p e below _ T101 (mkF m 77 #[.val (.int p1), .val (.int p2), .val (.int p3), .val (.int p4), .val (.int p5), .val (.int p6), .val (.int ya), .val (.int ma), .val (.int da), .val (.int yb), .val (.int mb), .val (.int db), .val (.int (own_of ya ma da)), .unset, .unset, .unset, .unset, .unset] [])
  refine own_by (fun _ k => XS.iload X101.here hx rfl (hb hby at_77) rfl k) ?_
  show own_Go p e below _ T101 (mkF m 79 #[.val (.int p1), .val (.int p2), .val (.int p3), .val (.int p4), .val (.int p5), .val (.int p6), .val (.int ya), .val (.int ma), .val (.int da), .val (.int yb), .val (.int mb), .val (.int db), .val (.int (own_of ya ma da)), .unset, .unset, .unset, .unset, .unset] [(.int yb)])
  refine own_by (fun _ k => XS.iload X101.here hx rfl (hb hby at_79) rfl k) ?_
  show own_Go p e below _ T101 (mkF m 81 #[.val (.int p1), .val (.int p2), .val (.int p3), .val (.int p4), .val (.int p5), .val (.int p6), .val (.int ya), .val (.int ma), .val (.int da), .val (.int yb), .val (.int mb), .val (.int db), .val (.int (own_of ya ma da)), .unset, .unset, .unset, .unset, .unset] [(.int mb), (.int yb)])
  refine own_by (fun _ k => XS.iload X101.here hx rfl (hb hby at_81) rfl k) ?_
  show own_Go p e below _ T101 (mkF m 83 #[.val (.int p1), .val (.int p2), .val (.int p3), .val (.int p4), .val (.int p5), .val (.int p6), .val (.int ya), .val (.int ma), .val (.int da), .val (.int yb), .val (.int mb), .val (.int db), .val (.int (own_of ya ma da)), .unset, .unset, .unset, .unset, .unset] [(.int db), (.int mb), (.int yb)])
  obtain ⟨_, T102, L102, X102, ⟨rfl, N102q, e102⟩, st102⟩ := own_callS X101 hx hZ hown (y := (⟨"com/example/vestwright/vestwright/input/PackedDate", "of", "(III)I"⟩ : MethodName)) (hw _ (List.mem_of_getElem? (i := 1) rfl)) (hw _ (List.mem_of_getElem? (i := 2) rfl)) (hw _ (List.mem_of_getElem? (i := 3) rfl)) (hw _ (List.mem_of_getElem? (i := 4) rfl)) (by decide) (argsL := [(.int yb), (.int mb), (.int db)]) (rest := []) e101 (rm1 l Z a0 hw [] yb mb db h0 n0 Z0) (g := (mkF m 83 #[.val (.int p1), .val (.int p2), .val (.int p3), .val (.int p4), .val (.int p5), .val (.int p6), .val (.int ya), .val (.int ma), .val (.int da), .val (.int yb), .val (.int mb), .val (.int db), .val (.int (own_of ya ma da)), .unset, .unset, .unset, .unset, .unset] [(.int db), (.int mb), (.int yb)])) rfl (by rw [hml]; rfl) (lenOf pd_0 rfl) rfl (W := 0) (by show 2 * 0 + _ ≤ _; exact Nat.le_of_eq rfl) (hb hby at_83) (by decide) (by decide) (by decide) (by decide)
  have N102 := Fr.app N101 N102q
  refine own_by st102 ?_
  show own_Go p e below _ T102 (mkF m 86 #[.val (.int p1), .val (.int p2), .val (.int p3), .val (.int p4), .val (.int p5), .val (.int p6), .val (.int ya), .val (.int ma), .val (.int da), .val (.int yb), .val (.int mb), .val (.int db), .val (.int (own_of ya ma da)), .unset, .unset, .unset, .unset, .unset] [(.int (own_of yb mb db))])
  refine own_by (fun _ k => XS.istore X102.here hx rfl (hb hby at_86) rfl (l' := #[.val (.int p1), .val (.int p2), .val (.int p3), .val (.int p4), .val (.int p5), .val (.int p6), .val (.int ya), .val (.int ma), .val (.int da), .val (.int yb), .val (.int mb), .val (.int db), .val (.int (own_of ya ma da)), .val (.int (own_of yb mb db)), .unset, .unset, .unset, .unset]) rfl k) ?_
  show own_Go p e below _ T102 (mkF m 88 #[.val (.int p1), .val (.int p2), .val (.int p3), .val (.int p4), .val (.int p5), .val (.int p6), .val (.int ya), .val (.int ma), .val (.int da), .val (.int yb), .val (.int mb), .val (.int db), .val (.int (own_of ya ma da)), .val (.int (own_of yb mb db)), .unset, .unset, .unset, .unset] [])
  refine own_by (fun _ k => XS.iload X102.here hx rfl (hb hby at_88) rfl k) ?_
  show own_Go p e below _ T102 (mkF m 90 #[.val (.int p1), .val (.int p2), .val (.int p3), .val (.int p4), .val (.int p5), .val (.int p6), .val (.int ya), .val (.int ma), .val (.int da), .val (.int yb), .val (.int mb), .val (.int db), .val (.int (own_of ya ma da)), .val (.int (own_of yb mb db)), .unset, .unset, .unset, .unset] [(.int (own_of ya ma da))])
  obtain ⟨_, T103, L103, X103, ⟨rfl, N103q, e103⟩, st103⟩ := own_callS X102 hx hZ hown (y := (⟨"com/example/vestwright/vestwright/input/PackedDate", "year", "(I)I"⟩ : MethodName)) (hw _ (List.mem_of_getElem? (i := 5) rfl)) (hw _ (List.mem_of_getElem? (i := 6) rfl)) (hw _ (List.mem_of_getElem? (i := 3) rfl)) (hw _ (List.mem_of_getElem? (i := 7) rfl)) (by decide) (argsL := [(.int (own_of ya ma da))]) (rest := []) e102 (rm2 l Z a0 hw [] (own_of ya ma da) h0 n0 Z0) (g := (mkF m 90 #[.val (.int p1), .val (.int p2), .val (.int p3), .val (.int p4), .val (.int p5), .val (.int p6), .val (.int ya), .val (.int ma), .val (.int da), .val (.int yb), .val (.int mb), .val (.int db), .val (.int (own_of ya ma da)), .val (.int (own_of yb mb db)), .unset, .unset, .unset, .unset] [(.int (own_of ya ma da))])) rfl (by rw [hml]; rfl) (lenOf pd_1 rfl) rfl (W := 0) (by show 2 * 0 + _ ≤ _; exact Nat.le_of_eq rfl) (hb hby at_90) (by decide) (by decide) (by decide) (by decide)
  have N103 := Fr.app N102 N103q
  refine own_by st103 ?_
  show own_Go p e below _ T103 (mkF m 93 #[.val (.int p1), .val (.int p2), .val (.int p3), .val (.int p4), .val (.int p5), .val (.int p6), .val (.int ya), .val (.int ma), .val (.int da), .val (.int yb), .val (.int mb), .val (.int db), .val (.int (own_of ya ma da)), .val (.int (own_of yb mb db)), .unset, .unset, .unset, .unset] [(.int ((own_of ya ma da) / 10000))])
  refine own_by (fun _ k => XS.iload X103.here hx rfl (hb hby at_93) rfl k) ?_
  show own_Go p e below _ T103 (mkF m 95 #[.val (.int p1), .val (.int p2), .val (.int p3), .val (.int p4), .val (.int p5), .val (.int p6), .val (.int ya), .val (.int ma), .val (.int da), .val (.int yb), .val (.int mb), .val (.int db), .val (.int (own_of ya ma da)), .val (.int (own_of yb mb db)), .unset, .unset, .unset, .unset] [(.int ya), (.int ((own_of ya ma da) / 10000))])
  refine own_by (fun _ k => XS.icmpNo X103.here hx rfl (hb hby at_95) rfl (teq (own_year ka : ((own_of ya ma da) / 10000) = ya)).2 k) ?_
  show own_Go p e below _ T103 (mkF m 98 #[.val (.int p1), .val (.int p2), .val (.int p3), .val (.int p4), .val (.int p5), .val (.int p6), .val (.int ya), .val (.int ma), .val (.int da), .val (.int yb), .val (.int mb), .val (.int db), .val (.int (own_of ya ma da)), .val (.int (own_of yb mb db)), .unset, .unset, .unset, .unset] [])
  refine own_by (fun _ k => XS.iload X103.here hx rfl (hb hby at_98) rfl k) ?_
  show own_Go p e below _ T103 (mkF m 100 #[.val (.int p1), .val (.int p2), .val (.int p3), .val (.int p4), .val (.int p5), .val (.int p6), .val (.int ya), .val (.int ma), .val (.int da), .val (.int yb), .val (.int mb), .val (.int db), .val (.int (own_of ya ma da)), .val (.int (own_of yb mb db)), .unset, .unset, .unset, .unset] [(.int (own_of ya ma da))])
  obtain ⟨_, T104, L104, X104, ⟨rfl, N104q, e104⟩, st104⟩ := own_callS X103 hx hZ hown (y := (⟨"com/example/vestwright/vestwright/input/PackedDate", "month", "(I)I"⟩ : MethodName)) (hw _ (List.mem_of_getElem? (i := 8) rfl)) (hw _ (List.mem_of_getElem? (i := 9) rfl)) (hw _ (List.mem_of_getElem? (i := 3) rfl)) (hw _ (List.mem_of_getElem? (i := 10) rfl)) (by decide) (argsL := [(.int (own_of ya ma da))]) (rest := []) e103 (rm3 l Z a0 hw [] (own_of ya ma da) h0 n0 Z0) (g := (mkF m 100 #[.val (.int p1), .val (.int p2), .val (.int p3), .val (.int p4), .val (.int p5), .val (.int p6), .val (.int ya), .val (.int ma), .val (.int da), .val (.int yb), .val (.int mb), .val (.int db), .val (.int (own_of ya ma da)), .val (.int (own_of yb mb db)), .unset, .unset, .unset, .unset] [(.int (own_of ya ma da))])) rfl (by rw [hml]; rfl) (lenOf pd_1 rfl) rfl (W := 0) (by show 2 * 0 + _ ≤ _; exact Nat.le_of_eq rfl) (hb hby at_100) (by decide) (by decide) (by decide) (by decide)
  have N104 := Fr.app N103 N104q
  refine own_by st104 ?_
  show own_Go p e below _ T104 (mkF m 103 #[.val (.int p1), .val (.int p2), .val (.int p3), .val (.int p4), .val (.int p5), .val (.int p6), .val (.int ya), .val (.int ma), .val (.int da), .val (.int yb), .val (.int mb), .val (.int db), .val (.int (own_of ya ma da)), .val (.int (own_of yb mb db)), .unset, .unset, .unset, .unset] [(.int ((own_of ya ma da) / 100 % 100))])
  refine own_by (fun _ k => XS.iload X104.here hx rfl (hb hby at_103) rfl k) ?_
  show own_Go p e below _ T104 (mkF m 105 #[.val (.int p1), .val (.int p2), .val (.int p3), .val (.int p4), .val (.int p5), .val (.int p6), .val (.int ya), .val (.int ma), .val (.int da), .val (.int yb), .val (.int mb), .val (.int db), .val (.int (own_of ya ma da)), .val (.int (own_of yb mb db)), .unset, .unset, .unset, .unset] [(.int ma), (.int ((own_of ya ma da) / 100 % 100))])
  refine own_by (fun _ k => XS.icmpNo X104.here hx rfl (hb hby at_105) rfl (teq (own_month ka : ((own_of ya ma da) / 100 % 100) = ma)).2 k) ?_
  show own_Go p e below _ T104 (mkF m 108 #[.val (.int p1), .val (.int p2), .val (.int p3), .val (.int p4), .val (.int p5), .val (.int p6), .val (.int ya), .val (.int ma), .val (.int da), .val (.int yb), .val (.int mb), .val (.int db), .val (.int (own_of ya ma da)), .val (.int (own_of yb mb db)), .unset, .unset, .unset, .unset] [])
  refine own_by (fun _ k => XS.iload X104.here hx rfl (hb hby at_108) rfl k) ?_
  show own_Go p e below _ T104 (mkF m 110 #[.val (.int p1), .val (.int p2), .val (.int p3), .val (.int p4), .val (.int p5), .val (.int p6), .val (.int ya), .val (.int ma), .val (.int da), .val (.int yb), .val (.int mb), .val (.int db), .val (.int (own_of ya ma da)), .val (.int (own_of yb mb db)), .unset, .unset, .unset, .unset] [(.int (own_of ya ma da))])
  obtain ⟨_, T105, L105, X105, ⟨rfl, N105q, e105⟩, st105⟩ := own_callS X104 hx hZ hown (y := (⟨"com/example/vestwright/vestwright/input/PackedDate", "day", "(I)I"⟩ : MethodName)) (hw _ (List.mem_of_getElem? (i := 11) rfl)) (hw _ (List.mem_of_getElem? (i := 12) rfl)) (hw _ (List.mem_of_getElem? (i := 3) rfl)) (hw _ (List.mem_of_getElem? (i := 13) rfl)) (by decide) (argsL := [(.int (own_of ya ma da))]) (rest := []) e104 (rm4 l Z a0 hw [] (own_of ya ma da) h0 n0 Z0) (g := (mkF m 110 #[.val (.int p1), .val (.int p2), .val (.int p3), .val (.int p4), .val (.int p5), .val (.int p6), .val (.int ya), .val (.int ma), .val (.int da), .val (.int yb), .val (.int mb), .val (.int db), .val (.int (own_of ya ma da)), .val (.int (own_of yb mb db)), .unset, .unset, .unset, .unset] [(.int (own_of ya ma da))])) rfl (by rw [hml]; rfl) (lenOf pd_1 rfl) rfl (W := 0) (by show 2 * 0 + _ ≤ _; exact Nat.le_of_eq rfl) (hb hby at_110) (by decide) (by decide) (by decide) (by decide)
  have N105 := Fr.app N104 N105q
  refine own_by st105 ?_
  show own_Go p e below _ T105 (mkF m 113 #[.val (.int p1), .val (.int p2), .val (.int p3), .val (.int p4), .val (.int p5), .val (.int p6), .val (.int ya), .val (.int ma), .val (.int da), .val (.int yb), .val (.int mb), .val (.int db), .val (.int (own_of ya ma da)), .val (.int (own_of yb mb db)), .unset, .unset, .unset, .unset] [(.int ((own_of ya ma da) % 100))])
  refine own_by (fun _ k => XS.iload X105.here hx rfl (hb hby at_113) rfl k) ?_
  show own_Go p e below _ T105 (mkF m 115 #[.val (.int p1), .val (.int p2), .val (.int p3), .val (.int p4), .val (.int p5), .val (.int p6), .val (.int ya), .val (.int ma), .val (.int da), .val (.int yb), .val (.int mb), .val (.int db), .val (.int (own_of ya ma da)), .val (.int (own_of yb mb db)), .unset, .unset, .unset, .unset] [(.int da), (.int ((own_of ya ma da) % 100))])
  refine own_by (fun _ k => XS.icmpNo X105.here hx rfl (hb hby at_115) rfl (teq (own_day ka : ((own_of ya ma da) % 100) = da)).2 k) ?_
  show own_Go p e below _ T105 (mkF m 118 #[.val (.int p1), .val (.int p2), .val (.int p3), .val (.int p4), .val (.int p5), .val (.int p6), .val (.int ya), .val (.int ma), .val (.int da), .val (.int yb), .val (.int mb), .val (.int db), .val (.int (own_of ya ma da)), .val (.int (own_of yb mb db)), .unset, .unset, .unset, .unset] [])
  refine own_by (fun _ k => XS.iconst X105.here hx rfl (hb hby at_118) k) ?_
  show own_Go p e below _ T105 (mkF m 119 #[.val (.int p1), .val (.int p2), .val (.int p3), .val (.int p4), .val (.int p5), .val (.int p6), .val (.int ya), .val (.int ma), .val (.int da), .val (.int yb), .val (.int mb), .val (.int db), .val (.int (own_of ya ma da)), .val (.int (own_of yb mb db)), .unset, .unset, .unset, .unset] [(.int (1 : Int32))])
  refine own_by (fun _ k => XS.goto X105.here hx rfl (pc0 := 119) (pc' := 123) rfl (hb hby at_119) (by decide) (by decide) k) ?_
  show own_Go p e below _ T105 (mkF m 123 #[.val (.int p1), .val (.int p2), .val (.int p3), .val (.int p4), .val (.int p5), .val (.int p6), .val (.int ya), .val (.int ma), .val (.int da), .val (.int yb), .val (.int mb), .val (.int db), .val (.int (own_of ya ma da)), .val (.int (own_of yb mb db)), .unset, .unset, .unset, .unset] [(.int (1 : Int32))])
  refine own_by (fun _ k => XS.istore X105.here hx rfl (hb hby at_123) rfl (l' := #[.val (.int p1), .val (.int p2), .val (.int p3), .val (.int p4), .val (.int p5), .val (.int p6), .val (.int ya), .val (.int ma), .val (.int da), .val (.int yb), .val (.int mb), .val (.int db), .val (.int (own_of ya ma da)), .val (.int (own_of yb mb db)), .val (.int (1 : Int32)), .unset, .unset, .unset]) rfl k) ?_
  show own_Go p e below _ T105 (mkF m 125 #[.val (.int p1), .val (.int p2), .val (.int p3), .val (.int p4), .val (.int p5), .val (.int p6), .val (.int ya), .val (.int ma), .val (.int da), .val (.int yb), .val (.int mb), .val (.int db), .val (.int (own_of ya ma da)), .val (.int (own_of yb mb db)), .val (.int (1 : Int32)), .unset, .unset, .unset] [])
  refine own_by (fun _ k => XS.iload X105.here hx rfl (hb hby at_125) rfl k) ?_
  show own_Go p e below _ T105 (mkF m 127 #[.val (.int p1), .val (.int p2), .val (.int p3), .val (.int p4), .val (.int p5), .val (.int p6), .val (.int ya), .val (.int ma), .val (.int da), .val (.int yb), .val (.int mb), .val (.int db), .val (.int (own_of ya ma da)), .val (.int (own_of yb mb db)), .val (.int (1 : Int32)), .unset, .unset, .unset] [(.int (own_of yb mb db))])
  obtain ⟨_, T106, L106, X106, ⟨rfl, N106q, e106⟩, st106⟩ := own_callS X105 hx hZ hown (y := (⟨"com/example/vestwright/vestwright/input/PackedDate", "year", "(I)I"⟩ : MethodName)) (hw _ (List.mem_of_getElem? (i := 5) rfl)) (hw _ (List.mem_of_getElem? (i := 6) rfl)) (hw _ (List.mem_of_getElem? (i := 3) rfl)) (hw _ (List.mem_of_getElem? (i := 7) rfl)) (by decide) (argsL := [(.int (own_of yb mb db))]) (rest := []) e105 (rm2 l Z a0 hw [] (own_of yb mb db) h0 n0 Z0) (g := (mkF m 127 #[.val (.int p1), .val (.int p2), .val (.int p3), .val (.int p4), .val (.int p5), .val (.int p6), .val (.int ya), .val (.int ma), .val (.int da), .val (.int yb), .val (.int mb), .val (.int db), .val (.int (own_of ya ma da)), .val (.int (own_of yb mb db)), .val (.int (1 : Int32)), .unset, .unset, .unset] [(.int (own_of yb mb db))])) rfl (by rw [hml]; rfl) (lenOf pd_1 rfl) rfl (W := 0) (by show 2 * 0 + _ ≤ _; exact Nat.le_of_eq rfl) (hb hby at_127) (by decide) (by decide) (by decide) (by decide)
  have N106 := Fr.app N105 N106q
  refine own_by st106 ?_
  show own_Go p e below _ T106 (mkF m 130 #[.val (.int p1), .val (.int p2), .val (.int p3), .val (.int p4), .val (.int p5), .val (.int p6), .val (.int ya), .val (.int ma), .val (.int da), .val (.int yb), .val (.int mb), .val (.int db), .val (.int (own_of ya ma da)), .val (.int (own_of yb mb db)), .val (.int (1 : Int32)), .unset, .unset, .unset] [(.int ((own_of yb mb db) / 10000))])
  refine own_by (fun _ k => XS.iload X106.here hx rfl (hb hby at_130) rfl k) ?_
  show own_Go p e below _ T106 (mkF m 132 #[.val (.int p1), .val (.int p2), .val (.int p3), .val (.int p4), .val (.int p5), .val (.int p6), .val (.int ya), .val (.int ma), .val (.int da), .val (.int yb), .val (.int mb), .val (.int db), .val (.int (own_of ya ma da)), .val (.int (own_of yb mb db)), .val (.int (1 : Int32)), .unset, .unset, .unset] [(.int yb), (.int ((own_of yb mb db) / 10000))])
  refine own_by (fun _ k => XS.icmpNo X106.here hx rfl (hb hby at_132) rfl (teq (own_year kb : ((own_of yb mb db) / 10000) = yb)).2 k) ?_
  show own_Go p e below _ T106 (mkF m 135 #[.val (.int p1), .val (.int p2), .val (.int p3), .val (.int p4), .val (.int p5), .val (.int p6), .val (.int ya), .val (.int ma), .val (.int da), .val (.int yb), .val (.int mb), .val (.int db), .val (.int (own_of ya ma da)), .val (.int (own_of yb mb db)), .val (.int (1 : Int32)), .unset, .unset, .unset] [])
  refine own_by (fun _ k => XS.iload X106.here hx rfl (hb hby at_135) rfl k) ?_
  show own_Go p e below _ T106 (mkF m 137 #[.val (.int p1), .val (.int p2), .val (.int p3), .val (.int p4), .val (.int p5), .val (.int p6), .val (.int ya), .val (.int ma), .val (.int da), .val (.int yb), .val (.int mb), .val (.int db), .val (.int (own_of ya ma da)), .val (.int (own_of yb mb db)), .val (.int (1 : Int32)), .unset, .unset, .unset] [(.int (own_of yb mb db))])
  obtain ⟨_, T107, L107, X107, ⟨rfl, N107q, e107⟩, st107⟩ := own_callS X106 hx hZ hown (y := (⟨"com/example/vestwright/vestwright/input/PackedDate", "month", "(I)I"⟩ : MethodName)) (hw _ (List.mem_of_getElem? (i := 8) rfl)) (hw _ (List.mem_of_getElem? (i := 9) rfl)) (hw _ (List.mem_of_getElem? (i := 3) rfl)) (hw _ (List.mem_of_getElem? (i := 10) rfl)) (by decide) (argsL := [(.int (own_of yb mb db))]) (rest := []) e106 (rm3 l Z a0 hw [] (own_of yb mb db) h0 n0 Z0) (g := (mkF m 137 #[.val (.int p1), .val (.int p2), .val (.int p3), .val (.int p4), .val (.int p5), .val (.int p6), .val (.int ya), .val (.int ma), .val (.int da), .val (.int yb), .val (.int mb), .val (.int db), .val (.int (own_of ya ma da)), .val (.int (own_of yb mb db)), .val (.int (1 : Int32)), .unset, .unset, .unset] [(.int (own_of yb mb db))])) rfl (by rw [hml]; rfl) (lenOf pd_1 rfl) rfl (W := 0) (by show 2 * 0 + _ ≤ _; exact Nat.le_of_eq rfl) (hb hby at_137) (by decide) (by decide) (by decide) (by decide)
  have N107 := Fr.app N106 N107q
  refine own_by st107 ?_
  show own_Go p e below _ T107 (mkF m 140 #[.val (.int p1), .val (.int p2), .val (.int p3), .val (.int p4), .val (.int p5), .val (.int p6), .val (.int ya), .val (.int ma), .val (.int da), .val (.int yb), .val (.int mb), .val (.int db), .val (.int (own_of ya ma da)), .val (.int (own_of yb mb db)), .val (.int (1 : Int32)), .unset, .unset, .unset] [(.int ((own_of yb mb db) / 100 % 100))])
  refine own_by (fun _ k => XS.iload X107.here hx rfl (hb hby at_140) rfl k) ?_
  show own_Go p e below _ T107 (mkF m 142 #[.val (.int p1), .val (.int p2), .val (.int p3), .val (.int p4), .val (.int p5), .val (.int p6), .val (.int ya), .val (.int ma), .val (.int da), .val (.int yb), .val (.int mb), .val (.int db), .val (.int (own_of ya ma da)), .val (.int (own_of yb mb db)), .val (.int (1 : Int32)), .unset, .unset, .unset] [(.int mb), (.int ((own_of yb mb db) / 100 % 100))])
  refine own_by (fun _ k => XS.icmpNo X107.here hx rfl (hb hby at_142) rfl (teq (own_month kb : ((own_of yb mb db) / 100 % 100) = mb)).2 k) ?_
  show own_Go p e below _ T107 (mkF m 145 #[.val (.int p1), .val (.int p2), .val (.int p3), .val (.int p4), .val (.int p5), .val (.int p6), .val (.int ya), .val (.int ma), .val (.int da), .val (.int yb), .val (.int mb), .val (.int db), .val (.int (own_of ya ma da)), .val (.int (own_of yb mb db)), .val (.int (1 : Int32)), .unset, .unset, .unset] [])
  refine own_by (fun _ k => XS.iload X107.here hx rfl (hb hby at_145) rfl k) ?_
  show own_Go p e below _ T107 (mkF m 147 #[.val (.int p1), .val (.int p2), .val (.int p3), .val (.int p4), .val (.int p5), .val (.int p6), .val (.int ya), .val (.int ma), .val (.int da), .val (.int yb), .val (.int mb), .val (.int db), .val (.int (own_of ya ma da)), .val (.int (own_of yb mb db)), .val (.int (1 : Int32)), .unset, .unset, .unset] [(.int (own_of yb mb db))])
  obtain ⟨_, T108, L108, X108, ⟨rfl, N108q, e108⟩, st108⟩ := own_callS X107 hx hZ hown (y := (⟨"com/example/vestwright/vestwright/input/PackedDate", "day", "(I)I"⟩ : MethodName)) (hw _ (List.mem_of_getElem? (i := 11) rfl)) (hw _ (List.mem_of_getElem? (i := 12) rfl)) (hw _ (List.mem_of_getElem? (i := 3) rfl)) (hw _ (List.mem_of_getElem? (i := 13) rfl)) (by decide) (argsL := [(.int (own_of yb mb db))]) (rest := []) e107 (rm4 l Z a0 hw [] (own_of yb mb db) h0 n0 Z0) (g := (mkF m 147 #[.val (.int p1), .val (.int p2), .val (.int p3), .val (.int p4), .val (.int p5), .val (.int p6), .val (.int ya), .val (.int ma), .val (.int da), .val (.int yb), .val (.int mb), .val (.int db), .val (.int (own_of ya ma da)), .val (.int (own_of yb mb db)), .val (.int (1 : Int32)), .unset, .unset, .unset] [(.int (own_of yb mb db))])) rfl (by rw [hml]; rfl) (lenOf pd_1 rfl) rfl (W := 0) (by show 2 * 0 + _ ≤ _; exact Nat.le_of_eq rfl) (hb hby at_147) (by decide) (by decide) (by decide) (by decide)
  have N108 := Fr.app N107 N108q
  refine own_by st108 ?_
  show own_Go p e below _ T108 (mkF m 150 #[.val (.int p1), .val (.int p2), .val (.int p3), .val (.int p4), .val (.int p5), .val (.int p6), .val (.int ya), .val (.int ma), .val (.int da), .val (.int yb), .val (.int mb), .val (.int db), .val (.int (own_of ya ma da)), .val (.int (own_of yb mb db)), .val (.int (1 : Int32)), .unset, .unset, .unset] [(.int ((own_of yb mb db) % 100))])
  refine own_by (fun _ k => XS.iload X108.here hx rfl (hb hby at_150) rfl k) ?_
  show own_Go p e below _ T108 (mkF m 152 #[.val (.int p1), .val (.int p2), .val (.int p3), .val (.int p4), .val (.int p5), .val (.int p6), .val (.int ya), .val (.int ma), .val (.int da), .val (.int yb), .val (.int mb), .val (.int db), .val (.int (own_of ya ma da)), .val (.int (own_of yb mb db)), .val (.int (1 : Int32)), .unset, .unset, .unset] [(.int db), (.int ((own_of yb mb db) % 100))])
  refine own_by (fun _ k => XS.icmpNo X108.here hx rfl (hb hby at_152) rfl (teq (own_day kb : ((own_of yb mb db) % 100) = db)).2 k) ?_
  show own_Go p e below _ T108 (mkF m 155 #[.val (.int p1), .val (.int p2), .val (.int p3), .val (.int p4), .val (.int p5), .val (.int p6), .val (.int ya), .val (.int ma), .val (.int da), .val (.int yb), .val (.int mb), .val (.int db), .val (.int (own_of ya ma da)), .val (.int (own_of yb mb db)), .val (.int (1 : Int32)), .unset, .unset, .unset] [])
  refine own_by (fun _ k => XS.iconst X108.here hx rfl (hb hby at_155) k) ?_
  show own_Go p e below _ T108 (mkF m 156 #[.val (.int p1), .val (.int p2), .val (.int p3), .val (.int p4), .val (.int p5), .val (.int p6), .val (.int ya), .val (.int ma), .val (.int da), .val (.int yb), .val (.int mb), .val (.int db), .val (.int (own_of ya ma da)), .val (.int (own_of yb mb db)), .val (.int (1 : Int32)), .unset, .unset, .unset] [(.int (1 : Int32))])
  refine own_by (fun _ k => XS.goto X108.here hx rfl (pc0 := 156) (pc' := 160) rfl (hb hby at_156) (by decide) (by decide) k) ?_
  show own_Go p e below _ T108 (mkF m 160 #[.val (.int p1), .val (.int p2), .val (.int p3), .val (.int p4), .val (.int p5), .val (.int p6), .val (.int ya), .val (.int ma), .val (.int da), .val (.int yb), .val (.int mb), .val (.int db), .val (.int (own_of ya ma da)), .val (.int (own_of yb mb db)), .val (.int (1 : Int32)), .unset, .unset, .unset] [(.int (1 : Int32))])
  refine own_by (fun _ k => XS.istore X108.here hx rfl (hb hby at_160) rfl (l' := #[.val (.int p1), .val (.int p2), .val (.int p3), .val (.int p4), .val (.int p5), .val (.int p6), .val (.int ya), .val (.int ma), .val (.int da), .val (.int yb), .val (.int mb), .val (.int db), .val (.int (own_of ya ma da)), .val (.int (own_of yb mb db)), .val (.int (1 : Int32)), .val (.int (1 : Int32)), .unset, .unset]) rfl k) ?_
  show own_Go p e below _ T108 (mkF m 162 #[.val (.int p1), .val (.int p2), .val (.int p3), .val (.int p4), .val (.int p5), .val (.int p6), .val (.int ya), .val (.int ma), .val (.int da), .val (.int yb), .val (.int mb), .val (.int db), .val (.int (own_of ya ma da)), .val (.int (own_of yb mb db)), .val (.int (1 : Int32)), .val (.int (1 : Int32)), .unset, .unset] [])
  refine own_by (fun _ k => XS.iload X108.here hx rfl (hb hby at_162) rfl k) ?_
  show own_Go p e below _ T108 (mkF m 164 #[.val (.int p1), .val (.int p2), .val (.int p3), .val (.int p4), .val (.int p5), .val (.int p6), .val (.int ya), .val (.int ma), .val (.int da), .val (.int yb), .val (.int mb), .val (.int db), .val (.int (own_of ya ma da)), .val (.int (own_of yb mb db)), .val (.int (1 : Int32)), .val (.int (1 : Int32)), .unset, .unset] [(.int ya)])
  refine own_by (fun _ k => XS.iload X108.here hx rfl (hb hby at_164) rfl k) ?_
  show own_Go p e below _ T108 (mkF m 166 #[.val (.int p1), .val (.int p2), .val (.int p3), .val (.int p4), .val (.int p5), .val (.int p6), .val (.int ya), .val (.int ma), .val (.int da), .val (.int yb), .val (.int mb), .val (.int db), .val (.int (own_of ya ma da)), .val (.int (own_of yb mb db)), .val (.int (1 : Int32)), .val (.int (1 : Int32)), .unset, .unset] [(.int yb), (.int ya)])
  by_cases hy : ya = yb
  · refine own_by (fun _ k => XS.icmpYes X108.here hx rfl (pc0 := 166) (pc' := 181) rfl (hb hby at_166) rfl (teq (hy : ya = yb)).1 (by decide) (by decide) k) ?_
    show own_Go p e below _ T108 (mkF m 181 #[.val (.int p1), .val (.int p2), .val (.int p3), .val (.int p4), .val (.int p5), .val (.int p6), .val (.int ya), .val (.int ma), .val (.int da), .val (.int yb), .val (.int mb), .val (.int db), .val (.int (own_of ya ma da)), .val (.int (own_of yb mb db)), .val (.int (1 : Int32)), .val (.int (1 : Int32)), .unset, .unset] [])
    refine own_by (fun _ k => XS.iload X108.here hx rfl (hb hby at_181) rfl k) ?_
    show own_Go p e below _ T108 (mkF m 183 #[.val (.int p1), .val (.int p2), .val (.int p3), .val (.int p4), .val (.int p5), .val (.int p6), .val (.int ya), .val (.int ma), .val (.int da), .val (.int yb), .val (.int mb), .val (.int db), .val (.int (own_of ya ma da)), .val (.int (own_of yb mb db)), .val (.int (1 : Int32)), .val (.int (1 : Int32)), .unset, .unset] [(.int ma)])
    refine own_by (fun _ k => XS.iload X108.here hx rfl (hb hby at_183) rfl k) ?_
    show own_Go p e below _ T108 (mkF m 185 #[.val (.int p1), .val (.int p2), .val (.int p3), .val (.int p4), .val (.int p5), .val (.int p6), .val (.int ya), .val (.int ma), .val (.int da), .val (.int yb), .val (.int mb), .val (.int db), .val (.int (own_of ya ma da)), .val (.int (own_of yb mb db)), .val (.int (1 : Int32)), .val (.int (1 : Int32)), .unset, .unset] [(.int mb), (.int ma)])
    by_cases hm : ma = mb
    · refine own_by (fun _ k => XS.icmpYes X108.here hx rfl (pc0 := 185) (pc' := 200) rfl (hb hby at_185) rfl (teq (hm : ma = mb)).1 (by decide) (by decide) k) ?_
      show own_Go p e below _ T108 (mkF m 200 #[.val (.int p1), .val (.int p2), .val (.int p3), .val (.int p4), .val (.int p5), .val (.int p6), .val (.int ya), .val (.int ma), .val (.int da), .val (.int yb), .val (.int mb), .val (.int db), .val (.int (own_of ya ma da)), .val (.int (own_of yb mb db)), .val (.int (1 : Int32)), .val (.int (1 : Int32)), .unset, .unset] [])
      refine own_by (fun _ k => XS.iload X108.here hx rfl (hb hby at_200) rfl k) ?_
      show own_Go p e below _ T108 (mkF m 202 #[.val (.int p1), .val (.int p2), .val (.int p3), .val (.int p4), .val (.int p5), .val (.int p6), .val (.int ya), .val (.int ma), .val (.int da), .val (.int yb), .val (.int mb), .val (.int db), .val (.int (own_of ya ma da)), .val (.int (own_of yb mb db)), .val (.int (1 : Int32)), .val (.int (1 : Int32)), .unset, .unset] [(.int da)])
      refine own_by (fun _ k => XS.iload X108.here hx rfl (hb hby at_202) rfl k) ?_
      show own_Go p e below _ T108 (mkF m 204 #[.val (.int p1), .val (.int p2), .val (.int p3), .val (.int p4), .val (.int p5), .val (.int p6), .val (.int ya), .val (.int ma), .val (.int da), .val (.int yb), .val (.int mb), .val (.int db), .val (.int (own_of ya ma da)), .val (.int (own_of yb mb db)), .val (.int (1 : Int32)), .val (.int (1 : Int32)), .unset, .unset] [(.int db), (.int da)])
      obtain ⟨_, T109, L109, X109, ⟨rfl, N109q, e109⟩, st109⟩ := own_callS X108 hx hZ hown (y := (⟨"com/example/vestwright/vestwright/input/PackedDateOfPinLaw", "sign", "(II)I"⟩ : MethodName)) (hw _ (List.mem_of_getElem? (i := 14) rfl)) (hw _ (List.mem_of_getElem? (i := 15) rfl)) (hw _ (List.mem_of_getElem? (i := 16) rfl)) (hw _ (List.mem_of_getElem? (i := 17) rfl)) (by decide) (argsL := [(.int da), (.int db)]) (rest := []) e108 (rm5 l Z a0 hw [] da db h0 n0 Z0) (g := (mkF m 204 #[.val (.int p1), .val (.int p2), .val (.int p3), .val (.int p4), .val (.int p5), .val (.int p6), .val (.int ya), .val (.int ma), .val (.int da), .val (.int yb), .val (.int mb), .val (.int db), .val (.int (own_of ya ma da)), .val (.int (own_of yb mb db)), .val (.int (1 : Int32)), .val (.int (1 : Int32)), .unset, .unset] [(.int db), (.int da)])) rfl (by rw [hml]; rfl) (lenOf pd_2 rfl) rfl (W := 0) (by show 2 * 0 + _ ≤ _; exact Nat.le_of_eq rfl) (hb hby at_204) (by decide) (by decide) (by decide) (by decide)
      have N109 := Fr.app N108 N109q
      refine own_by st109 ?_
      show own_Go p e below _ T109 (mkF m 207 #[.val (.int p1), .val (.int p2), .val (.int p3), .val (.int p4), .val (.int p5), .val (.int p6), .val (.int ya), .val (.int ma), .val (.int da), .val (.int yb), .val (.int mb), .val (.int db), .val (.int (own_of ya ma da)), .val (.int (own_of yb mb db)), .val (.int (1 : Int32)), .val (.int (1 : Int32)), .unset, .unset] [(.int (own_sign da db))])
      refine own_by (fun _ k => XS.istore X109.here hx rfl (hb hby at_207) rfl (l' := #[.val (.int p1), .val (.int p2), .val (.int p3), .val (.int p4), .val (.int p5), .val (.int p6), .val (.int ya), .val (.int ma), .val (.int da), .val (.int yb), .val (.int mb), .val (.int db), .val (.int (own_of ya ma da)), .val (.int (own_of yb mb db)), .val (.int (1 : Int32)), .val (.int (1 : Int32)), .val (.int (own_sign da db)), .unset]) rfl k) ?_
      show own_Go p e below _ T109 (mkF m 209 #[.val (.int p1), .val (.int p2), .val (.int p3), .val (.int p4), .val (.int p5), .val (.int p6), .val (.int ya), .val (.int ma), .val (.int da), .val (.int yb), .val (.int mb), .val (.int db), .val (.int (own_of ya ma da)), .val (.int (own_of yb mb db)), .val (.int (1 : Int32)), .val (.int (1 : Int32)), .val (.int (own_sign da db)), .unset] [])
      refine own_by (fun _ k => XS.iload X109.here hx rfl (hb hby at_209) rfl k) ?_
      show own_Go p e below _ T109 (mkF m 211 #[.val (.int p1), .val (.int p2), .val (.int p3), .val (.int p4), .val (.int p5), .val (.int p6), .val (.int ya), .val (.int ma), .val (.int da), .val (.int yb), .val (.int mb), .val (.int db), .val (.int (own_of ya ma da)), .val (.int (own_of yb mb db)), .val (.int (1 : Int32)), .val (.int (1 : Int32)), .val (.int (own_sign da db)), .unset] [(.int (own_of ya ma da))])
      refine own_by (fun _ k => XS.iload X109.here hx rfl (hb hby at_211) rfl k) ?_
      show own_Go p e below _ T109 (mkF m 213 #[.val (.int p1), .val (.int p2), .val (.int p3), .val (.int p4), .val (.int p5), .val (.int p6), .val (.int ya), .val (.int ma), .val (.int da), .val (.int yb), .val (.int mb), .val (.int db), .val (.int (own_of ya ma da)), .val (.int (own_of yb mb db)), .val (.int (1 : Int32)), .val (.int (1 : Int32)), .val (.int (own_sign da db)), .unset] [(.int (own_of yb mb db)), (.int (own_of ya ma da))])
      obtain ⟨_, T110, L110, X110, ⟨rfl, N110q, e110⟩, st110⟩ := own_callS X109 hx hZ hown (y := (⟨"com/example/vestwright/vestwright/input/PackedDateOfPinLaw", "sign", "(II)I"⟩ : MethodName)) (hw _ (List.mem_of_getElem? (i := 14) rfl)) (hw _ (List.mem_of_getElem? (i := 15) rfl)) (hw _ (List.mem_of_getElem? (i := 16) rfl)) (hw _ (List.mem_of_getElem? (i := 17) rfl)) (by decide) (argsL := [(.int (own_of ya ma da)), (.int (own_of yb mb db))]) (rest := []) e109 (rm5 l Z a0 hw [] (own_of ya ma da) (own_of yb mb db) h0 n0 Z0) (g := (mkF m 213 #[.val (.int p1), .val (.int p2), .val (.int p3), .val (.int p4), .val (.int p5), .val (.int p6), .val (.int ya), .val (.int ma), .val (.int da), .val (.int yb), .val (.int mb), .val (.int db), .val (.int (own_of ya ma da)), .val (.int (own_of yb mb db)), .val (.int (1 : Int32)), .val (.int (1 : Int32)), .val (.int (own_sign da db)), .unset] [(.int (own_of yb mb db)), (.int (own_of ya ma da))])) rfl (by rw [hml]; rfl) (lenOf pd_2 rfl) rfl (W := 0) (by show 2 * 0 + _ ≤ _; exact Nat.le_of_eq rfl) (hb hby at_213) (by decide) (by decide) (by decide) (by decide)
      have N110 := Fr.app N109 N110q
      refine own_by st110 ?_
      show own_Go p e below _ T110 (mkF m 216 #[.val (.int p1), .val (.int p2), .val (.int p3), .val (.int p4), .val (.int p5), .val (.int p6), .val (.int ya), .val (.int ma), .val (.int da), .val (.int yb), .val (.int mb), .val (.int db), .val (.int (own_of ya ma da)), .val (.int (own_of yb mb db)), .val (.int (1 : Int32)), .val (.int (1 : Int32)), .val (.int (own_sign da db)), .unset] [(.int (own_sign (own_of ya ma da) (own_of yb mb db)))])
      refine own_by (fun _ k => XS.istore X110.here hx rfl (hb hby at_216) rfl (l' := #[.val (.int p1), .val (.int p2), .val (.int p3), .val (.int p4), .val (.int p5), .val (.int p6), .val (.int ya), .val (.int ma), .val (.int da), .val (.int yb), .val (.int mb), .val (.int db), .val (.int (own_of ya ma da)), .val (.int (own_of yb mb db)), .val (.int (1 : Int32)), .val (.int (1 : Int32)), .val (.int (own_sign da db)), .val (.int (own_sign (own_of ya ma da) (own_of yb mb db)))]) rfl k) ?_
      show own_Go p e below _ T110 (mkF m 218 #[.val (.int p1), .val (.int p2), .val (.int p3), .val (.int p4), .val (.int p5), .val (.int p6), .val (.int ya), .val (.int ma), .val (.int da), .val (.int yb), .val (.int mb), .val (.int db), .val (.int (own_of ya ma da)), .val (.int (own_of yb mb db)), .val (.int (1 : Int32)), .val (.int (1 : Int32)), .val (.int (own_sign da db)), .val (.int (own_sign (own_of ya ma da) (own_of yb mb db)))] [])
      refine own_by (fun _ k => XS.iload X110.here hx rfl (hb hby at_218) rfl k) ?_
      show own_Go p e below _ T110 (mkF m 220 #[.val (.int p1), .val (.int p2), .val (.int p3), .val (.int p4), .val (.int p5), .val (.int p6), .val (.int ya), .val (.int ma), .val (.int da), .val (.int yb), .val (.int mb), .val (.int db), .val (.int (own_of ya ma da)), .val (.int (own_of yb mb db)), .val (.int (1 : Int32)), .val (.int (1 : Int32)), .val (.int (own_sign da db)), .val (.int (own_sign (own_of ya ma da) (own_of yb mb db)))] [(.int (own_of ya ma da))])
      refine own_by (fun _ k => XS.ifNo X110.here hx rfl (hb hby at_220) rfl ((if0 _ _).trans (tlt (own_pos ka : (0 : Int32) < (own_of ya ma da))).2.2.2) k) ?_
      show own_Go p e below _ T110 (mkF m 223 #[.val (.int p1), .val (.int p2), .val (.int p3), .val (.int p4), .val (.int p5), .val (.int p6), .val (.int ya), .val (.int ma), .val (.int da), .val (.int yb), .val (.int mb), .val (.int db), .val (.int (own_of ya ma da)), .val (.int (own_of yb mb db)), .val (.int (1 : Int32)), .val (.int (1 : Int32)), .val (.int (own_sign da db)), .val (.int (own_sign (own_of ya ma da) (own_of yb mb db)))] [])
      refine own_by (fun _ k => XS.iload X110.here hx rfl (hb hby at_223) rfl k) ?_
      show own_Go p e below _ T110 (mkF m 225 #[.val (.int p1), .val (.int p2), .val (.int p3), .val (.int p4), .val (.int p5), .val (.int p6), .val (.int ya), .val (.int ma), .val (.int da), .val (.int yb), .val (.int mb), .val (.int db), .val (.int (own_of ya ma da)), .val (.int (own_of yb mb db)), .val (.int (1 : Int32)), .val (.int (1 : Int32)), .val (.int (own_sign da db)), .val (.int (own_sign (own_of ya ma da) (own_of yb mb db)))] [(.int (own_of yb mb db))])
      refine own_by (fun _ k => XS.ifNo X110.here hx rfl (hb hby at_225) rfl ((if0 _ _).trans (tlt (own_pos kb : (0 : Int32) < (own_of yb mb db))).2.2.2) k) ?_
      show own_Go p e below _ T110 (mkF m 228 #[.val (.int p1), .val (.int p2), .val (.int p3), .val (.int p4), .val (.int p5), .val (.int p6), .val (.int ya), .val (.int ma), .val (.int da), .val (.int yb), .val (.int mb), .val (.int db), .val (.int (own_of ya ma da)), .val (.int (own_of yb mb db)), .val (.int (1 : Int32)), .val (.int (1 : Int32)), .val (.int (own_sign da db)), .val (.int (own_sign (own_of ya ma da) (own_of yb mb db)))] [])
      refine own_by (fun _ k => XS.iload X110.here hx rfl (hb hby at_228) rfl k) ?_
      show own_Go p e below _ T110 (mkF m 230 #[.val (.int p1), .val (.int p2), .val (.int p3), .val (.int p4), .val (.int p5), .val (.int p6), .val (.int ya), .val (.int ma), .val (.int da), .val (.int yb), .val (.int mb), .val (.int db), .val (.int (own_of ya ma da)), .val (.int (own_of yb mb db)), .val (.int (1 : Int32)), .val (.int (1 : Int32)), .val (.int (own_sign da db)), .val (.int (own_sign (own_of ya ma da) (own_of yb mb db)))] [(.int (1 : Int32))])
      refine own_by (fun _ k => XS.ifNo X110.here hx rfl (hb hby at_230) rfl ((if0 _ _).trans (feq (by decide : ¬ ((1 : Int32) = (0 : Int32)))).1) k) ?_
      show own_Go p e below _ T110 (mkF m 233 #[.val (.int p1), .val (.int p2), .val (.int p3), .val (.int p4), .val (.int p5), .val (.int p6), .val (.int ya), .val (.int ma), .val (.int da), .val (.int yb), .val (.int mb), .val (.int db), .val (.int (own_of ya ma da)), .val (.int (own_of yb mb db)), .val (.int (1 : Int32)), .val (.int (1 : Int32)), .val (.int (own_sign da db)), .val (.int (own_sign (own_of ya ma da) (own_of yb mb db)))] [])
      refine own_by (fun _ k => XS.iload X110.here hx rfl (hb hby at_233) rfl k) ?_
      show own_Go p e below _ T110 (mkF m 235 #[.val (.int p1), .val (.int p2), .val (.int p3), .val (.int p4), .val (.int p5), .val (.int p6), .val (.int ya), .val (.int ma), .val (.int da), .val (.int yb), .val (.int mb), .val (.int db), .val (.int (own_of ya ma da)), .val (.int (own_of yb mb db)), .val (.int (1 : Int32)), .val (.int (1 : Int32)), .val (.int (own_sign da db)), .val (.int (own_sign (own_of ya ma da) (own_of yb mb db)))] [(.int (1 : Int32))])
      refine own_by (fun _ k => XS.ifNo X110.here hx rfl (hb hby at_235) rfl ((if0 _ _).trans (feq (by decide : ¬ ((1 : Int32) = (0 : Int32)))).1) k) ?_
      show own_Go p e below _ T110 (mkF m 238 #[.val (.int p1), .val (.int p2), .val (.int p3), .val (.int p4), .val (.int p5), .val (.int p6), .val (.int ya), .val (.int ma), .val (.int da), .val (.int yb), .val (.int mb), .val (.int db), .val (.int (own_of ya ma da)), .val (.int (own_of yb mb db)), .val (.int (1 : Int32)), .val (.int (1 : Int32)), .val (.int (own_sign da db)), .val (.int (own_sign (own_of ya ma da) (own_of yb mb db)))] [])
      refine own_by (fun _ k => XS.iload X110.here hx rfl (hb hby at_238) rfl k) ?_
      show own_Go p e below _ T110 (mkF m 240 #[.val (.int p1), .val (.int p2), .val (.int p3), .val (.int p4), .val (.int p5), .val (.int p6), .val (.int ya), .val (.int ma), .val (.int da), .val (.int yb), .val (.int mb), .val (.int db), .val (.int (own_of ya ma da)), .val (.int (own_of yb mb db)), .val (.int (1 : Int32)), .val (.int (1 : Int32)), .val (.int (own_sign da db)), .val (.int (own_sign (own_of ya ma da) (own_of yb mb db)))] [(.int (own_sign da db))])
      refine own_by (fun _ k => XS.iload X110.here hx rfl (hb hby at_240) rfl k) ?_
      show own_Go p e below _ T110 (mkF m 242 #[.val (.int p1), .val (.int p2), .val (.int p3), .val (.int p4), .val (.int p5), .val (.int p6), .val (.int ya), .val (.int ma), .val (.int da), .val (.int yb), .val (.int mb), .val (.int db), .val (.int (own_of ya ma da)), .val (.int (own_of yb mb db)), .val (.int (1 : Int32)), .val (.int (1 : Int32)), .val (.int (own_sign da db)), .val (.int (own_sign (own_of ya ma da) (own_of yb mb db)))] [(.int (own_sign (own_of ya ma da) (own_of yb mb db))), (.int (own_sign da db))])
      refine own_by (fun _ k => XS.icmpNo X110.here hx rfl (hb hby at_242) rfl (teq (by rw [← hy, ← hm] at kb ⊢; exact own_l3 ka kb : (own_sign da db) = (own_sign (own_of ya ma da) (own_of yb mb db)))).2 k) ?_
      show own_Go p e below _ T110 (mkF m 245 #[.val (.int p1), .val (.int p2), .val (.int p3), .val (.int p4), .val (.int p5), .val (.int p6), .val (.int ya), .val (.int ma), .val (.int da), .val (.int yb), .val (.int mb), .val (.int db), .val (.int (own_of ya ma da)), .val (.int (own_of yb mb db)), .val (.int (1 : Int32)), .val (.int (1 : Int32)), .val (.int (own_sign da db)), .val (.int (own_sign (own_of ya ma da) (own_of yb mb db)))] [])
      refine own_by (fun _ k => XS.iconst X110.here hx rfl (hb hby at_245) k) ?_
      show own_Go p e below _ T110 (mkF m 246 #[.val (.int p1), .val (.int p2), .val (.int p3), .val (.int p4), .val (.int p5), .val (.int p6), .val (.int ya), .val (.int ma), .val (.int da), .val (.int yb), .val (.int mb), .val (.int db), .val (.int (own_of ya ma da)), .val (.int (own_of yb mb db)), .val (.int (1 : Int32)), .val (.int (1 : Int32)), .val (.int (own_sign da db)), .val (.int (own_sign (own_of ya ma da) (own_of yb mb db)))] [(.int (1 : Int32))])
      refine own_by (fun _ k => XS.goto X110.here hx rfl (pc0 := 246) (pc' := 250) rfl (hb hby at_246) (by decide) (by decide) k) ?_
      show own_Go p e below _ T110 (mkF m 250 #[.val (.int p1), .val (.int p2), .val (.int p3), .val (.int p4), .val (.int p5), .val (.int p6), .val (.int ya), .val (.int ma), .val (.int da), .val (.int yb), .val (.int mb), .val (.int db), .val (.int (own_of ya ma da)), .val (.int (own_of yb mb db)), .val (.int (1 : Int32)), .val (.int (1 : Int32)), .val (.int (own_sign da db)), .val (.int (own_sign (own_of ya ma da) (own_of yb mb db)))] [(.int (1 : Int32))])
      exact own_retN X110 hx hlk hret (by simp) rfl (hb hby at_250) (by first | exact ⟨rfl, N110⟩ | (rw [e110]; exact ⟨rfl, N110⟩)) (by decide) (by decide)
    · refine own_by (fun _ k => XS.icmpNo X108.here hx rfl (hb hby at_185) rfl (feq (hm : ¬ (ma = mb))).1 k) ?_
      show own_Go p e below _ T108 (mkF m 188 #[.val (.int p1), .val (.int p2), .val (.int p3), .val (.int p4), .val (.int p5), .val (.int p6), .val (.int ya), .val (.int ma), .val (.int da), .val (.int yb), .val (.int mb), .val (.int db), .val (.int (own_of ya ma da)), .val (.int (own_of yb mb db)), .val (.int (1 : Int32)), .val (.int (1 : Int32)), .unset, .unset] [])
      refine own_by (fun _ k => XS.iload X108.here hx rfl (hb hby at_188) rfl k) ?_
      show own_Go p e below _ T108 (mkF m 190 #[.val (.int p1), .val (.int p2), .val (.int p3), .val (.int p4), .val (.int p5), .val (.int p6), .val (.int ya), .val (.int ma), .val (.int da), .val (.int yb), .val (.int mb), .val (.int db), .val (.int (own_of ya ma da)), .val (.int (own_of yb mb db)), .val (.int (1 : Int32)), .val (.int (1 : Int32)), .unset, .unset] [(.int ma)])
      refine own_by (fun _ k => XS.iload X108.here hx rfl (hb hby at_190) rfl k) ?_
      show own_Go p e below _ T108 (mkF m 192 #[.val (.int p1), .val (.int p2), .val (.int p3), .val (.int p4), .val (.int p5), .val (.int p6), .val (.int ya), .val (.int ma), .val (.int da), .val (.int yb), .val (.int mb), .val (.int db), .val (.int (own_of ya ma da)), .val (.int (own_of yb mb db)), .val (.int (1 : Int32)), .val (.int (1 : Int32)), .unset, .unset] [(.int mb), (.int ma)])
      obtain ⟨_, T111, L111, X111, ⟨rfl, N111q, e111⟩, st111⟩ := own_callS X108 hx hZ hown (y := (⟨"com/example/vestwright/vestwright/input/PackedDateOfPinLaw", "sign", "(II)I"⟩ : MethodName)) (hw _ (List.mem_of_getElem? (i := 14) rfl)) (hw _ (List.mem_of_getElem? (i := 15) rfl)) (hw _ (List.mem_of_getElem? (i := 16) rfl)) (hw _ (List.mem_of_getElem? (i := 17) rfl)) (by decide) (argsL := [(.int ma), (.int mb)]) (rest := []) e108 (rm5 l Z a0 hw [] ma mb h0 n0 Z0) (g := (mkF m 192 #[.val (.int p1), .val (.int p2), .val (.int p3), .val (.int p4), .val (.int p5), .val (.int p6), .val (.int ya), .val (.int ma), .val (.int da), .val (.int yb), .val (.int mb), .val (.int db), .val (.int (own_of ya ma da)), .val (.int (own_of yb mb db)), .val (.int (1 : Int32)), .val (.int (1 : Int32)), .unset, .unset] [(.int mb), (.int ma)])) rfl (by rw [hml]; rfl) (lenOf pd_2 rfl) rfl (W := 0) (by show 2 * 0 + _ ≤ _; exact Nat.le_of_eq rfl) (hb hby at_192) (by decide) (by decide) (by decide) (by decide)
      have N111 := Fr.app N108 N111q
      refine own_by st111 ?_
      show own_Go p e below _ T111 (mkF m 195 #[.val (.int p1), .val (.int p2), .val (.int p3), .val (.int p4), .val (.int p5), .val (.int p6), .val (.int ya), .val (.int ma), .val (.int da), .val (.int yb), .val (.int mb), .val (.int db), .val (.int (own_of ya ma da)), .val (.int (own_of yb mb db)), .val (.int (1 : Int32)), .val (.int (1 : Int32)), .unset, .unset] [(.int (own_sign ma mb))])
      refine own_by (fun _ k => XS.istore X111.here hx rfl (hb hby at_195) rfl (l' := #[.val (.int p1), .val (.int p2), .val (.int p3), .val (.int p4), .val (.int p5), .val (.int p6), .val (.int ya), .val (.int ma), .val (.int da), .val (.int yb), .val (.int mb), .val (.int db), .val (.int (own_of ya ma da)), .val (.int (own_of yb mb db)), .val (.int (1 : Int32)), .val (.int (1 : Int32)), .val (.int (own_sign ma mb)), .unset]) rfl k) ?_
      show own_Go p e below _ T111 (mkF m 197 #[.val (.int p1), .val (.int p2), .val (.int p3), .val (.int p4), .val (.int p5), .val (.int p6), .val (.int ya), .val (.int ma), .val (.int da), .val (.int yb), .val (.int mb), .val (.int db), .val (.int (own_of ya ma da)), .val (.int (own_of yb mb db)), .val (.int (1 : Int32)), .val (.int (1 : Int32)), .val (.int (own_sign ma mb)), .unset] [])
      refine own_by (fun _ k => XS.goto X111.here hx rfl (pc0 := 197) (pc' := 209) rfl (hb hby at_197) (by decide) (by decide) k) ?_
      show own_Go p e below _ T111 (mkF m 209 #[.val (.int p1), .val (.int p2), .val (.int p3), .val (.int p4), .val (.int p5), .val (.int p6), .val (.int ya), .val (.int ma), .val (.int da), .val (.int yb), .val (.int mb), .val (.int db), .val (.int (own_of ya ma da)), .val (.int (own_of yb mb db)), .val (.int (1 : Int32)), .val (.int (1 : Int32)), .val (.int (own_sign ma mb)), .unset] [])
      refine own_by (fun _ k => XS.iload X111.here hx rfl (hb hby at_209) rfl k) ?_
      show own_Go p e below _ T111 (mkF m 211 #[.val (.int p1), .val (.int p2), .val (.int p3), .val (.int p4), .val (.int p5), .val (.int p6), .val (.int ya), .val (.int ma), .val (.int da), .val (.int yb), .val (.int mb), .val (.int db), .val (.int (own_of ya ma da)), .val (.int (own_of yb mb db)), .val (.int (1 : Int32)), .val (.int (1 : Int32)), .val (.int (own_sign ma mb)), .unset] [(.int (own_of ya ma da))])
      refine own_by (fun _ k => XS.iload X111.here hx rfl (hb hby at_211) rfl k) ?_
      show own_Go p e below _ T111 (mkF m 213 #[.val (.int p1), .val (.int p2), .val (.int p3), .val (.int p4), .val (.int p5), .val (.int p6), .val (.int ya), .val (.int ma), .val (.int da), .val (.int yb), .val (.int mb), .val (.int db), .val (.int (own_of ya ma da)), .val (.int (own_of yb mb db)), .val (.int (1 : Int32)), .val (.int (1 : Int32)), .val (.int (own_sign ma mb)), .unset] [(.int (own_of yb mb db)), (.int (own_of ya ma da))])
      obtain ⟨_, T112, L112, X112, ⟨rfl, N112q, e112⟩, st112⟩ := own_callS X111 hx hZ hown (y := (⟨"com/example/vestwright/vestwright/input/PackedDateOfPinLaw", "sign", "(II)I"⟩ : MethodName)) (hw _ (List.mem_of_getElem? (i := 14) rfl)) (hw _ (List.mem_of_getElem? (i := 15) rfl)) (hw _ (List.mem_of_getElem? (i := 16) rfl)) (hw _ (List.mem_of_getElem? (i := 17) rfl)) (by decide) (argsL := [(.int (own_of ya ma da)), (.int (own_of yb mb db))]) (rest := []) e111 (rm5 l Z a0 hw [] (own_of ya ma da) (own_of yb mb db) h0 n0 Z0) (g := (mkF m 213 #[.val (.int p1), .val (.int p2), .val (.int p3), .val (.int p4), .val (.int p5), .val (.int p6), .val (.int ya), .val (.int ma), .val (.int da), .val (.int yb), .val (.int mb), .val (.int db), .val (.int (own_of ya ma da)), .val (.int (own_of yb mb db)), .val (.int (1 : Int32)), .val (.int (1 : Int32)), .val (.int (own_sign ma mb)), .unset] [(.int (own_of yb mb db)), (.int (own_of ya ma da))])) rfl (by rw [hml]; rfl) (lenOf pd_2 rfl) rfl (W := 0) (by show 2 * 0 + _ ≤ _; exact Nat.le_of_eq rfl) (hb hby at_213) (by decide) (by decide) (by decide) (by decide)
      have N112 := Fr.app N111 N112q
      refine own_by st112 ?_
      show own_Go p e below _ T112 (mkF m 216 #[.val (.int p1), .val (.int p2), .val (.int p3), .val (.int p4), .val (.int p5), .val (.int p6), .val (.int ya), .val (.int ma), .val (.int da), .val (.int yb), .val (.int mb), .val (.int db), .val (.int (own_of ya ma da)), .val (.int (own_of yb mb db)), .val (.int (1 : Int32)), .val (.int (1 : Int32)), .val (.int (own_sign ma mb)), .unset] [(.int (own_sign (own_of ya ma da) (own_of yb mb db)))])
      refine own_by (fun _ k => XS.istore X112.here hx rfl (hb hby at_216) rfl (l' := #[.val (.int p1), .val (.int p2), .val (.int p3), .val (.int p4), .val (.int p5), .val (.int p6), .val (.int ya), .val (.int ma), .val (.int da), .val (.int yb), .val (.int mb), .val (.int db), .val (.int (own_of ya ma da)), .val (.int (own_of yb mb db)), .val (.int (1 : Int32)), .val (.int (1 : Int32)), .val (.int (own_sign ma mb)), .val (.int (own_sign (own_of ya ma da) (own_of yb mb db)))]) rfl k) ?_
      show own_Go p e below _ T112 (mkF m 218 #[.val (.int p1), .val (.int p2), .val (.int p3), .val (.int p4), .val (.int p5), .val (.int p6), .val (.int ya), .val (.int ma), .val (.int da), .val (.int yb), .val (.int mb), .val (.int db), .val (.int (own_of ya ma da)), .val (.int (own_of yb mb db)), .val (.int (1 : Int32)), .val (.int (1 : Int32)), .val (.int (own_sign ma mb)), .val (.int (own_sign (own_of ya ma da) (own_of yb mb db)))] [])
      refine own_by (fun _ k => XS.iload X112.here hx rfl (hb hby at_218) rfl k) ?_
      show own_Go p e below _ T112 (mkF m 220 #[.val (.int p1), .val (.int p2), .val (.int p3), .val (.int p4), .val (.int p5), .val (.int p6), .val (.int ya), .val (.int ma), .val (.int da), .val (.int yb), .val (.int mb), .val (.int db), .val (.int (own_of ya ma da)), .val (.int (own_of yb mb db)), .val (.int (1 : Int32)), .val (.int (1 : Int32)), .val (.int (own_sign ma mb)), .val (.int (own_sign (own_of ya ma da) (own_of yb mb db)))] [(.int (own_of ya ma da))])
      refine own_by (fun _ k => XS.ifNo X112.here hx rfl (hb hby at_220) rfl ((if0 _ _).trans (tlt (own_pos ka : (0 : Int32) < (own_of ya ma da))).2.2.2) k) ?_
      show own_Go p e below _ T112 (mkF m 223 #[.val (.int p1), .val (.int p2), .val (.int p3), .val (.int p4), .val (.int p5), .val (.int p6), .val (.int ya), .val (.int ma), .val (.int da), .val (.int yb), .val (.int mb), .val (.int db), .val (.int (own_of ya ma da)), .val (.int (own_of yb mb db)), .val (.int (1 : Int32)), .val (.int (1 : Int32)), .val (.int (own_sign ma mb)), .val (.int (own_sign (own_of ya ma da) (own_of yb mb db)))] [])
      refine own_by (fun _ k => XS.iload X112.here hx rfl (hb hby at_223) rfl k) ?_
      show own_Go p e below _ T112 (mkF m 225 #[.val (.int p1), .val (.int p2), .val (.int p3), .val (.int p4), .val (.int p5), .val (.int p6), .val (.int ya), .val (.int ma), .val (.int da), .val (.int yb), .val (.int mb), .val (.int db), .val (.int (own_of ya ma da)), .val (.int (own_of yb mb db)), .val (.int (1 : Int32)), .val (.int (1 : Int32)), .val (.int (own_sign ma mb)), .val (.int (own_sign (own_of ya ma da) (own_of yb mb db)))] [(.int (own_of yb mb db))])
      refine own_by (fun _ k => XS.ifNo X112.here hx rfl (hb hby at_225) rfl ((if0 _ _).trans (tlt (own_pos kb : (0 : Int32) < (own_of yb mb db))).2.2.2) k) ?_
      show own_Go p e below _ T112 (mkF m 228 #[.val (.int p1), .val (.int p2), .val (.int p3), .val (.int p4), .val (.int p5), .val (.int p6), .val (.int ya), .val (.int ma), .val (.int da), .val (.int yb), .val (.int mb), .val (.int db), .val (.int (own_of ya ma da)), .val (.int (own_of yb mb db)), .val (.int (1 : Int32)), .val (.int (1 : Int32)), .val (.int (own_sign ma mb)), .val (.int (own_sign (own_of ya ma da) (own_of yb mb db)))] [])
      refine own_by (fun _ k => XS.iload X112.here hx rfl (hb hby at_228) rfl k) ?_
      show own_Go p e below _ T112 (mkF m 230 #[.val (.int p1), .val (.int p2), .val (.int p3), .val (.int p4), .val (.int p5), .val (.int p6), .val (.int ya), .val (.int ma), .val (.int da), .val (.int yb), .val (.int mb), .val (.int db), .val (.int (own_of ya ma da)), .val (.int (own_of yb mb db)), .val (.int (1 : Int32)), .val (.int (1 : Int32)), .val (.int (own_sign ma mb)), .val (.int (own_sign (own_of ya ma da) (own_of yb mb db)))] [(.int (1 : Int32))])
      refine own_by (fun _ k => XS.ifNo X112.here hx rfl (hb hby at_230) rfl ((if0 _ _).trans (feq (by decide : ¬ ((1 : Int32) = (0 : Int32)))).1) k) ?_
      show own_Go p e below _ T112 (mkF m 233 #[.val (.int p1), .val (.int p2), .val (.int p3), .val (.int p4), .val (.int p5), .val (.int p6), .val (.int ya), .val (.int ma), .val (.int da), .val (.int yb), .val (.int mb), .val (.int db), .val (.int (own_of ya ma da)), .val (.int (own_of yb mb db)), .val (.int (1 : Int32)), .val (.int (1 : Int32)), .val (.int (own_sign ma mb)), .val (.int (own_sign (own_of ya ma da) (own_of yb mb db)))] [])
      refine own_by (fun _ k => XS.iload X112.here hx rfl (hb hby at_233) rfl k) ?_
      show own_Go p e below _ T112 (mkF m 235 #[.val (.int p1), .val (.int p2), .val (.int p3), .val (.int p4), .val (.int p5), .val (.int p6), .val (.int ya), .val (.int ma), .val (.int da), .val (.int yb), .val (.int mb), .val (.int db), .val (.int (own_of ya ma da)), .val (.int (own_of yb mb db)), .val (.int (1 : Int32)), .val (.int (1 : Int32)), .val (.int (own_sign ma mb)), .val (.int (own_sign (own_of ya ma da) (own_of yb mb db)))] [(.int (1 : Int32))])
      refine own_by (fun _ k => XS.ifNo X112.here hx rfl (hb hby at_235) rfl ((if0 _ _).trans (feq (by decide : ¬ ((1 : Int32) = (0 : Int32)))).1) k) ?_
      show own_Go p e below _ T112 (mkF m 238 #[.val (.int p1), .val (.int p2), .val (.int p3), .val (.int p4), .val (.int p5), .val (.int p6), .val (.int ya), .val (.int ma), .val (.int da), .val (.int yb), .val (.int mb), .val (.int db), .val (.int (own_of ya ma da)), .val (.int (own_of yb mb db)), .val (.int (1 : Int32)), .val (.int (1 : Int32)), .val (.int (own_sign ma mb)), .val (.int (own_sign (own_of ya ma da) (own_of yb mb db)))] [])
      refine own_by (fun _ k => XS.iload X112.here hx rfl (hb hby at_238) rfl k) ?_
      show own_Go p e below _ T112 (mkF m 240 #[.val (.int p1), .val (.int p2), .val (.int p3), .val (.int p4), .val (.int p5), .val (.int p6), .val (.int ya), .val (.int ma), .val (.int da), .val (.int yb), .val (.int mb), .val (.int db), .val (.int (own_of ya ma da)), .val (.int (own_of yb mb db)), .val (.int (1 : Int32)), .val (.int (1 : Int32)), .val (.int (own_sign ma mb)), .val (.int (own_sign (own_of ya ma da) (own_of yb mb db)))] [(.int (own_sign ma mb))])
      refine own_by (fun _ k => XS.iload X112.here hx rfl (hb hby at_240) rfl k) ?_
      show own_Go p e below _ T112 (mkF m 242 #[.val (.int p1), .val (.int p2), .val (.int p3), .val (.int p4), .val (.int p5), .val (.int p6), .val (.int ya), .val (.int ma), .val (.int da), .val (.int yb), .val (.int mb), .val (.int db), .val (.int (own_of ya ma da)), .val (.int (own_of yb mb db)), .val (.int (1 : Int32)), .val (.int (1 : Int32)), .val (.int (own_sign ma mb)), .val (.int (own_sign (own_of ya ma da) (own_of yb mb db)))] [(.int (own_sign (own_of ya ma da) (own_of yb mb db))), (.int (own_sign ma mb))])
      refine own_by (fun _ k => XS.icmpNo X112.here hx rfl (hb hby at_242) rfl (teq (by rw [← hy] at kb ⊢; exact own_l2 ka kb hm : (own_sign ma mb) = (own_sign (own_of ya ma da) (own_of yb mb db)))).2 k) ?_
      show own_Go p e below _ T112 (mkF m 245 #[.val (.int p1), .val (.int p2), .val (.int p3), .val (.int p4), .val (.int p5), .val (.int p6), .val (.int ya), .val (.int ma), .val (.int da), .val (.int yb), .val (.int mb), .val (.int db), .val (.int (own_of ya ma da)), .val (.int (own_of yb mb db)), .val (.int (1 : Int32)), .val (.int (1 : Int32)), .val (.int (own_sign ma mb)), .val (.int (own_sign (own_of ya ma da) (own_of yb mb db)))] [])
      refine own_by (fun _ k => XS.iconst X112.here hx rfl (hb hby at_245) k) ?_
      show own_Go p e below _ T112 (mkF m 246 #[.val (.int p1), .val (.int p2), .val (.int p3), .val (.int p4), .val (.int p5), .val (.int p6), .val (.int ya), .val (.int ma), .val (.int da), .val (.int yb), .val (.int mb), .val (.int db), .val (.int (own_of ya ma da)), .val (.int (own_of yb mb db)), .val (.int (1 : Int32)), .val (.int (1 : Int32)), .val (.int (own_sign ma mb)), .val (.int (own_sign (own_of ya ma da) (own_of yb mb db)))] [(.int (1 : Int32))])
      refine own_by (fun _ k => XS.goto X112.here hx rfl (pc0 := 246) (pc' := 250) rfl (hb hby at_246) (by decide) (by decide) k) ?_
      show own_Go p e below _ T112 (mkF m 250 #[.val (.int p1), .val (.int p2), .val (.int p3), .val (.int p4), .val (.int p5), .val (.int p6), .val (.int ya), .val (.int ma), .val (.int da), .val (.int yb), .val (.int mb), .val (.int db), .val (.int (own_of ya ma da)), .val (.int (own_of yb mb db)), .val (.int (1 : Int32)), .val (.int (1 : Int32)), .val (.int (own_sign ma mb)), .val (.int (own_sign (own_of ya ma da) (own_of yb mb db)))] [(.int (1 : Int32))])
      exact own_retN X112 hx hlk hret (by simp) rfl (hb hby at_250) (by first | exact ⟨rfl, N112⟩ | (rw [e112]; exact ⟨rfl, N112⟩)) (by decide) (by decide)
  · refine own_by (fun _ k => XS.icmpNo X108.here hx rfl (hb hby at_166) rfl (feq (hy : ¬ (ya = yb))).1 k) ?_
    show own_Go p e below _ T108 (mkF m 169 #[.val (.int p1), .val (.int p2), .val (.int p3), .val (.int p4), .val (.int p5), .val (.int p6), .val (.int ya), .val (.int ma), .val (.int da), .val (.int yb), .val (.int mb), .val (.int db), .val (.int (own_of ya ma da)), .val (.int (own_of yb mb db)), .val (.int (1 : Int32)), .val (.int (1 : Int32)), .unset, .unset] [])
    refine own_by (fun _ k => XS.iload X108.here hx rfl (hb hby at_169) rfl k) ?_
    show own_Go p e below _ T108 (mkF m 171 #[.val (.int p1), .val (.int p2), .val (.int p3), .val (.int p4), .val (.int p5), .val (.int p6), .val (.int ya), .val (.int ma), .val (.int da), .val (.int yb), .val (.int mb), .val (.int db), .val (.int (own_of ya ma da)), .val (.int (own_of yb mb db)), .val (.int (1 : Int32)), .val (.int (1 : Int32)), .unset, .unset] [(.int ya)])
    refine own_by (fun _ k => XS.iload X108.here hx rfl (hb hby at_171) rfl k) ?_
    show own_Go p e below _ T108 (mkF m 173 #[.val (.int p1), .val (.int p2), .val (.int p3), .val (.int p4), .val (.int p5), .val (.int p6), .val (.int ya), .val (.int ma), .val (.int da), .val (.int yb), .val (.int mb), .val (.int db), .val (.int (own_of ya ma da)), .val (.int (own_of yb mb db)), .val (.int (1 : Int32)), .val (.int (1 : Int32)), .unset, .unset] [(.int yb), (.int ya)])
    obtain ⟨_, T113, L113, X113, ⟨rfl, N113q, e113⟩, st113⟩ := own_callS X108 hx hZ hown (y := (⟨"com/example/vestwright/vestwright/input/PackedDateOfPinLaw", "sign", "(II)I"⟩ : MethodName)) (hw _ (List.mem_of_getElem? (i := 14) rfl)) (hw _ (List.mem_of_getElem? (i := 15) rfl)) (hw _ (List.mem_of_getElem? (i := 16) rfl)) (hw _ (List.mem_of_getElem? (i := 17) rfl)) (by decide) (argsL := [(.int ya), (.int yb)]) (rest := []) e108 (rm5 l Z a0 hw [] ya yb h0 n0 Z0) (g := (mkF m 173 #[.val (.int p1), .val (.int p2), .val (.int p3), .val (.int p4), .val (.int p5), .val (.int p6), .val (.int ya), .val (.int ma), .val (.int da), .val (.int yb), .val (.int mb), .val (.int db), .val (.int (own_of ya ma da)), .val (.int (own_of yb mb db)), .val (.int (1 : Int32)), .val (.int (1 : Int32)), .unset, .unset] [(.int yb), (.int ya)])) rfl (by rw [hml]; rfl) (lenOf pd_2 rfl) rfl (W := 0) (by show 2 * 0 + _ ≤ _; exact Nat.le_of_eq rfl) (hb hby at_173) (by decide) (by decide) (by decide) (by decide)
    have N113 := Fr.app N108 N113q
    refine own_by st113 ?_
    show own_Go p e below _ T113 (mkF m 176 #[.val (.int p1), .val (.int p2), .val (.int p3), .val (.int p4), .val (.int p5), .val (.int p6), .val (.int ya), .val (.int ma), .val (.int da), .val (.int yb), .val (.int mb), .val (.int db), .val (.int (own_of ya ma da)), .val (.int (own_of yb mb db)), .val (.int (1 : Int32)), .val (.int (1 : Int32)), .unset, .unset] [(.int (own_sign ya yb))])
    refine own_by (fun _ k => XS.istore X113.here hx rfl (hb hby at_176) rfl (l' := #[.val (.int p1), .val (.int p2), .val (.int p3), .val (.int p4), .val (.int p5), .val (.int p6), .val (.int ya), .val (.int ma), .val (.int da), .val (.int yb), .val (.int mb), .val (.int db), .val (.int (own_of ya ma da)), .val (.int (own_of yb mb db)), .val (.int (1 : Int32)), .val (.int (1 : Int32)), .val (.int (own_sign ya yb)), .unset]) rfl k) ?_
    show own_Go p e below _ T113 (mkF m 178 #[.val (.int p1), .val (.int p2), .val (.int p3), .val (.int p4), .val (.int p5), .val (.int p6), .val (.int ya), .val (.int ma), .val (.int da), .val (.int yb), .val (.int mb), .val (.int db), .val (.int (own_of ya ma da)), .val (.int (own_of yb mb db)), .val (.int (1 : Int32)), .val (.int (1 : Int32)), .val (.int (own_sign ya yb)), .unset] [])
    refine own_by (fun _ k => XS.goto X113.here hx rfl (pc0 := 178) (pc' := 209) rfl (hb hby at_178) (by decide) (by decide) k) ?_
    show own_Go p e below _ T113 (mkF m 209 #[.val (.int p1), .val (.int p2), .val (.int p3), .val (.int p4), .val (.int p5), .val (.int p6), .val (.int ya), .val (.int ma), .val (.int da), .val (.int yb), .val (.int mb), .val (.int db), .val (.int (own_of ya ma da)), .val (.int (own_of yb mb db)), .val (.int (1 : Int32)), .val (.int (1 : Int32)), .val (.int (own_sign ya yb)), .unset] [])
    refine own_by (fun _ k => XS.iload X113.here hx rfl (hb hby at_209) rfl k) ?_
    show own_Go p e below _ T113 (mkF m 211 #[.val (.int p1), .val (.int p2), .val (.int p3), .val (.int p4), .val (.int p5), .val (.int p6), .val (.int ya), .val (.int ma), .val (.int da), .val (.int yb), .val (.int mb), .val (.int db), .val (.int (own_of ya ma da)), .val (.int (own_of yb mb db)), .val (.int (1 : Int32)), .val (.int (1 : Int32)), .val (.int (own_sign ya yb)), .unset] [(.int (own_of ya ma da))])
    refine own_by (fun _ k => XS.iload X113.here hx rfl (hb hby at_211) rfl k) ?_
    show own_Go p e below _ T113 (mkF m 213 #[.val (.int p1), .val (.int p2), .val (.int p3), .val (.int p4), .val (.int p5), .val (.int p6), .val (.int ya), .val (.int ma), .val (.int da), .val (.int yb), .val (.int mb), .val (.int db), .val (.int (own_of ya ma da)), .val (.int (own_of yb mb db)), .val (.int (1 : Int32)), .val (.int (1 : Int32)), .val (.int (own_sign ya yb)), .unset] [(.int (own_of yb mb db)), (.int (own_of ya ma da))])
    obtain ⟨_, T114, L114, X114, ⟨rfl, N114q, e114⟩, st114⟩ := own_callS X113 hx hZ hown (y := (⟨"com/example/vestwright/vestwright/input/PackedDateOfPinLaw", "sign", "(II)I"⟩ : MethodName)) (hw _ (List.mem_of_getElem? (i := 14) rfl)) (hw _ (List.mem_of_getElem? (i := 15) rfl)) (hw _ (List.mem_of_getElem? (i := 16) rfl)) (hw _ (List.mem_of_getElem? (i := 17) rfl)) (by decide) (argsL := [(.int (own_of ya ma da)), (.int (own_of yb mb db))]) (rest := []) e113 (rm5 l Z a0 hw [] (own_of ya ma da) (own_of yb mb db) h0 n0 Z0) (g := (mkF m 213 #[.val (.int p1), .val (.int p2), .val (.int p3), .val (.int p4), .val (.int p5), .val (.int p6), .val (.int ya), .val (.int ma), .val (.int da), .val (.int yb), .val (.int mb), .val (.int db), .val (.int (own_of ya ma da)), .val (.int (own_of yb mb db)), .val (.int (1 : Int32)), .val (.int (1 : Int32)), .val (.int (own_sign ya yb)), .unset] [(.int (own_of yb mb db)), (.int (own_of ya ma da))])) rfl (by rw [hml]; rfl) (lenOf pd_2 rfl) rfl (W := 0) (by show 2 * 0 + _ ≤ _; exact Nat.le_of_eq rfl) (hb hby at_213) (by decide) (by decide) (by decide) (by decide)
    have N114 := Fr.app N113 N114q
    refine own_by st114 ?_
    show own_Go p e below _ T114 (mkF m 216 #[.val (.int p1), .val (.int p2), .val (.int p3), .val (.int p4), .val (.int p5), .val (.int p6), .val (.int ya), .val (.int ma), .val (.int da), .val (.int yb), .val (.int mb), .val (.int db), .val (.int (own_of ya ma da)), .val (.int (own_of yb mb db)), .val (.int (1 : Int32)), .val (.int (1 : Int32)), .val (.int (own_sign ya yb)), .unset] [(.int (own_sign (own_of ya ma da) (own_of yb mb db)))])
    refine own_by (fun _ k => XS.istore X114.here hx rfl (hb hby at_216) rfl (l' := #[.val (.int p1), .val (.int p2), .val (.int p3), .val (.int p4), .val (.int p5), .val (.int p6), .val (.int ya), .val (.int ma), .val (.int da), .val (.int yb), .val (.int mb), .val (.int db), .val (.int (own_of ya ma da)), .val (.int (own_of yb mb db)), .val (.int (1 : Int32)), .val (.int (1 : Int32)), .val (.int (own_sign ya yb)), .val (.int (own_sign (own_of ya ma da) (own_of yb mb db)))]) rfl k) ?_
    show own_Go p e below _ T114 (mkF m 218 #[.val (.int p1), .val (.int p2), .val (.int p3), .val (.int p4), .val (.int p5), .val (.int p6), .val (.int ya), .val (.int ma), .val (.int da), .val (.int yb), .val (.int mb), .val (.int db), .val (.int (own_of ya ma da)), .val (.int (own_of yb mb db)), .val (.int (1 : Int32)), .val (.int (1 : Int32)), .val (.int (own_sign ya yb)), .val (.int (own_sign (own_of ya ma da) (own_of yb mb db)))] [])
    refine own_by (fun _ k => XS.iload X114.here hx rfl (hb hby at_218) rfl k) ?_
    show own_Go p e below _ T114 (mkF m 220 #[.val (.int p1), .val (.int p2), .val (.int p3), .val (.int p4), .val (.int p5), .val (.int p6), .val (.int ya), .val (.int ma), .val (.int da), .val (.int yb), .val (.int mb), .val (.int db), .val (.int (own_of ya ma da)), .val (.int (own_of yb mb db)), .val (.int (1 : Int32)), .val (.int (1 : Int32)), .val (.int (own_sign ya yb)), .val (.int (own_sign (own_of ya ma da) (own_of yb mb db)))] [(.int (own_of ya ma da))])
    refine own_by (fun _ k => XS.ifNo X114.here hx rfl (hb hby at_220) rfl ((if0 _ _).trans (tlt (own_pos ka : (0 : Int32) < (own_of ya ma da))).2.2.2) k) ?_
    show own_Go p e below _ T114 (mkF m 223 #[.val (.int p1), .val (.int p2), .val (.int p3), .val (.int p4), .val (.int p5), .val (.int p6), .val (.int ya), .val (.int ma), .val (.int da), .val (.int yb), .val (.int mb), .val (.int db), .val (.int (own_of ya ma da)), .val (.int (own_of yb mb db)), .val (.int (1 : Int32)), .val (.int (1 : Int32)), .val (.int (own_sign ya yb)), .val (.int (own_sign (own_of ya ma da) (own_of yb mb db)))] [])
    refine own_by (fun _ k => XS.iload X114.here hx rfl (hb hby at_223) rfl k) ?_
    show own_Go p e below _ T114 (mkF m 225 #[.val (.int p1), .val (.int p2), .val (.int p3), .val (.int p4), .val (.int p5), .val (.int p6), .val (.int ya), .val (.int ma), .val (.int da), .val (.int yb), .val (.int mb), .val (.int db), .val (.int (own_of ya ma da)), .val (.int (own_of yb mb db)), .val (.int (1 : Int32)), .val (.int (1 : Int32)), .val (.int (own_sign ya yb)), .val (.int (own_sign (own_of ya ma da) (own_of yb mb db)))] [(.int (own_of yb mb db))])
    refine own_by (fun _ k => XS.ifNo X114.here hx rfl (hb hby at_225) rfl ((if0 _ _).trans (tlt (own_pos kb : (0 : Int32) < (own_of yb mb db))).2.2.2) k) ?_
    show own_Go p e below _ T114 (mkF m 228 #[.val (.int p1), .val (.int p2), .val (.int p3), .val (.int p4), .val (.int p5), .val (.int p6), .val (.int ya), .val (.int ma), .val (.int da), .val (.int yb), .val (.int mb), .val (.int db), .val (.int (own_of ya ma da)), .val (.int (own_of yb mb db)), .val (.int (1 : Int32)), .val (.int (1 : Int32)), .val (.int (own_sign ya yb)), .val (.int (own_sign (own_of ya ma da) (own_of yb mb db)))] [])
    refine own_by (fun _ k => XS.iload X114.here hx rfl (hb hby at_228) rfl k) ?_
    show own_Go p e below _ T114 (mkF m 230 #[.val (.int p1), .val (.int p2), .val (.int p3), .val (.int p4), .val (.int p5), .val (.int p6), .val (.int ya), .val (.int ma), .val (.int da), .val (.int yb), .val (.int mb), .val (.int db), .val (.int (own_of ya ma da)), .val (.int (own_of yb mb db)), .val (.int (1 : Int32)), .val (.int (1 : Int32)), .val (.int (own_sign ya yb)), .val (.int (own_sign (own_of ya ma da) (own_of yb mb db)))] [(.int (1 : Int32))])
    refine own_by (fun _ k => XS.ifNo X114.here hx rfl (hb hby at_230) rfl ((if0 _ _).trans (feq (by decide : ¬ ((1 : Int32) = (0 : Int32)))).1) k) ?_
    show own_Go p e below _ T114 (mkF m 233 #[.val (.int p1), .val (.int p2), .val (.int p3), .val (.int p4), .val (.int p5), .val (.int p6), .val (.int ya), .val (.int ma), .val (.int da), .val (.int yb), .val (.int mb), .val (.int db), .val (.int (own_of ya ma da)), .val (.int (own_of yb mb db)), .val (.int (1 : Int32)), .val (.int (1 : Int32)), .val (.int (own_sign ya yb)), .val (.int (own_sign (own_of ya ma da) (own_of yb mb db)))] [])
    refine own_by (fun _ k => XS.iload X114.here hx rfl (hb hby at_233) rfl k) ?_
    show own_Go p e below _ T114 (mkF m 235 #[.val (.int p1), .val (.int p2), .val (.int p3), .val (.int p4), .val (.int p5), .val (.int p6), .val (.int ya), .val (.int ma), .val (.int da), .val (.int yb), .val (.int mb), .val (.int db), .val (.int (own_of ya ma da)), .val (.int (own_of yb mb db)), .val (.int (1 : Int32)), .val (.int (1 : Int32)), .val (.int (own_sign ya yb)), .val (.int (own_sign (own_of ya ma da) (own_of yb mb db)))] [(.int (1 : Int32))])
    refine own_by (fun _ k => XS.ifNo X114.here hx rfl (hb hby at_235) rfl ((if0 _ _).trans (feq (by decide : ¬ ((1 : Int32) = (0 : Int32)))).1) k) ?_
    show own_Go p e below _ T114 (mkF m 238 #[.val (.int p1), .val (.int p2), .val (.int p3), .val (.int p4), .val (.int p5), .val (.int p6), .val (.int ya), .val (.int ma), .val (.int da), .val (.int yb), .val (.int mb), .val (.int db), .val (.int (own_of ya ma da)), .val (.int (own_of yb mb db)), .val (.int (1 : Int32)), .val (.int (1 : Int32)), .val (.int (own_sign ya yb)), .val (.int (own_sign (own_of ya ma da) (own_of yb mb db)))] [])
    refine own_by (fun _ k => XS.iload X114.here hx rfl (hb hby at_238) rfl k) ?_
    show own_Go p e below _ T114 (mkF m 240 #[.val (.int p1), .val (.int p2), .val (.int p3), .val (.int p4), .val (.int p5), .val (.int p6), .val (.int ya), .val (.int ma), .val (.int da), .val (.int yb), .val (.int mb), .val (.int db), .val (.int (own_of ya ma da)), .val (.int (own_of yb mb db)), .val (.int (1 : Int32)), .val (.int (1 : Int32)), .val (.int (own_sign ya yb)), .val (.int (own_sign (own_of ya ma da) (own_of yb mb db)))] [(.int (own_sign ya yb))])
    refine own_by (fun _ k => XS.iload X114.here hx rfl (hb hby at_240) rfl k) ?_
    show own_Go p e below _ T114 (mkF m 242 #[.val (.int p1), .val (.int p2), .val (.int p3), .val (.int p4), .val (.int p5), .val (.int p6), .val (.int ya), .val (.int ma), .val (.int da), .val (.int yb), .val (.int mb), .val (.int db), .val (.int (own_of ya ma da)), .val (.int (own_of yb mb db)), .val (.int (1 : Int32)), .val (.int (1 : Int32)), .val (.int (own_sign ya yb)), .val (.int (own_sign (own_of ya ma da) (own_of yb mb db)))] [(.int (own_sign (own_of ya ma da) (own_of yb mb db))), (.int (own_sign ya yb))])
    refine own_by (fun _ k => XS.icmpNo X114.here hx rfl (hb hby at_242) rfl (teq (own_l1 ka kb hy : (own_sign ya yb) = (own_sign (own_of ya ma da) (own_of yb mb db)))).2 k) ?_
    show own_Go p e below _ T114 (mkF m 245 #[.val (.int p1), .val (.int p2), .val (.int p3), .val (.int p4), .val (.int p5), .val (.int p6), .val (.int ya), .val (.int ma), .val (.int da), .val (.int yb), .val (.int mb), .val (.int db), .val (.int (own_of ya ma da)), .val (.int (own_of yb mb db)), .val (.int (1 : Int32)), .val (.int (1 : Int32)), .val (.int (own_sign ya yb)), .val (.int (own_sign (own_of ya ma da) (own_of yb mb db)))] [])
    refine own_by (fun _ k => XS.iconst X114.here hx rfl (hb hby at_245) k) ?_
    show own_Go p e below _ T114 (mkF m 246 #[.val (.int p1), .val (.int p2), .val (.int p3), .val (.int p4), .val (.int p5), .val (.int p6), .val (.int ya), .val (.int ma), .val (.int da), .val (.int yb), .val (.int mb), .val (.int db), .val (.int (own_of ya ma da)), .val (.int (own_of yb mb db)), .val (.int (1 : Int32)), .val (.int (1 : Int32)), .val (.int (own_sign ya yb)), .val (.int (own_sign (own_of ya ma da) (own_of yb mb db)))] [(.int (1 : Int32))])
    refine own_by (fun _ k => XS.goto X114.here hx rfl (pc0 := 246) (pc' := 250) rfl (hb hby at_246) (by decide) (by decide) k) ?_
    show own_Go p e below _ T114 (mkF m 250 #[.val (.int p1), .val (.int p2), .val (.int p3), .val (.int p4), .val (.int p5), .val (.int p6), .val (.int ya), .val (.int ma), .val (.int da), .val (.int yb), .val (.int mb), .val (.int db), .val (.int (own_of ya ma da)), .val (.int (own_of yb mb db)), .val (.int (1 : Int32)), .val (.int (1 : Int32)), .val (.int (own_sign ya yb)), .val (.int (own_sign (own_of ya ma da) (own_of yb mb db)))] [(.int (1 : Int32))])
    exact own_retN X114 hx hlk hret (by simp) rfl (hb hby at_250) (by first | exact ⟨rfl, N114⟩ | (rw [e114]; exact ⟨rfl, N114⟩)) (by decide) (by decide)
set_option maxRecDepth 65536 in
set_option maxHeartbeats 40000000 in
theorem comes_1 {Post : Tables → Env → Array Value → State → Outcome → State → Prop} (hpost : ∀ tb e args s v u, (limb_1_1.after args s (.returned v) u = true ∧ limb_1_2.after args s (.returned v) u = true ∧ True) → FrameEnd s (.returned v) u (Jvm.fieldLocs frame_1_writes args s ++ Jvm.arrayLocs frame_1_arrays args s ++ Jvm.staticLocs frame_1_statics s) 0 0 → Post tb e args s (.returned v) u) :
    ArmFor flags0 classFile x code maxLocals ret World_1 tables_1 room_1 Calls_1 rest_1 Pre_1 Post := by
  intro l hfl _ _ p e ha hc hk s m args below hf hA hF happ hP
  obtain ⟨hcalls, hrest, hpre⟩ := hP
  obtain ⟨-, -, -, hnamed, -, -, -, hat⟩ := (Spec.applies_iff hf).mp happ
  obtain ⟨hg, hn⟩ := and_e (Cond.before_iff.mp (show (Jvm.Cond.and given_1 narrow_1).before args s = true from hpre))
  obtain ⟨g1, g2⟩ := and_e hg
  obtain ⟨g3, g4⟩ := and_e g2
  obtain ⟨g5, g6⟩ := and_e g4
  obtain ⟨g7, g8⟩ := and_e g6
  obtain ⟨g9, g10⟩ := and_e g8
  obtain ⟨g11, g12⟩ := and_e g10
  obtain ⟨w0, w1, w2, w3, w4, w5, rfl⟩ : ∃ w0 w1 w2 w3 w4 w5 : Value, args = #[w0, w1, w2, w3, w4, w5] := by
    have hs : args.size = 6 := by simpa [Cond.value, given_1] using g1
    obtain ⟨L⟩ := args
    match L, hs with
    | [w0, w1, w2, w3, w4, w5], _ => exact ⟨w0, w1, w2, w3, w4, w5, rfl⟩
  have hw := fun d (hd : d ∈ tables_1) => atoms_spec (ws := Jvm.Cond.code x code maxLocals ret :: tables_1) hat d (List.mem_cons_of_mem _ hd)
  have hfit : Fit s := fun {y c} hc i hi => by
    obtain ⟨ha, rfl⟩ := Array.getElem?_eq_some_iff.mp hc
    have q := List.all_eq_true.mp ((Array.all_eq_true_iff_forall_mem.mp hF) _ (Array.getElem_mem ha)) i (List.mem_range.mpr hi)
    simpa [Array.getElem?_eq_getElem hi] using q
  obtain ⟨i0, ei0⟩ := is_v g3
  obtain rfl : w0 = (.int i0) := Option.some.inj ei0
  obtain ⟨i1, ei1⟩ := is_v g5
  obtain rfl : w1 = (.int i1) := Option.some.inj ei1
  obtain ⟨i2, ei2⟩ := is_v g7
  obtain rfl : w2 = (.int i2) := Option.some.inj ei2
  obtain ⟨i3, ei3⟩ := is_v g9
  obtain rfl : w3 = (.int i3) := Option.some.inj ei3
  obtain ⟨i4, ei4⟩ := is_v g11
  obtain rfl : w4 = (.int i4) := Option.some.inj ei4
  obtain ⟨i5, ei5⟩ := is_v g12
  obtain rfl : w5 = (.int i5) := Option.some.inj ei5
  obtain ⟨n, o, h1, h2, h3, _, L, rfl, ⟨rfl, N⟩, hq⟩ := rm0 l s _ hw tables_1 i0 i1 i2 i3 i4 i5 s.heap s.heap.size (Nat.le_refl _)  p e ha hc hk s m _ below hf ((Spec.applies_iff_loose hf).mp happ).1 ⟨rfl, State.Warmed39.refl s, rfl⟩ trivial
  refine ⟨n, _, h1, h2, h3, hpost _ _ _ _ _ _ ⟨Cond.after_iff.mpr rfl, Cond.after_iff.mpr (eq_i res_at (Term.int_eval (1)) rfl), trivial⟩ ⟨hq.1, hq.2.1, (hq.2.2.sift fun y hy => Or.inr (N y hy)).mono (by decide) (by decide)⟩⟩
theorem main_1_1 : Claimed_1_1 := comes_1 fun _ _ _ _ _ _ h hF => ⟨h.1, hF⟩
theorem main_1_2 : Claimed_1_2 := comes_1 fun _ _ _ _ _ _ h hF => ⟨h.2.1, hF⟩
end Jvm.Pilot.@@N@@
namespace Jvm.Pilot.@@N@@
open Jvm Jvm.ClassFile Sem Op Lib Jvm.Free Jvm.Stand Jvm.Pilot.@@N@@.Jvm.D
/-! MADE BY PROGRAM (witnessworld.py) out of the Statement's table words and the real class files: 9 classes; the members and pool entries that the words name. The judged class is class 1, her method 2. -/
namespace start1
open Jvm.ClassFile
def u (s : String) : CpInfo := .utf8 (stringToUtf16 s)
/-- a pool by its gaps: so many unusable entries, then the entry; so many at the end -/
def gap : Nat → List CpInfo → List CpInfo
  | 0, r => r
  | n + 1, r => .unusable :: gap n r
def poolList (es : List (Nat × CpInfo)) (last : Nat) : List CpInfo := es.foldr (fun e r => gap e.1 (e.2 :: r)) (gap last [])
def pool (es : List (Nat × CpInfo)) (last : Nat) : Array CpInfo := ⟨poolList es last⟩
def fileOf (pool : Array CpInfo) (this : Nat) (attrs : Array Attribute := #[]) (ms : Array MethodInfo := #[]) (fl : Nat := 33) (sup : Nat := 0) (ifs : Array Nat := #[]) (fds : Array FieldInfo := #[]) : ClassFile where
  minorVersion := 0
  majorVersion := 65
  constantPool := pool
  accessFlags := fl
  thisClass := this
  superClass := sup
  interfaces := ifs
  fields := fds
  methods := ms
  attributes := attrs
def plain (name : String) (sup : Option ClassId) : Class where
  name := name
  kind := .ordinary
  loader := none
  accessFlags := 33
  super := sup
  interfaces := #[]
  cf := none
  fields := #[]
  methods := #[]
  instanceTypes := #[]
  staticTypes := #[]
  resolved := #[]
  callSites := []
  init := .initialized
  statics := none
  mirror := none

def pool0 : Array CpInfo := pool [(5, u "<init>"), (0, u "()V"), (1, .class_ 10), (1, u "java/lang/Object")] 113

def k0m0 : Method := { name := "<init>", desc := "()V", sig := { parameters := [], returnType := none }, accessFlags := 1, code := none }
/-- java/lang/Object -/
def k0 : Class := { plain "java/lang/Object" none with
  accessFlags := 33
  interfaces := #[]
  cf := some (fileOf pool0 8 #[] #[{ accessFlags := 1, nameIndex := 5, descriptorIndex := 6, attributes := #[] }] 33 0 #[] #[])
  fields := #[]
  methods := #[k0m0]
  instanceTypes := #[]
  staticTypes := #[]
  resolved := Array.replicate 124 none
  statics := none }

def pool1 : Array CpInfo := pool [(2, .class_ 4), (1, u "java/lang/Object"), (0, u "<init>"), (0, u "()V"), (0, .integer 2147483647), (0, .methodref 9 10), (0, .class_ 11), (0, .nameAndType 12 13), (0, u "com/example/vestwright/vestwright/input/PackedDate"), (0, u "of"), (0, u "(III)I"), (0, .methodref 9 15), (0, .nameAndType 16 17), (0, u "year"), (0, u "(I)I"), (0, .methodref 9 19), (0, .nameAndType 20 17), (0, u "month"), (0, .methodref 9 22), (0, .nameAndType 23 17), (0, u "day"), (0, .methodref 25 26), (0, .class_ 27), (0, .nameAndType 28 29), (0, u "com/example/vestwright/vestwright/input/PackedDateOfPinLaw"), (0, u "sign"), (0, u "(II)I"), (3, u "law"), (0, u "(IIIIII)Z")] 2

def k1m0 : Method := { name := "<init>", desc := "()V", sig := { parameters := [], returnType := none }, accessFlags := 2, code := none }
def k1c1 : Code := { maxStack := 2, maxLocals := 2, code := method_2_code, exceptionTable := #[], attributes := #[] }
def k1m1 : Method := { name := "sign", desc := "(II)I", sig := { parameters := [.int, .int], returnType := some .int }, accessFlags := 10, code := some k1c1 }
def k1c2 : Code := { maxStack := 3, maxLocals := 18, code := code, exceptionTable := #[], attributes := #[] }
def k1m2 : Method := { name := "law", desc := "(IIIIII)Z", sig := { parameters := [.int, .int, .int, .int, .int, .int], returnType := some .boolean }, accessFlags := 9, code := some k1c2 }
/-- com/example/vestwright/vestwright/input/PackedDateOfPinLaw -/
def k1 : Class := { plain "com/example/vestwright/vestwright/input/PackedDateOfPinLaw" (some 0) with
  accessFlags := 49
  interfaces := #[]
  cf := some (fileOf pool1 25 #[] #[{ accessFlags := 2, nameIndex := 5, descriptorIndex := 6, attributes := #[] }, { accessFlags := 10, nameIndex := 28, descriptorIndex := 29, attributes := #[] }, { accessFlags := 9, nameIndex := 33, descriptorIndex := 34, attributes := #[] }] 49 2 #[] #[])
  fields := #[]
  methods := #[k1m0, k1m1, k1m2]
  instanceTypes := #[]
  staticTypes := #[]
  resolved := Array.replicate 37 none
  statics := none }

def pool2 : Array CpInfo := pool [(2, .class_ 4), (1, u "java/lang/Object"), (0, u "<init>"), (0, u "()V"), (13, .class_ 22), (1, u "com/example/vestwright/vestwright/input/PackedDate"), (0, u "of"), (0, u "(III)I"), (2, u "year"), (0, u "(I)I"), (2, u "month"), (2, u "day")] 39

def k2m0 : Method := { name := "<init>", desc := "()V", sig := { parameters := [], returnType := none }, accessFlags := 2, code := none }
def k2c1 : Code := { maxStack := 3, maxLocals := 3, code := prog_61_method_2_code, exceptionTable := #[], attributes := #[] }
def k2m1 : Method := { name := "of", desc := "(III)I", sig := { parameters := [.int, .int, .int], returnType := some .int }, accessFlags := 9, code := some k2c1 }
def k2c2 : Code := { maxStack := 2, maxLocals := 1, code := prog_61_method_5_code, exceptionTable := #[], attributes := #[] }
def k2m2 : Method := { name := "year", desc := "(I)I", sig := { parameters := [.int], returnType := some .int }, accessFlags := 9, code := some k2c2 }
def k2c3 : Code := { maxStack := 2, maxLocals := 1, code := prog_61_method_6_code, exceptionTable := #[], attributes := #[] }
def k2m3 : Method := { name := "month", desc := "(I)I", sig := { parameters := [.int], returnType := some .int }, accessFlags := 9, code := some k2c3 }
def k2c4 : Code := { maxStack := 2, maxLocals := 1, code := prog_61_method_7_code, exceptionTable := #[], attributes := #[] }
def k2m4 : Method := { name := "day", desc := "(I)I", sig := { parameters := [.int], returnType := some .int }, accessFlags := 9, code := some k2c4 }
/-- com/example/vestwright/vestwright/input/PackedDate -/
def k2 : Class := { plain "com/example/vestwright/vestwright/input/PackedDate" (some 0) with
  accessFlags := 33
  interfaces := #[]
  cf := some (fileOf pool2 20 #[] #[{ accessFlags := 2, nameIndex := 5, descriptorIndex := 6, attributes := #[] }, { accessFlags := 9, nameIndex := 23, descriptorIndex := 24, attributes := #[] }, { accessFlags := 9, nameIndex := 27, descriptorIndex := 28, attributes := #[] }, { accessFlags := 9, nameIndex := 31, descriptorIndex := 28, attributes := #[] }, { accessFlags := 9, nameIndex := 34, descriptorIndex := 28, attributes := #[] }] 33 2 #[] #[])
  fields := #[]
  methods := #[k2m0, k2m1, k2m2, k2m3, k2m4]
  instanceTypes := #[]
  staticTypes := #[]
  resolved := Array.replicate 74 none
  statics := none }

def pool3 : Array CpInfo := pool [(1, u "java/lang/Cloneable"), (0, .class_ 1), (0, u "java/lang/Object"), (0, .class_ 3)] 3

/-- java/lang/Cloneable -/
def k3 : Class := { plain "java/lang/Cloneable" (some 0) with
  accessFlags := 1537
  interfaces := #[]
  cf := some (fileOf pool3 2 #[] #[] 1537 4 #[] #[])
  fields := #[]
  methods := #[]
  instanceTypes := #[]
  staticTypes := #[]
  resolved := Array.replicate 8 none
  statics := none }

def pool4 : Array CpInfo := pool [(1, u "java/io/Serializable"), (0, .class_ 1), (0, u "java/lang/Object"), (0, .class_ 3)] 3

/-- java/io/Serializable -/
def k4 : Class := { plain "java/io/Serializable" (some 0) with
  accessFlags := 1537
  interfaces := #[]
  cf := some (fileOf pool4 2 #[] #[] 1537 4 #[] #[])
  fields := #[]
  methods := #[]
  instanceTypes := #[]
  staticTypes := #[]
  resolved := Array.replicate 8 none
  statics := none }

/-- the primitive byte -/
def k5 : Class := { plain "byte" none with kind := .primitive 'B', accessFlags := 0x411 }
/-- [B -/
def k6 : Class := { plain "[B" (some 0) with kind := .array 5 .byte, interfaces := #[3, 4], accessFlags := 1041 }

/-- the primitive int -/
def k7 : Class := { plain "int" none with kind := .primitive 'I', accessFlags := 0x411 }
/-- [I -/
def k8 : Class := { plain "[I" (some 0) with kind := .array 7 .int, interfaces := #[3, 4], accessFlags := 1041 }

def heap : Heap := #[]
def classes : Array Class := #[k0, k1, k2, k3, k4, k5, k6, k7, k8]
def interned : List (Array UInt16 × Addr) := []
def slotsUsed : Nat := 0
def theMethod : MethodId := ⟨1, 2⟩
def args0 : Array Value := #[.int 1, .int 2, .int 3, .int 4, .int 5, .int 6]
def aboutOver (below : List Frame) : State where
  vm := { classes := classes, interned := interned.toArray }
  heap := heap
  slotsUsed := slotsUsed
  threads := #[{ frames := .invoking theMethod args0 :: below }]
def below0 : List Frame := [.native { method := ⟨0, 0⟩, args := #[] }]
def about1 : State := aboutOver below0
def p0 : Program := .bare "" "" ""
def e0 : Env := launch0.env 0 0 0
theorem w_frames : about1.frames = Frame.invoking theMethod args0 :: below0 := rfl
set_option maxRecDepth 65536 in
theorem w_args : argsFit about1.vm theMethod args0 = true := by decide +kernel
set_option maxRecDepth 65536 in
theorem w_heap : heapFits about1 = true := by decide +kernel
set_option maxRecDepth 65536 in
theorem w_runnable : about1.curStatus? = some .runnable := by decide +kernel
set_option maxRecDepth 65536 in
theorem w_alone : about1.alone = true := by decide +kernel
set_option maxRecDepth 65536 in
theorem w_named : about1.methodNamed? x = some theMethod := by decide +kernel
set_option maxRecDepth 65536 in
theorem w_hears : about1.hears theMethod below0 = true := by decide +kernel
set_option maxRecDepth 65536 in
theorem w_ripe : about1.ripe theMethod args0 below0 = true := by decide +kernel
theorem w_running : about1.status = .running := rfl
set_option maxRecDepth 65536 in
theorem w_room : about1.hasRoom e0.platform room_1 = true :=
  launch0.hasRoom_least _ room_1 (by decide +kernel) (by decide +kernel) (by decide +kernel) (by decide +kernel) (by decide +kernel) (by decide +kernel)
theorem allAtoms_all (ts : List Jvm.Cond) (a : Array Jvm.Value) (st : Jvm.State) : (allAtoms ts).before a st = ts.all (fun c => c.before a st) := by
  induction ts with
  | nil => rfl
  | cons c t ih =>
    show (Jvm.Cond.and c (allAtoms t)).before a st = _
    rw [Jvm.Cond.before_and, ih, List.all_cons]
def words1 : List Jvm.Cond := Jvm.Cond.code x code maxLocals ret :: tables_1
/-- a 'code' word, met by the world's own term for the bytes: nothing is compared byte by byte -/
theorem code_word {y : MethodName} {bytes : ByteArray} {mx : Nat} {rt : Option FieldType} {a : Array Value} {s : State} {m : MethodId} {meth : Method} {c : Code} (h1 : s.methodNamed? y = some m) (h2 : s.vm.method? m = some meth) (h3 : meth.code = some c) (h4 : c.code = bytes)
    (h5 : (c.maxLocals == mx && c.exceptionTable.isEmpty && decide (c.maxStack ≤ mostOperands) && decide (meth.sig.returnType = rt) && !meth.locks && decide (parseMethodDescriptor y.desc = some meth.sig)) = true) : (Jvm.Cond.code y bytes mx rt).before a s = true := by
  simp only [Bool.and_eq_true, beq_iff_eq, Bool.not_eq_true', decide_eq_true_eq] at h5
  obtain ⟨⟨⟨⟨⟨g1, g2⟩, g3⟩, g4⟩, g5⟩, g6⟩ := h5
  simp [Cond.before, Cond.holds, Cond.value, h1, h2, h3, h4, g1, g2, g3, g4, g5, g6]
def isCode : Jvm.Cond → Bool
  | .code _ _ _ _ => true
  | _ => false
theorem all_split {L : List Jvm.Cond} {P : Jvm.Cond → Bool} (h1 : L.all (fun c => isCode c || P c) = true) (h2 : ∀ c ∈ L.filter isCode, P c = true) : L.all P = true := by
  refine List.all_eq_true.mpr fun c hc => ?_
  have h := List.all_eq_true.mp h1 c hc
  rcases Bool.eq_false_or_eq_true (isCode c) with hi | hi
  · exact h2 c (List.mem_filter.mpr ⟨hc, hi⟩)
  · simpa [hi] using h
set_option maxRecDepth 65536 in
theorem w_c0 : (Jvm.Cond.code x code maxLocals ret).before args0 about1 = true := code_word (m := ⟨1, 2⟩) (meth := k1m2) (c := k1c2) (by decide +kernel) rfl rfl rfl (by decide +kernel)
set_option maxRecDepth 65536 in
theorem w_c1 : (Jvm.Cond.code ({ cls := "com/example/vestwright/vestwright/input/PackedDate", name := "of", desc := "(III)I" } : Jvm.MethodName) prog_61_method_2_code (3 : Nat) (Option.some Jvm.ClassFile.FieldType.int)).before args0 about1 = true := code_word (m := ⟨2, 1⟩) (meth := k2m1) (c := k2c1) (by decide +kernel) rfl rfl rfl (by decide +kernel)
set_option maxRecDepth 65536 in
theorem w_c2 : (Jvm.Cond.code ({ cls := "com/example/vestwright/vestwright/input/PackedDate", name := "year", desc := "(I)I" } : Jvm.MethodName) prog_61_method_5_code (1 : Nat) (Option.some Jvm.ClassFile.FieldType.int)).before args0 about1 = true := code_word (m := ⟨2, 2⟩) (meth := k2m2) (c := k2c2) (by decide +kernel) rfl rfl rfl (by decide +kernel)
set_option maxRecDepth 65536 in
theorem w_c3 : (Jvm.Cond.code ({ cls := "com/example/vestwright/vestwright/input/PackedDate", name := "month", desc := "(I)I" } : Jvm.MethodName) prog_61_method_6_code (1 : Nat) (Option.some Jvm.ClassFile.FieldType.int)).before args0 about1 = true := code_word (m := ⟨2, 3⟩) (meth := k2m3) (c := k2c3) (by decide +kernel) rfl rfl rfl (by decide +kernel)
set_option maxRecDepth 65536 in
theorem w_c4 : (Jvm.Cond.code ({ cls := "com/example/vestwright/vestwright/input/PackedDate", name := "day", desc := "(I)I" } : Jvm.MethodName) prog_61_method_7_code (1 : Nat) (Option.some Jvm.ClassFile.FieldType.int)).before args0 about1 = true := code_word (m := ⟨2, 4⟩) (meth := k2m4) (c := k2c4) (by decide +kernel) rfl rfl rfl (by decide +kernel)
set_option maxRecDepth 65536 in
theorem w_c5 : (Jvm.Cond.code ({ cls := "com/example/vestwright/vestwright/input/PackedDateOfPinLaw", name := "sign", desc := "(II)I" } : Jvm.MethodName) method_2_code (2 : Nat) (Option.some Jvm.ClassFile.FieldType.int)).before args0 about1 = true := code_word (m := ⟨1, 1⟩) (meth := k1m1) (c := k1c1) (by decide +kernel) rfl rfl rfl (by decide +kernel)
def codes1 : List Jvm.Cond := [Jvm.Cond.code x code maxLocals ret, Jvm.Cond.code ({ cls := "com/example/vestwright/vestwright/input/PackedDate", name := "of", desc := "(III)I" } : Jvm.MethodName) prog_61_method_2_code (3 : Nat) (Option.some Jvm.ClassFile.FieldType.int), Jvm.Cond.code ({ cls := "com/example/vestwright/vestwright/input/PackedDate", name := "year", desc := "(I)I" } : Jvm.MethodName) prog_61_method_5_code (1 : Nat) (Option.some Jvm.ClassFile.FieldType.int), Jvm.Cond.code ({ cls := "com/example/vestwright/vestwright/input/PackedDate", name := "month", desc := "(I)I" } : Jvm.MethodName) prog_61_method_6_code (1 : Nat) (Option.some Jvm.ClassFile.FieldType.int), Jvm.Cond.code ({ cls := "com/example/vestwright/vestwright/input/PackedDate", name := "day", desc := "(I)I" } : Jvm.MethodName) prog_61_method_7_code (1 : Nat) (Option.some Jvm.ClassFile.FieldType.int), Jvm.Cond.code ({ cls := "com/example/vestwright/vestwright/input/PackedDateOfPinLaw", name := "sign", desc := "(II)I" } : Jvm.MethodName) method_2_code (2 : Nat) (Option.some Jvm.ClassFile.FieldType.int)]
set_option maxRecDepth 65536 in
theorem codes_eq : words1.filter isCode = codes1 := rfl
theorem w_codes : ∀ c ∈ words1.filter isCode, c.before args0 about1 = true := by
  rw [codes_eq]
  intro c hc
  simp only [codes1, List.mem_cons, List.not_mem_nil, or_false] at hc
  rcases hc with rfl | rfl | rfl | rfl | rfl | rfl
  · exact w_c0
  · exact w_c1
  · exact w_c2
  · exact w_c3
  · exact w_c4
  · exact w_c5
set_option maxRecDepth 65536 in
theorem w_t1 : words1.all (fun c => isCode c || c.before args0 about1) = true := by decide +kernel
theorem w_tables : (allAtoms (Jvm.Cond.code x code maxLocals ret :: tables_1)).before args0 about1 = true := by
  rw [allAtoms_all]
  show words1.all (fun c => c.before args0 about1) = true
  refine all_split ?_ w_codes
  rw [w_t1]
set_option maxRecDepth 65536 in
theorem w_case : (Jvm.Cond.and given_1 narrow_1).before args0 about1 = true := by decide +kernel
theorem w_applies : (headSpec (Jvm.Cond.code x code maxLocals ret :: tables_1) room_1).applies x e0.platform about1 = true :=
  (Spec.applies_iff w_frames).mpr ⟨w_running, w_runnable, w_alone, w_named, w_hears, w_ripe, w_room, w_tables⟩
theorem atStart : AtStart classFile x code maxLocals ret World_1 tables_1 room_1 Calls_1 rest_1 Pre_1 launch0 p0 e0 about1 theMethod args0 below0 :=
  ⟨lists_1, trivial, launch0.admits_env _ _ _, launch0.least_env, fairChoices_fair.cas, fairChoices_fair.clock, w_frames, w_args, w_heap, w_applies, trivial, trivial, w_case⟩
end start1
theorem witness_1 : WitnessClaimed_1 := ⟨start1.p0, start1.e0, start1.about1, start1.theMethod, start1.args0, start1.below0, start1.atStart⟩
end Jvm.Pilot.@@N@@
