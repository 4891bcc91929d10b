import JvmDerived
import JvmDerived.Pilot.@@N@@Statement
import JvmDerived.Pilot.@@N@@Code
set_option linter.unusedVariables false
set_option linter.unusedSimpArgs false
namespace Jvm.Pilot.@@N@@
open Jvm Jvm.ClassFile Sem Op Lib Jvm.Free Jvm.Stand Jvm.LawKit Jvm.RoadKit Bundle Jvm.Pilot.@@N@@.Jvm.D
section OwnKit
variable {p : Program} {l : Launch} {e : Env} {R : Room} {s : State} {m : MethodId} {args : Array Value} {below : List Frame} {meth : Method} {c : Code} {T T' : State} {locs : List Loc} {cells slots : Nat} {Z : State} {a0 : Array Value} {h : Heap}
/-- from here the run comes to an end of which E speaks -/
def own_Go (p : Program) (e : Env) (below : List Frame) (E : State → Outcome → Prop) (T : State) (g : JFrame) : Prop :=
  ∃ t o, Steps p.tables e below (T.setTop g) t ∧ t.status = .running ∧ Ended t below o ∧ E t o
def own_End (s : State) (k n : Nat) (Q : Option Value → Heap → List Loc → Prop) (t : State) (o : Outcome) : Prop :=
  ∃ v L, o = .returned v ∧ Q v t.heap L ∧ FrameEnd s o t L k n
theorem own_by {E : State → Outcome → Prop} {g g' : JFrame} (st : ∀ target, Steps p.tables e below (T'.setTop g') target → Steps p.tables e below (T.setTop g) target) (k : own_Go p e below E T' g') : own_Go p e below E T g := by
  obtain ⟨t, o, h1, r⟩ := k
  exact ⟨t, o, st t h1, r⟩
theorem own_retW (X : Stand p l e R s m args below meth c T locs cells slots) (hx : p.tables.exec = Jvm.exec) (hlk : meth.locks = false) {pc : Nat} {Ls : Array Slot} {w : Value} {t : FieldType} {i : Instr} {rest : List Value} (hret : meth.sig.returnType = some t) (hn : narrow t w = w)
    (hi : (i = .ireturn ∧ (t = .int ∨ t = .boolean ∨ t = .byte ∨ t = .char ∨ t = .short) ∧ ∃ z, w = .int z) ∨ (i = .lreturn ∧ t = .long ∧ ∃ z, w = .long z) ∨ (i = .dreturn ∧ t = .double ∧ ∃ z, w = .double z) ∨ (i = .freturn ∧ t = .float ∧ ∃ z, w = .float z) ∨ (i = .areturn ∧ t.isReference = true ∧ w.isRef = true))
    (hd : decode c.code pc = .ok (i, 1)) {Q : Option Value → Heap → List Loc → Prop} {k n : Nat} (hQ : Q (some w) T.heap locs) (hk : cells ≤ k) (hs : slots ≤ n) : own_Go p e below (own_End s k n Q) T (mkF m pc Ls (w :: rest)) := by
  obtain ⟨fs, hr, hrun, hended, hW, hsame⟩ := X.leave (v := some w) (fun h => by rw [hret] at h; cases h) hlk
  exact ⟨_, _, retOut X hx hret hn hi hd hr, hrun, hended, _, _, rfl, hQ, ⟨_, rfl⟩, hW, hsame.mono hk hs⟩
theorem own_retI (X : Stand p l e R s m args below meth c T locs cells slots) (hx : p.tables.exec = Jvm.exec) (hlk : meth.locks = false) {pc : Nat} {Ls : Array Slot} {z : Int32} {rest : List Value} (hret : meth.sig.returnType = some .int) (hd : decode c.code pc = .ok (.ireturn, 1)) {Q : Option Value → Heap → List Loc → Prop} {k n : Nat} (hQ : Q (some (.int z)) T.heap locs) (hk : cells ≤ k) (hs : slots ≤ n) : own_Go p e below (own_End s k n Q) T (mkF m pc Ls (.int z :: rest)) :=
  own_retW X hx hlk hret rfl (Or.inl ⟨rfl, Or.inl rfl, z, rfl⟩) hd hQ hk hs
theorem own_retJ (X : Stand p l e R s m args below meth c T locs cells slots) (hx : p.tables.exec = Jvm.exec) (hlk : meth.locks = false) {pc : Nat} {Ls : Array Slot} {z : Int64} {rest : List Value} (hret : meth.sig.returnType = some .long) (hd : decode c.code pc = .ok (.lreturn, 1)) {Q : Option Value → Heap → List Loc → Prop} {k n : Nat} (hQ : Q (some (.long z)) T.heap locs) (hk : cells ≤ k) (hs : slots ≤ n) : own_Go p e below (own_End s k n Q) T (mkF m pc Ls (.long z :: rest)) :=
  own_retW X hx hlk hret rfl (Or.inr (Or.inl ⟨rfl, rfl, z, rfl⟩)) hd hQ hk hs
theorem own_retA (X : Stand p l e R s m args below meth c T locs cells slots) (hx : p.tables.exec = Jvm.exec) (hlk : meth.locks = false) {pc : Nat} {Ls : Array Slot} {w : Value} {t : FieldType} {rest : List Value} (hret : meth.sig.returnType = some t) (ht : t.isReference = true) (hw : w.isRef = true) (hd : decode c.code pc = .ok (.areturn, 1)) {Q : Option Value → Heap → List Loc → Prop} {k n : Nat} (hQ : Q (some w) T.heap locs) (hk : cells ≤ k) (hs : slots ≤ n) : own_Go p e below (own_End s k n Q) T (mkF m pc Ls (w :: rest)) :=
  own_retW X hx hlk hret (by cases t <;> first | (cases ht; done) | (cases w <;> first | rfl | (cases hw; done))) (Or.inr (Or.inr (Or.inr (Or.inr ⟨rfl, ht, hw⟩)))) hd hQ hk hs
theorem own_retN (X : Stand p l e R s m args below meth c T locs cells slots) (hx : p.tables.exec = Jvm.exec) (hlk : meth.locks = false) {pc : Nat} {Ls : Array Slot} {z : Int32} {t : FieldType} {rest : List Value} (hret : meth.sig.returnType = some t) (ht : t = .boolean ∨ t = .byte ∨ t = .char ∨ t = .short) (hn : nar t z = z) (hd : decode c.code pc = .ok (.ireturn, 1)) {Q : Option Value → Heap → List Loc → Prop} {k n : Nat} (hQ : Q (some (.int z)) T.heap locs) (hk : cells ≤ k) (hs : slots ≤ n) : own_Go p e below (own_End s k n Q) T (mkF m pc Ls (.int z :: rest)) :=
  own_retW X hx hlk hret (by rcases ht with rfl | rfl | rfl | rfl <;> exact congrArg Value.int hn) (Or.inl ⟨rfl, Or.inr ht, z, rfl⟩) hd hQ hk hs
theorem own_ret0 (X : Stand p l e R s m args below meth c T locs cells slots) (hx : p.tables.exec = Jvm.exec) (hlk : meth.locks = false) {pc : Nat} {Ls : Array Slot} (hret : meth.sig.returnType = none) (hd : decode c.code pc = .ok (.return_, 1)) {Q : Option Value → Heap → List Loc → Prop} {k n : Nat} (hQ : Q none T.heap locs) (hk : cells ≤ k) (hs : slots ≤ n) : own_Go p e below (own_End s k n Q) T (mkF m pc Ls []) := by
  obtain ⟨fs, hr, hrun, hended, hW, hsame⟩ := X.leave (v := none) (fun _ => rfl) hlk
  exact ⟨_, _, X.returnOut hx hret hd hr, hrun, hended, _, _, rfl, hQ, ⟨_, rfl⟩, hW, hsame.mono hk hs⟩
theorem own_lrem {g : JFrame} {target : State} (X : Stand p l e R s m args below meth c T locs cells slots) (hx : p.tables.exec = Jvm.exec) (hg : g.method = m) {x y : Int64} {rest : List Value} (hd : decode c.code g.pc = .ok (.lrem, 1)) (hs : g.stack = .long y :: .long x :: rest) (hy : y ≠ 0)
    (hr : Steps p.tables e below (T.setTop { g with pc := g.pc + 1, stack := .long (x % y) :: rest }) target) : Steps p.tables e below (T.setTop g) target :=
  XS.lrem X.here hx hg hd hs hy (by rw [lrem_mod]; exact hr)
/-- a body's contract: called with as' at the heap h it returns, and Q speaks of what it returns, the heap that it leaves and the places that it wrote -/
abbrev own_Met (l : Launch) (Z : State) (y : MethodName) (bytes : ByteArray) (maxL : Nat) (rt : Option FieldType) (ws : List Jvm.Cond) (rm : Room) (as' : Array Value) (h : Heap) (Q : Option Value → Heap → List Loc → Prop) : Prop :=
  MetFree l y (head1 (Jvm.Cond.code y bytes maxL rt :: ws) rm) (fun a U => a = as' ∧ Z.Warmed39 U.vm ∧ U.heap = h) (fun _ _ _ _ _ => True) (fun _ U o U' => ∃ v L, o = .returned v ∧ Q v U'.heap L ∧ FrameEnd U o U' L rm.cells rm.slots)
theorem own_enter {y : MethodName} {bytes : ByteArray} {maxL : Nat} {rt : Option FieldType} {ws : List Jvm.Cond} {rm : Room} {as' : Array Value} {Q : Option Value → Heap → List Loc → Prop} (hy : plainFor y = true) {g0 : MethodId → JFrame} (hg0 : ∀ m, entryFrame m as' maxL = g0 m)
    (body : ∀ (p : Program) (e : Env) (s : State) (m : MethodId) (below : List Frame) (meth : Method) (c : Code) (s₁ : State), p.tables.exec = Jvm.exec → c.code = bytes → c.maxLocals = maxL → s.vm.findClass y.cls = some m.cls → meth.name = y.name → meth.sig.returnType = rt → meth.locks = false → Z.Warmed39 s.vm → Stand p l e rm s m as' below meth c s₁ [] 0 0 → s₁.heap = h → own_Go p e below (own_End s rm.cells rm.slots Q) s₁ (g0 m)) :
    own_Met l Z y bytes maxL rt ws rm as' h Q := by
  refine MetFree.of_bodySF hy hisR ?_
  intro p e s m args below meth c s₁ Bd hml0 hP hK
  obtain ⟨rfl, hZ, hh⟩ := hP
  obtain ⟨t, o, h1, h2, h3, h4⟩ := body p e s m below meth c s₁ Bd.exec Bd.bytes hml0 (findClass_of_methodNamed Bd.named) (name_of_methodNamed Bd.named Bd.method).1 Bd.returns (BodyLoose.notSynchronized Bd) hZ (Stand.of_body Bd) (by rw [← hh, Bd.state]; rfl)
  exact ⟨t, o, castTop (hg0 m) h1, h2, h3, h4⟩
theorem own_callS (X : Stand p l e R s m args below meth c T locs cells slots) (hx : p.tables.exec = Jvm.exec) (hZ : Z.Warmed39 s.vm) {own : String} (hown : s.vm.findClass own = some m.cls) {index : Nat} {y : MethodName} {bytes : ByteArray} {maxL : Nat} {rt : Option FieldType}
    (w1 : (Jvm.Cond.methodLink own index y).before a0 Z = true) (w2 : (Jvm.Cond.static y).before a0 Z = true) (w3 : (Jvm.Cond.initialized y.cls).before a0 Z = true) (w4 : (Jvm.Cond.code y bytes maxL rt).before a0 Z = true)
    (hy : y.cls ≠ "java/lang/invoke/MethodHandle" ∧ y.cls ≠ "java/lang/invoke/VarHandle") {rm : Room} {argsL rest : List Value} {Q : Option Value → Heap → List Loc → Prop} (eT : T.heap = h) (hM : own_Met l Z y bytes maxL rt [] rm argsL.toArray h Q)
    {g : JFrame} (hg : g.method = m) (hsize : g.locals.size = c.maxLocals) (hlen : ∀ sig, parseMethodDescriptor y.desc = some sig → argsL.length = sig.parameters.length) (hstack : g.stack = argsL.reverse ++ rest) {W : Nat} (hW : 2 * g.monitorRoom + (rest.map fun v => v.category).sum ≤ W) (hd : decode c.code g.pc = .ok (.invokestatic index, 3))
    (hf : rm.frames + 1 ≤ R.frames) (hl : W + (maxL + 11) + rm.locals ≤ R.locals) (hc : cells + rm.cells ≤ R.cells) (hs : slots + rm.slots ≤ R.slots) :
    ∃ v T' L, Stand p l e R s m args below meth c T' (locs ++ L) (cells + rm.cells) (slots + rm.slots) ∧ Q v T'.heap L ∧ ∀ target, Steps p.tables e below (T'.setTop { g with pc := g.pc + 3, stack := v.toList ++ rest }) target → Steps p.tables e below (T.setTop g) target := by
  obtain ⟨v, _, ⟨T1, L1, k1, n1⟩, -, X1, ⟨Lc, hQ, l1, y1, z1⟩, st⟩ := Jvm.LawKit.callS X hx (y := y) hown (mvT hZ w1) (mvT hZ w2) (mvT hZ w3) (mvT hZ w4) hy (backOf (W := W) hM hZ w4 w3 hf hl) (g := g) hg hsize (argsL := argsL) (rest := rest) hlen hstack hW hd (fun _ _ => ⟨rfl, eT, hc, hs⟩)
  dsimp only [Pt.U, Pt.locs, Pt.cells, Pt.slots] at X1 l1 y1 z1 st hQ
  subst l1 y1 z1
  exact ⟨v, T1, Lc, X1, hQ, st⟩
theorem own_callI (X : Stand p l e R s m args below meth c T locs cells slots) (hx : p.tables.exec = Jvm.exec) (hZ : Z.Warmed39 s.vm) {own : String} (hown : s.vm.findClass own = some m.cls) {index : Nat} {y : MethodName} {bytes : ByteArray} {maxL : Nat} (hy1 : y.name = "<init>")
    (w1 : (Jvm.Cond.methodLink own index y).before a0 Z = true) (w2 : (Jvm.Cond.instanceMethod y).before a0 Z = true) (w3 : (Jvm.Cond.initialized y.cls).before a0 Z = true) (w4 : (Jvm.Cond.code y bytes maxL none).before a0 Z = true)
    (hy : y.cls ≠ "java/lang/invoke/MethodHandle" ∧ y.cls ≠ "java/lang/invoke/VarHandle") {rm : Room} {a : Addr} {argsL rest : List Value} {Q : Option Value → Heap → List Loc → Prop} (eT : T.heap = h) (hM : own_Met l Z y bytes maxL none [] rm (.ref a :: argsL).toArray h Q)
    {g : JFrame} (hg : g.method = m) (hsize : g.locals.size = c.maxLocals) (hlen : ∀ sig, parseMethodDescriptor y.desc = some sig → argsL.length = sig.parameters.length) (hstack : g.stack = argsL.reverse ++ .ref a :: rest) {W : Nat} (hW : 2 * g.monitorRoom + (rest.map fun v => v.category).sum ≤ W) (hd : decode c.code g.pc = .ok (.invokespecial index, 3))
    (hf : rm.frames + 1 ≤ R.frames) (hl : W + (maxL + 11) + rm.locals ≤ R.locals) (hc : cells + rm.cells ≤ R.cells) (hs : slots + rm.slots ≤ R.slots) :
    ∃ v T' L, Stand p l e R s m args below meth c T' (locs ++ L) (cells + rm.cells) (slots + rm.slots) ∧ Q v T'.heap L ∧ ∀ target, Steps p.tables e below (T'.setTop { g with pc := g.pc + 3, stack := v.toList ++ rest }) target → Steps p.tables e below (T.setTop g) target := by
  obtain ⟨v, _, ⟨T1, L1, k1, n1⟩, -, X1, ⟨Lc, hQ, l1, y1, z1⟩, st⟩ := X.specialBack hx (y := y) hy1 hown (mvT hZ w1) (mvT hZ w2) (mvT hZ w4) hy (backOf (W := W) hM hZ w4 w3 hf hl) (g := g) hg hsize (Steps.refl _) (a := a) (argsL := argsL) (rest := rest) hlen hstack hW hd (fun _ _ => ⟨rfl, eT, hc, hs⟩)
  dsimp only [Pt.U, Pt.locs, Pt.cells, Pt.slots] at X1 l1 y1 z1 st hQ
  subst l1 y1 z1
  exact ⟨v, T1, Lc, X1, hQ, fun _ k => st.trans k⟩
theorem own_callV (X : Stand p l e R s m args below meth c T locs cells slots) (hx : p.tables.exec = Jvm.exec) (hZ : Z.Warmed39 s.vm) {own C : String} (hown : s.vm.findClass own = some m.cls) {index : Nat} {y : MethodName} {bytes : ByteArray} {maxL : Nat} {rt : Option FieldType}
    (w1 : (Jvm.Cond.methodLink own index y).before a0 Z = true) (w2 : (Jvm.Cond.declares y).before a0 Z = true) (w5 : (Jvm.Cond.selects C y y).before a0 Z = true) (w6 : (Jvm.Cond.instanceMethod y).before a0 Z = true) (w3 : (Jvm.Cond.initialized y.cls).before a0 Z = true) (w4 : (Jvm.Cond.code y bytes maxL rt).before a0 Z = true)
    (hy : y.cls ≠ "java/lang/invoke/MethodHandle" ∧ y.cls ≠ "java/lang/invoke/VarHandle") {rm : Room} {a : Addr} {argsL rest : List Value} {Q : Option Value → Heap → List Loc → Prop} (hE : Exa Z h a C) (eT : T.heap = h) (hM : own_Met l Z y bytes maxL rt [] rm (.ref a :: argsL).toArray h Q)
    {g : JFrame} (hg : g.method = m) (hsize : g.locals.size = c.maxLocals) (hlen : ∀ sig, parseMethodDescriptor y.desc = some sig → argsL.length = sig.parameters.length) (hstack : g.stack = argsL.reverse ++ .ref a :: rest) {W : Nat} (hW : 2 * g.monitorRoom + (rest.map fun v => v.category).sum ≤ W) (hd : decode c.code g.pc = .ok (.invokevirtual index, 3))
    (hf : rm.frames + 1 ≤ R.frames) (hl : W + (maxL + 11) + rm.locals ≤ R.locals) (hc : cells + rm.cells ≤ R.cells) (hs : slots + rm.slots ≤ R.slots) (hC : C = y.cls := by rfl) :
    ∃ v T' L, Stand p l e R s m args below meth c T' (locs ++ L) (cells + rm.cells) (slots + rm.slots) ∧ Q v T'.heap L ∧ ∀ target, Steps p.tables e below (T'.setTop { g with pc := g.pc + 3, stack := v.toList ++ rest }) target → Steps p.tables e below (T.setTop g) target := by
  subst hC
  obtain ⟨_, _, qa, -, qc⟩ := isOf hZ eT hE
  obtain ⟨v, _, ⟨T1, L1, k1, n1⟩, -, X1, ⟨Lc, hQ, l1, y1, z1⟩, st⟩ := X.virtualBack hx (y := y) (z := y) hown (mvT hZ w1) (mvT hZ w2) (notFace_of_selects (args := #[]) (mvT hZ w5)) (mvT hZ w5) (mvT hZ w6) hy (backOf (W := W) hM hZ w4 w3 hf hl) qa qc (g := g) hg hsize (Steps.refl _) (argsL := argsL) (rest := rest) hlen hstack hW hd (fun _ _ => ⟨rfl, eT, hc, hs⟩)
  dsimp only [Pt.U, Pt.locs, Pt.cells, Pt.slots] at X1 l1 y1 z1 st hQ
  subst l1 y1 z1
  exact ⟨v, T1, Lc, X1, hQ, fun _ k => st.trans k⟩
theorem own_callU (X : Stand p l e R s m args below meth c T locs cells slots) (hx : p.tables.exec = Jvm.exec) (hZ : Z.Warmed39 s.vm) {own C owner : String} (hown : s.vm.findClass own = some m.cls) {index : Nat} {x y : MethodName} {bytes : ByteArray} {maxL : Nat} {rt : Option FieldType}
    (w1 : (Jvm.Cond.methodLink own index x).before a0 Z = true) (w7 : (Jvm.Cond.sameMethod x.cls owner x.name x.desc).before a0 Z = true) (w2 : (Jvm.Cond.declares ⟨owner, x.name, x.desc⟩).before a0 Z = true) (hy : owner ≠ "java/lang/invoke/MethodHandle" ∧ owner ≠ "java/lang/invoke/VarHandle") (w5 : (Jvm.Cond.selects C x y).before a0 Z = true) (w6 : (Jvm.Cond.instanceMethod y).before a0 Z = true) (w3 : (Jvm.Cond.initialized y.cls).before a0 Z = true) (w4 : (Jvm.Cond.code y bytes maxL rt).before a0 Z = true)
    {rm : Room} {a : Addr} {argsL rest : List Value} {Q : Option Value → Heap → List Loc → Prop} (hE : Exa Z h a C) (eT : T.heap = h) (hM : own_Met l Z y bytes maxL rt [] rm (.ref a :: argsL).toArray h Q)
    {g : JFrame} (hg : g.method = m) (hsize : g.locals.size = c.maxLocals) (hlen : ∀ sig, parseMethodDescriptor x.desc = some sig → argsL.length = sig.parameters.length) (hstack : g.stack = argsL.reverse ++ .ref a :: rest) {W : Nat} (hW : 2 * g.monitorRoom + (rest.map fun v => v.category).sum ≤ W) (hd : decode c.code g.pc = .ok (.invokevirtual index, 3))
    (hf : rm.frames + 1 ≤ R.frames) (hl : W + (maxL + 11) + rm.locals ≤ R.locals) (hc : cells + rm.cells ≤ R.cells) (hs : slots + rm.slots ≤ R.slots) :
    ∃ v T' L, Stand p l e R s m args below meth c T' (locs ++ L) (cells + rm.cells) (slots + rm.slots) ∧ Q v T'.heap L ∧ ∀ target, Steps p.tables e below (T'.setTop { g with pc := g.pc + 3, stack := v.toList ++ rest }) target → Steps p.tables e below (T.setTop g) target := by
  obtain ⟨_, _, qa, -, qc⟩ := isOf hZ eT hE
  obtain ⟨v, _, ⟨T1, L1, k1, n1⟩, -, X1, ⟨Lc, hQ, l1, y1, z1⟩, st⟩ := X.virtualBackUp hx (x := x) (y := y) hown (mvT hZ w1) (mvT hZ w7) (mvT hZ w2) hy (mvT hZ w5) (mvT hZ w6) (backOf (W := W) hM hZ w4 w3 hf hl) qa qc (g := g) hg hsize (Steps.refl _) (argsL := argsL) (rest := rest) hlen hstack hW hd (fun _ _ => ⟨rfl, eT, hc, hs⟩)
  dsimp only [Pt.U, Pt.locs, Pt.cells, Pt.slots] at X1 l1 y1 z1 st hQ
  subst l1 y1 z1
  exact ⟨v, T1, Lc, X1, hQ, fun _ k => st.trans k⟩
theorem own_arv {a : Addr} {k : ClassId} {ty : FieldType} {z : Int32} {vs : List Value} {dv : Value} (V : Arv Z h a k ty z vs dv) {j : Int32} (q : ¬ j < 0 ∧ j < z) :
    ∃ cl : Cell, Arr Z h a cl ty ∧ cl.cls = k ∧ ¬ (j < 0 ∨ cl.slots.size ≤ j.toNatClampNeg) ∧ cl.slots[j.toNatClampNeg]? = some (vs.getD j.toNatClampNeg dv) ∧ ∀ {h' : Heap} {v : Value}, fits ty v = true → Wr h h' a j.toNatClampNeg v → ∀ i, j.toNatClampNeg = i → i < vs.length → Arv Z h' a k ty z (vs.set i v) dv := by
  obtain ⟨cl, A, q1, S, q3, H, G⟩ := V
  have hin := inb_of S q
  exact ⟨cl, A, q1, hin, Has.at H hin rfl, fun hf W i hj hi => Arv.set A q1 S q3 H G hf W i hj hi⟩
theorem own_len {a : Addr} {k : ClassId} {ty : FieldType} {z : Int32} {vs : List Value} {dv : Value} (V : Arv Z h a k ty z vs dv) : ∃ cl : Cell, Arr Z h a cl ty ∧ cl.slots.size.toInt32 = z := by
  obtain ⟨cl, A, q1, S, q3, -⟩ := V
  exact ⟨cl, A, len_of S q3⟩
theorem own_sta {C f d K : String} (hx : (Jvm.Cond.exactly (.static C f d) K).value args s none s [] = some true) (w1 : (Jvm.Cond.initialized C).before args s = true) (w2 : (Jvm.Cond.laysStatic C f d).before args s = true) :
    ∃ a, (Term.static C f d).eval args s none [] s = some (.ref a) ∧ Sta s s.heap C f d (.ref a) ∧ Exa s s.heap a K := by
  obtain ⟨a, ev⟩ := exa_v hx
  exact ⟨a, ev, Sta.start ev (Or.inr ⟨w1, w2⟩), Exa.start ev hx⟩
theorem own_fldI {t : Term} {C f d : String} {a : Addr} {k : Int32} (ev : t.eval args s none [] s = some (.ref a)) (hx : (Jvm.Cond.eq (.field t C f d) (.int k)).value args s none s [] = some true) : Fld s s.heap a C f d (.int k) := by
  obtain ⟨v, w, e1, e2, k1, k2⟩ := cmp_v (Or.inl hx)
  obtain rfl : w = .int k := Option.some.inj (e2.symm.trans (Term.int_eval k))
  obtain ⟨z, rfl⟩ : ∃ z, v = .int z := k2
  have q : z = k := by simpa [Cond.value, e1, e2] using hx
  subst q
  exact Fld.start (by rw [← fld_at ev]; exact e1)
theorem own_neS {t u : Term} {a b : Addr} (ea : t.eval args s none [] s = some (.ref a)) (eb : u.eval args s none [] s = some (.ref b)) (hx : (Jvm.Cond.not (.eq t u)).value args s none s [] = some true) : a ≠ b := fun q =>
  gotF (eq_R ea eb rfl rfl) (not_v hx) (congrArg Value.ref q)
theorem own_staK {C f d : String} {v : Value} {h' : Heap} {ws : List Addr} (S : Sta Z h C f d v) (K : Keep h h' ws) (q : ∀ x ∈ ws, ∀ cell : Cell, h[x]? = some cell → cell.vm.isStatics = false) : Sta Z h' C f d v := by
  obtain ⟨cf, i, k, fl, st, cell, h1, h2, h3, h4, h5, h6, h7⟩ := S
  refine ⟨cf, i, k, fl, st, cell, h1, h2, h3, h4, K.2.1 st cell h5 (fun hm => ?_), h6, h7⟩
  have := q st hm cell h5
  rw [h6] at this
  cases this
end OwnKit
def Q_rm2 (Z : State) (a1 : Addr) (h0 : Heap) (n0 : Nat) (v : Option Value) (h : Heap) (L : List Loc) : Prop := v = none ∧ Fr n0 L ∧ h = h0
theorem pn_rm2 : plainFor (⟨"java/lang/Record", "<init>", "()V"⟩ : MethodName) = true := plainFor_of_name (by first | (simp [plainName, overriddenIn, x]; done) | decide +kernel)
theorem d2_0 : decode jdk_30_method_1_code 0 = .ok (.aload_n 0, 1) := by decide +kernel
theorem d2_1 : decode jdk_30_method_1_code 1 = .ok (.invokespecial 1, 3) := by decide +kernel
theorem d2_4 : decode jdk_30_method_1_code 4 = .ok (.return_, 1) := by decide +kernel
set_option maxRecDepth 65536 in
set_option maxHeartbeats 40000000 in
theorem rm2 (l : Launch) (Z : State) (a0 : Array Value) (hw : ∀ d ∈ tables_1, d.before a0 Z = true) (ws : List Jvm.Cond) (a1 : Addr) (h0 : Heap) (n0 : Nat) (Z0 : n0 ≤ h0.size)  :
    own_Met l Z (⟨"java/lang/Record", "<init>", "()V"⟩ : MethodName) jdk_30_method_1_code 1 none ws ({ frames := 1, cells := 0, slots := 0, locals := 12 } : Room) #[(.ref a1)] h0 (Q_rm2 Z a1 h0 n0) := by
  refine own_enter (g0 := fun m => (mkF m 0 #[.val (.ref a1)] [])) pn_rm2 (fun m => by first | rfl | (simp [entryFrame, mkF, argsToLocals, Value.category, maxLocals]; done)) ?_
  intro p e s m below meth c s₁ hx hby hml hown hnm hret hlk hZ X0 e0
  have hml : c.maxLocals = 1 := hml
  have hown : s.vm.findClass "java/lang/Record" = some m.cls := hown
  have N0 := Fr.nil n0
  show own_Go p e below _ s₁ (mkF m 0 #[.val (.ref a1)] [])
  refine own_by (fun _ k => XS.aloadN X0.here hx rfl (hb hby d2_0) rfl rfl k) ?_
  show own_Go p e below _ s₁ (mkF m 1 #[.val (.ref a1)] [(.ref a1)])
  obtain ⟨T1, X1, e1, st1⟩ := initO X0 hx hZ hown (hw _ (List.mem_of_getElem? (i := 11) rfl)) (hw _ (List.mem_of_getElem? (i := 12) rfl)) (hw _ (List.mem_of_getElem? (i := 13) rfl)) e0 (g := (mkF m 1 #[.val (.ref a1)] [(.ref a1)])) rfl (by rw [hml]; rfl) rfl (hb hby d2_1) (by decide) (W := 0) (by show 2 * 0 + _ ≤ _; exact Nat.le_of_eq rfl) (by decide)
  refine own_by st1 ?_
  show own_Go p e below _ T1 (mkF m 4 #[.val (.ref a1)] [])
  exact own_ret0 X1 hx hlk hret (hb hby d2_4) (by first | exact ⟨rfl, N0, rfl⟩ | (rw [e1]; exact ⟨rfl, N0, rfl⟩)) (by decide) (by decide)
def Q_rm1 (Z : State) (a1 : Addr) (p2 p3 p4 p5 : Int32) (h0 : Heap) (n0 : Nat) (v : Option Value) (h : Heap) (L : List Loc) : Prop := v = none ∧ Fr n0 L ∧ Keep h0 h [a1] ∧ Exa Z h a1 "com/example/portcullis/portcullis/ior/OctetCount" ∧ Fld Z h a1 "com/example/portcullis/portcullis/ior/OctetCount" "at" "I" (.int p2) ∧ Fld Z h a1 "com/example/portcullis/portcullis/ior/OctetCount" "from" "I" (.int p3) ∧ Fld Z h a1 "com/example/portcullis/portcullis/ior/OctetCount" "to" "I" (.int p4) ∧ Fld Z h a1 "com/example/portcullis/portcullis/ior/OctetCount" "backward" "Z" (.int p5)
theorem pn_rm1 : plainFor (⟨"com/example/portcullis/portcullis/ior/OctetCount", "<init>", "(IIIZ)V"⟩ : MethodName) = true := plainFor_of_name (by first | (simp [plainName, overriddenIn, x]; done) | decide +kernel)
theorem d1_0 : decode prog_64_method_1_code 0 = .ok (.aload_n 0, 1) := by decide +kernel
theorem pd_0 : parseMethodDescriptor "()V" = some ⟨[], none⟩ := by decide +kernel
theorem d1_1 : decode prog_64_method_1_code 1 = .ok (.invokespecial 1, 3) := by decide +kernel
theorem d1_4 : decode prog_64_method_1_code 4 = .ok (.aload_n 0, 1) := by decide +kernel
theorem d1_5 : decode prog_64_method_1_code 5 = .ok (.iload_n 1, 1) := by decide +kernel
theorem d1_6 : decode prog_64_method_1_code 6 = .ok (.putfield 7, 3) := by decide +kernel
theorem d1_9 : decode prog_64_method_1_code 9 = .ok (.aload_n 0, 1) := by decide +kernel
theorem d1_10 : decode prog_64_method_1_code 10 = .ok (.iload_n 2, 1) := by decide +kernel
theorem d1_11 : decode prog_64_method_1_code 11 = .ok (.putfield 13, 3) := by decide +kernel
theorem d1_14 : decode prog_64_method_1_code 14 = .ok (.aload_n 0, 1) := by decide +kernel
theorem d1_15 : decode prog_64_method_1_code 15 = .ok (.iload_n 3, 1) := by decide +kernel
theorem d1_16 : decode prog_64_method_1_code 16 = .ok (.putfield 16, 3) := by decide +kernel
theorem d1_19 : decode prog_64_method_1_code 19 = .ok (.aload_n 0, 1) := by decide +kernel
theorem d1_20 : decode prog_64_method_1_code 20 = .ok (.iload 4, 2) := by decide +kernel
theorem d1_22 : decode prog_64_method_1_code 22 = .ok (.putfield 19, 3) := by decide +kernel
theorem d1_25 : decode prog_64_method_1_code 25 = .ok (.return_, 1) := by decide +kernel
set_option maxRecDepth 65536 in
set_option maxHeartbeats 40000000 in
theorem rm1 (l : Launch) (Z : State) (a0 : Array Value) (hw : ∀ d ∈ tables_1, d.before a0 Z = true) (ws : List Jvm.Cond) (a1 : Addr) (p2 p3 p4 p5 : Int32) (h0 : Heap) (n0 : Nat) (Z0 : n0 ≤ h0.size) (g1 : n0 ≤ a1) (hz : nar .boolean p5 = p5) (E1 : Exa Z h0 a1 "com/example/portcullis/portcullis/ior/OctetCount") (F_at : Fld Z h0 a1 "com/example/portcullis/portcullis/ior/OctetCount" "at" "I" (.int (0 : Int32))) (F_from : Fld Z h0 a1 "com/example/portcullis/portcullis/ior/OctetCount" "from" "I" (.int (0 : Int32))) (F_to : Fld Z h0 a1 "com/example/portcullis/portcullis/ior/OctetCount" "to" "I" (.int (0 : Int32))) (F_backward : Fld Z h0 a1 "com/example/portcullis/portcullis/ior/OctetCount" "backward" "Z" (.int (0 : Int32))) :
    own_Met l Z (⟨"com/example/portcullis/portcullis/ior/OctetCount", "<init>", "(IIIZ)V"⟩ : MethodName) prog_64_method_1_code 5 none ws ({ frames := 2, cells := 0, slots := 0, locals := 36 } : Room) #[(.ref a1), (.int p2), (.int p3), (.int p4), (.int p5)] h0 (Q_rm1 Z a1 p2 p3 p4 p5 h0 n0) := by
  refine own_enter (g0 := fun m => (mkF m 0 #[.val (.ref a1), .val (.int p2), .val (.int p3), .val (.int p4), .val (.int p5)] [])) pn_rm1 (fun m => by first | rfl | (simp [entryFrame, mkF, argsToLocals, Value.category, maxLocals]; done)) ?_
  intro p e s m below meth c s₁ hx hby hml hown hnm hret hlk hZ X0 e0
  have hml : c.maxLocals = 5 := hml
  have hown : s.vm.findClass "com/example/portcullis/portcullis/ior/OctetCount" = some m.cls := hown
  have N0 := Fr.nil n0
  show own_Go p e below _ s₁ (mkF m 0 #[.val (.ref a1), .val (.int p2), .val (.int p3), .val (.int p4), .val (.int p5)] [])
  have K0 := Keep.refl h0 [a1]
  refine own_by (fun _ k => XS.aloadN X0.here hx rfl (hb hby d1_0) rfl rfl k) ?_
  show own_Go p e below _ s₁ (mkF m 1 #[.val (.ref a1), .val (.int p2), .val (.int p3), .val (.int p4), .val (.int p5)] [(.ref a1)])
  obtain ⟨_, T2, L2, X2, ⟨rfl, N2q, e2⟩, st2⟩ := own_callI X0 hx hZ hown (y := (⟨"java/lang/Record", "<init>", "()V"⟩ : MethodName)) rfl (hw _ (List.mem_of_getElem? (i := 6) rfl)) (hw _ (List.mem_of_getElem? (i := 7) rfl)) (hw _ (List.mem_of_getElem? (i := 9) rfl)) (hw _ (List.mem_of_getElem? (i := 10) rfl)) (by decide) (a := a1) (argsL := []) (rest := []) e0 (rm2 l Z a0 hw [] a1 h0 n0 Z0) (g := (mkF m 1 #[.val (.ref a1), .val (.int p2), .val (.int p3), .val (.int p4), .val (.int p5)] [(.ref a1)])) rfl (by rw [hml]; rfl) (lenOf pd_0 rfl) rfl (W := 0) (by show 2 * 0 + _ ≤ _; exact Nat.le_of_eq rfl) (hb hby d1_1) (by decide) (by decide) (by decide) (by decide)
  have N2 := Fr.app N0 N2q
  refine own_by st2 ?_
  show own_Go p e below _ T2 (mkF m 4 #[.val (.ref a1), .val (.int p2), .val (.int p3), .val (.int p4), .val (.int p5)] [])
  refine own_by (fun _ k => XS.aloadN X2.here hx rfl (hb hby d1_4) rfl rfl k) ?_
  show own_Go p e below _ T2 (mkF m 5 #[.val (.ref a1), .val (.int p2), .val (.int p3), .val (.int p4), .val (.int p5)] [(.ref a1)])
  refine own_by (fun _ k => XS.iloadN X2.here hx rfl (hb hby d1_5) rfl k) ?_
  show own_Go p e below _ T2 (mkF m 6 #[.val (.ref a1), .val (.int p2), .val (.int p3), .val (.int p4), .val (.int p5)] [(.int p2), (.ref a1)])
  obtain ⟨T3, h3, X3, e3, W3, st3⟩ := putF X2 hx hZ hown (host := "") (Or.inl (hw _ (List.mem_of_getElem? (i := 14) rfl))) Via.refl e2 F_at E1 (Or.inr ⟨(hw _ (List.mem_of_getElem? (i := 15) rfl)), rfl, hnm⟩) (hw _ (List.mem_of_getElem? (i := 1) rfl)) (ty := .int) (by decide) rfl rfl (g := (mkF m 6 #[.val (.ref a1), .val (.int p2), .val (.int p3), .val (.int p4), .val (.int p5)] [(.int p2), (.ref a1)])) rfl rfl (hb hby d1_6)
  refine own_by st3 ?_
  have N3 := Fr.snoc X3 N2 g1
  have fw3 := F_at.same W3
  have K4 := K0.wr W3 (Or.inl (List.mem_of_getElem? (i := 0) rfl))
  show own_Go p e below _ T3 (mkF m 9 #[.val (.ref a1), .val (.int p2), .val (.int p3), .val (.int p4), .val (.int p5)] [])
  refine own_by (fun _ k => XS.aloadN X3.here hx rfl (hb hby d1_9) rfl rfl k) ?_
  show own_Go p e below _ T3 (mkF m 10 #[.val (.ref a1), .val (.int p2), .val (.int p3), .val (.int p4), .val (.int p5)] [(.ref a1)])
  refine own_by (fun _ k => XS.iloadN X3.here hx rfl (hb hby d1_10) rfl k) ?_
  show own_Go p e below _ T3 (mkF m 11 #[.val (.ref a1), .val (.int p2), .val (.int p3), .val (.int p4), .val (.int p5)] [(.int p3), (.ref a1)])
  have f6 := (F_from.other W3 (Or.inr (slot_ne (Or.inr (hw _ (List.mem_of_getElem? (i := 17) rfl))) (Or.inr (hw _ (List.mem_of_getElem? (i := 15) rfl))) (by decide) (t := .int) (t' := .int) (by decide) (by decide))))
  have f7 := (E1.wr W3)
  obtain ⟨T5, h5, X5, e5, W5, st5⟩ := putF X3 hx hZ hown (host := "") (Or.inl (hw _ (List.mem_of_getElem? (i := 16) rfl))) Via.refl e3 f6 f7 (Or.inr ⟨(hw _ (List.mem_of_getElem? (i := 17) rfl)), rfl, hnm⟩) (hw _ (List.mem_of_getElem? (i := 1) rfl)) (ty := .int) (by decide) rfl rfl (g := (mkF m 11 #[.val (.ref a1), .val (.int p2), .val (.int p3), .val (.int p4), .val (.int p5)] [(.int p3), (.ref a1)])) rfl rfl (hb hby d1_11)
  refine own_by st5 ?_
  have N5 := Fr.snoc X5 N3 g1
  have fw5 := f6.same W5
  have K8 := K4.wr W5 (Or.inl (List.mem_of_getElem? (i := 0) rfl))
  show own_Go p e below _ T5 (mkF m 14 #[.val (.ref a1), .val (.int p2), .val (.int p3), .val (.int p4), .val (.int p5)] [])
  refine own_by (fun _ k => XS.aloadN X5.here hx rfl (hb hby d1_14) rfl rfl k) ?_
  show own_Go p e below _ T5 (mkF m 15 #[.val (.ref a1), .val (.int p2), .val (.int p3), .val (.int p4), .val (.int p5)] [(.ref a1)])
  refine own_by (fun _ k => XS.iloadN X5.here hx rfl (hb hby d1_15) rfl k) ?_
  show own_Go p e below _ T5 (mkF m 16 #[.val (.ref a1), .val (.int p2), .val (.int p3), .val (.int p4), .val (.int p5)] [(.int p4), (.ref a1)])
  have f10 := ((F_to.other W3 (Or.inr (slot_ne (Or.inr (hw _ (List.mem_of_getElem? (i := 19) rfl))) (Or.inr (hw _ (List.mem_of_getElem? (i := 15) rfl))) (by decide) (t := .int) (t' := .int) (by decide) (by decide)))).other W5 (Or.inr (slot_ne (Or.inr (hw _ (List.mem_of_getElem? (i := 19) rfl))) (Or.inr (hw _ (List.mem_of_getElem? (i := 17) rfl))) (by decide) (t := .int) (t' := .int) (by decide) (by decide))))
  have f11 := (f7.wr W5)
  obtain ⟨T9, h9, X9, e9, W9, st9⟩ := putF X5 hx hZ hown (host := "") (Or.inl (hw _ (List.mem_of_getElem? (i := 18) rfl))) Via.refl e5 f10 f11 (Or.inr ⟨(hw _ (List.mem_of_getElem? (i := 19) rfl)), rfl, hnm⟩) (hw _ (List.mem_of_getElem? (i := 1) rfl)) (ty := .int) (by decide) rfl rfl (g := (mkF m 16 #[.val (.ref a1), .val (.int p2), .val (.int p3), .val (.int p4), .val (.int p5)] [(.int p4), (.ref a1)])) rfl rfl (hb hby d1_16)
  refine own_by st9 ?_
  have N9 := Fr.snoc X9 N5 g1
  have fw9 := f10.same W9
  have K12 := K8.wr W9 (Or.inl (List.mem_of_getElem? (i := 0) rfl))
  show own_Go p e below _ T9 (mkF m 19 #[.val (.ref a1), .val (.int p2), .val (.int p3), .val (.int p4), .val (.int p5)] [])
  refine own_by (fun _ k => XS.aloadN X9.here hx rfl (hb hby d1_19) rfl rfl k) ?_
  show own_Go p e below _ T9 (mkF m 20 #[.val (.ref a1), .val (.int p2), .val (.int p3), .val (.int p4), .val (.int p5)] [(.ref a1)])
  refine own_by (fun _ k => XS.iload X9.here hx rfl (hb hby d1_20) rfl k) ?_
  show own_Go p e below _ T9 (mkF m 22 #[.val (.ref a1), .val (.int p2), .val (.int p3), .val (.int p4), .val (.int p5)] [(.int p5), (.ref a1)])
  have f14 := (((F_backward.other W3 (Or.inr (slot_ne (Or.inr (hw _ (List.mem_of_getElem? (i := 21) rfl))) (Or.inr (hw _ (List.mem_of_getElem? (i := 15) rfl))) (by decide) (t := .boolean) (t' := .int) (by decide) (by decide)))).other W5 (Or.inr (slot_ne (Or.inr (hw _ (List.mem_of_getElem? (i := 21) rfl))) (Or.inr (hw _ (List.mem_of_getElem? (i := 17) rfl))) (by decide) (t := .boolean) (t' := .int) (by decide) (by decide)))).other W9 (Or.inr (slot_ne (Or.inr (hw _ (List.mem_of_getElem? (i := 21) rfl))) (Or.inr (hw _ (List.mem_of_getElem? (i := 19) rfl))) (by decide) (t := .boolean) (t' := .int) (by decide) (by decide))))
  have f15 := (f11.wr W9)
  obtain ⟨T13, h13, X13, e13, W13, st13⟩ := putFN X9 hx hZ hown (hw _ (List.mem_of_getElem? (i := 20) rfl)) Via.refl e9 f14 f15 (Or.inr ⟨(hw _ (List.mem_of_getElem? (i := 21) rfl)), rfl, hnm⟩) (hw _ (List.mem_of_getElem? (i := 1) rfl)) (ty := .boolean) (v := (.int p5)) (v' := (.int p5)) (by decide) (congrArg Value.int hz) (by have q := fits_nar_bool p5; rw [hz] at q; exact q) (g := (mkF m 22 #[.val (.ref a1), .val (.int p2), .val (.int p3), .val (.int p4), .val (.int p5)] [(.int p5), (.ref a1)])) rfl rfl (hb hby d1_22)
  refine own_by st13 ?_
  have N13 := Fr.snoc X13 N9 g1
  have fw13 := f14.same W13
  have K16 := K12.wr W13 (Or.inl (List.mem_of_getElem? (i := 0) rfl))
  show own_Go p e below _ T13 (mkF m 25 #[.val (.ref a1), .val (.int p2), .val (.int p3), .val (.int p4), .val (.int p5)] [])
  have f17 := (f15.wr W13)
  have f18 := (((fw3.other W5 (Or.inr (slot_ne (Or.inr (hw _ (List.mem_of_getElem? (i := 15) rfl))) (Or.inr (hw _ (List.mem_of_getElem? (i := 17) rfl))) (by decide) (t := .int) (t' := .int) (by decide) (by decide)))).other W9 (Or.inr (slot_ne (Or.inr (hw _ (List.mem_of_getElem? (i := 15) rfl))) (Or.inr (hw _ (List.mem_of_getElem? (i := 19) rfl))) (by decide) (t := .int) (t' := .int) (by decide) (by decide)))).other W13 (Or.inr (slot_ne (Or.inr (hw _ (List.mem_of_getElem? (i := 15) rfl))) (Or.inr (hw _ (List.mem_of_getElem? (i := 21) rfl))) (by decide) (t := .int) (t' := .boolean) (by decide) (by decide))))
  have f19 := ((fw5.other W9 (Or.inr (slot_ne (Or.inr (hw _ (List.mem_of_getElem? (i := 17) rfl))) (Or.inr (hw _ (List.mem_of_getElem? (i := 19) rfl))) (by decide) (t := .int) (t' := .int) (by decide) (by decide)))).other W13 (Or.inr (slot_ne (Or.inr (hw _ (List.mem_of_getElem? (i := 17) rfl))) (Or.inr (hw _ (List.mem_of_getElem? (i := 21) rfl))) (by decide) (t := .int) (t' := .boolean) (by decide) (by decide))))
  have f20 := (fw9.other W13 (Or.inr (slot_ne (Or.inr (hw _ (List.mem_of_getElem? (i := 19) rfl))) (Or.inr (hw _ (List.mem_of_getElem? (i := 21) rfl))) (by decide) (t := .int) (t' := .boolean) (by decide) (by decide))))
  exact own_ret0 X13 hx hlk hret (hb hby d1_25) (by first | exact ⟨rfl, N13, K16, f17, f18, f19, f20, fw13⟩ | (rw [e13]; exact ⟨rfl, N13, K16, f17, f18, f19, f20, fw13⟩)) (by decide) (by decide)
def Q_rm4 (Z : State) (a1 : Addr) (p2 w1 w2 w3 : Int32) (h0 : Heap) (n0 : Nat) (v : Option Value) (h : Heap) (L : List Loc) : Prop := v = some (.int (if w3 = 0 then (w1 - w2) + p2 else -((w1 - w2) + p2))) ∧ Fr n0 L ∧ h = h0
theorem pn_rm4 : plainFor (⟨"com/example/portcullis/portcullis/ior/OctetCount", "value", "(I)I"⟩ : MethodName) = true := plainFor_of_name (by first | (simp [plainName, overriddenIn, x]; done) | decide +kernel)
theorem d4_0 : decode prog_64_method_2_code 0 = .ok (.aload_n 0, 1) := by decide +kernel
theorem d4_1 : decode prog_64_method_2_code 1 = .ok (.getfield 16, 3) := by decide +kernel
theorem d4_4 : decode prog_64_method_2_code 4 = .ok (.aload_n 0, 1) := by decide +kernel
theorem d4_5 : decode prog_64_method_2_code 5 = .ok (.getfield 13, 3) := by decide +kernel
theorem d4_8 : decode prog_64_method_2_code 8 = .ok (.isub, 1) := by decide +kernel
theorem d4_9 : decode prog_64_method_2_code 9 = .ok (.iload_n 1, 1) := by decide +kernel
theorem d4_10 : decode prog_64_method_2_code 10 = .ok (.iadd, 1) := by decide +kernel
theorem d4_11 : decode prog_64_method_2_code 11 = .ok (.istore_n 2, 1) := by decide +kernel
theorem d4_12 : decode prog_64_method_2_code 12 = .ok (.aload_n 0, 1) := by decide +kernel
theorem d4_13 : decode prog_64_method_2_code 13 = .ok (.getfield 19, 3) := by decide +kernel
theorem d4_16 : decode prog_64_method_2_code 16 = .ok (.ifCond .eq 8, 3) := by decide +kernel
theorem d4_24 : decode prog_64_method_2_code 24 = .ok (.iload_n 2, 1) := by decide +kernel
theorem d4_25 : decode prog_64_method_2_code 25 = .ok (.ireturn, 1) := by decide +kernel
theorem d4_19 : decode prog_64_method_2_code 19 = .ok (.iload_n 2, 1) := by decide +kernel
theorem d4_20 : decode prog_64_method_2_code 20 = .ok (.ineg, 1) := by decide +kernel
theorem d4_21 : decode prog_64_method_2_code 21 = .ok (.goto 4, 3) := by decide +kernel
set_option maxRecDepth 65536 in
set_option maxHeartbeats 40000000 in
theorem rm4 (l : Launch) (Z : State) (a0 : Array Value) (hw : ∀ d ∈ tables_1, d.before a0 Z = true) (ws : List Jvm.Cond) (a1 : Addr) (p2 w1 w2 w3 : Int32) (h0 : Heap) (n0 : Nat) (Z0 : n0 ≤ h0.size) (F1 : Fld Z h0 a1 "com/example/portcullis/portcullis/ior/OctetCount" "to" "I" (.int w1)) (F2 : Fld Z h0 a1 "com/example/portcullis/portcullis/ior/OctetCount" "from" "I" (.int w2)) (F3 : Fld Z h0 a1 "com/example/portcullis/portcullis/ior/OctetCount" "backward" "Z" (.int w3)) :
    own_Met l Z (⟨"com/example/portcullis/portcullis/ior/OctetCount", "value", "(I)I"⟩ : MethodName) prog_64_method_2_code 3 (some .int) ws ({ frames := 0, cells := 0, slots := 0, locals := 0 } : Room) #[(.ref a1), (.int p2)] h0 (Q_rm4 Z a1 p2 w1 w2 w3 h0 n0) := by
  refine own_enter (g0 := fun m => (mkF m 0 #[.val (.ref a1), .val (.int p2), .unset] [])) pn_rm4 (fun m => by first | rfl | (simp [entryFrame, mkF, argsToLocals, Value.category, maxLocals]; done)) ?_
  intro p e s m below meth c s₁ hx hby hml hown hnm hret hlk hZ X0 e0
  have hml : c.maxLocals = 3 := hml
  have hown : s.vm.findClass "com/example/portcullis/portcullis/ior/OctetCount" = some m.cls := hown
  have N0 := Fr.nil n0
  show own_Go p e below _ s₁ (mkF m 0 #[.val (.ref a1), .val (.int p2), .unset] [])
  refine own_by (fun _ k => XS.aloadN X0.here hx rfl (hb hby d4_0) rfl rfl k) ?_
  show own_Go p e below _ s₁ (mkF m 1 #[.val (.ref a1), .val (.int p2), .unset] [(.ref a1)])
  obtain ⟨T21, X21, e21, st21⟩ := getF X0 hx hZ hown (host := "") (Or.inl (hw _ (List.mem_of_getElem? (i := 18) rfl))) Via.refl e0 F1 (g := (mkF m 1 #[.val (.ref a1), .val (.int p2), .unset] [(.ref a1)])) rfl rfl (hb hby d4_1)
  refine own_by st21 ?_
  show own_Go p e below _ T21 (mkF m 4 #[.val (.ref a1), .val (.int p2), .unset] [(.int w1)])
  refine own_by (fun _ k => XS.aloadN X21.here hx rfl (hb hby d4_4) rfl rfl k) ?_
  show own_Go p e below _ T21 (mkF m 5 #[.val (.ref a1), .val (.int p2), .unset] [(.ref a1), (.int w1)])
  obtain ⟨T22, X22, e22, st22⟩ := getF X21 hx hZ hown (host := "") (Or.inl (hw _ (List.mem_of_getElem? (i := 16) rfl))) Via.refl e21 F2 (g := (mkF m 5 #[.val (.ref a1), .val (.int p2), .unset] [(.ref a1), (.int w1)])) rfl rfl (hb hby d4_5)
  refine own_by st22 ?_
  show own_Go p e below _ T22 (mkF m 8 #[.val (.ref a1), .val (.int p2), .unset] [(.int w2), (.int w1)])
  refine own_by (fun _ k => XS.isub X22.here hx rfl (hb hby d4_8) rfl k) ?_
  show own_Go p e below _ T22 (mkF m 9 #[.val (.ref a1), .val (.int p2), .unset] [(.int (w1 - w2))])
  refine own_by (fun _ k => XS.iloadN X22.here hx rfl (hb hby d4_9) rfl k) ?_
  show own_Go p e below _ T22 (mkF m 10 #[.val (.ref a1), .val (.int p2), .unset] [(.int p2), (.int (w1 - w2))])
  refine own_by (fun _ k => XS.iadd X22.here hx rfl (hb hby d4_10) rfl k) ?_
  show own_Go p e below _ T22 (mkF m 11 #[.val (.ref a1), .val (.int p2), .unset] [(.int ((w1 - w2) + p2))])
  refine own_by (fun _ k => XS.istoreN X22.here hx rfl (hb hby d4_11) rfl (l' := #[.val (.ref a1), .val (.int p2), .val (.int ((w1 - w2) + p2))]) rfl k) ?_
  show own_Go p e below _ T22 (mkF m 12 #[.val (.ref a1), .val (.int p2), .val (.int ((w1 - w2) + p2))] [])
  refine own_by (fun _ k => XS.aloadN X22.here hx rfl (hb hby d4_12) rfl rfl k) ?_
  show own_Go p e below _ T22 (mkF m 13 #[.val (.ref a1), .val (.int p2), .val (.int ((w1 - w2) + p2))] [(.ref a1)])
  obtain ⟨T23, X23, e23, st23⟩ := getF X22 hx hZ hown (host := "") (Or.inl (hw _ (List.mem_of_getElem? (i := 20) rfl))) Via.refl e22 F3 (g := (mkF m 13 #[.val (.ref a1), .val (.int p2), .val (.int ((w1 - w2) + p2))] [(.ref a1)])) rfl rfl (hb hby d4_13)
  refine own_by st23 ?_
  show own_Go p e below _ T23 (mkF m 16 #[.val (.ref a1), .val (.int p2), .val (.int ((w1 - w2) + p2))] [(.int w3)])
  by_cases hb0 : w3 = (0 : Int32)
  · refine own_by (fun _ k => XS.ifYes X23.here hx rfl (pc0 := 16) (pc' := 24) rfl (hb hby d4_16) rfl ((if0 _ _).trans (teq (hb0 : w3 = (0 : Int32))).1) (by decide) (by decide) k) ?_
    show own_Go p e below _ T23 (mkF m 24 #[.val (.ref a1), .val (.int p2), .val (.int ((w1 - w2) + p2))] [])
    refine own_by (fun _ k => XS.iloadN X23.here hx rfl (hb hby d4_24) rfl k) ?_
    show own_Go p e below _ T23 (mkF m 25 #[.val (.ref a1), .val (.int p2), .val (.int ((w1 - w2) + p2))] [(.int ((w1 - w2) + p2))])
    exact own_retI X23 hx hlk hret  (hb hby d4_25) (by first | exact ⟨by rw [if_pos hb0], N0, rfl⟩ | (rw [e23]; exact ⟨by rw [if_pos hb0], N0, rfl⟩)) (by decide) (by decide)
  · refine own_by (fun _ k => XS.ifNo X23.here hx rfl (hb hby d4_16) rfl ((if0 _ _).trans (feq (hb0 : ¬ (w3 = (0 : Int32)))).1) k) ?_
    show own_Go p e below _ T23 (mkF m 19 #[.val (.ref a1), .val (.int p2), .val (.int ((w1 - w2) + p2))] [])
    refine own_by (fun _ k => XS.iloadN X23.here hx rfl (hb hby d4_19) rfl k) ?_
    show own_Go p e below _ T23 (mkF m 20 #[.val (.ref a1), .val (.int p2), .val (.int ((w1 - w2) + p2))] [(.int ((w1 - w2) + p2))])
    refine own_by (fun _ k => XS.ineg X23.here hx rfl (hb hby d4_20) rfl k) ?_
    show own_Go p e below _ T23 (mkF m 21 #[.val (.ref a1), .val (.int p2), .val (.int ((w1 - w2) + p2))] [(.int (-((w1 - w2) + p2)))])
    refine own_by (fun _ k => XS.goto X23.here hx rfl (pc0 := 21) (pc' := 25) rfl (hb hby d4_21) (by decide) (by decide) k) ?_
    show own_Go p e below _ T23 (mkF m 25 #[.val (.ref a1), .val (.int p2), .val (.int ((w1 - w2) + p2))] [(.int (-((w1 - w2) + p2)))])
    exact own_retI X23 hx hlk hret  (hb hby d4_25) (by first | exact ⟨by rw [if_neg hb0], N0, rfl⟩ | (rw [e23]; exact ⟨by rw [if_neg hb0], N0, rfl⟩)) (by decide) (by decide)
def Q_rm0 (Z : State) (p1 p2 p3 p4 : Int32) (h0 : Heap) (n0 : Nat) (v : Option Value) (h : Heap) (L : List Loc) : Prop := v = some (.int 1) ∧ Fr n0 L
theorem pn_rm0 : plainFor x = true := plainFor_of_name (by first | (simp [plainName, overriddenIn, x]; done) | decide +kernel)
theorem pd_1 : parseMethodDescriptor "(IIIZ)V" = some ⟨[.int, .int, .int, .boolean], none⟩ := by decide +kernel
theorem pd_2 : parseMethodDescriptor "(I)I" = some ⟨[.int], some .int⟩ := by decide +kernel
set_option maxRecDepth 65536 in
set_option maxHeartbeats 40000000 in
theorem rm0 (l : Launch) (Z : State) (a0 : Array Value) (hw : ∀ d ∈ tables_1, d.before a0 Z = true) (ws : List Jvm.Cond) (p1 p2 p3 p4 : Int32) (h0 : Heap) (n0 : Nat) (Z0 : n0 ≤ h0.size)  :
    own_Met l Z x code maxLocals ret ws room_1 #[(.int p1), (.int p2), (.int p3), (.int p4)] h0 (Q_rm0 Z p1 p2 p3 p4 h0 n0) := by
  refine own_enter (g0 := fun m => (mkF m 0 #[.val (.int p1), .val (.int p2), .val (.int p3), .val (.int p4), .unset, .unset, .unset, .unset, .unset, .unset, .unset, .unset] [])) pn_rm0 (fun m => by first | rfl | (simp [entryFrame, mkF, argsToLocals, Value.category, maxLocals]; done)) ?_
  intro p e s m below meth c s₁ hx hby hml hown hnm hret hlk hZ X0 e0
  have hml : c.maxLocals = 12 := hml
  have hown : s.vm.findClass "com/example/portcullis/portcullis/ior/OctetCountValuePinLaw" = some m.cls := hown
  have N0 := Fr.nil n0
  show own_Go p e below _ s₁ (mkF m 0 #[.val (.int p1), .val (.int p2), .val (.int p3), .val (.int p4), .unset, .unset, .unset, .unset, .unset, .unset, .unset, .unset] [])
  obtain ⟨T24, h24, X24, e24, E24, A24, D24, -, st24⟩ := newO X0 hx hZ hown (hw _ (List.mem_of_getElem? (i := 0) rfl)) (hw _ (List.mem_of_getElem? (i := 1) rfl)) (hw _ (List.mem_of_getElem? (i := 2) rfl)) e0 (g := (mkF m 0 #[.val (.int p1), .val (.int p2), .val (.int p3), .val (.int p4), .unset, .unset, .unset, .unset, .unset, .unset, .unset, .unset] [])) rfl (hb hby at_0) (by decide) (by decide)
  obtain ⟨b24, g24⟩ : ∃ z, z = h0.size := ⟨_, rfl⟩
  rw [← g24] at A24 D24 st24
  have og_b24 : n0 ≤ b24 := Nat.le_trans Z0 (Nat.le_of_eq g24.symm)
  have Z24 : n0 ≤ h24.size := Nat.le_trans Z0 E24.1
  have F_at_b24 : Fld Z h24 b24 "com/example/portcullis/portcullis/ior/OctetCount" "at" "I" (.int (0 : Int32)) := D24 (Or.inr (hw _ (List.mem_of_getElem? (i := 15) rfl))) (ty := .int) (by decide)
  have F_from_b24 : Fld Z h24 b24 "com/example/portcullis/portcullis/ior/OctetCount" "from" "I" (.int (0 : Int32)) := D24 (Or.inr (hw _ (List.mem_of_getElem? (i := 17) rfl))) (ty := .int) (by decide)
  have F_to_b24 : Fld Z h24 b24 "com/example/portcullis/portcullis/ior/OctetCount" "to" "I" (.int (0 : Int32)) := D24 (Or.inr (hw _ (List.mem_of_getElem? (i := 19) rfl))) (ty := .int) (by decide)
  have F_backward_b24 : Fld Z h24 b24 "com/example/portcullis/portcullis/ior/OctetCount" "backward" "Z" (.int (0 : Int32)) := D24 (Or.inr (hw _ (List.mem_of_getElem? (i := 21) rfl))) (ty := .boolean) (by decide)
  refine own_by st24 ?_
  show own_Go p e below _ T24 (mkF m 3 #[.val (.int p1), .val (.int p2), .val (.int p3), .val (.int p4), .unset, .unset, .unset, .unset, .unset, .unset, .unset, .unset] [(.ref b24)])
  refine own_by (fun _ k => XS.dup X24.here hx rfl (hb hby at_3) rfl rfl k) ?_
  show own_Go p e below _ T24 (mkF m 4 #[.val (.int p1), .val (.int p2), .val (.int p3), .val (.int p4), .unset, .unset, .unset, .unset, .unset, .unset, .unset, .unset] [(.ref b24), (.ref b24)])
  refine own_by (fun _ k => XS.iloadN X24.here hx rfl (hb hby at_4) rfl k) ?_
  show own_Go p e below _ T24 (mkF m 5 #[.val (.int p1), .val (.int p2), .val (.int p3), .val (.int p4), .unset, .unset, .unset, .unset, .unset, .unset, .unset, .unset] [(.int p1), (.ref b24), (.ref b24)])
  refine own_by (fun _ k => XS.iloadN X24.here hx rfl (hb hby at_5) rfl k) ?_
  show own_Go p e below _ T24 (mkF m 6 #[.val (.int p1), .val (.int p2), .val (.int p3), .val (.int p4), .unset, .unset, .unset, .unset, .unset, .unset, .unset, .unset] [(.int p2), (.int p1), (.ref b24), (.ref b24)])
  refine own_by (fun _ k => XS.iloadN X24.here hx rfl (hb hby at_6) rfl k) ?_
  show own_Go p e below _ T24 (mkF m 7 #[.val (.int p1), .val (.int p2), .val (.int p3), .val (.int p4), .unset, .unset, .unset, .unset, .unset, .unset, .unset, .unset] [(.int p3), (.int p2), (.int p1), (.ref b24), (.ref b24)])
  refine own_by (fun _ k => XS.iconst X24.here hx rfl (hb hby at_7) k) ?_
  show own_Go p e below _ T24 (mkF m 8 #[.val (.int p1), .val (.int p2), .val (.int p3), .val (.int p4), .unset, .unset, .unset, .unset, .unset, .unset, .unset, .unset] [(.int (0 : Int32)), (.int p3), (.int p2), (.int p1), (.ref b24), (.ref b24)])
  obtain ⟨_, T25, L25, X25, ⟨rfl, N25q, K0', E0', at0', from0', to0', backward0'⟩, st25⟩ := own_callI X24 hx hZ hown (y := (⟨"com/example/portcullis/portcullis/ior/OctetCount", "<init>", "(IIIZ)V"⟩ : MethodName)) rfl (hw _ (List.mem_of_getElem? (i := 3) rfl)) (hw _ (List.mem_of_getElem? (i := 4) rfl)) (hw _ (List.mem_of_getElem? (i := 2) rfl)) (hw _ (List.mem_of_getElem? (i := 5) rfl)) (by decide) (a := b24) (argsL := [(.int p1), (.int p2), (.int p3), (.int (0 : Int32))]) (rest := [(.ref b24)]) e24 (rm1 l Z a0 hw [] b24 p1 p2 p3 (0 : Int32) h24 n0 Z24 og_b24 rfl A24 F_at_b24 F_from_b24 F_to_b24 F_backward_b24) (g := (mkF m 8 #[.val (.int p1), .val (.int p2), .val (.int p3), .val (.int p4), .unset, .unset, .unset, .unset, .unset, .unset, .unset, .unset] [(.int (0 : Int32)), (.int p3), (.int p2), (.int p1), (.ref b24), (.ref b24)])) rfl (by rw [hml]; rfl) (lenOf pd_1 rfl) rfl (W := 1) (by show 2 * 0 + _ ≤ _; exact Nat.le_of_eq rfl) (hb hby at_8) (by decide) (by decide) (by decide) (by decide)
  have N25 := Fr.app N0 N25q
  refine own_by st25 ?_
  show own_Go p e below _ T25 (mkF m 11 #[.val (.int p1), .val (.int p2), .val (.int p3), .val (.int p4), .unset, .unset, .unset, .unset, .unset, .unset, .unset, .unset] [(.ref b24)])
  have Z25 : n0 ≤ T25.heap.size := Nat.le_trans Z24 K0'.1
  refine own_by (fun _ k => XS.astore X25.here hx rfl (hb hby at_11) rfl rfl (l' := #[.val (.int p1), .val (.int p2), .val (.int p3), .val (.int p4), .val (.ref b24), .unset, .unset, .unset, .unset, .unset, .unset, .unset]) rfl k) ?_
  show own_Go p e below _ T25 (mkF m 13 #[.val (.int p1), .val (.int p2), .val (.int p3), .val (.int p4), .val (.ref b24), .unset, .unset, .unset, .unset, .unset, .unset, .unset] [])
  obtain ⟨T26, h26, X26, e26, E26, A26, D26, -, st26⟩ := newO X25 hx hZ hown (hw _ (List.mem_of_getElem? (i := 0) rfl)) (hw _ (List.mem_of_getElem? (i := 1) rfl)) (hw _ (List.mem_of_getElem? (i := 2) rfl)) rfl (g := (mkF m 13 #[.val (.int p1), .val (.int p2), .val (.int p3), .val (.int p4), .val (.ref b24), .unset, .unset, .unset, .unset, .unset, .unset, .unset] [])) rfl (hb hby at_13) (by decide) (by decide)
  obtain ⟨b26, g26⟩ : ∃ z, z = T25.heap.size := ⟨_, rfl⟩
  rw [← g26] at A26 D26 st26
  have ne_b24_b26 : b24 ≠ b26 := Nat.ne_of_lt (Nat.lt_of_lt_of_le E0'.lt (Nat.le_of_eq g26.symm))
  have og_b26 : n0 ≤ b26 := Nat.le_trans Z25 (Nat.le_of_eq g26.symm)
  have Z26 : n0 ≤ h26.size := Nat.le_trans Z25 E26.1
  have F_at_b26 : Fld Z h26 b26 "com/example/portcullis/portcullis/ior/OctetCount" "at" "I" (.int (0 : Int32)) := D26 (Or.inr (hw _ (List.mem_of_getElem? (i := 15) rfl))) (ty := .int) (by decide)
  have F_from_b26 : Fld Z h26 b26 "com/example/portcullis/portcullis/ior/OctetCount" "from" "I" (.int (0 : Int32)) := D26 (Or.inr (hw _ (List.mem_of_getElem? (i := 17) rfl))) (ty := .int) (by decide)
  have F_to_b26 : Fld Z h26 b26 "com/example/portcullis/portcullis/ior/OctetCount" "to" "I" (.int (0 : Int32)) := D26 (Or.inr (hw _ (List.mem_of_getElem? (i := 19) rfl))) (ty := .int) (by decide)
  have F_backward_b26 : Fld Z h26 b26 "com/example/portcullis/portcullis/ior/OctetCount" "backward" "Z" (.int (0 : Int32)) := D26 (Or.inr (hw _ (List.mem_of_getElem? (i := 21) rfl))) (ty := .boolean) (by decide)
  refine own_by st26 ?_
  show own_Go p e below _ T26 (mkF m 16 #[.val (.int p1), .val (.int p2), .val (.int p3), .val (.int p4), .val (.ref b24), .unset, .unset, .unset, .unset, .unset, .unset, .unset] [(.ref b26)])
  refine own_by (fun _ k => XS.dup X26.here hx rfl (hb hby at_16) rfl rfl k) ?_
  show own_Go p e below _ T26 (mkF m 17 #[.val (.int p1), .val (.int p2), .val (.int p3), .val (.int p4), .val (.ref b24), .unset, .unset, .unset, .unset, .unset, .unset, .unset] [(.ref b26), (.ref b26)])
  refine own_by (fun _ k => XS.iloadN X26.here hx rfl (hb hby at_17) rfl k) ?_
  show own_Go p e below _ T26 (mkF m 18 #[.val (.int p1), .val (.int p2), .val (.int p3), .val (.int p4), .val (.ref b24), .unset, .unset, .unset, .unset, .unset, .unset, .unset] [(.int p1), (.ref b26), (.ref b26)])
  refine own_by (fun _ k => XS.iloadN X26.here hx rfl (hb hby at_18) rfl k) ?_
  show own_Go p e below _ T26 (mkF m 19 #[.val (.int p1), .val (.int p2), .val (.int p3), .val (.int p4), .val (.ref b24), .unset, .unset, .unset, .unset, .unset, .unset, .unset] [(.int p2), (.int p1), (.ref b26), (.ref b26)])
  refine own_by (fun _ k => XS.iloadN X26.here hx rfl (hb hby at_19) rfl k) ?_
  show own_Go p e below _ T26 (mkF m 20 #[.val (.int p1), .val (.int p2), .val (.int p3), .val (.int p4), .val (.ref b24), .unset, .unset, .unset, .unset, .unset, .unset, .unset] [(.int p3), (.int p2), (.int p1), (.ref b26), (.ref b26)])
  refine own_by (fun _ k => XS.iconst X26.here hx rfl (hb hby at_20) k) ?_
  show own_Go p e below _ T26 (mkF m 21 #[.val (.int p1), .val (.int p2), .val (.int p3), .val (.int p4), .val (.ref b24), .unset, .unset, .unset, .unset, .unset, .unset, .unset] [(.int (1 : Int32)), (.int p3), (.int p2), (.int p1), (.ref b26), (.ref b26)])
  have f27 := (E0'.ext E26)
  obtain ⟨_, T28, L28, X28, ⟨rfl, N28q, K1', E1', at1', from1', to1', backward1'⟩, st28⟩ := own_callI X26 hx hZ hown (y := (⟨"com/example/portcullis/portcullis/ior/OctetCount", "<init>", "(IIIZ)V"⟩ : MethodName)) rfl (hw _ (List.mem_of_getElem? (i := 3) rfl)) (hw _ (List.mem_of_getElem? (i := 4) rfl)) (hw _ (List.mem_of_getElem? (i := 2) rfl)) (hw _ (List.mem_of_getElem? (i := 5) rfl)) (by decide) (a := b26) (argsL := [(.int p1), (.int p2), (.int p3), (.int (1 : Int32))]) (rest := [(.ref b26)]) e26 (rm1 l Z a0 hw [] b26 p1 p2 p3 (1 : Int32) h26 n0 Z26 og_b26 rfl A26 F_at_b26 F_from_b26 F_to_b26 F_backward_b26) (g := (mkF m 21 #[.val (.int p1), .val (.int p2), .val (.int p3), .val (.int p4), .val (.ref b24), .unset, .unset, .unset, .unset, .unset, .unset, .unset] [(.int (1 : Int32)), (.int p3), (.int p2), (.int p1), (.ref b26), (.ref b26)])) rfl (by rw [hml]; rfl) (lenOf pd_1 rfl) rfl (W := 1) (by show 2 * 0 + _ ≤ _; exact Nat.le_of_eq rfl) (hb hby at_21) (by decide) (by decide) (by decide) (by decide)
  have N28 := Fr.app N25 N28q
  refine own_by st28 ?_
  show own_Go p e below _ T28 (mkF m 24 #[.val (.int p1), .val (.int p2), .val (.int p3), .val (.int p4), .val (.ref b24), .unset, .unset, .unset, .unset, .unset, .unset, .unset] [(.ref b26)])
  have Z28 : n0 ≤ T28.heap.size := Nat.le_trans Z26 K1'.1
  refine own_by (fun _ k => XS.astore X28.here hx rfl (hb hby at_24) rfl rfl (l' := #[.val (.int p1), .val (.int p2), .val (.int p3), .val (.int p4), .val (.ref b24), .val (.ref b26), .unset, .unset, .unset, .unset, .unset, .unset]) rfl k) ?_
  show own_Go p e below _ T28 (mkF m 26 #[.val (.int p1), .val (.int p2), .val (.int p3), .val (.int p4), .val (.ref b24), .val (.ref b26), .unset, .unset, .unset, .unset, .unset, .unset] [])
  refine own_by (fun _ k => XS.aload X28.here hx rfl (hb hby at_26) rfl rfl k) ?_
  show own_Go p e below _ T28 (mkF m 28 #[.val (.int p1), .val (.int p2), .val (.int p3), .val (.int p4), .val (.ref b24), .val (.ref b26), .unset, .unset, .unset, .unset, .unset, .unset] [(.ref b24)])
  refine own_by (fun _ k => XS.iconst X28.here hx rfl (hb hby at_28) k) ?_
  show own_Go p e below _ T28 (mkF m 29 #[.val (.int p1), .val (.int p2), .val (.int p3), .val (.int p4), .val (.ref b24), .val (.ref b26), .unset, .unset, .unset, .unset, .unset, .unset] [(.int (0 : Int32)), (.ref b24)])
  have f29 := ((to0'.ext E26).keep K1' (ninS ne_b24_b26 nin0))
  have f30 := ((from0'.ext E26).keep K1' (ninS ne_b24_b26 nin0))
  have f31 := ((backward0'.ext E26).keep K1' (ninS ne_b24_b26 nin0))
  have f33 := (f27.keep K1')
  obtain ⟨_, T32, L32, X32, ⟨rfl, N32q, e32⟩, st32⟩ := own_callV X28 hx hZ hown (y := (⟨"com/example/portcullis/portcullis/ior/OctetCount", "value", "(I)I"⟩ : MethodName)) (C := "com/example/portcullis/portcullis/ior/OctetCount") (hw _ (List.mem_of_getElem? (i := 22) rfl)) (hw _ (List.mem_of_getElem? (i := 23) rfl)) (hw _ (List.mem_of_getElem? (i := 25) rfl)) (hw _ (List.mem_of_getElem? (i := 24) rfl)) (hw _ (List.mem_of_getElem? (i := 2) rfl)) (hw _ (List.mem_of_getElem? (i := 26) rfl)) (by decide) (a := b24) f33 (argsL := [(.int (0 : Int32))]) (rest := []) rfl (rm4 l Z a0 hw [] b24 (0 : Int32) p3 p2 (0 : Int32) T28.heap n0 Z28 f29 f30 f31) (g := (mkF m 29 #[.val (.int p1), .val (.int p2), .val (.int p3), .val (.int p4), .val (.ref b24), .val (.ref b26), .unset, .unset, .unset, .unset, .unset, .unset] [(.int (0 : Int32)), (.ref b24)])) rfl (by rw [hml]; rfl) (lenOf pd_2 rfl) rfl (W := 0) (by show 2 * 0 + _ ≤ _; exact Nat.le_of_eq rfl) (hb hby at_29) (by decide) (by decide) (by decide) (by decide)
  have N32 := Fr.app N28 N32q
  refine own_by st32 ?_
  show own_Go p e below _ T32 (mkF m 32 #[.val (.int p1), .val (.int p2), .val (.int p3), .val (.int p4), .val (.ref b24), .val (.ref b26), .unset, .unset, .unset, .unset, .unset, .unset] [(.int (if (0 : Int32) = (0 : Int32) then ((p3 - p2) + (0 : Int32)) else -((p3 - p2) + (0 : Int32))))])
  rw [show (if (0 : Int32) = (0 : Int32) then ((p3 - p2) + (0 : Int32)) else -((p3 - p2) + (0 : Int32))) = ((p3 - p2) + (0 : Int32)) from if_pos rfl]
  show own_Go p e below _ T32 (mkF m 32 #[.val (.int p1), .val (.int p2), .val (.int p3), .val (.int p4), .val (.ref b24), .val (.ref b26), .unset, .unset, .unset, .unset, .unset, .unset] [(.int ((p3 - p2) + (0 : Int32)))])
  refine own_by (fun _ k => XS.istore X32.here hx rfl (hb hby at_32) rfl (l' := #[.val (.int p1), .val (.int p2), .val (.int p3), .val (.int p4), .val (.ref b24), .val (.ref b26), .val (.int ((p3 - p2) + (0 : Int32))), .unset, .unset, .unset, .unset, .unset]) rfl k) ?_
  show own_Go p e below _ T32 (mkF m 34 #[.val (.int p1), .val (.int p2), .val (.int p3), .val (.int p4), .val (.ref b24), .val (.ref b26), .val (.int ((p3 - p2) + (0 : Int32))), .unset, .unset, .unset, .unset, .unset] [])
  refine own_by (fun _ k => XS.aload X32.here hx rfl (hb hby at_34) rfl rfl k) ?_
  show own_Go p e below _ T32 (mkF m 36 #[.val (.int p1), .val (.int p2), .val (.int p3), .val (.int p4), .val (.ref b24), .val (.ref b26), .val (.int ((p3 - p2) + (0 : Int32))), .unset, .unset, .unset, .unset, .unset] [(.ref b24)])
  refine own_by (fun _ k => XS.iloadN X32.here hx rfl (hb hby at_36) rfl k) ?_
  show own_Go p e below _ T32 (mkF m 37 #[.val (.int p1), .val (.int p2), .val (.int p3), .val (.int p4), .val (.ref b24), .val (.ref b26), .val (.int ((p3 - p2) + (0 : Int32))), .unset, .unset, .unset, .unset, .unset] [(.int p4), (.ref b24)])
  obtain ⟨_, T34, L34, X34, ⟨rfl, N34q, e34⟩, st34⟩ := own_callV X32 hx hZ hown (y := (⟨"com/example/portcullis/portcullis/ior/OctetCount", "value", "(I)I"⟩ : MethodName)) (C := "com/example/portcullis/portcullis/ior/OctetCount") (hw _ (List.mem_of_getElem? (i := 22) rfl)) (hw _ (List.mem_of_getElem? (i := 23) rfl)) (hw _ (List.mem_of_getElem? (i := 25) rfl)) (hw _ (List.mem_of_getElem? (i := 24) rfl)) (hw _ (List.mem_of_getElem? (i := 2) rfl)) (hw _ (List.mem_of_getElem? (i := 26) rfl)) (by decide) (a := b24) f33 (argsL := [(.int p4)]) (rest := []) e32 (rm4 l Z a0 hw [] b24 p4 p3 p2 (0 : Int32) T28.heap n0 Z28 f29 f30 f31) (g := (mkF m 37 #[.val (.int p1), .val (.int p2), .val (.int p3), .val (.int p4), .val (.ref b24), .val (.ref b26), .val (.int ((p3 - p2) + (0 : Int32))), .unset, .unset, .unset, .unset, .unset] [(.int p4), (.ref b24)])) rfl (by rw [hml]; rfl) (lenOf pd_2 rfl) rfl (W := 0) (by show 2 * 0 + _ ≤ _; exact Nat.le_of_eq rfl) (hb hby at_37) (by decide) (by decide) (by decide) (by decide)
  have N34 := Fr.app N32 N34q
  refine own_by st34 ?_
  show own_Go p e below _ T34 (mkF m 40 #[.val (.int p1), .val (.int p2), .val (.int p3), .val (.int p4), .val (.ref b24), .val (.ref b26), .val (.int ((p3 - p2) + (0 : Int32))), .unset, .unset, .unset, .unset, .unset] [(.int (if (0 : Int32) = (0 : Int32) then ((p3 - p2) + p4) else -((p3 - p2) + p4)))])
  rw [show (if (0 : Int32) = (0 : Int32) then ((p3 - p2) + p4) else -((p3 - p2) + p4)) = ((p3 - p2) + p4) from if_pos rfl]
  show own_Go p e below _ T34 (mkF m 40 #[.val (.int p1), .val (.int p2), .val (.int p3), .val (.int p4), .val (.ref b24), .val (.ref b26), .val (.int ((p3 - p2) + (0 : Int32))), .unset, .unset, .unset, .unset, .unset] [(.int ((p3 - p2) + p4))])
  refine own_by (fun _ k => XS.istore X34.here hx rfl (hb hby at_40) rfl (l' := #[.val (.int p1), .val (.int p2), .val (.int p3), .val (.int p4), .val (.ref b24), .val (.ref b26), .val (.int ((p3 - p2) + (0 : Int32))), .val (.int ((p3 - p2) + p4)), .unset, .unset, .unset, .unset]) rfl k) ?_
  show own_Go p e below _ T34 (mkF m 42 #[.val (.int p1), .val (.int p2), .val (.int p3), .val (.int p4), .val (.ref b24), .val (.ref b26), .val (.int ((p3 - p2) + (0 : Int32))), .val (.int ((p3 - p2) + p4)), .unset, .unset, .unset, .unset] [])
  refine own_by (fun _ k => XS.aload X34.here hx rfl (hb hby at_42) rfl rfl k) ?_
  show own_Go p e below _ T34 (mkF m 44 #[.val (.int p1), .val (.int p2), .val (.int p3), .val (.int p4), .val (.ref b24), .val (.ref b26), .val (.int ((p3 - p2) + (0 : Int32))), .val (.int ((p3 - p2) + p4)), .unset, .unset, .unset, .unset] [(.ref b26)])
  refine own_by (fun _ k => XS.iloadN X34.here hx rfl (hb hby at_44) rfl k) ?_
  show own_Go p e below _ T34 (mkF m 45 #[.val (.int p1), .val (.int p2), .val (.int p3), .val (.int p4), .val (.ref b24), .val (.ref b26), .val (.int ((p3 - p2) + (0 : Int32))), .val (.int ((p3 - p2) + p4)), .unset, .unset, .unset, .unset] [(.int p4), (.ref b26)])
  obtain ⟨_, T35, L35, X35, ⟨rfl, N35q, e35⟩, st35⟩ := own_callV X34 hx hZ hown (y := (⟨"com/example/portcullis/portcullis/ior/OctetCount", "value", "(I)I"⟩ : MethodName)) (C := "com/example/portcullis/portcullis/ior/OctetCount") (hw _ (List.mem_of_getElem? (i := 22) rfl)) (hw _ (List.mem_of_getElem? (i := 23) rfl)) (hw _ (List.mem_of_getElem? (i := 25) rfl)) (hw _ (List.mem_of_getElem? (i := 24) rfl)) (hw _ (List.mem_of_getElem? (i := 2) rfl)) (hw _ (List.mem_of_getElem? (i := 26) rfl)) (by decide) (a := b26) E1' (argsL := [(.int p4)]) (rest := []) e34 (rm4 l Z a0 hw [] b26 p4 p3 p2 (1 : Int32) T28.heap n0 Z28 to1' from1' backward1') (g := (mkF m 45 #[.val (.int p1), .val (.int p2), .val (.int p3), .val (.int p4), .val (.ref b24), .val (.ref b26), .val (.int ((p3 - p2) + (0 : Int32))), .val (.int ((p3 - p2) + p4)), .unset, .unset, .unset, .unset] [(.int p4), (.ref b26)])) rfl (by rw [hml]; rfl) (lenOf pd_2 rfl) rfl (W := 0) (by show 2 * 0 + _ ≤ _; exact Nat.le_of_eq rfl) (hb hby at_45) (by decide) (by decide) (by decide) (by decide)
  have N35 := Fr.app N34 N35q
  refine own_by st35 ?_
  show own_Go p e below _ T35 (mkF m 48 #[.val (.int p1), .val (.int p2), .val (.int p3), .val (.int p4), .val (.ref b24), .val (.ref b26), .val (.int ((p3 - p2) + (0 : Int32))), .val (.int ((p3 - p2) + p4)), .unset, .unset, .unset, .unset] [(.int (if (1 : Int32) = (0 : Int32) then ((p3 - p2) + p4) else -((p3 - p2) + p4)))])
  rw [show (if (1 : Int32) = (0 : Int32) then ((p3 - p2) + p4) else -((p3 - p2) + p4)) = (-((p3 - p2) + p4)) from if_neg (by decide)]
  show own_Go p e below _ T35 (mkF m 48 #[.val (.int p1), .val (.int p2), .val (.int p3), .val (.int p4), .val (.ref b24), .val (.ref b26), .val (.int ((p3 - p2) + (0 : Int32))), .val (.int ((p3 - p2) + p4)), .unset, .unset, .unset, .unset] [(.int (-((p3 - p2) + p4)))])
  refine own_by (fun _ k => XS.istore X35.here hx rfl (hb hby at_48) rfl (l' := #[.val (.int p1), .val (.int p2), .val (.int p3), .val (.int p4), .val (.ref b24), .val (.ref b26), .val (.int ((p3 - p2) + (0 : Int32))), .val (.int ((p3 - p2) + p4)), .val (.int (-((p3 - p2) + p4))), .unset, .unset, .unset]) rfl k) ?_
  show own_Go p e below _ T35 (mkF m 50 #[.val (.int p1), .val (.int p2), .val (.int p3), .val (.int p4), .val (.ref b24), .val (.ref b26), .val (.int ((p3 - p2) + (0 : Int32))), .val (.int ((p3 - p2) + p4)), .val (.int (-((p3 - p2) + p4))), .unset, .unset, .unset] [])
  refine own_by (fun _ k => XS.iload X35.here hx rfl (hb hby at_50) rfl k) ?_
  show own_Go p e below _ T35 (mkF m 52 #[.val (.int p1), .val (.int p2), .val (.int p3), .val (.int p4), .val (.ref b24), .val (.ref b26), .val (.int ((p3 - p2) + (0 : Int32))), .val (.int ((p3 - p2) + p4)), .val (.int (-((p3 - p2) + p4))), .unset, .unset, .unset] [(.int ((p3 - p2) + (0 : Int32)))])
  refine own_by (fun _ k => XS.iloadN X35.here hx rfl (hb hby at_52) rfl k) ?_
  show own_Go p e below _ T35 (mkF m 53 #[.val (.int p1), .val (.int p2), .val (.int p3), .val (.int p4), .val (.ref b24), .val (.ref b26), .val (.int ((p3 - p2) + (0 : Int32))), .val (.int ((p3 - p2) + p4)), .val (.int (-((p3 - p2) + p4))), .unset, .unset, .unset] [(.int p3), (.int ((p3 - p2) + (0 : Int32)))])
  refine own_by (fun _ k => XS.iloadN X35.here hx rfl (hb hby at_53) rfl k) ?_
  show own_Go p e below _ T35 (mkF m 54 #[.val (.int p1), .val (.int p2), .val (.int p3), .val (.int p4), .val (.ref b24), .val (.ref b26), .val (.int ((p3 - p2) + (0 : Int32))), .val (.int ((p3 - p2) + p4)), .val (.int (-((p3 - p2) + p4))), .unset, .unset, .unset] [(.int p2), (.int p3), (.int ((p3 - p2) + (0 : Int32)))])
  refine own_by (fun _ k => XS.isub X35.here hx rfl (hb hby at_54) rfl k) ?_
  show own_Go p e below _ T35 (mkF m 55 #[.val (.int p1), .val (.int p2), .val (.int p3), .val (.int p4), .val (.ref b24), .val (.ref b26), .val (.int ((p3 - p2) + (0 : Int32))), .val (.int ((p3 - p2) + p4)), .val (.int (-((p3 - p2) + p4))), .unset, .unset, .unset] [(.int (p3 - p2)), (.int ((p3 - p2) + (0 : Int32)))])
  refine own_by (fun _ k => XS.icmpNo X35.here hx rfl (hb hby at_55) rfl (teq (Int32.add_zero _ : ((p3 - p2) + (0 : Int32)) = (p3 - p2))).2 k) ?_
  show own_Go p e below _ T35 (mkF m 58 #[.val (.int p1), .val (.int p2), .val (.int p3), .val (.int p4), .val (.ref b24), .val (.ref b26), .val (.int ((p3 - p2) + (0 : Int32))), .val (.int ((p3 - p2) + p4)), .val (.int (-((p3 - p2) + p4))), .unset, .unset, .unset] [])
  refine own_by (fun _ k => XS.iconst X35.here hx rfl (hb hby at_58) k) ?_
  show own_Go p e below _ T35 (mkF m 59 #[.val (.int p1), .val (.int p2), .val (.int p3), .val (.int p4), .val (.ref b24), .val (.ref b26), .val (.int ((p3 - p2) + (0 : Int32))), .val (.int ((p3 - p2) + p4)), .val (.int (-((p3 - p2) + p4))), .unset, .unset, .unset] [(.int (1 : Int32))])
  refine own_by (fun _ k => XS.goto X35.here hx rfl (pc0 := 59) (pc' := 63) rfl (hb hby at_59) (by decide) (by decide) k) ?_
  show own_Go p e below _ T35 (mkF m 63 #[.val (.int p1), .val (.int p2), .val (.int p3), .val (.int p4), .val (.ref b24), .val (.ref b26), .val (.int ((p3 - p2) + (0 : Int32))), .val (.int ((p3 - p2) + p4)), .val (.int (-((p3 - p2) + p4))), .unset, .unset, .unset] [(.int (1 : Int32))])
  refine own_by (fun _ k => XS.istore X35.here hx rfl (hb hby at_63) rfl (l' := #[.val (.int p1), .val (.int p2), .val (.int p3), .val (.int p4), .val (.ref b24), .val (.ref b26), .val (.int ((p3 - p2) + (0 : Int32))), .val (.int ((p3 - p2) + p4)), .val (.int (-((p3 - p2) + p4))), .val (.int (1 : Int32)), .unset, .unset]) rfl k) ?_
  show own_Go p e below _ T35 (mkF m 65 #[.val (.int p1), .val (.int p2), .val (.int p3), .val (.int p4), .val (.ref b24), .val (.ref b26), .val (.int ((p3 - p2) + (0 : Int32))), .val (.int ((p3 - p2) + p4)), .val (.int (-((p3 - p2) + p4))), .val (.int (1 : Int32)), .unset, .unset] [])
  refine own_by (fun _ k => XS.iload X35.here hx rfl (hb hby at_65) rfl k) ?_
  show own_Go p e below _ T35 (mkF m 67 #[.val (.int p1), .val (.int p2), .val (.int p3), .val (.int p4), .val (.ref b24), .val (.ref b26), .val (.int ((p3 - p2) + (0 : Int32))), .val (.int ((p3 - p2) + p4)), .val (.int (-((p3 - p2) + p4))), .val (.int (1 : Int32)), .unset, .unset] [(.int ((p3 - p2) + p4))])
  refine own_by (fun _ k => XS.iload X35.here hx rfl (hb hby at_67) rfl k) ?_
  show own_Go p e below _ T35 (mkF m 69 #[.val (.int p1), .val (.int p2), .val (.int p3), .val (.int p4), .val (.ref b24), .val (.ref b26), .val (.int ((p3 - p2) + (0 : Int32))), .val (.int ((p3 - p2) + p4)), .val (.int (-((p3 - p2) + p4))), .val (.int (1 : Int32)), .unset, .unset] [(.int ((p3 - p2) + (0 : Int32))), (.int ((p3 - p2) + p4))])
  refine own_by (fun _ k => XS.iloadN X35.here hx rfl (hb hby at_69) rfl k) ?_
  show own_Go p e below _ T35 (mkF m 70 #[.val (.int p1), .val (.int p2), .val (.int p3), .val (.int p4), .val (.ref b24), .val (.ref b26), .val (.int ((p3 - p2) + (0 : Int32))), .val (.int ((p3 - p2) + p4)), .val (.int (-((p3 - p2) + p4))), .val (.int (1 : Int32)), .unset, .unset] [(.int p4), (.int ((p3 - p2) + (0 : Int32))), (.int ((p3 - p2) + p4))])
  refine own_by (fun _ k => XS.iadd X35.here hx rfl (hb hby at_70) rfl k) ?_
  show own_Go p e below _ T35 (mkF m 71 #[.val (.int p1), .val (.int p2), .val (.int p3), .val (.int p4), .val (.ref b24), .val (.ref b26), .val (.int ((p3 - p2) + (0 : Int32))), .val (.int ((p3 - p2) + p4)), .val (.int (-((p3 - p2) + p4))), .val (.int (1 : Int32)), .unset, .unset] [(.int (((p3 - p2) + (0 : Int32)) + p4)), (.int ((p3 - p2) + p4))])
  refine own_by (fun _ k => XS.icmpNo X35.here hx rfl (hb hby at_71) rfl (teq (by rw [Int32.add_zero] : ((p3 - p2) + p4) = (((p3 - p2) + (0 : Int32)) + p4))).2 k) ?_
  show own_Go p e below _ T35 (mkF m 74 #[.val (.int p1), .val (.int p2), .val (.int p3), .val (.int p4), .val (.ref b24), .val (.ref b26), .val (.int ((p3 - p2) + (0 : Int32))), .val (.int ((p3 - p2) + p4)), .val (.int (-((p3 - p2) + p4))), .val (.int (1 : Int32)), .unset, .unset] [])
  refine own_by (fun _ k => XS.iconst X35.here hx rfl (hb hby at_74) k) ?_
  show own_Go p e below _ T35 (mkF m 75 #[.val (.int p1), .val (.int p2), .val (.int p3), .val (.int p4), .val (.ref b24), .val (.ref b26), .val (.int ((p3 - p2) + (0 : Int32))), .val (.int ((p3 - p2) + p4)), .val (.int (-((p3 - p2) + p4))), .val (.int (1 : Int32)), .unset, .unset] [(.int (1 : Int32))])
  refine own_by (fun _ k => XS.goto X35.here hx rfl (pc0 := 75) (pc' := 79) rfl (hb hby at_75) (by decide) (by decide) k) ?_
  show own_Go p e below _ T35 (mkF m 79 #[.val (.int p1), .val (.int p2), .val (.int p3), .val (.int p4), .val (.ref b24), .val (.ref b26), .val (.int ((p3 - p2) + (0 : Int32))), .val (.int ((p3 - p2) + p4)), .val (.int (-((p3 - p2) + p4))), .val (.int (1 : Int32)), .unset, .unset] [(.int (1 : Int32))])
  refine own_by (fun _ k => XS.istore X35.here hx rfl (hb hby at_79) rfl (l' := #[.val (.int p1), .val (.int p2), .val (.int p3), .val (.int p4), .val (.ref b24), .val (.ref b26), .val (.int ((p3 - p2) + (0 : Int32))), .val (.int ((p3 - p2) + p4)), .val (.int (-((p3 - p2) + p4))), .val (.int (1 : Int32)), .val (.int (1 : Int32)), .unset]) rfl k) ?_
  show own_Go p e below _ T35 (mkF m 81 #[.val (.int p1), .val (.int p2), .val (.int p3), .val (.int p4), .val (.ref b24), .val (.ref b26), .val (.int ((p3 - p2) + (0 : Int32))), .val (.int ((p3 - p2) + p4)), .val (.int (-((p3 - p2) + p4))), .val (.int (1 : Int32)), .val (.int (1 : Int32)), .unset] [])
  refine own_by (fun _ k => XS.iload X35.here hx rfl (hb hby at_81) rfl k) ?_
  show own_Go p e below _ T35 (mkF m 83 #[.val (.int p1), .val (.int p2), .val (.int p3), .val (.int p4), .val (.ref b24), .val (.ref b26), .val (.int ((p3 - p2) + (0 : Int32))), .val (.int ((p3 - p2) + p4)), .val (.int (-((p3 - p2) + p4))), .val (.int (1 : Int32)), .val (.int (1 : Int32)), .unset] [(.int (-((p3 - p2) + p4)))])
  refine own_by (fun _ k => XS.iload X35.here hx rfl (hb hby at_83) rfl k) ?_
  show own_Go p e below _ T35 (mkF m 85 #[.val (.int p1), .val (.int p2), .val (.int p3), .val (.int p4), .val (.ref b24), .val (.ref b26), .val (.int ((p3 - p2) + (0 : Int32))), .val (.int ((p3 - p2) + p4)), .val (.int (-((p3 - p2) + p4))), .val (.int (1 : Int32)), .val (.int (1 : Int32)), .unset] [(.int ((p3 - p2) + p4)), (.int (-((p3 - p2) + p4)))])
  refine own_by (fun _ k => XS.ineg X35.here hx rfl (hb hby at_85) rfl k) ?_
  show own_Go p e below _ T35 (mkF m 86 #[.val (.int p1), .val (.int p2), .val (.int p3), .val (.int p4), .val (.ref b24), .val (.ref b26), .val (.int ((p3 - p2) + (0 : Int32))), .val (.int ((p3 - p2) + p4)), .val (.int (-((p3 - p2) + p4))), .val (.int (1 : Int32)), .val (.int (1 : Int32)), .unset] [(.int (-((p3 - p2) + p4))), (.int (-((p3 - p2) + p4)))])
  refine own_by (fun _ k => XS.icmpNo X35.here hx rfl (hb hby at_86) rfl (teq (rfl : (-((p3 - p2) + p4)) = (-((p3 - p2) + p4)))).2 k) ?_
  show own_Go p e below _ T35 (mkF m 89 #[.val (.int p1), .val (.int p2), .val (.int p3), .val (.int p4), .val (.ref b24), .val (.ref b26), .val (.int ((p3 - p2) + (0 : Int32))), .val (.int ((p3 - p2) + p4)), .val (.int (-((p3 - p2) + p4))), .val (.int (1 : Int32)), .val (.int (1 : Int32)), .unset] [])
  refine own_by (fun _ k => XS.iconst X35.here hx rfl (hb hby at_89) k) ?_
  show own_Go p e below _ T35 (mkF m 90 #[.val (.int p1), .val (.int p2), .val (.int p3), .val (.int p4), .val (.ref b24), .val (.ref b26), .val (.int ((p3 - p2) + (0 : Int32))), .val (.int ((p3 - p2) + p4)), .val (.int (-((p3 - p2) + p4))), .val (.int (1 : Int32)), .val (.int (1 : Int32)), .unset] [(.int (1 : Int32))])
  refine own_by (fun _ k => XS.goto X35.here hx rfl (pc0 := 90) (pc' := 94) rfl (hb hby at_90) (by decide) (by decide) k) ?_
  show own_Go p e below _ T35 (mkF m 94 #[.val (.int p1), .val (.int p2), .val (.int p3), .val (.int p4), .val (.ref b24), .val (.ref b26), .val (.int ((p3 - p2) + (0 : Int32))), .val (.int ((p3 - p2) + p4)), .val (.int (-((p3 - p2) + p4))), .val (.int (1 : Int32)), .val (.int (1 : Int32)), .unset] [(.int (1 : Int32))])
  refine own_by (fun _ k => XS.istore X35.here hx rfl (hb hby at_94) rfl (l' := #[.val (.int p1), .val (.int p2), .val (.int p3), .val (.int p4), .val (.ref b24), .val (.ref b26), .val (.int ((p3 - p2) + (0 : Int32))), .val (.int ((p3 - p2) + p4)), .val (.int (-((p3 - p2) + p4))), .val (.int (1 : Int32)), .val (.int (1 : Int32)), .val (.int (1 : Int32))]) rfl k) ?_
  show own_Go p e below _ T35 (mkF m 96 #[.val (.int p1), .val (.int p2), .val (.int p3), .val (.int p4), .val (.ref b24), .val (.ref b26), .val (.int ((p3 - p2) + (0 : Int32))), .val (.int ((p3 - p2) + p4)), .val (.int (-((p3 - p2) + p4))), .val (.int (1 : Int32)), .val (.int (1 : Int32)), .val (.int (1 : Int32))] [])
  refine own_by (fun _ k => XS.iload X35.here hx rfl (hb hby at_96) rfl k) ?_
  show own_Go p e below _ T35 (mkF m 98 #[.val (.int p1), .val (.int p2), .val (.int p3), .val (.int p4), .val (.ref b24), .val (.ref b26), .val (.int ((p3 - p2) + (0 : Int32))), .val (.int ((p3 - p2) + p4)), .val (.int (-((p3 - p2) + p4))), .val (.int (1 : Int32)), .val (.int (1 : Int32)), .val (.int (1 : Int32))] [(.int (1 : Int32))])
  refine own_by (fun _ k => XS.ifNo X35.here hx rfl (hb hby at_98) rfl ((if0 _ _).trans (feq (by decide : ¬ ((1 : Int32) = (0 : Int32)))).1) k) ?_
  show own_Go p e below _ T35 (mkF m 101 #[.val (.int p1), .val (.int p2), .val (.int p3), .val (.int p4), .val (.ref b24), .val (.ref b26), .val (.int ((p3 - p2) + (0 : Int32))), .val (.int ((p3 - p2) + p4)), .val (.int (-((p3 - p2) + p4))), .val (.int (1 : Int32)), .val (.int (1 : Int32)), .val (.int (1 : Int32))] [])
  refine own_by (fun _ k => XS.iload X35.here hx rfl (hb hby at_101) rfl k) ?_
  show own_Go p e below _ T35 (mkF m 103 #[.val (.int p1), .val (.int p2), .val (.int p3), .val (.int p4), .val (.ref b24), .val (.ref b26), .val (.int ((p3 - p2) + (0 : Int32))), .val (.int ((p3 - p2) + p4)), .val (.int (-((p3 - p2) + p4))), .val (.int (1 : Int32)), .val (.int (1 : Int32)), .val (.int (1 : Int32))] [(.int (1 : Int32))])
  refine own_by (fun _ k => XS.ifNo X35.here hx rfl (hb hby at_103) rfl ((if0 _ _).trans (feq (by decide : ¬ ((1 : Int32) = (0 : Int32)))).1) k) ?_
  show own_Go p e below _ T35 (mkF m 106 #[.val (.int p1), .val (.int p2), .val (.int p3), .val (.int p4), .val (.ref b24), .val (.ref b26), .val (.int ((p3 - p2) + (0 : Int32))), .val (.int ((p3 - p2) + p4)), .val (.int (-((p3 - p2) + p4))), .val (.int (1 : Int32)), .val (.int (1 : Int32)), .val (.int (1 : Int32))] [])
  refine own_by (fun _ k => XS.iload X35.here hx rfl (hb hby at_106) rfl k) ?_
  show own_Go p e below _ T35 (mkF m 108 #[.val (.int p1), .val (.int p2), .val (.int p3), .val (.int p4), .val (.ref b24), .val (.ref b26), .val (.int ((p3 - p2) + (0 : Int32))), .val (.int ((p3 - p2) + p4)), .val (.int (-((p3 - p2) + p4))), .val (.int (1 : Int32)), .val (.int (1 : Int32)), .val (.int (1 : Int32))] [(.int (1 : Int32))])
  refine own_by (fun _ k => XS.ifNo X35.here hx rfl (hb hby at_108) rfl ((if0 _ _).trans (feq (by decide : ¬ ((1 : Int32) = (0 : Int32)))).1) k) ?_
  show own_Go p e below _ T35 (mkF m 111 #[.val (.int p1), .val (.int p2), .val (.int p3), .val (.int p4), .val (.ref b24), .val (.ref b26), .val (.int ((p3 - p2) + (0 : Int32))), .val (.int ((p3 - p2) + p4)), .val (.int (-((p3 - p2) + p4))), .val (.int (1 : Int32)), .val (.int (1 : Int32)), .val (.int (1 : Int32))] [])
  refine own_by (fun _ k => XS.iconst X35.here hx rfl (hb hby at_111) k) ?_
  show own_Go p e below _ T35 (mkF m 112 #[.val (.int p1), .val (.int p2), .val (.int p3), .val (.int p4), .val (.ref b24), .val (.ref b26), .val (.int ((p3 - p2) + (0 : Int32))), .val (.int ((p3 - p2) + p4)), .val (.int (-((p3 - p2) + p4))), .val (.int (1 : Int32)), .val (.int (1 : Int32)), .val (.int (1 : Int32))] [(.int (1 : Int32))])
  refine own_by (fun _ k => XS.goto X35.here hx rfl (pc0 := 112) (pc' := 116) rfl (hb hby at_112) (by decide) (by decide) k) ?_
  show own_Go p e below _ T35 (mkF m 116 #[.val (.int p1), .val (.int p2), .val (.int p3), .val (.int p4), .val (.ref b24), .val (.ref b26), .val (.int ((p3 - p2) + (0 : Int32))), .val (.int ((p3 - p2) + p4)), .val (.int (-((p3 - p2) + p4))), .val (.int (1 : Int32)), .val (.int (1 : Int32)), .val (.int (1 : Int32))] [(.int (1 : Int32))])
  exact own_retN X35 hx hlk hret (by simp) rfl (hb hby at_116) (by first | exact ⟨rfl, N35⟩ | (rw [e35]; exact ⟨rfl, N35⟩)) (by decide) (by decide)
set_option maxRecDepth 65536 in
set_option maxHeartbeats 40000000 in
theorem comes_1 {Post : Tables → Env → Array Value → State → Outcome → State → Prop} (hpost : ∀ tb e args s v u, (limb_1_1.after args s (.returned v) u = true ∧ limb_1_2.after args s (.returned v) u = true ∧ True) → FrameEnd s (.returned v) u (Jvm.fieldLocs frame_1_writes args s ++ Jvm.arrayLocs frame_1_arrays args s ++ Jvm.staticLocs frame_1_statics s) 16 128 → Post tb e args s (.returned v) u) :
    ArmFor flags0 classFile x code maxLocals ret World_1 tables_1 room_1 Calls_1 rest_1 Pre_1 Post := by
  intro l hfl _ _ p e ha hc hk s m args below hf hA hF happ hP
  obtain ⟨hcalls, hrest, hpre⟩ := hP
  obtain ⟨-, -, -, hnamed, -, -, -, hat⟩ := (Spec.applies_iff hf).mp happ
  obtain ⟨hg, hn⟩ := and_e (Cond.before_iff.mp (show (Jvm.Cond.and given_1 narrow_1).before args s = true from hpre))
  obtain ⟨g1, g2⟩ := and_e hg
  obtain ⟨g3, g4⟩ := and_e g2
  obtain ⟨g5, g6⟩ := and_e g4
  obtain ⟨g7, g8⟩ := and_e g6
  obtain ⟨w0, w1, w2, w3, rfl⟩ : ∃ w0 w1 w2 w3 : Value, args = #[w0, w1, w2, w3] := by
    have hs : args.size = 4 := by simpa [Cond.value, given_1] using g1
    obtain ⟨L⟩ := args
    match L, hs with
    | [w0, w1, w2, w3], _ => exact ⟨w0, w1, w2, w3, rfl⟩
  have hw := fun d (hd : d ∈ tables_1) => atoms_spec (ws := Jvm.Cond.code x code maxLocals ret :: tables_1) hat d (List.mem_cons_of_mem _ hd)
  have hfit : Fit s := fun {y c} hc i hi => by
    obtain ⟨ha, rfl⟩ := Array.getElem?_eq_some_iff.mp hc
    have q := List.all_eq_true.mp ((Array.all_eq_true_iff_forall_mem.mp hF) _ (Array.getElem_mem ha)) i (List.mem_range.mpr hi)
    simpa [Array.getElem?_eq_getElem hi] using q
  obtain ⟨i0, ei0⟩ := is_v g3
  obtain rfl : w0 = (.int i0) := Option.some.inj ei0
  obtain ⟨i1, ei1⟩ := is_v g5
  obtain rfl : w1 = (.int i1) := Option.some.inj ei1
  obtain ⟨i2, ei2⟩ := is_v g7
  obtain rfl : w2 = (.int i2) := Option.some.inj ei2
  obtain ⟨i3, ei3⟩ := is_v g8
  obtain rfl : w3 = (.int i3) := Option.some.inj ei3
  obtain ⟨n, o, h1, h2, h3, _, L, rfl, ⟨rfl, N⟩, hq⟩ := rm0 l s _ hw tables_1 i0 i1 i2 i3 s.heap s.heap.size (Nat.le_refl _)  p e ha hc hk s m _ below hf ((Spec.applies_iff_loose hf).mp happ).1 ⟨rfl, State.Warmed39.refl s, rfl⟩ trivial
  refine ⟨n, _, h1, h2, h3, hpost _ _ _ _ _ _ ⟨Cond.after_iff.mpr rfl, Cond.after_iff.mpr (eq_i res_at (Term.int_eval (1)) rfl), trivial⟩ ⟨hq.1, hq.2.1, (hq.2.2.sift fun y hy => Or.inr (N y hy)).mono (by decide) (by decide)⟩⟩
theorem main_1_1 : Claimed_1_1 := comes_1 fun _ _ _ _ _ _ h hF => ⟨h.1, hF⟩
theorem main_1_2 : Claimed_1_2 := comes_1 fun _ _ _ _ _ _ h hF => ⟨h.2.1, hF⟩
end Jvm.Pilot.@@N@@
namespace Jvm.Pilot.@@N@@
open Jvm Jvm.ClassFile Sem Op Lib Jvm.Free Jvm.Stand Jvm.Pilot.@@N@@.Jvm.D
/-! MADE BY PROGRAM (witnessworld.py) out of the Statement's table words and the real class files: 10 classes; the members and pool entries that the words name. The judged class is class 1, her method 1. -/
namespace start1
open Jvm.ClassFile
def u (s : String) : CpInfo := .utf8 (stringToUtf16 s)
/-- a pool by its gaps: so many unusable entries, then the entry; so many at the end -/
def gap : Nat → List CpInfo → List CpInfo
  | 0, r => r
  | n + 1, r => .unusable :: gap n r
def poolList (es : List (Nat × CpInfo)) (last : Nat) : List CpInfo := es.foldr (fun e r => gap e.1 (e.2 :: r)) (gap last [])
def pool (es : List (Nat × CpInfo)) (last : Nat) : Array CpInfo := ⟨poolList es last⟩
def fileOf (pool : Array CpInfo) (this : Nat) (attrs : Array Attribute := #[]) (ms : Array MethodInfo := #[]) (fl : Nat := 33) (sup : Nat := 0) (ifs : Array Nat := #[]) (fds : Array FieldInfo := #[]) : ClassFile where
  minorVersion := 0
  majorVersion := 65
  constantPool := pool
  accessFlags := fl
  thisClass := this
  superClass := sup
  interfaces := ifs
  fields := fds
  methods := ms
  attributes := attrs
def plain (name : String) (sup : Option ClassId) : Class where
  name := name
  kind := .ordinary
  loader := none
  accessFlags := 33
  super := sup
  interfaces := #[]
  cf := none
  fields := #[]
  methods := #[]
  instanceTypes := #[]
  staticTypes := #[]
  resolved := #[]
  callSites := []
  init := .initialized
  statics := none
  mirror := none

def pool0 : Array CpInfo := pool [(5, u "<init>"), (0, u "()V"), (1, .class_ 10), (1, u "java/lang/Object")] 113

def k0c0 : Code := { maxStack := 0, maxLocals := 1, code := object_method_1_code, exceptionTable := #[], attributes := #[] }
def k0m0 : Method := { name := "<init>", desc := "()V", sig := { parameters := [], returnType := none }, accessFlags := 1, code := some k0c0 }
/-- java/lang/Object -/
def k0 : Class := { plain "java/lang/Object" none with
  accessFlags := 33
  interfaces := #[]
  cf := some (fileOf pool0 8 #[] #[{ accessFlags := 1, nameIndex := 5, descriptorIndex := 6, attributes := #[] }] 33 0 #[] #[])
  fields := #[]
  methods := #[k0m0]
  instanceTypes := #[]
  staticTypes := #[]
  resolved := Array.replicate 124 none
  statics := none }

def pool1 : Array CpInfo := pool [(2, .class_ 4), (1, u "java/lang/Object"), (0, u "<init>"), (0, u "()V"), (0, .class_ 8), (0, u "com/example/portcullis/portcullis/ior/OctetCount"), (0, .methodref 7 10), (0, .nameAndType 5 11), (0, u "(IIIZ)V"), (0, .methodref 7 13), (0, .nameAndType 14 15), (0, u "value"), (0, u "(I)I"), (0, .class_ 17), (0, u "com/example/portcullis/portcullis/ior/OctetCountValuePinLaw"), (2, u "law"), (0, u "(IIII)Z")] 3

def k1m0 : Method := { name := "<init>", desc := "()V", sig := { parameters := [], returnType := none }, accessFlags := 1, code := none }
def k1c1 : Code := { maxStack := 6, maxLocals := 12, code := code, exceptionTable := #[], attributes := #[] }
def k1m1 : Method := { name := "law", desc := "(IIII)Z", sig := { parameters := [.int, .int, .int, .int], returnType := some .boolean }, accessFlags := 9, code := some k1c1 }
/-- com/example/portcullis/portcullis/ior/OctetCountValuePinLaw -/
def k1 : Class := { plain "com/example/portcullis/portcullis/ior/OctetCountValuePinLaw" (some 0) with
  accessFlags := 49
  interfaces := #[]
  cf := some (fileOf pool1 16 #[] #[{ accessFlags := 1, nameIndex := 5, descriptorIndex := 6, attributes := #[] }, { accessFlags := 9, nameIndex := 20, descriptorIndex := 21, attributes := #[] }] 49 2 #[] #[])
  fields := #[]
  methods := #[k1m0, k1m1]
  instanceTypes := #[]
  staticTypes := #[]
  resolved := Array.replicate 25 none
  statics := none }

def pool2 : Array CpInfo := pool [(1, .methodref 2 3), (0, .class_ 4), (0, .nameAndType 5 6), (0, u "java/lang/Object"), (0, u "<init>"), (0, u "()V"), (0, .class_ 8), (0, u "java/lang/Record")] 13

def k2c0 : Code := { maxStack := 1, maxLocals := 1, code := jdk_30_method_1_code, exceptionTable := #[], attributes := #[] }
def k2m0 : Method := { name := "<init>", desc := "()V", sig := { parameters := [], returnType := none }, accessFlags := 4, code := some k2c0 }
/-- java/lang/Record -/
def k2 : Class := { plain "java/lang/Record" (some 0) with
  accessFlags := 1057
  interfaces := #[]
  cf := some (fileOf pool2 7 #[] #[{ accessFlags := 4, nameIndex := 5, descriptorIndex := 6, attributes := #[] }] 1057 2 #[] #[])
  fields := #[]
  methods := #[k2m0]
  instanceTypes := #[]
  staticTypes := #[]
  resolved := Array.replicate 22 none
  statics := none }

def pool3 : Array CpInfo := pool [(1, .methodref 2 3), (0, .class_ 4), (0, .nameAndType 5 6), (0, u "java/lang/Record"), (0, u "<init>"), (0, u "()V"), (0, .fieldref 8 9), (0, .class_ 10), (0, .nameAndType 11 12), (0, u "com/example/portcullis/portcullis/ior/OctetCount"), (0, u "at"), (0, u "I"), (0, .fieldref 8 14), (0, .nameAndType 15 12), (0, u "from"), (0, .fieldref 8 17), (0, .nameAndType 18 12), (0, u "to"), (0, .fieldref 8 20), (0, .nameAndType 21 22), (0, u "backward"), (0, u "Z"), (12, u "(IIIZ)V"), (3, u "value"), (0, u "(I)I")] 28

def k3c0 : Code := { maxStack := 2, maxLocals := 5, code := prog_64_method_1_code, exceptionTable := #[], attributes := #[] }
def k3m0 : Method := { name := "<init>", desc := "(IIIZ)V", sig := { parameters := [.int, .int, .int, .boolean], returnType := none }, accessFlags := 1, code := some k3c0 }
def k3c1 : Code := { maxStack := 2, maxLocals := 3, code := prog_64_method_2_code, exceptionTable := #[], attributes := #[] }
def k3m1 : Method := { name := "value", desc := "(I)I", sig := { parameters := [.int], returnType := some .int }, accessFlags := 1, code := some k3c1 }
/-- com/example/portcullis/portcullis/ior/OctetCount -/
def k3 : Class := { plain "com/example/portcullis/portcullis/ior/OctetCount" (some 2) with
  accessFlags := 49
  interfaces := #[]
  cf := some (fileOf pool3 8 #[] #[{ accessFlags := 1, nameIndex := 5, descriptorIndex := 35, attributes := #[] }, { accessFlags := 1, nameIndex := 39, descriptorIndex := 40, attributes := #[] }] 49 2 #[] #[{ accessFlags := 18, nameIndex := 11, descriptorIndex := 12, attributes := #[] }, { accessFlags := 18, nameIndex := 15, descriptorIndex := 12, attributes := #[] }, { accessFlags := 18, nameIndex := 18, descriptorIndex := 12, attributes := #[] }, { accessFlags := 18, nameIndex := 21, descriptorIndex := 22, attributes := #[] }])
  fields := #[{ name := "at", type := .int, accessFlags := 18, slot := 0, constantValue := 0 }, { name := "from", type := .int, accessFlags := 18, slot := 1, constantValue := 0 }, { name := "to", type := .int, accessFlags := 18, slot := 2, constantValue := 0 }, { name := "backward", type := .boolean, accessFlags := 18, slot := 3, constantValue := 0 }]
  methods := #[k3m0, k3m1]
  instanceTypes := #[.int, .int, .int, .boolean]
  staticTypes := #[]
  resolved := Array.replicate 69 none
  statics := none }

def pool4 : Array CpInfo := pool [(1, u "java/lang/Cloneable"), (0, .class_ 1), (0, u "java/lang/Object"), (0, .class_ 3)] 3

/-- java/lang/Cloneable -/
def k4 : Class := { plain "java/lang/Cloneable" (some 0) with
  accessFlags := 1537
  interfaces := #[]
  cf := some (fileOf pool4 2 #[] #[] 1537 4 #[] #[])
  fields := #[]
  methods := #[]
  instanceTypes := #[]
  staticTypes := #[]
  resolved := Array.replicate 8 none
  statics := none }

def pool5 : Array CpInfo := pool [(1, u "java/io/Serializable"), (0, .class_ 1), (0, u "java/lang/Object"), (0, .class_ 3)] 3

/-- java/io/Serializable -/
def k5 : Class := { plain "java/io/Serializable" (some 0) with
  accessFlags := 1537
  interfaces := #[]
  cf := some (fileOf pool5 2 #[] #[] 1537 4 #[] #[])
  fields := #[]
  methods := #[]
  instanceTypes := #[]
  staticTypes := #[]
  resolved := Array.replicate 8 none
  statics := none }

/-- the primitive byte -/
def k6 : Class := { plain "byte" none with kind := .primitive 'B', accessFlags := 0x411 }
/-- [B -/
def k7 : Class := { plain "[B" (some 0) with kind := .array 6 .byte, interfaces := #[4, 5], accessFlags := 1041 }

/-- the primitive int -/
def k8 : Class := { plain "int" none with kind := .primitive 'I', accessFlags := 0x411 }
/-- [I -/
def k9 : Class := { plain "[I" (some 0) with kind := .array 8 .int, interfaces := #[4, 5], accessFlags := 1041 }

def heap : Heap := #[]
def classes : Array Class := #[k0, k1, k2, k3, k4, k5, k6, k7, k8, k9]
def interned : List (Array UInt16 × Addr) := []
def slotsUsed : Nat := 0
def theMethod : MethodId := ⟨1, 1⟩
def args0 : Array Value := #[.int 1, .int 2, .int 3, .int 4]
def aboutOver (below : List Frame) : State where
  vm := { classes := classes, interned := interned.toArray }
  heap := heap
  slotsUsed := slotsUsed
  threads := #[{ frames := .invoking theMethod args0 :: below }]
def below0 : List Frame := [.native { method := ⟨0, 0⟩, args := #[] }]
def about1 : State := aboutOver below0
def p0 : Program := .bare "" "" ""
def e0 : Env := launch0.env 0 0 0
theorem w_frames : about1.frames = Frame.invoking theMethod args0 :: below0 := rfl
set_option maxRecDepth 65536 in
theorem w_args : argsFit about1.vm theMethod args0 = true := by decide +kernel
set_option maxRecDepth 65536 in
theorem w_heap : heapFits about1 = true := by decide +kernel
set_option maxRecDepth 65536 in
theorem w_runnable : about1.curStatus? = some .runnable := by decide +kernel
set_option maxRecDepth 65536 in
theorem w_alone : about1.alone = true := by decide +kernel
set_option maxRecDepth 65536 in
theorem w_named : about1.methodNamed? x = some theMethod := by decide +kernel
set_option maxRecDepth 65536 in
theorem w_hears : about1.hears theMethod below0 = true := by decide +kernel
set_option maxRecDepth 65536 in
theorem w_ripe : about1.ripe theMethod args0 below0 = true := by decide +kernel
theorem w_running : about1.status = .running := rfl
set_option maxRecDepth 65536 in
theorem w_room : about1.hasRoom e0.platform room_1 = true :=
  launch0.hasRoom_least _ room_1 (by decide +kernel) (by decide +kernel) (by decide +kernel) (by decide +kernel) (by decide +kernel) (by decide +kernel)
theorem allAtoms_all (ts : List Jvm.Cond) (a : Array Jvm.Value) (st : Jvm.State) : (allAtoms ts).before a st = ts.all (fun c => c.before a st) := by
  induction ts with
  | nil => rfl
  | cons c t ih =>
    show (Jvm.Cond.and c (allAtoms t)).before a st = _
    rw [Jvm.Cond.before_and, ih, List.all_cons]
def words1 : List Jvm.Cond := Jvm.Cond.code x code maxLocals ret :: tables_1
/-- a 'code' word, met by the world's own term for the bytes: nothing is compared byte by byte -/
theorem code_word {y : MethodName} {bytes : ByteArray} {mx : Nat} {rt : Option FieldType} {a : Array Value} {s : State} {m : MethodId} {meth : Method} {c : Code} (h1 : s.methodNamed? y = some m) (h2 : s.vm.method? m = some meth) (h3 : meth.code = some c) (h4 : c.code = bytes)
    (h5 : (c.maxLocals == mx && c.exceptionTable.isEmpty && decide (c.maxStack ≤ mostOperands) && decide (meth.sig.returnType = rt) && !meth.locks && decide (parseMethodDescriptor y.desc = some meth.sig)) = true) : (Jvm.Cond.code y bytes mx rt).before a s = true := by
  simp only [Bool.and_eq_true, beq_iff_eq, Bool.not_eq_true', decide_eq_true_eq] at h5
  obtain ⟨⟨⟨⟨⟨g1, g2⟩, g3⟩, g4⟩, g5⟩, g6⟩ := h5
  simp [Cond.before, Cond.holds, Cond.value, h1, h2, h3, h4, g1, g2, g3, g4, g5, g6]
def isCode : Jvm.Cond → Bool
  | .code _ _ _ _ => true
  | _ => false
theorem all_split {L : List Jvm.Cond} {P : Jvm.Cond → Bool} (h1 : L.all (fun c => isCode c || P c) = true) (h2 : ∀ c ∈ L.filter isCode, P c = true) : L.all P = true := by
  refine List.all_eq_true.mpr fun c hc => ?_
  have h := List.all_eq_true.mp h1 c hc
  rcases Bool.eq_false_or_eq_true (isCode c) with hi | hi
  · exact h2 c (List.mem_filter.mpr ⟨hc, hi⟩)
  · simpa [hi] using h
set_option maxRecDepth 65536 in
theorem w_c0 : (Jvm.Cond.code x code maxLocals ret).before args0 about1 = true := code_word (m := ⟨1, 1⟩) (meth := k1m1) (c := k1c1) (by decide +kernel) rfl rfl rfl (by decide +kernel)
set_option maxRecDepth 65536 in
theorem w_c1 : (Jvm.Cond.code ({ cls := "com/example/portcullis/portcullis/ior/OctetCount", name := "<init>", desc := "(IIIZ)V" } : Jvm.MethodName) prog_64_method_1_code (5 : Nat) (Option.none : Option Jvm.ClassFile.FieldType)).before args0 about1 = true := code_word (m := ⟨3, 0⟩) (meth := k3m0) (c := k3c0) (by decide +kernel) rfl rfl rfl (by decide +kernel)
set_option maxRecDepth 65536 in
theorem w_c2 : (Jvm.Cond.code ({ cls := "java/lang/Record", name := "<init>", desc := "()V" } : Jvm.MethodName) jdk_30_method_1_code (1 : Nat) (Option.none : Option Jvm.ClassFile.FieldType)).before args0 about1 = true := code_word (m := ⟨2, 0⟩) (meth := k2m0) (c := k2c0) (by decide +kernel) rfl rfl rfl (by decide +kernel)
set_option maxRecDepth 65536 in
theorem w_c3 : (Jvm.Cond.code ({ cls := "java/lang/Object", name := "<init>", desc := "()V" } : Jvm.MethodName) object_method_1_code (1 : Nat) (Option.none : Option Jvm.ClassFile.FieldType)).before args0 about1 = true := code_word (m := ⟨0, 0⟩) (meth := k0m0) (c := k0c0) (by decide +kernel) rfl rfl rfl (by decide +kernel)
set_option maxRecDepth 65536 in
theorem w_c4 : (Jvm.Cond.code ({ cls := "com/example/portcullis/portcullis/ior/OctetCount", name := "value", desc := "(I)I" } : Jvm.MethodName) prog_64_method_2_code (3 : Nat) (Option.some Jvm.ClassFile.FieldType.int)).before args0 about1 = true := code_word (m := ⟨3, 1⟩) (meth := k3m1) (c := k3c1) (by decide +kernel) rfl rfl rfl (by decide +kernel)
def codes1 : List Jvm.Cond := [Jvm.Cond.code x code maxLocals ret, Jvm.Cond.code ({ cls := "com/example/portcullis/portcullis/ior/OctetCount", name := "<init>", desc := "(IIIZ)V" } : Jvm.MethodName) prog_64_method_1_code (5 : Nat) (Option.none : Option Jvm.ClassFile.FieldType), Jvm.Cond.code ({ cls := "java/lang/Record", name := "<init>", desc := "()V" } : Jvm.MethodName) jdk_30_method_1_code (1 : Nat) (Option.none : Option Jvm.ClassFile.FieldType), Jvm.Cond.code ({ cls := "java/lang/Object", name := "<init>", desc := "()V" } : Jvm.MethodName) object_method_1_code (1 : Nat) (Option.none : Option Jvm.ClassFile.FieldType), Jvm.Cond.code ({ cls := "com/example/portcullis/portcullis/ior/OctetCount", name := "value", desc := "(I)I" } : Jvm.MethodName) prog_64_method_2_code (3 : Nat) (Option.some Jvm.ClassFile.FieldType.int)]
set_option maxRecDepth 65536 in
theorem codes_eq : words1.filter isCode = codes1 := rfl
theorem w_codes : ∀ c ∈ words1.filter isCode, c.before args0 about1 = true := by
  rw [codes_eq]
  intro c hc
  simp only [codes1, List.mem_cons, List.not_mem_nil, or_false] at hc
  rcases hc with rfl | rfl | rfl | rfl | rfl
  · exact w_c0
  · exact w_c1
  · exact w_c2
  · exact w_c3
  · exact w_c4
set_option maxRecDepth 65536 in
theorem w_t1 : (words1.take 24).all (fun c => isCode c || c.before args0 about1) = true := by decide +kernel
set_option maxRecDepth 65536 in
theorem w_t2 : (words1.drop 24).all (fun c => isCode c || c.before args0 about1) = true := by decide +kernel
theorem w_tables : (allAtoms (Jvm.Cond.code x code maxLocals ret :: tables_1)).before args0 about1 = true := by
  rw [allAtoms_all]
  show words1.all (fun c => c.before args0 about1) = true
  refine all_split ?_ w_codes
  rw [← List.take_append_drop 24 words1, List.all_append, w_t1, w_t2]
  rfl
set_option maxRecDepth 65536 in
theorem w_case : (Jvm.Cond.and given_1 narrow_1).before args0 about1 = true := by decide +kernel
theorem w_applies : (headSpec (Jvm.Cond.code x code maxLocals ret :: tables_1) room_1).applies x e0.platform about1 = true :=
  (Spec.applies_iff w_frames).mpr ⟨w_running, w_runnable, w_alone, w_named, w_hears, w_ripe, w_room, w_tables⟩
theorem atStart : AtStart classFile x code maxLocals ret World_1 tables_1 room_1 Calls_1 rest_1 Pre_1 launch0 p0 e0 about1 theMethod args0 below0 :=
  ⟨lists_1, trivial, launch0.admits_env _ _ _, launch0.least_env, fairChoices_fair.cas, fairChoices_fair.clock, w_frames, w_args, w_heap, w_applies, trivial, trivial, w_case⟩
end start1
theorem witness_1 : WitnessClaimed_1 := ⟨start1.p0, start1.e0, start1.about1, start1.theMethod, start1.args0, start1.below0, start1.atStart⟩
end Jvm.Pilot.@@N@@
