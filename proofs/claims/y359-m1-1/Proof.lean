import JvmDerived
import JvmDerived.Pilot.@@N@@Statement
import JvmDerived.Pilot.@@N@@Code
set_option linter.unusedVariables false
set_option linter.unusedSimpArgs false
namespace Jvm.Pilot.@@N@@
open Jvm Jvm.ClassFile Sem Op Lib Jvm.Free Jvm.Stand Jvm.LawKit Jvm.RoadKit Bundle Jvm.Pilot.@@N@@.Jvm.D
section OwnKit
variable {p : Program} {l : Launch} {e : Env} {R : Room} {s : State} {m : MethodId} {args : Array Value} {below : List Frame} {meth : Method} {c : Code} {T T' : State} {locs : List Loc} {cells slots : Nat} {Z : State} {a0 : Array Value} {h : Heap}
/-- from here the run comes to an end of which E speaks -/
def own_Go (p : Program) (e : Env) (below : List Frame) (E : State → Outcome → Prop) (T : State) (g : JFrame) : Prop :=
  ∃ t o, Steps p.tables e below (T.setTop g) t ∧ t.status = .running ∧ Ended t below o ∧ E t o
def own_End (s : State) (k n : Nat) (Q : Option Value → Heap → List Loc → Prop) (t : State) (o : Outcome) : Prop :=
  ∃ v L, o = .returned v ∧ Q v t.heap L ∧ FrameEnd s o t L k n
theorem own_by {E : State → Outcome → Prop} {g g' : JFrame} (st : ∀ target, Steps p.tables e below (T'.setTop g') target → Steps p.tables e below (T.setTop g) target) (k : own_Go p e below E T' g') : own_Go p e below E T g := by
  obtain ⟨t, o, h1, r⟩ := k
  exact ⟨t, o, st t h1, r⟩
theorem own_retW (X : Stand p l e R s m args below meth c T locs cells slots) (hx : p.tables.exec = Jvm.exec) (hlk : meth.locks = false) {pc : Nat} {Ls : Array Slot} {w : Value} {t : FieldType} {i : Instr} {rest : List Value} (hret : meth.sig.returnType = some t) (hn : narrow t w = w)
    (hi : (i = .ireturn ∧ (t = .int ∨ t = .boolean ∨ t = .byte ∨ t = .char ∨ t = .short) ∧ ∃ z, w = .int z) ∨ (i = .lreturn ∧ t = .long ∧ ∃ z, w = .long z) ∨ (i = .dreturn ∧ t = .double ∧ ∃ z, w = .double z) ∨ (i = .freturn ∧ t = .float ∧ ∃ z, w = .float z) ∨ (i = .areturn ∧ t.isReference = true ∧ w.isRef = true))
    (hd : decode c.code pc = .ok (i, 1)) {Q : Option Value → Heap → List Loc → Prop} {k n : Nat} (hQ : Q (some w) T.heap locs) (hk : cells ≤ k) (hs : slots ≤ n) : own_Go p e below (own_End s k n Q) T (mkF m pc Ls (w :: rest)) := by
  obtain ⟨fs, hr, hrun, hended, hW, hsame⟩ := X.leave (v := some w) (fun h => by rw [hret] at h; cases h) hlk
  exact ⟨_, _, retOut X hx hret hn hi hd hr, hrun, hended, _, _, rfl, hQ, ⟨_, rfl⟩, hW, hsame.mono hk hs⟩
theorem own_retI (X : Stand p l e R s m args below meth c T locs cells slots) (hx : p.tables.exec = Jvm.exec) (hlk : meth.locks = false) {pc : Nat} {Ls : Array Slot} {z : Int32} {rest : List Value} (hret : meth.sig.returnType = some .int) (hd : decode c.code pc = .ok (.ireturn, 1)) {Q : Option Value → Heap → List Loc → Prop} {k n : Nat} (hQ : Q (some (.int z)) T.heap locs) (hk : cells ≤ k) (hs : slots ≤ n) : own_Go p e below (own_End s k n Q) T (mkF m pc Ls (.int z :: rest)) :=
  own_retW X hx hlk hret rfl (Or.inl ⟨rfl, Or.inl rfl, z, rfl⟩) hd hQ hk hs
theorem own_retJ (X : Stand p l e R s m args below meth c T locs cells slots) (hx : p.tables.exec = Jvm.exec) (hlk : meth.locks = false) {pc : Nat} {Ls : Array Slot} {z : Int64} {rest : List Value} (hret : meth.sig.returnType = some .long) (hd : decode c.code pc = .ok (.lreturn, 1)) {Q : Option Value → Heap → List Loc → Prop} {k n : Nat} (hQ : Q (some (.long z)) T.heap locs) (hk : cells ≤ k) (hs : slots ≤ n) : own_Go p e below (own_End s k n Q) T (mkF m pc Ls (.long z :: rest)) :=
  own_retW X hx hlk hret rfl (Or.inr (Or.inl ⟨rfl, rfl, z, rfl⟩)) hd hQ hk hs
theorem own_retA (X : Stand p l e R s m args below meth c T locs cells slots) (hx : p.tables.exec = Jvm.exec) (hlk : meth.locks = false) {pc : Nat} {Ls : Array Slot} {w : Value} {t : FieldType} {rest : List Value} (hret : meth.sig.returnType = some t) (ht : t.isReference = true) (hw : w.isRef = true) (hd : decode c.code pc = .ok (.areturn, 1)) {Q : Option Value → Heap → List Loc → Prop} {k n : Nat} (hQ : Q (some w) T.heap locs) (hk : cells ≤ k) (hs : slots ≤ n) : own_Go p e below (own_End s k n Q) T (mkF m pc Ls (w :: rest)) :=
  own_retW X hx hlk hret (by cases t <;> first | (cases ht; done) | (cases w <;> first | rfl | (cases hw; done))) (Or.inr (Or.inr (Or.inr (Or.inr ⟨rfl, ht, hw⟩)))) hd hQ hk hs
theorem own_retN (X : Stand p l e R s m args below meth c T locs cells slots) (hx : p.tables.exec = Jvm.exec) (hlk : meth.locks = false) {pc : Nat} {Ls : Array Slot} {z : Int32} {t : FieldType} {rest : List Value} (hret : meth.sig.returnType = some t) (ht : t = .boolean ∨ t = .byte ∨ t = .char ∨ t = .short) (hn : nar t z = z) (hd : decode c.code pc = .ok (.ireturn, 1)) {Q : Option Value → Heap → List Loc → Prop} {k n : Nat} (hQ : Q (some (.int z)) T.heap locs) (hk : cells ≤ k) (hs : slots ≤ n) : own_Go p e below (own_End s k n Q) T (mkF m pc Ls (.int z :: rest)) :=
  own_retW X hx hlk hret (by rcases ht with rfl | rfl | rfl | rfl <;> exact congrArg Value.int hn) (Or.inl ⟨rfl, Or.inr ht, z, rfl⟩) hd hQ hk hs
theorem own_ret0 (X : Stand p l e R s m args below meth c T locs cells slots) (hx : p.tables.exec = Jvm.exec) (hlk : meth.locks = false) {pc : Nat} {Ls : Array Slot} (hret : meth.sig.returnType = none) (hd : decode c.code pc = .ok (.return_, 1)) {Q : Option Value → Heap → List Loc → Prop} {k n : Nat} (hQ : Q none T.heap locs) (hk : cells ≤ k) (hs : slots ≤ n) : own_Go p e below (own_End s k n Q) T (mkF m pc Ls []) := by
  obtain ⟨fs, hr, hrun, hended, hW, hsame⟩ := X.leave (v := none) (fun _ => rfl) hlk
  exact ⟨_, _, X.returnOut hx hret hd hr, hrun, hended, _, _, rfl, hQ, ⟨_, rfl⟩, hW, hsame.mono hk hs⟩
theorem own_lrem {g : JFrame} {target : State} (X : Stand p l e R s m args below meth c T locs cells slots) (hx : p.tables.exec = Jvm.exec) (hg : g.method = m) {x y : Int64} {rest : List Value} (hd : decode c.code g.pc = .ok (.lrem, 1)) (hs : g.stack = .long y :: .long x :: rest) (hy : y ≠ 0)
    (hr : Steps p.tables e below (T.setTop { g with pc := g.pc + 1, stack := .long (x % y) :: rest }) target) : Steps p.tables e below (T.setTop g) target :=
  XS.lrem X.here hx hg hd hs hy (by rw [lrem_mod]; exact hr)
/-- a body's contract: called with as' at the heap h it returns, and Q speaks of what it returns, the heap that it leaves and the places that it wrote -/
abbrev own_Met (l : Launch) (Z : State) (y : MethodName) (bytes : ByteArray) (maxL : Nat) (rt : Option FieldType) (ws : List Jvm.Cond) (rm : Room) (as' : Array Value) (h : Heap) (Q : Option Value → Heap → List Loc → Prop) : Prop :=
  MetFree l y (head1 (Jvm.Cond.code y bytes maxL rt :: ws) rm) (fun a U => a = as' ∧ Z.Warmed39 U.vm ∧ U.heap = h) (fun _ _ _ _ _ => True) (fun _ U o U' => ∃ v L, o = .returned v ∧ Q v U'.heap L ∧ FrameEnd U o U' L rm.cells rm.slots)
theorem own_enter {y : MethodName} {bytes : ByteArray} {maxL : Nat} {rt : Option FieldType} {ws : List Jvm.Cond} {rm : Room} {as' : Array Value} {Q : Option Value → Heap → List Loc → Prop} (hy : plainFor y = true) {g0 : MethodId → JFrame} (hg0 : ∀ m, entryFrame m as' maxL = g0 m)
    (body : ∀ (p : Program) (e : Env) (s : State) (m : MethodId) (below : List Frame) (meth : Method) (c : Code) (s₁ : State), p.tables.exec = Jvm.exec → c.code = bytes → c.maxLocals = maxL → s.vm.findClass y.cls = some m.cls → meth.name = y.name → meth.sig.returnType = rt → meth.locks = false → Z.Warmed39 s.vm → Stand p l e rm s m as' below meth c s₁ [] 0 0 → s₁.heap = h → own_Go p e below (own_End s rm.cells rm.slots Q) s₁ (g0 m)) :
    own_Met l Z y bytes maxL rt ws rm as' h Q := by
  refine MetFree.of_bodySF hy hisR ?_
  intro p e s m args below meth c s₁ Bd hml0 hP hK
  obtain ⟨rfl, hZ, hh⟩ := hP
  obtain ⟨t, o, h1, h2, h3, h4⟩ := body p e s m below meth c s₁ Bd.exec Bd.bytes hml0 (findClass_of_methodNamed Bd.named) (name_of_methodNamed Bd.named Bd.method).1 Bd.returns (BodyLoose.notSynchronized Bd) hZ (Stand.of_body Bd) (by rw [← hh, Bd.state]; rfl)
  exact ⟨t, o, castTop (hg0 m) h1, h2, h3, h4⟩
theorem own_callS (X : Stand p l e R s m args below meth c T locs cells slots) (hx : p.tables.exec = Jvm.exec) (hZ : Z.Warmed39 s.vm) {own : String} (hown : s.vm.findClass own = some m.cls) {index : Nat} {y : MethodName} {bytes : ByteArray} {maxL : Nat} {rt : Option FieldType}
    (w1 : (Jvm.Cond.methodLink own index y).before a0 Z = true) (w2 : (Jvm.Cond.static y).before a0 Z = true) (w3 : (Jvm.Cond.initialized y.cls).before a0 Z = true) (w4 : (Jvm.Cond.code y bytes maxL rt).before a0 Z = true)
    (hy : y.cls ≠ "java/lang/invoke/MethodHandle" ∧ y.cls ≠ "java/lang/invoke/VarHandle") {rm : Room} {argsL rest : List Value} {Q : Option Value → Heap → List Loc → Prop} (eT : T.heap = h) (hM : own_Met l Z y bytes maxL rt [] rm argsL.toArray h Q)
    {g : JFrame} (hg : g.method = m) (hsize : g.locals.size = c.maxLocals) (hlen : ∀ sig, parseMethodDescriptor y.desc = some sig → argsL.length = sig.parameters.length) (hstack : g.stack = argsL.reverse ++ rest) {W : Nat} (hW : 2 * g.monitorRoom + (rest.map fun v => v.category).sum ≤ W) (hd : decode c.code g.pc = .ok (.invokestatic index, 3))
    (hf : rm.frames + 1 ≤ R.frames) (hl : W + (maxL + 11) + rm.locals ≤ R.locals) (hc : cells + rm.cells ≤ R.cells) (hs : slots + rm.slots ≤ R.slots) :
    ∃ v T' L, Stand p l e R s m args below meth c T' (locs ++ L) (cells + rm.cells) (slots + rm.slots) ∧ Q v T'.heap L ∧ ∀ target, Steps p.tables e below (T'.setTop { g with pc := g.pc + 3, stack := v.toList ++ rest }) target → Steps p.tables e below (T.setTop g) target := by
  obtain ⟨v, _, ⟨T1, L1, k1, n1⟩, -, X1, ⟨Lc, hQ, l1, y1, z1⟩, st⟩ := Jvm.LawKit.callS X hx (y := y) hown (mvT hZ w1) (mvT hZ w2) (mvT hZ w3) (mvT hZ w4) hy (backOf (W := W) hM hZ w4 w3 hf hl) (g := g) hg hsize (argsL := argsL) (rest := rest) hlen hstack hW hd (fun _ _ => ⟨rfl, eT, hc, hs⟩)
  dsimp only [Pt.U, Pt.locs, Pt.cells, Pt.slots] at X1 l1 y1 z1 st hQ
  subst l1 y1 z1
  exact ⟨v, T1, Lc, X1, hQ, st⟩
theorem own_callI (X : Stand p l e R s m args below meth c T locs cells slots) (hx : p.tables.exec = Jvm.exec) (hZ : Z.Warmed39 s.vm) {own : String} (hown : s.vm.findClass own = some m.cls) {index : Nat} {y : MethodName} {bytes : ByteArray} {maxL : Nat} (hy1 : y.name = "<init>")
    (w1 : (Jvm.Cond.methodLink own index y).before a0 Z = true) (w2 : (Jvm.Cond.instanceMethod y).before a0 Z = true) (w3 : (Jvm.Cond.initialized y.cls).before a0 Z = true) (w4 : (Jvm.Cond.code y bytes maxL none).before a0 Z = true)
    (hy : y.cls ≠ "java/lang/invoke/MethodHandle" ∧ y.cls ≠ "java/lang/invoke/VarHandle") {rm : Room} {a : Addr} {argsL rest : List Value} {Q : Option Value → Heap → List Loc → Prop} (eT : T.heap = h) (hM : own_Met l Z y bytes maxL none [] rm (.ref a :: argsL).toArray h Q)
    {g : JFrame} (hg : g.method = m) (hsize : g.locals.size = c.maxLocals) (hlen : ∀ sig, parseMethodDescriptor y.desc = some sig → argsL.length = sig.parameters.length) (hstack : g.stack = argsL.reverse ++ .ref a :: rest) {W : Nat} (hW : 2 * g.monitorRoom + (rest.map fun v => v.category).sum ≤ W) (hd : decode c.code g.pc = .ok (.invokespecial index, 3))
    (hf : rm.frames + 1 ≤ R.frames) (hl : W + (maxL + 11) + rm.locals ≤ R.locals) (hc : cells + rm.cells ≤ R.cells) (hs : slots + rm.slots ≤ R.slots) :
    ∃ v T' L, Stand p l e R s m args below meth c T' (locs ++ L) (cells + rm.cells) (slots + rm.slots) ∧ Q v T'.heap L ∧ ∀ target, Steps p.tables e below (T'.setTop { g with pc := g.pc + 3, stack := v.toList ++ rest }) target → Steps p.tables e below (T.setTop g) target := by
  obtain ⟨v, _, ⟨T1, L1, k1, n1⟩, -, X1, ⟨Lc, hQ, l1, y1, z1⟩, st⟩ := X.specialBack hx (y := y) hy1 hown (mvT hZ w1) (mvT hZ w2) (mvT hZ w4) hy (backOf (W := W) hM hZ w4 w3 hf hl) (g := g) hg hsize (Steps.refl _) (a := a) (argsL := argsL) (rest := rest) hlen hstack hW hd (fun _ _ => ⟨rfl, eT, hc, hs⟩)
  dsimp only [Pt.U, Pt.locs, Pt.cells, Pt.slots] at X1 l1 y1 z1 st hQ
  subst l1 y1 z1
  exact ⟨v, T1, Lc, X1, hQ, fun _ k => st.trans k⟩
theorem own_callV (X : Stand p l e R s m args below meth c T locs cells slots) (hx : p.tables.exec = Jvm.exec) (hZ : Z.Warmed39 s.vm) {own C : String} (hown : s.vm.findClass own = some m.cls) {index : Nat} {y : MethodName} {bytes : ByteArray} {maxL : Nat} {rt : Option FieldType}
    (w1 : (Jvm.Cond.methodLink own index y).before a0 Z = true) (w2 : (Jvm.Cond.declares y).before a0 Z = true) (w5 : (Jvm.Cond.selects C y y).before a0 Z = true) (w6 : (Jvm.Cond.instanceMethod y).before a0 Z = true) (w3 : (Jvm.Cond.initialized y.cls).before a0 Z = true) (w4 : (Jvm.Cond.code y bytes maxL rt).before a0 Z = true)
    (hy : y.cls ≠ "java/lang/invoke/MethodHandle" ∧ y.cls ≠ "java/lang/invoke/VarHandle") {rm : Room} {a : Addr} {argsL rest : List Value} {Q : Option Value → Heap → List Loc → Prop} (hE : Exa Z h a C) (eT : T.heap = h) (hM : own_Met l Z y bytes maxL rt [] rm (.ref a :: argsL).toArray h Q)
    {g : JFrame} (hg : g.method = m) (hsize : g.locals.size = c.maxLocals) (hlen : ∀ sig, parseMethodDescriptor y.desc = some sig → argsL.length = sig.parameters.length) (hstack : g.stack = argsL.reverse ++ .ref a :: rest) {W : Nat} (hW : 2 * g.monitorRoom + (rest.map fun v => v.category).sum ≤ W) (hd : decode c.code g.pc = .ok (.invokevirtual index, 3))
    (hf : rm.frames + 1 ≤ R.frames) (hl : W + (maxL + 11) + rm.locals ≤ R.locals) (hc : cells + rm.cells ≤ R.cells) (hs : slots + rm.slots ≤ R.slots) (hC : C = y.cls := by rfl) :
    ∃ v T' L, Stand p l e R s m args below meth c T' (locs ++ L) (cells + rm.cells) (slots + rm.slots) ∧ Q v T'.heap L ∧ ∀ target, Steps p.tables e below (T'.setTop { g with pc := g.pc + 3, stack := v.toList ++ rest }) target → Steps p.tables e below (T.setTop g) target := by
  subst hC
  obtain ⟨_, _, qa, -, qc⟩ := isOf hZ eT hE
  obtain ⟨v, _, ⟨T1, L1, k1, n1⟩, -, X1, ⟨Lc, hQ, l1, y1, z1⟩, st⟩ := X.virtualBack hx (y := y) (z := y) hown (mvT hZ w1) (mvT hZ w2) (notFace_of_selects (args := #[]) (mvT hZ w5)) (mvT hZ w5) (mvT hZ w6) hy (backOf (W := W) hM hZ w4 w3 hf hl) qa qc (g := g) hg hsize (Steps.refl _) (argsL := argsL) (rest := rest) hlen hstack hW hd (fun _ _ => ⟨rfl, eT, hc, hs⟩)
  dsimp only [Pt.U, Pt.locs, Pt.cells, Pt.slots] at X1 l1 y1 z1 st hQ
  subst l1 y1 z1
  exact ⟨v, T1, Lc, X1, hQ, fun _ k => st.trans k⟩
theorem own_callU (X : Stand p l e R s m args below meth c T locs cells slots) (hx : p.tables.exec = Jvm.exec) (hZ : Z.Warmed39 s.vm) {own C owner : String} (hown : s.vm.findClass own = some m.cls) {index : Nat} {x y : MethodName} {bytes : ByteArray} {maxL : Nat} {rt : Option FieldType}
    (w1 : (Jvm.Cond.methodLink own index x).before a0 Z = true) (w7 : (Jvm.Cond.sameMethod x.cls owner x.name x.desc).before a0 Z = true) (w2 : (Jvm.Cond.declares ⟨owner, x.name, x.desc⟩).before a0 Z = true) (hy : owner ≠ "java/lang/invoke/MethodHandle" ∧ owner ≠ "java/lang/invoke/VarHandle") (w5 : (Jvm.Cond.selects C x y).before a0 Z = true) (w6 : (Jvm.Cond.instanceMethod y).before a0 Z = true) (w3 : (Jvm.Cond.initialized y.cls).before a0 Z = true) (w4 : (Jvm.Cond.code y bytes maxL rt).before a0 Z = true)
    {rm : Room} {a : Addr} {argsL rest : List Value} {Q : Option Value → Heap → List Loc → Prop} (hE : Exa Z h a C) (eT : T.heap = h) (hM : own_Met l Z y bytes maxL rt [] rm (.ref a :: argsL).toArray h Q)
    {g : JFrame} (hg : g.method = m) (hsize : g.locals.size = c.maxLocals) (hlen : ∀ sig, parseMethodDescriptor x.desc = some sig → argsL.length = sig.parameters.length) (hstack : g.stack = argsL.reverse ++ .ref a :: rest) {W : Nat} (hW : 2 * g.monitorRoom + (rest.map fun v => v.category).sum ≤ W) (hd : decode c.code g.pc = .ok (.invokevirtual index, 3))
    (hf : rm.frames + 1 ≤ R.frames) (hl : W + (maxL + 11) + rm.locals ≤ R.locals) (hc : cells + rm.cells ≤ R.cells) (hs : slots + rm.slots ≤ R.slots) :
    ∃ v T' L, Stand p l e R s m args below meth c T' (locs ++ L) (cells + rm.cells) (slots + rm.slots) ∧ Q v T'.heap L ∧ ∀ target, Steps p.tables e below (T'.setTop { g with pc := g.pc + 3, stack := v.toList ++ rest }) target → Steps p.tables e below (T.setTop g) target := by
  obtain ⟨_, _, qa, -, qc⟩ := isOf hZ eT hE
  obtain ⟨v, _, ⟨T1, L1, k1, n1⟩, -, X1, ⟨Lc, hQ, l1, y1, z1⟩, st⟩ := X.virtualBackUp hx (x := x) (y := y) hown (mvT hZ w1) (mvT hZ w7) (mvT hZ w2) hy (mvT hZ w5) (mvT hZ w6) (backOf (W := W) hM hZ w4 w3 hf hl) qa qc (g := g) hg hsize (Steps.refl _) (argsL := argsL) (rest := rest) hlen hstack hW hd (fun _ _ => ⟨rfl, eT, hc, hs⟩)
  dsimp only [Pt.U, Pt.locs, Pt.cells, Pt.slots] at X1 l1 y1 z1 st hQ
  subst l1 y1 z1
  exact ⟨v, T1, Lc, X1, hQ, fun _ k => st.trans k⟩
theorem own_arv {a : Addr} {k : ClassId} {ty : FieldType} {z : Int32} {vs : List Value} {dv : Value} (V : Arv Z h a k ty z vs dv) {j : Int32} (q : ¬ j < 0 ∧ j < z) :
    ∃ cl : Cell, Arr Z h a cl ty ∧ cl.cls = k ∧ ¬ (j < 0 ∨ cl.slots.size ≤ j.toNatClampNeg) ∧ cl.slots[j.toNatClampNeg]? = some (vs.getD j.toNatClampNeg dv) ∧ ∀ {h' : Heap} {v : Value}, fits ty v = true → Wr h h' a j.toNatClampNeg v → ∀ i, j.toNatClampNeg = i → i < vs.length → Arv Z h' a k ty z (vs.set i v) dv := by
  obtain ⟨cl, A, q1, S, q3, H, G⟩ := V
  have hin := inb_of S q
  exact ⟨cl, A, q1, hin, Has.at H hin rfl, fun hf W i hj hi => Arv.set A q1 S q3 H G hf W i hj hi⟩
theorem own_len {a : Addr} {k : ClassId} {ty : FieldType} {z : Int32} {vs : List Value} {dv : Value} (V : Arv Z h a k ty z vs dv) : ∃ cl : Cell, Arr Z h a cl ty ∧ cl.slots.size.toInt32 = z := by
  obtain ⟨cl, A, q1, S, q3, -⟩ := V
  exact ⟨cl, A, len_of S q3⟩
theorem own_sta {C f d K : String} (hx : (Jvm.Cond.exactly (.static C f d) K).value args s none s [] = some true) (w1 : (Jvm.Cond.initialized C).before args s = true) (w2 : (Jvm.Cond.laysStatic C f d).before args s = true) :
    ∃ a, (Term.static C f d).eval args s none [] s = some (.ref a) ∧ Sta s s.heap C f d (.ref a) ∧ Exa s s.heap a K := by
  obtain ⟨a, ev⟩ := exa_v hx
  exact ⟨a, ev, Sta.start ev (Or.inr ⟨w1, w2⟩), Exa.start ev hx⟩
theorem own_fldI {t : Term} {C f d : String} {a : Addr} {k : Int32} (ev : t.eval args s none [] s = some (.ref a)) (hx : (Jvm.Cond.eq (.field t C f d) (.int k)).value args s none s [] = some true) : Fld s s.heap a C f d (.int k) := by
  obtain ⟨v, w, e1, e2, k1, k2⟩ := cmp_v (Or.inl hx)
  obtain rfl : w = .int k := Option.some.inj (e2.symm.trans (Term.int_eval k))
  obtain ⟨z, rfl⟩ : ∃ z, v = .int z := k2
  have q : z = k := by simpa [Cond.value, e1, e2] using hx
  subst q
  exact Fld.start (by rw [← fld_at ev]; exact e1)
theorem own_neS {t u : Term} {a b : Addr} (ea : t.eval args s none [] s = some (.ref a)) (eb : u.eval args s none [] s = some (.ref b)) (hx : (Jvm.Cond.not (.eq t u)).value args s none s [] = some true) : a ≠ b := fun q =>
  gotF (eq_R ea eb rfl rfl) (not_v hx) (congrArg Value.ref q)
theorem own_staK {C f d : String} {v : Value} {h' : Heap} {ws : List Addr} (S : Sta Z h C f d v) (K : Keep h h' ws) (q : ∀ x ∈ ws, ∀ cell : Cell, h[x]? = some cell → cell.vm.isStatics = false) : Sta Z h' C f d v := by
  obtain ⟨cf, i, k, fl, st, cell, h1, h2, h3, h4, h5, h6, h7⟩ := S
  refine ⟨cf, i, k, fl, st, cell, h1, h2, h3, h4, K.2.1 st cell h5 (fun hm => ?_), h6, h7⟩
  have := q st hm cell h5
  rw [h6] at this
  cases this
end OwnKit
abbrev own_B : Int64 := 1152921504606846976
abbrev own_I : Int64 := 2305843009213693952
def own_draw (x : Int64) (i : Int32) : Int64 := if i = 0 then x % own_B else (x &&& 9223372036854775807) ||| own_B
def own_plus (a b : Int64) : Int64 := if a < own_B then (if b < own_B then a + b else own_I) else own_I
def Q_rm1 (Z : State) (q1 : Int64) (p2 : Int32) (h0 : Heap) (n0 : Nat) (v : Option Value) (h : Heap) (L : List Loc) : Prop := v = some (.long (own_draw q1 p2)) ∧ Fr n0 L ∧ h = h0
theorem pn_rm1 : plainFor (⟨"com/example/regretta/regretta/BucketEliminationPlusPinLaw", "draw", "(JZ)J"⟩ : MethodName) = true := plainFor_of_name (by first | (simp [plainName, overriddenIn, x]; done) | decide +kernel)
theorem d1_0 : decode method_2_code 0 = .ok (.ldc2_w 7, 3) := by decide +kernel
theorem d1_3 : decode method_2_code 3 = .ok (.lstore_n 3, 1) := by decide +kernel
theorem d1_4 : decode method_2_code 4 = .ok (.iload_n 2, 1) := by decide +kernel
theorem d1_5 : decode method_2_code 5 = .ok (.ifCond .eq 11, 3) := by decide +kernel
theorem d1_16 : decode method_2_code 16 = .ok (.lload_n 0, 1) := by decide +kernel
theorem d1_17 : decode method_2_code 17 = .ok (.lload_n 3, 1) := by decide +kernel
theorem d1_18 : decode method_2_code 18 = .ok (.lrem, 1) := by decide +kernel
theorem d1_19 : decode method_2_code 19 = .ok (.lreturn, 1) := by decide +kernel
theorem d1_8 : decode method_2_code 8 = .ok (.lload_n 0, 1) := by decide +kernel
theorem d1_9 : decode method_2_code 9 = .ok (.ldc2_w 11, 3) := by decide +kernel
theorem d1_12 : decode method_2_code 12 = .ok (.land, 1) := by decide +kernel
theorem d1_13 : decode method_2_code 13 = .ok (.lload_n 3, 1) := by decide +kernel
theorem d1_14 : decode method_2_code 14 = .ok (.lor, 1) := by decide +kernel
theorem d1_15 : decode method_2_code 15 = .ok (.lreturn, 1) := by decide +kernel
set_option maxRecDepth 65536 in
set_option maxHeartbeats 40000000 in
theorem rm1 (l : Launch) (Z : State) (a0 : Array Value) (hw : ∀ d ∈ tables_1, d.before a0 Z = true) (ws : List Jvm.Cond) (q1 : Int64) (p2 : Int32) (h0 : Heap) (n0 : Nat) (Z0 : n0 ≤ h0.size)  :
    own_Met l Z (⟨"com/example/regretta/regretta/BucketEliminationPlusPinLaw", "draw", "(JZ)J"⟩ : MethodName) method_2_code 5 (some .long) ws ({ frames := 0, cells := 0, slots := 0, locals := 0 } : Room) #[(.long q1), (.int p2)] h0 (Q_rm1 Z q1 p2 h0 n0) := by
  refine own_enter (g0 := fun m => (mkF m 0 #[.val (.long q1), .second, .val (.int p2), .unset, .unset] [])) pn_rm1 (fun m => by first | rfl | (simp [entryFrame, mkF, argsToLocals, Value.category, maxLocals]; done)) ?_
  intro p e s m below meth c s₁ hx hby hml hown hnm hret hlk hZ X0 e0
  have hml : c.maxLocals = 5 := hml
  have hown : s.vm.findClass "com/example/regretta/regretta/BucketEliminationPlusPinLaw" = some m.cls := hown
  have N0 := Fr.nil n0
  show own_Go p e below _ s₁ (mkF m 0 #[.val (.long q1), .second, .val (.int p2), .unset, .unset] [])
  refine own_by (fun _ k => Stand.ldc2J X0 hx hown (mvT hZ (hw _ (List.mem_of_getElem? (i := 4) rfl))) rfl (hb hby d1_0) k) ?_
  show own_Go p e below _ s₁ (mkF m 3 #[.val (.long q1), .second, .val (.int p2), .unset, .unset] [(.long (1152921504606846976 : Int64))])
  refine own_by (fun _ k => XS.lstoreN X0.here hx rfl (hb hby d1_3) rfl (l' := #[.val (.long q1), .second, .val (.int p2), .val (.long (1152921504606846976 : Int64)), .second]) rfl k) ?_
  show own_Go p e below _ s₁ (mkF m 4 #[.val (.long q1), .second, .val (.int p2), .val (.long (1152921504606846976 : Int64)), .second] [])
  refine own_by (fun _ k => XS.iloadN X0.here hx rfl (hb hby d1_4) rfl k) ?_
  show own_Go p e below _ s₁ (mkF m 5 #[.val (.long q1), .second, .val (.int p2), .val (.long (1152921504606846976 : Int64)), .second] [(.int p2)])
  by_cases hi : p2 = (0 : Int32)
  · refine own_by (fun _ k => XS.ifYes X0.here hx rfl (pc0 := 5) (pc' := 16) rfl (hb hby d1_5) rfl ((if0 _ _).trans (teq (hi : p2 = (0 : Int32))).1) (by decide) (by decide) k) ?_
    show own_Go p e below _ s₁ (mkF m 16 #[.val (.long q1), .second, .val (.int p2), .val (.long (1152921504606846976 : Int64)), .second] [])
    refine own_by (fun _ k => XS.lloadN X0.here hx rfl (hb hby d1_16) rfl k) ?_
    show own_Go p e below _ s₁ (mkF m 17 #[.val (.long q1), .second, .val (.int p2), .val (.long (1152921504606846976 : Int64)), .second] [(.long q1)])
    refine own_by (fun _ k => XS.lloadN X0.here hx rfl (hb hby d1_17) rfl k) ?_
    show own_Go p e below _ s₁ (mkF m 18 #[.val (.long q1), .second, .val (.int p2), .val (.long (1152921504606846976 : Int64)), .second] [(.long (1152921504606846976 : Int64)), (.long q1)])
    refine own_by (fun _ k => own_lrem X0 hx rfl (hb hby d1_18) rfl (by decide) k) ?_
    show own_Go p e below _ s₁ (mkF m 19 #[.val (.long q1), .second, .val (.int p2), .val (.long (1152921504606846976 : Int64)), .second] [(.long (q1 % (1152921504606846976 : Int64)))])
    exact own_retJ X0 hx hlk hret  (hb hby d1_19) (by first | exact ⟨by simp only [own_draw, if_pos hi], N0, rfl⟩ | (rw [e0]; exact ⟨by simp only [own_draw, if_pos hi], N0, rfl⟩)) (by decide) (by decide)
  · refine own_by (fun _ k => XS.ifNo X0.here hx rfl (hb hby d1_5) rfl ((if0 _ _).trans (feq (hi : ¬ (p2 = (0 : Int32)))).1) k) ?_
    show own_Go p e below _ s₁ (mkF m 8 #[.val (.long q1), .second, .val (.int p2), .val (.long (1152921504606846976 : Int64)), .second] [])
    refine own_by (fun _ k => XS.lloadN X0.here hx rfl (hb hby d1_8) rfl k) ?_
    show own_Go p e below _ s₁ (mkF m 9 #[.val (.long q1), .second, .val (.int p2), .val (.long (1152921504606846976 : Int64)), .second] [(.long q1)])
    refine own_by (fun _ k => Stand.ldc2J X0 hx hown (mvT hZ (hw _ (List.mem_of_getElem? (i := 10) rfl))) rfl (hb hby d1_9) k) ?_
    show own_Go p e below _ s₁ (mkF m 12 #[.val (.long q1), .second, .val (.int p2), .val (.long (1152921504606846976 : Int64)), .second] [(.long (9223372036854775807 : Int64)), (.long q1)])
    refine own_by (fun _ k => XS.land X0.here hx rfl (hb hby d1_12) rfl k) ?_
    show own_Go p e below _ s₁ (mkF m 13 #[.val (.long q1), .second, .val (.int p2), .val (.long (1152921504606846976 : Int64)), .second] [(.long (q1 &&& (9223372036854775807 : Int64)))])
    refine own_by (fun _ k => XS.lloadN X0.here hx rfl (hb hby d1_13) rfl k) ?_
    show own_Go p e below _ s₁ (mkF m 14 #[.val (.long q1), .second, .val (.int p2), .val (.long (1152921504606846976 : Int64)), .second] [(.long (1152921504606846976 : Int64)), (.long (q1 &&& (9223372036854775807 : Int64)))])
    refine own_by (fun _ k => XS.lor X0.here hx rfl (hb hby d1_14) rfl k) ?_
    show own_Go p e below _ s₁ (mkF m 15 #[.val (.long q1), .second, .val (.int p2), .val (.long (1152921504606846976 : Int64)), .second] [(.long ((q1 &&& (9223372036854775807 : Int64)) ||| (1152921504606846976 : Int64)))])
    exact own_retJ X0 hx hlk hret  (hb hby d1_15) (by first | exact ⟨by simp only [own_draw, if_neg hi], N0, rfl⟩ | (rw [e0]; exact ⟨by simp only [own_draw, if_neg hi], N0, rfl⟩)) (by decide) (by decide)
def Q_rm2 (Z : State) (q1 : Int64) (q2 : Int64) (h0 : Heap) (n0 : Nat) (v : Option Value) (h : Heap) (L : List Loc) : Prop := v = some (.long (own_plus q1 q2)) ∧ Fr n0 L ∧ h = h0
theorem pn_rm2 : plainFor (⟨"com/example/regretta/regretta/BucketElimination", "plus", "(JJ)J"⟩ : MethodName) = true := plainFor_of_name (by first | (simp [plainName, overriddenIn, x]; done) | decide +kernel)
theorem d2_0 : decode prog_7_method_27_code 0 = .ok (.lload_n 0, 1) := by decide +kernel
theorem d2_1 : decode prog_7_method_27_code 1 = .ok (.ldc2_w 297, 3) := by decide +kernel
theorem d2_4 : decode prog_7_method_27_code 4 = .ok (.lcmp, 1) := by decide +kernel
theorem d2_5 : decode prog_7_method_27_code 5 = .ok (.ifCond .ge 11, 3) := by decide +kernel
theorem d2_8 : decode prog_7_method_27_code 8 = .ok (.lload_n 2, 1) := by decide +kernel
theorem d2_9 : decode prog_7_method_27_code 9 = .ok (.ldc2_w 297, 3) := by decide +kernel
theorem d2_12 : decode prog_7_method_27_code 12 = .ok (.lcmp, 1) := by decide +kernel
theorem d2_13 : decode prog_7_method_27_code 13 = .ok (.ifCond .lt 9, 3) := by decide +kernel
theorem d2_22 : decode prog_7_method_27_code 22 = .ok (.lload_n 0, 1) := by decide +kernel
theorem d2_23 : decode prog_7_method_27_code 23 = .ok (.lload_n 2, 1) := by decide +kernel
theorem d2_24 : decode prog_7_method_27_code 24 = .ok (.ladd, 1) := by decide +kernel
theorem d2_25 : decode prog_7_method_27_code 25 = .ok (.lreturn, 1) := by decide +kernel
theorem d2_16 : decode prog_7_method_27_code 16 = .ok (.ldc2_w 284, 3) := by decide +kernel
theorem d2_19 : decode prog_7_method_27_code 19 = .ok (.goto 6, 3) := by decide +kernel
set_option maxRecDepth 65536 in
set_option maxHeartbeats 40000000 in
theorem rm2 (l : Launch) (Z : State) (a0 : Array Value) (hw : ∀ d ∈ tables_1, d.before a0 Z = true) (ws : List Jvm.Cond) (q1 : Int64) (q2 : Int64) (h0 : Heap) (n0 : Nat) (Z0 : n0 ≤ h0.size)  :
    own_Met l Z (⟨"com/example/regretta/regretta/BucketElimination", "plus", "(JJ)J"⟩ : MethodName) prog_7_method_27_code 4 (some .long) ws ({ frames := 0, cells := 0, slots := 0, locals := 0 } : Room) #[(.long q1), (.long q2)] h0 (Q_rm2 Z q1 q2 h0 n0) := by
  refine own_enter (g0 := fun m => (mkF m 0 #[.val (.long q1), .second, .val (.long q2), .second] [])) pn_rm2 (fun m => by first | rfl | (simp [entryFrame, mkF, argsToLocals, Value.category, maxLocals]; done)) ?_
  intro p e s m below meth c s₁ hx hby hml hown hnm hret hlk hZ X0 e0
  have hml : c.maxLocals = 4 := hml
  have hown : s.vm.findClass "com/example/regretta/regretta/BucketElimination" = some m.cls := hown
  have N0 := Fr.nil n0
  show own_Go p e below _ s₁ (mkF m 0 #[.val (.long q1), .second, .val (.long q2), .second] [])
  refine own_by (fun _ k => XS.lloadN X0.here hx rfl (hb hby d2_0) rfl k) ?_
  show own_Go p e below _ s₁ (mkF m 1 #[.val (.long q1), .second, .val (.long q2), .second] [(.long q1)])
  refine own_by (fun _ k => Stand.ldc2J X0 hx hown (mvT hZ (hw _ (List.mem_of_getElem? (i := 9) rfl))) rfl (hb hby d2_1) k) ?_
  show own_Go p e below _ s₁ (mkF m 4 #[.val (.long q1), .second, .val (.long q2), .second] [(.long (1152921504606846976 : Int64)), (.long q1)])
  refine own_by (fun _ k => XS.lcmp X0.here hx rfl (hb hby d2_4) rfl k) ?_
  show own_Go p e below _ s₁ (mkF m 5 #[.val (.long q1), .second, .val (.long q2), .second] [(.int (lcmpW q1 (1152921504606846976 : Int64)))])
  by_cases ha : q1 < own_B
  · refine own_by (fun _ k => XS.ifNo X0.here hx rfl (hb hby d2_5) rfl ((if0 _ _).trans (tlt ((lw_lt _ _).mpr ha : (lcmpW q1 (1152921504606846976 : Int64)) < (0 : Int32))).2.1) k) ?_
    show own_Go p e below _ s₁ (mkF m 8 #[.val (.long q1), .second, .val (.long q2), .second] [])
    refine own_by (fun _ k => XS.lloadN X0.here hx rfl (hb hby d2_8) rfl k) ?_
    show own_Go p e below _ s₁ (mkF m 9 #[.val (.long q1), .second, .val (.long q2), .second] [(.long q2)])
    refine own_by (fun _ k => Stand.ldc2J X0 hx hown (mvT hZ (hw _ (List.mem_of_getElem? (i := 9) rfl))) rfl (hb hby d2_9) k) ?_
    show own_Go p e below _ s₁ (mkF m 12 #[.val (.long q1), .second, .val (.long q2), .second] [(.long (1152921504606846976 : Int64)), (.long q2)])
    refine own_by (fun _ k => XS.lcmp X0.here hx rfl (hb hby d2_12) rfl k) ?_
    show own_Go p e below _ s₁ (mkF m 13 #[.val (.long q1), .second, .val (.long q2), .second] [(.int (lcmpW q2 (1152921504606846976 : Int64)))])
    by_cases hb' : q2 < own_B
    · refine own_by (fun _ k => XS.ifYes X0.here hx rfl (pc0 := 13) (pc' := 22) rfl (hb hby d2_13) rfl ((if0 _ _).trans (tlt ((lw_lt _ _).mpr hb' : (lcmpW q2 (1152921504606846976 : Int64)) < (0 : Int32))).1) (by decide) (by decide) k) ?_
      show own_Go p e below _ s₁ (mkF m 22 #[.val (.long q1), .second, .val (.long q2), .second] [])
      refine own_by (fun _ k => XS.lloadN X0.here hx rfl (hb hby d2_22) rfl k) ?_
      show own_Go p e below _ s₁ (mkF m 23 #[.val (.long q1), .second, .val (.long q2), .second] [(.long q1)])
      refine own_by (fun _ k => XS.lloadN X0.here hx rfl (hb hby d2_23) rfl k) ?_
      show own_Go p e below _ s₁ (mkF m 24 #[.val (.long q1), .second, .val (.long q2), .second] [(.long q2), (.long q1)])
      refine own_by (fun _ k => XS.ladd X0.here hx rfl (hb hby d2_24) rfl k) ?_
      show own_Go p e below _ s₁ (mkF m 25 #[.val (.long q1), .second, .val (.long q2), .second] [(.long (q1 + q2))])
      exact own_retJ X0 hx hlk hret  (hb hby d2_25) (by first | exact ⟨by simp only [own_plus, if_pos ha, if_pos hb'], N0, rfl⟩ | (rw [e0]; exact ⟨by simp only [own_plus, if_pos ha, if_pos hb'], N0, rfl⟩)) (by decide) (by decide)
    · refine own_by (fun _ k => XS.ifNo X0.here hx rfl (hb hby d2_13) rfl ((if0 _ _).trans (flt (fun q => hb' ((lw_lt _ _).mp q) : ¬ ((lcmpW q2 (1152921504606846976 : Int64)) < (0 : Int32)))).1) k) ?_
      show own_Go p e below _ s₁ (mkF m 16 #[.val (.long q1), .second, .val (.long q2), .second] [])
      refine own_by (fun _ k => Stand.ldc2J X0 hx hown (mvT hZ (hw _ (List.mem_of_getElem? (i := 12) rfl))) rfl (hb hby d2_16) k) ?_
      show own_Go p e below _ s₁ (mkF m 19 #[.val (.long q1), .second, .val (.long q2), .second] [(.long (2305843009213693952 : Int64))])
      refine own_by (fun _ k => XS.goto X0.here hx rfl (pc0 := 19) (pc' := 25) rfl (hb hby d2_19) (by decide) (by decide) k) ?_
      show own_Go p e below _ s₁ (mkF m 25 #[.val (.long q1), .second, .val (.long q2), .second] [(.long (2305843009213693952 : Int64))])
      exact own_retJ X0 hx hlk hret  (hb hby d2_25) (by first | exact ⟨by simp only [own_plus, if_pos ha, if_neg hb'], N0, rfl⟩ | (rw [e0]; exact ⟨by simp only [own_plus, if_pos ha, if_neg hb'], N0, rfl⟩)) (by decide) (by decide)
  · refine own_by (fun _ k => XS.ifYes X0.here hx rfl (pc0 := 5) (pc' := 16) rfl (hb hby d2_5) rfl ((if0 _ _).trans (flt (fun q => ha ((lw_lt _ _).mp q) : ¬ ((lcmpW q1 (1152921504606846976 : Int64)) < (0 : Int32)))).2.1) (by decide) (by decide) k) ?_
    show own_Go p e below _ s₁ (mkF m 16 #[.val (.long q1), .second, .val (.long q2), .second] [])
    refine own_by (fun _ k => Stand.ldc2J X0 hx hown (mvT hZ (hw _ (List.mem_of_getElem? (i := 12) rfl))) rfl (hb hby d2_16) k) ?_
    show own_Go p e below _ s₁ (mkF m 19 #[.val (.long q1), .second, .val (.long q2), .second] [(.long (2305843009213693952 : Int64))])
    refine own_by (fun _ k => XS.goto X0.here hx rfl (pc0 := 19) (pc' := 25) rfl (hb hby d2_19) (by decide) (by decide) k) ?_
    show own_Go p e below _ s₁ (mkF m 25 #[.val (.long q1), .second, .val (.long q2), .second] [(.long (2305843009213693952 : Int64))])
    exact own_retJ X0 hx hlk hret  (hb hby d2_25) (by first | exact ⟨by simp only [own_plus, if_neg ha], N0, rfl⟩ | (rw [e0]; exact ⟨by simp only [own_plus, if_neg ha], N0, rfl⟩)) (by decide) (by decide)
theorem own_inf (x : Int64) : ¬ ((x &&& 9223372036854775807) ||| own_B) < own_B := by
  rw [Int64.not_lt, Int64.le_iff_toInt_le]
  show own_B.toBitVec.toInt ≤ ((x &&& 9223372036854775807) ||| own_B).toBitVec.toInt
  have hm : ((x &&& 9223372036854775807) ||| own_B).toBitVec.msb = false := by
    rw [Int64.toBitVec_or, Int64.toBitVec_and, BitVec.msb_or, BitVec.msb_and]
    rw [show (9223372036854775807 : Int64).toBitVec.msb = false from by decide, show own_B.toBitVec.msb = false from by decide]
    simp
  rw [BitVec.toInt_eq_toNat_of_msb hm, Int64.toBitVec_or, BitVec.toNat_or]
  have e : own_B.toBitVec.toInt = (own_B.toBitVec.toNat : Int) := by decide
  rw [e]
  exact Int.ofNat_le.mpr Nat.right_le_or
theorem own_fin (x : Int64) : x % own_B < own_B := by
  have h := c_lrem x own_B 1152921504606846976 rfl
  rw [lrem_mod] at h
  rw [Int64.lt_iff_toInt_lt]
  have e : own_B.toInt = 1152921504606846976 := rfl
  rcases Int.lt_or_le x.toInt 0 with q | q
  · rw [h.2 q, e]; omega
  · rw [h.1 q, e]; omega
theorem own_l1_00 (x y : Int64) : own_plus (own_draw x (0 : Int32)) (own_draw y (0 : Int32)) = (own_draw x (0 : Int32)) + (own_draw y (0 : Int32)) := by
  have ha := own_fin x
  have hb := own_fin y
  simp only [own_draw, own_plus, if_true, if_false, if_pos, if_neg, ha, hb, show ¬ ((1 : Int32) = 0) from by decide]
theorem own_l2_00 (x y : Int64) : own_plus (own_draw y (0 : Int32)) (own_draw x (0 : Int32)) = (own_draw x (0 : Int32)) + (own_draw y (0 : Int32)) := by
  have ha := own_fin y
  have hb := own_fin x
  simp only [own_draw, own_plus, if_true, if_false, if_pos, if_neg, ha, hb, show ¬ ((1 : Int32) = 0) from by decide, Int64.add_comm]
theorem own_l1_01 (x y : Int64) : own_plus (own_draw x (0 : Int32)) (own_draw y (1 : Int32)) = 2305843009213693952 := by
  have ha := own_fin x
  have hb := own_inf y
  simp only [own_draw, own_plus, if_true, if_false, if_pos, if_neg, ha, hb, show ¬ ((1 : Int32) = 0) from by decide]
theorem own_l2_01 (x y : Int64) : own_plus (own_draw y (1 : Int32)) (own_draw x (0 : Int32)) = 2305843009213693952 := by
  have ha := own_inf y
  have hb := own_fin x
  simp only [own_draw, own_plus, if_true, if_false, if_pos, if_neg, ha, hb, show ¬ ((1 : Int32) = 0) from by decide]
theorem own_l1_10 (x y : Int64) : own_plus (own_draw x (1 : Int32)) (own_draw y (0 : Int32)) = 2305843009213693952 := by
  have ha := own_inf x
  have hb := own_fin y
  simp only [own_draw, own_plus, if_true, if_false, if_pos, if_neg, ha, hb, show ¬ ((1 : Int32) = 0) from by decide]
theorem own_l2_10 (x y : Int64) : own_plus (own_draw y (0 : Int32)) (own_draw x (1 : Int32)) = 2305843009213693952 := by
  have ha := own_fin y
  have hb := own_inf x
  simp only [own_draw, own_plus, if_true, if_false, if_pos, if_neg, ha, hb, show ¬ ((1 : Int32) = 0) from by decide]
theorem own_l1_11 (x y : Int64) : own_plus (own_draw x (1 : Int32)) (own_draw y (1 : Int32)) = 2305843009213693952 := by
  have ha := own_inf x
  have hb := own_inf y
  simp only [own_draw, own_plus, if_true, if_false, if_pos, if_neg, ha, hb, show ¬ ((1 : Int32) = 0) from by decide]
theorem own_l2_11 (x y : Int64) : own_plus (own_draw y (1 : Int32)) (own_draw x (1 : Int32)) = 2305843009213693952 := by
  have ha := own_inf y
  have hb := own_inf x
  simp only [own_draw, own_plus, if_true, if_false, if_pos, if_neg, ha, hb, show ¬ ((1 : Int32) = 0) from by decide]
def Q_rm0 (Z : State) (p1 : Int64) (p2 : Int64) (p3 : Int32) (h0 : Heap) (n0 : Nat) (v : Option Value) (h : Heap) (L : List Loc) : Prop := v = some (.int 1) ∧ Fr n0 L
theorem pn_rm0 : plainFor x = true := plainFor_of_name (by first | (simp [plainName, overriddenIn, x]; done) | decide +kernel)
theorem pd_0 : parseMethodDescriptor "(JZ)J" = some ⟨[.long, .boolean], some .long⟩ := by decide +kernel
theorem pd_1 : parseMethodDescriptor "(JJ)J" = some ⟨[.long, .long], some .long⟩ := by decide +kernel
set_option maxRecDepth 65536 in
set_option maxHeartbeats 40000000 in
theorem rm0 (l : Launch) (Z : State) (a0 : Array Value) (hw : ∀ d ∈ tables_1, d.before a0 Z = true) (ws : List Jvm.Cond) (p1 : Int64) (p2 : Int64) (p3 : Int32) (h0 : Heap) (n0 : Nat) (Z0 : n0 ≤ h0.size)  :
    own_Met l Z x code maxLocals ret ws room_1 #[(.long p1), (.long p2), (.int p3)] h0 (Q_rm0 Z p1 p2 p3 h0 n0) := by
  refine own_enter (g0 := fun m => (mkF m 0 #[.val (.long p1), .second, .val (.long p2), .second, .val (.int p3), .unset, .unset, .unset, .unset, .unset, .unset, .unset, .unset, .unset, .unset, .unset, .unset] [])) pn_rm0 (fun m => by first | rfl | (simp [entryFrame, mkF, argsToLocals, Value.category, maxLocals]; done)) ?_
  intro p e s m below meth c s₁ hx hby hml hown hnm hret hlk hZ X0 e0
  have hml : c.maxLocals = 17 := hml
  have hown : s.vm.findClass "com/example/regretta/regretta/BucketEliminationPlusPinLaw" = some m.cls := hown
  have N0 := Fr.nil n0
  show own_Go p e below _ s₁ (mkF m 0 #[.val (.long p1), .second, .val (.long p2), .second, .val (.int p3), .unset, .unset, .unset, .unset, .unset, .unset, .unset, .unset, .unset, .unset, .unset, .unset] [])
  refine own_by (fun _ k => XS.iload X0.here hx rfl (hb hby at_0) rfl k) ?_
  show own_Go p e below _ s₁ (mkF m 2 #[.val (.long p1), .second, .val (.long p2), .second, .val (.int p3), .unset, .unset, .unset, .unset, .unset, .unset, .unset, .unset, .unset, .unset, .unset, .unset] [(.int p3)])
  refine own_by (fun _ k => XS.iconst X0.here hx rfl (hb hby at_2) k) ?_
  show own_Go p e below _ s₁ (mkF m 3 #[.val (.long p1), .second, .val (.long p2), .second, .val (.int p3), .unset, .unset, .unset, .unset, .unset, .unset, .unset, .unset, .unset, .unset, .unset, .unset] [(.int (1 : Int32)), (.int p3)])
  refine own_by (fun _ k => XS.iand X0.here hx rfl (hb hby at_3) rfl k) ?_
  show own_Go p e below _ s₁ (mkF m 4 #[.val (.long p1), .second, .val (.long p2), .second, .val (.int p3), .unset, .unset, .unset, .unset, .unset, .unset, .unset, .unset, .unset, .unset, .unset, .unset] [(.int (p3 &&& (1 : Int32)))])
  by_cases hk1 : (p3 &&& (1 : Int32)) = (0 : Int32)
  · refine own_by (fun _ k => XS.ifYes X0.here hx rfl (pc0 := 4) (pc' := 11) rfl (hb hby at_4) rfl ((if0 _ _).trans (teq (hk1 : (p3 &&& (1 : Int32)) = (0 : Int32))).1) (by decide) (by decide) k) ?_
    show own_Go p e below _ s₁ (mkF m 11 #[.val (.long p1), .second, .val (.long p2), .second, .val (.int p3), .unset, .unset, .unset, .unset, .unset, .unset, .unset, .unset, .unset, .unset, .unset, .unset] [])
    refine own_by (fun _ k => XS.iconst X0.here hx rfl (hb hby at_11) k) ?_
    show own_Go p e below _ s₁ (mkF m 12 #[.val (.long p1), .second, .val (.long p2), .second, .val (.int p3), .unset, .unset, .unset, .unset, .unset, .unset, .unset, .unset, .unset, .unset, .unset, .unset] [(.int (0 : Int32))])
    refine own_by (fun _ k => XS.istore X0.here hx rfl (hb hby at_12) rfl (l' := #[.val (.long p1), .second, .val (.long p2), .second, .val (.int p3), .val (.int (0 : Int32)), .unset, .unset, .unset, .unset, .unset, .unset, .unset, .unset, .unset, .unset, .unset]) rfl k) ?_
    show own_Go p e below _ s₁ (mkF m 14 #[.val (.long p1), .second, .val (.long p2), .second, .val (.int p3), .val (.int (0 : Int32)), .unset, .unset, .unset, .unset, .unset, .unset, .unset, .unset, .unset, .unset, .unset] [])
    refine own_by (fun _ k => XS.iload X0.here hx rfl (hb hby at_14) rfl k) ?_
    show own_Go p e below _ s₁ (mkF m 16 #[.val (.long p1), .second, .val (.long p2), .second, .val (.int p3), .val (.int (0 : Int32)), .unset, .unset, .unset, .unset, .unset, .unset, .unset, .unset, .unset, .unset, .unset] [(.int p3)])
    refine own_by (fun _ k => XS.iconst X0.here hx rfl (hb hby at_16) k) ?_
    show own_Go p e below _ s₁ (mkF m 17 #[.val (.long p1), .second, .val (.long p2), .second, .val (.int p3), .val (.int (0 : Int32)), .unset, .unset, .unset, .unset, .unset, .unset, .unset, .unset, .unset, .unset, .unset] [(.int (2 : Int32)), (.int p3)])
    refine own_by (fun _ k => XS.iand X0.here hx rfl (hb hby at_17) rfl k) ?_
    show own_Go p e below _ s₁ (mkF m 18 #[.val (.long p1), .second, .val (.long p2), .second, .val (.int p3), .val (.int (0 : Int32)), .unset, .unset, .unset, .unset, .unset, .unset, .unset, .unset, .unset, .unset, .unset] [(.int (p3 &&& (2 : Int32)))])
    by_cases hk2_0 : (p3 &&& (2 : Int32)) = (0 : Int32)
    · refine own_by (fun _ k => XS.ifYes X0.here hx rfl (pc0 := 18) (pc' := 25) rfl (hb hby at_18) rfl ((if0 _ _).trans (teq (hk2_0 : (p3 &&& (2 : Int32)) = (0 : Int32))).1) (by decide) (by decide) k) ?_
      show own_Go p e below _ s₁ (mkF m 25 #[.val (.long p1), .second, .val (.long p2), .second, .val (.int p3), .val (.int (0 : Int32)), .unset, .unset, .unset, .unset, .unset, .unset, .unset, .unset, .unset, .unset, .unset] [])
      refine own_by (fun _ k => XS.iconst X0.here hx rfl (hb hby at_25) k) ?_
      show own_Go p e below _ s₁ (mkF m 26 #[.val (.long p1), .second, .val (.long p2), .second, .val (.int p3), .val (.int (0 : Int32)), .unset, .unset, .unset, .unset, .unset, .unset, .unset, .unset, .unset, .unset, .unset] [(.int (0 : Int32))])
      refine own_by (fun _ k => XS.istore X0.here hx rfl (hb hby at_26) rfl (l' := #[.val (.long p1), .second, .val (.long p2), .second, .val (.int p3), .val (.int (0 : Int32)), .val (.int (0 : Int32)), .unset, .unset, .unset, .unset, .unset, .unset, .unset, .unset, .unset, .unset]) rfl k) ?_
      show own_Go p e below _ s₁ (mkF m 28 #[.val (.long p1), .second, .val (.long p2), .second, .val (.int p3), .val (.int (0 : Int32)), .val (.int (0 : Int32)), .unset, .unset, .unset, .unset, .unset, .unset, .unset, .unset, .unset, .unset] [])
      refine own_by (fun _ k => XS.lloadN X0.here hx rfl (hb hby at_28) rfl k) ?_
      show own_Go p e below _ s₁ (mkF m 29 #[.val (.long p1), .second, .val (.long p2), .second, .val (.int p3), .val (.int (0 : Int32)), .val (.int (0 : Int32)), .unset, .unset, .unset, .unset, .unset, .unset, .unset, .unset, .unset, .unset] [(.long p1)])
      refine own_by (fun _ k => XS.iload X0.here hx rfl (hb hby at_29) rfl k) ?_
      show own_Go p e below _ s₁ (mkF m 31 #[.val (.long p1), .second, .val (.long p2), .second, .val (.int p3), .val (.int (0 : Int32)), .val (.int (0 : Int32)), .unset, .unset, .unset, .unset, .unset, .unset, .unset, .unset, .unset, .unset] [(.int (0 : Int32)), (.long p1)])
      obtain ⟨_, T1, L1, X1, ⟨rfl, N1q, e1⟩, st1⟩ := own_callS X0 hx hZ hown (y := (⟨"com/example/regretta/regretta/BucketEliminationPlusPinLaw", "draw", "(JZ)J"⟩ : MethodName)) (hw _ (List.mem_of_getElem? (i := 0) rfl)) (hw _ (List.mem_of_getElem? (i := 1) rfl)) (hw _ (List.mem_of_getElem? (i := 2) rfl)) (hw _ (List.mem_of_getElem? (i := 3) rfl)) (by decide) (argsL := [(.long p1), (.int (0 : Int32))]) (rest := []) e0 (rm1 l Z a0 hw [] p1 (0 : Int32) h0 n0 Z0) (g := (mkF m 31 #[.val (.long p1), .second, .val (.long p2), .second, .val (.int p3), .val (.int (0 : Int32)), .val (.int (0 : Int32)), .unset, .unset, .unset, .unset, .unset, .unset, .unset, .unset, .unset, .unset] [(.int (0 : Int32)), (.long p1)])) rfl (by rw [hml]; rfl) (lenOf pd_0 rfl) rfl (W := 0) (by show 2 * 0 + _ ≤ _; exact Nat.le_of_eq rfl) (hb hby at_31) (by decide) (by decide) (by decide) (by decide)
      have N1 := Fr.app N0 N1q
      refine own_by st1 ?_
      show own_Go p e below _ T1 (mkF m 34 #[.val (.long p1), .second, .val (.long p2), .second, .val (.int p3), .val (.int (0 : Int32)), .val (.int (0 : Int32)), .unset, .unset, .unset, .unset, .unset, .unset, .unset, .unset, .unset, .unset] [(.long (own_draw p1 (0 : Int32)))])
      refine own_by (fun _ k => XS.lstore X1.here hx rfl (hb hby at_34) rfl (l' := #[.val (.long p1), .second, .val (.long p2), .second, .val (.int p3), .val (.int (0 : Int32)), .val (.int (0 : Int32)), .val (.long (own_draw p1 (0 : Int32))), .second, .unset, .unset, .unset, .unset, .unset, .unset, .unset, .unset]) rfl k) ?_
      show own_Go p e below _ T1 (mkF m 36 #[.val (.long p1), .second, .val (.long p2), .second, .val (.int p3), .val (.int (0 : Int32)), .val (.int (0 : Int32)), .val (.long (own_draw p1 (0 : Int32))), .second, .unset, .unset, .unset, .unset, .unset, .unset, .unset, .unset] [])
      refine own_by (fun _ k => XS.lloadN X1.here hx rfl (hb hby at_36) rfl k) ?_
      show own_Go p e below _ T1 (mkF m 37 #[.val (.long p1), .second, .val (.long p2), .second, .val (.int p3), .val (.int (0 : Int32)), .val (.int (0 : Int32)), .val (.long (own_draw p1 (0 : Int32))), .second, .unset, .unset, .unset, .unset, .unset, .unset, .unset, .unset] [(.long p2)])
      refine own_by (fun _ k => XS.iload X1.here hx rfl (hb hby at_37) rfl k) ?_
      show own_Go p e below _ T1 (mkF m 39 #[.val (.long p1), .second, .val (.long p2), .second, .val (.int p3), .val (.int (0 : Int32)), .val (.int (0 : Int32)), .val (.long (own_draw p1 (0 : Int32))), .second, .unset, .unset, .unset, .unset, .unset, .unset, .unset, .unset] [(.int (0 : Int32)), (.long p2)])
      obtain ⟨_, T2, L2, X2, ⟨rfl, N2q, e2⟩, st2⟩ := own_callS X1 hx hZ hown (y := (⟨"com/example/regretta/regretta/BucketEliminationPlusPinLaw", "draw", "(JZ)J"⟩ : MethodName)) (hw _ (List.mem_of_getElem? (i := 0) rfl)) (hw _ (List.mem_of_getElem? (i := 1) rfl)) (hw _ (List.mem_of_getElem? (i := 2) rfl)) (hw _ (List.mem_of_getElem? (i := 3) rfl)) (by decide) (argsL := [(.long p2), (.int (0 : Int32))]) (rest := []) e1 (rm1 l Z a0 hw [] p2 (0 : Int32) h0 n0 Z0) (g := (mkF m 39 #[.val (.long p1), .second, .val (.long p2), .second, .val (.int p3), .val (.int (0 : Int32)), .val (.int (0 : Int32)), .val (.long (own_draw p1 (0 : Int32))), .second, .unset, .unset, .unset, .unset, .unset, .unset, .unset, .unset] [(.int (0 : Int32)), (.long p2)])) rfl (by rw [hml]; rfl) (lenOf pd_0 rfl) rfl (W := 0) (by show 2 * 0 + _ ≤ _; exact Nat.le_of_eq rfl) (hb hby at_39) (by decide) (by decide) (by decide) (by decide)
      have N2 := Fr.app N1 N2q
      refine own_by st2 ?_
      show own_Go p e below _ T2 (mkF m 42 #[.val (.long p1), .second, .val (.long p2), .second, .val (.int p3), .val (.int (0 : Int32)), .val (.int (0 : Int32)), .val (.long (own_draw p1 (0 : Int32))), .second, .unset, .unset, .unset, .unset, .unset, .unset, .unset, .unset] [(.long (own_draw p2 (0 : Int32)))])
      refine own_by (fun _ k => XS.lstore X2.here hx rfl (hb hby at_42) rfl (l' := #[.val (.long p1), .second, .val (.long p2), .second, .val (.int p3), .val (.int (0 : Int32)), .val (.int (0 : Int32)), .val (.long (own_draw p1 (0 : Int32))), .second, .val (.long (own_draw p2 (0 : Int32))), .second, .unset, .unset, .unset, .unset, .unset, .unset]) rfl k) ?_
      show own_Go p e below _ T2 (mkF m 44 #[.val (.long p1), .second, .val (.long p2), .second, .val (.int p3), .val (.int (0 : Int32)), .val (.int (0 : Int32)), .val (.long (own_draw p1 (0 : Int32))), .second, .val (.long (own_draw p2 (0 : Int32))), .second, .unset, .unset, .unset, .unset, .unset, .unset] [])
      refine own_by (fun _ k => XS.iload X2.here hx rfl (hb hby at_44) rfl k) ?_
      show own_Go p e below _ T2 (mkF m 46 #[.val (.long p1), .second, .val (.long p2), .second, .val (.int p3), .val (.int (0 : Int32)), .val (.int (0 : Int32)), .val (.long (own_draw p1 (0 : Int32))), .second, .val (.long (own_draw p2 (0 : Int32))), .second, .unset, .unset, .unset, .unset, .unset, .unset] [(.int (0 : Int32))])
      refine own_by (fun _ k => XS.ifYes X2.here hx rfl (pc0 := 46) (pc' := 57) rfl (hb hby at_46) rfl ((if0 _ _).trans (teq (by decide : (0 : Int32) = (0 : Int32))).1) (by decide) (by decide) k) ?_
      show own_Go p e below _ T2 (mkF m 57 #[.val (.long p1), .second, .val (.long p2), .second, .val (.int p3), .val (.int (0 : Int32)), .val (.int (0 : Int32)), .val (.long (own_draw p1 (0 : Int32))), .second, .val (.long (own_draw p2 (0 : Int32))), .second, .unset, .unset, .unset, .unset, .unset, .unset] [])
      refine own_by (fun _ k => XS.iload X2.here hx rfl (hb hby at_57) rfl k) ?_
      show own_Go p e below _ T2 (mkF m 59 #[.val (.long p1), .second, .val (.long p2), .second, .val (.int p3), .val (.int (0 : Int32)), .val (.int (0 : Int32)), .val (.long (own_draw p1 (0 : Int32))), .second, .val (.long (own_draw p2 (0 : Int32))), .second, .unset, .unset, .unset, .unset, .unset, .unset] [(.int (0 : Int32))])
      refine own_by (fun _ k => XS.ifYes X2.here hx rfl (pc0 := 59) (pc' := 70) rfl (hb hby at_59) rfl ((if0 _ _).trans (teq (by decide : (0 : Int32) = (0 : Int32))).1) (by decide) (by decide) k) ?_
      show own_Go p e below _ T2 (mkF m 70 #[.val (.long p1), .second, .val (.long p2), .second, .val (.int p3), .val (.int (0 : Int32)), .val (.int (0 : Int32)), .val (.long (own_draw p1 (0 : Int32))), .second, .val (.long (own_draw p2 (0 : Int32))), .second, .unset, .unset, .unset, .unset, .unset, .unset] [])
      refine own_by (fun _ k => XS.lload X2.here hx rfl (hb hby at_70) rfl k) ?_
      show own_Go p e below _ T2 (mkF m 72 #[.val (.long p1), .second, .val (.long p2), .second, .val (.int p3), .val (.int (0 : Int32)), .val (.int (0 : Int32)), .val (.long (own_draw p1 (0 : Int32))), .second, .val (.long (own_draw p2 (0 : Int32))), .second, .unset, .unset, .unset, .unset, .unset, .unset] [(.long (own_draw p1 (0 : Int32)))])
      refine own_by (fun _ k => XS.lload X2.here hx rfl (hb hby at_72) rfl k) ?_
      show own_Go p e below _ T2 (mkF m 74 #[.val (.long p1), .second, .val (.long p2), .second, .val (.int p3), .val (.int (0 : Int32)), .val (.int (0 : Int32)), .val (.long (own_draw p1 (0 : Int32))), .second, .val (.long (own_draw p2 (0 : Int32))), .second, .unset, .unset, .unset, .unset, .unset, .unset] [(.long (own_draw p2 (0 : Int32))), (.long (own_draw p1 (0 : Int32)))])
      refine own_by (fun _ k => XS.ladd X2.here hx rfl (hb hby at_74) rfl k) ?_
      show own_Go p e below _ T2 (mkF m 75 #[.val (.long p1), .second, .val (.long p2), .second, .val (.int p3), .val (.int (0 : Int32)), .val (.int (0 : Int32)), .val (.long (own_draw p1 (0 : Int32))), .second, .val (.long (own_draw p2 (0 : Int32))), .second, .unset, .unset, .unset, .unset, .unset, .unset] [(.long ((own_draw p1 (0 : Int32)) + (own_draw p2 (0 : Int32))))])
      refine own_by (fun _ k => XS.lstore X2.here hx rfl (hb hby at_75) rfl (l' := #[.val (.long p1), .second, .val (.long p2), .second, .val (.int p3), .val (.int (0 : Int32)), .val (.int (0 : Int32)), .val (.long (own_draw p1 (0 : Int32))), .second, .val (.long (own_draw p2 (0 : Int32))), .second, .val (.long ((own_draw p1 (0 : Int32)) + (own_draw p2 (0 : Int32)))), .second, .unset, .unset, .unset, .unset]) rfl k) ?_
      show own_Go p e below _ T2 (mkF m 77 #[.val (.long p1), .second, .val (.long p2), .second, .val (.int p3), .val (.int (0 : Int32)), .val (.int (0 : Int32)), .val (.long (own_draw p1 (0 : Int32))), .second, .val (.long (own_draw p2 (0 : Int32))), .second, .val (.long ((own_draw p1 (0 : Int32)) + (own_draw p2 (0 : Int32)))), .second, .unset, .unset, .unset, .unset] [])
      refine own_by (fun _ k => XS.lload X2.here hx rfl (hb hby at_77) rfl k) ?_
      show own_Go p e below _ T2 (mkF m 79 #[.val (.long p1), .second, .val (.long p2), .second, .val (.int p3), .val (.int (0 : Int32)), .val (.int (0 : Int32)), .val (.long (own_draw p1 (0 : Int32))), .second, .val (.long (own_draw p2 (0 : Int32))), .second, .val (.long ((own_draw p1 (0 : Int32)) + (own_draw p2 (0 : Int32)))), .second, .unset, .unset, .unset, .unset] [(.long (own_draw p1 (0 : Int32)))])
      refine own_by (fun _ k => XS.lload X2.here hx rfl (hb hby at_79) rfl k) ?_
      show own_Go p e below _ T2 (mkF m 81 #[.val (.long p1), .second, .val (.long p2), .second, .val (.int p3), .val (.int (0 : Int32)), .val (.int (0 : Int32)), .val (.long (own_draw p1 (0 : Int32))), .second, .val (.long (own_draw p2 (0 : Int32))), .second, .val (.long ((own_draw p1 (0 : Int32)) + (own_draw p2 (0 : Int32)))), .second, .unset, .unset, .unset, .unset] [(.long (own_draw p2 (0 : Int32))), (.long (own_draw p1 (0 : Int32)))])
      obtain ⟨_, T3, L3, X3, ⟨rfl, N3q, e3⟩, st3⟩ := own_callS X2 hx hZ hown (y := (⟨"com/example/regretta/regretta/BucketElimination", "plus", "(JJ)J"⟩ : MethodName)) (hw _ (List.mem_of_getElem? (i := 5) rfl)) (hw _ (List.mem_of_getElem? (i := 6) rfl)) (hw _ (List.mem_of_getElem? (i := 7) rfl)) (hw _ (List.mem_of_getElem? (i := 8) rfl)) (by decide) (argsL := [(.long (own_draw p1 (0 : Int32))), (.long (own_draw p2 (0 : Int32)))]) (rest := []) e2 (rm2 l Z a0 hw [] (own_draw p1 (0 : Int32)) (own_draw p2 (0 : Int32)) h0 n0 Z0) (g := (mkF m 81 #[.val (.long p1), .second, .val (.long p2), .second, .val (.int p3), .val (.int (0 : Int32)), .val (.int (0 : Int32)), .val (.long (own_draw p1 (0 : Int32))), .second, .val (.long (own_draw p2 (0 : Int32))), .second, .val (.long ((own_draw p1 (0 : Int32)) + (own_draw p2 (0 : Int32)))), .second, .unset, .unset, .unset, .unset] [(.long (own_draw p2 (0 : Int32))), (.long (own_draw p1 (0 : Int32)))])) rfl (by rw [hml]; rfl) (lenOf pd_1 rfl) rfl (W := 0) (by show 2 * 0 + _ ≤ _; exact Nat.le_of_eq rfl) (hb hby at_81) (by decide) (by decide) (by decide) (by decide)
      have N3 := Fr.app N2 N3q
      refine own_by st3 ?_
      show own_Go p e below _ T3 (mkF m 84 #[.val (.long p1), .second, .val (.long p2), .second, .val (.int p3), .val (.int (0 : Int32)), .val (.int (0 : Int32)), .val (.long (own_draw p1 (0 : Int32))), .second, .val (.long (own_draw p2 (0 : Int32))), .second, .val (.long ((own_draw p1 (0 : Int32)) + (own_draw p2 (0 : Int32)))), .second, .unset, .unset, .unset, .unset] [(.long (own_plus (own_draw p1 (0 : Int32)) (own_draw p2 (0 : Int32))))])
      refine own_by (fun _ k => XS.lstore X3.here hx rfl (hb hby at_84) rfl (l' := #[.val (.long p1), .second, .val (.long p2), .second, .val (.int p3), .val (.int (0 : Int32)), .val (.int (0 : Int32)), .val (.long (own_draw p1 (0 : Int32))), .second, .val (.long (own_draw p2 (0 : Int32))), .second, .val (.long ((own_draw p1 (0 : Int32)) + (own_draw p2 (0 : Int32)))), .second, .val (.long (own_plus (own_draw p1 (0 : Int32)) (own_draw p2 (0 : Int32)))), .second, .unset, .unset]) rfl k) ?_
      show own_Go p e below _ T3 (mkF m 86 #[.val (.long p1), .second, .val (.long p2), .second, .val (.int p3), .val (.int (0 : Int32)), .val (.int (0 : Int32)), .val (.long (own_draw p1 (0 : Int32))), .second, .val (.long (own_draw p2 (0 : Int32))), .second, .val (.long ((own_draw p1 (0 : Int32)) + (own_draw p2 (0 : Int32)))), .second, .val (.long (own_plus (own_draw p1 (0 : Int32)) (own_draw p2 (0 : Int32)))), .second, .unset, .unset] [])
      refine own_by (fun _ k => XS.lload X3.here hx rfl (hb hby at_86) rfl k) ?_
      show own_Go p e below _ T3 (mkF m 88 #[.val (.long p1), .second, .val (.long p2), .second, .val (.int p3), .val (.int (0 : Int32)), .val (.int (0 : Int32)), .val (.long (own_draw p1 (0 : Int32))), .second, .val (.long (own_draw p2 (0 : Int32))), .second, .val (.long ((own_draw p1 (0 : Int32)) + (own_draw p2 (0 : Int32)))), .second, .val (.long (own_plus (own_draw p1 (0 : Int32)) (own_draw p2 (0 : Int32)))), .second, .unset, .unset] [(.long (own_draw p2 (0 : Int32)))])
      refine own_by (fun _ k => XS.lload X3.here hx rfl (hb hby at_88) rfl k) ?_
      show own_Go p e below _ T3 (mkF m 90 #[.val (.long p1), .second, .val (.long p2), .second, .val (.int p3), .val (.int (0 : Int32)), .val (.int (0 : Int32)), .val (.long (own_draw p1 (0 : Int32))), .second, .val (.long (own_draw p2 (0 : Int32))), .second, .val (.long ((own_draw p1 (0 : Int32)) + (own_draw p2 (0 : Int32)))), .second, .val (.long (own_plus (own_draw p1 (0 : Int32)) (own_draw p2 (0 : Int32)))), .second, .unset, .unset] [(.long (own_draw p1 (0 : Int32))), (.long (own_draw p2 (0 : Int32)))])
      obtain ⟨_, T4, L4, X4, ⟨rfl, N4q, e4⟩, st4⟩ := own_callS X3 hx hZ hown (y := (⟨"com/example/regretta/regretta/BucketElimination", "plus", "(JJ)J"⟩ : MethodName)) (hw _ (List.mem_of_getElem? (i := 5) rfl)) (hw _ (List.mem_of_getElem? (i := 6) rfl)) (hw _ (List.mem_of_getElem? (i := 7) rfl)) (hw _ (List.mem_of_getElem? (i := 8) rfl)) (by decide) (argsL := [(.long (own_draw p2 (0 : Int32))), (.long (own_draw p1 (0 : Int32)))]) (rest := []) e3 (rm2 l Z a0 hw [] (own_draw p2 (0 : Int32)) (own_draw p1 (0 : Int32)) h0 n0 Z0) (g := (mkF m 90 #[.val (.long p1), .second, .val (.long p2), .second, .val (.int p3), .val (.int (0 : Int32)), .val (.int (0 : Int32)), .val (.long (own_draw p1 (0 : Int32))), .second, .val (.long (own_draw p2 (0 : Int32))), .second, .val (.long ((own_draw p1 (0 : Int32)) + (own_draw p2 (0 : Int32)))), .second, .val (.long (own_plus (own_draw p1 (0 : Int32)) (own_draw p2 (0 : Int32)))), .second, .unset, .unset] [(.long (own_draw p1 (0 : Int32))), (.long (own_draw p2 (0 : Int32)))])) rfl (by rw [hml]; rfl) (lenOf pd_1 rfl) rfl (W := 0) (by show 2 * 0 + _ ≤ _; exact Nat.le_of_eq rfl) (hb hby at_90) (by decide) (by decide) (by decide) (by decide)
      have N4 := Fr.app N3 N4q
      refine own_by st4 ?_
      show own_Go p e below _ T4 (mkF m 93 #[.val (.long p1), .second, .val (.long p2), .second, .val (.int p3), .val (.int (0 : Int32)), .val (.int (0 : Int32)), .val (.long (own_draw p1 (0 : Int32))), .second, .val (.long (own_draw p2 (0 : Int32))), .second, .val (.long ((own_draw p1 (0 : Int32)) + (own_draw p2 (0 : Int32)))), .second, .val (.long (own_plus (own_draw p1 (0 : Int32)) (own_draw p2 (0 : Int32)))), .second, .unset, .unset] [(.long (own_plus (own_draw p2 (0 : Int32)) (own_draw p1 (0 : Int32))))])
      refine own_by (fun _ k => XS.lstore X4.here hx rfl (hb hby at_93) rfl (l' := #[.val (.long p1), .second, .val (.long p2), .second, .val (.int p3), .val (.int (0 : Int32)), .val (.int (0 : Int32)), .val (.long (own_draw p1 (0 : Int32))), .second, .val (.long (own_draw p2 (0 : Int32))), .second, .val (.long ((own_draw p1 (0 : Int32)) + (own_draw p2 (0 : Int32)))), .second, .val (.long (own_plus (own_draw p1 (0 : Int32)) (own_draw p2 (0 : Int32)))), .second, .val (.long (own_plus (own_draw p2 (0 : Int32)) (own_draw p1 (0 : Int32)))), .second]) rfl k) ?_
      show own_Go p e below _ T4 (mkF m 95 #[.val (.long p1), .second, .val (.long p2), .second, .val (.int p3), .val (.int (0 : Int32)), .val (.int (0 : Int32)), .val (.long (own_draw p1 (0 : Int32))), .second, .val (.long (own_draw p2 (0 : Int32))), .second, .val (.long ((own_draw p1 (0 : Int32)) + (own_draw p2 (0 : Int32)))), .second, .val (.long (own_plus (own_draw p1 (0 : Int32)) (own_draw p2 (0 : Int32)))), .second, .val (.long (own_plus (own_draw p2 (0 : Int32)) (own_draw p1 (0 : Int32)))), .second] [])
      refine own_by (fun _ k => XS.lload X4.here hx rfl (hb hby at_95) rfl k) ?_
      show own_Go p e below _ T4 (mkF m 97 #[.val (.long p1), .second, .val (.long p2), .second, .val (.int p3), .val (.int (0 : Int32)), .val (.int (0 : Int32)), .val (.long (own_draw p1 (0 : Int32))), .second, .val (.long (own_draw p2 (0 : Int32))), .second, .val (.long ((own_draw p1 (0 : Int32)) + (own_draw p2 (0 : Int32)))), .second, .val (.long (own_plus (own_draw p1 (0 : Int32)) (own_draw p2 (0 : Int32)))), .second, .val (.long (own_plus (own_draw p2 (0 : Int32)) (own_draw p1 (0 : Int32)))), .second] [(.long (own_plus (own_draw p1 (0 : Int32)) (own_draw p2 (0 : Int32))))])
      refine own_by (fun _ k => XS.lload X4.here hx rfl (hb hby at_97) rfl k) ?_
      show own_Go p e below _ T4 (mkF m 99 #[.val (.long p1), .second, .val (.long p2), .second, .val (.int p3), .val (.int (0 : Int32)), .val (.int (0 : Int32)), .val (.long (own_draw p1 (0 : Int32))), .second, .val (.long (own_draw p2 (0 : Int32))), .second, .val (.long ((own_draw p1 (0 : Int32)) + (own_draw p2 (0 : Int32)))), .second, .val (.long (own_plus (own_draw p1 (0 : Int32)) (own_draw p2 (0 : Int32)))), .second, .val (.long (own_plus (own_draw p2 (0 : Int32)) (own_draw p1 (0 : Int32)))), .second] [(.long ((own_draw p1 (0 : Int32)) + (own_draw p2 (0 : Int32)))), (.long (own_plus (own_draw p1 (0 : Int32)) (own_draw p2 (0 : Int32))))])
      refine own_by (fun _ k => XS.lcmp X4.here hx rfl (hb hby at_99) rfl k) ?_
      show own_Go p e below _ T4 (mkF m 100 #[.val (.long p1), .second, .val (.long p2), .second, .val (.int p3), .val (.int (0 : Int32)), .val (.int (0 : Int32)), .val (.long (own_draw p1 (0 : Int32))), .second, .val (.long (own_draw p2 (0 : Int32))), .second, .val (.long ((own_draw p1 (0 : Int32)) + (own_draw p2 (0 : Int32)))), .second, .val (.long (own_plus (own_draw p1 (0 : Int32)) (own_draw p2 (0 : Int32)))), .second, .val (.long (own_plus (own_draw p2 (0 : Int32)) (own_draw p1 (0 : Int32)))), .second] [(.int (lcmpW (own_plus (own_draw p1 (0 : Int32)) (own_draw p2 (0 : Int32))) ((own_draw p1 (0 : Int32)) + (own_draw p2 (0 : Int32)))))])
      refine own_by (fun _ k => XS.ifNo X4.here hx rfl (hb hby at_100) rfl ((if0 _ _).trans (teq ((lw_eq _ _).mpr (own_l1_00 p1 p2) : (lcmpW (own_plus (own_draw p1 (0 : Int32)) (own_draw p2 (0 : Int32))) ((own_draw p1 (0 : Int32)) + (own_draw p2 (0 : Int32)))) = (0 : Int32))).2) k) ?_
      show own_Go p e below _ T4 (mkF m 103 #[.val (.long p1), .second, .val (.long p2), .second, .val (.int p3), .val (.int (0 : Int32)), .val (.int (0 : Int32)), .val (.long (own_draw p1 (0 : Int32))), .second, .val (.long (own_draw p2 (0 : Int32))), .second, .val (.long ((own_draw p1 (0 : Int32)) + (own_draw p2 (0 : Int32)))), .second, .val (.long (own_plus (own_draw p1 (0 : Int32)) (own_draw p2 (0 : Int32)))), .second, .val (.long (own_plus (own_draw p2 (0 : Int32)) (own_draw p1 (0 : Int32)))), .second] [])
      refine own_by (fun _ k => XS.lload X4.here hx rfl (hb hby at_103) rfl k) ?_
      show own_Go p e below _ T4 (mkF m 105 #[.val (.long p1), .second, .val (.long p2), .second, .val (.int p3), .val (.int (0 : Int32)), .val (.int (0 : Int32)), .val (.long (own_draw p1 (0 : Int32))), .second, .val (.long (own_draw p2 (0 : Int32))), .second, .val (.long ((own_draw p1 (0 : Int32)) + (own_draw p2 (0 : Int32)))), .second, .val (.long (own_plus (own_draw p1 (0 : Int32)) (own_draw p2 (0 : Int32)))), .second, .val (.long (own_plus (own_draw p2 (0 : Int32)) (own_draw p1 (0 : Int32)))), .second] [(.long (own_plus (own_draw p2 (0 : Int32)) (own_draw p1 (0 : Int32))))])
      refine own_by (fun _ k => XS.lload X4.here hx rfl (hb hby at_105) rfl k) ?_
      show own_Go p e below _ T4 (mkF m 107 #[.val (.long p1), .second, .val (.long p2), .second, .val (.int p3), .val (.int (0 : Int32)), .val (.int (0 : Int32)), .val (.long (own_draw p1 (0 : Int32))), .second, .val (.long (own_draw p2 (0 : Int32))), .second, .val (.long ((own_draw p1 (0 : Int32)) + (own_draw p2 (0 : Int32)))), .second, .val (.long (own_plus (own_draw p1 (0 : Int32)) (own_draw p2 (0 : Int32)))), .second, .val (.long (own_plus (own_draw p2 (0 : Int32)) (own_draw p1 (0 : Int32)))), .second] [(.long ((own_draw p1 (0 : Int32)) + (own_draw p2 (0 : Int32)))), (.long (own_plus (own_draw p2 (0 : Int32)) (own_draw p1 (0 : Int32))))])
      refine own_by (fun _ k => XS.lcmp X4.here hx rfl (hb hby at_107) rfl k) ?_
      show own_Go p e below _ T4 (mkF m 108 #[.val (.long p1), .second, .val (.long p2), .second, .val (.int p3), .val (.int (0 : Int32)), .val (.int (0 : Int32)), .val (.long (own_draw p1 (0 : Int32))), .second, .val (.long (own_draw p2 (0 : Int32))), .second, .val (.long ((own_draw p1 (0 : Int32)) + (own_draw p2 (0 : Int32)))), .second, .val (.long (own_plus (own_draw p1 (0 : Int32)) (own_draw p2 (0 : Int32)))), .second, .val (.long (own_plus (own_draw p2 (0 : Int32)) (own_draw p1 (0 : Int32)))), .second] [(.int (lcmpW (own_plus (own_draw p2 (0 : Int32)) (own_draw p1 (0 : Int32))) ((own_draw p1 (0 : Int32)) + (own_draw p2 (0 : Int32)))))])
      refine own_by (fun _ k => XS.ifNo X4.here hx rfl (hb hby at_108) rfl ((if0 _ _).trans (teq ((lw_eq _ _).mpr (own_l2_00 p1 p2) : (lcmpW (own_plus (own_draw p2 (0 : Int32)) (own_draw p1 (0 : Int32))) ((own_draw p1 (0 : Int32)) + (own_draw p2 (0 : Int32)))) = (0 : Int32))).2) k) ?_
      show own_Go p e below _ T4 (mkF m 111 #[.val (.long p1), .second, .val (.long p2), .second, .val (.int p3), .val (.int (0 : Int32)), .val (.int (0 : Int32)), .val (.long (own_draw p1 (0 : Int32))), .second, .val (.long (own_draw p2 (0 : Int32))), .second, .val (.long ((own_draw p1 (0 : Int32)) + (own_draw p2 (0 : Int32)))), .second, .val (.long (own_plus (own_draw p1 (0 : Int32)) (own_draw p2 (0 : Int32)))), .second, .val (.long (own_plus (own_draw p2 (0 : Int32)) (own_draw p1 (0 : Int32)))), .second] [])
      refine own_by (fun _ k => XS.iconst X4.here hx rfl (hb hby at_111) k) ?_
      show own_Go p e below _ T4 (mkF m 112 #[.val (.long p1), .second, .val (.long p2), .second, .val (.int p3), .val (.int (0 : Int32)), .val (.int (0 : Int32)), .val (.long (own_draw p1 (0 : Int32))), .second, .val (.long (own_draw p2 (0 : Int32))), .second, .val (.long ((own_draw p1 (0 : Int32)) + (own_draw p2 (0 : Int32)))), .second, .val (.long (own_plus (own_draw p1 (0 : Int32)) (own_draw p2 (0 : Int32)))), .second, .val (.long (own_plus (own_draw p2 (0 : Int32)) (own_draw p1 (0 : Int32)))), .second] [(.int (1 : Int32))])
      refine own_by (fun _ k => XS.goto X4.here hx rfl (pc0 := 112) (pc' := 116) rfl (hb hby at_112) (by decide) (by decide) k) ?_
      show own_Go p e below _ T4 (mkF m 116 #[.val (.long p1), .second, .val (.long p2), .second, .val (.int p3), .val (.int (0 : Int32)), .val (.int (0 : Int32)), .val (.long (own_draw p1 (0 : Int32))), .second, .val (.long (own_draw p2 (0 : Int32))), .second, .val (.long ((own_draw p1 (0 : Int32)) + (own_draw p2 (0 : Int32)))), .second, .val (.long (own_plus (own_draw p1 (0 : Int32)) (own_draw p2 (0 : Int32)))), .second, .val (.long (own_plus (own_draw p2 (0 : Int32)) (own_draw p1 (0 : Int32)))), .second] [(.int (1 : Int32))])
      exact own_retN X4 hx hlk hret (by simp) rfl (hb hby at_116) (by first | exact ⟨rfl, N4⟩ | (rw [e4]; exact ⟨rfl, N4⟩)) (by decide) (by decide)
    · refine own_by (fun _ k => XS.ifNo X0.here hx rfl (hb hby at_18) rfl ((if0 _ _).trans (feq (hk2_0 : ¬ ((p3 &&& (2 : Int32)) = (0 : Int32)))).1) k) ?_
      show own_Go p e below _ s₁ (mkF m 21 #[.val (.long p1), .second, .val (.long p2), .second, .val (.int p3), .val (.int (0 : Int32)), .unset, .unset, .unset, .unset, .unset, .unset, .unset, .unset, .unset, .unset, .unset] [])
      refine own_by (fun _ k => XS.iconst X0.here hx rfl (hb hby at_21) k) ?_
      show own_Go p e below _ s₁ (mkF m 22 #[.val (.long p1), .second, .val (.long p2), .second, .val (.int p3), .val (.int (0 : Int32)), .unset, .unset, .unset, .unset, .unset, .unset, .unset, .unset, .unset, .unset, .unset] [(.int (1 : Int32))])
      refine own_by (fun _ k => XS.goto X0.here hx rfl (pc0 := 22) (pc' := 26) rfl (hb hby at_22) (by decide) (by decide) k) ?_
      show own_Go p e below _ s₁ (mkF m 26 #[.val (.long p1), .second, .val (.long p2), .second, .val (.int p3), .val (.int (0 : Int32)), .unset, .unset, .unset, .unset, .unset, .unset, .unset, .unset, .unset, .unset, .unset] [(.int (1 : Int32))])
      refine own_by (fun _ k => XS.istore X0.here hx rfl (hb hby at_26) rfl (l' := #[.val (.long p1), .second, .val (.long p2), .second, .val (.int p3), .val (.int (0 : Int32)), .val (.int (1 : Int32)), .unset, .unset, .unset, .unset, .unset, .unset, .unset, .unset, .unset, .unset]) rfl k) ?_
      show own_Go p e below _ s₁ (mkF m 28 #[.val (.long p1), .second, .val (.long p2), .second, .val (.int p3), .val (.int (0 : Int32)), .val (.int (1 : Int32)), .unset, .unset, .unset, .unset, .unset, .unset, .unset, .unset, .unset, .unset] [])
      refine own_by (fun _ k => XS.lloadN X0.here hx rfl (hb hby at_28) rfl k) ?_
      show own_Go p e below _ s₁ (mkF m 29 #[.val (.long p1), .second, .val (.long p2), .second, .val (.int p3), .val (.int (0 : Int32)), .val (.int (1 : Int32)), .unset, .unset, .unset, .unset, .unset, .unset, .unset, .unset, .unset, .unset] [(.long p1)])
      refine own_by (fun _ k => XS.iload X0.here hx rfl (hb hby at_29) rfl k) ?_
      show own_Go p e below _ s₁ (mkF m 31 #[.val (.long p1), .second, .val (.long p2), .second, .val (.int p3), .val (.int (0 : Int32)), .val (.int (1 : Int32)), .unset, .unset, .unset, .unset, .unset, .unset, .unset, .unset, .unset, .unset] [(.int (0 : Int32)), (.long p1)])
      obtain ⟨_, T5, L5, X5, ⟨rfl, N5q, e5⟩, st5⟩ := own_callS X0 hx hZ hown (y := (⟨"com/example/regretta/regretta/BucketEliminationPlusPinLaw", "draw", "(JZ)J"⟩ : MethodName)) (hw _ (List.mem_of_getElem? (i := 0) rfl)) (hw _ (List.mem_of_getElem? (i := 1) rfl)) (hw _ (List.mem_of_getElem? (i := 2) rfl)) (hw _ (List.mem_of_getElem? (i := 3) rfl)) (by decide) (argsL := [(.long p1), (.int (0 : Int32))]) (rest := []) e0 (rm1 l Z a0 hw [] p1 (0 : Int32) h0 n0 Z0) (g := (mkF m 31 #[.val (.long p1), .second, .val (.long p2), .second, .val (.int p3), .val (.int (0 : Int32)), .val (.int (1 : Int32)), .unset, .unset, .unset, .unset, .unset, .unset, .unset, .unset, .unset, .unset] [(.int (0 : Int32)), (.long p1)])) rfl (by rw [hml]; rfl) (lenOf pd_0 rfl) rfl (W := 0) (by show 2 * 0 + _ ≤ _; exact Nat.le_of_eq rfl) (hb hby at_31) (by decide) (by decide) (by decide) (by decide)
      have N5 := Fr.app N0 N5q
      refine own_by st5 ?_
      show own_Go p e below _ T5 (mkF m 34 #[.val (.long p1), .second, .val (.long p2), .second, .val (.int p3), .val (.int (0 : Int32)), .val (.int (1 : Int32)), .unset, .unset, .unset, .unset, .unset, .unset, .unset, .unset, .unset, .unset] [(.long (own_draw p1 (0 : Int32)))])
      refine own_by (fun _ k => XS.lstore X5.here hx rfl (hb hby at_34) rfl (l' := #[.val (.long p1), .second, .val (.long p2), .second, .val (.int p3), .val (.int (0 : Int32)), .val (.int (1 : Int32)), .val (.long (own_draw p1 (0 : Int32))), .second, .unset, .unset, .unset, .unset, .unset, .unset, .unset, .unset]) rfl k) ?_
      show own_Go p e below _ T5 (mkF m 36 #[.val (.long p1), .second, .val (.long p2), .second, .val (.int p3), .val (.int (0 : Int32)), .val (.int (1 : Int32)), .val (.long (own_draw p1 (0 : Int32))), .second, .unset, .unset, .unset, .unset, .unset, .unset, .unset, .unset] [])
      refine own_by (fun _ k => XS.lloadN X5.here hx rfl (hb hby at_36) rfl k) ?_
      show own_Go p e below _ T5 (mkF m 37 #[.val (.long p1), .second, .val (.long p2), .second, .val (.int p3), .val (.int (0 : Int32)), .val (.int (1 : Int32)), .val (.long (own_draw p1 (0 : Int32))), .second, .unset, .unset, .unset, .unset, .unset, .unset, .unset, .unset] [(.long p2)])
      refine own_by (fun _ k => XS.iload X5.here hx rfl (hb hby at_37) rfl k) ?_
      show own_Go p e below _ T5 (mkF m 39 #[.val (.long p1), .second, .val (.long p2), .second, .val (.int p3), .val (.int (0 : Int32)), .val (.int (1 : Int32)), .val (.long (own_draw p1 (0 : Int32))), .second, .unset, .unset, .unset, .unset, .unset, .unset, .unset, .unset] [(.int (1 : Int32)), (.long p2)])
      obtain ⟨_, T6, L6, X6, ⟨rfl, N6q, e6⟩, st6⟩ := own_callS X5 hx hZ hown (y := (⟨"com/example/regretta/regretta/BucketEliminationPlusPinLaw", "draw", "(JZ)J"⟩ : MethodName)) (hw _ (List.mem_of_getElem? (i := 0) rfl)) (hw _ (List.mem_of_getElem? (i := 1) rfl)) (hw _ (List.mem_of_getElem? (i := 2) rfl)) (hw _ (List.mem_of_getElem? (i := 3) rfl)) (by decide) (argsL := [(.long p2), (.int (1 : Int32))]) (rest := []) e5 (rm1 l Z a0 hw [] p2 (1 : Int32) h0 n0 Z0) (g := (mkF m 39 #[.val (.long p1), .second, .val (.long p2), .second, .val (.int p3), .val (.int (0 : Int32)), .val (.int (1 : Int32)), .val (.long (own_draw p1 (0 : Int32))), .second, .unset, .unset, .unset, .unset, .unset, .unset, .unset, .unset] [(.int (1 : Int32)), (.long p2)])) rfl (by rw [hml]; rfl) (lenOf pd_0 rfl) rfl (W := 0) (by show 2 * 0 + _ ≤ _; exact Nat.le_of_eq rfl) (hb hby at_39) (by decide) (by decide) (by decide) (by decide)
      have N6 := Fr.app N5 N6q
      refine own_by st6 ?_
      show own_Go p e below _ T6 (mkF m 42 #[.val (.long p1), .second, .val (.long p2), .second, .val (.int p3), .val (.int (0 : Int32)), .val (.int (1 : Int32)), .val (.long (own_draw p1 (0 : Int32))), .second, .unset, .unset, .unset, .unset, .unset, .unset, .unset, .unset] [(.long (own_draw p2 (1 : Int32)))])
      refine own_by (fun _ k => XS.lstore X6.here hx rfl (hb hby at_42) rfl (l' := #[.val (.long p1), .second, .val (.long p2), .second, .val (.int p3), .val (.int (0 : Int32)), .val (.int (1 : Int32)), .val (.long (own_draw p1 (0 : Int32))), .second, .val (.long (own_draw p2 (1 : Int32))), .second, .unset, .unset, .unset, .unset, .unset, .unset]) rfl k) ?_
      show own_Go p e below _ T6 (mkF m 44 #[.val (.long p1), .second, .val (.long p2), .second, .val (.int p3), .val (.int (0 : Int32)), .val (.int (1 : Int32)), .val (.long (own_draw p1 (0 : Int32))), .second, .val (.long (own_draw p2 (1 : Int32))), .second, .unset, .unset, .unset, .unset, .unset, .unset] [])
      refine own_by (fun _ k => XS.iload X6.here hx rfl (hb hby at_44) rfl k) ?_
      show own_Go p e below _ T6 (mkF m 46 #[.val (.long p1), .second, .val (.long p2), .second, .val (.int p3), .val (.int (0 : Int32)), .val (.int (1 : Int32)), .val (.long (own_draw p1 (0 : Int32))), .second, .val (.long (own_draw p2 (1 : Int32))), .second, .unset, .unset, .unset, .unset, .unset, .unset] [(.int (0 : Int32))])
      refine own_by (fun _ k => XS.ifYes X6.here hx rfl (pc0 := 46) (pc' := 57) rfl (hb hby at_46) rfl ((if0 _ _).trans (teq (by decide : (0 : Int32) = (0 : Int32))).1) (by decide) (by decide) k) ?_
      show own_Go p e below _ T6 (mkF m 57 #[.val (.long p1), .second, .val (.long p2), .second, .val (.int p3), .val (.int (0 : Int32)), .val (.int (1 : Int32)), .val (.long (own_draw p1 (0 : Int32))), .second, .val (.long (own_draw p2 (1 : Int32))), .second, .unset, .unset, .unset, .unset, .unset, .unset] [])
      refine own_by (fun _ k => XS.iload X6.here hx rfl (hb hby at_57) rfl k) ?_
      show own_Go p e below _ T6 (mkF m 59 #[.val (.long p1), .second, .val (.long p2), .second, .val (.int p3), .val (.int (0 : Int32)), .val (.int (1 : Int32)), .val (.long (own_draw p1 (0 : Int32))), .second, .val (.long (own_draw p2 (1 : Int32))), .second, .unset, .unset, .unset, .unset, .unset, .unset] [(.int (1 : Int32))])
      refine own_by (fun _ k => XS.ifNo X6.here hx rfl (hb hby at_59) rfl ((if0 _ _).trans (feq (by decide : ¬ ((1 : Int32) = (0 : Int32)))).1) k) ?_
      show own_Go p e below _ T6 (mkF m 62 #[.val (.long p1), .second, .val (.long p2), .second, .val (.int p3), .val (.int (0 : Int32)), .val (.int (1 : Int32)), .val (.long (own_draw p1 (0 : Int32))), .second, .val (.long (own_draw p2 (1 : Int32))), .second, .unset, .unset, .unset, .unset, .unset, .unset] [])
      refine own_by (fun _ k => Stand.ldc2J X6 hx hown (mvT hZ (hw _ (List.mem_of_getElem? (i := 11) rfl))) rfl (hb hby at_62) k) ?_
      show own_Go p e below _ T6 (mkF m 65 #[.val (.long p1), .second, .val (.long p2), .second, .val (.int p3), .val (.int (0 : Int32)), .val (.int (1 : Int32)), .val (.long (own_draw p1 (0 : Int32))), .second, .val (.long (own_draw p2 (1 : Int32))), .second, .unset, .unset, .unset, .unset, .unset, .unset] [(.long (2305843009213693952 : Int64))])
      refine own_by (fun _ k => XS.lstore X6.here hx rfl (hb hby at_65) rfl (l' := #[.val (.long p1), .second, .val (.long p2), .second, .val (.int p3), .val (.int (0 : Int32)), .val (.int (1 : Int32)), .val (.long (own_draw p1 (0 : Int32))), .second, .val (.long (own_draw p2 (1 : Int32))), .second, .val (.long (2305843009213693952 : Int64)), .second, .unset, .unset, .unset, .unset]) rfl k) ?_
      show own_Go p e below _ T6 (mkF m 67 #[.val (.long p1), .second, .val (.long p2), .second, .val (.int p3), .val (.int (0 : Int32)), .val (.int (1 : Int32)), .val (.long (own_draw p1 (0 : Int32))), .second, .val (.long (own_draw p2 (1 : Int32))), .second, .val (.long (2305843009213693952 : Int64)), .second, .unset, .unset, .unset, .unset] [])
      refine own_by (fun _ k => XS.goto X6.here hx rfl (pc0 := 67) (pc' := 77) rfl (hb hby at_67) (by decide) (by decide) k) ?_
      show own_Go p e below _ T6 (mkF m 77 #[.val (.long p1), .second, .val (.long p2), .second, .val (.int p3), .val (.int (0 : Int32)), .val (.int (1 : Int32)), .val (.long (own_draw p1 (0 : Int32))), .second, .val (.long (own_draw p2 (1 : Int32))), .second, .val (.long (2305843009213693952 : Int64)), .second, .unset, .unset, .unset, .unset] [])
      refine own_by (fun _ k => XS.lload X6.here hx rfl (hb hby at_77) rfl k) ?_
      show own_Go p e below _ T6 (mkF m 79 #[.val (.long p1), .second, .val (.long p2), .second, .val (.int p3), .val (.int (0 : Int32)), .val (.int (1 : Int32)), .val (.long (own_draw p1 (0 : Int32))), .second, .val (.long (own_draw p2 (1 : Int32))), .second, .val (.long (2305843009213693952 : Int64)), .second, .unset, .unset, .unset, .unset] [(.long (own_draw p1 (0 : Int32)))])
      refine own_by (fun _ k => XS.lload X6.here hx rfl (hb hby at_79) rfl k) ?_
      show own_Go p e below _ T6 (mkF m 81 #[.val (.long p1), .second, .val (.long p2), .second, .val (.int p3), .val (.int (0 : Int32)), .val (.int (1 : Int32)), .val (.long (own_draw p1 (0 : Int32))), .second, .val (.long (own_draw p2 (1 : Int32))), .second, .val (.long (2305843009213693952 : Int64)), .second, .unset, .unset, .unset, .unset] [(.long (own_draw p2 (1 : Int32))), (.long (own_draw p1 (0 : Int32)))])
      obtain ⟨_, T7, L7, X7, ⟨rfl, N7q, e7⟩, st7⟩ := own_callS X6 hx hZ hown (y := (⟨"com/example/regretta/regretta/BucketElimination", "plus", "(JJ)J"⟩ : MethodName)) (hw _ (List.mem_of_getElem? (i := 5) rfl)) (hw _ (List.mem_of_getElem? (i := 6) rfl)) (hw _ (List.mem_of_getElem? (i := 7) rfl)) (hw _ (List.mem_of_getElem? (i := 8) rfl)) (by decide) (argsL := [(.long (own_draw p1 (0 : Int32))), (.long (own_draw p2 (1 : Int32)))]) (rest := []) e6 (rm2 l Z a0 hw [] (own_draw p1 (0 : Int32)) (own_draw p2 (1 : Int32)) h0 n0 Z0) (g := (mkF m 81 #[.val (.long p1), .second, .val (.long p2), .second, .val (.int p3), .val (.int (0 : Int32)), .val (.int (1 : Int32)), .val (.long (own_draw p1 (0 : Int32))), .second, .val (.long (own_draw p2 (1 : Int32))), .second, .val (.long (2305843009213693952 : Int64)), .second, .unset, .unset, .unset, .unset] [(.long (own_draw p2 (1 : Int32))), (.long (own_draw p1 (0 : Int32)))])) rfl (by rw [hml]; rfl) (lenOf pd_1 rfl) rfl (W := 0) (by show 2 * 0 + _ ≤ _; exact Nat.le_of_eq rfl) (hb hby at_81) (by decide) (by decide) (by decide) (by decide)
      have N7 := Fr.app N6 N7q
      refine own_by st7 ?_
      show own_Go p e below _ T7 (mkF m 84 #[.val (.long p1), .second, .val (.long p2), .second, .val (.int p3), .val (.int (0 : Int32)), .val (.int (1 : Int32)), .val (.long (own_draw p1 (0 : Int32))), .second, .val (.long (own_draw p2 (1 : Int32))), .second, .val (.long (2305843009213693952 : Int64)), .second, .unset, .unset, .unset, .unset] [(.long (own_plus (own_draw p1 (0 : Int32)) (own_draw p2 (1 : Int32))))])
      refine own_by (fun _ k => XS.lstore X7.here hx rfl (hb hby at_84) rfl (l' := #[.val (.long p1), .second, .val (.long p2), .second, .val (.int p3), .val (.int (0 : Int32)), .val (.int (1 : Int32)), .val (.long (own_draw p1 (0 : Int32))), .second, .val (.long (own_draw p2 (1 : Int32))), .second, .val (.long (2305843009213693952 : Int64)), .second, .val (.long (own_plus (own_draw p1 (0 : Int32)) (own_draw p2 (1 : Int32)))), .second, .unset, .unset]) rfl k) ?_
      show own_Go p e below _ T7 (mkF m 86 #[.val (.long p1), .second, .val (.long p2), .second, .val (.int p3), .val (.int (0 : Int32)), .val (.int (1 : Int32)), .val (.long (own_draw p1 (0 : Int32))), .second, .val (.long (own_draw p2 (1 : Int32))), .second, .val (.long (2305843009213693952 : Int64)), .second, .val (.long (own_plus (own_draw p1 (0 : Int32)) (own_draw p2 (1 : Int32)))), .second, .unset, .unset] [])
      refine own_by (fun _ k => XS.lload X7.here hx rfl (hb hby at_86) rfl k) ?_
      show own_Go p e below _ T7 (mkF m 88 #[.val (.long p1), .second, .val (.long p2), .second, .val (.int p3), .val (.int (0 : Int32)), .val (.int (1 : Int32)), .val (.long (own_draw p1 (0 : Int32))), .second, .val (.long (own_draw p2 (1 : Int32))), .second, .val (.long (2305843009213693952 : Int64)), .second, .val (.long (own_plus (own_draw p1 (0 : Int32)) (own_draw p2 (1 : Int32)))), .second, .unset, .unset] [(.long (own_draw p2 (1 : Int32)))])
      refine own_by (fun _ k => XS.lload X7.here hx rfl (hb hby at_88) rfl k) ?_
      show own_Go p e below _ T7 (mkF m 90 #[.val (.long p1), .second, .val (.long p2), .second, .val (.int p3), .val (.int (0 : Int32)), .val (.int (1 : Int32)), .val (.long (own_draw p1 (0 : Int32))), .second, .val (.long (own_draw p2 (1 : Int32))), .second, .val (.long (2305843009213693952 : Int64)), .second, .val (.long (own_plus (own_draw p1 (0 : Int32)) (own_draw p2 (1 : Int32)))), .second, .unset, .unset] [(.long (own_draw p1 (0 : Int32))), (.long (own_draw p2 (1 : Int32)))])
      obtain ⟨_, T8, L8, X8, ⟨rfl, N8q, e8⟩, st8⟩ := own_callS X7 hx hZ hown (y := (⟨"com/example/regretta/regretta/BucketElimination", "plus", "(JJ)J"⟩ : MethodName)) (hw _ (List.mem_of_getElem? (i := 5) rfl)) (hw _ (List.mem_of_getElem? (i := 6) rfl)) (hw _ (List.mem_of_getElem? (i := 7) rfl)) (hw _ (List.mem_of_getElem? (i := 8) rfl)) (by decide) (argsL := [(.long (own_draw p2 (1 : Int32))), (.long (own_draw p1 (0 : Int32)))]) (rest := []) e7 (rm2 l Z a0 hw [] (own_draw p2 (1 : Int32)) (own_draw p1 (0 : Int32)) h0 n0 Z0) (g := (mkF m 90 #[.val (.long p1), .second, .val (.long p2), .second, .val (.int p3), .val (.int (0 : Int32)), .val (.int (1 : Int32)), .val (.long (own_draw p1 (0 : Int32))), .second, .val (.long (own_draw p2 (1 : Int32))), .second, .val (.long (2305843009213693952 : Int64)), .second, .val (.long (own_plus (own_draw p1 (0 : Int32)) (own_draw p2 (1 : Int32)))), .second, .unset, .unset] [(.long (own_draw p1 (0 : Int32))), (.long (own_draw p2 (1 : Int32)))])) rfl (by rw [hml]; rfl) (lenOf pd_1 rfl) rfl (W := 0) (by show 2 * 0 + _ ≤ _; exact Nat.le_of_eq rfl) (hb hby at_90) (by decide) (by decide) (by decide) (by decide)
      have N8 := Fr.app N7 N8q
      refine own_by st8 ?_
      show own_Go p e below _ T8 (mkF m 93 #[.val (.long p1), .second, .val (.long p2), .second, .val (.int p3), .val (.int (0 : Int32)), .val (.int (1 : Int32)), .val (.long (own_draw p1 (0 : Int32))), .second, .val (.long (own_draw p2 (1 : Int32))), .second, .val (.long (2305843009213693952 : Int64)), .second, .val (.long (own_plus (own_draw p1 (0 : Int32)) (own_draw p2 (1 : Int32)))), .second, .unset, .unset] [(.long (own_plus (own_draw p2 (1 : Int32)) (own_draw p1 (0 : Int32))))])
      refine own_by (fun _ k => XS.lstore X8.here hx rfl (hb hby at_93) rfl (l' := #[.val (.long p1), .second, .val (.long p2), .second, .val (.int p3), .val (.int (0 : Int32)), .val (.int (1 : Int32)), .val (.long (own_draw p1 (0 : Int32))), .second, .val (.long (own_draw p2 (1 : Int32))), .second, .val (.long (2305843009213693952 : Int64)), .second, .val (.long (own_plus (own_draw p1 (0 : Int32)) (own_draw p2 (1 : Int32)))), .second, .val (.long (own_plus (own_draw p2 (1 : Int32)) (own_draw p1 (0 : Int32)))), .second]) rfl k) ?_
      show own_Go p e below _ T8 (mkF m 95 #[.val (.long p1), .second, .val (.long p2), .second, .val (.int p3), .val (.int (0 : Int32)), .val (.int (1 : Int32)), .val (.long (own_draw p1 (0 : Int32))), .second, .val (.long (own_draw p2 (1 : Int32))), .second, .val (.long (2305843009213693952 : Int64)), .second, .val (.long (own_plus (own_draw p1 (0 : Int32)) (own_draw p2 (1 : Int32)))), .second, .val (.long (own_plus (own_draw p2 (1 : Int32)) (own_draw p1 (0 : Int32)))), .second] [])
      refine own_by (fun _ k => XS.lload X8.here hx rfl (hb hby at_95) rfl k) ?_
      show own_Go p e below _ T8 (mkF m 97 #[.val (.long p1), .second, .val (.long p2), .second, .val (.int p3), .val (.int (0 : Int32)), .val (.int (1 : Int32)), .val (.long (own_draw p1 (0 : Int32))), .second, .val (.long (own_draw p2 (1 : Int32))), .second, .val (.long (2305843009213693952 : Int64)), .second, .val (.long (own_plus (own_draw p1 (0 : Int32)) (own_draw p2 (1 : Int32)))), .second, .val (.long (own_plus (own_draw p2 (1 : Int32)) (own_draw p1 (0 : Int32)))), .second] [(.long (own_plus (own_draw p1 (0 : Int32)) (own_draw p2 (1 : Int32))))])
      refine own_by (fun _ k => XS.lload X8.here hx rfl (hb hby at_97) rfl k) ?_
      show own_Go p e below _ T8 (mkF m 99 #[.val (.long p1), .second, .val (.long p2), .second, .val (.int p3), .val (.int (0 : Int32)), .val (.int (1 : Int32)), .val (.long (own_draw p1 (0 : Int32))), .second, .val (.long (own_draw p2 (1 : Int32))), .second, .val (.long (2305843009213693952 : Int64)), .second, .val (.long (own_plus (own_draw p1 (0 : Int32)) (own_draw p2 (1 : Int32)))), .second, .val (.long (own_plus (own_draw p2 (1 : Int32)) (own_draw p1 (0 : Int32)))), .second] [(.long (2305843009213693952 : Int64)), (.long (own_plus (own_draw p1 (0 : Int32)) (own_draw p2 (1 : Int32))))])
      refine own_by (fun _ k => XS.lcmp X8.here hx rfl (hb hby at_99) rfl k) ?_
      show own_Go p e below _ T8 (mkF m 100 #[.val (.long p1), .second, .val (.long p2), .second, .val (.int p3), .val (.int (0 : Int32)), .val (.int (1 : Int32)), .val (.long (own_draw p1 (0 : Int32))), .second, .val (.long (own_draw p2 (1 : Int32))), .second, .val (.long (2305843009213693952 : Int64)), .second, .val (.long (own_plus (own_draw p1 (0 : Int32)) (own_draw p2 (1 : Int32)))), .second, .val (.long (own_plus (own_draw p2 (1 : Int32)) (own_draw p1 (0 : Int32)))), .second] [(.int (lcmpW (own_plus (own_draw p1 (0 : Int32)) (own_draw p2 (1 : Int32))) (2305843009213693952 : Int64)))])
      refine own_by (fun _ k => XS.ifNo X8.here hx rfl (hb hby at_100) rfl ((if0 _ _).trans (teq ((lw_eq _ _).mpr (own_l1_01 p1 p2) : (lcmpW (own_plus (own_draw p1 (0 : Int32)) (own_draw p2 (1 : Int32))) (2305843009213693952 : Int64)) = (0 : Int32))).2) k) ?_
      show own_Go p e below _ T8 (mkF m 103 #[.val (.long p1), .second, .val (.long p2), .second, .val (.int p3), .val (.int (0 : Int32)), .val (.int (1 : Int32)), .val (.long (own_draw p1 (0 : Int32))), .second, .val (.long (own_draw p2 (1 : Int32))), .second, .val (.long (2305843009213693952 : Int64)), .second, .val (.long (own_plus (own_draw p1 (0 : Int32)) (own_draw p2 (1 : Int32)))), .second, .val (.long (own_plus (own_draw p2 (1 : Int32)) (own_draw p1 (0 : Int32)))), .second] [])
      refine own_by (fun _ k => XS.lload X8.here hx rfl (hb hby at_103) rfl k) ?_
      show own_Go p e below _ T8 (mkF m 105 #[.val (.long p1), .second, .val (.long p2), .second, .val (.int p3), .val (.int (0 : Int32)), .val (.int (1 : Int32)), .val (.long (own_draw p1 (0 : Int32))), .second, .val (.long (own_draw p2 (1 : Int32))), .second, .val (.long (2305843009213693952 : Int64)), .second, .val (.long (own_plus (own_draw p1 (0 : Int32)) (own_draw p2 (1 : Int32)))), .second, .val (.long (own_plus (own_draw p2 (1 : Int32)) (own_draw p1 (0 : Int32)))), .second] [(.long (own_plus (own_draw p2 (1 : Int32)) (own_draw p1 (0 : Int32))))])
      refine own_by (fun _ k => XS.lload X8.here hx rfl (hb hby at_105) rfl k) ?_
      show own_Go p e below _ T8 (mkF m 107 #[.val (.long p1), .second, .val (.long p2), .second, .val (.int p3), .val (.int (0 : Int32)), .val (.int (1 : Int32)), .val (.long (own_draw p1 (0 : Int32))), .second, .val (.long (own_draw p2 (1 : Int32))), .second, .val (.long (2305843009213693952 : Int64)), .second, .val (.long (own_plus (own_draw p1 (0 : Int32)) (own_draw p2 (1 : Int32)))), .second, .val (.long (own_plus (own_draw p2 (1 : Int32)) (own_draw p1 (0 : Int32)))), .second] [(.long (2305843009213693952 : Int64)), (.long (own_plus (own_draw p2 (1 : Int32)) (own_draw p1 (0 : Int32))))])
      refine own_by (fun _ k => XS.lcmp X8.here hx rfl (hb hby at_107) rfl k) ?_
      show own_Go p e below _ T8 (mkF m 108 #[.val (.long p1), .second, .val (.long p2), .second, .val (.int p3), .val (.int (0 : Int32)), .val (.int (1 : Int32)), .val (.long (own_draw p1 (0 : Int32))), .second, .val (.long (own_draw p2 (1 : Int32))), .second, .val (.long (2305843009213693952 : Int64)), .second, .val (.long (own_plus (own_draw p1 (0 : Int32)) (own_draw p2 (1 : Int32)))), .second, .val (.long (own_plus (own_draw p2 (1 : Int32)) (own_draw p1 (0 : Int32)))), .second] [(.int (lcmpW (own_plus (own_draw p2 (1 : Int32)) (own_draw p1 (0 : Int32))) (2305843009213693952 : Int64)))])
      refine own_by (fun _ k => XS.ifNo X8.here hx rfl (hb hby at_108) rfl ((if0 _ _).trans (teq ((lw_eq _ _).mpr (own_l2_01 p1 p2) : (lcmpW (own_plus (own_draw p2 (1 : Int32)) (own_draw p1 (0 : Int32))) (2305843009213693952 : Int64)) = (0 : Int32))).2) k) ?_
      show own_Go p e below _ T8 (mkF m 111 #[.val (.long p1), .second, .val (.long p2), .second, .val (.int p3), .val (.int (0 : Int32)), .val (.int (1 : Int32)), .val (.long (own_draw p1 (0 : Int32))), .second, .val (.long (own_draw p2 (1 : Int32))), .second, .val (.long (2305843009213693952 : Int64)), .second, .val (.long (own_plus (own_draw p1 (0 : Int32)) (own_draw p2 (1 : Int32)))), .second, .val (.long (own_plus (own_draw p2 (1 : Int32)) (own_draw p1 (0 : Int32)))), .second] [])
      refine own_by (fun _ k => XS.iconst X8.here hx rfl (hb hby at_111) k) ?_
      show own_Go p e below _ T8 (mkF m 112 #[.val (.long p1), .second, .val (.long p2), .second, .val (.int p3), .val (.int (0 : Int32)), .val (.int (1 : Int32)), .val (.long (own_draw p1 (0 : Int32))), .second, .val (.long (own_draw p2 (1 : Int32))), .second, .val (.long (2305843009213693952 : Int64)), .second, .val (.long (own_plus (own_draw p1 (0 : Int32)) (own_draw p2 (1 : Int32)))), .second, .val (.long (own_plus (own_draw p2 (1 : Int32)) (own_draw p1 (0 : Int32)))), .second] [(.int (1 : Int32))])
      refine own_by (fun _ k => XS.goto X8.here hx rfl (pc0 := 112) (pc' := 116) rfl (hb hby at_112) (by decide) (by decide) k) ?_
      show own_Go p e below _ T8 (mkF m 116 #[.val (.long p1), .second, .val (.long p2), .second, .val (.int p3), .val (.int (0 : Int32)), .val (.int (1 : Int32)), .val (.long (own_draw p1 (0 : Int32))), .second, .val (.long (own_draw p2 (1 : Int32))), .second, .val (.long (2305843009213693952 : Int64)), .second, .val (.long (own_plus (own_draw p1 (0 : Int32)) (own_draw p2 (1 : Int32)))), .second, .val (.long (own_plus (own_draw p2 (1 : Int32)) (own_draw p1 (0 : Int32)))), .second] [(.int (1 : Int32))])
      exact own_retN X8 hx hlk hret (by simp) rfl (hb hby at_116) (by first | exact ⟨rfl, N8⟩ | (rw [e8]; exact ⟨rfl, N8⟩)) (by decide) (by decide)
  · refine own_by (fun _ k => XS.ifNo X0.here hx rfl (hb hby at_4) rfl ((if0 _ _).trans (feq (hk1 : ¬ ((p3 &&& (1 : Int32)) = (0 : Int32)))).1) k) ?_
    show own_Go p e below _ s₁ (mkF m 7 #[.val (.long p1), .second, .val (.long p2), .second, .val (.int p3), .unset, .unset, .unset, .unset, .unset, .unset, .unset, .unset, .unset, .unset, .unset, .unset] [])
    refine own_by (fun _ k => XS.iconst X0.here hx rfl (hb hby at_7) k) ?_
    show own_Go p e below _ s₁ (mkF m 8 #[.val (.long p1), .second, .val (.long p2), .second, .val (.int p3), .unset, .unset, .unset, .unset, .unset, .unset, .unset, .unset, .unset, .unset, .unset, .unset] [(.int (1 : Int32))])
    refine own_by (fun _ k => XS.goto X0.here hx rfl (pc0 := 8) (pc' := 12) rfl (hb hby at_8) (by decide) (by decide) k) ?_
    show own_Go p e below _ s₁ (mkF m 12 #[.val (.long p1), .second, .val (.long p2), .second, .val (.int p3), .unset, .unset, .unset, .unset, .unset, .unset, .unset, .unset, .unset, .unset, .unset, .unset] [(.int (1 : Int32))])
    refine own_by (fun _ k => XS.istore X0.here hx rfl (hb hby at_12) rfl (l' := #[.val (.long p1), .second, .val (.long p2), .second, .val (.int p3), .val (.int (1 : Int32)), .unset, .unset, .unset, .unset, .unset, .unset, .unset, .unset, .unset, .unset, .unset]) rfl k) ?_
    show own_Go p e below _ s₁ (mkF m 14 #[.val (.long p1), .second, .val (.long p2), .second, .val (.int p3), .val (.int (1 : Int32)), .unset, .unset, .unset, .unset, .unset, .unset, .unset, .unset, .unset, .unset, .unset] [])
    refine own_by (fun _ k => XS.iload X0.here hx rfl (hb hby at_14) rfl k) ?_
    show own_Go p e below _ s₁ (mkF m 16 #[.val (.long p1), .second, .val (.long p2), .second, .val (.int p3), .val (.int (1 : Int32)), .unset, .unset, .unset, .unset, .unset, .unset, .unset, .unset, .unset, .unset, .unset] [(.int p3)])
    refine own_by (fun _ k => XS.iconst X0.here hx rfl (hb hby at_16) k) ?_
    show own_Go p e below _ s₁ (mkF m 17 #[.val (.long p1), .second, .val (.long p2), .second, .val (.int p3), .val (.int (1 : Int32)), .unset, .unset, .unset, .unset, .unset, .unset, .unset, .unset, .unset, .unset, .unset] [(.int (2 : Int32)), (.int p3)])
    refine own_by (fun _ k => XS.iand X0.here hx rfl (hb hby at_17) rfl k) ?_
    show own_Go p e below _ s₁ (mkF m 18 #[.val (.long p1), .second, .val (.long p2), .second, .val (.int p3), .val (.int (1 : Int32)), .unset, .unset, .unset, .unset, .unset, .unset, .unset, .unset, .unset, .unset, .unset] [(.int (p3 &&& (2 : Int32)))])
    by_cases hk2_1 : (p3 &&& (2 : Int32)) = (0 : Int32)
    · refine own_by (fun _ k => XS.ifYes X0.here hx rfl (pc0 := 18) (pc' := 25) rfl (hb hby at_18) rfl ((if0 _ _).trans (teq (hk2_1 : (p3 &&& (2 : Int32)) = (0 : Int32))).1) (by decide) (by decide) k) ?_
      show own_Go p e below _ s₁ (mkF m 25 #[.val (.long p1), .second, .val (.long p2), .second, .val (.int p3), .val (.int (1 : Int32)), .unset, .unset, .unset, .unset, .unset, .unset, .unset, .unset, .unset, .unset, .unset] [])
      refine own_by (fun _ k => XS.iconst X0.here hx rfl (hb hby at_25) k) ?_
      show own_Go p e below _ s₁ (mkF m 26 #[.val (.long p1), .second, .val (.long p2), .second, .val (.int p3), .val (.int (1 : Int32)), .unset, .unset, .unset, .unset, .unset, .unset, .unset, .unset, .unset, .unset, .unset] [(.int (0 : Int32))])
      refine own_by (fun _ k => XS.istore X0.here hx rfl (hb hby at_26) rfl (l' := #[.val (.long p1), .second, .val (.long p2), .second, .val (.int p3), .val (.int (1 : Int32)), .val (.int (0 : Int32)), .unset, .unset, .unset, .unset, .unset, .unset, .unset, .unset, .unset, .unset]) rfl k) ?_
      show own_Go p e below _ s₁ (mkF m 28 #[.val (.long p1), .second, .val (.long p2), .second, .val (.int p3), .val (.int (1 : Int32)), .val (.int (0 : Int32)), .unset, .unset, .unset, .unset, .unset, .unset, .unset, .unset, .unset, .unset] [])
      refine own_by (fun _ k => XS.lloadN X0.here hx rfl (hb hby at_28) rfl k) ?_
      show own_Go p e below _ s₁ (mkF m 29 #[.val (.long p1), .second, .val (.long p2), .second, .val (.int p3), .val (.int (1 : Int32)), .val (.int (0 : Int32)), .unset, .unset, .unset, .unset, .unset, .unset, .unset, .unset, .unset, .unset] [(.long p1)])
      refine own_by (fun _ k => XS.iload X0.here hx rfl (hb hby at_29) rfl k) ?_
      show own_Go p e below _ s₁ (mkF m 31 #[.val (.long p1), .second, .val (.long p2), .second, .val (.int p3), .val (.int (1 : Int32)), .val (.int (0 : Int32)), .unset, .unset, .unset, .unset, .unset, .unset, .unset, .unset, .unset, .unset] [(.int (1 : Int32)), (.long p1)])
      obtain ⟨_, T9, L9, X9, ⟨rfl, N9q, e9⟩, st9⟩ := own_callS X0 hx hZ hown (y := (⟨"com/example/regretta/regretta/BucketEliminationPlusPinLaw", "draw", "(JZ)J"⟩ : MethodName)) (hw _ (List.mem_of_getElem? (i := 0) rfl)) (hw _ (List.mem_of_getElem? (i := 1) rfl)) (hw _ (List.mem_of_getElem? (i := 2) rfl)) (hw _ (List.mem_of_getElem? (i := 3) rfl)) (by decide) (argsL := [(.long p1), (.int (1 : Int32))]) (rest := []) e0 (rm1 l Z a0 hw [] p1 (1 : Int32) h0 n0 Z0) (g := (mkF m 31 #[.val (.long p1), .second, .val (.long p2), .second, .val (.int p3), .val (.int (1 : Int32)), .val (.int (0 : Int32)), .unset, .unset, .unset, .unset, .unset, .unset, .unset, .unset, .unset, .unset] [(.int (1 : Int32)), (.long p1)])) rfl (by rw [hml]; rfl) (lenOf pd_0 rfl) rfl (W := 0) (by show 2 * 0 + _ ≤ _; exact Nat.le_of_eq rfl) (hb hby at_31) (by decide) (by decide) (by decide) (by decide)
      have N9 := Fr.app N0 N9q
      refine own_by st9 ?_
      show own_Go p e below _ T9 (mkF m 34 #[.val (.long p1), .second, .val (.long p2), .second, .val (.int p3), .val (.int (1 : Int32)), .val (.int (0 : Int32)), .unset, .unset, .unset, .unset, .unset, .unset, .unset, .unset, .unset, .unset] [(.long (own_draw p1 (1 : Int32)))])
      refine own_by (fun _ k => XS.lstore X9.here hx rfl (hb hby at_34) rfl (l' := #[.val (.long p1), .second, .val (.long p2), .second, .val (.int p3), .val (.int (1 : Int32)), .val (.int (0 : Int32)), .val (.long (own_draw p1 (1 : Int32))), .second, .unset, .unset, .unset, .unset, .unset, .unset, .unset, .unset]) rfl k) ?_
      show own_Go p e below _ T9 (mkF m 36 #[.val (.long p1), .second, .val (.long p2), .second, .val (.int p3), .val (.int (1 : Int32)), .val (.int (0 : Int32)), .val (.long (own_draw p1 (1 : Int32))), .second, .unset, .unset, .unset, .unset, .unset, .unset, .unset, .unset] [])
      refine own_by (fun _ k => XS.lloadN X9.here hx rfl (hb hby at_36) rfl k) ?_
      show own_Go p e below _ T9 (mkF m 37 #[.val (.long p1), .second, .val (.long p2), .second, .val (.int p3), .val (.int (1 : Int32)), .val (.int (0 : Int32)), .val (.long (own_draw p1 (1 : Int32))), .second, .unset, .unset, .unset, .unset, .unset, .unset, .unset, .unset] [(.long p2)])
      refine own_by (fun _ k => XS.iload X9.here hx rfl (hb hby at_37) rfl k) ?_
      show own_Go p e below _ T9 (mkF m 39 #[.val (.long p1), .second, .val (.long p2), .second, .val (.int p3), .val (.int (1 : Int32)), .val (.int (0 : Int32)), .val (.long (own_draw p1 (1 : Int32))), .second, .unset, .unset, .unset, .unset, .unset, .unset, .unset, .unset] [(.int (0 : Int32)), (.long p2)])
      obtain ⟨_, T10, L10, X10, ⟨rfl, N10q, e10⟩, st10⟩ := own_callS X9 hx hZ hown (y := (⟨"com/example/regretta/regretta/BucketEliminationPlusPinLaw", "draw", "(JZ)J"⟩ : MethodName)) (hw _ (List.mem_of_getElem? (i := 0) rfl)) (hw _ (List.mem_of_getElem? (i := 1) rfl)) (hw _ (List.mem_of_getElem? (i := 2) rfl)) (hw _ (List.mem_of_getElem? (i := 3) rfl)) (by decide) (argsL := [(.long p2), (.int (0 : Int32))]) (rest := []) e9 (rm1 l Z a0 hw [] p2 (0 : Int32) h0 n0 Z0) (g := (mkF m 39 #[.val (.long p1), .second, .val (.long p2), .second, .val (.int p3), .val (.int (1 : Int32)), .val (.int (0 : Int32)), .val (.long (own_draw p1 (1 : Int32))), .second, .unset, .unset, .unset, .unset, .unset, .unset, .unset, .unset] [(.int (0 : Int32)), (.long p2)])) rfl (by rw [hml]; rfl) (lenOf pd_0 rfl) rfl (W := 0) (by show 2 * 0 + _ ≤ _; exact Nat.le_of_eq rfl) (hb hby at_39) (by decide) (by decide) (by decide) (by decide)
      have N10 := Fr.app N9 N10q
      refine own_by st10 ?_
      show own_Go p e below _ T10 (mkF m 42 #[.val (.long p1), .second, .val (.long p2), .second, .val (.int p3), .val (.int (1 : Int32)), .val (.int (0 : Int32)), .val (.long (own_draw p1 (1 : Int32))), .second, .unset, .unset, .unset, .unset, .unset, .unset, .unset, .unset] [(.long (own_draw p2 (0 : Int32)))])
      refine own_by (fun _ k => XS.lstore X10.here hx rfl (hb hby at_42) rfl (l' := #[.val (.long p1), .second, .val (.long p2), .second, .val (.int p3), .val (.int (1 : Int32)), .val (.int (0 : Int32)), .val (.long (own_draw p1 (1 : Int32))), .second, .val (.long (own_draw p2 (0 : Int32))), .second, .unset, .unset, .unset, .unset, .unset, .unset]) rfl k) ?_
      show own_Go p e below _ T10 (mkF m 44 #[.val (.long p1), .second, .val (.long p2), .second, .val (.int p3), .val (.int (1 : Int32)), .val (.int (0 : Int32)), .val (.long (own_draw p1 (1 : Int32))), .second, .val (.long (own_draw p2 (0 : Int32))), .second, .unset, .unset, .unset, .unset, .unset, .unset] [])
      refine own_by (fun _ k => XS.iload X10.here hx rfl (hb hby at_44) rfl k) ?_
      show own_Go p e below _ T10 (mkF m 46 #[.val (.long p1), .second, .val (.long p2), .second, .val (.int p3), .val (.int (1 : Int32)), .val (.int (0 : Int32)), .val (.long (own_draw p1 (1 : Int32))), .second, .val (.long (own_draw p2 (0 : Int32))), .second, .unset, .unset, .unset, .unset, .unset, .unset] [(.int (1 : Int32))])
      refine own_by (fun _ k => XS.ifNo X10.here hx rfl (hb hby at_46) rfl ((if0 _ _).trans (feq (by decide : ¬ ((1 : Int32) = (0 : Int32)))).1) k) ?_
      show own_Go p e below _ T10 (mkF m 49 #[.val (.long p1), .second, .val (.long p2), .second, .val (.int p3), .val (.int (1 : Int32)), .val (.int (0 : Int32)), .val (.long (own_draw p1 (1 : Int32))), .second, .val (.long (own_draw p2 (0 : Int32))), .second, .unset, .unset, .unset, .unset, .unset, .unset] [])
      refine own_by (fun _ k => Stand.ldc2J X10 hx hown (mvT hZ (hw _ (List.mem_of_getElem? (i := 11) rfl))) rfl (hb hby at_49) k) ?_
      show own_Go p e below _ T10 (mkF m 52 #[.val (.long p1), .second, .val (.long p2), .second, .val (.int p3), .val (.int (1 : Int32)), .val (.int (0 : Int32)), .val (.long (own_draw p1 (1 : Int32))), .second, .val (.long (own_draw p2 (0 : Int32))), .second, .unset, .unset, .unset, .unset, .unset, .unset] [(.long (2305843009213693952 : Int64))])
      refine own_by (fun _ k => XS.lstore X10.here hx rfl (hb hby at_52) rfl (l' := #[.val (.long p1), .second, .val (.long p2), .second, .val (.int p3), .val (.int (1 : Int32)), .val (.int (0 : Int32)), .val (.long (own_draw p1 (1 : Int32))), .second, .val (.long (own_draw p2 (0 : Int32))), .second, .val (.long (2305843009213693952 : Int64)), .second, .unset, .unset, .unset, .unset]) rfl k) ?_
      show own_Go p e below _ T10 (mkF m 54 #[.val (.long p1), .second, .val (.long p2), .second, .val (.int p3), .val (.int (1 : Int32)), .val (.int (0 : Int32)), .val (.long (own_draw p1 (1 : Int32))), .second, .val (.long (own_draw p2 (0 : Int32))), .second, .val (.long (2305843009213693952 : Int64)), .second, .unset, .unset, .unset, .unset] [])
      refine own_by (fun _ k => XS.goto X10.here hx rfl (pc0 := 54) (pc' := 77) rfl (hb hby at_54) (by decide) (by decide) k) ?_
      show own_Go p e below _ T10 (mkF m 77 #[.val (.long p1), .second, .val (.long p2), .second, .val (.int p3), .val (.int (1 : Int32)), .val (.int (0 : Int32)), .val (.long (own_draw p1 (1 : Int32))), .second, .val (.long (own_draw p2 (0 : Int32))), .second, .val (.long (2305843009213693952 : Int64)), .second, .unset, .unset, .unset, .unset] [])
      refine own_by (fun _ k => XS.lload X10.here hx rfl (hb hby at_77) rfl k) ?_
      show own_Go p e below _ T10 (mkF m 79 #[.val (.long p1), .second, .val (.long p2), .second, .val (.int p3), .val (.int (1 : Int32)), .val (.int (0 : Int32)), .val (.long (own_draw p1 (1 : Int32))), .second, .val (.long (own_draw p2 (0 : Int32))), .second, .val (.long (2305843009213693952 : Int64)), .second, .unset, .unset, .unset, .unset] [(.long (own_draw p1 (1 : Int32)))])
      refine own_by (fun _ k => XS.lload X10.here hx rfl (hb hby at_79) rfl k) ?_
      show own_Go p e below _ T10 (mkF m 81 #[.val (.long p1), .second, .val (.long p2), .second, .val (.int p3), .val (.int (1 : Int32)), .val (.int (0 : Int32)), .val (.long (own_draw p1 (1 : Int32))), .second, .val (.long (own_draw p2 (0 : Int32))), .second, .val (.long (2305843009213693952 : Int64)), .second, .unset, .unset, .unset, .unset] [(.long (own_draw p2 (0 : Int32))), (.long (own_draw p1 (1 : Int32)))])
      obtain ⟨_, T11, L11, X11, ⟨rfl, N11q, e11⟩, st11⟩ := own_callS X10 hx hZ hown (y := (⟨"com/example/regretta/regretta/BucketElimination", "plus", "(JJ)J"⟩ : MethodName)) (hw _ (List.mem_of_getElem? (i := 5) rfl)) (hw _ (List.mem_of_getElem? (i := 6) rfl)) (hw _ (List.mem_of_getElem? (i := 7) rfl)) (hw _ (List.mem_of_getElem? (i := 8) rfl)) (by decide) (argsL := [(.long (own_draw p1 (1 : Int32))), (.long (own_draw p2 (0 : Int32)))]) (rest := []) e10 (rm2 l Z a0 hw [] (own_draw p1 (1 : Int32)) (own_draw p2 (0 : Int32)) h0 n0 Z0) (g := (mkF m 81 #[.val (.long p1), .second, .val (.long p2), .second, .val (.int p3), .val (.int (1 : Int32)), .val (.int (0 : Int32)), .val (.long (own_draw p1 (1 : Int32))), .second, .val (.long (own_draw p2 (0 : Int32))), .second, .val (.long (2305843009213693952 : Int64)), .second, .unset, .unset, .unset, .unset] [(.long (own_draw p2 (0 : Int32))), (.long (own_draw p1 (1 : Int32)))])) rfl (by rw [hml]; rfl) (lenOf pd_1 rfl) rfl (W := 0) (by show 2 * 0 + _ ≤ _; exact Nat.le_of_eq rfl) (hb hby at_81) (by decide) (by decide) (by decide) (by decide)
      have N11 := Fr.app N10 N11q
      refine own_by st11 ?_
      show own_Go p e below _ T11 (mkF m 84 #[.val (.long p1), .second, .val (.long p2), .second, .val (.int p3), .val (.int (1 : Int32)), .val (.int (0 : Int32)), .val (.long (own_draw p1 (1 : Int32))), .second, .val (.long (own_draw p2 (0 : Int32))), .second, .val (.long (2305843009213693952 : Int64)), .second, .unset, .unset, .unset, .unset] [(.long (own_plus (own_draw p1 (1 : Int32)) (own_draw p2 (0 : Int32))))])
      refine own_by (fun _ k => XS.lstore X11.here hx rfl (hb hby at_84) rfl (l' := #[.val (.long p1), .second, .val (.long p2), .second, .val (.int p3), .val (.int (1 : Int32)), .val (.int (0 : Int32)), .val (.long (own_draw p1 (1 : Int32))), .second, .val (.long (own_draw p2 (0 : Int32))), .second, .val (.long (2305843009213693952 : Int64)), .second, .val (.long (own_plus (own_draw p1 (1 : Int32)) (own_draw p2 (0 : Int32)))), .second, .unset, .unset]) rfl k) ?_
      show own_Go p e below _ T11 (mkF m 86 #[.val (.long p1), .second, .val (.long p2), .second, .val (.int p3), .val (.int (1 : Int32)), .val (.int (0 : Int32)), .val (.long (own_draw p1 (1 : Int32))), .second, .val (.long (own_draw p2 (0 : Int32))), .second, .val (.long (2305843009213693952 : Int64)), .second, .val (.long (own_plus (own_draw p1 (1 : Int32)) (own_draw p2 (0 : Int32)))), .second, .unset, .unset] [])
      refine own_by (fun _ k => XS.lload X11.here hx rfl (hb hby at_86) rfl k) ?_
      show own_Go p e below _ T11 (mkF m 88 #[.val (.long p1), .second, .val (.long p2), .second, .val (.int p3), .val (.int (1 : Int32)), .val (.int (0 : Int32)), .val (.long (own_draw p1 (1 : Int32))), .second, .val (.long (own_draw p2 (0 : Int32))), .second, .val (.long (2305843009213693952 : Int64)), .second, .val (.long (own_plus (own_draw p1 (1 : Int32)) (own_draw p2 (0 : Int32)))), .second, .unset, .unset] [(.long (own_draw p2 (0 : Int32)))])
      refine own_by (fun _ k => XS.lload X11.here hx rfl (hb hby at_88) rfl k) ?_
      show own_Go p e below _ T11 (mkF m 90 #[.val (.long p1), .second, .val (.long p2), .second, .val (.int p3), .val (.int (1 : Int32)), .val (.int (0 : Int32)), .val (.long (own_draw p1 (1 : Int32))), .second, .val (.long (own_draw p2 (0 : Int32))), .second, .val (.long (2305843009213693952 : Int64)), .second, .val (.long (own_plus (own_draw p1 (1 : Int32)) (own_draw p2 (0 : Int32)))), .second, .unset, .unset] [(.long (own_draw p1 (1 : Int32))), (.long (own_draw p2 (0 : Int32)))])
      obtain ⟨_, T12, L12, X12, ⟨rfl, N12q, e12⟩, st12⟩ := own_callS X11 hx hZ hown (y := (⟨"com/example/regretta/regretta/BucketElimination", "plus", "(JJ)J"⟩ : MethodName)) (hw _ (List.mem_of_getElem? (i := 5) rfl)) (hw _ (List.mem_of_getElem? (i := 6) rfl)) (hw _ (List.mem_of_getElem? (i := 7) rfl)) (hw _ (List.mem_of_getElem? (i := 8) rfl)) (by decide) (argsL := [(.long (own_draw p2 (0 : Int32))), (.long (own_draw p1 (1 : Int32)))]) (rest := []) e11 (rm2 l Z a0 hw [] (own_draw p2 (0 : Int32)) (own_draw p1 (1 : Int32)) h0 n0 Z0) (g := (mkF m 90 #[.val (.long p1), .second, .val (.long p2), .second, .val (.int p3), .val (.int (1 : Int32)), .val (.int (0 : Int32)), .val (.long (own_draw p1 (1 : Int32))), .second, .val (.long (own_draw p2 (0 : Int32))), .second, .val (.long (2305843009213693952 : Int64)), .second, .val (.long (own_plus (own_draw p1 (1 : Int32)) (own_draw p2 (0 : Int32)))), .second, .unset, .unset] [(.long (own_draw p1 (1 : Int32))), (.long (own_draw p2 (0 : Int32)))])) rfl (by rw [hml]; rfl) (lenOf pd_1 rfl) rfl (W := 0) (by show 2 * 0 + _ ≤ _; exact Nat.le_of_eq rfl) (hb hby at_90) (by decide) (by decide) (by decide) (by decide)
      have N12 := Fr.app N11 N12q
      refine own_by st12 ?_
      show own_Go p e below _ T12 (mkF m 93 #[.val (.long p1), .second, .val (.long p2), .second, .val (.int p3), .val (.int (1 : Int32)), .val (.int (0 : Int32)), .val (.long (own_draw p1 (1 : Int32))), .second, .val (.long (own_draw p2 (0 : Int32))), .second, .val (.long (2305843009213693952 : Int64)), .second, .val (.long (own_plus (own_draw p1 (1 : Int32)) (own_draw p2 (0 : Int32)))), .second, .unset, .unset] [(.long (own_plus (own_draw p2 (0 : Int32)) (own_draw p1 (1 : Int32))))])
      refine own_by (fun _ k => XS.lstore X12.here hx rfl (hb hby at_93) rfl (l' := #[.val (.long p1), .second, .val (.long p2), .second, .val (.int p3), .val (.int (1 : Int32)), .val (.int (0 : Int32)), .val (.long (own_draw p1 (1 : Int32))), .second, .val (.long (own_draw p2 (0 : Int32))), .second, .val (.long (2305843009213693952 : Int64)), .second, .val (.long (own_plus (own_draw p1 (1 : Int32)) (own_draw p2 (0 : Int32)))), .second, .val (.long (own_plus (own_draw p2 (0 : Int32)) (own_draw p1 (1 : Int32)))), .second]) rfl k) ?_
      show own_Go p e below _ T12 (mkF m 95 #[.val (.long p1), .second, .val (.long p2), .second, .val (.int p3), .val (.int (1 : Int32)), .val (.int (0 : Int32)), .val (.long (own_draw p1 (1 : Int32))), .second, .val (.long (own_draw p2 (0 : Int32))), .second, .val (.long (2305843009213693952 : Int64)), .second, .val (.long (own_plus (own_draw p1 (1 : Int32)) (own_draw p2 (0 : Int32)))), .second, .val (.long (own_plus (own_draw p2 (0 : Int32)) (own_draw p1 (1 : Int32)))), .second] [])
      refine own_by (fun _ k => XS.lload X12.here hx rfl (hb hby at_95) rfl k) ?_
      show own_Go p e below _ T12 (mkF m 97 #[.val (.long p1), .second, .val (.long p2), .second, .val (.int p3), .val (.int (1 : Int32)), .val (.int (0 : Int32)), .val (.long (own_draw p1 (1 : Int32))), .second, .val (.long (own_draw p2 (0 : Int32))), .second, .val (.long (2305843009213693952 : Int64)), .second, .val (.long (own_plus (own_draw p1 (1 : Int32)) (own_draw p2 (0 : Int32)))), .second, .val (.long (own_plus (own_draw p2 (0 : Int32)) (own_draw p1 (1 : Int32)))), .second] [(.long (own_plus (own_draw p1 (1 : Int32)) (own_draw p2 (0 : Int32))))])
      refine own_by (fun _ k => XS.lload X12.here hx rfl (hb hby at_97) rfl k) ?_
      show own_Go p e below _ T12 (mkF m 99 #[.val (.long p1), .second, .val (.long p2), .second, .val (.int p3), .val (.int (1 : Int32)), .val (.int (0 : Int32)), .val (.long (own_draw p1 (1 : Int32))), .second, .val (.long (own_draw p2 (0 : Int32))), .second, .val (.long (2305843009213693952 : Int64)), .second, .val (.long (own_plus (own_draw p1 (1 : Int32)) (own_draw p2 (0 : Int32)))), .second, .val (.long (own_plus (own_draw p2 (0 : Int32)) (own_draw p1 (1 : Int32)))), .second] [(.long (2305843009213693952 : Int64)), (.long (own_plus (own_draw p1 (1 : Int32)) (own_draw p2 (0 : Int32))))])
      refine own_by (fun _ k => XS.lcmp X12.here hx rfl (hb hby at_99) rfl k) ?_
      show own_Go p e below _ T12 (mkF m 100 #[.val (.long p1), .second, .val (.long p2), .second, .val (.int p3), .val (.int (1 : Int32)), .val (.int (0 : Int32)), .val (.long (own_draw p1 (1 : Int32))), .second, .val (.long (own_draw p2 (0 : Int32))), .second, .val (.long (2305843009213693952 : Int64)), .second, .val (.long (own_plus (own_draw p1 (1 : Int32)) (own_draw p2 (0 : Int32)))), .second, .val (.long (own_plus (own_draw p2 (0 : Int32)) (own_draw p1 (1 : Int32)))), .second] [(.int (lcmpW (own_plus (own_draw p1 (1 : Int32)) (own_draw p2 (0 : Int32))) (2305843009213693952 : Int64)))])
      refine own_by (fun _ k => XS.ifNo X12.here hx rfl (hb hby at_100) rfl ((if0 _ _).trans (teq ((lw_eq _ _).mpr (own_l1_10 p1 p2) : (lcmpW (own_plus (own_draw p1 (1 : Int32)) (own_draw p2 (0 : Int32))) (2305843009213693952 : Int64)) = (0 : Int32))).2) k) ?_
      show own_Go p e below _ T12 (mkF m 103 #[.val (.long p1), .second, .val (.long p2), .second, .val (.int p3), .val (.int (1 : Int32)), .val (.int (0 : Int32)), .val (.long (own_draw p1 (1 : Int32))), .second, .val (.long (own_draw p2 (0 : Int32))), .second, .val (.long (2305843009213693952 : Int64)), .second, .val (.long (own_plus (own_draw p1 (1 : Int32)) (own_draw p2 (0 : Int32)))), .second, .val (.long (own_plus (own_draw p2 (0 : Int32)) (own_draw p1 (1 : Int32)))), .second] [])
      refine own_by (fun _ k => XS.lload X12.here hx rfl (hb hby at_103) rfl k) ?_
      show own_Go p e below _ T12 (mkF m 105 #[.val (.long p1), .second, .val (.long p2), .second, .val (.int p3), .val (.int (1 : Int32)), .val (.int (0 : Int32)), .val (.long (own_draw p1 (1 : Int32))), .second, .val (.long (own_draw p2 (0 : Int32))), .second, .val (.long (2305843009213693952 : Int64)), .second, .val (.long (own_plus (own_draw p1 (1 : Int32)) (own_draw p2 (0 : Int32)))), .second, .val (.long (own_plus (own_draw p2 (0 : Int32)) (own_draw p1 (1 : Int32)))), .second] [(.long (own_plus (own_draw p2 (0 : Int32)) (own_draw p1 (1 : Int32))))])
      refine own_by (fun _ k => XS.lload X12.here hx rfl (hb hby at_105) rfl k) ?_
      show own_Go p e below _ T12 (mkF m 107 #[.val (.long p1), .second, .val (.long p2), .second, .val (.int p3), .val (.int (1 : Int32)), .val (.int (0 : Int32)), .val (.long (own_draw p1 (1 : Int32))), .second, .val (.long (own_draw p2 (0 : Int32))), .second, .val (.long (2305843009213693952 : Int64)), .second, .val (.long (own_plus (own_draw p1 (1 : Int32)) (own_draw p2 (0 : Int32)))), .second, .val (.long (own_plus (own_draw p2 (0 : Int32)) (own_draw p1 (1 : Int32)))), .second] [(.long (2305843009213693952 : Int64)), (.long (own_plus (own_draw p2 (0 : Int32)) (own_draw p1 (1 : Int32))))])
      refine own_by (fun _ k => XS.lcmp X12.here hx rfl (hb hby at_107) rfl k) ?_
      show own_Go p e below _ T12 (mkF m 108 #[.val (.long p1), .second, .val (.long p2), .second, .val (.int p3), .val (.int (1 : Int32)), .val (.int (0 : Int32)), .val (.long (own_draw p1 (1 : Int32))), .second, .val (.long (own_draw p2 (0 : Int32))), .second, .val (.long (2305843009213693952 : Int64)), .second, .val (.long (own_plus (own_draw p1 (1 : Int32)) (own_draw p2 (0 : Int32)))), .second, .val (.long (own_plus (own_draw p2 (0 : Int32)) (own_draw p1 (1 : Int32)))), .second] [(.int (lcmpW (own_plus (own_draw p2 (0 : Int32)) (own_draw p1 (1 : Int32))) (2305843009213693952 : Int64)))])
      refine own_by (fun _ k => XS.ifNo X12.here hx rfl (hb hby at_108) rfl ((if0 _ _).trans (teq ((lw_eq _ _).mpr (own_l2_10 p1 p2) : (lcmpW (own_plus (own_draw p2 (0 : Int32)) (own_draw p1 (1 : Int32))) (2305843009213693952 : Int64)) = (0 : Int32))).2) k) ?_
      show own_Go p e below _ T12 (mkF m 111 #[.val (.long p1), .second, .val (.long p2), .second, .val (.int p3), .val (.int (1 : Int32)), .val (.int (0 : Int32)), .val (.long (own_draw p1 (1 : Int32))), .second, .val (.long (own_draw p2 (0 : Int32))), .second, .val (.long (2305843009213693952 : Int64)), .second, .val (.long (own_plus (own_draw p1 (1 : Int32)) (own_draw p2 (0 : Int32)))), .second, .val (.long (own_plus (own_draw p2 (0 : Int32)) (own_draw p1 (1 : Int32)))), .second] [])
      refine own_by (fun _ k => XS.iconst X12.here hx rfl (hb hby at_111) k) ?_
      show own_Go p e below _ T12 (mkF m 112 #[.val (.long p1), .second, .val (.long p2), .second, .val (.int p3), .val (.int (1 : Int32)), .val (.int (0 : Int32)), .val (.long (own_draw p1 (1 : Int32))), .second, .val (.long (own_draw p2 (0 : Int32))), .second, .val (.long (2305843009213693952 : Int64)), .second, .val (.long (own_plus (own_draw p1 (1 : Int32)) (own_draw p2 (0 : Int32)))), .second, .val (.long (own_plus (own_draw p2 (0 : Int32)) (own_draw p1 (1 : Int32)))), .second] [(.int (1 : Int32))])
      refine own_by (fun _ k => XS.goto X12.here hx rfl (pc0 := 112) (pc' := 116) rfl (hb hby at_112) (by decide) (by decide) k) ?_
      show own_Go p e below _ T12 (mkF m 116 #[.val (.long p1), .second, .val (.long p2), .second, .val (.int p3), .val (.int (1 : Int32)), .val (.int (0 : Int32)), .val (.long (own_draw p1 (1 : Int32))), .second, .val (.long (own_draw p2 (0 : Int32))), .second, .val (.long (2305843009213693952 : Int64)), .second, .val (.long (own_plus (own_draw p1 (1 : Int32)) (own_draw p2 (0 : Int32)))), .second, .val (.long (own_plus (own_draw p2 (0 : Int32)) (own_draw p1 (1 : Int32)))), .second] [(.int (1 : Int32))])
      exact own_retN X12 hx hlk hret (by simp) rfl (hb hby at_116) (by first | exact ⟨rfl, N12⟩ | (rw [e12]; exact ⟨rfl, N12⟩)) (by decide) (by decide)
    · refine own_by (fun _ k => XS.ifNo X0.here hx rfl (hb hby at_18) rfl ((if0 _ _).trans (feq (hk2_1 : ¬ ((p3 &&& (2 : Int32)) = (0 : Int32)))).1) k) ?_
      show own_Go p e below _ s₁ (mkF m 21 #[.val (.long p1), .second, .val (.long p2), .second, .val (.int p3), .val (.int (1 : Int32)), .unset, .unset, .unset, .unset, .unset, .unset, .unset, .unset, .unset, .unset, .unset] [])
      refine own_by (fun _ k => XS.iconst X0.here hx rfl (hb hby at_21) k) ?_
      show own_Go p e below _ s₁ (mkF m 22 #[.val (.long p1), .second, .val (.long p2), .second, .val (.int p3), .val (.int (1 : Int32)), .unset, .unset, .unset, .unset, .unset, .unset, .unset, .unset, .unset, .unset, .unset] [(.int (1 : Int32))])
      refine own_by (fun _ k => XS.goto X0.here hx rfl (pc0 := 22) (pc' := 26) rfl (hb hby at_22) (by decide) (by decide) k) ?_
      show own_Go p e below _ s₁ (mkF m 26 #[.val (.long p1), .second, .val (.long p2), .second, .val (.int p3), .val (.int (1 : Int32)), .unset, .unset, .unset, .unset, .unset, .unset, .unset, .unset, .unset, .unset, .unset] [(.int (1 : Int32))])
      refine own_by (fun _ k => XS.istore X0.here hx rfl (hb hby at_26) rfl (l' := #[.val (.long p1), .second, .val (.long p2), .second, .val (.int p3), .val (.int (1 : Int32)), .val (.int (1 : Int32)), .unset, .unset, .unset, .unset, .unset, .unset, .unset, .unset, .unset, .unset]) rfl k) ?_
      show own_Go p e below _ s₁ (mkF m 28 #[.val (.long p1), .second, .val (.long p2), .second, .val (.int p3), .val (.int (1 : Int32)), .val (.int (1 : Int32)), .unset, .unset, .unset, .unset, .unset, .unset, .unset, .unset, .unset, .unset] [])
      refine own_by (fun _ k => XS.lloadN X0.here hx rfl (hb hby at_28) rfl k) ?_
      show own_Go p e below _ s₁ (mkF m 29 #[.val (.long p1), .second, .val (.long p2), .second, .val (.int p3), .val (.int (1 : Int32)), .val (.int (1 : Int32)), .unset, .unset, .unset, .unset, .unset, .unset, .unset, .unset, .unset, .unset] [(.long p1)])
      refine own_by (fun _ k => XS.iload X0.here hx rfl (hb hby at_29) rfl k) ?_
      show own_Go p e below _ s₁ (mkF m 31 #[.val (.long p1), .second, .val (.long p2), .second, .val (.int p3), .val (.int (1 : Int32)), .val (.int (1 : Int32)), .unset, .unset, .unset, .unset, .unset, .unset, .unset, .unset, .unset, .unset] [(.int (1 : Int32)), (.long p1)])
      obtain ⟨_, T13, L13, X13, ⟨rfl, N13q, e13⟩, st13⟩ := own_callS X0 hx hZ hown (y := (⟨"com/example/regretta/regretta/BucketEliminationPlusPinLaw", "draw", "(JZ)J"⟩ : MethodName)) (hw _ (List.mem_of_getElem? (i := 0) rfl)) (hw _ (List.mem_of_getElem? (i := 1) rfl)) (hw _ (List.mem_of_getElem? (i := 2) rfl)) (hw _ (List.mem_of_getElem? (i := 3) rfl)) (by decide) (argsL := [(.long p1), (.int (1 : Int32))]) (rest := []) e0 (rm1 l Z a0 hw [] p1 (1 : Int32) h0 n0 Z0) (g := (mkF m 31 #[.val (.long p1), .second, .val (.long p2), .second, .val (.int p3), .val (.int (1 : Int32)), .val (.int (1 : Int32)), .unset, .unset, .unset, .unset, .unset, .unset, .unset, .unset, .unset, .unset] [(.int (1 : Int32)), (.long p1)])) rfl (by rw [hml]; rfl) (lenOf pd_0 rfl) rfl (W := 0) (by show 2 * 0 + _ ≤ _; exact Nat.le_of_eq rfl) (hb hby at_31) (by decide) (by decide) (by decide) (by decide)
      have N13 := Fr.app N0 N13q
      refine own_by st13 ?_
      show own_Go p e below _ T13 (mkF m 34 #[.val (.long p1), .second, .val (.long p2), .second, .val (.int p3), .val (.int (1 : Int32)), .val (.int (1 : Int32)), .unset, .unset, .unset, .unset, .unset, .unset, .unset, .unset, .unset, .unset] [(.long (own_draw p1 (1 : Int32)))])
      refine own_by (fun _ k => XS.lstore X13.here hx rfl (hb hby at_34) rfl (l' := #[.val (.long p1), .second, .val (.long p2), .second, .val (.int p3), .val (.int (1 : Int32)), .val (.int (1 : Int32)), .val (.long (own_draw p1 (1 : Int32))), .second, .unset, .unset, .unset, .unset, .unset, .unset, .unset, .unset]) rfl k) ?_
      show own_Go p e below _ T13 (mkF m 36 #[.val (.long p1), .second, .val (.long p2), .second, .val (.int p3), .val (.int (1 : Int32)), .val (.int (1 : Int32)), .val (.long (own_draw p1 (1 : Int32))), .second, .unset, .unset, .unset, .unset, .unset, .unset, .unset, .unset] [])
      refine own_by (fun _ k => XS.lloadN X13.here hx rfl (hb hby at_36) rfl k) ?_
      show own_Go p e below _ T13 (mkF m 37 #[.val (.long p1), .second, .val (.long p2), .second, .val (.int p3), .val (.int (1 : Int32)), .val (.int (1 : Int32)), .val (.long (own_draw p1 (1 : Int32))), .second, .unset, .unset, .unset, .unset, .unset, .unset, .unset, .unset] [(.long p2)])
      refine own_by (fun _ k => XS.iload X13.here hx rfl (hb hby at_37) rfl k) ?_
      show own_Go p e below _ T13 (mkF m 39 #[.val (.long p1), .second, .val (.long p2), .second, .val (.int p3), .val (.int (1 : Int32)), .val (.int (1 : Int32)), .val (.long (own_draw p1 (1 : Int32))), .second, .unset, .unset, .unset, .unset, .unset, .unset, .unset, .unset] [(.int (1 : Int32)), (.long p2)])
      obtain ⟨_, T14, L14, X14, ⟨rfl, N14q, e14⟩, st14⟩ := own_callS X13 hx hZ hown (y := (⟨"com/example/regretta/regretta/BucketEliminationPlusPinLaw", "draw", "(JZ)J"⟩ : MethodName)) (hw _ (List.mem_of_getElem? (i := 0) rfl)) (hw _ (List.mem_of_getElem? (i := 1) rfl)) (hw _ (List.mem_of_getElem? (i := 2) rfl)) (hw _ (List.mem_of_getElem? (i := 3) rfl)) (by decide) (argsL := [(.long p2), (.int (1 : Int32))]) (rest := []) e13 (rm1 l Z a0 hw [] p2 (1 : Int32) h0 n0 Z0) (g := (mkF m 39 #[.val (.long p1), .second, .val (.long p2), .second, .val (.int p3), .val (.int (1 : Int32)), .val (.int (1 : Int32)), .val (.long (own_draw p1 (1 : Int32))), .second, .unset, .unset, .unset, .unset, .unset, .unset, .unset, .unset] [(.int (1 : Int32)), (.long p2)])) rfl (by rw [hml]; rfl) (lenOf pd_0 rfl) rfl (W := 0) (by show 2 * 0 + _ ≤ _; exact Nat.le_of_eq rfl) (hb hby at_39) (by decide) (by decide) (by decide) (by decide)
      have N14 := Fr.app N13 N14q
      refine own_by st14 ?_
      show own_Go p e below _ T14 (mkF m 42 #[.val (.long p1), .second, .val (.long p2), .second, .val (.int p3), .val (.int (1 : Int32)), .val (.int (1 : Int32)), .val (.long (own_draw p1 (1 : Int32))), .second, .unset, .unset, .unset, .unset, .unset, .unset, .unset, .unset] [(.long (own_draw p2 (1 : Int32)))])
      refine own_by (fun _ k => XS.lstore X14.here hx rfl (hb hby at_42) rfl (l' := #[.val (.long p1), .second, .val (.long p2), .second, .val (.int p3), .val (.int (1 : Int32)), .val (.int (1 : Int32)), .val (.long (own_draw p1 (1 : Int32))), .second, .val (.long (own_draw p2 (1 : Int32))), .second, .unset, .unset, .unset, .unset, .unset, .unset]) rfl k) ?_
      show own_Go p e below _ T14 (mkF m 44 #[.val (.long p1), .second, .val (.long p2), .second, .val (.int p3), .val (.int (1 : Int32)), .val (.int (1 : Int32)), .val (.long (own_draw p1 (1 : Int32))), .second, .val (.long (own_draw p2 (1 : Int32))), .second, .unset, .unset, .unset, .unset, .unset, .unset] [])
      refine own_by (fun _ k => XS.iload X14.here hx rfl (hb hby at_44) rfl k) ?_
      show own_Go p e below _ T14 (mkF m 46 #[.val (.long p1), .second, .val (.long p2), .second, .val (.int p3), .val (.int (1 : Int32)), .val (.int (1 : Int32)), .val (.long (own_draw p1 (1 : Int32))), .second, .val (.long (own_draw p2 (1 : Int32))), .second, .unset, .unset, .unset, .unset, .unset, .unset] [(.int (1 : Int32))])
      refine own_by (fun _ k => XS.ifNo X14.here hx rfl (hb hby at_46) rfl ((if0 _ _).trans (feq (by decide : ¬ ((1 : Int32) = (0 : Int32)))).1) k) ?_
      show own_Go p e below _ T14 (mkF m 49 #[.val (.long p1), .second, .val (.long p2), .second, .val (.int p3), .val (.int (1 : Int32)), .val (.int (1 : Int32)), .val (.long (own_draw p1 (1 : Int32))), .second, .val (.long (own_draw p2 (1 : Int32))), .second, .unset, .unset, .unset, .unset, .unset, .unset] [])
      refine own_by (fun _ k => Stand.ldc2J X14 hx hown (mvT hZ (hw _ (List.mem_of_getElem? (i := 11) rfl))) rfl (hb hby at_49) k) ?_
      show own_Go p e below _ T14 (mkF m 52 #[.val (.long p1), .second, .val (.long p2), .second, .val (.int p3), .val (.int (1 : Int32)), .val (.int (1 : Int32)), .val (.long (own_draw p1 (1 : Int32))), .second, .val (.long (own_draw p2 (1 : Int32))), .second, .unset, .unset, .unset, .unset, .unset, .unset] [(.long (2305843009213693952 : Int64))])
      refine own_by (fun _ k => XS.lstore X14.here hx rfl (hb hby at_52) rfl (l' := #[.val (.long p1), .second, .val (.long p2), .second, .val (.int p3), .val (.int (1 : Int32)), .val (.int (1 : Int32)), .val (.long (own_draw p1 (1 : Int32))), .second, .val (.long (own_draw p2 (1 : Int32))), .second, .val (.long (2305843009213693952 : Int64)), .second, .unset, .unset, .unset, .unset]) rfl k) ?_
      show own_Go p e below _ T14 (mkF m 54 #[.val (.long p1), .second, .val (.long p2), .second, .val (.int p3), .val (.int (1 : Int32)), .val (.int (1 : Int32)), .val (.long (own_draw p1 (1 : Int32))), .second, .val (.long (own_draw p2 (1 : Int32))), .second, .val (.long (2305843009213693952 : Int64)), .second, .unset, .unset, .unset, .unset] [])
      refine own_by (fun _ k => XS.goto X14.here hx rfl (pc0 := 54) (pc' := 77) rfl (hb hby at_54) (by decide) (by decide) k) ?_
      show own_Go p e below _ T14 (mkF m 77 #[.val (.long p1), .second, .val (.long p2), .second, .val (.int p3), .val (.int (1 : Int32)), .val (.int (1 : Int32)), .val (.long (own_draw p1 (1 : Int32))), .second, .val (.long (own_draw p2 (1 : Int32))), .second, .val (.long (2305843009213693952 : Int64)), .second, .unset, .unset, .unset, .unset] [])
      refine own_by (fun _ k => XS.lload X14.here hx rfl (hb hby at_77) rfl k) ?_
      show own_Go p e below _ T14 (mkF m 79 #[.val (.long p1), .second, .val (.long p2), .second, .val (.int p3), .val (.int (1 : Int32)), .val (.int (1 : Int32)), .val (.long (own_draw p1 (1 : Int32))), .second, .val (.long (own_draw p2 (1 : Int32))), .second, .val (.long (2305843009213693952 : Int64)), .second, .unset, .unset, .unset, .unset] [(.long (own_draw p1 (1 : Int32)))])
      refine own_by (fun _ k => XS.lload X14.here hx rfl (hb hby at_79) rfl k) ?_
      show own_Go p e below _ T14 (mkF m 81 #[.val (.long p1), .second, .val (.long p2), .second, .val (.int p3), .val (.int (1 : Int32)), .val (.int (1 : Int32)), .val (.long (own_draw p1 (1 : Int32))), .second, .val (.long (own_draw p2 (1 : Int32))), .second, .val (.long (2305843009213693952 : Int64)), .second, .unset, .unset, .unset, .unset] [(.long (own_draw p2 (1 : Int32))), (.long (own_draw p1 (1 : Int32)))])
      obtain ⟨_, T15, L15, X15, ⟨rfl, N15q, e15⟩, st15⟩ := own_callS X14 hx hZ hown (y := (⟨"com/example/regretta/regretta/BucketElimination", "plus", "(JJ)J"⟩ : MethodName)) (hw _ (List.mem_of_getElem? (i := 5) rfl)) (hw _ (List.mem_of_getElem? (i := 6) rfl)) (hw _ (List.mem_of_getElem? (i := 7) rfl)) (hw _ (List.mem_of_getElem? (i := 8) rfl)) (by decide) (argsL := [(.long (own_draw p1 (1 : Int32))), (.long (own_draw p2 (1 : Int32)))]) (rest := []) e14 (rm2 l Z a0 hw [] (own_draw p1 (1 : Int32)) (own_draw p2 (1 : Int32)) h0 n0 Z0) (g := (mkF m 81 #[.val (.long p1), .second, .val (.long p2), .second, .val (.int p3), .val (.int (1 : Int32)), .val (.int (1 : Int32)), .val (.long (own_draw p1 (1 : Int32))), .second, .val (.long (own_draw p2 (1 : Int32))), .second, .val (.long (2305843009213693952 : Int64)), .second, .unset, .unset, .unset, .unset] [(.long (own_draw p2 (1 : Int32))), (.long (own_draw p1 (1 : Int32)))])) rfl (by rw [hml]; rfl) (lenOf pd_1 rfl) rfl (W := 0) (by show 2 * 0 + _ ≤ _; exact Nat.le_of_eq rfl) (hb hby at_81) (by decide) (by decide) (by decide) (by decide)
      have N15 := Fr.app N14 N15q
      refine own_by st15 ?_
      show own_Go p e below _ T15 (mkF m 84 #[.val (.long p1), .second, .val (.long p2), .second, .val (.int p3), .val (.int (1 : Int32)), .val (.int (1 : Int32)), .val (.long (own_draw p1 (1 : Int32))), .second, .val (.long (own_draw p2 (1 : Int32))), .second, .val (.long (2305843009213693952 : Int64)), .second, .unset, .unset, .unset, .unset] [(.long (own_plus (own_draw p1 (1 : Int32)) (own_draw p2 (1 : Int32))))])
      refine own_by (fun _ k => XS.lstore X15.here hx rfl (hb hby at_84) rfl (l' := #[.val (.long p1), .second, .val (.long p2), .second, .val (.int p3), .val (.int (1 : Int32)), .val (.int (1 : Int32)), .val (.long (own_draw p1 (1 : Int32))), .second, .val (.long (own_draw p2 (1 : Int32))), .second, .val (.long (2305843009213693952 : Int64)), .second, .val (.long (own_plus (own_draw p1 (1 : Int32)) (own_draw p2 (1 : Int32)))), .second, .unset, .unset]) rfl k) ?_
      show own_Go p e below _ T15 (mkF m 86 #[.val (.long p1), .second, .val (.long p2), .second, .val (.int p3), .val (.int (1 : Int32)), .val (.int (1 : Int32)), .val (.long (own_draw p1 (1 : Int32))), .second, .val (.long (own_draw p2 (1 : Int32))), .second, .val (.long (2305843009213693952 : Int64)), .second, .val (.long (own_plus (own_draw p1 (1 : Int32)) (own_draw p2 (1 : Int32)))), .second, .unset, .unset] [])
      refine own_by (fun _ k => XS.lload X15.here hx rfl (hb hby at_86) rfl k) ?_
      show own_Go p e below _ T15 (mkF m 88 #[.val (.long p1), .second, .val (.long p2), .second, .val (.int p3), .val (.int (1 : Int32)), .val (.int (1 : Int32)), .val (.long (own_draw p1 (1 : Int32))), .second, .val (.long (own_draw p2 (1 : Int32))), .second, .val (.long (2305843009213693952 : Int64)), .second, .val (.long (own_plus (own_draw p1 (1 : Int32)) (own_draw p2 (1 : Int32)))), .second, .unset, .unset] [(.long (own_draw p2 (1 : Int32)))])
      refine own_by (fun _ k => XS.lload X15.here hx rfl (hb hby at_88) rfl k) ?_
      show own_Go p e below _ T15 (mkF m 90 #[.val (.long p1), .second, .val (.long p2), .second, .val (.int p3), .val (.int (1 : Int32)), .val (.int (1 : Int32)), .val (.long (own_draw p1 (1 : Int32))), .second, .val (.long (own_draw p2 (1 : Int32))), .second, .val (.long (2305843009213693952 : Int64)), .second, .val (.long (own_plus (own_draw p1 (1 : Int32)) (own_draw p2 (1 : Int32)))), .second, .unset, .unset] [(.long (own_draw p1 (1 : Int32))), (.long (own_draw p2 (1 : Int32)))])
      obtain ⟨_, T16, L16, X16, ⟨rfl, N16q, e16⟩, st16⟩ := own_callS X15 hx hZ hown (y := (⟨"com/example/regretta/regretta/BucketElimination", "plus", "(JJ)J"⟩ : MethodName)) (hw _ (List.mem_of_getElem? (i := 5) rfl)) (hw _ (List.mem_of_getElem? (i := 6) rfl)) (hw _ (List.mem_of_getElem? (i := 7) rfl)) (hw _ (List.mem_of_getElem? (i := 8) rfl)) (by decide) (argsL := [(.long (own_draw p2 (1 : Int32))), (.long (own_draw p1 (1 : Int32)))]) (rest := []) e15 (rm2 l Z a0 hw [] (own_draw p2 (1 : Int32)) (own_draw p1 (1 : Int32)) h0 n0 Z0) (g := (mkF m 90 #[.val (.long p1), .second, .val (.long p2), .second, .val (.int p3), .val (.int (1 : Int32)), .val (.int (1 : Int32)), .val (.long (own_draw p1 (1 : Int32))), .second, .val (.long (own_draw p2 (1 : Int32))), .second, .val (.long (2305843009213693952 : Int64)), .second, .val (.long (own_plus (own_draw p1 (1 : Int32)) (own_draw p2 (1 : Int32)))), .second, .unset, .unset] [(.long (own_draw p1 (1 : Int32))), (.long (own_draw p2 (1 : Int32)))])) rfl (by rw [hml]; rfl) (lenOf pd_1 rfl) rfl (W := 0) (by show 2 * 0 + _ ≤ _; exact Nat.le_of_eq rfl) (hb hby at_90) (by decide) (by decide) (by decide) (by decide)
      have N16 := Fr.app N15 N16q
      refine own_by st16 ?_
      show own_Go p e below _ T16 (mkF m 93 #[.val (.long p1), .second, .val (.long p2), .second, .val (.int p3), .val (.int (1 : Int32)), .val (.int (1 : Int32)), .val (.long (own_draw p1 (1 : Int32))), .second, .val (.long (own_draw p2 (1 : Int32))), .second, .val (.long (2305843009213693952 : Int64)), .second, .val (.long (own_plus (own_draw p1 (1 : Int32)) (own_draw p2 (1 : Int32)))), .second, .unset, .unset] [(.long (own_plus (own_draw p2 (1 : Int32)) (own_draw p1 (1 : Int32))))])
      refine own_by (fun _ k => XS.lstore X16.here hx rfl (hb hby at_93) rfl (l' := #[.val (.long p1), .second, .val (.long p2), .second, .val (.int p3), .val (.int (1 : Int32)), .val (.int (1 : Int32)), .val (.long (own_draw p1 (1 : Int32))), .second, .val (.long (own_draw p2 (1 : Int32))), .second, .val (.long (2305843009213693952 : Int64)), .second, .val (.long (own_plus (own_draw p1 (1 : Int32)) (own_draw p2 (1 : Int32)))), .second, .val (.long (own_plus (own_draw p2 (1 : Int32)) (own_draw p1 (1 : Int32)))), .second]) rfl k) ?_
      show own_Go p e below _ T16 (mkF m 95 #[.val (.long p1), .second, .val (.long p2), .second, .val (.int p3), .val (.int (1 : Int32)), .val (.int (1 : Int32)), .val (.long (own_draw p1 (1 : Int32))), .second, .val (.long (own_draw p2 (1 : Int32))), .second, .val (.long (2305843009213693952 : Int64)), .second, .val (.long (own_plus (own_draw p1 (1 : Int32)) (own_draw p2 (1 : Int32)))), .second, .val (.long (own_plus (own_draw p2 (1 : Int32)) (own_draw p1 (1 : Int32)))), .second] [])
      refine own_by (fun _ k => XS.lload X16.here hx rfl (hb hby at_95) rfl k) ?_
      show own_Go p e below _ T16 (mkF m 97 #[.val (.long p1), .second, .val (.long p2), .second, .val (.int p3), .val (.int (1 : Int32)), .val (.int (1 : Int32)), .val (.long (own_draw p1 (1 : Int32))), .second, .val (.long (own_draw p2 (1 : Int32))), .second, .val (.long (2305843009213693952 : Int64)), .second, .val (.long (own_plus (own_draw p1 (1 : Int32)) (own_draw p2 (1 : Int32)))), .second, .val (.long (own_plus (own_draw p2 (1 : Int32)) (own_draw p1 (1 : Int32)))), .second] [(.long (own_plus (own_draw p1 (1 : Int32)) (own_draw p2 (1 : Int32))))])
      refine own_by (fun _ k => XS.lload X16.here hx rfl (hb hby at_97) rfl k) ?_
      show own_Go p e below _ T16 (mkF m 99 #[.val (.long p1), .second, .val (.long p2), .second, .val (.int p3), .val (.int (1 : Int32)), .val (.int (1 : Int32)), .val (.long (own_draw p1 (1 : Int32))), .second, .val (.long (own_draw p2 (1 : Int32))), .second, .val (.long (2305843009213693952 : Int64)), .second, .val (.long (own_plus (own_draw p1 (1 : Int32)) (own_draw p2 (1 : Int32)))), .second, .val (.long (own_plus (own_draw p2 (1 : Int32)) (own_draw p1 (1 : Int32)))), .second] [(.long (2305843009213693952 : Int64)), (.long (own_plus (own_draw p1 (1 : Int32)) (own_draw p2 (1 : Int32))))])
      refine own_by (fun _ k => XS.lcmp X16.here hx rfl (hb hby at_99) rfl k) ?_
      show own_Go p e below _ T16 (mkF m 100 #[.val (.long p1), .second, .val (.long p2), .second, .val (.int p3), .val (.int (1 : Int32)), .val (.int (1 : Int32)), .val (.long (own_draw p1 (1 : Int32))), .second, .val (.long (own_draw p2 (1 : Int32))), .second, .val (.long (2305843009213693952 : Int64)), .second, .val (.long (own_plus (own_draw p1 (1 : Int32)) (own_draw p2 (1 : Int32)))), .second, .val (.long (own_plus (own_draw p2 (1 : Int32)) (own_draw p1 (1 : Int32)))), .second] [(.int (lcmpW (own_plus (own_draw p1 (1 : Int32)) (own_draw p2 (1 : Int32))) (2305843009213693952 : Int64)))])
      refine own_by (fun _ k => XS.ifNo X16.here hx rfl (hb hby at_100) rfl ((if0 _ _).trans (teq ((lw_eq _ _).mpr (own_l1_11 p1 p2) : (lcmpW (own_plus (own_draw p1 (1 : Int32)) (own_draw p2 (1 : Int32))) (2305843009213693952 : Int64)) = (0 : Int32))).2) k) ?_
      show own_Go p e below _ T16 (mkF m 103 #[.val (.long p1), .second, .val (.long p2), .second, .val (.int p3), .val (.int (1 : Int32)), .val (.int (1 : Int32)), .val (.long (own_draw p1 (1 : Int32))), .second, .val (.long (own_draw p2 (1 : Int32))), .second, .val (.long (2305843009213693952 : Int64)), .second, .val (.long (own_plus (own_draw p1 (1 : Int32)) (own_draw p2 (1 : Int32)))), .second, .val (.long (own_plus (own_draw p2 (1 : Int32)) (own_draw p1 (1 : Int32)))), .second] [])
      refine own_by (fun _ k => XS.lload X16.here hx rfl (hb hby at_103) rfl k) ?_
      show own_Go p e below _ T16 (mkF m 105 #[.val (.long p1), .second, .val (.long p2), .second, .val (.int p3), .val (.int (1 : Int32)), .val (.int (1 : Int32)), .val (.long (own_draw p1 (1 : Int32))), .second, .val (.long (own_draw p2 (1 : Int32))), .second, .val (.long (2305843009213693952 : Int64)), .second, .val (.long (own_plus (own_draw p1 (1 : Int32)) (own_draw p2 (1 : Int32)))), .second, .val (.long (own_plus (own_draw p2 (1 : Int32)) (own_draw p1 (1 : Int32)))), .second] [(.long (own_plus (own_draw p2 (1 : Int32)) (own_draw p1 (1 : Int32))))])
      refine own_by (fun _ k => XS.lload X16.here hx rfl (hb hby at_105) rfl k) ?_
      show own_Go p e below _ T16 (mkF m 107 #[.val (.long p1), .second, .val (.long p2), .second, .val (.int p3), .val (.int (1 : Int32)), .val (.int (1 : Int32)), .val (.long (own_draw p1 (1 : Int32))), .second, .val (.long (own_draw p2 (1 : Int32))), .second, .val (.long (2305843009213693952 : Int64)), .second, .val (.long (own_plus (own_draw p1 (1 : Int32)) (own_draw p2 (1 : Int32)))), .second, .val (.long (own_plus (own_draw p2 (1 : Int32)) (own_draw p1 (1 : Int32)))), .second] [(.long (2305843009213693952 : Int64)), (.long (own_plus (own_draw p2 (1 : Int32)) (own_draw p1 (1 : Int32))))])
      refine own_by (fun _ k => XS.lcmp X16.here hx rfl (hb hby at_107) rfl k) ?_
      show own_Go p e below _ T16 (mkF m 108 #[.val (.long p1), .second, .val (.long p2), .second, .val (.int p3), .val (.int (1 : Int32)), .val (.int (1 : Int32)), .val (.long (own_draw p1 (1 : Int32))), .second, .val (.long (own_draw p2 (1 : Int32))), .second, .val (.long (2305843009213693952 : Int64)), .second, .val (.long (own_plus (own_draw p1 (1 : Int32)) (own_draw p2 (1 : Int32)))), .second, .val (.long (own_plus (own_draw p2 (1 : Int32)) (own_draw p1 (1 : Int32)))), .second] [(.int (lcmpW (own_plus (own_draw p2 (1 : Int32)) (own_draw p1 (1 : Int32))) (2305843009213693952 : Int64)))])
      refine own_by (fun _ k => XS.ifNo X16.here hx rfl (hb hby at_108) rfl ((if0 _ _).trans (teq ((lw_eq _ _).mpr (own_l2_11 p1 p2) : (lcmpW (own_plus (own_draw p2 (1 : Int32)) (own_draw p1 (1 : Int32))) (2305843009213693952 : Int64)) = (0 : Int32))).2) k) ?_
      show own_Go p e below _ T16 (mkF m 111 #[.val (.long p1), .second, .val (.long p2), .second, .val (.int p3), .val (.int (1 : Int32)), .val (.int (1 : Int32)), .val (.long (own_draw p1 (1 : Int32))), .second, .val (.long (own_draw p2 (1 : Int32))), .second, .val (.long (2305843009213693952 : Int64)), .second, .val (.long (own_plus (own_draw p1 (1 : Int32)) (own_draw p2 (1 : Int32)))), .second, .val (.long (own_plus (own_draw p2 (1 : Int32)) (own_draw p1 (1 : Int32)))), .second] [])
      refine own_by (fun _ k => XS.iconst X16.here hx rfl (hb hby at_111) k) ?_
      show own_Go p e below _ T16 (mkF m 112 #[.val (.long p1), .second, .val (.long p2), .second, .val (.int p3), .val (.int (1 : Int32)), .val (.int (1 : Int32)), .val (.long (own_draw p1 (1 : Int32))), .second, .val (.long (own_draw p2 (1 : Int32))), .second, .val (.long (2305843009213693952 : Int64)), .second, .val (.long (own_plus (own_draw p1 (1 : Int32)) (own_draw p2 (1 : Int32)))), .second, .val (.long (own_plus (own_draw p2 (1 : Int32)) (own_draw p1 (1 : Int32)))), .second] [(.int (1 : Int32))])
      refine own_by (fun _ k => XS.goto X16.here hx rfl (pc0 := 112) (pc' := 116) rfl (hb hby at_112) (by decide) (by decide) k) ?_
      show own_Go p e below _ T16 (mkF m 116 #[.val (.long p1), .second, .val (.long p2), .second, .val (.int p3), .val (.int (1 : Int32)), .val (.int (1 : Int32)), .val (.long (own_draw p1 (1 : Int32))), .second, .val (.long (own_draw p2 (1 : Int32))), .second, .val (.long (2305843009213693952 : Int64)), .second, .val (.long (own_plus (own_draw p1 (1 : Int32)) (own_draw p2 (1 : Int32)))), .second, .val (.long (own_plus (own_draw p2 (1 : Int32)) (own_draw p1 (1 : Int32)))), .second] [(.int (1 : Int32))])
      exact own_retN X16 hx hlk hret (by simp) rfl (hb hby at_116) (by first | exact ⟨rfl, N16⟩ | (rw [e16]; exact ⟨rfl, N16⟩)) (by decide) (by decide)
set_option maxRecDepth 65536 in
set_option maxHeartbeats 40000000 in
theorem comes_1 {Post : Tables → Env → Array Value → State → Outcome → State → Prop} (hpost : ∀ tb e args s v u, (limb_1_1.after args s (.returned v) u = true ∧ limb_1_2.after args s (.returned v) u = true ∧ True) → FrameEnd s (.returned v) u (Jvm.fieldLocs frame_1_writes args s ++ Jvm.arrayLocs frame_1_arrays args s ++ Jvm.staticLocs frame_1_statics s) 0 0 → Post tb e args s (.returned v) u) :
    ArmFor flags0 classFile x code maxLocals ret World_1 tables_1 room_1 Calls_1 rest_1 Pre_1 Post := by
  intro l hfl _ _ p e ha hc hk s m args below hf hA hF happ hP
  obtain ⟨hcalls, hrest, hpre⟩ := hP
  obtain ⟨-, -, -, hnamed, -, -, -, hat⟩ := (Spec.applies_iff hf).mp happ
  obtain ⟨hg, hn⟩ := and_e (Cond.before_iff.mp (show (Jvm.Cond.and given_1 narrow_1).before args s = true from hpre))
  obtain ⟨g1, g2⟩ := and_e hg
  obtain ⟨g3, g4⟩ := and_e g2
  obtain ⟨g5, g6⟩ := and_e g4
  obtain ⟨w0, w1, w2, rfl⟩ : ∃ w0 w1 w2 : Value, args = #[w0, w1, w2] := by
    have hs : args.size = 3 := by simpa [Cond.value, given_1] using g1
    obtain ⟨L⟩ := args
    match L, hs with
    | [w0, w1, w2], _ => exact ⟨w0, w1, w2, rfl⟩
  have hw := fun d (hd : d ∈ tables_1) => atoms_spec (ws := Jvm.Cond.code x code maxLocals ret :: tables_1) hat d (List.mem_cons_of_mem _ hd)
  have hfit : Fit s := fun {y c} hc i hi => by
    obtain ⟨ha, rfl⟩ := Array.getElem?_eq_some_iff.mp hc
    have q := List.all_eq_true.mp ((Array.all_eq_true_iff_forall_mem.mp hF) _ (Array.getElem_mem ha)) i (List.mem_range.mpr hi)
    simpa [Array.getElem?_eq_getElem hi] using q
  obtain ⟨i0, ei0⟩ := isL_v g3
  obtain rfl : w0 = (.long i0) := Option.some.inj ei0
  obtain ⟨i1, ei1⟩ := isL_v g5
  obtain rfl : w1 = (.long i1) := Option.some.inj ei1
  obtain ⟨i2, ei2⟩ := is_v g6
  obtain rfl : w2 = (.int i2) := Option.some.inj ei2
  obtain ⟨n, o, h1, h2, h3, _, L, rfl, ⟨rfl, N⟩, hq⟩ := rm0 l s _ hw tables_1 i0 i1 i2 s.heap s.heap.size (Nat.le_refl _)  p e ha hc hk s m _ below hf ((Spec.applies_iff_loose hf).mp happ).1 ⟨rfl, State.Warmed39.refl s, rfl⟩ trivial
  refine ⟨n, _, h1, h2, h3, hpost _ _ _ _ _ _ ⟨Cond.after_iff.mpr rfl, Cond.after_iff.mpr (eq_i res_at (Term.int_eval (1)) rfl), trivial⟩ ⟨hq.1, hq.2.1, (hq.2.2.sift fun y hy => Or.inr (N y hy)).mono (by decide) (by decide)⟩⟩
theorem main_1_1 : Claimed_1_1 := comes_1 fun _ _ _ _ _ _ h hF => ⟨h.1, hF⟩
theorem main_1_2 : Claimed_1_2 := comes_1 fun _ _ _ _ _ _ h hF => ⟨h.2.1, hF⟩
end Jvm.Pilot.@@N@@
namespace Jvm.Pilot.@@N@@
open Jvm Jvm.ClassFile Sem Op Lib Jvm.Free Jvm.Stand Jvm.Pilot.@@N@@.Jvm.D
/-! MADE BY PROGRAM (witnessworld.py) out of the Statement's table words and the real class files: 9 classes; the members and pool entries that the words name. The judged class is class 1, her method 2. -/
namespace start1
open Jvm.ClassFile
def u (s : String) : CpInfo := .utf8 (stringToUtf16 s)
/-- a pool by its gaps: so many unusable entries, then the entry; so many at the end -/
def gap : Nat → List CpInfo → List CpInfo
  | 0, r => r
  | n + 1, r => .unusable :: gap n r
def poolList (es : List (Nat × CpInfo)) (last : Nat) : List CpInfo := es.foldr (fun e r => gap e.1 (e.2 :: r)) (gap last [])
def pool (es : List (Nat × CpInfo)) (last : Nat) : Array CpInfo := ⟨poolList es last⟩
def fileOf (pool : Array CpInfo) (this : Nat) (attrs : Array Attribute := #[]) (ms : Array MethodInfo := #[]) (fl : Nat := 33) (sup : Nat := 0) (ifs : Array Nat := #[]) (fds : Array FieldInfo := #[]) : ClassFile where
  minorVersion := 0
  majorVersion := 65
  constantPool := pool
  accessFlags := fl
  thisClass := this
  superClass := sup
  interfaces := ifs
  fields := fds
  methods := ms
  attributes := attrs
def plain (name : String) (sup : Option ClassId) : Class where
  name := name
  kind := .ordinary
  loader := none
  accessFlags := 33
  super := sup
  interfaces := #[]
  cf := none
  fields := #[]
  methods := #[]
  instanceTypes := #[]
  staticTypes := #[]
  resolved := #[]
  callSites := []
  init := .initialized
  statics := none
  mirror := none

def pool0 : Array CpInfo := pool [(5, u "<init>"), (0, u "()V"), (1, .class_ 10), (1, u "java/lang/Object")] 113

def k0m0 : Method := { name := "<init>", desc := "()V", sig := { parameters := [], returnType := none }, accessFlags := 1, code := none }
/-- java/lang/Object -/
def k0 : Class := { plain "java/lang/Object" none with
  accessFlags := 33
  interfaces := #[]
  cf := some (fileOf pool0 8 #[] #[{ accessFlags := 1, nameIndex := 5, descriptorIndex := 6, attributes := #[] }] 33 0 #[] #[])
  fields := #[]
  methods := #[k0m0]
  instanceTypes := #[]
  staticTypes := #[]
  resolved := Array.replicate 124 none
  statics := none }

def pool1 : Array CpInfo := pool [(2, .class_ 4), (1, u "java/lang/Object"), (0, u "<init>"), (0, u "()V"), (0, .long 1152921504606846976), (3, .long 9223372036854775807), (1, .methodref 14 15), (0, .class_ 16), (0, .nameAndType 17 18), (0, u "com/example/regretta/regretta/BucketEliminationPlusPinLaw"), (0, u "draw"), (0, u "(JZ)J"), (0, .long 2305843009213693952), (1, .methodref 22 23), (0, .class_ 24), (0, .nameAndType 25 26), (0, u "com/example/regretta/regretta/BucketElimination"), (0, u "plus"), (0, u "(JJ)J"), (3, u "law"), (0, u "(JJI)Z")] 2

def k1m0 : Method := { name := "<init>", desc := "()V", sig := { parameters := [], returnType := none }, accessFlags := 1, code := none }
def k1c1 : Code := { maxStack := 4, maxLocals := 5, code := method_2_code, exceptionTable := #[], attributes := #[] }
def k1m1 : Method := { name := "draw", desc := "(JZ)J", sig := { parameters := [.long, .boolean], returnType := some .long }, accessFlags := 10, code := some k1c1 }
def k1c2 : Code := { maxStack := 4, maxLocals := 17, code := code, exceptionTable := #[], attributes := #[] }
def k1m2 : Method := { name := "law", desc := "(JJI)Z", sig := { parameters := [.long, .long, .int], returnType := some .boolean }, accessFlags := 9, code := some k1c2 }
/-- com/example/regretta/regretta/BucketEliminationPlusPinLaw -/
def k1 : Class := { plain "com/example/regretta/regretta/BucketEliminationPlusPinLaw" (some 0) with
  accessFlags := 49
  interfaces := #[]
  cf := some (fileOf pool1 14 #[] #[{ accessFlags := 1, nameIndex := 5, descriptorIndex := 6, attributes := #[] }, { accessFlags := 10, nameIndex := 17, descriptorIndex := 18, attributes := #[] }, { accessFlags := 9, nameIndex := 30, descriptorIndex := 31, attributes := #[] }] 49 2 #[] #[])
  fields := #[]
  methods := #[k1m0, k1m1, k1m2]
  instanceTypes := #[]
  staticTypes := #[]
  resolved := Array.replicate 34 none
  statics := none }

def pool2 : Array CpInfo := pool [(2, .class_ 4), (1, u "java/lang/Object"), (3, .class_ 10), (1, u "com/example/regretta/regretta/BucketElimination"), (0, u "problem"), (0, u "Lcom/example/regretta/regretta/Problem;"), (2, u "clauses"), (0, u "Ljava/util/List;"), (2, u "order"), (0, u "[I"), (2, u "places"), (2, u "sizes"), (24, u "scopes"), (0, u "[[I"), (23, u "messagesInto"), (42, u "functionScopes"), (2, u "functionsInto"), (6, u "factorFunctions"), (6, u "clauseFunctions"), (2, u "factorStrides"), (38, u "(JJ)J"), (105, .long 2305843009213693952), (12, .long 1152921504606846976), (11, u "plus"), (0, .class_ 311), (0, u "com/example/regretta/regretta/BucketElimination$Eliminated"), (10, u "INFINITE"), (0, u "J"), (1, u "FINITE")] 56

def k2c0 : Code := { maxStack := 4, maxLocals := 4, code := prog_7_method_27_code, exceptionTable := #[], attributes := #[] }
def k2m0 : Method := { name := "plus", desc := "(JJ)J", sig := { parameters := [.long, .long], returnType := some .long }, accessFlags := 8, code := some k2c0 }
/-- com/example/regretta/regretta/BucketElimination -/
def k2 : Class := { plain "com/example/regretta/regretta/BucketElimination" (some 0) with
  accessFlags := 48
  interfaces := #[]
  cf := some (fileOf pool2 8 #[.nestMembers #[310]] #[{ accessFlags := 8, nameIndex := 309, descriptorIndex := 178, attributes := #[] }] 48 2 #[] #[{ accessFlags := 24, nameIndex := 322, descriptorIndex := 323, attributes := #[] }, { accessFlags := 24, nameIndex := 325, descriptorIndex := 323, attributes := #[] }, { accessFlags := 18, nameIndex := 11, descriptorIndex := 12, attributes := #[] }, { accessFlags := 18, nameIndex := 19, descriptorIndex := 20, attributes := #[] }, { accessFlags := 18, nameIndex := 23, descriptorIndex := 20, attributes := #[] }, { accessFlags := 18, nameIndex := 26, descriptorIndex := 20, attributes := #[] }, { accessFlags := 18, nameIndex := 51, descriptorIndex := 52, attributes := #[] }, { accessFlags := 18, nameIndex := 76, descriptorIndex := 52, attributes := #[] }, { accessFlags := 18, nameIndex := 119, descriptorIndex := 52, attributes := #[] }, { accessFlags := 18, nameIndex := 122, descriptorIndex := 52, attributes := #[] }, { accessFlags := 18, nameIndex := 129, descriptorIndex := 20, attributes := #[] }, { accessFlags := 18, nameIndex := 139, descriptorIndex := 52, attributes := #[] }, { accessFlags := 18, nameIndex := 15, descriptorIndex := 16, attributes := #[] }, { accessFlags := 18, nameIndex := 136, descriptorIndex := 20, attributes := #[] }])
  fields := #[{ name := "INFINITE", type := .long, accessFlags := 24, slot := 0, constantValue := 0 }, { name := "FINITE", type := .long, accessFlags := 24, slot := 1, constantValue := 0 }, { name := "problem", type := (.object "com/example/regretta/regretta/Problem"), accessFlags := 18, slot := 0, constantValue := 0 }, { name := "order", type := (.array .int), accessFlags := 18, slot := 1, constantValue := 0 }, { name := "places", type := (.array .int), accessFlags := 18, slot := 2, constantValue := 0 }, { name := "sizes", type := (.array .int), accessFlags := 18, slot := 3, constantValue := 0 }, { name := "scopes", type := (.array (.array .int)), accessFlags := 18, slot := 4, constantValue := 0 }, { name := "messagesInto", type := (.array (.array .int)), accessFlags := 18, slot := 5, constantValue := 0 }, { name := "functionScopes", type := (.array (.array .int)), accessFlags := 18, slot := 6, constantValue := 0 }, { name := "functionsInto", type := (.array (.array .int)), accessFlags := 18, slot := 7, constantValue := 0 }, { name := "factorFunctions", type := (.array .int), accessFlags := 18, slot := 8, constantValue := 0 }, { name := "factorStrides", type := (.array (.array .int)), accessFlags := 18, slot := 9, constantValue := 0 }, { name := "clauses", type := (.object "java/util/List"), accessFlags := 18, slot := 10, constantValue := 0 }, { name := "clauseFunctions", type := (.array .int), accessFlags := 18, slot := 11, constantValue := 0 }]
  methods := #[k2m0]
  instanceTypes := #[(.object "com/example/regretta/regretta/Problem"), (.array .int), (.array .int), (.array .int), (.array (.array .int)), (.array (.array .int)), (.array (.array .int)), (.array (.array .int)), (.array .int), (.array (.array .int)), (.object "java/util/List"), (.array .int)]
  staticTypes := #[.long, .long]
  resolved := Array.replicate 382 none
  statics := none }

def pool3 : Array CpInfo := pool [(1, u "java/lang/Cloneable"), (0, .class_ 1), (0, u "java/lang/Object"), (0, .class_ 3)] 3

/-- java/lang/Cloneable -/
def k3 : Class := { plain "java/lang/Cloneable" (some 0) with
  accessFlags := 1537
  interfaces := #[]
  cf := some (fileOf pool3 2 #[] #[] 1537 4 #[] #[])
  fields := #[]
  methods := #[]
  instanceTypes := #[]
  staticTypes := #[]
  resolved := Array.replicate 8 none
  statics := none }

def pool4 : Array CpInfo := pool [(1, u "java/io/Serializable"), (0, .class_ 1), (0, u "java/lang/Object"), (0, .class_ 3)] 3

/-- java/io/Serializable -/
def k4 : Class := { plain "java/io/Serializable" (some 0) with
  accessFlags := 1537
  interfaces := #[]
  cf := some (fileOf pool4 2 #[] #[] 1537 4 #[] #[])
  fields := #[]
  methods := #[]
  instanceTypes := #[]
  staticTypes := #[]
  resolved := Array.replicate 8 none
  statics := none }

/-- the primitive byte -/
def k5 : Class := { plain "byte" none with kind := .primitive 'B', accessFlags := 0x411 }
/-- [B -/
def k6 : Class := { plain "[B" (some 0) with kind := .array 5 .byte, interfaces := #[3, 4], accessFlags := 1041 }

/-- the primitive int -/
def k7 : Class := { plain "int" none with kind := .primitive 'I', accessFlags := 0x411 }
/-- [I -/
def k8 : Class := { plain "[I" (some 0) with kind := .array 7 .int, interfaces := #[3, 4], accessFlags := 1041 }

def heap : Heap := #[]
def classes : Array Class := #[k0, k1, k2, k3, k4, k5, k6, k7, k8]
def interned : List (Array UInt16 × Addr) := []
def slotsUsed : Nat := 0
def theMethod : MethodId := ⟨1, 2⟩
def args0 : Array Value := #[.long 5, .long 7, .int 0]
def aboutOver (below : List Frame) : State where
  vm := { classes := classes, interned := interned.toArray }
  heap := heap
  slotsUsed := slotsUsed
  threads := #[{ frames := .invoking theMethod args0 :: below }]
def below0 : List Frame := [.native { method := ⟨0, 0⟩, args := #[] }]
def about1 : State := aboutOver below0
def p0 : Program := .bare "" "" ""
def e0 : Env := launch0.env 0 0 0
theorem w_frames : about1.frames = Frame.invoking theMethod args0 :: below0 := rfl
set_option maxRecDepth 65536 in
theorem w_args : argsFit about1.vm theMethod args0 = true := by decide +kernel
set_option maxRecDepth 65536 in
theorem w_heap : heapFits about1 = true := by decide +kernel
set_option maxRecDepth 65536 in
theorem w_runnable : about1.curStatus? = some .runnable := by decide +kernel
set_option maxRecDepth 65536 in
theorem w_alone : about1.alone = true := by decide +kernel
set_option maxRecDepth 65536 in
theorem w_named : about1.methodNamed? x = some theMethod := by decide +kernel
set_option maxRecDepth 65536 in
theorem w_hears : about1.hears theMethod below0 = true := by decide +kernel
set_option maxRecDepth 65536 in
theorem w_ripe : about1.ripe theMethod args0 below0 = true := by decide +kernel
theorem w_running : about1.status = .running := rfl
set_option maxRecDepth 65536 in
theorem w_room : about1.hasRoom e0.platform room_1 = true :=
  launch0.hasRoom_least _ room_1 (by decide +kernel) (by decide +kernel) (by decide +kernel) (by decide +kernel) (by decide +kernel) (by decide +kernel)
theorem allAtoms_all (ts : List Jvm.Cond) (a : Array Jvm.Value) (st : Jvm.State) : (allAtoms ts).before a st = ts.all (fun c => c.before a st) := by
  induction ts with
  | nil => rfl
  | cons c t ih =>
    show (Jvm.Cond.and c (allAtoms t)).before a st = _
    rw [Jvm.Cond.before_and, ih, List.all_cons]
def words1 : List Jvm.Cond := Jvm.Cond.code x code maxLocals ret :: tables_1
/-- a 'code' word, met by the world's own term for the bytes: nothing is compared byte by byte -/
theorem code_word {y : MethodName} {bytes : ByteArray} {mx : Nat} {rt : Option FieldType} {a : Array Value} {s : State} {m : MethodId} {meth : Method} {c : Code} (h1 : s.methodNamed? y = some m) (h2 : s.vm.method? m = some meth) (h3 : meth.code = some c) (h4 : c.code = bytes)
    (h5 : (c.maxLocals == mx && c.exceptionTable.isEmpty && decide (c.maxStack ≤ mostOperands) && decide (meth.sig.returnType = rt) && !meth.locks && decide (parseMethodDescriptor y.desc = some meth.sig)) = true) : (Jvm.Cond.code y bytes mx rt).before a s = true := by
  simp only [Bool.and_eq_true, beq_iff_eq, Bool.not_eq_true', decide_eq_true_eq] at h5
  obtain ⟨⟨⟨⟨⟨g1, g2⟩, g3⟩, g4⟩, g5⟩, g6⟩ := h5
  simp [Cond.before, Cond.holds, Cond.value, h1, h2, h3, h4, g1, g2, g3, g4, g5, g6]
def isCode : Jvm.Cond → Bool
  | .code _ _ _ _ => true
  | _ => false
theorem all_split {L : List Jvm.Cond} {P : Jvm.Cond → Bool} (h1 : L.all (fun c => isCode c || P c) = true) (h2 : ∀ c ∈ L.filter isCode, P c = true) : L.all P = true := by
  refine List.all_eq_true.mpr fun c hc => ?_
  have h := List.all_eq_true.mp h1 c hc
  rcases Bool.eq_false_or_eq_true (isCode c) with hi | hi
  · exact h2 c (List.mem_filter.mpr ⟨hc, hi⟩)
  · simpa [hi] using h
set_option maxRecDepth 65536 in
theorem w_c0 : (Jvm.Cond.code x code maxLocals ret).before args0 about1 = true := code_word (m := ⟨1, 2⟩) (meth := k1m2) (c := k1c2) (by decide +kernel) rfl rfl rfl (by decide +kernel)
set_option maxRecDepth 65536 in
theorem w_c1 : (Jvm.Cond.code ({ cls := "com/example/regretta/regretta/BucketEliminationPlusPinLaw", name := "draw", desc := "(JZ)J" } : Jvm.MethodName) method_2_code (5 : Nat) (Option.some Jvm.ClassFile.FieldType.long)).before args0 about1 = true := code_word (m := ⟨1, 1⟩) (meth := k1m1) (c := k1c1) (by decide +kernel) rfl rfl rfl (by decide +kernel)
set_option maxRecDepth 65536 in
theorem w_c2 : (Jvm.Cond.code ({ cls := "com/example/regretta/regretta/BucketElimination", name := "plus", desc := "(JJ)J" } : Jvm.MethodName) prog_7_method_27_code (4 : Nat) (Option.some Jvm.ClassFile.FieldType.long)).before args0 about1 = true := code_word (m := ⟨2, 0⟩) (meth := k2m0) (c := k2c0) (by decide +kernel) rfl rfl rfl (by decide +kernel)
def codes1 : List Jvm.Cond := [Jvm.Cond.code x code maxLocals ret, Jvm.Cond.code ({ cls := "com/example/regretta/regretta/BucketEliminationPlusPinLaw", name := "draw", desc := "(JZ)J" } : Jvm.MethodName) method_2_code (5 : Nat) (Option.some Jvm.ClassFile.FieldType.long), Jvm.Cond.code ({ cls := "com/example/regretta/regretta/BucketElimination", name := "plus", desc := "(JJ)J" } : Jvm.MethodName) prog_7_method_27_code (4 : Nat) (Option.some Jvm.ClassFile.FieldType.long)]
set_option maxRecDepth 65536 in
theorem codes_eq : words1.filter isCode = codes1 := rfl
theorem w_codes : ∀ c ∈ words1.filter isCode, c.before args0 about1 = true := by
  rw [codes_eq]
  intro c hc
  simp only [codes1, List.mem_cons, List.not_mem_nil, or_false] at hc
  rcases hc with rfl | rfl | rfl
  · exact w_c0
  · exact w_c1
  · exact w_c2
set_option maxRecDepth 65536 in
theorem w_t1 : words1.all (fun c => isCode c || c.before args0 about1) = true := by decide +kernel
theorem w_tables : (allAtoms (Jvm.Cond.code x code maxLocals ret :: tables_1)).before args0 about1 = true := by
  rw [allAtoms_all]
  show words1.all (fun c => c.before args0 about1) = true
  refine all_split ?_ w_codes
  rw [w_t1]
set_option maxRecDepth 65536 in
theorem w_case : (Jvm.Cond.and given_1 narrow_1).before args0 about1 = true := by decide +kernel
theorem w_applies : (headSpec (Jvm.Cond.code x code maxLocals ret :: tables_1) room_1).applies x e0.platform about1 = true :=
  (Spec.applies_iff w_frames).mpr ⟨w_running, w_runnable, w_alone, w_named, w_hears, w_ripe, w_room, w_tables⟩
theorem atStart : AtStart classFile x code maxLocals ret World_1 tables_1 room_1 Calls_1 rest_1 Pre_1 launch0 p0 e0 about1 theMethod args0 below0 :=
  ⟨lists_1, trivial, launch0.admits_env _ _ _, launch0.least_env, fairChoices_fair.cas, fairChoices_fair.clock, w_frames, w_args, w_heap, w_applies, trivial, trivial, w_case⟩
end start1
theorem witness_1 : WitnessClaimed_1 := ⟨start1.p0, start1.e0, start1.about1, start1.theMethod, start1.args0, start1.below0, start1.atStart⟩
end Jvm.Pilot.@@N@@
