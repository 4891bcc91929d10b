import JvmDerived
import JvmDerived.Pilot.@@N@@Statement
import JvmDerived.Pilot.@@N@@Code
set_option linter.unusedVariables false
set_option linter.unusedSimpArgs false
namespace Jvm.Pilot.@@N@@
open Jvm Jvm.ClassFile Sem Op Lib Jvm.Free Jvm.Stand Jvm.LawKit Jvm.RoadKit Bundle Jvm.Pilot.@@N@@.Jvm.D
section OwnKit
variable {p : Program} {l : Launch} {e : Env} {R : Room} {s : State} {m : MethodId} {args : Array Value} {below : List Frame} {meth : Method} {c : Code} {T T' : State} {locs : List Loc} {cells slots : Nat} {Z : State} {a0 : Array Value} {h : Heap}
/-- from here the run comes to an end of which E speaks -/
def own_Go (p : Program) (e : Env) (below : List Frame) (E : State → Outcome → Prop) (T : State) (g : JFrame) : Prop :=
  ∃ t o, Steps p.tables e below (T.setTop g) t ∧ t.status = .running ∧ Ended t below o ∧ E t o
def own_End (s : State) (k n : Nat) (Q : Option Value → Heap → List Loc → Prop) (t : State) (o : Outcome) : Prop :=
  ∃ v L, o = .returned v ∧ Q v t.heap L ∧ FrameEnd s o t L k n
theorem own_by {E : State → Outcome → Prop} {g g' : JFrame} (st : ∀ target, Steps p.tables e below (T'.setTop g') target → Steps p.tables e below (T.setTop g) target) (k : own_Go p e below E T' g') : own_Go p e below E T g := by
  obtain ⟨t, o, h1, r⟩ := k
  exact ⟨t, o, st t h1, r⟩
theorem own_retW (X : Stand p l e R s m args below meth c T locs cells slots) (hx : p.tables.exec = Jvm.exec) (hlk : meth.locks = false) {pc : Nat} {Ls : Array Slot} {w : Value} {t : FieldType} {i : Instr} {rest : List Value} (hret : meth.sig.returnType = some t) (hn : narrow t w = w)
    (hi : (i = .ireturn ∧ (t = .int ∨ t = .boolean ∨ t = .byte ∨ t = .char ∨ t = .short) ∧ ∃ z, w = .int z) ∨ (i = .lreturn ∧ t = .long ∧ ∃ z, w = .long z) ∨ (i = .dreturn ∧ t = .double ∧ ∃ z, w = .double z) ∨ (i = .freturn ∧ t = .float ∧ ∃ z, w = .float z) ∨ (i = .areturn ∧ t.isReference = true ∧ w.isRef = true))
    (hd : decode c.code pc = .ok (i, 1)) {Q : Option Value → Heap → List Loc → Prop} {k n : Nat} (hQ : Q (some w) T.heap locs) (hk : cells ≤ k) (hs : slots ≤ n) : own_Go p e below (own_End s k n Q) T (mkF m pc Ls (w :: rest)) := by
  obtain ⟨fs, hr, hrun, hended, hW, hsame⟩ := X.leave (v := some w) (fun h => by rw [hret] at h; cases h) hlk
  exact ⟨_, _, retOut X hx hret hn hi hd hr, hrun, hended, _, _, rfl, hQ, ⟨_, rfl⟩, hW, hsame.mono hk hs⟩
theorem own_retI (X : Stand p l e R s m args below meth c T locs cells slots) (hx : p.tables.exec = Jvm.exec) (hlk : meth.locks = false) {pc : Nat} {Ls : Array Slot} {z : Int32} {rest : List Value} (hret : meth.sig.returnType = some .int) (hd : decode c.code pc = .ok (.ireturn, 1)) {Q : Option Value → Heap → List Loc → Prop} {k n : Nat} (hQ : Q (some (.int z)) T.heap locs) (hk : cells ≤ k) (hs : slots ≤ n) : own_Go p e below (own_End s k n Q) T (mkF m pc Ls (.int z :: rest)) :=
  own_retW X hx hlk hret rfl (Or.inl ⟨rfl, Or.inl rfl, z, rfl⟩) hd hQ hk hs
theorem own_retJ (X : Stand p l e R s m args below meth c T locs cells slots) (hx : p.tables.exec = Jvm.exec) (hlk : meth.locks = false) {pc : Nat} {Ls : Array Slot} {z : Int64} {rest : List Value} (hret : meth.sig.returnType = some .long) (hd : decode c.code pc = .ok (.lreturn, 1)) {Q : Option Value → Heap → List Loc → Prop} {k n : Nat} (hQ : Q (some (.long z)) T.heap locs) (hk : cells ≤ k) (hs : slots ≤ n) : own_Go p e below (own_End s k n Q) T (mkF m pc Ls (.long z :: rest)) :=
  own_retW X hx hlk hret rfl (Or.inr (Or.inl ⟨rfl, rfl, z, rfl⟩)) hd hQ hk hs
theorem own_retA (X : Stand p l e R s m args below meth c T locs cells slots) (hx : p.tables.exec = Jvm.exec) (hlk : meth.locks = false) {pc : Nat} {Ls : Array Slot} {w : Value} {t : FieldType} {rest : List Value} (hret : meth.sig.returnType = some t) (ht : t.isReference = true) (hw : w.isRef = true) (hd : decode c.code pc = .ok (.areturn, 1)) {Q : Option Value → Heap → List Loc → Prop} {k n : Nat} (hQ : Q (some w) T.heap locs) (hk : cells ≤ k) (hs : slots ≤ n) : own_Go p e below (own_End s k n Q) T (mkF m pc Ls (w :: rest)) :=
  own_retW X hx hlk hret (by cases t <;> first | (cases ht; done) | (cases w <;> first | rfl | (cases hw; done))) (Or.inr (Or.inr (Or.inr (Or.inr ⟨rfl, ht, hw⟩)))) hd hQ hk hs
theorem own_retN (X : Stand p l e R s m args below meth c T locs cells slots) (hx : p.tables.exec = Jvm.exec) (hlk : meth.locks = false) {pc : Nat} {Ls : Array Slot} {z : Int32} {t : FieldType} {rest : List Value} (hret : meth.sig.returnType = some t) (ht : t = .boolean ∨ t = .byte ∨ t = .char ∨ t = .short) (hn : nar t z = z) (hd : decode c.code pc = .ok (.ireturn, 1)) {Q : Option Value → Heap → List Loc → Prop} {k n : Nat} (hQ : Q (some (.int z)) T.heap locs) (hk : cells ≤ k) (hs : slots ≤ n) : own_Go p e below (own_End s k n Q) T (mkF m pc Ls (.int z :: rest)) :=
  own_retW X hx hlk hret (by rcases ht with rfl | rfl | rfl | rfl <;> exact congrArg Value.int hn) (Or.inl ⟨rfl, Or.inr ht, z, rfl⟩) hd hQ hk hs
theorem own_ret0 (X : Stand p l e R s m args below meth c T locs cells slots) (hx : p.tables.exec = Jvm.exec) (hlk : meth.locks = false) {pc : Nat} {Ls : Array Slot} (hret : meth.sig.returnType = none) (hd : decode c.code pc = .ok (.return_, 1)) {Q : Option Value → Heap → List Loc → Prop} {k n : Nat} (hQ : Q none T.heap locs) (hk : cells ≤ k) (hs : slots ≤ n) : own_Go p e below (own_End s k n Q) T (mkF m pc Ls []) := by
  obtain ⟨fs, hr, hrun, hended, hW, hsame⟩ := X.leave (v := none) (fun _ => rfl) hlk
  exact ⟨_, _, X.returnOut hx hret hd hr, hrun, hended, _, _, rfl, hQ, ⟨_, rfl⟩, hW, hsame.mono hk hs⟩
theorem own_lrem {g : JFrame} {target : State} (X : Stand p l e R s m args below meth c T locs cells slots) (hx : p.tables.exec = Jvm.exec) (hg : g.method = m) {x y : Int64} {rest : List Value} (hd : decode c.code g.pc = .ok (.lrem, 1)) (hs : g.stack = .long y :: .long x :: rest) (hy : y ≠ 0)
    (hr : Steps p.tables e below (T.setTop { g with pc := g.pc + 1, stack := .long (x % y) :: rest }) target) : Steps p.tables e below (T.setTop g) target :=
  XS.lrem X.here hx hg hd hs hy (by rw [lrem_mod]; exact hr)
/-- a body's contract: called with as' at the heap h it returns, and Q speaks of what it returns, the heap that it leaves and the places that it wrote -/
abbrev own_Met (l : Launch) (Z : State) (y : MethodName) (bytes : ByteArray) (maxL : Nat) (rt : Option FieldType) (ws : List Jvm.Cond) (rm : Room) (as' : Array Value) (h : Heap) (Q : Option Value → Heap → List Loc → Prop) : Prop :=
  MetFree l y (head1 (Jvm.Cond.code y bytes maxL rt :: ws) rm) (fun a U => a = as' ∧ Z.Warmed39 U.vm ∧ U.heap = h) (fun _ _ _ _ _ => True) (fun _ U o U' => ∃ v L, o = .returned v ∧ Q v U'.heap L ∧ FrameEnd U o U' L rm.cells rm.slots)
theorem own_enter {y : MethodName} {bytes : ByteArray} {maxL : Nat} {rt : Option FieldType} {ws : List Jvm.Cond} {rm : Room} {as' : Array Value} {Q : Option Value → Heap → List Loc → Prop} (hy : plainFor y = true) {g0 : MethodId → JFrame} (hg0 : ∀ m, entryFrame m as' maxL = g0 m)
    (body : ∀ (p : Program) (e : Env) (s : State) (m : MethodId) (below : List Frame) (meth : Method) (c : Code) (s₁ : State), p.tables.exec = Jvm.exec → c.code = bytes → c.maxLocals = maxL → s.vm.findClass y.cls = some m.cls → meth.name = y.name → meth.sig.returnType = rt → meth.locks = false → Z.Warmed39 s.vm → Stand p l e rm s m as' below meth c s₁ [] 0 0 → s₁.heap = h → own_Go p e below (own_End s rm.cells rm.slots Q) s₁ (g0 m)) :
    own_Met l Z y bytes maxL rt ws rm as' h Q := by
  refine MetFree.of_bodySF hy hisR ?_
  intro p e s m args below meth c s₁ Bd hml0 hP hK
  obtain ⟨rfl, hZ, hh⟩ := hP
  obtain ⟨t, o, h1, h2, h3, h4⟩ := body p e s m below meth c s₁ Bd.exec Bd.bytes hml0 (findClass_of_methodNamed Bd.named) (name_of_methodNamed Bd.named Bd.method).1 Bd.returns (BodyLoose.notSynchronized Bd) hZ (Stand.of_body Bd) (by rw [← hh, Bd.state]; rfl)
  exact ⟨t, o, castTop (hg0 m) h1, h2, h3, h4⟩
theorem own_callS (X : Stand p l e R s m args below meth c T locs cells slots) (hx : p.tables.exec = Jvm.exec) (hZ : Z.Warmed39 s.vm) {own : String} (hown : s.vm.findClass own = some m.cls) {index : Nat} {y : MethodName} {bytes : ByteArray} {maxL : Nat} {rt : Option FieldType}
    (w1 : (Jvm.Cond.methodLink own index y).before a0 Z = true) (w2 : (Jvm.Cond.static y).before a0 Z = true) (w3 : (Jvm.Cond.initialized y.cls).before a0 Z = true) (w4 : (Jvm.Cond.code y bytes maxL rt).before a0 Z = true)
    (hy : y.cls ≠ "java/lang/invoke/MethodHandle" ∧ y.cls ≠ "java/lang/invoke/VarHandle") {rm : Room} {argsL rest : List Value} {Q : Option Value → Heap → List Loc → Prop} (eT : T.heap = h) (hM : own_Met l Z y bytes maxL rt [] rm argsL.toArray h Q)
    {g : JFrame} (hg : g.method = m) (hsize : g.locals.size = c.maxLocals) (hlen : ∀ sig, parseMethodDescriptor y.desc = some sig → argsL.length = sig.parameters.length) (hstack : g.stack = argsL.reverse ++ rest) {W : Nat} (hW : 2 * g.monitorRoom + (rest.map fun v => v.category).sum ≤ W) (hd : decode c.code g.pc = .ok (.invokestatic index, 3))
    (hf : rm.frames + 1 ≤ R.frames) (hl : W + (maxL + 11) + rm.locals ≤ R.locals) (hc : cells + rm.cells ≤ R.cells) (hs : slots + rm.slots ≤ R.slots) :
    ∃ v T' L, Stand p l e R s m args below meth c T' (locs ++ L) (cells + rm.cells) (slots + rm.slots) ∧ Q v T'.heap L ∧ ∀ target, Steps p.tables e below (T'.setTop { g with pc := g.pc + 3, stack := v.toList ++ rest }) target → Steps p.tables e below (T.setTop g) target := by
  obtain ⟨v, _, ⟨T1, L1, k1, n1⟩, -, X1, ⟨Lc, hQ, l1, y1, z1⟩, st⟩ := Jvm.LawKit.callS X hx (y := y) hown (mvT hZ w1) (mvT hZ w2) (mvT hZ w3) (mvT hZ w4) hy (backOf (W := W) hM hZ w4 w3 hf hl) (g := g) hg hsize (argsL := argsL) (rest := rest) hlen hstack hW hd (fun _ _ => ⟨rfl, eT, hc, hs⟩)
  dsimp only [Pt.U, Pt.locs, Pt.cells, Pt.slots] at X1 l1 y1 z1 st hQ
  subst l1 y1 z1
  exact ⟨v, T1, Lc, X1, hQ, st⟩
theorem own_callI (X : Stand p l e R s m args below meth c T locs cells slots) (hx : p.tables.exec = Jvm.exec) (hZ : Z.Warmed39 s.vm) {own : String} (hown : s.vm.findClass own = some m.cls) {index : Nat} {y : MethodName} {bytes : ByteArray} {maxL : Nat} (hy1 : y.name = "<init>")
    (w1 : (Jvm.Cond.methodLink own index y).before a0 Z = true) (w2 : (Jvm.Cond.instanceMethod y).before a0 Z = true) (w3 : (Jvm.Cond.initialized y.cls).before a0 Z = true) (w4 : (Jvm.Cond.code y bytes maxL none).before a0 Z = true)
    (hy : y.cls ≠ "java/lang/invoke/MethodHandle" ∧ y.cls ≠ "java/lang/invoke/VarHandle") {rm : Room} {a : Addr} {argsL rest : List Value} {Q : Option Value → Heap → List Loc → Prop} (eT : T.heap = h) (hM : own_Met l Z y bytes maxL none [] rm (.ref a :: argsL).toArray h Q)
    {g : JFrame} (hg : g.method = m) (hsize : g.locals.size = c.maxLocals) (hlen : ∀ sig, parseMethodDescriptor y.desc = some sig → argsL.length = sig.parameters.length) (hstack : g.stack = argsL.reverse ++ .ref a :: rest) {W : Nat} (hW : 2 * g.monitorRoom + (rest.map fun v => v.category).sum ≤ W) (hd : decode c.code g.pc = .ok (.invokespecial index, 3))
    (hf : rm.frames + 1 ≤ R.frames) (hl : W + (maxL + 11) + rm.locals ≤ R.locals) (hc : cells + rm.cells ≤ R.cells) (hs : slots + rm.slots ≤ R.slots) :
    ∃ v T' L, Stand p l e R s m args below meth c T' (locs ++ L) (cells + rm.cells) (slots + rm.slots) ∧ Q v T'.heap L ∧ ∀ target, Steps p.tables e below (T'.setTop { g with pc := g.pc + 3, stack := v.toList ++ rest }) target → Steps p.tables e below (T.setTop g) target := by
  obtain ⟨v, _, ⟨T1, L1, k1, n1⟩, -, X1, ⟨Lc, hQ, l1, y1, z1⟩, st⟩ := X.specialBack hx (y := y) hy1 hown (mvT hZ w1) (mvT hZ w2) (mvT hZ w4) hy (backOf (W := W) hM hZ w4 w3 hf hl) (g := g) hg hsize (Steps.refl _) (a := a) (argsL := argsL) (rest := rest) hlen hstack hW hd (fun _ _ => ⟨rfl, eT, hc, hs⟩)
  dsimp only [Pt.U, Pt.locs, Pt.cells, Pt.slots] at X1 l1 y1 z1 st hQ
  subst l1 y1 z1
  exact ⟨v, T1, Lc, X1, hQ, fun _ k => st.trans k⟩
theorem own_callV (X : Stand p l e R s m args below meth c T locs cells slots) (hx : p.tables.exec = Jvm.exec) (hZ : Z.Warmed39 s.vm) {own C : String} (hown : s.vm.findClass own = some m.cls) {index : Nat} {y : MethodName} {bytes : ByteArray} {maxL : Nat} {rt : Option FieldType}
    (w1 : (Jvm.Cond.methodLink own index y).before a0 Z = true) (w2 : (Jvm.Cond.declares y).before a0 Z = true) (w5 : (Jvm.Cond.selects C y y).before a0 Z = true) (w6 : (Jvm.Cond.instanceMethod y).before a0 Z = true) (w3 : (Jvm.Cond.initialized y.cls).before a0 Z = true) (w4 : (Jvm.Cond.code y bytes maxL rt).before a0 Z = true)
    (hy : y.cls ≠ "java/lang/invoke/MethodHandle" ∧ y.cls ≠ "java/lang/invoke/VarHandle") {rm : Room} {a : Addr} {argsL rest : List Value} {Q : Option Value → Heap → List Loc → Prop} (hE : Exa Z h a C) (eT : T.heap = h) (hM : own_Met l Z y bytes maxL rt [] rm (.ref a :: argsL).toArray h Q)
    {g : JFrame} (hg : g.method = m) (hsize : g.locals.size = c.maxLocals) (hlen : ∀ sig, parseMethodDescriptor y.desc = some sig → argsL.length = sig.parameters.length) (hstack : g.stack = argsL.reverse ++ .ref a :: rest) {W : Nat} (hW : 2 * g.monitorRoom + (rest.map fun v => v.category).sum ≤ W) (hd : decode c.code g.pc = .ok (.invokevirtual index, 3))
    (hf : rm.frames + 1 ≤ R.frames) (hl : W + (maxL + 11) + rm.locals ≤ R.locals) (hc : cells + rm.cells ≤ R.cells) (hs : slots + rm.slots ≤ R.slots) (hC : C = y.cls := by rfl) :
    ∃ v T' L, Stand p l e R s m args below meth c T' (locs ++ L) (cells + rm.cells) (slots + rm.slots) ∧ Q v T'.heap L ∧ ∀ target, Steps p.tables e below (T'.setTop { g with pc := g.pc + 3, stack := v.toList ++ rest }) target → Steps p.tables e below (T.setTop g) target := by
  subst hC
  obtain ⟨_, _, qa, -, qc⟩ := isOf hZ eT hE
  obtain ⟨v, _, ⟨T1, L1, k1, n1⟩, -, X1, ⟨Lc, hQ, l1, y1, z1⟩, st⟩ := X.virtualBack hx (y := y) (z := y) hown (mvT hZ w1) (mvT hZ w2) (notFace_of_selects (args := #[]) (mvT hZ w5)) (mvT hZ w5) (mvT hZ w6) hy (backOf (W := W) hM hZ w4 w3 hf hl) qa qc (g := g) hg hsize (Steps.refl _) (argsL := argsL) (rest := rest) hlen hstack hW hd (fun _ _ => ⟨rfl, eT, hc, hs⟩)
  dsimp only [Pt.U, Pt.locs, Pt.cells, Pt.slots] at X1 l1 y1 z1 st hQ
  subst l1 y1 z1
  exact ⟨v, T1, Lc, X1, hQ, fun _ k => st.trans k⟩
theorem own_callU (X : Stand p l e R s m args below meth c T locs cells slots) (hx : p.tables.exec = Jvm.exec) (hZ : Z.Warmed39 s.vm) {own C owner : String} (hown : s.vm.findClass own = some m.cls) {index : Nat} {x y : MethodName} {bytes : ByteArray} {maxL : Nat} {rt : Option FieldType}
    (w1 : (Jvm.Cond.methodLink own index x).before a0 Z = true) (w7 : (Jvm.Cond.sameMethod x.cls owner x.name x.desc).before a0 Z = true) (w2 : (Jvm.Cond.declares ⟨owner, x.name, x.desc⟩).before a0 Z = true) (hy : owner ≠ "java/lang/invoke/MethodHandle" ∧ owner ≠ "java/lang/invoke/VarHandle") (w5 : (Jvm.Cond.selects C x y).before a0 Z = true) (w6 : (Jvm.Cond.instanceMethod y).before a0 Z = true) (w3 : (Jvm.Cond.initialized y.cls).before a0 Z = true) (w4 : (Jvm.Cond.code y bytes maxL rt).before a0 Z = true)
    {rm : Room} {a : Addr} {argsL rest : List Value} {Q : Option Value → Heap → List Loc → Prop} (hE : Exa Z h a C) (eT : T.heap = h) (hM : own_Met l Z y bytes maxL rt [] rm (.ref a :: argsL).toArray h Q)
    {g : JFrame} (hg : g.method = m) (hsize : g.locals.size = c.maxLocals) (hlen : ∀ sig, parseMethodDescriptor x.desc = some sig → argsL.length = sig.parameters.length) (hstack : g.stack = argsL.reverse ++ .ref a :: rest) {W : Nat} (hW : 2 * g.monitorRoom + (rest.map fun v => v.category).sum ≤ W) (hd : decode c.code g.pc = .ok (.invokevirtual index, 3))
    (hf : rm.frames + 1 ≤ R.frames) (hl : W + (maxL + 11) + rm.locals ≤ R.locals) (hc : cells + rm.cells ≤ R.cells) (hs : slots + rm.slots ≤ R.slots) :
    ∃ v T' L, Stand p l e R s m args below meth c T' (locs ++ L) (cells + rm.cells) (slots + rm.slots) ∧ Q v T'.heap L ∧ ∀ target, Steps p.tables e below (T'.setTop { g with pc := g.pc + 3, stack := v.toList ++ rest }) target → Steps p.tables e below (T.setTop g) target := by
  obtain ⟨_, _, qa, -, qc⟩ := isOf hZ eT hE
  obtain ⟨v, _, ⟨T1, L1, k1, n1⟩, -, X1, ⟨Lc, hQ, l1, y1, z1⟩, st⟩ := X.virtualBackUp hx (x := x) (y := y) hown (mvT hZ w1) (mvT hZ w7) (mvT hZ w2) hy (mvT hZ w5) (mvT hZ w6) (backOf (W := W) hM hZ w4 w3 hf hl) qa qc (g := g) hg hsize (Steps.refl _) (argsL := argsL) (rest := rest) hlen hstack hW hd (fun _ _ => ⟨rfl, eT, hc, hs⟩)
  dsimp only [Pt.U, Pt.locs, Pt.cells, Pt.slots] at X1 l1 y1 z1 st hQ
  subst l1 y1 z1
  exact ⟨v, T1, Lc, X1, hQ, fun _ k => st.trans k⟩
theorem own_arv {a : Addr} {k : ClassId} {ty : FieldType} {z : Int32} {vs : List Value} {dv : Value} (V : Arv Z h a k ty z vs dv) {j : Int32} (q : ¬ j < 0 ∧ j < z) :
    ∃ cl : Cell, Arr Z h a cl ty ∧ cl.cls = k ∧ ¬ (j < 0 ∨ cl.slots.size ≤ j.toNatClampNeg) ∧ cl.slots[j.toNatClampNeg]? = some (vs.getD j.toNatClampNeg dv) ∧ ∀ {h' : Heap} {v : Value}, fits ty v = true → Wr h h' a j.toNatClampNeg v → ∀ i, j.toNatClampNeg = i → i < vs.length → Arv Z h' a k ty z (vs.set i v) dv := by
  obtain ⟨cl, A, q1, S, q3, H, G⟩ := V
  have hin := inb_of S q
  exact ⟨cl, A, q1, hin, Has.at H hin rfl, fun hf W i hj hi => Arv.set A q1 S q3 H G hf W i hj hi⟩
theorem own_len {a : Addr} {k : ClassId} {ty : FieldType} {z : Int32} {vs : List Value} {dv : Value} (V : Arv Z h a k ty z vs dv) : ∃ cl : Cell, Arr Z h a cl ty ∧ cl.slots.size.toInt32 = z := by
  obtain ⟨cl, A, q1, S, q3, -⟩ := V
  exact ⟨cl, A, len_of S q3⟩
theorem own_sta {C f d K : String} (hx : (Jvm.Cond.exactly (.static C f d) K).value args s none s [] = some true) (w1 : (Jvm.Cond.initialized C).before args s = true) (w2 : (Jvm.Cond.laysStatic C f d).before args s = true) :
    ∃ a, (Term.static C f d).eval args s none [] s = some (.ref a) ∧ Sta s s.heap C f d (.ref a) ∧ Exa s s.heap a K := by
  obtain ⟨a, ev⟩ := exa_v hx
  exact ⟨a, ev, Sta.start ev (Or.inr ⟨w1, w2⟩), Exa.start ev hx⟩
theorem own_fldI {t : Term} {C f d : String} {a : Addr} {k : Int32} (ev : t.eval args s none [] s = some (.ref a)) (hx : (Jvm.Cond.eq (.field t C f d) (.int k)).value args s none s [] = some true) : Fld s s.heap a C f d (.int k) := by
  obtain ⟨v, w, e1, e2, k1, k2⟩ := cmp_v (Or.inl hx)
  obtain rfl : w = .int k := Option.some.inj (e2.symm.trans (Term.int_eval k))
  obtain ⟨z, rfl⟩ : ∃ z, v = .int z := k2
  have q : z = k := by simpa [Cond.value, e1, e2] using hx
  subst q
  exact Fld.start (by rw [← fld_at ev]; exact e1)
theorem own_neS {t u : Term} {a b : Addr} (ea : t.eval args s none [] s = some (.ref a)) (eb : u.eval args s none [] s = some (.ref b)) (hx : (Jvm.Cond.not (.eq t u)).value args s none s [] = some true) : a ≠ b := fun q =>
  gotF (eq_R ea eb rfl rfl) (not_v hx) (congrArg Value.ref q)
theorem own_staK {C f d : String} {v : Value} {h' : Heap} {ws : List Addr} (S : Sta Z h C f d v) (K : Keep h h' ws) (q : ∀ x ∈ ws, ∀ cell : Cell, h[x]? = some cell → cell.vm.isStatics = false) : Sta Z h' C f d v := by
  obtain ⟨cf, i, k, fl, st, cell, h1, h2, h3, h4, h5, h6, h7⟩ := S
  refine ⟨cf, i, k, fl, st, cell, h1, h2, h3, h4, K.2.1 st cell h5 (fun hm => ?_), h6, h7⟩
  have := q st hm cell h5
  rw [h6] at this
  cases this
end OwnKit
section OwnW
variable {p : Program} {l : Launch} {e : Env} {R : Room} {s : State} {m : MethodId} {args : Array Value} {below : List Frame} {meth : Method} {c : Code} {T T' : State} {locs : List Loc} {cells slots : Nat} {Z : State} {a0 : Array Value} {h : Heap} {vm0 vm1 : Vm} {Ts : List String}
/-- an end behind a walk that may have interned: Q speaks of the tables too -/
def own_EndW (s : State) (k n : Nat) (Q : Option Value → Heap → List Loc → Vm → Prop) (t : State) (o : Outcome) : Prop :=
  ∃ v L, o = .returned v ∧ Q v t.heap L t.vm ∧ ReturnedEndW s o t L k n
/-- a contract of a body that may intern; PV: what it asks of the tables at its start -/
abbrev own_MetW (l : Launch) (Z : State) (y : MethodName) (bytes : ByteArray) (maxL : Nat) (rt : Option FieldType) (ws : List Jvm.Cond) (rm : Room) (as' : Array Value) (h : Heap) (PV : Vm → Prop) (Q : Option Value → Heap → List Loc → Vm → Prop) : Prop :=
  MetFree l y (head1 (Jvm.Cond.code y bytes maxL rt :: ws) rm) (fun a U => a = as' ∧ Z.Warmed39 U.vm ∧ U.heap = h ∧ PV U.vm) (fun _ _ _ _ _ => True) (fun _ U o U' => ∃ v L, o = .returned v ∧ Q v U'.heap L U'.vm ∧ ReturnedEndW U o U' L rm.cells rm.slots)
theorem own_enterW {y : MethodName} {bytes : ByteArray} {maxL : Nat} {rt : Option FieldType} {ws : List Jvm.Cond} {rm : Room} {as' : Array Value} {PV : Vm → Prop} {Q : Option Value → Heap → List Loc → Vm → Prop} (hy : plainFor y = true) {g0 : MethodId → JFrame} (hg0 : ∀ m, entryFrame m as' maxL = g0 m)
    (body : ∀ (p : Program) (e : Env) (s : State) (m : MethodId) (below : List Frame) (meth : Method) (c : Code) (s₁ : State), p.tables.exec = Jvm.exec → c.code = bytes → c.maxLocals = maxL → (s.setVm s.vm).vm.findClass y.cls = some m.cls → meth.name = y.name → meth.sig.returnType = rt → meth.locks = false → Z.Warmed39 (s.setVm s.vm).vm → PV s.vm → Stand p l e rm (s.setVm s.vm) m as' below meth c s₁ [] 0 0 → s₁.heap = h → s.heap = h → own_Go p e below (own_EndW s rm.cells rm.slots Q) s₁ (g0 m)) :
    own_MetW l Z y bytes maxL rt ws rm as' h PV Q := by
  refine MetFree.of_bodySF hy hisR ?_
  intro p e s m args below meth c s₁ Bd hml0 hP hK
  obtain ⟨rfl, hZ, hh, hPV⟩ := hP
  obtain ⟨t, o, h1, h2, h3, h4⟩ := body p e s m below meth c s₁ Bd.exec Bd.bytes hml0 (findClass_of_methodNamed Bd.named) (name_of_methodNamed Bd.named Bd.method).1 Bd.returns (BodyLoose.notSynchronized Bd) hZ hPV (Stand.of_body Bd) (by rw [← hh, Bd.state]; rfl) hh
  exact ⟨t, o, castTop (hg0 m) h1, h2, h3, h4⟩
theorem own_rewMono {s t : State} {o : Outcome} {L : List Loc} {k n k' n' : Nat} (q : ReturnedEndW s o t L k n) (hk : k ≤ k') (hn : n ≤ n') : ReturnedEndW s o t L k' n' := ⟨q.1, q.2.1, q.2.2.1, q.2.2.2.mono hk hn⟩
theorem own_retWW (X : Stand p l e R (s.setVm vm0) m args below meth c T locs cells slots) (hx : p.tables.exec = Jvm.exec) (hlk : meth.locks = false) {k0 : Nat} (hS : s.Since vm0 k0) (hk0 : k0 ≤ h.size) (eT : T.heap = h) {pc : Nat} {Ls : Array Slot} {w : Value} {t : FieldType} {i : Instr} {rest : List Value} (hret : meth.sig.returnType = some t) (hn : narrow t w = w)
    (hi : (i = .ireturn ∧ (t = .int ∨ t = .boolean ∨ t = .byte ∨ t = .char ∨ t = .short) ∧ ∃ z, w = .int z) ∨ (i = .lreturn ∧ t = .long ∧ ∃ z, w = .long z) ∨ (i = .dreturn ∧ t = .double ∧ ∃ z, w = .double z) ∨ (i = .freturn ∧ t = .float ∧ ∃ z, w = .float z) ∨ (i = .areturn ∧ t.isReference = true ∧ w.isRef = true))
    (hd : decode c.code pc = .ok (i, 1)) {Q : Option Value → Heap → List Loc → Vm → Prop} {k n : Nat} (hQ : Q (some w) T.heap locs T.vm) (hk : cells ≤ k) (hs : slots ≤ n) : own_Go p e below (own_EndW s k n Q) T (mkF m pc Ls (w :: rest)) := by
  obtain ⟨fs, hr, hrun, hended, hE⟩ := X.leaveW hS (by rw [eT]; exact hk0) (v := some w) (fun h => by rw [hret] at h; cases h) hlk
  exact ⟨_, _, retOut X hx hret hn hi hd hr, hrun, hended, _, _, rfl, hQ, own_rewMono hE hk hs⟩
theorem own_retIW (X : Stand p l e R (s.setVm vm0) m args below meth c T locs cells slots) (hx : p.tables.exec = Jvm.exec) (hlk : meth.locks = false) {k0 : Nat} (hS : s.Since vm0 k0) (hk0 : k0 ≤ h.size) (eT : T.heap = h) {pc : Nat} {Ls : Array Slot} {z : Int32} {rest : List Value} (hret : meth.sig.returnType = some .int) (hd : decode c.code pc = .ok (.ireturn, 1)) {Q : Option Value → Heap → List Loc → Vm → Prop} {k n : Nat} (hQ : Q (some (.int z)) T.heap locs T.vm) (hk : cells ≤ k) (hs : slots ≤ n) : own_Go p e below (own_EndW s k n Q) T (mkF m pc Ls (.int z :: rest)) :=
  own_retWW X hx hlk hS hk0 eT hret rfl (Or.inl ⟨rfl, Or.inl rfl, z, rfl⟩) hd hQ hk hs
theorem own_retNW (X : Stand p l e R (s.setVm vm0) m args below meth c T locs cells slots) (hx : p.tables.exec = Jvm.exec) (hlk : meth.locks = false) {k0 : Nat} (hS : s.Since vm0 k0) (hk0 : k0 ≤ h.size) (eT : T.heap = h) {pc : Nat} {Ls : Array Slot} {z : Int32} {t : FieldType} {rest : List Value} (hret : meth.sig.returnType = some t) (ht : t = .boolean ∨ t = .byte ∨ t = .char ∨ t = .short) (hn : nar t z = z) (hd : decode c.code pc = .ok (.ireturn, 1)) {Q : Option Value → Heap → List Loc → Vm → Prop} {k n : Nat} (hQ : Q (some (.int z)) T.heap locs T.vm) (hk : cells ≤ k) (hs : slots ≤ n) : own_Go p e below (own_EndW s k n Q) T (mkF m pc Ls (.int z :: rest)) :=
  own_retWW X hx hlk hS hk0 eT hret (by rcases ht with rfl | rfl | rfl | rfl <;> exact congrArg Value.int hn) (Or.inl ⟨rfl, Or.inr ht, z, rfl⟩) hd hQ hk hs
theorem own_retAW (X : Stand p l e R (s.setVm vm0) m args below meth c T locs cells slots) (hx : p.tables.exec = Jvm.exec) (hlk : meth.locks = false) {k0 : Nat} (hS : s.Since vm0 k0) (hk0 : k0 ≤ h.size) (eT : T.heap = h) {pc : Nat} {Ls : Array Slot} {w : Value} {t : FieldType} {rest : List Value} (hret : meth.sig.returnType = some t) (ht : t.isReference = true) (hw : w.isRef = true) (hd : decode c.code pc = .ok (.areturn, 1)) {Q : Option Value → Heap → List Loc → Vm → Prop} {k n : Nat} (hQ : Q (some w) T.heap locs T.vm) (hk : cells ≤ k) (hs : slots ≤ n) : own_Go p e below (own_EndW s k n Q) T (mkF m pc Ls (w :: rest)) :=
  own_retWW X hx hlk hS hk0 eT hret (by cases t <;> first | (cases ht; done) | (cases w <;> first | rfl | (cases hw; done))) (Or.inr (Or.inr (Or.inr (Or.inr ⟨rfl, ht, hw⟩)))) hd hQ hk hs
theorem own_ret0W (X : Stand p l e R (s.setVm vm0) m args below meth c T locs cells slots) (hx : p.tables.exec = Jvm.exec) (hlk : meth.locks = false) {k0 : Nat} (hS : s.Since vm0 k0) (hk0 : k0 ≤ h.size) (eT : T.heap = h) {pc : Nat} {Ls : Array Slot} (hret : meth.sig.returnType = none) (hd : decode c.code pc = .ok (.return_, 1)) {Q : Option Value → Heap → List Loc → Vm → Prop} {k n : Nat} (hQ : Q none T.heap locs T.vm) (hk : cells ≤ k) (hs : slots ≤ n) : own_Go p e below (own_EndW s k n Q) T (mkF m pc Ls []) := by
  obtain ⟨fs, hr, hrun, hended, hE⟩ := X.leaveW hS (by rw [eT]; exact hk0) (v := none) (fun _ => rfl) hlk
  exact ⟨_, _, X.returnOut hx hret hd hr, hrun, hended, _, _, rfl, hQ, own_rewMono hE hk hs⟩
theorem own_ibX (X : Stand p l e R (s.setVm vm0) m args below meth c T locs cells slots) (I : IB Z vm0 Ts) : IB Z T.vm Ts := by
  obtain ⟨more, q, hm⟩ := I
  exact ⟨more, X.warmed.interned_eq.trans q, hm⟩
theorem own_ibW (I : IB Z vm0 Ts) (hv : (s.setVm vm0).WarmedH vm1) : IB Z vm1 Ts := by
  obtain ⟨more, q, hm⟩ := I
  exact ⟨more, hv.interned_eq.trans q, hm⟩
theorem own_ibM (I : IB Z vm0 Ts) {Us : List String} (hq : ∀ t ∈ Ts, t ∈ Us) : IB Z vm0 Us := by
  obtain ⟨more, q, hm⟩ := I
  exact ⟨more, q, fun x hx => by obtain ⟨t, ht, hd⟩ := hm x hx; exact ⟨t, hq t ht, hd⟩⟩
theorem own_backOfW {y : MethodName} {bytes : ByteArray} {maxL : Nat} {ret : Option FieldType} {rm : Room} {len W : Nat} {as' : Array Value} {PV : Vm → Prop} {Q : Option Value → Heap → List Loc → Vm → Prop}
    (hM : own_MetW l Z y bytes maxL ret [] rm as' h PV Q) (hZ : Z.Warmed39 s.vm) (wc : (Jvm.Cond.code y bytes maxL ret).before a0 Z = true) (wz : (Jvm.Cond.initialized y.cls).before a0 Z = true) (hf : rm.frames + 1 ≤ R.frames) (hl : W + (maxL + 11) + rm.locals ≤ R.locals) :
    BackS l R p e below s args y len W (fun A a => a = as' ∧ A.U.heap = h ∧ PV A.U.vm ∧ A.cells + rm.cells ≤ R.cells ∧ A.slots + rm.slots ≤ R.slots)
      (fun A _ v B => ∃ L, Q v B.U.heap L B.U.vm ∧ B.locs = A.locs ++ L ∧ B.cells = A.cells + rm.cells ∧ B.slots = A.slots + rm.slots) :=
  BackS.of_freeW (bytes := bytes) (maxL := maxL) (ret := ret) (E := fun _ _ o t L k n => k = rm.cells ∧ n = rm.slots ∧ ∃ v, o = .returned v ∧ Q v t.heap L t.vm) hM hf hl
    (fun m meth c A a Y hp => have hU : Z.Warmed39 A.U.vm := wtrans hZ Y.warmed
      ⟨by show (Cond.and _ .tt).before a A.U = true; rw [Cond.before_and, mv hU wc]; rfl, mv hU wc, mv hU wz, hp.2.2.2.1, hp.2.2.2.2⟩)
    (fun m meth c A a g mk Y hp => ⟨hp.1, wtrans hZ Y.warmed, hp.2.1, hp.2.2.1⟩) (fun _ _ _ _ _ _ _ _ _ => trivial)
    (fun _ _ _ _ ⟨v, L, h1, h2, h3⟩ => ⟨L, _, _, h3, rfl, rfl, v, h1, h2⟩)
    (fun m meth c A a g mk v t L k n Y hp _ _ ⟨e1, e2, v', e3, e4⟩ => by cases e3; subst e1 e2; exact ⟨L, e4, rfl, rfl, rfl⟩)
theorem own_callSW (X : Stand p l e R (s.setVm vm0) m args below meth c T locs cells slots) (hx : p.tables.exec = Jvm.exec) (hZ : Z.Warmed39 (s.setVm vm0).vm) {own : String} (hown : (s.setVm vm0).vm.findClass own = some m.cls) {k0 : Nat} (hS : s.Since vm0 k0) (hk0 : k0 ≤ h.size) {index : Nat} {y : MethodName} {bytes : ByteArray} {maxL : Nat} {rt : Option FieldType}
    (w1 : (Jvm.Cond.methodLink own index y).before a0 Z = true) (w2 : (Jvm.Cond.static y).before a0 Z = true) (w3 : (Jvm.Cond.initialized y.cls).before a0 Z = true) (w4 : (Jvm.Cond.code y bytes maxL rt).before a0 Z = true)
    (hy : y.cls ≠ "java/lang/invoke/MethodHandle" ∧ y.cls ≠ "java/lang/invoke/VarHandle") {rm : Room} {argsL rest : List Value} {PV : Vm → Prop} {Q : Option Value → Heap → List Loc → Vm → Prop} (hPV : ∀ vm₁, (s.setVm vm0).WarmedH vm₁ → PV vm₁) (eT : T.heap = h) (hM : own_MetW l Z y bytes maxL rt [] rm argsL.toArray h PV Q)
    {g : JFrame} (hg : g.method = m) (hsize : g.locals.size = c.maxLocals) (hlen : ∀ sig, parseMethodDescriptor y.desc = some sig → argsL.length = sig.parameters.length) (hstack : g.stack = argsL.reverse ++ rest) {W : Nat} (hW : 2 * g.monitorRoom + (rest.map fun v => v.category).sum ≤ W) (hd : decode c.code g.pc = .ok (.invokestatic index, 3))
    (hf : rm.frames + 1 ≤ R.frames) (hl : W + (maxL + 11) + rm.locals ≤ R.locals) (hc : cells + rm.cells ≤ R.cells) (hs : slots + rm.slots ≤ R.slots) :
    ∃ v T' L k1, Stand p l e R (s.setVm T'.vm) m args below meth c T' (locs ++ L) (cells + rm.cells) (slots + rm.slots) ∧ Q v T'.heap L T'.vm ∧ s.Since T'.vm k1 ∧ k1 ≤ T'.heap.size ∧ Z.Warmed39 (s.setVm T'.vm).vm ∧ (s.setVm T'.vm).vm.findClass own = some m.cls ∧ ∀ target, Steps p.tables e below (T'.setTop { g with pc := g.pc + 3, stack := v.toList ++ rest }) target → Steps p.tables e below (T.setTop g) target := by
  obtain ⟨v, _, ⟨T1, L1, k1, n1⟩, -, X1, hS1, hgr, ⟨Lc, hQ, l1, y1, z1⟩, st⟩ := Jvm.RoadKit.callSS X hx (y := y) hown (mvT hZ w1) (mvT hZ w2) (mvT hZ w3) (mvT hZ w4) hy (own_backOfW (W := W) hM hZ w4 w3 hf hl) (g := g) hg hsize (argsL := argsL) (rest := rest) hlen hstack hW hd (fun vm₁ hv => ⟨rfl, eT, hPV vm₁ hv, hc, hs⟩)
  dsimp only [Pt.U, Pt.locs, Pt.cells, Pt.slots] at X1 hS1 hgr l1 y1 z1 st hQ
  subst l1 y1 z1
  obtain ⟨X2, hS2, hZ2, hown2⟩ := rebS hS (by rw [← eT] at hk0; exact hk0) X1 hS1 hgr hZ hown
  exact ⟨v, T1, Lc, _, X2, hQ, hS2, Nat.le_refl _, hZ2, hown2, fun _ k => st.trans k⟩
theorem own_callIW (X : Stand p l e R (s.setVm vm0) m args below meth c T locs cells slots) (hx : p.tables.exec = Jvm.exec) (hZ : Z.Warmed39 (s.setVm vm0).vm) {own : String} (hown : (s.setVm vm0).vm.findClass own = some m.cls) {k0 : Nat} (hS : s.Since vm0 k0) (hk0 : k0 ≤ h.size) {index : Nat} {y : MethodName} {bytes : ByteArray} {maxL : Nat} (hy1 : y.name = "<init>")
    (w1 : (Jvm.Cond.methodLink own index y).before a0 Z = true) (w2 : (Jvm.Cond.instanceMethod y).before a0 Z = true) (w3 : (Jvm.Cond.initialized y.cls).before a0 Z = true) (w4 : (Jvm.Cond.code y bytes maxL none).before a0 Z = true)
    (hy : y.cls ≠ "java/lang/invoke/MethodHandle" ∧ y.cls ≠ "java/lang/invoke/VarHandle") {rm : Room} {a : Addr} {argsL rest : List Value} {PV : Vm → Prop} {Q : Option Value → Heap → List Loc → Vm → Prop} (hPV : ∀ vm₁, (s.setVm vm0).WarmedH vm₁ → PV vm₁) (eT : T.heap = h) (hM : own_MetW l Z y bytes maxL none [] rm (.ref a :: argsL).toArray h PV Q)
    {g : JFrame} (hg : g.method = m) (hsize : g.locals.size = c.maxLocals) (hlen : ∀ sig, parseMethodDescriptor y.desc = some sig → argsL.length = sig.parameters.length) (hstack : g.stack = argsL.reverse ++ .ref a :: rest) {W : Nat} (hW : 2 * g.monitorRoom + (rest.map fun v => v.category).sum ≤ W) (hd : decode c.code g.pc = .ok (.invokespecial index, 3))
    (hf : rm.frames + 1 ≤ R.frames) (hl : W + (maxL + 11) + rm.locals ≤ R.locals) (hc : cells + rm.cells ≤ R.cells) (hs : slots + rm.slots ≤ R.slots) :
    ∃ v T' L k1, Stand p l e R (s.setVm T'.vm) m args below meth c T' (locs ++ L) (cells + rm.cells) (slots + rm.slots) ∧ Q v T'.heap L T'.vm ∧ s.Since T'.vm k1 ∧ k1 ≤ T'.heap.size ∧ Z.Warmed39 (s.setVm T'.vm).vm ∧ (s.setVm T'.vm).vm.findClass own = some m.cls ∧ ∀ target, Steps p.tables e below (T'.setTop { g with pc := g.pc + 3, stack := v.toList ++ rest }) target → Steps p.tables e below (T.setTop g) target := by
  obtain ⟨v, _, ⟨T1, L1, k1, n1⟩, -, X1, hS1, hgr, ⟨Lc, hQ, l1, y1, z1⟩, st⟩ := X.specialBackS hx (y := y) hy1 hown (mvT hZ w1) (mvT hZ w2) (mvT hZ w4) hy (own_backOfW (W := W) hM hZ w4 w3 hf hl) (g := g) hg hsize (Steps.refl _) (a := a) (argsL := argsL) (rest := rest) hlen hstack hW hd (fun vm₁ hv => ⟨rfl, eT, hPV vm₁ hv, hc, hs⟩)
  dsimp only [Pt.U, Pt.locs, Pt.cells, Pt.slots] at X1 hS1 hgr l1 y1 z1 st hQ
  subst l1 y1 z1
  obtain ⟨X2, hS2, hZ2, hown2⟩ := rebS hS (by rw [← eT] at hk0; exact hk0) X1 hS1 hgr hZ hown
  exact ⟨v, T1, Lc, _, X2, hQ, hS2, Nat.le_refl _, hZ2, hown2, fun _ k => st.trans k⟩
theorem own_callVW (X : Stand p l e R (s.setVm vm0) m args below meth c T locs cells slots) (hx : p.tables.exec = Jvm.exec) (hZ : Z.Warmed39 (s.setVm vm0).vm) {own C : String} (hown : (s.setVm vm0).vm.findClass own = some m.cls) {k0 : Nat} (hS : s.Since vm0 k0) (hk0 : k0 ≤ h.size) {index : Nat} {y : MethodName} {bytes : ByteArray} {maxL : Nat} {rt : Option FieldType}
    (w1 : (Jvm.Cond.methodLink own index y).before a0 Z = true) (w2 : (Jvm.Cond.declares y).before a0 Z = true) (w5 : (Jvm.Cond.selects C y y).before a0 Z = true) (w6 : (Jvm.Cond.instanceMethod y).before a0 Z = true) (w3 : (Jvm.Cond.initialized y.cls).before a0 Z = true) (w4 : (Jvm.Cond.code y bytes maxL rt).before a0 Z = true)
    (hy : y.cls ≠ "java/lang/invoke/MethodHandle" ∧ y.cls ≠ "java/lang/invoke/VarHandle") {rm : Room} {a : Addr} {argsL rest : List Value} {PV : Vm → Prop} {Q : Option Value → Heap → List Loc → Vm → Prop} (hE : Exa Z h a C) (hPV : ∀ vm₁, (s.setVm vm0).WarmedH vm₁ → PV vm₁) (eT : T.heap = h) (hM : own_MetW l Z y bytes maxL rt [] rm (.ref a :: argsL).toArray h PV Q)
    {g : JFrame} (hg : g.method = m) (hsize : g.locals.size = c.maxLocals) (hlen : ∀ sig, parseMethodDescriptor y.desc = some sig → argsL.length = sig.parameters.length) (hstack : g.stack = argsL.reverse ++ .ref a :: rest) {W : Nat} (hW : 2 * g.monitorRoom + (rest.map fun v => v.category).sum ≤ W) (hd : decode c.code g.pc = .ok (.invokevirtual index, 3))
    (hf : rm.frames + 1 ≤ R.frames) (hl : W + (maxL + 11) + rm.locals ≤ R.locals) (hc : cells + rm.cells ≤ R.cells) (hs : slots + rm.slots ≤ R.slots) (hC : C = y.cls := by rfl) :
    ∃ v T' L k1, Stand p l e R (s.setVm T'.vm) m args below meth c T' (locs ++ L) (cells + rm.cells) (slots + rm.slots) ∧ Q v T'.heap L T'.vm ∧ s.Since T'.vm k1 ∧ k1 ≤ T'.heap.size ∧ Z.Warmed39 (s.setVm T'.vm).vm ∧ (s.setVm T'.vm).vm.findClass own = some m.cls ∧ ∀ target, Steps p.tables e below (T'.setTop { g with pc := g.pc + 3, stack := v.toList ++ rest }) target → Steps p.tables e below (T.setTop g) target := by
  subst hC
  obtain ⟨_, _, qa, -, qc⟩ := isOf hZ eT hE
  obtain ⟨v, _, ⟨T1, L1, k1, n1⟩, -, X1, hS1, hgr, ⟨Lc, hQ, l1, y1, z1⟩, st⟩ := X.virtualBackS hx (y := y) (z := y) hown (mvT hZ w1) (mvT hZ w2) (notFace_of_selects (args := #[]) (mvT hZ w5)) (mvT hZ w5) (mvT hZ w6) hy (own_backOfW (W := W) hM hZ w4 w3 hf hl) qa qc (g := g) hg hsize (Steps.refl _) (argsL := argsL) (rest := rest) hlen hstack hW hd (fun vm₁ hv => ⟨rfl, eT, hPV vm₁ hv, hc, hs⟩)
  dsimp only [Pt.U, Pt.locs, Pt.cells, Pt.slots] at X1 hS1 hgr l1 y1 z1 st hQ
  subst l1 y1 z1
  obtain ⟨X2, hS2, hZ2, hown2⟩ := rebS hS (by rw [← eT] at hk0; exact hk0) X1 hS1 hgr hZ hown
  exact ⟨v, T1, Lc, _, X2, hQ, hS2, Nat.le_refl _, hZ2, hown2, fun _ k => st.trans k⟩
/-- a call of a constructor by a law of the library's form Back -/
theorem own_callIB (X : Stand p l e R s m args below meth c T locs cells slots) (hx : p.tables.exec = Jvm.exec) (hZ : Z.Warmed39 s.vm) {own : String} (hown : s.vm.findClass own = some m.cls) {index : Nat} {y : MethodName} {bytes : ByteArray} {maxL : Nat} (hy1 : y.name = "<init>")
    (w1 : (Jvm.Cond.methodLink own index y).before a0 Z = true) (w2 : (Jvm.Cond.instanceMethod y).before a0 Z = true) (w4 : (Jvm.Cond.code y bytes maxL none).before a0 Z = true)
    (hy : y.cls ≠ "java/lang/invoke/MethodHandle" ∧ y.cls ≠ "java/lang/invoke/VarHandle") {W rc rs : Nat} {a : Addr} {argsL rest : List Value} {Q : Option Value → Heap → List Loc → Prop} (eT : T.heap = h)
    (hB : Back l R p e below s args y 3 W (fun P b => b = (.ref a :: argsL).toArray ∧ P.U.heap = h ∧ P.cells + rc ≤ R.cells ∧ P.slots + rs ≤ R.slots) (fun P _ v B => ∃ L, Q v B.U.heap L ∧ B.locs = P.locs ++ L ∧ B.cells = P.cells + rc ∧ B.slots = P.slots + rs))
    {g : JFrame} (hg : g.method = m) (hsize : g.locals.size = c.maxLocals) (hlen : ∀ sig, parseMethodDescriptor y.desc = some sig → argsL.length = sig.parameters.length) (hstack : g.stack = argsL.reverse ++ .ref a :: rest) (hW : 2 * g.monitorRoom + (rest.map fun v => v.category).sum ≤ W) (hd : decode c.code g.pc = .ok (.invokespecial index, 3))
    (hc : cells + rc ≤ R.cells) (hs : slots + rs ≤ R.slots) :
    ∃ v T' L, Stand p l e R s m args below meth c T' (locs ++ L) (cells + rc) (slots + rs) ∧ Q v T'.heap L ∧ ∀ target, Steps p.tables e below (T'.setTop { g with pc := g.pc + 3, stack := v.toList ++ rest }) target → Steps p.tables e below (T.setTop g) target := by
  obtain ⟨v, _, ⟨T1, L1, k1, n1⟩, -, X1, ⟨Lc, hQ, l1, y1, z1⟩, st⟩ := X.specialBack hx (y := y) hy1 hown (mvT hZ w1) (mvT hZ w2) (mvT hZ w4) hy hB (g := g) hg hsize (Steps.refl _) (a := a) (argsL := argsL) (rest := rest) hlen hstack hW hd (fun _ _ => ⟨rfl, eT, hc, hs⟩)
  dsimp only [Pt.U, Pt.locs, Pt.cells, Pt.slots] at X1 l1 y1 z1 st hQ
  subst l1 y1 z1
  exact ⟨v, T1, Lc, X1, hQ, fun _ k => st.trans k⟩
/-- a virtual call by a law of the library's form Back -/
theorem own_callVB (X : Stand p l e R s m args below meth c T locs cells slots) (hx : p.tables.exec = Jvm.exec) (hZ : Z.Warmed39 s.vm) {own C : String} (hown : s.vm.findClass own = some m.cls) {index : Nat} {y : MethodName}
    (w1 : (Jvm.Cond.methodLink own index y).before a0 Z = true) (w2 : (Jvm.Cond.declares y).before a0 Z = true) (w5 : (Jvm.Cond.selects C y y).before a0 Z = true) (w6 : (Jvm.Cond.instanceMethod y).before a0 Z = true)
    (hy : y.cls ≠ "java/lang/invoke/MethodHandle" ∧ y.cls ≠ "java/lang/invoke/VarHandle") {W rc rs : Nat} {a : Addr} {argsL rest : List Value} {Q : Option Value → Heap → List Loc → Prop} (hE : Exa Z h a C) (eT : T.heap = h)
    (hB : Back l R p e below s args y 3 W (fun P b => b = (.ref a :: argsL).toArray ∧ P.U.heap = h ∧ P.cells + rc ≤ R.cells ∧ P.slots + rs ≤ R.slots) (fun P _ v B => ∃ L, Q v B.U.heap L ∧ B.locs = P.locs ++ L ∧ B.cells = P.cells + rc ∧ B.slots = P.slots + rs))
    {g : JFrame} (hg : g.method = m) (hsize : g.locals.size = c.maxLocals) (hlen : ∀ sig, parseMethodDescriptor y.desc = some sig → argsL.length = sig.parameters.length) (hstack : g.stack = argsL.reverse ++ .ref a :: rest) (hW : 2 * g.monitorRoom + (rest.map fun v => v.category).sum ≤ W) (hd : decode c.code g.pc = .ok (.invokevirtual index, 3))
    (hc : cells + rc ≤ R.cells) (hs : slots + rs ≤ R.slots) (hC : C = y.cls := by rfl) :
    ∃ v T' L, Stand p l e R s m args below meth c T' (locs ++ L) (cells + rc) (slots + rs) ∧ Q v T'.heap L ∧ ∀ target, Steps p.tables e below (T'.setTop { g with pc := g.pc + 3, stack := v.toList ++ rest }) target → Steps p.tables e below (T.setTop g) target := by
  subst hC
  obtain ⟨_, _, qa, -, qc⟩ := isOf hZ eT hE
  obtain ⟨v, _, ⟨T1, L1, k1, n1⟩, -, X1, ⟨Lc, hQ, l1, y1, z1⟩, st⟩ := X.virtualBack hx (y := y) (z := y) hown (mvT hZ w1) (mvT hZ w2) (notFace_of_selects (args := #[]) (mvT hZ w5)) (mvT hZ w5) (mvT hZ w6) hy hB qa qc (g := g) hg hsize (Steps.refl _) (argsL := argsL) (rest := rest) hlen hstack hW hd (fun _ _ => ⟨rfl, eT, hc, hs⟩)
  dsimp only [Pt.U, Pt.locs, Pt.cells, Pt.slots] at X1 l1 y1 z1 st hQ
  subst l1 y1 z1
  exact ⟨v, T1, Lc, X1, hQ, fun _ k => st.trans k⟩
/-- invokeinterface -/
theorem own_callF (X : Stand p l e R s m args below meth c T locs cells slots) (hx : p.tables.exec = Jvm.exec) (hZ : Z.Warmed39 s.vm) {own C : String} (hown : s.vm.findClass own = some m.cls) {index count : Nat} {xi y : MethodName} {bytes : ByteArray} {maxL : Nat} {rt : Option FieldType}
    (w1 : (Jvm.Cond.methodLink own index xi).before a0 Z = true) (w2 : (Jvm.Cond.declares xi).before a0 Z = true) (wf : (Jvm.Cond.interfaceMethod xi.cls xi.cls xi.name xi.desc).before args s = true) (w5 : (Jvm.Cond.selects C xi y).before a0 Z = true) (w6 : (Jvm.Cond.instanceMethod y).before a0 Z = true) (wp : (Jvm.Cond.publicMethod y).before a0 Z = true) (wu : (Jvm.Cond.unhidden C xi.name xi.desc).before a0 Z = true) (wc : (Jvm.Cond.castable C xi.cls).before a0 Z = true) (w3 : (Jvm.Cond.initialized y.cls).before a0 Z = true) (w4 : (Jvm.Cond.code y bytes maxL rt).before a0 Z = true)
    (hy : xi.cls ≠ "java/lang/invoke/MethodHandle" ∧ xi.cls ≠ "java/lang/invoke/VarHandle") {rm : Room} {a : Addr} {argsL rest : List Value} {Q : Option Value → Heap → List Loc → Prop} (hE : Exa Z h a C) (eT : T.heap = h) (hM : own_Met l Z y bytes maxL rt [] rm (.ref a :: argsL).toArray h Q)
    {g : JFrame} (hg : g.method = m) (hsize : g.locals.size = c.maxLocals) (hlen : ∀ sig, parseMethodDescriptor xi.desc = some sig → argsL.length = sig.parameters.length) (hstack : g.stack = argsL.reverse ++ .ref a :: rest) {W : Nat} (hW : 2 * g.monitorRoom + (rest.map fun v => v.category).sum ≤ W) (hd : decode c.code g.pc = .ok (.invokeinterface index count, 5))
    (hf : rm.frames + 1 ≤ R.frames) (hl : W + (maxL + 11) + rm.locals ≤ R.locals) (hc : cells + rm.cells ≤ R.cells) (hs : slots + rm.slots ≤ R.slots) :
    ∃ v T' L, Stand p l e R s m args below meth c T' (locs ++ L) (cells + rm.cells) (slots + rm.slots) ∧ Q v T'.heap L ∧ ∀ target, Steps p.tables e below (T'.setTop { g with pc := g.pc + 5, stack := v.toList ++ rest }) target → Steps p.tables e below (T.setTop g) target := by
  obtain ⟨_, _, qa, qb, qc⟩ := isOf hZ eT hE
  obtain ⟨v, _, ⟨T1, L1, k1, n1⟩, -, X1, ⟨Lc, hQ, l1, y1, z1⟩, st⟩ := X.interfaceBack hx (xi := xi) (y := y) hown (mvT hZ w1) (mvT hZ w2) wf (mvT hZ w5) (mvT hZ w6) (mvT hZ wp) (mvT hZ wu) (mvT hZ wc) hy (backOf (W := W) hM hZ w4 w3 hf hl) qa qb qc (g := g) hg hsize (Steps.refl _) (argsL := argsL) (rest := rest) hlen hstack hW hd (fun _ _ => ⟨rfl, eT, hc, hs⟩)
  dsimp only [Pt.U, Pt.locs, Pt.cells, Pt.slots] at X1 l1 y1 z1 st hQ
  subst l1 y1 z1
  exact ⟨v, T1, Lc, X1, hQ, fun _ k => st.trans k⟩
theorem own_sa (hw : ∀ d ∈ tables_1, d.before a0 Z = true) : ∀ d ∈ Bundle.stringAtoms, d.before a0 Z = true := fun d hd => hw d ((by decide +kernel : ∀ d ∈ Bundle.stringAtoms, d ∈ tables_1) d hd)
end OwnW
/-! numbers -/
theorem own_sm (k a : Int) (h : (k - a) % 4294967296 = 0) (h1 : -2147483648 ≤ k ∧ k < 2147483648) (h2 : -2147483648 ≤ a ∧ a < 2147483648) : k = a := by omega
theorem own_sm64 (k a : Int) (h : (k - a) % 18446744073709551616 = 0) (h1 : -9223372036854775808 ≤ k ∧ k < 9223372036854775808) (h2 : -9223372036854775808 ≤ a ∧ a < 9223372036854775808) : k = a := by omega
theorem own_ti {n : Nat} (h : n ≤ 100000) : (Int32.ofNat n).toInt = (n : Int) := Int32.toInt_ofNat_small (by omega)
theorem own_tn {n : Nat} (h : n ≤ 100000) : (Int32.ofNat n).toNatClampNeg = n := Int32.toNatClampNeg_ofNat_of_lt (by omega)
theorem own_lt {a b : Nat} (ha : a ≤ 100000) (hb : b ≤ 100000) : Int32.ofNat a < Int32.ofNat b ↔ a < b := by
  rw [Int32.lt_iff_toInt_lt, own_ti ha, own_ti hb]; omega
theorem own_nn {a : Nat} (ha : a ≤ 100000) : ¬ Int32.ofNat a < 0 := by
  rw [Int32.lt_iff_toInt_lt, own_ti ha]
  show ¬ (a : Int) < 0
  omega
theorem own_eqn {a b : Nat} (ha : a ≤ 100000) (hb : b ≤ 100000) : Int32.ofNat a = Int32.ofNat b ↔ a = b := by
  rw [← Int32.toInt_inj, own_ti ha, own_ti hb]; omega
theorem own_add {a b : Nat} (ha : a ≤ 50000) (hb : b ≤ 50000) : Int32.ofNat a + Int32.ofNat b = Int32.ofNat (a + b) := by
  apply Int32.toInt_inj.mp
  rw [own_sm _ _ (c_iadd _ _) (rng32 _) (by rw [own_ti (by omega), own_ti (by omega)]; omega), own_ti (by omega), own_ti (by omega), own_ti (by omega)]; omega
theorem own_sub {a b : Nat} (ha : a ≤ 50000) (hb : b ≤ a) : Int32.ofNat a - Int32.ofNat b = Int32.ofNat (a - b) := by
  apply Int32.toInt_inj.mp
  rw [own_sm _ _ (c_isub _ _) (rng32 _) (by rw [own_ti (by omega), own_ti (by omega)]; omega), own_ti (by omega), own_ti (by omega), own_ti (by omega)]; omega
theorem own_dec {a : Nat} (ha : a ≤ 50000) (hb : 1 ≤ a) : Int32.ofNat a + (-1) = Int32.ofNat (a - 1) := by
  apply Int32.toInt_inj.mp
  have e1 : (-1 : Int32).toInt = -1 := rfl
  rw [own_sm _ _ (c_iadd _ _) (rng32 _) (by rw [own_ti (by omega), e1]; omega), own_ti (by omega), e1, own_ti (by omega)]; omega
/-- a - b is at most nought where a ≤ b -/
theorem own_le0 {a b : Nat} (ha : a ≤ 50000) (hb : b ≤ 50000) : (0 : Int32) < Int32.ofNat a - Int32.ofNat b ↔ b < a := by
  have e : (Int32.ofNat a - Int32.ofNat b).toInt = (a : Int) - (b : Int) := by
    rw [own_sm _ _ (c_isub _ _) (rng32 _) (by rw [own_ti (by omega), own_ti (by omega)]; omega), own_ti (by omega), own_ti (by omega)]
  rw [Int32.lt_iff_toInt_lt, e]
  show (0 : Int) < _ ↔ _
  omega
theorem own_shr (x : Int32) : x >>> ((0 : Int32) &&& 31) = x := by
  rw [show ((0 : Int32) &&& 31) = 0 from by decide]
  apply Int32.toBitVec_inj.mp
  simp
theorem own_shl (x : Int32) : x <<< ((0 : Int32) &&& 31) = x := by
  rw [show ((0 : Int32) &&& 31) = 0 from by decide]
  apply Int32.toBitVec_inj.mp
  simp
theorem own_inb {n i : Nat} (hn : n ≤ 10000) (hi : i < n) : ¬ Int32.ofNat i < 0 ∧ Int32.ofNat i < Int32.ofNat n := ⟨own_nn (by omega), (own_lt (by omega) (by omega)).mpr hi⟩
theorem own_gd (xs : List Int32) {i : Nat} (hi : i ≤ 100000) : (xs.map Value.int).getD (Int32.ofNat i).toNatClampNeg (.int 0) = .int (xs.getD i 0) := by
  rw [own_tn hi, List.getD_eq_getElem?_getD, List.getD_eq_getElem?_getD, List.getElem?_map]
  cases xs[i]? <;> rfl
theorem own_gdL (xs : List Int64) {i : Nat} (hi : i ≤ 100000) : (xs.map Value.long).getD (Int32.ofNat i).toNatClampNeg (.long 0) = .long (xs.getD i 0) := by
  rw [own_tn hi, List.getD_eq_getElem?_getD, List.getD_eq_getElem?_getD, List.getElem?_map]
  cases xs[i]? <;> rfl
/-! what a builder's array holds: the text, then noughts -/
def own_pad (cap : Nat) (xs : List Int32) : List Int32 := xs ++ List.replicate (cap - xs.length) 0
theorem own_padl {cap : Nat} {xs : List Int32} (h : xs.length ≤ cap) : (own_pad cap xs).length = cap := by
  simp only [own_pad, List.length_append, List.length_replicate]; omega
theorem own_padg {cap : Nat} {xs : List Int32} (j : Nat) : (own_pad cap xs)[j]? = if j < xs.length then xs[j]? else if j < cap then some 0 else none := by
  unfold own_pad
  rw [List.getElem?_append]
  split
  · rfl
  · rw [List.getElem?_replicate]
    split <;> split <;> first | rfl | omega
theorem own_rng (vs : List Int32) {m : Nat} (h : m ≤ vs.length) : ((List.range m).map fun i => (vs.map Value.int).getD (0 + i) (.int 0)) = (vs.take m).map Value.int := by
  apply List.ext_getElem?
  intro j
  rw [List.getElem?_map, List.getElem?_map, List.getElem?_take]
  by_cases hj : j < m
  · have h1 : j < vs.length := by omega
    rw [List.getElem?_range hj, if_pos hj, List.getElem?_eq_getElem h1]
    simp [h1]
  · rw [if_neg hj, List.getElem?_eq_none (by simp; omega)]; rfl
theorem own_cp (vd vs : List Int32) {dp m : Nat} (h : m ≤ vs.length) : ((vd.map Value.int).take dp ++ ((List.range m).map fun i => (vs.map Value.int).getD (0 + i) (.int 0)) ++ (vd.map Value.int).drop (dp + m)) = (vd.take dp ++ vs.take m ++ vd.drop (dp + m)).map Value.int := by
  rw [own_rng vs h]; simp only [List.map_append, List.map_take, List.map_drop]
theorem own_cp1 {cap n : Nat} {xs : List Int32} (h : xs.length ≤ cap) (hn : cap ≤ n) : (List.replicate n (0 : Int32)).take 0 ++ (own_pad cap xs).take cap ++ (List.replicate n (0 : Int32)).drop (0 + cap) = own_pad n xs := by
  rw [List.take_zero, List.nil_append, List.take_of_length_le (by rw [own_padl h]; omega), Nat.zero_add, List.drop_replicate]
  unfold own_pad
  rw [List.append_assoc, List.replicate_append_replicate]
  congr 2
  omega
theorem own_cp2 {cap : Nat} {xs ys : List Int32} (h : xs.length + ys.length ≤ cap) : (own_pad cap xs).take xs.length ++ ys.take ys.length ++ (own_pad cap xs).drop (xs.length + ys.length) = own_pad cap (xs ++ ys) := by
  unfold own_pad
  rw [List.take_left, List.take_length, List.drop_append, List.drop_of_length_le (by omega), List.nil_append, List.drop_replicate, List.length_append]
  congr 2
  omega
theorem own_cp3 {cap : Nat} {xs : List Int32} : (List.replicate xs.length (0 : Int32)).take 0 ++ (own_pad cap xs).take xs.length ++ (List.replicate xs.length (0 : Int32)).drop (0 + xs.length) = xs := by
  unfold own_pad
  rw [List.take_zero, List.nil_append, List.take_left, Nat.zero_add, List.drop_of_length_le (by simp), List.append_nil]
theorem own_rep (n : Nat) : List.replicate n (Value.int 0) = (List.replicate n (0 : Int32)).map Value.int := by rw [List.map_replicate]
theorem own_mset (bs : List Int32) (i : Nat) (x : Int32) : (bs.map Value.int).set i (.int x) = (bs.set i x).map Value.int := by rw [List.map_set]
theorem own_pad1 {cap : Nat} {xs : List Int32} (x : Int32) (h : xs.length < cap) : (own_pad cap xs).set xs.length x = own_pad cap (xs ++ [x]) := by
  apply List.ext_getElem?
  intro j
  rw [List.getElem?_set, own_padg, own_padg, own_padl (by omega)]
  simp only [List.length_append, List.length_singleton, List.getElem?_append]
  by_cases h1 : xs.length = j
  · subst h1; simp [h]
  · rw [if_neg h1]
    by_cases h2 : j < xs.length
    · rw [if_pos h2, if_pos (by omega), if_pos h2]
    · rw [if_neg h2, if_neg (show ¬ j < xs.length + 1 by omega)]
/-! decimal digits -/
def own_C (nn c : Nat) : Prop := 1 ≤ c ∧ c ≤ 19 ∧ nn < 10 ^ c ∧ (c = 1 ∨ 10 ^ (c - 1) ≤ nn)
def own_dig (nn k : Nat) : Int32 := Int32.ofNat (48 + nn / 10 ^ k % 10)
def own_put (bs : List Int32) (e nn : Nat) : Nat → List Int32
  | 0 => bs
  | k + 1 => (own_put bs e nn k).set (e - 1 - k) (own_dig nn k)
def own_num (nn c : Nat) : List Int32 := (List.range c).map fun j => own_dig nn (c - 1 - j)
theorem own_numl (nn c : Nat) : (own_num nn c).length = c := by simp [own_num]
theorem own_putl (bs : List Int32) (e nn : Nat) : ∀ k, (own_put bs e nn k).length = bs.length
  | 0 => rfl
  | k + 1 => by rw [own_put, List.length_set, own_putl bs e nn k]
theorem own_putg (bs : List Int32) {e : Nat} (nn : Nat) (he : e ≤ bs.length) : ∀ (k : Nat), k ≤ e → ∀ j, (own_put bs e nn k)[j]? = if e - k ≤ j ∧ j < e then some (own_dig nn (e - 1 - j)) else bs[j]?
  | 0, _, j => by rw [own_put, if_neg (by omega)]
  | k + 1, hk, j => by
    rw [own_put, List.getElem?_set, own_putl, own_putg bs nn he k (by omega)]
    by_cases h1 : e - 1 - k = j
    · rw [if_pos h1, if_pos (by omega), if_pos (by omega)]; congr 2; omega
    · rw [if_neg h1]
      by_cases h2 : e - k ≤ j ∧ j < e
      · rw [if_pos h2, if_pos (by omega)]
      · rw [if_neg h2, if_neg (by omega)]
theorem own_numg (nn c j : Nat) : (own_num nn c)[j]? = if j < c then some (own_dig nn (c - 1 - j)) else none := by
  unfold own_num
  rw [List.getElem?_map]
  by_cases h : j < c
  · rw [List.getElem?_range h, if_pos h]; rfl
  · rw [if_neg h, List.getElem?_eq_none (by simp; omega)]; rfl
/-- all c digits are written behind xs (one place free ahead of them for the sign) -/
theorem own_putpad {cap : Nat} {xs : List Int32} {c nn sg : Nat} (h : xs.length + sg + c ≤ cap) (hs : sg ≤ 1) :
    own_put (own_pad cap xs) (xs.length + sg + c) nn c = ((own_pad cap xs).take (xs.length + sg) ++ (own_num nn c ++ List.replicate (cap - (xs.length + sg + c)) 0)) := by
  apply List.ext_getElem?
  intro j
  rw [own_putg _ nn (by rw [own_padl (by omega)]; omega) c (by omega)]
  rw [List.getElem?_append, List.length_take, own_padl (by omega), List.getElem?_append, own_numl, List.getElem?_take, own_numg, List.getElem?_replicate, own_padg]
  have e0 : min (xs.length + sg) cap = xs.length + sg := by omega
  rw [e0]
  by_cases h1 : j < xs.length + sg
  · rw [if_neg (by omega), if_pos h1, if_pos h1]
  · rw [if_neg h1]
    by_cases h2 : j < xs.length + sg + c
    · rw [if_pos (by omega), if_pos (by omega), if_pos (by omega)]; congr 2; omega
    · rw [if_neg (show ¬ (xs.length + sg + c - c ≤ j ∧ j < xs.length + sg + c) by omega), if_neg (show ¬ j < xs.length by omega), if_neg (show ¬ j - (xs.length + sg) < c by omega)]
      by_cases h3 : j < cap
      · rw [if_pos h3, if_pos (by omega)]
      · rw [if_neg h3, if_neg (by omega)]
theorem own_done0 {cap : Nat} {xs : List Int32} {c nn : Nat} (h : xs.length + c ≤ cap) : own_put (own_pad cap xs) (xs.length + 0 + c) nn c = own_pad cap (xs ++ own_num nn c) := by
  rw [own_putpad (by omega) (by omega)]
  unfold own_pad
  rw [Nat.add_zero, List.take_left, List.append_assoc, List.length_append, own_numl]
theorem own_done1 {cap : Nat} {xs : List Int32} {c nn : Nat} (h : xs.length + 1 + c ≤ cap) : (own_put (own_pad cap xs) (xs.length + 1 + c) nn c).set xs.length 45 = own_pad cap (xs ++ (45 :: own_num nn c)) := by
  apply List.ext_getElem?
  intro j
  rw [List.getElem?_set, own_putl, own_padl (by omega), own_putg _ nn (by rw [own_padl (by omega)]; omega) c (by omega), own_padg, own_padg]
  simp only [List.length_append, List.length_cons, own_numl, List.getElem?_append]
  by_cases h1 : xs.length = j
  · subst h1; rw [if_pos rfl, if_pos (by omega), if_pos (by omega), if_neg (by omega), Nat.sub_self]; rfl
  · rw [if_neg h1]
    by_cases h2 : j < xs.length
    · rw [if_neg (by omega), if_pos h2, if_pos (by omega), if_pos h2]
    · by_cases h3 : j < xs.length + 1 + c
      · rw [if_pos (by omega), if_pos (by omega), if_neg h2]
        obtain ⟨q, rfl⟩ : ∃ q, j = xs.length + 1 + q := ⟨j - xs.length - 1, by omega⟩
        rw [show xs.length + 1 + q - xs.length = q + 1 by omega, List.getElem?_cons_succ, own_numg, if_pos (by omega)]
        congr 2; omega
      · rw [if_neg (show ¬ (xs.length + 1 + c - c ≤ j ∧ j < xs.length + 1 + c) by omega), if_neg h2, if_neg (show ¬ j < xs.length + (c + 1) by omega)]
theorem own_Nk (nn k : Nat) : nn / 10 ^ (k + 1) = nn / 10 ^ k / 10 := by rw [Nat.pow_succ, Nat.div_div_eq_div_mul]
theorem own_N2 (nn k : Nat) : nn / 10 ^ (k + 2) = nn / 10 ^ k / 100 := by rw [own_Nk, own_Nk, Nat.div_div_eq_div_mul]
theorem own_plt {a b : Nat} (h : a < b) : 10 ^ a < 10 ^ b := Nat.pow_lt_pow_right (by omega) h
theorem own_ple {a b : Nat} (h : a ≤ b) : 10 ^ a ≤ 10 ^ b := Nat.pow_le_pow_right (by omega) h
/-- how many digits there are: k are written, some stand out -/
theorem own_kc {nn c k : Nat} (hC : own_C nn c) (h : k = 0 ∨ 1 ≤ nn / 10 ^ k) : k + 1 ≤ c := by
  obtain ⟨h1, h2, h3, h4⟩ := hC
  rcases h with rfl | h
  · exact h1
  · have q : 10 ^ k ≤ nn := by
      have := Nat.div_mul_le_self nn (10 ^ k)
      have h5 : 10 ^ k * 1 ≤ nn / 10 ^ k * 10 ^ k := by rw [Nat.mul_comm]; exact Nat.mul_le_mul_right _ h
      omega
    by_cases hc : k < c
    · exact hc
    · have := own_ple (show c ≤ k by omega); omega
theorem own_k2 {nn c k : Nat} (hC : own_C nn c) (h : 10 ≤ nn / 10 ^ k) : k + 2 ≤ c := own_kc (k := k + 1) hC (Or.inr (by rw [own_Nk]; omega))
theorem own_ce {nn c k : Nat} (hC : own_C nn c) (h : k = 0 ∨ 1 ≤ nn / 10 ^ k) (h2 : nn / 10 ^ k < 10) : c = k + 1 := by
  have a := own_kc hC h
  obtain ⟨h1, -, h3, h4⟩ := hC
  by_cases hc : c ≤ k + 1
  · omega
  · rcases h4 with h4 | h4
    · omega
    · have q : nn < 10 ^ (k + 1) := by rw [Nat.pow_succ, Nat.mul_comm]; exact (Nat.div_lt_iff_lt_mul (Nat.pow_pos (by omega))).mp h2
      have := own_ple (show k + 1 ≤ c - 1 by omega); omega
theorem own_ce2 {nn c k : Nat} (hC : own_C nn c) (h : 10 ≤ nn / 10 ^ k) (h2 : nn / 10 ^ k < 100) : c = k + 2 := own_ce (k := k + 1) hC (Or.inr (by rw [own_Nk]; omega)) (by rw [own_Nk]; omega)
theorem own_d1 (nn k : Nat) : own_dig nn k = Int32.ofNat (48 + nn / 10 ^ k % 100 % 10) := by unfold own_dig; congr 2; omega
theorem own_d2 (nn k : Nat) : own_dig nn (k + 1) = Int32.ofNat (48 + nn / 10 ^ k % 100 / 10) := by unfold own_dig; rw [own_Nk]; congr 2; omega
def own_ones : List Int32 := (List.range 100).map fun i => Int32.ofNat (48 + i % 10)
def own_tens : List Int32 := (List.range 100).map fun i => Int32.ofNat (48 + i / 10)
theorem own_og {i : Nat} (h : i < 100) : own_ones.getD i 0 = Int32.ofNat (48 + i % 10) := by
  unfold own_ones; rw [List.getD_eq_getElem?_getD, List.getElem?_map, List.getElem?_range h]; rfl
theorem own_tg {i : Nat} (h : i < 100) : own_tens.getD i 0 = Int32.ofNat (48 + i / 10) := by
  unfold own_tens; rw [List.getD_eq_getElem?_getD, List.getElem?_map, List.getElem?_range h]; rfl
theorem own_bs {x : Nat} (h : x < 128) : nar .byte (Int32.ofNat x) = Int32.ofNat x := by
  have q : ∀ n : Fin 128, nar .byte (Int32.ofNat n.val) = Int32.ofNat n.val := by decide +kernel
  exact q ⟨x, h⟩
theorem own_digb (nn k : Nat) : nar .byte (own_dig nn k) = own_dig nn k := own_bs (by have := Nat.mod_lt (nn / 10 ^ k) (show 10 > 0 by omega); omega)
/-- the least power of ten above nn, counted -/
theorem own_Cof {nn i : Nat} (h1 : 1 ≤ i) (h2 : i ≤ 19) (h3 : nn < 10 ^ i) (h4 : i = 1 ∨ ¬ nn < 10 ^ (i - 1)) : own_C nn i := ⟨h1, h2, h3, h4.imp id (by omega)⟩
theorem own_bm {x : Int} (h : -2147483648 ≤ x ∧ x < 2147483648) : x.bmod (2 ^ 32) = x := by
  unfold Int.bmod
  simp only []
  split <;> omega
theorem own_l2i {x : Int64} (h : -2147483648 ≤ x.toInt ∧ x.toInt < 2147483648) : x.toInt32.toInt = x.toInt := by
  rw [Int64.toInt_toInt32]; exact own_bm h
theorem own_l2 {x : Int64} {k : Nat} (h : x.toInt = (k : Int)) (hk : k ≤ 100000) : x.toInt32 = Int32.ofNat k := by
  apply Int32.toInt_inj.mp
  rw [own_l2i (by omega), own_ti hk, h]
/-- m is -N; a hundredth, and what is left -/
theorem own_ld {x : Int64} {N : Nat} (h : x.toInt = -(N : Int)) (hN : N ≤ 9223372036854775808) : (x / 100).toInt = -((N / 100 : Nat) : Int) := by
  have q := c_ldiv x 100 100 rfl (by decide)
  by_cases h0 : x.toInt < 0
  · rw [q.2 h0, h]; omega
  · rw [q.1 (by omega), h]; omega
theorem own_lr {x : Int64} {N : Nat} (h : x.toInt = -(N : Int)) (hN : N ≤ 9223372036854775808) : ((x / 100) * 100 - x).toInt32 = Int32.ofNat (N % 100) := by
  have q := own_ld h hN
  have e1 : (100 : Int64).toInt = 100 := rfl
  have a1 : ((x / 100) * 100).toInt = -(((N / 100 : Nat) : Int) * 100) := by
    rw [own_sm64 _ _ (c_lmul _ _) (rng64 _) (by rw [q, e1]; omega), q, e1]; omega
  refine own_l2 ?_ (by omega)
  rw [own_sm64 _ _ (c_lsub _ _) (rng64 _) (by rw [a1, h]; omega), a1, h]; omega
theorem own_id {x : Int32} {N : Nat} (h : x.toInt = -(N : Int)) : (x / 100).toInt = -((N / 100 : Nat) : Int) := by
  have q := c_idiv x 100 100 rfl (by decide)
  by_cases h0 : x.toInt < 0
  · rw [q.2 h0, h]; omega
  · rw [q.1 (by omega), h]; omega
theorem own_ir {x : Int32} {N : Nat} (h : x.toInt = -(N : Int)) (hN : N ≤ 2147483648) : (x / 100) * 100 - x = Int32.ofNat (N % 100) := by
  have q := own_id h
  have e1 : (100 : Int32).toInt = 100 := rfl
  have a1 : ((x / 100) * 100).toInt = -(((N / 100 : Nat) : Int) * 100) := by
    rw [own_sm _ _ (c_imul _ _) (rng32 _) (by rw [q, e1]; omega), q, e1]; omega
  apply Int32.toInt_inj.mp
  rw [own_ti (by omega), own_sm _ _ (c_isub _ _) (rng32 _) (by rw [a1, h]; omega), a1, h]; omega
theorem own_ineg {x : Int32} {N : Nat} (h : x.toInt = -(N : Int)) (hN : N ≤ 100000) : -x = Int32.ofNat N := by
  apply Int32.toInt_inj.mp
  rw [own_ti hN, own_sm _ _ (c_ineg x) (rng32 _) (by omega), h]; omega
theorem own_negN {N : Nat} (hN : N ≤ 100000) : (-(Int32.ofNat N)).toInt = -(N : Int) := by
  rw [own_sm _ _ (c_ineg _) (rng32 _) (by rw [own_ti hN]; omega), own_ti hN]
/-- the number of which a long's digits tell, and its sign -/
def own_abs (v : Int64) : Nat := v.toInt.natAbs
def own_sg (v : Int64) : Nat := if v < 0 then 1 else 0
theorem own_absle (v : Int64) : own_abs v ≤ 9223372036854775808 := by
  have := rng64 v; unfold own_abs; omega
theorem own_mneg {v : Int64} (h : v < 0) : v.toInt = -(own_abs v : Int) := by
  rw [Int64.lt_iff_toInt_lt] at h
  have e : (0 : Int64).toInt = 0 := rfl
  unfold own_abs; omega
theorem own_mpos {v : Int64} (h : ¬ v < 0) : (-v).toInt = -(own_abs v : Int) := by
  rw [Int64.lt_iff_toInt_lt] at h
  have e : (0 : Int64).toInt = 0 := rfl
  have r := rng64 v
  rw [own_sm64 _ _ (c_lneg v) (rng64 _) (by omega)]
  unfold own_abs; omega
theorem own_p18 {i : Nat} (h : i ≤ 18) : (10 : Int) ^ i ≤ 1000000000000000000 ∧ 1 ≤ (10 : Int) ^ i := by
  have q : ∀ n : Fin 19, (10 : Int) ^ n.val ≤ 1000000000000000000 ∧ 1 ≤ (10 : Int) ^ n.val := by decide +kernel
  exact q ⟨i, by omega⟩
theorem own_pn {i : Nat} (h : i ≤ 18) : 10 ^ i ≤ 1000000000000000000 ∧ 1 ≤ 10 ^ i := by
  have q : ∀ n : Fin 19, 10 ^ n.val ≤ 1000000000000000000 ∧ 1 ≤ 10 ^ n.val := by decide +kernel
  exact q ⟨i, by omega⟩
/-- the walk down of p = -10^i -/
theorem own_p10 {x : Int64} {i : Nat} (h : x.toInt = -((10 ^ i : Nat) : Int)) (hi : i ≤ 17) : ((10 : Int64) * x).toInt = -((10 ^ (i + 1) : Nat) : Int) := by
  have e1 : (10 : Int64).toInt = 10 := rfl
  have b := own_pn (show i ≤ 18 by omega)
  have b2 : 10 ^ (i + 1) = 10 ^ i * 10 := Nat.pow_succ ..
  have b3 := own_pn (show i + 1 ≤ 18 by omega)
  rw [own_sm64 _ _ (c_lmul _ _) (rng64 _) (by rw [h, e1]; omega), h, e1]; omega
theorem own_gtp {x y : Int64} {N M : Nat} (h : x.toInt = -(N : Int)) (g : y.toInt = -(M : Int)) : y < x ↔ N < M := by
  rw [Int64.lt_iff_toInt_lt, h, g]; omega
theorem own_19 {N : Nat} (h : N ≤ 9223372036854775808) : N < 10 ^ 19 := by
  have : 10 ^ 19 = 10000000000000000000 := by decide
  omega
theorem own_sum {i : Nat} {d : Int32} {v : Int64} (hd : d = Int32.ofNat (own_sg v)) (hi : i ≤ 1000) : Int32.ofNat i + d = Int32.ofNat (i + own_sg v) := by
  subst hd
  exact own_add (by omega) (by unfold own_sg; split <;> omega)
theorem own_sg1 (v : Int64) : own_sg v ≤ 1 := by unfold own_sg; split <;> omega
/-- the text of a long -/
def own_txt (v : Int64) (c : Nat) : List Int32 := if v < 0 then 45 :: own_num (own_abs v) c else own_num (own_abs v) c
theorem own_txtl (v : Int64) (c : Nat) : (own_txt v c).length = c + own_sg v := by
  unfold own_txt own_sg; split <;> simp [own_numl]
/-- ten to the i, as a long -/
def own_ps : List Int64 := [1, 10, 100, 1000, 10000, 100000, 1000000, 10000000, 100000000, 1000000000, 10000000000, 100000000000, 1000000000000, 10000000000000, 100000000000000, 1000000000000000, 10000000000000000, 100000000000000000, 1000000000000000000]
theorem own_psg {i : Nat} (h : i < 19) : (own_ps.getD i 0).toInt = ((10 ^ i : Nat) : Int) ∧ own_ps.getD i 0 ≠ 0 ∧ own_ps.getD i 0 ≠ -1 := by
  have q : ∀ n : Fin 19, (own_ps.getD n.val 0).toInt = ((10 ^ n.val : Nat) : Int) ∧ own_ps.getD n.val 0 ≠ 0 ∧ own_ps.getD n.val 0 ≠ -1 := by decide +kernel
  exact q ⟨i, h⟩
theorem own_ldp {x : Int64} {N i : Nat} (h : x.toInt = -(N : Int)) (hi : i < 19) : (x / own_ps.getD i 0).toInt = -((N / 10 ^ i : Nat) : Int) := by
  obtain ⟨e1, e2, e3⟩ := own_psg hi
  have q := c_ldiv x (own_ps.getD i 0) _ e1 e3
  by_cases h0 : x.toInt < 0
  · rw [q.2 h0, h, Int.neg_neg, Int.natCast_ediv]
  · have hx : N = 0 := by omega
    rw [q.1 (by omega), h, hx]; simp
theorem own_digc {x : Int64} {N i : Nat} (h : x.toInt = -(N : Int)) (hi : i < 19) (hr : ∀ y : Int64, (0 ≤ y.toInt → (y % 10).toInt = y.toInt % 10) ∧ (y.toInt < 0 → (y % 10).toInt = -((-y.toInt) % 10))) : ((48 : Int32) - (x / own_ps.getD i 0 % 10).toInt32) = own_dig N i := by
  have q := own_ldp h hi
  have r := hr (x / own_ps.getD i 0)
  have key : ∀ M : Nat, (x / own_ps.getD i 0).toInt = -(M : Int) → (x / own_ps.getD i 0 % 10).toInt = -((M % 10 : Nat) : Int) := by
    intro M q
    by_cases h0 : (x / own_ps.getD i 0).toInt < 0
    · rw [r.2 h0, q]; omega
    · rw [r.1 (by omega), q]; omega
  have e := key _ q
  have e48 : (48 : Int32).toInt = 48 := rfl
  unfold own_dig
  apply Int32.toInt_inj.mp
  have hm := Nat.mod_lt (N / 10 ^ i) (show 10 > 0 by omega)
  rw [own_ti (by omega), own_sm _ _ (c_isub _ _) (rng32 _) (by rw [own_l2i (by omega), e, e48]; omega), own_l2i (by omega), e, e48]; omega
theorem own_c16 {n : Nat} (h : n < 128) : (Int32.ofNat n).toUInt32.toUInt16.toUInt32.toInt32 = Int32.ofNat n ∧ (Int32.ofNat n &&& 255).toUInt32.toUInt16.toUInt32.toInt32 = Int32.ofNat n ∧ nar .char (Int32.ofNat n) = Int32.ofNat n := by
  have q : ∀ n : Fin 128, (Int32.ofNat n.val).toUInt32.toUInt16.toUInt32.toInt32 = Int32.ofNat n.val ∧ (Int32.ofNat n.val &&& 255).toUInt32.toUInt16.toUInt32.toInt32 = Int32.ofNat n.val ∧ nar .char (Int32.ofNat n.val) = Int32.ofNat n.val := by decide +kernel
  exact q ⟨n, h⟩
def own_asc (xs : List Int32) : Prop := ∀ j, ∃ n : Nat, n < 128 ∧ xs.getD j 0 = Int32.ofNat n
section OwnZ
variable {p : Program} {l : Launch} {e : Env} {R : Room} {s : State} {m : MethodId} {args : Array Value} {below : List Frame} {meth : Method} {c : Code} {T T' : State} {locs : List Loc} {cells slots : Nat} {Z : State} {a0 : Array Value} {h h' : Heap}
/-- the start's cells lie in h as they did -/
def own_K (Z : State) (h : Heap) : Prop := ∀ (b : Addr) (cl : Cell), Z.heap[b]? = some cl → h[b]? = some cl
theorem own_KW (k : own_K Z h) {ws : List Addr} (K : Keep h h' ws) (hw : ∀ x ∈ ws, Z.heap.size ≤ x) : own_K Z h' := fun b cl q => K.2.1 b cl (k b cl q) (fun hm => absurd (hw b hm) (Nat.not_le.mpr (Array.getElem?_eq_some_iff.mp q).1))
theorem own_staZ {C f d : String} {v : Value} (S : Sta Z Z.heap C f d v) (k : own_K Z h) : Sta Z h C f d v := by
  obtain ⟨cf, i, kk, fl, st, cell, h1, h2, h3, h4, h5, h6, h7⟩ := S
  exact ⟨cf, i, kk, fl, st, cell, h1, h2, h3, h4, k st cell h5, h6, h7⟩
theorem own_arvZ {a : Addr} {kk : ClassId} {ty : FieldType} {z : Int32} {vs : List Value} {dv : Value} (A : Arv Z Z.heap a kk ty z vs dv) (k : own_K Z h) : Arv Z h a kk ty z vs dv := by
  obtain ⟨cl, A, r⟩ := A
  exact ⟨cl, ⟨k _ _ A.1, A.2⟩, r⟩
def own_Tb (Z : State) (w1 : Int32) (d1 d2 : Addr) (kd1 kd2 : ClassId) (fm : Value) : Prop :=
  Sta Z Z.heap "java/lang/String" "COMPACT_STRINGS" "Z" (.int w1) ∧ (¬ w1 = 0) ∧ Sta Z Z.heap "java/lang/Integer" "DigitOnes" "[B" (.ref d1) ∧ Sta Z Z.heap "java/lang/Integer" "DigitTens" "[B" (.ref d2) ∧
  Arv Z Z.heap d1 kd1 .byte (Int32.ofNat own_ones.length) (own_ones.map Value.int) (.int 0) ∧ Arv Z Z.heap d2 kd2 .byte (Int32.ofNat own_tens.length) (own_tens.map Value.int) (.int 0) ∧
  Sta Z Z.heap "jdk/internal/util/Preconditions" "SIOOBE_FORMATTER" "Ljava/util/function/BiFunction;" fm ∧ fm.isRef = true
theorem own_newA {a : Addr} {k : ClassId} {n : Nat} (A : Arr Z h a (newA k .byte (Int32.ofNat n)) .byte) (q : ¬ Int32.ofNat n < 0) (n' : Nat) (hn : n' = n := by rfl) : Arv Z h a k .byte (Int32.ofNat n) ((List.replicate n' (0 : Int32)).map Value.int) (.int 0) := by
  subst hn
  rw [← own_rep]
  exact (Arv.new A q).pad (pad_rep [] _ _)
theorem own_decl {y : MethodName} {bytes : ByteArray} {maxL : Nat} {rt : Option FieldType} (w1 : (Jvm.Cond.instanceMethod y).before a0 Z = true) (w2 : (Jvm.Cond.code y bytes maxL rt).before a0 Z = true) : (Jvm.Cond.declares y).before a0 Z = true := by
  obtain ⟨mk, methM, hnamed, hmethM, hst, -⟩ := Cond.instanceMethod_spec w1
  obtain ⟨m2, cM, q1, -, -, -, -, -, -, hsig⟩ := Cond.code_spec hnamed w2
  cases hmethM.symm.trans q1
  simp [Cond.before, Cond.holds, Cond.value, hnamed, hmethM, hst, hsig]
theorem own_face {C : String} {y y' : MethodName} (hc : y'.cls = y.cls) (ws : (Jvm.Cond.selects C y' y').before a0 Z = true) (wi : (Jvm.Cond.instanceMethod y').before a0 Z = true) : NotFace Z y := fun r0 h0 => by
  obtain ⟨mk, methM, hn, -⟩ := Cond.instanceMethod_spec wi
  obtain ⟨kr, hkr, hni⟩ := notFace_of_selects ws mk hn
  have e1 := findClass_of_methodNamed h0
  have e2 := findClass_of_methodNamed hn
  rw [hc] at e2
  have e3 : r0.cls = mk.cls := by simpa using e1.symm.trans e2
  exact ⟨kr, by rw [e3]; exact hkr, hni⟩
theorem own_same {C : String} {y y' : MethodName} (hc : y'.cls = y.cls) (hy : y.cls ≠ "java/lang/invoke/MethodHandle" ∧ y.cls ≠ "java/lang/invoke/VarHandle") (w1 : (Jvm.Cond.instanceMethod y).before a0 Z = true) (ws : (Jvm.Cond.selects C y' y').before a0 Z = true) (wi : (Jvm.Cond.instanceMethod y').before a0 Z = true) : (Jvm.Cond.sameMethod y.cls y.cls y.name y.desc).before a0 Z = true := by
  obtain ⟨mk, methM, hn, -⟩ := Cond.instanceMethod_spec w1
  obtain ⟨kr, hkr, hni⟩ := own_face hc ws wi mk hn
  have e1 := findClass_of_methodNamed hn
  have e2 := State.methodFound?_of_named hn hy
  have hn' : Z.methodNamed? ⟨y.cls, y.name, y.desc⟩ = some mk := hn
  simp only [Cond.before, Cond.holds, Cond.value, e1, e2, hn']
  simp [hkr, hni]
theorem own_faceM {y : MethodName} (hZ : Z.Warmed39 s.vm) (q : NotFace Z y) : NotFace s y := fun r0 h0 => by
  have hb : ∃ r, Z.methodNamed? y = some r := by
    have q1 : (Z.setVm s.vm).methodNamed? y = Z.methodNamed? y := State.methodNamed?_setVm hZ.alike y
    have q2 : (Z.setVm s.vm).methodNamed? y = s.methodNamed? y := rfl
    exact ⟨r0, by rw [← q1, q2]; exact h0⟩
  obtain ⟨r, hr⟩ := hb
  obtain ⟨kr, hkr, hni⟩ := q r hr
  have q1 : (Z.setVm s.vm).methodNamed? y = Z.methodNamed? y := State.methodNamed?_setVm hZ.alike y
  have q2 : (Z.setVm s.vm).methodNamed? y = s.methodNamed? y := rfl
  rw [q2, h0, hr] at q1
  cases q1
  obtain ⟨k', e1, e2⟩ := hZ.alike.2.2 _ _ hkr
  exact ⟨k', e1, by rw [e2]; exact hni⟩
/-- a virtual call on an object of a class below the one that declares the method -/
theorem own_callV2 (X : Stand p l e R s m args below meth c T locs cells slots) (hx : p.tables.exec = Jvm.exec) (hZ : Z.Warmed39 s.vm) {own C : String} (hown : s.vm.findClass own = some m.cls) {index : Nat} {y z y' : MethodName} {bytes : ByteArray} {maxL : Nat} {rt : Option FieldType}
    (w1 : (Jvm.Cond.methodLink own index y).before a0 Z = true) (w2 : (Jvm.Cond.declares y).before a0 Z = true) (w5 : (Jvm.Cond.selects C y z).before a0 Z = true) (wf : (Jvm.Cond.selects C y' y').before a0 Z = true) (wg : (Jvm.Cond.instanceMethod y').before a0 Z = true) (hc' : y'.cls = y.cls) (w6 : (Jvm.Cond.instanceMethod z).before a0 Z = true) (w3 : (Jvm.Cond.initialized z.cls).before a0 Z = true) (w4 : (Jvm.Cond.code z bytes maxL rt).before a0 Z = true)
    (hy : y.cls ≠ "java/lang/invoke/MethodHandle" ∧ y.cls ≠ "java/lang/invoke/VarHandle") {rm : Room} {a : Addr} {argsL rest : List Value} {Q : Option Value → Heap → List Loc → Prop} (hE : Exa Z h a C) (eT : T.heap = h) (hM : own_Met l Z z bytes maxL rt [] rm (.ref a :: argsL).toArray h Q)
    {g : JFrame} (hg : g.method = m) (hsize : g.locals.size = c.maxLocals) (hlen : ∀ sig, parseMethodDescriptor y.desc = some sig → argsL.length = sig.parameters.length) (hstack : g.stack = argsL.reverse ++ .ref a :: rest) {W : Nat} (hW : 2 * g.monitorRoom + (rest.map fun v => v.category).sum ≤ W) (hd : decode c.code g.pc = .ok (.invokevirtual index, 3))
    (hf : rm.frames + 1 ≤ R.frames) (hl : W + (maxL + 11) + rm.locals ≤ R.locals) (hc : cells + rm.cells ≤ R.cells) (hs : slots + rm.slots ≤ R.slots) :
    ∃ v T' L, Stand p l e R s m args below meth c T' (locs ++ L) (cells + rm.cells) (slots + rm.slots) ∧ Q v T'.heap L ∧ ∀ target, Steps p.tables e below (T'.setTop { g with pc := g.pc + 3, stack := v.toList ++ rest }) target → Steps p.tables e below (T.setTop g) target := by
  obtain ⟨_, _, qa, -, qc⟩ := isOf hZ eT hE
  obtain ⟨v, _, ⟨T1, L1, k1, n1⟩, -, X1, ⟨Lc, hQ, l1, y1, z1⟩, st⟩ := X.virtualBack hx (y := y) (z := z) hown (mvT hZ w1) (mvT hZ w2) (own_faceM hZ (own_face hc' wf wg)) (mvT hZ w5) (mvT hZ w6) hy (backOf (W := W) hM hZ w4 w3 hf hl) qa qc (g := g) hg hsize (Steps.refl _) (argsL := argsL) (rest := rest) hlen hstack hW hd (fun _ _ => ⟨rfl, eT, hc, hs⟩)
  dsimp only [Pt.U, Pt.locs, Pt.cells, Pt.slots] at X1 l1 y1 z1 st hQ
  subst l1 y1 z1
  exact ⟨v, T1, Lc, X1, hQ, fun _ k => st.trans k⟩
/-- super.m(..) -/
theorem own_callSup (X : Stand p l e R s m args below meth c T locs cells slots) (hx : p.tables.exec = Jvm.exec) (hZ : Z.Warmed39 s.vm) {own C : String} (hown : s.vm.findClass own = some m.cls) {index : Nat} {y y' : MethodName} {bytes : ByteArray} {maxL : Nat} {rt : Option FieldType}
    (w1 : (Jvm.Cond.methodLink own index y).before a0 Z = true) (w6 : (Jvm.Cond.instanceMethod y).before a0 Z = true) (w7 : (Jvm.Cond.superclass own y.cls).before a0 Z = true) (wf : (Jvm.Cond.selects C y' y').before a0 Z = true) (wg : (Jvm.Cond.instanceMethod y').before a0 Z = true) (hc' : y'.cls = y.cls) (w3 : (Jvm.Cond.initialized y.cls).before a0 Z = true) (w4 : (Jvm.Cond.code y bytes maxL rt).before a0 Z = true)
    (hy : y.cls ≠ "java/lang/invoke/MethodHandle" ∧ y.cls ≠ "java/lang/invoke/VarHandle") (hni : y.name ≠ "<init>") {rm : Room} {a : Addr} {argsL rest : List Value} {Q : Option Value → Heap → List Loc → Prop} (hE : Exa Z h a C) (eT : T.heap = h) (hM : own_Met l Z y bytes maxL rt [] rm (.ref a :: argsL).toArray h Q)
    {g : JFrame} (hg : g.method = m) (hsize : g.locals.size = c.maxLocals) (hlen : ∀ sig, parseMethodDescriptor y.desc = some sig → argsL.length = sig.parameters.length) (hstack : g.stack = argsL.reverse ++ .ref a :: rest) {W : Nat} (hW : 2 * g.monitorRoom + (rest.map fun v => v.category).sum ≤ W) (hd : decode c.code g.pc = .ok (.invokespecial index, 3))
    (hf : rm.frames + 1 ≤ R.frames) (hl : W + (maxL + 11) + rm.locals ≤ R.locals) (hc : cells + rm.cells ≤ R.cells) (hs : slots + rm.slots ≤ R.slots) :
    ∃ v T' L, Stand p l e R s m args below meth c T' (locs ++ L) (cells + rm.cells) (slots + rm.slots) ∧ Q v T'.heap L ∧ ∀ target, Steps p.tables e below (T'.setTop { g with pc := g.pc + 3, stack := v.toList ++ rest }) target → Steps p.tables e below (T.setTop g) target := by
  obtain ⟨v, _, ⟨T1, L1, k1, n1⟩, -, X1, ⟨Lc, hQ, l1, y1, z1⟩, st⟩ := superBack X hx hZ (y := y) hown w1 (own_same hc' hy w6 wf wg) w6 w7 hni (backOf (W := W) hM hZ w4 w3 hf hl) eT (Ins.self hE) (g := g) hg hsize w4 (argsL := argsL) (rest := rest) hlen hstack hW hd (fun _ _ => ⟨rfl, eT, hc, hs⟩)
  dsimp only [Pt.U, Pt.locs, Pt.cells, Pt.slots] at X1 l1 y1 z1 st hQ
  subst l1 y1 z1
  exact ⟨v, T1, Lc, X1, hQ, fun _ k => st.trans k⟩
end OwnZ
theorem own_tn0 : (0 : Int32).toNatClampNeg = 0 := by decide
theorem own_dec' {a b : Nat} (ha : a ≤ 50000) (hb : 1 ≤ a) (e : b = a - 1) : Int32.ofNat a + (-1 : Int32) = Int32.ofNat b := by subst e; exact own_dec ha hb
def own_imin (a b : Int32) : Int32 := if b < a then b else a
def own_imax (a b : Int32) : Int32 := if a < b then b else a
def own_lmin (a b : Int64) : Int64 := if b < a then b else a
theorem own_minl {a b : Nat} (ha : a ≤ 50000) (hb : b ≤ 50000) (h : a ≤ b) : own_imin (Int32.ofNat a) (Int32.ofNat b) = Int32.ofNat a := if_neg (fun q => by have := (own_lt (by omega) (by omega)).mp q; omega)
theorem own_minr {a b : Nat} (ha : a ≤ 50000) (hb : b ≤ 50000) (h : b ≤ a) : own_imin (Int32.ofNat a) (Int32.ofNat b) = Int32.ofNat b := by
  unfold own_imin
  split
  · rfl
  · rename_i q
    rw [own_lt (by omega) (by omega)] at q
    rw [show a = b by omega]
theorem own_nl {a b c : Nat} (ha : a ≤ 1000) (hb : b ≤ 1000) (hc : c ≤ 1000) : Int32.ofNat a + own_imax (Int32.ofNat b) (Int32.ofNat c) = Int32.ofNat (a + max b c) := by
  unfold own_imax
  split
  · rename_i q
    rw [own_lt (by omega) (by omega)] at q
    rw [own_add (by omega) (by omega)]; congr 1; omega
  · rename_i q
    rw [own_lt (by omega) (by omega)] at q
    rw [own_add (by omega) (by omega)]; congr 1; omega
theorem own_pos {n : Nat} (h : 0 < n) (hn : n ≤ 100000) : (0 : Int32) < Int32.ofNat n := (own_lt (a := 0) (by omega) hn).mpr h
theorem own_big {n : Nat} (hn : n ≤ 100000) : ¬ (2147483639 : Int32) < Int32.ofNat n := by
  rw [Int32.lt_iff_toInt_lt, own_ti hn]
  show ¬ (2147483639 : Int) < _
  omega
theorem own_nmx {n : Nat} (hn : n ≤ 100000) : ¬ Int32.ofNat n = (2147483647 : Int32) := fun q => by
  have := congrArg Int32.toInt q
  rw [own_ti hn] at this
  have e : (2147483647 : Int32).toInt = 2147483647 := rfl
  omega
def own_cpn (cap mn : Nat) : Nat := if mn ≤ cap then cap else cap + max (mn - cap) (cap + 2)
def Q_rm4 (Z : State) (p1 p2 : Int32) (h0 : Heap) (n0 : Nat) (v : Option Value) (h : Heap) (L : List Loc) : Prop := v = some (.int (own_imin p1 p2)) ∧ Fr n0 L ∧ h = h0
theorem pn_rm4 : plainFor (⟨"java/lang/Math", "min", "(II)I"⟩ : MethodName) = true := by first | exact plainFor_of_name (by first | (simp [plainName, overriddenIn, x]; done) | decide +kernel) | decide +kernel
theorem d4_0 : decode jdk_29_method_69_code 0 = .ok (.iload_n 0, 1) := by decide +kernel
theorem d4_1 : decode jdk_29_method_69_code 1 = .ok (.iload_n 1, 1) := by decide +kernel
theorem d4_2 : decode jdk_29_method_69_code 2 = .ok (.if_icmp .gt 7, 3) := by decide +kernel
theorem d4_9 : decode jdk_29_method_69_code 9 = .ok (.iload_n 1, 1) := by decide +kernel
theorem d4_10 : decode jdk_29_method_69_code 10 = .ok (.ireturn, 1) := by decide +kernel
theorem d4_5 : decode jdk_29_method_69_code 5 = .ok (.iload_n 0, 1) := by decide +kernel
theorem d4_6 : decode jdk_29_method_69_code 6 = .ok (.goto 4, 3) := by decide +kernel
set_option maxRecDepth 65536 in
set_option maxHeartbeats 40000000 in
theorem rm4 (l : Launch) (Z : State) (a0 : Array Value) (hw : ∀ d ∈ tables_1, d.before a0 Z = true) (ws : List Jvm.Cond) (p1 p2 : Int32) (h0 : Heap) (n0 : Nat) (Z0 : n0 ≤ h0.size)  :
    own_Met l Z (⟨"java/lang/Math", "min", "(II)I"⟩ : MethodName) jdk_29_method_69_code 2 (some .int) ws ({ frames := 0, cells := 0, slots := 0, locals := 0 } : Room) #[(.int p1), (.int p2)] h0 (Q_rm4 Z p1 p2 h0 n0) := by
  refine own_enter (g0 := fun m => (mkF m 0 #[.val (.int p1), .val (.int p2)] [])) pn_rm4 (fun m => by first | (simp [entryFrame, mkF, argsToLocals, Value.category, maxLocals]; done) | rfl) ?_
  intro p e s m below meth c s₁ hx hby hml hown hnm hret hlk hZ X0 e0
  have hml : c.maxLocals = 2 := hml
  have hown : s.vm.findClass "java/lang/Math" = some m.cls := hown
  have N0 := Fr.nil n0
  refine own_by (fun _ k => XS.iloadN X0.here hx rfl (hb hby d4_0) rfl k) ?_
  refine own_by (fun _ k => XS.iloadN X0.here hx rfl (hb hby d4_1) rfl k) ?_
  by_cases h1 : p2 < p1
  · refine own_by (fun _ k => XS.icmpYes X0.here hx rfl (pc0 := 2) (pc' := 9) rfl (hb hby d4_2) rfl (tlt (h1 : p2 < p1)).2.2.1 (by decide) (by decide) k) ?_
    refine own_by (fun _ k => XS.iloadN X0.here hx rfl (hb hby d4_9) rfl k) ?_
    exact own_retI X0 hx hlk hret  (hb hby d4_10) (by first | exact ⟨by rw [own_imin, if_pos h1], N0, rfl⟩ | (rw [e0]; exact ⟨by rw [own_imin, if_pos h1], N0, rfl⟩)) (by decide) (by decide)
  · refine own_by (fun _ k => XS.icmpNo X0.here hx rfl (hb hby d4_2) rfl (flt (h1 : ¬ (p2 < p1))).2.2.1 k) ?_
    refine own_by (fun _ k => XS.iloadN X0.here hx rfl (hb hby d4_5) rfl k) ?_
    refine own_by (fun _ k => XS.goto X0.here hx rfl (pc0 := 6) (pc' := 10) rfl (hb hby d4_6) (by decide) (by decide) k) ?_
    exact own_retI X0 hx hlk hret  (hb hby d4_10) (by first | exact ⟨by rw [own_imin, if_neg h1], N0, rfl⟩ | (rw [e0]; exact ⟨by rw [own_imin, if_neg h1], N0, rfl⟩)) (by decide) (by decide)
def Q_rm5 (Z : State) (p1 p2 : Int64) (h0 : Heap) (n0 : Nat) (v : Option Value) (h : Heap) (L : List Loc) : Prop := v = some (.long (own_lmin p1 p2)) ∧ Fr n0 L ∧ h = h0
theorem pn_rm5 : plainFor (⟨"java/lang/Math", "min", "(JJ)J"⟩ : MethodName) = true := by first | exact plainFor_of_name (by first | (simp [plainName, overriddenIn, x]; done) | decide +kernel) | decide +kernel
theorem d5_0 : decode jdk_29_method_70_code 0 = .ok (.lload_n 0, 1) := by decide +kernel
theorem d5_1 : decode jdk_29_method_70_code 1 = .ok (.lload_n 2, 1) := by decide +kernel
theorem d5_2 : decode jdk_29_method_70_code 2 = .ok (.lcmp, 1) := by decide +kernel
theorem d5_3 : decode jdk_29_method_70_code 3 = .ok (.ifCond .gt 7, 3) := by decide +kernel
theorem d5_10 : decode jdk_29_method_70_code 10 = .ok (.lload_n 2, 1) := by decide +kernel
theorem d5_11 : decode jdk_29_method_70_code 11 = .ok (.lreturn, 1) := by decide +kernel
theorem d5_6 : decode jdk_29_method_70_code 6 = .ok (.lload_n 0, 1) := by decide +kernel
theorem d5_7 : decode jdk_29_method_70_code 7 = .ok (.goto 4, 3) := by decide +kernel
set_option maxRecDepth 65536 in
set_option maxHeartbeats 40000000 in
theorem rm5 (l : Launch) (Z : State) (a0 : Array Value) (hw : ∀ d ∈ tables_1, d.before a0 Z = true) (ws : List Jvm.Cond) (p1 p2 : Int64) (h0 : Heap) (n0 : Nat) (Z0 : n0 ≤ h0.size)  :
    own_Met l Z (⟨"java/lang/Math", "min", "(JJ)J"⟩ : MethodName) jdk_29_method_70_code 4 (some .long) ws ({ frames := 0, cells := 0, slots := 0, locals := 0 } : Room) #[(.long p1), (.long p2)] h0 (Q_rm5 Z p1 p2 h0 n0) := by
  refine own_enter (g0 := fun m => (mkF m 0 #[.val (.long p1), .second, .val (.long p2), .second] [])) pn_rm5 (fun m => by first | (simp [entryFrame, mkF, argsToLocals, Value.category, maxLocals]; done) | rfl) ?_
  intro p e s m below meth c s₁ hx hby hml hown hnm hret hlk hZ X0 e0
  have hml : c.maxLocals = 4 := hml
  have hown : s.vm.findClass "java/lang/Math" = some m.cls := hown
  have N0 := Fr.nil n0
  refine own_by (fun _ k => XS.lloadN X0.here hx rfl (hb hby d5_0) rfl k) ?_
  refine own_by (fun _ k => XS.lloadN X0.here hx rfl (hb hby d5_1) rfl k) ?_
  refine own_by (fun _ k => XS.lcmp X0.here hx rfl (hb hby d5_2) rfl k) ?_
  by_cases h1 : p2 < p1
  · refine own_by (fun _ k => XS.ifYes X0.here hx rfl (pc0 := 3) (pc' := 10) rfl (hb hby d5_3) rfl ((if0 _ _).trans (tlt ((lw_gt _ _).mpr h1 : (0 : Int32) < (lcmpW p1 p2))).2.2.1) (by decide) (by decide) k) ?_
    refine own_by (fun _ k => XS.lloadN X0.here hx rfl (hb hby d5_10) rfl k) ?_
    exact own_retJ X0 hx hlk hret  (hb hby d5_11) (by first | exact ⟨by rw [own_lmin, if_pos h1], N0, rfl⟩ | (rw [e0]; exact ⟨by rw [own_lmin, if_pos h1], N0, rfl⟩)) (by decide) (by decide)
  · refine own_by (fun _ k => XS.ifNo X0.here hx rfl (hb hby d5_3) rfl ((if0 _ _).trans (flt (fun q => h1 ((lw_gt _ _).mp q) : ¬ ((0 : Int32) < (lcmpW p1 p2)))).2.2.1) k) ?_
    refine own_by (fun _ k => XS.lloadN X0.here hx rfl (hb hby d5_6) rfl k) ?_
    refine own_by (fun _ k => XS.goto X0.here hx rfl (pc0 := 7) (pc' := 11) rfl (hb hby d5_7) (by decide) (by decide) k) ?_
    exact own_retJ X0 hx hlk hret  (hb hby d5_11) (by first | exact ⟨by rw [own_lmin, if_neg h1], N0, rfl⟩ | (rw [e0]; exact ⟨by rw [own_lmin, if_neg h1], N0, rfl⟩)) (by decide) (by decide)
def Q_rm16 (Z : State) (p1 p2 : Int32) (h0 : Heap) (n0 : Nat) (v : Option Value) (h : Heap) (L : List Loc) : Prop := v = some (.int (own_imax p1 p2)) ∧ Fr n0 L ∧ h = h0
theorem pn_rm16 : plainFor (⟨"java/lang/Math", "max", "(II)I"⟩ : MethodName) = true := by first | exact plainFor_of_name (by first | (simp [plainName, overriddenIn, x]; done) | decide +kernel) | decide +kernel
theorem d16_0 : decode jdk_29_method_65_code 0 = .ok (.iload_n 0, 1) := by decide +kernel
theorem d16_1 : decode jdk_29_method_65_code 1 = .ok (.iload_n 1, 1) := by decide +kernel
theorem d16_2 : decode jdk_29_method_65_code 2 = .ok (.if_icmp .lt 7, 3) := by decide +kernel
theorem d16_9 : decode jdk_29_method_65_code 9 = .ok (.iload_n 1, 1) := by decide +kernel
theorem d16_10 : decode jdk_29_method_65_code 10 = .ok (.ireturn, 1) := by decide +kernel
theorem d16_5 : decode jdk_29_method_65_code 5 = .ok (.iload_n 0, 1) := by decide +kernel
theorem d16_6 : decode jdk_29_method_65_code 6 = .ok (.goto 4, 3) := by decide +kernel
set_option maxRecDepth 65536 in
set_option maxHeartbeats 40000000 in
theorem rm16 (l : Launch) (Z : State) (a0 : Array Value) (hw : ∀ d ∈ tables_1, d.before a0 Z = true) (ws : List Jvm.Cond) (p1 p2 : Int32) (h0 : Heap) (n0 : Nat) (Z0 : n0 ≤ h0.size)  :
    own_Met l Z (⟨"java/lang/Math", "max", "(II)I"⟩ : MethodName) jdk_29_method_65_code 2 (some .int) ws ({ frames := 0, cells := 0, slots := 0, locals := 0 } : Room) #[(.int p1), (.int p2)] h0 (Q_rm16 Z p1 p2 h0 n0) := by
  refine own_enter (g0 := fun m => (mkF m 0 #[.val (.int p1), .val (.int p2)] [])) pn_rm16 (fun m => by first | (simp [entryFrame, mkF, argsToLocals, Value.category, maxLocals]; done) | rfl) ?_
  intro p e s m below meth c s₁ hx hby hml hown hnm hret hlk hZ X0 e0
  have hml : c.maxLocals = 2 := hml
  have hown : s.vm.findClass "java/lang/Math" = some m.cls := hown
  have N0 := Fr.nil n0
  refine own_by (fun _ k => XS.iloadN X0.here hx rfl (hb hby d16_0) rfl k) ?_
  refine own_by (fun _ k => XS.iloadN X0.here hx rfl (hb hby d16_1) rfl k) ?_
  by_cases h1 : p1 < p2
  · refine own_by (fun _ k => XS.icmpYes X0.here hx rfl (pc0 := 2) (pc' := 9) rfl (hb hby d16_2) rfl (tlt (h1 : p1 < p2)).1 (by decide) (by decide) k) ?_
    refine own_by (fun _ k => XS.iloadN X0.here hx rfl (hb hby d16_9) rfl k) ?_
    exact own_retI X0 hx hlk hret  (hb hby d16_10) (by first | exact ⟨by rw [own_imax, if_pos h1], N0, rfl⟩ | (rw [e0]; exact ⟨by rw [own_imax, if_pos h1], N0, rfl⟩)) (by decide) (by decide)
  · refine own_by (fun _ k => XS.icmpNo X0.here hx rfl (hb hby d16_2) rfl (flt (h1 : ¬ (p1 < p2))).1 k) ?_
    refine own_by (fun _ k => XS.iloadN X0.here hx rfl (hb hby d16_5) rfl k) ?_
    refine own_by (fun _ k => XS.goto X0.here hx rfl (pc0 := 6) (pc' := 10) rfl (hb hby d16_6) (by decide) (by decide) k) ?_
    exact own_retI X0 hx hlk hret  (hb hby d16_10) (by first | exact ⟨by rw [own_imax, if_neg h1], N0, rfl⟩ | (rw [e0]; exact ⟨by rw [own_imax, if_neg h1], N0, rfl⟩)) (by decide) (by decide)
def Q_rm15 (Z : State) (na nb nc : Nat) (h0 : Heap) (n0 : Nat) (v : Option Value) (h : Heap) (L : List Loc) : Prop := v = some (.int (Int32.ofNat (na + max nb nc))) ∧ Fr n0 L ∧ h = h0
theorem pn_rm15 : plainFor (⟨"jdk/internal/util/ArraysSupport", "newLength", "(III)I"⟩ : MethodName) = true := by first | exact plainFor_of_name (by first | (simp [plainName, overriddenIn, x]; done) | decide +kernel) | decide +kernel
theorem d15_0 : decode jdk_48_method_27_code 0 = .ok (.iload_n 0, 1) := by decide +kernel
theorem d15_1 : decode jdk_48_method_27_code 1 = .ok (.iload_n 1, 1) := by decide +kernel
theorem d15_2 : decode jdk_48_method_27_code 2 = .ok (.iload_n 2, 1) := by decide +kernel
theorem pd_0 : parseMethodDescriptor "(II)I" = some ⟨[.int, .int], some .int⟩ := by decide +kernel
theorem d15_3 : decode jdk_48_method_27_code 3 = .ok (.invokestatic 194, 3) := by decide +kernel
theorem d15_6 : decode jdk_48_method_27_code 6 = .ok (.iadd, 1) := by decide +kernel
theorem d15_7 : decode jdk_48_method_27_code 7 = .ok (.istore_n 3, 1) := by decide +kernel
theorem d15_8 : decode jdk_48_method_27_code 8 = .ok (.iconst 0, 1) := by decide +kernel
theorem d15_9 : decode jdk_48_method_27_code 9 = .ok (.iload_n 3, 1) := by decide +kernel
theorem d15_10 : decode jdk_48_method_27_code 10 = .ok (.if_icmp .ge 11, 3) := by decide +kernel
theorem d15_13 : decode jdk_48_method_27_code 13 = .ok (.iload_n 3, 1) := by decide +kernel
theorem d15_14 : decode jdk_48_method_27_code 14 = .ok (.ldc 200, 2) := by decide +kernel
theorem d15_16 : decode jdk_48_method_27_code 16 = .ok (.if_icmp .gt 5, 3) := by decide +kernel
theorem d15_19 : decode jdk_48_method_27_code 19 = .ok (.iload_n 3, 1) := by decide +kernel
theorem d15_20 : decode jdk_48_method_27_code 20 = .ok (.ireturn, 1) := by decide +kernel
set_option maxRecDepth 65536 in
set_option maxHeartbeats 40000000 in
theorem rm15 (l : Launch) (Z : State) (a0 : Array Value) (hw : ∀ d ∈ tables_1, d.before a0 Z = true) (ws : List Jvm.Cond) (na nb nc : Nat) (h0 : Heap) (n0 : Nat) (Z0 : n0 ≤ h0.size) (h1 : na ≤ 1000) (h2 : nb ≤ 1000) (h3 : nc ≤ 1000) (h4 : 0 < na + max nb nc) :
    own_Met l Z (⟨"jdk/internal/util/ArraysSupport", "newLength", "(III)I"⟩ : MethodName) jdk_48_method_27_code 4 (some .int) ws ({ frames := 1, cells := 0, slots := 0, locals := 16 } : Room) #[(.int (Int32.ofNat na)), (.int (Int32.ofNat nb)), (.int (Int32.ofNat nc))] h0 (Q_rm15 Z na nb nc h0 n0) := by
  refine own_enter (g0 := fun m => (mkF m 0 #[.val (.int (Int32.ofNat na)), .val (.int (Int32.ofNat nb)), .val (.int (Int32.ofNat nc)), .unset] [])) pn_rm15 (fun m => by first | (simp [entryFrame, mkF, argsToLocals, Value.category, maxLocals]; done) | rfl) ?_
  intro p e s m below meth c s₁ hx hby hml hown hnm hret hlk hZ X0 e0
  have hml : c.maxLocals = 4 := hml
  have hown : s.vm.findClass "jdk/internal/util/ArraysSupport" = some m.cls := hown
  have N0 := Fr.nil n0
  refine own_by (fun _ k => XS.iloadN X0.here hx rfl (hb hby d15_0) rfl k) ?_
  refine own_by (fun _ k => XS.iloadN X0.here hx rfl (hb hby d15_1) rfl k) ?_
  refine own_by (fun _ k => XS.iloadN X0.here hx rfl (hb hby d15_2) rfl k) ?_
  obtain ⟨_, T101, L101, X101, ⟨rfl, N101q, e101⟩, st101⟩ := own_callS X0 hx hZ hown (y := (⟨"java/lang/Math", "max", "(II)I"⟩ : MethodName)) (hw _ (List.mem_of_getElem? (i := 122) rfl)) (hw _ (List.mem_of_getElem? (i := 123) rfl)) (hw _ (List.mem_of_getElem? (i := 46) rfl)) (hw _ (List.mem_of_getElem? (i := 124) rfl)) (by decide) (argsL := [(.int (Int32.ofNat nb)), (.int (Int32.ofNat nc))]) (rest := [(.int (Int32.ofNat na))]) e0 (rm16 l Z a0 hw [] (Int32.ofNat nb) (Int32.ofNat nc) h0 n0 Z0 ) (g := (mkF m 3 #[.val (.int (Int32.ofNat na)), .val (.int (Int32.ofNat nb)), .val (.int (Int32.ofNat nc)), .unset] [(.int (Int32.ofNat nc)), (.int (Int32.ofNat nb)), (.int (Int32.ofNat na))])) rfl (by rw [hml]; rfl) (lenOf pd_0 rfl) rfl (W := 1) (by show 2 * 0 + _ ≤ _; exact Nat.le_of_eq rfl) (hb hby d15_3) (by decide) (by decide) (by decide) (by decide)
  have N101 := Fr.app N0 N101q
  refine own_by st101 ?_
  refine own_by (fun _ k => XS.iadd X101.here hx rfl (hb hby d15_6) rfl k) ?_
  show own_Go p e below _ T101 (mkF m 7 #[.val (.int (Int32.ofNat na)), .val (.int (Int32.ofNat nb)), .val (.int (Int32.ofNat nc)), .unset] [(.int ((Int32.ofNat na) + (own_imax (Int32.ofNat nb) (Int32.ofNat nc))))])
  rw [show ((Int32.ofNat na) + (own_imax (Int32.ofNat nb) (Int32.ofNat nc))) = (Int32.ofNat (na + max nb nc)) from own_nl h1 h2 h3]
  refine own_by (fun _ k => XS.istoreN X101.here hx rfl (hb hby d15_7) rfl (l' := #[.val (.int (Int32.ofNat na)), .val (.int (Int32.ofNat nb)), .val (.int (Int32.ofNat nc)), .val (.int (Int32.ofNat (na + max nb nc)))]) rfl k) ?_
  refine own_by (fun _ k => XS.iconst X101.here hx rfl (hb hby d15_8) k) ?_
  refine own_by (fun _ k => XS.iloadN X101.here hx rfl (hb hby d15_9) rfl k) ?_
  refine own_by (fun _ k => XS.icmpNo X101.here hx rfl (hb hby d15_10) rfl (tlt (own_pos h4 (by omega) : (0 : Int32) < (Int32.ofNat (na + max nb nc)))).2.1 k) ?_
  refine own_by (fun _ k => XS.iloadN X101.here hx rfl (hb hby d15_13) rfl k) ?_
  refine own_by (fun _ k => Stand.ldcI X101 hx hown (mvT hZ (hw _ (List.mem_of_getElem? (i := 125) rfl))) rfl (hb hby d15_14) k) ?_
  refine own_by (fun _ k => XS.icmpNo X101.here hx rfl (hb hby d15_16) rfl (flt (own_big (by omega) : ¬ ((2147483639 : Int32) < (Int32.ofNat (na + max nb nc))))).2.2.1 k) ?_
  refine own_by (fun _ k => XS.iloadN X101.here hx rfl (hb hby d15_19) rfl k) ?_
  show own_Go p e below _ T101 (mkF m 20 #[.val (.int (Int32.ofNat na)), .val (.int (Int32.ofNat nb)), .val (.int (Int32.ofNat nc)), .val (.int (Int32.ofNat (na + max nb nc)))] [(.int (Int32.ofNat (na + max nb nc)))])
  exact own_retI X101 hx hlk hret  (hb hby d15_20) (by first | exact ⟨rfl, N101, rfl⟩ | (rw [e101]; exact ⟨rfl, N101, rfl⟩)) (by decide) (by decide)
def Q_rm14 (Z : State) (sb q : Addr) (kq : ClassId) (cap : Nat) (xs : List Int32) (mn : Nat) (h0 : Heap) (n0 : Nat) (v : Option Value) (h : Heap) (L : List Loc) : Prop := v = some (.int (Int32.ofNat (cap + max (mn - cap) (cap + 2)))) ∧ Fr n0 L ∧ h = h0
theorem pn_rm14 : plainFor (⟨"java/lang/AbstractStringBuilder", "newCapacity", "(I)I"⟩ : MethodName) = true := by first | exact plainFor_of_name (by first | (simp [plainName, overriddenIn, x]; done) | decide +kernel) | decide +kernel
theorem d14_0 : decode jdk_68_method_10_code 0 = .ok (.aload_n 0, 1) := by decide +kernel
theorem d14_1 : decode jdk_68_method_10_code 1 = .ok (.getfield 15, 3) := by decide +kernel
theorem d14_4 : decode jdk_68_method_10_code 4 = .ok (.arraylength, 1) := by decide +kernel
theorem d14_5 : decode jdk_68_method_10_code 5 = .ok (.istore_n 2, 1) := by decide +kernel
theorem d14_6 : decode jdk_68_method_10_code 6 = .ok (.iload_n 1, 1) := by decide +kernel
theorem d14_7 : decode jdk_68_method_10_code 7 = .ok (.aload_n 0, 1) := by decide +kernel
theorem d14_8 : decode jdk_68_method_10_code 8 = .ok (.getfield 22, 3) := by decide +kernel
theorem d14_11 : decode jdk_68_method_10_code 11 = .ok (.ishl, 1) := by decide +kernel
theorem d14_12 : decode jdk_68_method_10_code 12 = .ok (.istore_n 3, 1) := by decide +kernel
theorem d14_13 : decode jdk_68_method_10_code 13 = .ok (.iload_n 3, 1) := by decide +kernel
theorem d14_14 : decode jdk_68_method_10_code 14 = .ok (.iload_n 2, 1) := by decide +kernel
theorem d14_15 : decode jdk_68_method_10_code 15 = .ok (.isub, 1) := by decide +kernel
theorem d14_16 : decode jdk_68_method_10_code 16 = .ok (.istore 4, 2) := by decide +kernel
theorem d14_18 : decode jdk_68_method_10_code 18 = .ok (.iload_n 2, 1) := by decide +kernel
theorem d14_19 : decode jdk_68_method_10_code 19 = .ok (.iload 4, 2) := by decide +kernel
theorem d14_21 : decode jdk_68_method_10_code 21 = .ok (.iload_n 2, 1) := by decide +kernel
theorem d14_22 : decode jdk_68_method_10_code 22 = .ok (.iconst 2, 1) := by decide +kernel
theorem d14_23 : decode jdk_68_method_10_code 23 = .ok (.aload_n 0, 1) := by decide +kernel
theorem d14_24 : decode jdk_68_method_10_code 24 = .ok (.getfield 22, 3) := by decide +kernel
theorem d14_27 : decode jdk_68_method_10_code 27 = .ok (.ishl, 1) := by decide +kernel
theorem d14_28 : decode jdk_68_method_10_code 28 = .ok (.iadd, 1) := by decide +kernel
theorem pd_1 : parseMethodDescriptor "(III)I" = some ⟨[.int, .int, .int], some .int⟩ := by decide +kernel
theorem d14_29 : decode jdk_68_method_10_code 29 = .ok (.invokestatic 114, 3) := by decide +kernel
theorem d14_32 : decode jdk_68_method_10_code 32 = .ok (.istore 5, 2) := by decide +kernel
theorem d14_34 : decode jdk_68_method_10_code 34 = .ok (.iload 5, 2) := by decide +kernel
theorem d14_36 : decode jdk_68_method_10_code 36 = .ok (.ldc 39, 2) := by decide +kernel
theorem d14_38 : decode jdk_68_method_10_code 38 = .ok (.if_icmp .ne 13, 3) := by decide +kernel
theorem d14_51 : decode jdk_68_method_10_code 51 = .ok (.iload 5, 2) := by decide +kernel
theorem d14_53 : decode jdk_68_method_10_code 53 = .ok (.aload_n 0, 1) := by decide +kernel
theorem d14_54 : decode jdk_68_method_10_code 54 = .ok (.getfield 22, 3) := by decide +kernel
theorem d14_57 : decode jdk_68_method_10_code 57 = .ok (.ishr, 1) := by decide +kernel
theorem d14_58 : decode jdk_68_method_10_code 58 = .ok (.ireturn, 1) := by decide +kernel
set_option maxRecDepth 65536 in
set_option maxHeartbeats 40000000 in
theorem rm14 (l : Launch) (Z : State) (a0 : Array Value) (hw : ∀ d ∈ tables_1, d.before a0 Z = true) (ws : List Jvm.Cond) (sb q : Addr) (kq : ClassId) (cap : Nat) (xs : List Int32) (mn : Nat) (h0 : Heap) (n0 : Nat) (Z0 : n0 ≤ h0.size) (gs : n0 ≤ sb) (gq : n0 ≤ q) (Es : Exa Z h0 sb "java/lang/StringBuilder") (Cs : Fld Z h0 sb "java/lang/AbstractStringBuilder" "coder" "B" (.int (0 : Int32))) (Vs : Fld Z h0 sb "java/lang/AbstractStringBuilder" "value" "[B" (.ref q)) (Ns : Fld Z h0 sb "java/lang/AbstractStringBuilder" "count" "I" (.int (Int32.ofNat xs.length))) (Aq : Arv Z h0 q kq .byte (Int32.ofNat cap) ((own_pad cap xs).map Value.int) (.int 0)) (hcap : xs.length ≤ cap) (hcb : cap ≤ 200) (hm1 : cap < mn) (hm2 : mn ≤ 400) :
    own_Met l Z (⟨"java/lang/AbstractStringBuilder", "newCapacity", "(I)I"⟩ : MethodName) jdk_68_method_10_code 6 (some .int) ws ({ frames := 2, cells := 0, slots := 0, locals := 34 } : Room) #[(.ref sb), (.int (Int32.ofNat mn))] h0 (Q_rm14 Z sb q kq cap xs mn h0 n0) := by
  refine own_enter (g0 := fun m => (mkF m 0 #[.val (.ref sb), .val (.int (Int32.ofNat mn)), .unset, .unset, .unset, .unset] [])) pn_rm14 (fun m => by first | (simp [entryFrame, mkF, argsToLocals, Value.category, maxLocals]; done) | rfl) ?_
  intro p e s m below meth c s₁ hx hby hml hown hnm hret hlk hZ X0 e0
  have hml : c.maxLocals = 6 := hml
  have hown : s.vm.findClass "java/lang/AbstractStringBuilder" = some m.cls := hown
  have N0 := Fr.nil n0
  have nsq : sb ≠ q := Exa.neArv Es Aq (hw _ (List.mem_of_getElem? (i := 65) rfl))
  have K0 := Keep.refl h0 [sb, q]
  refine own_by (fun _ k => XS.aloadN X0.here hx rfl (hb hby d14_0) rfl rfl k) ?_
  obtain ⟨T102, X102, e102, st102⟩ := getF X0 hx hZ hown (host := "") (Or.inl (hw _ (List.mem_of_getElem? (i := 78) rfl))) Via.refl e0 Vs (g := (mkF m 1 #[.val (.ref sb), .val (.int (Int32.ofNat mn)), .unset, .unset, .unset, .unset] [(.ref sb)])) rfl rfl (hb hby d14_1)
  refine own_by st102 ?_
  obtain ⟨cl103, Ar103, len103⟩ := own_len Aq
  refine own_by (T' := T102) (g' := (mkF m 5 #[.val (.ref sb), .val (.int (Int32.ofNat mn)), .unset, .unset, .unset, .unset] [(.int (Int32.ofNat cap))])) (fun _ k => X102.arraylength hx (by rw [e102]; exact Ar103.1) (State.isArrayOf_alike hZ.alike Ar103.2.1) (g := (mkF m 4 #[.val (.ref sb), .val (.int (Int32.ofNat mn)), .unset, .unset, .unset, .unset] [(.ref q)])) rfl rfl (hb hby d14_4) _ (by rw [len103]; exact k)) ?_
  refine own_by (fun _ k => XS.istoreN X102.here hx rfl (hb hby d14_5) rfl (l' := #[.val (.ref sb), .val (.int (Int32.ofNat mn)), .val (.int (Int32.ofNat cap)), .unset, .unset, .unset]) rfl k) ?_
  refine own_by (fun _ k => XS.iloadN X102.here hx rfl (hb hby d14_6) rfl k) ?_
  refine own_by (fun _ k => XS.aloadN X102.here hx rfl (hb hby d14_7) rfl rfl k) ?_
  obtain ⟨T104, X104, e104, st104⟩ := getF X102 hx hZ hown (host := "") (Or.inl (hw _ (List.mem_of_getElem? (i := 80) rfl))) Via.refl e102 Cs (g := (mkF m 8 #[.val (.ref sb), .val (.int (Int32.ofNat mn)), .val (.int (Int32.ofNat cap)), .unset, .unset, .unset] [(.ref sb), (.int (Int32.ofNat mn))])) rfl rfl (hb hby d14_8)
  refine own_by st104 ?_
  refine own_by (fun _ k => XS.ishl X104.here hx rfl (hb hby d14_11) rfl k) ?_
  show own_Go p e below _ T104 (mkF m 12 #[.val (.ref sb), .val (.int (Int32.ofNat mn)), .val (.int (Int32.ofNat cap)), .unset, .unset, .unset] [(.int ((Int32.ofNat mn) <<< ((0 : Int32) &&& 31)))])
  rw [show ((Int32.ofNat mn) <<< ((0 : Int32) &&& 31)) = (Int32.ofNat mn) from own_shl _]
  refine own_by (fun _ k => XS.istoreN X104.here hx rfl (hb hby d14_12) rfl (l' := #[.val (.ref sb), .val (.int (Int32.ofNat mn)), .val (.int (Int32.ofNat cap)), .val (.int (Int32.ofNat mn)), .unset, .unset]) rfl k) ?_
  refine own_by (fun _ k => XS.iloadN X104.here hx rfl (hb hby d14_13) rfl k) ?_
  refine own_by (fun _ k => XS.iloadN X104.here hx rfl (hb hby d14_14) rfl k) ?_
  refine own_by (fun _ k => XS.isub X104.here hx rfl (hb hby d14_15) rfl k) ?_
  show own_Go p e below _ T104 (mkF m 16 #[.val (.ref sb), .val (.int (Int32.ofNat mn)), .val (.int (Int32.ofNat cap)), .val (.int (Int32.ofNat mn)), .unset, .unset] [(.int ((Int32.ofNat mn) - (Int32.ofNat cap)))])
  rw [show ((Int32.ofNat mn) - (Int32.ofNat cap)) = (Int32.ofNat (mn - cap)) from own_sub (by omega) (by omega)]
  refine own_by (fun _ k => XS.istore X104.here hx rfl (hb hby d14_16) rfl (l' := #[.val (.ref sb), .val (.int (Int32.ofNat mn)), .val (.int (Int32.ofNat cap)), .val (.int (Int32.ofNat mn)), .val (.int (Int32.ofNat (mn - cap))), .unset]) rfl k) ?_
  refine own_by (fun _ k => XS.iloadN X104.here hx rfl (hb hby d14_18) rfl k) ?_
  refine own_by (fun _ k => XS.iload X104.here hx rfl (hb hby d14_19) rfl k) ?_
  refine own_by (fun _ k => XS.iloadN X104.here hx rfl (hb hby d14_21) rfl k) ?_
  refine own_by (fun _ k => XS.iconst X104.here hx rfl (hb hby d14_22) k) ?_
  refine own_by (fun _ k => XS.aloadN X104.here hx rfl (hb hby d14_23) rfl rfl k) ?_
  obtain ⟨T105, X105, e105, st105⟩ := getF X104 hx hZ hown (host := "") (Or.inl (hw _ (List.mem_of_getElem? (i := 80) rfl))) Via.refl e104 Cs (g := (mkF m 24 #[.val (.ref sb), .val (.int (Int32.ofNat mn)), .val (.int (Int32.ofNat cap)), .val (.int (Int32.ofNat mn)), .val (.int (Int32.ofNat (mn - cap))), .unset] [(.ref sb), (.int (2 : Int32)), (.int (Int32.ofNat cap)), (.int (Int32.ofNat (mn - cap))), (.int (Int32.ofNat cap))])) rfl rfl (hb hby d14_24)
  refine own_by st105 ?_
  refine own_by (fun _ k => XS.ishl X105.here hx rfl (hb hby d14_27) rfl k) ?_
  show own_Go p e below _ T105 (mkF m 28 #[.val (.ref sb), .val (.int (Int32.ofNat mn)), .val (.int (Int32.ofNat cap)), .val (.int (Int32.ofNat mn)), .val (.int (Int32.ofNat (mn - cap))), .unset] [(.int ((2 : Int32) <<< ((0 : Int32) &&& 31))), (.int (Int32.ofNat cap)), (.int (Int32.ofNat (mn - cap))), (.int (Int32.ofNat cap))])
  rw [show ((2 : Int32) <<< ((0 : Int32) &&& 31)) = (2 : Int32) from own_shl _]
  refine own_by (fun _ k => XS.iadd X105.here hx rfl (hb hby d14_28) rfl k) ?_
  show own_Go p e below _ T105 (mkF m 29 #[.val (.ref sb), .val (.int (Int32.ofNat mn)), .val (.int (Int32.ofNat cap)), .val (.int (Int32.ofNat mn)), .val (.int (Int32.ofNat (mn - cap))), .unset] [(.int ((Int32.ofNat cap) + (2 : Int32))), (.int (Int32.ofNat (mn - cap))), (.int (Int32.ofNat cap))])
  rw [show ((Int32.ofNat cap) + (2 : Int32)) = (Int32.ofNat (cap + 2)) from own_add (b := 2) (by omega) (by omega)]
  obtain ⟨_, T106, L106, X106, ⟨rfl, N106q, e106⟩, st106⟩ := own_callS X105 hx hZ hown (y := (⟨"jdk/internal/util/ArraysSupport", "newLength", "(III)I"⟩ : MethodName)) (hw _ (List.mem_of_getElem? (i := 118) rfl)) (hw _ (List.mem_of_getElem? (i := 119) rfl)) (hw _ (List.mem_of_getElem? (i := 120) rfl)) (hw _ (List.mem_of_getElem? (i := 121) rfl)) (by decide) (argsL := [(.int (Int32.ofNat cap)), (.int (Int32.ofNat (mn - cap))), (.int (Int32.ofNat (cap + 2)))]) (rest := []) e105 (rm15 l Z a0 hw [] cap (mn - cap) (cap + 2) h0 n0 Z0 (by omega) (by omega) (by omega) (by omega)) (g := (mkF m 29 #[.val (.ref sb), .val (.int (Int32.ofNat mn)), .val (.int (Int32.ofNat cap)), .val (.int (Int32.ofNat mn)), .val (.int (Int32.ofNat (mn - cap))), .unset] [(.int (Int32.ofNat (cap + 2))), (.int (Int32.ofNat (mn - cap))), (.int (Int32.ofNat cap))])) rfl (by rw [hml]; rfl) (lenOf pd_1 rfl) rfl (W := 0) (by show 2 * 0 + _ ≤ _; exact Nat.le_of_eq rfl) (hb hby d14_29) (by decide) (by decide) (by decide) (by decide)
  have N106 := Fr.app N0 N106q
  refine own_by st106 ?_
  refine own_by (fun _ k => XS.istore X106.here hx rfl (hb hby d14_32) rfl (l' := #[.val (.ref sb), .val (.int (Int32.ofNat mn)), .val (.int (Int32.ofNat cap)), .val (.int (Int32.ofNat mn)), .val (.int (Int32.ofNat (mn - cap))), .val (.int (Int32.ofNat (cap + max (mn - cap) (cap + 2))))]) rfl k) ?_
  refine own_by (fun _ k => XS.iload X106.here hx rfl (hb hby d14_34) rfl k) ?_
  refine own_by (fun _ k => Stand.ldcI X106 hx hown (mvT hZ (hw _ (List.mem_of_getElem? (i := 126) rfl))) rfl (hb hby d14_36) k) ?_
  refine own_by (fun _ k => XS.icmpYes X106.here hx rfl (pc0 := 38) (pc' := 51) rfl (hb hby d14_38) rfl (feq (own_nmx (by omega) : ¬ ((Int32.ofNat (cap + max (mn - cap) (cap + 2))) = (2147483647 : Int32)))).2 (by decide) (by decide) k) ?_
  refine own_by (fun _ k => XS.iload X106.here hx rfl (hb hby d14_51) rfl k) ?_
  refine own_by (fun _ k => XS.aloadN X106.here hx rfl (hb hby d14_53) rfl rfl k) ?_
  obtain ⟨T107, X107, e107, st107⟩ := getF X106 hx hZ hown (host := "") (Or.inl (hw _ (List.mem_of_getElem? (i := 80) rfl))) Via.refl e106 Cs (g := (mkF m 54 #[.val (.ref sb), .val (.int (Int32.ofNat mn)), .val (.int (Int32.ofNat cap)), .val (.int (Int32.ofNat mn)), .val (.int (Int32.ofNat (mn - cap))), .val (.int (Int32.ofNat (cap + max (mn - cap) (cap + 2))))] [(.ref sb), (.int (Int32.ofNat (cap + max (mn - cap) (cap + 2))))])) rfl rfl (hb hby d14_54)
  refine own_by st107 ?_
  show own_Go p e below _ T107 (mkF m 57 #[.val (.ref sb), .val (.int (Int32.ofNat mn)), .val (.int (Int32.ofNat cap)), .val (.int (Int32.ofNat mn)), .val (.int (Int32.ofNat (mn - cap))), .val (.int (Int32.ofNat (cap + max (mn - cap) (cap + 2))))] [(.int (0 : Int32)), (.int (Int32.ofNat (cap + max (mn - cap) (cap + 2))))])
  refine own_by (fun _ k => XS.ishr X107.here hx rfl (hb hby d14_57) rfl k) ?_
  show own_Go p e below _ T107 (mkF m 58 #[.val (.ref sb), .val (.int (Int32.ofNat mn)), .val (.int (Int32.ofNat cap)), .val (.int (Int32.ofNat mn)), .val (.int (Int32.ofNat (mn - cap))), .val (.int (Int32.ofNat (cap + max (mn - cap) (cap + 2))))] [(.int ((Int32.ofNat (cap + max (mn - cap) (cap + 2))) >>> ((0 : Int32) &&& 31)))])
  rw [show ((Int32.ofNat (cap + max (mn - cap) (cap + 2))) >>> ((0 : Int32) &&& 31)) = (Int32.ofNat (cap + max (mn - cap) (cap + 2))) from own_shr _]
  exact own_retI X107 hx hlk hret  (hb hby d14_58) (by first | exact ⟨rfl, N106, rfl⟩ | (rw [e107]; exact ⟨rfl, N106, rfl⟩)) (by decide) (by decide)
def Q_rm17 (Z : State) (q : Addr) (kq : ClassId) (cap : Nat) (xs : List Int32) (nw : Nat) (h0 : Heap) (n0 : Nat) (v : Option Value) (h : Heap) (L : List Loc) : Prop := ∃ b kb, v = some (.ref b) ∧ Fr n0 L ∧ Keep h0 h [] ∧ h0.size ≤ b ∧ Arv Z h b kb .byte (Int32.ofNat nw) ((own_pad nw xs).map Value.int) (.int 0)
theorem pn_rm17 : plainFor (⟨"java/util/Arrays", "copyOf", "([BI)[B"⟩ : MethodName) = true := by first | exact plainFor_of_name (by first | (simp [plainName, overriddenIn, x]; done) | decide +kernel) | decide +kernel
theorem d17_0 : decode jdk_65_method_121_code 0 = .ok (.iload_n 1, 1) := by decide +kernel
theorem d17_1 : decode jdk_65_method_121_code 1 = .ok (.aload_n 0, 1) := by decide +kernel
theorem d17_2 : decode jdk_65_method_121_code 2 = .ok (.arraylength, 1) := by decide +kernel
theorem d17_3 : decode jdk_65_method_121_code 3 = .ok (.if_icmp .ne 11, 3) := by decide +kernel
theorem d17_14 : decode jdk_65_method_121_code 14 = .ok (.iload_n 1, 1) := by decide +kernel
theorem d17_15 : decode jdk_65_method_121_code 15 = .ok (.newarray .byte, 2) := by decide +kernel
theorem d17_17 : decode jdk_65_method_121_code 17 = .ok (.astore_n 2, 1) := by decide +kernel
theorem d17_18 : decode jdk_65_method_121_code 18 = .ok (.aload_n 0, 1) := by decide +kernel
theorem d17_19 : decode jdk_65_method_121_code 19 = .ok (.iconst 0, 1) := by decide +kernel
theorem d17_20 : decode jdk_65_method_121_code 20 = .ok (.aload_n 2, 1) := by decide +kernel
theorem d17_21 : decode jdk_65_method_121_code 21 = .ok (.iconst 0, 1) := by decide +kernel
theorem d17_22 : decode jdk_65_method_121_code 22 = .ok (.aload_n 0, 1) := by decide +kernel
theorem d17_23 : decode jdk_65_method_121_code 23 = .ok (.arraylength, 1) := by decide +kernel
theorem d17_24 : decode jdk_65_method_121_code 24 = .ok (.iload_n 1, 1) := by decide +kernel
theorem d17_25 : decode jdk_65_method_121_code 25 = .ok (.invokestatic 304, 3) := by decide +kernel
theorem d17_28 : decode jdk_65_method_121_code 28 = .ok (.invokestatic 150, 3) := by decide +kernel
theorem d17_31 : decode jdk_65_method_121_code 31 = .ok (.aload_n 2, 1) := by decide +kernel
theorem d17_32 : decode jdk_65_method_121_code 32 = .ok (.areturn, 1) := by decide +kernel
set_option maxRecDepth 65536 in
set_option maxHeartbeats 40000000 in
theorem rm17 (l : Launch) (Z : State) (a0 : Array Value) (hw : ∀ d ∈ tables_1, d.before a0 Z = true) (ws : List Jvm.Cond) (q : Addr) (kq : ClassId) (cap : Nat) (xs : List Int32) (nw : Nat) (h0 : Heap) (n0 : Nat) (Z0 : n0 ≤ h0.size) (Aq : Arv Z h0 q kq .byte (Int32.ofNat cap) ((own_pad cap xs).map Value.int) (.int 0)) (hcap : xs.length ≤ cap) (hn1 : cap < nw) (hn2 : nw ≤ 200) :
    own_Met l Z (⟨"java/util/Arrays", "copyOf", "([BI)[B"⟩ : MethodName) jdk_65_method_121_code 3 (some (.array .byte)) ws ({ frames := 1, cells := 1, slots := 200, locals := 34 } : Room) #[(.ref q), (.int (Int32.ofNat nw))] h0 (Q_rm17 Z q kq cap xs nw h0 n0) := by
  refine own_enter (g0 := fun m => (mkF m 0 #[.val (.ref q), .val (.int (Int32.ofNat nw)), .unset] [])) pn_rm17 (fun m => by first | (simp [entryFrame, mkF, argsToLocals, Value.category, maxLocals]; done) | rfl) ?_
  intro p e s m below meth c s₁ hx hby hml hown hnm hret hlk hZ X0 e0
  have hml : c.maxLocals = 3 := hml
  have hown : s.vm.findClass "java/util/Arrays" = some m.cls := hown
  have N0 := Fr.nil n0
  have K0 := Keep.refl h0 []
  refine own_by (fun _ k => XS.iloadN X0.here hx rfl (hb hby d17_0) rfl k) ?_
  refine own_by (fun _ k => XS.aloadN X0.here hx rfl (hb hby d17_1) rfl rfl k) ?_
  obtain ⟨cl108, Ar108, len108⟩ := own_len Aq
  refine own_by (T' := s₁) (g' := (mkF m 3 #[.val (.ref q), .val (.int (Int32.ofNat nw)), .unset] [(.int (Int32.ofNat cap)), (.int (Int32.ofNat nw))])) (fun _ k => X0.arraylength hx (by rw [e0]; exact Ar108.1) (State.isArrayOf_alike hZ.alike Ar108.2.1) (g := (mkF m 2 #[.val (.ref q), .val (.int (Int32.ofNat nw)), .unset] [(.ref q), (.int (Int32.ofNat nw))])) rfl rfl (hb hby d17_2) _ (by rw [len108]; exact k)) ?_
  show own_Go p e below _ s₁ (mkF m 3 #[.val (.ref q), .val (.int (Int32.ofNat nw)), .unset] [(.int (Int32.ofNat cap)), (.int (Int32.ofNat nw))])
  refine own_by (fun _ k => XS.icmpYes X0.here hx rfl (pc0 := 3) (pc' := 14) rfl (hb hby d17_3) rfl (feq (fun z => by have := (own_eqn (by omega) (by omega)).mp z; omega : ¬ ((Int32.ofNat nw) = (Int32.ofNat cap)))).2 (by decide) (by decide) k) ?_
  refine own_by (fun _ k => XS.iloadN X0.here hx rfl (hb hby d17_14) rfl k) ?_
  obtain ⟨T109, h109, k109, X109, e109, E109, A109, C109, st109⟩ := newPE X0 hx hZ (hw _ (List.mem_of_getElem? (i := 32) rfl)) e0 (g := (mkF m 15 #[.val (.ref q), .val (.int (Int32.ofNat nw)), .unset] [(.int (Int32.ofNat nw))])) rfl (hb hby d17_15) rfl (own_nn (show nw ≤ 100000 by omega)) (cap := 200) (by rw [own_tn (show nw ≤ 100000 by omega)]; exact hn2) (by decide) (by decide) (by decide) (ad := "[B") (by decide)
  obtain ⟨b109, g109⟩ : ∃ zq, zq = h0.size := ⟨_, rfl⟩
  rw [← g109] at A109 C109 st109
  have ne_q_b109 : q ≠ b109 := Nat.ne_of_lt (Nat.lt_of_lt_of_le Aq.lt (Nat.le_of_eq g109.symm))
  have og_b109 : n0 ≤ b109 := Nat.le_trans Z0 (Nat.le_of_eq g109.symm)
  have sz_b109 : h0.size ≤ b109 := Nat.le_trans K0.1 (Nat.le_of_eq g109.symm)
  have Z109 : n0 ≤ h109.size := Nat.le_trans Z0 E109.1
  have K110 := K0.ext E109
  have V109 : Arv Z h109 b109 k109 .byte (Int32.ofNat nw) ((List.replicate nw (0 : Int32)).map Value.int) (.int (0 : Int32)) := own_newA A109 (own_nn (show nw ≤ 100000 by omega)) nw
  refine own_by st109 ?_
  refine own_by (fun _ k => XS.astoreN X109.here hx rfl (hb hby d17_17) rfl rfl (l' := #[.val (.ref q), .val (.int (Int32.ofNat nw)), .val (.ref b109)]) rfl k) ?_
  refine own_by (fun _ k => XS.aloadN X109.here hx rfl (hb hby d17_18) rfl rfl k) ?_
  refine own_by (fun _ k => XS.iconst X109.here hx rfl (hb hby d17_19) k) ?_
  refine own_by (fun _ k => XS.aloadN X109.here hx rfl (hb hby d17_20) rfl rfl k) ?_
  refine own_by (fun _ k => XS.iconst X109.here hx rfl (hb hby d17_21) k) ?_
  refine own_by (fun _ k => XS.aloadN X109.here hx rfl (hb hby d17_22) rfl rfl k) ?_
  show own_Go p e below _ T109 (mkF m 23 #[.val (.ref q), .val (.int (Int32.ofNat nw)), .val (.ref b109)] [(.ref q), (.int (0 : Int32)), (.ref b109), (.int (0 : Int32)), (.ref q)])
  have f112 := (Aq.ext E109)
  obtain ⟨cl111, Ar111, len111⟩ := own_len f112
  refine own_by (T' := T109) (g' := (mkF m 24 #[.val (.ref q), .val (.int (Int32.ofNat nw)), .val (.ref b109)] [(.int (Int32.ofNat cap)), (.int (0 : Int32)), (.ref b109), (.int (0 : Int32)), (.ref q)])) (fun _ k => X109.arraylength hx (by rw [e109]; exact Ar111.1) (State.isArrayOf_alike hZ.alike Ar111.2.1) (g := (mkF m 23 #[.val (.ref q), .val (.int (Int32.ofNat nw)), .val (.ref b109)] [(.ref q), (.int (0 : Int32)), (.ref b109), (.int (0 : Int32)), (.ref q)])) rfl rfl (hb hby d17_23) _ (by rw [len111]; exact k)) ?_
  refine own_by (fun _ k => XS.iloadN X109.here hx rfl (hb hby d17_24) rfl k) ?_
  obtain ⟨_, T113, L113, X113, ⟨rfl, N113q, e113⟩, st113⟩ := own_callS X109 hx hZ hown (y := (⟨"java/lang/Math", "min", "(II)I"⟩ : MethodName)) (hw _ (List.mem_of_getElem? (i := 131) rfl)) (hw _ (List.mem_of_getElem? (i := 45) rfl)) (hw _ (List.mem_of_getElem? (i := 46) rfl)) (hw _ (List.mem_of_getElem? (i := 47) rfl)) (by decide) (argsL := [(.int (Int32.ofNat cap)), (.int (Int32.ofNat nw))]) (rest := [(.int (0 : Int32)), (.ref b109), (.int (0 : Int32)), (.ref q)]) e109 (rm4 l Z a0 hw [] (Int32.ofNat cap) (Int32.ofNat nw) h109 n0 Z109 ) (g := (mkF m 25 #[.val (.ref q), .val (.int (Int32.ofNat nw)), .val (.ref b109)] [(.int (Int32.ofNat nw)), (.int (Int32.ofNat cap)), (.int (0 : Int32)), (.ref b109), (.int (0 : Int32)), (.ref q)])) rfl (by rw [hml]; rfl) (lenOf pd_0 rfl) rfl (W := 4) (by show 2 * 0 + _ ≤ _; exact Nat.le_of_eq rfl) (hb hby d17_25) (by decide) (by decide) (by decide) (by decide)
  have N113 := Fr.app N0 N113q
  refine own_by st113 ?_
  show own_Go p e below _ T113 (mkF m 28 #[.val (.ref q), .val (.int (Int32.ofNat nw)), .val (.ref b109)] [(.int (own_imin (Int32.ofNat cap) (Int32.ofNat nw))), (.int (0 : Int32)), (.ref b109), (.int (0 : Int32)), (.ref q)])
  rw [show (own_imin (Int32.ofNat cap) (Int32.ofNat nw)) = (Int32.ofNat cap) from own_minl (by omega) (by omega) (by omega)]
  obtain ⟨T114, h114, L114, X114, e114, N114, K114, A114, st114⟩ := cpA X113 hx hZ hown (hw _ (List.mem_of_getElem? (i := 132) rfl)) (hw _ (List.mem_of_getElem? (i := 135) rfl)) (hw _ (List.mem_of_getElem? (i := 133) rfl)) (hw _ (List.mem_of_getElem? (i := 134) rfl)) e113 (sp := (0 : Int32)) (dp := (0 : Int32)) (nn := (Int32.ofNat cap)) (us := ((List.range cap).map fun i => ((own_pad cap xs).map Value.int).getD (0 + i) (.int (0 : Int32)))) f112 V109 (Or.inl ⟨rfl, rfl⟩) (by decide) (by decide) (own_nn (show cap ≤ 100000 by omega)) (by simp only [own_tn (show cap ≤ 100000 by omega), own_tn (show nw ≤ 100000 by omega), own_tn0]; omega) (by simp only [own_tn (show cap ≤ 100000 by omega), own_tn (show nw ≤ 100000 by omega), own_tn0]; omega) (by simp only [own_tn (show cap ≤ 100000 by omega), own_tn (show nw ≤ 100000 by omega), own_tn0]) (by simp only [own_tn (show cap ≤ 100000 by omega), own_tn (show nw ≤ 100000 by omega), own_tn0, List.length_map, List.length_replicate]; omega) N113 og_b109 (g := (mkF m 28 #[.val (.ref q), .val (.int (Int32.ofNat nw)), .val (.ref b109)] [(.int (Int32.ofNat cap)), (.int (0 : Int32)), (.ref b109), (.int (0 : Int32)), (.ref q)])) rfl (by rw [hml]; rfl) rfl (hb hby d17_28) (by decide) (W := 0) (by show 2 * 0 + _ ≤ _; exact Nat.le_of_eq rfl) (by decide)
  have V114 : Arv Z h114 b109 k109 .byte (Int32.ofNat nw) ((own_pad nw xs).map Value.int) (.int (0 : Int32)) := (by simp only [own_tn (show cap ≤ 100000 by omega), own_tn (show nw ≤ 100000 by omega), own_tn0] at A114; rw [own_cp (List.replicate nw (0 : Int32)) (own_pad cap xs) (by rw [own_padl hcap]; omega), own_cp1 hcap (by omega)] at A114; exact A114)
  have Z114 : n0 ≤ h114.size := Nat.le_trans Z109 K114.1
  have K114c := K110.trans K114 (allS (Or.inr sz_b109) all0)
  refine own_by st114 ?_
  refine own_by (fun _ k => XS.aloadN X114.here hx rfl (hb hby d17_31) rfl rfl k) ?_
  exact own_retA X114 hx hlk hret rfl rfl (hb hby d17_32) (by first | exact ⟨b109, k109, rfl, N114, K114c, sz_b109, V114⟩ | (rw [e114]; exact ⟨b109, k109, rfl, N114, K114c, sz_b109, V114⟩)) (by decide) (by decide)
def Q_rm13 (Z : State) (sb q : Addr) (kq : ClassId) (cap : Nat) (xs : List Int32) (mn : Nat) (h0 : Heap) (n0 : Nat) (v : Option Value) (h : Heap) (L : List Loc) : Prop := v = none ∧ Fr n0 L ∧ ∃ (q2 : Addr) (k2 : ClassId), (q2 = q ∨ h0.size ≤ q2) ∧ Keep h0 h [sb] ∧ n0 ≤ q2 ∧ Exa Z h sb "java/lang/StringBuilder" ∧ Fld Z h sb "java/lang/AbstractStringBuilder" "coder" "B" (.int (0 : Int32)) ∧ Fld Z h sb "java/lang/AbstractStringBuilder" "value" "[B" (.ref q2) ∧ Fld Z h sb "java/lang/AbstractStringBuilder" "count" "I" (.int (Int32.ofNat xs.length)) ∧ Arv Z h q2 k2 .byte (Int32.ofNat (own_cpn cap mn)) ((own_pad (own_cpn cap mn) xs).map Value.int) (.int 0)
theorem pn_rm13 : plainFor (⟨"java/lang/AbstractStringBuilder", "ensureCapacityInternal", "(I)V"⟩ : MethodName) = true := by first | exact plainFor_of_name (by first | (simp [plainName, overriddenIn, x]; done) | decide +kernel) | decide +kernel
theorem d13_0 : decode jdk_68_method_9_code 0 = .ok (.aload_n 0, 1) := by decide +kernel
theorem d13_1 : decode jdk_68_method_9_code 1 = .ok (.getfield 15, 3) := by decide +kernel
theorem d13_4 : decode jdk_68_method_9_code 4 = .ok (.arraylength, 1) := by decide +kernel
theorem d13_5 : decode jdk_68_method_9_code 5 = .ok (.aload_n 0, 1) := by decide +kernel
theorem d13_6 : decode jdk_68_method_9_code 6 = .ok (.getfield 22, 3) := by decide +kernel
theorem d13_9 : decode jdk_68_method_9_code 9 = .ok (.ishr, 1) := by decide +kernel
theorem d13_10 : decode jdk_68_method_9_code 10 = .ok (.istore_n 2, 1) := by decide +kernel
theorem d13_11 : decode jdk_68_method_9_code 11 = .ok (.iload_n 1, 1) := by decide +kernel
theorem d13_12 : decode jdk_68_method_9_code 12 = .ok (.iload_n 2, 1) := by decide +kernel
theorem d13_13 : decode jdk_68_method_9_code 13 = .ok (.isub, 1) := by decide +kernel
theorem d13_14 : decode jdk_68_method_9_code 14 = .ok (.ifCond .le 24, 3) := by decide +kernel
theorem d13_38 : decode jdk_68_method_9_code 38 = .ok (.return_, 1) := by decide +kernel
theorem d13_17 : decode jdk_68_method_9_code 17 = .ok (.aload_n 0, 1) := by decide +kernel
theorem d13_18 : decode jdk_68_method_9_code 18 = .ok (.aload_n 0, 1) := by decide +kernel
theorem d13_19 : decode jdk_68_method_9_code 19 = .ok (.getfield 15, 3) := by decide +kernel
theorem d13_22 : decode jdk_68_method_9_code 22 = .ok (.aload_n 0, 1) := by decide +kernel
theorem d13_23 : decode jdk_68_method_9_code 23 = .ok (.iload_n 1, 1) := by decide +kernel
theorem pd_2 : parseMethodDescriptor "(I)I" = some ⟨[.int], some .int⟩ := by decide +kernel
theorem d13_24 : decode jdk_68_method_9_code 24 = .ok (.invokevirtual 104, 3) := by decide +kernel
theorem d13_27 : decode jdk_68_method_9_code 27 = .ok (.aload_n 0, 1) := by decide +kernel
theorem d13_28 : decode jdk_68_method_9_code 28 = .ok (.getfield 22, 3) := by decide +kernel
theorem d13_31 : decode jdk_68_method_9_code 31 = .ok (.ishl, 1) := by decide +kernel
theorem pd_3 : parseMethodDescriptor "([BI)[B" = some ⟨[(.array .byte), .int], some (.array .byte)⟩ := by decide +kernel
theorem d13_32 : decode jdk_68_method_9_code 32 = .ok (.invokestatic 108, 3) := by decide +kernel
theorem d13_35 : decode jdk_68_method_9_code 35 = .ok (.putfield 15, 3) := by decide +kernel
set_option maxRecDepth 65536 in
set_option maxHeartbeats 40000000 in
theorem rm13 (l : Launch) (Z : State) (a0 : Array Value) (hw : ∀ d ∈ tables_1, d.before a0 Z = true) (ws : List Jvm.Cond) (sb q : Addr) (kq : ClassId) (cap : Nat) (xs : List Int32) (mn : Nat) (h0 : Heap) (n0 : Nat) (Z0 : n0 ≤ h0.size) (gs : n0 ≤ sb) (gq : n0 ≤ q) (Es : Exa Z h0 sb "java/lang/StringBuilder") (Cs : Fld Z h0 sb "java/lang/AbstractStringBuilder" "coder" "B" (.int (0 : Int32))) (Vs : Fld Z h0 sb "java/lang/AbstractStringBuilder" "value" "[B" (.ref q)) (Ns : Fld Z h0 sb "java/lang/AbstractStringBuilder" "count" "I" (.int (Int32.ofNat xs.length))) (Aq : Arv Z h0 q kq .byte (Int32.ofNat cap) ((own_pad cap xs).map Value.int) (.int 0)) (hcap : xs.length ≤ cap) (hcb : cap ≤ 200) (hm1 : mn ≤ 400) (hm2 : own_cpn cap mn ≤ 200) :
    own_Met l Z (⟨"java/lang/AbstractStringBuilder", "ensureCapacityInternal", "(I)V"⟩ : MethodName) jdk_68_method_9_code 3 none ws ({ frames := 3, cells := 1, slots := 200, locals := 54 } : Room) #[(.ref sb), (.int (Int32.ofNat mn))] h0 (Q_rm13 Z sb q kq cap xs mn h0 n0) := by
  refine own_enter (g0 := fun m => (mkF m 0 #[.val (.ref sb), .val (.int (Int32.ofNat mn)), .unset] [])) pn_rm13 (fun m => by first | (simp [entryFrame, mkF, argsToLocals, Value.category, maxLocals]; done) | rfl) ?_
  intro p e s m below meth c s₁ hx hby hml hown hnm hret hlk hZ X0 e0
  have hml : c.maxLocals = 3 := hml
  have hown : s.vm.findClass "java/lang/AbstractStringBuilder" = some m.cls := hown
  have N0 := Fr.nil n0
  have nsq : sb ≠ q := Exa.neArv Es Aq (hw _ (List.mem_of_getElem? (i := 65) rfl))
  have K0 := Keep.refl h0 [sb]
  refine own_by (fun _ k => XS.aloadN X0.here hx rfl (hb hby d13_0) rfl rfl k) ?_
  obtain ⟨T115, X115, e115, st115⟩ := getF X0 hx hZ hown (host := "") (Or.inl (hw _ (List.mem_of_getElem? (i := 78) rfl))) Via.refl e0 Vs (g := (mkF m 1 #[.val (.ref sb), .val (.int (Int32.ofNat mn)), .unset] [(.ref sb)])) rfl rfl (hb hby d13_1)
  refine own_by st115 ?_
  obtain ⟨cl116, Ar116, len116⟩ := own_len Aq
  refine own_by (T' := T115) (g' := (mkF m 5 #[.val (.ref sb), .val (.int (Int32.ofNat mn)), .unset] [(.int (Int32.ofNat cap))])) (fun _ k => X115.arraylength hx (by rw [e115]; exact Ar116.1) (State.isArrayOf_alike hZ.alike Ar116.2.1) (g := (mkF m 4 #[.val (.ref sb), .val (.int (Int32.ofNat mn)), .unset] [(.ref q)])) rfl rfl (hb hby d13_4) _ (by rw [len116]; exact k)) ?_
  refine own_by (fun _ k => XS.aloadN X115.here hx rfl (hb hby d13_5) rfl rfl k) ?_
  obtain ⟨T117, X117, e117, st117⟩ := getF X115 hx hZ hown (host := "") (Or.inl (hw _ (List.mem_of_getElem? (i := 80) rfl))) Via.refl e115 Cs (g := (mkF m 6 #[.val (.ref sb), .val (.int (Int32.ofNat mn)), .unset] [(.ref sb), (.int (Int32.ofNat cap))])) rfl rfl (hb hby d13_6)
  refine own_by st117 ?_
  refine own_by (fun _ k => XS.ishr X117.here hx rfl (hb hby d13_9) rfl k) ?_
  show own_Go p e below _ T117 (mkF m 10 #[.val (.ref sb), .val (.int (Int32.ofNat mn)), .unset] [(.int ((Int32.ofNat cap) >>> ((0 : Int32) &&& 31)))])
  rw [show ((Int32.ofNat cap) >>> ((0 : Int32) &&& 31)) = (Int32.ofNat cap) from own_shr _]
  refine own_by (fun _ k => XS.istoreN X117.here hx rfl (hb hby d13_10) rfl (l' := #[.val (.ref sb), .val (.int (Int32.ofNat mn)), .val (.int (Int32.ofNat cap))]) rfl k) ?_
  refine own_by (fun _ k => XS.iloadN X117.here hx rfl (hb hby d13_11) rfl k) ?_
  refine own_by (fun _ k => XS.iloadN X117.here hx rfl (hb hby d13_12) rfl k) ?_
  refine own_by (fun _ k => XS.isub X117.here hx rfl (hb hby d13_13) rfl k) ?_
  by_cases hm : mn ≤ cap
  · refine own_by (fun _ k => XS.ifYes X117.here hx rfl (pc0 := 14) (pc' := 38) rfl (hb hby d13_14) rfl ((if0 _ _).trans (flt (fun z => by have := (own_le0 (by omega) (by omega)).mp z; omega : ¬ ((0 : Int32) < ((Int32.ofNat mn) - (Int32.ofNat cap))))).2.2.2) (by decide) (by decide) k) ?_
    have hc : own_cpn cap mn = cap := if_pos hm
    exact own_ret0 X117 hx hlk hret (hb hby d13_38) (by first | exact ⟨rfl, N0, q, kq, Or.inl rfl, K0, gq, Es, Cs, Vs, Ns, by rw [hc]; exact Aq⟩ | (rw [e117]; exact ⟨rfl, N0, q, kq, Or.inl rfl, K0, gq, Es, Cs, Vs, Ns, by rw [hc]; exact Aq⟩)) (by decide) (by decide)
  · refine own_by (fun _ k => XS.ifNo X117.here hx rfl (hb hby d13_14) rfl ((if0 _ _).trans (tlt ((own_le0 (by omega) (by omega)).mpr (by omega) : (0 : Int32) < ((Int32.ofNat mn) - (Int32.ofNat cap)))).2.2.2) k) ?_
    have hc : own_cpn cap mn = cap + max (mn - cap) (cap + 2) := if_neg hm
    rw [hc] at hm2
    refine own_by (fun _ k => XS.aloadN X117.here hx rfl (hb hby d13_17) rfl rfl k) ?_
    refine own_by (fun _ k => XS.aloadN X117.here hx rfl (hb hby d13_18) rfl rfl k) ?_
    obtain ⟨T118, X118, e118, st118⟩ := getF X117 hx hZ hown (host := "") (Or.inl (hw _ (List.mem_of_getElem? (i := 78) rfl))) Via.refl e117 Vs (g := (mkF m 19 #[.val (.ref sb), .val (.int (Int32.ofNat mn)), .val (.int (Int32.ofNat cap))] [(.ref sb), (.ref sb)])) rfl rfl (hb hby d13_19)
    refine own_by st118 ?_
    show own_Go p e below _ T118 (mkF m 22 #[.val (.ref sb), .val (.int (Int32.ofNat mn)), .val (.int (Int32.ofNat cap))] [(.ref q), (.ref sb)])
    refine own_by (fun _ k => XS.aloadN X118.here hx rfl (hb hby d13_22) rfl rfl k) ?_
    refine own_by (fun _ k => XS.iloadN X118.here hx rfl (hb hby d13_23) rfl k) ?_
    obtain ⟨_, T119, L119, X119, ⟨rfl, N119q, e119⟩, st119⟩ := own_callV2 X118 hx hZ hown (y := (⟨"java/lang/AbstractStringBuilder", "newCapacity", "(I)I"⟩ : MethodName)) (z := (⟨"java/lang/AbstractStringBuilder", "newCapacity", "(I)I"⟩ : MethodName)) (y' := (⟨"java/lang/AbstractStringBuilder", "isLatin1", "()Z"⟩ : MethodName)) (C := "java/lang/StringBuilder") (hw _ (List.mem_of_getElem? (i := 113) rfl)) (own_decl (hw _ (List.mem_of_getElem? (i := 114) rfl)) (hw _ (List.mem_of_getElem? (i := 117) rfl))) (hw _ (List.mem_of_getElem? (i := 116) rfl)) (hw _ (List.mem_of_getElem? (i := 169) rfl)) (hw _ (List.mem_of_getElem? (i := 168) rfl)) rfl (hw _ (List.mem_of_getElem? (i := 114) rfl)) (hw _ (List.mem_of_getElem? (i := 74) rfl)) (hw _ (List.mem_of_getElem? (i := 117) rfl)) (by decide) (a := sb) Es (argsL := [(.int (Int32.ofNat mn))]) (rest := [(.ref q), (.ref sb)]) e118 (rm14 l Z a0 hw [] sb q kq cap xs mn h0 n0 Z0 gs gq Es Cs Vs Ns Aq hcap hcb (by omega) (by omega)) (g := (mkF m 24 #[.val (.ref sb), .val (.int (Int32.ofNat mn)), .val (.int (Int32.ofNat cap))] [(.int (Int32.ofNat mn)), (.ref sb), (.ref q), (.ref sb)])) rfl (by rw [hml]; rfl) (lenOf pd_2 rfl) rfl (W := 2) (by show 2 * 0 + _ ≤ _; exact Nat.le_of_eq rfl) (hb hby d13_24) (by decide) (by decide) (by decide) (by decide)
    have N119 := Fr.app N0 N119q
    refine own_by st119 ?_
    refine own_by (fun _ k => XS.aloadN X119.here hx rfl (hb hby d13_27) rfl rfl k) ?_
    obtain ⟨T120, X120, e120, st120⟩ := getF X119 hx hZ hown (host := "") (Or.inl (hw _ (List.mem_of_getElem? (i := 80) rfl))) Via.refl e119 Cs (g := (mkF m 28 #[.val (.ref sb), .val (.int (Int32.ofNat mn)), .val (.int (Int32.ofNat cap))] [(.ref sb), (.int (Int32.ofNat (cap + max (mn - cap) (cap + 2)))), (.ref q), (.ref sb)])) rfl rfl (hb hby d13_28)
    refine own_by st120 ?_
    refine own_by (fun _ k => XS.ishl X120.here hx rfl (hb hby d13_31) rfl k) ?_
    show own_Go p e below _ T120 (mkF m 32 #[.val (.ref sb), .val (.int (Int32.ofNat mn)), .val (.int (Int32.ofNat cap))] [(.int ((Int32.ofNat (cap + max (mn - cap) (cap + 2))) <<< ((0 : Int32) &&& 31))), (.ref q), (.ref sb)])
    rw [show ((Int32.ofNat (cap + max (mn - cap) (cap + 2))) <<< ((0 : Int32) &&& 31)) = (Int32.ofNat (cap + max (mn - cap) (cap + 2))) from own_shl _]
    obtain ⟨_, T121, L121, X121, ⟨q2, k2, rfl, N121q, Kc, sq2, Aq2⟩, st121⟩ := own_callS X120 hx hZ hown (y := (⟨"java/util/Arrays", "copyOf", "([BI)[B"⟩ : MethodName)) (hw _ (List.mem_of_getElem? (i := 127) rfl)) (hw _ (List.mem_of_getElem? (i := 128) rfl)) (hw _ (List.mem_of_getElem? (i := 129) rfl)) (hw _ (List.mem_of_getElem? (i := 130) rfl)) (by decide) (argsL := [(.ref q), (.int (Int32.ofNat (cap + max (mn - cap) (cap + 2))))]) (rest := [(.ref sb)]) e120 (rm17 l Z a0 hw [] q kq cap xs (cap + max (mn - cap) (cap + 2)) h0 n0 Z0 Aq hcap (by omega) hm2) (g := (mkF m 32 #[.val (.ref sb), .val (.int (Int32.ofNat mn)), .val (.int (Int32.ofNat cap))] [(.int (Int32.ofNat (cap + max (mn - cap) (cap + 2)))), (.ref q), (.ref sb)])) rfl (by rw [hml]; rfl) (lenOf pd_3 rfl) rfl (W := 1) (by show 2 * 0 + _ ≤ _; exact Nat.le_of_eq rfl) (hb hby d13_32) (by decide) (by decide) (by decide) (by decide)
    have N121 := Fr.app N119 N121q
    refine own_by st121 ?_
    have ne_sb_q2 : sb ≠ q2 := Nat.ne_of_lt (Nat.lt_of_lt_of_le Es.lt sq2)
    have ne_q_q2 : q ≠ q2 := Nat.ne_of_lt (Nat.lt_of_lt_of_le Aq.lt sq2)
    have og_q2 : n0 ≤ q2 := Nat.le_trans Z0 sq2
    have sz_q2 : h0.size ≤ q2 := Nat.le_trans K0.1 sq2
    have Z121 : n0 ≤ T121.heap.size := Nat.le_trans Z0 Kc.1
    have K121c := K0.trans Kc all0
    have f123 := (Vs.keep Kc nin0)
    have f124 := (Es.keep Kc)
    obtain ⟨T122, h122, X122, e122, W122, st122⟩ := putF X121 hx hZ hown (host := "") (Or.inl (hw _ (List.mem_of_getElem? (i := 78) rfl))) Via.refl rfl f123 f124 (Or.inl (hw _ (List.mem_of_getElem? (i := 79) rfl))) (hw _ (List.mem_of_getElem? (i := 65) rfl)) (ty := (.array .byte)) (by decide) rfl rfl (g := (mkF m 35 #[.val (.ref sb), .val (.int (Int32.ofNat mn)), .val (.int (Int32.ofNat cap))] [(.ref q2), (.ref sb)])) rfl rfl (hb hby d13_35)
    refine own_by st122 ?_
    have N122 := Fr.snoc X122 N121 gs
    have fw122 := f123.same W122
    have K125 := K121c.wr W122 (Or.inl (List.mem_of_getElem? (i := 0) rfl))
    have Z122 : n0 ≤ h122.size := Nat.le_trans Z121 (Keep.of_wr W122).1
    have f126 := (f124.wr W122)
    have f127 := ((Cs.keep Kc nin0).other W122 (Or.inr (slot_ne (Or.inl (hw _ (List.mem_of_getElem? (i := 81) rfl))) (Or.inl (hw _ (List.mem_of_getElem? (i := 79) rfl))) (by decide) (t := .byte) (t' := (.array .byte)) (by decide) (by decide))))
    have f128 := ((Ns.keep Kc nin0).other W122 (Or.inr (slot_ne (Or.inl (hw _ (List.mem_of_getElem? (i := 107) rfl))) (Or.inl (hw _ (List.mem_of_getElem? (i := 79) rfl))) (by decide) (t := .int) (t' := (.array .byte)) (by decide) (by decide))))
    have f129 := (Aq2.other W122 (Ne.symm ne_sb_q2))
    exact own_ret0 X122 hx hlk hret (hb hby d13_38) (by first | exact ⟨rfl, N122, q2, k2, Or.inr sz_q2, K125, og_q2, f126, f127, fw122, f128, by rw [hc]; exact f129⟩ | (rw [e122]; exact ⟨rfl, N122, q2, k2, Or.inr sz_q2, K125, og_q2, f126, f127, fw122, f128, by rw [hc]; exact f129⟩)) (by decide) (by decide)
def Q_rm12 (Z : State) (sx tx : Addr) (kx : ClassId) (ys : List Int32) (w1 : Int32) (d1 d2 : Addr) (kd1 kd2 : ClassId) (fm : Value) (h0 : Heap) (n0 : Nat) (v : Option Value) (h : Heap) (L : List Loc) : Prop := v = some (.int (0 : Int32)) ∧ Fr n0 L ∧ h = h0
theorem pn_rm12 : plainFor (⟨"java/lang/String", "coder", "()B"⟩ : MethodName) = true := by first | exact plainFor_of_name (by first | (simp [plainName, overriddenIn, x]; done) | decide +kernel) | decide +kernel
theorem d12_0 : decode jdk_42_method_152_code 0 = .ok (.getstatic 38, 3) := by decide +kernel
theorem d12_3 : decode jdk_42_method_152_code 3 = .ok (.ifCond .eq 10, 3) := by decide +kernel
theorem d12_6 : decode jdk_42_method_152_code 6 = .ok (.aload_n 0, 1) := by decide +kernel
theorem d12_7 : decode jdk_42_method_152_code 7 = .ok (.getfield 15, 3) := by decide +kernel
theorem d12_10 : decode jdk_42_method_152_code 10 = .ok (.goto 4, 3) := by decide +kernel
theorem d12_14 : decode jdk_42_method_152_code 14 = .ok (.ireturn, 1) := by decide +kernel
set_option maxRecDepth 65536 in
set_option maxHeartbeats 40000000 in
theorem rm12 (l : Launch) (Z : State) (a0 : Array Value) (hw : ∀ d ∈ tables_1, d.before a0 Z = true) (ws : List Jvm.Cond) (sx tx : Addr) (kx : ClassId) (ys : List Int32) (w1 : Int32) (d1 d2 : Addr) (kd1 kd2 : ClassId) (fm : Value) (h0 : Heap) (n0 : Nat) (Z0 : n0 ≤ h0.size) (hz : Z.heap.size ≤ n0) (hkz : own_K Z h0) (TB : own_Tb Z w1 d1 d2 kd1 kd2 fm) (Ex : Exa Z h0 sx "java/lang/String") (Cx : Fld Z h0 sx "java/lang/String" "coder" "B" (.int (0 : Int32))) (Vx : Fld Z h0 sx "java/lang/String" "value" "[B" (.ref tx)) (Ax : Arv Z h0 tx kx .byte (Int32.ofNat ys.length) (ys.map Value.int) (.int 0)) :
    own_Met l Z (⟨"java/lang/String", "coder", "()B"⟩ : MethodName) jdk_42_method_152_code 1 (some .byte) ws ({ frames := 0, cells := 0, slots := 0, locals := 0 } : Room) #[(.ref sx)] h0 (Q_rm12 Z sx tx kx ys w1 d1 d2 kd1 kd2 fm h0 n0) := by
  refine own_enter (g0 := fun m => (mkF m 0 #[.val (.ref sx)] [])) pn_rm12 (fun m => by first | (simp [entryFrame, mkF, argsToLocals, Value.category, maxLocals]; done) | rfl) ?_
  intro p e s m below meth c s₁ hx hby hml hown hnm hret hlk hZ X0 e0
  have hml : c.maxLocals = 1 := hml
  have hown : s.vm.findClass "java/lang/String" = some m.cls := hown
  have N0 := Fr.nil n0
  have SC130 := (own_staZ TB.1 hkz)
  obtain ⟨T131, X131, e131, st131⟩ := getS2 X0 hx hZ hown (host := "") (Or.inl (hw _ (List.mem_of_getElem? (i := 104) rfl))) Via.refl e0 SC130 (g := (mkF m 0 #[.val (.ref sx)] [])) rfl (hb hby d12_0)
  refine own_by st131 ?_
  refine own_by (fun _ k => XS.ifNo X131.here hx rfl (hb hby d12_3) rfl ((if0 _ _).trans (feq (TB.2.1 : ¬ (w1 = (0 : Int32)))).1) k) ?_
  refine own_by (fun _ k => XS.aloadN X131.here hx rfl (hb hby d12_6) rfl rfl k) ?_
  obtain ⟨T132, X132, e132, st132⟩ := getF X131 hx hZ hown (host := "") (Or.inl (hw _ (List.mem_of_getElem? (i := 105) rfl))) Via.refl e131 Cx (g := (mkF m 7 #[.val (.ref sx)] [(.ref sx)])) rfl rfl (hb hby d12_7)
  refine own_by st132 ?_
  refine own_by (fun _ k => XS.goto X132.here hx rfl (pc0 := 10) (pc' := 14) rfl (hb hby d12_10) (by decide) (by decide) k) ?_
  exact own_retN X132 hx hlk hret (by simp) rfl (hb hby d12_14) (by first | exact ⟨rfl, N0, rfl⟩ | (rw [e132]; exact ⟨rfl, N0, rfl⟩)) (by decide) (by decide)
def Q_rm42 (Z : State) (sx tx : Addr) (kx : ClassId) (ys : List Int32) (w1 : Int32) (d1 d2 : Addr) (kd1 kd2 : ClassId) (fm : Value) (h0 : Heap) (n0 : Nat) (v : Option Value) (h : Heap) (L : List Loc) : Prop := v = some (.int (1 : Int32)) ∧ Fr n0 L ∧ h = h0
theorem pn_rm42 : plainFor (⟨"java/lang/String", "isLatin1", "()Z"⟩ : MethodName) = true := by first | exact plainFor_of_name (by first | (simp [plainName, overriddenIn, x]; done) | decide +kernel) | decide +kernel
theorem d42_0 : decode jdk_42_method_154_code 0 = .ok (.getstatic 38, 3) := by decide +kernel
theorem d42_3 : decode jdk_42_method_154_code 3 = .ok (.ifCond .eq 14, 3) := by decide +kernel
theorem d42_6 : decode jdk_42_method_154_code 6 = .ok (.aload_n 0, 1) := by decide +kernel
theorem d42_7 : decode jdk_42_method_154_code 7 = .ok (.getfield 15, 3) := by decide +kernel
theorem d42_10 : decode jdk_42_method_154_code 10 = .ok (.ifCond .ne 7, 3) := by decide +kernel
theorem d42_13 : decode jdk_42_method_154_code 13 = .ok (.iconst 1, 1) := by decide +kernel
theorem d42_14 : decode jdk_42_method_154_code 14 = .ok (.goto 4, 3) := by decide +kernel
theorem d42_18 : decode jdk_42_method_154_code 18 = .ok (.ireturn, 1) := by decide +kernel
set_option maxRecDepth 65536 in
set_option maxHeartbeats 40000000 in
theorem rm42 (l : Launch) (Z : State) (a0 : Array Value) (hw : ∀ d ∈ tables_1, d.before a0 Z = true) (ws : List Jvm.Cond) (sx tx : Addr) (kx : ClassId) (ys : List Int32) (w1 : Int32) (d1 d2 : Addr) (kd1 kd2 : ClassId) (fm : Value) (h0 : Heap) (n0 : Nat) (Z0 : n0 ≤ h0.size) (hz : Z.heap.size ≤ n0) (hkz : own_K Z h0) (TB : own_Tb Z w1 d1 d2 kd1 kd2 fm) (Ex : Exa Z h0 sx "java/lang/String") (Cx : Fld Z h0 sx "java/lang/String" "coder" "B" (.int (0 : Int32))) (Vx : Fld Z h0 sx "java/lang/String" "value" "[B" (.ref tx)) (Ax : Arv Z h0 tx kx .byte (Int32.ofNat ys.length) (ys.map Value.int) (.int 0)) :
    own_Met l Z (⟨"java/lang/String", "isLatin1", "()Z"⟩ : MethodName) jdk_42_method_154_code 1 (some .boolean) ws ({ frames := 0, cells := 0, slots := 0, locals := 0 } : Room) #[(.ref sx)] h0 (Q_rm42 Z sx tx kx ys w1 d1 d2 kd1 kd2 fm h0 n0) := by
  refine own_enter (g0 := fun m => (mkF m 0 #[.val (.ref sx)] [])) pn_rm42 (fun m => by first | (simp [entryFrame, mkF, argsToLocals, Value.category, maxLocals]; done) | rfl) ?_
  intro p e s m below meth c s₁ hx hby hml hown hnm hret hlk hZ X0 e0
  have hml : c.maxLocals = 1 := hml
  have hown : s.vm.findClass "java/lang/String" = some m.cls := hown
  have N0 := Fr.nil n0
  have SC133 := (own_staZ TB.1 hkz)
  obtain ⟨T134, X134, e134, st134⟩ := getS2 X0 hx hZ hown (host := "") (Or.inl (hw _ (List.mem_of_getElem? (i := 104) rfl))) Via.refl e0 SC133 (g := (mkF m 0 #[.val (.ref sx)] [])) rfl (hb hby d42_0)
  refine own_by st134 ?_
  refine own_by (fun _ k => XS.ifNo X134.here hx rfl (hb hby d42_3) rfl ((if0 _ _).trans (feq (TB.2.1 : ¬ (w1 = (0 : Int32)))).1) k) ?_
  refine own_by (fun _ k => XS.aloadN X134.here hx rfl (hb hby d42_6) rfl rfl k) ?_
  obtain ⟨T135, X135, e135, st135⟩ := getF X134 hx hZ hown (host := "") (Or.inl (hw _ (List.mem_of_getElem? (i := 105) rfl))) Via.refl e134 Cx (g := (mkF m 7 #[.val (.ref sx)] [(.ref sx)])) rfl rfl (hb hby d42_7)
  refine own_by st135 ?_
  refine own_by (fun _ k => XS.ifNo X135.here hx rfl (hb hby d42_10) rfl ((if0 _ _).trans (teq (rfl : (0 : Int32) = (0 : Int32))).2) k) ?_
  refine own_by (fun _ k => XS.iconst X135.here hx rfl (hb hby d42_13) k) ?_
  refine own_by (fun _ k => XS.goto X135.here hx rfl (pc0 := 14) (pc' := 18) rfl (hb hby d42_14) (by decide) (by decide) k) ?_
  exact own_retN X135 hx hlk hret (by simp) rfl (hb hby d42_18) (by first | exact ⟨rfl, N0, rfl⟩ | (rw [e135]; exact ⟨rfl, N0, rfl⟩)) (by decide) (by decide)
def Q_rm11 (Z : State) (sx tx : Addr) (kx : ClassId) (ys : List Int32) (w1 : Int32) (d1 d2 : Addr) (kd1 kd2 : ClassId) (fm : Value) (h0 : Heap) (n0 : Nat) (v : Option Value) (h : Heap) (L : List Loc) : Prop := v = some (.int (Int32.ofNat ys.length)) ∧ Fr n0 L ∧ h = h0
theorem pn_rm11 : plainFor (⟨"java/lang/String", "length", "()I"⟩ : MethodName) = true := by first | exact plainFor_of_name (by first | (simp [plainName, overriddenIn, x]; done) | decide +kernel) | decide +kernel
theorem d11_0 : decode jdk_42_method_54_code 0 = .ok (.aload_n 0, 1) := by decide +kernel
theorem d11_1 : decode jdk_42_method_54_code 1 = .ok (.getfield 9, 3) := by decide +kernel
theorem d11_4 : decode jdk_42_method_54_code 4 = .ok (.arraylength, 1) := by decide +kernel
theorem d11_5 : decode jdk_42_method_54_code 5 = .ok (.aload_n 0, 1) := by decide +kernel
theorem pd_4 : parseMethodDescriptor "()B" = some ⟨[], some .byte⟩ := by decide +kernel
theorem d11_6 : decode jdk_42_method_54_code 6 = .ok (.invokevirtual 335, 3) := by decide +kernel
theorem d11_9 : decode jdk_42_method_54_code 9 = .ok (.ishr, 1) := by decide +kernel
theorem d11_10 : decode jdk_42_method_54_code 10 = .ok (.ireturn, 1) := by decide +kernel
set_option maxRecDepth 65536 in
set_option maxHeartbeats 40000000 in
theorem rm11 (l : Launch) (Z : State) (a0 : Array Value) (hw : ∀ d ∈ tables_1, d.before a0 Z = true) (ws : List Jvm.Cond) (sx tx : Addr) (kx : ClassId) (ys : List Int32) (w1 : Int32) (d1 d2 : Addr) (kd1 kd2 : ClassId) (fm : Value) (h0 : Heap) (n0 : Nat) (Z0 : n0 ≤ h0.size) (hz : Z.heap.size ≤ n0) (hkz : own_K Z h0) (TB : own_Tb Z w1 d1 d2 kd1 kd2 fm) (Ex : Exa Z h0 sx "java/lang/String") (Cx : Fld Z h0 sx "java/lang/String" "coder" "B" (.int (0 : Int32))) (Vx : Fld Z h0 sx "java/lang/String" "value" "[B" (.ref tx)) (Ax : Arv Z h0 tx kx .byte (Int32.ofNat ys.length) (ys.map Value.int) (.int 0)) :
    own_Met l Z (⟨"java/lang/String", "length", "()I"⟩ : MethodName) jdk_42_method_54_code 1 (some .int) ws ({ frames := 1, cells := 0, slots := 0, locals := 14 } : Room) #[(.ref sx)] h0 (Q_rm11 Z sx tx kx ys w1 d1 d2 kd1 kd2 fm h0 n0) := by
  refine own_enter (g0 := fun m => (mkF m 0 #[.val (.ref sx)] [])) pn_rm11 (fun m => by first | (simp [entryFrame, mkF, argsToLocals, Value.category, maxLocals]; done) | rfl) ?_
  intro p e s m below meth c s₁ hx hby hml hown hnm hret hlk hZ X0 e0
  have hml : c.maxLocals = 1 := hml
  have hown : s.vm.findClass "java/lang/String" = some m.cls := hown
  have N0 := Fr.nil n0
  refine own_by (fun _ k => XS.aloadN X0.here hx rfl (hb hby d11_0) rfl rfl k) ?_
  obtain ⟨T136, X136, e136, st136⟩ := getF X0 hx hZ hown (host := "") (Or.inl (hw _ (List.mem_of_getElem? (i := 98) rfl))) Via.refl e0 Vx (g := (mkF m 1 #[.val (.ref sx)] [(.ref sx)])) rfl rfl (hb hby d11_1)
  refine own_by st136 ?_
  obtain ⟨cl137, Ar137, len137⟩ := own_len Ax
  refine own_by (T' := T136) (g' := (mkF m 5 #[.val (.ref sx)] [(.int (Int32.ofNat ys.length))])) (fun _ k => X136.arraylength hx (by rw [e136]; exact Ar137.1) (State.isArrayOf_alike hZ.alike Ar137.2.1) (g := (mkF m 4 #[.val (.ref sx)] [(.ref tx)])) rfl rfl (hb hby d11_4) _ (by rw [len137]; exact k)) ?_
  refine own_by (fun _ k => XS.aloadN X136.here hx rfl (hb hby d11_5) rfl rfl k) ?_
  obtain ⟨_, T138, L138, X138, ⟨rfl, N138q, e138⟩, st138⟩ := own_callV X136 hx hZ hown (y := (⟨"java/lang/String", "coder", "()B"⟩ : MethodName)) (C := "java/lang/String") (hw _ (List.mem_of_getElem? (i := 99) rfl)) (hw _ (List.mem_of_getElem? (i := 100) rfl)) (hw _ (List.mem_of_getElem? (i := 102) rfl)) (hw _ (List.mem_of_getElem? (i := 101) rfl)) (hw _ (List.mem_of_getElem? (i := 30) rfl)) (hw _ (List.mem_of_getElem? (i := 103) rfl)) (by decide) (a := sx) Ex (argsL := []) (rest := [(.int (Int32.ofNat ys.length))]) e136 (rm12 l Z a0 hw [] sx tx kx ys w1 d1 d2 kd1 kd2 fm h0 n0 Z0 hz hkz TB Ex Cx Vx Ax) (g := (mkF m 6 #[.val (.ref sx)] [(.ref sx), (.int (Int32.ofNat ys.length))])) rfl (by rw [hml]; rfl) (lenOf pd_4 rfl) rfl (W := 1) (by show 2 * 0 + _ ≤ _; exact Nat.le_of_eq rfl) (hb hby d11_6) (by decide) (by decide) (by decide) (by decide)
  have N138 := Fr.app N0 N138q
  refine own_by st138 ?_
  refine own_by (fun _ k => XS.ishr X138.here hx rfl (hb hby d11_9) rfl k) ?_
  show own_Go p e below _ T138 (mkF m 10 #[.val (.ref sx)] [(.int ((Int32.ofNat ys.length) >>> ((0 : Int32) &&& 31)))])
  rw [show ((Int32.ofNat ys.length) >>> ((0 : Int32) &&& 31)) = (Int32.ofNat ys.length) from own_shr _]
  exact own_retI X138 hx hlk hret  (hb hby d11_10) (by first | exact ⟨rfl, N138, rfl⟩ | (rw [e138]; exact ⟨rfl, N138, rfl⟩)) (by decide) (by decide)
def Q_rm19 (Z : State) (sb q : Addr) (kq : ClassId) (cap : Nat) (xs : List Int32) (sx tx : Addr) (kx : ClassId) (ys : List Int32) (w1 : Int32) (d1 d2 : Addr) (kd1 kd2 : ClassId) (fm : Value) (h0 : Heap) (n0 : Nat) (v : Option Value) (h : Heap) (L : List Loc) : Prop := v = none ∧ Fr n0 L ∧ h = h0
theorem pn_rm19 : plainFor (⟨"java/lang/AbstractStringBuilder", "inflateIfNeededFor", "(Ljava/lang/String;)V"⟩ : MethodName) = true := by first | exact plainFor_of_name (by first | (simp [plainName, overriddenIn, x]; done) | decide +kernel) | decide +kernel
theorem d19_0 : decode jdk_68_method_71_code 0 = .ok (.getstatic 18, 3) := by decide +kernel
theorem d19_3 : decode jdk_68_method_71_code 3 = .ok (.ifCond .eq 18, 3) := by decide +kernel
theorem d19_6 : decode jdk_68_method_71_code 6 = .ok (.aload_n 0, 1) := by decide +kernel
theorem d19_7 : decode jdk_68_method_71_code 7 = .ok (.getfield 22, 3) := by decide +kernel
theorem d19_10 : decode jdk_68_method_71_code 10 = .ok (.aload_n 1, 1) := by decide +kernel
theorem d19_11 : decode jdk_68_method_71_code 11 = .ok (.invokevirtual 40, 3) := by decide +kernel
theorem d19_14 : decode jdk_68_method_71_code 14 = .ok (.if_icmp .eq 7, 3) := by decide +kernel
theorem d19_21 : decode jdk_68_method_71_code 21 = .ok (.return_, 1) := by decide +kernel
set_option maxRecDepth 65536 in
set_option maxHeartbeats 40000000 in
theorem rm19 (l : Launch) (Z : State) (a0 : Array Value) (hw : ∀ d ∈ tables_1, d.before a0 Z = true) (ws : List Jvm.Cond) (sb q : Addr) (kq : ClassId) (cap : Nat) (xs : List Int32) (sx tx : Addr) (kx : ClassId) (ys : List Int32) (w1 : Int32) (d1 d2 : Addr) (kd1 kd2 : ClassId) (fm : Value) (h0 : Heap) (n0 : Nat) (Z0 : n0 ≤ h0.size) (hz : Z.heap.size ≤ n0) (hkz : own_K Z h0) (TB : own_Tb Z w1 d1 d2 kd1 kd2 fm) (gs : n0 ≤ sb) (gq : n0 ≤ q) (Es : Exa Z h0 sb "java/lang/StringBuilder") (Cs : Fld Z h0 sb "java/lang/AbstractStringBuilder" "coder" "B" (.int (0 : Int32))) (Vs : Fld Z h0 sb "java/lang/AbstractStringBuilder" "value" "[B" (.ref q)) (Ns : Fld Z h0 sb "java/lang/AbstractStringBuilder" "count" "I" (.int (Int32.ofNat xs.length))) (Aq : Arv Z h0 q kq .byte (Int32.ofNat cap) ((own_pad cap xs).map Value.int) (.int 0)) (hcap : xs.length ≤ cap) (hcb : cap ≤ 200) (Ex : Exa Z h0 sx "java/lang/String") (Cx : Fld Z h0 sx "java/lang/String" "coder" "B" (.int (0 : Int32))) (Vx : Fld Z h0 sx "java/lang/String" "value" "[B" (.ref tx)) (Ax : Arv Z h0 tx kx .byte (Int32.ofNat ys.length) (ys.map Value.int) (.int 0)) :
    own_Met l Z (⟨"java/lang/AbstractStringBuilder", "inflateIfNeededFor", "(Ljava/lang/String;)V"⟩ : MethodName) jdk_68_method_71_code 2 none ws ({ frames := 1, cells := 0, slots := 0, locals := 14 } : Room) #[(.ref sb), (.ref sx)] h0 (Q_rm19 Z sb q kq cap xs sx tx kx ys w1 d1 d2 kd1 kd2 fm h0 n0) := by
  refine own_enter (g0 := fun m => (mkF m 0 #[.val (.ref sb), .val (.ref sx)] [])) pn_rm19 (fun m => by first | (simp [entryFrame, mkF, argsToLocals, Value.category, maxLocals]; done) | rfl) ?_
  intro p e s m below meth c s₁ hx hby hml hown hnm hret hlk hZ X0 e0
  have hml : c.maxLocals = 2 := hml
  have hown : s.vm.findClass "java/lang/AbstractStringBuilder" = some m.cls := hown
  have N0 := Fr.nil n0
  have nsq : sb ≠ q := Exa.neArv Es Aq (hw _ (List.mem_of_getElem? (i := 65) rfl))
  have K0 := Keep.refl h0 [sb, q]
  have SC139 := (own_staZ TB.1 hkz)
  obtain ⟨T140, X140, e140, st140⟩ := getS2 X0 hx hZ hown (host := "") (Or.inl (hw _ (List.mem_of_getElem? (i := 77) rfl))) Via.refl e0 SC139 (g := (mkF m 0 #[.val (.ref sb), .val (.ref sx)] [])) rfl (hb hby d19_0)
  refine own_by st140 ?_
  refine own_by (fun _ k => XS.ifNo X140.here hx rfl (hb hby d19_3) rfl ((if0 _ _).trans (feq (TB.2.1 : ¬ (w1 = (0 : Int32)))).1) k) ?_
  refine own_by (fun _ k => XS.aloadN X140.here hx rfl (hb hby d19_6) rfl rfl k) ?_
  obtain ⟨T141, X141, e141, st141⟩ := getF X140 hx hZ hown (host := "") (Or.inl (hw _ (List.mem_of_getElem? (i := 80) rfl))) Via.refl e140 Cs (g := (mkF m 7 #[.val (.ref sb), .val (.ref sx)] [(.ref sb)])) rfl rfl (hb hby d19_7)
  refine own_by st141 ?_
  refine own_by (fun _ k => XS.aloadN X141.here hx rfl (hb hby d19_10) rfl rfl k) ?_
  obtain ⟨_, T142, L142, X142, ⟨rfl, N142q, e142⟩, st142⟩ := own_callV X141 hx hZ hown (y := (⟨"java/lang/String", "coder", "()B"⟩ : MethodName)) (C := "java/lang/String") (hw _ (List.mem_of_getElem? (i := 146) rfl)) (hw _ (List.mem_of_getElem? (i := 100) rfl)) (hw _ (List.mem_of_getElem? (i := 102) rfl)) (hw _ (List.mem_of_getElem? (i := 101) rfl)) (hw _ (List.mem_of_getElem? (i := 30) rfl)) (hw _ (List.mem_of_getElem? (i := 103) rfl)) (by decide) (a := sx) Ex (argsL := []) (rest := [(.int (0 : Int32))]) e141 (rm12 l Z a0 hw [] sx tx kx ys w1 d1 d2 kd1 kd2 fm h0 n0 Z0 hz hkz TB Ex Cx Vx Ax) (g := (mkF m 11 #[.val (.ref sb), .val (.ref sx)] [(.ref sx), (.int (0 : Int32))])) rfl (by rw [hml]; rfl) (lenOf pd_4 rfl) rfl (W := 1) (by show 2 * 0 + _ ≤ _; exact Nat.le_of_eq rfl) (hb hby d19_11) (by decide) (by decide) (by decide) (by decide)
  have N142 := Fr.app N0 N142q
  refine own_by st142 ?_
  refine own_by (fun _ k => XS.icmpYes X142.here hx rfl (pc0 := 14) (pc' := 21) rfl (hb hby d19_14) rfl (teq (rfl : (0 : Int32) = (0 : Int32))).1 (by decide) (by decide) k) ?_
  exact own_ret0 X142 hx hlk hret (hb hby d19_21) (by first | exact ⟨rfl, N142, rfl⟩ | (rw [e142]; exact ⟨rfl, N142, rfl⟩)) (by decide) (by decide)
def Q_rm20 (Z : State) (sx tx : Addr) (kx : ClassId) (ys : List Int32) (q : Addr) (kq : ClassId) (cap : Nat) (xs : List Int32) (w1 : Int32) (d1 d2 : Addr) (kd1 kd2 : ClassId) (fm : Value) (h0 : Heap) (n0 : Nat) (v : Option Value) (h : Heap) (L : List Loc) : Prop := v = none ∧ Fr n0 L ∧ Keep h0 h [q] ∧ Arv Z h q kq .byte (Int32.ofNat cap) ((own_pad cap (xs ++ ys)).map Value.int) (.int 0)
theorem pn_rm20 : plainFor (⟨"java/lang/String", "getBytes", "([BIB)V"⟩ : MethodName) = true := by first | exact plainFor_of_name (by first | (simp [plainName, overriddenIn, x]; done) | decide +kernel) | decide +kernel
theorem d20_0 : decode jdk_42_method_147_code 0 = .ok (.aload_n 0, 1) := by decide +kernel
theorem d20_1 : decode jdk_42_method_147_code 1 = .ok (.invokevirtual 335, 3) := by decide +kernel
theorem d20_4 : decode jdk_42_method_147_code 4 = .ok (.iload_n 3, 1) := by decide +kernel
theorem d20_5 : decode jdk_42_method_147_code 5 = .ok (.if_icmp .ne 23, 3) := by decide +kernel
theorem d20_8 : decode jdk_42_method_147_code 8 = .ok (.aload_n 0, 1) := by decide +kernel
theorem d20_9 : decode jdk_42_method_147_code 9 = .ok (.getfield 9, 3) := by decide +kernel
theorem d20_12 : decode jdk_42_method_147_code 12 = .ok (.iconst 0, 1) := by decide +kernel
theorem d20_13 : decode jdk_42_method_147_code 13 = .ok (.aload_n 1, 1) := by decide +kernel
theorem d20_14 : decode jdk_42_method_147_code 14 = .ok (.iload_n 2, 1) := by decide +kernel
theorem d20_15 : decode jdk_42_method_147_code 15 = .ok (.iload_n 3, 1) := by decide +kernel
theorem d20_16 : decode jdk_42_method_147_code 16 = .ok (.ishl, 1) := by decide +kernel
theorem d20_17 : decode jdk_42_method_147_code 17 = .ok (.aload_n 0, 1) := by decide +kernel
theorem d20_18 : decode jdk_42_method_147_code 18 = .ok (.getfield 9, 3) := by decide +kernel
theorem d20_21 : decode jdk_42_method_147_code 21 = .ok (.arraylength, 1) := by decide +kernel
theorem d20_22 : decode jdk_42_method_147_code 22 = .ok (.invokestatic 212, 3) := by decide +kernel
theorem d20_25 : decode jdk_42_method_147_code 25 = .ok (.goto 18, 3) := by decide +kernel
theorem d20_43 : decode jdk_42_method_147_code 43 = .ok (.return_, 1) := by decide +kernel
set_option maxRecDepth 65536 in
set_option maxHeartbeats 40000000 in
theorem rm20 (l : Launch) (Z : State) (a0 : Array Value) (hw : ∀ d ∈ tables_1, d.before a0 Z = true) (ws : List Jvm.Cond) (sx tx : Addr) (kx : ClassId) (ys : List Int32) (q : Addr) (kq : ClassId) (cap : Nat) (xs : List Int32) (w1 : Int32) (d1 d2 : Addr) (kd1 kd2 : ClassId) (fm : Value) (h0 : Heap) (n0 : Nat) (Z0 : n0 ≤ h0.size) (hz : Z.heap.size ≤ n0) (hkz : own_K Z h0) (TB : own_Tb Z w1 d1 d2 kd1 kd2 fm) (Ex : Exa Z h0 sx "java/lang/String") (Cx : Fld Z h0 sx "java/lang/String" "coder" "B" (.int (0 : Int32))) (Vx : Fld Z h0 sx "java/lang/String" "value" "[B" (.ref tx)) (Ax : Arv Z h0 tx kx .byte (Int32.ofNat ys.length) (ys.map Value.int) (.int 0)) (gq : n0 ≤ q) (Aq : Arv Z h0 q kq .byte (Int32.ofNat cap) ((own_pad cap xs).map Value.int) (.int 0)) (hcb : cap ≤ 200) (hl : xs.length + ys.length ≤ cap) :
    own_Met l Z (⟨"java/lang/String", "getBytes", "([BIB)V"⟩ : MethodName) jdk_42_method_147_code 4 none ws ({ frames := 1, cells := 0, slots := 0, locals := 34 } : Room) #[(.ref sx), (.ref q), (.int (Int32.ofNat xs.length)), (.int (0 : Int32))] h0 (Q_rm20 Z sx tx kx ys q kq cap xs w1 d1 d2 kd1 kd2 fm h0 n0) := by
  refine own_enter (g0 := fun m => (mkF m 0 #[.val (.ref sx), .val (.ref q), .val (.int (Int32.ofNat xs.length)), .val (.int (0 : Int32))] [])) pn_rm20 (fun m => by first | (simp [entryFrame, mkF, argsToLocals, Value.category, maxLocals]; done) | rfl) ?_
  intro p e s m below meth c s₁ hx hby hml hown hnm hret hlk hZ X0 e0
  have hml : c.maxLocals = 4 := hml
  have hown : s.vm.findClass "java/lang/String" = some m.cls := hown
  have N0 := Fr.nil n0
  have K0 := Keep.refl h0 [q]
  refine own_by (fun _ k => XS.aloadN X0.here hx rfl (hb hby d20_0) rfl rfl k) ?_
  obtain ⟨_, T143, L143, X143, ⟨rfl, N143q, e143⟩, st143⟩ := own_callV X0 hx hZ hown (y := (⟨"java/lang/String", "coder", "()B"⟩ : MethodName)) (C := "java/lang/String") (hw _ (List.mem_of_getElem? (i := 99) rfl)) (hw _ (List.mem_of_getElem? (i := 100) rfl)) (hw _ (List.mem_of_getElem? (i := 102) rfl)) (hw _ (List.mem_of_getElem? (i := 101) rfl)) (hw _ (List.mem_of_getElem? (i := 30) rfl)) (hw _ (List.mem_of_getElem? (i := 103) rfl)) (by decide) (a := sx) Ex (argsL := []) (rest := []) e0 (rm12 l Z a0 hw [] sx tx kx ys w1 d1 d2 kd1 kd2 fm h0 n0 Z0 hz hkz TB Ex Cx Vx Ax) (g := (mkF m 1 #[.val (.ref sx), .val (.ref q), .val (.int (Int32.ofNat xs.length)), .val (.int (0 : Int32))] [(.ref sx)])) rfl (by rw [hml]; rfl) (lenOf pd_4 rfl) rfl (W := 0) (by show 2 * 0 + _ ≤ _; exact Nat.le_of_eq rfl) (hb hby d20_1) (by decide) (by decide) (by decide) (by decide)
  have N143 := Fr.app N0 N143q
  refine own_by st143 ?_
  refine own_by (fun _ k => XS.iloadN X143.here hx rfl (hb hby d20_4) rfl k) ?_
  refine own_by (fun _ k => XS.icmpNo X143.here hx rfl (hb hby d20_5) rfl (teq (rfl : (0 : Int32) = (0 : Int32))).2 k) ?_
  refine own_by (fun _ k => XS.aloadN X143.here hx rfl (hb hby d20_8) rfl rfl k) ?_
  obtain ⟨T144, X144, e144, st144⟩ := getF X143 hx hZ hown (host := "") (Or.inl (hw _ (List.mem_of_getElem? (i := 98) rfl))) Via.refl e143 Vx (g := (mkF m 9 #[.val (.ref sx), .val (.ref q), .val (.int (Int32.ofNat xs.length)), .val (.int (0 : Int32))] [(.ref sx)])) rfl rfl (hb hby d20_9)
  refine own_by st144 ?_
  refine own_by (fun _ k => XS.iconst X144.here hx rfl (hb hby d20_12) k) ?_
  refine own_by (fun _ k => XS.aloadN X144.here hx rfl (hb hby d20_13) rfl rfl k) ?_
  show own_Go p e below _ T144 (mkF m 14 #[.val (.ref sx), .val (.ref q), .val (.int (Int32.ofNat xs.length)), .val (.int (0 : Int32))] [(.ref q), (.int (0 : Int32)), (.ref tx)])
  refine own_by (fun _ k => XS.iloadN X144.here hx rfl (hb hby d20_14) rfl k) ?_
  refine own_by (fun _ k => XS.iloadN X144.here hx rfl (hb hby d20_15) rfl k) ?_
  refine own_by (fun _ k => XS.ishl X144.here hx rfl (hb hby d20_16) rfl k) ?_
  show own_Go p e below _ T144 (mkF m 17 #[.val (.ref sx), .val (.ref q), .val (.int (Int32.ofNat xs.length)), .val (.int (0 : Int32))] [(.int ((Int32.ofNat xs.length) <<< ((0 : Int32) &&& 31))), (.ref q), (.int (0 : Int32)), (.ref tx)])
  rw [show ((Int32.ofNat xs.length) <<< ((0 : Int32) &&& 31)) = (Int32.ofNat xs.length) from own_shl _]
  refine own_by (fun _ k => XS.aloadN X144.here hx rfl (hb hby d20_17) rfl rfl k) ?_
  obtain ⟨T145, X145, e145, st145⟩ := getF X144 hx hZ hown (host := "") (Or.inl (hw _ (List.mem_of_getElem? (i := 98) rfl))) Via.refl e144 Vx (g := (mkF m 18 #[.val (.ref sx), .val (.ref q), .val (.int (Int32.ofNat xs.length)), .val (.int (0 : Int32))] [(.ref sx), (.int (Int32.ofNat xs.length)), (.ref q), (.int (0 : Int32)), (.ref tx)])) rfl rfl (hb hby d20_18)
  refine own_by st145 ?_
  obtain ⟨cl146, Ar146, len146⟩ := own_len Ax
  refine own_by (T' := T145) (g' := (mkF m 22 #[.val (.ref sx), .val (.ref q), .val (.int (Int32.ofNat xs.length)), .val (.int (0 : Int32))] [(.int (Int32.ofNat ys.length)), (.int (Int32.ofNat xs.length)), (.ref q), (.int (0 : Int32)), (.ref tx)])) (fun _ k => X145.arraylength hx (by rw [e145]; exact Ar146.1) (State.isArrayOf_alike hZ.alike Ar146.2.1) (g := (mkF m 21 #[.val (.ref sx), .val (.ref q), .val (.int (Int32.ofNat xs.length)), .val (.int (0 : Int32))] [(.ref tx), (.int (Int32.ofNat xs.length)), (.ref q), (.int (0 : Int32)), (.ref tx)])) rfl rfl (hb hby d20_21) _ (by rw [len146]; exact k)) ?_
  show own_Go p e below _ T145 (mkF m 22 #[.val (.ref sx), .val (.ref q), .val (.int (Int32.ofNat xs.length)), .val (.int (0 : Int32))] [(.int (Int32.ofNat ys.length)), (.int (Int32.ofNat xs.length)), (.ref q), (.int (0 : Int32)), (.ref tx)])
  obtain ⟨T147, h147, L147, X147, e147, N147, K147, A147, st147⟩ := cpA X145 hx hZ hown (hw _ (List.mem_of_getElem? (i := 152) rfl)) (hw _ (List.mem_of_getElem? (i := 135) rfl)) (hw _ (List.mem_of_getElem? (i := 133) rfl)) (hw _ (List.mem_of_getElem? (i := 134) rfl)) e145 (sp := (0 : Int32)) (dp := (Int32.ofNat xs.length)) (nn := (Int32.ofNat ys.length)) (us := ((List.range ys.length).map fun i => (ys.map Value.int).getD (0 + i) (.int (0 : Int32)))) Ax Aq (Or.inl ⟨rfl, rfl⟩) (by decide) (own_nn (show xs.length ≤ 100000 by omega)) (own_nn (show ys.length ≤ 100000 by omega)) (by simp only [own_tn (show xs.length ≤ 100000 by omega), own_tn (show ys.length ≤ 100000 by omega), own_tn (show cap ≤ 100000 by omega), own_tn0]; omega) (by simp only [own_tn (show xs.length ≤ 100000 by omega), own_tn (show ys.length ≤ 100000 by omega), own_tn (show cap ≤ 100000 by omega), own_tn0]; omega) (by simp only [own_tn (show xs.length ≤ 100000 by omega), own_tn (show ys.length ≤ 100000 by omega), own_tn (show cap ≤ 100000 by omega), own_tn0]) (by simp only [own_tn (show xs.length ≤ 100000 by omega), own_tn (show ys.length ≤ 100000 by omega), own_tn (show cap ≤ 100000 by omega), own_tn0, List.length_map, own_padl (show xs.length ≤ cap by omega)]; omega) N143 gq (g := (mkF m 22 #[.val (.ref sx), .val (.ref q), .val (.int (Int32.ofNat xs.length)), .val (.int (0 : Int32))] [(.int (Int32.ofNat ys.length)), (.int (Int32.ofNat xs.length)), (.ref q), (.int (0 : Int32)), (.ref tx)])) rfl (by rw [hml]; rfl) rfl (hb hby d20_22) (by decide) (W := 0) (by show 2 * 0 + _ ≤ _; exact Nat.le_of_eq rfl) (by decide)
  have V147 : Arv Z h147 q kq .byte (Int32.ofNat cap) ((own_pad cap (xs ++ ys)).map Value.int) (.int (0 : Int32)) := (by simp only [own_tn (show xs.length ≤ 100000 by omega), own_tn (show ys.length ≤ 100000 by omega), own_tn (show cap ≤ 100000 by omega), own_tn0] at A147; rw [own_cp (own_pad cap xs) ys (Nat.le_refl _), own_cp2 hl] at A147; exact A147)
  have Z147 : n0 ≤ h147.size := Nat.le_trans Z0 K147.1
  have K147c := K0.trans K147 (allS (Or.inl (List.mem_of_getElem? (i := 0) rfl)) all0)
  refine own_by st147 ?_
  refine own_by (fun _ k => XS.goto X147.here hx rfl (pc0 := 25) (pc' := 43) rfl (hb hby d20_25) (by decide) (by decide) k) ?_
  exact own_ret0 X147 hx hlk hret (hb hby d20_43) (by first | exact ⟨rfl, N147, K147c, V147⟩ | (rw [e147]; exact ⟨rfl, N147, K147c, V147⟩)) (by decide) (by decide)
def Q_rm18 (Z : State) (sb q : Addr) (kq : ClassId) (cap : Nat) (xs : List Int32) (sx tx : Addr) (kx : ClassId) (ys : List Int32) (w1 : Int32) (d1 d2 : Addr) (kd1 kd2 : ClassId) (fm : Value) (h0 : Heap) (n0 : Nat) (v : Option Value) (h : Heap) (L : List Loc) : Prop := v = none ∧ Fr n0 L ∧ Keep h0 h [q] ∧ Arv Z h q kq .byte (Int32.ofNat cap) ((own_pad cap (xs ++ ys)).map Value.int) (.int 0)
theorem pn_rm18 : plainFor (⟨"java/lang/AbstractStringBuilder", "putStringAt", "(ILjava/lang/String;)V"⟩ : MethodName) = true := by first | exact plainFor_of_name (by first | (simp [plainName, overriddenIn, x]; done) | decide +kernel) | decide +kernel
theorem d18_0 : decode jdk_68_method_73_code 0 = .ok (.aload_n 0, 1) := by decide +kernel
theorem d18_1 : decode jdk_68_method_73_code 1 = .ok (.aload_n 2, 1) := by decide +kernel
theorem pd_5 : parseMethodDescriptor "(Ljava/lang/String;)V" = some ⟨[(.object "java/lang/String")], none⟩ := by decide +kernel
theorem d18_2 : decode jdk_68_method_73_code 2 = .ok (.invokevirtual 397, 3) := by decide +kernel
theorem d18_5 : decode jdk_68_method_73_code 5 = .ok (.aload_n 2, 1) := by decide +kernel
theorem d18_6 : decode jdk_68_method_73_code 6 = .ok (.aload_n 0, 1) := by decide +kernel
theorem d18_7 : decode jdk_68_method_73_code 7 = .ok (.getfield 15, 3) := by decide +kernel
theorem d18_10 : decode jdk_68_method_73_code 10 = .ok (.iload_n 1, 1) := by decide +kernel
theorem d18_11 : decode jdk_68_method_73_code 11 = .ok (.aload_n 0, 1) := by decide +kernel
theorem d18_12 : decode jdk_68_method_73_code 12 = .ok (.getfield 22, 3) := by decide +kernel
theorem pd_6 : parseMethodDescriptor "([BIB)V" = some ⟨[(.array .byte), .int, .byte], none⟩ := by decide +kernel
theorem d18_15 : decode jdk_68_method_73_code 15 = .ok (.invokevirtual 399, 3) := by decide +kernel
theorem d18_18 : decode jdk_68_method_73_code 18 = .ok (.return_, 1) := by decide +kernel
set_option maxRecDepth 65536 in
set_option maxHeartbeats 40000000 in
theorem rm18 (l : Launch) (Z : State) (a0 : Array Value) (hw : ∀ d ∈ tables_1, d.before a0 Z = true) (ws : List Jvm.Cond) (sb q : Addr) (kq : ClassId) (cap : Nat) (xs : List Int32) (sx tx : Addr) (kx : ClassId) (ys : List Int32) (w1 : Int32) (d1 d2 : Addr) (kd1 kd2 : ClassId) (fm : Value) (h0 : Heap) (n0 : Nat) (Z0 : n0 ≤ h0.size) (hz : Z.heap.size ≤ n0) (hkz : own_K Z h0) (TB : own_Tb Z w1 d1 d2 kd1 kd2 fm) (gs : n0 ≤ sb) (gq : n0 ≤ q) (Es : Exa Z h0 sb "java/lang/StringBuilder") (Cs : Fld Z h0 sb "java/lang/AbstractStringBuilder" "coder" "B" (.int (0 : Int32))) (Vs : Fld Z h0 sb "java/lang/AbstractStringBuilder" "value" "[B" (.ref q)) (Ns : Fld Z h0 sb "java/lang/AbstractStringBuilder" "count" "I" (.int (Int32.ofNat xs.length))) (Aq : Arv Z h0 q kq .byte (Int32.ofNat cap) ((own_pad cap xs).map Value.int) (.int 0)) (hcap : xs.length ≤ cap) (hcb : cap ≤ 200) (Ex : Exa Z h0 sx "java/lang/String") (Cx : Fld Z h0 sx "java/lang/String" "coder" "B" (.int (0 : Int32))) (Vx : Fld Z h0 sx "java/lang/String" "value" "[B" (.ref tx)) (Ax : Arv Z h0 tx kx .byte (Int32.ofNat ys.length) (ys.map Value.int) (.int 0)) (hl : xs.length + ys.length ≤ cap) :
    own_Met l Z (⟨"java/lang/AbstractStringBuilder", "putStringAt", "(ILjava/lang/String;)V"⟩ : MethodName) jdk_68_method_73_code 3 none ws ({ frames := 2, cells := 0, slots := 0, locals := 54 } : Room) #[(.ref sb), (.int (Int32.ofNat xs.length)), (.ref sx)] h0 (Q_rm18 Z sb q kq cap xs sx tx kx ys w1 d1 d2 kd1 kd2 fm h0 n0) := by
  refine own_enter (g0 := fun m => (mkF m 0 #[.val (.ref sb), .val (.int (Int32.ofNat xs.length)), .val (.ref sx)] [])) pn_rm18 (fun m => by first | (simp [entryFrame, mkF, argsToLocals, Value.category, maxLocals]; done) | rfl) ?_
  intro p e s m below meth c s₁ hx hby hml hown hnm hret hlk hZ X0 e0
  have hml : c.maxLocals = 3 := hml
  have hown : s.vm.findClass "java/lang/AbstractStringBuilder" = some m.cls := hown
  have N0 := Fr.nil n0
  have nsq : sb ≠ q := Exa.neArv Es Aq (hw _ (List.mem_of_getElem? (i := 65) rfl))
  have K0 := Keep.refl h0 [q]
  refine own_by (fun _ k => XS.aloadN X0.here hx rfl (hb hby d18_0) rfl rfl k) ?_
  refine own_by (fun _ k => XS.aloadN X0.here hx rfl (hb hby d18_1) rfl rfl k) ?_
  obtain ⟨_, T148, L148, X148, ⟨rfl, N148q, e148⟩, st148⟩ := own_callV2 X0 hx hZ hown (y := (⟨"java/lang/AbstractStringBuilder", "inflateIfNeededFor", "(Ljava/lang/String;)V"⟩ : MethodName)) (z := (⟨"java/lang/AbstractStringBuilder", "inflateIfNeededFor", "(Ljava/lang/String;)V"⟩ : MethodName)) (y' := (⟨"java/lang/AbstractStringBuilder", "isLatin1", "()Z"⟩ : MethodName)) (C := "java/lang/StringBuilder") (hw _ (List.mem_of_getElem? (i := 141) rfl)) (own_decl (hw _ (List.mem_of_getElem? (i := 142) rfl)) (hw _ (List.mem_of_getElem? (i := 145) rfl))) (hw _ (List.mem_of_getElem? (i := 144) rfl)) (hw _ (List.mem_of_getElem? (i := 169) rfl)) (hw _ (List.mem_of_getElem? (i := 168) rfl)) rfl (hw _ (List.mem_of_getElem? (i := 142) rfl)) (hw _ (List.mem_of_getElem? (i := 74) rfl)) (hw _ (List.mem_of_getElem? (i := 145) rfl)) (by decide) (a := sb) Es (argsL := [(.ref sx)]) (rest := []) e0 (rm19 l Z a0 hw [] sb q kq cap xs sx tx kx ys w1 d1 d2 kd1 kd2 fm h0 n0 Z0 hz hkz TB gs gq Es Cs Vs Ns Aq hcap hcb Ex Cx Vx Ax) (g := (mkF m 2 #[.val (.ref sb), .val (.int (Int32.ofNat xs.length)), .val (.ref sx)] [(.ref sx), (.ref sb)])) rfl (by rw [hml]; rfl) (lenOf pd_5 rfl) rfl (W := 0) (by show 2 * 0 + _ ≤ _; exact Nat.le_of_eq rfl) (hb hby d18_2) (by decide) (by decide) (by decide) (by decide)
  have N148 := Fr.app N0 N148q
  refine own_by st148 ?_
  refine own_by (fun _ k => XS.aloadN X148.here hx rfl (hb hby d18_5) rfl rfl k) ?_
  refine own_by (fun _ k => XS.aloadN X148.here hx rfl (hb hby d18_6) rfl rfl k) ?_
  obtain ⟨T149, X149, e149, st149⟩ := getF X148 hx hZ hown (host := "") (Or.inl (hw _ (List.mem_of_getElem? (i := 78) rfl))) Via.refl e148 Vs (g := (mkF m 7 #[.val (.ref sb), .val (.int (Int32.ofNat xs.length)), .val (.ref sx)] [(.ref sb), (.ref sx)])) rfl rfl (hb hby d18_7)
  refine own_by st149 ?_
  refine own_by (fun _ k => XS.iloadN X149.here hx rfl (hb hby d18_10) rfl k) ?_
  refine own_by (fun _ k => XS.aloadN X149.here hx rfl (hb hby d18_11) rfl rfl k) ?_
  show own_Go p e below _ T149 (mkF m 12 #[.val (.ref sb), .val (.int (Int32.ofNat xs.length)), .val (.ref sx)] [(.ref sb), (.int (Int32.ofNat xs.length)), (.ref q), (.ref sx)])
  obtain ⟨T150, X150, e150, st150⟩ := getF X149 hx hZ hown (host := "") (Or.inl (hw _ (List.mem_of_getElem? (i := 80) rfl))) Via.refl e149 Cs (g := (mkF m 12 #[.val (.ref sb), .val (.int (Int32.ofNat xs.length)), .val (.ref sx)] [(.ref sb), (.int (Int32.ofNat xs.length)), (.ref q), (.ref sx)])) rfl rfl (hb hby d18_12)
  refine own_by st150 ?_
  obtain ⟨_, T151, L151, X151, ⟨rfl, N151q, Kg, Ag⟩, st151⟩ := own_callV X150 hx hZ hown (y := (⟨"java/lang/String", "getBytes", "([BIB)V"⟩ : MethodName)) (C := "java/lang/String") (hw _ (List.mem_of_getElem? (i := 147) rfl)) (hw _ (List.mem_of_getElem? (i := 148) rfl)) (hw _ (List.mem_of_getElem? (i := 150) rfl)) (hw _ (List.mem_of_getElem? (i := 149) rfl)) (hw _ (List.mem_of_getElem? (i := 30) rfl)) (hw _ (List.mem_of_getElem? (i := 151) rfl)) (by decide) (a := sx) Ex (argsL := [(.ref q), (.int (Int32.ofNat xs.length)), (.int (0 : Int32))]) (rest := []) e150 (rm20 l Z a0 hw [] sx tx kx ys q kq cap xs w1 d1 d2 kd1 kd2 fm h0 n0 Z0 hz hkz TB Ex Cx Vx Ax gq Aq hcb hl) (g := (mkF m 15 #[.val (.ref sb), .val (.int (Int32.ofNat xs.length)), .val (.ref sx)] [(.int (0 : Int32)), (.int (Int32.ofNat xs.length)), (.ref q), (.ref sx)])) rfl (by rw [hml]; rfl) (lenOf pd_6 rfl) rfl (W := 0) (by show 2 * 0 + _ ≤ _; exact Nat.le_of_eq rfl) (hb hby d18_15) (by decide) (by decide) (by decide) (by decide)
  have N151 := Fr.app N148 N151q
  refine own_by st151 ?_
  have Z151 : n0 ≤ T151.heap.size := Nat.le_trans Z0 Kg.1
  have K151c := K0.trans Kg (allS (Or.inl (List.mem_of_getElem? (i := 0) rfl)) all0)
  exact own_ret0 X151 hx hlk hret (hb hby d18_18) ⟨rfl, N151, K151c, Ag⟩ (by decide) (by decide)
theorem own_side {h0 h : Heap} {sb q q2 : Addr} (hq : q2 = q ∨ h.size ≤ q2) (hs : h0.size ≤ h.size) : q2 ∈ [sb, q] ∨ h0.size ≤ q2 := hq.elim (fun e => Or.inl (by simp [e])) (fun g => Or.inr (Nat.le_trans hs g))
theorem own_cpge (cap mn : Nat) : mn ≤ own_cpn cap mn := by unfold own_cpn; split <;> omega
theorem own_app (xs ys : List Int32) (h : xs.length + ys.length ≤ 50000) : Int32.ofNat xs.length + Int32.ofNat ys.length = Int32.ofNat (xs ++ ys).length := by rw [List.length_append]; exact own_add (by omega) (by omega)
def Q_rm10 (Z : State) (sb q : Addr) (kq : ClassId) (cap : Nat) (xs : List Int32) (sx tx : Addr) (kx : ClassId) (ys : List Int32) (w1 : Int32) (d1 d2 : Addr) (kd1 kd2 : ClassId) (fm : Value) (h0 : Heap) (n0 : Nat) (v : Option Value) (h : Heap) (L : List Loc) : Prop := v = some (.ref sb) ∧ Fr n0 L ∧ ∃ (q2 : Addr) (k2 : ClassId), Keep h0 h [sb, q] ∧ n0 ≤ q2 ∧ Exa Z h sb "java/lang/StringBuilder" ∧ Fld Z h sb "java/lang/AbstractStringBuilder" "coder" "B" (.int (0 : Int32)) ∧ Fld Z h sb "java/lang/AbstractStringBuilder" "value" "[B" (.ref q2) ∧ Fld Z h sb "java/lang/AbstractStringBuilder" "count" "I" (.int (Int32.ofNat (xs ++ ys).length)) ∧ Arv Z h q2 k2 .byte (Int32.ofNat (own_cpn cap (xs.length + ys.length))) ((own_pad (own_cpn cap (xs.length + ys.length)) (xs ++ ys)).map Value.int) (.int 0)
theorem pn_rm10 : plainFor (⟨"java/lang/AbstractStringBuilder", "append", "(Ljava/lang/String;)Ljava/lang/AbstractStringBuilder;"⟩ : MethodName) = true := by first | exact plainFor_of_name (by first | (simp [plainName, overriddenIn, x]; done) | decide +kernel) | decide +kernel
theorem d10_0 : decode jdk_68_method_22_code 0 = .ok (.aload_n 1, 1) := by decide +kernel
theorem d10_1 : decode jdk_68_method_22_code 1 = .ok (.ifnonnull 8, 3) := by decide +kernel
theorem d10_9 : decode jdk_68_method_22_code 9 = .ok (.aload_n 1, 1) := by decide +kernel
theorem pd_7 : parseMethodDescriptor "()I" = some ⟨[], some .int⟩ := by decide +kernel
theorem d10_10 : decode jdk_68_method_22_code 10 = .ok (.invokevirtual 32, 3) := by decide +kernel
theorem d10_13 : decode jdk_68_method_22_code 13 = .ok (.istore_n 2, 1) := by decide +kernel
theorem d10_14 : decode jdk_68_method_22_code 14 = .ok (.aload_n 0, 1) := by decide +kernel
theorem d10_15 : decode jdk_68_method_22_code 15 = .ok (.aload_n 0, 1) := by decide +kernel
theorem d10_16 : decode jdk_68_method_22_code 16 = .ok (.getfield 79, 3) := by decide +kernel
theorem d10_19 : decode jdk_68_method_22_code 19 = .ok (.iload_n 2, 1) := by decide +kernel
theorem d10_20 : decode jdk_68_method_22_code 20 = .ok (.iadd, 1) := by decide +kernel
theorem pd_8 : parseMethodDescriptor "(I)V" = some ⟨[.int], none⟩ := by decide +kernel
theorem d10_21 : decode jdk_68_method_22_code 21 = .ok (.invokevirtual 100, 3) := by decide +kernel
theorem d10_24 : decode jdk_68_method_22_code 24 = .ok (.aload_n 0, 1) := by decide +kernel
theorem d10_25 : decode jdk_68_method_22_code 25 = .ok (.aload_n 0, 1) := by decide +kernel
theorem d10_26 : decode jdk_68_method_22_code 26 = .ok (.getfield 79, 3) := by decide +kernel
theorem d10_29 : decode jdk_68_method_22_code 29 = .ok (.aload_n 1, 1) := by decide +kernel
theorem pd_9 : parseMethodDescriptor "(ILjava/lang/String;)V" = some ⟨[.int, (.object "java/lang/String")], none⟩ := by decide +kernel
theorem d10_30 : decode jdk_68_method_22_code 30 = .ok (.invokevirtual 208, 3) := by decide +kernel
theorem d10_33 : decode jdk_68_method_22_code 33 = .ok (.aload_n 0, 1) := by decide +kernel
theorem d10_34 : decode jdk_68_method_22_code 34 = .ok (.dup, 1) := by decide +kernel
theorem d10_35 : decode jdk_68_method_22_code 35 = .ok (.getfield 79, 3) := by decide +kernel
theorem d10_38 : decode jdk_68_method_22_code 38 = .ok (.iload_n 2, 1) := by decide +kernel
theorem d10_39 : decode jdk_68_method_22_code 39 = .ok (.iadd, 1) := by decide +kernel
theorem d10_40 : decode jdk_68_method_22_code 40 = .ok (.putfield 79, 3) := by decide +kernel
theorem d10_43 : decode jdk_68_method_22_code 43 = .ok (.aload_n 0, 1) := by decide +kernel
theorem d10_44 : decode jdk_68_method_22_code 44 = .ok (.areturn, 1) := by decide +kernel
set_option maxRecDepth 65536 in
set_option maxHeartbeats 40000000 in
theorem rm10 (l : Launch) (Z : State) (a0 : Array Value) (hw : ∀ d ∈ tables_1, d.before a0 Z = true) (ws : List Jvm.Cond) (sb q : Addr) (kq : ClassId) (cap : Nat) (xs : List Int32) (sx tx : Addr) (kx : ClassId) (ys : List Int32) (w1 : Int32) (d1 d2 : Addr) (kd1 kd2 : ClassId) (fm : Value) (h0 : Heap) (n0 : Nat) (Z0 : n0 ≤ h0.size) (hz : Z.heap.size ≤ n0) (hkz : own_K Z h0) (TB : own_Tb Z w1 d1 d2 kd1 kd2 fm) (gs : n0 ≤ sb) (gq : n0 ≤ q) (Es : Exa Z h0 sb "java/lang/StringBuilder") (Cs : Fld Z h0 sb "java/lang/AbstractStringBuilder" "coder" "B" (.int (0 : Int32))) (Vs : Fld Z h0 sb "java/lang/AbstractStringBuilder" "value" "[B" (.ref q)) (Ns : Fld Z h0 sb "java/lang/AbstractStringBuilder" "count" "I" (.int (Int32.ofNat xs.length))) (Aq : Arv Z h0 q kq .byte (Int32.ofNat cap) ((own_pad cap xs).map Value.int) (.int 0)) (hcap : xs.length ≤ cap) (hcb : cap ≤ 200) (Ex : Exa Z h0 sx "java/lang/String") (Cx : Fld Z h0 sx "java/lang/String" "coder" "B" (.int (0 : Int32))) (Vx : Fld Z h0 sx "java/lang/String" "value" "[B" (.ref tx)) (Ax : Arv Z h0 tx kx .byte (Int32.ofNat ys.length) (ys.map Value.int) (.int 0)) (hm2 : own_cpn cap (xs.length + ys.length) ≤ 200) (hy : ys.length ≤ 100) :
    own_Met l Z (⟨"java/lang/AbstractStringBuilder", "append", "(Ljava/lang/String;)Ljava/lang/AbstractStringBuilder;"⟩ : MethodName) jdk_68_method_22_code 3 (some (.object "java/lang/AbstractStringBuilder")) ws ({ frames := 4, cells := 1, slots := 200, locals := 72 } : Room) #[(.ref sb), (.ref sx)] h0 (Q_rm10 Z sb q kq cap xs sx tx kx ys w1 d1 d2 kd1 kd2 fm h0 n0) := by
  refine own_enter (g0 := fun m => (mkF m 0 #[.val (.ref sb), .val (.ref sx), .unset] [])) pn_rm10 (fun m => by first | (simp [entryFrame, mkF, argsToLocals, Value.category, maxLocals]; done) | rfl) ?_
  intro p e s m below meth c s₁ hx hby hml hown hnm hret hlk hZ X0 e0
  have hml : c.maxLocals = 3 := hml
  have hown : s.vm.findClass "java/lang/AbstractStringBuilder" = some m.cls := hown
  have N0 := Fr.nil n0
  have nsq : sb ≠ q := Exa.neArv Es Aq (hw _ (List.mem_of_getElem? (i := 65) rfl))
  have K0 := Keep.refl h0 [sb, q]
  have nxs : sx ≠ sb := Exa.ne Ex Es (by decide)
  have nst : sb ≠ tx := Exa.neArv Es Ax (hw _ (List.mem_of_getElem? (i := 65) rfl))
  refine own_by (fun _ k => XS.aloadN X0.here hx rfl (hb hby d10_0) rfl rfl k) ?_
  refine own_by (fun _ k => XS.ifnonnullYes X0.here hx rfl (pc0 := 1) (pc' := 9) rfl (hb hby d10_1) rfl (by decide) (by decide) k) ?_
  refine own_by (fun _ k => XS.aloadN X0.here hx rfl (hb hby d10_9) rfl rfl k) ?_
  obtain ⟨_, T152, L152, X152, ⟨rfl, N152q, e152⟩, st152⟩ := own_callV X0 hx hZ hown (y := (⟨"java/lang/String", "length", "()I"⟩ : MethodName)) (C := "java/lang/String") (hw _ (List.mem_of_getElem? (i := 93) rfl)) (hw _ (List.mem_of_getElem? (i := 94) rfl)) (hw _ (List.mem_of_getElem? (i := 96) rfl)) (hw _ (List.mem_of_getElem? (i := 95) rfl)) (hw _ (List.mem_of_getElem? (i := 30) rfl)) (hw _ (List.mem_of_getElem? (i := 97) rfl)) (by decide) (a := sx) Ex (argsL := []) (rest := []) e0 (rm11 l Z a0 hw [] sx tx kx ys w1 d1 d2 kd1 kd2 fm h0 n0 Z0 hz hkz TB Ex Cx Vx Ax) (g := (mkF m 10 #[.val (.ref sb), .val (.ref sx), .unset] [(.ref sx)])) rfl (by rw [hml]; rfl) (lenOf pd_7 rfl) rfl (W := 0) (by show 2 * 0 + _ ≤ _; exact Nat.le_of_eq rfl) (hb hby d10_10) (by decide) (by decide) (by decide) (by decide)
  have N152 := Fr.app N0 N152q
  refine own_by st152 ?_
  refine own_by (fun _ k => XS.istoreN X152.here hx rfl (hb hby d10_13) rfl (l' := #[.val (.ref sb), .val (.ref sx), .val (.int (Int32.ofNat ys.length))]) rfl k) ?_
  refine own_by (fun _ k => XS.aloadN X152.here hx rfl (hb hby d10_14) rfl rfl k) ?_
  refine own_by (fun _ k => XS.aloadN X152.here hx rfl (hb hby d10_15) rfl rfl k) ?_
  obtain ⟨T153, X153, e153, st153⟩ := getF X152 hx hZ hown (host := "") (Or.inl (hw _ (List.mem_of_getElem? (i := 106) rfl))) Via.refl e152 Ns (g := (mkF m 16 #[.val (.ref sb), .val (.ref sx), .val (.int (Int32.ofNat ys.length))] [(.ref sb), (.ref sb)])) rfl rfl (hb hby d10_16)
  refine own_by st153 ?_
  show own_Go p e below _ T153 (mkF m 19 #[.val (.ref sb), .val (.ref sx), .val (.int (Int32.ofNat ys.length))] [(.int (Int32.ofNat xs.length)), (.ref sb)])
  refine own_by (fun _ k => XS.iloadN X153.here hx rfl (hb hby d10_19) rfl k) ?_
  refine own_by (fun _ k => XS.iadd X153.here hx rfl (hb hby d10_20) rfl k) ?_
  show own_Go p e below _ T153 (mkF m 21 #[.val (.ref sb), .val (.ref sx), .val (.int (Int32.ofNat ys.length))] [(.int ((Int32.ofNat xs.length) + (Int32.ofNat ys.length))), (.ref sb)])
  rw [show ((Int32.ofNat xs.length) + (Int32.ofNat ys.length)) = (Int32.ofNat (xs.length + ys.length)) from own_add (by omega) (by omega)]
  obtain ⟨_, T154, L154, X154, ⟨rfl, N154q, q2, k2, hq2, Ke, gq2, Ee, Ce, Ve, Nx, Ae⟩, st154⟩ := own_callV2 X153 hx hZ hown (y := (⟨"java/lang/AbstractStringBuilder", "ensureCapacityInternal", "(I)V"⟩ : MethodName)) (z := (⟨"java/lang/AbstractStringBuilder", "ensureCapacityInternal", "(I)V"⟩ : MethodName)) (y' := (⟨"java/lang/AbstractStringBuilder", "isLatin1", "()Z"⟩ : MethodName)) (C := "java/lang/StringBuilder") (hw _ (List.mem_of_getElem? (i := 108) rfl)) (own_decl (hw _ (List.mem_of_getElem? (i := 109) rfl)) (hw _ (List.mem_of_getElem? (i := 112) rfl))) (hw _ (List.mem_of_getElem? (i := 111) rfl)) (hw _ (List.mem_of_getElem? (i := 169) rfl)) (hw _ (List.mem_of_getElem? (i := 168) rfl)) rfl (hw _ (List.mem_of_getElem? (i := 109) rfl)) (hw _ (List.mem_of_getElem? (i := 74) rfl)) (hw _ (List.mem_of_getElem? (i := 112) rfl)) (by decide) (a := sb) Es (argsL := [(.int (Int32.ofNat (xs.length + ys.length)))]) (rest := []) e153 (rm13 l Z a0 hw [] sb q kq cap xs (xs.length + ys.length) h0 n0 Z0 gs gq Es Cs Vs Ns Aq hcap hcb (by omega) hm2) (g := (mkF m 21 #[.val (.ref sb), .val (.ref sx), .val (.int (Int32.ofNat ys.length))] [(.int (Int32.ofNat (xs.length + ys.length))), (.ref sb)])) rfl (by rw [hml]; rfl) (lenOf pd_8 rfl) rfl (W := 0) (by show 2 * 0 + _ ≤ _; exact Nat.le_of_eq rfl) (hb hby d10_21) (by decide) (by decide) (by decide) (by decide)
  have N154 := Fr.app N152 N154q
  refine own_by st154 ?_
  have Z154 : n0 ≤ T154.heap.size := Nat.le_trans Z0 Ke.1
  have K154c := K0.trans Ke (allS (Or.inl (List.mem_of_getElem? (i := 0) rfl)) all0)
  have nsq2 : sb ≠ q2 := Exa.neArv Ee Ae (hw _ (List.mem_of_getElem? (i := 65) rfl))
  refine own_by (fun _ k => XS.aloadN X154.here hx rfl (hb hby d10_24) rfl rfl k) ?_
  refine own_by (fun _ k => XS.aloadN X154.here hx rfl (hb hby d10_25) rfl rfl k) ?_
  obtain ⟨T155, X155, e155, st155⟩ := getF X154 hx hZ hown (host := "") (Or.inl (hw _ (List.mem_of_getElem? (i := 106) rfl))) Via.refl rfl Nx (g := (mkF m 26 #[.val (.ref sb), .val (.ref sx), .val (.int (Int32.ofNat ys.length))] [(.ref sb), (.ref sb)])) rfl rfl (hb hby d10_26)
  refine own_by st155 ?_
  refine own_by (fun _ k => XS.aloadN X155.here hx rfl (hb hby d10_29) rfl rfl k) ?_
  have hl := own_cpge cap (xs.length + ys.length)
  have f156 := (Ex.keep Ke)
  have f157 := (Cx.keep Ke (ninS nxs nin0))
  have f158 := (Vx.keep Ke (ninS nxs nin0))
  have f159 := (Ax.keep Ke (ninS (Ne.symm nst) nin0))
  have hk160 : own_K Z T154.heap := own_KW hkz K154c (allS (Nat.le_trans hz gs) (allS (Nat.le_trans hz gq) all0))
  obtain ⟨_, T161, L161, X161, ⟨rfl, N161q, Kp, Ap⟩, st161⟩ := own_callV2 X155 hx hZ hown (y := (⟨"java/lang/AbstractStringBuilder", "putStringAt", "(ILjava/lang/String;)V"⟩ : MethodName)) (z := (⟨"java/lang/AbstractStringBuilder", "putStringAt", "(ILjava/lang/String;)V"⟩ : MethodName)) (y' := (⟨"java/lang/AbstractStringBuilder", "isLatin1", "()Z"⟩ : MethodName)) (C := "java/lang/StringBuilder") (hw _ (List.mem_of_getElem? (i := 136) rfl)) (own_decl (hw _ (List.mem_of_getElem? (i := 137) rfl)) (hw _ (List.mem_of_getElem? (i := 140) rfl))) (hw _ (List.mem_of_getElem? (i := 139) rfl)) (hw _ (List.mem_of_getElem? (i := 169) rfl)) (hw _ (List.mem_of_getElem? (i := 168) rfl)) rfl (hw _ (List.mem_of_getElem? (i := 137) rfl)) (hw _ (List.mem_of_getElem? (i := 74) rfl)) (hw _ (List.mem_of_getElem? (i := 140) rfl)) (by decide) (a := sb) Ee (argsL := [(.int (Int32.ofNat xs.length)), (.ref sx)]) (rest := []) e155 (rm18 l Z a0 hw [] sb q2 k2 (own_cpn cap (xs.length + ys.length)) xs sx tx kx ys w1 d1 d2 kd1 kd2 fm T154.heap n0 Z154 hz hk160 TB gs gq2 Ee Ce Ve Nx Ae (by omega) hm2 f156 f157 f158 f159 hl) (g := (mkF m 30 #[.val (.ref sb), .val (.ref sx), .val (.int (Int32.ofNat ys.length))] [(.ref sx), (.int (Int32.ofNat xs.length)), (.ref sb)])) rfl (by rw [hml]; rfl) (lenOf pd_9 rfl) rfl (W := 0) (by show 2 * 0 + _ ≤ _; exact Nat.le_of_eq rfl) (hb hby d10_30) (by decide) (by decide) (by decide) (by decide)
  have N161 := Fr.app N154 N161q
  refine own_by st161 ?_
  have Z161 : n0 ≤ T161.heap.size := Nat.le_trans Z154 Kp.1
  have K161c := K154c.trans Kp (allS (own_side hq2 K0.1) all0)
  refine own_by (fun _ k => XS.aloadN X161.here hx rfl (hb hby d10_33) rfl rfl k) ?_
  refine own_by (fun _ k => XS.dup X161.here hx rfl (hb hby d10_34) rfl rfl k) ?_
  show own_Go p e below _ T161 (mkF m 35 #[.val (.ref sb), .val (.ref sx), .val (.int (Int32.ofNat ys.length))] [(.ref sb), (.ref sb)])
  have f163 := (Nx.keep Kp (ninS nsq2 nin0))
  obtain ⟨T162, X162, e162, st162⟩ := getF X161 hx hZ hown (host := "") (Or.inl (hw _ (List.mem_of_getElem? (i := 106) rfl))) Via.refl rfl f163 (g := (mkF m 35 #[.val (.ref sb), .val (.ref sx), .val (.int (Int32.ofNat ys.length))] [(.ref sb), (.ref sb)])) rfl rfl (hb hby d10_35)
  refine own_by st162 ?_
  refine own_by (fun _ k => XS.iloadN X162.here hx rfl (hb hby d10_38) rfl k) ?_
  refine own_by (fun _ k => XS.iadd X162.here hx rfl (hb hby d10_39) rfl k) ?_
  show own_Go p e below _ T162 (mkF m 40 #[.val (.ref sb), .val (.ref sx), .val (.int (Int32.ofNat ys.length))] [(.int ((Int32.ofNat xs.length) + (Int32.ofNat ys.length))), (.ref sb)])
  rw [show ((Int32.ofNat xs.length) + (Int32.ofNat ys.length)) = (Int32.ofNat (xs ++ ys).length) from own_app xs ys (by omega)]
  have f165 := (Ee.keep Kp)
  obtain ⟨T164, h164, X164, e164, W164, st164⟩ := putF X162 hx hZ hown (host := "") (Or.inl (hw _ (List.mem_of_getElem? (i := 106) rfl))) Via.refl e162 f163 f165 (Or.inl (hw _ (List.mem_of_getElem? (i := 107) rfl))) (hw _ (List.mem_of_getElem? (i := 65) rfl)) (ty := .int) (by decide) rfl rfl (g := (mkF m 40 #[.val (.ref sb), .val (.ref sx), .val (.int (Int32.ofNat ys.length))] [(.int (Int32.ofNat (xs ++ ys).length)), (.ref sb)])) rfl rfl (hb hby d10_40)
  refine own_by st164 ?_
  have N164 := Fr.snoc X164 N161 gs
  have fw164 := f163.same W164
  have K166 := K161c.wr W164 (Or.inl (List.mem_of_getElem? (i := 0) rfl))
  have Z164 : n0 ≤ h164.size := Nat.le_trans Z161 (Keep.of_wr W164).1
  refine own_by (fun _ k => XS.aloadN X164.here hx rfl (hb hby d10_43) rfl rfl k) ?_
  have f167 := (f165.wr W164)
  have f168 := ((Ce.keep Kp (ninS nsq2 nin0)).other W164 (Or.inr (slot_ne (Or.inl (hw _ (List.mem_of_getElem? (i := 81) rfl))) (Or.inl (hw _ (List.mem_of_getElem? (i := 107) rfl))) (by decide) (t := .byte) (t' := .int) (by decide) (by decide))))
  have f169 := ((Ve.keep Kp (ninS nsq2 nin0)).other W164 (Or.inr (slot_ne (Or.inl (hw _ (List.mem_of_getElem? (i := 79) rfl))) (Or.inl (hw _ (List.mem_of_getElem? (i := 107) rfl))) (by decide) (t := (.array .byte)) (t' := .int) (by decide) (by decide))))
  have f170 := (Ap.other W164 (Ne.symm nsq2))
  exact own_retA X164 hx hlk hret rfl rfl (hb hby d10_44) (by first | exact ⟨rfl, N164, q2, k2, K166, gq2, f167, f168, f169, fw164, f170⟩ | (rw [e164]; exact ⟨rfl, N164, q2, k2, K166, gq2, f167, f168, f169, fw164, f170⟩)) (by decide) (by decide)
def Q_rm9 (Z : State) (sb q : Addr) (kq : ClassId) (cap : Nat) (xs : List Int32) (sx tx : Addr) (kx : ClassId) (ys : List Int32) (w1 : Int32) (d1 d2 : Addr) (kd1 kd2 : ClassId) (fm : Value) (h0 : Heap) (n0 : Nat) (v : Option Value) (h : Heap) (L : List Loc) : Prop := v = some (.ref sb) ∧ Fr n0 L ∧ ∃ (q2 : Addr) (k2 : ClassId), Keep h0 h [sb, q] ∧ n0 ≤ q2 ∧ Exa Z h sb "java/lang/StringBuilder" ∧ Fld Z h sb "java/lang/AbstractStringBuilder" "coder" "B" (.int (0 : Int32)) ∧ Fld Z h sb "java/lang/AbstractStringBuilder" "value" "[B" (.ref q2) ∧ Fld Z h sb "java/lang/AbstractStringBuilder" "count" "I" (.int (Int32.ofNat (xs ++ ys).length)) ∧ Arv Z h q2 k2 .byte (Int32.ofNat (own_cpn cap (xs.length + ys.length))) ((own_pad (own_cpn cap (xs.length + ys.length)) (xs ++ ys)).map Value.int) (.int 0)
theorem pn_rm9 : plainFor (⟨"java/lang/StringBuilder", "append", "(Ljava/lang/String;)Ljava/lang/StringBuilder;"⟩ : MethodName) = true := by first | exact plainFor_of_name (by first | (simp [plainName, overriddenIn, x]; done) | decide +kernel) | decide +kernel
theorem d9_0 : decode jdk_67_method_7_code 0 = .ok (.aload_n 0, 1) := by decide +kernel
theorem d9_1 : decode jdk_67_method_7_code 1 = .ok (.aload_n 1, 1) := by decide +kernel
theorem pd_10 : parseMethodDescriptor "(Ljava/lang/String;)Ljava/lang/AbstractStringBuilder;" = some ⟨[(.object "java/lang/String")], some (.object "java/lang/AbstractStringBuilder")⟩ := by decide +kernel
theorem d9_2 : decode jdk_67_method_7_code 2 = .ok (.invokespecial 29, 3) := by decide +kernel
theorem d9_5 : decode jdk_67_method_7_code 5 = .ok (.pop, 1) := by decide +kernel
theorem d9_6 : decode jdk_67_method_7_code 6 = .ok (.aload_n 0, 1) := by decide +kernel
theorem d9_7 : decode jdk_67_method_7_code 7 = .ok (.areturn, 1) := by decide +kernel
set_option maxRecDepth 65536 in
set_option maxHeartbeats 40000000 in
theorem rm9 (l : Launch) (Z : State) (a0 : Array Value) (hw : ∀ d ∈ tables_1, d.before a0 Z = true) (ws : List Jvm.Cond) (sb q : Addr) (kq : ClassId) (cap : Nat) (xs : List Int32) (sx tx : Addr) (kx : ClassId) (ys : List Int32) (w1 : Int32) (d1 d2 : Addr) (kd1 kd2 : ClassId) (fm : Value) (h0 : Heap) (n0 : Nat) (Z0 : n0 ≤ h0.size) (hz : Z.heap.size ≤ n0) (hkz : own_K Z h0) (TB : own_Tb Z w1 d1 d2 kd1 kd2 fm) (gs : n0 ≤ sb) (gq : n0 ≤ q) (Es : Exa Z h0 sb "java/lang/StringBuilder") (Cs : Fld Z h0 sb "java/lang/AbstractStringBuilder" "coder" "B" (.int (0 : Int32))) (Vs : Fld Z h0 sb "java/lang/AbstractStringBuilder" "value" "[B" (.ref q)) (Ns : Fld Z h0 sb "java/lang/AbstractStringBuilder" "count" "I" (.int (Int32.ofNat xs.length))) (Aq : Arv Z h0 q kq .byte (Int32.ofNat cap) ((own_pad cap xs).map Value.int) (.int 0)) (hcap : xs.length ≤ cap) (hcb : cap ≤ 200) (Ex : Exa Z h0 sx "java/lang/String") (Cx : Fld Z h0 sx "java/lang/String" "coder" "B" (.int (0 : Int32))) (Vx : Fld Z h0 sx "java/lang/String" "value" "[B" (.ref tx)) (Ax : Arv Z h0 tx kx .byte (Int32.ofNat ys.length) (ys.map Value.int) (.int 0)) (hm2 : own_cpn cap (xs.length + ys.length) ≤ 200) (hy : ys.length ≤ 100) :
    own_Met l Z (⟨"java/lang/StringBuilder", "append", "(Ljava/lang/String;)Ljava/lang/StringBuilder;"⟩ : MethodName) jdk_67_method_7_code 2 (some (.object "java/lang/StringBuilder")) ws ({ frames := 5, cells := 1, slots := 200, locals := 90 } : Room) #[(.ref sb), (.ref sx)] h0 (Q_rm9 Z sb q kq cap xs sx tx kx ys w1 d1 d2 kd1 kd2 fm h0 n0) := by
  refine own_enter (g0 := fun m => (mkF m 0 #[.val (.ref sb), .val (.ref sx)] [])) pn_rm9 (fun m => by first | (simp [entryFrame, mkF, argsToLocals, Value.category, maxLocals]; done) | rfl) ?_
  intro p e s m below meth c s₁ hx hby hml hown hnm hret hlk hZ X0 e0
  have hml : c.maxLocals = 2 := hml
  have hown : s.vm.findClass "java/lang/StringBuilder" = some m.cls := hown
  have N0 := Fr.nil n0
  have nsq : sb ≠ q := Exa.neArv Es Aq (hw _ (List.mem_of_getElem? (i := 65) rfl))
  have K0 := Keep.refl h0 [sb, q]
  refine own_by (fun _ k => XS.aloadN X0.here hx rfl (hb hby d9_0) rfl rfl k) ?_
  refine own_by (fun _ k => XS.aloadN X0.here hx rfl (hb hby d9_1) rfl rfl k) ?_
  obtain ⟨_, T171, L171, X171, ⟨rfl, N171q, q2, k2, Ke, gq2, Ee, Ce, Ve, Nx, Ae⟩, st171⟩ := own_callSup X0 hx hZ hown (y := (⟨"java/lang/AbstractStringBuilder", "append", "(Ljava/lang/String;)Ljava/lang/AbstractStringBuilder;"⟩ : MethodName)) (y' := (⟨"java/lang/AbstractStringBuilder", "isLatin1", "()Z"⟩ : MethodName)) (C := "java/lang/StringBuilder") (hw _ (List.mem_of_getElem? (i := 88) rfl)) (hw _ (List.mem_of_getElem? (i := 89) rfl)) (hw _ (List.mem_of_getElem? (i := 90) rfl)) (hw _ (List.mem_of_getElem? (i := 169) rfl)) (hw _ (List.mem_of_getElem? (i := 168) rfl)) rfl (hw _ (List.mem_of_getElem? (i := 74) rfl)) (hw _ (List.mem_of_getElem? (i := 92) rfl)) (by decide) (by decide) (a := sb) Es (argsL := [(.ref sx)]) (rest := []) e0 (rm10 l Z a0 hw [] sb q kq cap xs sx tx kx ys w1 d1 d2 kd1 kd2 fm h0 n0 Z0 hz hkz TB gs gq Es Cs Vs Ns Aq hcap hcb Ex Cx Vx Ax hm2 hy) (g := (mkF m 2 #[.val (.ref sb), .val (.ref sx)] [(.ref sx), (.ref sb)])) rfl (by rw [hml]; rfl) (lenOf pd_10 rfl) rfl (W := 0) (by show 2 * 0 + _ ≤ _; exact Nat.le_of_eq rfl) (hb hby d9_2) (by decide) (by decide) (by decide) (by decide)
  have N171 := Fr.app N0 N171q
  refine own_by st171 ?_
  have Z171 : n0 ≤ T171.heap.size := Nat.le_trans Z0 Ke.1
  have K171c := K0.trans Ke (allS (Or.inl (List.mem_of_getElem? (i := 0) rfl)) (allS (Or.inl (List.mem_of_getElem? (i := 1) rfl)) all0))
  refine own_by (fun _ k => XS.pop X171.here hx rfl (hb hby d9_5) rfl rfl k) ?_
  refine own_by (fun _ k => XS.aloadN X171.here hx rfl (hb hby d9_6) rfl rfl k) ?_
  exact own_retA X171 hx hlk hret rfl rfl (hb hby d9_7) ⟨rfl, N171, q2, k2, K171c, gq2, Ee, Ce, Ve, Nx, Ae⟩ (by decide) (by decide)
def Q_rm23 (Z : State) (dn : Nat) (h0 : Heap) (n0 : Nat) (v : Option Value) (h : Heap) (L : List Loc) : Prop := v = some (.int (1 : Int32)) ∧ Fr n0 L ∧ h = h0
theorem pn_rm23 : plainFor (⟨"java/lang/Integer", "stringSize", "(I)I"⟩ : MethodName) = true := by first | exact plainFor_of_name (by first | (simp [plainName, overriddenIn, x]; done) | decide +kernel) | decide +kernel
theorem d23_0 : decode jdk_33_method_13_code 0 = .ok (.iconst 1, 1) := by decide +kernel
theorem d23_1 : decode jdk_33_method_13_code 1 = .ok (.istore_n 1, 1) := by decide +kernel
theorem d23_2 : decode jdk_33_method_13_code 2 = .ok (.iload_n 0, 1) := by decide +kernel
theorem d23_3 : decode jdk_33_method_13_code 3 = .ok (.ifCond .lt 8, 3) := by decide +kernel
theorem d23_6 : decode jdk_33_method_13_code 6 = .ok (.iconst 0, 1) := by decide +kernel
theorem d23_7 : decode jdk_33_method_13_code 7 = .ok (.istore_n 1, 1) := by decide +kernel
theorem d23_8 : decode jdk_33_method_13_code 8 = .ok (.iload_n 0, 1) := by decide +kernel
theorem d23_9 : decode jdk_33_method_13_code 9 = .ok (.ineg, 1) := by decide +kernel
theorem d23_10 : decode jdk_33_method_13_code 10 = .ok (.istore_n 0, 1) := by decide +kernel
theorem d23_11 : decode jdk_33_method_13_code 11 = .ok (.bipush (-10), 2) := by decide +kernel
theorem d23_13 : decode jdk_33_method_13_code 13 = .ok (.istore_n 2, 1) := by decide +kernel
theorem d23_14 : decode jdk_33_method_13_code 14 = .ok (.iconst 1, 1) := by decide +kernel
theorem d23_15 : decode jdk_33_method_13_code 15 = .ok (.istore_n 3, 1) := by decide +kernel
theorem d23_16 : decode jdk_33_method_13_code 16 = .ok (.iload_n 3, 1) := by decide +kernel
theorem d23_17 : decode jdk_33_method_13_code 17 = .ok (.bipush 10, 2) := by decide +kernel
theorem d23_19 : decode jdk_33_method_13_code 19 = .ok (.if_icmp .ge 23, 3) := by decide +kernel
theorem d23_22 : decode jdk_33_method_13_code 22 = .ok (.iload_n 0, 1) := by decide +kernel
theorem d23_23 : decode jdk_33_method_13_code 23 = .ok (.iload_n 2, 1) := by decide +kernel
theorem d23_24 : decode jdk_33_method_13_code 24 = .ok (.if_icmp .le 7, 3) := by decide +kernel
theorem d23_27 : decode jdk_33_method_13_code 27 = .ok (.iload_n 3, 1) := by decide +kernel
theorem d23_28 : decode jdk_33_method_13_code 28 = .ok (.iload_n 1, 1) := by decide +kernel
theorem d23_29 : decode jdk_33_method_13_code 29 = .ok (.iadd, 1) := by decide +kernel
theorem d23_30 : decode jdk_33_method_13_code 30 = .ok (.ireturn, 1) := by decide +kernel
set_option maxRecDepth 65536 in
set_option maxHeartbeats 40000000 in
theorem rm23 (l : Launch) (Z : State) (a0 : Array Value) (hw : ∀ d ∈ tables_1, d.before a0 Z = true) (ws : List Jvm.Cond) (dn : Nat) (h0 : Heap) (n0 : Nat) (Z0 : n0 ≤ h0.size) (hd : dn ≤ 9) :
    own_Met l Z (⟨"java/lang/Integer", "stringSize", "(I)I"⟩ : MethodName) jdk_33_method_13_code 4 (some .int) ws ({ frames := 0, cells := 0, slots := 0, locals := 0 } : Room) #[(.int (Int32.ofNat dn))] h0 (Q_rm23 Z dn h0 n0) := by
  refine own_enter (g0 := fun m => (mkF m 0 #[.val (.int (Int32.ofNat dn)), .unset, .unset, .unset] [])) pn_rm23 (fun m => by first | (simp [entryFrame, mkF, argsToLocals, Value.category, maxLocals]; done) | rfl) ?_
  intro p e s m below meth c s₁ hx hby hml hown hnm hret hlk hZ X0 e0
  have hml : c.maxLocals = 4 := hml
  have hown : s.vm.findClass "java/lang/Integer" = some m.cls := hown
  have N0 := Fr.nil n0
  refine own_by (fun _ k => XS.iconst X0.here hx rfl (hb hby d23_0) k) ?_
  refine own_by (fun _ k => XS.istoreN X0.here hx rfl (hb hby d23_1) rfl (l' := #[.val (.int (Int32.ofNat dn)), .val (.int (1 : Int32)), .unset, .unset]) rfl k) ?_
  refine own_by (fun _ k => XS.iloadN X0.here hx rfl (hb hby d23_2) rfl k) ?_
  refine own_by (fun _ k => XS.ifNo X0.here hx rfl (hb hby d23_3) rfl ((if0 _ _).trans (flt (own_nn (by omega) : ¬ ((Int32.ofNat dn) < (0 : Int32)))).1) k) ?_
  refine own_by (fun _ k => XS.iconst X0.here hx rfl (hb hby d23_6) k) ?_
  refine own_by (fun _ k => XS.istoreN X0.here hx rfl (hb hby d23_7) rfl (l' := #[.val (.int (Int32.ofNat dn)), .val (.int (0 : Int32)), .unset, .unset]) rfl k) ?_
  refine own_by (fun _ k => XS.iloadN X0.here hx rfl (hb hby d23_8) rfl k) ?_
  refine own_by (fun _ k => XS.ineg X0.here hx rfl (hb hby d23_9) rfl k) ?_
  show own_Go p e below _ s₁ (mkF m 10 #[.val (.int (Int32.ofNat dn)), .val (.int (0 : Int32)), .unset, .unset] [(.int (-(Int32.ofNat dn)))])
  refine own_by (fun _ k => XS.istoreN X0.here hx rfl (hb hby d23_10) rfl (l' := #[.val (.int (-(Int32.ofNat dn))), .val (.int (0 : Int32)), .unset, .unset]) rfl k) ?_
  refine own_by (fun _ k => XS.bipush X0.here hx rfl (hb hby d23_11) k) ?_
  refine own_by (fun _ k => XS.istoreN X0.here hx rfl (hb hby d23_13) rfl (l' := #[.val (.int (-(Int32.ofNat dn))), .val (.int (0 : Int32)), .val (.int (-10 : Int32)), .unset]) rfl k) ?_
  refine own_by (fun _ k => XS.iconst X0.here hx rfl (hb hby d23_14) k) ?_
  refine own_by (fun _ k => XS.istoreN X0.here hx rfl (hb hby d23_15) rfl (l' := #[.val (.int (-(Int32.ofNat dn))), .val (.int (0 : Int32)), .val (.int (-10 : Int32)), .val (.int (1 : Int32))]) rfl k) ?_
  refine own_by (fun _ k => XS.iloadN X0.here hx rfl (hb hby d23_16) rfl k) ?_
  refine own_by (fun _ k => XS.bipush X0.here hx rfl (hb hby d23_17) k) ?_
  refine own_by (fun _ k => XS.icmpNo X0.here hx rfl (hb hby d23_19) rfl (tlt (by decide : (1 : Int32) < (10 : Int32))).2.1 k) ?_
  refine own_by (fun _ k => XS.iloadN X0.here hx rfl (hb hby d23_22) rfl k) ?_
  show own_Go p e below _ s₁ (mkF m 23 #[.val (.int (-(Int32.ofNat dn))), .val (.int (0 : Int32)), .val (.int (-10 : Int32)), .val (.int (1 : Int32))] [(.int (-(Int32.ofNat dn)))])
  refine own_by (fun _ k => XS.iloadN X0.here hx rfl (hb hby d23_23) rfl k) ?_
  refine own_by (fun _ k => XS.icmpNo X0.here hx rfl (hb hby d23_24) rfl (tlt (by rw [Int32.lt_iff_toInt_lt, own_negN (by omega)]; show (-10 : Int) < _; omega : (-10 : Int32) < (-(Int32.ofNat dn)))).2.2.2 k) ?_
  refine own_by (fun _ k => XS.iloadN X0.here hx rfl (hb hby d23_27) rfl k) ?_
  refine own_by (fun _ k => XS.iloadN X0.here hx rfl (hb hby d23_28) rfl k) ?_
  refine own_by (fun _ k => XS.iadd X0.here hx rfl (hb hby d23_29) rfl k) ?_
  show own_Go p e below _ s₁ (mkF m 30 #[.val (.int (-(Int32.ofNat dn))), .val (.int (0 : Int32)), .val (.int (-10 : Int32)), .val (.int (1 : Int32))] [(.int ((1 : Int32) + (0 : Int32)))])
  rw [show ((1 : Int32) + (0 : Int32)) = (1 : Int32) from by decide]
  exact own_retI X0 hx hlk hret  (hb hby d23_30) (by first | exact ⟨rfl, N0, rfl⟩ | (rw [e0]; exact ⟨rfl, N0, rfl⟩)) (by decide) (by decide)
def Q_rm24 (Z : State) (sb q : Addr) (kq : ClassId) (cap : Nat) (xs : List Int32) (w1 : Int32) (d1 d2 : Addr) (kd1 kd2 : ClassId) (fm : Value) (h0 : Heap) (n0 : Nat) (v : Option Value) (h : Heap) (L : List Loc) : Prop := v = some (.int (1 : Int32)) ∧ Fr n0 L ∧ h = h0
theorem pn_rm24 : plainFor (⟨"java/lang/AbstractStringBuilder", "isLatin1", "()Z"⟩ : MethodName) = true := by first | exact plainFor_of_name (by first | (simp [plainName, overriddenIn, x]; done) | decide +kernel) | decide +kernel
theorem d24_0 : decode jdk_68_method_68_code 0 = .ok (.getstatic 18, 3) := by decide +kernel
theorem d24_3 : decode jdk_68_method_68_code 3 = .ok (.ifCond .eq 14, 3) := by decide +kernel
theorem d24_6 : decode jdk_68_method_68_code 6 = .ok (.aload_n 0, 1) := by decide +kernel
theorem d24_7 : decode jdk_68_method_68_code 7 = .ok (.getfield 22, 3) := by decide +kernel
theorem d24_10 : decode jdk_68_method_68_code 10 = .ok (.ifCond .ne 7, 3) := by decide +kernel
theorem d24_13 : decode jdk_68_method_68_code 13 = .ok (.iconst 1, 1) := by decide +kernel
theorem d24_14 : decode jdk_68_method_68_code 14 = .ok (.goto 4, 3) := by decide +kernel
theorem d24_18 : decode jdk_68_method_68_code 18 = .ok (.ireturn, 1) := by decide +kernel
set_option maxRecDepth 65536 in
set_option maxHeartbeats 40000000 in
theorem rm24 (l : Launch) (Z : State) (a0 : Array Value) (hw : ∀ d ∈ tables_1, d.before a0 Z = true) (ws : List Jvm.Cond) (sb q : Addr) (kq : ClassId) (cap : Nat) (xs : List Int32) (w1 : Int32) (d1 d2 : Addr) (kd1 kd2 : ClassId) (fm : Value) (h0 : Heap) (n0 : Nat) (Z0 : n0 ≤ h0.size) (hz : Z.heap.size ≤ n0) (hkz : own_K Z h0) (TB : own_Tb Z w1 d1 d2 kd1 kd2 fm) (gs : n0 ≤ sb) (gq : n0 ≤ q) (Es : Exa Z h0 sb "java/lang/StringBuilder") (Cs : Fld Z h0 sb "java/lang/AbstractStringBuilder" "coder" "B" (.int (0 : Int32))) (Vs : Fld Z h0 sb "java/lang/AbstractStringBuilder" "value" "[B" (.ref q)) (Ns : Fld Z h0 sb "java/lang/AbstractStringBuilder" "count" "I" (.int (Int32.ofNat xs.length))) (Aq : Arv Z h0 q kq .byte (Int32.ofNat cap) ((own_pad cap xs).map Value.int) (.int 0)) (hcap : xs.length ≤ cap) (hcb : cap ≤ 200) :
    own_Met l Z (⟨"java/lang/AbstractStringBuilder", "isLatin1", "()Z"⟩ : MethodName) jdk_68_method_68_code 1 (some .boolean) ws ({ frames := 0, cells := 0, slots := 0, locals := 0 } : Room) #[(.ref sb)] h0 (Q_rm24 Z sb q kq cap xs w1 d1 d2 kd1 kd2 fm h0 n0) := by
  refine own_enter (g0 := fun m => (mkF m 0 #[.val (.ref sb)] [])) pn_rm24 (fun m => by first | (simp [entryFrame, mkF, argsToLocals, Value.category, maxLocals]; done) | rfl) ?_
  intro p e s m below meth c s₁ hx hby hml hown hnm hret hlk hZ X0 e0
  have hml : c.maxLocals = 1 := hml
  have hown : s.vm.findClass "java/lang/AbstractStringBuilder" = some m.cls := hown
  have N0 := Fr.nil n0
  have nsq : sb ≠ q := Exa.neArv Es Aq (hw _ (List.mem_of_getElem? (i := 65) rfl))
  have K0 := Keep.refl h0 [sb, q]
  have SC172 := (own_staZ TB.1 hkz)
  obtain ⟨T173, X173, e173, st173⟩ := getS2 X0 hx hZ hown (host := "") (Or.inl (hw _ (List.mem_of_getElem? (i := 77) rfl))) Via.refl e0 SC172 (g := (mkF m 0 #[.val (.ref sb)] [])) rfl (hb hby d24_0)
  refine own_by st173 ?_
  refine own_by (fun _ k => XS.ifNo X173.here hx rfl (hb hby d24_3) rfl ((if0 _ _).trans (feq (TB.2.1 : ¬ (w1 = (0 : Int32)))).1) k) ?_
  refine own_by (fun _ k => XS.aloadN X173.here hx rfl (hb hby d24_6) rfl rfl k) ?_
  obtain ⟨T174, X174, e174, st174⟩ := getF X173 hx hZ hown (host := "") (Or.inl (hw _ (List.mem_of_getElem? (i := 80) rfl))) Via.refl e173 Cs (g := (mkF m 7 #[.val (.ref sb)] [(.ref sb)])) rfl rfl (hb hby d24_7)
  refine own_by st174 ?_
  refine own_by (fun _ k => XS.ifNo X174.here hx rfl (hb hby d24_10) rfl ((if0 _ _).trans (teq (rfl : (0 : Int32) = (0 : Int32))).2) k) ?_
  refine own_by (fun _ k => XS.iconst X174.here hx rfl (hb hby d24_13) k) ?_
  refine own_by (fun _ k => XS.goto X174.here hx rfl (pc0 := 14) (pc' := 18) rfl (hb hby d24_14) (by decide) (by decide) k) ?_
  exact own_retN X174 hx hlk hret (by simp) rfl (hb hby d24_18) (by first | exact ⟨rfl, N0, rfl⟩ | (rw [e174]; exact ⟨rfl, N0, rfl⟩)) (by decide) (by decide)
def Q_rm25 (Z : State) (q : Addr) (kq : ClassId) (cap : Nat) (xs : List Int32) (dn : Nat) (w1 : Int32) (d1 d2 : Addr) (kd1 kd2 : ClassId) (fm : Value) (h0 : Heap) (n0 : Nat) (v : Option Value) (h : Heap) (L : List Loc) : Prop := v = some (.int (Int32.ofNat xs.length)) ∧ Fr n0 L ∧ Keep h0 h [q] ∧ Arv Z h q kq .byte (Int32.ofNat cap) ((own_pad cap (xs ++ [(Int32.ofNat (48 + dn))])).map Value.int) (.int 0)
theorem pn_rm25 : plainFor (⟨"java/lang/Integer", "getChars", "(II[B)I"⟩ : MethodName) = true := by first | exact plainFor_of_name (by first | (simp [plainName, overriddenIn, x]; done) | decide +kernel) | decide +kernel
theorem d25_0 : decode jdk_33_method_12_code 0 = .ok (.iload_n 1, 1) := by decide +kernel
theorem d25_1 : decode jdk_33_method_12_code 1 = .ok (.istore 5, 2) := by decide +kernel
theorem d25_3 : decode jdk_33_method_12_code 3 = .ok (.iload_n 0, 1) := by decide +kernel
theorem d25_4 : decode jdk_33_method_12_code 4 = .ok (.ifCond .ge 7, 3) := by decide +kernel
theorem d25_11 : decode jdk_33_method_12_code 11 = .ok (.iconst 0, 1) := by decide +kernel
theorem d25_12 : decode jdk_33_method_12_code 12 = .ok (.istore 6, 2) := by decide +kernel
theorem d25_14 : decode jdk_33_method_12_code 14 = .ok (.iload 6, 2) := by decide +kernel
theorem d25_16 : decode jdk_33_method_12_code 16 = .ok (.ifCond .ne 6, 3) := by decide +kernel
theorem d25_19 : decode jdk_33_method_12_code 19 = .ok (.iload_n 0, 1) := by decide +kernel
theorem d25_20 : decode jdk_33_method_12_code 20 = .ok (.ineg, 1) := by decide +kernel
theorem d25_21 : decode jdk_33_method_12_code 21 = .ok (.istore_n 0, 1) := by decide +kernel
theorem d25_22 : decode jdk_33_method_12_code 22 = .ok (.iload_n 0, 1) := by decide +kernel
theorem d25_23 : decode jdk_33_method_12_code 23 = .ok (.bipush (-100), 2) := by decide +kernel
theorem d25_25 : decode jdk_33_method_12_code 25 = .ok (.if_icmp .gt 47, 3) := by decide +kernel
theorem d25_72 : decode jdk_33_method_12_code 72 = .ok (.aload_n 2, 1) := by decide +kernel
theorem d25_73 : decode jdk_33_method_12_code 73 = .ok (.iinc 5 (-1), 3) := by decide +kernel
theorem d25_76 : decode jdk_33_method_12_code 76 = .ok (.iload 5, 2) := by decide +kernel
theorem d25_78 : decode jdk_33_method_12_code 78 = .ok (.getstatic 83, 3) := by decide +kernel
theorem d25_81 : decode jdk_33_method_12_code 81 = .ok (.iload_n 0, 1) := by decide +kernel
theorem d25_82 : decode jdk_33_method_12_code 82 = .ok (.ineg, 1) := by decide +kernel
theorem d25_83 : decode jdk_33_method_12_code 83 = .ok (.baload, 1) := by decide +kernel
theorem d25_84 : decode jdk_33_method_12_code 84 = .ok (.bastore, 1) := by decide +kernel
theorem d25_85 : decode jdk_33_method_12_code 85 = .ok (.iload_n 0, 1) := by decide +kernel
theorem d25_86 : decode jdk_33_method_12_code 86 = .ok (.bipush (-9), 2) := by decide +kernel
theorem d25_88 : decode jdk_33_method_12_code 88 = .ok (.if_icmp .ge 16, 3) := by decide +kernel
theorem d25_104 : decode jdk_33_method_12_code 104 = .ok (.iload 6, 2) := by decide +kernel
theorem d25_106 : decode jdk_33_method_12_code 106 = .ok (.ifCond .eq 12, 3) := by decide +kernel
theorem d25_118 : decode jdk_33_method_12_code 118 = .ok (.iload 5, 2) := by decide +kernel
theorem d25_120 : decode jdk_33_method_12_code 120 = .ok (.ireturn, 1) := by decide +kernel
set_option maxRecDepth 65536 in
set_option maxHeartbeats 40000000 in
theorem rm25 (l : Launch) (Z : State) (a0 : Array Value) (hw : ∀ d ∈ tables_1, d.before a0 Z = true) (ws : List Jvm.Cond) (q : Addr) (kq : ClassId) (cap : Nat) (xs : List Int32) (dn : Nat) (w1 : Int32) (d1 d2 : Addr) (kd1 kd2 : ClassId) (fm : Value) (h0 : Heap) (n0 : Nat) (Z0 : n0 ≤ h0.size) (hz : Z.heap.size ≤ n0) (hkz : own_K Z h0) (TB : own_Tb Z w1 d1 d2 kd1 kd2 fm) (gq : n0 ≤ q) (Aq : Arv Z h0 q kq .byte (Int32.ofNat cap) ((own_pad cap xs).map Value.int) (.int 0)) (hl : xs.length + 1 ≤ cap) (hcb : cap ≤ 200) (hd : dn ≤ 9) :
    own_Met l Z (⟨"java/lang/Integer", "getChars", "(II[B)I"⟩ : MethodName) jdk_33_method_12_code 7 (some .int) ws ({ frames := 0, cells := 0, slots := 0, locals := 0 } : Room) #[(.int (Int32.ofNat dn)), (.int (Int32.ofNat (xs.length + 1))), (.ref q)] h0 (Q_rm25 Z q kq cap xs dn w1 d1 d2 kd1 kd2 fm h0 n0) := by
  refine own_enter (g0 := fun m => (mkF m 0 #[.val (.int (Int32.ofNat dn)), .val (.int (Int32.ofNat (xs.length + 1))), .val (.ref q), .unset, .unset, .unset, .unset] [])) pn_rm25 (fun m => by first | (simp [entryFrame, mkF, argsToLocals, Value.category, maxLocals]; done) | rfl) ?_
  intro p e s m below meth c s₁ hx hby hml hown hnm hret hlk hZ X0 e0
  have hml : c.maxLocals = 7 := hml
  have hown : s.vm.findClass "java/lang/Integer" = some m.cls := hown
  have N0 := Fr.nil n0
  have K0 := Keep.refl h0 [q]
  refine own_by (fun _ k => XS.iloadN X0.here hx rfl (hb hby d25_0) rfl k) ?_
  refine own_by (fun _ k => XS.istore X0.here hx rfl (hb hby d25_1) rfl (l' := #[.val (.int (Int32.ofNat dn)), .val (.int (Int32.ofNat (xs.length + 1))), .val (.ref q), .unset, .unset, .val (.int (Int32.ofNat (xs.length + 1))), .unset]) rfl k) ?_
  refine own_by (fun _ k => XS.iloadN X0.here hx rfl (hb hby d25_3) rfl k) ?_
  refine own_by (fun _ k => XS.ifYes X0.here hx rfl (pc0 := 4) (pc' := 11) rfl (hb hby d25_4) rfl ((if0 _ _).trans (flt (own_nn (by omega) : ¬ ((Int32.ofNat dn) < (0 : Int32)))).2.1) (by decide) (by decide) k) ?_
  refine own_by (fun _ k => XS.iconst X0.here hx rfl (hb hby d25_11) k) ?_
  refine own_by (fun _ k => XS.istore X0.here hx rfl (hb hby d25_12) rfl (l' := #[.val (.int (Int32.ofNat dn)), .val (.int (Int32.ofNat (xs.length + 1))), .val (.ref q), .unset, .unset, .val (.int (Int32.ofNat (xs.length + 1))), .val (.int (0 : Int32))]) rfl k) ?_
  refine own_by (fun _ k => XS.iload X0.here hx rfl (hb hby d25_14) rfl k) ?_
  refine own_by (fun _ k => XS.ifNo X0.here hx rfl (hb hby d25_16) rfl ((if0 _ _).trans (teq (rfl : (0 : Int32) = (0 : Int32))).2) k) ?_
  show own_Go p e below _ s₁ (mkF m 19 #[.val (.int (Int32.ofNat dn)), .val (.int (Int32.ofNat (xs.length + 1))), .val (.ref q), .unset, .unset, .val (.int (Int32.ofNat (xs.length + 1))), .val (.int (0 : Int32))] [])
  refine own_by (fun _ k => XS.iloadN X0.here hx rfl (hb hby d25_19) rfl k) ?_
  refine own_by (fun _ k => XS.ineg X0.here hx rfl (hb hby d25_20) rfl k) ?_
  refine own_by (fun _ k => XS.istoreN X0.here hx rfl (hb hby d25_21) rfl (l' := #[.val (.int (-(Int32.ofNat dn))), .val (.int (Int32.ofNat (xs.length + 1))), .val (.ref q), .unset, .unset, .val (.int (Int32.ofNat (xs.length + 1))), .val (.int (0 : Int32))]) rfl k) ?_
  refine own_by (fun _ k => XS.iloadN X0.here hx rfl (hb hby d25_22) rfl k) ?_
  refine own_by (fun _ k => XS.bipush X0.here hx rfl (hb hby d25_23) k) ?_
  refine own_by (fun _ k => XS.icmpYes X0.here hx rfl (pc0 := 25) (pc' := 72) rfl (hb hby d25_25) rfl (tlt (by rw [Int32.lt_iff_toInt_lt, own_negN (by omega)]; show (-100 : Int) < _; omega : (-100 : Int32) < (-(Int32.ofNat dn)))).2.2.1 (by decide) (by decide) k) ?_
  refine own_by (fun _ k => XS.aloadN X0.here hx rfl (hb hby d25_72) rfl rfl k) ?_
  refine own_by (fun _ k => XS.iinc X0.here hx rfl (hb hby d25_73) rfl (l' := #[.val (.int (-(Int32.ofNat dn))), .val (.int (Int32.ofNat (xs.length + 1))), .val (.ref q), .unset, .unset, .val (.int ((Int32.ofNat (xs.length + 1)) + (-1 : Int32))), .val (.int (0 : Int32))]) rfl k) ?_
  show own_Go p e below _ s₁ (mkF m 76 #[.val (.int (-(Int32.ofNat dn))), .val (.int (Int32.ofNat (xs.length + 1))), .val (.ref q), .unset, .unset, .val (.int ((Int32.ofNat (xs.length + 1)) + (-1 : Int32))), .val (.int (0 : Int32))] [(.ref q)])
  rw [show Int32.ofNat (xs.length + 1) + (-1 : Int32) = Int32.ofNat xs.length from own_dec' (by omega) (by omega) (by omega)]
  show own_Go p e below _ s₁ (mkF m 76 #[.val (.int (-(Int32.ofNat dn))), .val (.int (Int32.ofNat (xs.length + 1))), .val (.ref q), .unset, .unset, .val (.int (Int32.ofNat xs.length)), .val (.int (0 : Int32))] [(.ref q)])
  refine own_by (fun _ k => XS.iload X0.here hx rfl (hb hby d25_76) rfl k) ?_
  have SD175 := (own_staZ TB.2.2.1 hkz)
  obtain ⟨T176, X176, e176, st176⟩ := getS2 X0 hx hZ hown (host := "") (Or.inl (hw _ (List.mem_of_getElem? (i := 174) rfl))) Via.refl e0 SD175 (g := (mkF m 78 #[.val (.int (-(Int32.ofNat dn))), .val (.int (Int32.ofNat (xs.length + 1))), .val (.ref q), .unset, .unset, .val (.int (Int32.ofNat xs.length)), .val (.int (0 : Int32))] [(.int (Int32.ofNat xs.length)), (.ref q)])) rfl (hb hby d25_78)
  refine own_by st176 ?_
  have AD175 := own_arvZ TB.2.2.2.2.1 hkz
  refine own_by (fun _ k => XS.iloadN X176.here hx rfl (hb hby d25_81) rfl k) ?_
  refine own_by (fun _ k => XS.ineg X176.here hx rfl (hb hby d25_82) rfl k) ?_
  show own_Go p e below _ T176 (mkF m 83 #[.val (.int (-(Int32.ofNat dn))), .val (.int (Int32.ofNat (xs.length + 1))), .val (.ref q), .unset, .unset, .val (.int (Int32.ofNat xs.length)), .val (.int (0 : Int32))] [(.int (-(-(Int32.ofNat dn)))), (.ref d1), (.int (Int32.ofNat xs.length)), (.ref q)])
  rw [show (-(-(Int32.ofNat dn))) = (Int32.ofNat dn) from Int32.neg_neg]
  obtain ⟨cl177, Ar177, cq177, hin177, hat177, set177⟩ := own_arv AD175 (j := (Int32.ofNat dn)) (own_inb (by decide) (show dn < own_ones.length by show dn < 100; omega))
  refine own_by (fun _ k => X176.baloadBytes hx (j := (Int32.ofNat dn)) (v := (.int (own_ones.getD dn 0))) (by rw [e176]; exact Ar177.1) (State.isArrayOf_alike hZ.alike Ar177.2.1) Ar177.2.2 hin177 (by rw [hat177]; exact congrArg some (own_gd own_ones (by omega))) (g := (mkF m 83 #[.val (.int (-(Int32.ofNat dn))), .val (.int (Int32.ofNat (xs.length + 1))), .val (.ref q), .unset, .unset, .val (.int (Int32.ofNat xs.length)), .val (.int (0 : Int32))] [(.int (Int32.ofNat dn)), (.ref d1), (.int (Int32.ofNat xs.length)), (.ref q)])) rfl rfl (hb hby d25_83) _ k) ?_
  obtain ⟨cl178, Ar178, cq178, hin178, hat178, set178⟩ := own_arv Aq (j := (Int32.ofNat xs.length)) (own_inb (by omega) (by omega))
  obtain ⟨T179, h179, X179, e179, W179, st179⟩ := stB X176 hx hZ e176 Ar178 (j := (Int32.ofNat xs.length)) hin178 (g := (mkF m 84 #[.val (.int (-(Int32.ofNat dn))), .val (.int (Int32.ofNat (xs.length + 1))), .val (.ref q), .unset, .unset, .val (.int (Int32.ofNat xs.length)), .val (.int (0 : Int32))] [(.int (own_ones.getD dn 0)), (.int (Int32.ofNat xs.length)), (.ref q)])) rfl rfl (hb hby d25_84)
  have wq179 : nar .byte (own_ones.getD dn 0) = (Int32.ofNat (48 + dn)) := (by rw [own_og (by omega), show 48 + dn % 10 = 48 + dn by omega]; exact own_bs (by omega))
  rw [wq179] at W179
  have wf179 : fits .byte (.int (Int32.ofNat (48 + dn))) = true := wq179 ▸ (fits_nar_byte _)
  have V179 : Arv Z h179 q kq .byte (Int32.ofNat cap) ((own_pad cap (xs ++ [(Int32.ofNat (48 + dn))])).map Value.int) (.int (0 : Int32)) := (by have q := set178 wf179 W179 xs.length (own_tn (show xs.length ≤ 100000 by omega)) (by rw [List.length_map]; first | (rw [own_putl, own_padl (by omega)]; omega) | (rw [own_padl (by omega)]; omega)); rw [own_mset, own_pad1 _ (by omega)] at q; exact q)
  have N179 := Fr.snoc X179 N0 gq
  have K180 := K0.wr W179 (Or.inl (List.mem_of_getElem? (i := 0) rfl))
  have Z179 : n0 ≤ h179.size := Nat.le_trans Z0 (Keep.of_wr W179).1
  refine own_by st179 ?_
  refine own_by (fun _ k => XS.iloadN X179.here hx rfl (hb hby d25_85) rfl k) ?_
  refine own_by (fun _ k => XS.bipush X179.here hx rfl (hb hby d25_86) k) ?_
  refine own_by (fun _ k => XS.icmpYes X179.here hx rfl (pc0 := 88) (pc' := 104) rfl (hb hby d25_88) rfl (flt (by rw [Int32.lt_iff_toInt_lt, own_negN (by omega)]; show ¬ _ < (-9 : Int); omega : ¬ ((-(Int32.ofNat dn)) < (-9 : Int32)))).2.1 (by decide) (by decide) k) ?_
  refine own_by (fun _ k => XS.iload X179.here hx rfl (hb hby d25_104) rfl k) ?_
  refine own_by (fun _ k => XS.ifYes X179.here hx rfl (pc0 := 106) (pc' := 118) rfl (hb hby d25_106) rfl ((if0 _ _).trans (teq (rfl : (0 : Int32) = (0 : Int32))).1) (by decide) (by decide) k) ?_
  refine own_by (fun _ k => XS.iload X179.here hx rfl (hb hby d25_118) rfl k) ?_
  show own_Go p e below _ T179 (mkF m 120 #[.val (.int (-(Int32.ofNat dn))), .val (.int (Int32.ofNat (xs.length + 1))), .val (.ref q), .unset, .unset, .val (.int (Int32.ofNat xs.length)), .val (.int (0 : Int32))] [(.int (Int32.ofNat xs.length))])
  exact own_retI X179 hx hlk hret  (hb hby d25_120) (by first | exact ⟨rfl, N179, K180, V179⟩ | (rw [e179]; exact ⟨rfl, N179, K180, V179⟩)) (by decide) (by decide)
def Q_rm22 (Z : State) (sb q : Addr) (kq : ClassId) (cap : Nat) (xs : List Int32) (dn : Nat) (w1 : Int32) (d1 d2 : Addr) (kd1 kd2 : ClassId) (fm : Value) (h0 : Heap) (n0 : Nat) (v : Option Value) (h : Heap) (L : List Loc) : Prop := v = some (.ref sb) ∧ Fr n0 L ∧ ∃ (q2 : Addr) (k2 : ClassId), Keep h0 h [sb, q] ∧ n0 ≤ q2 ∧ Exa Z h sb "java/lang/StringBuilder" ∧ Fld Z h sb "java/lang/AbstractStringBuilder" "coder" "B" (.int (0 : Int32)) ∧ Fld Z h sb "java/lang/AbstractStringBuilder" "value" "[B" (.ref q2) ∧ Fld Z h sb "java/lang/AbstractStringBuilder" "count" "I" (.int (Int32.ofNat (xs ++ [(Int32.ofNat (48 + dn))]).length)) ∧ Arv Z h q2 k2 .byte (Int32.ofNat (own_cpn cap (xs.length + 1))) ((own_pad (own_cpn cap (xs.length + 1)) (xs ++ [(Int32.ofNat (48 + dn))])).map Value.int) (.int 0)
theorem pn_rm22 : plainFor (⟨"java/lang/AbstractStringBuilder", "append", "(I)Ljava/lang/AbstractStringBuilder;"⟩ : MethodName) = true := by first | exact plainFor_of_name (by first | (simp [plainName, overriddenIn, x]; done) | decide +kernel) | decide +kernel
theorem d22_0 : decode jdk_68_method_32_code 0 = .ok (.aload_n 0, 1) := by decide +kernel
theorem d22_1 : decode jdk_68_method_32_code 1 = .ok (.getfield 79, 3) := by decide +kernel
theorem d22_4 : decode jdk_68_method_32_code 4 = .ok (.istore_n 2, 1) := by decide +kernel
theorem d22_5 : decode jdk_68_method_32_code 5 = .ok (.iload_n 2, 1) := by decide +kernel
theorem d22_6 : decode jdk_68_method_32_code 6 = .ok (.iload_n 1, 1) := by decide +kernel
theorem d22_7 : decode jdk_68_method_32_code 7 = .ok (.invokestatic 245, 3) := by decide +kernel
theorem d22_10 : decode jdk_68_method_32_code 10 = .ok (.iadd, 1) := by decide +kernel
theorem d22_11 : decode jdk_68_method_32_code 11 = .ok (.istore_n 3, 1) := by decide +kernel
theorem d22_12 : decode jdk_68_method_32_code 12 = .ok (.aload_n 0, 1) := by decide +kernel
theorem d22_13 : decode jdk_68_method_32_code 13 = .ok (.iload_n 3, 1) := by decide +kernel
theorem d22_14 : decode jdk_68_method_32_code 14 = .ok (.invokevirtual 100, 3) := by decide +kernel
theorem d22_17 : decode jdk_68_method_32_code 17 = .ok (.aload_n 0, 1) := by decide +kernel
theorem pd_11 : parseMethodDescriptor "()Z" = some ⟨[], some .boolean⟩ := by decide +kernel
theorem d22_18 : decode jdk_68_method_32_code 18 = .ok (.invokevirtual 83, 3) := by decide +kernel
theorem d22_21 : decode jdk_68_method_32_code 21 = .ok (.ifCond .eq 16, 3) := by decide +kernel
theorem d22_24 : decode jdk_68_method_32_code 24 = .ok (.iload_n 1, 1) := by decide +kernel
theorem d22_25 : decode jdk_68_method_32_code 25 = .ok (.iload_n 3, 1) := by decide +kernel
theorem d22_26 : decode jdk_68_method_32_code 26 = .ok (.aload_n 0, 1) := by decide +kernel
theorem d22_27 : decode jdk_68_method_32_code 27 = .ok (.getfield 15, 3) := by decide +kernel
theorem pd_12 : parseMethodDescriptor "(II[B)I" = some ⟨[.int, .int, (.array .byte)], some .int⟩ := by decide +kernel
theorem d22_30 : decode jdk_68_method_32_code 30 = .ok (.invokestatic 248, 3) := by decide +kernel
theorem d22_33 : decode jdk_68_method_32_code 33 = .ok (.pop, 1) := by decide +kernel
theorem d22_34 : decode jdk_68_method_32_code 34 = .ok (.goto 14, 3) := by decide +kernel
theorem d22_48 : decode jdk_68_method_32_code 48 = .ok (.aload_n 0, 1) := by decide +kernel
theorem d22_49 : decode jdk_68_method_32_code 49 = .ok (.iload_n 3, 1) := by decide +kernel
theorem d22_50 : decode jdk_68_method_32_code 50 = .ok (.putfield 79, 3) := by decide +kernel
theorem d22_53 : decode jdk_68_method_32_code 53 = .ok (.aload_n 0, 1) := by decide +kernel
theorem d22_54 : decode jdk_68_method_32_code 54 = .ok (.areturn, 1) := by decide +kernel
set_option maxRecDepth 65536 in
set_option maxHeartbeats 40000000 in
theorem rm22 (l : Launch) (Z : State) (a0 : Array Value) (hw : ∀ d ∈ tables_1, d.before a0 Z = true) (ws : List Jvm.Cond) (sb q : Addr) (kq : ClassId) (cap : Nat) (xs : List Int32) (dn : Nat) (w1 : Int32) (d1 d2 : Addr) (kd1 kd2 : ClassId) (fm : Value) (h0 : Heap) (n0 : Nat) (Z0 : n0 ≤ h0.size) (hz : Z.heap.size ≤ n0) (hkz : own_K Z h0) (TB : own_Tb Z w1 d1 d2 kd1 kd2 fm) (gs : n0 ≤ sb) (gq : n0 ≤ q) (Es : Exa Z h0 sb "java/lang/StringBuilder") (Cs : Fld Z h0 sb "java/lang/AbstractStringBuilder" "coder" "B" (.int (0 : Int32))) (Vs : Fld Z h0 sb "java/lang/AbstractStringBuilder" "value" "[B" (.ref q)) (Ns : Fld Z h0 sb "java/lang/AbstractStringBuilder" "count" "I" (.int (Int32.ofNat xs.length))) (Aq : Arv Z h0 q kq .byte (Int32.ofNat cap) ((own_pad cap xs).map Value.int) (.int 0)) (hcap : xs.length ≤ cap) (hcb : cap ≤ 200) (hd : dn ≤ 9) (hm2 : own_cpn cap (xs.length + 1) ≤ 200) :
    own_Met l Z (⟨"java/lang/AbstractStringBuilder", "append", "(I)Ljava/lang/AbstractStringBuilder;"⟩ : MethodName) jdk_68_method_32_code 4 (some (.object "java/lang/AbstractStringBuilder")) ws ({ frames := 4, cells := 1, slots := 200, locals := 72 } : Room) #[(.ref sb), (.int (Int32.ofNat dn))] h0 (Q_rm22 Z sb q kq cap xs dn w1 d1 d2 kd1 kd2 fm h0 n0) := by
  refine own_enter (g0 := fun m => (mkF m 0 #[.val (.ref sb), .val (.int (Int32.ofNat dn)), .unset, .unset] [])) pn_rm22 (fun m => by first | (simp [entryFrame, mkF, argsToLocals, Value.category, maxLocals]; done) | rfl) ?_
  intro p e s m below meth c s₁ hx hby hml hown hnm hret hlk hZ X0 e0
  have hml : c.maxLocals = 4 := hml
  have hown : s.vm.findClass "java/lang/AbstractStringBuilder" = some m.cls := hown
  have N0 := Fr.nil n0
  have nsq : sb ≠ q := Exa.neArv Es Aq (hw _ (List.mem_of_getElem? (i := 65) rfl))
  have K0 := Keep.refl h0 [sb, q]
  refine own_by (fun _ k => XS.aloadN X0.here hx rfl (hb hby d22_0) rfl rfl k) ?_
  obtain ⟨T181, X181, e181, st181⟩ := getF X0 hx hZ hown (host := "") (Or.inl (hw _ (List.mem_of_getElem? (i := 106) rfl))) Via.refl e0 Ns (g := (mkF m 1 #[.val (.ref sb), .val (.int (Int32.ofNat dn)), .unset, .unset] [(.ref sb)])) rfl rfl (hb hby d22_1)
  refine own_by st181 ?_
  refine own_by (fun _ k => XS.istoreN X181.here hx rfl (hb hby d22_4) rfl (l' := #[.val (.ref sb), .val (.int (Int32.ofNat dn)), .val (.int (Int32.ofNat xs.length)), .unset]) rfl k) ?_
  refine own_by (fun _ k => XS.iloadN X181.here hx rfl (hb hby d22_5) rfl k) ?_
  refine own_by (fun _ k => XS.iloadN X181.here hx rfl (hb hby d22_6) rfl k) ?_
  obtain ⟨_, T182, L182, X182, ⟨rfl, N182q, e182⟩, st182⟩ := own_callS X181 hx hZ hown (y := (⟨"java/lang/Integer", "stringSize", "(I)I"⟩ : MethodName)) (hw _ (List.mem_of_getElem? (i := 162) rfl)) (hw _ (List.mem_of_getElem? (i := 163) rfl)) (hw _ (List.mem_of_getElem? (i := 164) rfl)) (hw _ (List.mem_of_getElem? (i := 165) rfl)) (by decide) (argsL := [(.int (Int32.ofNat dn))]) (rest := [(.int (Int32.ofNat xs.length))]) e181 (rm23 l Z a0 hw [] dn h0 n0 Z0 hd) (g := (mkF m 7 #[.val (.ref sb), .val (.int (Int32.ofNat dn)), .val (.int (Int32.ofNat xs.length)), .unset] [(.int (Int32.ofNat dn)), (.int (Int32.ofNat xs.length))])) rfl (by rw [hml]; rfl) (lenOf pd_2 rfl) rfl (W := 1) (by show 2 * 0 + _ ≤ _; exact Nat.le_of_eq rfl) (hb hby d22_7) (by decide) (by decide) (by decide) (by decide)
  have N182 := Fr.app N0 N182q
  refine own_by st182 ?_
  refine own_by (fun _ k => XS.iadd X182.here hx rfl (hb hby d22_10) rfl k) ?_
  show own_Go p e below _ T182 (mkF m 11 #[.val (.ref sb), .val (.int (Int32.ofNat dn)), .val (.int (Int32.ofNat xs.length)), .unset] [(.int ((Int32.ofNat xs.length) + (1 : Int32)))])
  rw [show ((Int32.ofNat xs.length) + (1 : Int32)) = (Int32.ofNat (xs.length + 1)) from own_add (b := 1) (by omega) (by omega)]
  refine own_by (fun _ k => XS.istoreN X182.here hx rfl (hb hby d22_11) rfl (l' := #[.val (.ref sb), .val (.int (Int32.ofNat dn)), .val (.int (Int32.ofNat xs.length)), .val (.int (Int32.ofNat (xs.length + 1)))]) rfl k) ?_
  refine own_by (fun _ k => XS.aloadN X182.here hx rfl (hb hby d22_12) rfl rfl k) ?_
  refine own_by (fun _ k => XS.iloadN X182.here hx rfl (hb hby d22_13) rfl k) ?_
  obtain ⟨_, T183, L183, X183, ⟨rfl, N183q, q2, k2, hq2, Ke, gq2, Ee, Ce, Ve, Nx, Ae⟩, st183⟩ := own_callV2 X182 hx hZ hown (y := (⟨"java/lang/AbstractStringBuilder", "ensureCapacityInternal", "(I)V"⟩ : MethodName)) (z := (⟨"java/lang/AbstractStringBuilder", "ensureCapacityInternal", "(I)V"⟩ : MethodName)) (y' := (⟨"java/lang/AbstractStringBuilder", "isLatin1", "()Z"⟩ : MethodName)) (C := "java/lang/StringBuilder") (hw _ (List.mem_of_getElem? (i := 108) rfl)) (own_decl (hw _ (List.mem_of_getElem? (i := 109) rfl)) (hw _ (List.mem_of_getElem? (i := 112) rfl))) (hw _ (List.mem_of_getElem? (i := 111) rfl)) (hw _ (List.mem_of_getElem? (i := 169) rfl)) (hw _ (List.mem_of_getElem? (i := 168) rfl)) rfl (hw _ (List.mem_of_getElem? (i := 109) rfl)) (hw _ (List.mem_of_getElem? (i := 74) rfl)) (hw _ (List.mem_of_getElem? (i := 112) rfl)) (by decide) (a := sb) Es (argsL := [(.int (Int32.ofNat (xs.length + 1)))]) (rest := []) e182 (rm13 l Z a0 hw [] sb q kq cap xs (xs.length + 1) h0 n0 Z0 gs gq Es Cs Vs Ns Aq hcap hcb (by omega) hm2) (g := (mkF m 14 #[.val (.ref sb), .val (.int (Int32.ofNat dn)), .val (.int (Int32.ofNat xs.length)), .val (.int (Int32.ofNat (xs.length + 1)))] [(.int (Int32.ofNat (xs.length + 1))), (.ref sb)])) rfl (by rw [hml]; rfl) (lenOf pd_8 rfl) rfl (W := 0) (by show 2 * 0 + _ ≤ _; exact Nat.le_of_eq rfl) (hb hby d22_14) (by decide) (by decide) (by decide) (by decide)
  have N183 := Fr.app N182 N183q
  refine own_by st183 ?_
  have Z183 : n0 ≤ T183.heap.size := Nat.le_trans Z0 Ke.1
  have K183c := K0.trans Ke (allS (Or.inl (List.mem_of_getElem? (i := 0) rfl)) all0)
  have nsq2 : sb ≠ q2 := Exa.neArv Ee Ae (hw _ (List.mem_of_getElem? (i := 65) rfl))
  refine own_by (fun _ k => XS.aloadN X183.here hx rfl (hb hby d22_17) rfl rfl k) ?_
  have hl := own_cpge cap (xs.length + 1)
  have hk184 : own_K Z T183.heap := own_KW hkz K183c (allS (Nat.le_trans hz gs) (allS (Nat.le_trans hz gq) all0))
  obtain ⟨_, T185, L185, X185, ⟨rfl, N185q, e185⟩, st185⟩ := own_callV2 X183 hx hZ hown (y := (⟨"java/lang/AbstractStringBuilder", "isLatin1", "()Z"⟩ : MethodName)) (z := (⟨"java/lang/AbstractStringBuilder", "isLatin1", "()Z"⟩ : MethodName)) (y' := (⟨"java/lang/AbstractStringBuilder", "isLatin1", "()Z"⟩ : MethodName)) (C := "java/lang/StringBuilder") (hw _ (List.mem_of_getElem? (i := 166) rfl)) (hw _ (List.mem_of_getElem? (i := 167) rfl)) (hw _ (List.mem_of_getElem? (i := 169) rfl)) (hw _ (List.mem_of_getElem? (i := 169) rfl)) (hw _ (List.mem_of_getElem? (i := 168) rfl)) rfl (hw _ (List.mem_of_getElem? (i := 168) rfl)) (hw _ (List.mem_of_getElem? (i := 74) rfl)) (hw _ (List.mem_of_getElem? (i := 170) rfl)) (by decide) (a := sb) Ee (argsL := []) (rest := []) rfl (rm24 l Z a0 hw [] sb q2 k2 (own_cpn cap (xs.length + 1)) xs w1 d1 d2 kd1 kd2 fm T183.heap n0 Z183 hz hk184 TB gs gq2 Ee Ce Ve Nx Ae (by omega) hm2) (g := (mkF m 18 #[.val (.ref sb), .val (.int (Int32.ofNat dn)), .val (.int (Int32.ofNat xs.length)), .val (.int (Int32.ofNat (xs.length + 1)))] [(.ref sb)])) rfl (by rw [hml]; rfl) (lenOf pd_11 rfl) rfl (W := 0) (by show 2 * 0 + _ ≤ _; exact Nat.le_of_eq rfl) (hb hby d22_18) (by decide) (by decide) (by decide) (by decide)
  have N185 := Fr.app N183 N185q
  refine own_by st185 ?_
  refine own_by (fun _ k => XS.ifNo X185.here hx rfl (hb hby d22_21) rfl ((if0 _ _).trans (feq (by decide : ¬ ((1 : Int32) = (0 : Int32)))).1) k) ?_
  refine own_by (fun _ k => XS.iloadN X185.here hx rfl (hb hby d22_24) rfl k) ?_
  show own_Go p e below _ T185 (mkF m 25 #[.val (.ref sb), .val (.int (Int32.ofNat dn)), .val (.int (Int32.ofNat xs.length)), .val (.int (Int32.ofNat (xs.length + 1)))] [(.int (Int32.ofNat dn))])
  refine own_by (fun _ k => XS.iloadN X185.here hx rfl (hb hby d22_25) rfl k) ?_
  refine own_by (fun _ k => XS.aloadN X185.here hx rfl (hb hby d22_26) rfl rfl k) ?_
  obtain ⟨T186, X186, e186, st186⟩ := getF X185 hx hZ hown (host := "") (Or.inl (hw _ (List.mem_of_getElem? (i := 78) rfl))) Via.refl e185 Ve (g := (mkF m 27 #[.val (.ref sb), .val (.int (Int32.ofNat dn)), .val (.int (Int32.ofNat xs.length)), .val (.int (Int32.ofNat (xs.length + 1)))] [(.ref sb), (.int (Int32.ofNat (xs.length + 1))), (.int (Int32.ofNat dn))])) rfl rfl (hb hby d22_27)
  refine own_by st186 ?_
  obtain ⟨_, T187, L187, X187, ⟨rfl, N187q, Kp, Ap⟩, st187⟩ := own_callS X186 hx hZ hown (y := (⟨"java/lang/Integer", "getChars", "(II[B)I"⟩ : MethodName)) (hw _ (List.mem_of_getElem? (i := 171) rfl)) (hw _ (List.mem_of_getElem? (i := 172) rfl)) (hw _ (List.mem_of_getElem? (i := 164) rfl)) (hw _ (List.mem_of_getElem? (i := 173) rfl)) (by decide) (argsL := [(.int (Int32.ofNat dn)), (.int (Int32.ofNat (xs.length + 1))), (.ref q2)]) (rest := []) e186 (rm25 l Z a0 hw [] q2 k2 (own_cpn cap (xs.length + 1)) xs dn w1 d1 d2 kd1 kd2 fm T183.heap n0 Z183 hz hk184 TB gq2 Ae hl hm2 hd) (g := (mkF m 30 #[.val (.ref sb), .val (.int (Int32.ofNat dn)), .val (.int (Int32.ofNat xs.length)), .val (.int (Int32.ofNat (xs.length + 1)))] [(.ref q2), (.int (Int32.ofNat (xs.length + 1))), (.int (Int32.ofNat dn))])) rfl (by rw [hml]; rfl) (lenOf pd_12 rfl) rfl (W := 0) (by show 2 * 0 + _ ≤ _; exact Nat.le_of_eq rfl) (hb hby d22_30) (by decide) (by decide) (by decide) (by decide)
  have N187 := Fr.app N185 N187q
  refine own_by st187 ?_
  have Z187 : n0 ≤ T187.heap.size := Nat.le_trans Z183 Kp.1
  have K187c := K183c.trans Kp (allS (own_side hq2 K0.1) all0)
  refine own_by (fun _ k => XS.pop X187.here hx rfl (hb hby d22_33) rfl rfl k) ?_
  refine own_by (fun _ k => XS.goto X187.here hx rfl (pc0 := 34) (pc' := 48) rfl (hb hby d22_34) (by decide) (by decide) k) ?_
  refine own_by (fun _ k => XS.aloadN X187.here hx rfl (hb hby d22_48) rfl rfl k) ?_
  refine own_by (fun _ k => XS.iloadN X187.here hx rfl (hb hby d22_49) rfl k) ?_
  show own_Go p e below _ T187 (mkF m 50 #[.val (.ref sb), .val (.int (Int32.ofNat dn)), .val (.int (Int32.ofNat xs.length)), .val (.int (Int32.ofNat (xs.length + 1)))] [(.int (Int32.ofNat (xs.length + 1))), (.ref sb)])
  rw [show Int32.ofNat (xs.length + 1) = Int32.ofNat (xs ++ [(Int32.ofNat (48 + dn))]).length from by rw [List.length_append]; rfl]
  show own_Go p e below _ T187 (mkF m 50 #[.val (.ref sb), .val (.int (Int32.ofNat dn)), .val (.int (Int32.ofNat xs.length)), .val (.int (Int32.ofNat (xs ++ [(Int32.ofNat (48 + dn))]).length))] [(.int (Int32.ofNat (xs ++ [(Int32.ofNat (48 + dn))]).length)), (.ref sb)])
  have f189 := (Nx.keep Kp (ninS nsq2 nin0))
  have f190 := (Ee.keep Kp)
  obtain ⟨T188, h188, X188, e188, W188, st188⟩ := putF X187 hx hZ hown (host := "") (Or.inl (hw _ (List.mem_of_getElem? (i := 106) rfl))) Via.refl rfl f189 f190 (Or.inl (hw _ (List.mem_of_getElem? (i := 107) rfl))) (hw _ (List.mem_of_getElem? (i := 65) rfl)) (ty := .int) (by decide) rfl rfl (g := (mkF m 50 #[.val (.ref sb), .val (.int (Int32.ofNat dn)), .val (.int (Int32.ofNat xs.length)), .val (.int (Int32.ofNat (xs ++ [(Int32.ofNat (48 + dn))]).length))] [(.int (Int32.ofNat (xs ++ [(Int32.ofNat (48 + dn))]).length)), (.ref sb)])) rfl rfl (hb hby d22_50)
  refine own_by st188 ?_
  have N188 := Fr.snoc X188 N187 gs
  have fw188 := f189.same W188
  have K191 := K187c.wr W188 (Or.inl (List.mem_of_getElem? (i := 0) rfl))
  have Z188 : n0 ≤ h188.size := Nat.le_trans Z187 (Keep.of_wr W188).1
  refine own_by (fun _ k => XS.aloadN X188.here hx rfl (hb hby d22_53) rfl rfl k) ?_
  have f192 := (f190.wr W188)
  have f193 := ((Ce.keep Kp (ninS nsq2 nin0)).other W188 (Or.inr (slot_ne (Or.inl (hw _ (List.mem_of_getElem? (i := 81) rfl))) (Or.inl (hw _ (List.mem_of_getElem? (i := 107) rfl))) (by decide) (t := .byte) (t' := .int) (by decide) (by decide))))
  have f194 := ((Ve.keep Kp (ninS nsq2 nin0)).other W188 (Or.inr (slot_ne (Or.inl (hw _ (List.mem_of_getElem? (i := 79) rfl))) (Or.inl (hw _ (List.mem_of_getElem? (i := 107) rfl))) (by decide) (t := (.array .byte)) (t' := .int) (by decide) (by decide))))
  have f195 := (Ap.other W188 (Ne.symm nsq2))
  exact own_retA X188 hx hlk hret rfl rfl (hb hby d22_54) (by first | exact ⟨rfl, N188, q2, k2, K191, gq2, f192, f193, f194, fw188, f195⟩ | (rw [e188]; exact ⟨rfl, N188, q2, k2, K191, gq2, f192, f193, f194, fw188, f195⟩)) (by decide) (by decide)
def Q_rm21 (Z : State) (sb q : Addr) (kq : ClassId) (cap : Nat) (xs : List Int32) (dn : Nat) (w1 : Int32) (d1 d2 : Addr) (kd1 kd2 : ClassId) (fm : Value) (h0 : Heap) (n0 : Nat) (v : Option Value) (h : Heap) (L : List Loc) : Prop := v = some (.ref sb) ∧ Fr n0 L ∧ ∃ (q2 : Addr) (k2 : ClassId), Keep h0 h [sb, q] ∧ n0 ≤ q2 ∧ Exa Z h sb "java/lang/StringBuilder" ∧ Fld Z h sb "java/lang/AbstractStringBuilder" "coder" "B" (.int (0 : Int32)) ∧ Fld Z h sb "java/lang/AbstractStringBuilder" "value" "[B" (.ref q2) ∧ Fld Z h sb "java/lang/AbstractStringBuilder" "count" "I" (.int (Int32.ofNat (xs ++ [(Int32.ofNat (48 + dn))]).length)) ∧ Arv Z h q2 k2 .byte (Int32.ofNat (own_cpn cap (xs.length + 1))) ((own_pad (own_cpn cap (xs.length + 1)) (xs ++ [(Int32.ofNat (48 + dn))])).map Value.int) (.int 0)
theorem pn_rm21 : plainFor (⟨"java/lang/StringBuilder", "append", "(I)Ljava/lang/StringBuilder;"⟩ : MethodName) = true := by first | exact plainFor_of_name (by first | (simp [plainName, overriddenIn, x]; done) | decide +kernel) | decide +kernel
theorem d21_0 : decode jdk_67_method_15_code 0 = .ok (.aload_n 0, 1) := by decide +kernel
theorem d21_1 : decode jdk_67_method_15_code 1 = .ok (.iload_n 1, 1) := by decide +kernel
theorem pd_13 : parseMethodDescriptor "(I)Ljava/lang/AbstractStringBuilder;" = some ⟨[.int], some (.object "java/lang/AbstractStringBuilder")⟩ := by decide +kernel
theorem d21_2 : decode jdk_67_method_15_code 2 = .ok (.invokespecial 53, 3) := by decide +kernel
theorem d21_5 : decode jdk_67_method_15_code 5 = .ok (.pop, 1) := by decide +kernel
theorem d21_6 : decode jdk_67_method_15_code 6 = .ok (.aload_n 0, 1) := by decide +kernel
theorem d21_7 : decode jdk_67_method_15_code 7 = .ok (.areturn, 1) := by decide +kernel
set_option maxRecDepth 65536 in
set_option maxHeartbeats 40000000 in
theorem rm21 (l : Launch) (Z : State) (a0 : Array Value) (hw : ∀ d ∈ tables_1, d.before a0 Z = true) (ws : List Jvm.Cond) (sb q : Addr) (kq : ClassId) (cap : Nat) (xs : List Int32) (dn : Nat) (w1 : Int32) (d1 d2 : Addr) (kd1 kd2 : ClassId) (fm : Value) (h0 : Heap) (n0 : Nat) (Z0 : n0 ≤ h0.size) (hz : Z.heap.size ≤ n0) (hkz : own_K Z h0) (TB : own_Tb Z w1 d1 d2 kd1 kd2 fm) (gs : n0 ≤ sb) (gq : n0 ≤ q) (Es : Exa Z h0 sb "java/lang/StringBuilder") (Cs : Fld Z h0 sb "java/lang/AbstractStringBuilder" "coder" "B" (.int (0 : Int32))) (Vs : Fld Z h0 sb "java/lang/AbstractStringBuilder" "value" "[B" (.ref q)) (Ns : Fld Z h0 sb "java/lang/AbstractStringBuilder" "count" "I" (.int (Int32.ofNat xs.length))) (Aq : Arv Z h0 q kq .byte (Int32.ofNat cap) ((own_pad cap xs).map Value.int) (.int 0)) (hcap : xs.length ≤ cap) (hcb : cap ≤ 200) (hd : dn ≤ 9) (hm2 : own_cpn cap (xs.length + 1) ≤ 200) :
    own_Met l Z (⟨"java/lang/StringBuilder", "append", "(I)Ljava/lang/StringBuilder;"⟩ : MethodName) jdk_67_method_15_code 2 (some (.object "java/lang/StringBuilder")) ws ({ frames := 5, cells := 1, slots := 200, locals := 90 } : Room) #[(.ref sb), (.int (Int32.ofNat dn))] h0 (Q_rm21 Z sb q kq cap xs dn w1 d1 d2 kd1 kd2 fm h0 n0) := by
  refine own_enter (g0 := fun m => (mkF m 0 #[.val (.ref sb), .val (.int (Int32.ofNat dn))] [])) pn_rm21 (fun m => by first | (simp [entryFrame, mkF, argsToLocals, Value.category, maxLocals]; done) | rfl) ?_
  intro p e s m below meth c s₁ hx hby hml hown hnm hret hlk hZ X0 e0
  have hml : c.maxLocals = 2 := hml
  have hown : s.vm.findClass "java/lang/StringBuilder" = some m.cls := hown
  have N0 := Fr.nil n0
  have nsq : sb ≠ q := Exa.neArv Es Aq (hw _ (List.mem_of_getElem? (i := 65) rfl))
  have K0 := Keep.refl h0 [sb, q]
  refine own_by (fun _ k => XS.aloadN X0.here hx rfl (hb hby d21_0) rfl rfl k) ?_
  refine own_by (fun _ k => XS.iloadN X0.here hx rfl (hb hby d21_1) rfl k) ?_
  obtain ⟨_, T196, L196, X196, ⟨rfl, N196q, q2, k2, Ke, gq2, Ee, Ce, Ve, Nx, Ae⟩, st196⟩ := own_callSup X0 hx hZ hown (y := (⟨"java/lang/AbstractStringBuilder", "append", "(I)Ljava/lang/AbstractStringBuilder;"⟩ : MethodName)) (y' := (⟨"java/lang/AbstractStringBuilder", "isLatin1", "()Z"⟩ : MethodName)) (C := "java/lang/StringBuilder") (hw _ (List.mem_of_getElem? (i := 158) rfl)) (hw _ (List.mem_of_getElem? (i := 159) rfl)) (hw _ (List.mem_of_getElem? (i := 90) rfl)) (hw _ (List.mem_of_getElem? (i := 169) rfl)) (hw _ (List.mem_of_getElem? (i := 168) rfl)) rfl (hw _ (List.mem_of_getElem? (i := 74) rfl)) (hw _ (List.mem_of_getElem? (i := 161) rfl)) (by decide) (by decide) (a := sb) Es (argsL := [(.int (Int32.ofNat dn))]) (rest := []) e0 (rm22 l Z a0 hw [] sb q kq cap xs dn w1 d1 d2 kd1 kd2 fm h0 n0 Z0 hz hkz TB gs gq Es Cs Vs Ns Aq hcap hcb hd hm2) (g := (mkF m 2 #[.val (.ref sb), .val (.int (Int32.ofNat dn))] [(.int (Int32.ofNat dn)), (.ref sb)])) rfl (by rw [hml]; rfl) (lenOf pd_13 rfl) rfl (W := 0) (by show 2 * 0 + _ ≤ _; exact Nat.le_of_eq rfl) (hb hby d21_2) (by decide) (by decide) (by decide) (by decide)
  have N196 := Fr.app N0 N196q
  refine own_by st196 ?_
  have Z196 : n0 ≤ T196.heap.size := Nat.le_trans Z0 Ke.1
  have K196c := K0.trans Ke (allS (Or.inl (List.mem_of_getElem? (i := 0) rfl)) (allS (Or.inl (List.mem_of_getElem? (i := 1) rfl)) all0))
  refine own_by (fun _ k => XS.pop X196.here hx rfl (hb hby d21_5) rfl rfl k) ?_
  refine own_by (fun _ k => XS.aloadN X196.here hx rfl (hb hby d21_6) rfl rfl k) ?_
  exact own_retA X196 hx hlk hret rfl rfl (hb hby d21_7) ⟨rfl, N196, q2, k2, K196c, gq2, Ee, Ce, Ve, Nx, Ae⟩ (by decide) (by decide)
def Q_rm28 (Z : State) (lv : Int64) (h0 : Heap) (n0 : Nat) (v : Option Value) (h : Heap) (L : List Loc) : Prop := ∃ cn, v = some (.int (Int32.ofNat (cn + own_sg lv))) ∧ own_C (own_abs lv) cn ∧ Fr n0 L ∧ h = h0
theorem pn_rm28 : plainFor (⟨"java/lang/Long", "stringSize", "(J)I"⟩ : MethodName) = true := by first | exact plainFor_of_name (by first | (simp [plainName, overriddenIn, x]; done) | decide +kernel) | decide +kernel
theorem d28_13 : decode jdk_35_method_15_code 13 = .ok (.ldc2_w 140, 3) := by decide +kernel
theorem d28_16 : decode jdk_35_method_15_code 16 = .ok (.lstore_n 3, 1) := by decide +kernel
theorem d28_17 : decode jdk_35_method_15_code 17 = .ok (.iconst 1, 1) := by decide +kernel
theorem d28_18 : decode jdk_35_method_15_code 18 = .ok (.istore 5, 2) := by decide +kernel
theorem d28_20 : decode jdk_35_method_15_code 20 = .ok (.iload 5, 2) := by decide +kernel
theorem d28_22 : decode jdk_35_method_15_code 22 = .ok (.bipush 19, 2) := by decide +kernel
theorem d28_24 : decode jdk_35_method_15_code 24 = .ok (.if_icmp .ge 26, 3) := by decide +kernel
theorem d28_50 : decode jdk_35_method_15_code 50 = .ok (.bipush 19, 2) := by decide +kernel
theorem d28_52 : decode jdk_35_method_15_code 52 = .ok (.iload_n 2, 1) := by decide +kernel
theorem d28_53 : decode jdk_35_method_15_code 53 = .ok (.iadd, 1) := by decide +kernel
theorem d28_54 : decode jdk_35_method_15_code 54 = .ok (.ireturn, 1) := by decide +kernel
theorem d28_27 : decode jdk_35_method_15_code 27 = .ok (.lload_n 0, 1) := by decide +kernel
theorem d28_28 : decode jdk_35_method_15_code 28 = .ok (.lload_n 3, 1) := by decide +kernel
theorem d28_29 : decode jdk_35_method_15_code 29 = .ok (.lcmp, 1) := by decide +kernel
theorem d28_30 : decode jdk_35_method_15_code 30 = .ok (.ifCond .le 8, 3) := by decide +kernel
theorem d28_33 : decode jdk_35_method_15_code 33 = .ok (.iload 5, 2) := by decide +kernel
theorem d28_35 : decode jdk_35_method_15_code 35 = .ok (.iload_n 2, 1) := by decide +kernel
theorem d28_36 : decode jdk_35_method_15_code 36 = .ok (.iadd, 1) := by decide +kernel
theorem d28_37 : decode jdk_35_method_15_code 37 = .ok (.ireturn, 1) := by decide +kernel
theorem d28_38 : decode jdk_35_method_15_code 38 = .ok (.ldc2_w 53, 3) := by decide +kernel
theorem d28_41 : decode jdk_35_method_15_code 41 = .ok (.lload_n 3, 1) := by decide +kernel
theorem d28_42 : decode jdk_35_method_15_code 42 = .ok (.lmul, 1) := by decide +kernel
theorem d28_43 : decode jdk_35_method_15_code 43 = .ok (.lstore_n 3, 1) := by decide +kernel
theorem d28_44 : decode jdk_35_method_15_code 44 = .ok (.iinc 5 1, 3) := by decide +kernel
theorem d28_47 : decode jdk_35_method_15_code 47 = .ok (.goto (-27), 3) := by decide +kernel
theorem d28_0 : decode jdk_35_method_15_code 0 = .ok (.iconst 1, 1) := by decide +kernel
theorem d28_1 : decode jdk_35_method_15_code 1 = .ok (.istore_n 2, 1) := by decide +kernel
theorem d28_2 : decode jdk_35_method_15_code 2 = .ok (.lload_n 0, 1) := by decide +kernel
theorem d28_3 : decode jdk_35_method_15_code 3 = .ok (.lconst 0, 1) := by decide +kernel
theorem d28_4 : decode jdk_35_method_15_code 4 = .ok (.lcmp, 1) := by decide +kernel
theorem d28_5 : decode jdk_35_method_15_code 5 = .ok (.ifCond .lt 8, 3) := by decide +kernel
theorem d28_8 : decode jdk_35_method_15_code 8 = .ok (.iconst 0, 1) := by decide +kernel
theorem d28_9 : decode jdk_35_method_15_code 9 = .ok (.istore_n 2, 1) := by decide +kernel
theorem d28_10 : decode jdk_35_method_15_code 10 = .ok (.lload_n 0, 1) := by decide +kernel
theorem d28_11 : decode jdk_35_method_15_code 11 = .ok (.lneg, 1) := by decide +kernel
theorem d28_12 : decode jdk_35_method_15_code 12 = .ok (.lstore_n 0, 1) := by decide +kernel
set_option maxRecDepth 65536 in
set_option maxHeartbeats 40000000 in
theorem rm28 (l : Launch) (Z : State) (a0 : Array Value) (hw : ∀ d ∈ tables_1, d.before a0 Z = true) (ws : List Jvm.Cond) (lv : Int64) (h0 : Heap) (n0 : Nat) (Z0 : n0 ≤ h0.size)  :
    own_Met l Z (⟨"java/lang/Long", "stringSize", "(J)I"⟩ : MethodName) jdk_35_method_15_code 6 (some .int) ws ({ frames := 0, cells := 0, slots := 0, locals := 0 } : Room) #[(.long lv)] h0 (Q_rm28 Z lv h0 n0) := by
  refine own_enter (g0 := fun m => (mkF m 0 #[.val (.long lv), .second, .unset, .unset, .unset, .unset] [])) pn_rm28 (fun m => by first | (simp [entryFrame, mkF, argsToLocals, Value.category, maxLocals]; done) | rfl) ?_
  intro p e s m below meth c s₁ hx hby hml hown hnm hret hlk hZ X0 e0
  have hml : c.maxLocals = 6 := hml
  have hown : s.vm.findClass "java/lang/Long" = some m.cls := hown
  have N0 := Fr.nil n0
  have J13 : ∀ (mm : Int64) (dd : Int32) (hm : mm.toInt = -(own_abs lv : Int)) (hd : dd = Int32.ofNat (own_sg lv)), own_Go p e below (own_End s ({ frames := 0, cells := 0, slots := 0, locals := 0 } : Room).cells ({ frames := 0, cells := 0, slots := 0, locals := 0 } : Room).slots (Q_rm28 Z lv h0 n0)) s₁ (mkF m 13 #[.val (.long mm), .second, .val (.int dd), .unset, .unset, .unset] []) := by
    intro  mm dd hm hd
    refine own_by (fun _ k => Stand.ldc2J X0 hx hown (mvT hZ (hw _ (List.mem_of_getElem? (i := 192) rfl))) rfl (hb hby d28_13) k) ?_
    refine own_by (fun _ k => XS.lstoreN X0.here hx rfl (hb hby d28_16) rfl (l' := #[.val (.long mm), .second, .val (.int dd), .val (.long (-10 : Int64)), .second, .unset]) rfl k) ?_
    refine own_by (fun _ k => XS.iconst X0.here hx rfl (hb hby d28_17) k) ?_
    refine own_by (fun _ k => XS.istore X0.here hx rfl (hb hby d28_18) rfl (l' := #[.val (.long mm), .second, .val (.int dd), .val (.long (-10 : Int64)), .second, .val (.int (1 : Int32))]) rfl k) ?_
    have J20 : ∀ (r : Nat) (i : Nat) (pp : Int64) (hr : i + r = 19) (hi : 1 ≤ i) (hno : i = 1 ∨ ¬ own_abs lv < 10 ^ (i - 1)) (hp' : i ≤ 18 → pp.toInt = -((10 ^ i : Nat) : Int)), own_Go p e below (own_End s ({ frames := 0, cells := 0, slots := 0, locals := 0 } : Room).cells ({ frames := 0, cells := 0, slots := 0, locals := 0 } : Room).slots (Q_rm28 Z lv h0 n0)) s₁ (mkF m 20 #[.val (.long mm), .second, .val (.int dd), .val (.long pp), .second, .val (.int (Int32.ofNat i))] []) := by
      intro r
      induction r with
      | zero =>
        intro i pp hr hi hno hp'
        obtain rfl : i = 19 := by omega
        show own_Go p e below _ s₁ (mkF m 20 #[.val (.long mm), .second, .val (.int dd), .val (.long pp), .second, .val (.int (Int32.ofNat 19))] [])
        refine own_by (fun _ k => XS.iload X0.here hx rfl (hb hby d28_20) rfl k) ?_
        refine own_by (fun _ k => XS.bipush X0.here hx rfl (hb hby d28_22) k) ?_
        refine own_by (fun _ k => XS.icmpYes X0.here hx rfl (pc0 := 24) (pc' := 50) rfl (hb hby d28_24) rfl (flt (fun z => Int32.lt_irrefl z : ¬ ((Int32.ofNat 19) < (19 : Int32)))).2.1 (by decide) (by decide) k) ?_
        refine own_by (fun _ k => XS.bipush X0.here hx rfl (hb hby d28_50) k) ?_
        refine own_by (fun _ k => XS.iloadN X0.here hx rfl (hb hby d28_52) rfl k) ?_
        refine own_by (fun _ k => XS.iadd X0.here hx rfl (hb hby d28_53) rfl k) ?_
        show own_Go p e below _ s₁ (mkF m 54 #[.val (.long mm), .second, .val (.int dd), .val (.long pp), .second, .val (.int (Int32.ofNat 19))] [(.int ((19 : Int32) + dd))])
        rw [show ((19 : Int32) + dd) = (Int32.ofNat (19 + own_sg lv)) from own_sum (i := 19) hd (by omega)]
        exact own_retI X0 hx hlk hret  (hb hby d28_54) (by first | exact ⟨19, rfl, own_Cof (by omega) (by omega) (own_19 (own_absle lv)) hno, N0, rfl⟩ | (rw [e0]; exact ⟨19, rfl, own_Cof (by omega) (by omega) (own_19 (own_absle lv)) hno, N0, rfl⟩)) (by decide) (by decide)
      | succ r ih =>
        intro i pp hr hi hno hp'
        have hp := hp' (by omega)
        show own_Go p e below _ s₁ (mkF m 20 #[.val (.long mm), .second, .val (.int dd), .val (.long pp), .second, .val (.int (Int32.ofNat i))] [])
        refine own_by (fun _ k => XS.iload X0.here hx rfl (hb hby d28_20) rfl k) ?_
        refine own_by (fun _ k => XS.bipush X0.here hx rfl (hb hby d28_22) k) ?_
        refine own_by (fun _ k => XS.icmpNo X0.here hx rfl (hb hby d28_24) rfl (tlt ((own_lt (a := i) (b := 19) (by omega) (by omega)).mpr (by omega) : (Int32.ofNat i) < (19 : Int32))).2.1 k) ?_
        refine own_by (fun _ k => XS.lloadN X0.here hx rfl (hb hby d28_27) rfl k) ?_
        refine own_by (fun _ k => XS.lloadN X0.here hx rfl (hb hby d28_28) rfl k) ?_
        refine own_by (fun _ k => XS.lcmp X0.here hx rfl (hb hby d28_29) rfl k) ?_
        by_cases hlt : own_abs lv < 10 ^ i
        · refine own_by (fun _ k => XS.ifNo X0.here hx rfl (hb hby d28_30) rfl ((if0 _ _).trans (tlt ((lw_gt _ _).mpr ((own_gtp hm hp).mpr hlt) : (0 : Int32) < (lcmpW mm pp))).2.2.2) k) ?_
          refine own_by (fun _ k => XS.iload X0.here hx rfl (hb hby d28_33) rfl k) ?_
          refine own_by (fun _ k => XS.iloadN X0.here hx rfl (hb hby d28_35) rfl k) ?_
          show own_Go p e below _ s₁ (mkF m 36 #[.val (.long mm), .second, .val (.int dd), .val (.long pp), .second, .val (.int (Int32.ofNat i))] [(.int dd), (.int (Int32.ofNat i))])
          refine own_by (fun _ k => XS.iadd X0.here hx rfl (hb hby d28_36) rfl k) ?_
          show own_Go p e below _ s₁ (mkF m 37 #[.val (.long mm), .second, .val (.int dd), .val (.long pp), .second, .val (.int (Int32.ofNat i))] [(.int ((Int32.ofNat i) + dd))])
          rw [show ((Int32.ofNat i) + dd) = (Int32.ofNat (i + own_sg lv)) from own_sum hd (by omega)]
          exact own_retI X0 hx hlk hret  (hb hby d28_37) (by first | exact ⟨i, rfl, own_Cof hi (by omega) hlt hno, N0, rfl⟩ | (rw [e0]; exact ⟨i, rfl, own_Cof hi (by omega) hlt hno, N0, rfl⟩)) (by decide) (by decide)
        · refine own_by (fun _ k => XS.ifYes X0.here hx rfl (pc0 := 30) (pc' := 38) rfl (hb hby d28_30) rfl ((if0 _ _).trans (flt (fun z => hlt ((own_gtp hm hp).mp ((lw_gt _ _).mp z)) : ¬ ((0 : Int32) < (lcmpW mm pp)))).2.2.2) (by decide) (by decide) k) ?_
          refine own_by (fun _ k => Stand.ldc2J X0 hx hown (mvT hZ (hw _ (List.mem_of_getElem? (i := 193) rfl))) rfl (hb hby d28_38) k) ?_
          refine own_by (fun _ k => XS.lloadN X0.here hx rfl (hb hby d28_41) rfl k) ?_
          show own_Go p e below _ s₁ (mkF m 42 #[.val (.long mm), .second, .val (.int dd), .val (.long pp), .second, .val (.int (Int32.ofNat i))] [(.long pp), (.long (10 : Int64))])
          refine own_by (fun _ k => XS.lmul X0.here hx rfl (hb hby d28_42) rfl k) ?_
          refine own_by (fun _ k => XS.lstoreN X0.here hx rfl (hb hby d28_43) rfl (l' := #[.val (.long mm), .second, .val (.int dd), .val (.long ((10 : Int64) * pp)), .second, .val (.int (Int32.ofNat i))]) rfl k) ?_
          refine own_by (fun _ k => XS.iinc X0.here hx rfl (hb hby d28_44) rfl (l' := #[.val (.long mm), .second, .val (.int dd), .val (.long ((10 : Int64) * pp)), .second, .val (.int ((Int32.ofNat i) + (1 : Int32)))]) rfl k) ?_
          refine own_by (fun _ k => XS.goto X0.here hx rfl (pc0 := 47) (pc' := 20) rfl (hb hby d28_47) (by decide) (by decide) k) ?_
          show own_Go p e below _ s₁ (mkF m 20 #[.val (.long mm), .second, .val (.int dd), .val (.long ((10 : Int64) * pp)), .second, .val (.int ((Int32.ofNat i) + (1 : Int32)))] [])
          rw [show Int32.ofNat i + (1 : Int32) = Int32.ofNat (i + 1) from own_add (b := 1) (by omega) (by omega)]
          by_cases h18 : i = 18
          · exact ih (i + 1) _ (by omega) (by omega) (Or.inr (by rw [Nat.add_sub_cancel]; exact hlt)) (fun q => absurd q (by omega))
          · exact ih (i + 1) _ (by omega) (by omega) (Or.inr (by rw [Nat.add_sub_cancel]; exact hlt)) (fun _ => own_p10 (hp' (by omega)) (by omega))
    exact J20 18 1 (-10) (by omega) (by omega) (Or.inl rfl) (fun _ => by decide)
  refine own_by (fun _ k => XS.iconst X0.here hx rfl (hb hby d28_0) k) ?_
  refine own_by (fun _ k => XS.istoreN X0.here hx rfl (hb hby d28_1) rfl (l' := #[.val (.long lv), .second, .val (.int (1 : Int32)), .unset, .unset, .unset]) rfl k) ?_
  refine own_by (fun _ k => XS.lloadN X0.here hx rfl (hb hby d28_2) rfl k) ?_
  refine own_by (fun _ k => XS.lconst X0.here hx rfl (hb hby d28_3) k) ?_
  refine own_by (fun _ k => XS.lcmp X0.here hx rfl (hb hby d28_4) rfl k) ?_
  by_cases hn : lv < 0
  · refine own_by (fun _ k => XS.ifYes X0.here hx rfl (pc0 := 5) (pc' := 13) rfl (hb hby d28_5) rfl ((if0 _ _).trans (tlt ((lw_lt _ _).mpr hn : (lcmpW lv (0 : Int64)) < (0 : Int32))).1) (by decide) (by decide) k) ?_
    exact J13 _ _ (own_mneg hn) (by rw [own_sg, if_pos hn]; rfl)
  · refine own_by (fun _ k => XS.ifNo X0.here hx rfl (hb hby d28_5) rfl ((if0 _ _).trans (flt (fun z => hn ((lw_lt _ _).mp z) : ¬ ((lcmpW lv (0 : Int64)) < (0 : Int32)))).1) k) ?_
    refine own_by (fun _ k => XS.iconst X0.here hx rfl (hb hby d28_8) k) ?_
    refine own_by (fun _ k => XS.istoreN X0.here hx rfl (hb hby d28_9) rfl (l' := #[.val (.long lv), .second, .val (.int (0 : Int32)), .unset, .unset, .unset]) rfl k) ?_
    show own_Go p e below _ s₁ (mkF m 10 #[.val (.long lv), .second, .val (.int (0 : Int32)), .unset, .unset, .unset] [])
    refine own_by (fun _ k => XS.lloadN X0.here hx rfl (hb hby d28_10) rfl k) ?_
    refine own_by (fun _ k => XS.lneg X0.here hx rfl (hb hby d28_11) rfl k) ?_
    refine own_by (fun _ k => XS.lstoreN X0.here hx rfl (hb hby d28_12) rfl (l' := #[.val (.long (-lv)), .second, .val (.int (0 : Int32)), .unset, .unset, .unset]) rfl k) ?_
    exact J13 _ _ (own_mpos hn) (by rw [own_sg, if_neg hn]; rfl)
theorem own_d3 {nn k : Nat} (h : nn / 10 ^ k < 100) : own_dig nn (k + 1) = Int32.ofNat (48 + nn / 10 ^ k / 10) := by
  unfold own_dig; rw [own_Nk]; congr 2
  exact Nat.mod_eq_of_lt (by omega)
theorem own_gt31 {x : Int64} {N : Nat} (h : x.toInt = -(N : Int)) : (-2147483648 : Int64) < x ↔ N < 2147483648 := by
  rw [Int64.lt_iff_toInt_lt, h]
  show (-2147483648 : Int) < _ ↔ _
  omega
theorem own_gt100 {x : Int32} {N : Nat} (h : x.toInt = -(N : Int)) : (-100 : Int32) < x ↔ N < 100 := by
  rw [Int32.lt_iff_toInt_lt, h]
  show (-100 : Int) < _ ↔ _
  omega
theorem own_lt9 {x : Int32} {N : Nat} (h : x.toInt = -(N : Int)) : x < (-9 : Int32) ↔ 9 < N := by
  rw [Int32.lt_iff_toInt_lt, h]
  show _ < (-9 : Int) ↔ _
  omega
theorem own_k18 {nn k : Nat} (hn : nn ≤ 9223372036854775808) (h : k = 0 ∨ 1 ≤ nn / 10 ^ k) : k ≤ 18 := by
  rcases h with rfl | h
  · omega
  · by_cases hk : k ≤ 18
    · exact hk
    · have h1 := own_ple (show 19 ≤ k by omega)
      have h2 : nn / 10 ^ k = 0 := Nat.div_eq_of_lt (by have := own_19 hn; omega)
      omega
def Q_rm29 (Z : State) (q : Addr) (kq : ClassId) (cap : Nat) (xs : List Int32) (lv : Int64) (cn : Nat) (w1 : Int32) (d1 d2 : Addr) (kd1 kd2 : ClassId) (fm : Value) (h0 : Heap) (n0 : Nat) (v : Option Value) (h : Heap) (L : List Loc) : Prop := ∃ r : Int32, v = some (.int r) ∧ Fr n0 L ∧ Keep h0 h [q] ∧ Arv Z h q kq .byte (Int32.ofNat cap) ((own_pad cap (xs ++ own_txt lv cn)).map Value.int) (.int 0)
theorem pn_rm29 : plainFor (⟨"java/lang/Long", "getChars", "(JI[B)I"⟩ : MethodName) = true := by first | exact plainFor_of_name (by first | (simp [plainName, overriddenIn, x]; done) | decide +kernel) | decide +kernel
theorem d29_178 : decode jdk_35_method_14_code 178 = .ok (.iload 8, 2) := by decide +kernel
theorem d29_180 : decode jdk_35_method_14_code 180 = .ok (.ifCond .eq 12, 3) := by decide +kernel
theorem d29_183 : decode jdk_35_method_14_code 183 = .ok (.aload_n 3, 1) := by decide +kernel
theorem d29_184 : decode jdk_35_method_14_code 184 = .ok (.iinc 7 (-1), 3) := by decide +kernel
theorem d29_187 : decode jdk_35_method_14_code 187 = .ok (.iload 7, 2) := by decide +kernel
theorem d29_189 : decode jdk_35_method_14_code 189 = .ok (.bipush 45, 2) := by decide +kernel
theorem d29_191 : decode jdk_35_method_14_code 191 = .ok (.bastore, 1) := by decide +kernel
theorem d29_192 : decode jdk_35_method_14_code 192 = .ok (.iload 7, 2) := by decide +kernel
theorem d29_194 : decode jdk_35_method_14_code 194 = .ok (.ireturn, 1) := by decide +kernel
theorem d29_143 : decode jdk_35_method_14_code 143 = .ok (.aload_n 3, 1) := by decide +kernel
theorem d29_144 : decode jdk_35_method_14_code 144 = .ok (.iinc 7 (-1), 3) := by decide +kernel
theorem d29_147 : decode jdk_35_method_14_code 147 = .ok (.iload 7, 2) := by decide +kernel
theorem d29_149 : decode jdk_35_method_14_code 149 = .ok (.getstatic 133, 3) := by decide +kernel
theorem d29_152 : decode jdk_35_method_14_code 152 = .ok (.iload 10, 2) := by decide +kernel
theorem d29_154 : decode jdk_35_method_14_code 154 = .ok (.ineg, 1) := by decide +kernel
theorem d29_155 : decode jdk_35_method_14_code 155 = .ok (.baload, 1) := by decide +kernel
theorem d29_156 : decode jdk_35_method_14_code 156 = .ok (.bastore, 1) := by decide +kernel
theorem d29_157 : decode jdk_35_method_14_code 157 = .ok (.iload 10, 2) := by decide +kernel
theorem d29_159 : decode jdk_35_method_14_code 159 = .ok (.bipush (-9), 2) := by decide +kernel
theorem d29_161 : decode jdk_35_method_14_code 161 = .ok (.if_icmp .ge 17, 3) := by decide +kernel
theorem d29_164 : decode jdk_35_method_14_code 164 = .ok (.aload_n 3, 1) := by decide +kernel
theorem d29_165 : decode jdk_35_method_14_code 165 = .ok (.iinc 7 (-1), 3) := by decide +kernel
theorem d29_168 : decode jdk_35_method_14_code 168 = .ok (.iload 7, 2) := by decide +kernel
theorem d29_170 : decode jdk_35_method_14_code 170 = .ok (.getstatic 137, 3) := by decide +kernel
theorem d29_173 : decode jdk_35_method_14_code 173 = .ok (.iload 10, 2) := by decide +kernel
theorem d29_175 : decode jdk_35_method_14_code 175 = .ok (.ineg, 1) := by decide +kernel
theorem d29_176 : decode jdk_35_method_14_code 176 = .ok (.baload, 1) := by decide +kernel
theorem d29_177 : decode jdk_35_method_14_code 177 = .ok (.bastore, 1) := by decide +kernel
theorem d29_86 : decode jdk_35_method_14_code 86 = .ok (.iload 10, 2) := by decide +kernel
theorem d29_88 : decode jdk_35_method_14_code 88 = .ok (.bipush (-100), 2) := by decide +kernel
theorem d29_90 : decode jdk_35_method_14_code 90 = .ok (.if_icmp .gt 53, 3) := by decide +kernel
theorem d29_93 : decode jdk_35_method_14_code 93 = .ok (.iload 10, 2) := by decide +kernel
theorem d29_95 : decode jdk_35_method_14_code 95 = .ok (.bipush 100, 2) := by decide +kernel
theorem d29_97 : decode jdk_35_method_14_code 97 = .ok (.idiv, 1) := by decide +kernel
theorem d29_98 : decode jdk_35_method_14_code 98 = .ok (.istore 9, 2) := by decide +kernel
theorem d29_100 : decode jdk_35_method_14_code 100 = .ok (.iload 9, 2) := by decide +kernel
theorem d29_102 : decode jdk_35_method_14_code 102 = .ok (.bipush 100, 2) := by decide +kernel
theorem d29_104 : decode jdk_35_method_14_code 104 = .ok (.imul, 1) := by decide +kernel
theorem d29_105 : decode jdk_35_method_14_code 105 = .ok (.iload 10, 2) := by decide +kernel
theorem d29_107 : decode jdk_35_method_14_code 107 = .ok (.isub, 1) := by decide +kernel
theorem d29_108 : decode jdk_35_method_14_code 108 = .ok (.istore 6, 2) := by decide +kernel
theorem d29_110 : decode jdk_35_method_14_code 110 = .ok (.iload 9, 2) := by decide +kernel
theorem d29_112 : decode jdk_35_method_14_code 112 = .ok (.istore 10, 2) := by decide +kernel
theorem d29_114 : decode jdk_35_method_14_code 114 = .ok (.aload_n 3, 1) := by decide +kernel
theorem d29_115 : decode jdk_35_method_14_code 115 = .ok (.iinc 7 (-1), 3) := by decide +kernel
theorem d29_118 : decode jdk_35_method_14_code 118 = .ok (.iload 7, 2) := by decide +kernel
theorem d29_120 : decode jdk_35_method_14_code 120 = .ok (.getstatic 133, 3) := by decide +kernel
theorem d29_123 : decode jdk_35_method_14_code 123 = .ok (.iload 6, 2) := by decide +kernel
theorem d29_125 : decode jdk_35_method_14_code 125 = .ok (.baload, 1) := by decide +kernel
theorem d29_126 : decode jdk_35_method_14_code 126 = .ok (.bastore, 1) := by decide +kernel
theorem d29_127 : decode jdk_35_method_14_code 127 = .ok (.aload_n 3, 1) := by decide +kernel
theorem d29_128 : decode jdk_35_method_14_code 128 = .ok (.iinc 7 (-1), 3) := by decide +kernel
theorem d29_131 : decode jdk_35_method_14_code 131 = .ok (.iload 7, 2) := by decide +kernel
theorem d29_133 : decode jdk_35_method_14_code 133 = .ok (.getstatic 137, 3) := by decide +kernel
theorem d29_136 : decode jdk_35_method_14_code 136 = .ok (.iload 6, 2) := by decide +kernel
theorem d29_138 : decode jdk_35_method_14_code 138 = .ok (.baload, 1) := by decide +kernel
theorem d29_139 : decode jdk_35_method_14_code 139 = .ok (.bastore, 1) := by decide +kernel
theorem d29_140 : decode jdk_35_method_14_code 140 = .ok (.goto (-54), 3) := by decide +kernel
theorem d29_24 : decode jdk_35_method_14_code 24 = .ok (.lload_n 0, 1) := by decide +kernel
theorem d29_25 : decode jdk_35_method_14_code 25 = .ok (.ldc2_w 129, 3) := by decide +kernel
theorem d29_28 : decode jdk_35_method_14_code 28 = .ok (.lcmp, 1) := by decide +kernel
theorem d29_29 : decode jdk_35_method_14_code 29 = .ok (.ifCond .gt 53, 3) := by decide +kernel
theorem d29_82 : decode jdk_35_method_14_code 82 = .ok (.lload_n 0, 1) := by decide +kernel
theorem d29_83 : decode jdk_35_method_14_code 83 = .ok (.l2i, 1) := by decide +kernel
theorem d29_84 : decode jdk_35_method_14_code 84 = .ok (.istore 10, 2) := by decide +kernel
theorem d29_32 : decode jdk_35_method_14_code 32 = .ok (.lload_n 0, 1) := by decide +kernel
theorem d29_33 : decode jdk_35_method_14_code 33 = .ok (.ldc2_w 131, 3) := by decide +kernel
theorem d29_36 : decode jdk_35_method_14_code 36 = .ok (.ldiv, 1) := by decide +kernel
theorem d29_37 : decode jdk_35_method_14_code 37 = .ok (.lstore 4, 2) := by decide +kernel
theorem d29_39 : decode jdk_35_method_14_code 39 = .ok (.lload 4, 2) := by decide +kernel
theorem d29_41 : decode jdk_35_method_14_code 41 = .ok (.ldc2_w 131, 3) := by decide +kernel
theorem d29_44 : decode jdk_35_method_14_code 44 = .ok (.lmul, 1) := by decide +kernel
theorem d29_45 : decode jdk_35_method_14_code 45 = .ok (.lload_n 0, 1) := by decide +kernel
theorem d29_46 : decode jdk_35_method_14_code 46 = .ok (.lsub, 1) := by decide +kernel
theorem d29_47 : decode jdk_35_method_14_code 47 = .ok (.l2i, 1) := by decide +kernel
theorem d29_48 : decode jdk_35_method_14_code 48 = .ok (.istore 6, 2) := by decide +kernel
theorem d29_50 : decode jdk_35_method_14_code 50 = .ok (.lload 4, 2) := by decide +kernel
theorem d29_52 : decode jdk_35_method_14_code 52 = .ok (.lstore_n 0, 1) := by decide +kernel
theorem d29_53 : decode jdk_35_method_14_code 53 = .ok (.aload_n 3, 1) := by decide +kernel
theorem d29_54 : decode jdk_35_method_14_code 54 = .ok (.iinc 7 (-1), 3) := by decide +kernel
theorem d29_57 : decode jdk_35_method_14_code 57 = .ok (.iload 7, 2) := by decide +kernel
theorem d29_59 : decode jdk_35_method_14_code 59 = .ok (.getstatic 133, 3) := by decide +kernel
theorem d29_62 : decode jdk_35_method_14_code 62 = .ok (.iload 6, 2) := by decide +kernel
theorem d29_64 : decode jdk_35_method_14_code 64 = .ok (.baload, 1) := by decide +kernel
theorem d29_65 : decode jdk_35_method_14_code 65 = .ok (.bastore, 1) := by decide +kernel
theorem d29_66 : decode jdk_35_method_14_code 66 = .ok (.aload_n 3, 1) := by decide +kernel
theorem d29_67 : decode jdk_35_method_14_code 67 = .ok (.iinc 7 (-1), 3) := by decide +kernel
theorem d29_70 : decode jdk_35_method_14_code 70 = .ok (.iload 7, 2) := by decide +kernel
theorem d29_72 : decode jdk_35_method_14_code 72 = .ok (.getstatic 137, 3) := by decide +kernel
theorem d29_75 : decode jdk_35_method_14_code 75 = .ok (.iload 6, 2) := by decide +kernel
theorem d29_77 : decode jdk_35_method_14_code 77 = .ok (.baload, 1) := by decide +kernel
theorem d29_78 : decode jdk_35_method_14_code 78 = .ok (.bastore, 1) := by decide +kernel
theorem d29_79 : decode jdk_35_method_14_code 79 = .ok (.goto (-55), 3) := by decide +kernel
theorem d29_0 : decode jdk_35_method_14_code 0 = .ok (.iload_n 2, 1) := by decide +kernel
theorem d29_1 : decode jdk_35_method_14_code 1 = .ok (.istore 7, 2) := by decide +kernel
theorem d29_3 : decode jdk_35_method_14_code 3 = .ok (.lload_n 0, 1) := by decide +kernel
theorem d29_4 : decode jdk_35_method_14_code 4 = .ok (.lconst 0, 1) := by decide +kernel
theorem d29_5 : decode jdk_35_method_14_code 5 = .ok (.lcmp, 1) := by decide +kernel
theorem d29_6 : decode jdk_35_method_14_code 6 = .ok (.ifCond .ge 7, 3) := by decide +kernel
theorem d29_9 : decode jdk_35_method_14_code 9 = .ok (.iconst 1, 1) := by decide +kernel
theorem d29_10 : decode jdk_35_method_14_code 10 = .ok (.goto 4, 3) := by decide +kernel
theorem d29_14 : decode jdk_35_method_14_code 14 = .ok (.istore 8, 2) := by decide +kernel
theorem d29_16 : decode jdk_35_method_14_code 16 = .ok (.iload 8, 2) := by decide +kernel
theorem d29_18 : decode jdk_35_method_14_code 18 = .ok (.ifCond .ne 6, 3) := by decide +kernel
theorem d29_13 : decode jdk_35_method_14_code 13 = .ok (.iconst 0, 1) := by decide +kernel
theorem d29_21 : decode jdk_35_method_14_code 21 = .ok (.lload_n 0, 1) := by decide +kernel
theorem d29_22 : decode jdk_35_method_14_code 22 = .ok (.lneg, 1) := by decide +kernel
theorem d29_23 : decode jdk_35_method_14_code 23 = .ok (.lstore_n 0, 1) := by decide +kernel
set_option maxRecDepth 65536 in
set_option maxHeartbeats 40000000 in
theorem rm29 (l : Launch) (Z : State) (a0 : Array Value) (hw : ∀ d ∈ tables_1, d.before a0 Z = true) (ws : List Jvm.Cond) (q : Addr) (kq : ClassId) (cap : Nat) (xs : List Int32) (lv : Int64) (cn : Nat) (w1 : Int32) (d1 d2 : Addr) (kd1 kd2 : ClassId) (fm : Value) (h0 : Heap) (n0 : Nat) (Z0 : n0 ≤ h0.size) (hz : Z.heap.size ≤ n0) (hkz : own_K Z h0) (TB : own_Tb Z w1 d1 d2 kd1 kd2 fm) (gq : n0 ≤ q) (Aq : Arv Z h0 q kq .byte (Int32.ofNat cap) ((own_pad cap xs).map Value.int) (.int 0)) (hl : (xs.length + (cn + own_sg lv)) ≤ cap) (hcb : cap ≤ 200) (hC : own_C (own_abs lv) cn) :
    own_Met l Z (⟨"java/lang/Long", "getChars", "(JI[B)I"⟩ : MethodName) jdk_35_method_14_code 11 (some .int) ws ({ frames := 0, cells := 0, slots := 0, locals := 0 } : Room) #[(.long lv), (.int (Int32.ofNat (xs.length + (cn + own_sg lv)))), (.ref q)] h0 (Q_rm29 Z q kq cap xs lv cn w1 d1 d2 kd1 kd2 fm h0 n0) := by
  refine own_enter (g0 := fun m => (mkF m 0 #[.val (.long lv), .second, .val (.int (Int32.ofNat (xs.length + (cn + own_sg lv)))), .val (.ref q), .unset, .unset, .unset, .unset, .unset, .unset, .unset] [])) pn_rm29 (fun m => by first | (simp [entryFrame, mkF, argsToLocals, Value.category, maxLocals]; done) | rfl) ?_
  intro p e s m below meth c s₁ hx hby hml hown hnm hret hlk hZ X0 e0
  have hml : c.maxLocals = 11 := hml
  have hown : s.vm.findClass "java/lang/Long" = some m.cls := hown
  have N0 := Fr.nil n0
  have K0 := Keep.refl h0 [q]
  have hsg := own_sg1 lv
  have hab := own_absle lv
  have hc19 := hC.2.1
  have J178 : ∀ (T197 : State) (L197 : List Loc) (h197 : Heap) (X197 : Stand p l e ({ frames := 0, cells := 0, slots := 0, locals := 0 } : Room) s m #[(.long lv), (.int (Int32.ofNat (xs.length + (cn + own_sg lv)))), (.ref q)] below meth c T197 L197 0 0) (e197 : T197.heap = h197) (N197 : Fr n0 L197) (K8 : Keep h0 h197 [q])  (ng : Int32) (hng : (ng = 1 ∧ lv < 0) ∨ (ng = 0 ∧ ¬ lv < 0)) (ma : Slot) (mb : Slot) (s10 : Slot) (ix : Slot) (s4 : Slot) (s5 : Slot) (s6 : Slot) (s9 : Slot) (g6 : One s6) (g9 : One s9) (Aq8 : Arv Z h197 q kq .byte (Int32.ofNat cap) ((own_put (own_pad cap xs) (xs.length + (cn + own_sg lv)) (own_abs lv) cn).map Value.int) (.int 0)), own_Go p e below (own_End s ({ frames := 0, cells := 0, slots := 0, locals := 0 } : Room).cells ({ frames := 0, cells := 0, slots := 0, locals := 0 } : Room).slots (Q_rm29 Z q kq cap xs lv cn w1 d1 d2 kd1 kd2 fm h0 n0)) T197 (mkF m 178 #[ma, mb, .val (.int (Int32.ofNat (xs.length + (cn + own_sg lv)))), .val (.ref q), s4, s5, s6, .val (.int (Int32.ofNat ((xs.length + (cn + own_sg lv)) - cn))), .val (.int ng), s9, s10] []) := by
    intro T197 L197 h197 X197 e197 N197 K8 ng hng ma mb s10 ix s4 s5 s6 s9 g6 g9 Aq8
    have Z197 : n0 ≤ h197.size := Nat.le_trans Z0 K8.1
    have K197c := K0.trans K8 (allS (Or.inl (List.mem_of_getElem? (i := 0) rfl)) all0)
    refine own_by (fun _ k => XS.iload X197.here hx rfl (hb hby d29_178) rfl k) ?_
    rcases hng with ⟨rfl, hn⟩ | ⟨rfl, hn⟩
    · show own_Go p e below _ T197 (mkF m 180 #[ma, mb, .val (.int (Int32.ofNat (xs.length + (cn + own_sg lv)))), .val (.ref q), s4, s5, s6, .val (.int (Int32.ofNat ((xs.length + (cn + own_sg lv)) - cn))), .val (.int (1 : Int32)), s9, s10] [(.int (1 : Int32))])
      refine own_by (fun _ k => XS.ifNo X197.here hx rfl (hb hby d29_180) rfl ((if0 _ _).trans (feq (by decide : ¬ ((1 : Int32) = (0 : Int32)))).1) k) ?_
      have hs1 : own_sg lv = 1 := by rw [own_sg, if_pos hn]
      refine own_by (fun _ k => XS.aloadN X197.here hx rfl (hb hby d29_183) rfl rfl k) ?_
      refine own_by (fun _ k => XS.iinc X197.here hx rfl (hb hby d29_184) rfl (l' := #[ma, mb, .val (.int (Int32.ofNat (xs.length + (cn + own_sg lv)))), .val (.ref q), s4, s5, s6, .val (.int ((Int32.ofNat ((xs.length + (cn + own_sg lv)) - cn)) + (-1 : Int32))), .val (.int (1 : Int32)), s9, s10]) rfl k) ?_
      show own_Go p e below _ T197 (mkF m 187 #[ma, mb, .val (.int (Int32.ofNat (xs.length + (cn + own_sg lv)))), .val (.ref q), s4, s5, s6, .val (.int ((Int32.ofNat ((xs.length + (cn + own_sg lv)) - cn)) + (-1 : Int32))), .val (.int (1 : Int32)), s9, s10] [(.ref q)])
      rw [show Int32.ofNat ((xs.length + (cn + own_sg lv)) - cn) + (-1 : Int32) = Int32.ofNat xs.length from own_dec' (by omega) (by omega) (by omega)]
      show own_Go p e below _ T197 (mkF m 187 #[ma, mb, .val (.int (Int32.ofNat (xs.length + (cn + own_sg lv)))), .val (.ref q), s4, s5, s6, .val (.int (Int32.ofNat xs.length)), .val (.int (1 : Int32)), s9, s10] [(.ref q)])
      refine own_by (fun _ k => XS.iload X197.here hx rfl (hb hby d29_187) rfl k) ?_
      refine own_by (fun _ k => XS.bipush X197.here hx rfl (hb hby d29_189) k) ?_
      have hE : (xs.length + (cn + own_sg lv)) = xs.length + 1 + cn := by omega
      obtain ⟨cl198, Ar198, cq198, hin198, hat198, set198⟩ := own_arv Aq8 (j := (Int32.ofNat xs.length)) (own_inb (by omega) (by omega))
      obtain ⟨T199, h199, X199, e199, W199, st199⟩ := stB X197 hx hZ e197 Ar198 (j := (Int32.ofNat xs.length)) hin198 (g := (mkF m 191 #[ma, mb, .val (.int (Int32.ofNat (xs.length + (cn + own_sg lv)))), .val (.ref q), s4, s5, s6, .val (.int (Int32.ofNat xs.length)), .val (.int (1 : Int32)), s9, s10] [(.int (45 : Int32)), (.int (Int32.ofNat xs.length)), (.ref q)])) rfl rfl (hb hby d29_191)
      have wq199 : nar .byte (45 : Int32) = 45 := (by decide)
      rw [wq199] at W199
      have wf199 : fits .byte (.int 45) = true := wq199 ▸ (fits_nar_byte _)
      have V199 : Arv Z h199 q kq .byte (Int32.ofNat cap) ((own_pad cap (xs ++ own_txt lv cn)).map Value.int) (.int (0 : Int32)) := (by have q := set198 wf199 W199 xs.length (own_tn (show xs.length ≤ 100000 by omega)) (by rw [List.length_map]; first | (rw [own_putl, own_padl (by omega)]; omega) | (rw [own_padl (by omega)]; omega)); rw [own_mset, hE, own_done1 (show xs.length + 1 + cn ≤ cap by omega), show (45 :: own_num (own_abs lv) cn) = own_txt lv cn from (by rw [own_txt, if_pos hn])] at q; exact q)
      have N199 := Fr.snoc X199 N197 gq
      have KB200 := K8.wr W199 (Or.inl (List.mem_of_getElem? (i := 0) rfl))
      have K201 := K197c.wr W199 (Or.inl (List.mem_of_getElem? (i := 0) rfl))
      have Z199 : n0 ≤ h199.size := Nat.le_trans Z197 (Keep.of_wr W199).1
      refine own_by st199 ?_
      refine own_by (fun _ k => XS.iload X199.here hx rfl (hb hby d29_192) rfl k) ?_
      exact own_retI X199 hx hlk hret  (hb hby d29_194) (by first | exact ⟨_, rfl, N199, K201, V199⟩ | (rw [e199]; exact ⟨_, rfl, N199, K201, V199⟩)) (by decide) (by decide)
    · show own_Go p e below _ T197 (mkF m 180 #[ma, mb, .val (.int (Int32.ofNat (xs.length + (cn + own_sg lv)))), .val (.ref q), s4, s5, s6, .val (.int (Int32.ofNat ((xs.length + (cn + own_sg lv)) - cn))), .val (.int (0 : Int32)), s9, s10] [(.int (0 : Int32))])
      refine own_by (fun _ k => XS.ifYes X197.here hx rfl (pc0 := 180) (pc' := 192) rfl (hb hby d29_180) rfl ((if0 _ _).trans (teq (rfl : (0 : Int32) = (0 : Int32))).1) (by decide) (by decide) k) ?_
      refine own_by (fun _ k => XS.iload X197.here hx rfl (hb hby d29_192) rfl k) ?_
      have hs0 : own_sg lv = 0 := by rw [own_sg, if_neg hn]
      have hE : (xs.length + (cn + own_sg lv)) = xs.length + 0 + cn := by omega
      rw [hE, own_done0 (by omega), show own_num (own_abs lv) cn = own_txt lv cn from (by rw [own_txt, if_neg hn])] at Aq8
      exact own_retI X197 hx hlk hret  (hb hby d29_194) (by first | exact ⟨_, rfl, N197, K197c, Aq8⟩ | (rw [e197]; exact ⟨_, rfl, N197, K197c, Aq8⟩)) (by decide) (by decide)
  have J143 : ∀ (T202 : State) (L202 : List Loc) (h202 : Heap) (X202 : Stand p l e ({ frames := 0, cells := 0, slots := 0, locals := 0 } : Room) s m #[(.long lv), (.int (Int32.ofNat (xs.length + (cn + own_sg lv)))), (.ref q)] below meth c T202 L202 0 0) (e202 : T202.heap = h202) (N202 : Fr n0 L202) (K8 : Keep h0 h202 [q])  (ng : Int32) (hng : (ng = 1 ∧ lv < 0) ∨ (ng = 0 ∧ ¬ lv < 0)) (ma : Slot) (mb : Slot) (s4 : Slot) (s5 : Slot) (s6 : Slot) (s9 : Slot) (g6 : One s6) (g9 : One s9) (nk N : Nat) (hN : own_abs lv / 10 ^ nk = N) (hk : nk = 0 ∨ 1 ≤ own_abs lv / 10 ^ nk) (ii : Int32) (hii : ii.toInt = -(N : Int)) (hN1 : own_abs lv / 10 ^ nk < 100) (Aq8 : Arv Z h202 q kq .byte (Int32.ofNat cap) ((own_put (own_pad cap xs) (xs.length + (cn + own_sg lv)) (own_abs lv) nk).map Value.int) (.int 0)), own_Go p e below (own_End s ({ frames := 0, cells := 0, slots := 0, locals := 0 } : Room).cells ({ frames := 0, cells := 0, slots := 0, locals := 0 } : Room).slots (Q_rm29 Z q kq cap xs lv cn w1 d1 d2 kd1 kd2 fm h0 n0)) T202 (mkF m 143 #[ma, mb, .val (.int (Int32.ofNat (xs.length + (cn + own_sg lv)))), .val (.ref q), s4, s5, s6, .val (.int (Int32.ofNat ((xs.length + (cn + own_sg lv)) - nk))), .val (.int ng), s9, .val (.int ii)] []) := by
    intro T202 L202 h202 X202 e202 N202 K8 ng hng ma mb s4 s5 s6 s9 g6 g9 nk N hN hk ii hii hN1 Aq8
    have Z202 : n0 ≤ h202.size := Nat.le_trans Z0 K8.1
    have K202c := K0.trans K8 (allS (Or.inl (List.mem_of_getElem? (i := 0) rfl)) all0)
    have hkc := own_kc hC hk
    show own_Go p e below _ T202 (mkF m 143 #[ma, mb, .val (.int (Int32.ofNat (xs.length + (cn + own_sg lv)))), .val (.ref q), s4, s5, s6, .val (.int (Int32.ofNat ((xs.length + (cn + own_sg lv)) - nk))), .val (.int ng), s9, .val (.int ii)] [])
    subst hN
    refine own_by (fun _ k => XS.aloadN X202.here hx rfl (hb hby d29_143) rfl rfl k) ?_
    refine own_by (fun _ k => XS.iinc X202.here hx rfl (hb hby d29_144) rfl (l' := #[ma, mb, .val (.int (Int32.ofNat (xs.length + (cn + own_sg lv)))), .val (.ref q), s4, s5, s6, .val (.int ((Int32.ofNat ((xs.length + (cn + own_sg lv)) - nk)) + (-1 : Int32))), .val (.int ng), s9, .val (.int ii)]) rfl k) ?_
    show own_Go p e below _ T202 (mkF m 147 #[ma, mb, .val (.int (Int32.ofNat (xs.length + (cn + own_sg lv)))), .val (.ref q), s4, s5, s6, .val (.int ((Int32.ofNat ((xs.length + (cn + own_sg lv)) - nk)) + (-1 : Int32))), .val (.int ng), s9, .val (.int ii)] [(.ref q)])
    rw [show Int32.ofNat ((xs.length + (cn + own_sg lv)) - nk) + (-1 : Int32) = Int32.ofNat ((xs.length + (cn + own_sg lv)) - 1 - nk) from own_dec' (by omega) (by omega) (by omega)]
    show own_Go p e below _ T202 (mkF m 147 #[ma, mb, .val (.int (Int32.ofNat (xs.length + (cn + own_sg lv)))), .val (.ref q), s4, s5, s6, .val (.int (Int32.ofNat ((xs.length + (cn + own_sg lv)) - 1 - nk))), .val (.int ng), s9, .val (.int ii)] [(.ref q)])
    refine own_by (fun _ k => XS.iload X202.here hx rfl (hb hby d29_147) rfl k) ?_
    have hk204 : own_K Z h202 := own_KW hkz K202c (allS (Nat.le_trans hz gq) all0)
    have SD203 := (own_staZ TB.2.2.1 hk204)
    obtain ⟨T205, X205, e205, st205⟩ := getS2 X202 hx hZ hown (host := "") (Or.inl (hw _ (List.mem_of_getElem? (i := 199) rfl))) Via.refl e202 SD203 (g := (mkF m 149 #[ma, mb, .val (.int (Int32.ofNat (xs.length + (cn + own_sg lv)))), .val (.ref q), s4, s5, s6, .val (.int (Int32.ofNat ((xs.length + (cn + own_sg lv)) - 1 - nk))), .val (.int ng), s9, .val (.int ii)] [(.int (Int32.ofNat ((xs.length + (cn + own_sg lv)) - 1 - nk))), (.ref q)])) rfl (hb hby d29_149)
    refine own_by st205 ?_
    have AD203 := own_arvZ TB.2.2.2.2.1 hk204
    refine own_by (fun _ k => XS.iload X205.here hx rfl (hb hby d29_152) rfl k) ?_
    refine own_by (fun _ k => XS.ineg X205.here hx rfl (hb hby d29_154) rfl k) ?_
    show own_Go p e below _ T205 (mkF m 155 #[ma, mb, .val (.int (Int32.ofNat (xs.length + (cn + own_sg lv)))), .val (.ref q), s4, s5, s6, .val (.int (Int32.ofNat ((xs.length + (cn + own_sg lv)) - 1 - nk))), .val (.int ng), s9, .val (.int ii)] [(.int (-ii)), (.ref d1), (.int (Int32.ofNat ((xs.length + (cn + own_sg lv)) - 1 - nk))), (.ref q)])
    rw [show (-ii) = (Int32.ofNat (own_abs lv / 10 ^ nk)) from own_ineg hii (by omega)]
    obtain ⟨cl206, Ar206, cq206, hin206, hat206, set206⟩ := own_arv AD203 (j := (Int32.ofNat (own_abs lv / 10 ^ nk))) (own_inb (by decide) (show (own_abs lv / 10 ^ nk) < own_ones.length by show _ < 100; omega))
    refine own_by (fun _ k => X205.baloadBytes hx (j := (Int32.ofNat (own_abs lv / 10 ^ nk))) (v := (.int (own_ones.getD (own_abs lv / 10 ^ nk) 0))) (by rw [e205]; exact Ar206.1) (State.isArrayOf_alike hZ.alike Ar206.2.1) Ar206.2.2 hin206 (by rw [hat206]; exact congrArg some (own_gd own_ones (by omega))) (g := (mkF m 155 #[ma, mb, .val (.int (Int32.ofNat (xs.length + (cn + own_sg lv)))), .val (.ref q), s4, s5, s6, .val (.int (Int32.ofNat ((xs.length + (cn + own_sg lv)) - 1 - nk))), .val (.int ng), s9, .val (.int ii)] [(.int (Int32.ofNat (own_abs lv / 10 ^ nk))), (.ref d1), (.int (Int32.ofNat ((xs.length + (cn + own_sg lv)) - 1 - nk))), (.ref q)])) rfl rfl (hb hby d29_155) _ k) ?_
    obtain ⟨cl207, Ar207, cq207, hin207, hat207, set207⟩ := own_arv Aq8 (j := (Int32.ofNat ((xs.length + (cn + own_sg lv)) - 1 - nk))) (own_inb (by omega) (by omega))
    obtain ⟨T208, h208, X208, e208, W208, st208⟩ := stB X205 hx hZ e205 Ar207 (j := (Int32.ofNat ((xs.length + (cn + own_sg lv)) - 1 - nk))) hin207 (g := (mkF m 156 #[ma, mb, .val (.int (Int32.ofNat (xs.length + (cn + own_sg lv)))), .val (.ref q), s4, s5, s6, .val (.int (Int32.ofNat ((xs.length + (cn + own_sg lv)) - 1 - nk))), .val (.int ng), s9, .val (.int ii)] [(.int (own_ones.getD (own_abs lv / 10 ^ nk) 0)), (.int (Int32.ofNat ((xs.length + (cn + own_sg lv)) - 1 - nk))), (.ref q)])) rfl rfl (hb hby d29_156)
    have wq208 : nar .byte (own_ones.getD (own_abs lv / 10 ^ nk) 0) = (own_dig (own_abs lv) nk) := (by rw [own_og hN1]; exact own_digb _ _)
    rw [wq208] at W208
    have wf208 : fits .byte (.int (own_dig (own_abs lv) nk)) = true := wq208 ▸ (fits_nar_byte _)
    have V208 : Arv Z h208 q kq .byte (Int32.ofNat cap) ((own_put (own_pad cap xs) (xs.length + (cn + own_sg lv)) (own_abs lv) (nk + 1)).map Value.int) (.int (0 : Int32)) := (by have q := set207 wf208 W208 ((xs.length + (cn + own_sg lv)) - 1 - nk) (own_tn (show ((xs.length + (cn + own_sg lv)) - 1 - nk) ≤ 100000 by omega)) (by rw [List.length_map]; first | (rw [own_putl, own_padl (by omega)]; omega) | (rw [own_padl (by omega)]; omega)); rw [own_mset, show ((own_put (own_pad cap xs) (xs.length + (cn + own_sg lv)) (own_abs lv) nk).set ((xs.length + (cn + own_sg lv)) - 1 - nk) (own_dig (own_abs lv) nk)) = (own_put (own_pad cap xs) (xs.length + (cn + own_sg lv)) (own_abs lv) (nk + 1)) from rfl] at q; exact q)
    have N208 := Fr.snoc X208 N202 gq
    have KB209 := K8.wr W208 (Or.inl (List.mem_of_getElem? (i := 0) rfl))
    have K210 := K202c.wr W208 (Or.inl (List.mem_of_getElem? (i := 0) rfl))
    have Z208 : n0 ≤ h208.size := Nat.le_trans Z202 (Keep.of_wr W208).1
    refine own_by st208 ?_
    refine own_by (fun _ k => XS.iload X208.here hx rfl (hb hby d29_157) rfl k) ?_
    refine own_by (fun _ k => XS.bipush X208.here hx rfl (hb hby d29_159) k) ?_
    by_cases h9 : 9 < own_abs lv / 10 ^ nk
    · refine own_by (fun _ k => XS.icmpNo X208.here hx rfl (hb hby d29_161) rfl (tlt ((own_lt9 hii).mpr h9 : ii < (-9 : Int32))).2.1 k) ?_
      have hk2 := own_k2 hC (k := nk) (by omega)
      have hce := own_ce2 hC (k := nk) (by omega) hN1
      refine own_by (fun _ k => XS.aloadN X208.here hx rfl (hb hby d29_164) rfl rfl k) ?_
      refine own_by (fun _ k => XS.iinc X208.here hx rfl (hb hby d29_165) rfl (l' := #[ma, mb, .val (.int (Int32.ofNat (xs.length + (cn + own_sg lv)))), .val (.ref q), s4, s5, s6, .val (.int ((Int32.ofNat ((xs.length + (cn + own_sg lv)) - 1 - nk)) + (-1 : Int32))), .val (.int ng), s9, .val (.int ii)]) rfl k) ?_
      show own_Go p e below _ T208 (mkF m 168 #[ma, mb, .val (.int (Int32.ofNat (xs.length + (cn + own_sg lv)))), .val (.ref q), s4, s5, s6, .val (.int ((Int32.ofNat ((xs.length + (cn + own_sg lv)) - 1 - nk)) + (-1 : Int32))), .val (.int ng), s9, .val (.int ii)] [(.ref q)])
      rw [show Int32.ofNat ((xs.length + (cn + own_sg lv)) - 1 - nk) + (-1 : Int32) = Int32.ofNat ((xs.length + (cn + own_sg lv)) - 1 - (nk + 1)) from own_dec' (by omega) (by omega) (by omega)]
      show own_Go p e below _ T208 (mkF m 168 #[ma, mb, .val (.int (Int32.ofNat (xs.length + (cn + own_sg lv)))), .val (.ref q), s4, s5, s6, .val (.int (Int32.ofNat ((xs.length + (cn + own_sg lv)) - 1 - (nk + 1)))), .val (.int ng), s9, .val (.int ii)] [(.ref q)])
      refine own_by (fun _ k => XS.iload X208.here hx rfl (hb hby d29_168) rfl k) ?_
      have hk212 : own_K Z h208 := own_KW hkz K210 (allS (Nat.le_trans hz gq) all0)
      have SD211 := (own_staZ TB.2.2.2.1 hk212)
      obtain ⟨T213, X213, e213, st213⟩ := getS2 X208 hx hZ hown (host := "") (Or.inl (hw _ (List.mem_of_getElem? (i := 200) rfl))) Via.refl e208 SD211 (g := (mkF m 170 #[ma, mb, .val (.int (Int32.ofNat (xs.length + (cn + own_sg lv)))), .val (.ref q), s4, s5, s6, .val (.int (Int32.ofNat ((xs.length + (cn + own_sg lv)) - 1 - (nk + 1)))), .val (.int ng), s9, .val (.int ii)] [(.int (Int32.ofNat ((xs.length + (cn + own_sg lv)) - 1 - (nk + 1)))), (.ref q)])) rfl (hb hby d29_170)
      refine own_by st213 ?_
      have AD211 := own_arvZ TB.2.2.2.2.2.1 hk212
      refine own_by (fun _ k => XS.iload X213.here hx rfl (hb hby d29_173) rfl k) ?_
      refine own_by (fun _ k => XS.ineg X213.here hx rfl (hb hby d29_175) rfl k) ?_
      show own_Go p e below _ T213 (mkF m 176 #[ma, mb, .val (.int (Int32.ofNat (xs.length + (cn + own_sg lv)))), .val (.ref q), s4, s5, s6, .val (.int (Int32.ofNat ((xs.length + (cn + own_sg lv)) - 1 - (nk + 1)))), .val (.int ng), s9, .val (.int ii)] [(.int (-ii)), (.ref d2), (.int (Int32.ofNat ((xs.length + (cn + own_sg lv)) - 1 - (nk + 1)))), (.ref q)])
      rw [show (-ii) = (Int32.ofNat (own_abs lv / 10 ^ nk)) from own_ineg hii (by omega)]
      obtain ⟨cl214, Ar214, cq214, hin214, hat214, set214⟩ := own_arv AD211 (j := (Int32.ofNat (own_abs lv / 10 ^ nk))) (own_inb (by decide) (show (own_abs lv / 10 ^ nk) < own_tens.length by show _ < 100; omega))
      refine own_by (fun _ k => X213.baloadBytes hx (j := (Int32.ofNat (own_abs lv / 10 ^ nk))) (v := (.int (own_tens.getD (own_abs lv / 10 ^ nk) 0))) (by rw [e213]; exact Ar214.1) (State.isArrayOf_alike hZ.alike Ar214.2.1) Ar214.2.2 hin214 (by rw [hat214]; exact congrArg some (own_gd own_tens (by omega))) (g := (mkF m 176 #[ma, mb, .val (.int (Int32.ofNat (xs.length + (cn + own_sg lv)))), .val (.ref q), s4, s5, s6, .val (.int (Int32.ofNat ((xs.length + (cn + own_sg lv)) - 1 - (nk + 1)))), .val (.int ng), s9, .val (.int ii)] [(.int (Int32.ofNat (own_abs lv / 10 ^ nk))), (.ref d2), (.int (Int32.ofNat ((xs.length + (cn + own_sg lv)) - 1 - (nk + 1)))), (.ref q)])) rfl rfl (hb hby d29_176) _ k) ?_
      obtain ⟨cl215, Ar215, cq215, hin215, hat215, set215⟩ := own_arv V208 (j := (Int32.ofNat ((xs.length + (cn + own_sg lv)) - 1 - (nk + 1)))) (own_inb (by omega) (by omega))
      obtain ⟨T216, h216, X216, e216, W216, st216⟩ := stB X213 hx hZ e213 Ar215 (j := (Int32.ofNat ((xs.length + (cn + own_sg lv)) - 1 - (nk + 1)))) hin215 (g := (mkF m 177 #[ma, mb, .val (.int (Int32.ofNat (xs.length + (cn + own_sg lv)))), .val (.ref q), s4, s5, s6, .val (.int (Int32.ofNat ((xs.length + (cn + own_sg lv)) - 1 - (nk + 1)))), .val (.int ng), s9, .val (.int ii)] [(.int (own_tens.getD (own_abs lv / 10 ^ nk) 0)), (.int (Int32.ofNat ((xs.length + (cn + own_sg lv)) - 1 - (nk + 1)))), (.ref q)])) rfl rfl (hb hby d29_177)
      have wq216 : nar .byte (own_tens.getD (own_abs lv / 10 ^ nk) 0) = (own_dig (own_abs lv) (nk + 1)) := (by rw [own_tg hN1, ← own_d3 hN1]; exact own_digb _ _)
      rw [wq216] at W216
      have wf216 : fits .byte (.int (own_dig (own_abs lv) (nk + 1))) = true := wq216 ▸ (fits_nar_byte _)
      have V216 : Arv Z h216 q kq .byte (Int32.ofNat cap) ((own_put (own_pad cap xs) (xs.length + (cn + own_sg lv)) (own_abs lv) ((nk + 1) + 1)).map Value.int) (.int (0 : Int32)) := (by have q := set215 wf216 W216 ((xs.length + (cn + own_sg lv)) - 1 - (nk + 1)) (own_tn (show ((xs.length + (cn + own_sg lv)) - 1 - (nk + 1)) ≤ 100000 by omega)) (by rw [List.length_map]; first | (rw [own_putl, own_padl (by omega)]; omega) | (rw [own_padl (by omega)]; omega)); rw [own_mset, show ((own_put (own_pad cap xs) (xs.length + (cn + own_sg lv)) (own_abs lv) (nk + 1)).set ((xs.length + (cn + own_sg lv)) - 1 - (nk + 1)) (own_dig (own_abs lv) (nk + 1))) = (own_put (own_pad cap xs) (xs.length + (cn + own_sg lv)) (own_abs lv) ((nk + 1) + 1)) from rfl] at q; exact q)
      have N216 := Fr.snoc X216 N208 gq
      have KB217 := KB209.wr W216 (Or.inl (List.mem_of_getElem? (i := 0) rfl))
      have K218 := K210.wr W216 (Or.inl (List.mem_of_getElem? (i := 0) rfl))
      have Z216 : n0 ≤ h216.size := Nat.le_trans Z208 (Keep.of_wr W216).1
      refine own_by st216 ?_
      show own_Go p e below _ T216 (mkF m 178 #[ma, mb, .val (.int (Int32.ofNat (xs.length + (cn + own_sg lv)))), .val (.ref q), s4, s5, s6, .val (.int (Int32.ofNat ((xs.length + (cn + own_sg lv)) - 1 - (nk + 1)))), .val (.int ng), s9, .val (.int ii)] [])
      rw [show (xs.length + (cn + own_sg lv)) - 1 - (nk + 1) = (xs.length + (cn + own_sg lv)) - cn by omega]
      rw [show nk + 1 + 1 = cn by omega] at V216
      exact J178 T216 _ h216 X216 e216 N216 KB217 ng hng _ _ _ (.unset) _ _ _ _ g6 g9 V216
    · refine own_by (fun _ k => XS.icmpYes X208.here hx rfl (pc0 := 161) (pc' := 178) rfl (hb hby d29_161) rfl (flt (fun z => h9 ((own_lt9 hii).mp z) : ¬ (ii < (-9 : Int32)))).2.1 (by decide) (by decide) k) ?_
      have hce := own_ce hC hk (by omega)
      show own_Go p e below _ T208 (mkF m 178 #[ma, mb, .val (.int (Int32.ofNat (xs.length + (cn + own_sg lv)))), .val (.ref q), s4, s5, s6, .val (.int (Int32.ofNat ((xs.length + (cn + own_sg lv)) - 1 - nk))), .val (.int ng), s9, .val (.int ii)] [])
      rw [show (xs.length + (cn + own_sg lv)) - 1 - nk = (xs.length + (cn + own_sg lv)) - cn by omega]
      rw [show nk + 1 = cn by omega] at V208
      exact J178 T208 _ h208 X208 e208 N208 KB209 ng hng _ _ _ (.unset) _ _ _ _ g6 g9 V208
  have J86 : ∀ (r : Nat) (T219 : State) (L219 : List Loc) (h219 : Heap) (X219 : Stand p l e ({ frames := 0, cells := 0, slots := 0, locals := 0 } : Room) s m #[(.long lv), (.int (Int32.ofNat (xs.length + (cn + own_sg lv)))), (.ref q)] below meth c T219 L219 0 0) (e219 : T219.heap = h219) (N219 : Fr n0 L219) (K8 : Keep h0 h219 [q]) (ng : Int32) (hng : (ng = 1 ∧ lv < 0) ∨ (ng = 0 ∧ ¬ lv < 0)) (ma : Slot) (mb : Slot) (s4 : Slot) (s5 : Slot) (s6 : Slot) (s9 : Slot) (g6 : One s6) (g9 : One s9) (nk N : Nat) (hN : own_abs lv / 10 ^ nk = N) (hk : nk = 0 ∨ 1 ≤ own_abs lv / 10 ^ nk) (ii : Int32) (hii : ii.toInt = -(N : Int)) (hr : 20 ≤ nk + r) (hNb : N ≤ 2147483648) (Aq8 : Arv Z h219 q kq .byte (Int32.ofNat cap) ((own_put (own_pad cap xs) (xs.length + (cn + own_sg lv)) (own_abs lv) nk).map Value.int) (.int 0)) , own_Go p e below (own_End s ({ frames := 0, cells := 0, slots := 0, locals := 0 } : Room).cells ({ frames := 0, cells := 0, slots := 0, locals := 0 } : Room).slots (Q_rm29 Z q kq cap xs lv cn w1 d1 d2 kd1 kd2 fm h0 n0)) T219 (mkF m 86 #[ma, mb, .val (.int (Int32.ofNat (xs.length + (cn + own_sg lv)))), .val (.ref q), s4, s5, s6, .val (.int (Int32.ofNat ((xs.length + (cn + own_sg lv)) - nk))), .val (.int ng), s9, .val (.int ii)] []) := by
    intro r
    induction r with
    | zero =>
      intro T219 L219 h219 X219 e219 N219 K8 ng hng ma mb s4 s5 s6 s9 g6 g9 nk N hN hk ii hii hr hNb Aq8
      have Z219 : n0 ≤ h219.size := Nat.le_trans Z0 K8.1
      have K219c := K0.trans K8 (allS (Or.inl (List.mem_of_getElem? (i := 0) rfl)) all0)
      have := own_k18 hab hk
      omega
    | succ r ih =>
      intro T219 L219 h219 X219 e219 N219 K8 ng hng ma mb s4 s5 s6 s9 g6 g9 nk N hN hk ii hii hr hNb Aq8
      have Z219 : n0 ≤ h219.size := Nat.le_trans Z0 K8.1
      have K219c := K0.trans K8 (allS (Or.inl (List.mem_of_getElem? (i := 0) rfl)) all0)
      show own_Go p e below _ T219 (mkF m 86 #[ma, mb, .val (.int (Int32.ofNat (xs.length + (cn + own_sg lv)))), .val (.ref q), s4, s5, s6, .val (.int (Int32.ofNat ((xs.length + (cn + own_sg lv)) - nk))), .val (.int ng), s9, .val (.int ii)] [])
      refine own_by (fun _ k => XS.iload X219.here hx rfl (hb hby d29_86) rfl k) ?_
      refine own_by (fun _ k => XS.bipush X219.here hx rfl (hb hby d29_88) k) ?_
      by_cases h100 : N < 100
      · refine own_by (fun _ k => XS.icmpYes X219.here hx rfl (pc0 := 90) (pc' := 143) rfl (hb hby d29_90) rfl (tlt ((own_gt100 hii).mpr h100 : (-100 : Int32) < ii)).2.2.1 (by decide) (by decide) k) ?_
        exact J143 T219 _ h219 X219 e219 N219 K8 ng hng _ _ _ _ _ _ g6 g9 nk N hN hk ii hii (by omega) Aq8
      · refine own_by (fun _ k => XS.icmpNo X219.here hx rfl (hb hby d29_90) rfl (flt (fun z => h100 ((own_gt100 hii).mp z) : ¬ ((-100 : Int32) < ii))).2.2.1 k) ?_
        have hk2 := own_k2 hC (k := nk) (by omega)
        refine own_by (fun _ k => XS.iload X219.here hx rfl (hb hby d29_93) rfl k) ?_
        refine own_by (fun _ k => XS.bipush X219.here hx rfl (hb hby d29_95) k) ?_
        refine own_by (fun _ k => XS.idiv X219.here hx rfl (hb hby d29_97) rfl (by decide) k) ?_
        refine own_by (fun _ k => XS.istoreS X219.here hx rfl (hb hby d29_98) rfl rfl g9 k) ?_
        refine own_by (fun _ k => XS.iload X219.here hx rfl (hb hby d29_100) rfl k) ?_
        refine own_by (fun _ k => XS.bipush X219.here hx rfl (hb hby d29_102) k) ?_
        show own_Go p e below _ T219 (mkF m 104 #[ma, mb, .val (.int (Int32.ofNat (xs.length + (cn + own_sg lv)))), .val (.ref q), s4, s5, s6, .val (.int (Int32.ofNat ((xs.length + (cn + own_sg lv)) - nk))), .val (.int ng), .val (.int (ii / (100 : Int32))), .val (.int ii)] [(.int (100 : Int32)), (.int (ii / (100 : Int32)))])
        refine own_by (fun _ k => XS.imul X219.here hx rfl (hb hby d29_104) rfl k) ?_
        refine own_by (fun _ k => XS.iload X219.here hx rfl (hb hby d29_105) rfl k) ?_
        refine own_by (fun _ k => XS.isub X219.here hx rfl (hb hby d29_107) rfl k) ?_
        show own_Go p e below _ T219 (mkF m 108 #[ma, mb, .val (.int (Int32.ofNat (xs.length + (cn + own_sg lv)))), .val (.ref q), s4, s5, s6, .val (.int (Int32.ofNat ((xs.length + (cn + own_sg lv)) - nk))), .val (.int ng), .val (.int (ii / (100 : Int32))), .val (.int ii)] [(.int (((ii / (100 : Int32)) * (100 : Int32)) - ii))])
        rw [show (((ii / (100 : Int32)) * (100 : Int32)) - ii) = (Int32.ofNat (N % 100)) from own_ir hii (by omega)]
        refine own_by (fun _ k => XS.istoreS X219.here hx rfl (hb hby d29_108) rfl rfl g6 k) ?_
        refine own_by (fun _ k => XS.iload X219.here hx rfl (hb hby d29_110) rfl k) ?_
        refine own_by (fun _ k => XS.istore X219.here hx rfl (hb hby d29_112) rfl (l' := #[ma, mb, .val (.int (Int32.ofNat (xs.length + (cn + own_sg lv)))), .val (.ref q), s4, s5, .val (.int (Int32.ofNat (N % 100))), .val (.int (Int32.ofNat ((xs.length + (cn + own_sg lv)) - nk))), .val (.int ng), .val (.int (ii / (100 : Int32))), .val (.int (ii / (100 : Int32)))]) rfl k) ?_
        refine own_by (fun _ k => XS.aloadN X219.here hx rfl (hb hby d29_114) rfl rfl k) ?_
        refine own_by (fun _ k => XS.iinc X219.here hx rfl (hb hby d29_115) rfl (l' := #[ma, mb, .val (.int (Int32.ofNat (xs.length + (cn + own_sg lv)))), .val (.ref q), s4, s5, .val (.int (Int32.ofNat (N % 100))), .val (.int ((Int32.ofNat ((xs.length + (cn + own_sg lv)) - nk)) + (-1 : Int32))), .val (.int ng), .val (.int (ii / (100 : Int32))), .val (.int (ii / (100 : Int32)))]) rfl k) ?_
        show own_Go p e below _ T219 (mkF m 118 #[ma, mb, .val (.int (Int32.ofNat (xs.length + (cn + own_sg lv)))), .val (.ref q), s4, s5, .val (.int (Int32.ofNat (N % 100))), .val (.int ((Int32.ofNat ((xs.length + (cn + own_sg lv)) - nk)) + (-1 : Int32))), .val (.int ng), .val (.int (ii / (100 : Int32))), .val (.int (ii / (100 : Int32)))] [(.ref q)])
        rw [show Int32.ofNat ((xs.length + (cn + own_sg lv)) - nk) + (-1 : Int32) = Int32.ofNat ((xs.length + (cn + own_sg lv)) - 1 - nk) from own_dec' (by omega) (by omega) (by omega)]
        show own_Go p e below _ T219 (mkF m 118 #[ma, mb, .val (.int (Int32.ofNat (xs.length + (cn + own_sg lv)))), .val (.ref q), s4, s5, .val (.int (Int32.ofNat (N % 100))), .val (.int (Int32.ofNat ((xs.length + (cn + own_sg lv)) - 1 - nk))), .val (.int ng), .val (.int (ii / (100 : Int32))), .val (.int (ii / (100 : Int32)))] [(.ref q)])
        refine own_by (fun _ k => XS.iload X219.here hx rfl (hb hby d29_118) rfl k) ?_
        have hk221 : own_K Z h219 := own_KW hkz K219c (allS (Nat.le_trans hz gq) all0)
        have SD220 := (own_staZ TB.2.2.1 hk221)
        obtain ⟨T222, X222, e222, st222⟩ := getS2 X219 hx hZ hown (host := "") (Or.inl (hw _ (List.mem_of_getElem? (i := 199) rfl))) Via.refl e219 SD220 (g := (mkF m 120 #[ma, mb, .val (.int (Int32.ofNat (xs.length + (cn + own_sg lv)))), .val (.ref q), s4, s5, .val (.int (Int32.ofNat (N % 100))), .val (.int (Int32.ofNat ((xs.length + (cn + own_sg lv)) - 1 - nk))), .val (.int ng), .val (.int (ii / (100 : Int32))), .val (.int (ii / (100 : Int32)))] [(.int (Int32.ofNat ((xs.length + (cn + own_sg lv)) - 1 - nk))), (.ref q)])) rfl (hb hby d29_120)
        refine own_by st222 ?_
        have AD220 := own_arvZ TB.2.2.2.2.1 hk221
        refine own_by (fun _ k => XS.iload X222.here hx rfl (hb hby d29_123) rfl k) ?_
        obtain ⟨cl223, Ar223, cq223, hin223, hat223, set223⟩ := own_arv AD220 (j := (Int32.ofNat (N % 100))) (own_inb (by decide) (show (N % 100) < own_ones.length by show _ < 100; omega))
        refine own_by (fun _ k => X222.baloadBytes hx (j := (Int32.ofNat (N % 100))) (v := (.int (own_ones.getD (N % 100) 0))) (by rw [e222]; exact Ar223.1) (State.isArrayOf_alike hZ.alike Ar223.2.1) Ar223.2.2 hin223 (by rw [hat223]; exact congrArg some (own_gd own_ones (by omega))) (g := (mkF m 125 #[ma, mb, .val (.int (Int32.ofNat (xs.length + (cn + own_sg lv)))), .val (.ref q), s4, s5, .val (.int (Int32.ofNat (N % 100))), .val (.int (Int32.ofNat ((xs.length + (cn + own_sg lv)) - 1 - nk))), .val (.int ng), .val (.int (ii / (100 : Int32))), .val (.int (ii / (100 : Int32)))] [(.int (Int32.ofNat (N % 100))), (.ref d1), (.int (Int32.ofNat ((xs.length + (cn + own_sg lv)) - 1 - nk))), (.ref q)])) rfl rfl (hb hby d29_125) _ k) ?_
        obtain ⟨cl224, Ar224, cq224, hin224, hat224, set224⟩ := own_arv Aq8 (j := (Int32.ofNat ((xs.length + (cn + own_sg lv)) - 1 - nk))) (own_inb (by omega) (by omega))
        obtain ⟨T225, h225, X225, e225, W225, st225⟩ := stB X222 hx hZ e222 Ar224 (j := (Int32.ofNat ((xs.length + (cn + own_sg lv)) - 1 - nk))) hin224 (g := (mkF m 126 #[ma, mb, .val (.int (Int32.ofNat (xs.length + (cn + own_sg lv)))), .val (.ref q), s4, s5, .val (.int (Int32.ofNat (N % 100))), .val (.int (Int32.ofNat ((xs.length + (cn + own_sg lv)) - 1 - nk))), .val (.int ng), .val (.int (ii / (100 : Int32))), .val (.int (ii / (100 : Int32)))] [(.int (own_ones.getD (N % 100) 0)), (.int (Int32.ofNat ((xs.length + (cn + own_sg lv)) - 1 - nk))), (.ref q)])) rfl rfl (hb hby d29_126)
        have wq225 : nar .byte (own_ones.getD (N % 100) 0) = (own_dig (own_abs lv) nk) := (by rw [own_og (by omega), ← hN, ← own_d1]; exact own_digb _ _)
        rw [wq225] at W225
        have wf225 : fits .byte (.int (own_dig (own_abs lv) nk)) = true := wq225 ▸ (fits_nar_byte _)
        have V225 : Arv Z h225 q kq .byte (Int32.ofNat cap) ((own_put (own_pad cap xs) (xs.length + (cn + own_sg lv)) (own_abs lv) (nk + 1)).map Value.int) (.int (0 : Int32)) := (by have q := set224 wf225 W225 ((xs.length + (cn + own_sg lv)) - 1 - nk) (own_tn (show ((xs.length + (cn + own_sg lv)) - 1 - nk) ≤ 100000 by omega)) (by rw [List.length_map]; first | (rw [own_putl, own_padl (by omega)]; omega) | (rw [own_padl (by omega)]; omega)); rw [own_mset, show ((own_put (own_pad cap xs) (xs.length + (cn + own_sg lv)) (own_abs lv) nk).set ((xs.length + (cn + own_sg lv)) - 1 - nk) (own_dig (own_abs lv) nk)) = (own_put (own_pad cap xs) (xs.length + (cn + own_sg lv)) (own_abs lv) (nk + 1)) from rfl] at q; exact q)
        have N225 := Fr.snoc X225 N219 gq
        have KB226 := K8.wr W225 (Or.inl (List.mem_of_getElem? (i := 0) rfl))
        have K227 := K219c.wr W225 (Or.inl (List.mem_of_getElem? (i := 0) rfl))
        have Z225 : n0 ≤ h225.size := Nat.le_trans Z219 (Keep.of_wr W225).1
        refine own_by st225 ?_
        refine own_by (fun _ k => XS.aloadN X225.here hx rfl (hb hby d29_127) rfl rfl k) ?_
        refine own_by (fun _ k => XS.iinc X225.here hx rfl (hb hby d29_128) rfl (l' := #[ma, mb, .val (.int (Int32.ofNat (xs.length + (cn + own_sg lv)))), .val (.ref q), s4, s5, .val (.int (Int32.ofNat (N % 100))), .val (.int ((Int32.ofNat ((xs.length + (cn + own_sg lv)) - 1 - nk)) + (-1 : Int32))), .val (.int ng), .val (.int (ii / (100 : Int32))), .val (.int (ii / (100 : Int32)))]) rfl k) ?_
        show own_Go p e below _ T225 (mkF m 131 #[ma, mb, .val (.int (Int32.ofNat (xs.length + (cn + own_sg lv)))), .val (.ref q), s4, s5, .val (.int (Int32.ofNat (N % 100))), .val (.int ((Int32.ofNat ((xs.length + (cn + own_sg lv)) - 1 - nk)) + (-1 : Int32))), .val (.int ng), .val (.int (ii / (100 : Int32))), .val (.int (ii / (100 : Int32)))] [(.ref q)])
        rw [show Int32.ofNat ((xs.length + (cn + own_sg lv)) - 1 - nk) + (-1 : Int32) = Int32.ofNat ((xs.length + (cn + own_sg lv)) - 1 - (nk + 1)) from own_dec' (by omega) (by omega) (by omega)]
        show own_Go p e below _ T225 (mkF m 131 #[ma, mb, .val (.int (Int32.ofNat (xs.length + (cn + own_sg lv)))), .val (.ref q), s4, s5, .val (.int (Int32.ofNat (N % 100))), .val (.int (Int32.ofNat ((xs.length + (cn + own_sg lv)) - 1 - (nk + 1)))), .val (.int ng), .val (.int (ii / (100 : Int32))), .val (.int (ii / (100 : Int32)))] [(.ref q)])
        refine own_by (fun _ k => XS.iload X225.here hx rfl (hb hby d29_131) rfl k) ?_
        have hk229 : own_K Z h225 := own_KW hkz K227 (allS (Nat.le_trans hz gq) all0)
        have SD228 := (own_staZ TB.2.2.2.1 hk229)
        obtain ⟨T230, X230, e230, st230⟩ := getS2 X225 hx hZ hown (host := "") (Or.inl (hw _ (List.mem_of_getElem? (i := 200) rfl))) Via.refl e225 SD228 (g := (mkF m 133 #[ma, mb, .val (.int (Int32.ofNat (xs.length + (cn + own_sg lv)))), .val (.ref q), s4, s5, .val (.int (Int32.ofNat (N % 100))), .val (.int (Int32.ofNat ((xs.length + (cn + own_sg lv)) - 1 - (nk + 1)))), .val (.int ng), .val (.int (ii / (100 : Int32))), .val (.int (ii / (100 : Int32)))] [(.int (Int32.ofNat ((xs.length + (cn + own_sg lv)) - 1 - (nk + 1)))), (.ref q)])) rfl (hb hby d29_133)
        refine own_by st230 ?_
        have AD228 := own_arvZ TB.2.2.2.2.2.1 hk229
        refine own_by (fun _ k => XS.iload X230.here hx rfl (hb hby d29_136) rfl k) ?_
        obtain ⟨cl231, Ar231, cq231, hin231, hat231, set231⟩ := own_arv AD228 (j := (Int32.ofNat (N % 100))) (own_inb (by decide) (show (N % 100) < own_tens.length by show _ < 100; omega))
        refine own_by (fun _ k => X230.baloadBytes hx (j := (Int32.ofNat (N % 100))) (v := (.int (own_tens.getD (N % 100) 0))) (by rw [e230]; exact Ar231.1) (State.isArrayOf_alike hZ.alike Ar231.2.1) Ar231.2.2 hin231 (by rw [hat231]; exact congrArg some (own_gd own_tens (by omega))) (g := (mkF m 138 #[ma, mb, .val (.int (Int32.ofNat (xs.length + (cn + own_sg lv)))), .val (.ref q), s4, s5, .val (.int (Int32.ofNat (N % 100))), .val (.int (Int32.ofNat ((xs.length + (cn + own_sg lv)) - 1 - (nk + 1)))), .val (.int ng), .val (.int (ii / (100 : Int32))), .val (.int (ii / (100 : Int32)))] [(.int (Int32.ofNat (N % 100))), (.ref d2), (.int (Int32.ofNat ((xs.length + (cn + own_sg lv)) - 1 - (nk + 1)))), (.ref q)])) rfl rfl (hb hby d29_138) _ k) ?_
        obtain ⟨cl232, Ar232, cq232, hin232, hat232, set232⟩ := own_arv V225 (j := (Int32.ofNat ((xs.length + (cn + own_sg lv)) - 1 - (nk + 1)))) (own_inb (by omega) (by omega))
        obtain ⟨T233, h233, X233, e233, W233, st233⟩ := stB X230 hx hZ e230 Ar232 (j := (Int32.ofNat ((xs.length + (cn + own_sg lv)) - 1 - (nk + 1)))) hin232 (g := (mkF m 139 #[ma, mb, .val (.int (Int32.ofNat (xs.length + (cn + own_sg lv)))), .val (.ref q), s4, s5, .val (.int (Int32.ofNat (N % 100))), .val (.int (Int32.ofNat ((xs.length + (cn + own_sg lv)) - 1 - (nk + 1)))), .val (.int ng), .val (.int (ii / (100 : Int32))), .val (.int (ii / (100 : Int32)))] [(.int (own_tens.getD (N % 100) 0)), (.int (Int32.ofNat ((xs.length + (cn + own_sg lv)) - 1 - (nk + 1)))), (.ref q)])) rfl rfl (hb hby d29_139)
        have wq233 : nar .byte (own_tens.getD (N % 100) 0) = (own_dig (own_abs lv) (nk + 1)) := (by rw [own_tg (by omega), ← hN, ← own_d2]; exact own_digb _ _)
        rw [wq233] at W233
        have wf233 : fits .byte (.int (own_dig (own_abs lv) (nk + 1))) = true := wq233 ▸ (fits_nar_byte _)
        have V233 : Arv Z h233 q kq .byte (Int32.ofNat cap) ((own_put (own_pad cap xs) (xs.length + (cn + own_sg lv)) (own_abs lv) ((nk + 1) + 1)).map Value.int) (.int (0 : Int32)) := (by have q := set232 wf233 W233 ((xs.length + (cn + own_sg lv)) - 1 - (nk + 1)) (own_tn (show ((xs.length + (cn + own_sg lv)) - 1 - (nk + 1)) ≤ 100000 by omega)) (by rw [List.length_map]; first | (rw [own_putl, own_padl (by omega)]; omega) | (rw [own_padl (by omega)]; omega)); rw [own_mset, show ((own_put (own_pad cap xs) (xs.length + (cn + own_sg lv)) (own_abs lv) (nk + 1)).set ((xs.length + (cn + own_sg lv)) - 1 - (nk + 1)) (own_dig (own_abs lv) (nk + 1))) = (own_put (own_pad cap xs) (xs.length + (cn + own_sg lv)) (own_abs lv) ((nk + 1) + 1)) from rfl] at q; exact q)
        have N233 := Fr.snoc X233 N225 gq
        have KB234 := KB226.wr W233 (Or.inl (List.mem_of_getElem? (i := 0) rfl))
        have K235 := K227.wr W233 (Or.inl (List.mem_of_getElem? (i := 0) rfl))
        have Z233 : n0 ≤ h233.size := Nat.le_trans Z225 (Keep.of_wr W233).1
        refine own_by st233 ?_
        show own_Go p e below _ T233 (mkF m 140 #[ma, mb, .val (.int (Int32.ofNat (xs.length + (cn + own_sg lv)))), .val (.ref q), s4, s5, .val (.int (Int32.ofNat (N % 100))), .val (.int (Int32.ofNat ((xs.length + (cn + own_sg lv)) - 1 - (nk + 1)))), .val (.int ng), .val (.int (ii / (100 : Int32))), .val (.int (ii / (100 : Int32)))] [])
        rw [show (xs.length + (cn + own_sg lv)) - 1 - (nk + 1) = (xs.length + (cn + own_sg lv)) - (nk + 2) by omega]
        show own_Go p e below _ T233 (mkF m 140 #[ma, mb, .val (.int (Int32.ofNat (xs.length + (cn + own_sg lv)))), .val (.ref q), s4, s5, .val (.int (Int32.ofNat (N % 100))), .val (.int (Int32.ofNat ((xs.length + (cn + own_sg lv)) - (nk + 2)))), .val (.int ng), .val (.int (ii / (100 : Int32))), .val (.int (ii / (100 : Int32)))] [])
        refine own_by (fun _ k => XS.goto X233.here hx rfl (pc0 := 140) (pc' := 86) rfl (hb hby d29_140) (by decide) (by decide) k) ?_
        exact ih T233 _ h233 X233 e233 N233 KB234 ng hng _ _ _ _ _ _ (One.val rfl) (One.val rfl) (nk + 2) (N / 100) (by rw [own_N2, hN]) (Or.inr (by rw [own_N2, hN]; omega)) _ (own_id hii) (by omega) (by omega) V233
  have J24 : ∀ (r : Nat) (T236 : State) (L236 : List Loc) (h236 : Heap) (X236 : Stand p l e ({ frames := 0, cells := 0, slots := 0, locals := 0 } : Room) s m #[(.long lv), (.int (Int32.ofNat (xs.length + (cn + own_sg lv)))), (.ref q)] below meth c T236 L236 0 0) (e236 : T236.heap = h236) (N236 : Fr n0 L236) (K8 : Keep h0 h236 [q]) (ng : Int32) (hng : (ng = 1 ∧ lv < 0) ∨ (ng = 0 ∧ ¬ lv < 0)) (qq : Int64) (rr : Int32) (nk N : Nat) (hN : own_abs lv / 10 ^ nk = N) (hk : nk = 0 ∨ 1 ≤ own_abs lv / 10 ^ nk) (mm : Int64) (hm : mm.toInt = -(N : Int)) (hr : 20 ≤ nk + r) (hNl : N ≤ 9223372036854775808) (Aq8 : Arv Z h236 q kq .byte (Int32.ofNat cap) ((own_put (own_pad cap xs) (xs.length + (cn + own_sg lv)) (own_abs lv) nk).map Value.int) (.int 0)) , own_Go p e below (own_End s ({ frames := 0, cells := 0, slots := 0, locals := 0 } : Room).cells ({ frames := 0, cells := 0, slots := 0, locals := 0 } : Room).slots (Q_rm29 Z q kq cap xs lv cn w1 d1 d2 kd1 kd2 fm h0 n0)) T236 (mkF m 24 #[.val (.long mm), .second, .val (.int (Int32.ofNat (xs.length + (cn + own_sg lv)))), .val (.ref q), .val (.long qq), .second, .val (.int rr), .val (.int (Int32.ofNat ((xs.length + (cn + own_sg lv)) - nk))), .val (.int ng), .unset, .unset] []) := by
    intro r
    induction r with
    | zero =>
      intro T236 L236 h236 X236 e236 N236 K8 ng hng qq rr nk N hN hk mm hm hr hNl Aq8
      have Z236 : n0 ≤ h236.size := Nat.le_trans Z0 K8.1
      have K236c := K0.trans K8 (allS (Or.inl (List.mem_of_getElem? (i := 0) rfl)) all0)
      have := own_k18 hab hk
      omega
    | succ r ih =>
      intro T236 L236 h236 X236 e236 N236 K8 ng hng qq rr nk N hN hk mm hm hr hNl Aq8
      have Z236 : n0 ≤ h236.size := Nat.le_trans Z0 K8.1
      have K236c := K0.trans K8 (allS (Or.inl (List.mem_of_getElem? (i := 0) rfl)) all0)
      show own_Go p e below _ T236 (mkF m 24 #[.val (.long mm), .second, .val (.int (Int32.ofNat (xs.length + (cn + own_sg lv)))), .val (.ref q), .val (.long qq), .second, .val (.int rr), .val (.int (Int32.ofNat ((xs.length + (cn + own_sg lv)) - nk))), .val (.int ng), .unset, .unset] [])
      refine own_by (fun _ k => XS.lloadN X236.here hx rfl (hb hby d29_24) rfl k) ?_
      refine own_by (fun _ k => Stand.ldc2J X236 hx hown (mvT hZ (hw _ (List.mem_of_getElem? (i := 197) rfl))) rfl (hb hby d29_25) k) ?_
      refine own_by (fun _ k => XS.lcmp X236.here hx rfl (hb hby d29_28) rfl k) ?_
      by_cases h31 : N < 2147483648
      · refine own_by (fun _ k => XS.ifYes X236.here hx rfl (pc0 := 29) (pc' := 82) rfl (hb hby d29_29) rfl ((if0 _ _).trans (tlt ((lw_gt _ _).mpr ((own_gt31 hm).mpr h31) : (0 : Int32) < (lcmpW mm (-2147483648 : Int64)))).2.2.1) (by decide) (by decide) k) ?_
        refine own_by (fun _ k => XS.lloadN X236.here hx rfl (hb hby d29_82) rfl k) ?_
        refine own_by (fun _ k => XS.l2i X236.here hx rfl (hb hby d29_83) rfl k) ?_
        refine own_by (fun _ k => XS.istore X236.here hx rfl (hb hby d29_84) rfl (l' := #[.val (.long mm), .second, .val (.int (Int32.ofNat (xs.length + (cn + own_sg lv)))), .val (.ref q), .val (.long qq), .second, .val (.int rr), .val (.int (Int32.ofNat ((xs.length + (cn + own_sg lv)) - nk))), .val (.int ng), .unset, .val (.int (mm.toInt32))]) rfl k) ?_
        exact J86 20 T236 _ h236 X236 e236 N236 K8 ng hng _ _ _ _ _ _ (One.val rfl) One.u nk N hN hk _ (by rw [own_l2i (by omega)]; exact hm) (by omega) (by omega) Aq8
      · refine own_by (fun _ k => XS.ifNo X236.here hx rfl (hb hby d29_29) rfl ((if0 _ _).trans (flt (fun z => h31 ((own_gt31 hm).mp ((lw_gt _ _).mp z)) : ¬ ((0 : Int32) < (lcmpW mm (-2147483648 : Int64))))).2.2.1) k) ?_
        have hk2 := own_k2 hC (k := nk) (by omega)
        refine own_by (fun _ k => XS.lloadN X236.here hx rfl (hb hby d29_32) rfl k) ?_
        refine own_by (fun _ k => Stand.ldc2J X236 hx hown (mvT hZ (hw _ (List.mem_of_getElem? (i := 198) rfl))) rfl (hb hby d29_33) k) ?_
        refine own_by (fun _ k => XS.ldiv X236.here hx rfl (hb hby d29_36) rfl (by decide) k) ?_
        refine own_by (fun _ k => XS.lstore X236.here hx rfl (hb hby d29_37) rfl (l' := #[.val (.long mm), .second, .val (.int (Int32.ofNat (xs.length + (cn + own_sg lv)))), .val (.ref q), .val (.long (mm / (100 : Int64))), .second, .val (.int rr), .val (.int (Int32.ofNat ((xs.length + (cn + own_sg lv)) - nk))), .val (.int ng), .unset, .unset]) rfl k) ?_
        refine own_by (fun _ k => XS.lload X236.here hx rfl (hb hby d29_39) rfl k) ?_
        show own_Go p e below _ T236 (mkF m 41 #[.val (.long mm), .second, .val (.int (Int32.ofNat (xs.length + (cn + own_sg lv)))), .val (.ref q), .val (.long (mm / (100 : Int64))), .second, .val (.int rr), .val (.int (Int32.ofNat ((xs.length + (cn + own_sg lv)) - nk))), .val (.int ng), .unset, .unset] [(.long (mm / (100 : Int64)))])
        refine own_by (fun _ k => Stand.ldc2J X236 hx hown (mvT hZ (hw _ (List.mem_of_getElem? (i := 198) rfl))) rfl (hb hby d29_41) k) ?_
        refine own_by (fun _ k => XS.lmul X236.here hx rfl (hb hby d29_44) rfl k) ?_
        refine own_by (fun _ k => XS.lloadN X236.here hx rfl (hb hby d29_45) rfl k) ?_
        refine own_by (fun _ k => XS.lsub X236.here hx rfl (hb hby d29_46) rfl k) ?_
        refine own_by (fun _ k => XS.l2i X236.here hx rfl (hb hby d29_47) rfl k) ?_
        show own_Go p e below _ T236 (mkF m 48 #[.val (.long mm), .second, .val (.int (Int32.ofNat (xs.length + (cn + own_sg lv)))), .val (.ref q), .val (.long (mm / (100 : Int64))), .second, .val (.int rr), .val (.int (Int32.ofNat ((xs.length + (cn + own_sg lv)) - nk))), .val (.int ng), .unset, .unset] [(.int ((((mm / (100 : Int64)) * (100 : Int64)) - mm).toInt32))])
        rw [show ((((mm / (100 : Int64)) * (100 : Int64)) - mm).toInt32) = (Int32.ofNat (N % 100)) from own_lr hm (by omega)]
        refine own_by (fun _ k => XS.istore X236.here hx rfl (hb hby d29_48) rfl (l' := #[.val (.long mm), .second, .val (.int (Int32.ofNat (xs.length + (cn + own_sg lv)))), .val (.ref q), .val (.long (mm / (100 : Int64))), .second, .val (.int (Int32.ofNat (N % 100))), .val (.int (Int32.ofNat ((xs.length + (cn + own_sg lv)) - nk))), .val (.int ng), .unset, .unset]) rfl k) ?_
        refine own_by (fun _ k => XS.lload X236.here hx rfl (hb hby d29_50) rfl k) ?_
        refine own_by (fun _ k => XS.lstoreN X236.here hx rfl (hb hby d29_52) rfl (l' := #[.val (.long (mm / (100 : Int64))), .second, .val (.int (Int32.ofNat (xs.length + (cn + own_sg lv)))), .val (.ref q), .val (.long (mm / (100 : Int64))), .second, .val (.int (Int32.ofNat (N % 100))), .val (.int (Int32.ofNat ((xs.length + (cn + own_sg lv)) - nk))), .val (.int ng), .unset, .unset]) rfl k) ?_
        refine own_by (fun _ k => XS.aloadN X236.here hx rfl (hb hby d29_53) rfl rfl k) ?_
        refine own_by (fun _ k => XS.iinc X236.here hx rfl (hb hby d29_54) rfl (l' := #[.val (.long (mm / (100 : Int64))), .second, .val (.int (Int32.ofNat (xs.length + (cn + own_sg lv)))), .val (.ref q), .val (.long (mm / (100 : Int64))), .second, .val (.int (Int32.ofNat (N % 100))), .val (.int ((Int32.ofNat ((xs.length + (cn + own_sg lv)) - nk)) + (-1 : Int32))), .val (.int ng), .unset, .unset]) rfl k) ?_
        show own_Go p e below _ T236 (mkF m 57 #[.val (.long (mm / (100 : Int64))), .second, .val (.int (Int32.ofNat (xs.length + (cn + own_sg lv)))), .val (.ref q), .val (.long (mm / (100 : Int64))), .second, .val (.int (Int32.ofNat (N % 100))), .val (.int ((Int32.ofNat ((xs.length + (cn + own_sg lv)) - nk)) + (-1 : Int32))), .val (.int ng), .unset, .unset] [(.ref q)])
        rw [show Int32.ofNat ((xs.length + (cn + own_sg lv)) - nk) + (-1 : Int32) = Int32.ofNat ((xs.length + (cn + own_sg lv)) - 1 - nk) from own_dec' (by omega) (by omega) (by omega)]
        show own_Go p e below _ T236 (mkF m 57 #[.val (.long (mm / (100 : Int64))), .second, .val (.int (Int32.ofNat (xs.length + (cn + own_sg lv)))), .val (.ref q), .val (.long (mm / (100 : Int64))), .second, .val (.int (Int32.ofNat (N % 100))), .val (.int (Int32.ofNat ((xs.length + (cn + own_sg lv)) - 1 - nk))), .val (.int ng), .unset, .unset] [(.ref q)])
        refine own_by (fun _ k => XS.iload X236.here hx rfl (hb hby d29_57) rfl k) ?_
        have hk238 : own_K Z h236 := own_KW hkz K236c (allS (Nat.le_trans hz gq) all0)
        have SD237 := (own_staZ TB.2.2.1 hk238)
        obtain ⟨T239, X239, e239, st239⟩ := getS2 X236 hx hZ hown (host := "") (Or.inl (hw _ (List.mem_of_getElem? (i := 199) rfl))) Via.refl e236 SD237 (g := (mkF m 59 #[.val (.long (mm / (100 : Int64))), .second, .val (.int (Int32.ofNat (xs.length + (cn + own_sg lv)))), .val (.ref q), .val (.long (mm / (100 : Int64))), .second, .val (.int (Int32.ofNat (N % 100))), .val (.int (Int32.ofNat ((xs.length + (cn + own_sg lv)) - 1 - nk))), .val (.int ng), .unset, .unset] [(.int (Int32.ofNat ((xs.length + (cn + own_sg lv)) - 1 - nk))), (.ref q)])) rfl (hb hby d29_59)
        refine own_by st239 ?_
        have AD237 := own_arvZ TB.2.2.2.2.1 hk238
        refine own_by (fun _ k => XS.iload X239.here hx rfl (hb hby d29_62) rfl k) ?_
        obtain ⟨cl240, Ar240, cq240, hin240, hat240, set240⟩ := own_arv AD237 (j := (Int32.ofNat (N % 100))) (own_inb (by decide) (show (N % 100) < own_ones.length by show _ < 100; omega))
        refine own_by (fun _ k => X239.baloadBytes hx (j := (Int32.ofNat (N % 100))) (v := (.int (own_ones.getD (N % 100) 0))) (by rw [e239]; exact Ar240.1) (State.isArrayOf_alike hZ.alike Ar240.2.1) Ar240.2.2 hin240 (by rw [hat240]; exact congrArg some (own_gd own_ones (by omega))) (g := (mkF m 64 #[.val (.long (mm / (100 : Int64))), .second, .val (.int (Int32.ofNat (xs.length + (cn + own_sg lv)))), .val (.ref q), .val (.long (mm / (100 : Int64))), .second, .val (.int (Int32.ofNat (N % 100))), .val (.int (Int32.ofNat ((xs.length + (cn + own_sg lv)) - 1 - nk))), .val (.int ng), .unset, .unset] [(.int (Int32.ofNat (N % 100))), (.ref d1), (.int (Int32.ofNat ((xs.length + (cn + own_sg lv)) - 1 - nk))), (.ref q)])) rfl rfl (hb hby d29_64) _ k) ?_
        obtain ⟨cl241, Ar241, cq241, hin241, hat241, set241⟩ := own_arv Aq8 (j := (Int32.ofNat ((xs.length + (cn + own_sg lv)) - 1 - nk))) (own_inb (by omega) (by omega))
        obtain ⟨T242, h242, X242, e242, W242, st242⟩ := stB X239 hx hZ e239 Ar241 (j := (Int32.ofNat ((xs.length + (cn + own_sg lv)) - 1 - nk))) hin241 (g := (mkF m 65 #[.val (.long (mm / (100 : Int64))), .second, .val (.int (Int32.ofNat (xs.length + (cn + own_sg lv)))), .val (.ref q), .val (.long (mm / (100 : Int64))), .second, .val (.int (Int32.ofNat (N % 100))), .val (.int (Int32.ofNat ((xs.length + (cn + own_sg lv)) - 1 - nk))), .val (.int ng), .unset, .unset] [(.int (own_ones.getD (N % 100) 0)), (.int (Int32.ofNat ((xs.length + (cn + own_sg lv)) - 1 - nk))), (.ref q)])) rfl rfl (hb hby d29_65)
        have wq242 : nar .byte (own_ones.getD (N % 100) 0) = (own_dig (own_abs lv) nk) := (by rw [own_og (by omega), ← hN, ← own_d1]; exact own_digb _ _)
        rw [wq242] at W242
        have wf242 : fits .byte (.int (own_dig (own_abs lv) nk)) = true := wq242 ▸ (fits_nar_byte _)
        have V242 : Arv Z h242 q kq .byte (Int32.ofNat cap) ((own_put (own_pad cap xs) (xs.length + (cn + own_sg lv)) (own_abs lv) (nk + 1)).map Value.int) (.int (0 : Int32)) := (by have q := set241 wf242 W242 ((xs.length + (cn + own_sg lv)) - 1 - nk) (own_tn (show ((xs.length + (cn + own_sg lv)) - 1 - nk) ≤ 100000 by omega)) (by rw [List.length_map]; first | (rw [own_putl, own_padl (by omega)]; omega) | (rw [own_padl (by omega)]; omega)); rw [own_mset, show ((own_put (own_pad cap xs) (xs.length + (cn + own_sg lv)) (own_abs lv) nk).set ((xs.length + (cn + own_sg lv)) - 1 - nk) (own_dig (own_abs lv) nk)) = (own_put (own_pad cap xs) (xs.length + (cn + own_sg lv)) (own_abs lv) (nk + 1)) from rfl] at q; exact q)
        have N242 := Fr.snoc X242 N236 gq
        have KB243 := K8.wr W242 (Or.inl (List.mem_of_getElem? (i := 0) rfl))
        have K244 := K236c.wr W242 (Or.inl (List.mem_of_getElem? (i := 0) rfl))
        have Z242 : n0 ≤ h242.size := Nat.le_trans Z236 (Keep.of_wr W242).1
        refine own_by st242 ?_
        refine own_by (fun _ k => XS.aloadN X242.here hx rfl (hb hby d29_66) rfl rfl k) ?_
        refine own_by (fun _ k => XS.iinc X242.here hx rfl (hb hby d29_67) rfl (l' := #[.val (.long (mm / (100 : Int64))), .second, .val (.int (Int32.ofNat (xs.length + (cn + own_sg lv)))), .val (.ref q), .val (.long (mm / (100 : Int64))), .second, .val (.int (Int32.ofNat (N % 100))), .val (.int ((Int32.ofNat ((xs.length + (cn + own_sg lv)) - 1 - nk)) + (-1 : Int32))), .val (.int ng), .unset, .unset]) rfl k) ?_
        show own_Go p e below _ T242 (mkF m 70 #[.val (.long (mm / (100 : Int64))), .second, .val (.int (Int32.ofNat (xs.length + (cn + own_sg lv)))), .val (.ref q), .val (.long (mm / (100 : Int64))), .second, .val (.int (Int32.ofNat (N % 100))), .val (.int ((Int32.ofNat ((xs.length + (cn + own_sg lv)) - 1 - nk)) + (-1 : Int32))), .val (.int ng), .unset, .unset] [(.ref q)])
        rw [show Int32.ofNat ((xs.length + (cn + own_sg lv)) - 1 - nk) + (-1 : Int32) = Int32.ofNat ((xs.length + (cn + own_sg lv)) - 1 - (nk + 1)) from own_dec' (by omega) (by omega) (by omega)]
        show own_Go p e below _ T242 (mkF m 70 #[.val (.long (mm / (100 : Int64))), .second, .val (.int (Int32.ofNat (xs.length + (cn + own_sg lv)))), .val (.ref q), .val (.long (mm / (100 : Int64))), .second, .val (.int (Int32.ofNat (N % 100))), .val (.int (Int32.ofNat ((xs.length + (cn + own_sg lv)) - 1 - (nk + 1)))), .val (.int ng), .unset, .unset] [(.ref q)])
        refine own_by (fun _ k => XS.iload X242.here hx rfl (hb hby d29_70) rfl k) ?_
        have hk246 : own_K Z h242 := own_KW hkz K244 (allS (Nat.le_trans hz gq) all0)
        have SD245 := (own_staZ TB.2.2.2.1 hk246)
        obtain ⟨T247, X247, e247, st247⟩ := getS2 X242 hx hZ hown (host := "") (Or.inl (hw _ (List.mem_of_getElem? (i := 200) rfl))) Via.refl e242 SD245 (g := (mkF m 72 #[.val (.long (mm / (100 : Int64))), .second, .val (.int (Int32.ofNat (xs.length + (cn + own_sg lv)))), .val (.ref q), .val (.long (mm / (100 : Int64))), .second, .val (.int (Int32.ofNat (N % 100))), .val (.int (Int32.ofNat ((xs.length + (cn + own_sg lv)) - 1 - (nk + 1)))), .val (.int ng), .unset, .unset] [(.int (Int32.ofNat ((xs.length + (cn + own_sg lv)) - 1 - (nk + 1)))), (.ref q)])) rfl (hb hby d29_72)
        refine own_by st247 ?_
        have AD245 := own_arvZ TB.2.2.2.2.2.1 hk246
        refine own_by (fun _ k => XS.iload X247.here hx rfl (hb hby d29_75) rfl k) ?_
        obtain ⟨cl248, Ar248, cq248, hin248, hat248, set248⟩ := own_arv AD245 (j := (Int32.ofNat (N % 100))) (own_inb (by decide) (show (N % 100) < own_tens.length by show _ < 100; omega))
        refine own_by (fun _ k => X247.baloadBytes hx (j := (Int32.ofNat (N % 100))) (v := (.int (own_tens.getD (N % 100) 0))) (by rw [e247]; exact Ar248.1) (State.isArrayOf_alike hZ.alike Ar248.2.1) Ar248.2.2 hin248 (by rw [hat248]; exact congrArg some (own_gd own_tens (by omega))) (g := (mkF m 77 #[.val (.long (mm / (100 : Int64))), .second, .val (.int (Int32.ofNat (xs.length + (cn + own_sg lv)))), .val (.ref q), .val (.long (mm / (100 : Int64))), .second, .val (.int (Int32.ofNat (N % 100))), .val (.int (Int32.ofNat ((xs.length + (cn + own_sg lv)) - 1 - (nk + 1)))), .val (.int ng), .unset, .unset] [(.int (Int32.ofNat (N % 100))), (.ref d2), (.int (Int32.ofNat ((xs.length + (cn + own_sg lv)) - 1 - (nk + 1)))), (.ref q)])) rfl rfl (hb hby d29_77) _ k) ?_
        obtain ⟨cl249, Ar249, cq249, hin249, hat249, set249⟩ := own_arv V242 (j := (Int32.ofNat ((xs.length + (cn + own_sg lv)) - 1 - (nk + 1)))) (own_inb (by omega) (by omega))
        obtain ⟨T250, h250, X250, e250, W250, st250⟩ := stB X247 hx hZ e247 Ar249 (j := (Int32.ofNat ((xs.length + (cn + own_sg lv)) - 1 - (nk + 1)))) hin249 (g := (mkF m 78 #[.val (.long (mm / (100 : Int64))), .second, .val (.int (Int32.ofNat (xs.length + (cn + own_sg lv)))), .val (.ref q), .val (.long (mm / (100 : Int64))), .second, .val (.int (Int32.ofNat (N % 100))), .val (.int (Int32.ofNat ((xs.length + (cn + own_sg lv)) - 1 - (nk + 1)))), .val (.int ng), .unset, .unset] [(.int (own_tens.getD (N % 100) 0)), (.int (Int32.ofNat ((xs.length + (cn + own_sg lv)) - 1 - (nk + 1)))), (.ref q)])) rfl rfl (hb hby d29_78)
        have wq250 : nar .byte (own_tens.getD (N % 100) 0) = (own_dig (own_abs lv) (nk + 1)) := (by rw [own_tg (by omega), ← hN, ← own_d2]; exact own_digb _ _)
        rw [wq250] at W250
        have wf250 : fits .byte (.int (own_dig (own_abs lv) (nk + 1))) = true := wq250 ▸ (fits_nar_byte _)
        have V250 : Arv Z h250 q kq .byte (Int32.ofNat cap) ((own_put (own_pad cap xs) (xs.length + (cn + own_sg lv)) (own_abs lv) ((nk + 1) + 1)).map Value.int) (.int (0 : Int32)) := (by have q := set249 wf250 W250 ((xs.length + (cn + own_sg lv)) - 1 - (nk + 1)) (own_tn (show ((xs.length + (cn + own_sg lv)) - 1 - (nk + 1)) ≤ 100000 by omega)) (by rw [List.length_map]; first | (rw [own_putl, own_padl (by omega)]; omega) | (rw [own_padl (by omega)]; omega)); rw [own_mset, show ((own_put (own_pad cap xs) (xs.length + (cn + own_sg lv)) (own_abs lv) (nk + 1)).set ((xs.length + (cn + own_sg lv)) - 1 - (nk + 1)) (own_dig (own_abs lv) (nk + 1))) = (own_put (own_pad cap xs) (xs.length + (cn + own_sg lv)) (own_abs lv) ((nk + 1) + 1)) from rfl] at q; exact q)
        have N250 := Fr.snoc X250 N242 gq
        have KB251 := KB243.wr W250 (Or.inl (List.mem_of_getElem? (i := 0) rfl))
        have K252 := K244.wr W250 (Or.inl (List.mem_of_getElem? (i := 0) rfl))
        have Z250 : n0 ≤ h250.size := Nat.le_trans Z242 (Keep.of_wr W250).1
        refine own_by st250 ?_
        show own_Go p e below _ T250 (mkF m 79 #[.val (.long (mm / (100 : Int64))), .second, .val (.int (Int32.ofNat (xs.length + (cn + own_sg lv)))), .val (.ref q), .val (.long (mm / (100 : Int64))), .second, .val (.int (Int32.ofNat (N % 100))), .val (.int (Int32.ofNat ((xs.length + (cn + own_sg lv)) - 1 - (nk + 1)))), .val (.int ng), .unset, .unset] [])
        rw [show (xs.length + (cn + own_sg lv)) - 1 - (nk + 1) = (xs.length + (cn + own_sg lv)) - (nk + 2) by omega]
        show own_Go p e below _ T250 (mkF m 79 #[.val (.long (mm / (100 : Int64))), .second, .val (.int (Int32.ofNat (xs.length + (cn + own_sg lv)))), .val (.ref q), .val (.long (mm / (100 : Int64))), .second, .val (.int (Int32.ofNat (N % 100))), .val (.int (Int32.ofNat ((xs.length + (cn + own_sg lv)) - (nk + 2)))), .val (.int ng), .unset, .unset] [])
        refine own_by (fun _ k => XS.goto X250.here hx rfl (pc0 := 79) (pc' := 24) rfl (hb hby d29_79) (by decide) (by decide) k) ?_
        exact ih T250 _ h250 X250 e250 N250 KB251 ng hng _ _ (nk + 2) (N / 100) (by rw [own_N2, hN]) (Or.inr (by rw [own_N2, hN]; omega)) _ (own_ld hm hNl) (by omega) (by omega) V250
  have J24f : ∀ (ng : Int32) (hng : (ng = 1 ∧ lv < 0) ∨ (ng = 0 ∧ ¬ lv < 0)) (mm : Int64) (hm : mm.toInt = -(own_abs lv : Int)), own_Go p e below (own_End s ({ frames := 0, cells := 0, slots := 0, locals := 0 } : Room).cells ({ frames := 0, cells := 0, slots := 0, locals := 0 } : Room).slots (Q_rm29 Z q kq cap xs lv cn w1 d1 d2 kd1 kd2 fm h0 n0)) s₁ (mkF m 24 #[.val (.long mm), .second, .val (.int (Int32.ofNat (xs.length + (cn + own_sg lv)))), .val (.ref q), .unset, .unset, .unset, .val (.int (Int32.ofNat (xs.length + (cn + own_sg lv)))), .val (.int ng), .unset, .unset] []) := by
    intro  ng hng mm hm
    obtain ⟨nk, hk0⟩ : ∃ nk, nk = 0 := ⟨_, rfl⟩
    obtain ⟨N, hN⟩ : ∃ N, own_abs lv / 10 ^ nk = N := ⟨_, rfl⟩
    have hk : nk = 0 ∨ 1 ≤ own_abs lv / 10 ^ nk := Or.inl hk0
    have hNa : N = own_abs lv := by rw [← hN, hk0]; simp
    rw [← hNa] at hm
    have hNl : N ≤ 9223372036854775808 := by omega
    have Aqk : Arv Z h0 q kq .byte (Int32.ofNat cap) ((own_put (own_pad cap xs) (xs.length + (cn + own_sg lv)) (own_abs lv) nk).map Value.int) (.int 0) := by rw [hk0]; exact Aq
    refine Eq.mpr (congrArg (fun zq : Int32 => own_Go p e below (own_End s ({ frames := 0, cells := 0, slots := 0, locals := 0 } : Room).cells ({ frames := 0, cells := 0, slots := 0, locals := 0 } : Room).slots (Q_rm29 Z q kq cap xs lv cn w1 d1 d2 kd1 kd2 fm h0 n0)) s₁ (mkF m 24 #[.val (.long mm), .second, .val (.int (Int32.ofNat (xs.length + (cn + own_sg lv)))), .val (.ref q), .unset, .unset, .unset, .val (.int zq), .val (.int ng), .unset, .unset] [])) (show (Int32.ofNat (xs.length + (cn + own_sg lv))) = (Int32.ofNat ((xs.length + (cn + own_sg lv)) - nk)) from by rw [hk0]; rfl)) ?_
    show own_Go p e below _ s₁ (mkF m 24 #[.val (.long mm), .second, .val (.int (Int32.ofNat (xs.length + (cn + own_sg lv)))), .val (.ref q), .unset, .unset, .unset, .val (.int (Int32.ofNat ((xs.length + (cn + own_sg lv)) - nk))), .val (.int ng), .unset, .unset] [])
    show own_Go p e below _ s₁ (mkF m 24 #[.val (.long mm), .second, .val (.int (Int32.ofNat (xs.length + (cn + own_sg lv)))), .val (.ref q), .unset, .unset, .unset, .val (.int (Int32.ofNat ((xs.length + (cn + own_sg lv)) - nk))), .val (.int ng), .unset, .unset] [])
    refine own_by (fun _ k => XS.lloadN X0.here hx rfl (hb hby d29_24) rfl k) ?_
    refine own_by (fun _ k => Stand.ldc2J X0 hx hown (mvT hZ (hw _ (List.mem_of_getElem? (i := 197) rfl))) rfl (hb hby d29_25) k) ?_
    refine own_by (fun _ k => XS.lcmp X0.here hx rfl (hb hby d29_28) rfl k) ?_
    by_cases h31 : N < 2147483648
    · refine own_by (fun _ k => XS.ifYes X0.here hx rfl (pc0 := 29) (pc' := 82) rfl (hb hby d29_29) rfl ((if0 _ _).trans (tlt ((lw_gt _ _).mpr ((own_gt31 hm).mpr h31) : (0 : Int32) < (lcmpW mm (-2147483648 : Int64)))).2.2.1) (by decide) (by decide) k) ?_
      refine own_by (fun _ k => XS.lloadN X0.here hx rfl (hb hby d29_82) rfl k) ?_
      refine own_by (fun _ k => XS.l2i X0.here hx rfl (hb hby d29_83) rfl k) ?_
      refine own_by (fun _ k => XS.istore X0.here hx rfl (hb hby d29_84) rfl (l' := #[.val (.long mm), .second, .val (.int (Int32.ofNat (xs.length + (cn + own_sg lv)))), .val (.ref q), .unset, .unset, .unset, .val (.int (Int32.ofNat ((xs.length + (cn + own_sg lv)) - nk))), .val (.int ng), .unset, .val (.int (mm.toInt32))]) rfl k) ?_
      exact J86 20 s₁ _ h0 X0 e0 N0 (Keep.refl h0 [q]) ng hng _ _ _ _ _ _ One.u One.u nk N hN hk _ (by rw [own_l2i (by omega)]; exact hm) (by omega) (by omega) Aqk
    · refine own_by (fun _ k => XS.ifNo X0.here hx rfl (hb hby d29_29) rfl ((if0 _ _).trans (flt (fun z => h31 ((own_gt31 hm).mp ((lw_gt _ _).mp z)) : ¬ ((0 : Int32) < (lcmpW mm (-2147483648 : Int64))))).2.2.1) k) ?_
      have hk2 := own_k2 hC (k := nk) (by omega)
      refine own_by (fun _ k => XS.lloadN X0.here hx rfl (hb hby d29_32) rfl k) ?_
      refine own_by (fun _ k => Stand.ldc2J X0 hx hown (mvT hZ (hw _ (List.mem_of_getElem? (i := 198) rfl))) rfl (hb hby d29_33) k) ?_
      refine own_by (fun _ k => XS.ldiv X0.here hx rfl (hb hby d29_36) rfl (by decide) k) ?_
      refine own_by (fun _ k => XS.lstore X0.here hx rfl (hb hby d29_37) rfl (l' := #[.val (.long mm), .second, .val (.int (Int32.ofNat (xs.length + (cn + own_sg lv)))), .val (.ref q), .val (.long (mm / (100 : Int64))), .second, .unset, .val (.int (Int32.ofNat ((xs.length + (cn + own_sg lv)) - nk))), .val (.int ng), .unset, .unset]) rfl k) ?_
      refine own_by (fun _ k => XS.lload X0.here hx rfl (hb hby d29_39) rfl k) ?_
      show own_Go p e below _ s₁ (mkF m 41 #[.val (.long mm), .second, .val (.int (Int32.ofNat (xs.length + (cn + own_sg lv)))), .val (.ref q), .val (.long (mm / (100 : Int64))), .second, .unset, .val (.int (Int32.ofNat ((xs.length + (cn + own_sg lv)) - nk))), .val (.int ng), .unset, .unset] [(.long (mm / (100 : Int64)))])
      refine own_by (fun _ k => Stand.ldc2J X0 hx hown (mvT hZ (hw _ (List.mem_of_getElem? (i := 198) rfl))) rfl (hb hby d29_41) k) ?_
      refine own_by (fun _ k => XS.lmul X0.here hx rfl (hb hby d29_44) rfl k) ?_
      refine own_by (fun _ k => XS.lloadN X0.here hx rfl (hb hby d29_45) rfl k) ?_
      refine own_by (fun _ k => XS.lsub X0.here hx rfl (hb hby d29_46) rfl k) ?_
      refine own_by (fun _ k => XS.l2i X0.here hx rfl (hb hby d29_47) rfl k) ?_
      show own_Go p e below _ s₁ (mkF m 48 #[.val (.long mm), .second, .val (.int (Int32.ofNat (xs.length + (cn + own_sg lv)))), .val (.ref q), .val (.long (mm / (100 : Int64))), .second, .unset, .val (.int (Int32.ofNat ((xs.length + (cn + own_sg lv)) - nk))), .val (.int ng), .unset, .unset] [(.int ((((mm / (100 : Int64)) * (100 : Int64)) - mm).toInt32))])
      rw [show ((((mm / (100 : Int64)) * (100 : Int64)) - mm).toInt32) = (Int32.ofNat (N % 100)) from own_lr hm (by omega)]
      refine own_by (fun _ k => XS.istore X0.here hx rfl (hb hby d29_48) rfl (l' := #[.val (.long mm), .second, .val (.int (Int32.ofNat (xs.length + (cn + own_sg lv)))), .val (.ref q), .val (.long (mm / (100 : Int64))), .second, .val (.int (Int32.ofNat (N % 100))), .val (.int (Int32.ofNat ((xs.length + (cn + own_sg lv)) - nk))), .val (.int ng), .unset, .unset]) rfl k) ?_
      refine own_by (fun _ k => XS.lload X0.here hx rfl (hb hby d29_50) rfl k) ?_
      refine own_by (fun _ k => XS.lstoreN X0.here hx rfl (hb hby d29_52) rfl (l' := #[.val (.long (mm / (100 : Int64))), .second, .val (.int (Int32.ofNat (xs.length + (cn + own_sg lv)))), .val (.ref q), .val (.long (mm / (100 : Int64))), .second, .val (.int (Int32.ofNat (N % 100))), .val (.int (Int32.ofNat ((xs.length + (cn + own_sg lv)) - nk))), .val (.int ng), .unset, .unset]) rfl k) ?_
      refine own_by (fun _ k => XS.aloadN X0.here hx rfl (hb hby d29_53) rfl rfl k) ?_
      refine own_by (fun _ k => XS.iinc X0.here hx rfl (hb hby d29_54) rfl (l' := #[.val (.long (mm / (100 : Int64))), .second, .val (.int (Int32.ofNat (xs.length + (cn + own_sg lv)))), .val (.ref q), .val (.long (mm / (100 : Int64))), .second, .val (.int (Int32.ofNat (N % 100))), .val (.int ((Int32.ofNat ((xs.length + (cn + own_sg lv)) - nk)) + (-1 : Int32))), .val (.int ng), .unset, .unset]) rfl k) ?_
      show own_Go p e below _ s₁ (mkF m 57 #[.val (.long (mm / (100 : Int64))), .second, .val (.int (Int32.ofNat (xs.length + (cn + own_sg lv)))), .val (.ref q), .val (.long (mm / (100 : Int64))), .second, .val (.int (Int32.ofNat (N % 100))), .val (.int ((Int32.ofNat ((xs.length + (cn + own_sg lv)) - nk)) + (-1 : Int32))), .val (.int ng), .unset, .unset] [(.ref q)])
      rw [show Int32.ofNat ((xs.length + (cn + own_sg lv)) - nk) + (-1 : Int32) = Int32.ofNat ((xs.length + (cn + own_sg lv)) - 1 - nk) from own_dec' (by omega) (by omega) (by omega)]
      show own_Go p e below _ s₁ (mkF m 57 #[.val (.long (mm / (100 : Int64))), .second, .val (.int (Int32.ofNat (xs.length + (cn + own_sg lv)))), .val (.ref q), .val (.long (mm / (100 : Int64))), .second, .val (.int (Int32.ofNat (N % 100))), .val (.int (Int32.ofNat ((xs.length + (cn + own_sg lv)) - 1 - nk))), .val (.int ng), .unset, .unset] [(.ref q)])
      refine own_by (fun _ k => XS.iload X0.here hx rfl (hb hby d29_57) rfl k) ?_
      have SD253 := (own_staZ TB.2.2.1 hkz)
      obtain ⟨T254, X254, e254, st254⟩ := getS2 X0 hx hZ hown (host := "") (Or.inl (hw _ (List.mem_of_getElem? (i := 199) rfl))) Via.refl e0 SD253 (g := (mkF m 59 #[.val (.long (mm / (100 : Int64))), .second, .val (.int (Int32.ofNat (xs.length + (cn + own_sg lv)))), .val (.ref q), .val (.long (mm / (100 : Int64))), .second, .val (.int (Int32.ofNat (N % 100))), .val (.int (Int32.ofNat ((xs.length + (cn + own_sg lv)) - 1 - nk))), .val (.int ng), .unset, .unset] [(.int (Int32.ofNat ((xs.length + (cn + own_sg lv)) - 1 - nk))), (.ref q)])) rfl (hb hby d29_59)
      refine own_by st254 ?_
      have AD253 := own_arvZ TB.2.2.2.2.1 hkz
      refine own_by (fun _ k => XS.iload X254.here hx rfl (hb hby d29_62) rfl k) ?_
      obtain ⟨cl255, Ar255, cq255, hin255, hat255, set255⟩ := own_arv AD253 (j := (Int32.ofNat (N % 100))) (own_inb (by decide) (show (N % 100) < own_ones.length by show _ < 100; omega))
      refine own_by (fun _ k => X254.baloadBytes hx (j := (Int32.ofNat (N % 100))) (v := (.int (own_ones.getD (N % 100) 0))) (by rw [e254]; exact Ar255.1) (State.isArrayOf_alike hZ.alike Ar255.2.1) Ar255.2.2 hin255 (by rw [hat255]; exact congrArg some (own_gd own_ones (by omega))) (g := (mkF m 64 #[.val (.long (mm / (100 : Int64))), .second, .val (.int (Int32.ofNat (xs.length + (cn + own_sg lv)))), .val (.ref q), .val (.long (mm / (100 : Int64))), .second, .val (.int (Int32.ofNat (N % 100))), .val (.int (Int32.ofNat ((xs.length + (cn + own_sg lv)) - 1 - nk))), .val (.int ng), .unset, .unset] [(.int (Int32.ofNat (N % 100))), (.ref d1), (.int (Int32.ofNat ((xs.length + (cn + own_sg lv)) - 1 - nk))), (.ref q)])) rfl rfl (hb hby d29_64) _ k) ?_
      obtain ⟨cl256, Ar256, cq256, hin256, hat256, set256⟩ := own_arv Aqk (j := (Int32.ofNat ((xs.length + (cn + own_sg lv)) - 1 - nk))) (own_inb (by omega) (by omega))
      obtain ⟨T257, h257, X257, e257, W257, st257⟩ := stB X254 hx hZ e254 Ar256 (j := (Int32.ofNat ((xs.length + (cn + own_sg lv)) - 1 - nk))) hin256 (g := (mkF m 65 #[.val (.long (mm / (100 : Int64))), .second, .val (.int (Int32.ofNat (xs.length + (cn + own_sg lv)))), .val (.ref q), .val (.long (mm / (100 : Int64))), .second, .val (.int (Int32.ofNat (N % 100))), .val (.int (Int32.ofNat ((xs.length + (cn + own_sg lv)) - 1 - nk))), .val (.int ng), .unset, .unset] [(.int (own_ones.getD (N % 100) 0)), (.int (Int32.ofNat ((xs.length + (cn + own_sg lv)) - 1 - nk))), (.ref q)])) rfl rfl (hb hby d29_65)
      have wq257 : nar .byte (own_ones.getD (N % 100) 0) = (own_dig (own_abs lv) nk) := (by rw [own_og (by omega), ← hN, ← own_d1]; exact own_digb _ _)
      rw [wq257] at W257
      have wf257 : fits .byte (.int (own_dig (own_abs lv) nk)) = true := wq257 ▸ (fits_nar_byte _)
      have V257 : Arv Z h257 q kq .byte (Int32.ofNat cap) ((own_put (own_pad cap xs) (xs.length + (cn + own_sg lv)) (own_abs lv) (nk + 1)).map Value.int) (.int (0 : Int32)) := (by have q := set256 wf257 W257 ((xs.length + (cn + own_sg lv)) - 1 - nk) (own_tn (show ((xs.length + (cn + own_sg lv)) - 1 - nk) ≤ 100000 by omega)) (by rw [List.length_map]; first | (rw [own_putl, own_padl (by omega)]; omega) | (rw [own_padl (by omega)]; omega)); rw [own_mset, show ((own_put (own_pad cap xs) (xs.length + (cn + own_sg lv)) (own_abs lv) nk).set ((xs.length + (cn + own_sg lv)) - 1 - nk) (own_dig (own_abs lv) nk)) = (own_put (own_pad cap xs) (xs.length + (cn + own_sg lv)) (own_abs lv) (nk + 1)) from rfl] at q; exact q)
      have N257 := Fr.snoc X257 N0 gq
      have KB258 := (Keep.refl h0 [q]).wr W257 (Or.inl (List.mem_of_getElem? (i := 0) rfl))
      have K259 := K0.wr W257 (Or.inl (List.mem_of_getElem? (i := 0) rfl))
      have Z257 : n0 ≤ h257.size := Nat.le_trans Z0 (Keep.of_wr W257).1
      refine own_by st257 ?_
      refine own_by (fun _ k => XS.aloadN X257.here hx rfl (hb hby d29_66) rfl rfl k) ?_
      refine own_by (fun _ k => XS.iinc X257.here hx rfl (hb hby d29_67) rfl (l' := #[.val (.long (mm / (100 : Int64))), .second, .val (.int (Int32.ofNat (xs.length + (cn + own_sg lv)))), .val (.ref q), .val (.long (mm / (100 : Int64))), .second, .val (.int (Int32.ofNat (N % 100))), .val (.int ((Int32.ofNat ((xs.length + (cn + own_sg lv)) - 1 - nk)) + (-1 : Int32))), .val (.int ng), .unset, .unset]) rfl k) ?_
      show own_Go p e below _ T257 (mkF m 70 #[.val (.long (mm / (100 : Int64))), .second, .val (.int (Int32.ofNat (xs.length + (cn + own_sg lv)))), .val (.ref q), .val (.long (mm / (100 : Int64))), .second, .val (.int (Int32.ofNat (N % 100))), .val (.int ((Int32.ofNat ((xs.length + (cn + own_sg lv)) - 1 - nk)) + (-1 : Int32))), .val (.int ng), .unset, .unset] [(.ref q)])
      rw [show Int32.ofNat ((xs.length + (cn + own_sg lv)) - 1 - nk) + (-1 : Int32) = Int32.ofNat ((xs.length + (cn + own_sg lv)) - 1 - (nk + 1)) from own_dec' (by omega) (by omega) (by omega)]
      show own_Go p e below _ T257 (mkF m 70 #[.val (.long (mm / (100 : Int64))), .second, .val (.int (Int32.ofNat (xs.length + (cn + own_sg lv)))), .val (.ref q), .val (.long (mm / (100 : Int64))), .second, .val (.int (Int32.ofNat (N % 100))), .val (.int (Int32.ofNat ((xs.length + (cn + own_sg lv)) - 1 - (nk + 1)))), .val (.int ng), .unset, .unset] [(.ref q)])
      refine own_by (fun _ k => XS.iload X257.here hx rfl (hb hby d29_70) rfl k) ?_
      have hk261 : own_K Z h257 := own_KW hkz K259 (allS (Nat.le_trans hz gq) all0)
      have SD260 := (own_staZ TB.2.2.2.1 hk261)
      obtain ⟨T262, X262, e262, st262⟩ := getS2 X257 hx hZ hown (host := "") (Or.inl (hw _ (List.mem_of_getElem? (i := 200) rfl))) Via.refl e257 SD260 (g := (mkF m 72 #[.val (.long (mm / (100 : Int64))), .second, .val (.int (Int32.ofNat (xs.length + (cn + own_sg lv)))), .val (.ref q), .val (.long (mm / (100 : Int64))), .second, .val (.int (Int32.ofNat (N % 100))), .val (.int (Int32.ofNat ((xs.length + (cn + own_sg lv)) - 1 - (nk + 1)))), .val (.int ng), .unset, .unset] [(.int (Int32.ofNat ((xs.length + (cn + own_sg lv)) - 1 - (nk + 1)))), (.ref q)])) rfl (hb hby d29_72)
      refine own_by st262 ?_
      have AD260 := own_arvZ TB.2.2.2.2.2.1 hk261
      refine own_by (fun _ k => XS.iload X262.here hx rfl (hb hby d29_75) rfl k) ?_
      obtain ⟨cl263, Ar263, cq263, hin263, hat263, set263⟩ := own_arv AD260 (j := (Int32.ofNat (N % 100))) (own_inb (by decide) (show (N % 100) < own_tens.length by show _ < 100; omega))
      refine own_by (fun _ k => X262.baloadBytes hx (j := (Int32.ofNat (N % 100))) (v := (.int (own_tens.getD (N % 100) 0))) (by rw [e262]; exact Ar263.1) (State.isArrayOf_alike hZ.alike Ar263.2.1) Ar263.2.2 hin263 (by rw [hat263]; exact congrArg some (own_gd own_tens (by omega))) (g := (mkF m 77 #[.val (.long (mm / (100 : Int64))), .second, .val (.int (Int32.ofNat (xs.length + (cn + own_sg lv)))), .val (.ref q), .val (.long (mm / (100 : Int64))), .second, .val (.int (Int32.ofNat (N % 100))), .val (.int (Int32.ofNat ((xs.length + (cn + own_sg lv)) - 1 - (nk + 1)))), .val (.int ng), .unset, .unset] [(.int (Int32.ofNat (N % 100))), (.ref d2), (.int (Int32.ofNat ((xs.length + (cn + own_sg lv)) - 1 - (nk + 1)))), (.ref q)])) rfl rfl (hb hby d29_77) _ k) ?_
      obtain ⟨cl264, Ar264, cq264, hin264, hat264, set264⟩ := own_arv V257 (j := (Int32.ofNat ((xs.length + (cn + own_sg lv)) - 1 - (nk + 1)))) (own_inb (by omega) (by omega))
      obtain ⟨T265, h265, X265, e265, W265, st265⟩ := stB X262 hx hZ e262 Ar264 (j := (Int32.ofNat ((xs.length + (cn + own_sg lv)) - 1 - (nk + 1)))) hin264 (g := (mkF m 78 #[.val (.long (mm / (100 : Int64))), .second, .val (.int (Int32.ofNat (xs.length + (cn + own_sg lv)))), .val (.ref q), .val (.long (mm / (100 : Int64))), .second, .val (.int (Int32.ofNat (N % 100))), .val (.int (Int32.ofNat ((xs.length + (cn + own_sg lv)) - 1 - (nk + 1)))), .val (.int ng), .unset, .unset] [(.int (own_tens.getD (N % 100) 0)), (.int (Int32.ofNat ((xs.length + (cn + own_sg lv)) - 1 - (nk + 1)))), (.ref q)])) rfl rfl (hb hby d29_78)
      have wq265 : nar .byte (own_tens.getD (N % 100) 0) = (own_dig (own_abs lv) (nk + 1)) := (by rw [own_tg (by omega), ← hN, ← own_d2]; exact own_digb _ _)
      rw [wq265] at W265
      have wf265 : fits .byte (.int (own_dig (own_abs lv) (nk + 1))) = true := wq265 ▸ (fits_nar_byte _)
      have V265 : Arv Z h265 q kq .byte (Int32.ofNat cap) ((own_put (own_pad cap xs) (xs.length + (cn + own_sg lv)) (own_abs lv) ((nk + 1) + 1)).map Value.int) (.int (0 : Int32)) := (by have q := set264 wf265 W265 ((xs.length + (cn + own_sg lv)) - 1 - (nk + 1)) (own_tn (show ((xs.length + (cn + own_sg lv)) - 1 - (nk + 1)) ≤ 100000 by omega)) (by rw [List.length_map]; first | (rw [own_putl, own_padl (by omega)]; omega) | (rw [own_padl (by omega)]; omega)); rw [own_mset, show ((own_put (own_pad cap xs) (xs.length + (cn + own_sg lv)) (own_abs lv) (nk + 1)).set ((xs.length + (cn + own_sg lv)) - 1 - (nk + 1)) (own_dig (own_abs lv) (nk + 1))) = (own_put (own_pad cap xs) (xs.length + (cn + own_sg lv)) (own_abs lv) ((nk + 1) + 1)) from rfl] at q; exact q)
      have N265 := Fr.snoc X265 N257 gq
      have KB266 := KB258.wr W265 (Or.inl (List.mem_of_getElem? (i := 0) rfl))
      have K267 := K259.wr W265 (Or.inl (List.mem_of_getElem? (i := 0) rfl))
      have Z265 : n0 ≤ h265.size := Nat.le_trans Z257 (Keep.of_wr W265).1
      refine own_by st265 ?_
      show own_Go p e below _ T265 (mkF m 79 #[.val (.long (mm / (100 : Int64))), .second, .val (.int (Int32.ofNat (xs.length + (cn + own_sg lv)))), .val (.ref q), .val (.long (mm / (100 : Int64))), .second, .val (.int (Int32.ofNat (N % 100))), .val (.int (Int32.ofNat ((xs.length + (cn + own_sg lv)) - 1 - (nk + 1)))), .val (.int ng), .unset, .unset] [])
      rw [show (xs.length + (cn + own_sg lv)) - 1 - (nk + 1) = (xs.length + (cn + own_sg lv)) - (nk + 2) by omega]
      show own_Go p e below _ T265 (mkF m 79 #[.val (.long (mm / (100 : Int64))), .second, .val (.int (Int32.ofNat (xs.length + (cn + own_sg lv)))), .val (.ref q), .val (.long (mm / (100 : Int64))), .second, .val (.int (Int32.ofNat (N % 100))), .val (.int (Int32.ofNat ((xs.length + (cn + own_sg lv)) - (nk + 2)))), .val (.int ng), .unset, .unset] [])
      refine own_by (fun _ k => XS.goto X265.here hx rfl (pc0 := 79) (pc' := 24) rfl (hb hby d29_79) (by decide) (by decide) k) ?_
      exact J24 20 T265 _ h265 X265 e265 N265 KB266 ng hng _ _ (nk + 2) (N / 100) (by rw [own_N2, hN]) (Or.inr (by rw [own_N2, hN]; omega)) _ (own_ld hm hNl) (by omega) (by omega) V265
  refine own_by (fun _ k => XS.iloadN X0.here hx rfl (hb hby d29_0) rfl k) ?_
  refine own_by (fun _ k => XS.istore X0.here hx rfl (hb hby d29_1) rfl (l' := #[.val (.long lv), .second, .val (.int (Int32.ofNat (xs.length + (cn + own_sg lv)))), .val (.ref q), .unset, .unset, .unset, .val (.int (Int32.ofNat (xs.length + (cn + own_sg lv)))), .unset, .unset, .unset]) rfl k) ?_
  refine own_by (fun _ k => XS.lloadN X0.here hx rfl (hb hby d29_3) rfl k) ?_
  refine own_by (fun _ k => XS.lconst X0.here hx rfl (hb hby d29_4) k) ?_
  refine own_by (fun _ k => XS.lcmp X0.here hx rfl (hb hby d29_5) rfl k) ?_
  by_cases hn : lv < 0
  · refine own_by (fun _ k => XS.ifNo X0.here hx rfl (hb hby d29_6) rfl ((if0 _ _).trans (tlt ((lw_lt _ _).mpr hn : (lcmpW lv (0 : Int64)) < (0 : Int32))).2.1) k) ?_
    refine own_by (fun _ k => XS.iconst X0.here hx rfl (hb hby d29_9) k) ?_
    refine own_by (fun _ k => XS.goto X0.here hx rfl (pc0 := 10) (pc' := 14) rfl (hb hby d29_10) (by decide) (by decide) k) ?_
    show own_Go p e below _ s₁ (mkF m 14 #[.val (.long lv), .second, .val (.int (Int32.ofNat (xs.length + (cn + own_sg lv)))), .val (.ref q), .unset, .unset, .unset, .val (.int (Int32.ofNat (xs.length + (cn + own_sg lv)))), .unset, .unset, .unset] [(.int (1 : Int32))])
    refine own_by (fun _ k => XS.istore X0.here hx rfl (hb hby d29_14) rfl (l' := #[.val (.long lv), .second, .val (.int (Int32.ofNat (xs.length + (cn + own_sg lv)))), .val (.ref q), .unset, .unset, .unset, .val (.int (Int32.ofNat (xs.length + (cn + own_sg lv)))), .val (.int (1 : Int32)), .unset, .unset]) rfl k) ?_
    refine own_by (fun _ k => XS.iload X0.here hx rfl (hb hby d29_16) rfl k) ?_
    refine own_by (fun _ k => XS.ifYes X0.here hx rfl (pc0 := 18) (pc' := 24) rfl (hb hby d29_18) rfl ((if0 _ _).trans (feq (by decide : ¬ ((1 : Int32) = (0 : Int32)))).2) (by decide) (by decide) k) ?_
    exact J24f _ (Or.inl ⟨rfl, hn⟩) _ (own_mneg hn)
  · refine own_by (fun _ k => XS.ifYes X0.here hx rfl (pc0 := 6) (pc' := 13) rfl (hb hby d29_6) rfl ((if0 _ _).trans (flt (fun z => hn ((lw_lt _ _).mp z) : ¬ ((lcmpW lv (0 : Int64)) < (0 : Int32)))).2.1) (by decide) (by decide) k) ?_
    refine own_by (fun _ k => XS.iconst X0.here hx rfl (hb hby d29_13) k) ?_
    refine own_by (fun _ k => XS.istore X0.here hx rfl (hb hby d29_14) rfl (l' := #[.val (.long lv), .second, .val (.int (Int32.ofNat (xs.length + (cn + own_sg lv)))), .val (.ref q), .unset, .unset, .unset, .val (.int (Int32.ofNat (xs.length + (cn + own_sg lv)))), .val (.int (0 : Int32)), .unset, .unset]) rfl k) ?_
    show own_Go p e below _ s₁ (mkF m 16 #[.val (.long lv), .second, .val (.int (Int32.ofNat (xs.length + (cn + own_sg lv)))), .val (.ref q), .unset, .unset, .unset, .val (.int (Int32.ofNat (xs.length + (cn + own_sg lv)))), .val (.int (0 : Int32)), .unset, .unset] [])
    refine own_by (fun _ k => XS.iload X0.here hx rfl (hb hby d29_16) rfl k) ?_
    refine own_by (fun _ k => XS.ifNo X0.here hx rfl (hb hby d29_18) rfl ((if0 _ _).trans (teq (rfl : (0 : Int32) = (0 : Int32))).2) k) ?_
    refine own_by (fun _ k => XS.lloadN X0.here hx rfl (hb hby d29_21) rfl k) ?_
    refine own_by (fun _ k => XS.lneg X0.here hx rfl (hb hby d29_22) rfl k) ?_
    refine own_by (fun _ k => XS.lstoreN X0.here hx rfl (hb hby d29_23) rfl (l' := #[.val (.long (-lv)), .second, .val (.int (Int32.ofNat (xs.length + (cn + own_sg lv)))), .val (.ref q), .unset, .unset, .unset, .val (.int (Int32.ofNat (xs.length + (cn + own_sg lv)))), .val (.int (0 : Int32)), .unset, .unset]) rfl k) ?_
    exact J24f _ (Or.inr ⟨rfl, hn⟩) _ (own_mpos hn)
def Q_rm27 (Z : State) (sb q : Addr) (kq : ClassId) (cap : Nat) (xs : List Int32) (lv : Int64) (w1 : Int32) (d1 d2 : Addr) (kd1 kd2 : ClassId) (fm : Value) (h0 : Heap) (n0 : Nat) (v : Option Value) (h : Heap) (L : List Loc) : Prop := v = some (.ref sb) ∧ Fr n0 L ∧ ∃ (cn : Nat) (hC : own_C (own_abs lv) cn) (q2 : Addr) (k2 : ClassId), Keep h0 h [sb, q] ∧ n0 ≤ q2 ∧ Exa Z h sb "java/lang/StringBuilder" ∧ Fld Z h sb "java/lang/AbstractStringBuilder" "coder" "B" (.int (0 : Int32)) ∧ Fld Z h sb "java/lang/AbstractStringBuilder" "value" "[B" (.ref q2) ∧ Fld Z h sb "java/lang/AbstractStringBuilder" "count" "I" (.int (Int32.ofNat (xs ++ own_txt lv cn).length)) ∧ Arv Z h q2 k2 .byte (Int32.ofNat (own_cpn cap (xs.length + (cn + own_sg lv)))) ((own_pad (own_cpn cap (xs.length + (cn + own_sg lv))) (xs ++ own_txt lv cn)).map Value.int) (.int 0)
theorem pn_rm27 : plainFor (⟨"java/lang/AbstractStringBuilder", "append", "(J)Ljava/lang/AbstractStringBuilder;"⟩ : MethodName) = true := by first | exact plainFor_of_name (by first | (simp [plainName, overriddenIn, x]; done) | decide +kernel) | decide +kernel
theorem d27_0 : decode jdk_68_method_33_code 0 = .ok (.aload_n 0, 1) := by decide +kernel
theorem d27_1 : decode jdk_68_method_33_code 1 = .ok (.getfield 79, 3) := by decide +kernel
theorem d27_4 : decode jdk_68_method_33_code 4 = .ok (.istore_n 3, 1) := by decide +kernel
theorem d27_5 : decode jdk_68_method_33_code 5 = .ok (.iload_n 3, 1) := by decide +kernel
theorem d27_6 : decode jdk_68_method_33_code 6 = .ok (.lload_n 1, 1) := by decide +kernel
theorem pd_14 : parseMethodDescriptor "(J)I" = some ⟨[.long], some .int⟩ := by decide +kernel
theorem d27_7 : decode jdk_68_method_33_code 7 = .ok (.invokestatic 254, 3) := by decide +kernel
theorem d27_10 : decode jdk_68_method_33_code 10 = .ok (.iadd, 1) := by decide +kernel
theorem d27_11 : decode jdk_68_method_33_code 11 = .ok (.istore 4, 2) := by decide +kernel
theorem d27_13 : decode jdk_68_method_33_code 13 = .ok (.aload_n 0, 1) := by decide +kernel
theorem d27_14 : decode jdk_68_method_33_code 14 = .ok (.iload 4, 2) := by decide +kernel
theorem d27_16 : decode jdk_68_method_33_code 16 = .ok (.invokevirtual 100, 3) := by decide +kernel
theorem d27_19 : decode jdk_68_method_33_code 19 = .ok (.aload_n 0, 1) := by decide +kernel
theorem d27_20 : decode jdk_68_method_33_code 20 = .ok (.invokevirtual 83, 3) := by decide +kernel
theorem d27_23 : decode jdk_68_method_33_code 23 = .ok (.ifCond .eq 17, 3) := by decide +kernel
theorem d27_26 : decode jdk_68_method_33_code 26 = .ok (.lload_n 1, 1) := by decide +kernel
theorem d27_27 : decode jdk_68_method_33_code 27 = .ok (.iload 4, 2) := by decide +kernel
theorem d27_29 : decode jdk_68_method_33_code 29 = .ok (.aload_n 0, 1) := by decide +kernel
theorem d27_30 : decode jdk_68_method_33_code 30 = .ok (.getfield 15, 3) := by decide +kernel
theorem pd_15 : parseMethodDescriptor "(JI[B)I" = some ⟨[.long, .int, (.array .byte)], some .int⟩ := by decide +kernel
theorem d27_33 : decode jdk_68_method_33_code 33 = .ok (.invokestatic 259, 3) := by decide +kernel
theorem d27_36 : decode jdk_68_method_33_code 36 = .ok (.pop, 1) := by decide +kernel
theorem d27_37 : decode jdk_68_method_33_code 37 = .ok (.goto 15, 3) := by decide +kernel
theorem d27_52 : decode jdk_68_method_33_code 52 = .ok (.aload_n 0, 1) := by decide +kernel
theorem d27_53 : decode jdk_68_method_33_code 53 = .ok (.iload 4, 2) := by decide +kernel
theorem d27_55 : decode jdk_68_method_33_code 55 = .ok (.putfield 79, 3) := by decide +kernel
theorem d27_58 : decode jdk_68_method_33_code 58 = .ok (.aload_n 0, 1) := by decide +kernel
theorem d27_59 : decode jdk_68_method_33_code 59 = .ok (.areturn, 1) := by decide +kernel
set_option maxRecDepth 65536 in
set_option maxHeartbeats 40000000 in
theorem rm27 (l : Launch) (Z : State) (a0 : Array Value) (hw : ∀ d ∈ tables_1, d.before a0 Z = true) (ws : List Jvm.Cond) (sb q : Addr) (kq : ClassId) (cap : Nat) (xs : List Int32) (lv : Int64) (w1 : Int32) (d1 d2 : Addr) (kd1 kd2 : ClassId) (fm : Value) (h0 : Heap) (n0 : Nat) (Z0 : n0 ≤ h0.size) (hz : Z.heap.size ≤ n0) (hkz : own_K Z h0) (TB : own_Tb Z w1 d1 d2 kd1 kd2 fm) (gs : n0 ≤ sb) (gq : n0 ≤ q) (Es : Exa Z h0 sb "java/lang/StringBuilder") (Cs : Fld Z h0 sb "java/lang/AbstractStringBuilder" "coder" "B" (.int (0 : Int32))) (Vs : Fld Z h0 sb "java/lang/AbstractStringBuilder" "value" "[B" (.ref q)) (Ns : Fld Z h0 sb "java/lang/AbstractStringBuilder" "count" "I" (.int (Int32.ofNat xs.length))) (Aq : Arv Z h0 q kq .byte (Int32.ofNat cap) ((own_pad cap xs).map Value.int) (.int 0)) (hcap : xs.length ≤ cap) (hcb : cap ≤ 200) (hm2 : ∀ cn, own_C (own_abs lv) cn → own_cpn cap (xs.length + (cn + own_sg lv)) ≤ 200) :
    own_Met l Z (⟨"java/lang/AbstractStringBuilder", "append", "(J)Ljava/lang/AbstractStringBuilder;"⟩ : MethodName) jdk_68_method_33_code 5 (some (.object "java/lang/AbstractStringBuilder")) ws ({ frames := 4, cells := 1, slots := 200, locals := 76 } : Room) #[(.ref sb), (.long lv)] h0 (Q_rm27 Z sb q kq cap xs lv w1 d1 d2 kd1 kd2 fm h0 n0) := by
  refine own_enter (g0 := fun m => (mkF m 0 #[.val (.ref sb), .val (.long lv), .second, .unset, .unset] [])) pn_rm27 (fun m => by first | (simp [entryFrame, mkF, argsToLocals, Value.category, maxLocals]; done) | rfl) ?_
  intro p e s m below meth c s₁ hx hby hml hown hnm hret hlk hZ X0 e0
  have hml : c.maxLocals = 5 := hml
  have hown : s.vm.findClass "java/lang/AbstractStringBuilder" = some m.cls := hown
  have N0 := Fr.nil n0
  have nsq : sb ≠ q := Exa.neArv Es Aq (hw _ (List.mem_of_getElem? (i := 65) rfl))
  have K0 := Keep.refl h0 [sb, q]
  refine own_by (fun _ k => XS.aloadN X0.here hx rfl (hb hby d27_0) rfl rfl k) ?_
  obtain ⟨T268, X268, e268, st268⟩ := getF X0 hx hZ hown (host := "") (Or.inl (hw _ (List.mem_of_getElem? (i := 106) rfl))) Via.refl e0 Ns (g := (mkF m 1 #[.val (.ref sb), .val (.long lv), .second, .unset, .unset] [(.ref sb)])) rfl rfl (hb hby d27_1)
  refine own_by st268 ?_
  refine own_by (fun _ k => XS.istoreN X268.here hx rfl (hb hby d27_4) rfl (l' := #[.val (.ref sb), .val (.long lv), .second, .val (.int (Int32.ofNat xs.length)), .unset]) rfl k) ?_
  refine own_by (fun _ k => XS.iloadN X268.here hx rfl (hb hby d27_5) rfl k) ?_
  refine own_by (fun _ k => XS.lloadN X268.here hx rfl (hb hby d27_6) rfl k) ?_
  obtain ⟨_, T269, L269, X269, ⟨cn, rfl, hC, N269q, e269⟩, st269⟩ := own_callS X268 hx hZ hown (y := (⟨"java/lang/Long", "stringSize", "(J)I"⟩ : MethodName)) (hw _ (List.mem_of_getElem? (i := 188) rfl)) (hw _ (List.mem_of_getElem? (i := 189) rfl)) (hw _ (List.mem_of_getElem? (i := 190) rfl)) (hw _ (List.mem_of_getElem? (i := 191) rfl)) (by decide) (argsL := [(.long lv)]) (rest := [(.int (Int32.ofNat xs.length))]) e268 (rm28 l Z a0 hw [] lv h0 n0 Z0 ) (g := (mkF m 7 #[.val (.ref sb), .val (.long lv), .second, .val (.int (Int32.ofNat xs.length)), .unset] [(.long lv), (.int (Int32.ofNat xs.length))])) rfl (by rw [hml]; rfl) (lenOf pd_14 rfl) rfl (W := 1) (by show 2 * 0 + _ ≤ _; exact Nat.le_of_eq rfl) (hb hby d27_7) (by decide) (by decide) (by decide) (by decide)
  have N269 := Fr.app N0 N269q
  refine own_by st269 ?_
  have hcn := hC.2.1
  have hsg := own_sg1 lv
  refine own_by (fun _ k => XS.iadd X269.here hx rfl (hb hby d27_10) rfl k) ?_
  show own_Go p e below _ T269 (mkF m 11 #[.val (.ref sb), .val (.long lv), .second, .val (.int (Int32.ofNat xs.length)), .unset] [(.int ((Int32.ofNat xs.length) + (Int32.ofNat (cn + own_sg lv))))])
  rw [show ((Int32.ofNat xs.length) + (Int32.ofNat (cn + own_sg lv))) = (Int32.ofNat (xs.length + (cn + own_sg lv))) from own_add (by omega) (by omega)]
  refine own_by (fun _ k => XS.istore X269.here hx rfl (hb hby d27_11) rfl (l' := #[.val (.ref sb), .val (.long lv), .second, .val (.int (Int32.ofNat xs.length)), .val (.int (Int32.ofNat (xs.length + (cn + own_sg lv))))]) rfl k) ?_
  refine own_by (fun _ k => XS.aloadN X269.here hx rfl (hb hby d27_13) rfl rfl k) ?_
  refine own_by (fun _ k => XS.iload X269.here hx rfl (hb hby d27_14) rfl k) ?_
  obtain ⟨_, T270, L270, X270, ⟨rfl, N270q, q2, k2, hq2, Ke, gq2, Ee, Ce, Ve, Nx, Ae⟩, st270⟩ := own_callV2 X269 hx hZ hown (y := (⟨"java/lang/AbstractStringBuilder", "ensureCapacityInternal", "(I)V"⟩ : MethodName)) (z := (⟨"java/lang/AbstractStringBuilder", "ensureCapacityInternal", "(I)V"⟩ : MethodName)) (y' := (⟨"java/lang/AbstractStringBuilder", "isLatin1", "()Z"⟩ : MethodName)) (C := "java/lang/StringBuilder") (hw _ (List.mem_of_getElem? (i := 108) rfl)) (own_decl (hw _ (List.mem_of_getElem? (i := 109) rfl)) (hw _ (List.mem_of_getElem? (i := 112) rfl))) (hw _ (List.mem_of_getElem? (i := 111) rfl)) (hw _ (List.mem_of_getElem? (i := 169) rfl)) (hw _ (List.mem_of_getElem? (i := 168) rfl)) rfl (hw _ (List.mem_of_getElem? (i := 109) rfl)) (hw _ (List.mem_of_getElem? (i := 74) rfl)) (hw _ (List.mem_of_getElem? (i := 112) rfl)) (by decide) (a := sb) Es (argsL := [(.int (Int32.ofNat (xs.length + (cn + own_sg lv))))]) (rest := []) e269 (rm13 l Z a0 hw [] sb q kq cap xs (xs.length + (cn + own_sg lv)) h0 n0 Z0 gs gq Es Cs Vs Ns Aq hcap hcb (by omega) (hm2 cn hC)) (g := (mkF m 16 #[.val (.ref sb), .val (.long lv), .second, .val (.int (Int32.ofNat xs.length)), .val (.int (Int32.ofNat (xs.length + (cn + own_sg lv))))] [(.int (Int32.ofNat (xs.length + (cn + own_sg lv)))), (.ref sb)])) rfl (by rw [hml]; rfl) (lenOf pd_8 rfl) rfl (W := 0) (by show 2 * 0 + _ ≤ _; exact Nat.le_of_eq rfl) (hb hby d27_16) (by decide) (by decide) (by decide) (by decide)
  have N270 := Fr.app N269 N270q
  refine own_by st270 ?_
  have Z270 : n0 ≤ T270.heap.size := Nat.le_trans Z0 Ke.1
  have K270c := K0.trans Ke (allS (Or.inl (List.mem_of_getElem? (i := 0) rfl)) all0)
  have nsq2 : sb ≠ q2 := Exa.neArv Ee Ae (hw _ (List.mem_of_getElem? (i := 65) rfl))
  refine own_by (fun _ k => XS.aloadN X270.here hx rfl (hb hby d27_19) rfl rfl k) ?_
  have hl := own_cpge cap (xs.length + (cn + own_sg lv))
  have hm3 := hm2 cn hC
  have hk271 : own_K Z T270.heap := own_KW hkz K270c (allS (Nat.le_trans hz gs) (allS (Nat.le_trans hz gq) all0))
  obtain ⟨_, T272, L272, X272, ⟨rfl, N272q, e272⟩, st272⟩ := own_callV2 X270 hx hZ hown (y := (⟨"java/lang/AbstractStringBuilder", "isLatin1", "()Z"⟩ : MethodName)) (z := (⟨"java/lang/AbstractStringBuilder", "isLatin1", "()Z"⟩ : MethodName)) (y' := (⟨"java/lang/AbstractStringBuilder", "isLatin1", "()Z"⟩ : MethodName)) (C := "java/lang/StringBuilder") (hw _ (List.mem_of_getElem? (i := 166) rfl)) (hw _ (List.mem_of_getElem? (i := 167) rfl)) (hw _ (List.mem_of_getElem? (i := 169) rfl)) (hw _ (List.mem_of_getElem? (i := 169) rfl)) (hw _ (List.mem_of_getElem? (i := 168) rfl)) rfl (hw _ (List.mem_of_getElem? (i := 168) rfl)) (hw _ (List.mem_of_getElem? (i := 74) rfl)) (hw _ (List.mem_of_getElem? (i := 170) rfl)) (by decide) (a := sb) Ee (argsL := []) (rest := []) rfl (rm24 l Z a0 hw [] sb q2 k2 (own_cpn cap (xs.length + (cn + own_sg lv))) xs w1 d1 d2 kd1 kd2 fm T270.heap n0 Z270 hz hk271 TB gs gq2 Ee Ce Ve Nx Ae (by omega) hm3) (g := (mkF m 20 #[.val (.ref sb), .val (.long lv), .second, .val (.int (Int32.ofNat xs.length)), .val (.int (Int32.ofNat (xs.length + (cn + own_sg lv))))] [(.ref sb)])) rfl (by rw [hml]; rfl) (lenOf pd_11 rfl) rfl (W := 0) (by show 2 * 0 + _ ≤ _; exact Nat.le_of_eq rfl) (hb hby d27_20) (by decide) (by decide) (by decide) (by decide)
  have N272 := Fr.app N270 N272q
  refine own_by st272 ?_
  refine own_by (fun _ k => XS.ifNo X272.here hx rfl (hb hby d27_23) rfl ((if0 _ _).trans (feq (by decide : ¬ ((1 : Int32) = (0 : Int32)))).1) k) ?_
  refine own_by (fun _ k => XS.lloadN X272.here hx rfl (hb hby d27_26) rfl k) ?_
  show own_Go p e below _ T272 (mkF m 27 #[.val (.ref sb), .val (.long lv), .second, .val (.int (Int32.ofNat xs.length)), .val (.int (Int32.ofNat (xs.length + (cn + own_sg lv))))] [(.long lv)])
  refine own_by (fun _ k => XS.iload X272.here hx rfl (hb hby d27_27) rfl k) ?_
  refine own_by (fun _ k => XS.aloadN X272.here hx rfl (hb hby d27_29) rfl rfl k) ?_
  obtain ⟨T273, X273, e273, st273⟩ := getF X272 hx hZ hown (host := "") (Or.inl (hw _ (List.mem_of_getElem? (i := 78) rfl))) Via.refl e272 Ve (g := (mkF m 30 #[.val (.ref sb), .val (.long lv), .second, .val (.int (Int32.ofNat xs.length)), .val (.int (Int32.ofNat (xs.length + (cn + own_sg lv))))] [(.ref sb), (.int (Int32.ofNat (xs.length + (cn + own_sg lv)))), (.long lv)])) rfl rfl (hb hby d27_30)
  refine own_by st273 ?_
  obtain ⟨_, T274, L274, X274, ⟨rp, rfl, N274q, Kp, Ap⟩, st274⟩ := own_callS X273 hx hZ hown (y := (⟨"java/lang/Long", "getChars", "(JI[B)I"⟩ : MethodName)) (hw _ (List.mem_of_getElem? (i := 194) rfl)) (hw _ (List.mem_of_getElem? (i := 195) rfl)) (hw _ (List.mem_of_getElem? (i := 190) rfl)) (hw _ (List.mem_of_getElem? (i := 196) rfl)) (by decide) (argsL := [(.long lv), (.int (Int32.ofNat (xs.length + (cn + own_sg lv)))), (.ref q2)]) (rest := []) e273 (rm29 l Z a0 hw [] q2 k2 (own_cpn cap (xs.length + (cn + own_sg lv))) xs lv cn w1 d1 d2 kd1 kd2 fm T270.heap n0 Z270 hz hk271 TB gq2 Ae hl hm3 hC) (g := (mkF m 33 #[.val (.ref sb), .val (.long lv), .second, .val (.int (Int32.ofNat xs.length)), .val (.int (Int32.ofNat (xs.length + (cn + own_sg lv))))] [(.ref q2), (.int (Int32.ofNat (xs.length + (cn + own_sg lv)))), (.long lv)])) rfl (by rw [hml]; rfl) (lenOf pd_15 rfl) rfl (W := 0) (by show 2 * 0 + _ ≤ _; exact Nat.le_of_eq rfl) (hb hby d27_33) (by decide) (by decide) (by decide) (by decide)
  have N274 := Fr.app N272 N274q
  refine own_by st274 ?_
  have Z274 : n0 ≤ T274.heap.size := Nat.le_trans Z270 Kp.1
  have K274c := K270c.trans Kp (allS (own_side hq2 K0.1) all0)
  refine own_by (fun _ k => XS.pop X274.here hx rfl (hb hby d27_36) rfl rfl k) ?_
  refine own_by (fun _ k => XS.goto X274.here hx rfl (pc0 := 37) (pc' := 52) rfl (hb hby d27_37) (by decide) (by decide) k) ?_
  refine own_by (fun _ k => XS.aloadN X274.here hx rfl (hb hby d27_52) rfl rfl k) ?_
  refine own_by (fun _ k => XS.iload X274.here hx rfl (hb hby d27_53) rfl k) ?_
  show own_Go p e below _ T274 (mkF m 55 #[.val (.ref sb), .val (.long lv), .second, .val (.int (Int32.ofNat xs.length)), .val (.int (Int32.ofNat (xs.length + (cn + own_sg lv))))] [(.int (Int32.ofNat (xs.length + (cn + own_sg lv)))), (.ref sb)])
  rw [show Int32.ofNat (xs.length + (cn + own_sg lv)) = Int32.ofNat (xs ++ own_txt lv cn).length from by rw [List.length_append, own_txtl]]
  show own_Go p e below _ T274 (mkF m 55 #[.val (.ref sb), .val (.long lv), .second, .val (.int (Int32.ofNat xs.length)), .val (.int (Int32.ofNat (xs ++ own_txt lv cn).length))] [(.int (Int32.ofNat (xs ++ own_txt lv cn).length)), (.ref sb)])
  have f276 := (Nx.keep Kp (ninS nsq2 nin0))
  have f277 := (Ee.keep Kp)
  obtain ⟨T275, h275, X275, e275, W275, st275⟩ := putF X274 hx hZ hown (host := "") (Or.inl (hw _ (List.mem_of_getElem? (i := 106) rfl))) Via.refl rfl f276 f277 (Or.inl (hw _ (List.mem_of_getElem? (i := 107) rfl))) (hw _ (List.mem_of_getElem? (i := 65) rfl)) (ty := .int) (by decide) rfl rfl (g := (mkF m 55 #[.val (.ref sb), .val (.long lv), .second, .val (.int (Int32.ofNat xs.length)), .val (.int (Int32.ofNat (xs ++ own_txt lv cn).length))] [(.int (Int32.ofNat (xs ++ own_txt lv cn).length)), (.ref sb)])) rfl rfl (hb hby d27_55)
  refine own_by st275 ?_
  have N275 := Fr.snoc X275 N274 gs
  have fw275 := f276.same W275
  have K278 := K274c.wr W275 (Or.inl (List.mem_of_getElem? (i := 0) rfl))
  have Z275 : n0 ≤ h275.size := Nat.le_trans Z274 (Keep.of_wr W275).1
  refine own_by (fun _ k => XS.aloadN X275.here hx rfl (hb hby d27_58) rfl rfl k) ?_
  have f279 := (f277.wr W275)
  have f280 := ((Ce.keep Kp (ninS nsq2 nin0)).other W275 (Or.inr (slot_ne (Or.inl (hw _ (List.mem_of_getElem? (i := 81) rfl))) (Or.inl (hw _ (List.mem_of_getElem? (i := 107) rfl))) (by decide) (t := .byte) (t' := .int) (by decide) (by decide))))
  have f281 := ((Ve.keep Kp (ninS nsq2 nin0)).other W275 (Or.inr (slot_ne (Or.inl (hw _ (List.mem_of_getElem? (i := 79) rfl))) (Or.inl (hw _ (List.mem_of_getElem? (i := 107) rfl))) (by decide) (t := (.array .byte)) (t' := .int) (by decide) (by decide))))
  have f282 := (Ap.other W275 (Ne.symm nsq2))
  exact own_retA X275 hx hlk hret rfl rfl (hb hby d27_59) (by first | exact ⟨rfl, N275, cn, hC, q2, k2, K278, gq2, f279, f280, f281, fw275, f282⟩ | (rw [e275]; exact ⟨rfl, N275, cn, hC, q2, k2, K278, gq2, f279, f280, f281, fw275, f282⟩)) (by decide) (by decide)
def Q_rm26 (Z : State) (sb q : Addr) (kq : ClassId) (cap : Nat) (xs : List Int32) (lv : Int64) (w1 : Int32) (d1 d2 : Addr) (kd1 kd2 : ClassId) (fm : Value) (h0 : Heap) (n0 : Nat) (v : Option Value) (h : Heap) (L : List Loc) : Prop := v = some (.ref sb) ∧ Fr n0 L ∧ ∃ (cn : Nat) (hC : own_C (own_abs lv) cn) (q2 : Addr) (k2 : ClassId), Keep h0 h [sb, q] ∧ n0 ≤ q2 ∧ Exa Z h sb "java/lang/StringBuilder" ∧ Fld Z h sb "java/lang/AbstractStringBuilder" "coder" "B" (.int (0 : Int32)) ∧ Fld Z h sb "java/lang/AbstractStringBuilder" "value" "[B" (.ref q2) ∧ Fld Z h sb "java/lang/AbstractStringBuilder" "count" "I" (.int (Int32.ofNat (xs ++ own_txt lv cn).length)) ∧ Arv Z h q2 k2 .byte (Int32.ofNat (own_cpn cap (xs.length + (cn + own_sg lv)))) ((own_pad (own_cpn cap (xs.length + (cn + own_sg lv))) (xs ++ own_txt lv cn)).map Value.int) (.int 0)
theorem pn_rm26 : plainFor (⟨"java/lang/StringBuilder", "append", "(J)Ljava/lang/StringBuilder;"⟩ : MethodName) = true := by first | exact plainFor_of_name (by first | (simp [plainName, overriddenIn, x]; done) | decide +kernel) | decide +kernel
theorem d26_0 : decode jdk_67_method_16_code 0 = .ok (.aload_n 0, 1) := by decide +kernel
theorem d26_1 : decode jdk_67_method_16_code 1 = .ok (.lload_n 1, 1) := by decide +kernel
theorem pd_16 : parseMethodDescriptor "(J)Ljava/lang/AbstractStringBuilder;" = some ⟨[.long], some (.object "java/lang/AbstractStringBuilder")⟩ := by decide +kernel
theorem d26_2 : decode jdk_67_method_16_code 2 = .ok (.invokespecial 56, 3) := by decide +kernel
theorem d26_5 : decode jdk_67_method_16_code 5 = .ok (.pop, 1) := by decide +kernel
theorem d26_6 : decode jdk_67_method_16_code 6 = .ok (.aload_n 0, 1) := by decide +kernel
theorem d26_7 : decode jdk_67_method_16_code 7 = .ok (.areturn, 1) := by decide +kernel
set_option maxRecDepth 65536 in
set_option maxHeartbeats 40000000 in
theorem rm26 (l : Launch) (Z : State) (a0 : Array Value) (hw : ∀ d ∈ tables_1, d.before a0 Z = true) (ws : List Jvm.Cond) (sb q : Addr) (kq : ClassId) (cap : Nat) (xs : List Int32) (lv : Int64) (w1 : Int32) (d1 d2 : Addr) (kd1 kd2 : ClassId) (fm : Value) (h0 : Heap) (n0 : Nat) (Z0 : n0 ≤ h0.size) (hz : Z.heap.size ≤ n0) (hkz : own_K Z h0) (TB : own_Tb Z w1 d1 d2 kd1 kd2 fm) (gs : n0 ≤ sb) (gq : n0 ≤ q) (Es : Exa Z h0 sb "java/lang/StringBuilder") (Cs : Fld Z h0 sb "java/lang/AbstractStringBuilder" "coder" "B" (.int (0 : Int32))) (Vs : Fld Z h0 sb "java/lang/AbstractStringBuilder" "value" "[B" (.ref q)) (Ns : Fld Z h0 sb "java/lang/AbstractStringBuilder" "count" "I" (.int (Int32.ofNat xs.length))) (Aq : Arv Z h0 q kq .byte (Int32.ofNat cap) ((own_pad cap xs).map Value.int) (.int 0)) (hcap : xs.length ≤ cap) (hcb : cap ≤ 200) (hm2 : ∀ cn, own_C (own_abs lv) cn → own_cpn cap (xs.length + (cn + own_sg lv)) ≤ 200) :
    own_Met l Z (⟨"java/lang/StringBuilder", "append", "(J)Ljava/lang/StringBuilder;"⟩ : MethodName) jdk_67_method_16_code 3 (some (.object "java/lang/StringBuilder")) ws ({ frames := 5, cells := 1, slots := 200, locals := 96 } : Room) #[(.ref sb), (.long lv)] h0 (Q_rm26 Z sb q kq cap xs lv w1 d1 d2 kd1 kd2 fm h0 n0) := by
  refine own_enter (g0 := fun m => (mkF m 0 #[.val (.ref sb), .val (.long lv), .second] [])) pn_rm26 (fun m => by first | (simp [entryFrame, mkF, argsToLocals, Value.category, maxLocals]; done) | rfl) ?_
  intro p e s m below meth c s₁ hx hby hml hown hnm hret hlk hZ X0 e0
  have hml : c.maxLocals = 3 := hml
  have hown : s.vm.findClass "java/lang/StringBuilder" = some m.cls := hown
  have N0 := Fr.nil n0
  have nsq : sb ≠ q := Exa.neArv Es Aq (hw _ (List.mem_of_getElem? (i := 65) rfl))
  have K0 := Keep.refl h0 [sb, q]
  refine own_by (fun _ k => XS.aloadN X0.here hx rfl (hb hby d26_0) rfl rfl k) ?_
  refine own_by (fun _ k => XS.lloadN X0.here hx rfl (hb hby d26_1) rfl k) ?_
  obtain ⟨_, T283, L283, X283, ⟨rfl, N283q, cn, hC, q2, k2, Ke, gq2, Ee, Ce, Ve, Nx, Ae⟩, st283⟩ := own_callSup X0 hx hZ hown (y := (⟨"java/lang/AbstractStringBuilder", "append", "(J)Ljava/lang/AbstractStringBuilder;"⟩ : MethodName)) (y' := (⟨"java/lang/AbstractStringBuilder", "isLatin1", "()Z"⟩ : MethodName)) (C := "java/lang/StringBuilder") (hw _ (List.mem_of_getElem? (i := 184) rfl)) (hw _ (List.mem_of_getElem? (i := 185) rfl)) (hw _ (List.mem_of_getElem? (i := 90) rfl)) (hw _ (List.mem_of_getElem? (i := 169) rfl)) (hw _ (List.mem_of_getElem? (i := 168) rfl)) rfl (hw _ (List.mem_of_getElem? (i := 74) rfl)) (hw _ (List.mem_of_getElem? (i := 187) rfl)) (by decide) (by decide) (a := sb) Es (argsL := [(.long lv)]) (rest := []) e0 (rm27 l Z a0 hw [] sb q kq cap xs lv w1 d1 d2 kd1 kd2 fm h0 n0 Z0 hz hkz TB gs gq Es Cs Vs Ns Aq hcap hcb hm2) (g := (mkF m 2 #[.val (.ref sb), .val (.long lv), .second] [(.long lv), (.ref sb)])) rfl (by rw [hml]; rfl) (lenOf pd_16 rfl) rfl (W := 0) (by show 2 * 0 + _ ≤ _; exact Nat.le_of_eq rfl) (hb hby d26_2) (by decide) (by decide) (by decide) (by decide)
  have N283 := Fr.app N0 N283q
  refine own_by st283 ?_
  have Z283 : n0 ≤ T283.heap.size := Nat.le_trans Z0 Ke.1
  have K283c := K0.trans Ke (allS (Or.inl (List.mem_of_getElem? (i := 0) rfl)) (allS (Or.inl (List.mem_of_getElem? (i := 1) rfl)) all0))
  refine own_by (fun _ k => XS.pop X283.here hx rfl (hb hby d26_5) rfl rfl k) ?_
  refine own_by (fun _ k => XS.aloadN X283.here hx rfl (hb hby d26_6) rfl rfl k) ?_
  exact own_retA X283 hx hlk hret rfl rfl (hb hby d26_7) ⟨rfl, N283, cn, hC, q2, k2, K283c, gq2, Ee, Ce, Ve, Nx, Ae⟩ (by decide) (by decide)
def Q_rm33 (Z : State) (sb q : Addr) (kq : ClassId) (cap : Nat) (xs : List Int32) (h0 : Heap) (n0 : Nat) (v : Option Value) (h : Heap) (L : List Loc) : Prop := v = some (.ref q) ∧ Fr n0 L ∧ h = h0
theorem pn_rm33 : plainFor (⟨"java/lang/AbstractStringBuilder", "getValue", "()[B"⟩ : MethodName) = true := by first | exact plainFor_of_name (by first | (simp [plainName, overriddenIn, x]; done) | decide +kernel) | decide +kernel
theorem d33_0 : decode jdk_68_method_64_code 0 = .ok (.aload_n 0, 1) := by decide +kernel
theorem d33_1 : decode jdk_68_method_64_code 1 = .ok (.getfield 15, 3) := by decide +kernel
theorem d33_4 : decode jdk_68_method_64_code 4 = .ok (.areturn, 1) := by decide +kernel
set_option maxRecDepth 65536 in
set_option maxHeartbeats 40000000 in
theorem rm33 (l : Launch) (Z : State) (a0 : Array Value) (hw : ∀ d ∈ tables_1, d.before a0 Z = true) (ws : List Jvm.Cond) (sb q : Addr) (kq : ClassId) (cap : Nat) (xs : List Int32) (h0 : Heap) (n0 : Nat) (Z0 : n0 ≤ h0.size) (gs : n0 ≤ sb) (gq : n0 ≤ q) (Es : Exa Z h0 sb "java/lang/StringBuilder") (Cs : Fld Z h0 sb "java/lang/AbstractStringBuilder" "coder" "B" (.int (0 : Int32))) (Vs : Fld Z h0 sb "java/lang/AbstractStringBuilder" "value" "[B" (.ref q)) (Ns : Fld Z h0 sb "java/lang/AbstractStringBuilder" "count" "I" (.int (Int32.ofNat xs.length))) (Aq : Arv Z h0 q kq .byte (Int32.ofNat cap) ((own_pad cap xs).map Value.int) (.int 0)) (hcap : xs.length ≤ cap) (hcb : cap ≤ 200) :
    own_Met l Z (⟨"java/lang/AbstractStringBuilder", "getValue", "()[B"⟩ : MethodName) jdk_68_method_64_code 1 (some (.array .byte)) ws ({ frames := 0, cells := 0, slots := 0, locals := 0 } : Room) #[(.ref sb)] h0 (Q_rm33 Z sb q kq cap xs h0 n0) := by
  refine own_enter (g0 := fun m => (mkF m 0 #[.val (.ref sb)] [])) pn_rm33 (fun m => by first | (simp [entryFrame, mkF, argsToLocals, Value.category, maxLocals]; done) | rfl) ?_
  intro p e s m below meth c s₁ hx hby hml hown hnm hret hlk hZ X0 e0
  have hml : c.maxLocals = 1 := hml
  have hown : s.vm.findClass "java/lang/AbstractStringBuilder" = some m.cls := hown
  have N0 := Fr.nil n0
  have nsq : sb ≠ q := Exa.neArv Es Aq (hw _ (List.mem_of_getElem? (i := 65) rfl))
  have K0 := Keep.refl h0 [sb, q]
  refine own_by (fun _ k => XS.aloadN X0.here hx rfl (hb hby d33_0) rfl rfl k) ?_
  obtain ⟨T284, X284, e284, st284⟩ := getF X0 hx hZ hown (host := "") (Or.inl (hw _ (List.mem_of_getElem? (i := 78) rfl))) Via.refl e0 Vs (g := (mkF m 1 #[.val (.ref sb)] [(.ref sb)])) rfl rfl (hb hby d33_1)
  refine own_by st284 ?_
  exact own_retA X284 hx hlk hret rfl rfl (hb hby d33_4) (by first | exact ⟨rfl, N0, rfl⟩ | (rw [e284]; exact ⟨rfl, N0, rfl⟩)) (by decide) (by decide)
def Q_rm35 (Z : State) (sb q : Addr) (kq : ClassId) (cap : Nat) (xs : List Int32) (h0 : Heap) (n0 : Nat) (v : Option Value) (h : Heap) (L : List Loc) : Prop := v = some (.int (Int32.ofNat xs.length)) ∧ Fr n0 L ∧ h = h0
theorem pn_rm35 : plainFor (⟨"java/lang/AbstractStringBuilder", "length", "()I"⟩ : MethodName) = true := by first | exact plainFor_of_name (by first | (simp [plainName, overriddenIn, x]; done) | decide +kernel) | decide +kernel
theorem d35_0 : decode jdk_68_method_6_code 0 = .ok (.aload_n 0, 1) := by decide +kernel
theorem d35_1 : decode jdk_68_method_6_code 1 = .ok (.getfield 79, 3) := by decide +kernel
theorem d35_4 : decode jdk_68_method_6_code 4 = .ok (.ireturn, 1) := by decide +kernel
set_option maxRecDepth 65536 in
set_option maxHeartbeats 40000000 in
theorem rm35 (l : Launch) (Z : State) (a0 : Array Value) (hw : ∀ d ∈ tables_1, d.before a0 Z = true) (ws : List Jvm.Cond) (sb q : Addr) (kq : ClassId) (cap : Nat) (xs : List Int32) (h0 : Heap) (n0 : Nat) (Z0 : n0 ≤ h0.size) (gs : n0 ≤ sb) (gq : n0 ≤ q) (Es : Exa Z h0 sb "java/lang/StringBuilder") (Cs : Fld Z h0 sb "java/lang/AbstractStringBuilder" "coder" "B" (.int (0 : Int32))) (Vs : Fld Z h0 sb "java/lang/AbstractStringBuilder" "value" "[B" (.ref q)) (Ns : Fld Z h0 sb "java/lang/AbstractStringBuilder" "count" "I" (.int (Int32.ofNat xs.length))) (Aq : Arv Z h0 q kq .byte (Int32.ofNat cap) ((own_pad cap xs).map Value.int) (.int 0)) (hcap : xs.length ≤ cap) (hcb : cap ≤ 200) :
    own_Met l Z (⟨"java/lang/AbstractStringBuilder", "length", "()I"⟩ : MethodName) jdk_68_method_6_code 1 (some .int) ws ({ frames := 0, cells := 0, slots := 0, locals := 0 } : Room) #[(.ref sb)] h0 (Q_rm35 Z sb q kq cap xs h0 n0) := by
  refine own_enter (g0 := fun m => (mkF m 0 #[.val (.ref sb)] [])) pn_rm35 (fun m => by first | (simp [entryFrame, mkF, argsToLocals, Value.category, maxLocals]; done) | rfl) ?_
  intro p e s m below meth c s₁ hx hby hml hown hnm hret hlk hZ X0 e0
  have hml : c.maxLocals = 1 := hml
  have hown : s.vm.findClass "java/lang/AbstractStringBuilder" = some m.cls := hown
  have N0 := Fr.nil n0
  have nsq : sb ≠ q := Exa.neArv Es Aq (hw _ (List.mem_of_getElem? (i := 65) rfl))
  have K0 := Keep.refl h0 [sb, q]
  refine own_by (fun _ k => XS.aloadN X0.here hx rfl (hb hby d35_0) rfl rfl k) ?_
  obtain ⟨T285, X285, e285, st285⟩ := getF X0 hx hZ hown (host := "") (Or.inl (hw _ (List.mem_of_getElem? (i := 106) rfl))) Via.refl e0 Ns (g := (mkF m 1 #[.val (.ref sb)] [(.ref sb)])) rfl rfl (hb hby d35_1)
  refine own_by st285 ?_
  exact own_retI X285 hx hlk hret  (hb hby d35_4) (by first | exact ⟨rfl, N0, rfl⟩ | (rw [e285]; exact ⟨rfl, N0, rfl⟩)) (by decide) (by decide)
def Q_rm34 (Z : State) (sb q : Addr) (kq : ClassId) (cap : Nat) (xs : List Int32) (h0 : Heap) (n0 : Nat) (v : Option Value) (h : Heap) (L : List Loc) : Prop := v = some (.int (Int32.ofNat xs.length)) ∧ Fr n0 L ∧ h = h0
theorem pn_rm34 : plainFor (⟨"java/lang/StringBuilder", "length", "()I"⟩ : MethodName) = true := by first | exact plainFor_of_name (by first | (simp [plainName, overriddenIn, x]; done) | decide +kernel) | decide +kernel
theorem d34_0 : decode jdk_67_method_93_code 0 = .ok (.aload_n 0, 1) := by decide +kernel
theorem d34_1 : decode jdk_67_method_93_code 1 = .ok (.invokespecial 343, 3) := by decide +kernel
theorem d34_4 : decode jdk_67_method_93_code 4 = .ok (.ireturn, 1) := by decide +kernel
set_option maxRecDepth 65536 in
set_option maxHeartbeats 40000000 in
theorem rm34 (l : Launch) (Z : State) (a0 : Array Value) (hw : ∀ d ∈ tables_1, d.before a0 Z = true) (ws : List Jvm.Cond) (sb q : Addr) (kq : ClassId) (cap : Nat) (xs : List Int32) (h0 : Heap) (n0 : Nat) (Z0 : n0 ≤ h0.size) (gs : n0 ≤ sb) (gq : n0 ≤ q) (Es : Exa Z h0 sb "java/lang/StringBuilder") (Cs : Fld Z h0 sb "java/lang/AbstractStringBuilder" "coder" "B" (.int (0 : Int32))) (Vs : Fld Z h0 sb "java/lang/AbstractStringBuilder" "value" "[B" (.ref q)) (Ns : Fld Z h0 sb "java/lang/AbstractStringBuilder" "count" "I" (.int (Int32.ofNat xs.length))) (Aq : Arv Z h0 q kq .byte (Int32.ofNat cap) ((own_pad cap xs).map Value.int) (.int 0)) (hcap : xs.length ≤ cap) (hcb : cap ≤ 200) :
    own_Met l Z (⟨"java/lang/StringBuilder", "length", "()I"⟩ : MethodName) jdk_67_method_93_code 1 (some .int) ws ({ frames := 1, cells := 0, slots := 0, locals := 13 } : Room) #[(.ref sb)] h0 (Q_rm34 Z sb q kq cap xs h0 n0) := by
  refine own_enter (g0 := fun m => (mkF m 0 #[.val (.ref sb)] [])) pn_rm34 (fun m => by first | (simp [entryFrame, mkF, argsToLocals, Value.category, maxLocals]; done) | rfl) ?_
  intro p e s m below meth c s₁ hx hby hml hown hnm hret hlk hZ X0 e0
  have hml : c.maxLocals = 1 := hml
  have hown : s.vm.findClass "java/lang/StringBuilder" = some m.cls := hown
  have N0 := Fr.nil n0
  have nsq : sb ≠ q := Exa.neArv Es Aq (hw _ (List.mem_of_getElem? (i := 65) rfl))
  have K0 := Keep.refl h0 [sb, q]
  refine own_by (fun _ k => XS.aloadN X0.here hx rfl (hb hby d34_0) rfl rfl k) ?_
  obtain ⟨_, T286, L286, X286, ⟨rfl, N286q, e286⟩, st286⟩ := own_callSup X0 hx hZ hown (y := (⟨"java/lang/AbstractStringBuilder", "length", "()I"⟩ : MethodName)) (y' := (⟨"java/lang/AbstractStringBuilder", "isLatin1", "()Z"⟩ : MethodName)) (C := "java/lang/StringBuilder") (hw _ (List.mem_of_getElem? (i := 226) rfl)) (hw _ (List.mem_of_getElem? (i := 222) rfl)) (hw _ (List.mem_of_getElem? (i := 90) rfl)) (hw _ (List.mem_of_getElem? (i := 169) rfl)) (hw _ (List.mem_of_getElem? (i := 168) rfl)) rfl (hw _ (List.mem_of_getElem? (i := 74) rfl)) (hw _ (List.mem_of_getElem? (i := 227) rfl)) (by decide) (by decide) (a := sb) Es (argsL := []) (rest := []) e0 (rm35 l Z a0 hw [] sb q kq cap xs h0 n0 Z0 gs gq Es Cs Vs Ns Aq hcap hcb) (g := (mkF m 1 #[.val (.ref sb)] [(.ref sb)])) rfl (by rw [hml]; rfl) (lenOf pd_7 rfl) rfl (W := 0) (by show 2 * 0 + _ ≤ _; exact Nat.le_of_eq rfl) (hb hby d34_1) (by decide) (by decide) (by decide) (by decide)
  have N286 := Fr.app N0 N286q
  refine own_by st286 ?_
  exact own_retI X286 hx hlk hret  (hb hby d34_4) (by first | exact ⟨rfl, N286, rfl⟩ | (rw [e286]; exact ⟨rfl, N286, rfl⟩)) (by decide) (by decide)
def Q_rm38 (Z : State) (nw : Nat) (h0 : Heap) (n0 : Nat) (v : Option Value) (h : Heap) (L : List Loc) : Prop := v = none ∧ Fr n0 L ∧ h = h0
theorem pn_rm38 : plainFor (⟨"java/util/Arrays", "checkLength", "(II)V"⟩ : MethodName) = true := by first | exact plainFor_of_name (by first | (simp [plainName, overriddenIn, x]; done) | decide +kernel) | decide +kernel
theorem d38_0 : decode jdk_65_method_131_code 0 = .ok (.iload_n 1, 1) := by decide +kernel
theorem d38_1 : decode jdk_65_method_131_code 1 = .ok (.iload_n 0, 1) := by decide +kernel
theorem d38_2 : decode jdk_65_method_131_code 2 = .ok (.if_icmp .ge 35, 3) := by decide +kernel
theorem d38_37 : decode jdk_65_method_131_code 37 = .ok (.return_, 1) := by decide +kernel
set_option maxRecDepth 65536 in
set_option maxHeartbeats 40000000 in
theorem rm38 (l : Launch) (Z : State) (a0 : Array Value) (hw : ∀ d ∈ tables_1, d.before a0 Z = true) (ws : List Jvm.Cond) (nw : Nat) (h0 : Heap) (n0 : Nat) (Z0 : n0 ≤ h0.size) (hn : nw ≤ 1000) :
    own_Met l Z (⟨"java/util/Arrays", "checkLength", "(II)V"⟩ : MethodName) jdk_65_method_131_code 2 none ws ({ frames := 0, cells := 0, slots := 0, locals := 0 } : Room) #[(.int (0 : Int32)), (.int (Int32.ofNat nw))] h0 (Q_rm38 Z nw h0 n0) := by
  refine own_enter (g0 := fun m => (mkF m 0 #[.val (.int (0 : Int32)), .val (.int (Int32.ofNat nw))] [])) pn_rm38 (fun m => by first | (simp [entryFrame, mkF, argsToLocals, Value.category, maxLocals]; done) | rfl) ?_
  intro p e s m below meth c s₁ hx hby hml hown hnm hret hlk hZ X0 e0
  have hml : c.maxLocals = 2 := hml
  have hown : s.vm.findClass "java/util/Arrays" = some m.cls := hown
  have N0 := Fr.nil n0
  refine own_by (fun _ k => XS.iloadN X0.here hx rfl (hb hby d38_0) rfl k) ?_
  refine own_by (fun _ k => XS.iloadN X0.here hx rfl (hb hby d38_1) rfl k) ?_
  refine own_by (fun _ k => XS.icmpYes X0.here hx rfl (pc0 := 2) (pc' := 37) rfl (hb hby d38_2) rfl (flt (own_nn (by omega) : ¬ ((Int32.ofNat nw) < (0 : Int32)))).2.1 (by decide) (by decide) k) ?_
  exact own_ret0 X0 hx hlk hret (hb hby d38_37) (by first | exact ⟨rfl, N0, rfl⟩ | (rw [e0]; exact ⟨rfl, N0, rfl⟩)) (by decide) (by decide)
def Q_rm37 (Z : State) (q : Addr) (kq : ClassId) (cap : Nat) (xs : List Int32) (h0 : Heap) (n0 : Nat) (v : Option Value) (h : Heap) (L : List Loc) : Prop := ∃ b kb, v = some (.ref b) ∧ Fr n0 L ∧ Keep h0 h [] ∧ h0.size ≤ b ∧ Arv Z h b kb .byte (Int32.ofNat xs.length) (xs.map Value.int) (.int 0)
theorem pn_rm37 : plainFor (⟨"java/util/Arrays", "copyOfRangeByte", "([BII)[B"⟩ : MethodName) = true := by first | exact plainFor_of_name (by first | (simp [plainName, overriddenIn, x]; done) | decide +kernel) | decide +kernel
theorem d37_0 : decode jdk_65_method_133_code 0 = .ok (.iload_n 1, 1) := by decide +kernel
theorem d37_1 : decode jdk_65_method_133_code 1 = .ok (.iload_n 2, 1) := by decide +kernel
theorem pd_17 : parseMethodDescriptor "(II)V" = some ⟨[.int, .int], none⟩ := by decide +kernel
theorem d37_2 : decode jdk_65_method_133_code 2 = .ok (.invokestatic 343, 3) := by decide +kernel
theorem d37_5 : decode jdk_65_method_133_code 5 = .ok (.iload_n 2, 1) := by decide +kernel
theorem d37_6 : decode jdk_65_method_133_code 6 = .ok (.iload_n 1, 1) := by decide +kernel
theorem d37_7 : decode jdk_65_method_133_code 7 = .ok (.isub, 1) := by decide +kernel
theorem d37_8 : decode jdk_65_method_133_code 8 = .ok (.istore_n 3, 1) := by decide +kernel
theorem d37_9 : decode jdk_65_method_133_code 9 = .ok (.iload_n 3, 1) := by decide +kernel
theorem d37_10 : decode jdk_65_method_133_code 10 = .ok (.newarray .byte, 2) := by decide +kernel
theorem d37_12 : decode jdk_65_method_133_code 12 = .ok (.astore 4, 2) := by decide +kernel
theorem d37_14 : decode jdk_65_method_133_code 14 = .ok (.aload_n 0, 1) := by decide +kernel
theorem d37_15 : decode jdk_65_method_133_code 15 = .ok (.iload_n 1, 1) := by decide +kernel
theorem d37_16 : decode jdk_65_method_133_code 16 = .ok (.aload 4, 2) := by decide +kernel
theorem d37_18 : decode jdk_65_method_133_code 18 = .ok (.iconst 0, 1) := by decide +kernel
theorem d37_19 : decode jdk_65_method_133_code 19 = .ok (.aload_n 0, 1) := by decide +kernel
theorem d37_20 : decode jdk_65_method_133_code 20 = .ok (.arraylength, 1) := by decide +kernel
theorem d37_21 : decode jdk_65_method_133_code 21 = .ok (.iload_n 1, 1) := by decide +kernel
theorem d37_22 : decode jdk_65_method_133_code 22 = .ok (.isub, 1) := by decide +kernel
theorem d37_23 : decode jdk_65_method_133_code 23 = .ok (.iload_n 3, 1) := by decide +kernel
theorem d37_24 : decode jdk_65_method_133_code 24 = .ok (.invokestatic 304, 3) := by decide +kernel
theorem d37_27 : decode jdk_65_method_133_code 27 = .ok (.invokestatic 150, 3) := by decide +kernel
theorem d37_30 : decode jdk_65_method_133_code 30 = .ok (.aload 4, 2) := by decide +kernel
theorem d37_32 : decode jdk_65_method_133_code 32 = .ok (.areturn, 1) := by decide +kernel
set_option maxRecDepth 65536 in
set_option maxHeartbeats 40000000 in
theorem rm37 (l : Launch) (Z : State) (a0 : Array Value) (hw : ∀ d ∈ tables_1, d.before a0 Z = true) (ws : List Jvm.Cond) (q : Addr) (kq : ClassId) (cap : Nat) (xs : List Int32) (h0 : Heap) (n0 : Nat) (Z0 : n0 ≤ h0.size) (Aq : Arv Z h0 q kq .byte (Int32.ofNat cap) ((own_pad cap xs).map Value.int) (.int 0)) (hcap : xs.length ≤ cap) (hcb : cap ≤ 200) :
    own_Met l Z (⟨"java/util/Arrays", "copyOfRangeByte", "([BII)[B"⟩ : MethodName) jdk_65_method_133_code 5 (some (.array .byte)) ws ({ frames := 1, cells := 1, slots := 200, locals := 34 } : Room) #[(.ref q), (.int (0 : Int32)), (.int (Int32.ofNat xs.length))] h0 (Q_rm37 Z q kq cap xs h0 n0) := by
  refine own_enter (g0 := fun m => (mkF m 0 #[.val (.ref q), .val (.int (0 : Int32)), .val (.int (Int32.ofNat xs.length)), .unset, .unset] [])) pn_rm37 (fun m => by first | (simp [entryFrame, mkF, argsToLocals, Value.category, maxLocals]; done) | rfl) ?_
  intro p e s m below meth c s₁ hx hby hml hown hnm hret hlk hZ X0 e0
  have hml : c.maxLocals = 5 := hml
  have hown : s.vm.findClass "java/util/Arrays" = some m.cls := hown
  have N0 := Fr.nil n0
  have K0 := Keep.refl h0 []
  refine own_by (fun _ k => XS.iloadN X0.here hx rfl (hb hby d37_0) rfl k) ?_
  refine own_by (fun _ k => XS.iloadN X0.here hx rfl (hb hby d37_1) rfl k) ?_
  obtain ⟨_, T287, L287, X287, ⟨rfl, N287q, e287⟩, st287⟩ := own_callS X0 hx hZ hown (y := (⟨"java/util/Arrays", "checkLength", "(II)V"⟩ : MethodName)) (hw _ (List.mem_of_getElem? (i := 235) rfl)) (hw _ (List.mem_of_getElem? (i := 236) rfl)) (hw _ (List.mem_of_getElem? (i := 129) rfl)) (hw _ (List.mem_of_getElem? (i := 237) rfl)) (by decide) (argsL := [(.int (0 : Int32)), (.int (Int32.ofNat xs.length))]) (rest := []) e0 (rm38 l Z a0 hw [] xs.length h0 n0 Z0 (by omega)) (g := (mkF m 2 #[.val (.ref q), .val (.int (0 : Int32)), .val (.int (Int32.ofNat xs.length)), .unset, .unset] [(.int (Int32.ofNat xs.length)), (.int (0 : Int32))])) rfl (by rw [hml]; rfl) (lenOf pd_17 rfl) rfl (W := 0) (by show 2 * 0 + _ ≤ _; exact Nat.le_of_eq rfl) (hb hby d37_2) (by decide) (by decide) (by decide) (by decide)
  have N287 := Fr.app N0 N287q
  refine own_by st287 ?_
  refine own_by (fun _ k => XS.iloadN X287.here hx rfl (hb hby d37_5) rfl k) ?_
  refine own_by (fun _ k => XS.iloadN X287.here hx rfl (hb hby d37_6) rfl k) ?_
  refine own_by (fun _ k => XS.isub X287.here hx rfl (hb hby d37_7) rfl k) ?_
  show own_Go p e below _ T287 (mkF m 8 #[.val (.ref q), .val (.int (0 : Int32)), .val (.int (Int32.ofNat xs.length)), .unset, .unset] [(.int ((Int32.ofNat xs.length) - (0 : Int32)))])
  rw [show ((Int32.ofNat xs.length) - (0 : Int32)) = (Int32.ofNat xs.length) from Int32.sub_zero _]
  refine own_by (fun _ k => XS.istoreN X287.here hx rfl (hb hby d37_8) rfl (l' := #[.val (.ref q), .val (.int (0 : Int32)), .val (.int (Int32.ofNat xs.length)), .val (.int (Int32.ofNat xs.length)), .unset]) rfl k) ?_
  refine own_by (fun _ k => XS.iloadN X287.here hx rfl (hb hby d37_9) rfl k) ?_
  obtain ⟨T288, h288, k288, X288, e288, E288, A288, C288, st288⟩ := newPE X287 hx hZ (hw _ (List.mem_of_getElem? (i := 32) rfl)) e287 (g := (mkF m 10 #[.val (.ref q), .val (.int (0 : Int32)), .val (.int (Int32.ofNat xs.length)), .val (.int (Int32.ofNat xs.length)), .unset] [(.int (Int32.ofNat xs.length))])) rfl (hb hby d37_10) rfl (own_nn (show xs.length ≤ 100000 by omega)) (cap := 200) (by rw [own_tn (show xs.length ≤ 100000 by omega)]; exact (by omega)) (by decide) (by decide) (by decide) (ad := "[B") (by decide)
  obtain ⟨b288, g288⟩ : ∃ zq, zq = h0.size := ⟨_, rfl⟩
  rw [← g288] at A288 C288 st288
  have ne_q_b288 : q ≠ b288 := Nat.ne_of_lt (Nat.lt_of_lt_of_le Aq.lt (Nat.le_of_eq g288.symm))
  have og_b288 : n0 ≤ b288 := Nat.le_trans Z0 (Nat.le_of_eq g288.symm)
  have sz_b288 : h0.size ≤ b288 := Nat.le_trans K0.1 (Nat.le_of_eq g288.symm)
  have Z288 : n0 ≤ h288.size := Nat.le_trans Z0 E288.1
  have K289 := K0.ext E288
  have V288 : Arv Z h288 b288 k288 .byte (Int32.ofNat xs.length) ((List.replicate xs.length (0 : Int32)).map Value.int) (.int (0 : Int32)) := own_newA A288 (own_nn (show xs.length ≤ 100000 by omega)) xs.length
  refine own_by st288 ?_
  refine own_by (fun _ k => XS.astore X288.here hx rfl (hb hby d37_12) rfl rfl (l' := #[.val (.ref q), .val (.int (0 : Int32)), .val (.int (Int32.ofNat xs.length)), .val (.int (Int32.ofNat xs.length)), .val (.ref b288)]) rfl k) ?_
  refine own_by (fun _ k => XS.aloadN X288.here hx rfl (hb hby d37_14) rfl rfl k) ?_
  refine own_by (fun _ k => XS.iloadN X288.here hx rfl (hb hby d37_15) rfl k) ?_
  refine own_by (fun _ k => XS.aload X288.here hx rfl (hb hby d37_16) rfl rfl k) ?_
  refine own_by (fun _ k => XS.iconst X288.here hx rfl (hb hby d37_18) k) ?_
  show own_Go p e below _ T288 (mkF m 19 #[.val (.ref q), .val (.int (0 : Int32)), .val (.int (Int32.ofNat xs.length)), .val (.int (Int32.ofNat xs.length)), .val (.ref b288)] [(.int (0 : Int32)), (.ref b288), (.int (0 : Int32)), (.ref q)])
  refine own_by (fun _ k => XS.aloadN X288.here hx rfl (hb hby d37_19) rfl rfl k) ?_
  have f291 := (Aq.ext E288)
  obtain ⟨cl290, Ar290, len290⟩ := own_len f291
  refine own_by (T' := T288) (g' := (mkF m 21 #[.val (.ref q), .val (.int (0 : Int32)), .val (.int (Int32.ofNat xs.length)), .val (.int (Int32.ofNat xs.length)), .val (.ref b288)] [(.int (Int32.ofNat cap)), (.int (0 : Int32)), (.ref b288), (.int (0 : Int32)), (.ref q)])) (fun _ k => X288.arraylength hx (by rw [e288]; exact Ar290.1) (State.isArrayOf_alike hZ.alike Ar290.2.1) (g := (mkF m 20 #[.val (.ref q), .val (.int (0 : Int32)), .val (.int (Int32.ofNat xs.length)), .val (.int (Int32.ofNat xs.length)), .val (.ref b288)] [(.ref q), (.int (0 : Int32)), (.ref b288), (.int (0 : Int32)), (.ref q)])) rfl rfl (hb hby d37_20) _ (by rw [len290]; exact k)) ?_
  refine own_by (fun _ k => XS.iloadN X288.here hx rfl (hb hby d37_21) rfl k) ?_
  refine own_by (fun _ k => XS.isub X288.here hx rfl (hb hby d37_22) rfl k) ?_
  show own_Go p e below _ T288 (mkF m 23 #[.val (.ref q), .val (.int (0 : Int32)), .val (.int (Int32.ofNat xs.length)), .val (.int (Int32.ofNat xs.length)), .val (.ref b288)] [(.int ((Int32.ofNat cap) - (0 : Int32))), (.int (0 : Int32)), (.ref b288), (.int (0 : Int32)), (.ref q)])
  rw [show ((Int32.ofNat cap) - (0 : Int32)) = (Int32.ofNat cap) from Int32.sub_zero _]
  refine own_by (fun _ k => XS.iloadN X288.here hx rfl (hb hby d37_23) rfl k) ?_
  obtain ⟨_, T292, L292, X292, ⟨rfl, N292q, e292⟩, st292⟩ := own_callS X288 hx hZ hown (y := (⟨"java/lang/Math", "min", "(II)I"⟩ : MethodName)) (hw _ (List.mem_of_getElem? (i := 131) rfl)) (hw _ (List.mem_of_getElem? (i := 45) rfl)) (hw _ (List.mem_of_getElem? (i := 46) rfl)) (hw _ (List.mem_of_getElem? (i := 47) rfl)) (by decide) (argsL := [(.int (Int32.ofNat cap)), (.int (Int32.ofNat xs.length))]) (rest := [(.int (0 : Int32)), (.ref b288), (.int (0 : Int32)), (.ref q)]) e288 (rm4 l Z a0 hw [] (Int32.ofNat cap) (Int32.ofNat xs.length) h288 n0 Z288 ) (g := (mkF m 24 #[.val (.ref q), .val (.int (0 : Int32)), .val (.int (Int32.ofNat xs.length)), .val (.int (Int32.ofNat xs.length)), .val (.ref b288)] [(.int (Int32.ofNat xs.length)), (.int (Int32.ofNat cap)), (.int (0 : Int32)), (.ref b288), (.int (0 : Int32)), (.ref q)])) rfl (by rw [hml]; rfl) (lenOf pd_0 rfl) rfl (W := 4) (by show 2 * 0 + _ ≤ _; exact Nat.le_of_eq rfl) (hb hby d37_24) (by decide) (by decide) (by decide) (by decide)
  have N292 := Fr.app N287 N292q
  refine own_by st292 ?_
  show own_Go p e below _ T292 (mkF m 27 #[.val (.ref q), .val (.int (0 : Int32)), .val (.int (Int32.ofNat xs.length)), .val (.int (Int32.ofNat xs.length)), .val (.ref b288)] [(.int (own_imin (Int32.ofNat cap) (Int32.ofNat xs.length))), (.int (0 : Int32)), (.ref b288), (.int (0 : Int32)), (.ref q)])
  rw [show (own_imin (Int32.ofNat cap) (Int32.ofNat xs.length)) = (Int32.ofNat xs.length) from own_minr (by omega) (by omega) (by omega)]
  obtain ⟨T293, h293, L293, X293, e293, N293, K293, A293, st293⟩ := cpA X292 hx hZ hown (hw _ (List.mem_of_getElem? (i := 132) rfl)) (hw _ (List.mem_of_getElem? (i := 135) rfl)) (hw _ (List.mem_of_getElem? (i := 133) rfl)) (hw _ (List.mem_of_getElem? (i := 134) rfl)) e292 (sp := (0 : Int32)) (dp := (0 : Int32)) (nn := (Int32.ofNat xs.length)) (us := ((List.range xs.length).map fun i => ((own_pad cap xs).map Value.int).getD (0 + i) (.int (0 : Int32)))) f291 V288 (Or.inl ⟨rfl, rfl⟩) (by decide) (by decide) (own_nn (show xs.length ≤ 100000 by omega)) (by simp only [own_tn (show xs.length ≤ 100000 by omega), own_tn (show cap ≤ 100000 by omega), own_tn0]; omega) (by simp only [own_tn (show xs.length ≤ 100000 by omega), own_tn (show cap ≤ 100000 by omega), own_tn0]; omega) (by simp only [own_tn (show xs.length ≤ 100000 by omega), own_tn (show cap ≤ 100000 by omega), own_tn0]) (by simp only [own_tn (show xs.length ≤ 100000 by omega), own_tn (show cap ≤ 100000 by omega), own_tn0, List.length_map, List.length_replicate]; omega) N292 og_b288 (g := (mkF m 27 #[.val (.ref q), .val (.int (0 : Int32)), .val (.int (Int32.ofNat xs.length)), .val (.int (Int32.ofNat xs.length)), .val (.ref b288)] [(.int (Int32.ofNat xs.length)), (.int (0 : Int32)), (.ref b288), (.int (0 : Int32)), (.ref q)])) rfl (by rw [hml]; rfl) rfl (hb hby d37_27) (by decide) (W := 0) (by show 2 * 0 + _ ≤ _; exact Nat.le_of_eq rfl) (by decide)
  have V293 : Arv Z h293 b288 k288 .byte (Int32.ofNat xs.length) (xs.map Value.int) (.int (0 : Int32)) := (by simp only [own_tn (show xs.length ≤ 100000 by omega), own_tn (show cap ≤ 100000 by omega), own_tn0] at A293; rw [own_cp (List.replicate xs.length (0 : Int32)) (own_pad cap xs) (by rw [own_padl hcap]; omega), own_cp3] at A293; exact A293)
  have Z293 : n0 ≤ h293.size := Nat.le_trans Z288 K293.1
  have K293c := K289.trans K293 (allS (Or.inr sz_b288) all0)
  refine own_by st293 ?_
  refine own_by (fun _ k => XS.aload X293.here hx rfl (hb hby d37_30) rfl rfl k) ?_
  exact own_retA X293 hx hlk hret rfl rfl (hb hby d37_32) (by first | exact ⟨b288, k288, rfl, N293, K293c, sz_b288, V293⟩ | (rw [e293]; exact ⟨b288, k288, rfl, N293, K293c, sz_b288, V293⟩)) (by decide) (by decide)
def Q_rm36 (Z : State) (q : Addr) (kq : ClassId) (cap : Nat) (xs : List Int32) (h0 : Heap) (n0 : Nat) (v : Option Value) (h : Heap) (L : List Loc) : Prop := ∃ b kb, v = some (.ref b) ∧ Fr n0 L ∧ Keep h0 h [] ∧ h0.size ≤ b ∧ Arv Z h b kb .byte (Int32.ofNat xs.length) (xs.map Value.int) (.int 0)
theorem pn_rm36 : plainFor (⟨"java/util/Arrays", "copyOfRange", "([BII)[B"⟩ : MethodName) = true := by first | exact plainFor_of_name (by first | (simp [plainName, overriddenIn, x]; done) | decide +kernel) | decide +kernel
theorem d36_0 : decode jdk_65_method_132_code 0 = .ok (.iload_n 1, 1) := by decide +kernel
theorem d36_1 : decode jdk_65_method_132_code 1 = .ok (.ifCond .ne 9, 3) := by decide +kernel
theorem d36_4 : decode jdk_65_method_132_code 4 = .ok (.iload_n 2, 1) := by decide +kernel
theorem d36_5 : decode jdk_65_method_132_code 5 = .ok (.aload_n 0, 1) := by decide +kernel
theorem d36_6 : decode jdk_65_method_132_code 6 = .ok (.arraylength, 1) := by decide +kernel
theorem d36_7 : decode jdk_65_method_132_code 7 = .ok (.if_icmp .eq 10, 3) := by decide +kernel
theorem d36_10 : decode jdk_65_method_132_code 10 = .ok (.aload_n 0, 1) := by decide +kernel
theorem d36_11 : decode jdk_65_method_132_code 11 = .ok (.iload_n 1, 1) := by decide +kernel
theorem d36_12 : decode jdk_65_method_132_code 12 = .ok (.iload_n 2, 1) := by decide +kernel
theorem pd_18 : parseMethodDescriptor "([BII)[B" = some ⟨[(.array .byte), .int, .int], some (.array .byte)⟩ := by decide +kernel
theorem d36_13 : decode jdk_65_method_132_code 13 = .ok (.invokestatic 339, 3) := by decide +kernel
theorem d36_16 : decode jdk_65_method_132_code 16 = .ok (.areturn, 1) := by decide +kernel
set_option maxRecDepth 65536 in
set_option maxHeartbeats 40000000 in
theorem rm36 (l : Launch) (Z : State) (a0 : Array Value) (hw : ∀ d ∈ tables_1, d.before a0 Z = true) (ws : List Jvm.Cond) (q : Addr) (kq : ClassId) (cap : Nat) (xs : List Int32) (h0 : Heap) (n0 : Nat) (Z0 : n0 ≤ h0.size) (Aq : Arv Z h0 q kq .byte (Int32.ofNat cap) ((own_pad cap xs).map Value.int) (.int 0)) (hcap : xs.length ≤ cap) (hcb : cap ≤ 200) (hne : xs.length < cap) :
    own_Met l Z (⟨"java/util/Arrays", "copyOfRange", "([BII)[B"⟩ : MethodName) jdk_65_method_132_code 3 (some (.array .byte)) ws ({ frames := 2, cells := 1, slots := 200, locals := 54 } : Room) #[(.ref q), (.int (0 : Int32)), (.int (Int32.ofNat xs.length))] h0 (Q_rm36 Z q kq cap xs h0 n0) := by
  refine own_enter (g0 := fun m => (mkF m 0 #[.val (.ref q), .val (.int (0 : Int32)), .val (.int (Int32.ofNat xs.length))] [])) pn_rm36 (fun m => by first | (simp [entryFrame, mkF, argsToLocals, Value.category, maxLocals]; done) | rfl) ?_
  intro p e s m below meth c s₁ hx hby hml hown hnm hret hlk hZ X0 e0
  have hml : c.maxLocals = 3 := hml
  have hown : s.vm.findClass "java/util/Arrays" = some m.cls := hown
  have N0 := Fr.nil n0
  have K0 := Keep.refl h0 []
  refine own_by (fun _ k => XS.iloadN X0.here hx rfl (hb hby d36_0) rfl k) ?_
  refine own_by (fun _ k => XS.ifNo X0.here hx rfl (hb hby d36_1) rfl ((if0 _ _).trans (teq (rfl : (0 : Int32) = (0 : Int32))).2) k) ?_
  refine own_by (fun _ k => XS.iloadN X0.here hx rfl (hb hby d36_4) rfl k) ?_
  refine own_by (fun _ k => XS.aloadN X0.here hx rfl (hb hby d36_5) rfl rfl k) ?_
  obtain ⟨cl294, Ar294, len294⟩ := own_len Aq
  refine own_by (T' := s₁) (g' := (mkF m 7 #[.val (.ref q), .val (.int (0 : Int32)), .val (.int (Int32.ofNat xs.length))] [(.int (Int32.ofNat cap)), (.int (Int32.ofNat xs.length))])) (fun _ k => X0.arraylength hx (by rw [e0]; exact Ar294.1) (State.isArrayOf_alike hZ.alike Ar294.2.1) (g := (mkF m 6 #[.val (.ref q), .val (.int (0 : Int32)), .val (.int (Int32.ofNat xs.length))] [(.ref q), (.int (Int32.ofNat xs.length))])) rfl rfl (hb hby d36_6) _ (by rw [len294]; exact k)) ?_
  show own_Go p e below _ s₁ (mkF m 7 #[.val (.ref q), .val (.int (0 : Int32)), .val (.int (Int32.ofNat xs.length))] [(.int (Int32.ofNat cap)), (.int (Int32.ofNat xs.length))])
  refine own_by (fun _ k => XS.icmpNo X0.here hx rfl (hb hby d36_7) rfl (feq (fun z => by have := (own_eqn (by omega) (by omega)).mp z; omega : ¬ ((Int32.ofNat xs.length) = (Int32.ofNat cap)))).1 k) ?_
  refine own_by (fun _ k => XS.aloadN X0.here hx rfl (hb hby d36_10) rfl rfl k) ?_
  refine own_by (fun _ k => XS.iloadN X0.here hx rfl (hb hby d36_11) rfl k) ?_
  refine own_by (fun _ k => XS.iloadN X0.here hx rfl (hb hby d36_12) rfl k) ?_
  obtain ⟨_, T295, L295, X295, ⟨b9, k9, rfl, N295q, Kc, s9, A9⟩, st295⟩ := own_callS X0 hx hZ hown (y := (⟨"java/util/Arrays", "copyOfRangeByte", "([BII)[B"⟩ : MethodName)) (hw _ (List.mem_of_getElem? (i := 232) rfl)) (hw _ (List.mem_of_getElem? (i := 233) rfl)) (hw _ (List.mem_of_getElem? (i := 129) rfl)) (hw _ (List.mem_of_getElem? (i := 234) rfl)) (by decide) (argsL := [(.ref q), (.int (0 : Int32)), (.int (Int32.ofNat xs.length))]) (rest := []) e0 (rm37 l Z a0 hw [] q kq cap xs h0 n0 Z0 Aq hcap hcb) (g := (mkF m 13 #[.val (.ref q), .val (.int (0 : Int32)), .val (.int (Int32.ofNat xs.length))] [(.int (Int32.ofNat xs.length)), (.int (0 : Int32)), (.ref q)])) rfl (by rw [hml]; rfl) (lenOf pd_18 rfl) rfl (W := 0) (by show 2 * 0 + _ ≤ _; exact Nat.le_of_eq rfl) (hb hby d36_13) (by decide) (by decide) (by decide) (by decide)
  have N295 := Fr.app N0 N295q
  refine own_by st295 ?_
  have ne_q_b9 : q ≠ b9 := Nat.ne_of_lt (Nat.lt_of_lt_of_le Aq.lt s9)
  have og_b9 : n0 ≤ b9 := Nat.le_trans Z0 s9
  have sz_b9 : h0.size ≤ b9 := Nat.le_trans K0.1 s9
  have Z295 : n0 ≤ T295.heap.size := Nat.le_trans Z0 Kc.1
  have K295c := K0.trans Kc all0
  exact own_retA X295 hx hlk hret rfl rfl (hb hby d36_16) ⟨b9, k9, rfl, N295, K295c, s9, A9⟩ (by decide) (by decide)
def Q_rm32 (Z : State) (sb q : Addr) (kq : ClassId) (cap : Nat) (xs : List Int32) (a1 : Addr) (w1 : Int32) (d1 d2 : Addr) (kd1 kd2 : ClassId) (fm : Value) (h0 : Heap) (n0 : Nat) (v : Option Value) (h : Heap) (L : List Loc) : Prop := v = none ∧ Fr n0 L ∧ ∃ (b : Addr) (kb : ClassId), Keep h0 h [a1] ∧ Exa Z h a1 "java/lang/String" ∧ Fld Z h a1 "java/lang/String" "coder" "B" (.int (0 : Int32)) ∧ Fld Z h a1 "java/lang/String" "value" "[B" (.ref b) ∧ Arv Z h b kb .byte (Int32.ofNat xs.length) (xs.map Value.int) (.int 0)
theorem pn_rm32 : plainFor (⟨"java/lang/String", "<init>", "(Ljava/lang/AbstractStringBuilder;Ljava/lang/Void;)V"⟩ : MethodName) = true := by first | exact plainFor_of_name (by first | (simp [plainName, overriddenIn, x]; done) | decide +kernel) | decide +kernel
theorem d32_0 : decode jdk_42_method_150_code 0 = .ok (.aload_n 0, 1) := by decide +kernel
theorem d32_1 : decode jdk_42_method_150_code 1 = .ok (.invokespecial 1, 3) := by decide +kernel
theorem d32_4 : decode jdk_42_method_150_code 4 = .ok (.aload_n 1, 1) := by decide +kernel
theorem pd_19 : parseMethodDescriptor "()[B" = some ⟨[], some (.array .byte)⟩ := by decide +kernel
theorem d32_5 : decode jdk_42_method_150_code 5 = .ok (.invokevirtual 552, 3) := by decide +kernel
theorem d32_8 : decode jdk_42_method_150_code 8 = .ok (.astore_n 3, 1) := by decide +kernel
theorem d32_9 : decode jdk_42_method_150_code 9 = .ok (.aload_n 1, 1) := by decide +kernel
theorem d32_10 : decode jdk_42_method_150_code 10 = .ok (.invokevirtual 549, 3) := by decide +kernel
theorem d32_13 : decode jdk_42_method_150_code 13 = .ok (.istore 4, 2) := by decide +kernel
theorem d32_15 : decode jdk_42_method_150_code 15 = .ok (.aload_n 1, 1) := by decide +kernel
theorem d32_16 : decode jdk_42_method_150_code 16 = .ok (.invokevirtual 1047, 3) := by decide +kernel
theorem d32_19 : decode jdk_42_method_150_code 19 = .ok (.ifCond .eq 22, 3) := by decide +kernel
theorem d32_22 : decode jdk_42_method_150_code 22 = .ok (.aload_n 0, 1) := by decide +kernel
theorem d32_23 : decode jdk_42_method_150_code 23 = .ok (.iconst 0, 1) := by decide +kernel
theorem d32_24 : decode jdk_42_method_150_code 24 = .ok (.putfield 15, 3) := by decide +kernel
theorem d32_27 : decode jdk_42_method_150_code 27 = .ok (.aload_n 0, 1) := by decide +kernel
theorem d32_28 : decode jdk_42_method_150_code 28 = .ok (.aload_n 3, 1) := by decide +kernel
theorem d32_29 : decode jdk_42_method_150_code 29 = .ok (.iconst 0, 1) := by decide +kernel
theorem d32_30 : decode jdk_42_method_150_code 30 = .ok (.iload 4, 2) := by decide +kernel
theorem d32_32 : decode jdk_42_method_150_code 32 = .ok (.invokestatic 54, 3) := by decide +kernel
theorem d32_35 : decode jdk_42_method_150_code 35 = .ok (.putfield 9, 3) := by decide +kernel
theorem d32_38 : decode jdk_42_method_150_code 38 = .ok (.goto 59, 3) := by decide +kernel
theorem d32_97 : decode jdk_42_method_150_code 97 = .ok (.return_, 1) := by decide +kernel
set_option maxRecDepth 65536 in
set_option maxHeartbeats 40000000 in
theorem rm32 (l : Launch) (Z : State) (a0 : Array Value) (hw : ∀ d ∈ tables_1, d.before a0 Z = true) (ws : List Jvm.Cond) (sb q : Addr) (kq : ClassId) (cap : Nat) (xs : List Int32) (a1 : Addr) (w1 : Int32) (d1 d2 : Addr) (kd1 kd2 : ClassId) (fm : Value) (h0 : Heap) (n0 : Nat) (Z0 : n0 ≤ h0.size) (hz : Z.heap.size ≤ n0) (hkz : own_K Z h0) (TB : own_Tb Z w1 d1 d2 kd1 kd2 fm) (gs : n0 ≤ sb) (gq : n0 ≤ q) (Es : Exa Z h0 sb "java/lang/StringBuilder") (Cs : Fld Z h0 sb "java/lang/AbstractStringBuilder" "coder" "B" (.int (0 : Int32))) (Vs : Fld Z h0 sb "java/lang/AbstractStringBuilder" "value" "[B" (.ref q)) (Ns : Fld Z h0 sb "java/lang/AbstractStringBuilder" "count" "I" (.int (Int32.ofNat xs.length))) (Aq : Arv Z h0 q kq .byte (Int32.ofNat cap) ((own_pad cap xs).map Value.int) (.int 0)) (hcap : xs.length ≤ cap) (hcb : cap ≤ 200) (g1 : n0 ≤ a1) (E1 : Exa Z h0 a1 "java/lang/String") (C1 : Fld Z h0 a1 "java/lang/String" "coder" "B" (.int (0 : Int32))) (V1 : Fld Z h0 a1 "java/lang/String" "value" "[B" .null) (hne : xs.length < cap) :
    own_Met l Z (⟨"java/lang/String", "<init>", "(Ljava/lang/AbstractStringBuilder;Ljava/lang/Void;)V"⟩ : MethodName) jdk_42_method_150_code 5 none ws ({ frames := 3, cells := 1, slots := 200, locals := 76 } : Room) #[(.ref a1), (.ref sb), .null] h0 (Q_rm32 Z sb q kq cap xs a1 w1 d1 d2 kd1 kd2 fm h0 n0) := by
  refine own_enter (g0 := fun m => (mkF m 0 #[.val (.ref a1), .val (.ref sb), .val .null, .unset, .unset] [])) pn_rm32 (fun m => by first | (simp [entryFrame, mkF, argsToLocals, Value.category, maxLocals]; done) | rfl) ?_
  intro p e s m below meth c s₁ hx hby hml hown hnm hret hlk hZ X0 e0
  have hml : c.maxLocals = 5 := hml
  have hown : s.vm.findClass "java/lang/String" = some m.cls := hown
  have N0 := Fr.nil n0
  have nsq : sb ≠ q := Exa.neArv Es Aq (hw _ (List.mem_of_getElem? (i := 65) rfl))
  have K0 := Keep.refl h0 [a1]
  have nas : a1 ≠ sb := Exa.ne E1 Es (by decide)
  have naq : a1 ≠ q := Exa.neArv E1 Aq (hw _ (List.mem_of_getElem? (i := 31) rfl))
  refine own_by (fun _ k => XS.aloadN X0.here hx rfl (hb hby d32_0) rfl rfl k) ?_
  obtain ⟨T296, X296, e296, st296⟩ := initO X0 hx hZ hown (hw _ (List.mem_of_getElem? (i := 214) rfl)) (hw _ (List.mem_of_getElem? (i := 27) rfl)) (hw _ (List.mem_of_getElem? (i := 28) rfl)) e0 (g := (mkF m 1 #[.val (.ref a1), .val (.ref sb), .val .null, .unset, .unset] [(.ref a1)])) rfl (by rw [hml]; rfl) rfl (hb hby d32_1) (by decide) (W := 0) (by show 2 * 0 + _ ≤ _; exact Nat.le_of_eq rfl) (by decide)
  refine own_by st296 ?_
  refine own_by (fun _ k => XS.aloadN X296.here hx rfl (hb hby d32_4) rfl rfl k) ?_
  obtain ⟨_, T297, L297, X297, ⟨rfl, N297q, e297⟩, st297⟩ := own_callV2 X296 hx hZ hown (y := (⟨"java/lang/AbstractStringBuilder", "getValue", "()[B"⟩ : MethodName)) (z := (⟨"java/lang/AbstractStringBuilder", "getValue", "()[B"⟩ : MethodName)) (y' := (⟨"java/lang/AbstractStringBuilder", "isLatin1", "()Z"⟩ : MethodName)) (C := "java/lang/StringBuilder") (hw _ (List.mem_of_getElem? (i := 215) rfl)) (hw _ (List.mem_of_getElem? (i := 216) rfl)) (hw _ (List.mem_of_getElem? (i := 218) rfl)) (hw _ (List.mem_of_getElem? (i := 169) rfl)) (hw _ (List.mem_of_getElem? (i := 168) rfl)) rfl (hw _ (List.mem_of_getElem? (i := 217) rfl)) (hw _ (List.mem_of_getElem? (i := 74) rfl)) (hw _ (List.mem_of_getElem? (i := 219) rfl)) (by decide) (a := sb) Es (argsL := []) (rest := []) e296 (rm33 l Z a0 hw [] sb q kq cap xs h0 n0 Z0 gs gq Es Cs Vs Ns Aq hcap hcb) (g := (mkF m 5 #[.val (.ref a1), .val (.ref sb), .val .null, .unset, .unset] [(.ref sb)])) rfl (by rw [hml]; rfl) (lenOf pd_19 rfl) rfl (W := 0) (by show 2 * 0 + _ ≤ _; exact Nat.le_of_eq rfl) (hb hby d32_5) (by decide) (by decide) (by decide) (by decide)
  have N297 := Fr.app N0 N297q
  refine own_by st297 ?_
  refine own_by (fun _ k => XS.astoreN X297.here hx rfl (hb hby d32_8) rfl rfl (l' := #[.val (.ref a1), .val (.ref sb), .val .null, .val (.ref q), .unset]) rfl k) ?_
  refine own_by (fun _ k => XS.aloadN X297.here hx rfl (hb hby d32_9) rfl rfl k) ?_
  obtain ⟨_, T298, L298, X298, ⟨rfl, N298q, e298⟩, st298⟩ := own_callV2 X297 hx hZ hown (y := (⟨"java/lang/AbstractStringBuilder", "length", "()I"⟩ : MethodName)) (z := (⟨"java/lang/StringBuilder", "length", "()I"⟩ : MethodName)) (y' := (⟨"java/lang/AbstractStringBuilder", "isLatin1", "()Z"⟩ : MethodName)) (C := "java/lang/StringBuilder") (hw _ (List.mem_of_getElem? (i := 220) rfl)) (hw _ (List.mem_of_getElem? (i := 221) rfl)) (hw _ (List.mem_of_getElem? (i := 223) rfl)) (hw _ (List.mem_of_getElem? (i := 169) rfl)) (hw _ (List.mem_of_getElem? (i := 168) rfl)) rfl (hw _ (List.mem_of_getElem? (i := 224) rfl)) (hw _ (List.mem_of_getElem? (i := 66) rfl)) (hw _ (List.mem_of_getElem? (i := 225) rfl)) (by decide) (a := sb) Es (argsL := []) (rest := []) e297 (rm34 l Z a0 hw [] sb q kq cap xs h0 n0 Z0 gs gq Es Cs Vs Ns Aq hcap hcb) (g := (mkF m 10 #[.val (.ref a1), .val (.ref sb), .val .null, .val (.ref q), .unset] [(.ref sb)])) rfl (by rw [hml]; rfl) (lenOf pd_7 rfl) rfl (W := 0) (by show 2 * 0 + _ ≤ _; exact Nat.le_of_eq rfl) (hb hby d32_10) (by decide) (by decide) (by decide) (by decide)
  have N298 := Fr.app N297 N298q
  refine own_by st298 ?_
  refine own_by (fun _ k => XS.istore X298.here hx rfl (hb hby d32_13) rfl (l' := #[.val (.ref a1), .val (.ref sb), .val .null, .val (.ref q), .val (.int (Int32.ofNat xs.length))]) rfl k) ?_
  show own_Go p e below _ T298 (mkF m 15 #[.val (.ref a1), .val (.ref sb), .val .null, .val (.ref q), .val (.int (Int32.ofNat xs.length))] [])
  refine own_by (fun _ k => XS.aloadN X298.here hx rfl (hb hby d32_15) rfl rfl k) ?_
  obtain ⟨_, T299, L299, X299, ⟨rfl, N299q, e299⟩, st299⟩ := own_callV2 X298 hx hZ hown (y := (⟨"java/lang/AbstractStringBuilder", "isLatin1", "()Z"⟩ : MethodName)) (z := (⟨"java/lang/AbstractStringBuilder", "isLatin1", "()Z"⟩ : MethodName)) (y' := (⟨"java/lang/AbstractStringBuilder", "isLatin1", "()Z"⟩ : MethodName)) (C := "java/lang/StringBuilder") (hw _ (List.mem_of_getElem? (i := 228) rfl)) (hw _ (List.mem_of_getElem? (i := 167) rfl)) (hw _ (List.mem_of_getElem? (i := 169) rfl)) (hw _ (List.mem_of_getElem? (i := 169) rfl)) (hw _ (List.mem_of_getElem? (i := 168) rfl)) rfl (hw _ (List.mem_of_getElem? (i := 168) rfl)) (hw _ (List.mem_of_getElem? (i := 74) rfl)) (hw _ (List.mem_of_getElem? (i := 170) rfl)) (by decide) (a := sb) Es (argsL := []) (rest := []) e298 (rm24 l Z a0 hw [] sb q kq cap xs w1 d1 d2 kd1 kd2 fm h0 n0 Z0 hz hkz TB gs gq Es Cs Vs Ns Aq hcap hcb) (g := (mkF m 16 #[.val (.ref a1), .val (.ref sb), .val .null, .val (.ref q), .val (.int (Int32.ofNat xs.length))] [(.ref sb)])) rfl (by rw [hml]; rfl) (lenOf pd_11 rfl) rfl (W := 0) (by show 2 * 0 + _ ≤ _; exact Nat.le_of_eq rfl) (hb hby d32_16) (by decide) (by decide) (by decide) (by decide)
  have N299 := Fr.app N298 N299q
  refine own_by st299 ?_
  refine own_by (fun _ k => XS.ifNo X299.here hx rfl (hb hby d32_19) rfl ((if0 _ _).trans (feq (by decide : ¬ ((1 : Int32) = (0 : Int32)))).1) k) ?_
  refine own_by (fun _ k => XS.aloadN X299.here hx rfl (hb hby d32_22) rfl rfl k) ?_
  refine own_by (fun _ k => XS.iconst X299.here hx rfl (hb hby d32_23) k) ?_
  obtain ⟨T300, h300, X300, e300, W300, st300⟩ := putFN X299 hx hZ hown (hw _ (List.mem_of_getElem? (i := 105) rfl)) Via.refl e299 C1 E1 (Or.inr ⟨(hw _ (List.mem_of_getElem? (i := 34) rfl)), rfl, hnm⟩) (hw _ (List.mem_of_getElem? (i := 31) rfl)) (ty := .byte) (v := (.int (0 : Int32))) (v' := (.int (0 : Int32))) (by decide) rfl rfl (g := (mkF m 24 #[.val (.ref a1), .val (.ref sb), .val .null, .val (.ref q), .val (.int (Int32.ofNat xs.length))] [(.int (0 : Int32)), (.ref a1)])) rfl rfl (hb hby d32_24)
  refine own_by st300 ?_
  have N300 := Fr.snoc X300 N299 g1
  have fw300 := C1.same W300
  have K301 := K0.wr W300 (Or.inl (List.mem_of_getElem? (i := 0) rfl))
  have Z300 : n0 ≤ h300.size := Nat.le_trans Z0 (Keep.of_wr W300).1
  refine own_by (fun _ k => XS.aloadN X300.here hx rfl (hb hby d32_27) rfl rfl k) ?_
  refine own_by (fun _ k => XS.aloadN X300.here hx rfl (hb hby d32_28) rfl rfl k) ?_
  refine own_by (fun _ k => XS.iconst X300.here hx rfl (hb hby d32_29) k) ?_
  show own_Go p e below _ T300 (mkF m 30 #[.val (.ref a1), .val (.ref sb), .val .null, .val (.ref q), .val (.int (Int32.ofNat xs.length))] [(.int (0 : Int32)), (.ref q), (.ref a1)])
  refine own_by (fun _ k => XS.iload X300.here hx rfl (hb hby d32_30) rfl k) ?_
  have f302 := (Aq.other W300 (Ne.symm naq))
  have f303 := (Es.wr W300)
  have f304 := (E1.wr W300)
  obtain ⟨_, T305, L305, X305, ⟨b9, k9, rfl, N305q, Kc, s9, A9⟩, st305⟩ := own_callS X300 hx hZ hown (y := (⟨"java/util/Arrays", "copyOfRange", "([BII)[B"⟩ : MethodName)) (hw _ (List.mem_of_getElem? (i := 229) rfl)) (hw _ (List.mem_of_getElem? (i := 230) rfl)) (hw _ (List.mem_of_getElem? (i := 129) rfl)) (hw _ (List.mem_of_getElem? (i := 231) rfl)) (by decide) (argsL := [(.ref q), (.int (0 : Int32)), (.int (Int32.ofNat xs.length))]) (rest := [(.ref a1)]) e300 (rm36 l Z a0 hw [] q kq cap xs h300 n0 Z300 f302 hcap hcb hne) (g := (mkF m 32 #[.val (.ref a1), .val (.ref sb), .val .null, .val (.ref q), .val (.int (Int32.ofNat xs.length))] [(.int (Int32.ofNat xs.length)), (.int (0 : Int32)), (.ref q), (.ref a1)])) rfl (by rw [hml]; rfl) (lenOf pd_18 rfl) rfl (W := 1) (by show 2 * 0 + _ ≤ _; exact Nat.le_of_eq rfl) (hb hby d32_32) (by decide) (by decide) (by decide) (by decide)
  have N305 := Fr.app N300 N305q
  refine own_by st305 ?_
  have ne_sb_b9 : sb ≠ b9 := Nat.ne_of_lt (Nat.lt_of_lt_of_le f303.lt s9)
  have ne_q_b9 : q ≠ b9 := Nat.ne_of_lt (Nat.lt_of_lt_of_le f302.lt s9)
  have ne_a1_b9 : a1 ≠ b9 := Nat.ne_of_lt (Nat.lt_of_lt_of_le f304.lt s9)
  have og_b9 : n0 ≤ b9 := Nat.le_trans Z300 s9
  have sz_b9 : h0.size ≤ b9 := Nat.le_trans K301.1 s9
  have Z305 : n0 ≤ T305.heap.size := Nat.le_trans Z300 Kc.1
  have K305c := K301.trans Kc all0
  have f307 := ((V1.other W300 (Or.inr (slot_ne (Or.inr (hw _ (List.mem_of_getElem? (i := 33) rfl))) (Or.inr (hw _ (List.mem_of_getElem? (i := 34) rfl))) (by decide) (t := (.array .byte)) (t' := .byte) (by decide) (by decide)))).keep Kc nin0)
  have f308 := (f304.keep Kc)
  obtain ⟨T306, h306, X306, e306, W306, st306⟩ := putF X305 hx hZ hown (host := "") (Or.inl (hw _ (List.mem_of_getElem? (i := 98) rfl))) Via.refl rfl f307 f308 (Or.inr ⟨(hw _ (List.mem_of_getElem? (i := 33) rfl)), rfl, hnm⟩) (hw _ (List.mem_of_getElem? (i := 31) rfl)) (ty := (.array .byte)) (by decide) rfl rfl (g := (mkF m 35 #[.val (.ref a1), .val (.ref sb), .val .null, .val (.ref q), .val (.int (Int32.ofNat xs.length))] [(.ref b9), (.ref a1)])) rfl rfl (hb hby d32_35)
  refine own_by st306 ?_
  have N306 := Fr.snoc X306 N305 g1
  have fw306 := f307.same W306
  have K309 := K305c.wr W306 (Or.inl (List.mem_of_getElem? (i := 0) rfl))
  have Z306 : n0 ≤ h306.size := Nat.le_trans Z305 (Keep.of_wr W306).1
  refine own_by (fun _ k => XS.goto X306.here hx rfl (pc0 := 38) (pc' := 97) rfl (hb hby d32_38) (by decide) (by decide) k) ?_
  have f310 := (f308.wr W306)
  have f311 := ((fw300.keep Kc nin0).other W306 (Or.inr (slot_ne (Or.inr (hw _ (List.mem_of_getElem? (i := 34) rfl))) (Or.inr (hw _ (List.mem_of_getElem? (i := 33) rfl))) (by decide) (t := .byte) (t' := (.array .byte)) (by decide) (by decide))))
  have f312 := (A9.other W306 (Ne.symm ne_a1_b9))
  exact own_ret0 X306 hx hlk hret (hb hby d32_97) (by first | exact ⟨rfl, N306, b9, k9, K309, f310, f311, fw306, f312⟩ | (rw [e306]; exact ⟨rfl, N306, b9, k9, K309, f310, f311, fw306, f312⟩)) (by decide) (by decide)
def Q_rm31 (Z : State) (sb q : Addr) (kq : ClassId) (cap : Nat) (xs : List Int32) (a1 : Addr) (w1 : Int32) (d1 d2 : Addr) (kd1 kd2 : ClassId) (fm : Value) (h0 : Heap) (n0 : Nat) (v : Option Value) (h : Heap) (L : List Loc) : Prop := v = none ∧ Fr n0 L ∧ ∃ (b : Addr) (kb : ClassId), Keep h0 h [a1] ∧ Exa Z h a1 "java/lang/String" ∧ Fld Z h a1 "java/lang/String" "coder" "B" (.int (0 : Int32)) ∧ Fld Z h a1 "java/lang/String" "value" "[B" (.ref b) ∧ Arv Z h b kb .byte (Int32.ofNat xs.length) (xs.map Value.int) (.int 0)
theorem pn_rm31 : plainFor (⟨"java/lang/String", "<init>", "(Ljava/lang/StringBuilder;)V"⟩ : MethodName) = true := by first | exact plainFor_of_name (by first | (simp [plainName, overriddenIn, x]; done) | decide +kernel) | decide +kernel
theorem d31_0 : decode jdk_42_method_53_code 0 = .ok (.aload_n 0, 1) := by decide +kernel
theorem d31_1 : decode jdk_42_method_53_code 1 = .ok (.aload_n 1, 1) := by decide +kernel
theorem d31_2 : decode jdk_42_method_53_code 2 = .ok (.aconst_null, 1) := by decide +kernel
theorem pd_20 : parseMethodDescriptor "(Ljava/lang/AbstractStringBuilder;Ljava/lang/Void;)V" = some ⟨[(.object "java/lang/AbstractStringBuilder"), (.object "java/lang/Void")], none⟩ := by decide +kernel
theorem d31_3 : decode jdk_42_method_53_code 3 = .ok (.invokespecial 489, 3) := by decide +kernel
theorem d31_6 : decode jdk_42_method_53_code 6 = .ok (.return_, 1) := by decide +kernel
set_option maxRecDepth 65536 in
set_option maxHeartbeats 40000000 in
theorem rm31 (l : Launch) (Z : State) (a0 : Array Value) (hw : ∀ d ∈ tables_1, d.before a0 Z = true) (ws : List Jvm.Cond) (sb q : Addr) (kq : ClassId) (cap : Nat) (xs : List Int32) (a1 : Addr) (w1 : Int32) (d1 d2 : Addr) (kd1 kd2 : ClassId) (fm : Value) (h0 : Heap) (n0 : Nat) (Z0 : n0 ≤ h0.size) (hz : Z.heap.size ≤ n0) (hkz : own_K Z h0) (TB : own_Tb Z w1 d1 d2 kd1 kd2 fm) (gs : n0 ≤ sb) (gq : n0 ≤ q) (Es : Exa Z h0 sb "java/lang/StringBuilder") (Cs : Fld Z h0 sb "java/lang/AbstractStringBuilder" "coder" "B" (.int (0 : Int32))) (Vs : Fld Z h0 sb "java/lang/AbstractStringBuilder" "value" "[B" (.ref q)) (Ns : Fld Z h0 sb "java/lang/AbstractStringBuilder" "count" "I" (.int (Int32.ofNat xs.length))) (Aq : Arv Z h0 q kq .byte (Int32.ofNat cap) ((own_pad cap xs).map Value.int) (.int 0)) (hcap : xs.length ≤ cap) (hcb : cap ≤ 200) (g1 : n0 ≤ a1) (E1 : Exa Z h0 a1 "java/lang/String") (C1 : Fld Z h0 a1 "java/lang/String" "coder" "B" (.int (0 : Int32))) (V1 : Fld Z h0 a1 "java/lang/String" "value" "[B" .null) (hne : xs.length < cap) :
    own_Met l Z (⟨"java/lang/String", "<init>", "(Ljava/lang/StringBuilder;)V"⟩ : MethodName) jdk_42_method_53_code 2 none ws ({ frames := 4, cells := 1, slots := 200, locals := 96 } : Room) #[(.ref a1), (.ref sb)] h0 (Q_rm31 Z sb q kq cap xs a1 w1 d1 d2 kd1 kd2 fm h0 n0) := by
  refine own_enter (g0 := fun m => (mkF m 0 #[.val (.ref a1), .val (.ref sb)] [])) pn_rm31 (fun m => by first | (simp [entryFrame, mkF, argsToLocals, Value.category, maxLocals]; done) | rfl) ?_
  intro p e s m below meth c s₁ hx hby hml hown hnm hret hlk hZ X0 e0
  have hml : c.maxLocals = 2 := hml
  have hown : s.vm.findClass "java/lang/String" = some m.cls := hown
  have N0 := Fr.nil n0
  have nsq : sb ≠ q := Exa.neArv Es Aq (hw _ (List.mem_of_getElem? (i := 65) rfl))
  have K0 := Keep.refl h0 [a1]
  refine own_by (fun _ k => XS.aloadN X0.here hx rfl (hb hby d31_0) rfl rfl k) ?_
  refine own_by (fun _ k => XS.aloadN X0.here hx rfl (hb hby d31_1) rfl rfl k) ?_
  refine own_by (fun _ k => XS.aconstNull X0.here hx rfl (hb hby d31_2) k) ?_
  obtain ⟨_, T313, L313, X313, ⟨rfl, N313q, b9, k9, Kc, E9, C9, V9, A9⟩, st313⟩ := own_callI X0 hx hZ hown (y := (⟨"java/lang/String", "<init>", "(Ljava/lang/AbstractStringBuilder;Ljava/lang/Void;)V"⟩ : MethodName)) rfl (hw _ (List.mem_of_getElem? (i := 211) rfl)) (hw _ (List.mem_of_getElem? (i := 212) rfl)) (hw _ (List.mem_of_getElem? (i := 30) rfl)) (hw _ (List.mem_of_getElem? (i := 213) rfl)) (by decide) (a := a1) (argsL := [(.ref sb), .null]) (rest := []) e0 (rm32 l Z a0 hw [] sb q kq cap xs a1 w1 d1 d2 kd1 kd2 fm h0 n0 Z0 hz hkz TB gs gq Es Cs Vs Ns Aq hcap hcb g1 E1 C1 V1 hne) (g := (mkF m 3 #[.val (.ref a1), .val (.ref sb)] [.null, (.ref sb), (.ref a1)])) rfl (by rw [hml]; rfl) (lenOf pd_20 rfl) rfl (W := 0) (by show 2 * 0 + _ ≤ _; exact Nat.le_of_eq rfl) (hb hby d31_3) (by decide) (by decide) (by decide) (by decide)
  have N313 := Fr.app N0 N313q
  refine own_by st313 ?_
  have Z313 : n0 ≤ T313.heap.size := Nat.le_trans Z0 Kc.1
  have K313c := K0.trans Kc (allS (Or.inl (List.mem_of_getElem? (i := 0) rfl)) all0)
  exact own_ret0 X313 hx hlk hret (hb hby d31_6) ⟨rfl, N313, b9, k9, K313c, E9, C9, V9, A9⟩ (by decide) (by decide)
def Q_rm30 (Z : State) (sb q : Addr) (kq : ClassId) (cap : Nat) (xs : List Int32) (w1 : Int32) (d1 d2 : Addr) (kd1 kd2 : ClassId) (fm : Value) (h0 : Heap) (n0 : Nat) (v : Option Value) (h : Heap) (L : List Loc) : Prop := ∃ (st b : Addr) (kb : ClassId), v = some (.ref st) ∧ Fr n0 L ∧ Keep h0 h [] ∧ h0.size ≤ st ∧ Exa Z h st "java/lang/String" ∧ Fld Z h st "java/lang/String" "coder" "B" (.int (0 : Int32)) ∧ Fld Z h st "java/lang/String" "value" "[B" (.ref b) ∧ Arv Z h b kb .byte (Int32.ofNat xs.length) (xs.map Value.int) (.int 0)
theorem pn_rm30 : plainFor (⟨"java/lang/StringBuilder", "toString", "()Ljava/lang/String;"⟩ : MethodName) = true := by first | exact plainFor_of_name (by first | (simp [plainName, overriddenIn, x]; done) | decide +kernel) | decide +kernel
theorem d30_0 : decode jdk_67_method_42_code 0 = .ok (.new 18, 3) := by decide +kernel
theorem d30_3 : decode jdk_67_method_42_code 3 = .ok (.dup, 1) := by decide +kernel
theorem d30_4 : decode jdk_67_method_42_code 4 = .ok (.aload_n 0, 1) := by decide +kernel
theorem pd_21 : parseMethodDescriptor "(Ljava/lang/StringBuilder;)V" = some ⟨[(.object "java/lang/StringBuilder")], none⟩ := by decide +kernel
theorem d30_5 : decode jdk_67_method_42_code 5 = .ok (.invokespecial 137, 3) := by decide +kernel
theorem d30_8 : decode jdk_67_method_42_code 8 = .ok (.areturn, 1) := by decide +kernel
set_option maxRecDepth 65536 in
set_option maxHeartbeats 40000000 in
theorem rm30 (l : Launch) (Z : State) (a0 : Array Value) (hw : ∀ d ∈ tables_1, d.before a0 Z = true) (ws : List Jvm.Cond) (sb q : Addr) (kq : ClassId) (cap : Nat) (xs : List Int32) (w1 : Int32) (d1 d2 : Addr) (kd1 kd2 : ClassId) (fm : Value) (h0 : Heap) (n0 : Nat) (Z0 : n0 ≤ h0.size) (hz : Z.heap.size ≤ n0) (hkz : own_K Z h0) (TB : own_Tb Z w1 d1 d2 kd1 kd2 fm) (gs : n0 ≤ sb) (gq : n0 ≤ q) (Es : Exa Z h0 sb "java/lang/StringBuilder") (Cs : Fld Z h0 sb "java/lang/AbstractStringBuilder" "coder" "B" (.int (0 : Int32))) (Vs : Fld Z h0 sb "java/lang/AbstractStringBuilder" "value" "[B" (.ref q)) (Ns : Fld Z h0 sb "java/lang/AbstractStringBuilder" "count" "I" (.int (Int32.ofNat xs.length))) (Aq : Arv Z h0 q kq .byte (Int32.ofNat cap) ((own_pad cap xs).map Value.int) (.int 0)) (hcap : xs.length ≤ cap) (hcb : cap ≤ 200) (hne : xs.length < cap) :
    own_Met l Z (⟨"java/lang/StringBuilder", "toString", "()Ljava/lang/String;"⟩ : MethodName) jdk_67_method_42_code 1 (some (.object "java/lang/String")) ws ({ frames := 5, cells := 2, slots := 204, locals := 116 } : Room) #[(.ref sb)] h0 (Q_rm30 Z sb q kq cap xs w1 d1 d2 kd1 kd2 fm h0 n0) := by
  refine own_enter (g0 := fun m => (mkF m 0 #[.val (.ref sb)] [])) pn_rm30 (fun m => by first | (simp [entryFrame, mkF, argsToLocals, Value.category, maxLocals]; done) | rfl) ?_
  intro p e s m below meth c s₁ hx hby hml hown hnm hret hlk hZ X0 e0
  have hml : c.maxLocals = 1 := hml
  have hown : s.vm.findClass "java/lang/StringBuilder" = some m.cls := hown
  have N0 := Fr.nil n0
  have nsq : sb ≠ q := Exa.neArv Es Aq (hw _ (List.mem_of_getElem? (i := 65) rfl))
  have K0 := Keep.refl h0 []
  obtain ⟨T314, h314, X314, e314, E314, A314, D314, -, st314⟩ := newO X0 hx hZ hown (hw _ (List.mem_of_getElem? (i := 206) rfl)) (hw _ (List.mem_of_getElem? (i := 31) rfl)) (hw _ (List.mem_of_getElem? (i := 30) rfl)) e0 (g := (mkF m 0 #[.val (.ref sb)] [])) rfl (hb hby d30_0) (by decide) (by decide)
  obtain ⟨b314, g314⟩ : ∃ zq, zq = h0.size := ⟨_, rfl⟩
  rw [← g314] at A314 D314 st314
  have ne_sb_b314 : sb ≠ b314 := Nat.ne_of_lt (Nat.lt_of_lt_of_le Es.lt (Nat.le_of_eq g314.symm))
  have ne_q_b314 : q ≠ b314 := Nat.ne_of_lt (Nat.lt_of_lt_of_le Aq.lt (Nat.le_of_eq g314.symm))
  have og_b314 : n0 ≤ b314 := Nat.le_trans Z0 (Nat.le_of_eq g314.symm)
  have sz_b314 : h0.size ≤ b314 := Nat.le_trans K0.1 (Nat.le_of_eq g314.symm)
  have Z314 : n0 ≤ h314.size := Nat.le_trans Z0 E314.1
  have K315 := K0.ext E314
  have F_value_b314 : Fld Z h314 b314 "java/lang/String" "value" "[B" .null := D314 (Or.inr (hw _ (List.mem_of_getElem? (i := 33) rfl))) (ty := (.array .byte)) (by decide)
  have F_coder_b314 : Fld Z h314 b314 "java/lang/String" "coder" "B" (.int (0 : Int32)) := D314 (Or.inr (hw _ (List.mem_of_getElem? (i := 34) rfl))) (ty := .byte) (by decide)
  refine own_by st314 ?_
  refine own_by (fun _ k => XS.dup X314.here hx rfl (hb hby d30_3) rfl rfl k) ?_
  refine own_by (fun _ k => XS.aloadN X314.here hx rfl (hb hby d30_4) rfl rfl k) ?_
  have f316 := (Es.ext E314)
  have f317 := (Cs.ext E314)
  have f318 := (Vs.ext E314)
  have f319 := (Ns.ext E314)
  have f320 := (Aq.ext E314)
  have hk321 : own_K Z h314 := own_KW hkz K315 all0
  obtain ⟨_, T322, L322, X322, ⟨rfl, N322q, b9, k9, Kc, E9, C9, V9, A9⟩, st322⟩ := own_callI X314 hx hZ hown (y := (⟨"java/lang/String", "<init>", "(Ljava/lang/StringBuilder;)V"⟩ : MethodName)) rfl (hw _ (List.mem_of_getElem? (i := 207) rfl)) (hw _ (List.mem_of_getElem? (i := 208) rfl)) (hw _ (List.mem_of_getElem? (i := 30) rfl)) (hw _ (List.mem_of_getElem? (i := 210) rfl)) (by decide) (a := b314) (argsL := [(.ref sb)]) (rest := [(.ref b314)]) e314 (rm31 l Z a0 hw [] sb q kq cap xs b314 w1 d1 d2 kd1 kd2 fm h314 n0 Z314 hz hk321 TB gs gq f316 f317 f318 f319 f320 hcap hcb og_b314 A314 F_coder_b314 F_value_b314 hne) (g := (mkF m 5 #[.val (.ref sb)] [(.ref sb), (.ref b314), (.ref b314)])) rfl (by rw [hml]; rfl) (lenOf pd_21 rfl) rfl (W := 1) (by show 2 * 0 + _ ≤ _; exact Nat.le_of_eq rfl) (hb hby d30_5) (by decide) (by decide) (by decide) (by decide)
  have N322 := Fr.app N0 N322q
  refine own_by st322 ?_
  have Z322 : n0 ≤ T322.heap.size := Nat.le_trans Z314 Kc.1
  have K322c := K315.trans Kc (allS (Or.inr sz_b314) all0)
  exact own_retA X322 hx hlk hret rfl rfl (hb hby d30_8) ⟨b314, b9, k9, rfl, N322, K322c, sz_b314, E9, C9, V9, A9⟩ (by decide) (by decide)
def Q_rm8 (Z : State) (sb : Addr) (w1 : Int32) (d1 d2 : Addr) (kd1 kd2 : ClassId) (fm : Value) (h0 : Heap) (n0 : Nat) (v : Option Value) (h : Heap) (L : List Loc) : Prop := v = none ∧ Fr n0 L ∧ ∃ (q2 : Addr) (k2 : ClassId), Keep h0 h [sb] ∧ h0.size ≤ q2 ∧ n0 ≤ q2 ∧ Exa Z h sb "java/lang/StringBuilder" ∧ Fld Z h sb "java/lang/AbstractStringBuilder" "coder" "B" (.int (0 : Int32)) ∧ Fld Z h sb "java/lang/AbstractStringBuilder" "value" "[B" (.ref q2) ∧ Fld Z h sb "java/lang/AbstractStringBuilder" "count" "I" (.int (Int32.ofNat ([] : List Int32).length)) ∧ Arv Z h q2 k2 .byte (Int32.ofNat 16) ((own_pad 16 ([] : List Int32)).map Value.int) (.int 0)
theorem pn_rm8 : plainFor (⟨"java/lang/AbstractStringBuilder", "<init>", "(I)V"⟩ : MethodName) = true := by first | exact plainFor_of_name (by first | (simp [plainName, overriddenIn, x]; done) | decide +kernel) | decide +kernel
theorem d8_0 : decode jdk_68_method_2_code 0 = .ok (.aload_n 0, 1) := by decide +kernel
theorem d8_1 : decode jdk_68_method_2_code 1 = .ok (.invokespecial 3, 3) := by decide +kernel
theorem d8_4 : decode jdk_68_method_2_code 4 = .ok (.getstatic 18, 3) := by decide +kernel
theorem d8_7 : decode jdk_68_method_2_code 7 = .ok (.ifCond .eq 18, 3) := by decide +kernel
theorem d8_10 : decode jdk_68_method_2_code 10 = .ok (.aload_n 0, 1) := by decide +kernel
theorem d8_11 : decode jdk_68_method_2_code 11 = .ok (.iload_n 1, 1) := by decide +kernel
theorem d8_12 : decode jdk_68_method_2_code 12 = .ok (.newarray .byte, 2) := by decide +kernel
theorem d8_14 : decode jdk_68_method_2_code 14 = .ok (.putfield 15, 3) := by decide +kernel
theorem d8_17 : decode jdk_68_method_2_code 17 = .ok (.aload_n 0, 1) := by decide +kernel
theorem d8_18 : decode jdk_68_method_2_code 18 = .ok (.iconst 0, 1) := by decide +kernel
theorem d8_19 : decode jdk_68_method_2_code 19 = .ok (.putfield 22, 3) := by decide +kernel
theorem d8_22 : decode jdk_68_method_2_code 22 = .ok (.goto 16, 3) := by decide +kernel
theorem d8_38 : decode jdk_68_method_2_code 38 = .ok (.return_, 1) := by decide +kernel
set_option maxRecDepth 65536 in
set_option maxHeartbeats 40000000 in
theorem rm8 (l : Launch) (Z : State) (a0 : Array Value) (hw : ∀ d ∈ tables_1, d.before a0 Z = true) (ws : List Jvm.Cond) (sb : Addr) (w1 : Int32) (d1 d2 : Addr) (kd1 kd2 : ClassId) (fm : Value) (h0 : Heap) (n0 : Nat) (Z0 : n0 ≤ h0.size) (hz : Z.heap.size ≤ n0) (hkz : own_K Z h0) (TB : own_Tb Z w1 d1 d2 kd1 kd2 fm) (g1 : n0 ≤ sb) (Es : Exa Z h0 sb "java/lang/StringBuilder") (Cs : Fld Z h0 sb "java/lang/AbstractStringBuilder" "coder" "B" (.int (0 : Int32))) (Vs : Fld Z h0 sb "java/lang/AbstractStringBuilder" "value" "[B" .null) (Ns : Fld Z h0 sb "java/lang/AbstractStringBuilder" "count" "I" (.int (0 : Int32))) :
    own_Met l Z (⟨"java/lang/AbstractStringBuilder", "<init>", "(I)V"⟩ : MethodName) jdk_68_method_2_code 2 none ws ({ frames := 1, cells := 1, slots := 16, locals := 14 } : Room) #[(.ref sb), (.int (Int32.ofNat 16))] h0 (Q_rm8 Z sb w1 d1 d2 kd1 kd2 fm h0 n0) := by
  refine own_enter (g0 := fun m => (mkF m 0 #[.val (.ref sb), .val (.int (Int32.ofNat 16))] [])) pn_rm8 (fun m => by first | (simp [entryFrame, mkF, argsToLocals, Value.category, maxLocals]; done) | rfl) ?_
  intro p e s m below meth c s₁ hx hby hml hown hnm hret hlk hZ X0 e0
  have hml : c.maxLocals = 2 := hml
  have hown : s.vm.findClass "java/lang/AbstractStringBuilder" = some m.cls := hown
  have N0 := Fr.nil n0
  have K0 := Keep.refl h0 [sb]
  refine own_by (fun _ k => XS.aloadN X0.here hx rfl (hb hby d8_0) rfl rfl k) ?_
  obtain ⟨T323, X323, e323, st323⟩ := initO X0 hx hZ hown (hw _ (List.mem_of_getElem? (i := 76) rfl)) (hw _ (List.mem_of_getElem? (i := 27) rfl)) (hw _ (List.mem_of_getElem? (i := 28) rfl)) e0 (g := (mkF m 1 #[.val (.ref sb), .val (.int (Int32.ofNat 16))] [(.ref sb)])) rfl (by rw [hml]; rfl) rfl (hb hby d8_1) (by decide) (W := 0) (by show 2 * 0 + _ ≤ _; exact Nat.le_of_eq rfl) (by decide)
  refine own_by st323 ?_
  have SC324 := (own_staZ TB.1 hkz)
  obtain ⟨T325, X325, e325, st325⟩ := getS2 X323 hx hZ hown (host := "") (Or.inl (hw _ (List.mem_of_getElem? (i := 77) rfl))) Via.refl e323 SC324 (g := (mkF m 4 #[.val (.ref sb), .val (.int (Int32.ofNat 16))] [])) rfl (hb hby d8_4)
  refine own_by st325 ?_
  refine own_by (fun _ k => XS.ifNo X325.here hx rfl (hb hby d8_7) rfl ((if0 _ _).trans (feq (TB.2.1 : ¬ (w1 = (0 : Int32)))).1) k) ?_
  refine own_by (fun _ k => XS.aloadN X325.here hx rfl (hb hby d8_10) rfl rfl k) ?_
  refine own_by (fun _ k => XS.iloadN X325.here hx rfl (hb hby d8_11) rfl k) ?_
  obtain ⟨T326, h326, k326, X326, e326, E326, A326, C326, st326⟩ := newPE X325 hx hZ (hw _ (List.mem_of_getElem? (i := 32) rfl)) e325 (g := (mkF m 12 #[.val (.ref sb), .val (.int (Int32.ofNat 16))] [(.int (Int32.ofNat 16)), (.ref sb)])) rfl (hb hby d8_12) rfl (own_nn (show 16 ≤ 100000 by omega)) (cap := 16) (by rw [own_tn (show 16 ≤ 100000 by omega)]; exact (Nat.le_refl _)) (by decide) (by decide) (by decide) (ad := "[B") (by decide)
  obtain ⟨b326, g326⟩ : ∃ zq, zq = h0.size := ⟨_, rfl⟩
  rw [← g326] at A326 C326 st326
  have ne_sb_b326 : sb ≠ b326 := Nat.ne_of_lt (Nat.lt_of_lt_of_le Es.lt (Nat.le_of_eq g326.symm))
  have og_b326 : n0 ≤ b326 := Nat.le_trans Z0 (Nat.le_of_eq g326.symm)
  have sz_b326 : h0.size ≤ b326 := Nat.le_trans K0.1 (Nat.le_of_eq g326.symm)
  have Z326 : n0 ≤ h326.size := Nat.le_trans Z0 E326.1
  have K327 := K0.ext E326
  have V326 : Arv Z h326 b326 k326 .byte (Int32.ofNat 16) ((List.replicate 16 (0 : Int32)).map Value.int) (.int (0 : Int32)) := own_newA A326 (own_nn (show 16 ≤ 100000 by omega)) 16
  refine own_by st326 ?_
  have f329 := (Vs.ext E326)
  have f330 := (Es.ext E326)
  obtain ⟨T328, h328, X328, e328, W328, st328⟩ := putF X326 hx hZ hown (host := "") (Or.inl (hw _ (List.mem_of_getElem? (i := 78) rfl))) Via.refl e326 f329 f330 (Or.inl (hw _ (List.mem_of_getElem? (i := 79) rfl))) (hw _ (List.mem_of_getElem? (i := 65) rfl)) (ty := (.array .byte)) (by decide) rfl rfl (g := (mkF m 14 #[.val (.ref sb), .val (.int (Int32.ofNat 16))] [(.ref b326), (.ref sb)])) rfl rfl (hb hby d8_14)
  refine own_by st328 ?_
  have N328 := Fr.snoc X328 N0 g1
  have fw328 := f329.same W328
  have K331 := K327.wr W328 (Or.inl (List.mem_of_getElem? (i := 0) rfl))
  have Z328 : n0 ≤ h328.size := Nat.le_trans Z326 (Keep.of_wr W328).1
  show own_Go p e below _ T328 (mkF m 17 #[.val (.ref sb), .val (.int (Int32.ofNat 16))] [])
  refine own_by (fun _ k => XS.aloadN X328.here hx rfl (hb hby d8_17) rfl rfl k) ?_
  refine own_by (fun _ k => XS.iconst X328.here hx rfl (hb hby d8_18) k) ?_
  have f333 := ((Cs.ext E326).other W328 (Or.inr (slot_ne (Or.inl (hw _ (List.mem_of_getElem? (i := 81) rfl))) (Or.inl (hw _ (List.mem_of_getElem? (i := 79) rfl))) (by decide) (t := .byte) (t' := (.array .byte)) (by decide) (by decide))))
  have f334 := (f330.wr W328)
  obtain ⟨T332, h332, X332, e332, W332, st332⟩ := putFN X328 hx hZ hown (hw _ (List.mem_of_getElem? (i := 80) rfl)) Via.refl e328 f333 f334 (Or.inl (hw _ (List.mem_of_getElem? (i := 81) rfl))) (hw _ (List.mem_of_getElem? (i := 65) rfl)) (ty := .byte) (v := (.int (0 : Int32))) (v' := (.int (0 : Int32))) (by decide) rfl rfl (g := (mkF m 19 #[.val (.ref sb), .val (.int (Int32.ofNat 16))] [(.int (0 : Int32)), (.ref sb)])) rfl rfl (hb hby d8_19)
  refine own_by st332 ?_
  have N332 := Fr.snoc X332 N328 g1
  have fw332 := f333.same W332
  have K335 := K331.wr W332 (Or.inl (List.mem_of_getElem? (i := 0) rfl))
  have Z332 : n0 ≤ h332.size := Nat.le_trans Z328 (Keep.of_wr W332).1
  refine own_by (fun _ k => XS.goto X332.here hx rfl (pc0 := 22) (pc' := 38) rfl (hb hby d8_22) (by decide) (by decide) k) ?_
  have f336 := (f334.wr W332)
  have f337 := (fw328.other W332 (Or.inr (slot_ne (Or.inl (hw _ (List.mem_of_getElem? (i := 79) rfl))) (Or.inl (hw _ (List.mem_of_getElem? (i := 81) rfl))) (by decide) (t := (.array .byte)) (t' := .byte) (by decide) (by decide))))
  have f338 := (((Ns.ext E326).other W328 (Or.inr (slot_ne (Or.inl (hw _ (List.mem_of_getElem? (i := 107) rfl))) (Or.inl (hw _ (List.mem_of_getElem? (i := 79) rfl))) (by decide) (t := .int) (t' := (.array .byte)) (by decide) (by decide)))).other W332 (Or.inr (slot_ne (Or.inl (hw _ (List.mem_of_getElem? (i := 107) rfl))) (Or.inl (hw _ (List.mem_of_getElem? (i := 81) rfl))) (by decide) (t := .int) (t' := .byte) (by decide) (by decide))))
  have f339 := ((V326.other W328 (Ne.symm ne_sb_b326)).other W332 (Ne.symm ne_sb_b326))
  exact own_ret0 X332 hx hlk hret (hb hby d8_38) (by first | exact ⟨rfl, N332, b326, k326, K335, sz_b326, og_b326, f336, fw332, f337, f338, f339⟩ | (rw [e332]; exact ⟨rfl, N332, b326, k326, K335, sz_b326, og_b326, f336, fw332, f337, f338, f339⟩)) (by decide) (by decide)
def Q_rm7 (Z : State) (sb : Addr) (w1 : Int32) (d1 d2 : Addr) (kd1 kd2 : ClassId) (fm : Value) (h0 : Heap) (n0 : Nat) (v : Option Value) (h : Heap) (L : List Loc) : Prop := v = none ∧ Fr n0 L ∧ ∃ (q2 : Addr) (k2 : ClassId), Keep h0 h [sb] ∧ h0.size ≤ q2 ∧ n0 ≤ q2 ∧ Exa Z h sb "java/lang/StringBuilder" ∧ Fld Z h sb "java/lang/AbstractStringBuilder" "coder" "B" (.int (0 : Int32)) ∧ Fld Z h sb "java/lang/AbstractStringBuilder" "value" "[B" (.ref q2) ∧ Fld Z h sb "java/lang/AbstractStringBuilder" "count" "I" (.int (Int32.ofNat ([] : List Int32).length)) ∧ Arv Z h q2 k2 .byte (Int32.ofNat 16) ((own_pad 16 ([] : List Int32)).map Value.int) (.int 0)
theorem pn_rm7 : plainFor (⟨"java/lang/StringBuilder", "<init>", "()V"⟩ : MethodName) = true := by first | exact plainFor_of_name (by first | (simp [plainName, overriddenIn, x]; done) | decide +kernel) | decide +kernel
theorem d7_0 : decode jdk_67_method_1_code 0 = .ok (.aload_n 0, 1) := by decide +kernel
theorem d7_1 : decode jdk_67_method_1_code 1 = .ok (.bipush 16, 2) := by decide +kernel
theorem d7_3 : decode jdk_67_method_1_code 3 = .ok (.invokespecial 1, 3) := by decide +kernel
theorem d7_6 : decode jdk_67_method_1_code 6 = .ok (.return_, 1) := by decide +kernel
set_option maxRecDepth 65536 in
set_option maxHeartbeats 40000000 in
theorem rm7 (l : Launch) (Z : State) (a0 : Array Value) (hw : ∀ d ∈ tables_1, d.before a0 Z = true) (ws : List Jvm.Cond) (sb : Addr) (w1 : Int32) (d1 d2 : Addr) (kd1 kd2 : ClassId) (fm : Value) (h0 : Heap) (n0 : Nat) (Z0 : n0 ≤ h0.size) (hz : Z.heap.size ≤ n0) (hkz : own_K Z h0) (TB : own_Tb Z w1 d1 d2 kd1 kd2 fm) (g1 : n0 ≤ sb) (Es : Exa Z h0 sb "java/lang/StringBuilder") (Cs : Fld Z h0 sb "java/lang/AbstractStringBuilder" "coder" "B" (.int (0 : Int32))) (Vs : Fld Z h0 sb "java/lang/AbstractStringBuilder" "value" "[B" .null) (Ns : Fld Z h0 sb "java/lang/AbstractStringBuilder" "count" "I" (.int (0 : Int32))) :
    own_Met l Z (⟨"java/lang/StringBuilder", "<init>", "()V"⟩ : MethodName) jdk_67_method_1_code 1 none ws ({ frames := 2, cells := 1, slots := 16, locals := 30 } : Room) #[(.ref sb)] h0 (Q_rm7 Z sb w1 d1 d2 kd1 kd2 fm h0 n0) := by
  refine own_enter (g0 := fun m => (mkF m 0 #[.val (.ref sb)] [])) pn_rm7 (fun m => by first | (simp [entryFrame, mkF, argsToLocals, Value.category, maxLocals]; done) | rfl) ?_
  intro p e s m below meth c s₁ hx hby hml hown hnm hret hlk hZ X0 e0
  have hml : c.maxLocals = 1 := hml
  have hown : s.vm.findClass "java/lang/StringBuilder" = some m.cls := hown
  have N0 := Fr.nil n0
  have K0 := Keep.refl h0 [sb]
  refine own_by (fun _ k => XS.aloadN X0.here hx rfl (hb hby d7_0) rfl rfl k) ?_
  refine own_by (fun _ k => XS.bipush X0.here hx rfl (hb hby d7_1) k) ?_
  obtain ⟨_, T340, L340, X340, ⟨rfl, N340q, q2, k2, Kc, sq, gq2, E9, C9, V9, N9, A9⟩, st340⟩ := own_callI X0 hx hZ hown (y := (⟨"java/lang/AbstractStringBuilder", "<init>", "(I)V"⟩ : MethodName)) rfl (hw _ (List.mem_of_getElem? (i := 70) rfl)) (hw _ (List.mem_of_getElem? (i := 71) rfl)) (hw _ (List.mem_of_getElem? (i := 74) rfl)) (hw _ (List.mem_of_getElem? (i := 75) rfl)) (by decide) (a := sb) (argsL := [(.int (16 : Int32))]) (rest := []) e0 (rm8 l Z a0 hw [] sb w1 d1 d2 kd1 kd2 fm h0 n0 Z0 hz hkz TB g1 Es Cs Vs Ns) (g := (mkF m 3 #[.val (.ref sb)] [(.int (16 : Int32)), (.ref sb)])) rfl (by rw [hml]; rfl) (lenOf pd_8 rfl) rfl (W := 0) (by show 2 * 0 + _ ≤ _; exact Nat.le_of_eq rfl) (hb hby d7_3) (by decide) (by decide) (by decide) (by decide)
  have N340 := Fr.app N0 N340q
  refine own_by st340 ?_
  have Z340 : n0 ≤ T340.heap.size := Nat.le_trans Z0 Kc.1
  have K340c := K0.trans Kc (allS (Or.inl (List.mem_of_getElem? (i := 0) rfl)) all0)
  exact own_ret0 X340 hx hlk hret (hb hby d7_6) ⟨rfl, N340, q2, k2, K340c, sq, gq2, E9, C9, V9, N9, A9⟩ (by decide) (by decide)
def own_l9 : List Int32 := [97, 32, 103, 114, 111, 117, 112, 32, 104, 97, 115, 32, 97, 116, 32, 108, 101, 97, 115, 116, 32, 49, 32, 118, 97, 114, 105, 97, 98, 108, 101]
def own_l17 : List Int32 := [97, 32, 103, 114, 111, 117, 112, 32, 104, 97, 115, 32, 97, 116, 32, 108, 101, 97, 115, 116, 32, 48, 32, 100, 114, 97, 119, 110, 32, 102, 97, 99, 116, 111, 114, 115]
def own_l19 : List Int32 := [97, 32, 103, 114, 111, 117, 112, 32, 104, 97, 115, 32, 97, 116, 32, 108, 101, 97, 115, 116, 32, 49, 32, 97, 103, 101, 110, 116]
def own_l21 : List Int32 := [97, 32, 118, 97, 114, 105, 97, 98, 108, 101, 32, 116, 97, 107, 101, 115, 32, 97, 116, 32, 108, 101, 97, 115, 116, 32, 49, 32, 118, 97, 108, 117, 101]
def own_l154 : List Int32 := [114, 101, 103, 114, 101, 116, 116, 97, 32, 103, 101, 110, 101, 114, 97, 116, 101, 32, 103, 114, 111, 117, 112, 32, 45, 45, 118, 97, 114, 105, 97, 98, 108, 101, 115, 32]
def own_l156 : List Int32 := [32, 45, 45, 102, 97, 99, 116, 111, 114, 115, 32]
def own_l158 : List Int32 := [32, 45, 45, 97, 103, 101, 110, 116, 115, 32]
def own_l160 : List Int32 := [32, 45, 45, 100, 111, 109, 97, 105, 110, 32]
def own_l162 : List Int32 := [32, 45, 45, 115, 101, 101, 100, 32]
def own_lR : List Int32 := [114, 101, 103, 114, 101, 116, 116, 97, 32, 103, 101, 110, 101, 114, 97, 116, 101, 32, 103, 114, 111, 117, 112, 32, 45, 45, 118, 97, 114, 105, 97, 98, 108, 101, 115, 32, 35, 32, 45, 45, 102, 97, 99, 116, 111, 114, 115, 32, 35, 32, 45, 45, 97, 103, 101, 110, 116, 115, 32, 35, 32, 45, 45, 100, 111, 109, 97, 105, 110, 32, 35, 32, 45, 45, 115, 101, 101, 100, 32]
def own_res (nv nf na nd : Nat) (lv : Int64) (cn : Nat) : List Int32 := ((((((((([] ++ own_l154) ++ [Int32.ofNat (48 + nv)]) ++ own_l156) ++ [Int32.ofNat (48 + nf)]) ++ own_l158) ++ [Int32.ofNat (48 + na)]) ++ own_l160) ++ [Int32.ofNat (48 + nd)]) ++ own_l162) ++ own_txt lv cn
def Q_rm6 (Z : State) (gp : Addr) (nv nf na nd : Nat) (lv : Int64) (w1 : Int32) (d1 d2 : Addr) (kd1 kd2 : ClassId) (fm : Value) (h0 : Heap) (n0 : Nat) (v : Option Value) (h : Heap) (L : List Loc) (vm : Vm) : Prop := ∃ (cn : Nat) (st b : Addr) (kb : ClassId), v = some (.ref st) ∧ Fr n0 L ∧ own_C (own_abs lv) cn ∧ Keep h0 h [] ∧ h0.size ≤ st ∧ Exa Z h st "java/lang/String" ∧ Fld Z h st "java/lang/String" "coder" "B" (.int (0 : Int32)) ∧ Fld Z h st "java/lang/String" "value" "[B" (.ref b) ∧ Arv Z h b kb .byte (Int32.ofNat (own_res nv nf na nd lv cn).length) ((own_res nv nf na nd lv cn).map Value.int) (.int 0) ∧ IB Z vm [" --seed ", " --domain ", " --agents ", " --factors ", "regretta generate group --variables ", "a variable takes at least 1 value", "a group has at least 1 agent", "a group has at least 0 drawn factors", "a group has at least 1 variable"]
theorem pn_rm6 : plainFor (⟨"com/example/regretta/regretta/GroupProblemGenerator", "description", "(J)Ljava/lang/String;"⟩ : MethodName) = true := by first | exact plainFor_of_name (by first | (simp [plainName, overriddenIn, x]; done) | decide +kernel) | decide +kernel
theorem d6_0 : decode prog_22_method_3_code 0 = .ok (.new 38, 3) := by decide +kernel
theorem d6_3 : decode prog_22_method_3_code 3 = .ok (.dup, 1) := by decide +kernel
theorem pd_22 : parseMethodDescriptor "()V" = some ⟨[], none⟩ := by decide +kernel
theorem d6_4 : decode prog_22_method_3_code 4 = .ok (.invokespecial 40, 3) := by decide +kernel
theorem d6_7 : decode prog_22_method_3_code 7 = .ok (.ldc 154, 2) := by decide +kernel
theorem pd_23 : parseMethodDescriptor "(Ljava/lang/String;)Ljava/lang/StringBuilder;" = some ⟨[(.object "java/lang/String")], some (.object "java/lang/StringBuilder")⟩ := by decide +kernel
theorem d6_9 : decode prog_22_method_3_code 9 = .ok (.invokevirtual 47, 3) := by decide +kernel
theorem d6_12 : decode prog_22_method_3_code 12 = .ok (.aload_n 0, 1) := by decide +kernel
theorem d6_13 : decode prog_22_method_3_code 13 = .ok (.getfield 68, 3) := by decide +kernel
theorem pd_24 : parseMethodDescriptor "(I)Ljava/lang/StringBuilder;" = some ⟨[.int], some (.object "java/lang/StringBuilder")⟩ := by decide +kernel
theorem d6_16 : decode prog_22_method_3_code 16 = .ok (.invokevirtual 41, 3) := by decide +kernel
theorem d6_19 : decode prog_22_method_3_code 19 = .ok (.ldc 156, 2) := by decide +kernel
theorem d6_21 : decode prog_22_method_3_code 21 = .ok (.invokevirtual 47, 3) := by decide +kernel
theorem d6_24 : decode prog_22_method_3_code 24 = .ok (.aload_n 0, 1) := by decide +kernel
theorem d6_25 : decode prog_22_method_3_code 25 = .ok (.getfield 72, 3) := by decide +kernel
theorem d6_28 : decode prog_22_method_3_code 28 = .ok (.invokevirtual 41, 3) := by decide +kernel
theorem d6_31 : decode prog_22_method_3_code 31 = .ok (.ldc 158, 2) := by decide +kernel
theorem d6_33 : decode prog_22_method_3_code 33 = .ok (.invokevirtual 47, 3) := by decide +kernel
theorem d6_36 : decode prog_22_method_3_code 36 = .ok (.aload_n 0, 1) := by decide +kernel
theorem d6_37 : decode prog_22_method_3_code 37 = .ok (.getfield 75, 3) := by decide +kernel
theorem d6_40 : decode prog_22_method_3_code 40 = .ok (.invokevirtual 41, 3) := by decide +kernel
theorem d6_43 : decode prog_22_method_3_code 43 = .ok (.ldc 160, 2) := by decide +kernel
theorem d6_45 : decode prog_22_method_3_code 45 = .ok (.invokevirtual 47, 3) := by decide +kernel
theorem d6_48 : decode prog_22_method_3_code 48 = .ok (.aload_n 0, 1) := by decide +kernel
theorem d6_49 : decode prog_22_method_3_code 49 = .ok (.getfield 78, 3) := by decide +kernel
theorem d6_52 : decode prog_22_method_3_code 52 = .ok (.invokevirtual 41, 3) := by decide +kernel
theorem d6_55 : decode prog_22_method_3_code 55 = .ok (.ldc 162, 2) := by decide +kernel
theorem d6_57 : decode prog_22_method_3_code 57 = .ok (.invokevirtual 47, 3) := by decide +kernel
theorem d6_60 : decode prog_22_method_3_code 60 = .ok (.lload_n 1, 1) := by decide +kernel
theorem pd_25 : parseMethodDescriptor "(J)Ljava/lang/StringBuilder;" = some ⟨[.long], some (.object "java/lang/StringBuilder")⟩ := by decide +kernel
theorem d6_61 : decode prog_22_method_3_code 61 = .ok (.invokevirtual 56, 3) := by decide +kernel
theorem pd_26 : parseMethodDescriptor "()Ljava/lang/String;" = some ⟨[], some (.object "java/lang/String")⟩ := by decide +kernel
theorem d6_64 : decode prog_22_method_3_code 64 = .ok (.invokevirtual 61, 3) := by decide +kernel
theorem d6_67 : decode prog_22_method_3_code 67 = .ok (.areturn, 1) := by decide +kernel
set_option maxRecDepth 65536 in
set_option maxHeartbeats 40000000 in
theorem rm6 (l : Launch) (Z : State) (a0 : Array Value) (hw : ∀ d ∈ tables_1, d.before a0 Z = true) (ws : List Jvm.Cond) (gp : Addr) (nv nf na nd : Nat) (lv : Int64) (w1 : Int32) (d1 d2 : Addr) (kd1 kd2 : ClassId) (fm : Value) (h0 : Heap) (n0 : Nat) (Z0 : n0 ≤ h0.size) (hz : Z.heap.size ≤ n0) (hkz : own_K Z h0) (TB : own_Tb Z w1 d1 d2 kd1 kd2 fm) (hv : 1 ≤ nv ∧ nv ≤ 9) (hf : nf ≤ 9) (ha : 1 ≤ na ∧ na ≤ 9) (hd : 1 ≤ nd ∧ nd ≤ 9) (hn0 : n0 = h0.size) (Eg : Exa Z h0 gp "com/example/regretta/regretta/GroupProblemGenerator") (Fnv : Fld Z h0 gp "com/example/regretta/regretta/GroupProblemGenerator" "variables" "I" (.int (Int32.ofNat nv))) (Fnf : Fld Z h0 gp "com/example/regretta/regretta/GroupProblemGenerator" "factors" "I" (.int (Int32.ofNat nf))) (Fna : Fld Z h0 gp "com/example/regretta/regretta/GroupProblemGenerator" "agents" "I" (.int (Int32.ofNat na))) (Fnd : Fld Z h0 gp "com/example/regretta/regretta/GroupProblemGenerator" "domain" "I" (.int (Int32.ofNat nd))) (hc154 : Jvm.Lit.constHeld Z "com/example/regretta/regretta/GroupProblemGenerator" 154) (hc156 : Jvm.Lit.constHeld Z "com/example/regretta/regretta/GroupProblemGenerator" 156) (hc158 : Jvm.Lit.constHeld Z "com/example/regretta/regretta/GroupProblemGenerator" 158) (hc160 : Jvm.Lit.constHeld Z "com/example/regretta/regretta/GroupProblemGenerator" 160) (hc162 : Jvm.Lit.constHeld Z "com/example/regretta/regretta/GroupProblemGenerator" 162) (hcw : Jvm.Lit.compactW.before a0 Z = true) :
    own_MetW l Z (⟨"com/example/regretta/regretta/GroupProblemGenerator", "description", "(J)Ljava/lang/String;"⟩ : MethodName) prog_22_method_3_code 3 (some (.object "java/lang/String")) ws ({ frames := 6, cells := 24, slots := 2600, locals := 134 } : Room) #[(.ref gp), (.long lv)] h0 (fun vm => IB Z vm ["a variable takes at least 1 value", "a group has at least 1 agent", "a group has at least 0 drawn factors", "a group has at least 1 variable"]) (Q_rm6 Z gp nv nf na nd lv w1 d1 d2 kd1 kd2 fm h0 n0) := by
  refine own_enterW (g0 := fun m => (mkF m 0 #[.val (.ref gp), .val (.long lv), .second] [])) pn_rm6 (fun m => by first | (simp [entryFrame, mkF, argsToLocals, Value.category, maxLocals]; done) | rfl) ?_
  intro p e s m below meth c s₁ hx hby hml hown hnm hret hlk hZ I0 X0 e0 es
  have hml : c.maxLocals = 3 := hml
  have hown : (s.setVm s.vm).vm.findClass "com/example/regretta/regretta/GroupProblemGenerator" = some m.cls := hown
  have N0 := Fr.nil n0
  have S0 : s.Since s.vm 0 := (State.WarmedH.refl s).since 0
  have kz0 : 0 ≤ h0.size := Nat.zero_le _
  have K0 := Keep.refl h0 []
  obtain ⟨T341, h341, X341, e341, E341, A341, D341, -, st341⟩ := newO X0 hx hZ hown (hw _ (List.mem_of_getElem? (i := 64) rfl)) (hw _ (List.mem_of_getElem? (i := 65) rfl)) (hw _ (List.mem_of_getElem? (i := 66) rfl)) e0 (g := (mkF m 0 #[.val (.ref gp), .val (.long lv), .second] [])) rfl (hb hby d6_0) (by decide) (by decide)
  obtain ⟨b341, g341⟩ : ∃ zq, zq = h0.size := ⟨_, rfl⟩
  rw [← g341] at A341 D341 st341
  have ne_gp_b341 : gp ≠ b341 := Nat.ne_of_lt (Nat.lt_of_lt_of_le Eg.lt (Nat.le_of_eq g341.symm))
  have og_b341 : n0 ≤ b341 := Nat.le_trans Z0 (Nat.le_of_eq g341.symm)
  have sz_b341 : h0.size ≤ b341 := Nat.le_trans K0.1 (Nat.le_of_eq g341.symm)
  have Z341 : n0 ≤ h341.size := Nat.le_trans Z0 E341.1
  have kz342 : _ ≤ h341.size := Nat.le_trans kz0 E341.1
  have K343 := K0.ext E341
  have F_value_b341 : Fld Z h341 b341 "java/lang/AbstractStringBuilder" "value" "[B" .null := D341 (Or.inl (hw _ (List.mem_of_getElem? (i := 79) rfl))) (ty := (.array .byte)) (by decide)
  have F_coder_b341 : Fld Z h341 b341 "java/lang/AbstractStringBuilder" "coder" "B" (.int (0 : Int32)) := D341 (Or.inl (hw _ (List.mem_of_getElem? (i := 81) rfl))) (ty := .byte) (by decide)
  have F_count_b341 : Fld Z h341 b341 "java/lang/AbstractStringBuilder" "count" "I" (.int (0 : Int32)) := D341 (Or.inl (hw _ (List.mem_of_getElem? (i := 107) rfl))) (ty := .int) (by decide)
  refine own_by st341 ?_
  refine own_by (fun _ k => XS.dup X341.here hx rfl (hb hby d6_3) rfl rfl k) ?_
  have hk344 : own_K Z h341 := own_KW hkz K343 all0
  have f345 := (Eg.ext E341)
  obtain ⟨_, T346, L346, X346, ⟨rfl, N346q, q0, k0, Kb0, sq0, gq0, Eb0, Cb0, Vb0, Nb0, Ab0⟩, st346⟩ := own_callI X341 hx hZ hown (y := (⟨"java/lang/StringBuilder", "<init>", "()V"⟩ : MethodName)) rfl (hw _ (List.mem_of_getElem? (i := 67) rfl)) (hw _ (List.mem_of_getElem? (i := 68) rfl)) (hw _ (List.mem_of_getElem? (i := 66) rfl)) (hw _ (List.mem_of_getElem? (i := 69) rfl)) (by decide) (a := b341) (argsL := []) (rest := [(.ref b341)]) e341 (rm7 l Z a0 hw [] b341 w1 d1 d2 kd1 kd2 fm h341 n0 Z341 hz hk344 TB og_b341 A341 F_coder_b341 F_value_b341 F_count_b341) (g := (mkF m 4 #[.val (.ref gp), .val (.long lv), .second] [(.ref b341), (.ref b341)])) rfl (by rw [hml]; rfl) (lenOf pd_22 rfl) rfl (W := 1) (by show 2 * 0 + _ ≤ _; exact Nat.le_of_eq rfl) (hb hby d6_4) (by decide) (by decide) (by decide) (by decide)
  have N346 := Fr.app N0 N346q
  refine own_by st346 ?_
  have ne_gp_q0 : gp ≠ q0 := Nat.ne_of_lt (Nat.lt_of_lt_of_le f345.lt sq0)
  have ne_b341_q0 : b341 ≠ q0 := Nat.ne_of_lt (Nat.lt_of_lt_of_le A341.lt sq0)
  have og_q0 : n0 ≤ q0 := Nat.le_trans Z341 sq0
  have sz_q0 : h0.size ≤ q0 := Nat.le_trans K343.1 sq0
  have Z346 : n0 ≤ T346.heap.size := Nat.le_trans Z341 Kb0.1
  have kz347 : _ ≤ T346.heap.size := Nat.le_trans kz342 Kb0.1
  have K346c := K343.trans Kb0 (allS (Or.inr sz_b341) all0)
  have hx0 : (([] : List Int32)).length = 0 := rfl
  obtain ⟨a348, T348, h348, k348w, b348, k348, X348, e348, E348, S348, kz348, hZ, hown, Ea348, Ca348, Va348, Ab348, la348, lb348, I348, Lt348, st348⟩ := ldcSVL X346 hx hZ hown (hw _ (List.mem_of_getElem? (i := 82) rfl)) (own_sa hw) rfl S0 kz347 (by rw [es, ← hn0]; exact N346) (by rw [es]; exact hkz) I0 (by decide +kernel) hc154 hcw (vs := own_l154.map Value.int) (z := Int32.ofNat own_l154.length) ⟨by decide +kernel, by decide +kernel⟩ (by decide +kernel) (by decide +kernel) (g := (mkF m 7 #[.val (.ref gp), .val (.long lv), .second] [(.ref b341)])) rfl (hb hby d6_7) (n := 144) (by decide +kernel) (by decide) (by decide) (by decide)
  have K349 := K346c.ext E348
  have Z348 : n0 ≤ h348.size := Nat.le_trans Z346 E348.1
  refine own_by st348 ?_
  have f350 := (Eb0.ext E348)
  have f351 := (Cb0.ext E348)
  have f352 := (Vb0.ext E348)
  have f353 := (Nb0.ext E348)
  have f354 := (Ab0.ext E348)
  have hk355 : own_K Z h348 := own_KW hkz K349 all0
  have f356 := ((f345.keep Kb0).ext E348)
  obtain ⟨_, T357, L357, X357, ⟨rfl, N357q, q1, k1, Kb1, gq1, Eb1, Cb1, Vb1, Nb1, Ab1⟩, st357⟩ := own_callV X348 hx hZ hown (y := (⟨"java/lang/StringBuilder", "append", "(Ljava/lang/String;)Ljava/lang/StringBuilder;"⟩ : MethodName)) (C := "java/lang/StringBuilder") (hw _ (List.mem_of_getElem? (i := 83) rfl)) (hw _ (List.mem_of_getElem? (i := 84) rfl)) (hw _ (List.mem_of_getElem? (i := 86) rfl)) (hw _ (List.mem_of_getElem? (i := 85) rfl)) (hw _ (List.mem_of_getElem? (i := 66) rfl)) (hw _ (List.mem_of_getElem? (i := 87) rfl)) (by decide) (a := b341) f350 (argsL := [(.ref a348)]) (rest := []) e348 (rm9 l Z a0 hw [] b341 q0 k0 16 ([] : List Int32) a348 b348 k348 own_l154 w1 d1 d2 kd1 kd2 fm h348 n0 Z348 hz hk355 TB og_b341 gq0 f350 f351 f352 f353 f354 (by rw [hx0]; decide) (by decide) Ea348 Ca348 Va348 Ab348 (by rw [hx0]; decide) (by decide)) (g := (mkF m 9 #[.val (.ref gp), .val (.long lv), .second] [(.ref a348), (.ref b341)])) rfl (by rw [hml]; rfl) (lenOf pd_23 rfl) rfl (W := 0) (by show 2 * 0 + _ ≤ _; exact Nat.le_of_eq rfl) (hb hby d6_9) (by decide) (by decide) (by decide) (by decide)
  have N357 := Fr.app N346 N357q
  refine own_by st357 ?_
  have Z357 : n0 ≤ T357.heap.size := Nat.le_trans Z348 Kb1.1
  have kz358 : _ ≤ T357.heap.size := Nat.le_trans kz348 Kb1.1
  have K357c := K349.trans Kb1 (allS (Or.inr sz_b341) (allS (Or.inr sz_q0) all0))
  have sq1 : h0.size ≤ q1 := Nat.le_trans (Nat.le_of_eq hn0.symm) gq1
  have ng1 : gp ≠ q1 := Nat.ne_of_lt (Nat.lt_of_lt_of_le Eg.lt sq1)
  obtain ⟨x1, ex1⟩ : ∃ z, z = ([] : List Int32) ++ own_l154 := ⟨_, rfl⟩
  have hx1 : x1.length = 36 := by rw [ex1, List.length_append, hx0]; rfl
  rw [show own_cpn 16 (([] : List Int32).length + own_l154.length) = 36 from by rw [hx0]; rfl, ← ex1] at Ab1
  rw [← ex1] at Nb1
  refine own_by (fun _ k => XS.aloadN X357.here hx rfl (hb hby d6_12) rfl rfl k) ?_
  have f360 := ((((Fnv.ext E341).keep Kb0 (ninS ne_gp_b341 nin0)).ext E348).keep Kb1 (ninS ne_gp_b341 (ninS ne_gp_q0 nin0)))
  obtain ⟨T359, X359, e359, st359⟩ := getF X357 hx hZ hown (host := "") (Or.inl (hw _ (List.mem_of_getElem? (i := 51) rfl))) Via.refl rfl f360 (g := (mkF m 13 #[.val (.ref gp), .val (.long lv), .second] [(.ref gp), (.ref b341)])) rfl rfl (hb hby d6_13)
  refine own_by st359 ?_
  have hk361 : own_K Z T357.heap := own_KW hkz K357c all0
  have f362 := (f356.keep Kb1)
  obtain ⟨_, T363, L363, X363, ⟨rfl, N363q, q2, k2, Kb2, gq2, Eb2, Cb2, Vb2, Nb2, Ab2⟩, st363⟩ := own_callV X359 hx hZ hown (y := (⟨"java/lang/StringBuilder", "append", "(I)Ljava/lang/StringBuilder;"⟩ : MethodName)) (C := "java/lang/StringBuilder") (hw _ (List.mem_of_getElem? (i := 153) rfl)) (hw _ (List.mem_of_getElem? (i := 154) rfl)) (hw _ (List.mem_of_getElem? (i := 156) rfl)) (hw _ (List.mem_of_getElem? (i := 155) rfl)) (hw _ (List.mem_of_getElem? (i := 66) rfl)) (hw _ (List.mem_of_getElem? (i := 157) rfl)) (by decide) (a := b341) Eb1 (argsL := [(.int (Int32.ofNat nv))]) (rest := []) e359 (rm21 l Z a0 hw [] b341 q1 k1 36 x1 nv w1 d1 d2 kd1 kd2 fm T357.heap n0 Z357 hz hk361 TB og_b341 gq1 Eb1 Cb1 Vb1 Nb1 Ab1 (by rw [hx1]; decide) (by decide) hv.2 (by rw [hx1]; decide)) (g := (mkF m 16 #[.val (.ref gp), .val (.long lv), .second] [(.int (Int32.ofNat nv)), (.ref b341)])) rfl (by rw [hml]; rfl) (lenOf pd_24 rfl) rfl (W := 0) (by show 2 * 0 + _ ≤ _; exact Nat.le_of_eq rfl) (hb hby d6_16) (by decide) (by decide) (by decide) (by decide)
  have N363 := Fr.app N357 N363q
  refine own_by st363 ?_
  show own_Go p e below _ T363 (mkF m 19 #[.val (.ref gp), .val (.long lv), .second] [(.ref b341)])
  have Z363 : n0 ≤ T363.heap.size := Nat.le_trans Z357 Kb2.1
  have kz364 : _ ≤ T363.heap.size := Nat.le_trans kz358 Kb2.1
  have K363c := K357c.trans Kb2 (allS (Or.inr sz_b341) (allS (Or.inr sq1) all0))
  have sq2 : h0.size ≤ q2 := Nat.le_trans (Nat.le_of_eq hn0.symm) gq2
  have ng2 : gp ≠ q2 := Nat.ne_of_lt (Nat.lt_of_lt_of_le Eg.lt sq2)
  obtain ⟨x2, ex2⟩ : ∃ z, z = x1 ++ [(Int32.ofNat (48 + nv))] := ⟨_, rfl⟩
  have hx2 : x2.length = 37 := by rw [ex2, List.length_append, hx1]; rfl
  rw [show own_cpn 36 (x1.length + 1) = 74 from by rw [hx1]; rfl, ← ex2] at Ab2
  rw [← ex2] at Nb2
  obtain ⟨a365, T365, h365, k365w, b365, k365, X365, e365, E365, S365, kz365, hZ, hown, Ea365, Ca365, Va365, Ab365, la365, lb365, I365, Lt365, st365⟩ := ldcSVL X363 hx hZ hown (hw _ (List.mem_of_getElem? (i := 175) rfl)) (own_sa hw) rfl S348 kz364 (by rw [es, ← hn0]; exact N363) (by rw [es]; exact hkz) I348 (by decide +kernel) hc156 hcw (vs := own_l156.map Value.int) (z := Int32.ofNat own_l156.length) ⟨by decide +kernel, by decide +kernel⟩ (by decide +kernel) (by decide +kernel) (g := (mkF m 19 #[.val (.ref gp), .val (.long lv), .second] [(.ref b341)])) rfl (hb hby d6_19) (n := 44) (by decide +kernel) (by decide) (by decide) (by decide)
  have K366 := K363c.ext E365
  have Z365 : n0 ≤ h365.size := Nat.le_trans Z363 E365.1
  refine own_by st365 ?_
  have f367 := (Eb2.ext E365)
  have f368 := (Cb2.ext E365)
  have f369 := (Vb2.ext E365)
  have f370 := (Nb2.ext E365)
  have f371 := (Ab2.ext E365)
  have hk372 : own_K Z h365 := own_KW hkz K366 all0
  have f373 := ((f362.keep Kb2).ext E365)
  obtain ⟨_, T374, L374, X374, ⟨rfl, N374q, q3, k3, Kb3, gq3, Eb3, Cb3, Vb3, Nb3, Ab3⟩, st374⟩ := own_callV X365 hx hZ hown (y := (⟨"java/lang/StringBuilder", "append", "(Ljava/lang/String;)Ljava/lang/StringBuilder;"⟩ : MethodName)) (C := "java/lang/StringBuilder") (hw _ (List.mem_of_getElem? (i := 83) rfl)) (hw _ (List.mem_of_getElem? (i := 84) rfl)) (hw _ (List.mem_of_getElem? (i := 86) rfl)) (hw _ (List.mem_of_getElem? (i := 85) rfl)) (hw _ (List.mem_of_getElem? (i := 66) rfl)) (hw _ (List.mem_of_getElem? (i := 87) rfl)) (by decide) (a := b341) f367 (argsL := [(.ref a365)]) (rest := []) e365 (rm9 l Z a0 hw [] b341 q2 k2 74 x2 a365 b365 k365 own_l156 w1 d1 d2 kd1 kd2 fm h365 n0 Z365 hz hk372 TB og_b341 gq2 f367 f368 f369 f370 f371 (by rw [hx2]; decide) (by decide) Ea365 Ca365 Va365 Ab365 (by rw [hx2]; decide) (by decide)) (g := (mkF m 21 #[.val (.ref gp), .val (.long lv), .second] [(.ref a365), (.ref b341)])) rfl (by rw [hml]; rfl) (lenOf pd_23 rfl) rfl (W := 0) (by show 2 * 0 + _ ≤ _; exact Nat.le_of_eq rfl) (hb hby d6_21) (by decide) (by decide) (by decide) (by decide)
  have N374 := Fr.app N363 N374q
  refine own_by st374 ?_
  have Z374 : n0 ≤ T374.heap.size := Nat.le_trans Z365 Kb3.1
  have kz375 : _ ≤ T374.heap.size := Nat.le_trans kz365 Kb3.1
  have K374c := K366.trans Kb3 (allS (Or.inr sz_b341) (allS (Or.inr sq2) all0))
  have sq3 : h0.size ≤ q3 := Nat.le_trans (Nat.le_of_eq hn0.symm) gq3
  have ng3 : gp ≠ q3 := Nat.ne_of_lt (Nat.lt_of_lt_of_le Eg.lt sq3)
  obtain ⟨x3, ex3⟩ : ∃ z, z = x2 ++ own_l156 := ⟨_, rfl⟩
  have hx3 : x3.length = 48 := by rw [ex3, List.length_append, hx2]; rfl
  rw [show own_cpn 74 (x2.length + own_l156.length) = 74 from by rw [hx2]; rfl, ← ex3] at Ab3
  rw [← ex3] at Nb3
  refine own_by (fun _ k => XS.aloadN X374.here hx rfl (hb hby d6_24) rfl rfl k) ?_
  have f377 := (((((((Fnf.ext E341).keep Kb0 (ninS ne_gp_b341 nin0)).ext E348).keep Kb1 (ninS ne_gp_b341 (ninS ne_gp_q0 nin0))).keep Kb2 (ninS ne_gp_b341 (ninS ng1 nin0))).ext E365).keep Kb3 (ninS ne_gp_b341 (ninS ng2 nin0)))
  obtain ⟨T376, X376, e376, st376⟩ := getF X374 hx hZ hown (host := "") (Or.inl (hw _ (List.mem_of_getElem? (i := 53) rfl))) Via.refl rfl f377 (g := (mkF m 25 #[.val (.ref gp), .val (.long lv), .second] [(.ref gp), (.ref b341)])) rfl rfl (hb hby d6_25)
  refine own_by st376 ?_
  have hk378 : own_K Z T374.heap := own_KW hkz K374c all0
  have f379 := (f373.keep Kb3)
  obtain ⟨_, T380, L380, X380, ⟨rfl, N380q, q4, k4, Kb4, gq4, Eb4, Cb4, Vb4, Nb4, Ab4⟩, st380⟩ := own_callV X376 hx hZ hown (y := (⟨"java/lang/StringBuilder", "append", "(I)Ljava/lang/StringBuilder;"⟩ : MethodName)) (C := "java/lang/StringBuilder") (hw _ (List.mem_of_getElem? (i := 153) rfl)) (hw _ (List.mem_of_getElem? (i := 154) rfl)) (hw _ (List.mem_of_getElem? (i := 156) rfl)) (hw _ (List.mem_of_getElem? (i := 155) rfl)) (hw _ (List.mem_of_getElem? (i := 66) rfl)) (hw _ (List.mem_of_getElem? (i := 157) rfl)) (by decide) (a := b341) Eb3 (argsL := [(.int (Int32.ofNat nf))]) (rest := []) e376 (rm21 l Z a0 hw [] b341 q3 k3 74 x3 nf w1 d1 d2 kd1 kd2 fm T374.heap n0 Z374 hz hk378 TB og_b341 gq3 Eb3 Cb3 Vb3 Nb3 Ab3 (by rw [hx3]; decide) (by decide) hf (by rw [hx3]; decide)) (g := (mkF m 28 #[.val (.ref gp), .val (.long lv), .second] [(.int (Int32.ofNat nf)), (.ref b341)])) rfl (by rw [hml]; rfl) (lenOf pd_24 rfl) rfl (W := 0) (by show 2 * 0 + _ ≤ _; exact Nat.le_of_eq rfl) (hb hby d6_28) (by decide) (by decide) (by decide) (by decide)
  have N380 := Fr.app N374 N380q
  refine own_by st380 ?_
  have Z380 : n0 ≤ T380.heap.size := Nat.le_trans Z374 Kb4.1
  have kz381 : _ ≤ T380.heap.size := Nat.le_trans kz375 Kb4.1
  have K380c := K374c.trans Kb4 (allS (Or.inr sz_b341) (allS (Or.inr sq3) all0))
  have sq4 : h0.size ≤ q4 := Nat.le_trans (Nat.le_of_eq hn0.symm) gq4
  have ng4 : gp ≠ q4 := Nat.ne_of_lt (Nat.lt_of_lt_of_le Eg.lt sq4)
  obtain ⟨x4, ex4⟩ : ∃ z, z = x3 ++ [(Int32.ofNat (48 + nf))] := ⟨_, rfl⟩
  have hx4 : x4.length = 49 := by rw [ex4, List.length_append, hx3]; rfl
  rw [show own_cpn 74 (x3.length + 1) = 74 from by rw [hx3]; rfl, ← ex4] at Ab4
  rw [← ex4] at Nb4
  obtain ⟨a382, T382, h382, k382w, b382, k382, X382, e382, E382, S382, kz382, hZ, hown, Ea382, Ca382, Va382, Ab382, la382, lb382, I382, Lt382, st382⟩ := ldcSVL X380 hx hZ hown (hw _ (List.mem_of_getElem? (i := 176) rfl)) (own_sa hw) rfl S365 kz381 (by rw [es, ← hn0]; exact N380) (by rw [es]; exact hkz) I365 (by decide +kernel) hc158 hcw (vs := own_l158.map Value.int) (z := Int32.ofNat own_l158.length) ⟨by decide +kernel, by decide +kernel⟩ (by decide +kernel) (by decide +kernel) (g := (mkF m 31 #[.val (.ref gp), .val (.long lv), .second] [(.ref b341)])) rfl (hb hby d6_31) (n := 40) (by decide +kernel) (by decide) (by decide) (by decide)
  have K383 := K380c.ext E382
  have Z382 : n0 ≤ h382.size := Nat.le_trans Z380 E382.1
  refine own_by st382 ?_
  have f384 := (Eb4.ext E382)
  have f385 := (Cb4.ext E382)
  have f386 := (Vb4.ext E382)
  have f387 := (Nb4.ext E382)
  have f388 := (Ab4.ext E382)
  have hk389 : own_K Z h382 := own_KW hkz K383 all0
  have f390 := ((f379.keep Kb4).ext E382)
  obtain ⟨_, T391, L391, X391, ⟨rfl, N391q, q5, k5, Kb5, gq5, Eb5, Cb5, Vb5, Nb5, Ab5⟩, st391⟩ := own_callV X382 hx hZ hown (y := (⟨"java/lang/StringBuilder", "append", "(Ljava/lang/String;)Ljava/lang/StringBuilder;"⟩ : MethodName)) (C := "java/lang/StringBuilder") (hw _ (List.mem_of_getElem? (i := 83) rfl)) (hw _ (List.mem_of_getElem? (i := 84) rfl)) (hw _ (List.mem_of_getElem? (i := 86) rfl)) (hw _ (List.mem_of_getElem? (i := 85) rfl)) (hw _ (List.mem_of_getElem? (i := 66) rfl)) (hw _ (List.mem_of_getElem? (i := 87) rfl)) (by decide) (a := b341) f384 (argsL := [(.ref a382)]) (rest := []) e382 (rm9 l Z a0 hw [] b341 q4 k4 74 x4 a382 b382 k382 own_l158 w1 d1 d2 kd1 kd2 fm h382 n0 Z382 hz hk389 TB og_b341 gq4 f384 f385 f386 f387 f388 (by rw [hx4]; decide) (by decide) Ea382 Ca382 Va382 Ab382 (by rw [hx4]; decide) (by decide)) (g := (mkF m 33 #[.val (.ref gp), .val (.long lv), .second] [(.ref a382), (.ref b341)])) rfl (by rw [hml]; rfl) (lenOf pd_23 rfl) rfl (W := 0) (by show 2 * 0 + _ ≤ _; exact Nat.le_of_eq rfl) (hb hby d6_33) (by decide) (by decide) (by decide) (by decide)
  have N391 := Fr.app N380 N391q
  refine own_by st391 ?_
  have Z391 : n0 ≤ T391.heap.size := Nat.le_trans Z382 Kb5.1
  have kz392 : _ ≤ T391.heap.size := Nat.le_trans kz382 Kb5.1
  have K391c := K383.trans Kb5 (allS (Or.inr sz_b341) (allS (Or.inr sq4) all0))
  have sq5 : h0.size ≤ q5 := Nat.le_trans (Nat.le_of_eq hn0.symm) gq5
  have ng5 : gp ≠ q5 := Nat.ne_of_lt (Nat.lt_of_lt_of_le Eg.lt sq5)
  obtain ⟨x5, ex5⟩ : ∃ z, z = x4 ++ own_l158 := ⟨_, rfl⟩
  have hx5 : x5.length = 59 := by rw [ex5, List.length_append, hx4]; rfl
  rw [show own_cpn 74 (x4.length + own_l158.length) = 74 from by rw [hx4]; rfl, ← ex5] at Ab5
  rw [← ex5] at Nb5
  refine own_by (fun _ k => XS.aloadN X391.here hx rfl (hb hby d6_36) rfl rfl k) ?_
  have f394 := ((((((((((Fna.ext E341).keep Kb0 (ninS ne_gp_b341 nin0)).ext E348).keep Kb1 (ninS ne_gp_b341 (ninS ne_gp_q0 nin0))).keep Kb2 (ninS ne_gp_b341 (ninS ng1 nin0))).ext E365).keep Kb3 (ninS ne_gp_b341 (ninS ng2 nin0))).keep Kb4 (ninS ne_gp_b341 (ninS ng3 nin0))).ext E382).keep Kb5 (ninS ne_gp_b341 (ninS ng4 nin0)))
  obtain ⟨T393, X393, e393, st393⟩ := getF X391 hx hZ hown (host := "") (Or.inl (hw _ (List.mem_of_getElem? (i := 55) rfl))) Via.refl rfl f394 (g := (mkF m 37 #[.val (.ref gp), .val (.long lv), .second] [(.ref gp), (.ref b341)])) rfl rfl (hb hby d6_37)
  refine own_by st393 ?_
  show own_Go p e below _ T393 (mkF m 40 #[.val (.ref gp), .val (.long lv), .second] [(.int (Int32.ofNat na)), (.ref b341)])
  have hk395 : own_K Z T391.heap := own_KW hkz K391c all0
  have f396 := (f390.keep Kb5)
  obtain ⟨_, T397, L397, X397, ⟨rfl, N397q, q6, k6, Kb6, gq6, Eb6, Cb6, Vb6, Nb6, Ab6⟩, st397⟩ := own_callV X393 hx hZ hown (y := (⟨"java/lang/StringBuilder", "append", "(I)Ljava/lang/StringBuilder;"⟩ : MethodName)) (C := "java/lang/StringBuilder") (hw _ (List.mem_of_getElem? (i := 153) rfl)) (hw _ (List.mem_of_getElem? (i := 154) rfl)) (hw _ (List.mem_of_getElem? (i := 156) rfl)) (hw _ (List.mem_of_getElem? (i := 155) rfl)) (hw _ (List.mem_of_getElem? (i := 66) rfl)) (hw _ (List.mem_of_getElem? (i := 157) rfl)) (by decide) (a := b341) Eb5 (argsL := [(.int (Int32.ofNat na))]) (rest := []) e393 (rm21 l Z a0 hw [] b341 q5 k5 74 x5 na w1 d1 d2 kd1 kd2 fm T391.heap n0 Z391 hz hk395 TB og_b341 gq5 Eb5 Cb5 Vb5 Nb5 Ab5 (by rw [hx5]; decide) (by decide) ha.2 (by rw [hx5]; decide)) (g := (mkF m 40 #[.val (.ref gp), .val (.long lv), .second] [(.int (Int32.ofNat na)), (.ref b341)])) rfl (by rw [hml]; rfl) (lenOf pd_24 rfl) rfl (W := 0) (by show 2 * 0 + _ ≤ _; exact Nat.le_of_eq rfl) (hb hby d6_40) (by decide) (by decide) (by decide) (by decide)
  have N397 := Fr.app N391 N397q
  refine own_by st397 ?_
  have Z397 : n0 ≤ T397.heap.size := Nat.le_trans Z391 Kb6.1
  have kz398 : _ ≤ T397.heap.size := Nat.le_trans kz392 Kb6.1
  have K397c := K391c.trans Kb6 (allS (Or.inr sz_b341) (allS (Or.inr sq5) all0))
  have sq6 : h0.size ≤ q6 := Nat.le_trans (Nat.le_of_eq hn0.symm) gq6
  have ng6 : gp ≠ q6 := Nat.ne_of_lt (Nat.lt_of_lt_of_le Eg.lt sq6)
  obtain ⟨x6, ex6⟩ : ∃ z, z = x5 ++ [(Int32.ofNat (48 + na))] := ⟨_, rfl⟩
  have hx6 : x6.length = 60 := by rw [ex6, List.length_append, hx5]; rfl
  rw [show own_cpn 74 (x5.length + 1) = 74 from by rw [hx5]; rfl, ← ex6] at Ab6
  rw [← ex6] at Nb6
  obtain ⟨a399, T399, h399, k399w, b399, k399, X399, e399, E399, S399, kz399, hZ, hown, Ea399, Ca399, Va399, Ab399, la399, lb399, I399, Lt399, st399⟩ := ldcSVL X397 hx hZ hown (hw _ (List.mem_of_getElem? (i := 177) rfl)) (own_sa hw) rfl S382 kz398 (by rw [es, ← hn0]; exact N397) (by rw [es]; exact hkz) I382 (by decide +kernel) hc160 hcw (vs := own_l160.map Value.int) (z := Int32.ofNat own_l160.length) ⟨by decide +kernel, by decide +kernel⟩ (by decide +kernel) (by decide +kernel) (g := (mkF m 43 #[.val (.ref gp), .val (.long lv), .second] [(.ref b341)])) rfl (hb hby d6_43) (n := 40) (by decide +kernel) (by decide) (by decide) (by decide)
  have K400 := K397c.ext E399
  have Z399 : n0 ≤ h399.size := Nat.le_trans Z397 E399.1
  refine own_by st399 ?_
  have f401 := (Eb6.ext E399)
  have f402 := (Cb6.ext E399)
  have f403 := (Vb6.ext E399)
  have f404 := (Nb6.ext E399)
  have f405 := (Ab6.ext E399)
  have hk406 : own_K Z h399 := own_KW hkz K400 all0
  have f407 := ((f396.keep Kb6).ext E399)
  obtain ⟨_, T408, L408, X408, ⟨rfl, N408q, q7, k7, Kb7, gq7, Eb7, Cb7, Vb7, Nb7, Ab7⟩, st408⟩ := own_callV X399 hx hZ hown (y := (⟨"java/lang/StringBuilder", "append", "(Ljava/lang/String;)Ljava/lang/StringBuilder;"⟩ : MethodName)) (C := "java/lang/StringBuilder") (hw _ (List.mem_of_getElem? (i := 83) rfl)) (hw _ (List.mem_of_getElem? (i := 84) rfl)) (hw _ (List.mem_of_getElem? (i := 86) rfl)) (hw _ (List.mem_of_getElem? (i := 85) rfl)) (hw _ (List.mem_of_getElem? (i := 66) rfl)) (hw _ (List.mem_of_getElem? (i := 87) rfl)) (by decide) (a := b341) f401 (argsL := [(.ref a399)]) (rest := []) e399 (rm9 l Z a0 hw [] b341 q6 k6 74 x6 a399 b399 k399 own_l160 w1 d1 d2 kd1 kd2 fm h399 n0 Z399 hz hk406 TB og_b341 gq6 f401 f402 f403 f404 f405 (by rw [hx6]; decide) (by decide) Ea399 Ca399 Va399 Ab399 (by rw [hx6]; decide) (by decide)) (g := (mkF m 45 #[.val (.ref gp), .val (.long lv), .second] [(.ref a399), (.ref b341)])) rfl (by rw [hml]; rfl) (lenOf pd_23 rfl) rfl (W := 0) (by show 2 * 0 + _ ≤ _; exact Nat.le_of_eq rfl) (hb hby d6_45) (by decide) (by decide) (by decide) (by decide)
  have N408 := Fr.app N397 N408q
  refine own_by st408 ?_
  have Z408 : n0 ≤ T408.heap.size := Nat.le_trans Z399 Kb7.1
  have kz409 : _ ≤ T408.heap.size := Nat.le_trans kz399 Kb7.1
  have K408c := K400.trans Kb7 (allS (Or.inr sz_b341) (allS (Or.inr sq6) all0))
  have sq7 : h0.size ≤ q7 := Nat.le_trans (Nat.le_of_eq hn0.symm) gq7
  have ng7 : gp ≠ q7 := Nat.ne_of_lt (Nat.lt_of_lt_of_le Eg.lt sq7)
  obtain ⟨x7, ex7⟩ : ∃ z, z = x6 ++ own_l160 := ⟨_, rfl⟩
  have hx7 : x7.length = 70 := by rw [ex7, List.length_append, hx6]; rfl
  rw [show own_cpn 74 (x6.length + own_l160.length) = 74 from by rw [hx6]; rfl, ← ex7] at Ab7
  rw [← ex7] at Nb7
  refine own_by (fun _ k => XS.aloadN X408.here hx rfl (hb hby d6_48) rfl rfl k) ?_
  have f411 := (((((((((((((Fnd.ext E341).keep Kb0 (ninS ne_gp_b341 nin0)).ext E348).keep Kb1 (ninS ne_gp_b341 (ninS ne_gp_q0 nin0))).keep Kb2 (ninS ne_gp_b341 (ninS ng1 nin0))).ext E365).keep Kb3 (ninS ne_gp_b341 (ninS ng2 nin0))).keep Kb4 (ninS ne_gp_b341 (ninS ng3 nin0))).ext E382).keep Kb5 (ninS ne_gp_b341 (ninS ng4 nin0))).keep Kb6 (ninS ne_gp_b341 (ninS ng5 nin0))).ext E399).keep Kb7 (ninS ne_gp_b341 (ninS ng6 nin0)))
  obtain ⟨T410, X410, e410, st410⟩ := getF X408 hx hZ hown (host := "") (Or.inl (hw _ (List.mem_of_getElem? (i := 57) rfl))) Via.refl rfl f411 (g := (mkF m 49 #[.val (.ref gp), .val (.long lv), .second] [(.ref gp), (.ref b341)])) rfl rfl (hb hby d6_49)
  refine own_by st410 ?_
  have hk412 : own_K Z T408.heap := own_KW hkz K408c all0
  have f413 := (f407.keep Kb7)
  obtain ⟨_, T414, L414, X414, ⟨rfl, N414q, q8, k8, Kb8, gq8, Eb8, Cb8, Vb8, Nb8, Ab8⟩, st414⟩ := own_callV X410 hx hZ hown (y := (⟨"java/lang/StringBuilder", "append", "(I)Ljava/lang/StringBuilder;"⟩ : MethodName)) (C := "java/lang/StringBuilder") (hw _ (List.mem_of_getElem? (i := 153) rfl)) (hw _ (List.mem_of_getElem? (i := 154) rfl)) (hw _ (List.mem_of_getElem? (i := 156) rfl)) (hw _ (List.mem_of_getElem? (i := 155) rfl)) (hw _ (List.mem_of_getElem? (i := 66) rfl)) (hw _ (List.mem_of_getElem? (i := 157) rfl)) (by decide) (a := b341) Eb7 (argsL := [(.int (Int32.ofNat nd))]) (rest := []) e410 (rm21 l Z a0 hw [] b341 q7 k7 74 x7 nd w1 d1 d2 kd1 kd2 fm T408.heap n0 Z408 hz hk412 TB og_b341 gq7 Eb7 Cb7 Vb7 Nb7 Ab7 (by rw [hx7]; decide) (by decide) hd.2 (by rw [hx7]; decide)) (g := (mkF m 52 #[.val (.ref gp), .val (.long lv), .second] [(.int (Int32.ofNat nd)), (.ref b341)])) rfl (by rw [hml]; rfl) (lenOf pd_24 rfl) rfl (W := 0) (by show 2 * 0 + _ ≤ _; exact Nat.le_of_eq rfl) (hb hby d6_52) (by decide) (by decide) (by decide) (by decide)
  have N414 := Fr.app N408 N414q
  refine own_by st414 ?_
  have Z414 : n0 ≤ T414.heap.size := Nat.le_trans Z408 Kb8.1
  have kz415 : _ ≤ T414.heap.size := Nat.le_trans kz409 Kb8.1
  have K414c := K408c.trans Kb8 (allS (Or.inr sz_b341) (allS (Or.inr sq7) all0))
  have sq8 : h0.size ≤ q8 := Nat.le_trans (Nat.le_of_eq hn0.symm) gq8
  have ng8 : gp ≠ q8 := Nat.ne_of_lt (Nat.lt_of_lt_of_le Eg.lt sq8)
  obtain ⟨x8, ex8⟩ : ∃ z, z = x7 ++ [(Int32.ofNat (48 + nd))] := ⟨_, rfl⟩
  have hx8 : x8.length = 71 := by rw [ex8, List.length_append, hx7]; rfl
  rw [show own_cpn 74 (x7.length + 1) = 74 from by rw [hx7]; rfl, ← ex8] at Ab8
  rw [← ex8] at Nb8
  obtain ⟨a416, T416, h416, k416w, b416, k416, X416, e416, E416, S416, kz416, hZ, hown, Ea416, Ca416, Va416, Ab416, la416, lb416, I416, Lt416, st416⟩ := ldcSVL X414 hx hZ hown (hw _ (List.mem_of_getElem? (i := 178) rfl)) (own_sa hw) rfl S399 kz415 (by rw [es, ← hn0]; exact N414) (by rw [es]; exact hkz) I399 (by decide +kernel) hc162 hcw (vs := own_l162.map Value.int) (z := Int32.ofNat own_l162.length) ⟨by decide +kernel, by decide +kernel⟩ (by decide +kernel) (by decide +kernel) (g := (mkF m 55 #[.val (.ref gp), .val (.long lv), .second] [(.ref b341)])) rfl (hb hby d6_55) (n := 32) (by decide +kernel) (by decide) (by decide) (by decide)
  have K417 := K414c.ext E416
  have Z416 : n0 ≤ h416.size := Nat.le_trans Z414 E416.1
  refine own_by st416 ?_
  have f418 := (Eb8.ext E416)
  have f419 := (Cb8.ext E416)
  have f420 := (Vb8.ext E416)
  have f421 := (Nb8.ext E416)
  have f422 := (Ab8.ext E416)
  have hk423 : own_K Z h416 := own_KW hkz K417 all0
  have f424 := ((f413.keep Kb8).ext E416)
  obtain ⟨_, T425, L425, X425, ⟨rfl, N425q, q9, k9, Kb9, gq9, Eb9, Cb9, Vb9, Nb9, Ab9⟩, st425⟩ := own_callV X416 hx hZ hown (y := (⟨"java/lang/StringBuilder", "append", "(Ljava/lang/String;)Ljava/lang/StringBuilder;"⟩ : MethodName)) (C := "java/lang/StringBuilder") (hw _ (List.mem_of_getElem? (i := 83) rfl)) (hw _ (List.mem_of_getElem? (i := 84) rfl)) (hw _ (List.mem_of_getElem? (i := 86) rfl)) (hw _ (List.mem_of_getElem? (i := 85) rfl)) (hw _ (List.mem_of_getElem? (i := 66) rfl)) (hw _ (List.mem_of_getElem? (i := 87) rfl)) (by decide) (a := b341) f418 (argsL := [(.ref a416)]) (rest := []) e416 (rm9 l Z a0 hw [] b341 q8 k8 74 x8 a416 b416 k416 own_l162 w1 d1 d2 kd1 kd2 fm h416 n0 Z416 hz hk423 TB og_b341 gq8 f418 f419 f420 f421 f422 (by rw [hx8]; decide) (by decide) Ea416 Ca416 Va416 Ab416 (by rw [hx8]; decide) (by decide)) (g := (mkF m 57 #[.val (.ref gp), .val (.long lv), .second] [(.ref a416), (.ref b341)])) rfl (by rw [hml]; rfl) (lenOf pd_23 rfl) rfl (W := 0) (by show 2 * 0 + _ ≤ _; exact Nat.le_of_eq rfl) (hb hby d6_57) (by decide) (by decide) (by decide) (by decide)
  have N425 := Fr.app N414 N425q
  refine own_by st425 ?_
  have Z425 : n0 ≤ T425.heap.size := Nat.le_trans Z416 Kb9.1
  have kz426 : _ ≤ T425.heap.size := Nat.le_trans kz416 Kb9.1
  have K425c := K417.trans Kb9 (allS (Or.inr sz_b341) (allS (Or.inr sq8) all0))
  have sq9 : h0.size ≤ q9 := Nat.le_trans (Nat.le_of_eq hn0.symm) gq9
  have ng9 : gp ≠ q9 := Nat.ne_of_lt (Nat.lt_of_lt_of_le Eg.lt sq9)
  obtain ⟨x9, ex9⟩ : ∃ z, z = x8 ++ own_l162 := ⟨_, rfl⟩
  have hx9 : x9.length = 79 := by rw [ex9, List.length_append, hx8]; rfl
  rw [show own_cpn 74 (x8.length + own_l162.length) = 150 from by rw [hx8]; rfl, ← ex9] at Ab9
  rw [← ex9] at Nb9
  refine own_by (fun _ k => XS.lloadN X425.here hx rfl (hb hby d6_60) rfl k) ?_
  show own_Go p e below _ T425 (mkF m 61 #[.val (.ref gp), .val (.long lv), .second] [(.long lv), (.ref b341)])
  have hsg := own_sg1 lv
  have hk427 : own_K Z T425.heap := own_KW hkz K425c all0
  have f428 := (f424.keep Kb9)
  obtain ⟨_, T429, L429, X429, ⟨rfl, N429q, cn, hC, q10, k10, Kb10, gq10, Eb10, Cb10, Vb10, Nb10, Ab10⟩, st429⟩ := own_callV X425 hx hZ hown (y := (⟨"java/lang/StringBuilder", "append", "(J)Ljava/lang/StringBuilder;"⟩ : MethodName)) (C := "java/lang/StringBuilder") (hw _ (List.mem_of_getElem? (i := 179) rfl)) (hw _ (List.mem_of_getElem? (i := 180) rfl)) (hw _ (List.mem_of_getElem? (i := 182) rfl)) (hw _ (List.mem_of_getElem? (i := 181) rfl)) (hw _ (List.mem_of_getElem? (i := 66) rfl)) (hw _ (List.mem_of_getElem? (i := 183) rfl)) (by decide) (a := b341) Eb9 (argsL := [(.long lv)]) (rest := []) rfl (rm26 l Z a0 hw [] b341 q9 k9 150 x9 lv w1 d1 d2 kd1 kd2 fm T425.heap n0 Z425 hz hk427 TB og_b341 gq9 Eb9 Cb9 Vb9 Nb9 Ab9 (by rw [hx9]; decide) (by decide) (fun cn hC => by have h1 := hC.2.1; rw [hx9, own_cpn, if_pos (by omega)]; decide)) (g := (mkF m 61 #[.val (.ref gp), .val (.long lv), .second] [(.long lv), (.ref b341)])) rfl (by rw [hml]; rfl) (lenOf pd_25 rfl) rfl (W := 0) (by show 2 * 0 + _ ≤ _; exact Nat.le_of_eq rfl) (hb hby d6_61) (by decide) (by decide) (by decide) (by decide)
  have N429 := Fr.app N425 N429q
  refine own_by st429 ?_
  have Z429 : n0 ≤ T429.heap.size := Nat.le_trans Z425 Kb10.1
  have kz430 : _ ≤ T429.heap.size := Nat.le_trans kz426 Kb10.1
  have K429c := K425c.trans Kb10 (allS (Or.inr sz_b341) (allS (Or.inr sq9) all0))
  have hcn := hC.2.1
  obtain ⟨x10, ex10⟩ : ∃ z, z = x9 ++ own_txt lv cn := ⟨_, rfl⟩
  have hx10 : x10.length = 79 + (cn + own_sg lv) := by rw [ex10, List.length_append, hx9, own_txtl]
  rw [show own_cpn 150 (x9.length + (cn + own_sg lv)) = 150 from by rw [hx9, own_cpn, if_pos (by omega)], ← ex10] at Ab10
  rw [← ex10] at Nb10
  have hk431 : own_K Z T429.heap := own_KW hkz K429c all0
  have f432 := (f428.keep Kb10)
  obtain ⟨_, T433, L433, X433, ⟨st, b9, k9, rfl, N433q, Kt, sst, E9, C9, V9, A9⟩, st433⟩ := own_callV X429 hx hZ hown (y := (⟨"java/lang/StringBuilder", "toString", "()Ljava/lang/String;"⟩ : MethodName)) (C := "java/lang/StringBuilder") (hw _ (List.mem_of_getElem? (i := 201) rfl)) (hw _ (List.mem_of_getElem? (i := 202) rfl)) (hw _ (List.mem_of_getElem? (i := 204) rfl)) (hw _ (List.mem_of_getElem? (i := 203) rfl)) (hw _ (List.mem_of_getElem? (i := 66) rfl)) (hw _ (List.mem_of_getElem? (i := 205) rfl)) (by decide) (a := b341) Eb10 (argsL := []) (rest := []) rfl (rm30 l Z a0 hw [] b341 q10 k10 150 x10 w1 d1 d2 kd1 kd2 fm T429.heap n0 Z429 hz hk431 TB og_b341 gq10 Eb10 Cb10 Vb10 Nb10 Ab10 (by omega) (by decide) (by omega)) (g := (mkF m 64 #[.val (.ref gp), .val (.long lv), .second] [(.ref b341)])) rfl (by rw [hml]; rfl) (lenOf pd_26 rfl) rfl (W := 0) (by show 2 * 0 + _ ≤ _; exact Nat.le_of_eq rfl) (hb hby d6_64) (by decide) (by decide) (by decide) (by decide)
  have N433 := Fr.app N429 N433q
  refine own_by st433 ?_
  have ne_gp_st : gp ≠ st := Nat.ne_of_lt (Nat.lt_of_lt_of_le f432.lt sst)
  have ne_b341_st : b341 ≠ st := Nat.ne_of_lt (Nat.lt_of_lt_of_le Eb10.lt sst)
  have ne_q10_st : q10 ≠ st := Nat.ne_of_lt (Nat.lt_of_lt_of_le Ab10.lt sst)
  have og_st : n0 ≤ st := Nat.le_trans Z429 sst
  have sz_st : h0.size ≤ st := Nat.le_trans K429c.1 sst
  have Z433 : n0 ≤ T433.heap.size := Nat.le_trans Z429 Kt.1
  have kz434 : _ ≤ T433.heap.size := Nat.le_trans kz430 Kt.1
  have K433c := K429c.trans Kt all0
  have hres : x10 = own_res nv nf na nd lv cn := by rw [ex10, ex9, ex8, ex7, ex6, ex5, ex4, ex3, ex2, ex1]; rfl
  rw [hres] at A9
  exact own_retAW X433 hx hlk S416 kz434 rfl hret rfl rfl (hb hby d6_67) ⟨cn, st, b9, k9, rfl, N433, hC, K433c, sz_st, E9, C9, V9, A9, own_ibX X433 I416⟩ (by decide) (by decide)
theorem own_min4 {n : Nat} (h : n ≤ 1000) : own_imin (4 : Int32) (Int32.ofNat n) = Int32.ofNat (min 4 n) := by
  by_cases hn : n ≤ 4
  · rw [show min 4 n = n by omega]; exact own_minr (a := 4) (by omega) (by omega) hn
  · rw [show min 4 n = 4 by omega]; exact own_minl (a := 4) (by omega) (by omega) (by omega)
theorem own_i2l {n : Nat} (h : n ≤ 1000) : (Int32.ofNat n).toInt64.toInt = (n : Int) := by rw [Int32.toInt_toInt64, own_ti (by omega)]
theorem own_9 {i : Nat} (h : i ≤ 4) : (9 : Int) ^ i ≤ 6561 ∧ 1 ≤ (9 : Int) ^ i := by
  have q : ∀ n : Fin 5, (9 : Int) ^ n.val ≤ 6561 ∧ 1 ≤ (9 : Int) ^ n.val := by decide +kernel
  exact q ⟨i, by omega⟩
theorem own_mulb {a b A B : Int} (ha : 0 ≤ a) (hb : 0 ≤ b) (hA : a ≤ A) (hB : b ≤ B) : 0 ≤ a * b ∧ a * b ≤ A * B := ⟨Int.mul_nonneg ha hb, Int.le_trans (Int.mul_le_mul_of_nonneg_right hA hb) (Int.mul_le_mul_of_nonneg_left hB (Int.le_trans ha hA))⟩
theorem own_tup {x : Int64} {i nd : Nat} (h : 0 ≤ x.toInt ∧ x.toInt ≤ 9 ^ i) (hi : i ≤ 3) (hd : nd ≤ 9) : 0 ≤ (x * (Int32.ofNat nd).toInt64).toInt ∧ (x * (Int32.ofNat nd).toInt64).toInt ≤ 9 ^ (i + 1) := by
  have e := own_i2l (show nd ≤ 1000 by omega)
  have b := own_9 (show i + 1 ≤ 4 by omega)
  have q := own_mulb h.1 (show (0 : Int) ≤ nd by omega) h.2 (show (nd : Int) ≤ 9 by omega)
  have p9 : (9 : Int) ^ (i + 1) = 9 ^ i * 9 := Int.pow_succ ..
  rw [← p9] at q
  rw [own_sm64 _ _ (c_lmul _ _) (rng64 _) (by rw [e]; omega), e]
  exact q
/-- what the constructor reckons: at most 60,000 -/
theorem own_lg {x : Int64} {nf nv nd : Nat} (h : 0 ≤ x.toInt ∧ x.toInt ≤ 6561) (hf : nf ≤ 9) (hv : nv ≤ 9) (hd : nd ≤ 9) :
    0 ≤ ((Int32.ofNat nf).toInt64 * x + (Int32.ofNat nv).toInt64 * (Int32.ofNat nd).toInt64).toInt ∧ ((Int32.ofNat nf).toInt64 * x + (Int32.ofNat nv).toInt64 * (Int32.ofNat nd).toInt64).toInt ≤ 60000 := by
  have e1 := own_i2l (show nf ≤ 1000 by omega)
  have e2 := own_i2l (show nv ≤ 1000 by omega)
  have e3 := own_i2l (show nd ≤ 1000 by omega)
  have q1 := own_mulb (show (0 : Int) ≤ nf by omega) h.1 (show (nf : Int) ≤ 9 by omega) h.2
  have q2 := own_mulb (show (0 : Int) ≤ nv by omega) (show (0 : Int) ≤ nd by omega) (show (nv : Int) ≤ 9 by omega) (show (nd : Int) ≤ 9 by omega)
  have a1 : ((Int32.ofNat nf).toInt64 * x).toInt = (nf : Int) * x.toInt := by rw [own_sm64 _ _ (c_lmul _ _) (rng64 _) (by rw [e1]; omega), e1]
  have a2 : ((Int32.ofNat nv).toInt64 * (Int32.ofNat nd).toInt64).toInt = (nv : Int) * nd := by rw [own_sm64 _ _ (c_lmul _ _) (rng64 _) (by rw [e2, e3]; omega), e2, e3]
  rw [own_sm64 _ _ (c_ladd _ _) (rng64 _) (by rw [a1, a2]; omega), a1, a2]
  omega
theorem own_lg2 {x : Int64} {na : Nat} (h : 0 ≤ x.toInt ∧ x.toInt ≤ 60000) (hn : na ≤ 9) : ¬ (1000000 : Int64) < x * (Int32.ofNat na).toInt64 := by
  have e1 := own_i2l (show na ≤ 1000 by omega)
  have q1 := own_mulb h.1 (show (0 : Int) ≤ na by omega) h.2 (show (na : Int) ≤ 9 by omega)
  rw [Int64.lt_iff_toInt_lt, own_sm64 _ _ (c_lmul _ _) (rng64 _) (by rw [e1]; omega), e1]
  show ¬ (1000000 : Int) < _
  omega
theorem own_lg1 {x : Int64} (h : x.toInt ≤ 1000000) : ¬ (1000000 : Int64) < x := by
  rw [Int64.lt_iff_toInt_lt]
  show ¬ (1000000 : Int) < _
  omega
theorem own_lm {x : Int64} (h : x.toInt ≤ 1000000) : own_lmin x (1000000 + 1) = x := if_neg (by
  rw [Int64.lt_iff_toInt_lt]
  show ¬ (1000001 : Int) < _
  omega)
theorem own_rg {x : Int32} {d : Int32} {k : Nat} (hd : d.toInt = (k : Int)) (hk : 0 < k) (hb : k ≤ 100) : ∃ n : Nat, n < k ∧ (x &&& 2147483647) % d = Int32.ofNat n := by
  have h := c_mask x 2147483647 31 (by decide) (by decide)
  have h0 : 0 ≤ (x &&& 2147483647).toInt := by rw [h]; omega
  have r := (c_irem (x &&& 2147483647) d k hd).1 h0
  have r1 := Int.emod_nonneg (x &&& 2147483647).toInt (show (k : Int) ≠ 0 by omega)
  have r2 := Int.emod_lt_of_pos (x &&& 2147483647).toInt (show (0 : Int) < k by omega)
  refine ⟨((x &&& 2147483647) % d).toInt.toNat, by omega, ?_⟩
  apply Int32.toInt_inj.mp
  rw [own_ti (by omega)]; omega
theorem own_rg9 (x : Int32) : ∃ n : Nat, (1 ≤ n ∧ n ≤ 9) ∧ (1 : Int32) + (x &&& 2147483647) % (9 : Int32) = Int32.ofNat n := by
  obtain ⟨n, h1, h2⟩ := own_rg (x := x) (d := 9) (k := 9) rfl (by omega) (by omega)
  exact ⟨1 + n, by omega, by rw [h2]; exact own_add (a := 1) (by omega) (by omega)⟩
theorem own_rg10 (x : Int32) : ∃ n : Nat, n ≤ 9 ∧ (x &&& 2147483647) % (10 : Int32) = Int32.ofNat n := by
  obtain ⟨n, h1, h2⟩ := own_rg (x := x) (d := 10) (k := 10) rfl (by omega) (by omega)
  exact ⟨n, by omega, h2⟩
/-! what the law finds in the text -/
theorem own_ascn {ys : List Int32} (h : own_asc ys) (i : Nat) : nar .char (ys.getD i 0) = ys.getD i 0 := by
  obtain ⟨n, h1, h2⟩ := h i
  rw [h2]; exact (own_c16 h1).2.2
theorem own_asc8 {ys : List Int32} (h : own_asc ys) (i : Nat) : (ys.getD i 0 &&& 255).toUInt32.toUInt16.toUInt32.toInt32 = ys.getD i 0 := by
  obtain ⟨n, h1, h2⟩ := h i
  rw [h2]; exact (own_c16 h1).2.1
theorem own_ascm {ys : List Int32} (h : ∀ x ∈ ys, ∃ n : Nat, n < 128 ∧ x = Int32.ofNat n) : own_asc ys := fun j => by
  rw [List.getD_eq_getElem?_getD]
  cases hq : ys[j]? with
  | none => exact ⟨0, by omega, rfl⟩
  | some x => exact h x (List.mem_of_getElem? hq)
theorem own_small {x : Int32} (h : ¬ x < 0 ∧ x < 128) : ∃ n : Nat, n < 128 ∧ x = Int32.ofNat n := by
  obtain ⟨h1, h2⟩ := h
  rw [Int32.lt_iff_toInt_lt] at h1 h2
  have e0 : (0 : Int32).toInt = 0 := rfl
  have e1 : (128 : Int32).toInt = 128 := rfl
  refine ⟨x.toInt.toNat, by omega, ?_⟩
  apply Int32.toInt_inj.mp
  rw [own_ti (by omega)]; omega
def own_pre (nv nf na nd : Nat) : List Int32 := (((own_lR.set 36 (Int32.ofNat (48 + nv))).set 48 (Int32.ofNat (48 + nf))).set 59 (Int32.ofNat (48 + na))).set 70 (Int32.ofNat (48 + nd))
theorem own_respre (nv nf na nd : Nat) (lv : Int64) (cn : Nat) : own_res nv nf na nd lv cn = own_pre nv nf na nd ++ own_txt lv cn := by
  show _ ++ own_txt lv cn = _
  congr 1
theorem own_prel (nv nf na nd : Nat) : (own_pre nv nf na nd).length = 79 := rfl
theorem own_resl (nv nf na nd : Nat) (lv : Int64) (cn : Nat) : (own_res nv nf na nd lv cn).length = 79 + (cn + own_sg lv) := by rw [own_respre, List.length_append, own_prel, own_txtl]
theorem own_resg {nv nf na nd : Nat} {lv : Int64} {cn i : Nat} (h : i < 79) : (own_res nv nf na nd lv cn).getD i 0 = (own_pre nv nf na nd).getD i 0 := by
  rw [own_respre, List.getD_eq_getElem?_getD, List.getD_eq_getElem?_getD, List.getElem?_append_left (by rw [own_prel]; exact h)]
theorem own_hP (nv nf na nd : Nat) (lv : Int64) (cn : Nat) : ∀ i, i < 79 → own_lR.getD i 0 = 35 ∨ (own_res nv nf na nd lv cn).getD i 0 = own_lR.getD i 0 := by
  intro i hi
  by_cases h : i = 36 ∨ i = 48 ∨ i = 59 ∨ i = 70
  · left; rcases h with rfl | rfl | rfl | rfl <;> decide
  · right
    rw [own_resg hi, own_pre, List.getD_eq_getElem?_getD, List.getD_eq_getElem?_getD, List.getElem?_set_ne (by omega), List.getElem?_set_ne (by omega), List.getElem?_set_ne (by omega), List.getElem?_set_ne (by omega)]
theorem own_txtasc (lv : Int64) (cn : Nat) : ∀ x ∈ own_txt lv cn, ∃ n : Nat, n < 128 ∧ x = Int32.ofNat n := by
  have hd : ∀ x ∈ own_num (own_abs lv) cn, ∃ n : Nat, n < 128 ∧ x = Int32.ofNat n := fun x hx => by
    unfold own_num at hx
    obtain ⟨j, -, rfl⟩ := List.mem_map.mp hx
    exact ⟨_, by have := Nat.mod_lt (own_abs lv / 10 ^ (cn - 1 - j)) (show 10 > 0 by omega); omega, rfl⟩
  intro x hx
  unfold own_txt at hx
  split at hx
  · rcases List.mem_cons.mp hx with rfl | hx
    · exact ⟨45, by omega, rfl⟩
    · exact hd x hx
  · exact hd x hx
theorem own_resasc {nv nf na nd : Nat} (hv : nv ≤ 9) (hf : nf ≤ 9) (ha : na ≤ 9) (hd : nd ≤ 9) (lv : Int64) (cn : Nat) : own_asc (own_res nv nf na nd lv cn) := own_ascm fun x hx => by
  rw [own_respre] at hx
  rcases List.mem_append.mp hx with hx | hx
  · unfold own_pre at hx
    rcases List.mem_or_eq_of_mem_set hx with hx | rfl
    · rcases List.mem_or_eq_of_mem_set hx with hx | rfl
      · rcases List.mem_or_eq_of_mem_set hx with hx | rfl
        · rcases List.mem_or_eq_of_mem_set hx with hx | rfl
          · exact own_small ((by decide +kernel : ∀ x ∈ own_lR, ¬ x < 0 ∧ x < 128) x hx)
          · exact ⟨48 + nv, by omega, rfl⟩
        · exact ⟨48 + nf, by omega, rfl⟩
      · exact ⟨48 + na, by omega, rfl⟩
    · exact ⟨48 + nd, by omega, rfl⟩
  · exact own_txtasc lv cn x hx
theorem own_lRasc : own_asc own_lR := own_ascm fun x hx => own_small ((by decide +kernel : ∀ x ∈ own_lR, ¬ x < 0 ∧ x < 128) x hx)
theorem own_resd {nv nf na nd : Nat} {lv : Int64} {cn j : Nat} (hj : j < cn) : (own_res nv nf na nd lv cn).getD ((own_res nv nf na nd lv cn).length - 1 - j) 0 = own_dig (own_abs lv) j := by
  rw [own_resl, own_respre, List.getD_eq_getElem?_getD, List.getElem?_append_right (by rw [own_prel]; omega), own_prel]
  unfold own_txt own_sg
  split
  · rw [show 79 + (cn + 1) - 1 - j - 79 = (cn - 1 - j) + 1 by omega, List.getElem?_cons_succ, own_numg, if_pos (by omega), show cn - 1 - (cn - 1 - j) = j by omega]; rfl
  · rw [show 79 + (cn + 0) - 1 - j - 79 = cn - 1 - j by omega, own_numg, if_pos (by omega), show cn - 1 - (cn - 1 - j) = j by omega]; rfl
theorem own_ress {nv nf na nd : Nat} {lv : Int64} {cn : Nat} (h : lv < 0) : (own_res nv nf na nd lv cn).getD 79 0 = 45 := by
  rw [own_respre, List.getD_eq_getElem?_getD, List.getElem?_append_right (by rw [own_prel]; omega), own_prel, own_txt, if_pos h]; rfl
theorem own_chd {n : Nat} (h : n ≤ 9) : ((48 : Int32) + Int32.ofNat n).toUInt32.toUInt16.toUInt32.toInt32 = Int32.ofNat (48 + n) := by
  rw [show (48 : Int32) + Int32.ofNat n = Int32.ofNat (48 + n) from own_add (a := 48) (by omega) (by omega)]; exact (own_c16 (by omega)).1
theorem own_digi (nn k : Nat) : (own_dig nn k).toUInt32.toUInt16.toUInt32.toInt32 = own_dig nn k := (own_c16 (by have := Nat.mod_lt (nn / 10 ^ k) (show 10 > 0 by omega); omega)).1
theorem own_nm {x : Int64} {N c : Nat} (h : x.toInt = -(N : Int)) (hC : own_C N c) (hc : c < 19) : x / own_ps.getD c 0 = 0 := by
  apply Int64.toInt_inj.mp
  rw [own_ldp h hc, Nat.div_eq_of_lt hC.2.2.1]; rfl
theorem own_nz {x : Int64} {N c : Nat} (h : x.toInt = -(N : Int)) (hC : own_C N c) (hc : c ≠ 1) : ¬ x / own_ps.getD (c - 1) 0 = 0 := fun q => by
  obtain ⟨h1, h2, h3, h4⟩ := hC
  have e := own_ldp h (show c - 1 < 19 by omega)
  rw [q] at e
  have h5 : 10 ^ (c - 1) ≤ N := h4.resolve_left hc
  have h6 : 1 ≤ N / 10 ^ (c - 1) := (Nat.one_le_div_iff (Nat.pow_pos (by omega))).mpr h5
  have e0 : (0 : Int64).toInt = 0 := rfl
  rw [e0] at e
  generalize N / 10 ^ (c - 1) = M at e h6
  omega
def Q_rm45n (Z : State) (i nw : Nat) (h0 : Heap) (n0 : Nat) (v : Option Value) (h : Heap) (L : List Loc) : Prop := v = some (.int (Int32.ofNat i)) ∧ Fr n0 L ∧ h = h0
theorem pn_rm45n : plainFor (⟨"jdk/internal/util/Preconditions", "checkIndex", "(IILjava/util/function/BiFunction;)I"⟩ : MethodName) = true := by first | exact plainFor_of_name (by first | (simp [plainName, overriddenIn, x]; done) | decide +kernel) | decide +kernel
theorem d45_0 : decode jdk_41_method_11_code 0 = .ok (.iload_n 0, 1) := by decide +kernel
theorem d45_1 : decode jdk_41_method_11_code 1 = .ok (.ifCond .lt 8, 3) := by decide +kernel
theorem d45_4 : decode jdk_41_method_11_code 4 = .ok (.iload_n 0, 1) := by decide +kernel
theorem d45_5 : decode jdk_41_method_11_code 5 = .ok (.iload_n 1, 1) := by decide +kernel
theorem d45_6 : decode jdk_41_method_11_code 6 = .ok (.if_icmp .lt 10, 3) := by decide +kernel
theorem d45_16 : decode jdk_41_method_11_code 16 = .ok (.iload_n 0, 1) := by decide +kernel
theorem d45_17 : decode jdk_41_method_11_code 17 = .ok (.ireturn, 1) := by decide +kernel
set_option maxRecDepth 65536 in
set_option maxHeartbeats 40000000 in
theorem rm45n (l : Launch) (Z : State) (a0 : Array Value) (hw : ∀ d ∈ tables_1, d.before a0 Z = true) (ws : List Jvm.Cond) (i nw : Nat) (h0 : Heap) (n0 : Nat) (Z0 : n0 ≤ h0.size) (hi : i < nw) (hn : nw ≤ 10000) :
    own_Met l Z (⟨"jdk/internal/util/Preconditions", "checkIndex", "(IILjava/util/function/BiFunction;)I"⟩ : MethodName) jdk_41_method_11_code 3 (some .int) ws ({ frames := 0, cells := 0, slots := 0, locals := 0 } : Room) #[(.int (Int32.ofNat i)), (.int (Int32.ofNat nw)), .null] h0 (Q_rm45n Z i nw h0 n0) := by
  refine own_enter (g0 := fun m => (mkF m 0 #[.val (.int (Int32.ofNat i)), .val (.int (Int32.ofNat nw)), .val .null] [])) pn_rm45n (fun m => by first | (simp [entryFrame, mkF, argsToLocals, Value.category, maxLocals]; done) | rfl) ?_
  intro p e s m below meth c s₁ hx hby hml hown hnm hret hlk hZ X0 e0
  have hml : c.maxLocals = 3 := hml
  have hown : s.vm.findClass "jdk/internal/util/Preconditions" = some m.cls := hown
  have N0 := Fr.nil n0
  refine own_by (fun _ k => XS.iloadN X0.here hx rfl (hb hby d45_0) rfl k) ?_
  refine own_by (fun _ k => XS.ifNo X0.here hx rfl (hb hby d45_1) rfl ((if0 _ _).trans (flt (own_nn (by omega) : ¬ ((Int32.ofNat i) < (0 : Int32)))).1) k) ?_
  refine own_by (fun _ k => XS.iloadN X0.here hx rfl (hb hby d45_4) rfl k) ?_
  refine own_by (fun _ k => XS.iloadN X0.here hx rfl (hb hby d45_5) rfl k) ?_
  refine own_by (fun _ k => XS.icmpYes X0.here hx rfl (pc0 := 6) (pc' := 16) rfl (hb hby d45_6) rfl (tlt ((own_lt (by omega) (by omega)).mpr hi : (Int32.ofNat i) < (Int32.ofNat nw))).1 (by decide) (by decide) k) ?_
  refine own_by (fun _ k => XS.iloadN X0.here hx rfl (hb hby d45_16) rfl k) ?_
  exact own_retI X0 hx hlk hret  (hb hby d45_17) (by first | exact ⟨rfl, N0, rfl⟩ | (rw [e0]; exact ⟨rfl, N0, rfl⟩)) (by decide) (by decide)
def Q_rm45r (Z : State) (i nw : Nat) (fa : Addr) (h0 : Heap) (n0 : Nat) (v : Option Value) (h : Heap) (L : List Loc) : Prop := v = some (.int (Int32.ofNat i)) ∧ Fr n0 L ∧ h = h0
theorem pn_rm45r : plainFor (⟨"jdk/internal/util/Preconditions", "checkIndex", "(IILjava/util/function/BiFunction;)I"⟩ : MethodName) = true := by first | exact plainFor_of_name (by first | (simp [plainName, overriddenIn, x]; done) | decide +kernel) | decide +kernel
set_option maxRecDepth 65536 in
set_option maxHeartbeats 40000000 in
theorem rm45r (l : Launch) (Z : State) (a0 : Array Value) (hw : ∀ d ∈ tables_1, d.before a0 Z = true) (ws : List Jvm.Cond) (i nw : Nat) (fa : Addr) (h0 : Heap) (n0 : Nat) (Z0 : n0 ≤ h0.size) (hi : i < nw) (hn : nw ≤ 10000) :
    own_Met l Z (⟨"jdk/internal/util/Preconditions", "checkIndex", "(IILjava/util/function/BiFunction;)I"⟩ : MethodName) jdk_41_method_11_code 3 (some .int) ws ({ frames := 0, cells := 0, slots := 0, locals := 0 } : Room) #[(.int (Int32.ofNat i)), (.int (Int32.ofNat nw)), (.ref fa)] h0 (Q_rm45r Z i nw fa h0 n0) := by
  refine own_enter (g0 := fun m => (mkF m 0 #[.val (.int (Int32.ofNat i)), .val (.int (Int32.ofNat nw)), .val (.ref fa)] [])) pn_rm45r (fun m => by first | (simp [entryFrame, mkF, argsToLocals, Value.category, maxLocals]; done) | rfl) ?_
  intro p e s m below meth c s₁ hx hby hml hown hnm hret hlk hZ X0 e0
  have hml : c.maxLocals = 3 := hml
  have hown : s.vm.findClass "jdk/internal/util/Preconditions" = some m.cls := hown
  have N0 := Fr.nil n0
  refine own_by (fun _ k => XS.iloadN X0.here hx rfl (hb hby d45_0) rfl k) ?_
  refine own_by (fun _ k => XS.ifNo X0.here hx rfl (hb hby d45_1) rfl ((if0 _ _).trans (flt (own_nn (by omega) : ¬ ((Int32.ofNat i) < (0 : Int32)))).1) k) ?_
  refine own_by (fun _ k => XS.iloadN X0.here hx rfl (hb hby d45_4) rfl k) ?_
  refine own_by (fun _ k => XS.iloadN X0.here hx rfl (hb hby d45_5) rfl k) ?_
  refine own_by (fun _ k => XS.icmpYes X0.here hx rfl (pc0 := 6) (pc' := 16) rfl (hb hby d45_6) rfl (tlt ((own_lt (by omega) (by omega)).mpr hi : (Int32.ofNat i) < (Int32.ofNat nw))).1 (by decide) (by decide) k) ?_
  refine own_by (fun _ k => XS.iloadN X0.here hx rfl (hb hby d45_16) rfl k) ?_
  exact own_retI X0 hx hlk hret  (hb hby d45_17) (by first | exact ⟨rfl, N0, rfl⟩ | (rw [e0]; exact ⟨rfl, N0, rfl⟩)) (by decide) (by decide)
def Q_rm44 (Z : State) (i nw : Nat) (w1 : Int32) (d1 d2 : Addr) (kd1 kd2 : ClassId) (fm : Value) (h0 : Heap) (n0 : Nat) (v : Option Value) (h : Heap) (L : List Loc) : Prop := v = none ∧ Fr n0 L ∧ h = h0
theorem pn_rm44 : plainFor (⟨"java/lang/String", "checkIndex", "(II)V"⟩ : MethodName) = true := by first | exact plainFor_of_name (by first | (simp [plainName, overriddenIn, x]; done) | decide +kernel) | decide +kernel
theorem d44_0 : decode jdk_42_method_155_code 0 = .ok (.iload_n 0, 1) := by decide +kernel
theorem d44_1 : decode jdk_42_method_155_code 1 = .ok (.iload_n 1, 1) := by decide +kernel
theorem d44_2 : decode jdk_42_method_155_code 2 = .ok (.getstatic 1053, 3) := by decide +kernel
theorem pd_27 : parseMethodDescriptor "(IILjava/util/function/BiFunction;)I" = some ⟨[.int, .int, (.object "java/util/function/BiFunction")], some .int⟩ := by decide +kernel
theorem d44_5 : decode jdk_42_method_155_code 5 = .ok (.invokestatic 1059, 3) := by decide +kernel
theorem d44_8 : decode jdk_42_method_155_code 8 = .ok (.pop, 1) := by decide +kernel
theorem d44_9 : decode jdk_42_method_155_code 9 = .ok (.return_, 1) := by decide +kernel
set_option maxRecDepth 65536 in
set_option maxHeartbeats 40000000 in
theorem rm44 (l : Launch) (Z : State) (a0 : Array Value) (hw : ∀ d ∈ tables_1, d.before a0 Z = true) (ws : List Jvm.Cond) (i nw : Nat) (w1 : Int32) (d1 d2 : Addr) (kd1 kd2 : ClassId) (fm : Value) (h0 : Heap) (n0 : Nat) (Z0 : n0 ≤ h0.size) (hz : Z.heap.size ≤ n0) (hkz : own_K Z h0) (TB : own_Tb Z w1 d1 d2 kd1 kd2 fm) (hi : i < nw) (hn : nw ≤ 10000) :
    own_Met l Z (⟨"java/lang/String", "checkIndex", "(II)V"⟩ : MethodName) jdk_42_method_155_code 2 none ws ({ frames := 1, cells := 0, slots := 0, locals := 14 } : Room) #[(.int (Int32.ofNat i)), (.int (Int32.ofNat nw))] h0 (Q_rm44 Z i nw w1 d1 d2 kd1 kd2 fm h0 n0) := by
  refine own_enter (g0 := fun m => (mkF m 0 #[.val (.int (Int32.ofNat i)), .val (.int (Int32.ofNat nw))] [])) pn_rm44 (fun m => by first | (simp [entryFrame, mkF, argsToLocals, Value.category, maxLocals]; done) | rfl) ?_
  intro p e s m below meth c s₁ hx hby hml hown hnm hret hlk hZ X0 e0
  have hml : c.maxLocals = 2 := hml
  have hown : s.vm.findClass "java/lang/String" = some m.cls := hown
  have N0 := Fr.nil n0
  refine own_by (fun _ k => XS.iloadN X0.here hx rfl (hb hby d44_0) rfl k) ?_
  refine own_by (fun _ k => XS.iloadN X0.here hx rfl (hb hby d44_1) rfl k) ?_
  have SF := (own_staZ TB.2.2.2.2.2.2.1 hkz)
  rcases ref_cases TB.2.2.2.2.2.2.2 with hfm | ⟨fa, hfm⟩
  · rw [hfm] at SF
    obtain ⟨T435, X435, e435, st435⟩ := getS2 X0 hx hZ hown (host := "") (Or.inl (hw _ (List.mem_of_getElem? (i := 264) rfl))) Via.refl e0 SF (g := (mkF m 2 #[.val (.int (Int32.ofNat i)), .val (.int (Int32.ofNat nw))] [(.int (Int32.ofNat nw)), (.int (Int32.ofNat i))])) rfl (hb hby d44_2)
    refine own_by st435 ?_
    obtain ⟨_, T436, L436, X436, ⟨rfl, N436q, e436⟩, st436⟩ := own_callS X435 hx hZ hown (y := (⟨"jdk/internal/util/Preconditions", "checkIndex", "(IILjava/util/function/BiFunction;)I"⟩ : MethodName)) (hw _ (List.mem_of_getElem? (i := 266) rfl)) (hw _ (List.mem_of_getElem? (i := 267) rfl)) (hw _ (List.mem_of_getElem? (i := 265) rfl)) (hw _ (List.mem_of_getElem? (i := 268) rfl)) (by decide) (argsL := [(.int (Int32.ofNat i)), (.int (Int32.ofNat nw)), .null]) (rest := []) e435 (rm45n l Z a0 hw [] i nw h0 n0 Z0 hi hn) (g := (mkF m 5 #[.val (.int (Int32.ofNat i)), .val (.int (Int32.ofNat nw))] [.null, (.int (Int32.ofNat nw)), (.int (Int32.ofNat i))])) rfl (by rw [hml]; rfl) (lenOf pd_27 rfl) rfl (W := 0) (by show 2 * 0 + _ ≤ _; exact Nat.le_of_eq rfl) (hb hby d44_5) (by decide) (by decide) (by decide) (by decide)
    have N436 := Fr.app N0 N436q
    refine own_by st436 ?_
    refine own_by (fun _ k => XS.pop X436.here hx rfl (hb hby d44_8) rfl rfl k) ?_
    exact own_ret0 X436 hx hlk hret (hb hby d44_9) (by first | exact ⟨rfl, N436, rfl⟩ | (rw [e436]; exact ⟨rfl, N436, rfl⟩)) (by decide) (by decide)
  · rw [hfm] at SF
    obtain ⟨T437, X437, e437, st437⟩ := getS2 X0 hx hZ hown (host := "") (Or.inl (hw _ (List.mem_of_getElem? (i := 264) rfl))) Via.refl e0 SF (g := (mkF m 2 #[.val (.int (Int32.ofNat i)), .val (.int (Int32.ofNat nw))] [(.int (Int32.ofNat nw)), (.int (Int32.ofNat i))])) rfl (hb hby d44_2)
    refine own_by st437 ?_
    obtain ⟨_, T438, L438, X438, ⟨rfl, N438q, e438⟩, st438⟩ := own_callS X437 hx hZ hown (y := (⟨"jdk/internal/util/Preconditions", "checkIndex", "(IILjava/util/function/BiFunction;)I"⟩ : MethodName)) (hw _ (List.mem_of_getElem? (i := 266) rfl)) (hw _ (List.mem_of_getElem? (i := 267) rfl)) (hw _ (List.mem_of_getElem? (i := 265) rfl)) (hw _ (List.mem_of_getElem? (i := 268) rfl)) (by decide) (argsL := [(.int (Int32.ofNat i)), (.int (Int32.ofNat nw)), (.ref fa)]) (rest := []) e437 (rm45r l Z a0 hw [] i nw fa h0 n0 Z0 hi hn) (g := (mkF m 5 #[.val (.int (Int32.ofNat i)), .val (.int (Int32.ofNat nw))] [(.ref fa), (.int (Int32.ofNat nw)), (.int (Int32.ofNat i))])) rfl (by rw [hml]; rfl) (lenOf pd_27 rfl) rfl (W := 0) (by show 2 * 0 + _ ≤ _; exact Nat.le_of_eq rfl) (hb hby d44_5) (by decide) (by decide) (by decide) (by decide)
    have N438 := Fr.app N0 N438q
    refine own_by st438 ?_
    refine own_by (fun _ k => XS.pop X438.here hx rfl (hb hby d44_8) rfl rfl k) ?_
    exact own_ret0 X438 hx hlk hret (hb hby d44_9) (by first | exact ⟨rfl, N438, rfl⟩ | (rw [e438]; exact ⟨rfl, N438, rfl⟩)) (by decide) (by decide)
def Q_rm43 (Z : State) (tx : Addr) (kx : ClassId) (ys : List Int32) (i : Nat) (w1 : Int32) (d1 d2 : Addr) (kd1 kd2 : ClassId) (fm : Value) (h0 : Heap) (n0 : Nat) (v : Option Value) (h : Heap) (L : List Loc) : Prop := v = some (.int (ys.getD i 0)) ∧ Fr n0 L ∧ h = h0
theorem pn_rm43 : plainFor (⟨"java/lang/StringLatin1", "charAt", "([BI)C"⟩ : MethodName) = true := by first | exact plainFor_of_name (by first | (simp [plainName, overriddenIn, x]; done) | decide +kernel) | decide +kernel
theorem d43_0 : decode jdk_43_method_2_code 0 = .ok (.iload_n 1, 1) := by decide +kernel
theorem d43_1 : decode jdk_43_method_2_code 1 = .ok (.aload_n 0, 1) := by decide +kernel
theorem d43_2 : decode jdk_43_method_2_code 2 = .ok (.arraylength, 1) := by decide +kernel
theorem d43_3 : decode jdk_43_method_2_code 3 = .ok (.invokestatic 9, 3) := by decide +kernel
theorem d43_6 : decode jdk_43_method_2_code 6 = .ok (.aload_n 0, 1) := by decide +kernel
theorem d43_7 : decode jdk_43_method_2_code 7 = .ok (.iload_n 1, 1) := by decide +kernel
theorem d43_8 : decode jdk_43_method_2_code 8 = .ok (.baload, 1) := by decide +kernel
theorem d43_9 : decode jdk_43_method_2_code 9 = .ok (.sipush 255, 3) := by decide +kernel
theorem d43_12 : decode jdk_43_method_2_code 12 = .ok (.iand, 1) := by decide +kernel
theorem d43_13 : decode jdk_43_method_2_code 13 = .ok (.i2c, 1) := by decide +kernel
theorem d43_14 : decode jdk_43_method_2_code 14 = .ok (.ireturn, 1) := by decide +kernel
set_option maxRecDepth 65536 in
set_option maxHeartbeats 40000000 in
theorem rm43 (l : Launch) (Z : State) (a0 : Array Value) (hw : ∀ d ∈ tables_1, d.before a0 Z = true) (ws : List Jvm.Cond) (tx : Addr) (kx : ClassId) (ys : List Int32) (i : Nat) (w1 : Int32) (d1 d2 : Addr) (kd1 kd2 : ClassId) (fm : Value) (h0 : Heap) (n0 : Nat) (Z0 : n0 ≤ h0.size) (hz : Z.heap.size ≤ n0) (hkz : own_K Z h0) (TB : own_Tb Z w1 d1 d2 kd1 kd2 fm) (Ax : Arv Z h0 tx kx .byte (Int32.ofNat ys.length) (ys.map Value.int) (.int 0)) (hi : i < ys.length) (hn : ys.length ≤ 10000) (hy : own_asc ys) :
    own_Met l Z (⟨"java/lang/StringLatin1", "charAt", "([BI)C"⟩ : MethodName) jdk_43_method_2_code 2 (some .char) ws ({ frames := 2, cells := 0, slots := 0, locals := 28 } : Room) #[(.ref tx), (.int (Int32.ofNat i))] h0 (Q_rm43 Z tx kx ys i w1 d1 d2 kd1 kd2 fm h0 n0) := by
  refine own_enter (g0 := fun m => (mkF m 0 #[.val (.ref tx), .val (.int (Int32.ofNat i))] [])) pn_rm43 (fun m => by first | (simp [entryFrame, mkF, argsToLocals, Value.category, maxLocals]; done) | rfl) ?_
  intro p e s m below meth c s₁ hx hby hml hown hnm hret hlk hZ X0 e0
  have hml : c.maxLocals = 2 := hml
  have hown : s.vm.findClass "java/lang/StringLatin1" = some m.cls := hown
  have N0 := Fr.nil n0
  refine own_by (fun _ k => XS.iloadN X0.here hx rfl (hb hby d43_0) rfl k) ?_
  refine own_by (fun _ k => XS.aloadN X0.here hx rfl (hb hby d43_1) rfl rfl k) ?_
  obtain ⟨cl439, Ar439, len439⟩ := own_len Ax
  refine own_by (T' := s₁) (g' := (mkF m 3 #[.val (.ref tx), .val (.int (Int32.ofNat i))] [(.int (Int32.ofNat ys.length)), (.int (Int32.ofNat i))])) (fun _ k => X0.arraylength hx (by rw [e0]; exact Ar439.1) (State.isArrayOf_alike hZ.alike Ar439.2.1) (g := (mkF m 2 #[.val (.ref tx), .val (.int (Int32.ofNat i))] [(.ref tx), (.int (Int32.ofNat i))])) rfl rfl (hb hby d43_2) _ (by rw [len439]; exact k)) ?_
  show own_Go p e below _ s₁ (mkF m 3 #[.val (.ref tx), .val (.int (Int32.ofNat i))] [(.int (Int32.ofNat ys.length)), (.int (Int32.ofNat i))])
  obtain ⟨_, T440, L440, X440, ⟨rfl, N440q, e440⟩, st440⟩ := own_callS X0 hx hZ hown (y := (⟨"java/lang/String", "checkIndex", "(II)V"⟩ : MethodName)) (hw _ (List.mem_of_getElem? (i := 261) rfl)) (hw _ (List.mem_of_getElem? (i := 262) rfl)) (hw _ (List.mem_of_getElem? (i := 30) rfl)) (hw _ (List.mem_of_getElem? (i := 263) rfl)) (by decide) (argsL := [(.int (Int32.ofNat i)), (.int (Int32.ofNat ys.length))]) (rest := []) e0 (rm44 l Z a0 hw [] i ys.length w1 d1 d2 kd1 kd2 fm h0 n0 Z0 hz hkz TB hi hn) (g := (mkF m 3 #[.val (.ref tx), .val (.int (Int32.ofNat i))] [(.int (Int32.ofNat ys.length)), (.int (Int32.ofNat i))])) rfl (by rw [hml]; rfl) (lenOf pd_17 rfl) rfl (W := 0) (by show 2 * 0 + _ ≤ _; exact Nat.le_of_eq rfl) (hb hby d43_3) (by decide) (by decide) (by decide) (by decide)
  have N440 := Fr.app N0 N440q
  refine own_by st440 ?_
  refine own_by (fun _ k => XS.aloadN X440.here hx rfl (hb hby d43_6) rfl rfl k) ?_
  refine own_by (fun _ k => XS.iloadN X440.here hx rfl (hb hby d43_7) rfl k) ?_
  obtain ⟨cl441, Ar441, cq441, hin441, hat441, set441⟩ := own_arv Ax (j := (Int32.ofNat i)) (own_inb hn hi)
  refine own_by (fun _ k => X440.baloadBytes hx (j := (Int32.ofNat i)) (v := (.int (ys.getD i 0))) (by rw [e440]; exact Ar441.1) (State.isArrayOf_alike hZ.alike Ar441.2.1) Ar441.2.2 hin441 (by rw [hat441]; exact congrArg some (own_gd ys (by omega))) (g := (mkF m 8 #[.val (.ref tx), .val (.int (Int32.ofNat i))] [(.int (Int32.ofNat i)), (.ref tx)])) rfl rfl (hb hby d43_8) _ k) ?_
  refine own_by (fun _ k => XS.sipush X440.here hx rfl (hb hby d43_9) k) ?_
  refine own_by (fun _ k => XS.iand X440.here hx rfl (hb hby d43_12) rfl k) ?_
  refine own_by (fun _ k => XS.i2c X440.here hx rfl (hb hby d43_13) rfl k) ?_
  show own_Go p e below _ T440 (mkF m 14 #[.val (.ref tx), .val (.int (Int32.ofNat i))] [(.int (((ys.getD i 0) &&& (255 : Int32)).toUInt32.toUInt16.toUInt32.toInt32))])
  rw [show (((ys.getD i 0) &&& (255 : Int32)).toUInt32.toUInt16.toUInt32.toInt32) = (ys.getD i 0) from own_asc8 hy i]
  exact own_retN X440 hx hlk hret (by simp) (own_ascn hy i) (hb hby d43_14) (by first | exact ⟨rfl, N440, rfl⟩ | (rw [e440]; exact ⟨rfl, N440, rfl⟩)) (by decide) (by decide)
def Q_rm41 (Z : State) (sx tx : Addr) (kx : ClassId) (ys : List Int32) (i : Nat) (w1 : Int32) (d1 d2 : Addr) (kd1 kd2 : ClassId) (fm : Value) (h0 : Heap) (n0 : Nat) (v : Option Value) (h : Heap) (L : List Loc) : Prop := v = some (.int (ys.getD i 0)) ∧ Fr n0 L ∧ h = h0
theorem pn_rm41 : plainFor (⟨"java/lang/String", "charAt", "(I)C"⟩ : MethodName) = true := by first | exact plainFor_of_name (by first | (simp [plainName, overriddenIn, x]; done) | decide +kernel) | decide +kernel
theorem d41_0 : decode jdk_42_method_56_code 0 = .ok (.aload_n 0, 1) := by decide +kernel
theorem d41_1 : decode jdk_42_method_56_code 1 = .ok (.invokevirtual 492, 3) := by decide +kernel
theorem d41_4 : decode jdk_42_method_56_code 4 = .ok (.ifCond .eq 12, 3) := by decide +kernel
theorem d41_7 : decode jdk_42_method_56_code 7 = .ok (.aload_n 0, 1) := by decide +kernel
theorem d41_8 : decode jdk_42_method_56_code 8 = .ok (.getfield 9, 3) := by decide +kernel
theorem d41_11 : decode jdk_42_method_56_code 11 = .ok (.iload_n 1, 1) := by decide +kernel
theorem pd_28 : parseMethodDescriptor "([BI)C" = some ⟨[(.array .byte), .int], some .char⟩ := by decide +kernel
theorem d41_12 : decode jdk_42_method_56_code 12 = .ok (.invokestatic 495, 3) := by decide +kernel
theorem d41_15 : decode jdk_42_method_56_code 15 = .ok (.ireturn, 1) := by decide +kernel
set_option maxRecDepth 65536 in
set_option maxHeartbeats 40000000 in
theorem rm41 (l : Launch) (Z : State) (a0 : Array Value) (hw : ∀ d ∈ tables_1, d.before a0 Z = true) (ws : List Jvm.Cond) (sx tx : Addr) (kx : ClassId) (ys : List Int32) (i : Nat) (w1 : Int32) (d1 d2 : Addr) (kd1 kd2 : ClassId) (fm : Value) (h0 : Heap) (n0 : Nat) (Z0 : n0 ≤ h0.size) (hz : Z.heap.size ≤ n0) (hkz : own_K Z h0) (TB : own_Tb Z w1 d1 d2 kd1 kd2 fm) (Ex : Exa Z h0 sx "java/lang/String") (Cx : Fld Z h0 sx "java/lang/String" "coder" "B" (.int (0 : Int32))) (Vx : Fld Z h0 sx "java/lang/String" "value" "[B" (.ref tx)) (Ax : Arv Z h0 tx kx .byte (Int32.ofNat ys.length) (ys.map Value.int) (.int 0)) (hi : i < ys.length) (hn : ys.length ≤ 10000) (hy : own_asc ys) :
    own_Met l Z (⟨"java/lang/String", "charAt", "(I)C"⟩ : MethodName) jdk_42_method_56_code 2 (some .char) ws ({ frames := 3, cells := 0, slots := 0, locals := 44 } : Room) #[(.ref sx), (.int (Int32.ofNat i))] h0 (Q_rm41 Z sx tx kx ys i w1 d1 d2 kd1 kd2 fm h0 n0) := by
  refine own_enter (g0 := fun m => (mkF m 0 #[.val (.ref sx), .val (.int (Int32.ofNat i))] [])) pn_rm41 (fun m => by first | (simp [entryFrame, mkF, argsToLocals, Value.category, maxLocals]; done) | rfl) ?_
  intro p e s m below meth c s₁ hx hby hml hown hnm hret hlk hZ X0 e0
  have hml : c.maxLocals = 2 := hml
  have hown : s.vm.findClass "java/lang/String" = some m.cls := hown
  have N0 := Fr.nil n0
  refine own_by (fun _ k => XS.aloadN X0.here hx rfl (hb hby d41_0) rfl rfl k) ?_
  obtain ⟨_, T442, L442, X442, ⟨rfl, N442q, e442⟩, st442⟩ := own_callV X0 hx hZ hown (y := (⟨"java/lang/String", "isLatin1", "()Z"⟩ : MethodName)) (C := "java/lang/String") (hw _ (List.mem_of_getElem? (i := 252) rfl)) (hw _ (List.mem_of_getElem? (i := 253) rfl)) (hw _ (List.mem_of_getElem? (i := 255) rfl)) (hw _ (List.mem_of_getElem? (i := 254) rfl)) (hw _ (List.mem_of_getElem? (i := 30) rfl)) (hw _ (List.mem_of_getElem? (i := 256) rfl)) (by decide) (a := sx) Ex (argsL := []) (rest := []) e0 (rm42 l Z a0 hw [] sx tx kx ys w1 d1 d2 kd1 kd2 fm h0 n0 Z0 hz hkz TB Ex Cx Vx Ax) (g := (mkF m 1 #[.val (.ref sx), .val (.int (Int32.ofNat i))] [(.ref sx)])) rfl (by rw [hml]; rfl) (lenOf pd_11 rfl) rfl (W := 0) (by show 2 * 0 + _ ≤ _; exact Nat.le_of_eq rfl) (hb hby d41_1) (by decide) (by decide) (by decide) (by decide)
  have N442 := Fr.app N0 N442q
  refine own_by st442 ?_
  refine own_by (fun _ k => XS.ifNo X442.here hx rfl (hb hby d41_4) rfl ((if0 _ _).trans (feq (by decide : ¬ ((1 : Int32) = (0 : Int32)))).1) k) ?_
  refine own_by (fun _ k => XS.aloadN X442.here hx rfl (hb hby d41_7) rfl rfl k) ?_
  obtain ⟨T443, X443, e443, st443⟩ := getF X442 hx hZ hown (host := "") (Or.inl (hw _ (List.mem_of_getElem? (i := 98) rfl))) Via.refl e442 Vx (g := (mkF m 8 #[.val (.ref sx), .val (.int (Int32.ofNat i))] [(.ref sx)])) rfl rfl (hb hby d41_8)
  refine own_by st443 ?_
  refine own_by (fun _ k => XS.iloadN X443.here hx rfl (hb hby d41_11) rfl k) ?_
  obtain ⟨_, T444, L444, X444, ⟨rfl, N444q, e444⟩, st444⟩ := own_callS X443 hx hZ hown (y := (⟨"java/lang/StringLatin1", "charAt", "([BI)C"⟩ : MethodName)) (hw _ (List.mem_of_getElem? (i := 257) rfl)) (hw _ (List.mem_of_getElem? (i := 258) rfl)) (hw _ (List.mem_of_getElem? (i := 259) rfl)) (hw _ (List.mem_of_getElem? (i := 260) rfl)) (by decide) (argsL := [(.ref tx), (.int (Int32.ofNat i))]) (rest := []) e443 (rm43 l Z a0 hw [] tx kx ys i w1 d1 d2 kd1 kd2 fm h0 n0 Z0 hz hkz TB Ax hi hn hy) (g := (mkF m 12 #[.val (.ref sx), .val (.int (Int32.ofNat i))] [(.int (Int32.ofNat i)), (.ref tx)])) rfl (by rw [hml]; rfl) (lenOf pd_28 rfl) rfl (W := 0) (by show 2 * 0 + _ ≤ _; exact Nat.le_of_eq rfl) (hb hby d41_12) (by decide) (by decide) (by decide) (by decide)
  have N444 := Fr.app N442 N444q
  refine own_by st444 ?_
  exact own_retN X444 hx hlk hret (by simp) (own_ascn hy i) (hb hby d41_15) (by first | exact ⟨rfl, N444, rfl⟩ | (rw [e444]; exact ⟨rfl, N444, rfl⟩)) (by decide) (by decide)
def Q_rm3 (Z : State) (p1 p2 : Int32) (a1 : Addr) (h0 : Heap) (n0 : Nat) (v : Option Value) (h : Heap) (L : List Loc) : Prop := v = none ∧ L = [] ∧ h = h0
theorem pn_rm3 : plainFor (⟨"com/example/regretta/regretta/GroupProblemGenerator", "atLeast", "(IILjava/lang/String;)V"⟩ : MethodName) = true := by first | exact plainFor_of_name (by first | (simp [plainName, overriddenIn, x]; done) | decide +kernel) | decide +kernel
theorem d3_0 : decode prog_22_method_5_code 0 = .ok (.iload_n 0, 1) := by decide +kernel
theorem d3_1 : decode prog_22_method_5_code 1 = .ok (.iload_n 1, 1) := by decide +kernel
theorem d3_2 : decode prog_22_method_5_code 2 = .ok (.if_icmp .ge 39, 3) := by decide +kernel
theorem d3_41 : decode prog_22_method_5_code 41 = .ok (.return_, 1) := by decide +kernel
set_option maxRecDepth 65536 in
set_option maxHeartbeats 40000000 in
theorem rm3 (l : Launch) (Z : State) (a0 : Array Value) (hw : ∀ d ∈ tables_1, d.before a0 Z = true) (ws : List Jvm.Cond) (p1 p2 : Int32) (a1 : Addr) (h0 : Heap) (n0 : Nat) (Z0 : n0 ≤ h0.size) (hp : ¬ p1 < p2) :
    own_Met l Z (⟨"com/example/regretta/regretta/GroupProblemGenerator", "atLeast", "(IILjava/lang/String;)V"⟩ : MethodName) prog_22_method_5_code 3 none ws ({ frames := 0, cells := 0, slots := 0, locals := 0 } : Room) #[(.int p1), (.int p2), (.ref a1)] h0 (Q_rm3 Z p1 p2 a1 h0 n0) := by
  refine own_enter (g0 := fun m => (mkF m 0 #[.val (.int p1), .val (.int p2), .val (.ref a1)] [])) pn_rm3 (fun m => by first | (simp [entryFrame, mkF, argsToLocals, Value.category, maxLocals]; done) | rfl) ?_
  intro p e s m below meth c s₁ hx hby hml hown hnm hret hlk hZ X0 e0
  have hml : c.maxLocals = 3 := hml
  have hown : s.vm.findClass "com/example/regretta/regretta/GroupProblemGenerator" = some m.cls := hown
  have N0 := Fr.nil n0
  refine own_by (fun _ k => XS.iloadN X0.here hx rfl (hb hby d3_0) rfl k) ?_
  refine own_by (fun _ k => XS.iloadN X0.here hx rfl (hb hby d3_1) rfl k) ?_
  refine own_by (fun _ k => XS.icmpYes X0.here hx rfl (pc0 := 2) (pc' := 41) rfl (hb hby d3_2) rfl (flt (hp : ¬ (p1 < p2))).2.1 (by decide) (by decide) k) ?_
  exact own_ret0 X0 hx hlk hret (hb hby d3_41) (by first | exact ⟨rfl, rfl, rfl⟩ | (rw [e0]; exact ⟨rfl, rfl, rfl⟩)) (by decide) (by decide)
def Q_rm1 (Z : State) (gp : Addr) (nv nf na nd : Nat) (w1 : Int32) (d1 d2 : Addr) (kd1 kd2 : ClassId) (fm : Value) (h0 : Heap) (n0 : Nat) (v : Option Value) (h : Heap) (L : List Loc) (vm : Vm) : Prop := v = none ∧ Fr n0 L ∧ Keep h0 h [gp] ∧ Exa Z h gp "com/example/regretta/regretta/GroupProblemGenerator" ∧ Fld Z h gp "com/example/regretta/regretta/GroupProblemGenerator" "variables" "I" (.int (Int32.ofNat nv)) ∧ Fld Z h gp "com/example/regretta/regretta/GroupProblemGenerator" "factors" "I" (.int (Int32.ofNat nf)) ∧ Fld Z h gp "com/example/regretta/regretta/GroupProblemGenerator" "agents" "I" (.int (Int32.ofNat na)) ∧ Fld Z h gp "com/example/regretta/regretta/GroupProblemGenerator" "domain" "I" (.int (Int32.ofNat nd)) ∧ IB Z vm ["a variable takes at least 1 value", "a group has at least 1 agent", "a group has at least 0 drawn factors", "a group has at least 1 variable"]
theorem pn_rm1 : plainFor (⟨"com/example/regretta/regretta/GroupProblemGenerator", "<init>", "(IIII)V"⟩ : MethodName) = true := by first | exact plainFor_of_name (by first | (simp [plainName, overriddenIn, x]; done) | decide +kernel) | decide +kernel
theorem d1_0 : decode prog_22_method_1_code 0 = .ok (.aload_n 0, 1) := by decide +kernel
theorem d1_1 : decode prog_22_method_1_code 1 = .ok (.invokespecial 3, 3) := by decide +kernel
theorem d1_4 : decode prog_22_method_1_code 4 = .ok (.iload_n 1, 1) := by decide +kernel
theorem d1_5 : decode prog_22_method_1_code 5 = .ok (.iconst 1, 1) := by decide +kernel
theorem d1_6 : decode prog_22_method_1_code 6 = .ok (.ldc 9, 2) := by decide +kernel
theorem pd_29 : parseMethodDescriptor "(IILjava/lang/String;)V" = some ⟨[.int, .int, (.object "java/lang/String")], none⟩ := by decide +kernel
theorem d1_8 : decode prog_22_method_1_code 8 = .ok (.invokestatic 11, 3) := by decide +kernel
theorem d1_11 : decode prog_22_method_1_code 11 = .ok (.iload_n 2, 1) := by decide +kernel
theorem d1_12 : decode prog_22_method_1_code 12 = .ok (.iconst 0, 1) := by decide +kernel
theorem d1_13 : decode prog_22_method_1_code 13 = .ok (.ldc 17, 2) := by decide +kernel
theorem d1_15 : decode prog_22_method_1_code 15 = .ok (.invokestatic 11, 3) := by decide +kernel
theorem d1_18 : decode prog_22_method_1_code 18 = .ok (.iload_n 3, 1) := by decide +kernel
theorem d1_19 : decode prog_22_method_1_code 19 = .ok (.iconst 1, 1) := by decide +kernel
theorem d1_20 : decode prog_22_method_1_code 20 = .ok (.ldc 19, 2) := by decide +kernel
theorem d1_22 : decode prog_22_method_1_code 22 = .ok (.invokestatic 11, 3) := by decide +kernel
theorem d1_25 : decode prog_22_method_1_code 25 = .ok (.iload 4, 2) := by decide +kernel
theorem d1_27 : decode prog_22_method_1_code 27 = .ok (.iconst 1, 1) := by decide +kernel
theorem d1_28 : decode prog_22_method_1_code 28 = .ok (.ldc 21, 2) := by decide +kernel
theorem d1_30 : decode prog_22_method_1_code 30 = .ok (.invokestatic 11, 3) := by decide +kernel
theorem d1_33 : decode prog_22_method_1_code 33 = .ok (.ldc2_w 25, 3) := by decide +kernel
theorem d1_36 : decode prog_22_method_1_code 36 = .ok (.lstore 5, 2) := by decide +kernel
theorem d1_38 : decode prog_22_method_1_code 38 = .ok (.lconst 1, 1) := by decide +kernel
theorem d1_39 : decode prog_22_method_1_code 39 = .ok (.lstore 7, 2) := by decide +kernel
theorem d1_41 : decode prog_22_method_1_code 41 = .ok (.iconst 0, 1) := by decide +kernel
theorem d1_42 : decode prog_22_method_1_code 42 = .ok (.istore 9, 2) := by decide +kernel
theorem d1_76 : decode prog_22_method_1_code 76 = .ok (.iload_n 2, 1) := by decide +kernel
theorem d1_77 : decode prog_22_method_1_code 77 = .ok (.i2l, 1) := by decide +kernel
theorem d1_78 : decode prog_22_method_1_code 78 = .ok (.lload 7, 2) := by decide +kernel
theorem d1_80 : decode prog_22_method_1_code 80 = .ok (.lload 5, 2) := by decide +kernel
theorem d1_82 : decode prog_22_method_1_code 82 = .ok (.lconst 1, 1) := by decide +kernel
theorem d1_83 : decode prog_22_method_1_code 83 = .ok (.ladd, 1) := by decide +kernel
theorem pd_30 : parseMethodDescriptor "(JJ)J" = some ⟨[.long, .long], some .long⟩ := by decide +kernel
theorem d1_84 : decode prog_22_method_1_code 84 = .ok (.invokestatic 33, 3) := by decide +kernel
theorem d1_87 : decode prog_22_method_1_code 87 = .ok (.lmul, 1) := by decide +kernel
theorem d1_88 : decode prog_22_method_1_code 88 = .ok (.iload_n 1, 1) := by decide +kernel
theorem d1_89 : decode prog_22_method_1_code 89 = .ok (.i2l, 1) := by decide +kernel
theorem d1_90 : decode prog_22_method_1_code 90 = .ok (.iload 4, 2) := by decide +kernel
theorem d1_92 : decode prog_22_method_1_code 92 = .ok (.i2l, 1) := by decide +kernel
theorem d1_93 : decode prog_22_method_1_code 93 = .ok (.lmul, 1) := by decide +kernel
theorem d1_94 : decode prog_22_method_1_code 94 = .ok (.ladd, 1) := by decide +kernel
theorem d1_95 : decode prog_22_method_1_code 95 = .ok (.lstore 9, 2) := by decide +kernel
theorem d1_97 : decode prog_22_method_1_code 97 = .ok (.lload 9, 2) := by decide +kernel
theorem d1_99 : decode prog_22_method_1_code 99 = .ok (.lload 5, 2) := by decide +kernel
theorem d1_101 : decode prog_22_method_1_code 101 = .ok (.lcmp, 1) := by decide +kernel
theorem d1_102 : decode prog_22_method_1_code 102 = .ok (.ifCond .gt 14, 3) := by decide +kernel
theorem d1_105 : decode prog_22_method_1_code 105 = .ok (.lload 9, 2) := by decide +kernel
theorem d1_107 : decode prog_22_method_1_code 107 = .ok (.iload_n 3, 1) := by decide +kernel
theorem d1_108 : decode prog_22_method_1_code 108 = .ok (.i2l, 1) := by decide +kernel
theorem d1_109 : decode prog_22_method_1_code 109 = .ok (.lmul, 1) := by decide +kernel
theorem d1_110 : decode prog_22_method_1_code 110 = .ok (.lload 5, 2) := by decide +kernel
theorem d1_112 : decode prog_22_method_1_code 112 = .ok (.lcmp, 1) := by decide +kernel
theorem d1_113 : decode prog_22_method_1_code 113 = .ok (.ifCond .le 72, 3) := by decide +kernel
theorem d1_185 : decode prog_22_method_1_code 185 = .ok (.aload_n 0, 1) := by decide +kernel
theorem d1_186 : decode prog_22_method_1_code 186 = .ok (.iload_n 1, 1) := by decide +kernel
theorem d1_187 : decode prog_22_method_1_code 187 = .ok (.putfield 68, 3) := by decide +kernel
theorem d1_190 : decode prog_22_method_1_code 190 = .ok (.aload_n 0, 1) := by decide +kernel
theorem d1_191 : decode prog_22_method_1_code 191 = .ok (.iload_n 2, 1) := by decide +kernel
theorem d1_192 : decode prog_22_method_1_code 192 = .ok (.putfield 72, 3) := by decide +kernel
theorem d1_195 : decode prog_22_method_1_code 195 = .ok (.aload_n 0, 1) := by decide +kernel
theorem d1_196 : decode prog_22_method_1_code 196 = .ok (.iload_n 3, 1) := by decide +kernel
theorem d1_197 : decode prog_22_method_1_code 197 = .ok (.putfield 75, 3) := by decide +kernel
theorem d1_200 : decode prog_22_method_1_code 200 = .ok (.aload_n 0, 1) := by decide +kernel
theorem d1_201 : decode prog_22_method_1_code 201 = .ok (.iload 4, 2) := by decide +kernel
theorem d1_203 : decode prog_22_method_1_code 203 = .ok (.putfield 78, 3) := by decide +kernel
theorem d1_206 : decode prog_22_method_1_code 206 = .ok (.return_, 1) := by decide +kernel
theorem d1_44 : decode prog_22_method_1_code 44 = .ok (.iload 9, 2) := by decide +kernel
theorem d1_46 : decode prog_22_method_1_code 46 = .ok (.iconst 4, 1) := by decide +kernel
theorem d1_47 : decode prog_22_method_1_code 47 = .ok (.iload_n 1, 1) := by decide +kernel
theorem d1_48 : decode prog_22_method_1_code 48 = .ok (.invokestatic 27, 3) := by decide +kernel
theorem d1_51 : decode prog_22_method_1_code 51 = .ok (.if_icmp .ge 25, 3) := by decide +kernel
theorem d1_54 : decode prog_22_method_1_code 54 = .ok (.lload 7, 2) := by decide +kernel
theorem d1_56 : decode prog_22_method_1_code 56 = .ok (.lload 5, 2) := by decide +kernel
theorem d1_58 : decode prog_22_method_1_code 58 = .ok (.lcmp, 1) := by decide +kernel
theorem d1_59 : decode prog_22_method_1_code 59 = .ok (.ifCond .gt 17, 3) := by decide +kernel
theorem d1_62 : decode prog_22_method_1_code 62 = .ok (.lload 7, 2) := by decide +kernel
theorem d1_64 : decode prog_22_method_1_code 64 = .ok (.iload 4, 2) := by decide +kernel
theorem d1_66 : decode prog_22_method_1_code 66 = .ok (.i2l, 1) := by decide +kernel
theorem d1_67 : decode prog_22_method_1_code 67 = .ok (.lmul, 1) := by decide +kernel
theorem d1_68 : decode prog_22_method_1_code 68 = .ok (.lstore 7, 2) := by decide +kernel
theorem d1_70 : decode prog_22_method_1_code 70 = .ok (.iinc 9 1, 3) := by decide +kernel
theorem d1_73 : decode prog_22_method_1_code 73 = .ok (.goto (-29), 3) := by decide +kernel
set_option maxRecDepth 65536 in
set_option maxHeartbeats 40000000 in
theorem rm1 (l : Launch) (Z : State) (a0 : Array Value) (hw : ∀ d ∈ tables_1, d.before a0 Z = true) (ws : List Jvm.Cond) (gp : Addr) (nv nf na nd : Nat) (w1 : Int32) (d1 d2 : Addr) (kd1 kd2 : ClassId) (fm : Value) (h0 : Heap) (n0 : Nat) (Z0 : n0 ≤ h0.size) (hz : Z.heap.size ≤ n0) (hkz : own_K Z h0) (TB : own_Tb Z w1 d1 d2 kd1 kd2 fm) (hv : 1 ≤ nv ∧ nv ≤ 9) (hf : nf ≤ 9) (ha : 1 ≤ na ∧ na ≤ 9) (hd : 1 ≤ nd ∧ nd ≤ 9) (g1 : n0 ≤ gp) (Eg : Exa Z h0 gp "com/example/regretta/regretta/GroupProblemGenerator") (Fnv : Fld Z h0 gp "com/example/regretta/regretta/GroupProblemGenerator" "variables" "I" (.int (0 : Int32))) (Fnf : Fld Z h0 gp "com/example/regretta/regretta/GroupProblemGenerator" "factors" "I" (.int (0 : Int32))) (Fna : Fld Z h0 gp "com/example/regretta/regretta/GroupProblemGenerator" "agents" "I" (.int (0 : Int32))) (Fnd : Fld Z h0 gp "com/example/regretta/regretta/GroupProblemGenerator" "domain" "I" (.int (0 : Int32))) (hc9 : Jvm.Lit.constHeld Z "com/example/regretta/regretta/GroupProblemGenerator" 9) (hc17 : Jvm.Lit.constHeld Z "com/example/regretta/regretta/GroupProblemGenerator" 17) (hc19 : Jvm.Lit.constHeld Z "com/example/regretta/regretta/GroupProblemGenerator" 19) (hc21 : Jvm.Lit.constHeld Z "com/example/regretta/regretta/GroupProblemGenerator" 21) (hcw : Jvm.Lit.compactW.before a0 Z = true) :
    own_MetW l Z (⟨"com/example/regretta/regretta/GroupProblemGenerator", "<init>", "(IIII)V"⟩ : MethodName) prog_22_method_1_code 11 none ws ({ frames := 1, cells := 8, slots := 540, locals := 30 } : Room) #[(.ref gp), (.int (Int32.ofNat nv)), (.int (Int32.ofNat nf)), (.int (Int32.ofNat na)), (.int (Int32.ofNat nd))] h0 (fun vm => IB Z vm []) (Q_rm1 Z gp nv nf na nd w1 d1 d2 kd1 kd2 fm h0 n0) := by
  refine own_enterW (g0 := fun m => (mkF m 0 #[.val (.ref gp), .val (.int (Int32.ofNat nv)), .val (.int (Int32.ofNat nf)), .val (.int (Int32.ofNat na)), .val (.int (Int32.ofNat nd)), .unset, .unset, .unset, .unset, .unset, .unset] [])) pn_rm1 (fun m => by first | (simp [entryFrame, mkF, argsToLocals, Value.category, maxLocals]; done) | rfl) ?_
  intro p e s m below meth c s₁ hx hby hml hown hnm hret hlk hZ I0 X0 e0 es
  have hml : c.maxLocals = 11 := hml
  have hown : (s.setVm s.vm).vm.findClass "com/example/regretta/regretta/GroupProblemGenerator" = some m.cls := hown
  have N0 := Fr.nil n0
  have S0 : s.Since s.vm 0 := (State.WarmedH.refl s).since 0
  have kz0 : 0 ≤ h0.size := Nat.zero_le _
  have K0 := Keep.refl h0 [gp]
  refine own_by (fun _ k => XS.aloadN X0.here hx rfl (hb hby d1_0) rfl rfl k) ?_
  obtain ⟨T445, X445, e445, st445⟩ := initO X0 hx hZ hown (hw _ (List.mem_of_getElem? (i := 26) rfl)) (hw _ (List.mem_of_getElem? (i := 27) rfl)) (hw _ (List.mem_of_getElem? (i := 28) rfl)) e0 (g := (mkF m 1 #[.val (.ref gp), .val (.int (Int32.ofNat nv)), .val (.int (Int32.ofNat nf)), .val (.int (Int32.ofNat na)), .val (.int (Int32.ofNat nd)), .unset, .unset, .unset, .unset, .unset, .unset] [(.ref gp)])) rfl (by rw [hml]; rfl) rfl (hb hby d1_1) (by decide) (W := 0) (by show 2 * 0 + _ ≤ _; exact Nat.le_of_eq rfl) (by decide)
  refine own_by st445 ?_
  refine own_by (fun _ k => XS.iloadN X445.here hx rfl (hb hby d1_4) rfl k) ?_
  refine own_by (fun _ k => XS.iconst X445.here hx rfl (hb hby d1_5) k) ?_
  obtain ⟨a446, T446, h446, k446w, b446, k446, X446, e446, E446, S446, kz446, hZ, hown, Ea446, Ca446, Va446, Ab446, la446, lb446, I446, Lt446, st446⟩ := ldcSVL X445 hx hZ hown (hw _ (List.mem_of_getElem? (i := 29) rfl)) (own_sa hw) e445 S0 kz0 (Fr.nil _) (by rw [es]; exact hkz) I0 (by decide +kernel) hc9 hcw (vs := own_l9.map Value.int) (z := Int32.ofNat own_l9.length) ⟨by decide +kernel, by decide +kernel⟩ (by decide +kernel) (by decide +kernel) (g := (mkF m 6 #[.val (.ref gp), .val (.int (Int32.ofNat nv)), .val (.int (Int32.ofNat nf)), .val (.int (Int32.ofNat na)), .val (.int (Int32.ofNat nd)), .unset, .unset, .unset, .unset, .unset, .unset] [(.int (1 : Int32)), (.int (Int32.ofNat nv))])) rfl (hb hby d1_6) (n := 124) (by decide +kernel) (by decide) (by decide) (by decide)
  have K447 := K0.ext E446
  have Z446 : n0 ≤ h446.size := Nat.le_trans Z0 E446.1
  refine own_by st446 ?_
  obtain ⟨_, T448, L448, X448, ⟨rfl, rfl, e448⟩, st448⟩ := own_callS X446 hx hZ hown (y := (⟨"com/example/regretta/regretta/GroupProblemGenerator", "atLeast", "(IILjava/lang/String;)V"⟩ : MethodName)) (hw _ (List.mem_of_getElem? (i := 37) rfl)) (hw _ (List.mem_of_getElem? (i := 38) rfl)) (hw _ (List.mem_of_getElem? (i := 22) rfl)) (hw _ (List.mem_of_getElem? (i := 39) rfl)) (by decide) (argsL := [(.int (Int32.ofNat nv)), (.int (1 : Int32)), (.ref a446)]) (rest := []) e446 (rm3 l Z a0 hw [] (Int32.ofNat nv) (1 : Int32) a446 h446 n0 Z446 (fun q => by have := (own_lt (a := nv) (b := 1) (by omega) (by omega)).mp q; omega)) (g := (mkF m 8 #[.val (.ref gp), .val (.int (Int32.ofNat nv)), .val (.int (Int32.ofNat nf)), .val (.int (Int32.ofNat na)), .val (.int (Int32.ofNat nd)), .unset, .unset, .unset, .unset, .unset, .unset] [(.ref a446), (.int (1 : Int32)), (.int (Int32.ofNat nv))])) rfl (by rw [hml]; rfl) (lenOf pd_29 rfl) rfl (W := 0) (by show 2 * 0 + _ ≤ _; exact Nat.le_of_eq rfl) (hb hby d1_8) (by decide) (by decide) (by decide) (by decide)
  have N448q : Fr n0 [] := Fr.nil _
  have N448 := Fr.app N0 N448q
  refine own_by st448 ?_
  refine own_by (fun _ k => XS.iloadN X448.here hx rfl (hb hby d1_11) rfl k) ?_
  refine own_by (fun _ k => XS.iconst X448.here hx rfl (hb hby d1_12) k) ?_
  show own_Go p e below _ T448 (mkF m 13 #[.val (.ref gp), .val (.int (Int32.ofNat nv)), .val (.int (Int32.ofNat nf)), .val (.int (Int32.ofNat na)), .val (.int (Int32.ofNat nd)), .unset, .unset, .unset, .unset, .unset, .unset] [(.int (0 : Int32)), (.int (Int32.ofNat nf))])
  obtain ⟨a449, T449, h449, k449w, b449, k449, X449, e449, E449, S449, kz449, hZ, hown, Ea449, Ca449, Va449, Ab449, la449, lb449, I449, Lt449, st449⟩ := ldcSVL X448 hx hZ hown (hw _ (List.mem_of_getElem? (i := 40) rfl)) (own_sa hw) e448 S446 kz446 (Fr.nil _) (by rw [es]; exact hkz) I446 (by decide +kernel) hc17 hcw (vs := own_l17.map Value.int) (z := Int32.ofNat own_l17.length) ⟨by decide +kernel, by decide +kernel⟩ (by decide +kernel) (by decide +kernel) (g := (mkF m 13 #[.val (.ref gp), .val (.int (Int32.ofNat nv)), .val (.int (Int32.ofNat nf)), .val (.int (Int32.ofNat na)), .val (.int (Int32.ofNat nd)), .unset, .unset, .unset, .unset, .unset, .unset] [(.int (0 : Int32)), (.int (Int32.ofNat nf))])) rfl (hb hby d1_13) (n := 144) (by decide +kernel) (by decide) (by decide) (by decide)
  have K450 := K447.ext E449
  have Z449 : n0 ≤ h449.size := Nat.le_trans Z446 E449.1
  refine own_by st449 ?_
  obtain ⟨_, T451, L451, X451, ⟨rfl, rfl, e451⟩, st451⟩ := own_callS X449 hx hZ hown (y := (⟨"com/example/regretta/regretta/GroupProblemGenerator", "atLeast", "(IILjava/lang/String;)V"⟩ : MethodName)) (hw _ (List.mem_of_getElem? (i := 37) rfl)) (hw _ (List.mem_of_getElem? (i := 38) rfl)) (hw _ (List.mem_of_getElem? (i := 22) rfl)) (hw _ (List.mem_of_getElem? (i := 39) rfl)) (by decide) (argsL := [(.int (Int32.ofNat nf)), (.int (0 : Int32)), (.ref a449)]) (rest := []) e449 (rm3 l Z a0 hw [] (Int32.ofNat nf) (0 : Int32) a449 h449 n0 Z449 (fun q => absurd q (own_nn (by omega)))) (g := (mkF m 15 #[.val (.ref gp), .val (.int (Int32.ofNat nv)), .val (.int (Int32.ofNat nf)), .val (.int (Int32.ofNat na)), .val (.int (Int32.ofNat nd)), .unset, .unset, .unset, .unset, .unset, .unset] [(.ref a449), (.int (0 : Int32)), (.int (Int32.ofNat nf))])) rfl (by rw [hml]; rfl) (lenOf pd_29 rfl) rfl (W := 0) (by show 2 * 0 + _ ≤ _; exact Nat.le_of_eq rfl) (hb hby d1_15) (by decide) (by decide) (by decide) (by decide)
  have N451q : Fr n0 [] := Fr.nil _
  have N451 := Fr.app N448 N451q
  refine own_by st451 ?_
  refine own_by (fun _ k => XS.iloadN X451.here hx rfl (hb hby d1_18) rfl k) ?_
  refine own_by (fun _ k => XS.iconst X451.here hx rfl (hb hby d1_19) k) ?_
  obtain ⟨a452, T452, h452, k452w, b452, k452, X452, e452, E452, S452, kz452, hZ, hown, Ea452, Ca452, Va452, Ab452, la452, lb452, I452, Lt452, st452⟩ := ldcSVL X451 hx hZ hown (hw _ (List.mem_of_getElem? (i := 41) rfl)) (own_sa hw) e451 S449 kz449 (Fr.nil _) (by rw [es]; exact hkz) I449 (by decide +kernel) hc19 hcw (vs := own_l19.map Value.int) (z := Int32.ofNat own_l19.length) ⟨by decide +kernel, by decide +kernel⟩ (by decide +kernel) (by decide +kernel) (g := (mkF m 20 #[.val (.ref gp), .val (.int (Int32.ofNat nv)), .val (.int (Int32.ofNat nf)), .val (.int (Int32.ofNat na)), .val (.int (Int32.ofNat nd)), .unset, .unset, .unset, .unset, .unset, .unset] [(.int (1 : Int32)), (.int (Int32.ofNat na))])) rfl (hb hby d1_20) (n := 112) (by decide +kernel) (by decide) (by decide) (by decide)
  have K453 := K450.ext E452
  have Z452 : n0 ≤ h452.size := Nat.le_trans Z449 E452.1
  refine own_by st452 ?_
  obtain ⟨_, T454, L454, X454, ⟨rfl, rfl, e454⟩, st454⟩ := own_callS X452 hx hZ hown (y := (⟨"com/example/regretta/regretta/GroupProblemGenerator", "atLeast", "(IILjava/lang/String;)V"⟩ : MethodName)) (hw _ (List.mem_of_getElem? (i := 37) rfl)) (hw _ (List.mem_of_getElem? (i := 38) rfl)) (hw _ (List.mem_of_getElem? (i := 22) rfl)) (hw _ (List.mem_of_getElem? (i := 39) rfl)) (by decide) (argsL := [(.int (Int32.ofNat na)), (.int (1 : Int32)), (.ref a452)]) (rest := []) e452 (rm3 l Z a0 hw [] (Int32.ofNat na) (1 : Int32) a452 h452 n0 Z452 (fun q => by have := (own_lt (a := na) (b := 1) (by omega) (by omega)).mp q; omega)) (g := (mkF m 22 #[.val (.ref gp), .val (.int (Int32.ofNat nv)), .val (.int (Int32.ofNat nf)), .val (.int (Int32.ofNat na)), .val (.int (Int32.ofNat nd)), .unset, .unset, .unset, .unset, .unset, .unset] [(.ref a452), (.int (1 : Int32)), (.int (Int32.ofNat na))])) rfl (by rw [hml]; rfl) (lenOf pd_29 rfl) rfl (W := 0) (by show 2 * 0 + _ ≤ _; exact Nat.le_of_eq rfl) (hb hby d1_22) (by decide) (by decide) (by decide) (by decide)
  have N454q : Fr n0 [] := Fr.nil _
  have N454 := Fr.app N451 N454q
  refine own_by st454 ?_
  refine own_by (fun _ k => XS.iload X454.here hx rfl (hb hby d1_25) rfl k) ?_
  refine own_by (fun _ k => XS.iconst X454.here hx rfl (hb hby d1_27) k) ?_
  obtain ⟨a455, T455, h455, k455w, b455, k455, X455, e455, E455, S455, kz455, hZ, hown, Ea455, Ca455, Va455, Ab455, la455, lb455, I455, Lt455, st455⟩ := ldcSVL X454 hx hZ hown (hw _ (List.mem_of_getElem? (i := 42) rfl)) (own_sa hw) e454 S452 kz452 (Fr.nil _) (by rw [es]; exact hkz) I452 (by decide +kernel) hc21 hcw (vs := own_l21.map Value.int) (z := Int32.ofNat own_l21.length) ⟨by decide +kernel, by decide +kernel⟩ (by decide +kernel) (by decide +kernel) (g := (mkF m 28 #[.val (.ref gp), .val (.int (Int32.ofNat nv)), .val (.int (Int32.ofNat nf)), .val (.int (Int32.ofNat na)), .val (.int (Int32.ofNat nd)), .unset, .unset, .unset, .unset, .unset, .unset] [(.int (1 : Int32)), (.int (Int32.ofNat nd))])) rfl (hb hby d1_28) (n := 132) (by decide +kernel) (by decide) (by decide) (by decide)
  have K456 := K453.ext E455
  have Z455 : n0 ≤ h455.size := Nat.le_trans Z452 E455.1
  refine own_by st455 ?_
  show own_Go p e below _ T455 (mkF m 30 #[.val (.ref gp), .val (.int (Int32.ofNat nv)), .val (.int (Int32.ofNat nf)), .val (.int (Int32.ofNat na)), .val (.int (Int32.ofNat nd)), .unset, .unset, .unset, .unset, .unset, .unset] [(.ref a455), (.int (1 : Int32)), (.int (Int32.ofNat nd))])
  obtain ⟨_, T457, L457, X457, ⟨rfl, rfl, e457⟩, st457⟩ := own_callS X455 hx hZ hown (y := (⟨"com/example/regretta/regretta/GroupProblemGenerator", "atLeast", "(IILjava/lang/String;)V"⟩ : MethodName)) (hw _ (List.mem_of_getElem? (i := 37) rfl)) (hw _ (List.mem_of_getElem? (i := 38) rfl)) (hw _ (List.mem_of_getElem? (i := 22) rfl)) (hw _ (List.mem_of_getElem? (i := 39) rfl)) (by decide) (argsL := [(.int (Int32.ofNat nd)), (.int (1 : Int32)), (.ref a455)]) (rest := []) e455 (rm3 l Z a0 hw [] (Int32.ofNat nd) (1 : Int32) a455 h455 n0 Z455 (fun q => by have := (own_lt (a := nd) (b := 1) (by omega) (by omega)).mp q; omega)) (g := (mkF m 30 #[.val (.ref gp), .val (.int (Int32.ofNat nv)), .val (.int (Int32.ofNat nf)), .val (.int (Int32.ofNat na)), .val (.int (Int32.ofNat nd)), .unset, .unset, .unset, .unset, .unset, .unset] [(.ref a455), (.int (1 : Int32)), (.int (Int32.ofNat nd))])) rfl (by rw [hml]; rfl) (lenOf pd_29 rfl) rfl (W := 0) (by show 2 * 0 + _ ≤ _; exact Nat.le_of_eq rfl) (hb hby d1_30) (by decide) (by decide) (by decide) (by decide)
  have N457q : Fr n0 [] := Fr.nil _
  have N457 := Fr.app N454 N457q
  refine own_by st457 ?_
  refine own_by (fun _ k => Stand.ldc2J X457 hx hown (mvT hZ (hw _ (List.mem_of_getElem? (i := 43) rfl))) rfl (hb hby d1_33) k) ?_
  refine own_by (fun _ k => XS.lstore X457.here hx rfl (hb hby d1_36) rfl (l' := #[.val (.ref gp), .val (.int (Int32.ofNat nv)), .val (.int (Int32.ofNat nf)), .val (.int (Int32.ofNat na)), .val (.int (Int32.ofNat nd)), .val (.long (1000000 : Int64)), .second, .unset, .unset, .unset, .unset]) rfl k) ?_
  refine own_by (fun _ k => XS.lconst X457.here hx rfl (hb hby d1_38) k) ?_
  refine own_by (fun _ k => XS.lstore X457.here hx rfl (hb hby d1_39) rfl (l' := #[.val (.ref gp), .val (.int (Int32.ofNat nv)), .val (.int (Int32.ofNat nf)), .val (.int (Int32.ofNat na)), .val (.int (Int32.ofNat nd)), .val (.long (1000000 : Int64)), .second, .val (.long (1 : Int64)), .second, .unset, .unset]) rfl k) ?_
  refine own_by (fun _ k => XS.iconst X457.here hx rfl (hb hby d1_41) k) ?_
  refine own_by (fun _ k => XS.istore X457.here hx rfl (hb hby d1_42) rfl (l' := #[.val (.ref gp), .val (.int (Int32.ofNat nv)), .val (.int (Int32.ofNat nf)), .val (.int (Int32.ofNat na)), .val (.int (Int32.ofNat nd)), .val (.long (1000000 : Int64)), .second, .val (.long (1 : Int64)), .second, .val (.int (0 : Int32)), .unset]) rfl k) ?_
  have J76 : ∀ (T458 : State) (L458 : List Loc) (X458 : Stand p l e ({ frames := 1, cells := 8, slots := 540, locals := 30 } : Room) (s.setVm T455.vm) m #[(.ref gp), (.int (Int32.ofNat nv)), (.int (Int32.ofNat nf)), (.int (Int32.ofNat na)), (.int (Int32.ofNat nd))] below meth c T458 L458 8 528) (e458 : T458.heap = h455) (N458 : Fr n0 L458) (i : Int32) (tp : Int64) (ht : 0 ≤ tp.toInt ∧ tp.toInt ≤ 6561), own_Go p e below (own_EndW s ({ frames := 1, cells := 8, slots := 540, locals := 30 } : Room).cells ({ frames := 1, cells := 8, slots := 540, locals := 30 } : Room).slots (Q_rm1 Z gp nv nf na nd w1 d1 d2 kd1 kd2 fm h0 n0)) T458 (mkF m 76 #[.val (.ref gp), .val (.int (Int32.ofNat nv)), .val (.int (Int32.ofNat nf)), .val (.int (Int32.ofNat na)), .val (.int (Int32.ofNat nd)), .val (.long (1000000 : Int64)), .second, .val (.long tp), .second, .val (.int i), .unset] []) := by
    intro T458 L458 X458 e458 N458 i tp ht
    refine own_by (fun _ k => XS.iloadN X458.here hx rfl (hb hby d1_76) rfl k) ?_
    show own_Go p e below _ T458 (mkF m 77 #[.val (.ref gp), .val (.int (Int32.ofNat nv)), .val (.int (Int32.ofNat nf)), .val (.int (Int32.ofNat na)), .val (.int (Int32.ofNat nd)), .val (.long (1000000 : Int64)), .second, .val (.long tp), .second, .val (.int i), .unset] [(.int (Int32.ofNat nf))])
    refine own_by (fun _ k => XS.i2l X458.here hx rfl (hb hby d1_77) rfl k) ?_
    refine own_by (fun _ k => XS.lload X458.here hx rfl (hb hby d1_78) rfl k) ?_
    refine own_by (fun _ k => XS.lload X458.here hx rfl (hb hby d1_80) rfl k) ?_
    refine own_by (fun _ k => XS.lconst X458.here hx rfl (hb hby d1_82) k) ?_
    refine own_by (fun _ k => XS.ladd X458.here hx rfl (hb hby d1_83) rfl k) ?_
    obtain ⟨_, T459, L459, X459, ⟨rfl, N459q, e459⟩, st459⟩ := own_callS X458 hx hZ hown (y := (⟨"java/lang/Math", "min", "(JJ)J"⟩ : MethodName)) (hw _ (List.mem_of_getElem? (i := 48) rfl)) (hw _ (List.mem_of_getElem? (i := 49) rfl)) (hw _ (List.mem_of_getElem? (i := 46) rfl)) (hw _ (List.mem_of_getElem? (i := 50) rfl)) (by decide) (argsL := [(.long tp), (.long ((1000000 : Int64) + (1 : Int64)))]) (rest := [(.long ((Int32.ofNat nf).toInt64))]) e458 (rm5 l Z a0 hw [] tp ((1000000 : Int64) + (1 : Int64)) h455 n0 Z455 ) (g := (mkF m 84 #[.val (.ref gp), .val (.int (Int32.ofNat nv)), .val (.int (Int32.ofNat nf)), .val (.int (Int32.ofNat na)), .val (.int (Int32.ofNat nd)), .val (.long (1000000 : Int64)), .second, .val (.long tp), .second, .val (.int i), .unset] [(.long ((1000000 : Int64) + (1 : Int64))), (.long tp), (.long ((Int32.ofNat nf).toInt64))])) rfl (by rw [hml]; rfl) (lenOf pd_30 rfl) rfl (W := 2) (by show 2 * 0 + _ ≤ _; exact Nat.le_of_eq rfl) (hb hby d1_84) (by decide) (by decide) (by decide) (by decide)
    have N459 := Fr.app N458 N459q
    refine own_by st459 ?_
    show own_Go p e below _ T459 (mkF m 87 #[.val (.ref gp), .val (.int (Int32.ofNat nv)), .val (.int (Int32.ofNat nf)), .val (.int (Int32.ofNat na)), .val (.int (Int32.ofNat nd)), .val (.long (1000000 : Int64)), .second, .val (.long tp), .second, .val (.int i), .unset] [(.long (own_lmin tp ((1000000 : Int64) + (1 : Int64)))), (.long ((Int32.ofNat nf).toInt64))])
    rw [show (own_lmin tp ((1000000 : Int64) + (1 : Int64))) = tp from own_lm (by omega)]
    refine own_by (fun _ k => XS.lmul X459.here hx rfl (hb hby d1_87) rfl k) ?_
    refine own_by (fun _ k => XS.iloadN X459.here hx rfl (hb hby d1_88) rfl k) ?_
    refine own_by (fun _ k => XS.i2l X459.here hx rfl (hb hby d1_89) rfl k) ?_
    refine own_by (fun _ k => XS.iload X459.here hx rfl (hb hby d1_90) rfl k) ?_
    refine own_by (fun _ k => XS.i2l X459.here hx rfl (hb hby d1_92) rfl k) ?_
    refine own_by (fun _ k => XS.lmul X459.here hx rfl (hb hby d1_93) rfl k) ?_
    refine own_by (fun _ k => XS.ladd X459.here hx rfl (hb hby d1_94) rfl k) ?_
    refine own_by (fun _ k => XS.lstore X459.here hx rfl (hb hby d1_95) rfl (l' := #[.val (.ref gp), .val (.int (Int32.ofNat nv)), .val (.int (Int32.ofNat nf)), .val (.int (Int32.ofNat na)), .val (.int (Int32.ofNat nd)), .val (.long (1000000 : Int64)), .second, .val (.long tp), .second, .val (.long ((((Int32.ofNat nf).toInt64) * tp) + (((Int32.ofNat nv).toInt64) * ((Int32.ofNat nd).toInt64)))), .second]) rfl k) ?_
    show own_Go p e below _ T459 (mkF m 97 #[.val (.ref gp), .val (.int (Int32.ofNat nv)), .val (.int (Int32.ofNat nf)), .val (.int (Int32.ofNat na)), .val (.int (Int32.ofNat nd)), .val (.long (1000000 : Int64)), .second, .val (.long tp), .second, .val (.long ((((Int32.ofNat nf).toInt64) * tp) + (((Int32.ofNat nv).toInt64) * ((Int32.ofNat nd).toInt64)))), .second] [])
    refine own_by (fun _ k => XS.lload X459.here hx rfl (hb hby d1_97) rfl k) ?_
    refine own_by (fun _ k => XS.lload X459.here hx rfl (hb hby d1_99) rfl k) ?_
    refine own_by (fun _ k => XS.lcmp X459.here hx rfl (hb hby d1_101) rfl k) ?_
    have hlg := own_lg ht hf hv.2 hd.2
    refine own_by (fun _ k => XS.ifNo X459.here hx rfl (hb hby d1_102) rfl ((if0 _ _).trans (flt (fun q => absurd ((lw_gt _ _).mp q) (own_lg1 (by omega)) : ¬ ((0 : Int32) < (lcmpW ((((Int32.ofNat nf).toInt64) * tp) + (((Int32.ofNat nv).toInt64) * ((Int32.ofNat nd).toInt64))) (1000000 : Int64))))).2.2.1) k) ?_
    refine own_by (fun _ k => XS.lload X459.here hx rfl (hb hby d1_105) rfl k) ?_
    refine own_by (fun _ k => XS.iloadN X459.here hx rfl (hb hby d1_107) rfl k) ?_
    refine own_by (fun _ k => XS.i2l X459.here hx rfl (hb hby d1_108) rfl k) ?_
    refine own_by (fun _ k => XS.lmul X459.here hx rfl (hb hby d1_109) rfl k) ?_
    refine own_by (fun _ k => XS.lload X459.here hx rfl (hb hby d1_110) rfl k) ?_
    show own_Go p e below _ T459 (mkF m 112 #[.val (.ref gp), .val (.int (Int32.ofNat nv)), .val (.int (Int32.ofNat nf)), .val (.int (Int32.ofNat na)), .val (.int (Int32.ofNat nd)), .val (.long (1000000 : Int64)), .second, .val (.long tp), .second, .val (.long ((((Int32.ofNat nf).toInt64) * tp) + (((Int32.ofNat nv).toInt64) * ((Int32.ofNat nd).toInt64)))), .second] [(.long (1000000 : Int64)), (.long (((((Int32.ofNat nf).toInt64) * tp) + (((Int32.ofNat nv).toInt64) * ((Int32.ofNat nd).toInt64))) * ((Int32.ofNat na).toInt64)))])
    refine own_by (fun _ k => XS.lcmp X459.here hx rfl (hb hby d1_112) rfl k) ?_
    refine own_by (fun _ k => XS.ifYes X459.here hx rfl (pc0 := 113) (pc' := 185) rfl (hb hby d1_113) rfl ((if0 _ _).trans (flt (fun q => absurd ((lw_gt _ _).mp q) (own_lg2 hlg ha.2) : ¬ ((0 : Int32) < (lcmpW (((((Int32.ofNat nf).toInt64) * tp) + (((Int32.ofNat nv).toInt64) * ((Int32.ofNat nd).toInt64))) * ((Int32.ofNat na).toInt64)) (1000000 : Int64))))).2.2.2) (by decide) (by decide) k) ?_
    refine own_by (fun _ k => XS.aloadN X459.here hx rfl (hb hby d1_185) rfl rfl k) ?_
    refine own_by (fun _ k => XS.iloadN X459.here hx rfl (hb hby d1_186) rfl k) ?_
    have f461 := ((((Fnv.ext E446).ext E449).ext E452).ext E455)
    have f462 := ((((Eg.ext E446).ext E449).ext E452).ext E455)
    obtain ⟨T460, h460, X460, e460, W460, st460⟩ := putF X459 hx hZ hown (host := "") (Or.inl (hw _ (List.mem_of_getElem? (i := 51) rfl))) Via.refl e459 f461 f462 (Or.inr ⟨(hw _ (List.mem_of_getElem? (i := 52) rfl)), rfl, hnm⟩) (hw _ (List.mem_of_getElem? (i := 21) rfl)) (ty := .int) (by decide) rfl rfl (g := (mkF m 187 #[.val (.ref gp), .val (.int (Int32.ofNat nv)), .val (.int (Int32.ofNat nf)), .val (.int (Int32.ofNat na)), .val (.int (Int32.ofNat nd)), .val (.long (1000000 : Int64)), .second, .val (.long tp), .second, .val (.long ((((Int32.ofNat nf).toInt64) * tp) + (((Int32.ofNat nv).toInt64) * ((Int32.ofNat nd).toInt64)))), .second] [(.int (Int32.ofNat nv)), (.ref gp)])) rfl rfl (hb hby d1_187)
    refine own_by st460 ?_
    have N460 := Fr.snoc X460 N459 g1
    have fw460 := f461.same W460
    have K463 := K456.wr W460 (Or.inl (List.mem_of_getElem? (i := 0) rfl))
    have Z460 : n0 ≤ h460.size := Nat.le_trans Z455 (Keep.of_wr W460).1
    have kz464 : _ ≤ h460.size := Nat.le_trans kz455 (Keep.of_wr W460).1
    refine own_by (fun _ k => XS.aloadN X460.here hx rfl (hb hby d1_190) rfl rfl k) ?_
    refine own_by (fun _ k => XS.iloadN X460.here hx rfl (hb hby d1_191) rfl k) ?_
    have f466 := (((((Fnf.ext E446).ext E449).ext E452).ext E455).other W460 (Or.inr (slot_ne (Or.inr (hw _ (List.mem_of_getElem? (i := 54) rfl))) (Or.inr (hw _ (List.mem_of_getElem? (i := 52) rfl))) (by decide) (t := .int) (t' := .int) (by decide) (by decide))))
    have f467 := (f462.wr W460)
    obtain ⟨T465, h465, X465, e465, W465, st465⟩ := putF X460 hx hZ hown (host := "") (Or.inl (hw _ (List.mem_of_getElem? (i := 53) rfl))) Via.refl e460 f466 f467 (Or.inr ⟨(hw _ (List.mem_of_getElem? (i := 54) rfl)), rfl, hnm⟩) (hw _ (List.mem_of_getElem? (i := 21) rfl)) (ty := .int) (by decide) rfl rfl (g := (mkF m 192 #[.val (.ref gp), .val (.int (Int32.ofNat nv)), .val (.int (Int32.ofNat nf)), .val (.int (Int32.ofNat na)), .val (.int (Int32.ofNat nd)), .val (.long (1000000 : Int64)), .second, .val (.long tp), .second, .val (.long ((((Int32.ofNat nf).toInt64) * tp) + (((Int32.ofNat nv).toInt64) * ((Int32.ofNat nd).toInt64)))), .second] [(.int (Int32.ofNat nf)), (.ref gp)])) rfl rfl (hb hby d1_192)
    refine own_by st465 ?_
    have N465 := Fr.snoc X465 N460 g1
    have fw465 := f466.same W465
    have K468 := K463.wr W465 (Or.inl (List.mem_of_getElem? (i := 0) rfl))
    have Z465 : n0 ≤ h465.size := Nat.le_trans Z460 (Keep.of_wr W465).1
    have kz469 : _ ≤ h465.size := Nat.le_trans kz464 (Keep.of_wr W465).1
    refine own_by (fun _ k => XS.aloadN X465.here hx rfl (hb hby d1_195) rfl rfl k) ?_
    show own_Go p e below _ T465 (mkF m 196 #[.val (.ref gp), .val (.int (Int32.ofNat nv)), .val (.int (Int32.ofNat nf)), .val (.int (Int32.ofNat na)), .val (.int (Int32.ofNat nd)), .val (.long (1000000 : Int64)), .second, .val (.long tp), .second, .val (.long ((((Int32.ofNat nf).toInt64) * tp) + (((Int32.ofNat nv).toInt64) * ((Int32.ofNat nd).toInt64)))), .second] [(.ref gp)])
    refine own_by (fun _ k => XS.iloadN X465.here hx rfl (hb hby d1_196) rfl k) ?_
    have f471 := ((((((Fna.ext E446).ext E449).ext E452).ext E455).other W460 (Or.inr (slot_ne (Or.inr (hw _ (List.mem_of_getElem? (i := 56) rfl))) (Or.inr (hw _ (List.mem_of_getElem? (i := 52) rfl))) (by decide) (t := .int) (t' := .int) (by decide) (by decide)))).other W465 (Or.inr (slot_ne (Or.inr (hw _ (List.mem_of_getElem? (i := 56) rfl))) (Or.inr (hw _ (List.mem_of_getElem? (i := 54) rfl))) (by decide) (t := .int) (t' := .int) (by decide) (by decide))))
    have f472 := (f467.wr W465)
    obtain ⟨T470, h470, X470, e470, W470, st470⟩ := putF X465 hx hZ hown (host := "") (Or.inl (hw _ (List.mem_of_getElem? (i := 55) rfl))) Via.refl e465 f471 f472 (Or.inr ⟨(hw _ (List.mem_of_getElem? (i := 56) rfl)), rfl, hnm⟩) (hw _ (List.mem_of_getElem? (i := 21) rfl)) (ty := .int) (by decide) rfl rfl (g := (mkF m 197 #[.val (.ref gp), .val (.int (Int32.ofNat nv)), .val (.int (Int32.ofNat nf)), .val (.int (Int32.ofNat na)), .val (.int (Int32.ofNat nd)), .val (.long (1000000 : Int64)), .second, .val (.long tp), .second, .val (.long ((((Int32.ofNat nf).toInt64) * tp) + (((Int32.ofNat nv).toInt64) * ((Int32.ofNat nd).toInt64)))), .second] [(.int (Int32.ofNat na)), (.ref gp)])) rfl rfl (hb hby d1_197)
    refine own_by st470 ?_
    have N470 := Fr.snoc X470 N465 g1
    have fw470 := f471.same W470
    have K473 := K468.wr W470 (Or.inl (List.mem_of_getElem? (i := 0) rfl))
    have Z470 : n0 ≤ h470.size := Nat.le_trans Z465 (Keep.of_wr W470).1
    have kz474 : _ ≤ h470.size := Nat.le_trans kz469 (Keep.of_wr W470).1
    refine own_by (fun _ k => XS.aloadN X470.here hx rfl (hb hby d1_200) rfl rfl k) ?_
    refine own_by (fun _ k => XS.iload X470.here hx rfl (hb hby d1_201) rfl k) ?_
    have f476 := (((((((Fnd.ext E446).ext E449).ext E452).ext E455).other W460 (Or.inr (slot_ne (Or.inr (hw _ (List.mem_of_getElem? (i := 58) rfl))) (Or.inr (hw _ (List.mem_of_getElem? (i := 52) rfl))) (by decide) (t := .int) (t' := .int) (by decide) (by decide)))).other W465 (Or.inr (slot_ne (Or.inr (hw _ (List.mem_of_getElem? (i := 58) rfl))) (Or.inr (hw _ (List.mem_of_getElem? (i := 54) rfl))) (by decide) (t := .int) (t' := .int) (by decide) (by decide)))).other W470 (Or.inr (slot_ne (Or.inr (hw _ (List.mem_of_getElem? (i := 58) rfl))) (Or.inr (hw _ (List.mem_of_getElem? (i := 56) rfl))) (by decide) (t := .int) (t' := .int) (by decide) (by decide))))
    have f477 := (f472.wr W470)
    obtain ⟨T475, h475, X475, e475, W475, st475⟩ := putF X470 hx hZ hown (host := "") (Or.inl (hw _ (List.mem_of_getElem? (i := 57) rfl))) Via.refl e470 f476 f477 (Or.inr ⟨(hw _ (List.mem_of_getElem? (i := 58) rfl)), rfl, hnm⟩) (hw _ (List.mem_of_getElem? (i := 21) rfl)) (ty := .int) (by decide) rfl rfl (g := (mkF m 203 #[.val (.ref gp), .val (.int (Int32.ofNat nv)), .val (.int (Int32.ofNat nf)), .val (.int (Int32.ofNat na)), .val (.int (Int32.ofNat nd)), .val (.long (1000000 : Int64)), .second, .val (.long tp), .second, .val (.long ((((Int32.ofNat nf).toInt64) * tp) + (((Int32.ofNat nv).toInt64) * ((Int32.ofNat nd).toInt64)))), .second] [(.int (Int32.ofNat nd)), (.ref gp)])) rfl rfl (hb hby d1_203)
    refine own_by st475 ?_
    have N475 := Fr.snoc X475 N470 g1
    have fw475 := f476.same W475
    have K478 := K473.wr W475 (Or.inl (List.mem_of_getElem? (i := 0) rfl))
    have Z475 : n0 ≤ h475.size := Nat.le_trans Z470 (Keep.of_wr W475).1
    have kz479 : _ ≤ h475.size := Nat.le_trans kz474 (Keep.of_wr W475).1
    have f480 := (f477.wr W475)
    have f481 := (((fw460.other W465 (Or.inr (slot_ne (Or.inr (hw _ (List.mem_of_getElem? (i := 52) rfl))) (Or.inr (hw _ (List.mem_of_getElem? (i := 54) rfl))) (by decide) (t := .int) (t' := .int) (by decide) (by decide)))).other W470 (Or.inr (slot_ne (Or.inr (hw _ (List.mem_of_getElem? (i := 52) rfl))) (Or.inr (hw _ (List.mem_of_getElem? (i := 56) rfl))) (by decide) (t := .int) (t' := .int) (by decide) (by decide)))).other W475 (Or.inr (slot_ne (Or.inr (hw _ (List.mem_of_getElem? (i := 52) rfl))) (Or.inr (hw _ (List.mem_of_getElem? (i := 58) rfl))) (by decide) (t := .int) (t' := .int) (by decide) (by decide))))
    have f482 := ((fw465.other W470 (Or.inr (slot_ne (Or.inr (hw _ (List.mem_of_getElem? (i := 54) rfl))) (Or.inr (hw _ (List.mem_of_getElem? (i := 56) rfl))) (by decide) (t := .int) (t' := .int) (by decide) (by decide)))).other W475 (Or.inr (slot_ne (Or.inr (hw _ (List.mem_of_getElem? (i := 54) rfl))) (Or.inr (hw _ (List.mem_of_getElem? (i := 58) rfl))) (by decide) (t := .int) (t' := .int) (by decide) (by decide))))
    have f483 := (fw470.other W475 (Or.inr (slot_ne (Or.inr (hw _ (List.mem_of_getElem? (i := 56) rfl))) (Or.inr (hw _ (List.mem_of_getElem? (i := 58) rfl))) (by decide) (t := .int) (t' := .int) (by decide) (by decide))))
    exact own_ret0W X475 hx hlk S455 kz479 e475 hret (hb hby d1_206) (by first | exact ⟨rfl, N475, K478, f480, f481, f482, f483, fw475, own_ibX X475 I455⟩ | (rw [e475]; exact ⟨rfl, N475, K478, f480, f481, f482, f483, fw475, own_ibX X475 I455⟩)) (by decide) (by decide)
  have J44 : ∀ (r : Nat) (T484 : State) (L484 : List Loc) (X484 : Stand p l e ({ frames := 1, cells := 8, slots := 540, locals := 30 } : Room) (s.setVm T455.vm) m #[(.ref gp), (.int (Int32.ofNat nv)), (.int (Int32.ofNat nf)), (.int (Int32.ofNat na)), (.int (Int32.ofNat nd))] below meth c T484 L484 8 528) (e484 : T484.heap = h455) (N484 : Fr n0 L484) (i : Nat) (tp : Int64) (hr : 5 ≤ i + r) (hi : i ≤ 4) (ht : 0 ≤ tp.toInt ∧ tp.toInt ≤ 9 ^ i), own_Go p e below (own_EndW s ({ frames := 1, cells := 8, slots := 540, locals := 30 } : Room).cells ({ frames := 1, cells := 8, slots := 540, locals := 30 } : Room).slots (Q_rm1 Z gp nv nf na nd w1 d1 d2 kd1 kd2 fm h0 n0)) T484 (mkF m 44 #[.val (.ref gp), .val (.int (Int32.ofNat nv)), .val (.int (Int32.ofNat nf)), .val (.int (Int32.ofNat na)), .val (.int (Int32.ofNat nd)), .val (.long (1000000 : Int64)), .second, .val (.long tp), .second, .val (.int (Int32.ofNat i)), .unset] []) := by
    intro r
    induction r with
    | zero =>
      intro T484 L484 X484 e484 N484 i tp hr hi ht
      omega
    | succ r ih =>
      intro T484 L484 X484 e484 N484 i tp hr hi ht
      show own_Go p e below _ T484 (mkF m 44 #[.val (.ref gp), .val (.int (Int32.ofNat nv)), .val (.int (Int32.ofNat nf)), .val (.int (Int32.ofNat na)), .val (.int (Int32.ofNat nd)), .val (.long (1000000 : Int64)), .second, .val (.long tp), .second, .val (.int (Int32.ofNat i)), .unset] [])
      refine own_by (fun _ k => XS.iload X484.here hx rfl (hb hby d1_44) rfl k) ?_
      refine own_by (fun _ k => XS.iconst X484.here hx rfl (hb hby d1_46) k) ?_
      refine own_by (fun _ k => XS.iloadN X484.here hx rfl (hb hby d1_47) rfl k) ?_
      obtain ⟨_, T485, L485, X485, ⟨rfl, N485q, e485⟩, st485⟩ := own_callS X484 hx hZ hown (y := (⟨"java/lang/Math", "min", "(II)I"⟩ : MethodName)) (hw _ (List.mem_of_getElem? (i := 44) rfl)) (hw _ (List.mem_of_getElem? (i := 45) rfl)) (hw _ (List.mem_of_getElem? (i := 46) rfl)) (hw _ (List.mem_of_getElem? (i := 47) rfl)) (by decide) (argsL := [(.int (4 : Int32)), (.int (Int32.ofNat nv))]) (rest := [(.int (Int32.ofNat i))]) e484 (rm4 l Z a0 hw [] (4 : Int32) (Int32.ofNat nv) h455 n0 Z455 ) (g := (mkF m 48 #[.val (.ref gp), .val (.int (Int32.ofNat nv)), .val (.int (Int32.ofNat nf)), .val (.int (Int32.ofNat na)), .val (.int (Int32.ofNat nd)), .val (.long (1000000 : Int64)), .second, .val (.long tp), .second, .val (.int (Int32.ofNat i)), .unset] [(.int (Int32.ofNat nv)), (.int (4 : Int32)), (.int (Int32.ofNat i))])) rfl (by rw [hml]; rfl) (lenOf pd_0 rfl) rfl (W := 1) (by show 2 * 0 + _ ≤ _; exact Nat.le_of_eq rfl) (hb hby d1_48) (by decide) (by decide) (by decide) (by decide)
      have N485 := Fr.app N484 N485q
      refine own_by st485 ?_
      show own_Go p e below _ T485 (mkF m 51 #[.val (.ref gp), .val (.int (Int32.ofNat nv)), .val (.int (Int32.ofNat nf)), .val (.int (Int32.ofNat na)), .val (.int (Int32.ofNat nd)), .val (.long (1000000 : Int64)), .second, .val (.long tp), .second, .val (.int (Int32.ofNat i)), .unset] [(.int (own_imin (4 : Int32) (Int32.ofNat nv))), (.int (Int32.ofNat i))])
      rw [show (own_imin (4 : Int32) (Int32.ofNat nv)) = (Int32.ofNat (min 4 nv)) from own_min4 (by omega)]
      by_cases hi2 : min 4 nv ≤ i
      · refine own_by (fun _ k => XS.icmpYes X485.here hx rfl (pc0 := 51) (pc' := 76) rfl (hb hby d1_51) rfl (flt (fun q => by have := (own_lt (by omega) (by omega)).mp q; omega : ¬ ((Int32.ofNat i) < (Int32.ofNat (min 4 nv))))).2.1 (by decide) (by decide) k) ?_
        have h9 := own_9 hi
        exact J76 T485 _ X485 e485 N485 _ tp ⟨ht.1, by omega⟩
      · refine own_by (fun _ k => XS.icmpNo X485.here hx rfl (hb hby d1_51) rfl (tlt ((own_lt (by omega) (by omega)).mpr (by omega) : (Int32.ofNat i) < (Int32.ofNat (min 4 nv)))).2.1 k) ?_
        refine own_by (fun _ k => XS.lload X485.here hx rfl (hb hby d1_54) rfl k) ?_
        refine own_by (fun _ k => XS.lload X485.here hx rfl (hb hby d1_56) rfl k) ?_
        refine own_by (fun _ k => XS.lcmp X485.here hx rfl (hb hby d1_58) rfl k) ?_
        have h9 := own_9 hi
        refine own_by (fun _ k => XS.ifNo X485.here hx rfl (hb hby d1_59) rfl ((if0 _ _).trans (flt (fun q => absurd ((lw_gt _ _).mp q) (own_lg1 (by omega)) : ¬ ((0 : Int32) < (lcmpW tp (1000000 : Int64))))).2.2.1) k) ?_
        refine own_by (fun _ k => XS.lload X485.here hx rfl (hb hby d1_62) rfl k) ?_
        refine own_by (fun _ k => XS.iload X485.here hx rfl (hb hby d1_64) rfl k) ?_
        refine own_by (fun _ k => XS.i2l X485.here hx rfl (hb hby d1_66) rfl k) ?_
        show own_Go p e below _ T485 (mkF m 67 #[.val (.ref gp), .val (.int (Int32.ofNat nv)), .val (.int (Int32.ofNat nf)), .val (.int (Int32.ofNat na)), .val (.int (Int32.ofNat nd)), .val (.long (1000000 : Int64)), .second, .val (.long tp), .second, .val (.int (Int32.ofNat i)), .unset] [(.long ((Int32.ofNat nd).toInt64)), (.long tp)])
        refine own_by (fun _ k => XS.lmul X485.here hx rfl (hb hby d1_67) rfl k) ?_
        refine own_by (fun _ k => XS.lstore X485.here hx rfl (hb hby d1_68) rfl (l' := #[.val (.ref gp), .val (.int (Int32.ofNat nv)), .val (.int (Int32.ofNat nf)), .val (.int (Int32.ofNat na)), .val (.int (Int32.ofNat nd)), .val (.long (1000000 : Int64)), .second, .val (.long (tp * ((Int32.ofNat nd).toInt64))), .second, .val (.int (Int32.ofNat i)), .unset]) rfl k) ?_
        refine own_by (fun _ k => XS.iinc X485.here hx rfl (hb hby d1_70) rfl (l' := #[.val (.ref gp), .val (.int (Int32.ofNat nv)), .val (.int (Int32.ofNat nf)), .val (.int (Int32.ofNat na)), .val (.int (Int32.ofNat nd)), .val (.long (1000000 : Int64)), .second, .val (.long (tp * ((Int32.ofNat nd).toInt64))), .second, .val (.int ((Int32.ofNat i) + (1 : Int32))), .unset]) rfl k) ?_
        refine own_by (fun _ k => XS.goto X485.here hx rfl (pc0 := 73) (pc' := 44) rfl (hb hby d1_73) (by decide) (by decide) k) ?_
        show own_Go p e below _ T485 (mkF m 44 #[.val (.ref gp), .val (.int (Int32.ofNat nv)), .val (.int (Int32.ofNat nf)), .val (.int (Int32.ofNat na)), .val (.int (Int32.ofNat nd)), .val (.long (1000000 : Int64)), .second, .val (.long (tp * ((Int32.ofNat nd).toInt64))), .second, .val (.int ((Int32.ofNat i) + (1 : Int32))), .unset] [])
        rw [show Int32.ofNat i + (1 : Int32) = Int32.ofNat (i + 1) from own_add (b := 1) (by omega) (by omega)]
        exact ih T485 _ X485 e485 N485 (i + 1) _ (by omega) (by omega) (own_tup ht (by omega) hd.2)
  exact J44 5 T457 _ X457 e457 N457 0 1 (by omega) (by omega) (by decide)
def own_Lv (Z : State) (vm : Vm) (a : Addr) : Prop := Lit (Z.setVm vm) "com/example/regretta/regretta/GroupProblemGeneratorDescriptionPinLaw" 73 a
theorem own_LvX {p : Program} {l : Launch} {e : Env} {R : Room} {s : State} {m : MethodId} {args : Array Value} {below : List Frame} {meth : Method} {c : Code} {T : State} {locs : List Loc} {cells slots : Nat} {Z : State} {vm0 : Vm} {a : Addr} (X : Stand p l e R (s.setVm vm0) m args below meth c T locs cells slots) (L : own_Lv Z vm0 a) : own_Lv Z T.vm a := Lit.stays (s := s) (vm0 := vm0) (vm1 := T.vm) L X.warmed.wide
theorem own_LvW {s Z : State} {vm0 vm1 : Vm} {a : Addr} (L : own_Lv Z vm0 a) (hv : (s.setVm vm0).WarmedH vm1) : own_Lv Z vm1 a := Lit.stays (s := s) (vm0 := vm0) (vm1 := vm1) L hv.wide
def Q_rm40c (Z : State) (sx tx : Addr) (kx : ClassId) (ys : List Int32) (i : Nat) (w1 : Int32) (d1 d2 : Addr) (kd1 kd2 : ClassId) (fm : Value) (h0 : Heap) (n0 : Nat) (v : Option Value) (h : Heap) (L : List Loc) (vm : Vm) : Prop := v = some (.int 1) ∧ Fr n0 L ∧ ∃ (lr lt : Addr) (kl : ClassId), Keep h0 h [] ∧ Exa Z h lr "java/lang/String" ∧ Fld Z h lr "java/lang/String" "coder" "B" (.int (0 : Int32)) ∧ Fld Z h lr "java/lang/String" "value" "[B" (.ref lt) ∧ Arv Z h lt kl .byte (Int32.ofNat own_lR.length) (own_lR.map Value.int) (.int 0) ∧ own_Lv Z vm lr
theorem pn_rm40c : plainFor (⟨"com/example/regretta/regretta/GroupProblemGeneratorDescriptionPinLaw", "eq", "(Ljava/lang/String;I)Z"⟩ : MethodName) = true := by first | exact plainFor_of_name (by first | (simp [plainName, overriddenIn, x]; done) | decide +kernel) | decide +kernel
theorem d40_0 : decode method_3_code 0 = .ok (.ldc 73, 2) := by decide +kernel
theorem d40_2 : decode method_3_code 2 = .ok (.iload_n 1, 1) := by decide +kernel
theorem pd_31 : parseMethodDescriptor "(I)C" = some ⟨[.int], some .char⟩ := by decide +kernel
theorem d40_3 : decode method_3_code 3 = .ok (.invokevirtual 65, 3) := by decide +kernel
theorem d40_6 : decode method_3_code 6 = .ok (.istore_n 2, 1) := by decide +kernel
theorem d40_7 : decode method_3_code 7 = .ok (.iload_n 2, 1) := by decide +kernel
theorem d40_8 : decode method_3_code 8 = .ok (.bipush 35, 2) := by decide +kernel
theorem d40_10 : decode method_3_code 10 = .ok (.if_icmp .eq 12, 3) := by decide +kernel
theorem d40_22 : decode method_3_code 22 = .ok (.iconst 1, 1) := by decide +kernel
theorem d40_23 : decode method_3_code 23 = .ok (.goto 4, 3) := by decide +kernel
theorem d40_27 : decode method_3_code 27 = .ok (.ireturn, 1) := by decide +kernel
theorem d40_13 : decode method_3_code 13 = .ok (.aload_n 0, 1) := by decide +kernel
theorem d40_14 : decode method_3_code 14 = .ok (.iload_n 1, 1) := by decide +kernel
theorem d40_15 : decode method_3_code 15 = .ok (.invokevirtual 65, 3) := by decide +kernel
theorem d40_18 : decode method_3_code 18 = .ok (.iload_n 2, 1) := by decide +kernel
theorem d40_19 : decode method_3_code 19 = .ok (.if_icmp .ne 7, 3) := by decide +kernel
set_option maxRecDepth 65536 in
set_option maxHeartbeats 40000000 in
theorem rm40c (l : Launch) (Z : State) (a0 : Array Value) (hw : ∀ d ∈ tables_1, d.before a0 Z = true) (ws : List Jvm.Cond) (sx tx : Addr) (kx : ClassId) (ys : List Int32) (i : Nat) (w1 : Int32) (d1 d2 : Addr) (kd1 kd2 : ClassId) (fm : Value) (h0 : Heap) (n0 : Nat) (Z0 : n0 ≤ h0.size) (hz : Z.heap.size ≤ n0) (hkz : own_K Z h0) (TB : own_Tb Z w1 d1 d2 kd1 kd2 fm) (Ex : Exa Z h0 sx "java/lang/String") (Cx : Fld Z h0 sx "java/lang/String" "coder" "B" (.int (0 : Int32))) (Vx : Fld Z h0 sx "java/lang/String" "value" "[B" (.ref tx)) (Ax : Arv Z h0 tx kx .byte (Int32.ofNat ys.length) (ys.map Value.int) (.int 0)) (hi : i < 79) (hl79 : 79 ≤ ys.length) (hn : ys.length ≤ 10000) (hy : own_asc ys) (hP : ∀ i, i < 79 → own_lR.getD i 0 = 35 ∨ ys.getD i 0 = own_lR.getD i 0) (hcR : Jvm.Lit.constHeld Z "com/example/regretta/regretta/GroupProblemGeneratorDescriptionPinLaw" 73) (hcw : Jvm.Lit.compactW.before a0 Z = true) :
    own_MetW l Z (⟨"com/example/regretta/regretta/GroupProblemGeneratorDescriptionPinLaw", "eq", "(Ljava/lang/String;I)Z"⟩ : MethodName) method_3_code 3 (some .boolean) ws ({ frames := 4, cells := 2, slots := 320, locals := 62 } : Room) #[(.ref sx), (.int (Int32.ofNat i))] h0 (fun vm => IB Z vm [" --seed ", " --domain ", " --agents ", " --factors ", "regretta generate group --variables ", "a variable takes at least 1 value", "a group has at least 1 agent", "a group has at least 0 drawn factors", "a group has at least 1 variable"]) (Q_rm40c Z sx tx kx ys i w1 d1 d2 kd1 kd2 fm h0 n0) := by
  refine own_enterW (g0 := fun m => (mkF m 0 #[.val (.ref sx), .val (.int (Int32.ofNat i)), .unset] [])) pn_rm40c (fun m => by first | (simp [entryFrame, mkF, argsToLocals, Value.category, maxLocals]; done) | rfl) ?_
  intro p e s m below meth c s₁ hx hby hml hown hnm hret hlk hZ I0 X0 e0 es
  have hml : c.maxLocals = 3 := hml
  have hown : (s.setVm s.vm).vm.findClass "com/example/regretta/regretta/GroupProblemGeneratorDescriptionPinLaw" = some m.cls := hown
  have N0 := Fr.nil n0
  have S0 : s.Since s.vm 0 := (State.WarmedH.refl s).since 0
  have kz0 : 0 ≤ h0.size := Nat.zero_le _
  have K0 := Keep.refl h0 []
  obtain ⟨a486, T486, h486, k486w, b486, k486, X486, e486, E486, S486, kz486, hZ, hown, Ea486, Ca486, Va486, Ab486, la486, lb486, I486, Lt486, st486⟩ := ldcSVL X0 hx hZ hown (hw _ (List.mem_of_getElem? (i := 246) rfl)) (own_sa hw) e0 S0 kz0 (Fr.nil _) (by rw [es]; exact hkz) I0 (by decide +kernel) hcR hcw (vs := own_lR.map Value.int) (z := Int32.ofNat own_lR.length) ⟨by decide +kernel, by decide +kernel⟩ (by decide +kernel) (by decide +kernel) (g := (mkF m 0 #[.val (.ref sx), .val (.int (Int32.ofNat i)), .unset] [])) rfl (hb hby d40_0) (n := 316) (by decide +kernel) (by decide) (by decide) (by decide)
  have K487 := K0.ext E486
  have Z486 : n0 ≤ h486.size := Nat.le_trans Z0 E486.1
  refine own_by st486 ?_
  refine own_by (fun _ k => XS.iloadN X486.here hx rfl (hb hby d40_2) rfl k) ?_
  have hk488 : own_K Z h486 := own_KW hkz K487 all0
  obtain ⟨_, T489, L489, X489, ⟨rfl, N489q, e489⟩, st489⟩ := own_callV X486 hx hZ hown (y := (⟨"java/lang/String", "charAt", "(I)C"⟩ : MethodName)) (C := "java/lang/String") (hw _ (List.mem_of_getElem? (i := 247) rfl)) (hw _ (List.mem_of_getElem? (i := 248) rfl)) (hw _ (List.mem_of_getElem? (i := 250) rfl)) (hw _ (List.mem_of_getElem? (i := 249) rfl)) (hw _ (List.mem_of_getElem? (i := 30) rfl)) (hw _ (List.mem_of_getElem? (i := 251) rfl)) (by decide) (a := a486) Ea486 (argsL := [(.int (Int32.ofNat i))]) (rest := []) e486 (rm41 l Z a0 hw [] a486 b486 k486 own_lR i w1 d1 d2 kd1 kd2 fm h486 n0 Z486 hz hk488 TB Ea486 Ca486 Va486 Ab486 hi (by decide) own_lRasc) (g := (mkF m 3 #[.val (.ref sx), .val (.int (Int32.ofNat i)), .unset] [(.int (Int32.ofNat i)), (.ref a486)])) rfl (by rw [hml]; rfl) (lenOf pd_31 rfl) rfl (W := 0) (by show 2 * 0 + _ ≤ _; exact Nat.le_of_eq rfl) (hb hby d40_3) (by decide) (by decide) (by decide) (by decide)
  have N489 := Fr.app N0 N489q
  refine own_by st489 ?_
  refine own_by (fun _ k => XS.istoreN X489.here hx rfl (hb hby d40_6) rfl (l' := #[.val (.ref sx), .val (.int (Int32.ofNat i)), .val (.int (own_lR.getD i 0))]) rfl k) ?_
  refine own_by (fun _ k => XS.iloadN X489.here hx rfl (hb hby d40_7) rfl k) ?_
  refine own_by (fun _ k => XS.bipush X489.here hx rfl (hb hby d40_8) k) ?_
  by_cases h35 : (own_lR.getD i 0) = (35 : Int32)
  · refine own_by (fun _ k => XS.icmpYes X489.here hx rfl (pc0 := 10) (pc' := 22) rfl (hb hby d40_10) rfl (teq (h35 : (own_lR.getD i 0) = (35 : Int32))).1 (by decide) (by decide) k) ?_
    refine own_by (fun _ k => XS.iconst X489.here hx rfl (hb hby d40_22) k) ?_
    show own_Go p e below _ T489 (mkF m 23 #[.val (.ref sx), .val (.int (Int32.ofNat i)), .val (.int (own_lR.getD i 0))] [(.int (1 : Int32))])
    refine own_by (fun _ k => XS.goto X489.here hx rfl (pc0 := 23) (pc' := 27) rfl (hb hby d40_23) (by decide) (by decide) k) ?_
    exact own_retNW X489 hx hlk S486 kz486 e489 hret (by simp) rfl (hb hby d40_27) (by first | exact ⟨rfl, N489, a486, b486, k486, K487, Ea486, Ca486, Va486, Ab486, own_LvX X489 Lt486⟩ | (rw [e489]; exact ⟨rfl, N489, a486, b486, k486, K487, Ea486, Ca486, Va486, Ab486, own_LvX X489 Lt486⟩)) (by decide) (by decide)
  · refine own_by (fun _ k => XS.icmpNo X489.here hx rfl (hb hby d40_10) rfl (feq (h35 : ¬ ((own_lR.getD i 0) = (35 : Int32)))).1 k) ?_
    refine own_by (fun _ k => XS.aloadN X489.here hx rfl (hb hby d40_13) rfl rfl k) ?_
    show own_Go p e below _ T489 (mkF m 14 #[.val (.ref sx), .val (.int (Int32.ofNat i)), .val (.int (own_lR.getD i 0))] [(.ref sx)])
    refine own_by (fun _ k => XS.iloadN X489.here hx rfl (hb hby d40_14) rfl k) ?_
    have f490 := (Ex.ext E486)
    have f491 := (Cx.ext E486)
    have f492 := (Vx.ext E486)
    have f493 := (Ax.ext E486)
    obtain ⟨_, T494, L494, X494, ⟨rfl, N494q, e494⟩, st494⟩ := own_callV X489 hx hZ hown (y := (⟨"java/lang/String", "charAt", "(I)C"⟩ : MethodName)) (C := "java/lang/String") (hw _ (List.mem_of_getElem? (i := 247) rfl)) (hw _ (List.mem_of_getElem? (i := 248) rfl)) (hw _ (List.mem_of_getElem? (i := 250) rfl)) (hw _ (List.mem_of_getElem? (i := 249) rfl)) (hw _ (List.mem_of_getElem? (i := 30) rfl)) (hw _ (List.mem_of_getElem? (i := 251) rfl)) (by decide) (a := sx) f490 (argsL := [(.int (Int32.ofNat i))]) (rest := []) e489 (rm41 l Z a0 hw [] sx tx kx ys i w1 d1 d2 kd1 kd2 fm h486 n0 Z486 hz hk488 TB f490 f491 f492 f493 (by omega) hn hy) (g := (mkF m 15 #[.val (.ref sx), .val (.int (Int32.ofNat i)), .val (.int (own_lR.getD i 0))] [(.int (Int32.ofNat i)), (.ref sx)])) rfl (by rw [hml]; rfl) (lenOf pd_31 rfl) rfl (W := 0) (by show 2 * 0 + _ ≤ _; exact Nat.le_of_eq rfl) (hb hby d40_15) (by decide) (by decide) (by decide) (by decide)
    have N494 := Fr.app N489 N494q
    refine own_by st494 ?_
    refine own_by (fun _ k => XS.iloadN X494.here hx rfl (hb hby d40_18) rfl k) ?_
    refine own_by (fun _ k => XS.icmpNo X494.here hx rfl (hb hby d40_19) rfl (teq ((hP i hi).resolve_left h35 : (ys.getD i 0) = (own_lR.getD i 0))).2 k) ?_
    refine own_by (fun _ k => XS.iconst X494.here hx rfl (hb hby d40_22) k) ?_
    refine own_by (fun _ k => XS.goto X494.here hx rfl (pc0 := 23) (pc' := 27) rfl (hb hby d40_23) (by decide) (by decide) k) ?_
    exact own_retNW X494 hx hlk S486 kz486 e494 hret (by simp) rfl (hb hby d40_27) (by first | exact ⟨rfl, N494, a486, b486, k486, K487, Ea486, Ca486, Va486, Ab486, own_LvX X494 Lt486⟩ | (rw [e494]; exact ⟨rfl, N494, a486, b486, k486, K487, Ea486, Ca486, Va486, Ab486, own_LvX X494 Lt486⟩)) (by decide) (by decide)
def Q_rm40w (Z : State) (sx tx : Addr) (kx : ClassId) (ys : List Int32) (i : Nat) (lr lt : Addr) (kl : ClassId) (w1 : Int32) (d1 d2 : Addr) (kd1 kd2 : ClassId) (fm : Value) (h0 : Heap) (n0 : Nat) (v : Option Value) (h : Heap) (L : List Loc) (vm : Vm) : Prop := v = some (.int 1) ∧ Fr n0 L ∧ h = h0 ∧ own_Lv Z vm lr
theorem pn_rm40w : plainFor (⟨"com/example/regretta/regretta/GroupProblemGeneratorDescriptionPinLaw", "eq", "(Ljava/lang/String;I)Z"⟩ : MethodName) = true := by first | exact plainFor_of_name (by first | (simp [plainName, overriddenIn, x]; done) | decide +kernel) | decide +kernel
set_option maxRecDepth 65536 in
set_option maxHeartbeats 40000000 in
theorem rm40w (l : Launch) (Z : State) (a0 : Array Value) (hw : ∀ d ∈ tables_1, d.before a0 Z = true) (ws : List Jvm.Cond) (sx tx : Addr) (kx : ClassId) (ys : List Int32) (i : Nat) (lr lt : Addr) (kl : ClassId) (w1 : Int32) (d1 d2 : Addr) (kd1 kd2 : ClassId) (fm : Value) (h0 : Heap) (n0 : Nat) (Z0 : n0 ≤ h0.size) (hz : Z.heap.size ≤ n0) (hkz : own_K Z h0) (TB : own_Tb Z w1 d1 d2 kd1 kd2 fm) (Ex : Exa Z h0 sx "java/lang/String") (Cx : Fld Z h0 sx "java/lang/String" "coder" "B" (.int (0 : Int32))) (Vx : Fld Z h0 sx "java/lang/String" "value" "[B" (.ref tx)) (Ax : Arv Z h0 tx kx .byte (Int32.ofNat ys.length) (ys.map Value.int) (.int 0)) (hi : i < 79) (hl79 : 79 ≤ ys.length) (hn : ys.length ≤ 10000) (hy : own_asc ys) (hP : ∀ i, i < 79 → own_lR.getD i 0 = 35 ∨ ys.getD i 0 = own_lR.getD i 0) (El : Exa Z h0 lr "java/lang/String") (Cl : Fld Z h0 lr "java/lang/String" "coder" "B" (.int (0 : Int32))) (Vl : Fld Z h0 lr "java/lang/String" "value" "[B" (.ref lt)) (Al : Arv Z h0 lt kl .byte (Int32.ofNat own_lR.length) (own_lR.map Value.int) (.int 0)) :
    own_MetW l Z (⟨"com/example/regretta/regretta/GroupProblemGeneratorDescriptionPinLaw", "eq", "(Ljava/lang/String;I)Z"⟩ : MethodName) method_3_code 3 (some .boolean) ws ({ frames := 4, cells := 0, slots := 0, locals := 62 } : Room) #[(.ref sx), (.int (Int32.ofNat i))] h0 (fun vm => own_Lv Z vm lr) (Q_rm40w Z sx tx kx ys i lr lt kl w1 d1 d2 kd1 kd2 fm h0 n0) := by
  refine own_enterW (g0 := fun m => (mkF m 0 #[.val (.ref sx), .val (.int (Int32.ofNat i)), .unset] [])) pn_rm40w (fun m => by first | (simp [entryFrame, mkF, argsToLocals, Value.category, maxLocals]; done) | rfl) ?_
  intro p e s m below meth c s₁ hx hby hml hown hnm hret hlk hZ I0 X0 e0 es
  have hml : c.maxLocals = 3 := hml
  have hown : (s.setVm s.vm).vm.findClass "com/example/regretta/regretta/GroupProblemGeneratorDescriptionPinLaw" = some m.cls := hown
  have N0 := Fr.nil n0
  have S0 : s.Since s.vm 0 := (State.WarmedH.refl s).since 0
  have kz0 : 0 ≤ h0.size := Nat.zero_le _
  have K0 := Keep.refl h0 []
  refine own_by (ldcAgain X0 hx hZ hown (hw _ (List.mem_of_getElem? (i := 246) rfl)) I0 (g := (mkF m 0 #[.val (.ref sx), .val (.int (Int32.ofNat i)), .unset] [])) rfl (hb hby d40_0)) ?_
  refine own_by (fun _ k => XS.iloadN X0.here hx rfl (hb hby d40_2) rfl k) ?_
  obtain ⟨_, T495, L495, X495, ⟨rfl, N495q, e495⟩, st495⟩ := own_callV X0 hx hZ hown (y := (⟨"java/lang/String", "charAt", "(I)C"⟩ : MethodName)) (C := "java/lang/String") (hw _ (List.mem_of_getElem? (i := 247) rfl)) (hw _ (List.mem_of_getElem? (i := 248) rfl)) (hw _ (List.mem_of_getElem? (i := 250) rfl)) (hw _ (List.mem_of_getElem? (i := 249) rfl)) (hw _ (List.mem_of_getElem? (i := 30) rfl)) (hw _ (List.mem_of_getElem? (i := 251) rfl)) (by decide) (a := lr) El (argsL := [(.int (Int32.ofNat i))]) (rest := []) e0 (rm41 l Z a0 hw [] lr lt kl own_lR i w1 d1 d2 kd1 kd2 fm h0 n0 Z0 hz hkz TB El Cl Vl Al hi (by decide) own_lRasc) (g := (mkF m 3 #[.val (.ref sx), .val (.int (Int32.ofNat i)), .unset] [(.int (Int32.ofNat i)), (.ref lr)])) rfl (by rw [hml]; rfl) (lenOf pd_31 rfl) rfl (W := 0) (by show 2 * 0 + _ ≤ _; exact Nat.le_of_eq rfl) (hb hby d40_3) (by decide) (by decide) (by decide) (by decide)
  have N495 := Fr.app N0 N495q
  refine own_by st495 ?_
  refine own_by (fun _ k => XS.istoreN X495.here hx rfl (hb hby d40_6) rfl (l' := #[.val (.ref sx), .val (.int (Int32.ofNat i)), .val (.int (own_lR.getD i 0))]) rfl k) ?_
  refine own_by (fun _ k => XS.iloadN X495.here hx rfl (hb hby d40_7) rfl k) ?_
  refine own_by (fun _ k => XS.bipush X495.here hx rfl (hb hby d40_8) k) ?_
  by_cases h35 : (own_lR.getD i 0) = (35 : Int32)
  · refine own_by (fun _ k => XS.icmpYes X495.here hx rfl (pc0 := 10) (pc' := 22) rfl (hb hby d40_10) rfl (teq (h35 : (own_lR.getD i 0) = (35 : Int32))).1 (by decide) (by decide) k) ?_
    refine own_by (fun _ k => XS.iconst X495.here hx rfl (hb hby d40_22) k) ?_
    show own_Go p e below _ T495 (mkF m 23 #[.val (.ref sx), .val (.int (Int32.ofNat i)), .val (.int (own_lR.getD i 0))] [(.int (1 : Int32))])
    refine own_by (fun _ k => XS.goto X495.here hx rfl (pc0 := 23) (pc' := 27) rfl (hb hby d40_23) (by decide) (by decide) k) ?_
    exact own_retNW X495 hx hlk S0 kz0 e495 hret (by simp) rfl (hb hby d40_27) (by first | exact ⟨rfl, N495, rfl, own_LvX X495 I0⟩ | (rw [e495]; exact ⟨rfl, N495, rfl, own_LvX X495 I0⟩)) (by decide) (by decide)
  · refine own_by (fun _ k => XS.icmpNo X495.here hx rfl (hb hby d40_10) rfl (feq (h35 : ¬ ((own_lR.getD i 0) = (35 : Int32)))).1 k) ?_
    refine own_by (fun _ k => XS.aloadN X495.here hx rfl (hb hby d40_13) rfl rfl k) ?_
    show own_Go p e below _ T495 (mkF m 14 #[.val (.ref sx), .val (.int (Int32.ofNat i)), .val (.int (own_lR.getD i 0))] [(.ref sx)])
    refine own_by (fun _ k => XS.iloadN X495.here hx rfl (hb hby d40_14) rfl k) ?_
    obtain ⟨_, T496, L496, X496, ⟨rfl, N496q, e496⟩, st496⟩ := own_callV X495 hx hZ hown (y := (⟨"java/lang/String", "charAt", "(I)C"⟩ : MethodName)) (C := "java/lang/String") (hw _ (List.mem_of_getElem? (i := 247) rfl)) (hw _ (List.mem_of_getElem? (i := 248) rfl)) (hw _ (List.mem_of_getElem? (i := 250) rfl)) (hw _ (List.mem_of_getElem? (i := 249) rfl)) (hw _ (List.mem_of_getElem? (i := 30) rfl)) (hw _ (List.mem_of_getElem? (i := 251) rfl)) (by decide) (a := sx) Ex (argsL := [(.int (Int32.ofNat i))]) (rest := []) e495 (rm41 l Z a0 hw [] sx tx kx ys i w1 d1 d2 kd1 kd2 fm h0 n0 Z0 hz hkz TB Ex Cx Vx Ax (by omega) hn hy) (g := (mkF m 15 #[.val (.ref sx), .val (.int (Int32.ofNat i)), .val (.int (own_lR.getD i 0))] [(.int (Int32.ofNat i)), (.ref sx)])) rfl (by rw [hml]; rfl) (lenOf pd_31 rfl) rfl (W := 0) (by show 2 * 0 + _ ≤ _; exact Nat.le_of_eq rfl) (hb hby d40_15) (by decide) (by decide) (by decide) (by decide)
    have N496 := Fr.app N495 N496q
    refine own_by st496 ?_
    refine own_by (fun _ k => XS.iloadN X496.here hx rfl (hb hby d40_18) rfl k) ?_
    refine own_by (fun _ k => XS.icmpNo X496.here hx rfl (hb hby d40_19) rfl (teq ((hP i hi).resolve_left h35 : (ys.getD i 0) = (own_lR.getD i 0))).2 k) ?_
    refine own_by (fun _ k => XS.iconst X496.here hx rfl (hb hby d40_22) k) ?_
    refine own_by (fun _ k => XS.goto X496.here hx rfl (pc0 := 23) (pc' := 27) rfl (hb hby d40_23) (by decide) (by decide) k) ?_
    exact own_retNW X496 hx hlk S0 kz0 e496 hret (by simp) rfl (hb hby d40_27) (by first | exact ⟨rfl, N496, rfl, own_LvX X496 I0⟩ | (rw [e496]; exact ⟨rfl, N496, rfl, own_LvX X496 I0⟩)) (by decide) (by decide)
def Q_rm39c (Z : State) (sx tx : Addr) (kx : ClassId) (ys : List Int32) (o : Nat) (w1 : Int32) (d1 d2 : Addr) (kd1 kd2 : ClassId) (fm : Value) (h0 : Heap) (n0 : Nat) (v : Option Value) (h : Heap) (L : List Loc) (vm : Vm) : Prop := v = some (.int 1) ∧ Fr n0 L ∧ ∃ (lr lt : Addr) (kl : ClassId), Keep h0 h [] ∧ Exa Z h lr "java/lang/String" ∧ Fld Z h lr "java/lang/String" "coder" "B" (.int (0 : Int32)) ∧ Fld Z h lr "java/lang/String" "value" "[B" (.ref lt) ∧ Arv Z h lt kl .byte (Int32.ofNat own_lR.length) (own_lR.map Value.int) (.int 0) ∧ own_Lv Z vm lr
theorem pn_rm39c : plainFor (⟨"com/example/regretta/regretta/GroupProblemGeneratorDescriptionPinLaw", "w8", "(Ljava/lang/String;I)Z"⟩ : MethodName) = true := by first | exact plainFor_of_name (by first | (simp [plainName, overriddenIn, x]; done) | decide +kernel) | decide +kernel
theorem d39_0 : decode method_4_code 0 = .ok (.aload_n 0, 1) := by decide +kernel
theorem d39_1 : decode method_4_code 1 = .ok (.iload_n 1, 1) := by decide +kernel
theorem pd_32 : parseMethodDescriptor "(Ljava/lang/String;I)Z" = some ⟨[(.object "java/lang/String"), .int], some .boolean⟩ := by decide +kernel
theorem d39_2 : decode method_4_code 2 = .ok (.invokestatic 75, 3) := by decide +kernel
theorem d39_5 : decode method_4_code 5 = .ok (.ifCond .eq 79, 3) := by decide +kernel
theorem d39_8 : decode method_4_code 8 = .ok (.aload_n 0, 1) := by decide +kernel
theorem d39_9 : decode method_4_code 9 = .ok (.iload_n 1, 1) := by decide +kernel
theorem d39_10 : decode method_4_code 10 = .ok (.iconst 1, 1) := by decide +kernel
theorem d39_11 : decode method_4_code 11 = .ok (.iadd, 1) := by decide +kernel
theorem d39_12 : decode method_4_code 12 = .ok (.invokestatic 75, 3) := by decide +kernel
theorem d39_15 : decode method_4_code 15 = .ok (.ifCond .eq 69, 3) := by decide +kernel
theorem d39_18 : decode method_4_code 18 = .ok (.aload_n 0, 1) := by decide +kernel
theorem d39_19 : decode method_4_code 19 = .ok (.iload_n 1, 1) := by decide +kernel
theorem d39_20 : decode method_4_code 20 = .ok (.iconst 2, 1) := by decide +kernel
theorem d39_21 : decode method_4_code 21 = .ok (.iadd, 1) := by decide +kernel
theorem d39_22 : decode method_4_code 22 = .ok (.invokestatic 75, 3) := by decide +kernel
theorem d39_25 : decode method_4_code 25 = .ok (.ifCond .eq 59, 3) := by decide +kernel
theorem d39_28 : decode method_4_code 28 = .ok (.aload_n 0, 1) := by decide +kernel
theorem d39_29 : decode method_4_code 29 = .ok (.iload_n 1, 1) := by decide +kernel
theorem d39_30 : decode method_4_code 30 = .ok (.iconst 3, 1) := by decide +kernel
theorem d39_31 : decode method_4_code 31 = .ok (.iadd, 1) := by decide +kernel
theorem d39_32 : decode method_4_code 32 = .ok (.invokestatic 75, 3) := by decide +kernel
theorem d39_35 : decode method_4_code 35 = .ok (.ifCond .eq 49, 3) := by decide +kernel
theorem d39_38 : decode method_4_code 38 = .ok (.aload_n 0, 1) := by decide +kernel
theorem d39_39 : decode method_4_code 39 = .ok (.iload_n 1, 1) := by decide +kernel
theorem d39_40 : decode method_4_code 40 = .ok (.iconst 4, 1) := by decide +kernel
theorem d39_41 : decode method_4_code 41 = .ok (.iadd, 1) := by decide +kernel
theorem d39_42 : decode method_4_code 42 = .ok (.invokestatic 75, 3) := by decide +kernel
theorem d39_45 : decode method_4_code 45 = .ok (.ifCond .eq 39, 3) := by decide +kernel
theorem d39_48 : decode method_4_code 48 = .ok (.aload_n 0, 1) := by decide +kernel
theorem d39_49 : decode method_4_code 49 = .ok (.iload_n 1, 1) := by decide +kernel
theorem d39_50 : decode method_4_code 50 = .ok (.iconst 5, 1) := by decide +kernel
theorem d39_51 : decode method_4_code 51 = .ok (.iadd, 1) := by decide +kernel
theorem d39_52 : decode method_4_code 52 = .ok (.invokestatic 75, 3) := by decide +kernel
theorem d39_55 : decode method_4_code 55 = .ok (.ifCond .eq 29, 3) := by decide +kernel
theorem d39_58 : decode method_4_code 58 = .ok (.aload_n 0, 1) := by decide +kernel
theorem d39_59 : decode method_4_code 59 = .ok (.iload_n 1, 1) := by decide +kernel
theorem d39_60 : decode method_4_code 60 = .ok (.bipush 6, 2) := by decide +kernel
theorem d39_62 : decode method_4_code 62 = .ok (.iadd, 1) := by decide +kernel
theorem d39_63 : decode method_4_code 63 = .ok (.invokestatic 75, 3) := by decide +kernel
theorem d39_66 : decode method_4_code 66 = .ok (.ifCond .eq 18, 3) := by decide +kernel
theorem d39_69 : decode method_4_code 69 = .ok (.aload_n 0, 1) := by decide +kernel
theorem d39_70 : decode method_4_code 70 = .ok (.iload_n 1, 1) := by decide +kernel
theorem d39_71 : decode method_4_code 71 = .ok (.bipush 7, 2) := by decide +kernel
theorem d39_73 : decode method_4_code 73 = .ok (.iadd, 1) := by decide +kernel
theorem d39_74 : decode method_4_code 74 = .ok (.invokestatic 75, 3) := by decide +kernel
theorem d39_77 : decode method_4_code 77 = .ok (.ifCond .eq 7, 3) := by decide +kernel
theorem d39_80 : decode method_4_code 80 = .ok (.iconst 1, 1) := by decide +kernel
theorem d39_81 : decode method_4_code 81 = .ok (.goto 4, 3) := by decide +kernel
theorem d39_85 : decode method_4_code 85 = .ok (.ireturn, 1) := by decide +kernel
set_option maxRecDepth 65536 in
set_option maxHeartbeats 40000000 in
theorem rm39c (l : Launch) (Z : State) (a0 : Array Value) (hw : ∀ d ∈ tables_1, d.before a0 Z = true) (ws : List Jvm.Cond) (sx tx : Addr) (kx : ClassId) (ys : List Int32) (o : Nat) (w1 : Int32) (d1 d2 : Addr) (kd1 kd2 : ClassId) (fm : Value) (h0 : Heap) (n0 : Nat) (Z0 : n0 ≤ h0.size) (hz : Z.heap.size ≤ n0) (hkz : own_K Z h0) (TB : own_Tb Z w1 d1 d2 kd1 kd2 fm) (Ex : Exa Z h0 sx "java/lang/String") (Cx : Fld Z h0 sx "java/lang/String" "coder" "B" (.int (0 : Int32))) (Vx : Fld Z h0 sx "java/lang/String" "value" "[B" (.ref tx)) (Ax : Arv Z h0 tx kx .byte (Int32.ofNat ys.length) (ys.map Value.int) (.int 0)) (ho : o + 7 < 79) (hl79 : 79 ≤ ys.length) (hn : ys.length ≤ 10000) (hy : own_asc ys) (hP : ∀ i, i < 79 → own_lR.getD i 0 = 35 ∨ ys.getD i 0 = own_lR.getD i 0) (hcR : Jvm.Lit.constHeld Z "com/example/regretta/regretta/GroupProblemGeneratorDescriptionPinLaw" 73) (hcw : Jvm.Lit.compactW.before a0 Z = true) :
    own_MetW l Z (⟨"com/example/regretta/regretta/GroupProblemGeneratorDescriptionPinLaw", "w8", "(Ljava/lang/String;I)Z"⟩ : MethodName) method_4_code 2 (some .boolean) ws ({ frames := 5, cells := 2, slots := 320, locals := 80 } : Room) #[(.ref sx), (.int (Int32.ofNat o))] h0 (fun vm => IB Z vm [" --seed ", " --domain ", " --agents ", " --factors ", "regretta generate group --variables ", "a variable takes at least 1 value", "a group has at least 1 agent", "a group has at least 0 drawn factors", "a group has at least 1 variable"]) (Q_rm39c Z sx tx kx ys o w1 d1 d2 kd1 kd2 fm h0 n0) := by
  refine own_enterW (g0 := fun m => (mkF m 0 #[.val (.ref sx), .val (.int (Int32.ofNat o))] [])) pn_rm39c (fun m => by first | (simp [entryFrame, mkF, argsToLocals, Value.category, maxLocals]; done) | rfl) ?_
  intro p e s m below meth c s₁ hx hby hml hown hnm hret hlk hZ I0 X0 e0 es
  have hml : c.maxLocals = 2 := hml
  have hown : (s.setVm s.vm).vm.findClass "com/example/regretta/regretta/GroupProblemGeneratorDescriptionPinLaw" = some m.cls := hown
  have N0 := Fr.nil n0
  have S0 : s.Since s.vm 0 := (State.WarmedH.refl s).since 0
  have kz0 : 0 ≤ h0.size := Nat.zero_le _
  have K0 := Keep.refl h0 []
  refine own_by (fun _ k => XS.aloadN X0.here hx rfl (hb hby d39_0) rfl rfl k) ?_
  refine own_by (fun _ k => XS.iloadN X0.here hx rfl (hb hby d39_1) rfl k) ?_
  obtain ⟨_, T497, L497, k497w, X497, ⟨rfl, N497q, lr, lt, kl, Kl, El, Cl, Vl, Al, Ll497⟩, S497, kz497, hZ, hown, st497⟩ := own_callSW X0 hx hZ hown S0 kz0 (y := (⟨"com/example/regretta/regretta/GroupProblemGeneratorDescriptionPinLaw", "eq", "(Ljava/lang/String;I)Z"⟩ : MethodName)) (hw _ (List.mem_of_getElem? (i := 243) rfl)) (hw _ (List.mem_of_getElem? (i := 244) rfl)) (hw _ (List.mem_of_getElem? (i := 241) rfl)) (hw _ (List.mem_of_getElem? (i := 245) rfl)) (by decide) (argsL := [(.ref sx), (.int (Int32.ofNat o))]) (rest := []) (fun vm hv => own_ibW I0 hv) e0 (rm40c l Z a0 hw [] sx tx kx ys o w1 d1 d2 kd1 kd2 fm h0 n0 Z0 hz hkz TB Ex Cx Vx Ax (by omega) hl79 hn hy hP hcR hcw) (g := (mkF m 2 #[.val (.ref sx), .val (.int (Int32.ofNat o))] [(.int (Int32.ofNat o)), (.ref sx)])) rfl (by rw [hml]; rfl) (lenOf pd_32 rfl) rfl (W := 0) (by show 2 * 0 + _ ≤ _; exact Nat.le_of_eq rfl) (hb hby d39_2) (by decide) (by decide) (by decide) (by decide)
  have N497 := Fr.app N0 N497q
  refine own_by st497 ?_
  have Z497 : n0 ≤ T497.heap.size := Nat.le_trans Z0 Kl.1
  have K497c := K0.trans Kl all0
  refine own_by (fun _ k => XS.ifNo X497.here hx rfl (hb hby d39_5) rfl ((if0 _ _).trans (feq (by decide : ¬ ((1 : Int32) = (0 : Int32)))).1) k) ?_
  refine own_by (fun _ k => XS.aloadN X497.here hx rfl (hb hby d39_8) rfl rfl k) ?_
  refine own_by (fun _ k => XS.iloadN X497.here hx rfl (hb hby d39_9) rfl k) ?_
  refine own_by (fun _ k => XS.iconst X497.here hx rfl (hb hby d39_10) k) ?_
  refine own_by (fun _ k => XS.iadd X497.here hx rfl (hb hby d39_11) rfl k) ?_
  show own_Go p e below _ T497 (mkF m 12 #[.val (.ref sx), .val (.int (Int32.ofNat o))] [(.int ((Int32.ofNat o) + (1 : Int32))), (.ref sx)])
  rw [show ((Int32.ofNat o) + (1 : Int32)) = (Int32.ofNat (o + 1)) from own_add (b := 1) (by omega) (by omega)]
  have f498 := (Ex.keep Kl)
  have f499 := (Cx.keep Kl nin0)
  have f500 := (Vx.keep Kl nin0)
  have f501 := (Ax.keep Kl nin0)
  have hk502 : own_K Z T497.heap := own_KW hkz K497c all0
  obtain ⟨_, T503, L503, k503w, X503, ⟨rfl, N503q, e503, Ll503⟩, S503, kz503, hZ, hown, st503⟩ := own_callSW X497 hx hZ hown S497 kz497 (y := (⟨"com/example/regretta/regretta/GroupProblemGeneratorDescriptionPinLaw", "eq", "(Ljava/lang/String;I)Z"⟩ : MethodName)) (hw _ (List.mem_of_getElem? (i := 243) rfl)) (hw _ (List.mem_of_getElem? (i := 244) rfl)) (hw _ (List.mem_of_getElem? (i := 241) rfl)) (hw _ (List.mem_of_getElem? (i := 245) rfl)) (by decide) (argsL := [(.ref sx), (.int (Int32.ofNat (o + 1)))]) (rest := []) (fun vm hv => own_LvW Ll497 hv) rfl (rm40w l Z a0 hw [] sx tx kx ys (o + 1) lr lt kl w1 d1 d2 kd1 kd2 fm T497.heap n0 Z497 hz hk502 TB f498 f499 f500 f501 (by omega) hl79 hn hy hP El Cl Vl Al) (g := (mkF m 12 #[.val (.ref sx), .val (.int (Int32.ofNat o))] [(.int (Int32.ofNat (o + 1))), (.ref sx)])) rfl (by rw [hml]; rfl) (lenOf pd_32 rfl) rfl (W := 0) (by show 2 * 0 + _ ≤ _; exact Nat.le_of_eq rfl) (hb hby d39_12) (by decide) (by decide) (by decide) (by decide)
  have N503 := Fr.app N497 N503q
  refine own_by st503 ?_
  rw [e503] at kz503
  refine own_by (fun _ k => XS.ifNo X503.here hx rfl (hb hby d39_15) rfl ((if0 _ _).trans (feq (by decide : ¬ ((1 : Int32) = (0 : Int32)))).1) k) ?_
  refine own_by (fun _ k => XS.aloadN X503.here hx rfl (hb hby d39_18) rfl rfl k) ?_
  refine own_by (fun _ k => XS.iloadN X503.here hx rfl (hb hby d39_19) rfl k) ?_
  refine own_by (fun _ k => XS.iconst X503.here hx rfl (hb hby d39_20) k) ?_
  refine own_by (fun _ k => XS.iadd X503.here hx rfl (hb hby d39_21) rfl k) ?_
  show own_Go p e below _ T503 (mkF m 22 #[.val (.ref sx), .val (.int (Int32.ofNat o))] [(.int ((Int32.ofNat o) + (2 : Int32))), (.ref sx)])
  rw [show ((Int32.ofNat o) + (2 : Int32)) = (Int32.ofNat (o + 2)) from own_add (b := 2) (by omega) (by omega)]
  obtain ⟨_, T504, L504, k504w, X504, ⟨rfl, N504q, e504, Ll504⟩, S504, kz504, hZ, hown, st504⟩ := own_callSW X503 hx hZ hown S503 kz503 (y := (⟨"com/example/regretta/regretta/GroupProblemGeneratorDescriptionPinLaw", "eq", "(Ljava/lang/String;I)Z"⟩ : MethodName)) (hw _ (List.mem_of_getElem? (i := 243) rfl)) (hw _ (List.mem_of_getElem? (i := 244) rfl)) (hw _ (List.mem_of_getElem? (i := 241) rfl)) (hw _ (List.mem_of_getElem? (i := 245) rfl)) (by decide) (argsL := [(.ref sx), (.int (Int32.ofNat (o + 2)))]) (rest := []) (fun vm hv => own_LvW Ll503 hv) e503 (rm40w l Z a0 hw [] sx tx kx ys (o + 2) lr lt kl w1 d1 d2 kd1 kd2 fm T497.heap n0 Z497 hz hk502 TB f498 f499 f500 f501 (by omega) hl79 hn hy hP El Cl Vl Al) (g := (mkF m 22 #[.val (.ref sx), .val (.int (Int32.ofNat o))] [(.int (Int32.ofNat (o + 2))), (.ref sx)])) rfl (by rw [hml]; rfl) (lenOf pd_32 rfl) rfl (W := 0) (by show 2 * 0 + _ ≤ _; exact Nat.le_of_eq rfl) (hb hby d39_22) (by decide) (by decide) (by decide) (by decide)
  have N504 := Fr.app N503 N504q
  refine own_by st504 ?_
  rw [e504] at kz504
  refine own_by (fun _ k => XS.ifNo X504.here hx rfl (hb hby d39_25) rfl ((if0 _ _).trans (feq (by decide : ¬ ((1 : Int32) = (0 : Int32)))).1) k) ?_
  refine own_by (fun _ k => XS.aloadN X504.here hx rfl (hb hby d39_28) rfl rfl k) ?_
  refine own_by (fun _ k => XS.iloadN X504.here hx rfl (hb hby d39_29) rfl k) ?_
  refine own_by (fun _ k => XS.iconst X504.here hx rfl (hb hby d39_30) k) ?_
  refine own_by (fun _ k => XS.iadd X504.here hx rfl (hb hby d39_31) rfl k) ?_
  show own_Go p e below _ T504 (mkF m 32 #[.val (.ref sx), .val (.int (Int32.ofNat o))] [(.int ((Int32.ofNat o) + (3 : Int32))), (.ref sx)])
  rw [show ((Int32.ofNat o) + (3 : Int32)) = (Int32.ofNat (o + 3)) from own_add (b := 3) (by omega) (by omega)]
  obtain ⟨_, T505, L505, k505w, X505, ⟨rfl, N505q, e505, Ll505⟩, S505, kz505, hZ, hown, st505⟩ := own_callSW X504 hx hZ hown S504 kz504 (y := (⟨"com/example/regretta/regretta/GroupProblemGeneratorDescriptionPinLaw", "eq", "(Ljava/lang/String;I)Z"⟩ : MethodName)) (hw _ (List.mem_of_getElem? (i := 243) rfl)) (hw _ (List.mem_of_getElem? (i := 244) rfl)) (hw _ (List.mem_of_getElem? (i := 241) rfl)) (hw _ (List.mem_of_getElem? (i := 245) rfl)) (by decide) (argsL := [(.ref sx), (.int (Int32.ofNat (o + 3)))]) (rest := []) (fun vm hv => own_LvW Ll504 hv) e504 (rm40w l Z a0 hw [] sx tx kx ys (o + 3) lr lt kl w1 d1 d2 kd1 kd2 fm T497.heap n0 Z497 hz hk502 TB f498 f499 f500 f501 (by omega) hl79 hn hy hP El Cl Vl Al) (g := (mkF m 32 #[.val (.ref sx), .val (.int (Int32.ofNat o))] [(.int (Int32.ofNat (o + 3))), (.ref sx)])) rfl (by rw [hml]; rfl) (lenOf pd_32 rfl) rfl (W := 0) (by show 2 * 0 + _ ≤ _; exact Nat.le_of_eq rfl) (hb hby d39_32) (by decide) (by decide) (by decide) (by decide)
  have N505 := Fr.app N504 N505q
  refine own_by st505 ?_
  rw [e505] at kz505
  refine own_by (fun _ k => XS.ifNo X505.here hx rfl (hb hby d39_35) rfl ((if0 _ _).trans (feq (by decide : ¬ ((1 : Int32) = (0 : Int32)))).1) k) ?_
  refine own_by (fun _ k => XS.aloadN X505.here hx rfl (hb hby d39_38) rfl rfl k) ?_
  refine own_by (fun _ k => XS.iloadN X505.here hx rfl (hb hby d39_39) rfl k) ?_
  refine own_by (fun _ k => XS.iconst X505.here hx rfl (hb hby d39_40) k) ?_
  refine own_by (fun _ k => XS.iadd X505.here hx rfl (hb hby d39_41) rfl k) ?_
  show own_Go p e below _ T505 (mkF m 42 #[.val (.ref sx), .val (.int (Int32.ofNat o))] [(.int ((Int32.ofNat o) + (4 : Int32))), (.ref sx)])
  rw [show ((Int32.ofNat o) + (4 : Int32)) = (Int32.ofNat (o + 4)) from own_add (b := 4) (by omega) (by omega)]
  obtain ⟨_, T506, L506, k506w, X506, ⟨rfl, N506q, e506, Ll506⟩, S506, kz506, hZ, hown, st506⟩ := own_callSW X505 hx hZ hown S505 kz505 (y := (⟨"com/example/regretta/regretta/GroupProblemGeneratorDescriptionPinLaw", "eq", "(Ljava/lang/String;I)Z"⟩ : MethodName)) (hw _ (List.mem_of_getElem? (i := 243) rfl)) (hw _ (List.mem_of_getElem? (i := 244) rfl)) (hw _ (List.mem_of_getElem? (i := 241) rfl)) (hw _ (List.mem_of_getElem? (i := 245) rfl)) (by decide) (argsL := [(.ref sx), (.int (Int32.ofNat (o + 4)))]) (rest := []) (fun vm hv => own_LvW Ll505 hv) e505 (rm40w l Z a0 hw [] sx tx kx ys (o + 4) lr lt kl w1 d1 d2 kd1 kd2 fm T497.heap n0 Z497 hz hk502 TB f498 f499 f500 f501 (by omega) hl79 hn hy hP El Cl Vl Al) (g := (mkF m 42 #[.val (.ref sx), .val (.int (Int32.ofNat o))] [(.int (Int32.ofNat (o + 4))), (.ref sx)])) rfl (by rw [hml]; rfl) (lenOf pd_32 rfl) rfl (W := 0) (by show 2 * 0 + _ ≤ _; exact Nat.le_of_eq rfl) (hb hby d39_42) (by decide) (by decide) (by decide) (by decide)
  have N506 := Fr.app N505 N506q
  refine own_by st506 ?_
  rw [e506] at kz506
  refine own_by (fun _ k => XS.ifNo X506.here hx rfl (hb hby d39_45) rfl ((if0 _ _).trans (feq (by decide : ¬ ((1 : Int32) = (0 : Int32)))).1) k) ?_
  refine own_by (fun _ k => XS.aloadN X506.here hx rfl (hb hby d39_48) rfl rfl k) ?_
  refine own_by (fun _ k => XS.iloadN X506.here hx rfl (hb hby d39_49) rfl k) ?_
  refine own_by (fun _ k => XS.iconst X506.here hx rfl (hb hby d39_50) k) ?_
  refine own_by (fun _ k => XS.iadd X506.here hx rfl (hb hby d39_51) rfl k) ?_
  show own_Go p e below _ T506 (mkF m 52 #[.val (.ref sx), .val (.int (Int32.ofNat o))] [(.int ((Int32.ofNat o) + (5 : Int32))), (.ref sx)])
  rw [show ((Int32.ofNat o) + (5 : Int32)) = (Int32.ofNat (o + 5)) from own_add (b := 5) (by omega) (by omega)]
  obtain ⟨_, T507, L507, k507w, X507, ⟨rfl, N507q, e507, Ll507⟩, S507, kz507, hZ, hown, st507⟩ := own_callSW X506 hx hZ hown S506 kz506 (y := (⟨"com/example/regretta/regretta/GroupProblemGeneratorDescriptionPinLaw", "eq", "(Ljava/lang/String;I)Z"⟩ : MethodName)) (hw _ (List.mem_of_getElem? (i := 243) rfl)) (hw _ (List.mem_of_getElem? (i := 244) rfl)) (hw _ (List.mem_of_getElem? (i := 241) rfl)) (hw _ (List.mem_of_getElem? (i := 245) rfl)) (by decide) (argsL := [(.ref sx), (.int (Int32.ofNat (o + 5)))]) (rest := []) (fun vm hv => own_LvW Ll506 hv) e506 (rm40w l Z a0 hw [] sx tx kx ys (o + 5) lr lt kl w1 d1 d2 kd1 kd2 fm T497.heap n0 Z497 hz hk502 TB f498 f499 f500 f501 (by omega) hl79 hn hy hP El Cl Vl Al) (g := (mkF m 52 #[.val (.ref sx), .val (.int (Int32.ofNat o))] [(.int (Int32.ofNat (o + 5))), (.ref sx)])) rfl (by rw [hml]; rfl) (lenOf pd_32 rfl) rfl (W := 0) (by show 2 * 0 + _ ≤ _; exact Nat.le_of_eq rfl) (hb hby d39_52) (by decide) (by decide) (by decide) (by decide)
  have N507 := Fr.app N506 N507q
  refine own_by st507 ?_
  rw [e507] at kz507
  refine own_by (fun _ k => XS.ifNo X507.here hx rfl (hb hby d39_55) rfl ((if0 _ _).trans (feq (by decide : ¬ ((1 : Int32) = (0 : Int32)))).1) k) ?_
  refine own_by (fun _ k => XS.aloadN X507.here hx rfl (hb hby d39_58) rfl rfl k) ?_
  refine own_by (fun _ k => XS.iloadN X507.here hx rfl (hb hby d39_59) rfl k) ?_
  refine own_by (fun _ k => XS.bipush X507.here hx rfl (hb hby d39_60) k) ?_
  refine own_by (fun _ k => XS.iadd X507.here hx rfl (hb hby d39_62) rfl k) ?_
  show own_Go p e below _ T507 (mkF m 63 #[.val (.ref sx), .val (.int (Int32.ofNat o))] [(.int ((Int32.ofNat o) + (6 : Int32))), (.ref sx)])
  rw [show ((Int32.ofNat o) + (6 : Int32)) = (Int32.ofNat (o + 6)) from own_add (b := 6) (by omega) (by omega)]
  obtain ⟨_, T508, L508, k508w, X508, ⟨rfl, N508q, e508, Ll508⟩, S508, kz508, hZ, hown, st508⟩ := own_callSW X507 hx hZ hown S507 kz507 (y := (⟨"com/example/regretta/regretta/GroupProblemGeneratorDescriptionPinLaw", "eq", "(Ljava/lang/String;I)Z"⟩ : MethodName)) (hw _ (List.mem_of_getElem? (i := 243) rfl)) (hw _ (List.mem_of_getElem? (i := 244) rfl)) (hw _ (List.mem_of_getElem? (i := 241) rfl)) (hw _ (List.mem_of_getElem? (i := 245) rfl)) (by decide) (argsL := [(.ref sx), (.int (Int32.ofNat (o + 6)))]) (rest := []) (fun vm hv => own_LvW Ll507 hv) e507 (rm40w l Z a0 hw [] sx tx kx ys (o + 6) lr lt kl w1 d1 d2 kd1 kd2 fm T497.heap n0 Z497 hz hk502 TB f498 f499 f500 f501 (by omega) hl79 hn hy hP El Cl Vl Al) (g := (mkF m 63 #[.val (.ref sx), .val (.int (Int32.ofNat o))] [(.int (Int32.ofNat (o + 6))), (.ref sx)])) rfl (by rw [hml]; rfl) (lenOf pd_32 rfl) rfl (W := 0) (by show 2 * 0 + _ ≤ _; exact Nat.le_of_eq rfl) (hb hby d39_63) (by decide) (by decide) (by decide) (by decide)
  have N508 := Fr.app N507 N508q
  refine own_by st508 ?_
  rw [e508] at kz508
  refine own_by (fun _ k => XS.ifNo X508.here hx rfl (hb hby d39_66) rfl ((if0 _ _).trans (feq (by decide : ¬ ((1 : Int32) = (0 : Int32)))).1) k) ?_
  refine own_by (fun _ k => XS.aloadN X508.here hx rfl (hb hby d39_69) rfl rfl k) ?_
  refine own_by (fun _ k => XS.iloadN X508.here hx rfl (hb hby d39_70) rfl k) ?_
  refine own_by (fun _ k => XS.bipush X508.here hx rfl (hb hby d39_71) k) ?_
  refine own_by (fun _ k => XS.iadd X508.here hx rfl (hb hby d39_73) rfl k) ?_
  show own_Go p e below _ T508 (mkF m 74 #[.val (.ref sx), .val (.int (Int32.ofNat o))] [(.int ((Int32.ofNat o) + (7 : Int32))), (.ref sx)])
  rw [show ((Int32.ofNat o) + (7 : Int32)) = (Int32.ofNat (o + 7)) from own_add (b := 7) (by omega) (by omega)]
  obtain ⟨_, T509, L509, k509w, X509, ⟨rfl, N509q, e509, Ll509⟩, S509, kz509, hZ, hown, st509⟩ := own_callSW X508 hx hZ hown S508 kz508 (y := (⟨"com/example/regretta/regretta/GroupProblemGeneratorDescriptionPinLaw", "eq", "(Ljava/lang/String;I)Z"⟩ : MethodName)) (hw _ (List.mem_of_getElem? (i := 243) rfl)) (hw _ (List.mem_of_getElem? (i := 244) rfl)) (hw _ (List.mem_of_getElem? (i := 241) rfl)) (hw _ (List.mem_of_getElem? (i := 245) rfl)) (by decide) (argsL := [(.ref sx), (.int (Int32.ofNat (o + 7)))]) (rest := []) (fun vm hv => own_LvW Ll508 hv) e508 (rm40w l Z a0 hw [] sx tx kx ys (o + 7) lr lt kl w1 d1 d2 kd1 kd2 fm T497.heap n0 Z497 hz hk502 TB f498 f499 f500 f501 (by omega) hl79 hn hy hP El Cl Vl Al) (g := (mkF m 74 #[.val (.ref sx), .val (.int (Int32.ofNat o))] [(.int (Int32.ofNat (o + 7))), (.ref sx)])) rfl (by rw [hml]; rfl) (lenOf pd_32 rfl) rfl (W := 0) (by show 2 * 0 + _ ≤ _; exact Nat.le_of_eq rfl) (hb hby d39_74) (by decide) (by decide) (by decide) (by decide)
  have N509 := Fr.app N508 N509q
  refine own_by st509 ?_
  rw [e509] at kz509
  refine own_by (fun _ k => XS.ifNo X509.here hx rfl (hb hby d39_77) rfl ((if0 _ _).trans (feq (by decide : ¬ ((1 : Int32) = (0 : Int32)))).1) k) ?_
  refine own_by (fun _ k => XS.iconst X509.here hx rfl (hb hby d39_80) k) ?_
  refine own_by (fun _ k => XS.goto X509.here hx rfl (pc0 := 81) (pc' := 85) rfl (hb hby d39_81) (by decide) (by decide) k) ?_
  exact own_retNW X509 hx hlk S509 kz509 e509 hret (by simp) rfl (hb hby d39_85) (by first | exact ⟨rfl, N509, lr, lt, kl, K497c, El, Cl, Vl, Al, own_LvX X509 Ll509⟩ | (rw [e509]; exact ⟨rfl, N509, lr, lt, kl, K497c, El, Cl, Vl, Al, own_LvX X509 Ll509⟩)) (by decide) (by decide)
def Q_rm39w (Z : State) (sx tx : Addr) (kx : ClassId) (ys : List Int32) (o : Nat) (lr lt : Addr) (kl : ClassId) (w1 : Int32) (d1 d2 : Addr) (kd1 kd2 : ClassId) (fm : Value) (h0 : Heap) (n0 : Nat) (v : Option Value) (h : Heap) (L : List Loc) (vm : Vm) : Prop := v = some (.int 1) ∧ Fr n0 L ∧ h = h0 ∧ own_Lv Z vm lr
theorem pn_rm39w : plainFor (⟨"com/example/regretta/regretta/GroupProblemGeneratorDescriptionPinLaw", "w8", "(Ljava/lang/String;I)Z"⟩ : MethodName) = true := by first | exact plainFor_of_name (by first | (simp [plainName, overriddenIn, x]; done) | decide +kernel) | decide +kernel
set_option maxRecDepth 65536 in
set_option maxHeartbeats 40000000 in
theorem rm39w (l : Launch) (Z : State) (a0 : Array Value) (hw : ∀ d ∈ tables_1, d.before a0 Z = true) (ws : List Jvm.Cond) (sx tx : Addr) (kx : ClassId) (ys : List Int32) (o : Nat) (lr lt : Addr) (kl : ClassId) (w1 : Int32) (d1 d2 : Addr) (kd1 kd2 : ClassId) (fm : Value) (h0 : Heap) (n0 : Nat) (Z0 : n0 ≤ h0.size) (hz : Z.heap.size ≤ n0) (hkz : own_K Z h0) (TB : own_Tb Z w1 d1 d2 kd1 kd2 fm) (Ex : Exa Z h0 sx "java/lang/String") (Cx : Fld Z h0 sx "java/lang/String" "coder" "B" (.int (0 : Int32))) (Vx : Fld Z h0 sx "java/lang/String" "value" "[B" (.ref tx)) (Ax : Arv Z h0 tx kx .byte (Int32.ofNat ys.length) (ys.map Value.int) (.int 0)) (ho : o + 7 < 79) (hl79 : 79 ≤ ys.length) (hn : ys.length ≤ 10000) (hy : own_asc ys) (hP : ∀ i, i < 79 → own_lR.getD i 0 = 35 ∨ ys.getD i 0 = own_lR.getD i 0) (El : Exa Z h0 lr "java/lang/String") (Cl : Fld Z h0 lr "java/lang/String" "coder" "B" (.int (0 : Int32))) (Vl : Fld Z h0 lr "java/lang/String" "value" "[B" (.ref lt)) (Al : Arv Z h0 lt kl .byte (Int32.ofNat own_lR.length) (own_lR.map Value.int) (.int 0)) :
    own_MetW l Z (⟨"com/example/regretta/regretta/GroupProblemGeneratorDescriptionPinLaw", "w8", "(Ljava/lang/String;I)Z"⟩ : MethodName) method_4_code 2 (some .boolean) ws ({ frames := 5, cells := 0, slots := 0, locals := 80 } : Room) #[(.ref sx), (.int (Int32.ofNat o))] h0 (fun vm => own_Lv Z vm lr) (Q_rm39w Z sx tx kx ys o lr lt kl w1 d1 d2 kd1 kd2 fm h0 n0) := by
  refine own_enterW (g0 := fun m => (mkF m 0 #[.val (.ref sx), .val (.int (Int32.ofNat o))] [])) pn_rm39w (fun m => by first | (simp [entryFrame, mkF, argsToLocals, Value.category, maxLocals]; done) | rfl) ?_
  intro p e s m below meth c s₁ hx hby hml hown hnm hret hlk hZ I0 X0 e0 es
  have hml : c.maxLocals = 2 := hml
  have hown : (s.setVm s.vm).vm.findClass "com/example/regretta/regretta/GroupProblemGeneratorDescriptionPinLaw" = some m.cls := hown
  have N0 := Fr.nil n0
  have S0 : s.Since s.vm 0 := (State.WarmedH.refl s).since 0
  have kz0 : 0 ≤ h0.size := Nat.zero_le _
  have K0 := Keep.refl h0 []
  refine own_by (fun _ k => XS.aloadN X0.here hx rfl (hb hby d39_0) rfl rfl k) ?_
  refine own_by (fun _ k => XS.iloadN X0.here hx rfl (hb hby d39_1) rfl k) ?_
  obtain ⟨_, T510, L510, k510w, X510, ⟨rfl, N510q, e510, Ll510⟩, S510, kz510, hZ, hown, st510⟩ := own_callSW X0 hx hZ hown S0 kz0 (y := (⟨"com/example/regretta/regretta/GroupProblemGeneratorDescriptionPinLaw", "eq", "(Ljava/lang/String;I)Z"⟩ : MethodName)) (hw _ (List.mem_of_getElem? (i := 243) rfl)) (hw _ (List.mem_of_getElem? (i := 244) rfl)) (hw _ (List.mem_of_getElem? (i := 241) rfl)) (hw _ (List.mem_of_getElem? (i := 245) rfl)) (by decide) (argsL := [(.ref sx), (.int (Int32.ofNat o))]) (rest := []) (fun vm hv => own_LvW I0 hv) e0 (rm40w l Z a0 hw [] sx tx kx ys o lr lt kl w1 d1 d2 kd1 kd2 fm h0 n0 Z0 hz hkz TB Ex Cx Vx Ax (by omega) hl79 hn hy hP El Cl Vl Al) (g := (mkF m 2 #[.val (.ref sx), .val (.int (Int32.ofNat o))] [(.int (Int32.ofNat o)), (.ref sx)])) rfl (by rw [hml]; rfl) (lenOf pd_32 rfl) rfl (W := 0) (by show 2 * 0 + _ ≤ _; exact Nat.le_of_eq rfl) (hb hby d39_2) (by decide) (by decide) (by decide) (by decide)
  have N510 := Fr.app N0 N510q
  refine own_by st510 ?_
  rw [e510] at kz510
  refine own_by (fun _ k => XS.ifNo X510.here hx rfl (hb hby d39_5) rfl ((if0 _ _).trans (feq (by decide : ¬ ((1 : Int32) = (0 : Int32)))).1) k) ?_
  refine own_by (fun _ k => XS.aloadN X510.here hx rfl (hb hby d39_8) rfl rfl k) ?_
  refine own_by (fun _ k => XS.iloadN X510.here hx rfl (hb hby d39_9) rfl k) ?_
  refine own_by (fun _ k => XS.iconst X510.here hx rfl (hb hby d39_10) k) ?_
  refine own_by (fun _ k => XS.iadd X510.here hx rfl (hb hby d39_11) rfl k) ?_
  show own_Go p e below _ T510 (mkF m 12 #[.val (.ref sx), .val (.int (Int32.ofNat o))] [(.int ((Int32.ofNat o) + (1 : Int32))), (.ref sx)])
  rw [show ((Int32.ofNat o) + (1 : Int32)) = (Int32.ofNat (o + 1)) from own_add (b := 1) (by omega) (by omega)]
  obtain ⟨_, T511, L511, k511w, X511, ⟨rfl, N511q, e511, Ll511⟩, S511, kz511, hZ, hown, st511⟩ := own_callSW X510 hx hZ hown S510 kz510 (y := (⟨"com/example/regretta/regretta/GroupProblemGeneratorDescriptionPinLaw", "eq", "(Ljava/lang/String;I)Z"⟩ : MethodName)) (hw _ (List.mem_of_getElem? (i := 243) rfl)) (hw _ (List.mem_of_getElem? (i := 244) rfl)) (hw _ (List.mem_of_getElem? (i := 241) rfl)) (hw _ (List.mem_of_getElem? (i := 245) rfl)) (by decide) (argsL := [(.ref sx), (.int (Int32.ofNat (o + 1)))]) (rest := []) (fun vm hv => own_LvW Ll510 hv) e510 (rm40w l Z a0 hw [] sx tx kx ys (o + 1) lr lt kl w1 d1 d2 kd1 kd2 fm h0 n0 Z0 hz hkz TB Ex Cx Vx Ax (by omega) hl79 hn hy hP El Cl Vl Al) (g := (mkF m 12 #[.val (.ref sx), .val (.int (Int32.ofNat o))] [(.int (Int32.ofNat (o + 1))), (.ref sx)])) rfl (by rw [hml]; rfl) (lenOf pd_32 rfl) rfl (W := 0) (by show 2 * 0 + _ ≤ _; exact Nat.le_of_eq rfl) (hb hby d39_12) (by decide) (by decide) (by decide) (by decide)
  have N511 := Fr.app N510 N511q
  refine own_by st511 ?_
  rw [e511] at kz511
  refine own_by (fun _ k => XS.ifNo X511.here hx rfl (hb hby d39_15) rfl ((if0 _ _).trans (feq (by decide : ¬ ((1 : Int32) = (0 : Int32)))).1) k) ?_
  refine own_by (fun _ k => XS.aloadN X511.here hx rfl (hb hby d39_18) rfl rfl k) ?_
  refine own_by (fun _ k => XS.iloadN X511.here hx rfl (hb hby d39_19) rfl k) ?_
  refine own_by (fun _ k => XS.iconst X511.here hx rfl (hb hby d39_20) k) ?_
  refine own_by (fun _ k => XS.iadd X511.here hx rfl (hb hby d39_21) rfl k) ?_
  show own_Go p e below _ T511 (mkF m 22 #[.val (.ref sx), .val (.int (Int32.ofNat o))] [(.int ((Int32.ofNat o) + (2 : Int32))), (.ref sx)])
  rw [show ((Int32.ofNat o) + (2 : Int32)) = (Int32.ofNat (o + 2)) from own_add (b := 2) (by omega) (by omega)]
  obtain ⟨_, T512, L512, k512w, X512, ⟨rfl, N512q, e512, Ll512⟩, S512, kz512, hZ, hown, st512⟩ := own_callSW X511 hx hZ hown S511 kz511 (y := (⟨"com/example/regretta/regretta/GroupProblemGeneratorDescriptionPinLaw", "eq", "(Ljava/lang/String;I)Z"⟩ : MethodName)) (hw _ (List.mem_of_getElem? (i := 243) rfl)) (hw _ (List.mem_of_getElem? (i := 244) rfl)) (hw _ (List.mem_of_getElem? (i := 241) rfl)) (hw _ (List.mem_of_getElem? (i := 245) rfl)) (by decide) (argsL := [(.ref sx), (.int (Int32.ofNat (o + 2)))]) (rest := []) (fun vm hv => own_LvW Ll511 hv) e511 (rm40w l Z a0 hw [] sx tx kx ys (o + 2) lr lt kl w1 d1 d2 kd1 kd2 fm h0 n0 Z0 hz hkz TB Ex Cx Vx Ax (by omega) hl79 hn hy hP El Cl Vl Al) (g := (mkF m 22 #[.val (.ref sx), .val (.int (Int32.ofNat o))] [(.int (Int32.ofNat (o + 2))), (.ref sx)])) rfl (by rw [hml]; rfl) (lenOf pd_32 rfl) rfl (W := 0) (by show 2 * 0 + _ ≤ _; exact Nat.le_of_eq rfl) (hb hby d39_22) (by decide) (by decide) (by decide) (by decide)
  have N512 := Fr.app N511 N512q
  refine own_by st512 ?_
  rw [e512] at kz512
  refine own_by (fun _ k => XS.ifNo X512.here hx rfl (hb hby d39_25) rfl ((if0 _ _).trans (feq (by decide : ¬ ((1 : Int32) = (0 : Int32)))).1) k) ?_
  refine own_by (fun _ k => XS.aloadN X512.here hx rfl (hb hby d39_28) rfl rfl k) ?_
  refine own_by (fun _ k => XS.iloadN X512.here hx rfl (hb hby d39_29) rfl k) ?_
  refine own_by (fun _ k => XS.iconst X512.here hx rfl (hb hby d39_30) k) ?_
  refine own_by (fun _ k => XS.iadd X512.here hx rfl (hb hby d39_31) rfl k) ?_
  show own_Go p e below _ T512 (mkF m 32 #[.val (.ref sx), .val (.int (Int32.ofNat o))] [(.int ((Int32.ofNat o) + (3 : Int32))), (.ref sx)])
  rw [show ((Int32.ofNat o) + (3 : Int32)) = (Int32.ofNat (o + 3)) from own_add (b := 3) (by omega) (by omega)]
  obtain ⟨_, T513, L513, k513w, X513, ⟨rfl, N513q, e513, Ll513⟩, S513, kz513, hZ, hown, st513⟩ := own_callSW X512 hx hZ hown S512 kz512 (y := (⟨"com/example/regretta/regretta/GroupProblemGeneratorDescriptionPinLaw", "eq", "(Ljava/lang/String;I)Z"⟩ : MethodName)) (hw _ (List.mem_of_getElem? (i := 243) rfl)) (hw _ (List.mem_of_getElem? (i := 244) rfl)) (hw _ (List.mem_of_getElem? (i := 241) rfl)) (hw _ (List.mem_of_getElem? (i := 245) rfl)) (by decide) (argsL := [(.ref sx), (.int (Int32.ofNat (o + 3)))]) (rest := []) (fun vm hv => own_LvW Ll512 hv) e512 (rm40w l Z a0 hw [] sx tx kx ys (o + 3) lr lt kl w1 d1 d2 kd1 kd2 fm h0 n0 Z0 hz hkz TB Ex Cx Vx Ax (by omega) hl79 hn hy hP El Cl Vl Al) (g := (mkF m 32 #[.val (.ref sx), .val (.int (Int32.ofNat o))] [(.int (Int32.ofNat (o + 3))), (.ref sx)])) rfl (by rw [hml]; rfl) (lenOf pd_32 rfl) rfl (W := 0) (by show 2 * 0 + _ ≤ _; exact Nat.le_of_eq rfl) (hb hby d39_32) (by decide) (by decide) (by decide) (by decide)
  have N513 := Fr.app N512 N513q
  refine own_by st513 ?_
  rw [e513] at kz513
  refine own_by (fun _ k => XS.ifNo X513.here hx rfl (hb hby d39_35) rfl ((if0 _ _).trans (feq (by decide : ¬ ((1 : Int32) = (0 : Int32)))).1) k) ?_
  refine own_by (fun _ k => XS.aloadN X513.here hx rfl (hb hby d39_38) rfl rfl k) ?_
  refine own_by (fun _ k => XS.iloadN X513.here hx rfl (hb hby d39_39) rfl k) ?_
  refine own_by (fun _ k => XS.iconst X513.here hx rfl (hb hby d39_40) k) ?_
  refine own_by (fun _ k => XS.iadd X513.here hx rfl (hb hby d39_41) rfl k) ?_
  show own_Go p e below _ T513 (mkF m 42 #[.val (.ref sx), .val (.int (Int32.ofNat o))] [(.int ((Int32.ofNat o) + (4 : Int32))), (.ref sx)])
  rw [show ((Int32.ofNat o) + (4 : Int32)) = (Int32.ofNat (o + 4)) from own_add (b := 4) (by omega) (by omega)]
  obtain ⟨_, T514, L514, k514w, X514, ⟨rfl, N514q, e514, Ll514⟩, S514, kz514, hZ, hown, st514⟩ := own_callSW X513 hx hZ hown S513 kz513 (y := (⟨"com/example/regretta/regretta/GroupProblemGeneratorDescriptionPinLaw", "eq", "(Ljava/lang/String;I)Z"⟩ : MethodName)) (hw _ (List.mem_of_getElem? (i := 243) rfl)) (hw _ (List.mem_of_getElem? (i := 244) rfl)) (hw _ (List.mem_of_getElem? (i := 241) rfl)) (hw _ (List.mem_of_getElem? (i := 245) rfl)) (by decide) (argsL := [(.ref sx), (.int (Int32.ofNat (o + 4)))]) (rest := []) (fun vm hv => own_LvW Ll513 hv) e513 (rm40w l Z a0 hw [] sx tx kx ys (o + 4) lr lt kl w1 d1 d2 kd1 kd2 fm h0 n0 Z0 hz hkz TB Ex Cx Vx Ax (by omega) hl79 hn hy hP El Cl Vl Al) (g := (mkF m 42 #[.val (.ref sx), .val (.int (Int32.ofNat o))] [(.int (Int32.ofNat (o + 4))), (.ref sx)])) rfl (by rw [hml]; rfl) (lenOf pd_32 rfl) rfl (W := 0) (by show 2 * 0 + _ ≤ _; exact Nat.le_of_eq rfl) (hb hby d39_42) (by decide) (by decide) (by decide) (by decide)
  have N514 := Fr.app N513 N514q
  refine own_by st514 ?_
  rw [e514] at kz514
  refine own_by (fun _ k => XS.ifNo X514.here hx rfl (hb hby d39_45) rfl ((if0 _ _).trans (feq (by decide : ¬ ((1 : Int32) = (0 : Int32)))).1) k) ?_
  refine own_by (fun _ k => XS.aloadN X514.here hx rfl (hb hby d39_48) rfl rfl k) ?_
  refine own_by (fun _ k => XS.iloadN X514.here hx rfl (hb hby d39_49) rfl k) ?_
  refine own_by (fun _ k => XS.iconst X514.here hx rfl (hb hby d39_50) k) ?_
  refine own_by (fun _ k => XS.iadd X514.here hx rfl (hb hby d39_51) rfl k) ?_
  show own_Go p e below _ T514 (mkF m 52 #[.val (.ref sx), .val (.int (Int32.ofNat o))] [(.int ((Int32.ofNat o) + (5 : Int32))), (.ref sx)])
  rw [show ((Int32.ofNat o) + (5 : Int32)) = (Int32.ofNat (o + 5)) from own_add (b := 5) (by omega) (by omega)]
  obtain ⟨_, T515, L515, k515w, X515, ⟨rfl, N515q, e515, Ll515⟩, S515, kz515, hZ, hown, st515⟩ := own_callSW X514 hx hZ hown S514 kz514 (y := (⟨"com/example/regretta/regretta/GroupProblemGeneratorDescriptionPinLaw", "eq", "(Ljava/lang/String;I)Z"⟩ : MethodName)) (hw _ (List.mem_of_getElem? (i := 243) rfl)) (hw _ (List.mem_of_getElem? (i := 244) rfl)) (hw _ (List.mem_of_getElem? (i := 241) rfl)) (hw _ (List.mem_of_getElem? (i := 245) rfl)) (by decide) (argsL := [(.ref sx), (.int (Int32.ofNat (o + 5)))]) (rest := []) (fun vm hv => own_LvW Ll514 hv) e514 (rm40w l Z a0 hw [] sx tx kx ys (o + 5) lr lt kl w1 d1 d2 kd1 kd2 fm h0 n0 Z0 hz hkz TB Ex Cx Vx Ax (by omega) hl79 hn hy hP El Cl Vl Al) (g := (mkF m 52 #[.val (.ref sx), .val (.int (Int32.ofNat o))] [(.int (Int32.ofNat (o + 5))), (.ref sx)])) rfl (by rw [hml]; rfl) (lenOf pd_32 rfl) rfl (W := 0) (by show 2 * 0 + _ ≤ _; exact Nat.le_of_eq rfl) (hb hby d39_52) (by decide) (by decide) (by decide) (by decide)
  have N515 := Fr.app N514 N515q
  refine own_by st515 ?_
  rw [e515] at kz515
  refine own_by (fun _ k => XS.ifNo X515.here hx rfl (hb hby d39_55) rfl ((if0 _ _).trans (feq (by decide : ¬ ((1 : Int32) = (0 : Int32)))).1) k) ?_
  refine own_by (fun _ k => XS.aloadN X515.here hx rfl (hb hby d39_58) rfl rfl k) ?_
  refine own_by (fun _ k => XS.iloadN X515.here hx rfl (hb hby d39_59) rfl k) ?_
  refine own_by (fun _ k => XS.bipush X515.here hx rfl (hb hby d39_60) k) ?_
  refine own_by (fun _ k => XS.iadd X515.here hx rfl (hb hby d39_62) rfl k) ?_
  show own_Go p e below _ T515 (mkF m 63 #[.val (.ref sx), .val (.int (Int32.ofNat o))] [(.int ((Int32.ofNat o) + (6 : Int32))), (.ref sx)])
  rw [show ((Int32.ofNat o) + (6 : Int32)) = (Int32.ofNat (o + 6)) from own_add (b := 6) (by omega) (by omega)]
  obtain ⟨_, T516, L516, k516w, X516, ⟨rfl, N516q, e516, Ll516⟩, S516, kz516, hZ, hown, st516⟩ := own_callSW X515 hx hZ hown S515 kz515 (y := (⟨"com/example/regretta/regretta/GroupProblemGeneratorDescriptionPinLaw", "eq", "(Ljava/lang/String;I)Z"⟩ : MethodName)) (hw _ (List.mem_of_getElem? (i := 243) rfl)) (hw _ (List.mem_of_getElem? (i := 244) rfl)) (hw _ (List.mem_of_getElem? (i := 241) rfl)) (hw _ (List.mem_of_getElem? (i := 245) rfl)) (by decide) (argsL := [(.ref sx), (.int (Int32.ofNat (o + 6)))]) (rest := []) (fun vm hv => own_LvW Ll515 hv) e515 (rm40w l Z a0 hw [] sx tx kx ys (o + 6) lr lt kl w1 d1 d2 kd1 kd2 fm h0 n0 Z0 hz hkz TB Ex Cx Vx Ax (by omega) hl79 hn hy hP El Cl Vl Al) (g := (mkF m 63 #[.val (.ref sx), .val (.int (Int32.ofNat o))] [(.int (Int32.ofNat (o + 6))), (.ref sx)])) rfl (by rw [hml]; rfl) (lenOf pd_32 rfl) rfl (W := 0) (by show 2 * 0 + _ ≤ _; exact Nat.le_of_eq rfl) (hb hby d39_63) (by decide) (by decide) (by decide) (by decide)
  have N516 := Fr.app N515 N516q
  refine own_by st516 ?_
  rw [e516] at kz516
  refine own_by (fun _ k => XS.ifNo X516.here hx rfl (hb hby d39_66) rfl ((if0 _ _).trans (feq (by decide : ¬ ((1 : Int32) = (0 : Int32)))).1) k) ?_
  refine own_by (fun _ k => XS.aloadN X516.here hx rfl (hb hby d39_69) rfl rfl k) ?_
  refine own_by (fun _ k => XS.iloadN X516.here hx rfl (hb hby d39_70) rfl k) ?_
  refine own_by (fun _ k => XS.bipush X516.here hx rfl (hb hby d39_71) k) ?_
  refine own_by (fun _ k => XS.iadd X516.here hx rfl (hb hby d39_73) rfl k) ?_
  show own_Go p e below _ T516 (mkF m 74 #[.val (.ref sx), .val (.int (Int32.ofNat o))] [(.int ((Int32.ofNat o) + (7 : Int32))), (.ref sx)])
  rw [show ((Int32.ofNat o) + (7 : Int32)) = (Int32.ofNat (o + 7)) from own_add (b := 7) (by omega) (by omega)]
  obtain ⟨_, T517, L517, k517w, X517, ⟨rfl, N517q, e517, Ll517⟩, S517, kz517, hZ, hown, st517⟩ := own_callSW X516 hx hZ hown S516 kz516 (y := (⟨"com/example/regretta/regretta/GroupProblemGeneratorDescriptionPinLaw", "eq", "(Ljava/lang/String;I)Z"⟩ : MethodName)) (hw _ (List.mem_of_getElem? (i := 243) rfl)) (hw _ (List.mem_of_getElem? (i := 244) rfl)) (hw _ (List.mem_of_getElem? (i := 241) rfl)) (hw _ (List.mem_of_getElem? (i := 245) rfl)) (by decide) (argsL := [(.ref sx), (.int (Int32.ofNat (o + 7)))]) (rest := []) (fun vm hv => own_LvW Ll516 hv) e516 (rm40w l Z a0 hw [] sx tx kx ys (o + 7) lr lt kl w1 d1 d2 kd1 kd2 fm h0 n0 Z0 hz hkz TB Ex Cx Vx Ax (by omega) hl79 hn hy hP El Cl Vl Al) (g := (mkF m 74 #[.val (.ref sx), .val (.int (Int32.ofNat o))] [(.int (Int32.ofNat (o + 7))), (.ref sx)])) rfl (by rw [hml]; rfl) (lenOf pd_32 rfl) rfl (W := 0) (by show 2 * 0 + _ ≤ _; exact Nat.le_of_eq rfl) (hb hby d39_74) (by decide) (by decide) (by decide) (by decide)
  have N517 := Fr.app N516 N517q
  refine own_by st517 ?_
  rw [e517] at kz517
  refine own_by (fun _ k => XS.ifNo X517.here hx rfl (hb hby d39_77) rfl ((if0 _ _).trans (feq (by decide : ¬ ((1 : Int32) = (0 : Int32)))).1) k) ?_
  refine own_by (fun _ k => XS.iconst X517.here hx rfl (hb hby d39_80) k) ?_
  refine own_by (fun _ k => XS.goto X517.here hx rfl (pc0 := 81) (pc' := 85) rfl (hb hby d39_81) (by decide) (by decide) k) ?_
  exact own_retNW X517 hx hlk S517 kz517 e517 hret (by simp) rfl (hb hby d39_85) (by first | exact ⟨rfl, N517, rfl, own_LvX X517 Ll517⟩ | (rw [e517]; exact ⟨rfl, N517, rfl, own_LvX X517 Ll517⟩)) (by decide) (by decide)
theorem own_rem (y : Int64) : (0 ≤ y.toInt → (y % 10).toInt = y.toInt % 10) ∧ (y.toInt < 0 → (y % 10).toInt = -((-y.toInt) % 10)) := by
  have h := c_lrem y 10 10 rfl
  rw [lrem_mod] at h
  exact h
def Q_rm46 (Z : State) (sx tx : Addr) (kx : ClassId) (ys : List Int32) (lv mm : Int64) (cn j : Nat) (pa : Addr) (kp : ClassId) (w1 : Int32) (d1 d2 : Addr) (kd1 kd2 : ClassId) (fm : Value) (h0 : Heap) (n0 : Nat) (v : Option Value) (h : Heap) (L : List Loc) : Prop := v = some (.int 1) ∧ Fr n0 L ∧ h = h0
theorem pn_rm46 : plainFor (⟨"com/example/regretta/regretta/GroupProblemGeneratorDescriptionPinLaw", "dg", "(Ljava/lang/String;IIJ[JI)Z"⟩ : MethodName) = true := by first | exact plainFor_of_name (by first | (simp [plainName, overriddenIn, x]; done) | decide +kernel) | decide +kernel
theorem d46_0 : decode method_5_code 0 = .ok (.iload 6, 2) := by decide +kernel
theorem d46_2 : decode method_5_code 2 = .ok (.iload_n 2, 1) := by decide +kernel
theorem d46_3 : decode method_5_code 3 = .ok (.if_icmp .ge 32, 3) := by decide +kernel
theorem d46_35 : decode method_5_code 35 = .ok (.iconst 1, 1) := by decide +kernel
theorem d46_36 : decode method_5_code 36 = .ok (.goto 4, 3) := by decide +kernel
theorem d46_40 : decode method_5_code 40 = .ok (.ireturn, 1) := by decide +kernel
theorem d46_6 : decode method_5_code 6 = .ok (.aload_n 0, 1) := by decide +kernel
theorem d46_7 : decode method_5_code 7 = .ok (.iload_n 1, 1) := by decide +kernel
theorem d46_8 : decode method_5_code 8 = .ok (.iconst 1, 1) := by decide +kernel
theorem d46_9 : decode method_5_code 9 = .ok (.isub, 1) := by decide +kernel
theorem d46_10 : decode method_5_code 10 = .ok (.iload 6, 2) := by decide +kernel
theorem d46_12 : decode method_5_code 12 = .ok (.isub, 1) := by decide +kernel
theorem d46_13 : decode method_5_code 13 = .ok (.invokevirtual 65, 3) := by decide +kernel
theorem d46_16 : decode method_5_code 16 = .ok (.bipush 48, 2) := by decide +kernel
theorem d46_18 : decode method_5_code 18 = .ok (.lload_n 3, 1) := by decide +kernel
theorem d46_19 : decode method_5_code 19 = .ok (.aload 5, 2) := by decide +kernel
theorem d46_21 : decode method_5_code 21 = .ok (.iload 6, 2) := by decide +kernel
theorem d46_23 : decode method_5_code 23 = .ok (.laload, 1) := by decide +kernel
theorem d46_24 : decode method_5_code 24 = .ok (.ldiv, 1) := by decide +kernel
theorem d46_25 : decode method_5_code 25 = .ok (.ldc2_w 8, 3) := by decide +kernel
theorem d46_28 : decode method_5_code 28 = .ok (.lrem, 1) := by decide +kernel
theorem d46_29 : decode method_5_code 29 = .ok (.l2i, 1) := by decide +kernel
theorem d46_30 : decode method_5_code 30 = .ok (.isub, 1) := by decide +kernel
theorem d46_31 : decode method_5_code 31 = .ok (.i2c, 1) := by decide +kernel
theorem d46_32 : decode method_5_code 32 = .ok (.if_icmp .ne 7, 3) := by decide +kernel
set_option maxRecDepth 65536 in
set_option maxHeartbeats 40000000 in
theorem rm46 (l : Launch) (Z : State) (a0 : Array Value) (hw : ∀ d ∈ tables_1, d.before a0 Z = true) (ws : List Jvm.Cond) (sx tx : Addr) (kx : ClassId) (ys : List Int32) (lv mm : Int64) (cn j : Nat) (pa : Addr) (kp : ClassId) (w1 : Int32) (d1 d2 : Addr) (kd1 kd2 : ClassId) (fm : Value) (h0 : Heap) (n0 : Nat) (Z0 : n0 ≤ h0.size) (hz : Z.heap.size ≤ n0) (hkz : own_K Z h0) (TB : own_Tb Z w1 d1 d2 kd1 kd2 fm) (Ex : Exa Z h0 sx "java/lang/String") (Cx : Fld Z h0 sx "java/lang/String" "coder" "B" (.int (0 : Int32))) (Vx : Fld Z h0 sx "java/lang/String" "value" "[B" (.ref tx)) (Ax : Arv Z h0 tx kx .byte (Int32.ofNat ys.length) (ys.map Value.int) (.int 0)) (Ap : Arv Z h0 pa kp .long (Int32.ofNat own_ps.length) (own_ps.map Value.long) (.long 0)) (hn : ys.length ≤ 10000) (hy : own_asc ys) (hC : own_C (own_abs lv) cn) (hlc : cn ≤ ys.length) (hm : mm.toInt = -(own_abs lv : Int)) (hdg : ∀ j, j < cn → ys.getD (ys.length - 1 - j) 0 = own_dig (own_abs lv) j) (hj19 : j < 19) :
    own_Met l Z (⟨"com/example/regretta/regretta/GroupProblemGeneratorDescriptionPinLaw", "dg", "(Ljava/lang/String;IIJ[JI)Z"⟩ : MethodName) method_5_code 7 (some .boolean) ws ({ frames := 4, cells := 0, slots := 0, locals := 62 } : Room) #[(.ref sx), (.int (Int32.ofNat ys.length)), (.int (Int32.ofNat cn)), (.long mm), (.ref pa), (.int (Int32.ofNat j))] h0 (Q_rm46 Z sx tx kx ys lv mm cn j pa kp w1 d1 d2 kd1 kd2 fm h0 n0) := by
  refine own_enter (g0 := fun m => (mkF m 0 #[.val (.ref sx), .val (.int (Int32.ofNat ys.length)), .val (.int (Int32.ofNat cn)), .val (.long mm), .second, .val (.ref pa), .val (.int (Int32.ofNat j))] [])) pn_rm46 (fun m => by first | (simp [entryFrame, mkF, argsToLocals, Value.category, maxLocals]; done) | rfl) ?_
  intro p e s m below meth c s₁ hx hby hml hown hnm hret hlk hZ X0 e0
  have hml : c.maxLocals = 7 := hml
  have hown : s.vm.findClass "com/example/regretta/regretta/GroupProblemGeneratorDescriptionPinLaw" = some m.cls := hown
  have N0 := Fr.nil n0
  have hcn := hC.2.1
  refine own_by (fun _ k => XS.iload X0.here hx rfl (hb hby d46_0) rfl k) ?_
  refine own_by (fun _ k => XS.iloadN X0.here hx rfl (hb hby d46_2) rfl k) ?_
  by_cases hj : cn ≤ j
  · refine own_by (fun _ k => XS.icmpYes X0.here hx rfl (pc0 := 3) (pc' := 35) rfl (hb hby d46_3) rfl (flt (fun q => by have := (own_lt (by omega) (by omega)).mp q; omega : ¬ ((Int32.ofNat j) < (Int32.ofNat cn)))).2.1 (by decide) (by decide) k) ?_
    refine own_by (fun _ k => XS.iconst X0.here hx rfl (hb hby d46_35) k) ?_
    refine own_by (fun _ k => XS.goto X0.here hx rfl (pc0 := 36) (pc' := 40) rfl (hb hby d46_36) (by decide) (by decide) k) ?_
    exact own_retN X0 hx hlk hret (by simp) rfl (hb hby d46_40) (by first | exact ⟨rfl, N0, rfl⟩ | (rw [e0]; exact ⟨rfl, N0, rfl⟩)) (by decide) (by decide)
  · refine own_by (fun _ k => XS.icmpNo X0.here hx rfl (hb hby d46_3) rfl (tlt ((own_lt (by omega) (by omega)).mpr (by omega) : (Int32.ofNat j) < (Int32.ofNat cn))).2.1 k) ?_
    refine own_by (fun _ k => XS.aloadN X0.here hx rfl (hb hby d46_6) rfl rfl k) ?_
    refine own_by (fun _ k => XS.iloadN X0.here hx rfl (hb hby d46_7) rfl k) ?_
    refine own_by (fun _ k => XS.iconst X0.here hx rfl (hb hby d46_8) k) ?_
    refine own_by (fun _ k => XS.isub X0.here hx rfl (hb hby d46_9) rfl k) ?_
    show own_Go p e below _ s₁ (mkF m 10 #[.val (.ref sx), .val (.int (Int32.ofNat ys.length)), .val (.int (Int32.ofNat cn)), .val (.long mm), .second, .val (.ref pa), .val (.int (Int32.ofNat j))] [(.int ((Int32.ofNat ys.length) - (1 : Int32))), (.ref sx)])
    rw [show ((Int32.ofNat ys.length) - (1 : Int32)) = (Int32.ofNat (ys.length - 1)) from own_sub (b := 1) (by omega) (by omega)]
    refine own_by (fun _ k => XS.iload X0.here hx rfl (hb hby d46_10) rfl k) ?_
    refine own_by (fun _ k => XS.isub X0.here hx rfl (hb hby d46_12) rfl k) ?_
    show own_Go p e below _ s₁ (mkF m 13 #[.val (.ref sx), .val (.int (Int32.ofNat ys.length)), .val (.int (Int32.ofNat cn)), .val (.long mm), .second, .val (.ref pa), .val (.int (Int32.ofNat j))] [(.int ((Int32.ofNat (ys.length - 1)) - (Int32.ofNat j))), (.ref sx)])
    rw [show ((Int32.ofNat (ys.length - 1)) - (Int32.ofNat j)) = (Int32.ofNat (ys.length - 1 - j)) from own_sub (by omega) (by omega)]
    obtain ⟨_, T518, L518, X518, ⟨rfl, N518q, e518⟩, st518⟩ := own_callV X0 hx hZ hown (y := (⟨"java/lang/String", "charAt", "(I)C"⟩ : MethodName)) (C := "java/lang/String") (hw _ (List.mem_of_getElem? (i := 247) rfl)) (hw _ (List.mem_of_getElem? (i := 248) rfl)) (hw _ (List.mem_of_getElem? (i := 250) rfl)) (hw _ (List.mem_of_getElem? (i := 249) rfl)) (hw _ (List.mem_of_getElem? (i := 30) rfl)) (hw _ (List.mem_of_getElem? (i := 251) rfl)) (by decide) (a := sx) Ex (argsL := [(.int (Int32.ofNat (ys.length - 1 - j)))]) (rest := []) e0 (rm41 l Z a0 hw [] sx tx kx ys (ys.length - 1 - j) w1 d1 d2 kd1 kd2 fm h0 n0 Z0 hz hkz TB Ex Cx Vx Ax (by omega) hn hy) (g := (mkF m 13 #[.val (.ref sx), .val (.int (Int32.ofNat ys.length)), .val (.int (Int32.ofNat cn)), .val (.long mm), .second, .val (.ref pa), .val (.int (Int32.ofNat j))] [(.int (Int32.ofNat (ys.length - 1 - j))), (.ref sx)])) rfl (by rw [hml]; rfl) (lenOf pd_31 rfl) rfl (W := 0) (by show 2 * 0 + _ ≤ _; exact Nat.le_of_eq rfl) (hb hby d46_13) (by decide) (by decide) (by decide) (by decide)
    have N518 := Fr.app N0 N518q
    refine own_by st518 ?_
    refine own_by (fun _ k => XS.bipush X518.here hx rfl (hb hby d46_16) k) ?_
    refine own_by (fun _ k => XS.lloadN X518.here hx rfl (hb hby d46_18) rfl k) ?_
    refine own_by (fun _ k => XS.aload X518.here hx rfl (hb hby d46_19) rfl rfl k) ?_
    refine own_by (fun _ k => XS.iload X518.here hx rfl (hb hby d46_21) rfl k) ?_
    obtain ⟨cl519, Ar519, cq519, hin519, hat519, set519⟩ := own_arv Ap (j := (Int32.ofNat j)) (own_inb (by decide) (show j < own_ps.length by show j < 19; omega))
    refine own_by (fun _ k => X518.laload hx (j := (Int32.ofNat j)) (v := (.long (own_ps.getD j 0))) (by rw [e518]; exact Ar519.1) (State.isArrayOf_alike hZ.alike Ar519.2.1) Ar519.2.2 hin519 (by rw [hat519]; exact congrArg some (own_gdL own_ps (by omega))) (g := (mkF m 23 #[.val (.ref sx), .val (.int (Int32.ofNat ys.length)), .val (.int (Int32.ofNat cn)), .val (.long mm), .second, .val (.ref pa), .val (.int (Int32.ofNat j))] [(.int (Int32.ofNat j)), (.ref pa), (.long mm), (.int (48 : Int32)), (.int (ys.getD (ys.length - 1 - j) 0))])) rfl rfl (hb hby d46_23) _ k) ?_
    refine own_by (fun _ k => XS.ldiv X518.here hx rfl (hb hby d46_24) rfl (own_psg (by omega)).2.1 k) ?_
    refine own_by (fun _ k => Stand.ldc2J X518 hx hown (mvT hZ (hw _ (List.mem_of_getElem? (i := 2) rfl))) rfl (hb hby d46_25) k) ?_
    show own_Go p e below _ T518 (mkF m 28 #[.val (.ref sx), .val (.int (Int32.ofNat ys.length)), .val (.int (Int32.ofNat cn)), .val (.long mm), .second, .val (.ref pa), .val (.int (Int32.ofNat j))] [(.long (10 : Int64)), (.long (mm / (own_ps.getD j 0))), (.int (48 : Int32)), (.int (ys.getD (ys.length - 1 - j) 0))])
    refine own_by (fun _ k => own_lrem X518 hx rfl (hb hby d46_28) rfl (by decide) k) ?_
    refine own_by (fun _ k => XS.l2i X518.here hx rfl (hb hby d46_29) rfl k) ?_
    refine own_by (fun _ k => XS.isub X518.here hx rfl (hb hby d46_30) rfl k) ?_
    show own_Go p e below _ T518 (mkF m 31 #[.val (.ref sx), .val (.int (Int32.ofNat ys.length)), .val (.int (Int32.ofNat cn)), .val (.long mm), .second, .val (.ref pa), .val (.int (Int32.ofNat j))] [(.int ((48 : Int32) - (((mm / (own_ps.getD j 0)) % (10 : Int64)).toInt32))), (.int (ys.getD (ys.length - 1 - j) 0))])
    rw [show ((48 : Int32) - (((mm / (own_ps.getD j 0)) % (10 : Int64)).toInt32)) = (own_dig (own_abs lv) j) from own_digc hm (by omega) own_rem]
    refine own_by (fun _ k => XS.i2c X518.here hx rfl (hb hby d46_31) rfl k) ?_
    show own_Go p e below _ T518 (mkF m 32 #[.val (.ref sx), .val (.int (Int32.ofNat ys.length)), .val (.int (Int32.ofNat cn)), .val (.long mm), .second, .val (.ref pa), .val (.int (Int32.ofNat j))] [(.int ((own_dig (own_abs lv) j).toUInt32.toUInt16.toUInt32.toInt32)), (.int (ys.getD (ys.length - 1 - j) 0))])
    rw [show ((own_dig (own_abs lv) j).toUInt32.toUInt16.toUInt32.toInt32) = (own_dig (own_abs lv) j) from own_digi _ _]
    refine own_by (fun _ k => XS.icmpNo X518.here hx rfl (hb hby d46_32) rfl (teq (hdg j (by omega) : (ys.getD (ys.length - 1 - j) 0) = (own_dig (own_abs lv) j))).2 k) ?_
    refine own_by (fun _ k => XS.iconst X518.here hx rfl (hb hby d46_35) k) ?_
    refine own_by (fun _ k => XS.goto X518.here hx rfl (pc0 := 36) (pc' := 40) rfl (hb hby d46_36) (by decide) (by decide) k) ?_
    exact own_retN X518 hx hlk hret (by simp) rfl (hb hby d46_40) (by first | exact ⟨rfl, N518, rfl⟩ | (rw [e518]; exact ⟨rfl, N518, rfl⟩)) (by decide) (by decide)
theorem own_rd : ∀ n : Fin 100, (48 : Int32) + Int32.ofNat n.val % 10 = Int32.ofNat (48 + n.val % 10) ∧ (48 : Int32) + Int32.ofNat n.val / 10 = Int32.ofNat (48 + n.val / 10) := by decide +kernel
theorem own_jn {j : Int32} (h : ¬ j < 0) : j = Int32.ofNat j.toNatClampNeg := by
  rw [Int32.lt_iff_toInt_lt] at h
  have e0 : (0 : Int32).toInt = 0 := rfl
  apply Int32.toInt_inj.mp
  have r := rng32 j
  have e : j.toNatClampNeg = j.toInt.toNat := rfl
  rw [e, Int32.toInt_ofNat_small (by omega)]; omega
theorem own_T1 {args : Array Value} {s : State} {j : Int32} (h : ¬ j < 0) (h2 : j.toNatClampNeg < 100) : (Jvm.Term.add (Jvm.Term.int (48 : Int32)) (Jvm.Term.rem (Jvm.Term.index (0 : Nat)) (Jvm.Term.int (10 : Int32)))).eval args s none [j.toNatClampNeg] s = some (.int (Int32.ofNat (48 + j.toNatClampNeg % 10))) := by
  have e := idx_at (args := args) (first := s) (s := s) (o := none) h
  have q := (own_rd ⟨j.toNatClampNeg, h2⟩).1
  simp only [← own_jn h] at q
  rw [← q]
  simp [Term.eval] at e ⊢
  simp [e, Binary.apply]
theorem own_T2 {args : Array Value} {s : State} {j : Int32} (h : ¬ j < 0) (h2 : j.toNatClampNeg < 100) : (Jvm.Term.add (Jvm.Term.int (48 : Int32)) (Jvm.Term.div (Jvm.Term.index (0 : Nat)) (Jvm.Term.int (10 : Int32)))).eval args s none [j.toNatClampNeg] s = some (.int (Int32.ofNat (48 + j.toNatClampNeg / 10))) := by
  have e := idx_at (args := args) (first := s) (s := s) (o := none) h
  have q := (own_rd ⟨j.toNatClampNeg, h2⟩).2
  simp only [← own_jn h] at q
  rw [← q]
  simp [Term.eval] at e ⊢
  simp [e, Binary.apply]
theorem own_tab {args : Array Value} {s : State} {f : String} {g : Nat → Nat} {F : Jvm.Term} (hg : ∀ i, i < 100 → g i < 128) (hF : ∀ j : Int32, ¬ j < 0 → j.toNatClampNeg < 100 → F.eval args s none [j.toNatClampNeg] s = some (.int (Int32.ofNat (g j.toNatClampNeg))))
    (wa : (Jvm.Cond.arrayClass .byte).before args s = true) (w9 : (Jvm.Cond.initialized "java/lang/Integer").before args s = true) (w10 : (Jvm.Cond.laysStatic "java/lang/Integer" f "[B").before args s = true) (w12 : (Jvm.Cond.exactly (Jvm.Term.static "java/lang/Integer" f "[B") "[B").before args s = true)
    (w13 : (Jvm.Cond.eq (Jvm.Term.length (Jvm.Term.static "java/lang/Integer" f "[B")) (Jvm.Term.int (100 : Int32))).before args s = true) (w14 : (Jvm.Cond.all (Jvm.Term.static "java/lang/Integer" f "[B") (Jvm.Cond.eq (Jvm.Term.elem (Jvm.Term.static "java/lang/Integer" f "[B") (Jvm.Term.index (0 : Nat))) F)).before args s = true) :
    ∃ d1, Sta s s.heap "java/lang/Integer" f "[B" (.ref d1) ∧ ∃ kd, Arv s s.heap d1 kd .byte (Int32.ofNat 100) (((List.range 100).map fun i => Int32.ofNat (g i)).map Value.int) (.int 0) := by
  obtain ⟨a, ev⟩ := exa_v (Cond.before_iff.mp w12)
  obtain ⟨a3, c3, cell3, k3, e1, e2, e3, e4, e5, e6, -⟩ := Cond.exactly_spec w12
  cases ev.symm.trans e1
  obtain ⟨c4, k4, comp, f1, f2, f3⟩ := Cond.arrayClass_spec wa
  cases (show s.vm.findClass "[B" = some c4 from f1).symm.trans e2
  have hA : s.isArrayOf cell3 .byte := ⟨(fun q r => by rw [r] at e5; cases e5), k4, by rw [e6]; exact f2, comp, f3⟩
  have hlen := Cond.eq_int w13 rfl
  obtain ⟨sd, SA, hev, harrAt, -⟩ := Term.length_spec hlen
  have h31 := Jvm.Free.SBG.length_lt hev harrAt hlen
  cases ev.symm.trans hev
  have hcell : s.heap[a]? = some SA ∧ SA.vm ≠ .unknown := by
    simp only [State.arrayAt?, Option.bind_eq_bind] at harrAt
    cases q : s.heap[a]? with
    | none => simp [q] at harrAt
    | some x => simp only [q, Option.bind_some] at harrAt; grind
  have hSA : SA = cell3 := Option.some.inj (hcell.1.symm.trans e3)
  subst hSA
  have hsz : SA.slots.size = 100 := by
    have e : (Term.length (Jvm.Term.static "java/lang/Integer" f "[B")).eval args s none [] s = some (.int (Int32.ofNat SA.slots.size)) := by simp [Term.eval] at hev ⊢; simp [hev, harrAt, h31]
    have h2 : Int32.ofNat SA.slots.size = (100 : Int32) := by
      have := e.symm.trans hlen
      simpa [Term.eval] using this
    have := congrArg Int32.toInt h2
    rw [Int32.toInt_ofNat_small h31] at this
    have e100 : (100 : Int32).toInt = 100 := rfl
    omega
  have et : ∀ idx, (Jvm.Term.static "java/lang/Integer" f "[B").eval args s none idx s = some (.ref a) := fun idx => by rw [← ev]; simp only [Term.eval]
  have H : ∀ i, i < 100 → SA.slots[i]? = some (.int (Int32.ofNat (g i))) := fun i hi => by
    have hj : ¬ Int32.ofNat i < 0 := own_nn (by omega)
    have ej : (Int32.ofNat i).toNatClampNeg = i := own_tn (by omega)
    have u := Cond.all_elim (et []) harrAt (Cond.before_iff.mp w14) (Int32.ofNat i).toNatClampNeg (by rw [ej, hsz]; exact hi)
    have u2 := eqv_i (hF (Int32.ofNat i) hj (by rw [ej]; exact hi)) u
    have u3 := (elem_f (et _) (idx_at hj) harrAt hj).symm.trans u2
    rw [ej] at u3
    exact u3
  have gd : ∀ i, i < 100 → (((List.range 100).map fun i => Int32.ofNat (g i)).map Value.int).getD i (.int 0) = .int (Int32.ofNat (g i)) := fun i hi => by
    rw [List.getD_eq_getElem?_getD, List.getElem?_map, List.getElem?_map, List.getElem?_range hi]; rfl
  refine ⟨a, Sta.start ev (Or.inr ⟨w9, w10⟩), SA.cls, SA, ⟨hcell.1, hA, hcell.2⟩, rfl, by rw [hsz]; exact (own_tn (by omega)).symm, own_nn (by omega), fun j hj => ?_, fun j hj => ?_⟩
  · rw [hsz] at hj; rw [H j hj, gd j hj]
  · rw [hsz] at hj; rw [gd j hj]; have q : fits .byte (.int (nar .byte (Int32.ofNat (g j)))) = true := fits_nar_byte _; rw [own_bs (hg j hj)] at q; exact q
theorem own_fm {args : Array Value} {s : State} (w7 : (Jvm.Cond.initializedFor "jdk/internal/util/Preconditions" "SIOOBE_FORMATTER" "Ljava/util/function/BiFunction;").before args s = true) (w8 : (Jvm.Cond.isRef (Jvm.Term.static "jdk/internal/util/Preconditions" "SIOOBE_FORMATTER" "Ljava/util/function/BiFunction;")).before args s = true) :
    ∃ fm : Value, fm.isRef = true ∧ Sta s s.heap "jdk/internal/util/Preconditions" "SIOOBE_FORMATTER" "Ljava/util/function/BiFunction;" fm := by
  obtain ⟨x, ev, hr⟩ := isR_v (Cond.before_iff.mp w8)
  exact ⟨x, hr, Sta.start ev (Or.inl w7)⟩
def Q_rm0 (Z : State) (p1 p2 p3 p4 : Int32) (lv : Int64) (w1 : Int32) (d1 d2 : Addr) (kd1 kd2 : ClassId) (fm : Value) (h0 : Heap) (n0 : Nat) (v : Option Value) (h : Heap) (L : List Loc) (vm : Vm) : Prop := v = some (.int 1) ∧ Fr n0 L
theorem pn_rm0 : plainFor x = true := by first | exact plainFor_of_name (by first | (simp [plainName, overriddenIn, x]; done) | decide +kernel) | decide +kernel
theorem pd_33 : parseMethodDescriptor "(IIII)V" = some ⟨[.int, .int, .int, .int], none⟩ := by decide +kernel
theorem pd_34 : parseMethodDescriptor "(J)Ljava/lang/String;" = some ⟨[.long], some (.object "java/lang/String")⟩ := by decide +kernel
theorem pd_35 : parseMethodDescriptor "(Ljava/lang/String;IIJ[JI)Z" = some ⟨[(.object "java/lang/String"), .int, .int, .long, (.array .long), .int], some .boolean⟩ := by decide +kernel
set_option maxRecDepth 65536 in
set_option maxHeartbeats 40000000 in
theorem rm0 (l : Launch) (Z : State) (a0 : Array Value) (hw : ∀ d ∈ tables_1, d.before a0 Z = true) (ws : List Jvm.Cond) (p1 p2 p3 p4 : Int32) (lv : Int64) (w1 : Int32) (d1 d2 : Addr) (kd1 kd2 : ClassId) (fm : Value) (h0 : Heap) (n0 : Nat) (Z0 : n0 ≤ h0.size) (hz : Z.heap.size ≤ n0) (hkz : own_K Z h0) (TB : own_Tb Z w1 d1 d2 kd1 kd2 fm) (hc9 : Jvm.Lit.constHeld Z "com/example/regretta/regretta/GroupProblemGenerator" 9) (hc17 : Jvm.Lit.constHeld Z "com/example/regretta/regretta/GroupProblemGenerator" 17) (hc19 : Jvm.Lit.constHeld Z "com/example/regretta/regretta/GroupProblemGenerator" 19) (hc21 : Jvm.Lit.constHeld Z "com/example/regretta/regretta/GroupProblemGenerator" 21) (hc154 : Jvm.Lit.constHeld Z "com/example/regretta/regretta/GroupProblemGenerator" 154) (hc156 : Jvm.Lit.constHeld Z "com/example/regretta/regretta/GroupProblemGenerator" 156) (hc158 : Jvm.Lit.constHeld Z "com/example/regretta/regretta/GroupProblemGenerator" 158) (hc160 : Jvm.Lit.constHeld Z "com/example/regretta/regretta/GroupProblemGenerator" 160) (hc162 : Jvm.Lit.constHeld Z "com/example/regretta/regretta/GroupProblemGenerator" 162) (hcR : Jvm.Lit.constHeld Z "com/example/regretta/regretta/GroupProblemGeneratorDescriptionPinLaw" 73) (hcw : Jvm.Lit.compactW.before a0 Z = true) :
    own_MetW l Z x code maxLocals ret ws room_1 #[(.int p1), (.int p2), (.int p3), (.int p4), (.long lv)] h0 (fun vm => IB Z vm []) (Q_rm0 Z p1 p2 p3 p4 lv w1 d1 d2 kd1 kd2 fm h0 n0) := by
  refine own_enterW (g0 := fun m => (mkF m 0 #[.val (.int p1), .val (.int p2), .val (.int p3), .val (.int p4), .val (.long lv), .second, .unset, .unset, .unset, .unset, .unset, .unset, .unset, .unset, .unset, .unset, .unset, .unset, .unset, .unset, .unset, .unset, .unset, .unset] [])) pn_rm0 (fun m => by first | (simp [entryFrame, mkF, argsToLocals, Value.category, maxLocals]; done) | rfl) ?_
  intro p e s m below meth c s₁ hx hby hml hown hnm hret hlk hZ I0 X0 e0 es
  have hml : c.maxLocals = 24 := hml
  have hown : (s.setVm s.vm).vm.findClass "com/example/regretta/regretta/GroupProblemGeneratorDescriptionPinLaw" = some m.cls := hown
  have N0 := Fr.nil n0
  have S0 : s.Since s.vm 0 := (State.WarmedH.refl s).since 0
  have kz0 : 0 ≤ h0.size := Nat.zero_le _
  have K0 := Keep.refl h0 []
  refine own_by (fun _ k => XS.iconst X0.here hx rfl (hb hby at_0) k) ?_
  refine own_by (fun _ k => XS.iloadN X0.here hx rfl (hb hby at_1) rfl k) ?_
  refine own_by (fun _ k => Stand.ldcI X0 hx hown (mvT hZ (hw _ (List.mem_of_getElem? (i := 0) rfl))) rfl (hb hby at_2) k) ?_
  refine own_by (fun _ k => XS.iand X0.here hx rfl (hb hby at_4) rfl k) ?_
  refine own_by (fun _ k => XS.bipush X0.here hx rfl (hb hby at_5) k) ?_
  refine own_by (fun _ k => iremM X0 hx rfl (hb hby at_7) rfl (by decide) k) ?_
  refine own_by (fun _ k => XS.iadd X0.here hx rfl (hb hby at_8) rfl k) ?_
  obtain ⟨nv, hv, ev⟩ := own_rg9 p1
  show own_Go p e below _ s₁ (mkF m 9 #[.val (.int p1), .val (.int p2), .val (.int p3), .val (.int p4), .val (.long lv), .second, .unset, .unset, .unset, .unset, .unset, .unset, .unset, .unset, .unset, .unset, .unset, .unset, .unset, .unset, .unset, .unset, .unset, .unset] [(.int ((1 : Int32) + ((p1 &&& (2147483647 : Int32)) % (9 : Int32))))])
  rw [show ((1 : Int32) + ((p1 &&& (2147483647 : Int32)) % (9 : Int32))) = (Int32.ofNat nv) from ev]
  refine own_by (fun _ k => XS.istore X0.here hx rfl (hb hby at_9) rfl (l' := #[.val (.int p1), .val (.int p2), .val (.int p3), .val (.int p4), .val (.long lv), .second, .val (.int (Int32.ofNat nv)), .unset, .unset, .unset, .unset, .unset, .unset, .unset, .unset, .unset, .unset, .unset, .unset, .unset, .unset, .unset, .unset, .unset]) rfl k) ?_
  refine own_by (fun _ k => XS.iloadN X0.here hx rfl (hb hby at_11) rfl k) ?_
  refine own_by (fun _ k => Stand.ldcI X0 hx hown (mvT hZ (hw _ (List.mem_of_getElem? (i := 0) rfl))) rfl (hb hby at_12) k) ?_
  refine own_by (fun _ k => XS.iand X0.here hx rfl (hb hby at_14) rfl k) ?_
  refine own_by (fun _ k => XS.bipush X0.here hx rfl (hb hby at_15) k) ?_
  refine own_by (fun _ k => iremM X0 hx rfl (hb hby at_17) rfl (by decide) k) ?_
  obtain ⟨nf, hf, ef⟩ := own_rg10 p2
  show own_Go p e below _ s₁ (mkF m 18 #[.val (.int p1), .val (.int p2), .val (.int p3), .val (.int p4), .val (.long lv), .second, .val (.int (Int32.ofNat nv)), .unset, .unset, .unset, .unset, .unset, .unset, .unset, .unset, .unset, .unset, .unset, .unset, .unset, .unset, .unset, .unset, .unset] [(.int ((p2 &&& (2147483647 : Int32)) % (10 : Int32)))])
  rw [show ((p2 &&& (2147483647 : Int32)) % (10 : Int32)) = (Int32.ofNat nf) from ef]
  refine own_by (fun _ k => XS.istore X0.here hx rfl (hb hby at_18) rfl (l' := #[.val (.int p1), .val (.int p2), .val (.int p3), .val (.int p4), .val (.long lv), .second, .val (.int (Int32.ofNat nv)), .val (.int (Int32.ofNat nf)), .unset, .unset, .unset, .unset, .unset, .unset, .unset, .unset, .unset, .unset, .unset, .unset, .unset, .unset, .unset, .unset]) rfl k) ?_
  refine own_by (fun _ k => XS.iconst X0.here hx rfl (hb hby at_20) k) ?_
  refine own_by (fun _ k => XS.iloadN X0.here hx rfl (hb hby at_21) rfl k) ?_
  refine own_by (fun _ k => Stand.ldcI X0 hx hown (mvT hZ (hw _ (List.mem_of_getElem? (i := 0) rfl))) rfl (hb hby at_22) k) ?_
  refine own_by (fun _ k => XS.iand X0.here hx rfl (hb hby at_24) rfl k) ?_
  refine own_by (fun _ k => XS.bipush X0.here hx rfl (hb hby at_25) k) ?_
  refine own_by (fun _ k => iremM X0 hx rfl (hb hby at_27) rfl (by decide) k) ?_
  refine own_by (fun _ k => XS.iadd X0.here hx rfl (hb hby at_28) rfl k) ?_
  show own_Go p e below _ s₁ (mkF m 29 #[.val (.int p1), .val (.int p2), .val (.int p3), .val (.int p4), .val (.long lv), .second, .val (.int (Int32.ofNat nv)), .val (.int (Int32.ofNat nf)), .unset, .unset, .unset, .unset, .unset, .unset, .unset, .unset, .unset, .unset, .unset, .unset, .unset, .unset, .unset, .unset] [(.int ((1 : Int32) + ((p3 &&& (2147483647 : Int32)) % (9 : Int32))))])
  obtain ⟨na, ha, ea⟩ := own_rg9 p3
  rw [show ((1 : Int32) + ((p3 &&& (2147483647 : Int32)) % (9 : Int32))) = (Int32.ofNat na) from ea]
  refine own_by (fun _ k => XS.istore X0.here hx rfl (hb hby at_29) rfl (l' := #[.val (.int p1), .val (.int p2), .val (.int p3), .val (.int p4), .val (.long lv), .second, .val (.int (Int32.ofNat nv)), .val (.int (Int32.ofNat nf)), .val (.int (Int32.ofNat na)), .unset, .unset, .unset, .unset, .unset, .unset, .unset, .unset, .unset, .unset, .unset, .unset, .unset, .unset, .unset]) rfl k) ?_
  refine own_by (fun _ k => XS.iconst X0.here hx rfl (hb hby at_31) k) ?_
  refine own_by (fun _ k => XS.iloadN X0.here hx rfl (hb hby at_32) rfl k) ?_
  refine own_by (fun _ k => Stand.ldcI X0 hx hown (mvT hZ (hw _ (List.mem_of_getElem? (i := 0) rfl))) rfl (hb hby at_33) k) ?_
  refine own_by (fun _ k => XS.iand X0.here hx rfl (hb hby at_35) rfl k) ?_
  refine own_by (fun _ k => XS.bipush X0.here hx rfl (hb hby at_36) k) ?_
  refine own_by (fun _ k => iremM X0 hx rfl (hb hby at_38) rfl (by decide) k) ?_
  refine own_by (fun _ k => XS.iadd X0.here hx rfl (hb hby at_39) rfl k) ?_
  show own_Go p e below _ s₁ (mkF m 40 #[.val (.int p1), .val (.int p2), .val (.int p3), .val (.int p4), .val (.long lv), .second, .val (.int (Int32.ofNat nv)), .val (.int (Int32.ofNat nf)), .val (.int (Int32.ofNat na)), .unset, .unset, .unset, .unset, .unset, .unset, .unset, .unset, .unset, .unset, .unset, .unset, .unset, .unset, .unset] [(.int ((1 : Int32) + ((p4 &&& (2147483647 : Int32)) % (9 : Int32))))])
  obtain ⟨nd, hd, ed⟩ := own_rg9 p4
  rw [show ((1 : Int32) + ((p4 &&& (2147483647 : Int32)) % (9 : Int32))) = (Int32.ofNat nd) from ed]
  refine own_by (fun _ k => XS.istore X0.here hx rfl (hb hby at_40) rfl (l' := #[.val (.int p1), .val (.int p2), .val (.int p3), .val (.int p4), .val (.long lv), .second, .val (.int (Int32.ofNat nv)), .val (.int (Int32.ofNat nf)), .val (.int (Int32.ofNat na)), .val (.int (Int32.ofNat nd)), .unset, .unset, .unset, .unset, .unset, .unset, .unset, .unset, .unset, .unset, .unset, .unset, .unset, .unset]) rfl k) ?_
  refine own_by (fun _ k => XS.bipush X0.here hx rfl (hb hby at_42) k) ?_
  obtain ⟨T520, h520, k520, X520, e520, E520, A520, C520, st520⟩ := newPE X0 hx hZ (hw _ (List.mem_of_getElem? (i := 1) rfl)) e0 (g := (mkF m 44 #[.val (.int p1), .val (.int p2), .val (.int p3), .val (.int p4), .val (.long lv), .second, .val (.int (Int32.ofNat nv)), .val (.int (Int32.ofNat nf)), .val (.int (Int32.ofNat na)), .val (.int (Int32.ofNat nd)), .unset, .unset, .unset, .unset, .unset, .unset, .unset, .unset, .unset, .unset, .unset, .unset, .unset, .unset] [(.int (19 : Int32))])) rfl (hb hby at_44) rfl (by decide) (cap := 19) (by decide) (by decide) (by decide) (by decide) (ad := "[J") (by decide)
  obtain ⟨b520, g520⟩ : ∃ zq, zq = h0.size := ⟨_, rfl⟩
  rw [← g520] at A520 C520 st520
  have og_b520 : n0 ≤ b520 := Nat.le_trans Z0 (Nat.le_of_eq g520.symm)
  have sz_b520 : h0.size ≤ b520 := Nat.le_trans K0.1 (Nat.le_of_eq g520.symm)
  have Z520 : n0 ≤ h520.size := Nat.le_trans Z0 E520.1
  have kz521 : _ ≤ h520.size := Nat.le_trans kz0 E520.1
  have K522 := K0.ext E520
  have V520 : Arv Z h520 b520 k520 .long (19 : Int32) [(.long (0 : Int64)), (.long (0 : Int64)), (.long (0 : Int64)), (.long (0 : Int64)), (.long (0 : Int64)), (.long (0 : Int64)), (.long (0 : Int64)), (.long (0 : Int64)), (.long (0 : Int64)), (.long (0 : Int64)), (.long (0 : Int64)), (.long (0 : Int64)), (.long (0 : Int64)), (.long (0 : Int64)), (.long (0 : Int64)), (.long (0 : Int64)), (.long (0 : Int64)), (.long (0 : Int64)), (.long (0 : Int64))] (.long (0 : Int64)) := (Arv.new A520 (by decide)).pad (pad_rep [] (.long (0 : Int64)) 19)
  refine own_by st520 ?_
  refine own_by (fun _ k => XS.dup X520.here hx rfl (hb hby at_46) rfl rfl k) ?_
  refine own_by (fun _ k => XS.iconst X520.here hx rfl (hb hby at_47) k) ?_
  refine own_by (fun _ k => XS.lconst X520.here hx rfl (hb hby at_48) k) ?_
  obtain ⟨cl523, Ar523, cq523, hin523, hat523, set523⟩ := own_arv V520 (j := (0 : Int32)) ⟨by decide, by decide⟩
  obtain ⟨T524, h524, X524, e524, W524, st524⟩ := stJ X520 hx hZ e520 Ar523 (j := (0 : Int32)) hin523 (g := (mkF m 49 #[.val (.int p1), .val (.int p2), .val (.int p3), .val (.int p4), .val (.long lv), .second, .val (.int (Int32.ofNat nv)), .val (.int (Int32.ofNat nf)), .val (.int (Int32.ofNat na)), .val (.int (Int32.ofNat nd)), .unset, .unset, .unset, .unset, .unset, .unset, .unset, .unset, .unset, .unset, .unset, .unset, .unset, .unset] [(.long (1 : Int64)), (.int (0 : Int32)), (.ref b520), (.ref b520)])) rfl rfl (hb hby at_49)
  have V524 : Arv Z h524 b520 k520 .long (19 : Int32) [(.long (1 : Int64)), (.long (0 : Int64)), (.long (0 : Int64)), (.long (0 : Int64)), (.long (0 : Int64)), (.long (0 : Int64)), (.long (0 : Int64)), (.long (0 : Int64)), (.long (0 : Int64)), (.long (0 : Int64)), (.long (0 : Int64)), (.long (0 : Int64)), (.long (0 : Int64)), (.long (0 : Int64)), (.long (0 : Int64)), (.long (0 : Int64)), (.long (0 : Int64)), (.long (0 : Int64)), (.long (0 : Int64))] (.long (0 : Int64)) := set523 rfl W524 0 rfl (Nat.le_of_ble_eq_true rfl)
  have N524 := Fr.snoc X524 N0 og_b520
  have K525 := K522.wr W524 (Or.inr sz_b520)
  have Z524 : n0 ≤ h524.size := Nat.le_trans Z520 (Keep.of_wr W524).1
  have kz526 : _ ≤ h524.size := Nat.le_trans kz521 (Keep.of_wr W524).1
  refine own_by st524 ?_
  refine own_by (fun _ k => XS.dup X524.here hx rfl (hb hby at_50) rfl rfl k) ?_
  show own_Go p e below _ T524 (mkF m 51 #[.val (.int p1), .val (.int p2), .val (.int p3), .val (.int p4), .val (.long lv), .second, .val (.int (Int32.ofNat nv)), .val (.int (Int32.ofNat nf)), .val (.int (Int32.ofNat na)), .val (.int (Int32.ofNat nd)), .unset, .unset, .unset, .unset, .unset, .unset, .unset, .unset, .unset, .unset, .unset, .unset, .unset, .unset] [(.ref b520), (.ref b520)])
  refine own_by (fun _ k => XS.iconst X524.here hx rfl (hb hby at_51) k) ?_
  refine own_by (fun _ k => Stand.ldc2J X524 hx hown (mvT hZ (hw _ (List.mem_of_getElem? (i := 2) rfl))) rfl (hb hby at_52) k) ?_
  obtain ⟨cl527, Ar527, cq527, hin527, hat527, set527⟩ := own_arv V524 (j := (1 : Int32)) ⟨by decide, by decide⟩
  obtain ⟨T528, h528, X528, e528, W528, st528⟩ := stJ X524 hx hZ e524 Ar527 (j := (1 : Int32)) hin527 (g := (mkF m 55 #[.val (.int p1), .val (.int p2), .val (.int p3), .val (.int p4), .val (.long lv), .second, .val (.int (Int32.ofNat nv)), .val (.int (Int32.ofNat nf)), .val (.int (Int32.ofNat na)), .val (.int (Int32.ofNat nd)), .unset, .unset, .unset, .unset, .unset, .unset, .unset, .unset, .unset, .unset, .unset, .unset, .unset, .unset] [(.long (10 : Int64)), (.int (1 : Int32)), (.ref b520), (.ref b520)])) rfl rfl (hb hby at_55)
  have V528 : Arv Z h528 b520 k520 .long (19 : Int32) [(.long (1 : Int64)), (.long (10 : Int64)), (.long (0 : Int64)), (.long (0 : Int64)), (.long (0 : Int64)), (.long (0 : Int64)), (.long (0 : Int64)), (.long (0 : Int64)), (.long (0 : Int64)), (.long (0 : Int64)), (.long (0 : Int64)), (.long (0 : Int64)), (.long (0 : Int64)), (.long (0 : Int64)), (.long (0 : Int64)), (.long (0 : Int64)), (.long (0 : Int64)), (.long (0 : Int64)), (.long (0 : Int64))] (.long (0 : Int64)) := set527 rfl W528 1 rfl (Nat.le_of_ble_eq_true rfl)
  have N528 := Fr.snoc X528 N524 og_b520
  have K529 := K525.wr W528 (Or.inr sz_b520)
  have Z528 : n0 ≤ h528.size := Nat.le_trans Z524 (Keep.of_wr W528).1
  have kz530 : _ ≤ h528.size := Nat.le_trans kz526 (Keep.of_wr W528).1
  refine own_by st528 ?_
  refine own_by (fun _ k => XS.dup X528.here hx rfl (hb hby at_56) rfl rfl k) ?_
  refine own_by (fun _ k => XS.iconst X528.here hx rfl (hb hby at_57) k) ?_
  refine own_by (fun _ k => Stand.ldc2J X528 hx hown (mvT hZ (hw _ (List.mem_of_getElem? (i := 3) rfl))) rfl (hb hby at_58) k) ?_
  obtain ⟨cl531, Ar531, cq531, hin531, hat531, set531⟩ := own_arv V528 (j := (2 : Int32)) ⟨by decide, by decide⟩
  obtain ⟨T532, h532, X532, e532, W532, st532⟩ := stJ X528 hx hZ e528 Ar531 (j := (2 : Int32)) hin531 (g := (mkF m 61 #[.val (.int p1), .val (.int p2), .val (.int p3), .val (.int p4), .val (.long lv), .second, .val (.int (Int32.ofNat nv)), .val (.int (Int32.ofNat nf)), .val (.int (Int32.ofNat na)), .val (.int (Int32.ofNat nd)), .unset, .unset, .unset, .unset, .unset, .unset, .unset, .unset, .unset, .unset, .unset, .unset, .unset, .unset] [(.long (100 : Int64)), (.int (2 : Int32)), (.ref b520), (.ref b520)])) rfl rfl (hb hby at_61)
  have V532 : Arv Z h532 b520 k520 .long (19 : Int32) [(.long (1 : Int64)), (.long (10 : Int64)), (.long (100 : Int64)), (.long (0 : Int64)), (.long (0 : Int64)), (.long (0 : Int64)), (.long (0 : Int64)), (.long (0 : Int64)), (.long (0 : Int64)), (.long (0 : Int64)), (.long (0 : Int64)), (.long (0 : Int64)), (.long (0 : Int64)), (.long (0 : Int64)), (.long (0 : Int64)), (.long (0 : Int64)), (.long (0 : Int64)), (.long (0 : Int64)), (.long (0 : Int64))] (.long (0 : Int64)) := set531 rfl W532 2 rfl (Nat.le_of_ble_eq_true rfl)
  have N532 := Fr.snoc X532 N528 og_b520
  have K533 := K529.wr W532 (Or.inr sz_b520)
  have Z532 : n0 ≤ h532.size := Nat.le_trans Z528 (Keep.of_wr W532).1
  have kz534 : _ ≤ h532.size := Nat.le_trans kz530 (Keep.of_wr W532).1
  refine own_by st532 ?_
  refine own_by (fun _ k => XS.dup X532.here hx rfl (hb hby at_62) rfl rfl k) ?_
  refine own_by (fun _ k => XS.iconst X532.here hx rfl (hb hby at_63) k) ?_
  show own_Go p e below _ T532 (mkF m 64 #[.val (.int p1), .val (.int p2), .val (.int p3), .val (.int p4), .val (.long lv), .second, .val (.int (Int32.ofNat nv)), .val (.int (Int32.ofNat nf)), .val (.int (Int32.ofNat na)), .val (.int (Int32.ofNat nd)), .unset, .unset, .unset, .unset, .unset, .unset, .unset, .unset, .unset, .unset, .unset, .unset, .unset, .unset] [(.int (3 : Int32)), (.ref b520), (.ref b520)])
  refine own_by (fun _ k => Stand.ldc2J X532 hx hown (mvT hZ (hw _ (List.mem_of_getElem? (i := 4) rfl))) rfl (hb hby at_64) k) ?_
  obtain ⟨cl535, Ar535, cq535, hin535, hat535, set535⟩ := own_arv V532 (j := (3 : Int32)) ⟨by decide, by decide⟩
  obtain ⟨T536, h536, X536, e536, W536, st536⟩ := stJ X532 hx hZ e532 Ar535 (j := (3 : Int32)) hin535 (g := (mkF m 67 #[.val (.int p1), .val (.int p2), .val (.int p3), .val (.int p4), .val (.long lv), .second, .val (.int (Int32.ofNat nv)), .val (.int (Int32.ofNat nf)), .val (.int (Int32.ofNat na)), .val (.int (Int32.ofNat nd)), .unset, .unset, .unset, .unset, .unset, .unset, .unset, .unset, .unset, .unset, .unset, .unset, .unset, .unset] [(.long (1000 : Int64)), (.int (3 : Int32)), (.ref b520), (.ref b520)])) rfl rfl (hb hby at_67)
  have V536 : Arv Z h536 b520 k520 .long (19 : Int32) [(.long (1 : Int64)), (.long (10 : Int64)), (.long (100 : Int64)), (.long (1000 : Int64)), (.long (0 : Int64)), (.long (0 : Int64)), (.long (0 : Int64)), (.long (0 : Int64)), (.long (0 : Int64)), (.long (0 : Int64)), (.long (0 : Int64)), (.long (0 : Int64)), (.long (0 : Int64)), (.long (0 : Int64)), (.long (0 : Int64)), (.long (0 : Int64)), (.long (0 : Int64)), (.long (0 : Int64)), (.long (0 : Int64))] (.long (0 : Int64)) := set535 rfl W536 3 rfl (Nat.le_of_ble_eq_true rfl)
  have N536 := Fr.snoc X536 N532 og_b520
  have K537 := K533.wr W536 (Or.inr sz_b520)
  have Z536 : n0 ≤ h536.size := Nat.le_trans Z532 (Keep.of_wr W536).1
  have kz538 : _ ≤ h536.size := Nat.le_trans kz534 (Keep.of_wr W536).1
  refine own_by st536 ?_
  refine own_by (fun _ k => XS.dup X536.here hx rfl (hb hby at_68) rfl rfl k) ?_
  refine own_by (fun _ k => XS.iconst X536.here hx rfl (hb hby at_69) k) ?_
  refine own_by (fun _ k => Stand.ldc2J X536 hx hown (mvT hZ (hw _ (List.mem_of_getElem? (i := 5) rfl))) rfl (hb hby at_70) k) ?_
  obtain ⟨cl539, Ar539, cq539, hin539, hat539, set539⟩ := own_arv V536 (j := (4 : Int32)) ⟨by decide, by decide⟩
  obtain ⟨T540, h540, X540, e540, W540, st540⟩ := stJ X536 hx hZ e536 Ar539 (j := (4 : Int32)) hin539 (g := (mkF m 73 #[.val (.int p1), .val (.int p2), .val (.int p3), .val (.int p4), .val (.long lv), .second, .val (.int (Int32.ofNat nv)), .val (.int (Int32.ofNat nf)), .val (.int (Int32.ofNat na)), .val (.int (Int32.ofNat nd)), .unset, .unset, .unset, .unset, .unset, .unset, .unset, .unset, .unset, .unset, .unset, .unset, .unset, .unset] [(.long (10000 : Int64)), (.int (4 : Int32)), (.ref b520), (.ref b520)])) rfl rfl (hb hby at_73)
  have V540 : Arv Z h540 b520 k520 .long (19 : Int32) [(.long (1 : Int64)), (.long (10 : Int64)), (.long (100 : Int64)), (.long (1000 : Int64)), (.long (10000 : Int64)), (.long (0 : Int64)), (.long (0 : Int64)), (.long (0 : Int64)), (.long (0 : Int64)), (.long (0 : Int64)), (.long (0 : Int64)), (.long (0 : Int64)), (.long (0 : Int64)), (.long (0 : Int64)), (.long (0 : Int64)), (.long (0 : Int64)), (.long (0 : Int64)), (.long (0 : Int64)), (.long (0 : Int64))] (.long (0 : Int64)) := set539 rfl W540 4 rfl (Nat.le_of_ble_eq_true rfl)
  have N540 := Fr.snoc X540 N536 og_b520
  have K541 := K537.wr W540 (Or.inr sz_b520)
  have Z540 : n0 ≤ h540.size := Nat.le_trans Z536 (Keep.of_wr W540).1
  have kz542 : _ ≤ h540.size := Nat.le_trans kz538 (Keep.of_wr W540).1
  refine own_by st540 ?_
  refine own_by (fun _ k => XS.dup X540.here hx rfl (hb hby at_74) rfl rfl k) ?_
  refine own_by (fun _ k => XS.iconst X540.here hx rfl (hb hby at_75) k) ?_
  refine own_by (fun _ k => Stand.ldc2J X540 hx hown (mvT hZ (hw _ (List.mem_of_getElem? (i := 6) rfl))) rfl (hb hby at_76) k) ?_
  show own_Go p e below _ T540 (mkF m 79 #[.val (.int p1), .val (.int p2), .val (.int p3), .val (.int p4), .val (.long lv), .second, .val (.int (Int32.ofNat nv)), .val (.int (Int32.ofNat nf)), .val (.int (Int32.ofNat na)), .val (.int (Int32.ofNat nd)), .unset, .unset, .unset, .unset, .unset, .unset, .unset, .unset, .unset, .unset, .unset, .unset, .unset, .unset] [(.long (100000 : Int64)), (.int (5 : Int32)), (.ref b520), (.ref b520)])
  obtain ⟨cl543, Ar543, cq543, hin543, hat543, set543⟩ := own_arv V540 (j := (5 : Int32)) ⟨by decide, by decide⟩
  obtain ⟨T544, h544, X544, e544, W544, st544⟩ := stJ X540 hx hZ e540 Ar543 (j := (5 : Int32)) hin543 (g := (mkF m 79 #[.val (.int p1), .val (.int p2), .val (.int p3), .val (.int p4), .val (.long lv), .second, .val (.int (Int32.ofNat nv)), .val (.int (Int32.ofNat nf)), .val (.int (Int32.ofNat na)), .val (.int (Int32.ofNat nd)), .unset, .unset, .unset, .unset, .unset, .unset, .unset, .unset, .unset, .unset, .unset, .unset, .unset, .unset] [(.long (100000 : Int64)), (.int (5 : Int32)), (.ref b520), (.ref b520)])) rfl rfl (hb hby at_79)
  have V544 : Arv Z h544 b520 k520 .long (19 : Int32) [(.long (1 : Int64)), (.long (10 : Int64)), (.long (100 : Int64)), (.long (1000 : Int64)), (.long (10000 : Int64)), (.long (100000 : Int64)), (.long (0 : Int64)), (.long (0 : Int64)), (.long (0 : Int64)), (.long (0 : Int64)), (.long (0 : Int64)), (.long (0 : Int64)), (.long (0 : Int64)), (.long (0 : Int64)), (.long (0 : Int64)), (.long (0 : Int64)), (.long (0 : Int64)), (.long (0 : Int64)), (.long (0 : Int64))] (.long (0 : Int64)) := set543 rfl W544 5 rfl (Nat.le_of_ble_eq_true rfl)
  have N544 := Fr.snoc X544 N540 og_b520
  have K545 := K541.wr W544 (Or.inr sz_b520)
  have Z544 : n0 ≤ h544.size := Nat.le_trans Z540 (Keep.of_wr W544).1
  have kz546 : _ ≤ h544.size := Nat.le_trans kz542 (Keep.of_wr W544).1
  refine own_by st544 ?_
  refine own_by (fun _ k => XS.dup X544.here hx rfl (hb hby at_80) rfl rfl k) ?_
  refine own_by (fun _ k => XS.bipush X544.here hx rfl (hb hby at_81) k) ?_
  refine own_by (fun _ k => Stand.ldc2J X544 hx hown (mvT hZ (hw _ (List.mem_of_getElem? (i := 7) rfl))) rfl (hb hby at_83) k) ?_
  obtain ⟨cl547, Ar547, cq547, hin547, hat547, set547⟩ := own_arv V544 (j := (6 : Int32)) ⟨by decide, by decide⟩
  obtain ⟨T548, h548, X548, e548, W548, st548⟩ := stJ X544 hx hZ e544 Ar547 (j := (6 : Int32)) hin547 (g := (mkF m 86 #[.val (.int p1), .val (.int p2), .val (.int p3), .val (.int p4), .val (.long lv), .second, .val (.int (Int32.ofNat nv)), .val (.int (Int32.ofNat nf)), .val (.int (Int32.ofNat na)), .val (.int (Int32.ofNat nd)), .unset, .unset, .unset, .unset, .unset, .unset, .unset, .unset, .unset, .unset, .unset, .unset, .unset, .unset] [(.long (1000000 : Int64)), (.int (6 : Int32)), (.ref b520), (.ref b520)])) rfl rfl (hb hby at_86)
  have V548 : Arv Z h548 b520 k520 .long (19 : Int32) [(.long (1 : Int64)), (.long (10 : Int64)), (.long (100 : Int64)), (.long (1000 : Int64)), (.long (10000 : Int64)), (.long (100000 : Int64)), (.long (1000000 : Int64)), (.long (0 : Int64)), (.long (0 : Int64)), (.long (0 : Int64)), (.long (0 : Int64)), (.long (0 : Int64)), (.long (0 : Int64)), (.long (0 : Int64)), (.long (0 : Int64)), (.long (0 : Int64)), (.long (0 : Int64)), (.long (0 : Int64)), (.long (0 : Int64))] (.long (0 : Int64)) := set547 rfl W548 6 rfl (Nat.le_of_ble_eq_true rfl)
  have N548 := Fr.snoc X548 N544 og_b520
  have K549 := K545.wr W548 (Or.inr sz_b520)
  have Z548 : n0 ≤ h548.size := Nat.le_trans Z544 (Keep.of_wr W548).1
  have kz550 : _ ≤ h548.size := Nat.le_trans kz546 (Keep.of_wr W548).1
  refine own_by st548 ?_
  refine own_by (fun _ k => XS.dup X548.here hx rfl (hb hby at_87) rfl rfl k) ?_
  refine own_by (fun _ k => XS.bipush X548.here hx rfl (hb hby at_88) k) ?_
  refine own_by (fun _ k => Stand.ldc2J X548 hx hown (mvT hZ (hw _ (List.mem_of_getElem? (i := 8) rfl))) rfl (hb hby at_90) k) ?_
  obtain ⟨cl551, Ar551, cq551, hin551, hat551, set551⟩ := own_arv V548 (j := (7 : Int32)) ⟨by decide, by decide⟩
  obtain ⟨T552, h552, X552, e552, W552, st552⟩ := stJ X548 hx hZ e548 Ar551 (j := (7 : Int32)) hin551 (g := (mkF m 93 #[.val (.int p1), .val (.int p2), .val (.int p3), .val (.int p4), .val (.long lv), .second, .val (.int (Int32.ofNat nv)), .val (.int (Int32.ofNat nf)), .val (.int (Int32.ofNat na)), .val (.int (Int32.ofNat nd)), .unset, .unset, .unset, .unset, .unset, .unset, .unset, .unset, .unset, .unset, .unset, .unset, .unset, .unset] [(.long (10000000 : Int64)), (.int (7 : Int32)), (.ref b520), (.ref b520)])) rfl rfl (hb hby at_93)
  have V552 : Arv Z h552 b520 k520 .long (19 : Int32) [(.long (1 : Int64)), (.long (10 : Int64)), (.long (100 : Int64)), (.long (1000 : Int64)), (.long (10000 : Int64)), (.long (100000 : Int64)), (.long (1000000 : Int64)), (.long (10000000 : Int64)), (.long (0 : Int64)), (.long (0 : Int64)), (.long (0 : Int64)), (.long (0 : Int64)), (.long (0 : Int64)), (.long (0 : Int64)), (.long (0 : Int64)), (.long (0 : Int64)), (.long (0 : Int64)), (.long (0 : Int64)), (.long (0 : Int64))] (.long (0 : Int64)) := set551 rfl W552 7 rfl (Nat.le_of_ble_eq_true rfl)
  have N552 := Fr.snoc X552 N548 og_b520
  have K553 := K549.wr W552 (Or.inr sz_b520)
  have Z552 : n0 ≤ h552.size := Nat.le_trans Z548 (Keep.of_wr W552).1
  have kz554 : _ ≤ h552.size := Nat.le_trans kz550 (Keep.of_wr W552).1
  refine own_by st552 ?_
  show own_Go p e below _ T552 (mkF m 94 #[.val (.int p1), .val (.int p2), .val (.int p3), .val (.int p4), .val (.long lv), .second, .val (.int (Int32.ofNat nv)), .val (.int (Int32.ofNat nf)), .val (.int (Int32.ofNat na)), .val (.int (Int32.ofNat nd)), .unset, .unset, .unset, .unset, .unset, .unset, .unset, .unset, .unset, .unset, .unset, .unset, .unset, .unset] [(.ref b520)])
  refine own_by (fun _ k => XS.dup X552.here hx rfl (hb hby at_94) rfl rfl k) ?_
  refine own_by (fun _ k => XS.bipush X552.here hx rfl (hb hby at_95) k) ?_
  refine own_by (fun _ k => Stand.ldc2J X552 hx hown (mvT hZ (hw _ (List.mem_of_getElem? (i := 9) rfl))) rfl (hb hby at_97) k) ?_
  obtain ⟨cl555, Ar555, cq555, hin555, hat555, set555⟩ := own_arv V552 (j := (8 : Int32)) ⟨by decide, by decide⟩
  obtain ⟨T556, h556, X556, e556, W556, st556⟩ := stJ X552 hx hZ e552 Ar555 (j := (8 : Int32)) hin555 (g := (mkF m 100 #[.val (.int p1), .val (.int p2), .val (.int p3), .val (.int p4), .val (.long lv), .second, .val (.int (Int32.ofNat nv)), .val (.int (Int32.ofNat nf)), .val (.int (Int32.ofNat na)), .val (.int (Int32.ofNat nd)), .unset, .unset, .unset, .unset, .unset, .unset, .unset, .unset, .unset, .unset, .unset, .unset, .unset, .unset] [(.long (100000000 : Int64)), (.int (8 : Int32)), (.ref b520), (.ref b520)])) rfl rfl (hb hby at_100)
  have V556 : Arv Z h556 b520 k520 .long (19 : Int32) [(.long (1 : Int64)), (.long (10 : Int64)), (.long (100 : Int64)), (.long (1000 : Int64)), (.long (10000 : Int64)), (.long (100000 : Int64)), (.long (1000000 : Int64)), (.long (10000000 : Int64)), (.long (100000000 : Int64)), (.long (0 : Int64)), (.long (0 : Int64)), (.long (0 : Int64)), (.long (0 : Int64)), (.long (0 : Int64)), (.long (0 : Int64)), (.long (0 : Int64)), (.long (0 : Int64)), (.long (0 : Int64)), (.long (0 : Int64))] (.long (0 : Int64)) := set555 rfl W556 8 rfl (Nat.le_of_ble_eq_true rfl)
  have N556 := Fr.snoc X556 N552 og_b520
  have K557 := K553.wr W556 (Or.inr sz_b520)
  have Z556 : n0 ≤ h556.size := Nat.le_trans Z552 (Keep.of_wr W556).1
  have kz558 : _ ≤ h556.size := Nat.le_trans kz554 (Keep.of_wr W556).1
  refine own_by st556 ?_
  refine own_by (fun _ k => XS.dup X556.here hx rfl (hb hby at_101) rfl rfl k) ?_
  refine own_by (fun _ k => XS.bipush X556.here hx rfl (hb hby at_102) k) ?_
  refine own_by (fun _ k => Stand.ldc2J X556 hx hown (mvT hZ (hw _ (List.mem_of_getElem? (i := 10) rfl))) rfl (hb hby at_104) k) ?_
  obtain ⟨cl559, Ar559, cq559, hin559, hat559, set559⟩ := own_arv V556 (j := (9 : Int32)) ⟨by decide, by decide⟩
  obtain ⟨T560, h560, X560, e560, W560, st560⟩ := stJ X556 hx hZ e556 Ar559 (j := (9 : Int32)) hin559 (g := (mkF m 107 #[.val (.int p1), .val (.int p2), .val (.int p3), .val (.int p4), .val (.long lv), .second, .val (.int (Int32.ofNat nv)), .val (.int (Int32.ofNat nf)), .val (.int (Int32.ofNat na)), .val (.int (Int32.ofNat nd)), .unset, .unset, .unset, .unset, .unset, .unset, .unset, .unset, .unset, .unset, .unset, .unset, .unset, .unset] [(.long (1000000000 : Int64)), (.int (9 : Int32)), (.ref b520), (.ref b520)])) rfl rfl (hb hby at_107)
  have V560 : Arv Z h560 b520 k520 .long (19 : Int32) [(.long (1 : Int64)), (.long (10 : Int64)), (.long (100 : Int64)), (.long (1000 : Int64)), (.long (10000 : Int64)), (.long (100000 : Int64)), (.long (1000000 : Int64)), (.long (10000000 : Int64)), (.long (100000000 : Int64)), (.long (1000000000 : Int64)), (.long (0 : Int64)), (.long (0 : Int64)), (.long (0 : Int64)), (.long (0 : Int64)), (.long (0 : Int64)), (.long (0 : Int64)), (.long (0 : Int64)), (.long (0 : Int64)), (.long (0 : Int64))] (.long (0 : Int64)) := set559 rfl W560 9 rfl (Nat.le_of_ble_eq_true rfl)
  have N560 := Fr.snoc X560 N556 og_b520
  have K561 := K557.wr W560 (Or.inr sz_b520)
  have Z560 : n0 ≤ h560.size := Nat.le_trans Z556 (Keep.of_wr W560).1
  have kz562 : _ ≤ h560.size := Nat.le_trans kz558 (Keep.of_wr W560).1
  refine own_by st560 ?_
  refine own_by (fun _ k => XS.dup X560.here hx rfl (hb hby at_108) rfl rfl k) ?_
  show own_Go p e below _ T560 (mkF m 109 #[.val (.int p1), .val (.int p2), .val (.int p3), .val (.int p4), .val (.long lv), .second, .val (.int (Int32.ofNat nv)), .val (.int (Int32.ofNat nf)), .val (.int (Int32.ofNat na)), .val (.int (Int32.ofNat nd)), .unset, .unset, .unset, .unset, .unset, .unset, .unset, .unset, .unset, .unset, .unset, .unset, .unset, .unset] [(.ref b520), (.ref b520)])
  refine own_by (fun _ k => XS.bipush X560.here hx rfl (hb hby at_109) k) ?_
  refine own_by (fun _ k => Stand.ldc2J X560 hx hown (mvT hZ (hw _ (List.mem_of_getElem? (i := 11) rfl))) rfl (hb hby at_111) k) ?_
  obtain ⟨cl563, Ar563, cq563, hin563, hat563, set563⟩ := own_arv V560 (j := (10 : Int32)) ⟨by decide, by decide⟩
  obtain ⟨T564, h564, X564, e564, W564, st564⟩ := stJ X560 hx hZ e560 Ar563 (j := (10 : Int32)) hin563 (g := (mkF m 114 #[.val (.int p1), .val (.int p2), .val (.int p3), .val (.int p4), .val (.long lv), .second, .val (.int (Int32.ofNat nv)), .val (.int (Int32.ofNat nf)), .val (.int (Int32.ofNat na)), .val (.int (Int32.ofNat nd)), .unset, .unset, .unset, .unset, .unset, .unset, .unset, .unset, .unset, .unset, .unset, .unset, .unset, .unset] [(.long (10000000000 : Int64)), (.int (10 : Int32)), (.ref b520), (.ref b520)])) rfl rfl (hb hby at_114)
  have V564 : Arv Z h564 b520 k520 .long (19 : Int32) [(.long (1 : Int64)), (.long (10 : Int64)), (.long (100 : Int64)), (.long (1000 : Int64)), (.long (10000 : Int64)), (.long (100000 : Int64)), (.long (1000000 : Int64)), (.long (10000000 : Int64)), (.long (100000000 : Int64)), (.long (1000000000 : Int64)), (.long (10000000000 : Int64)), (.long (0 : Int64)), (.long (0 : Int64)), (.long (0 : Int64)), (.long (0 : Int64)), (.long (0 : Int64)), (.long (0 : Int64)), (.long (0 : Int64)), (.long (0 : Int64))] (.long (0 : Int64)) := set563 rfl W564 10 rfl (Nat.le_of_ble_eq_true rfl)
  have N564 := Fr.snoc X564 N560 og_b520
  have K565 := K561.wr W564 (Or.inr sz_b520)
  have Z564 : n0 ≤ h564.size := Nat.le_trans Z560 (Keep.of_wr W564).1
  have kz566 : _ ≤ h564.size := Nat.le_trans kz562 (Keep.of_wr W564).1
  refine own_by st564 ?_
  refine own_by (fun _ k => XS.dup X564.here hx rfl (hb hby at_115) rfl rfl k) ?_
  refine own_by (fun _ k => XS.bipush X564.here hx rfl (hb hby at_116) k) ?_
  refine own_by (fun _ k => Stand.ldc2J X564 hx hown (mvT hZ (hw _ (List.mem_of_getElem? (i := 12) rfl))) rfl (hb hby at_118) k) ?_
  obtain ⟨cl567, Ar567, cq567, hin567, hat567, set567⟩ := own_arv V564 (j := (11 : Int32)) ⟨by decide, by decide⟩
  obtain ⟨T568, h568, X568, e568, W568, st568⟩ := stJ X564 hx hZ e564 Ar567 (j := (11 : Int32)) hin567 (g := (mkF m 121 #[.val (.int p1), .val (.int p2), .val (.int p3), .val (.int p4), .val (.long lv), .second, .val (.int (Int32.ofNat nv)), .val (.int (Int32.ofNat nf)), .val (.int (Int32.ofNat na)), .val (.int (Int32.ofNat nd)), .unset, .unset, .unset, .unset, .unset, .unset, .unset, .unset, .unset, .unset, .unset, .unset, .unset, .unset] [(.long (100000000000 : Int64)), (.int (11 : Int32)), (.ref b520), (.ref b520)])) rfl rfl (hb hby at_121)
  have V568 : Arv Z h568 b520 k520 .long (19 : Int32) [(.long (1 : Int64)), (.long (10 : Int64)), (.long (100 : Int64)), (.long (1000 : Int64)), (.long (10000 : Int64)), (.long (100000 : Int64)), (.long (1000000 : Int64)), (.long (10000000 : Int64)), (.long (100000000 : Int64)), (.long (1000000000 : Int64)), (.long (10000000000 : Int64)), (.long (100000000000 : Int64)), (.long (0 : Int64)), (.long (0 : Int64)), (.long (0 : Int64)), (.long (0 : Int64)), (.long (0 : Int64)), (.long (0 : Int64)), (.long (0 : Int64))] (.long (0 : Int64)) := set567 rfl W568 11 rfl (Nat.le_of_ble_eq_true rfl)
  have N568 := Fr.snoc X568 N564 og_b520
  have K569 := K565.wr W568 (Or.inr sz_b520)
  have Z568 : n0 ≤ h568.size := Nat.le_trans Z564 (Keep.of_wr W568).1
  have kz570 : _ ≤ h568.size := Nat.le_trans kz566 (Keep.of_wr W568).1
  refine own_by st568 ?_
  refine own_by (fun _ k => XS.dup X568.here hx rfl (hb hby at_122) rfl rfl k) ?_
  refine own_by (fun _ k => XS.bipush X568.here hx rfl (hb hby at_123) k) ?_
  show own_Go p e below _ T568 (mkF m 125 #[.val (.int p1), .val (.int p2), .val (.int p3), .val (.int p4), .val (.long lv), .second, .val (.int (Int32.ofNat nv)), .val (.int (Int32.ofNat nf)), .val (.int (Int32.ofNat na)), .val (.int (Int32.ofNat nd)), .unset, .unset, .unset, .unset, .unset, .unset, .unset, .unset, .unset, .unset, .unset, .unset, .unset, .unset] [(.int (12 : Int32)), (.ref b520), (.ref b520)])
  refine own_by (fun _ k => Stand.ldc2J X568 hx hown (mvT hZ (hw _ (List.mem_of_getElem? (i := 13) rfl))) rfl (hb hby at_125) k) ?_
  obtain ⟨cl571, Ar571, cq571, hin571, hat571, set571⟩ := own_arv V568 (j := (12 : Int32)) ⟨by decide, by decide⟩
  obtain ⟨T572, h572, X572, e572, W572, st572⟩ := stJ X568 hx hZ e568 Ar571 (j := (12 : Int32)) hin571 (g := (mkF m 128 #[.val (.int p1), .val (.int p2), .val (.int p3), .val (.int p4), .val (.long lv), .second, .val (.int (Int32.ofNat nv)), .val (.int (Int32.ofNat nf)), .val (.int (Int32.ofNat na)), .val (.int (Int32.ofNat nd)), .unset, .unset, .unset, .unset, .unset, .unset, .unset, .unset, .unset, .unset, .unset, .unset, .unset, .unset] [(.long (1000000000000 : Int64)), (.int (12 : Int32)), (.ref b520), (.ref b520)])) rfl rfl (hb hby at_128)
  have V572 : Arv Z h572 b520 k520 .long (19 : Int32) [(.long (1 : Int64)), (.long (10 : Int64)), (.long (100 : Int64)), (.long (1000 : Int64)), (.long (10000 : Int64)), (.long (100000 : Int64)), (.long (1000000 : Int64)), (.long (10000000 : Int64)), (.long (100000000 : Int64)), (.long (1000000000 : Int64)), (.long (10000000000 : Int64)), (.long (100000000000 : Int64)), (.long (1000000000000 : Int64)), (.long (0 : Int64)), (.long (0 : Int64)), (.long (0 : Int64)), (.long (0 : Int64)), (.long (0 : Int64)), (.long (0 : Int64))] (.long (0 : Int64)) := set571 rfl W572 12 rfl (Nat.le_of_ble_eq_true rfl)
  have N572 := Fr.snoc X572 N568 og_b520
  have K573 := K569.wr W572 (Or.inr sz_b520)
  have Z572 : n0 ≤ h572.size := Nat.le_trans Z568 (Keep.of_wr W572).1
  have kz574 : _ ≤ h572.size := Nat.le_trans kz570 (Keep.of_wr W572).1
  refine own_by st572 ?_
  refine own_by (fun _ k => XS.dup X572.here hx rfl (hb hby at_129) rfl rfl k) ?_
  refine own_by (fun _ k => XS.bipush X572.here hx rfl (hb hby at_130) k) ?_
  refine own_by (fun _ k => Stand.ldc2J X572 hx hown (mvT hZ (hw _ (List.mem_of_getElem? (i := 14) rfl))) rfl (hb hby at_132) k) ?_
  obtain ⟨cl575, Ar575, cq575, hin575, hat575, set575⟩ := own_arv V572 (j := (13 : Int32)) ⟨by decide, by decide⟩
  obtain ⟨T576, h576, X576, e576, W576, st576⟩ := stJ X572 hx hZ e572 Ar575 (j := (13 : Int32)) hin575 (g := (mkF m 135 #[.val (.int p1), .val (.int p2), .val (.int p3), .val (.int p4), .val (.long lv), .second, .val (.int (Int32.ofNat nv)), .val (.int (Int32.ofNat nf)), .val (.int (Int32.ofNat na)), .val (.int (Int32.ofNat nd)), .unset, .unset, .unset, .unset, .unset, .unset, .unset, .unset, .unset, .unset, .unset, .unset, .unset, .unset] [(.long (10000000000000 : Int64)), (.int (13 : Int32)), (.ref b520), (.ref b520)])) rfl rfl (hb hby at_135)
  have V576 : Arv Z h576 b520 k520 .long (19 : Int32) [(.long (1 : Int64)), (.long (10 : Int64)), (.long (100 : Int64)), (.long (1000 : Int64)), (.long (10000 : Int64)), (.long (100000 : Int64)), (.long (1000000 : Int64)), (.long (10000000 : Int64)), (.long (100000000 : Int64)), (.long (1000000000 : Int64)), (.long (10000000000 : Int64)), (.long (100000000000 : Int64)), (.long (1000000000000 : Int64)), (.long (10000000000000 : Int64)), (.long (0 : Int64)), (.long (0 : Int64)), (.long (0 : Int64)), (.long (0 : Int64)), (.long (0 : Int64))] (.long (0 : Int64)) := set575 rfl W576 13 rfl (Nat.le_of_ble_eq_true rfl)
  have N576 := Fr.snoc X576 N572 og_b520
  have K577 := K573.wr W576 (Or.inr sz_b520)
  have Z576 : n0 ≤ h576.size := Nat.le_trans Z572 (Keep.of_wr W576).1
  have kz578 : _ ≤ h576.size := Nat.le_trans kz574 (Keep.of_wr W576).1
  refine own_by st576 ?_
  refine own_by (fun _ k => XS.dup X576.here hx rfl (hb hby at_136) rfl rfl k) ?_
  refine own_by (fun _ k => XS.bipush X576.here hx rfl (hb hby at_137) k) ?_
  refine own_by (fun _ k => Stand.ldc2J X576 hx hown (mvT hZ (hw _ (List.mem_of_getElem? (i := 15) rfl))) rfl (hb hby at_139) k) ?_
  show own_Go p e below _ T576 (mkF m 142 #[.val (.int p1), .val (.int p2), .val (.int p3), .val (.int p4), .val (.long lv), .second, .val (.int (Int32.ofNat nv)), .val (.int (Int32.ofNat nf)), .val (.int (Int32.ofNat na)), .val (.int (Int32.ofNat nd)), .unset, .unset, .unset, .unset, .unset, .unset, .unset, .unset, .unset, .unset, .unset, .unset, .unset, .unset] [(.long (100000000000000 : Int64)), (.int (14 : Int32)), (.ref b520), (.ref b520)])
  obtain ⟨cl579, Ar579, cq579, hin579, hat579, set579⟩ := own_arv V576 (j := (14 : Int32)) ⟨by decide, by decide⟩
  obtain ⟨T580, h580, X580, e580, W580, st580⟩ := stJ X576 hx hZ e576 Ar579 (j := (14 : Int32)) hin579 (g := (mkF m 142 #[.val (.int p1), .val (.int p2), .val (.int p3), .val (.int p4), .val (.long lv), .second, .val (.int (Int32.ofNat nv)), .val (.int (Int32.ofNat nf)), .val (.int (Int32.ofNat na)), .val (.int (Int32.ofNat nd)), .unset, .unset, .unset, .unset, .unset, .unset, .unset, .unset, .unset, .unset, .unset, .unset, .unset, .unset] [(.long (100000000000000 : Int64)), (.int (14 : Int32)), (.ref b520), (.ref b520)])) rfl rfl (hb hby at_142)
  have V580 : Arv Z h580 b520 k520 .long (19 : Int32) [(.long (1 : Int64)), (.long (10 : Int64)), (.long (100 : Int64)), (.long (1000 : Int64)), (.long (10000 : Int64)), (.long (100000 : Int64)), (.long (1000000 : Int64)), (.long (10000000 : Int64)), (.long (100000000 : Int64)), (.long (1000000000 : Int64)), (.long (10000000000 : Int64)), (.long (100000000000 : Int64)), (.long (1000000000000 : Int64)), (.long (10000000000000 : Int64)), (.long (100000000000000 : Int64)), (.long (0 : Int64)), (.long (0 : Int64)), (.long (0 : Int64)), (.long (0 : Int64))] (.long (0 : Int64)) := set579 rfl W580 14 rfl (Nat.le_of_ble_eq_true rfl)
  have N580 := Fr.snoc X580 N576 og_b520
  have K581 := K577.wr W580 (Or.inr sz_b520)
  have Z580 : n0 ≤ h580.size := Nat.le_trans Z576 (Keep.of_wr W580).1
  have kz582 : _ ≤ h580.size := Nat.le_trans kz578 (Keep.of_wr W580).1
  refine own_by st580 ?_
  refine own_by (fun _ k => XS.dup X580.here hx rfl (hb hby at_143) rfl rfl k) ?_
  refine own_by (fun _ k => XS.bipush X580.here hx rfl (hb hby at_144) k) ?_
  refine own_by (fun _ k => Stand.ldc2J X580 hx hown (mvT hZ (hw _ (List.mem_of_getElem? (i := 16) rfl))) rfl (hb hby at_146) k) ?_
  obtain ⟨cl583, Ar583, cq583, hin583, hat583, set583⟩ := own_arv V580 (j := (15 : Int32)) ⟨by decide, by decide⟩
  obtain ⟨T584, h584, X584, e584, W584, st584⟩ := stJ X580 hx hZ e580 Ar583 (j := (15 : Int32)) hin583 (g := (mkF m 149 #[.val (.int p1), .val (.int p2), .val (.int p3), .val (.int p4), .val (.long lv), .second, .val (.int (Int32.ofNat nv)), .val (.int (Int32.ofNat nf)), .val (.int (Int32.ofNat na)), .val (.int (Int32.ofNat nd)), .unset, .unset, .unset, .unset, .unset, .unset, .unset, .unset, .unset, .unset, .unset, .unset, .unset, .unset] [(.long (1000000000000000 : Int64)), (.int (15 : Int32)), (.ref b520), (.ref b520)])) rfl rfl (hb hby at_149)
  have V584 : Arv Z h584 b520 k520 .long (19 : Int32) [(.long (1 : Int64)), (.long (10 : Int64)), (.long (100 : Int64)), (.long (1000 : Int64)), (.long (10000 : Int64)), (.long (100000 : Int64)), (.long (1000000 : Int64)), (.long (10000000 : Int64)), (.long (100000000 : Int64)), (.long (1000000000 : Int64)), (.long (10000000000 : Int64)), (.long (100000000000 : Int64)), (.long (1000000000000 : Int64)), (.long (10000000000000 : Int64)), (.long (100000000000000 : Int64)), (.long (1000000000000000 : Int64)), (.long (0 : Int64)), (.long (0 : Int64)), (.long (0 : Int64))] (.long (0 : Int64)) := set583 rfl W584 15 rfl (Nat.le_of_ble_eq_true rfl)
  have N584 := Fr.snoc X584 N580 og_b520
  have K585 := K581.wr W584 (Or.inr sz_b520)
  have Z584 : n0 ≤ h584.size := Nat.le_trans Z580 (Keep.of_wr W584).1
  have kz586 : _ ≤ h584.size := Nat.le_trans kz582 (Keep.of_wr W584).1
  refine own_by st584 ?_
  refine own_by (fun _ k => XS.dup X584.here hx rfl (hb hby at_150) rfl rfl k) ?_
  refine own_by (fun _ k => XS.bipush X584.here hx rfl (hb hby at_151) k) ?_
  refine own_by (fun _ k => Stand.ldc2J X584 hx hown (mvT hZ (hw _ (List.mem_of_getElem? (i := 17) rfl))) rfl (hb hby at_153) k) ?_
  obtain ⟨cl587, Ar587, cq587, hin587, hat587, set587⟩ := own_arv V584 (j := (16 : Int32)) ⟨by decide, by decide⟩
  obtain ⟨T588, h588, X588, e588, W588, st588⟩ := stJ X584 hx hZ e584 Ar587 (j := (16 : Int32)) hin587 (g := (mkF m 156 #[.val (.int p1), .val (.int p2), .val (.int p3), .val (.int p4), .val (.long lv), .second, .val (.int (Int32.ofNat nv)), .val (.int (Int32.ofNat nf)), .val (.int (Int32.ofNat na)), .val (.int (Int32.ofNat nd)), .unset, .unset, .unset, .unset, .unset, .unset, .unset, .unset, .unset, .unset, .unset, .unset, .unset, .unset] [(.long (10000000000000000 : Int64)), (.int (16 : Int32)), (.ref b520), (.ref b520)])) rfl rfl (hb hby at_156)
  have V588 : Arv Z h588 b520 k520 .long (19 : Int32) [(.long (1 : Int64)), (.long (10 : Int64)), (.long (100 : Int64)), (.long (1000 : Int64)), (.long (10000 : Int64)), (.long (100000 : Int64)), (.long (1000000 : Int64)), (.long (10000000 : Int64)), (.long (100000000 : Int64)), (.long (1000000000 : Int64)), (.long (10000000000 : Int64)), (.long (100000000000 : Int64)), (.long (1000000000000 : Int64)), (.long (10000000000000 : Int64)), (.long (100000000000000 : Int64)), (.long (1000000000000000 : Int64)), (.long (10000000000000000 : Int64)), (.long (0 : Int64)), (.long (0 : Int64))] (.long (0 : Int64)) := set587 rfl W588 16 rfl (Nat.le_of_ble_eq_true rfl)
  have N588 := Fr.snoc X588 N584 og_b520
  have K589 := K585.wr W588 (Or.inr sz_b520)
  have Z588 : n0 ≤ h588.size := Nat.le_trans Z584 (Keep.of_wr W588).1
  have kz590 : _ ≤ h588.size := Nat.le_trans kz586 (Keep.of_wr W588).1
  refine own_by st588 ?_
  show own_Go p e below _ T588 (mkF m 157 #[.val (.int p1), .val (.int p2), .val (.int p3), .val (.int p4), .val (.long lv), .second, .val (.int (Int32.ofNat nv)), .val (.int (Int32.ofNat nf)), .val (.int (Int32.ofNat na)), .val (.int (Int32.ofNat nd)), .unset, .unset, .unset, .unset, .unset, .unset, .unset, .unset, .unset, .unset, .unset, .unset, .unset, .unset] [(.ref b520)])
  refine own_by (fun _ k => XS.dup X588.here hx rfl (hb hby at_157) rfl rfl k) ?_
  refine own_by (fun _ k => XS.bipush X588.here hx rfl (hb hby at_158) k) ?_
  refine own_by (fun _ k => Stand.ldc2J X588 hx hown (mvT hZ (hw _ (List.mem_of_getElem? (i := 18) rfl))) rfl (hb hby at_160) k) ?_
  obtain ⟨cl591, Ar591, cq591, hin591, hat591, set591⟩ := own_arv V588 (j := (17 : Int32)) ⟨by decide, by decide⟩
  obtain ⟨T592, h592, X592, e592, W592, st592⟩ := stJ X588 hx hZ e588 Ar591 (j := (17 : Int32)) hin591 (g := (mkF m 163 #[.val (.int p1), .val (.int p2), .val (.int p3), .val (.int p4), .val (.long lv), .second, .val (.int (Int32.ofNat nv)), .val (.int (Int32.ofNat nf)), .val (.int (Int32.ofNat na)), .val (.int (Int32.ofNat nd)), .unset, .unset, .unset, .unset, .unset, .unset, .unset, .unset, .unset, .unset, .unset, .unset, .unset, .unset] [(.long (100000000000000000 : Int64)), (.int (17 : Int32)), (.ref b520), (.ref b520)])) rfl rfl (hb hby at_163)
  have V592 : Arv Z h592 b520 k520 .long (19 : Int32) [(.long (1 : Int64)), (.long (10 : Int64)), (.long (100 : Int64)), (.long (1000 : Int64)), (.long (10000 : Int64)), (.long (100000 : Int64)), (.long (1000000 : Int64)), (.long (10000000 : Int64)), (.long (100000000 : Int64)), (.long (1000000000 : Int64)), (.long (10000000000 : Int64)), (.long (100000000000 : Int64)), (.long (1000000000000 : Int64)), (.long (10000000000000 : Int64)), (.long (100000000000000 : Int64)), (.long (1000000000000000 : Int64)), (.long (10000000000000000 : Int64)), (.long (100000000000000000 : Int64)), (.long (0 : Int64))] (.long (0 : Int64)) := set591 rfl W592 17 rfl (Nat.le_of_ble_eq_true rfl)
  have N592 := Fr.snoc X592 N588 og_b520
  have K593 := K589.wr W592 (Or.inr sz_b520)
  have Z592 : n0 ≤ h592.size := Nat.le_trans Z588 (Keep.of_wr W592).1
  have kz594 : _ ≤ h592.size := Nat.le_trans kz590 (Keep.of_wr W592).1
  refine own_by st592 ?_
  refine own_by (fun _ k => XS.dup X592.here hx rfl (hb hby at_164) rfl rfl k) ?_
  refine own_by (fun _ k => XS.bipush X592.here hx rfl (hb hby at_165) k) ?_
  refine own_by (fun _ k => Stand.ldc2J X592 hx hown (mvT hZ (hw _ (List.mem_of_getElem? (i := 19) rfl))) rfl (hb hby at_167) k) ?_
  obtain ⟨cl595, Ar595, cq595, hin595, hat595, set595⟩ := own_arv V592 (j := (18 : Int32)) ⟨by decide, by decide⟩
  obtain ⟨T596, h596, X596, e596, W596, st596⟩ := stJ X592 hx hZ e592 Ar595 (j := (18 : Int32)) hin595 (g := (mkF m 170 #[.val (.int p1), .val (.int p2), .val (.int p3), .val (.int p4), .val (.long lv), .second, .val (.int (Int32.ofNat nv)), .val (.int (Int32.ofNat nf)), .val (.int (Int32.ofNat na)), .val (.int (Int32.ofNat nd)), .unset, .unset, .unset, .unset, .unset, .unset, .unset, .unset, .unset, .unset, .unset, .unset, .unset, .unset] [(.long (1000000000000000000 : Int64)), (.int (18 : Int32)), (.ref b520), (.ref b520)])) rfl rfl (hb hby at_170)
  have V596 : Arv Z h596 b520 k520 .long (19 : Int32) [(.long (1 : Int64)), (.long (10 : Int64)), (.long (100 : Int64)), (.long (1000 : Int64)), (.long (10000 : Int64)), (.long (100000 : Int64)), (.long (1000000 : Int64)), (.long (10000000 : Int64)), (.long (100000000 : Int64)), (.long (1000000000 : Int64)), (.long (10000000000 : Int64)), (.long (100000000000 : Int64)), (.long (1000000000000 : Int64)), (.long (10000000000000 : Int64)), (.long (100000000000000 : Int64)), (.long (1000000000000000 : Int64)), (.long (10000000000000000 : Int64)), (.long (100000000000000000 : Int64)), (.long (1000000000000000000 : Int64))] (.long (0 : Int64)) := set595 rfl W596 18 rfl (Nat.le_of_ble_eq_true rfl)
  have N596 := Fr.snoc X596 N592 og_b520
  have K597 := K593.wr W596 (Or.inr sz_b520)
  have Z596 : n0 ≤ h596.size := Nat.le_trans Z592 (Keep.of_wr W596).1
  have kz598 : _ ≤ h596.size := Nat.le_trans kz594 (Keep.of_wr W596).1
  refine own_by st596 ?_
  refine own_by (fun _ k => XS.astore X596.here hx rfl (hb hby at_171) rfl rfl (l' := #[.val (.int p1), .val (.int p2), .val (.int p3), .val (.int p4), .val (.long lv), .second, .val (.int (Int32.ofNat nv)), .val (.int (Int32.ofNat nf)), .val (.int (Int32.ofNat na)), .val (.int (Int32.ofNat nd)), .val (.ref b520), .unset, .unset, .unset, .unset, .unset, .unset, .unset, .unset, .unset, .unset, .unset, .unset, .unset]) rfl k) ?_
  show own_Go p e below _ T596 (mkF m 173 #[.val (.int p1), .val (.int p2), .val (.int p3), .val (.int p4), .val (.long lv), .second, .val (.int (Int32.ofNat nv)), .val (.int (Int32.ofNat nf)), .val (.int (Int32.ofNat na)), .val (.int (Int32.ofNat nd)), .val (.ref b520), .unset, .unset, .unset, .unset, .unset, .unset, .unset, .unset, .unset, .unset, .unset, .unset, .unset] [])
  have AP : Arv Z h596 b520 k520 .long (Int32.ofNat own_ps.length) (own_ps.map Value.long) (.long 0) := V596
  obtain ⟨T599, h599, X599, e599, E599, A599, D599, -, st599⟩ := newO X596 hx hZ hown (hw _ (List.mem_of_getElem? (i := 20) rfl)) (hw _ (List.mem_of_getElem? (i := 21) rfl)) (hw _ (List.mem_of_getElem? (i := 22) rfl)) e596 (g := (mkF m 173 #[.val (.int p1), .val (.int p2), .val (.int p3), .val (.int p4), .val (.long lv), .second, .val (.int (Int32.ofNat nv)), .val (.int (Int32.ofNat nf)), .val (.int (Int32.ofNat na)), .val (.int (Int32.ofNat nd)), .val (.ref b520), .unset, .unset, .unset, .unset, .unset, .unset, .unset, .unset, .unset, .unset, .unset, .unset, .unset] [])) rfl (hb hby at_173) (by decide) (by decide)
  obtain ⟨b599, g599⟩ : ∃ zq, zq = h596.size := ⟨_, rfl⟩
  rw [← g599] at A599 D599 st599
  have ne_b520_b599 : b520 ≠ b599 := Nat.ne_of_lt (Nat.lt_of_lt_of_le AP.lt (Nat.le_of_eq g599.symm))
  have og_b599 : n0 ≤ b599 := Nat.le_trans Z596 (Nat.le_of_eq g599.symm)
  have sz_b599 : h0.size ≤ b599 := Nat.le_trans K597.1 (Nat.le_of_eq g599.symm)
  have Z599 : n0 ≤ h599.size := Nat.le_trans Z596 E599.1
  have kz600 : _ ≤ h599.size := Nat.le_trans kz598 E599.1
  have K601 := K597.ext E599
  have F_variables_b599 : Fld Z h599 b599 "com/example/regretta/regretta/GroupProblemGenerator" "variables" "I" (.int (0 : Int32)) := D599 (Or.inr (hw _ (List.mem_of_getElem? (i := 52) rfl))) (ty := .int) (by decide)
  have F_factors_b599 : Fld Z h599 b599 "com/example/regretta/regretta/GroupProblemGenerator" "factors" "I" (.int (0 : Int32)) := D599 (Or.inr (hw _ (List.mem_of_getElem? (i := 54) rfl))) (ty := .int) (by decide)
  have F_agents_b599 : Fld Z h599 b599 "com/example/regretta/regretta/GroupProblemGenerator" "agents" "I" (.int (0 : Int32)) := D599 (Or.inr (hw _ (List.mem_of_getElem? (i := 56) rfl))) (ty := .int) (by decide)
  have F_domain_b599 : Fld Z h599 b599 "com/example/regretta/regretta/GroupProblemGenerator" "domain" "I" (.int (0 : Int32)) := D599 (Or.inr (hw _ (List.mem_of_getElem? (i := 58) rfl))) (ty := .int) (by decide)
  refine own_by st599 ?_
  refine own_by (fun _ k => XS.dup X599.here hx rfl (hb hby at_176) rfl rfl k) ?_
  refine own_by (fun _ k => XS.iload X599.here hx rfl (hb hby at_177) rfl k) ?_
  refine own_by (fun _ k => XS.iload X599.here hx rfl (hb hby at_179) rfl k) ?_
  refine own_by (fun _ k => XS.iload X599.here hx rfl (hb hby at_181) rfl k) ?_
  refine own_by (fun _ k => XS.iload X599.here hx rfl (hb hby at_183) rfl k) ?_
  have hk602 : own_K Z h599 := own_KW hkz K601 all0
  have f603 := (AP.ext E599)
  obtain ⟨_, T604, L604, k604w, X604, ⟨rfl, N604q, K1, E1, Fv, Ff, Fa, Fd, I1⟩, S604, kz604, hZ, hown, st604⟩ := own_callIW X599 hx hZ hown S0 kz600 (y := (⟨"com/example/regretta/regretta/GroupProblemGenerator", "<init>", "(IIII)V"⟩ : MethodName)) rfl (hw _ (List.mem_of_getElem? (i := 23) rfl)) (hw _ (List.mem_of_getElem? (i := 24) rfl)) (hw _ (List.mem_of_getElem? (i := 22) rfl)) (hw _ (List.mem_of_getElem? (i := 25) rfl)) (by decide) (a := b599) (argsL := [(.int (Int32.ofNat nv)), (.int (Int32.ofNat nf)), (.int (Int32.ofNat na)), (.int (Int32.ofNat nd))]) (rest := [(.ref b599)]) (fun vm hv => own_ibW I0 hv) e599 (rm1 l Z a0 hw [] b599 nv nf na nd w1 d1 d2 kd1 kd2 fm h599 n0 Z599 hz hk602 TB hv hf ha hd og_b599 A599 F_variables_b599 F_factors_b599 F_agents_b599 F_domain_b599 hc9 hc17 hc19 hc21 hcw) (g := (mkF m 185 #[.val (.int p1), .val (.int p2), .val (.int p3), .val (.int p4), .val (.long lv), .second, .val (.int (Int32.ofNat nv)), .val (.int (Int32.ofNat nf)), .val (.int (Int32.ofNat na)), .val (.int (Int32.ofNat nd)), .val (.ref b520), .unset, .unset, .unset, .unset, .unset, .unset, .unset, .unset, .unset, .unset, .unset, .unset, .unset] [(.int (Int32.ofNat nd)), (.int (Int32.ofNat na)), (.int (Int32.ofNat nf)), (.int (Int32.ofNat nv)), (.ref b599), (.ref b599)])) rfl (by rw [hml]; rfl) (lenOf pd_33 rfl) rfl (W := 1) (by show 2 * 0 + _ ≤ _; exact Nat.le_of_eq rfl) (hb hby at_185) (by decide) (by decide) (by decide) (by decide)
  have N604 := Fr.app N596 N604q
  refine own_by st604 ?_
  have Z604 : n0 ≤ T604.heap.size := Nat.le_trans Z599 K1.1
  have K604c := K601.trans K1 (allS (Or.inr sz_b599) all0)
  refine own_by (fun _ k => XS.astore X604.here hx rfl (hb hby at_188) rfl rfl (l' := #[.val (.int p1), .val (.int p2), .val (.int p3), .val (.int p4), .val (.long lv), .second, .val (.int (Int32.ofNat nv)), .val (.int (Int32.ofNat nf)), .val (.int (Int32.ofNat na)), .val (.int (Int32.ofNat nd)), .val (.ref b520), .val (.ref b599), .unset, .unset, .unset, .unset, .unset, .unset, .unset, .unset, .unset, .unset, .unset, .unset]) rfl k) ?_
  refine own_by (fun _ k => XS.aload X604.here hx rfl (hb hby at_190) rfl rfl k) ?_
  show own_Go p e below _ T604 (mkF m 192 #[.val (.int p1), .val (.int p2), .val (.int p3), .val (.int p4), .val (.long lv), .second, .val (.int (Int32.ofNat nv)), .val (.int (Int32.ofNat nf)), .val (.int (Int32.ofNat na)), .val (.int (Int32.ofNat nd)), .val (.ref b520), .val (.ref b599), .unset, .unset, .unset, .unset, .unset, .unset, .unset, .unset, .unset, .unset, .unset, .unset] [(.ref b599)])
  refine own_by (fun _ k => XS.lload X604.here hx rfl (hb hby at_192) rfl k) ?_
  have hk605 : own_K Z T604.heap := own_KW hkz K604c all0
  have f606 := (f603.keep K1 (ninS ne_b520_b599 nin0))
  obtain ⟨_, T607, L607, k607w, X607, ⟨cn, sx, tx, kx, rfl, N607r, hC, K2, ssx, Ex, Cx, Vx, Ax, I2⟩, S607, kz607, hZ, hown, st607⟩ := own_callVW X604 hx hZ hown S604 kz604 (y := (⟨"com/example/regretta/regretta/GroupProblemGenerator", "description", "(J)Ljava/lang/String;"⟩ : MethodName)) (C := "com/example/regretta/regretta/GroupProblemGenerator") (hw _ (List.mem_of_getElem? (i := 59) rfl)) (hw _ (List.mem_of_getElem? (i := 60) rfl)) (hw _ (List.mem_of_getElem? (i := 62) rfl)) (hw _ (List.mem_of_getElem? (i := 61) rfl)) (hw _ (List.mem_of_getElem? (i := 22) rfl)) (hw _ (List.mem_of_getElem? (i := 63) rfl)) (by decide) (a := b599) (argsL := [(.long lv)]) (rest := []) E1 (fun vm hv => own_ibW I1 hv) rfl (rm6 l Z a0 hw [] b599 nv nf na nd lv w1 d1 d2 kd1 kd2 fm T604.heap T604.heap.size (Nat.le_refl _) (Nat.le_trans hz Z604) hk605 TB hv hf ha hd rfl E1 Fv Ff Fa Fd hc154 hc156 hc158 hc160 hc162 hcw) (g := (mkF m 194 #[.val (.int p1), .val (.int p2), .val (.int p3), .val (.int p4), .val (.long lv), .second, .val (.int (Int32.ofNat nv)), .val (.int (Int32.ofNat nf)), .val (.int (Int32.ofNat na)), .val (.int (Int32.ofNat nd)), .val (.ref b520), .val (.ref b599), .unset, .unset, .unset, .unset, .unset, .unset, .unset, .unset, .unset, .unset, .unset, .unset] [(.long lv), (.ref b599)])) rfl (by rw [hml]; rfl) (lenOf pd_34 rfl) rfl (W := 0) (by show 2 * 0 + _ ≤ _; exact Nat.le_of_eq rfl) (hb hby at_194) (by decide) (by decide) (by decide) (by decide)
  have N607q : Fr n0 L607 := fun y hy => Nat.le_trans Z604 (N607r y hy)
  have N607 := Fr.app N604 N607q
  refine own_by st607 ?_
  have ne_b520_sx : b520 ≠ sx := Nat.ne_of_lt (Nat.lt_of_lt_of_le f606.lt ssx)
  have ne_b599_sx : b599 ≠ sx := Nat.ne_of_lt (Nat.lt_of_lt_of_le E1.lt ssx)
  have og_sx : n0 ≤ sx := Nat.le_trans Z604 ssx
  have sz_sx : h0.size ≤ sx := Nat.le_trans K604c.1 ssx
  have Z607 : n0 ≤ T607.heap.size := Nat.le_trans Z604 K2.1
  have K607c := K604c.trans K2 all0
  have hcn := hC.2.1
  have hc1 := hC.1
  have hsg := own_sg1 lv
  have hdg0 := fun j (hj : j < cn) => own_resd (nv := nv) (nf := nf) (na := na) (nd := nd) (lv := lv) hj
  have hP := own_hP nv nf na nd lv cn
  have hy := own_resasc hv.2 hf ha.2 hd.2 lv cn
  have hlen := own_resl nv nf na nd lv cn
  have hg36 : (own_res nv nf na nd lv cn).getD 36 0 = Int32.ofNat (48 + nv) := own_resg (by decide)
  have hg48 : (own_res nv nf na nd lv cn).getD 48 0 = Int32.ofNat (48 + nf) := own_resg (by decide)
  have hg59 : (own_res nv nf na nd lv cn).getD 59 0 = Int32.ofNat (48 + na) := own_resg (by decide)
  have hg70 : (own_res nv nf na nd lv cn).getD 70 0 = Int32.ofNat (48 + nd) := own_resg (by decide)
  have hg79 : lv < 0 → (own_res nv nf na nd lv cn).getD 79 0 = 45 := fun h => own_ress h
  generalize own_res nv nf na nd lv cn = ys at Ax hdg0 hP hy hlen hg36 hg48 hg59 hg70 hg79
  have hn : ys.length ≤ 10000 := by omega
  have hl79 : 79 ≤ ys.length := by omega
  refine own_by (fun _ k => XS.astore X607.here hx rfl (hb hby at_197) rfl rfl (l' := #[.val (.int p1), .val (.int p2), .val (.int p3), .val (.int p4), .val (.long lv), .second, .val (.int (Int32.ofNat nv)), .val (.int (Int32.ofNat nf)), .val (.int (Int32.ofNat na)), .val (.int (Int32.ofNat nd)), .val (.ref b520), .val (.ref b599), .val (.ref sx), .unset, .unset, .unset, .unset, .unset, .unset, .unset, .unset, .unset, .unset, .unset]) rfl k) ?_
  refine own_by (fun _ k => XS.lload X607.here hx rfl (hb hby at_199) rfl k) ?_
  refine own_by (fun _ k => XS.lconst X607.here hx rfl (hb hby at_201) k) ?_
  refine own_by (fun _ k => XS.lcmp X607.here hx rfl (hb hby at_202) rfl k) ?_
  have J226 : ∀ (ng : Int32) (hng : (ng = 1 ∧ lv < 0) ∨ (ng = 0 ∧ ¬ lv < 0)) (mm : Int64) (hm : mm.toInt = -(own_abs lv : Int)), own_Go p e below (own_EndW s room_1.cells room_1.slots (Q_rm0 Z p1 p2 p3 p4 lv w1 d1 d2 kd1 kd2 fm h0 n0)) T607 (mkF m 226 #[.val (.int p1), .val (.int p2), .val (.int p3), .val (.int p4), .val (.long lv), .second, .val (.int (Int32.ofNat nv)), .val (.int (Int32.ofNat nf)), .val (.int (Int32.ofNat na)), .val (.int (Int32.ofNat nd)), .val (.ref b520), .val (.ref b599), .val (.ref sx), .val (.int ng), .unset, .unset, .unset, .unset, .unset, .unset, .unset, .unset, .unset, .unset] [(.long mm)]) := by
    intro  ng hng mm hm
    refine own_by (fun _ k => XS.lstore X607.here hx rfl (hb hby at_226) rfl (l' := #[.val (.int p1), .val (.int p2), .val (.int p3), .val (.int p4), .val (.long lv), .second, .val (.int (Int32.ofNat nv)), .val (.int (Int32.ofNat nf)), .val (.int (Int32.ofNat na)), .val (.int (Int32.ofNat nd)), .val (.ref b520), .val (.ref b599), .val (.ref sx), .val (.int ng), .val (.long mm), .second, .unset, .unset, .unset, .unset, .unset, .unset, .unset, .unset]) rfl k) ?_
    refine own_by (fun _ k => XS.aload X607.here hx rfl (hb hby at_228) rfl rfl k) ?_
    show own_Go p e below _ T607 (mkF m 230 #[.val (.int p1), .val (.int p2), .val (.int p3), .val (.int p4), .val (.long lv), .second, .val (.int (Int32.ofNat nv)), .val (.int (Int32.ofNat nf)), .val (.int (Int32.ofNat na)), .val (.int (Int32.ofNat nd)), .val (.ref b520), .val (.ref b599), .val (.ref sx), .val (.int ng), .val (.long mm), .second, .unset, .unset, .unset, .unset, .unset, .unset, .unset, .unset] [(.ref sx)])
    have hk608 : own_K Z T607.heap := own_KW hkz K607c all0
    obtain ⟨_, T609, L609, X609, ⟨rfl, N609q, e609⟩, st609⟩ := own_callV X607 hx hZ hown (y := (⟨"java/lang/String", "length", "()I"⟩ : MethodName)) (C := "java/lang/String") (hw _ (List.mem_of_getElem? (i := 238) rfl)) (hw _ (List.mem_of_getElem? (i := 94) rfl)) (hw _ (List.mem_of_getElem? (i := 96) rfl)) (hw _ (List.mem_of_getElem? (i := 95) rfl)) (hw _ (List.mem_of_getElem? (i := 30) rfl)) (hw _ (List.mem_of_getElem? (i := 97) rfl)) (by decide) (a := sx) Ex (argsL := []) (rest := []) rfl (rm11 l Z a0 hw [] sx tx kx ys w1 d1 d2 kd1 kd2 fm T607.heap n0 Z607 hz hk608 TB Ex Cx Vx Ax) (g := (mkF m 230 #[.val (.int p1), .val (.int p2), .val (.int p3), .val (.int p4), .val (.long lv), .second, .val (.int (Int32.ofNat nv)), .val (.int (Int32.ofNat nf)), .val (.int (Int32.ofNat na)), .val (.int (Int32.ofNat nd)), .val (.ref b520), .val (.ref b599), .val (.ref sx), .val (.int ng), .val (.long mm), .second, .unset, .unset, .unset, .unset, .unset, .unset, .unset, .unset] [(.ref sx)])) rfl (by rw [hml]; rfl) (lenOf pd_7 rfl) rfl (W := 0) (by show 2 * 0 + _ ≤ _; exact Nat.le_of_eq rfl) (hb hby at_230) (by decide) (by decide) (by decide) (by decide)
    have N609 := Fr.app N607 N609q
    refine own_by st609 ?_
    refine own_by (fun _ k => XS.istore X609.here hx rfl (hb hby at_233) rfl (l' := #[.val (.int p1), .val (.int p2), .val (.int p3), .val (.int p4), .val (.long lv), .second, .val (.int (Int32.ofNat nv)), .val (.int (Int32.ofNat nf)), .val (.int (Int32.ofNat na)), .val (.int (Int32.ofNat nd)), .val (.ref b520), .val (.ref b599), .val (.ref sx), .val (.int ng), .val (.long mm), .second, .val (.int (Int32.ofNat ys.length)), .unset, .unset, .unset, .unset, .unset, .unset, .unset]) rfl k) ?_
    refine own_by (fun _ k => XS.iload X609.here hx rfl (hb hby at_235) rfl k) ?_
    refine own_by (fun _ k => XS.bipush X609.here hx rfl (hb hby at_237) k) ?_
    refine own_by (fun _ k => XS.isub X609.here hx rfl (hb hby at_239) rfl k) ?_
    show own_Go p e below _ T609 (mkF m 240 #[.val (.int p1), .val (.int p2), .val (.int p3), .val (.int p4), .val (.long lv), .second, .val (.int (Int32.ofNat nv)), .val (.int (Int32.ofNat nf)), .val (.int (Int32.ofNat na)), .val (.int (Int32.ofNat nd)), .val (.ref b520), .val (.ref b599), .val (.ref sx), .val (.int ng), .val (.long mm), .second, .val (.int (Int32.ofNat ys.length)), .unset, .unset, .unset, .unset, .unset, .unset, .unset] [(.int ((Int32.ofNat ys.length) - (79 : Int32)))])
    rw [show ((Int32.ofNat ys.length) - (79 : Int32)) = (Int32.ofNat (cn + own_sg lv)) from (own_sub (b := 79) (by omega) (by omega)).trans (by rw [hlen]; congr 1; omega)]
    refine own_by (fun _ k => XS.iload X609.here hx rfl (hb hby at_240) rfl k) ?_
    have J250 : ∀ (si : Int32) (hsi : si = Int32.ofNat (own_sg lv)), own_Go p e below (own_EndW s room_1.cells room_1.slots (Q_rm0 Z p1 p2 p3 p4 lv w1 d1 d2 kd1 kd2 fm h0 n0)) T609 (mkF m 250 #[.val (.int p1), .val (.int p2), .val (.int p3), .val (.int p4), .val (.long lv), .second, .val (.int (Int32.ofNat nv)), .val (.int (Int32.ofNat nf)), .val (.int (Int32.ofNat na)), .val (.int (Int32.ofNat nd)), .val (.ref b520), .val (.ref b599), .val (.ref sx), .val (.int ng), .val (.long mm), .second, .val (.int (Int32.ofNat ys.length)), .unset, .unset, .unset, .unset, .unset, .unset, .unset] [(.int si), (.int (Int32.ofNat (cn + own_sg lv)))]) := by
      intro  si hsi
      refine own_by (fun _ k => XS.isub X609.here hx rfl (hb hby at_250) rfl k) ?_
      show own_Go p e below _ T609 (mkF m 251 #[.val (.int p1), .val (.int p2), .val (.int p3), .val (.int p4), .val (.long lv), .second, .val (.int (Int32.ofNat nv)), .val (.int (Int32.ofNat nf)), .val (.int (Int32.ofNat na)), .val (.int (Int32.ofNat nd)), .val (.ref b520), .val (.ref b599), .val (.ref sx), .val (.int ng), .val (.long mm), .second, .val (.int (Int32.ofNat ys.length)), .unset, .unset, .unset, .unset, .unset, .unset, .unset] [(.int ((Int32.ofNat (cn + own_sg lv)) - si))])
      rw [show ((Int32.ofNat (cn + own_sg lv)) - si) = (Int32.ofNat cn) from by rw [hsi, own_sub (by omega) (by omega), Nat.add_sub_cancel]]
      refine own_by (fun _ k => XS.istore X609.here hx rfl (hb hby at_251) rfl (l' := #[.val (.int p1), .val (.int p2), .val (.int p3), .val (.int p4), .val (.long lv), .second, .val (.int (Int32.ofNat nv)), .val (.int (Int32.ofNat nf)), .val (.int (Int32.ofNat na)), .val (.int (Int32.ofNat nd)), .val (.ref b520), .val (.ref b599), .val (.ref sx), .val (.int ng), .val (.long mm), .second, .val (.int (Int32.ofNat ys.length)), .val (.int (Int32.ofNat cn)), .unset, .unset, .unset, .unset, .unset, .unset]) rfl k) ?_
      refine own_by (fun _ k => XS.iload X609.here hx rfl (hb hby at_253) rfl k) ?_
      refine own_by (fun _ k => XS.iconst X609.here hx rfl (hb hby at_255) k) ?_
      refine own_by (fun _ k => XS.icmpNo X609.here hx rfl (hb hby at_256) rfl (flt (fun q => by have := (own_lt (a := cn) (b := 1) (by omega) (by omega)).mp q; omega : ¬ ((Int32.ofNat cn) < (1 : Int32)))).1 k) ?_
      refine own_by (fun _ k => XS.iload X609.here hx rfl (hb hby at_259) rfl k) ?_
      refine own_by (fun _ k => XS.bipush X609.here hx rfl (hb hby at_261) k) ?_
      refine own_by (fun _ k => XS.icmpYes X609.here hx rfl (pc0 := 263) (pc' := 268) rfl (hb hby at_263) rfl (flt (fun q => by have := (own_lt (a := 19) (b := cn) (by omega) (by omega)).mp q; omega : ¬ ((19 : Int32) < (Int32.ofNat cn)))).2.2.2 (by decide) (by decide) k) ?_
      refine own_by (fun _ k => XS.aload X609.here hx rfl (hb hby at_268) rfl rfl k) ?_
      show own_Go p e below _ T609 (mkF m 270 #[.val (.int p1), .val (.int p2), .val (.int p3), .val (.int p4), .val (.long lv), .second, .val (.int (Int32.ofNat nv)), .val (.int (Int32.ofNat nf)), .val (.int (Int32.ofNat na)), .val (.int (Int32.ofNat nd)), .val (.ref b520), .val (.ref b599), .val (.ref sx), .val (.int ng), .val (.long mm), .second, .val (.int (Int32.ofNat ys.length)), .val (.int (Int32.ofNat cn)), .unset, .unset, .unset, .unset, .unset, .unset] [(.ref sx)])
      refine own_by (fun _ k => XS.iconst X609.here hx rfl (hb hby at_270) k) ?_
      have f610 := (f606.keep K2 nin0)
      obtain ⟨_, T611, L611, k611w, X611, ⟨rfl, N611q, lr, lt, kl, Kl, El, Cl, Vl, Al, Ll611⟩, S611, kz611, hZ, hown, st611⟩ := own_callSW X609 hx hZ hown S607 kz607 (y := (⟨"com/example/regretta/regretta/GroupProblemGeneratorDescriptionPinLaw", "w8", "(Ljava/lang/String;I)Z"⟩ : MethodName)) (hw _ (List.mem_of_getElem? (i := 239) rfl)) (hw _ (List.mem_of_getElem? (i := 240) rfl)) (hw _ (List.mem_of_getElem? (i := 241) rfl)) (hw _ (List.mem_of_getElem? (i := 242) rfl)) (by decide) (argsL := [(.ref sx), (.int (0 : Int32))]) (rest := []) (fun vm hv => own_ibW I2 hv) e609 (rm39c l Z a0 hw [] sx tx kx ys 0 w1 d1 d2 kd1 kd2 fm T607.heap n0 Z607 hz hk608 TB Ex Cx Vx Ax (by decide) hl79 hn hy hP hcR hcw) (g := (mkF m 271 #[.val (.int p1), .val (.int p2), .val (.int p3), .val (.int p4), .val (.long lv), .second, .val (.int (Int32.ofNat nv)), .val (.int (Int32.ofNat nf)), .val (.int (Int32.ofNat na)), .val (.int (Int32.ofNat nd)), .val (.ref b520), .val (.ref b599), .val (.ref sx), .val (.int ng), .val (.long mm), .second, .val (.int (Int32.ofNat ys.length)), .val (.int (Int32.ofNat cn)), .unset, .unset, .unset, .unset, .unset, .unset] [(.int (0 : Int32)), (.ref sx)])) rfl (by rw [hml]; rfl) (lenOf pd_32 rfl) rfl (W := 0) (by show 2 * 0 + _ ≤ _; exact Nat.le_of_eq rfl) (hb hby at_271) (by decide) (by decide) (by decide) (by decide)
      have N611 := Fr.app N609 N611q
      refine own_by st611 ?_
      have Z611 : n0 ≤ T611.heap.size := Nat.le_trans Z607 Kl.1
      have K611c := K607c.trans Kl all0
      refine own_by (fun _ k => XS.ifNo X611.here hx rfl (hb hby at_274) rfl ((if0 _ _).trans (feq (by decide : ¬ ((1 : Int32) = (0 : Int32)))).1) k) ?_
      refine own_by (fun _ k => XS.aload X611.here hx rfl (hb hby at_277) rfl rfl k) ?_
      refine own_by (fun _ k => XS.bipush X611.here hx rfl (hb hby at_279) k) ?_
      have f612 := (Ex.keep Kl)
      have f613 := (Cx.keep Kl nin0)
      have f614 := (Vx.keep Kl nin0)
      have f615 := (Ax.keep Kl nin0)
      have hk616 : own_K Z T611.heap := own_KW hkz K611c all0
      have f617 := (f610.keep Kl nin0)
      obtain ⟨_, T618, L618, k618w, X618, ⟨rfl, N618q, e618, Ll618⟩, S618, kz618, hZ, hown, st618⟩ := own_callSW X611 hx hZ hown S611 kz611 (y := (⟨"com/example/regretta/regretta/GroupProblemGeneratorDescriptionPinLaw", "w8", "(Ljava/lang/String;I)Z"⟩ : MethodName)) (hw _ (List.mem_of_getElem? (i := 239) rfl)) (hw _ (List.mem_of_getElem? (i := 240) rfl)) (hw _ (List.mem_of_getElem? (i := 241) rfl)) (hw _ (List.mem_of_getElem? (i := 242) rfl)) (by decide) (argsL := [(.ref sx), (.int (8 : Int32))]) (rest := []) (fun vm hv => own_LvW Ll611 hv) rfl (rm39w l Z a0 hw [] sx tx kx ys 8 lr lt kl w1 d1 d2 kd1 kd2 fm T611.heap n0 Z611 hz hk616 TB f612 f613 f614 f615 (by decide) hl79 hn hy hP El Cl Vl Al) (g := (mkF m 281 #[.val (.int p1), .val (.int p2), .val (.int p3), .val (.int p4), .val (.long lv), .second, .val (.int (Int32.ofNat nv)), .val (.int (Int32.ofNat nf)), .val (.int (Int32.ofNat na)), .val (.int (Int32.ofNat nd)), .val (.ref b520), .val (.ref b599), .val (.ref sx), .val (.int ng), .val (.long mm), .second, .val (.int (Int32.ofNat ys.length)), .val (.int (Int32.ofNat cn)), .unset, .unset, .unset, .unset, .unset, .unset] [(.int (8 : Int32)), (.ref sx)])) rfl (by rw [hml]; rfl) (lenOf pd_32 rfl) rfl (W := 0) (by show 2 * 0 + _ ≤ _; exact Nat.le_of_eq rfl) (hb hby at_281) (by decide) (by decide) (by decide) (by decide)
      have N618 := Fr.app N611 N618q
      refine own_by st618 ?_
      rw [e618] at kz618
      refine own_by (fun _ k => XS.ifNo X618.here hx rfl (hb hby at_284) rfl ((if0 _ _).trans (feq (by decide : ¬ ((1 : Int32) = (0 : Int32)))).1) k) ?_
      refine own_by (fun _ k => XS.aload X618.here hx rfl (hb hby at_287) rfl rfl k) ?_
      refine own_by (fun _ k => XS.bipush X618.here hx rfl (hb hby at_289) k) ?_
      show own_Go p e below _ T618 (mkF m 291 #[.val (.int p1), .val (.int p2), .val (.int p3), .val (.int p4), .val (.long lv), .second, .val (.int (Int32.ofNat nv)), .val (.int (Int32.ofNat nf)), .val (.int (Int32.ofNat na)), .val (.int (Int32.ofNat nd)), .val (.ref b520), .val (.ref b599), .val (.ref sx), .val (.int ng), .val (.long mm), .second, .val (.int (Int32.ofNat ys.length)), .val (.int (Int32.ofNat cn)), .unset, .unset, .unset, .unset, .unset, .unset] [(.int (16 : Int32)), (.ref sx)])
      obtain ⟨_, T619, L619, k619w, X619, ⟨rfl, N619q, e619, Ll619⟩, S619, kz619, hZ, hown, st619⟩ := own_callSW X618 hx hZ hown S618 kz618 (y := (⟨"com/example/regretta/regretta/GroupProblemGeneratorDescriptionPinLaw", "w8", "(Ljava/lang/String;I)Z"⟩ : MethodName)) (hw _ (List.mem_of_getElem? (i := 239) rfl)) (hw _ (List.mem_of_getElem? (i := 240) rfl)) (hw _ (List.mem_of_getElem? (i := 241) rfl)) (hw _ (List.mem_of_getElem? (i := 242) rfl)) (by decide) (argsL := [(.ref sx), (.int (16 : Int32))]) (rest := []) (fun vm hv => own_LvW Ll618 hv) e618 (rm39w l Z a0 hw [] sx tx kx ys 16 lr lt kl w1 d1 d2 kd1 kd2 fm T611.heap n0 Z611 hz hk616 TB f612 f613 f614 f615 (by decide) hl79 hn hy hP El Cl Vl Al) (g := (mkF m 291 #[.val (.int p1), .val (.int p2), .val (.int p3), .val (.int p4), .val (.long lv), .second, .val (.int (Int32.ofNat nv)), .val (.int (Int32.ofNat nf)), .val (.int (Int32.ofNat na)), .val (.int (Int32.ofNat nd)), .val (.ref b520), .val (.ref b599), .val (.ref sx), .val (.int ng), .val (.long mm), .second, .val (.int (Int32.ofNat ys.length)), .val (.int (Int32.ofNat cn)), .unset, .unset, .unset, .unset, .unset, .unset] [(.int (16 : Int32)), (.ref sx)])) rfl (by rw [hml]; rfl) (lenOf pd_32 rfl) rfl (W := 0) (by show 2 * 0 + _ ≤ _; exact Nat.le_of_eq rfl) (hb hby at_291) (by decide) (by decide) (by decide) (by decide)
      have N619 := Fr.app N618 N619q
      refine own_by st619 ?_
      rw [e619] at kz619
      refine own_by (fun _ k => XS.ifNo X619.here hx rfl (hb hby at_294) rfl ((if0 _ _).trans (feq (by decide : ¬ ((1 : Int32) = (0 : Int32)))).1) k) ?_
      refine own_by (fun _ k => XS.aload X619.here hx rfl (hb hby at_297) rfl rfl k) ?_
      refine own_by (fun _ k => XS.bipush X619.here hx rfl (hb hby at_299) k) ?_
      obtain ⟨_, T620, L620, k620w, X620, ⟨rfl, N620q, e620, Ll620⟩, S620, kz620, hZ, hown, st620⟩ := own_callSW X619 hx hZ hown S619 kz619 (y := (⟨"com/example/regretta/regretta/GroupProblemGeneratorDescriptionPinLaw", "w8", "(Ljava/lang/String;I)Z"⟩ : MethodName)) (hw _ (List.mem_of_getElem? (i := 239) rfl)) (hw _ (List.mem_of_getElem? (i := 240) rfl)) (hw _ (List.mem_of_getElem? (i := 241) rfl)) (hw _ (List.mem_of_getElem? (i := 242) rfl)) (by decide) (argsL := [(.ref sx), (.int (24 : Int32))]) (rest := []) (fun vm hv => own_LvW Ll619 hv) e619 (rm39w l Z a0 hw [] sx tx kx ys 24 lr lt kl w1 d1 d2 kd1 kd2 fm T611.heap n0 Z611 hz hk616 TB f612 f613 f614 f615 (by decide) hl79 hn hy hP El Cl Vl Al) (g := (mkF m 301 #[.val (.int p1), .val (.int p2), .val (.int p3), .val (.int p4), .val (.long lv), .second, .val (.int (Int32.ofNat nv)), .val (.int (Int32.ofNat nf)), .val (.int (Int32.ofNat na)), .val (.int (Int32.ofNat nd)), .val (.ref b520), .val (.ref b599), .val (.ref sx), .val (.int ng), .val (.long mm), .second, .val (.int (Int32.ofNat ys.length)), .val (.int (Int32.ofNat cn)), .unset, .unset, .unset, .unset, .unset, .unset] [(.int (24 : Int32)), (.ref sx)])) rfl (by rw [hml]; rfl) (lenOf pd_32 rfl) rfl (W := 0) (by show 2 * 0 + _ ≤ _; exact Nat.le_of_eq rfl) (hb hby at_301) (by decide) (by decide) (by decide) (by decide)
      have N620 := Fr.app N619 N620q
      refine own_by st620 ?_
      rw [e620] at kz620
      refine own_by (fun _ k => XS.ifNo X620.here hx rfl (hb hby at_304) rfl ((if0 _ _).trans (feq (by decide : ¬ ((1 : Int32) = (0 : Int32)))).1) k) ?_
      refine own_by (fun _ k => XS.aload X620.here hx rfl (hb hby at_307) rfl rfl k) ?_
      refine own_by (fun _ k => XS.bipush X620.here hx rfl (hb hby at_309) k) ?_
      obtain ⟨_, T621, L621, k621w, X621, ⟨rfl, N621q, e621, Ll621⟩, S621, kz621, hZ, hown, st621⟩ := own_callSW X620 hx hZ hown S620 kz620 (y := (⟨"com/example/regretta/regretta/GroupProblemGeneratorDescriptionPinLaw", "w8", "(Ljava/lang/String;I)Z"⟩ : MethodName)) (hw _ (List.mem_of_getElem? (i := 239) rfl)) (hw _ (List.mem_of_getElem? (i := 240) rfl)) (hw _ (List.mem_of_getElem? (i := 241) rfl)) (hw _ (List.mem_of_getElem? (i := 242) rfl)) (by decide) (argsL := [(.ref sx), (.int (32 : Int32))]) (rest := []) (fun vm hv => own_LvW Ll620 hv) e620 (rm39w l Z a0 hw [] sx tx kx ys 32 lr lt kl w1 d1 d2 kd1 kd2 fm T611.heap n0 Z611 hz hk616 TB f612 f613 f614 f615 (by decide) hl79 hn hy hP El Cl Vl Al) (g := (mkF m 311 #[.val (.int p1), .val (.int p2), .val (.int p3), .val (.int p4), .val (.long lv), .second, .val (.int (Int32.ofNat nv)), .val (.int (Int32.ofNat nf)), .val (.int (Int32.ofNat na)), .val (.int (Int32.ofNat nd)), .val (.ref b520), .val (.ref b599), .val (.ref sx), .val (.int ng), .val (.long mm), .second, .val (.int (Int32.ofNat ys.length)), .val (.int (Int32.ofNat cn)), .unset, .unset, .unset, .unset, .unset, .unset] [(.int (32 : Int32)), (.ref sx)])) rfl (by rw [hml]; rfl) (lenOf pd_32 rfl) rfl (W := 0) (by show 2 * 0 + _ ≤ _; exact Nat.le_of_eq rfl) (hb hby at_311) (by decide) (by decide) (by decide) (by decide)
      have N621 := Fr.app N620 N621q
      refine own_by st621 ?_
      rw [e621] at kz621
      show own_Go p e below _ T621 (mkF m 314 #[.val (.int p1), .val (.int p2), .val (.int p3), .val (.int p4), .val (.long lv), .second, .val (.int (Int32.ofNat nv)), .val (.int (Int32.ofNat nf)), .val (.int (Int32.ofNat na)), .val (.int (Int32.ofNat nd)), .val (.ref b520), .val (.ref b599), .val (.ref sx), .val (.int ng), .val (.long mm), .second, .val (.int (Int32.ofNat ys.length)), .val (.int (Int32.ofNat cn)), .unset, .unset, .unset, .unset, .unset, .unset] [(.int (1 : Int32))])
      refine own_by (fun _ k => XS.ifNo X621.here hx rfl (hb hby at_314) rfl ((if0 _ _).trans (feq (by decide : ¬ ((1 : Int32) = (0 : Int32)))).1) k) ?_
      refine own_by (fun _ k => XS.aload X621.here hx rfl (hb hby at_317) rfl rfl k) ?_
      refine own_by (fun _ k => XS.bipush X621.here hx rfl (hb hby at_319) k) ?_
      obtain ⟨_, T622, L622, k622w, X622, ⟨rfl, N622q, e622, Ll622⟩, S622, kz622, hZ, hown, st622⟩ := own_callSW X621 hx hZ hown S621 kz621 (y := (⟨"com/example/regretta/regretta/GroupProblemGeneratorDescriptionPinLaw", "w8", "(Ljava/lang/String;I)Z"⟩ : MethodName)) (hw _ (List.mem_of_getElem? (i := 239) rfl)) (hw _ (List.mem_of_getElem? (i := 240) rfl)) (hw _ (List.mem_of_getElem? (i := 241) rfl)) (hw _ (List.mem_of_getElem? (i := 242) rfl)) (by decide) (argsL := [(.ref sx), (.int (40 : Int32))]) (rest := []) (fun vm hv => own_LvW Ll621 hv) e621 (rm39w l Z a0 hw [] sx tx kx ys 40 lr lt kl w1 d1 d2 kd1 kd2 fm T611.heap n0 Z611 hz hk616 TB f612 f613 f614 f615 (by decide) hl79 hn hy hP El Cl Vl Al) (g := (mkF m 321 #[.val (.int p1), .val (.int p2), .val (.int p3), .val (.int p4), .val (.long lv), .second, .val (.int (Int32.ofNat nv)), .val (.int (Int32.ofNat nf)), .val (.int (Int32.ofNat na)), .val (.int (Int32.ofNat nd)), .val (.ref b520), .val (.ref b599), .val (.ref sx), .val (.int ng), .val (.long mm), .second, .val (.int (Int32.ofNat ys.length)), .val (.int (Int32.ofNat cn)), .unset, .unset, .unset, .unset, .unset, .unset] [(.int (40 : Int32)), (.ref sx)])) rfl (by rw [hml]; rfl) (lenOf pd_32 rfl) rfl (W := 0) (by show 2 * 0 + _ ≤ _; exact Nat.le_of_eq rfl) (hb hby at_321) (by decide) (by decide) (by decide) (by decide)
      have N622 := Fr.app N621 N622q
      refine own_by st622 ?_
      rw [e622] at kz622
      refine own_by (fun _ k => XS.ifNo X622.here hx rfl (hb hby at_324) rfl ((if0 _ _).trans (feq (by decide : ¬ ((1 : Int32) = (0 : Int32)))).1) k) ?_
      refine own_by (fun _ k => XS.aload X622.here hx rfl (hb hby at_327) rfl rfl k) ?_
      refine own_by (fun _ k => XS.bipush X622.here hx rfl (hb hby at_329) k) ?_
      obtain ⟨_, T623, L623, k623w, X623, ⟨rfl, N623q, e623, Ll623⟩, S623, kz623, hZ, hown, st623⟩ := own_callSW X622 hx hZ hown S622 kz622 (y := (⟨"com/example/regretta/regretta/GroupProblemGeneratorDescriptionPinLaw", "w8", "(Ljava/lang/String;I)Z"⟩ : MethodName)) (hw _ (List.mem_of_getElem? (i := 239) rfl)) (hw _ (List.mem_of_getElem? (i := 240) rfl)) (hw _ (List.mem_of_getElem? (i := 241) rfl)) (hw _ (List.mem_of_getElem? (i := 242) rfl)) (by decide) (argsL := [(.ref sx), (.int (48 : Int32))]) (rest := []) (fun vm hv => own_LvW Ll622 hv) e622 (rm39w l Z a0 hw [] sx tx kx ys 48 lr lt kl w1 d1 d2 kd1 kd2 fm T611.heap n0 Z611 hz hk616 TB f612 f613 f614 f615 (by decide) hl79 hn hy hP El Cl Vl Al) (g := (mkF m 331 #[.val (.int p1), .val (.int p2), .val (.int p3), .val (.int p4), .val (.long lv), .second, .val (.int (Int32.ofNat nv)), .val (.int (Int32.ofNat nf)), .val (.int (Int32.ofNat na)), .val (.int (Int32.ofNat nd)), .val (.ref b520), .val (.ref b599), .val (.ref sx), .val (.int ng), .val (.long mm), .second, .val (.int (Int32.ofNat ys.length)), .val (.int (Int32.ofNat cn)), .unset, .unset, .unset, .unset, .unset, .unset] [(.int (48 : Int32)), (.ref sx)])) rfl (by rw [hml]; rfl) (lenOf pd_32 rfl) rfl (W := 0) (by show 2 * 0 + _ ≤ _; exact Nat.le_of_eq rfl) (hb hby at_331) (by decide) (by decide) (by decide) (by decide)
      have N623 := Fr.app N622 N623q
      refine own_by st623 ?_
      rw [e623] at kz623
      refine own_by (fun _ k => XS.ifNo X623.here hx rfl (hb hby at_334) rfl ((if0 _ _).trans (feq (by decide : ¬ ((1 : Int32) = (0 : Int32)))).1) k) ?_
      show own_Go p e below _ T623 (mkF m 337 #[.val (.int p1), .val (.int p2), .val (.int p3), .val (.int p4), .val (.long lv), .second, .val (.int (Int32.ofNat nv)), .val (.int (Int32.ofNat nf)), .val (.int (Int32.ofNat na)), .val (.int (Int32.ofNat nd)), .val (.ref b520), .val (.ref b599), .val (.ref sx), .val (.int ng), .val (.long mm), .second, .val (.int (Int32.ofNat ys.length)), .val (.int (Int32.ofNat cn)), .unset, .unset, .unset, .unset, .unset, .unset] [])
      refine own_by (fun _ k => XS.aload X623.here hx rfl (hb hby at_337) rfl rfl k) ?_
      refine own_by (fun _ k => XS.bipush X623.here hx rfl (hb hby at_339) k) ?_
      obtain ⟨_, T624, L624, k624w, X624, ⟨rfl, N624q, e624, Ll624⟩, S624, kz624, hZ, hown, st624⟩ := own_callSW X623 hx hZ hown S623 kz623 (y := (⟨"com/example/regretta/regretta/GroupProblemGeneratorDescriptionPinLaw", "w8", "(Ljava/lang/String;I)Z"⟩ : MethodName)) (hw _ (List.mem_of_getElem? (i := 239) rfl)) (hw _ (List.mem_of_getElem? (i := 240) rfl)) (hw _ (List.mem_of_getElem? (i := 241) rfl)) (hw _ (List.mem_of_getElem? (i := 242) rfl)) (by decide) (argsL := [(.ref sx), (.int (56 : Int32))]) (rest := []) (fun vm hv => own_LvW Ll623 hv) e623 (rm39w l Z a0 hw [] sx tx kx ys 56 lr lt kl w1 d1 d2 kd1 kd2 fm T611.heap n0 Z611 hz hk616 TB f612 f613 f614 f615 (by decide) hl79 hn hy hP El Cl Vl Al) (g := (mkF m 341 #[.val (.int p1), .val (.int p2), .val (.int p3), .val (.int p4), .val (.long lv), .second, .val (.int (Int32.ofNat nv)), .val (.int (Int32.ofNat nf)), .val (.int (Int32.ofNat na)), .val (.int (Int32.ofNat nd)), .val (.ref b520), .val (.ref b599), .val (.ref sx), .val (.int ng), .val (.long mm), .second, .val (.int (Int32.ofNat ys.length)), .val (.int (Int32.ofNat cn)), .unset, .unset, .unset, .unset, .unset, .unset] [(.int (56 : Int32)), (.ref sx)])) rfl (by rw [hml]; rfl) (lenOf pd_32 rfl) rfl (W := 0) (by show 2 * 0 + _ ≤ _; exact Nat.le_of_eq rfl) (hb hby at_341) (by decide) (by decide) (by decide) (by decide)
      have N624 := Fr.app N623 N624q
      refine own_by st624 ?_
      rw [e624] at kz624
      refine own_by (fun _ k => XS.ifNo X624.here hx rfl (hb hby at_344) rfl ((if0 _ _).trans (feq (by decide : ¬ ((1 : Int32) = (0 : Int32)))).1) k) ?_
      refine own_by (fun _ k => XS.aload X624.here hx rfl (hb hby at_347) rfl rfl k) ?_
      refine own_by (fun _ k => XS.bipush X624.here hx rfl (hb hby at_349) k) ?_
      obtain ⟨_, T625, L625, k625w, X625, ⟨rfl, N625q, e625, Ll625⟩, S625, kz625, hZ, hown, st625⟩ := own_callSW X624 hx hZ hown S624 kz624 (y := (⟨"com/example/regretta/regretta/GroupProblemGeneratorDescriptionPinLaw", "w8", "(Ljava/lang/String;I)Z"⟩ : MethodName)) (hw _ (List.mem_of_getElem? (i := 239) rfl)) (hw _ (List.mem_of_getElem? (i := 240) rfl)) (hw _ (List.mem_of_getElem? (i := 241) rfl)) (hw _ (List.mem_of_getElem? (i := 242) rfl)) (by decide) (argsL := [(.ref sx), (.int (64 : Int32))]) (rest := []) (fun vm hv => own_LvW Ll624 hv) e624 (rm39w l Z a0 hw [] sx tx kx ys 64 lr lt kl w1 d1 d2 kd1 kd2 fm T611.heap n0 Z611 hz hk616 TB f612 f613 f614 f615 (by decide) hl79 hn hy hP El Cl Vl Al) (g := (mkF m 351 #[.val (.int p1), .val (.int p2), .val (.int p3), .val (.int p4), .val (.long lv), .second, .val (.int (Int32.ofNat nv)), .val (.int (Int32.ofNat nf)), .val (.int (Int32.ofNat na)), .val (.int (Int32.ofNat nd)), .val (.ref b520), .val (.ref b599), .val (.ref sx), .val (.int ng), .val (.long mm), .second, .val (.int (Int32.ofNat ys.length)), .val (.int (Int32.ofNat cn)), .unset, .unset, .unset, .unset, .unset, .unset] [(.int (64 : Int32)), (.ref sx)])) rfl (by rw [hml]; rfl) (lenOf pd_32 rfl) rfl (W := 0) (by show 2 * 0 + _ ≤ _; exact Nat.le_of_eq rfl) (hb hby at_351) (by decide) (by decide) (by decide) (by decide)
      have N625 := Fr.app N624 N625q
      refine own_by st625 ?_
      rw [e625] at kz625
      refine own_by (fun _ k => XS.ifNo X625.here hx rfl (hb hby at_354) rfl ((if0 _ _).trans (feq (by decide : ¬ ((1 : Int32) = (0 : Int32)))).1) k) ?_
      refine own_by (fun _ k => XS.aload X625.here hx rfl (hb hby at_357) rfl rfl k) ?_
      show own_Go p e below _ T625 (mkF m 359 #[.val (.int p1), .val (.int p2), .val (.int p3), .val (.int p4), .val (.long lv), .second, .val (.int (Int32.ofNat nv)), .val (.int (Int32.ofNat nf)), .val (.int (Int32.ofNat na)), .val (.int (Int32.ofNat nd)), .val (.ref b520), .val (.ref b599), .val (.ref sx), .val (.int ng), .val (.long mm), .second, .val (.int (Int32.ofNat ys.length)), .val (.int (Int32.ofNat cn)), .unset, .unset, .unset, .unset, .unset, .unset] [(.ref sx)])
      refine own_by (fun _ k => XS.bipush X625.here hx rfl (hb hby at_359) k) ?_
      obtain ⟨_, T626, L626, k626w, X626, ⟨rfl, N626q, e626, Ll626⟩, S626, kz626, hZ, hown, st626⟩ := own_callSW X625 hx hZ hown S625 kz625 (y := (⟨"com/example/regretta/regretta/GroupProblemGeneratorDescriptionPinLaw", "w8", "(Ljava/lang/String;I)Z"⟩ : MethodName)) (hw _ (List.mem_of_getElem? (i := 239) rfl)) (hw _ (List.mem_of_getElem? (i := 240) rfl)) (hw _ (List.mem_of_getElem? (i := 241) rfl)) (hw _ (List.mem_of_getElem? (i := 242) rfl)) (by decide) (argsL := [(.ref sx), (.int (71 : Int32))]) (rest := []) (fun vm hv => own_LvW Ll625 hv) e625 (rm39w l Z a0 hw [] sx tx kx ys 71 lr lt kl w1 d1 d2 kd1 kd2 fm T611.heap n0 Z611 hz hk616 TB f612 f613 f614 f615 (by decide) hl79 hn hy hP El Cl Vl Al) (g := (mkF m 361 #[.val (.int p1), .val (.int p2), .val (.int p3), .val (.int p4), .val (.long lv), .second, .val (.int (Int32.ofNat nv)), .val (.int (Int32.ofNat nf)), .val (.int (Int32.ofNat na)), .val (.int (Int32.ofNat nd)), .val (.ref b520), .val (.ref b599), .val (.ref sx), .val (.int ng), .val (.long mm), .second, .val (.int (Int32.ofNat ys.length)), .val (.int (Int32.ofNat cn)), .unset, .unset, .unset, .unset, .unset, .unset] [(.int (71 : Int32)), (.ref sx)])) rfl (by rw [hml]; rfl) (lenOf pd_32 rfl) rfl (W := 0) (by show 2 * 0 + _ ≤ _; exact Nat.le_of_eq rfl) (hb hby at_361) (by decide) (by decide) (by decide) (by decide)
      have N626 := Fr.app N625 N626q
      refine own_by st626 ?_
      rw [e626] at kz626
      refine own_by (fun _ k => XS.ifNo X626.here hx rfl (hb hby at_364) rfl ((if0 _ _).trans (feq (by decide : ¬ ((1 : Int32) = (0 : Int32)))).1) k) ?_
      refine own_by (fun _ k => XS.iconst X626.here hx rfl (hb hby at_367) k) ?_
      refine own_by (fun _ k => XS.goto X626.here hx rfl (pc0 := 368) (pc' := 372) rfl (hb hby at_368) (by decide) (by decide) k) ?_
      refine own_by (fun _ k => XS.istore X626.here hx rfl (hb hby at_372) rfl (l' := #[.val (.int p1), .val (.int p2), .val (.int p3), .val (.int p4), .val (.long lv), .second, .val (.int (Int32.ofNat nv)), .val (.int (Int32.ofNat nf)), .val (.int (Int32.ofNat na)), .val (.int (Int32.ofNat nd)), .val (.ref b520), .val (.ref b599), .val (.ref sx), .val (.int ng), .val (.long mm), .second, .val (.int (Int32.ofNat ys.length)), .val (.int (Int32.ofNat cn)), .val (.int (1 : Int32)), .unset, .unset, .unset, .unset, .unset]) rfl k) ?_
      refine own_by (fun _ k => XS.aload X626.here hx rfl (hb hby at_374) rfl rfl k) ?_
      refine own_by (fun _ k => XS.bipush X626.here hx rfl (hb hby at_376) k) ?_
      obtain ⟨_, T627, L627, X627, ⟨rfl, N627q, e627⟩, st627⟩ := own_callV X626 hx hZ hown (y := (⟨"java/lang/String", "charAt", "(I)C"⟩ : MethodName)) (C := "java/lang/String") (hw _ (List.mem_of_getElem? (i := 247) rfl)) (hw _ (List.mem_of_getElem? (i := 248) rfl)) (hw _ (List.mem_of_getElem? (i := 250) rfl)) (hw _ (List.mem_of_getElem? (i := 249) rfl)) (hw _ (List.mem_of_getElem? (i := 30) rfl)) (hw _ (List.mem_of_getElem? (i := 251) rfl)) (by decide) (a := sx) f612 (argsL := [(.int (36 : Int32))]) (rest := []) e626 (rm41 l Z a0 hw [] sx tx kx ys 36 w1 d1 d2 kd1 kd2 fm T611.heap n0 Z611 hz hk616 TB f612 f613 f614 f615 (by omega) hn hy) (g := (mkF m 378 #[.val (.int p1), .val (.int p2), .val (.int p3), .val (.int p4), .val (.long lv), .second, .val (.int (Int32.ofNat nv)), .val (.int (Int32.ofNat nf)), .val (.int (Int32.ofNat na)), .val (.int (Int32.ofNat nd)), .val (.ref b520), .val (.ref b599), .val (.ref sx), .val (.int ng), .val (.long mm), .second, .val (.int (Int32.ofNat ys.length)), .val (.int (Int32.ofNat cn)), .val (.int (1 : Int32)), .unset, .unset, .unset, .unset, .unset] [(.int (36 : Int32)), (.ref sx)])) rfl (by rw [hml]; rfl) (lenOf pd_31 rfl) rfl (W := 0) (by show 2 * 0 + _ ≤ _; exact Nat.le_of_eq rfl) (hb hby at_378) (by decide) (by decide) (by decide) (by decide)
      have N627 := Fr.app N626 N627q
      refine own_by st627 ?_
      show own_Go p e below _ T627 (mkF m 381 #[.val (.int p1), .val (.int p2), .val (.int p3), .val (.int p4), .val (.long lv), .second, .val (.int (Int32.ofNat nv)), .val (.int (Int32.ofNat nf)), .val (.int (Int32.ofNat na)), .val (.int (Int32.ofNat nd)), .val (.ref b520), .val (.ref b599), .val (.ref sx), .val (.int ng), .val (.long mm), .second, .val (.int (Int32.ofNat ys.length)), .val (.int (Int32.ofNat cn)), .val (.int (1 : Int32)), .unset, .unset, .unset, .unset, .unset] [(.int (ys.getD 36 0))])
      refine own_by (fun _ k => XS.bipush X627.here hx rfl (hb hby at_381) k) ?_
      refine own_by (fun _ k => XS.iload X627.here hx rfl (hb hby at_383) rfl k) ?_
      refine own_by (fun _ k => XS.iadd X627.here hx rfl (hb hby at_385) rfl k) ?_
      refine own_by (fun _ k => XS.i2c X627.here hx rfl (hb hby at_386) rfl k) ?_
      refine own_by (fun _ k => XS.icmpNo X627.here hx rfl (hb hby at_387) rfl (teq (by rw [hg36, own_chd hv.2] : (ys.getD 36 0) = (((48 : Int32) + (Int32.ofNat nv)).toUInt32.toUInt16.toUInt32.toInt32))).2 k) ?_
      refine own_by (fun _ k => XS.aload X627.here hx rfl (hb hby at_390) rfl rfl k) ?_
      refine own_by (fun _ k => XS.bipush X627.here hx rfl (hb hby at_392) k) ?_
      obtain ⟨_, T628, L628, X628, ⟨rfl, N628q, e628⟩, st628⟩ := own_callV X627 hx hZ hown (y := (⟨"java/lang/String", "charAt", "(I)C"⟩ : MethodName)) (C := "java/lang/String") (hw _ (List.mem_of_getElem? (i := 247) rfl)) (hw _ (List.mem_of_getElem? (i := 248) rfl)) (hw _ (List.mem_of_getElem? (i := 250) rfl)) (hw _ (List.mem_of_getElem? (i := 249) rfl)) (hw _ (List.mem_of_getElem? (i := 30) rfl)) (hw _ (List.mem_of_getElem? (i := 251) rfl)) (by decide) (a := sx) f612 (argsL := [(.int (48 : Int32))]) (rest := []) e627 (rm41 l Z a0 hw [] sx tx kx ys 48 w1 d1 d2 kd1 kd2 fm T611.heap n0 Z611 hz hk616 TB f612 f613 f614 f615 (by omega) hn hy) (g := (mkF m 394 #[.val (.int p1), .val (.int p2), .val (.int p3), .val (.int p4), .val (.long lv), .second, .val (.int (Int32.ofNat nv)), .val (.int (Int32.ofNat nf)), .val (.int (Int32.ofNat na)), .val (.int (Int32.ofNat nd)), .val (.ref b520), .val (.ref b599), .val (.ref sx), .val (.int ng), .val (.long mm), .second, .val (.int (Int32.ofNat ys.length)), .val (.int (Int32.ofNat cn)), .val (.int (1 : Int32)), .unset, .unset, .unset, .unset, .unset] [(.int (48 : Int32)), (.ref sx)])) rfl (by rw [hml]; rfl) (lenOf pd_31 rfl) rfl (W := 0) (by show 2 * 0 + _ ≤ _; exact Nat.le_of_eq rfl) (hb hby at_394) (by decide) (by decide) (by decide) (by decide)
      have N628 := Fr.app N627 N628q
      refine own_by st628 ?_
      refine own_by (fun _ k => XS.bipush X628.here hx rfl (hb hby at_397) k) ?_
      show own_Go p e below _ T628 (mkF m 399 #[.val (.int p1), .val (.int p2), .val (.int p3), .val (.int p4), .val (.long lv), .second, .val (.int (Int32.ofNat nv)), .val (.int (Int32.ofNat nf)), .val (.int (Int32.ofNat na)), .val (.int (Int32.ofNat nd)), .val (.ref b520), .val (.ref b599), .val (.ref sx), .val (.int ng), .val (.long mm), .second, .val (.int (Int32.ofNat ys.length)), .val (.int (Int32.ofNat cn)), .val (.int (1 : Int32)), .unset, .unset, .unset, .unset, .unset] [(.int (48 : Int32)), (.int (ys.getD 48 0))])
      refine own_by (fun _ k => XS.iload X628.here hx rfl (hb hby at_399) rfl k) ?_
      refine own_by (fun _ k => XS.iadd X628.here hx rfl (hb hby at_401) rfl k) ?_
      refine own_by (fun _ k => XS.i2c X628.here hx rfl (hb hby at_402) rfl k) ?_
      refine own_by (fun _ k => XS.icmpNo X628.here hx rfl (hb hby at_403) rfl (teq (by rw [hg48, own_chd hf] : (ys.getD 48 0) = (((48 : Int32) + (Int32.ofNat nf)).toUInt32.toUInt16.toUInt32.toInt32))).2 k) ?_
      refine own_by (fun _ k => XS.aload X628.here hx rfl (hb hby at_406) rfl rfl k) ?_
      refine own_by (fun _ k => XS.bipush X628.here hx rfl (hb hby at_408) k) ?_
      obtain ⟨_, T629, L629, X629, ⟨rfl, N629q, e629⟩, st629⟩ := own_callV X628 hx hZ hown (y := (⟨"java/lang/String", "charAt", "(I)C"⟩ : MethodName)) (C := "java/lang/String") (hw _ (List.mem_of_getElem? (i := 247) rfl)) (hw _ (List.mem_of_getElem? (i := 248) rfl)) (hw _ (List.mem_of_getElem? (i := 250) rfl)) (hw _ (List.mem_of_getElem? (i := 249) rfl)) (hw _ (List.mem_of_getElem? (i := 30) rfl)) (hw _ (List.mem_of_getElem? (i := 251) rfl)) (by decide) (a := sx) f612 (argsL := [(.int (59 : Int32))]) (rest := []) e628 (rm41 l Z a0 hw [] sx tx kx ys 59 w1 d1 d2 kd1 kd2 fm T611.heap n0 Z611 hz hk616 TB f612 f613 f614 f615 (by omega) hn hy) (g := (mkF m 410 #[.val (.int p1), .val (.int p2), .val (.int p3), .val (.int p4), .val (.long lv), .second, .val (.int (Int32.ofNat nv)), .val (.int (Int32.ofNat nf)), .val (.int (Int32.ofNat na)), .val (.int (Int32.ofNat nd)), .val (.ref b520), .val (.ref b599), .val (.ref sx), .val (.int ng), .val (.long mm), .second, .val (.int (Int32.ofNat ys.length)), .val (.int (Int32.ofNat cn)), .val (.int (1 : Int32)), .unset, .unset, .unset, .unset, .unset] [(.int (59 : Int32)), (.ref sx)])) rfl (by rw [hml]; rfl) (lenOf pd_31 rfl) rfl (W := 0) (by show 2 * 0 + _ ≤ _; exact Nat.le_of_eq rfl) (hb hby at_410) (by decide) (by decide) (by decide) (by decide)
      have N629 := Fr.app N628 N629q
      refine own_by st629 ?_
      refine own_by (fun _ k => XS.bipush X629.here hx rfl (hb hby at_413) k) ?_
      refine own_by (fun _ k => XS.iload X629.here hx rfl (hb hby at_415) rfl k) ?_
      show own_Go p e below _ T629 (mkF m 417 #[.val (.int p1), .val (.int p2), .val (.int p3), .val (.int p4), .val (.long lv), .second, .val (.int (Int32.ofNat nv)), .val (.int (Int32.ofNat nf)), .val (.int (Int32.ofNat na)), .val (.int (Int32.ofNat nd)), .val (.ref b520), .val (.ref b599), .val (.ref sx), .val (.int ng), .val (.long mm), .second, .val (.int (Int32.ofNat ys.length)), .val (.int (Int32.ofNat cn)), .val (.int (1 : Int32)), .unset, .unset, .unset, .unset, .unset] [(.int (Int32.ofNat na)), (.int (48 : Int32)), (.int (ys.getD 59 0))])
      refine own_by (fun _ k => XS.iadd X629.here hx rfl (hb hby at_417) rfl k) ?_
      refine own_by (fun _ k => XS.i2c X629.here hx rfl (hb hby at_418) rfl k) ?_
      refine own_by (fun _ k => XS.icmpNo X629.here hx rfl (hb hby at_419) rfl (teq (by rw [hg59, own_chd ha.2] : (ys.getD 59 0) = (((48 : Int32) + (Int32.ofNat na)).toUInt32.toUInt16.toUInt32.toInt32))).2 k) ?_
      refine own_by (fun _ k => XS.aload X629.here hx rfl (hb hby at_422) rfl rfl k) ?_
      refine own_by (fun _ k => XS.bipush X629.here hx rfl (hb hby at_424) k) ?_
      obtain ⟨_, T630, L630, X630, ⟨rfl, N630q, e630⟩, st630⟩ := own_callV X629 hx hZ hown (y := (⟨"java/lang/String", "charAt", "(I)C"⟩ : MethodName)) (C := "java/lang/String") (hw _ (List.mem_of_getElem? (i := 247) rfl)) (hw _ (List.mem_of_getElem? (i := 248) rfl)) (hw _ (List.mem_of_getElem? (i := 250) rfl)) (hw _ (List.mem_of_getElem? (i := 249) rfl)) (hw _ (List.mem_of_getElem? (i := 30) rfl)) (hw _ (List.mem_of_getElem? (i := 251) rfl)) (by decide) (a := sx) f612 (argsL := [(.int (70 : Int32))]) (rest := []) e629 (rm41 l Z a0 hw [] sx tx kx ys 70 w1 d1 d2 kd1 kd2 fm T611.heap n0 Z611 hz hk616 TB f612 f613 f614 f615 (by omega) hn hy) (g := (mkF m 426 #[.val (.int p1), .val (.int p2), .val (.int p3), .val (.int p4), .val (.long lv), .second, .val (.int (Int32.ofNat nv)), .val (.int (Int32.ofNat nf)), .val (.int (Int32.ofNat na)), .val (.int (Int32.ofNat nd)), .val (.ref b520), .val (.ref b599), .val (.ref sx), .val (.int ng), .val (.long mm), .second, .val (.int (Int32.ofNat ys.length)), .val (.int (Int32.ofNat cn)), .val (.int (1 : Int32)), .unset, .unset, .unset, .unset, .unset] [(.int (70 : Int32)), (.ref sx)])) rfl (by rw [hml]; rfl) (lenOf pd_31 rfl) rfl (W := 0) (by show 2 * 0 + _ ≤ _; exact Nat.le_of_eq rfl) (hb hby at_426) (by decide) (by decide) (by decide) (by decide)
      have N630 := Fr.app N629 N630q
      refine own_by st630 ?_
      refine own_by (fun _ k => XS.bipush X630.here hx rfl (hb hby at_429) k) ?_
      refine own_by (fun _ k => XS.iload X630.here hx rfl (hb hby at_431) rfl k) ?_
      refine own_by (fun _ k => XS.iadd X630.here hx rfl (hb hby at_433) rfl k) ?_
      show own_Go p e below _ T630 (mkF m 434 #[.val (.int p1), .val (.int p2), .val (.int p3), .val (.int p4), .val (.long lv), .second, .val (.int (Int32.ofNat nv)), .val (.int (Int32.ofNat nf)), .val (.int (Int32.ofNat na)), .val (.int (Int32.ofNat nd)), .val (.ref b520), .val (.ref b599), .val (.ref sx), .val (.int ng), .val (.long mm), .second, .val (.int (Int32.ofNat ys.length)), .val (.int (Int32.ofNat cn)), .val (.int (1 : Int32)), .unset, .unset, .unset, .unset, .unset] [(.int ((48 : Int32) + (Int32.ofNat nd))), (.int (ys.getD 70 0))])
      refine own_by (fun _ k => XS.i2c X630.here hx rfl (hb hby at_434) rfl k) ?_
      refine own_by (fun _ k => XS.icmpNo X630.here hx rfl (hb hby at_435) rfl (teq (by rw [hg70, own_chd hd.2] : (ys.getD 70 0) = (((48 : Int32) + (Int32.ofNat nd)).toUInt32.toUInt16.toUInt32.toInt32))).2 k) ?_
      refine own_by (fun _ k => XS.iconst X630.here hx rfl (hb hby at_438) k) ?_
      refine own_by (fun _ k => XS.goto X630.here hx rfl (pc0 := 439) (pc' := 443) rfl (hb hby at_439) (by decide) (by decide) k) ?_
      refine own_by (fun _ k => XS.istore X630.here hx rfl (hb hby at_443) rfl (l' := #[.val (.int p1), .val (.int p2), .val (.int p3), .val (.int p4), .val (.long lv), .second, .val (.int (Int32.ofNat nv)), .val (.int (Int32.ofNat nf)), .val (.int (Int32.ofNat na)), .val (.int (Int32.ofNat nd)), .val (.ref b520), .val (.ref b599), .val (.ref sx), .val (.int ng), .val (.long mm), .second, .val (.int (Int32.ofNat ys.length)), .val (.int (Int32.ofNat cn)), .val (.int (1 : Int32)), .val (.int (1 : Int32)), .unset, .unset, .unset, .unset]) rfl k) ?_
      refine own_by (fun _ k => XS.iload X630.here hx rfl (hb hby at_445) rfl k) ?_
      have J467 : ∀ (T631 : State) (L631 : List Loc) (X631 : Stand p l e room_1 (s.setVm T626.vm) m #[(.int p1), (.int p2), (.int p3), (.int p4), (.long lv)] below meth c T631 L631 36 3483) (e631 : T631.heap = T611.heap) (N631 : Fr n0 L631) , own_Go p e below (own_EndW s room_1.cells room_1.slots (Q_rm0 Z p1 p2 p3 p4 lv w1 d1 d2 kd1 kd2 fm h0 n0)) T631 (mkF m 467 #[.val (.int p1), .val (.int p2), .val (.int p3), .val (.int p4), .val (.long lv), .second, .val (.int (Int32.ofNat nv)), .val (.int (Int32.ofNat nf)), .val (.int (Int32.ofNat na)), .val (.int (Int32.ofNat nd)), .val (.ref b520), .val (.ref b599), .val (.ref sx), .val (.int ng), .val (.long mm), .second, .val (.int (Int32.ofNat ys.length)), .val (.int (Int32.ofNat cn)), .val (.int (1 : Int32)), .val (.int (1 : Int32)), .unset, .unset, .unset, .unset] [(.int (1 : Int32))]) := by
        intro T631 L631 X631 e631 N631
        refine own_by (fun _ k => XS.istore X631.here hx rfl (hb hby at_467) rfl (l' := #[.val (.int p1), .val (.int p2), .val (.int p3), .val (.int p4), .val (.long lv), .second, .val (.int (Int32.ofNat nv)), .val (.int (Int32.ofNat nf)), .val (.int (Int32.ofNat na)), .val (.int (Int32.ofNat nd)), .val (.ref b520), .val (.ref b599), .val (.ref sx), .val (.int ng), .val (.long mm), .second, .val (.int (Int32.ofNat ys.length)), .val (.int (Int32.ofNat cn)), .val (.int (1 : Int32)), .val (.int (1 : Int32)), .val (.int (1 : Int32)), .unset, .unset, .unset]) rfl k) ?_
        refine own_by (fun _ k => XS.aload X631.here hx rfl (hb hby at_469) rfl rfl k) ?_
        show own_Go p e below _ T631 (mkF m 471 #[.val (.int p1), .val (.int p2), .val (.int p3), .val (.int p4), .val (.long lv), .second, .val (.int (Int32.ofNat nv)), .val (.int (Int32.ofNat nf)), .val (.int (Int32.ofNat na)), .val (.int (Int32.ofNat nd)), .val (.ref b520), .val (.ref b599), .val (.ref sx), .val (.int ng), .val (.long mm), .second, .val (.int (Int32.ofNat ys.length)), .val (.int (Int32.ofNat cn)), .val (.int (1 : Int32)), .val (.int (1 : Int32)), .val (.int (1 : Int32)), .unset, .unset, .unset] [(.ref sx)])
        refine own_by (fun _ k => XS.iload X631.here hx rfl (hb hby at_471) rfl k) ?_
        refine own_by (fun _ k => XS.iload X631.here hx rfl (hb hby at_473) rfl k) ?_
        refine own_by (fun _ k => XS.lload X631.here hx rfl (hb hby at_475) rfl k) ?_
        refine own_by (fun _ k => XS.aload X631.here hx rfl (hb hby at_477) rfl rfl k) ?_
        refine own_by (fun _ k => XS.iconst X631.here hx rfl (hb hby at_479) k) ?_
        obtain ⟨_, T632, L632, X632, ⟨rfl, N632q, e632⟩, st632⟩ := own_callS X631 hx hZ hown (y := (⟨"com/example/regretta/regretta/GroupProblemGeneratorDescriptionPinLaw", "dg", "(Ljava/lang/String;IIJ[JI)Z"⟩ : MethodName)) (hw _ (List.mem_of_getElem? (i := 269) rfl)) (hw _ (List.mem_of_getElem? (i := 270) rfl)) (hw _ (List.mem_of_getElem? (i := 241) rfl)) (hw _ (List.mem_of_getElem? (i := 271) rfl)) (by decide) (argsL := [(.ref sx), (.int (Int32.ofNat ys.length)), (.int (Int32.ofNat cn)), (.long mm), (.ref b520), (.int (0 : Int32))]) (rest := []) e631 (rm46 l Z a0 hw [] sx tx kx ys lv mm cn 0 b520 k520 w1 d1 d2 kd1 kd2 fm T611.heap n0 Z611 hz hk616 TB f612 f613 f614 f615 f617 hn hy hC (by omega) hm hdg0 (by decide)) (g := (mkF m 480 #[.val (.int p1), .val (.int p2), .val (.int p3), .val (.int p4), .val (.long lv), .second, .val (.int (Int32.ofNat nv)), .val (.int (Int32.ofNat nf)), .val (.int (Int32.ofNat na)), .val (.int (Int32.ofNat nd)), .val (.ref b520), .val (.ref b599), .val (.ref sx), .val (.int ng), .val (.long mm), .second, .val (.int (Int32.ofNat ys.length)), .val (.int (Int32.ofNat cn)), .val (.int (1 : Int32)), .val (.int (1 : Int32)), .val (.int (1 : Int32)), .unset, .unset, .unset] [(.int (0 : Int32)), (.ref b520), (.long mm), (.int (Int32.ofNat cn)), (.int (Int32.ofNat ys.length)), (.ref sx)])) rfl (by rw [hml]; rfl) (lenOf pd_35 rfl) rfl (W := 0) (by show 2 * 0 + _ ≤ _; exact Nat.le_of_eq rfl) (hb hby at_480) (by decide) (by decide) (by decide) (by decide)
        have N632 := Fr.app N631 N632q
        refine own_by st632 ?_
        refine own_by (fun _ k => XS.ifNo X632.here hx rfl (hb hby at_483) rfl ((if0 _ _).trans (feq (by decide : ¬ ((1 : Int32) = (0 : Int32)))).1) k) ?_
        refine own_by (fun _ k => XS.aload X632.here hx rfl (hb hby at_486) rfl rfl k) ?_
        refine own_by (fun _ k => XS.iload X632.here hx rfl (hb hby at_488) rfl k) ?_
        show own_Go p e below _ T632 (mkF m 490 #[.val (.int p1), .val (.int p2), .val (.int p3), .val (.int p4), .val (.long lv), .second, .val (.int (Int32.ofNat nv)), .val (.int (Int32.ofNat nf)), .val (.int (Int32.ofNat na)), .val (.int (Int32.ofNat nd)), .val (.ref b520), .val (.ref b599), .val (.ref sx), .val (.int ng), .val (.long mm), .second, .val (.int (Int32.ofNat ys.length)), .val (.int (Int32.ofNat cn)), .val (.int (1 : Int32)), .val (.int (1 : Int32)), .val (.int (1 : Int32)), .unset, .unset, .unset] [(.int (Int32.ofNat ys.length)), (.ref sx)])
        refine own_by (fun _ k => XS.iload X632.here hx rfl (hb hby at_490) rfl k) ?_
        refine own_by (fun _ k => XS.lload X632.here hx rfl (hb hby at_492) rfl k) ?_
        refine own_by (fun _ k => XS.aload X632.here hx rfl (hb hby at_494) rfl rfl k) ?_
        refine own_by (fun _ k => XS.iconst X632.here hx rfl (hb hby at_496) k) ?_
        obtain ⟨_, T633, L633, X633, ⟨rfl, N633q, e633⟩, st633⟩ := own_callS X632 hx hZ hown (y := (⟨"com/example/regretta/regretta/GroupProblemGeneratorDescriptionPinLaw", "dg", "(Ljava/lang/String;IIJ[JI)Z"⟩ : MethodName)) (hw _ (List.mem_of_getElem? (i := 269) rfl)) (hw _ (List.mem_of_getElem? (i := 270) rfl)) (hw _ (List.mem_of_getElem? (i := 241) rfl)) (hw _ (List.mem_of_getElem? (i := 271) rfl)) (by decide) (argsL := [(.ref sx), (.int (Int32.ofNat ys.length)), (.int (Int32.ofNat cn)), (.long mm), (.ref b520), (.int (1 : Int32))]) (rest := []) e632 (rm46 l Z a0 hw [] sx tx kx ys lv mm cn 1 b520 k520 w1 d1 d2 kd1 kd2 fm T611.heap n0 Z611 hz hk616 TB f612 f613 f614 f615 f617 hn hy hC (by omega) hm hdg0 (by decide)) (g := (mkF m 497 #[.val (.int p1), .val (.int p2), .val (.int p3), .val (.int p4), .val (.long lv), .second, .val (.int (Int32.ofNat nv)), .val (.int (Int32.ofNat nf)), .val (.int (Int32.ofNat na)), .val (.int (Int32.ofNat nd)), .val (.ref b520), .val (.ref b599), .val (.ref sx), .val (.int ng), .val (.long mm), .second, .val (.int (Int32.ofNat ys.length)), .val (.int (Int32.ofNat cn)), .val (.int (1 : Int32)), .val (.int (1 : Int32)), .val (.int (1 : Int32)), .unset, .unset, .unset] [(.int (1 : Int32)), (.ref b520), (.long mm), (.int (Int32.ofNat cn)), (.int (Int32.ofNat ys.length)), (.ref sx)])) rfl (by rw [hml]; rfl) (lenOf pd_35 rfl) rfl (W := 0) (by show 2 * 0 + _ ≤ _; exact Nat.le_of_eq rfl) (hb hby at_497) (by decide) (by decide) (by decide) (by decide)
        have N633 := Fr.app N632 N633q
        refine own_by st633 ?_
        refine own_by (fun _ k => XS.ifNo X633.here hx rfl (hb hby at_500) rfl ((if0 _ _).trans (feq (by decide : ¬ ((1 : Int32) = (0 : Int32)))).1) k) ?_
        refine own_by (fun _ k => XS.aload X633.here hx rfl (hb hby at_503) rfl rfl k) ?_
        refine own_by (fun _ k => XS.iload X633.here hx rfl (hb hby at_505) rfl k) ?_
        refine own_by (fun _ k => XS.iload X633.here hx rfl (hb hby at_507) rfl k) ?_
        show own_Go p e below _ T633 (mkF m 509 #[.val (.int p1), .val (.int p2), .val (.int p3), .val (.int p4), .val (.long lv), .second, .val (.int (Int32.ofNat nv)), .val (.int (Int32.ofNat nf)), .val (.int (Int32.ofNat na)), .val (.int (Int32.ofNat nd)), .val (.ref b520), .val (.ref b599), .val (.ref sx), .val (.int ng), .val (.long mm), .second, .val (.int (Int32.ofNat ys.length)), .val (.int (Int32.ofNat cn)), .val (.int (1 : Int32)), .val (.int (1 : Int32)), .val (.int (1 : Int32)), .unset, .unset, .unset] [(.int (Int32.ofNat cn)), (.int (Int32.ofNat ys.length)), (.ref sx)])
        refine own_by (fun _ k => XS.lload X633.here hx rfl (hb hby at_509) rfl k) ?_
        refine own_by (fun _ k => XS.aload X633.here hx rfl (hb hby at_511) rfl rfl k) ?_
        refine own_by (fun _ k => XS.iconst X633.here hx rfl (hb hby at_513) k) ?_
        obtain ⟨_, T634, L634, X634, ⟨rfl, N634q, e634⟩, st634⟩ := own_callS X633 hx hZ hown (y := (⟨"com/example/regretta/regretta/GroupProblemGeneratorDescriptionPinLaw", "dg", "(Ljava/lang/String;IIJ[JI)Z"⟩ : MethodName)) (hw _ (List.mem_of_getElem? (i := 269) rfl)) (hw _ (List.mem_of_getElem? (i := 270) rfl)) (hw _ (List.mem_of_getElem? (i := 241) rfl)) (hw _ (List.mem_of_getElem? (i := 271) rfl)) (by decide) (argsL := [(.ref sx), (.int (Int32.ofNat ys.length)), (.int (Int32.ofNat cn)), (.long mm), (.ref b520), (.int (2 : Int32))]) (rest := []) e633 (rm46 l Z a0 hw [] sx tx kx ys lv mm cn 2 b520 k520 w1 d1 d2 kd1 kd2 fm T611.heap n0 Z611 hz hk616 TB f612 f613 f614 f615 f617 hn hy hC (by omega) hm hdg0 (by decide)) (g := (mkF m 514 #[.val (.int p1), .val (.int p2), .val (.int p3), .val (.int p4), .val (.long lv), .second, .val (.int (Int32.ofNat nv)), .val (.int (Int32.ofNat nf)), .val (.int (Int32.ofNat na)), .val (.int (Int32.ofNat nd)), .val (.ref b520), .val (.ref b599), .val (.ref sx), .val (.int ng), .val (.long mm), .second, .val (.int (Int32.ofNat ys.length)), .val (.int (Int32.ofNat cn)), .val (.int (1 : Int32)), .val (.int (1 : Int32)), .val (.int (1 : Int32)), .unset, .unset, .unset] [(.int (2 : Int32)), (.ref b520), (.long mm), (.int (Int32.ofNat cn)), (.int (Int32.ofNat ys.length)), (.ref sx)])) rfl (by rw [hml]; rfl) (lenOf pd_35 rfl) rfl (W := 0) (by show 2 * 0 + _ ≤ _; exact Nat.le_of_eq rfl) (hb hby at_514) (by decide) (by decide) (by decide) (by decide)
        have N634 := Fr.app N633 N634q
        refine own_by st634 ?_
        refine own_by (fun _ k => XS.ifNo X634.here hx rfl (hb hby at_517) rfl ((if0 _ _).trans (feq (by decide : ¬ ((1 : Int32) = (0 : Int32)))).1) k) ?_
        refine own_by (fun _ k => XS.aload X634.here hx rfl (hb hby at_520) rfl rfl k) ?_
        refine own_by (fun _ k => XS.iload X634.here hx rfl (hb hby at_522) rfl k) ?_
        refine own_by (fun _ k => XS.iload X634.here hx rfl (hb hby at_524) rfl k) ?_
        refine own_by (fun _ k => XS.lload X634.here hx rfl (hb hby at_526) rfl k) ?_
        show own_Go p e below _ T634 (mkF m 528 #[.val (.int p1), .val (.int p2), .val (.int p3), .val (.int p4), .val (.long lv), .second, .val (.int (Int32.ofNat nv)), .val (.int (Int32.ofNat nf)), .val (.int (Int32.ofNat na)), .val (.int (Int32.ofNat nd)), .val (.ref b520), .val (.ref b599), .val (.ref sx), .val (.int ng), .val (.long mm), .second, .val (.int (Int32.ofNat ys.length)), .val (.int (Int32.ofNat cn)), .val (.int (1 : Int32)), .val (.int (1 : Int32)), .val (.int (1 : Int32)), .unset, .unset, .unset] [(.long mm), (.int (Int32.ofNat cn)), (.int (Int32.ofNat ys.length)), (.ref sx)])
        refine own_by (fun _ k => XS.aload X634.here hx rfl (hb hby at_528) rfl rfl k) ?_
        refine own_by (fun _ k => XS.iconst X634.here hx rfl (hb hby at_530) k) ?_
        obtain ⟨_, T635, L635, X635, ⟨rfl, N635q, e635⟩, st635⟩ := own_callS X634 hx hZ hown (y := (⟨"com/example/regretta/regretta/GroupProblemGeneratorDescriptionPinLaw", "dg", "(Ljava/lang/String;IIJ[JI)Z"⟩ : MethodName)) (hw _ (List.mem_of_getElem? (i := 269) rfl)) (hw _ (List.mem_of_getElem? (i := 270) rfl)) (hw _ (List.mem_of_getElem? (i := 241) rfl)) (hw _ (List.mem_of_getElem? (i := 271) rfl)) (by decide) (argsL := [(.ref sx), (.int (Int32.ofNat ys.length)), (.int (Int32.ofNat cn)), (.long mm), (.ref b520), (.int (3 : Int32))]) (rest := []) e634 (rm46 l Z a0 hw [] sx tx kx ys lv mm cn 3 b520 k520 w1 d1 d2 kd1 kd2 fm T611.heap n0 Z611 hz hk616 TB f612 f613 f614 f615 f617 hn hy hC (by omega) hm hdg0 (by decide)) (g := (mkF m 531 #[.val (.int p1), .val (.int p2), .val (.int p3), .val (.int p4), .val (.long lv), .second, .val (.int (Int32.ofNat nv)), .val (.int (Int32.ofNat nf)), .val (.int (Int32.ofNat na)), .val (.int (Int32.ofNat nd)), .val (.ref b520), .val (.ref b599), .val (.ref sx), .val (.int ng), .val (.long mm), .second, .val (.int (Int32.ofNat ys.length)), .val (.int (Int32.ofNat cn)), .val (.int (1 : Int32)), .val (.int (1 : Int32)), .val (.int (1 : Int32)), .unset, .unset, .unset] [(.int (3 : Int32)), (.ref b520), (.long mm), (.int (Int32.ofNat cn)), (.int (Int32.ofNat ys.length)), (.ref sx)])) rfl (by rw [hml]; rfl) (lenOf pd_35 rfl) rfl (W := 0) (by show 2 * 0 + _ ≤ _; exact Nat.le_of_eq rfl) (hb hby at_531) (by decide) (by decide) (by decide) (by decide)
        have N635 := Fr.app N634 N635q
        refine own_by st635 ?_
        refine own_by (fun _ k => XS.ifNo X635.here hx rfl (hb hby at_534) rfl ((if0 _ _).trans (feq (by decide : ¬ ((1 : Int32) = (0 : Int32)))).1) k) ?_
        refine own_by (fun _ k => XS.aload X635.here hx rfl (hb hby at_537) rfl rfl k) ?_
        refine own_by (fun _ k => XS.iload X635.here hx rfl (hb hby at_539) rfl k) ?_
        refine own_by (fun _ k => XS.iload X635.here hx rfl (hb hby at_541) rfl k) ?_
        refine own_by (fun _ k => XS.lload X635.here hx rfl (hb hby at_543) rfl k) ?_
        refine own_by (fun _ k => XS.aload X635.here hx rfl (hb hby at_545) rfl rfl k) ?_
        show own_Go p e below _ T635 (mkF m 547 #[.val (.int p1), .val (.int p2), .val (.int p3), .val (.int p4), .val (.long lv), .second, .val (.int (Int32.ofNat nv)), .val (.int (Int32.ofNat nf)), .val (.int (Int32.ofNat na)), .val (.int (Int32.ofNat nd)), .val (.ref b520), .val (.ref b599), .val (.ref sx), .val (.int ng), .val (.long mm), .second, .val (.int (Int32.ofNat ys.length)), .val (.int (Int32.ofNat cn)), .val (.int (1 : Int32)), .val (.int (1 : Int32)), .val (.int (1 : Int32)), .unset, .unset, .unset] [(.ref b520), (.long mm), (.int (Int32.ofNat cn)), (.int (Int32.ofNat ys.length)), (.ref sx)])
        refine own_by (fun _ k => XS.iconst X635.here hx rfl (hb hby at_547) k) ?_
        obtain ⟨_, T636, L636, X636, ⟨rfl, N636q, e636⟩, st636⟩ := own_callS X635 hx hZ hown (y := (⟨"com/example/regretta/regretta/GroupProblemGeneratorDescriptionPinLaw", "dg", "(Ljava/lang/String;IIJ[JI)Z"⟩ : MethodName)) (hw _ (List.mem_of_getElem? (i := 269) rfl)) (hw _ (List.mem_of_getElem? (i := 270) rfl)) (hw _ (List.mem_of_getElem? (i := 241) rfl)) (hw _ (List.mem_of_getElem? (i := 271) rfl)) (by decide) (argsL := [(.ref sx), (.int (Int32.ofNat ys.length)), (.int (Int32.ofNat cn)), (.long mm), (.ref b520), (.int (4 : Int32))]) (rest := []) e635 (rm46 l Z a0 hw [] sx tx kx ys lv mm cn 4 b520 k520 w1 d1 d2 kd1 kd2 fm T611.heap n0 Z611 hz hk616 TB f612 f613 f614 f615 f617 hn hy hC (by omega) hm hdg0 (by decide)) (g := (mkF m 548 #[.val (.int p1), .val (.int p2), .val (.int p3), .val (.int p4), .val (.long lv), .second, .val (.int (Int32.ofNat nv)), .val (.int (Int32.ofNat nf)), .val (.int (Int32.ofNat na)), .val (.int (Int32.ofNat nd)), .val (.ref b520), .val (.ref b599), .val (.ref sx), .val (.int ng), .val (.long mm), .second, .val (.int (Int32.ofNat ys.length)), .val (.int (Int32.ofNat cn)), .val (.int (1 : Int32)), .val (.int (1 : Int32)), .val (.int (1 : Int32)), .unset, .unset, .unset] [(.int (4 : Int32)), (.ref b520), (.long mm), (.int (Int32.ofNat cn)), (.int (Int32.ofNat ys.length)), (.ref sx)])) rfl (by rw [hml]; rfl) (lenOf pd_35 rfl) rfl (W := 0) (by show 2 * 0 + _ ≤ _; exact Nat.le_of_eq rfl) (hb hby at_548) (by decide) (by decide) (by decide) (by decide)
        have N636 := Fr.app N635 N636q
        refine own_by st636 ?_
        refine own_by (fun _ k => XS.ifNo X636.here hx rfl (hb hby at_551) rfl ((if0 _ _).trans (feq (by decide : ¬ ((1 : Int32) = (0 : Int32)))).1) k) ?_
        refine own_by (fun _ k => XS.aload X636.here hx rfl (hb hby at_554) rfl rfl k) ?_
        refine own_by (fun _ k => XS.iload X636.here hx rfl (hb hby at_556) rfl k) ?_
        refine own_by (fun _ k => XS.iload X636.here hx rfl (hb hby at_558) rfl k) ?_
        refine own_by (fun _ k => XS.lload X636.here hx rfl (hb hby at_560) rfl k) ?_
        refine own_by (fun _ k => XS.aload X636.here hx rfl (hb hby at_562) rfl rfl k) ?_
        refine own_by (fun _ k => XS.iconst X636.here hx rfl (hb hby at_564) k) ?_
        show own_Go p e below _ T636 (mkF m 565 #[.val (.int p1), .val (.int p2), .val (.int p3), .val (.int p4), .val (.long lv), .second, .val (.int (Int32.ofNat nv)), .val (.int (Int32.ofNat nf)), .val (.int (Int32.ofNat na)), .val (.int (Int32.ofNat nd)), .val (.ref b520), .val (.ref b599), .val (.ref sx), .val (.int ng), .val (.long mm), .second, .val (.int (Int32.ofNat ys.length)), .val (.int (Int32.ofNat cn)), .val (.int (1 : Int32)), .val (.int (1 : Int32)), .val (.int (1 : Int32)), .unset, .unset, .unset] [(.int (5 : Int32)), (.ref b520), (.long mm), (.int (Int32.ofNat cn)), (.int (Int32.ofNat ys.length)), (.ref sx)])
        obtain ⟨_, T637, L637, X637, ⟨rfl, N637q, e637⟩, st637⟩ := own_callS X636 hx hZ hown (y := (⟨"com/example/regretta/regretta/GroupProblemGeneratorDescriptionPinLaw", "dg", "(Ljava/lang/String;IIJ[JI)Z"⟩ : MethodName)) (hw _ (List.mem_of_getElem? (i := 269) rfl)) (hw _ (List.mem_of_getElem? (i := 270) rfl)) (hw _ (List.mem_of_getElem? (i := 241) rfl)) (hw _ (List.mem_of_getElem? (i := 271) rfl)) (by decide) (argsL := [(.ref sx), (.int (Int32.ofNat ys.length)), (.int (Int32.ofNat cn)), (.long mm), (.ref b520), (.int (5 : Int32))]) (rest := []) e636 (rm46 l Z a0 hw [] sx tx kx ys lv mm cn 5 b520 k520 w1 d1 d2 kd1 kd2 fm T611.heap n0 Z611 hz hk616 TB f612 f613 f614 f615 f617 hn hy hC (by omega) hm hdg0 (by decide)) (g := (mkF m 565 #[.val (.int p1), .val (.int p2), .val (.int p3), .val (.int p4), .val (.long lv), .second, .val (.int (Int32.ofNat nv)), .val (.int (Int32.ofNat nf)), .val (.int (Int32.ofNat na)), .val (.int (Int32.ofNat nd)), .val (.ref b520), .val (.ref b599), .val (.ref sx), .val (.int ng), .val (.long mm), .second, .val (.int (Int32.ofNat ys.length)), .val (.int (Int32.ofNat cn)), .val (.int (1 : Int32)), .val (.int (1 : Int32)), .val (.int (1 : Int32)), .unset, .unset, .unset] [(.int (5 : Int32)), (.ref b520), (.long mm), (.int (Int32.ofNat cn)), (.int (Int32.ofNat ys.length)), (.ref sx)])) rfl (by rw [hml]; rfl) (lenOf pd_35 rfl) rfl (W := 0) (by show 2 * 0 + _ ≤ _; exact Nat.le_of_eq rfl) (hb hby at_565) (by decide) (by decide) (by decide) (by decide)
        have N637 := Fr.app N636 N637q
        refine own_by st637 ?_
        refine own_by (fun _ k => XS.ifNo X637.here hx rfl (hb hby at_568) rfl ((if0 _ _).trans (feq (by decide : ¬ ((1 : Int32) = (0 : Int32)))).1) k) ?_
        refine own_by (fun _ k => XS.aload X637.here hx rfl (hb hby at_571) rfl rfl k) ?_
        refine own_by (fun _ k => XS.iload X637.here hx rfl (hb hby at_573) rfl k) ?_
        refine own_by (fun _ k => XS.iload X637.here hx rfl (hb hby at_575) rfl k) ?_
        refine own_by (fun _ k => XS.lload X637.here hx rfl (hb hby at_577) rfl k) ?_
        refine own_by (fun _ k => XS.aload X637.here hx rfl (hb hby at_579) rfl rfl k) ?_
        refine own_by (fun _ k => XS.bipush X637.here hx rfl (hb hby at_581) k) ?_
        obtain ⟨_, T638, L638, X638, ⟨rfl, N638q, e638⟩, st638⟩ := own_callS X637 hx hZ hown (y := (⟨"com/example/regretta/regretta/GroupProblemGeneratorDescriptionPinLaw", "dg", "(Ljava/lang/String;IIJ[JI)Z"⟩ : MethodName)) (hw _ (List.mem_of_getElem? (i := 269) rfl)) (hw _ (List.mem_of_getElem? (i := 270) rfl)) (hw _ (List.mem_of_getElem? (i := 241) rfl)) (hw _ (List.mem_of_getElem? (i := 271) rfl)) (by decide) (argsL := [(.ref sx), (.int (Int32.ofNat ys.length)), (.int (Int32.ofNat cn)), (.long mm), (.ref b520), (.int (6 : Int32))]) (rest := []) e637 (rm46 l Z a0 hw [] sx tx kx ys lv mm cn 6 b520 k520 w1 d1 d2 kd1 kd2 fm T611.heap n0 Z611 hz hk616 TB f612 f613 f614 f615 f617 hn hy hC (by omega) hm hdg0 (by decide)) (g := (mkF m 583 #[.val (.int p1), .val (.int p2), .val (.int p3), .val (.int p4), .val (.long lv), .second, .val (.int (Int32.ofNat nv)), .val (.int (Int32.ofNat nf)), .val (.int (Int32.ofNat na)), .val (.int (Int32.ofNat nd)), .val (.ref b520), .val (.ref b599), .val (.ref sx), .val (.int ng), .val (.long mm), .second, .val (.int (Int32.ofNat ys.length)), .val (.int (Int32.ofNat cn)), .val (.int (1 : Int32)), .val (.int (1 : Int32)), .val (.int (1 : Int32)), .unset, .unset, .unset] [(.int (6 : Int32)), (.ref b520), (.long mm), (.int (Int32.ofNat cn)), (.int (Int32.ofNat ys.length)), (.ref sx)])) rfl (by rw [hml]; rfl) (lenOf pd_35 rfl) rfl (W := 0) (by show 2 * 0 + _ ≤ _; exact Nat.le_of_eq rfl) (hb hby at_583) (by decide) (by decide) (by decide) (by decide)
        have N638 := Fr.app N637 N638q
        refine own_by st638 ?_
        show own_Go p e below _ T638 (mkF m 586 #[.val (.int p1), .val (.int p2), .val (.int p3), .val (.int p4), .val (.long lv), .second, .val (.int (Int32.ofNat nv)), .val (.int (Int32.ofNat nf)), .val (.int (Int32.ofNat na)), .val (.int (Int32.ofNat nd)), .val (.ref b520), .val (.ref b599), .val (.ref sx), .val (.int ng), .val (.long mm), .second, .val (.int (Int32.ofNat ys.length)), .val (.int (Int32.ofNat cn)), .val (.int (1 : Int32)), .val (.int (1 : Int32)), .val (.int (1 : Int32)), .unset, .unset, .unset] [(.int (1 : Int32))])
        refine own_by (fun _ k => XS.ifNo X638.here hx rfl (hb hby at_586) rfl ((if0 _ _).trans (feq (by decide : ¬ ((1 : Int32) = (0 : Int32)))).1) k) ?_
        refine own_by (fun _ k => XS.aload X638.here hx rfl (hb hby at_589) rfl rfl k) ?_
        refine own_by (fun _ k => XS.iload X638.here hx rfl (hb hby at_591) rfl k) ?_
        refine own_by (fun _ k => XS.iload X638.here hx rfl (hb hby at_593) rfl k) ?_
        refine own_by (fun _ k => XS.lload X638.here hx rfl (hb hby at_595) rfl k) ?_
        refine own_by (fun _ k => XS.aload X638.here hx rfl (hb hby at_597) rfl rfl k) ?_
        refine own_by (fun _ k => XS.bipush X638.here hx rfl (hb hby at_599) k) ?_
        obtain ⟨_, T639, L639, X639, ⟨rfl, N639q, e639⟩, st639⟩ := own_callS X638 hx hZ hown (y := (⟨"com/example/regretta/regretta/GroupProblemGeneratorDescriptionPinLaw", "dg", "(Ljava/lang/String;IIJ[JI)Z"⟩ : MethodName)) (hw _ (List.mem_of_getElem? (i := 269) rfl)) (hw _ (List.mem_of_getElem? (i := 270) rfl)) (hw _ (List.mem_of_getElem? (i := 241) rfl)) (hw _ (List.mem_of_getElem? (i := 271) rfl)) (by decide) (argsL := [(.ref sx), (.int (Int32.ofNat ys.length)), (.int (Int32.ofNat cn)), (.long mm), (.ref b520), (.int (7 : Int32))]) (rest := []) e638 (rm46 l Z a0 hw [] sx tx kx ys lv mm cn 7 b520 k520 w1 d1 d2 kd1 kd2 fm T611.heap n0 Z611 hz hk616 TB f612 f613 f614 f615 f617 hn hy hC (by omega) hm hdg0 (by decide)) (g := (mkF m 601 #[.val (.int p1), .val (.int p2), .val (.int p3), .val (.int p4), .val (.long lv), .second, .val (.int (Int32.ofNat nv)), .val (.int (Int32.ofNat nf)), .val (.int (Int32.ofNat na)), .val (.int (Int32.ofNat nd)), .val (.ref b520), .val (.ref b599), .val (.ref sx), .val (.int ng), .val (.long mm), .second, .val (.int (Int32.ofNat ys.length)), .val (.int (Int32.ofNat cn)), .val (.int (1 : Int32)), .val (.int (1 : Int32)), .val (.int (1 : Int32)), .unset, .unset, .unset] [(.int (7 : Int32)), (.ref b520), (.long mm), (.int (Int32.ofNat cn)), (.int (Int32.ofNat ys.length)), (.ref sx)])) rfl (by rw [hml]; rfl) (lenOf pd_35 rfl) rfl (W := 0) (by show 2 * 0 + _ ≤ _; exact Nat.le_of_eq rfl) (hb hby at_601) (by decide) (by decide) (by decide) (by decide)
        have N639 := Fr.app N638 N639q
        refine own_by st639 ?_
        refine own_by (fun _ k => XS.ifNo X639.here hx rfl (hb hby at_604) rfl ((if0 _ _).trans (feq (by decide : ¬ ((1 : Int32) = (0 : Int32)))).1) k) ?_
        show own_Go p e below _ T639 (mkF m 607 #[.val (.int p1), .val (.int p2), .val (.int p3), .val (.int p4), .val (.long lv), .second, .val (.int (Int32.ofNat nv)), .val (.int (Int32.ofNat nf)), .val (.int (Int32.ofNat na)), .val (.int (Int32.ofNat nd)), .val (.ref b520), .val (.ref b599), .val (.ref sx), .val (.int ng), .val (.long mm), .second, .val (.int (Int32.ofNat ys.length)), .val (.int (Int32.ofNat cn)), .val (.int (1 : Int32)), .val (.int (1 : Int32)), .val (.int (1 : Int32)), .unset, .unset, .unset] [])
        refine own_by (fun _ k => XS.aload X639.here hx rfl (hb hby at_607) rfl rfl k) ?_
        refine own_by (fun _ k => XS.iload X639.here hx rfl (hb hby at_609) rfl k) ?_
        refine own_by (fun _ k => XS.iload X639.here hx rfl (hb hby at_611) rfl k) ?_
        refine own_by (fun _ k => XS.lload X639.here hx rfl (hb hby at_613) rfl k) ?_
        refine own_by (fun _ k => XS.aload X639.here hx rfl (hb hby at_615) rfl rfl k) ?_
        refine own_by (fun _ k => XS.bipush X639.here hx rfl (hb hby at_617) k) ?_
        obtain ⟨_, T640, L640, X640, ⟨rfl, N640q, e640⟩, st640⟩ := own_callS X639 hx hZ hown (y := (⟨"com/example/regretta/regretta/GroupProblemGeneratorDescriptionPinLaw", "dg", "(Ljava/lang/String;IIJ[JI)Z"⟩ : MethodName)) (hw _ (List.mem_of_getElem? (i := 269) rfl)) (hw _ (List.mem_of_getElem? (i := 270) rfl)) (hw _ (List.mem_of_getElem? (i := 241) rfl)) (hw _ (List.mem_of_getElem? (i := 271) rfl)) (by decide) (argsL := [(.ref sx), (.int (Int32.ofNat ys.length)), (.int (Int32.ofNat cn)), (.long mm), (.ref b520), (.int (8 : Int32))]) (rest := []) e639 (rm46 l Z a0 hw [] sx tx kx ys lv mm cn 8 b520 k520 w1 d1 d2 kd1 kd2 fm T611.heap n0 Z611 hz hk616 TB f612 f613 f614 f615 f617 hn hy hC (by omega) hm hdg0 (by decide)) (g := (mkF m 619 #[.val (.int p1), .val (.int p2), .val (.int p3), .val (.int p4), .val (.long lv), .second, .val (.int (Int32.ofNat nv)), .val (.int (Int32.ofNat nf)), .val (.int (Int32.ofNat na)), .val (.int (Int32.ofNat nd)), .val (.ref b520), .val (.ref b599), .val (.ref sx), .val (.int ng), .val (.long mm), .second, .val (.int (Int32.ofNat ys.length)), .val (.int (Int32.ofNat cn)), .val (.int (1 : Int32)), .val (.int (1 : Int32)), .val (.int (1 : Int32)), .unset, .unset, .unset] [(.int (8 : Int32)), (.ref b520), (.long mm), (.int (Int32.ofNat cn)), (.int (Int32.ofNat ys.length)), (.ref sx)])) rfl (by rw [hml]; rfl) (lenOf pd_35 rfl) rfl (W := 0) (by show 2 * 0 + _ ≤ _; exact Nat.le_of_eq rfl) (hb hby at_619) (by decide) (by decide) (by decide) (by decide)
        have N640 := Fr.app N639 N640q
        refine own_by st640 ?_
        refine own_by (fun _ k => XS.ifNo X640.here hx rfl (hb hby at_622) rfl ((if0 _ _).trans (feq (by decide : ¬ ((1 : Int32) = (0 : Int32)))).1) k) ?_
        refine own_by (fun _ k => XS.aload X640.here hx rfl (hb hby at_625) rfl rfl k) ?_
        show own_Go p e below _ T640 (mkF m 627 #[.val (.int p1), .val (.int p2), .val (.int p3), .val (.int p4), .val (.long lv), .second, .val (.int (Int32.ofNat nv)), .val (.int (Int32.ofNat nf)), .val (.int (Int32.ofNat na)), .val (.int (Int32.ofNat nd)), .val (.ref b520), .val (.ref b599), .val (.ref sx), .val (.int ng), .val (.long mm), .second, .val (.int (Int32.ofNat ys.length)), .val (.int (Int32.ofNat cn)), .val (.int (1 : Int32)), .val (.int (1 : Int32)), .val (.int (1 : Int32)), .unset, .unset, .unset] [(.ref sx)])
        refine own_by (fun _ k => XS.iload X640.here hx rfl (hb hby at_627) rfl k) ?_
        refine own_by (fun _ k => XS.iload X640.here hx rfl (hb hby at_629) rfl k) ?_
        refine own_by (fun _ k => XS.lload X640.here hx rfl (hb hby at_631) rfl k) ?_
        refine own_by (fun _ k => XS.aload X640.here hx rfl (hb hby at_633) rfl rfl k) ?_
        refine own_by (fun _ k => XS.bipush X640.here hx rfl (hb hby at_635) k) ?_
        obtain ⟨_, T641, L641, X641, ⟨rfl, N641q, e641⟩, st641⟩ := own_callS X640 hx hZ hown (y := (⟨"com/example/regretta/regretta/GroupProblemGeneratorDescriptionPinLaw", "dg", "(Ljava/lang/String;IIJ[JI)Z"⟩ : MethodName)) (hw _ (List.mem_of_getElem? (i := 269) rfl)) (hw _ (List.mem_of_getElem? (i := 270) rfl)) (hw _ (List.mem_of_getElem? (i := 241) rfl)) (hw _ (List.mem_of_getElem? (i := 271) rfl)) (by decide) (argsL := [(.ref sx), (.int (Int32.ofNat ys.length)), (.int (Int32.ofNat cn)), (.long mm), (.ref b520), (.int (9 : Int32))]) (rest := []) e640 (rm46 l Z a0 hw [] sx tx kx ys lv mm cn 9 b520 k520 w1 d1 d2 kd1 kd2 fm T611.heap n0 Z611 hz hk616 TB f612 f613 f614 f615 f617 hn hy hC (by omega) hm hdg0 (by decide)) (g := (mkF m 637 #[.val (.int p1), .val (.int p2), .val (.int p3), .val (.int p4), .val (.long lv), .second, .val (.int (Int32.ofNat nv)), .val (.int (Int32.ofNat nf)), .val (.int (Int32.ofNat na)), .val (.int (Int32.ofNat nd)), .val (.ref b520), .val (.ref b599), .val (.ref sx), .val (.int ng), .val (.long mm), .second, .val (.int (Int32.ofNat ys.length)), .val (.int (Int32.ofNat cn)), .val (.int (1 : Int32)), .val (.int (1 : Int32)), .val (.int (1 : Int32)), .unset, .unset, .unset] [(.int (9 : Int32)), (.ref b520), (.long mm), (.int (Int32.ofNat cn)), (.int (Int32.ofNat ys.length)), (.ref sx)])) rfl (by rw [hml]; rfl) (lenOf pd_35 rfl) rfl (W := 0) (by show 2 * 0 + _ ≤ _; exact Nat.le_of_eq rfl) (hb hby at_637) (by decide) (by decide) (by decide) (by decide)
        have N641 := Fr.app N640 N641q
        refine own_by st641 ?_
        refine own_by (fun _ k => XS.ifNo X641.here hx rfl (hb hby at_640) rfl ((if0 _ _).trans (feq (by decide : ¬ ((1 : Int32) = (0 : Int32)))).1) k) ?_
        refine own_by (fun _ k => XS.aload X641.here hx rfl (hb hby at_643) rfl rfl k) ?_
        refine own_by (fun _ k => XS.iload X641.here hx rfl (hb hby at_645) rfl k) ?_
        show own_Go p e below _ T641 (mkF m 647 #[.val (.int p1), .val (.int p2), .val (.int p3), .val (.int p4), .val (.long lv), .second, .val (.int (Int32.ofNat nv)), .val (.int (Int32.ofNat nf)), .val (.int (Int32.ofNat na)), .val (.int (Int32.ofNat nd)), .val (.ref b520), .val (.ref b599), .val (.ref sx), .val (.int ng), .val (.long mm), .second, .val (.int (Int32.ofNat ys.length)), .val (.int (Int32.ofNat cn)), .val (.int (1 : Int32)), .val (.int (1 : Int32)), .val (.int (1 : Int32)), .unset, .unset, .unset] [(.int (Int32.ofNat ys.length)), (.ref sx)])
        refine own_by (fun _ k => XS.iload X641.here hx rfl (hb hby at_647) rfl k) ?_
        refine own_by (fun _ k => XS.lload X641.here hx rfl (hb hby at_649) rfl k) ?_
        refine own_by (fun _ k => XS.aload X641.here hx rfl (hb hby at_651) rfl rfl k) ?_
        refine own_by (fun _ k => XS.bipush X641.here hx rfl (hb hby at_653) k) ?_
        obtain ⟨_, T642, L642, X642, ⟨rfl, N642q, e642⟩, st642⟩ := own_callS X641 hx hZ hown (y := (⟨"com/example/regretta/regretta/GroupProblemGeneratorDescriptionPinLaw", "dg", "(Ljava/lang/String;IIJ[JI)Z"⟩ : MethodName)) (hw _ (List.mem_of_getElem? (i := 269) rfl)) (hw _ (List.mem_of_getElem? (i := 270) rfl)) (hw _ (List.mem_of_getElem? (i := 241) rfl)) (hw _ (List.mem_of_getElem? (i := 271) rfl)) (by decide) (argsL := [(.ref sx), (.int (Int32.ofNat ys.length)), (.int (Int32.ofNat cn)), (.long mm), (.ref b520), (.int (10 : Int32))]) (rest := []) e641 (rm46 l Z a0 hw [] sx tx kx ys lv mm cn 10 b520 k520 w1 d1 d2 kd1 kd2 fm T611.heap n0 Z611 hz hk616 TB f612 f613 f614 f615 f617 hn hy hC (by omega) hm hdg0 (by decide)) (g := (mkF m 655 #[.val (.int p1), .val (.int p2), .val (.int p3), .val (.int p4), .val (.long lv), .second, .val (.int (Int32.ofNat nv)), .val (.int (Int32.ofNat nf)), .val (.int (Int32.ofNat na)), .val (.int (Int32.ofNat nd)), .val (.ref b520), .val (.ref b599), .val (.ref sx), .val (.int ng), .val (.long mm), .second, .val (.int (Int32.ofNat ys.length)), .val (.int (Int32.ofNat cn)), .val (.int (1 : Int32)), .val (.int (1 : Int32)), .val (.int (1 : Int32)), .unset, .unset, .unset] [(.int (10 : Int32)), (.ref b520), (.long mm), (.int (Int32.ofNat cn)), (.int (Int32.ofNat ys.length)), (.ref sx)])) rfl (by rw [hml]; rfl) (lenOf pd_35 rfl) rfl (W := 0) (by show 2 * 0 + _ ≤ _; exact Nat.le_of_eq rfl) (hb hby at_655) (by decide) (by decide) (by decide) (by decide)
        have N642 := Fr.app N641 N642q
        refine own_by st642 ?_
        refine own_by (fun _ k => XS.ifNo X642.here hx rfl (hb hby at_658) rfl ((if0 _ _).trans (feq (by decide : ¬ ((1 : Int32) = (0 : Int32)))).1) k) ?_
        refine own_by (fun _ k => XS.aload X642.here hx rfl (hb hby at_661) rfl rfl k) ?_
        refine own_by (fun _ k => XS.iload X642.here hx rfl (hb hby at_663) rfl k) ?_
        refine own_by (fun _ k => XS.iload X642.here hx rfl (hb hby at_665) rfl k) ?_
        show own_Go p e below _ T642 (mkF m 667 #[.val (.int p1), .val (.int p2), .val (.int p3), .val (.int p4), .val (.long lv), .second, .val (.int (Int32.ofNat nv)), .val (.int (Int32.ofNat nf)), .val (.int (Int32.ofNat na)), .val (.int (Int32.ofNat nd)), .val (.ref b520), .val (.ref b599), .val (.ref sx), .val (.int ng), .val (.long mm), .second, .val (.int (Int32.ofNat ys.length)), .val (.int (Int32.ofNat cn)), .val (.int (1 : Int32)), .val (.int (1 : Int32)), .val (.int (1 : Int32)), .unset, .unset, .unset] [(.int (Int32.ofNat cn)), (.int (Int32.ofNat ys.length)), (.ref sx)])
        refine own_by (fun _ k => XS.lload X642.here hx rfl (hb hby at_667) rfl k) ?_
        refine own_by (fun _ k => XS.aload X642.here hx rfl (hb hby at_669) rfl rfl k) ?_
        refine own_by (fun _ k => XS.bipush X642.here hx rfl (hb hby at_671) k) ?_
        obtain ⟨_, T643, L643, X643, ⟨rfl, N643q, e643⟩, st643⟩ := own_callS X642 hx hZ hown (y := (⟨"com/example/regretta/regretta/GroupProblemGeneratorDescriptionPinLaw", "dg", "(Ljava/lang/String;IIJ[JI)Z"⟩ : MethodName)) (hw _ (List.mem_of_getElem? (i := 269) rfl)) (hw _ (List.mem_of_getElem? (i := 270) rfl)) (hw _ (List.mem_of_getElem? (i := 241) rfl)) (hw _ (List.mem_of_getElem? (i := 271) rfl)) (by decide) (argsL := [(.ref sx), (.int (Int32.ofNat ys.length)), (.int (Int32.ofNat cn)), (.long mm), (.ref b520), (.int (11 : Int32))]) (rest := []) e642 (rm46 l Z a0 hw [] sx tx kx ys lv mm cn 11 b520 k520 w1 d1 d2 kd1 kd2 fm T611.heap n0 Z611 hz hk616 TB f612 f613 f614 f615 f617 hn hy hC (by omega) hm hdg0 (by decide)) (g := (mkF m 673 #[.val (.int p1), .val (.int p2), .val (.int p3), .val (.int p4), .val (.long lv), .second, .val (.int (Int32.ofNat nv)), .val (.int (Int32.ofNat nf)), .val (.int (Int32.ofNat na)), .val (.int (Int32.ofNat nd)), .val (.ref b520), .val (.ref b599), .val (.ref sx), .val (.int ng), .val (.long mm), .second, .val (.int (Int32.ofNat ys.length)), .val (.int (Int32.ofNat cn)), .val (.int (1 : Int32)), .val (.int (1 : Int32)), .val (.int (1 : Int32)), .unset, .unset, .unset] [(.int (11 : Int32)), (.ref b520), (.long mm), (.int (Int32.ofNat cn)), (.int (Int32.ofNat ys.length)), (.ref sx)])) rfl (by rw [hml]; rfl) (lenOf pd_35 rfl) rfl (W := 0) (by show 2 * 0 + _ ≤ _; exact Nat.le_of_eq rfl) (hb hby at_673) (by decide) (by decide) (by decide) (by decide)
        have N643 := Fr.app N642 N643q
        refine own_by st643 ?_
        refine own_by (fun _ k => XS.ifNo X643.here hx rfl (hb hby at_676) rfl ((if0 _ _).trans (feq (by decide : ¬ ((1 : Int32) = (0 : Int32)))).1) k) ?_
        refine own_by (fun _ k => XS.aload X643.here hx rfl (hb hby at_679) rfl rfl k) ?_
        refine own_by (fun _ k => XS.iload X643.here hx rfl (hb hby at_681) rfl k) ?_
        refine own_by (fun _ k => XS.iload X643.here hx rfl (hb hby at_683) rfl k) ?_
        refine own_by (fun _ k => XS.lload X643.here hx rfl (hb hby at_685) rfl k) ?_
        show own_Go p e below _ T643 (mkF m 687 #[.val (.int p1), .val (.int p2), .val (.int p3), .val (.int p4), .val (.long lv), .second, .val (.int (Int32.ofNat nv)), .val (.int (Int32.ofNat nf)), .val (.int (Int32.ofNat na)), .val (.int (Int32.ofNat nd)), .val (.ref b520), .val (.ref b599), .val (.ref sx), .val (.int ng), .val (.long mm), .second, .val (.int (Int32.ofNat ys.length)), .val (.int (Int32.ofNat cn)), .val (.int (1 : Int32)), .val (.int (1 : Int32)), .val (.int (1 : Int32)), .unset, .unset, .unset] [(.long mm), (.int (Int32.ofNat cn)), (.int (Int32.ofNat ys.length)), (.ref sx)])
        refine own_by (fun _ k => XS.aload X643.here hx rfl (hb hby at_687) rfl rfl k) ?_
        refine own_by (fun _ k => XS.bipush X643.here hx rfl (hb hby at_689) k) ?_
        obtain ⟨_, T644, L644, X644, ⟨rfl, N644q, e644⟩, st644⟩ := own_callS X643 hx hZ hown (y := (⟨"com/example/regretta/regretta/GroupProblemGeneratorDescriptionPinLaw", "dg", "(Ljava/lang/String;IIJ[JI)Z"⟩ : MethodName)) (hw _ (List.mem_of_getElem? (i := 269) rfl)) (hw _ (List.mem_of_getElem? (i := 270) rfl)) (hw _ (List.mem_of_getElem? (i := 241) rfl)) (hw _ (List.mem_of_getElem? (i := 271) rfl)) (by decide) (argsL := [(.ref sx), (.int (Int32.ofNat ys.length)), (.int (Int32.ofNat cn)), (.long mm), (.ref b520), (.int (12 : Int32))]) (rest := []) e643 (rm46 l Z a0 hw [] sx tx kx ys lv mm cn 12 b520 k520 w1 d1 d2 kd1 kd2 fm T611.heap n0 Z611 hz hk616 TB f612 f613 f614 f615 f617 hn hy hC (by omega) hm hdg0 (by decide)) (g := (mkF m 691 #[.val (.int p1), .val (.int p2), .val (.int p3), .val (.int p4), .val (.long lv), .second, .val (.int (Int32.ofNat nv)), .val (.int (Int32.ofNat nf)), .val (.int (Int32.ofNat na)), .val (.int (Int32.ofNat nd)), .val (.ref b520), .val (.ref b599), .val (.ref sx), .val (.int ng), .val (.long mm), .second, .val (.int (Int32.ofNat ys.length)), .val (.int (Int32.ofNat cn)), .val (.int (1 : Int32)), .val (.int (1 : Int32)), .val (.int (1 : Int32)), .unset, .unset, .unset] [(.int (12 : Int32)), (.ref b520), (.long mm), (.int (Int32.ofNat cn)), (.int (Int32.ofNat ys.length)), (.ref sx)])) rfl (by rw [hml]; rfl) (lenOf pd_35 rfl) rfl (W := 0) (by show 2 * 0 + _ ≤ _; exact Nat.le_of_eq rfl) (hb hby at_691) (by decide) (by decide) (by decide) (by decide)
        have N644 := Fr.app N643 N644q
        refine own_by st644 ?_
        refine own_by (fun _ k => XS.ifNo X644.here hx rfl (hb hby at_694) rfl ((if0 _ _).trans (feq (by decide : ¬ ((1 : Int32) = (0 : Int32)))).1) k) ?_
        refine own_by (fun _ k => XS.aload X644.here hx rfl (hb hby at_697) rfl rfl k) ?_
        refine own_by (fun _ k => XS.iload X644.here hx rfl (hb hby at_699) rfl k) ?_
        refine own_by (fun _ k => XS.iload X644.here hx rfl (hb hby at_701) rfl k) ?_
        refine own_by (fun _ k => XS.lload X644.here hx rfl (hb hby at_703) rfl k) ?_
        refine own_by (fun _ k => XS.aload X644.here hx rfl (hb hby at_705) rfl rfl k) ?_
        show own_Go p e below _ T644 (mkF m 707 #[.val (.int p1), .val (.int p2), .val (.int p3), .val (.int p4), .val (.long lv), .second, .val (.int (Int32.ofNat nv)), .val (.int (Int32.ofNat nf)), .val (.int (Int32.ofNat na)), .val (.int (Int32.ofNat nd)), .val (.ref b520), .val (.ref b599), .val (.ref sx), .val (.int ng), .val (.long mm), .second, .val (.int (Int32.ofNat ys.length)), .val (.int (Int32.ofNat cn)), .val (.int (1 : Int32)), .val (.int (1 : Int32)), .val (.int (1 : Int32)), .unset, .unset, .unset] [(.ref b520), (.long mm), (.int (Int32.ofNat cn)), (.int (Int32.ofNat ys.length)), (.ref sx)])
        refine own_by (fun _ k => XS.bipush X644.here hx rfl (hb hby at_707) k) ?_
        obtain ⟨_, T645, L645, X645, ⟨rfl, N645q, e645⟩, st645⟩ := own_callS X644 hx hZ hown (y := (⟨"com/example/regretta/regretta/GroupProblemGeneratorDescriptionPinLaw", "dg", "(Ljava/lang/String;IIJ[JI)Z"⟩ : MethodName)) (hw _ (List.mem_of_getElem? (i := 269) rfl)) (hw _ (List.mem_of_getElem? (i := 270) rfl)) (hw _ (List.mem_of_getElem? (i := 241) rfl)) (hw _ (List.mem_of_getElem? (i := 271) rfl)) (by decide) (argsL := [(.ref sx), (.int (Int32.ofNat ys.length)), (.int (Int32.ofNat cn)), (.long mm), (.ref b520), (.int (13 : Int32))]) (rest := []) e644 (rm46 l Z a0 hw [] sx tx kx ys lv mm cn 13 b520 k520 w1 d1 d2 kd1 kd2 fm T611.heap n0 Z611 hz hk616 TB f612 f613 f614 f615 f617 hn hy hC (by omega) hm hdg0 (by decide)) (g := (mkF m 709 #[.val (.int p1), .val (.int p2), .val (.int p3), .val (.int p4), .val (.long lv), .second, .val (.int (Int32.ofNat nv)), .val (.int (Int32.ofNat nf)), .val (.int (Int32.ofNat na)), .val (.int (Int32.ofNat nd)), .val (.ref b520), .val (.ref b599), .val (.ref sx), .val (.int ng), .val (.long mm), .second, .val (.int (Int32.ofNat ys.length)), .val (.int (Int32.ofNat cn)), .val (.int (1 : Int32)), .val (.int (1 : Int32)), .val (.int (1 : Int32)), .unset, .unset, .unset] [(.int (13 : Int32)), (.ref b520), (.long mm), (.int (Int32.ofNat cn)), (.int (Int32.ofNat ys.length)), (.ref sx)])) rfl (by rw [hml]; rfl) (lenOf pd_35 rfl) rfl (W := 0) (by show 2 * 0 + _ ≤ _; exact Nat.le_of_eq rfl) (hb hby at_709) (by decide) (by decide) (by decide) (by decide)
        have N645 := Fr.app N644 N645q
        refine own_by st645 ?_
        refine own_by (fun _ k => XS.ifNo X645.here hx rfl (hb hby at_712) rfl ((if0 _ _).trans (feq (by decide : ¬ ((1 : Int32) = (0 : Int32)))).1) k) ?_
        refine own_by (fun _ k => XS.aload X645.here hx rfl (hb hby at_715) rfl rfl k) ?_
        refine own_by (fun _ k => XS.iload X645.here hx rfl (hb hby at_717) rfl k) ?_
        refine own_by (fun _ k => XS.iload X645.here hx rfl (hb hby at_719) rfl k) ?_
        refine own_by (fun _ k => XS.lload X645.here hx rfl (hb hby at_721) rfl k) ?_
        refine own_by (fun _ k => XS.aload X645.here hx rfl (hb hby at_723) rfl rfl k) ?_
        refine own_by (fun _ k => XS.bipush X645.here hx rfl (hb hby at_725) k) ?_
        show own_Go p e below _ T645 (mkF m 727 #[.val (.int p1), .val (.int p2), .val (.int p3), .val (.int p4), .val (.long lv), .second, .val (.int (Int32.ofNat nv)), .val (.int (Int32.ofNat nf)), .val (.int (Int32.ofNat na)), .val (.int (Int32.ofNat nd)), .val (.ref b520), .val (.ref b599), .val (.ref sx), .val (.int ng), .val (.long mm), .second, .val (.int (Int32.ofNat ys.length)), .val (.int (Int32.ofNat cn)), .val (.int (1 : Int32)), .val (.int (1 : Int32)), .val (.int (1 : Int32)), .unset, .unset, .unset] [(.int (14 : Int32)), (.ref b520), (.long mm), (.int (Int32.ofNat cn)), (.int (Int32.ofNat ys.length)), (.ref sx)])
        obtain ⟨_, T646, L646, X646, ⟨rfl, N646q, e646⟩, st646⟩ := own_callS X645 hx hZ hown (y := (⟨"com/example/regretta/regretta/GroupProblemGeneratorDescriptionPinLaw", "dg", "(Ljava/lang/String;IIJ[JI)Z"⟩ : MethodName)) (hw _ (List.mem_of_getElem? (i := 269) rfl)) (hw _ (List.mem_of_getElem? (i := 270) rfl)) (hw _ (List.mem_of_getElem? (i := 241) rfl)) (hw _ (List.mem_of_getElem? (i := 271) rfl)) (by decide) (argsL := [(.ref sx), (.int (Int32.ofNat ys.length)), (.int (Int32.ofNat cn)), (.long mm), (.ref b520), (.int (14 : Int32))]) (rest := []) e645 (rm46 l Z a0 hw [] sx tx kx ys lv mm cn 14 b520 k520 w1 d1 d2 kd1 kd2 fm T611.heap n0 Z611 hz hk616 TB f612 f613 f614 f615 f617 hn hy hC (by omega) hm hdg0 (by decide)) (g := (mkF m 727 #[.val (.int p1), .val (.int p2), .val (.int p3), .val (.int p4), .val (.long lv), .second, .val (.int (Int32.ofNat nv)), .val (.int (Int32.ofNat nf)), .val (.int (Int32.ofNat na)), .val (.int (Int32.ofNat nd)), .val (.ref b520), .val (.ref b599), .val (.ref sx), .val (.int ng), .val (.long mm), .second, .val (.int (Int32.ofNat ys.length)), .val (.int (Int32.ofNat cn)), .val (.int (1 : Int32)), .val (.int (1 : Int32)), .val (.int (1 : Int32)), .unset, .unset, .unset] [(.int (14 : Int32)), (.ref b520), (.long mm), (.int (Int32.ofNat cn)), (.int (Int32.ofNat ys.length)), (.ref sx)])) rfl (by rw [hml]; rfl) (lenOf pd_35 rfl) rfl (W := 0) (by show 2 * 0 + _ ≤ _; exact Nat.le_of_eq rfl) (hb hby at_727) (by decide) (by decide) (by decide) (by decide)
        have N646 := Fr.app N645 N646q
        refine own_by st646 ?_
        refine own_by (fun _ k => XS.ifNo X646.here hx rfl (hb hby at_730) rfl ((if0 _ _).trans (feq (by decide : ¬ ((1 : Int32) = (0 : Int32)))).1) k) ?_
        refine own_by (fun _ k => XS.aload X646.here hx rfl (hb hby at_733) rfl rfl k) ?_
        refine own_by (fun _ k => XS.iload X646.here hx rfl (hb hby at_735) rfl k) ?_
        refine own_by (fun _ k => XS.iload X646.here hx rfl (hb hby at_737) rfl k) ?_
        refine own_by (fun _ k => XS.lload X646.here hx rfl (hb hby at_739) rfl k) ?_
        refine own_by (fun _ k => XS.aload X646.here hx rfl (hb hby at_741) rfl rfl k) ?_
        refine own_by (fun _ k => XS.bipush X646.here hx rfl (hb hby at_743) k) ?_
        obtain ⟨_, T647, L647, X647, ⟨rfl, N647q, e647⟩, st647⟩ := own_callS X646 hx hZ hown (y := (⟨"com/example/regretta/regretta/GroupProblemGeneratorDescriptionPinLaw", "dg", "(Ljava/lang/String;IIJ[JI)Z"⟩ : MethodName)) (hw _ (List.mem_of_getElem? (i := 269) rfl)) (hw _ (List.mem_of_getElem? (i := 270) rfl)) (hw _ (List.mem_of_getElem? (i := 241) rfl)) (hw _ (List.mem_of_getElem? (i := 271) rfl)) (by decide) (argsL := [(.ref sx), (.int (Int32.ofNat ys.length)), (.int (Int32.ofNat cn)), (.long mm), (.ref b520), (.int (15 : Int32))]) (rest := []) e646 (rm46 l Z a0 hw [] sx tx kx ys lv mm cn 15 b520 k520 w1 d1 d2 kd1 kd2 fm T611.heap n0 Z611 hz hk616 TB f612 f613 f614 f615 f617 hn hy hC (by omega) hm hdg0 (by decide)) (g := (mkF m 745 #[.val (.int p1), .val (.int p2), .val (.int p3), .val (.int p4), .val (.long lv), .second, .val (.int (Int32.ofNat nv)), .val (.int (Int32.ofNat nf)), .val (.int (Int32.ofNat na)), .val (.int (Int32.ofNat nd)), .val (.ref b520), .val (.ref b599), .val (.ref sx), .val (.int ng), .val (.long mm), .second, .val (.int (Int32.ofNat ys.length)), .val (.int (Int32.ofNat cn)), .val (.int (1 : Int32)), .val (.int (1 : Int32)), .val (.int (1 : Int32)), .unset, .unset, .unset] [(.int (15 : Int32)), (.ref b520), (.long mm), (.int (Int32.ofNat cn)), (.int (Int32.ofNat ys.length)), (.ref sx)])) rfl (by rw [hml]; rfl) (lenOf pd_35 rfl) rfl (W := 0) (by show 2 * 0 + _ ≤ _; exact Nat.le_of_eq rfl) (hb hby at_745) (by decide) (by decide) (by decide) (by decide)
        have N647 := Fr.app N646 N647q
        refine own_by st647 ?_
        show own_Go p e below _ T647 (mkF m 748 #[.val (.int p1), .val (.int p2), .val (.int p3), .val (.int p4), .val (.long lv), .second, .val (.int (Int32.ofNat nv)), .val (.int (Int32.ofNat nf)), .val (.int (Int32.ofNat na)), .val (.int (Int32.ofNat nd)), .val (.ref b520), .val (.ref b599), .val (.ref sx), .val (.int ng), .val (.long mm), .second, .val (.int (Int32.ofNat ys.length)), .val (.int (Int32.ofNat cn)), .val (.int (1 : Int32)), .val (.int (1 : Int32)), .val (.int (1 : Int32)), .unset, .unset, .unset] [(.int (1 : Int32))])
        refine own_by (fun _ k => XS.ifNo X647.here hx rfl (hb hby at_748) rfl ((if0 _ _).trans (feq (by decide : ¬ ((1 : Int32) = (0 : Int32)))).1) k) ?_
        refine own_by (fun _ k => XS.aload X647.here hx rfl (hb hby at_751) rfl rfl k) ?_
        refine own_by (fun _ k => XS.iload X647.here hx rfl (hb hby at_753) rfl k) ?_
        refine own_by (fun _ k => XS.iload X647.here hx rfl (hb hby at_755) rfl k) ?_
        refine own_by (fun _ k => XS.lload X647.here hx rfl (hb hby at_757) rfl k) ?_
        refine own_by (fun _ k => XS.aload X647.here hx rfl (hb hby at_759) rfl rfl k) ?_
        refine own_by (fun _ k => XS.bipush X647.here hx rfl (hb hby at_761) k) ?_
        obtain ⟨_, T648, L648, X648, ⟨rfl, N648q, e648⟩, st648⟩ := own_callS X647 hx hZ hown (y := (⟨"com/example/regretta/regretta/GroupProblemGeneratorDescriptionPinLaw", "dg", "(Ljava/lang/String;IIJ[JI)Z"⟩ : MethodName)) (hw _ (List.mem_of_getElem? (i := 269) rfl)) (hw _ (List.mem_of_getElem? (i := 270) rfl)) (hw _ (List.mem_of_getElem? (i := 241) rfl)) (hw _ (List.mem_of_getElem? (i := 271) rfl)) (by decide) (argsL := [(.ref sx), (.int (Int32.ofNat ys.length)), (.int (Int32.ofNat cn)), (.long mm), (.ref b520), (.int (16 : Int32))]) (rest := []) e647 (rm46 l Z a0 hw [] sx tx kx ys lv mm cn 16 b520 k520 w1 d1 d2 kd1 kd2 fm T611.heap n0 Z611 hz hk616 TB f612 f613 f614 f615 f617 hn hy hC (by omega) hm hdg0 (by decide)) (g := (mkF m 763 #[.val (.int p1), .val (.int p2), .val (.int p3), .val (.int p4), .val (.long lv), .second, .val (.int (Int32.ofNat nv)), .val (.int (Int32.ofNat nf)), .val (.int (Int32.ofNat na)), .val (.int (Int32.ofNat nd)), .val (.ref b520), .val (.ref b599), .val (.ref sx), .val (.int ng), .val (.long mm), .second, .val (.int (Int32.ofNat ys.length)), .val (.int (Int32.ofNat cn)), .val (.int (1 : Int32)), .val (.int (1 : Int32)), .val (.int (1 : Int32)), .unset, .unset, .unset] [(.int (16 : Int32)), (.ref b520), (.long mm), (.int (Int32.ofNat cn)), (.int (Int32.ofNat ys.length)), (.ref sx)])) rfl (by rw [hml]; rfl) (lenOf pd_35 rfl) rfl (W := 0) (by show 2 * 0 + _ ≤ _; exact Nat.le_of_eq rfl) (hb hby at_763) (by decide) (by decide) (by decide) (by decide)
        have N648 := Fr.app N647 N648q
        refine own_by st648 ?_
        refine own_by (fun _ k => XS.ifNo X648.here hx rfl (hb hby at_766) rfl ((if0 _ _).trans (feq (by decide : ¬ ((1 : Int32) = (0 : Int32)))).1) k) ?_
        show own_Go p e below _ T648 (mkF m 769 #[.val (.int p1), .val (.int p2), .val (.int p3), .val (.int p4), .val (.long lv), .second, .val (.int (Int32.ofNat nv)), .val (.int (Int32.ofNat nf)), .val (.int (Int32.ofNat na)), .val (.int (Int32.ofNat nd)), .val (.ref b520), .val (.ref b599), .val (.ref sx), .val (.int ng), .val (.long mm), .second, .val (.int (Int32.ofNat ys.length)), .val (.int (Int32.ofNat cn)), .val (.int (1 : Int32)), .val (.int (1 : Int32)), .val (.int (1 : Int32)), .unset, .unset, .unset] [])
        refine own_by (fun _ k => XS.aload X648.here hx rfl (hb hby at_769) rfl rfl k) ?_
        refine own_by (fun _ k => XS.iload X648.here hx rfl (hb hby at_771) rfl k) ?_
        refine own_by (fun _ k => XS.iload X648.here hx rfl (hb hby at_773) rfl k) ?_
        refine own_by (fun _ k => XS.lload X648.here hx rfl (hb hby at_775) rfl k) ?_
        refine own_by (fun _ k => XS.aload X648.here hx rfl (hb hby at_777) rfl rfl k) ?_
        refine own_by (fun _ k => XS.bipush X648.here hx rfl (hb hby at_779) k) ?_
        obtain ⟨_, T649, L649, X649, ⟨rfl, N649q, e649⟩, st649⟩ := own_callS X648 hx hZ hown (y := (⟨"com/example/regretta/regretta/GroupProblemGeneratorDescriptionPinLaw", "dg", "(Ljava/lang/String;IIJ[JI)Z"⟩ : MethodName)) (hw _ (List.mem_of_getElem? (i := 269) rfl)) (hw _ (List.mem_of_getElem? (i := 270) rfl)) (hw _ (List.mem_of_getElem? (i := 241) rfl)) (hw _ (List.mem_of_getElem? (i := 271) rfl)) (by decide) (argsL := [(.ref sx), (.int (Int32.ofNat ys.length)), (.int (Int32.ofNat cn)), (.long mm), (.ref b520), (.int (17 : Int32))]) (rest := []) e648 (rm46 l Z a0 hw [] sx tx kx ys lv mm cn 17 b520 k520 w1 d1 d2 kd1 kd2 fm T611.heap n0 Z611 hz hk616 TB f612 f613 f614 f615 f617 hn hy hC (by omega) hm hdg0 (by decide)) (g := (mkF m 781 #[.val (.int p1), .val (.int p2), .val (.int p3), .val (.int p4), .val (.long lv), .second, .val (.int (Int32.ofNat nv)), .val (.int (Int32.ofNat nf)), .val (.int (Int32.ofNat na)), .val (.int (Int32.ofNat nd)), .val (.ref b520), .val (.ref b599), .val (.ref sx), .val (.int ng), .val (.long mm), .second, .val (.int (Int32.ofNat ys.length)), .val (.int (Int32.ofNat cn)), .val (.int (1 : Int32)), .val (.int (1 : Int32)), .val (.int (1 : Int32)), .unset, .unset, .unset] [(.int (17 : Int32)), (.ref b520), (.long mm), (.int (Int32.ofNat cn)), (.int (Int32.ofNat ys.length)), (.ref sx)])) rfl (by rw [hml]; rfl) (lenOf pd_35 rfl) rfl (W := 0) (by show 2 * 0 + _ ≤ _; exact Nat.le_of_eq rfl) (hb hby at_781) (by decide) (by decide) (by decide) (by decide)
        have N649 := Fr.app N648 N649q
        refine own_by st649 ?_
        refine own_by (fun _ k => XS.ifNo X649.here hx rfl (hb hby at_784) rfl ((if0 _ _).trans (feq (by decide : ¬ ((1 : Int32) = (0 : Int32)))).1) k) ?_
        refine own_by (fun _ k => XS.aload X649.here hx rfl (hb hby at_787) rfl rfl k) ?_
        show own_Go p e below _ T649 (mkF m 789 #[.val (.int p1), .val (.int p2), .val (.int p3), .val (.int p4), .val (.long lv), .second, .val (.int (Int32.ofNat nv)), .val (.int (Int32.ofNat nf)), .val (.int (Int32.ofNat na)), .val (.int (Int32.ofNat nd)), .val (.ref b520), .val (.ref b599), .val (.ref sx), .val (.int ng), .val (.long mm), .second, .val (.int (Int32.ofNat ys.length)), .val (.int (Int32.ofNat cn)), .val (.int (1 : Int32)), .val (.int (1 : Int32)), .val (.int (1 : Int32)), .unset, .unset, .unset] [(.ref sx)])
        refine own_by (fun _ k => XS.iload X649.here hx rfl (hb hby at_789) rfl k) ?_
        refine own_by (fun _ k => XS.iload X649.here hx rfl (hb hby at_791) rfl k) ?_
        refine own_by (fun _ k => XS.lload X649.here hx rfl (hb hby at_793) rfl k) ?_
        refine own_by (fun _ k => XS.aload X649.here hx rfl (hb hby at_795) rfl rfl k) ?_
        refine own_by (fun _ k => XS.bipush X649.here hx rfl (hb hby at_797) k) ?_
        obtain ⟨_, T650, L650, X650, ⟨rfl, N650q, e650⟩, st650⟩ := own_callS X649 hx hZ hown (y := (⟨"com/example/regretta/regretta/GroupProblemGeneratorDescriptionPinLaw", "dg", "(Ljava/lang/String;IIJ[JI)Z"⟩ : MethodName)) (hw _ (List.mem_of_getElem? (i := 269) rfl)) (hw _ (List.mem_of_getElem? (i := 270) rfl)) (hw _ (List.mem_of_getElem? (i := 241) rfl)) (hw _ (List.mem_of_getElem? (i := 271) rfl)) (by decide) (argsL := [(.ref sx), (.int (Int32.ofNat ys.length)), (.int (Int32.ofNat cn)), (.long mm), (.ref b520), (.int (18 : Int32))]) (rest := []) e649 (rm46 l Z a0 hw [] sx tx kx ys lv mm cn 18 b520 k520 w1 d1 d2 kd1 kd2 fm T611.heap n0 Z611 hz hk616 TB f612 f613 f614 f615 f617 hn hy hC (by omega) hm hdg0 (by decide)) (g := (mkF m 799 #[.val (.int p1), .val (.int p2), .val (.int p3), .val (.int p4), .val (.long lv), .second, .val (.int (Int32.ofNat nv)), .val (.int (Int32.ofNat nf)), .val (.int (Int32.ofNat na)), .val (.int (Int32.ofNat nd)), .val (.ref b520), .val (.ref b599), .val (.ref sx), .val (.int ng), .val (.long mm), .second, .val (.int (Int32.ofNat ys.length)), .val (.int (Int32.ofNat cn)), .val (.int (1 : Int32)), .val (.int (1 : Int32)), .val (.int (1 : Int32)), .unset, .unset, .unset] [(.int (18 : Int32)), (.ref b520), (.long mm), (.int (Int32.ofNat cn)), (.int (Int32.ofNat ys.length)), (.ref sx)])) rfl (by rw [hml]; rfl) (lenOf pd_35 rfl) rfl (W := 0) (by show 2 * 0 + _ ≤ _; exact Nat.le_of_eq rfl) (hb hby at_799) (by decide) (by decide) (by decide) (by decide)
        have N650 := Fr.app N649 N650q
        refine own_by st650 ?_
        refine own_by (fun _ k => XS.ifNo X650.here hx rfl (hb hby at_802) rfl ((if0 _ _).trans (feq (by decide : ¬ ((1 : Int32) = (0 : Int32)))).1) k) ?_
        refine own_by (fun _ k => XS.iconst X650.here hx rfl (hb hby at_805) k) ?_
        refine own_by (fun _ k => XS.goto X650.here hx rfl (pc0 := 806) (pc' := 810) rfl (hb hby at_806) (by decide) (by decide) k) ?_
        show own_Go p e below _ T650 (mkF m 810 #[.val (.int p1), .val (.int p2), .val (.int p3), .val (.int p4), .val (.long lv), .second, .val (.int (Int32.ofNat nv)), .val (.int (Int32.ofNat nf)), .val (.int (Int32.ofNat na)), .val (.int (Int32.ofNat nd)), .val (.ref b520), .val (.ref b599), .val (.ref sx), .val (.int ng), .val (.long mm), .second, .val (.int (Int32.ofNat ys.length)), .val (.int (Int32.ofNat cn)), .val (.int (1 : Int32)), .val (.int (1 : Int32)), .val (.int (1 : Int32)), .unset, .unset, .unset] [(.int (1 : Int32))])
        refine own_by (fun _ k => XS.istore X650.here hx rfl (hb hby at_810) rfl (l' := #[.val (.int p1), .val (.int p2), .val (.int p3), .val (.int p4), .val (.long lv), .second, .val (.int (Int32.ofNat nv)), .val (.int (Int32.ofNat nf)), .val (.int (Int32.ofNat na)), .val (.int (Int32.ofNat nd)), .val (.ref b520), .val (.ref b599), .val (.ref sx), .val (.int ng), .val (.long mm), .second, .val (.int (Int32.ofNat ys.length)), .val (.int (Int32.ofNat cn)), .val (.int (1 : Int32)), .val (.int (1 : Int32)), .val (.int (1 : Int32)), .val (.int (1 : Int32)), .unset, .unset]) rfl k) ?_
        refine own_by (fun _ k => XS.iload X650.here hx rfl (hb hby at_812) rfl k) ?_
        refine own_by (fun _ k => XS.bipush X650.here hx rfl (hb hby at_814) k) ?_
        have J837 :  own_Go p e below (own_EndW s room_1.cells room_1.slots (Q_rm0 Z p1 p2 p3 p4 lv w1 d1 d2 kd1 kd2 fm h0 n0)) T650 (mkF m 837 #[.val (.int p1), .val (.int p2), .val (.int p3), .val (.int p4), .val (.long lv), .second, .val (.int (Int32.ofNat nv)), .val (.int (Int32.ofNat nf)), .val (.int (Int32.ofNat na)), .val (.int (Int32.ofNat nd)), .val (.ref b520), .val (.ref b599), .val (.ref sx), .val (.int ng), .val (.long mm), .second, .val (.int (Int32.ofNat ys.length)), .val (.int (Int32.ofNat cn)), .val (.int (1 : Int32)), .val (.int (1 : Int32)), .val (.int (1 : Int32)), .val (.int (1 : Int32)), .unset, .unset] [(.int (1 : Int32))]) := by
          refine own_by (fun _ k => XS.istore X650.here hx rfl (hb hby at_837) rfl (l' := #[.val (.int p1), .val (.int p2), .val (.int p3), .val (.int p4), .val (.long lv), .second, .val (.int (Int32.ofNat nv)), .val (.int (Int32.ofNat nf)), .val (.int (Int32.ofNat na)), .val (.int (Int32.ofNat nd)), .val (.ref b520), .val (.ref b599), .val (.ref sx), .val (.int ng), .val (.long mm), .second, .val (.int (Int32.ofNat ys.length)), .val (.int (Int32.ofNat cn)), .val (.int (1 : Int32)), .val (.int (1 : Int32)), .val (.int (1 : Int32)), .val (.int (1 : Int32)), .val (.int (1 : Int32)), .unset]) rfl k) ?_
          refine own_by (fun _ k => XS.iload X650.here hx rfl (hb hby at_839) rfl k) ?_
          refine own_by (fun _ k => XS.iconst X650.here hx rfl (hb hby at_841) k) ?_
          have J865 :  own_Go p e below (own_EndW s room_1.cells room_1.slots (Q_rm0 Z p1 p2 p3 p4 lv w1 d1 d2 kd1 kd2 fm h0 n0)) T650 (mkF m 865 #[.val (.int p1), .val (.int p2), .val (.int p3), .val (.int p4), .val (.long lv), .second, .val (.int (Int32.ofNat nv)), .val (.int (Int32.ofNat nf)), .val (.int (Int32.ofNat na)), .val (.int (Int32.ofNat nd)), .val (.ref b520), .val (.ref b599), .val (.ref sx), .val (.int ng), .val (.long mm), .second, .val (.int (Int32.ofNat ys.length)), .val (.int (Int32.ofNat cn)), .val (.int (1 : Int32)), .val (.int (1 : Int32)), .val (.int (1 : Int32)), .val (.int (1 : Int32)), .val (.int (1 : Int32)), .unset] [(.int (1 : Int32))]) := by
            refine own_by (fun _ k => XS.istore X650.here hx rfl (hb hby at_865) rfl (l' := #[.val (.int p1), .val (.int p2), .val (.int p3), .val (.int p4), .val (.long lv), .second, .val (.int (Int32.ofNat nv)), .val (.int (Int32.ofNat nf)), .val (.int (Int32.ofNat na)), .val (.int (Int32.ofNat nd)), .val (.ref b520), .val (.ref b599), .val (.ref sx), .val (.int ng), .val (.long mm), .second, .val (.int (Int32.ofNat ys.length)), .val (.int (Int32.ofNat cn)), .val (.int (1 : Int32)), .val (.int (1 : Int32)), .val (.int (1 : Int32)), .val (.int (1 : Int32)), .val (.int (1 : Int32)), .val (.int (1 : Int32))]) rfl k) ?_
            show own_Go p e below _ T650 (mkF m 867 #[.val (.int p1), .val (.int p2), .val (.int p3), .val (.int p4), .val (.long lv), .second, .val (.int (Int32.ofNat nv)), .val (.int (Int32.ofNat nf)), .val (.int (Int32.ofNat na)), .val (.int (Int32.ofNat nd)), .val (.ref b520), .val (.ref b599), .val (.ref sx), .val (.int ng), .val (.long mm), .second, .val (.int (Int32.ofNat ys.length)), .val (.int (Int32.ofNat cn)), .val (.int (1 : Int32)), .val (.int (1 : Int32)), .val (.int (1 : Int32)), .val (.int (1 : Int32)), .val (.int (1 : Int32)), .val (.int (1 : Int32))] [])
            refine own_by (fun _ k => XS.iload X650.here hx rfl (hb hby at_867) rfl k) ?_
            refine own_by (fun _ k => XS.ifNo X650.here hx rfl (hb hby at_869) rfl ((if0 _ _).trans (feq (by decide : ¬ ((1 : Int32) = (0 : Int32)))).1) k) ?_
            refine own_by (fun _ k => XS.iload X650.here hx rfl (hb hby at_872) rfl k) ?_
            refine own_by (fun _ k => XS.ifNo X650.here hx rfl (hb hby at_874) rfl ((if0 _ _).trans (feq (by decide : ¬ ((1 : Int32) = (0 : Int32)))).1) k) ?_
            refine own_by (fun _ k => XS.iload X650.here hx rfl (hb hby at_877) rfl k) ?_
            refine own_by (fun _ k => XS.ifNo X650.here hx rfl (hb hby at_879) rfl ((if0 _ _).trans (feq (by decide : ¬ ((1 : Int32) = (0 : Int32)))).1) k) ?_
            refine own_by (fun _ k => XS.iload X650.here hx rfl (hb hby at_882) rfl k) ?_
            refine own_by (fun _ k => XS.ifNo X650.here hx rfl (hb hby at_884) rfl ((if0 _ _).trans (feq (by decide : ¬ ((1 : Int32) = (0 : Int32)))).1) k) ?_
            refine own_by (fun _ k => XS.iload X650.here hx rfl (hb hby at_887) rfl k) ?_
            show own_Go p e below _ T650 (mkF m 889 #[.val (.int p1), .val (.int p2), .val (.int p3), .val (.int p4), .val (.long lv), .second, .val (.int (Int32.ofNat nv)), .val (.int (Int32.ofNat nf)), .val (.int (Int32.ofNat na)), .val (.int (Int32.ofNat nd)), .val (.ref b520), .val (.ref b599), .val (.ref sx), .val (.int ng), .val (.long mm), .second, .val (.int (Int32.ofNat ys.length)), .val (.int (Int32.ofNat cn)), .val (.int (1 : Int32)), .val (.int (1 : Int32)), .val (.int (1 : Int32)), .val (.int (1 : Int32)), .val (.int (1 : Int32)), .val (.int (1 : Int32))] [(.int (1 : Int32))])
            refine own_by (fun _ k => XS.ifNo X650.here hx rfl (hb hby at_889) rfl ((if0 _ _).trans (feq (by decide : ¬ ((1 : Int32) = (0 : Int32)))).1) k) ?_
            refine own_by (fun _ k => XS.iload X650.here hx rfl (hb hby at_892) rfl k) ?_
            refine own_by (fun _ k => XS.ifNo X650.here hx rfl (hb hby at_894) rfl ((if0 _ _).trans (feq (by decide : ¬ ((1 : Int32) = (0 : Int32)))).1) k) ?_
            refine own_by (fun _ k => XS.iconst X650.here hx rfl (hb hby at_897) k) ?_
            refine own_by (fun _ k => XS.goto X650.here hx rfl (pc0 := 898) (pc' := 902) rfl (hb hby at_898) (by decide) (by decide) k) ?_
            exact own_retNW X650 hx hlk S626 kz626 e650 hret (by simp) rfl (hb hby at_902) (by first | exact ⟨rfl, N650⟩ | (rw [e650]; exact ⟨rfl, N650⟩)) (by decide) (by decide)
          by_cases hc2 : cn = 1
          · refine own_by (fun _ k => XS.icmpYes X650.here hx rfl (pc0 := 842) (pc' := 860) rfl (hb hby at_842) rfl (teq ((own_eqn (b := 1) (by omega) (by omega)).mpr hc2 : (Int32.ofNat cn) = (1 : Int32))).1 (by decide) (by decide) k) ?_
            refine own_by (fun _ k => XS.iconst X650.here hx rfl (hb hby at_860) k) ?_
            show own_Go p e below _ T650 (mkF m 861 #[.val (.int p1), .val (.int p2), .val (.int p3), .val (.int p4), .val (.long lv), .second, .val (.int (Int32.ofNat nv)), .val (.int (Int32.ofNat nf)), .val (.int (Int32.ofNat na)), .val (.int (Int32.ofNat nd)), .val (.ref b520), .val (.ref b599), .val (.ref sx), .val (.int ng), .val (.long mm), .second, .val (.int (Int32.ofNat ys.length)), .val (.int (Int32.ofNat cn)), .val (.int (1 : Int32)), .val (.int (1 : Int32)), .val (.int (1 : Int32)), .val (.int (1 : Int32)), .val (.int (1 : Int32)), .unset] [(.int (1 : Int32))])
            refine own_by (fun _ k => XS.goto X650.here hx rfl (pc0 := 861) (pc' := 865) rfl (hb hby at_861) (by decide) (by decide) k) ?_
            exact J865
          · refine own_by (fun _ k => XS.icmpNo X650.here hx rfl (hb hby at_842) rfl (feq (fun q => hc2 ((own_eqn (b := 1) (by omega) (by omega)).mp q) : ¬ ((Int32.ofNat cn) = (1 : Int32)))).1 k) ?_
            refine own_by (fun _ k => XS.lload X650.here hx rfl (hb hby at_845) rfl k) ?_
            show own_Go p e below _ T650 (mkF m 847 #[.val (.int p1), .val (.int p2), .val (.int p3), .val (.int p4), .val (.long lv), .second, .val (.int (Int32.ofNat nv)), .val (.int (Int32.ofNat nf)), .val (.int (Int32.ofNat na)), .val (.int (Int32.ofNat nd)), .val (.ref b520), .val (.ref b599), .val (.ref sx), .val (.int ng), .val (.long mm), .second, .val (.int (Int32.ofNat ys.length)), .val (.int (Int32.ofNat cn)), .val (.int (1 : Int32)), .val (.int (1 : Int32)), .val (.int (1 : Int32)), .val (.int (1 : Int32)), .val (.int (1 : Int32)), .unset] [(.long mm)])
            refine own_by (fun _ k => XS.aload X650.here hx rfl (hb hby at_847) rfl rfl k) ?_
            refine own_by (fun _ k => XS.iload X650.here hx rfl (hb hby at_849) rfl k) ?_
            refine own_by (fun _ k => XS.iconst X650.here hx rfl (hb hby at_851) k) ?_
            refine own_by (fun _ k => XS.isub X650.here hx rfl (hb hby at_852) rfl k) ?_
            show own_Go p e below _ T650 (mkF m 853 #[.val (.int p1), .val (.int p2), .val (.int p3), .val (.int p4), .val (.long lv), .second, .val (.int (Int32.ofNat nv)), .val (.int (Int32.ofNat nf)), .val (.int (Int32.ofNat na)), .val (.int (Int32.ofNat nd)), .val (.ref b520), .val (.ref b599), .val (.ref sx), .val (.int ng), .val (.long mm), .second, .val (.int (Int32.ofNat ys.length)), .val (.int (Int32.ofNat cn)), .val (.int (1 : Int32)), .val (.int (1 : Int32)), .val (.int (1 : Int32)), .val (.int (1 : Int32)), .val (.int (1 : Int32)), .unset] [(.int ((Int32.ofNat cn) - (1 : Int32))), (.ref b520), (.long mm)])
            rw [show ((Int32.ofNat cn) - (1 : Int32)) = (Int32.ofNat (cn - 1)) from own_sub (b := 1) (by omega) (by omega)]
            obtain ⟨cl651, Ar651, cq651, hin651, hat651, set651⟩ := own_arv f617 (j := (Int32.ofNat (cn - 1))) (own_inb (by decide) (show cn - 1 < own_ps.length by show cn - 1 < 19; omega))
            refine own_by (fun _ k => X650.laload hx (j := (Int32.ofNat (cn - 1))) (v := (.long (own_ps.getD (cn - 1) 0))) (by rw [e650]; exact Ar651.1) (State.isArrayOf_alike hZ.alike Ar651.2.1) Ar651.2.2 hin651 (by rw [hat651]; exact congrArg some (own_gdL own_ps (by omega))) (g := (mkF m 853 #[.val (.int p1), .val (.int p2), .val (.int p3), .val (.int p4), .val (.long lv), .second, .val (.int (Int32.ofNat nv)), .val (.int (Int32.ofNat nf)), .val (.int (Int32.ofNat na)), .val (.int (Int32.ofNat nd)), .val (.ref b520), .val (.ref b599), .val (.ref sx), .val (.int ng), .val (.long mm), .second, .val (.int (Int32.ofNat ys.length)), .val (.int (Int32.ofNat cn)), .val (.int (1 : Int32)), .val (.int (1 : Int32)), .val (.int (1 : Int32)), .val (.int (1 : Int32)), .val (.int (1 : Int32)), .unset] [(.int (Int32.ofNat (cn - 1))), (.ref b520), (.long mm)])) rfl rfl (hb hby at_853) _ k) ?_
            refine own_by (fun _ k => XS.ldiv X650.here hx rfl (hb hby at_854) rfl (own_psg (by omega)).2.1 k) ?_
            refine own_by (fun _ k => XS.lconst X650.here hx rfl (hb hby at_855) k) ?_
            refine own_by (fun _ k => XS.lcmp X650.here hx rfl (hb hby at_856) rfl k) ?_
            refine own_by (fun _ k => XS.ifNo X650.here hx rfl (hb hby at_857) rfl ((if0 _ _).trans (feq (fun q => own_nz hm hC hc2 ((lw_eq _ _).mp q) : ¬ ((lcmpW (mm / (own_ps.getD (cn - 1) 0)) (0 : Int64)) = (0 : Int32)))).1) k) ?_
            refine own_by (fun _ k => XS.iconst X650.here hx rfl (hb hby at_860) k) ?_
            refine own_by (fun _ k => XS.goto X650.here hx rfl (pc0 := 861) (pc' := 865) rfl (hb hby at_861) (by decide) (by decide) k) ?_
            exact J865
        by_cases hc9' : cn = 19
        · refine own_by (fun _ k => XS.icmpYes X650.here hx rfl (pc0 := 816) (pc' := 832) rfl (hb hby at_816) rfl (teq ((own_eqn (b := 19) (by omega) (by omega)).mpr hc9' : (Int32.ofNat cn) = (19 : Int32))).1 (by decide) (by decide) k) ?_
          refine own_by (fun _ k => XS.iconst X650.here hx rfl (hb hby at_832) k) ?_
          refine own_by (fun _ k => XS.goto X650.here hx rfl (pc0 := 833) (pc' := 837) rfl (hb hby at_833) (by decide) (by decide) k) ?_
          exact J837
        · refine own_by (fun _ k => XS.icmpNo X650.here hx rfl (hb hby at_816) rfl (feq (fun q => hc9' ((own_eqn (b := 19) (by omega) (by omega)).mp q) : ¬ ((Int32.ofNat cn) = (19 : Int32)))).1 k) ?_
          refine own_by (fun _ k => XS.lload X650.here hx rfl (hb hby at_819) rfl k) ?_
          refine own_by (fun _ k => XS.aload X650.here hx rfl (hb hby at_821) rfl rfl k) ?_
          refine own_by (fun _ k => XS.iload X650.here hx rfl (hb hby at_823) rfl k) ?_
          obtain ⟨cl652, Ar652, cq652, hin652, hat652, set652⟩ := own_arv f617 (j := (Int32.ofNat cn)) (own_inb (by decide) (show cn < own_ps.length by show cn < 19; omega))
          refine own_by (fun _ k => X650.laload hx (j := (Int32.ofNat cn)) (v := (.long (own_ps.getD cn 0))) (by rw [e650]; exact Ar652.1) (State.isArrayOf_alike hZ.alike Ar652.2.1) Ar652.2.2 hin652 (by rw [hat652]; exact congrArg some (own_gdL own_ps (by omega))) (g := (mkF m 825 #[.val (.int p1), .val (.int p2), .val (.int p3), .val (.int p4), .val (.long lv), .second, .val (.int (Int32.ofNat nv)), .val (.int (Int32.ofNat nf)), .val (.int (Int32.ofNat na)), .val (.int (Int32.ofNat nd)), .val (.ref b520), .val (.ref b599), .val (.ref sx), .val (.int ng), .val (.long mm), .second, .val (.int (Int32.ofNat ys.length)), .val (.int (Int32.ofNat cn)), .val (.int (1 : Int32)), .val (.int (1 : Int32)), .val (.int (1 : Int32)), .val (.int (1 : Int32)), .unset, .unset] [(.int (Int32.ofNat cn)), (.ref b520), (.long mm)])) rfl rfl (hb hby at_825) _ k) ?_
          refine own_by (fun _ k => XS.ldiv X650.here hx rfl (hb hby at_826) rfl (own_psg (by omega)).2.1 k) ?_
          show own_Go p e below _ T650 (mkF m 827 #[.val (.int p1), .val (.int p2), .val (.int p3), .val (.int p4), .val (.long lv), .second, .val (.int (Int32.ofNat nv)), .val (.int (Int32.ofNat nf)), .val (.int (Int32.ofNat na)), .val (.int (Int32.ofNat nd)), .val (.ref b520), .val (.ref b599), .val (.ref sx), .val (.int ng), .val (.long mm), .second, .val (.int (Int32.ofNat ys.length)), .val (.int (Int32.ofNat cn)), .val (.int (1 : Int32)), .val (.int (1 : Int32)), .val (.int (1 : Int32)), .val (.int (1 : Int32)), .unset, .unset] [(.long (mm / (own_ps.getD cn 0)))])
          refine own_by (fun _ k => XS.lconst X650.here hx rfl (hb hby at_827) k) ?_
          refine own_by (fun _ k => XS.lcmp X650.here hx rfl (hb hby at_828) rfl k) ?_
          refine own_by (fun _ k => XS.ifNo X650.here hx rfl (hb hby at_829) rfl ((if0 _ _).trans (teq ((lw_eq _ _).mpr (own_nm hm hC (by omega)) : (lcmpW (mm / (own_ps.getD cn 0)) (0 : Int64)) = (0 : Int32))).2) k) ?_
          refine own_by (fun _ k => XS.iconst X650.here hx rfl (hb hby at_832) k) ?_
          refine own_by (fun _ k => XS.goto X650.here hx rfl (pc0 := 833) (pc' := 837) rfl (hb hby at_833) (by decide) (by decide) k) ?_
          exact J837
      rcases hng with ⟨rfl, hn'⟩ | ⟨rfl, hn'⟩
      · show own_Go p e below _ T630 (mkF m 447 #[.val (.int p1), .val (.int p2), .val (.int p3), .val (.int p4), .val (.long lv), .second, .val (.int (Int32.ofNat nv)), .val (.int (Int32.ofNat nf)), .val (.int (Int32.ofNat na)), .val (.int (Int32.ofNat nd)), .val (.ref b520), .val (.ref b599), .val (.ref sx), .val (.int (1 : Int32)), .val (.long mm), .second, .val (.int (Int32.ofNat ys.length)), .val (.int (Int32.ofNat cn)), .val (.int (1 : Int32)), .val (.int (1 : Int32)), .unset, .unset, .unset, .unset] [(.int (1 : Int32))])
        refine own_by (fun _ k => XS.ifNo X630.here hx rfl (hb hby at_447) rfl ((if0 _ _).trans (feq (by decide : ¬ ((1 : Int32) = (0 : Int32)))).1) k) ?_
        refine own_by (fun _ k => XS.aload X630.here hx rfl (hb hby at_450) rfl rfl k) ?_
        refine own_by (fun _ k => XS.bipush X630.here hx rfl (hb hby at_452) k) ?_
        obtain ⟨_, T653, L653, X653, ⟨rfl, N653q, e653⟩, st653⟩ := own_callV X630 hx hZ hown (y := (⟨"java/lang/String", "charAt", "(I)C"⟩ : MethodName)) (C := "java/lang/String") (hw _ (List.mem_of_getElem? (i := 247) rfl)) (hw _ (List.mem_of_getElem? (i := 248) rfl)) (hw _ (List.mem_of_getElem? (i := 250) rfl)) (hw _ (List.mem_of_getElem? (i := 249) rfl)) (hw _ (List.mem_of_getElem? (i := 30) rfl)) (hw _ (List.mem_of_getElem? (i := 251) rfl)) (by decide) (a := sx) f612 (argsL := [(.int (79 : Int32))]) (rest := []) e630 (rm41 l Z a0 hw [] sx tx kx ys 79 w1 d1 d2 kd1 kd2 fm T611.heap n0 Z611 hz hk616 TB f612 f613 f614 f615 (by rw [hlen, own_sg, if_pos hn']; omega) hn hy) (g := (mkF m 454 #[.val (.int p1), .val (.int p2), .val (.int p3), .val (.int p4), .val (.long lv), .second, .val (.int (Int32.ofNat nv)), .val (.int (Int32.ofNat nf)), .val (.int (Int32.ofNat na)), .val (.int (Int32.ofNat nd)), .val (.ref b520), .val (.ref b599), .val (.ref sx), .val (.int (1 : Int32)), .val (.long mm), .second, .val (.int (Int32.ofNat ys.length)), .val (.int (Int32.ofNat cn)), .val (.int (1 : Int32)), .val (.int (1 : Int32)), .unset, .unset, .unset, .unset] [(.int (79 : Int32)), (.ref sx)])) rfl (by rw [hml]; rfl) (lenOf pd_31 rfl) rfl (W := 0) (by show 2 * 0 + _ ≤ _; exact Nat.le_of_eq rfl) (hb hby at_454) (by decide) (by decide) (by decide) (by decide)
        have N653 := Fr.app N630 N653q
        refine own_by st653 ?_
        refine own_by (fun _ k => XS.bipush X653.here hx rfl (hb hby at_457) k) ?_
        refine own_by (fun _ k => XS.icmpNo X653.here hx rfl (hb hby at_459) rfl (teq (hg79 hn' : (ys.getD 79 0) = (45 : Int32))).2 k) ?_
        refine own_by (fun _ k => XS.iconst X653.here hx rfl (hb hby at_462) k) ?_
        refine own_by (fun _ k => XS.goto X653.here hx rfl (pc0 := 463) (pc' := 467) rfl (hb hby at_463) (by decide) (by decide) k) ?_
        exact J467 T653 _ X653 e653 N653
      · show own_Go p e below _ T630 (mkF m 447 #[.val (.int p1), .val (.int p2), .val (.int p3), .val (.int p4), .val (.long lv), .second, .val (.int (Int32.ofNat nv)), .val (.int (Int32.ofNat nf)), .val (.int (Int32.ofNat na)), .val (.int (Int32.ofNat nd)), .val (.ref b520), .val (.ref b599), .val (.ref sx), .val (.int (0 : Int32)), .val (.long mm), .second, .val (.int (Int32.ofNat ys.length)), .val (.int (Int32.ofNat cn)), .val (.int (1 : Int32)), .val (.int (1 : Int32)), .unset, .unset, .unset, .unset] [(.int (0 : Int32))])
        refine own_by (fun _ k => XS.ifYes X630.here hx rfl (pc0 := 447) (pc' := 462) rfl (hb hby at_447) rfl ((if0 _ _).trans (teq (rfl : (0 : Int32) = (0 : Int32))).1) (by decide) (by decide) k) ?_
        refine own_by (fun _ k => XS.iconst X630.here hx rfl (hb hby at_462) k) ?_
        refine own_by (fun _ k => XS.goto X630.here hx rfl (pc0 := 463) (pc' := 467) rfl (hb hby at_463) (by decide) (by decide) k) ?_
        exact J467 T630 _ X630 e630 N630
    rcases hng with ⟨hng1, hn'⟩ | ⟨hng1, hn'⟩
    · refine own_by (fun _ k => XS.ifNo X609.here hx rfl (hb hby at_242) rfl ((if0 _ _).trans (feq (by rw [hng1]; decide : ¬ (ng = (0 : Int32)))).1) k) ?_
      refine own_by (fun _ k => XS.iconst X609.here hx rfl (hb hby at_245) k) ?_
      refine own_by (fun _ k => XS.goto X609.here hx rfl (pc0 := 246) (pc' := 250) rfl (hb hby at_246) (by decide) (by decide) k) ?_
      exact J250 _ (by rw [own_sg, if_pos hn']; rfl)
    · refine own_by (fun _ k => XS.ifYes X609.here hx rfl (pc0 := 242) (pc' := 249) rfl (hb hby at_242) rfl ((if0 _ _).trans (teq (hng1 : ng = (0 : Int32))).1) (by decide) (by decide) k) ?_
      refine own_by (fun _ k => XS.iconst X609.here hx rfl (hb hby at_249) k) ?_
      exact J250 _ (by rw [own_sg, if_neg hn']; rfl)
  by_cases hn' : lv < 0
  · refine own_by (fun _ k => XS.ifNo X607.here hx rfl (hb hby at_203) rfl ((if0 _ _).trans (tlt ((lw_lt _ _).mpr hn' : (lcmpW lv (0 : Int64)) < (0 : Int32))).2.1) k) ?_
    refine own_by (fun _ k => XS.iconst X607.here hx rfl (hb hby at_206) k) ?_
    refine own_by (fun _ k => XS.goto X607.here hx rfl (pc0 := 207) (pc' := 211) rfl (hb hby at_207) (by decide) (by decide) k) ?_
    show own_Go p e below _ T607 (mkF m 211 #[.val (.int p1), .val (.int p2), .val (.int p3), .val (.int p4), .val (.long lv), .second, .val (.int (Int32.ofNat nv)), .val (.int (Int32.ofNat nf)), .val (.int (Int32.ofNat na)), .val (.int (Int32.ofNat nd)), .val (.ref b520), .val (.ref b599), .val (.ref sx), .unset, .unset, .unset, .unset, .unset, .unset, .unset, .unset, .unset, .unset, .unset] [(.int (1 : Int32))])
    refine own_by (fun _ k => XS.istore X607.here hx rfl (hb hby at_211) rfl (l' := #[.val (.int p1), .val (.int p2), .val (.int p3), .val (.int p4), .val (.long lv), .second, .val (.int (Int32.ofNat nv)), .val (.int (Int32.ofNat nf)), .val (.int (Int32.ofNat na)), .val (.int (Int32.ofNat nd)), .val (.ref b520), .val (.ref b599), .val (.ref sx), .val (.int (1 : Int32)), .unset, .unset, .unset, .unset, .unset, .unset, .unset, .unset, .unset, .unset]) rfl k) ?_
    refine own_by (fun _ k => XS.iload X607.here hx rfl (hb hby at_213) rfl k) ?_
    refine own_by (fun _ k => XS.ifNo X607.here hx rfl (hb hby at_215) rfl ((if0 _ _).trans (feq (by decide : ¬ ((1 : Int32) = (0 : Int32)))).1) k) ?_
    refine own_by (fun _ k => XS.lload X607.here hx rfl (hb hby at_218) rfl k) ?_
    refine own_by (fun _ k => XS.goto X607.here hx rfl (pc0 := 220) (pc' := 226) rfl (hb hby at_220) (by decide) (by decide) k) ?_
    exact J226 _ (Or.inl ⟨rfl, hn'⟩) _ (own_mneg hn')
  · refine own_by (fun _ k => XS.ifYes X607.here hx rfl (pc0 := 203) (pc' := 210) rfl (hb hby at_203) rfl ((if0 _ _).trans (flt (fun z => hn' ((lw_lt _ _).mp z) : ¬ ((lcmpW lv (0 : Int64)) < (0 : Int32)))).2.1) (by decide) (by decide) k) ?_
    refine own_by (fun _ k => XS.iconst X607.here hx rfl (hb hby at_210) k) ?_
    refine own_by (fun _ k => XS.istore X607.here hx rfl (hb hby at_211) rfl (l' := #[.val (.int p1), .val (.int p2), .val (.int p3), .val (.int p4), .val (.long lv), .second, .val (.int (Int32.ofNat nv)), .val (.int (Int32.ofNat nf)), .val (.int (Int32.ofNat na)), .val (.int (Int32.ofNat nd)), .val (.ref b520), .val (.ref b599), .val (.ref sx), .val (.int (0 : Int32)), .unset, .unset, .unset, .unset, .unset, .unset, .unset, .unset, .unset, .unset]) rfl k) ?_
    show own_Go p e below _ T607 (mkF m 213 #[.val (.int p1), .val (.int p2), .val (.int p3), .val (.int p4), .val (.long lv), .second, .val (.int (Int32.ofNat nv)), .val (.int (Int32.ofNat nf)), .val (.int (Int32.ofNat na)), .val (.int (Int32.ofNat nd)), .val (.ref b520), .val (.ref b599), .val (.ref sx), .val (.int (0 : Int32)), .unset, .unset, .unset, .unset, .unset, .unset, .unset, .unset, .unset, .unset] [])
    refine own_by (fun _ k => XS.iload X607.here hx rfl (hb hby at_213) rfl k) ?_
    refine own_by (fun _ k => XS.ifYes X607.here hx rfl (pc0 := 215) (pc' := 223) rfl (hb hby at_215) rfl ((if0 _ _).trans (teq (rfl : (0 : Int32) = (0 : Int32))).1) (by decide) (by decide) k) ?_
    refine own_by (fun _ k => XS.lload X607.here hx rfl (hb hby at_223) rfl k) ?_
    refine own_by (fun _ k => XS.lneg X607.here hx rfl (hb hby at_225) rfl k) ?_
    exact J226 _ (Or.inr ⟨rfl, hn'⟩) _ (own_mpos hn')
set_option maxRecDepth 65536 in
set_option maxHeartbeats 40000000 in
theorem comes_1 {Post : Tables → Env → Array Value → State → Outcome → State → Prop} (hpost : ∀ tb e args s v u, (limb_1_1.after args s (.returned v) u = true ∧ limb_1_2.after args s (.returned v) u = true ∧ True) → ReturnedEndW s (.returned v) u (Jvm.fieldLocs frame_1_writes args s ++ Jvm.arrayLocs frame_1_arrays args s ++ Jvm.staticLocs frame_1_statics s) 48 11200 → Post tb e args s (.returned v) u) :
    ArmFor flags0 classFile x code maxLocals ret World_1 tables_1 room_1 Calls_1 rest_1 Pre_1 Post := by
  intro l hfl _ _ p e ha hc hk s m args below hf hA hF happ hP
  obtain ⟨hcalls, hrest, hpre⟩ := hP
  obtain ⟨-, -, -, hnamed, -, -, -, hat⟩ := (Spec.applies_iff hf).mp happ
  obtain ⟨hg, hn⟩ := and_e (Cond.before_iff.mp (show (Jvm.Cond.and given_1 narrow_1).before args s = true from hpre))
  obtain ⟨g1, g2⟩ := and_e hg
  obtain ⟨g3, g4⟩ := and_e g2
  obtain ⟨g5, g6⟩ := and_e g4
  obtain ⟨g7, g8⟩ := and_e g6
  obtain ⟨g9, g10⟩ := and_e g8
  obtain ⟨w0, w1, w2, w3, w4, rfl⟩ : ∃ w0 w1 w2 w3 w4 : Value, args = #[w0, w1, w2, w3, w4] := by
    have hs : args.size = 5 := by simpa [Cond.value, given_1] using g1
    obtain ⟨L⟩ := args
    match L, hs with
    | [w0, w1, w2, w3, w4], _ => exact ⟨w0, w1, w2, w3, w4, rfl⟩
  have hw := fun d (hd : d ∈ tables_1) => atoms_spec (ws := Jvm.Cond.code x code maxLocals ret :: tables_1) hat d (List.mem_cons_of_mem _ hd)
  have hfit : Fit s := fun {y c} hc i hi => by
    obtain ⟨ha, rfl⟩ := Array.getElem?_eq_some_iff.mp hc
    have q := List.all_eq_true.mp ((Array.all_eq_true_iff_forall_mem.mp hF) _ (Array.getElem_mem ha)) i (List.mem_range.mpr hi)
    simpa [Array.getElem?_eq_getElem hi] using q
  obtain ⟨hsets, hown0⟩ := atoms_of _ (rest_1_c_eq ▸ (show rest_1_c.before _ s = true from hrest))
  have hr0 := Cond.before_iff.mp hown0
  obtain ⟨i0, ei0⟩ := is_v g3
  obtain rfl : w0 = (.int i0) := Option.some.inj ei0
  obtain ⟨i1, ei1⟩ := is_v g5
  obtain rfl : w1 = (.int i1) := Option.some.inj ei1
  obtain ⟨i2, ei2⟩ := is_v g7
  obtain rfl : w2 = (.int i2) := Option.some.inj ei2
  obtain ⟨i3, ei3⟩ := is_v g9
  obtain rfl : w3 = (.int i3) := Option.some.inj ei3
  obtain ⟨i4, ei4⟩ := isL_v g10
  obtain rfl : w4 = (.long i4) := Option.some.inj ei4
  obtain ⟨w1, ev⟩ := is_v (Cond.before_iff.mp (hsets _ (List.mem_of_getElem? (i := 1) rfl)))
  have SC : Sta s s.heap "java/lang/String" "COMPACT_STRINGS" "Z" (.int w1) := Sta.start ev (Or.inl (hsets _ (List.mem_of_getElem? (i := 0) rfl)))
  have hcw := hsets _ (List.mem_of_getElem? (i := 2) rfl)
  have hw1 : ¬ w1 = 0 := fun q => gotF (u := _) (P := w1 = 0) (by rw [Cond.eq_ints ev (Term.int_eval 0)]) (not_v (Cond.before_iff.mp hcw)) q
  obtain ⟨d1, SD1, kd1, AD1⟩ := own_tab (f := "DigitOnes") (g := fun i => 48 + i % 10) (fun i hi => by show 48 + i % 10 < 128; omega) (fun j h1 h2 => own_T1 h1 h2) (hw _ (List.mem_of_getElem? (i := 32) rfl)) (hsets _ (List.mem_of_getElem? (i := 9) rfl)) (hsets _ (List.mem_of_getElem? (i := 10) rfl)) (hsets _ (List.mem_of_getElem? (i := 12) rfl)) (hsets _ (List.mem_of_getElem? (i := 13) rfl)) (hsets _ (List.mem_of_getElem? (i := 14) rfl))
  obtain ⟨d2, SD2, kd2, AD2⟩ := own_tab (f := "DigitTens") (g := fun i => 48 + i / 10) (fun i hi => by show 48 + i / 10 < 128; omega) (fun j h1 h2 => own_T2 h1 h2) (hw _ (List.mem_of_getElem? (i := 32) rfl)) (hsets _ (List.mem_of_getElem? (i := 9) rfl)) (hsets _ (List.mem_of_getElem? (i := 15) rfl)) (hsets _ (List.mem_of_getElem? (i := 17) rfl)) (hsets _ (List.mem_of_getElem? (i := 18) rfl)) (hsets _ (List.mem_of_getElem? (i := 19) rfl))
  obtain ⟨fm, hfm, SFm⟩ := own_fm (hsets _ (List.mem_of_getElem? (i := 7) rfl)) (hsets _ (List.mem_of_getElem? (i := 8) rfl))
  have TB : own_Tb s w1 d1 d2 kd1 kd2 fm := ⟨SC, hw1, SD1, SD2, AD1, AD2, SFm, hfm⟩
  have hc9 : Jvm.Lit.constHeld s "com/example/regretta/regretta/GroupProblemGenerator" 9 := hcalls.1 ("com/example/regretta/regretta/GroupProblemGenerator", 9) (List.mem_of_getElem? (i := 0) rfl)
  have hc17 : Jvm.Lit.constHeld s "com/example/regretta/regretta/GroupProblemGenerator" 17 := hcalls.1 ("com/example/regretta/regretta/GroupProblemGenerator", 17) (List.mem_of_getElem? (i := 1) rfl)
  have hc19 : Jvm.Lit.constHeld s "com/example/regretta/regretta/GroupProblemGenerator" 19 := hcalls.1 ("com/example/regretta/regretta/GroupProblemGenerator", 19) (List.mem_of_getElem? (i := 2) rfl)
  have hc21 : Jvm.Lit.constHeld s "com/example/regretta/regretta/GroupProblemGenerator" 21 := hcalls.1 ("com/example/regretta/regretta/GroupProblemGenerator", 21) (List.mem_of_getElem? (i := 3) rfl)
  have hc154 : Jvm.Lit.constHeld s "com/example/regretta/regretta/GroupProblemGenerator" 154 := hcalls.1 ("com/example/regretta/regretta/GroupProblemGenerator", 154) (List.mem_of_getElem? (i := 4) rfl)
  have hc156 : Jvm.Lit.constHeld s "com/example/regretta/regretta/GroupProblemGenerator" 156 := hcalls.1 ("com/example/regretta/regretta/GroupProblemGenerator", 156) (List.mem_of_getElem? (i := 5) rfl)
  have hc158 : Jvm.Lit.constHeld s "com/example/regretta/regretta/GroupProblemGenerator" 158 := hcalls.1 ("com/example/regretta/regretta/GroupProblemGenerator", 158) (List.mem_of_getElem? (i := 6) rfl)
  have hc160 : Jvm.Lit.constHeld s "com/example/regretta/regretta/GroupProblemGenerator" 160 := hcalls.1 ("com/example/regretta/regretta/GroupProblemGenerator", 160) (List.mem_of_getElem? (i := 7) rfl)
  have hc162 : Jvm.Lit.constHeld s "com/example/regretta/regretta/GroupProblemGenerator" 162 := hcalls.1 ("com/example/regretta/regretta/GroupProblemGenerator", 162) (List.mem_of_getElem? (i := 8) rfl)
  have hcR : Jvm.Lit.constHeld s "com/example/regretta/regretta/GroupProblemGeneratorDescriptionPinLaw" 73 := hcalls.1 ("com/example/regretta/regretta/GroupProblemGeneratorDescriptionPinLaw", 73) (List.mem_of_getElem? (i := 9) rfl)
  obtain ⟨n, o, h1, h2, h3, _, L, rfl, ⟨rfl, N⟩, hq⟩ := rm0 l s _ hw tables_1 i0 i1 i2 i3 i4 w1 d1 d2 kd1 kd2 fm s.heap s.heap.size (Nat.le_refl _) (Nat.le_refl _) (fun _ _ q => q) TB hc9 hc17 hc19 hc21 hc154 hc156 hc158 hc160 hc162 hcR hcw p e ha hc hk s m _ below hf ((Spec.applies_iff_loose hf).mp happ).1 ⟨rfl, State.Warmed39.refl s, rfl, IB.start⟩ trivial
  refine ⟨n, _, h1, h2, h3, hpost _ _ _ _ _ _ ⟨Cond.after_iff.mpr rfl, Cond.after_iff.mpr (eq_i res_at (Term.int_eval (1)) rfl), trivial⟩ ⟨hq.1, hq.2.1, hq.2.2.1, (hq.2.2.2.sift fun y hy => Or.inr (N y hy)).mono (by decide) (by decide)⟩⟩
theorem main_1_1 : Claimed_1_1 := comes_1 fun _ _ _ _ _ _ h hF => ⟨h.1, hF⟩
theorem main_1_2 : Claimed_1_2 := comes_1 fun _ _ _ _ _ _ h hF => ⟨h.2.1, hF⟩
end Jvm.Pilot.@@N@@
namespace Jvm.Pilot.@@N@@
open Jvm Jvm.ClassFile Sem Op Lib Jvm.Free Jvm.Stand Jvm.Pilot.@@N@@.Jvm.D
/-! MADE BY PROGRAM (witnessworld.py) out of the Statement's table words and the real class files: 28 classes; the members and pool entries that the words name. The judged class is class 1, her method 1. -/
namespace start1
open Jvm.ClassFile
def u (s : String) : CpInfo := .utf8 (stringToUtf16 s)
/-- a pool by its gaps: so many unusable entries, then the entry; so many at the end -/
def gap : Nat → List CpInfo → List CpInfo
  | 0, r => r
  | n + 1, r => .unusable :: gap n r
def poolList (es : List (Nat × CpInfo)) (last : Nat) : List CpInfo := es.foldr (fun e r => gap e.1 (e.2 :: r)) (gap last [])
def pool (es : List (Nat × CpInfo)) (last : Nat) : Array CpInfo := ⟨poolList es last⟩
def fileOf (pool : Array CpInfo) (this : Nat) (attrs : Array Attribute := #[]) (ms : Array MethodInfo := #[]) (fl : Nat := 33) (sup : Nat := 0) (ifs : Array Nat := #[]) (fds : Array FieldInfo := #[]) : ClassFile where
  minorVersion := 0
  majorVersion := 65
  constantPool := pool
  accessFlags := fl
  thisClass := this
  superClass := sup
  interfaces := ifs
  fields := fds
  methods := ms
  attributes := attrs
def plain (name : String) (sup : Option ClassId) : Class where
  name := name
  kind := .ordinary
  loader := none
  accessFlags := 33
  super := sup
  interfaces := #[]
  cf := none
  fields := #[]
  methods := #[]
  instanceTypes := #[]
  staticTypes := #[]
  resolved := #[]
  callSites := []
  init := .initialized
  statics := none
  mirror := none

def pool0 : Array CpInfo := pool [(5, u "<init>"), (0, u "()V"), (1, .class_ 10), (1, u "java/lang/Object")] 113

def k0c0 : Code := { maxStack := 0, maxLocals := 1, code := object_method_1_code, exceptionTable := #[], attributes := #[] }
def k0m0 : Method := { name := "<init>", desc := "()V", sig := { parameters := [], returnType := none }, accessFlags := 1, code := some k0c0 }
/-- java/lang/Object -/
def k0 : Class := { plain "java/lang/Object" none with
  accessFlags := 33
  interfaces := #[]
  cf := some (fileOf pool0 8 #[] #[{ accessFlags := 1, nameIndex := 5, descriptorIndex := 6, attributes := #[] }] 33 0 #[] #[])
  fields := #[]
  methods := #[k0m0]
  instanceTypes := #[]
  staticTypes := #[]
  resolved := Array.replicate 124 none
  statics := none }

def pool1 : Array CpInfo := pool [(2, .class_ 4), (1, u "java/lang/Object"), (0, u "<init>"), (0, u "()V"), (0, .integer 2147483647), (0, .long 10), (1, .long 100), (1, .long 1000), (1, .long 10000), (1, .long 100000), (1, .long 1000000), (1, .long 10000000), (1, .long 100000000), (1, .long 1000000000), (1, .long 10000000000), (1, .long 100000000000), (1, .long 1000000000000), (1, .long 10000000000000), (1, .long 100000000000000), (1, .long 1000000000000000), (1, .long 10000000000000000), (1, .long 100000000000000000), (1, .long 1000000000000000000), (1, .class_ 45), (0, u "com/example/regretta/regretta/GroupProblemGenerator"), (0, .methodref 44 47), (0, .nameAndType 5 48), (0, u "(IIII)V"), (0, .methodref 44 50), (0, .nameAndType 51 52), (0, u "description"), (0, u "(J)Ljava/lang/String;"), (0, .methodref 54 55), (0, .class_ 56), (0, .nameAndType 57 58), (0, u "java/lang/String"), (0, u "length"), (0, u "()I"), (0, .methodref 60 61), (0, .class_ 62), (0, .nameAndType 63 64), (0, u "com/example/regretta/regretta/GroupProblemGeneratorDescriptionPinLaw"), (0, u "w8"), (0, u "(Ljava/lang/String;I)Z"), (0, .methodref 54 66), (0, .nameAndType 67 68), (0, u "charAt"), (0, u "(I)C"), (0, .methodref 60 70), (0, .nameAndType 71 72), (0, u "dg"), (0, u "(Ljava/lang/String;IIJ[JI)Z"), (0, .string 74), (0, u "regretta generate group --variables # --factors # --agents # --domain # --seed "), (0, .methodref 60 76), (0, .nameAndType 77 64), (0, u "eq"), (0, u "R"), (0, u "Ljava/lang/String;"), (3, u "law"), (0, u "(IIIIJ)Z")] 5

def k1m0 : Method := { name := "<init>", desc := "()V", sig := { parameters := [], returnType := none }, accessFlags := 1, code := none }
def k1c1 : Code := { maxStack := 7, maxLocals := 24, code := code, exceptionTable := #[], attributes := #[] }
def k1m1 : Method := { name := "law", desc := "(IIIIJ)Z", sig := { parameters := [.int, .int, .int, .int, .long], returnType := some .boolean }, accessFlags := 9, code := some k1c1 }
def k1c2 : Code := { maxStack := 2, maxLocals := 3, code := method_3_code, exceptionTable := #[], attributes := #[] }
def k1m2 : Method := { name := "eq", desc := "(Ljava/lang/String;I)Z", sig := { parameters := [(.object "java/lang/String"), .int], returnType := some .boolean }, accessFlags := 10, code := some k1c2 }
def k1c3 : Code := { maxStack := 3, maxLocals := 2, code := method_4_code, exceptionTable := #[], attributes := #[] }
def k1m3 : Method := { name := "w8", desc := "(Ljava/lang/String;I)Z", sig := { parameters := [(.object "java/lang/String"), .int], returnType := some .boolean }, accessFlags := 10, code := some k1c3 }
def k1c4 : Code := { maxStack := 6, maxLocals := 7, code := method_5_code, exceptionTable := #[], attributes := #[] }
def k1m4 : Method := { name := "dg", desc := "(Ljava/lang/String;IIJ[JI)Z", sig := { parameters := [(.object "java/lang/String"), .int, .int, .long, (.array .long), .int], returnType := some .boolean }, accessFlags := 10, code := some k1c4 }
/-- com/example/regretta/regretta/GroupProblemGeneratorDescriptionPinLaw -/
def k1 : Class := { plain "com/example/regretta/regretta/GroupProblemGeneratorDescriptionPinLaw" (some 0) with
  accessFlags := 49
  interfaces := #[]
  cf := some (fileOf pool1 60 #[] #[{ accessFlags := 1, nameIndex := 5, descriptorIndex := 6, attributes := #[] }, { accessFlags := 9, nameIndex := 83, descriptorIndex := 84, attributes := #[] }, { accessFlags := 10, nameIndex := 77, descriptorIndex := 64, attributes := #[] }, { accessFlags := 10, nameIndex := 63, descriptorIndex := 64, attributes := #[] }, { accessFlags := 10, nameIndex := 71, descriptorIndex := 72, attributes := #[] }] 49 2 #[] #[{ accessFlags := 26, nameIndex := 78, descriptorIndex := 79, attributes := #[] }])
  fields := #[{ name := "R", type := (.object "java/lang/String"), accessFlags := 26, slot := 0, constantValue := 0 }]
  methods := #[k1m0, k1m1, k1m2, k1m3, k1m4]
  instanceTypes := #[]
  staticTypes := #[(.object "java/lang/String")]
  resolved := Array.replicate 90 none
  statics := none }

def pool2 : Array CpInfo := pool [(3, .methodref 4 5), (0, .class_ 6), (0, .nameAndType 7 8), (0, u "java/lang/Object"), (0, u "<init>"), (0, u "()V"), (0, .string 10), (0, u "a group has at least 1 variable"), (0, .methodref 12 13), (0, .class_ 14), (0, .nameAndType 15 16), (0, u "com/example/regretta/regretta/GroupProblemGenerator"), (0, u "atLeast"), (0, u "(IILjava/lang/String;)V"), (0, .string 18), (0, u "a group has at least 0 drawn factors"), (0, .string 20), (0, u "a group has at least 1 agent"), (0, .string 22), (0, u "a variable takes at least 1 value"), (2, .long 1000000), (1, .methodref 28 29), (0, .class_ 30), (0, .nameAndType 31 32), (0, u "java/lang/Math"), (0, u "min"), (0, u "(II)I"), (0, .methodref 28 34), (0, .nameAndType 31 35), (0, u "(JJ)J"), (2, .class_ 39), (0, u "java/lang/StringBuilder"), (0, .methodref 38 5), (0, .methodref 38 42), (0, .nameAndType 43 44), (0, u "append"), (0, u "(I)Ljava/lang/StringBuilder;"), (2, .methodref 38 48), (0, .nameAndType 43 49), (0, u "(Ljava/lang/String;)Ljava/lang/StringBuilder;"), (6, .methodref 38 57), (0, .nameAndType 43 58), (0, u "(J)Ljava/lang/StringBuilder;"), (2, .methodref 38 62), (0, .nameAndType 63 64), (0, u "toString"), (0, u "()Ljava/lang/String;"), (3, .fieldref 12 69), (0, .nameAndType 70 71), (0, u "variables"), (0, u "I"), (0, .fieldref 12 73), (0, .nameAndType 74 71), (0, u "factors"), (0, .fieldref 12 76), (0, .nameAndType 77 71), (0, u "agents"), (0, .fieldref 12 79), (0, .nameAndType 80 71), (0, u "domain"), (73, .string 155), (0, u "regretta generate group --variables "), (0, .string 157), (0, u " --factors "), (0, .string 159), (0, u " --agents "), (0, .string 161), (0, u " --domain "), (0, .string 163), (0, u " --seed "), (41, u "LEAST_SCOPE"), (2, u "MOST_SCOPE"), (1, u "SCALE"), (1, u "(IIII)V"), (7, u "description"), (0, u "(J)Ljava/lang/String;")] 27

def k2c0 : Code := { maxStack := 8, maxLocals := 11, code := prog_22_method_1_code, exceptionTable := #[], attributes := #[] }
def k2m0 : Method := { name := "<init>", desc := "(IIII)V", sig := { parameters := [.int, .int, .int, .int], returnType := none }, accessFlags := 1, code := some k2c0 }
def k2c1 : Code := { maxStack := 3, maxLocals := 3, code := prog_22_method_3_code, exceptionTable := #[], attributes := #[] }
def k2m1 : Method := { name := "description", desc := "(J)Ljava/lang/String;", sig := { parameters := [.long], returnType := some (.object "java/lang/String") }, accessFlags := 1, code := some k2c1 }
def k2c2 : Code := { maxStack := 4, maxLocals := 3, code := prog_22_method_5_code, exceptionTable := #[], attributes := #[] }
def k2m2 : Method := { name := "atLeast", desc := "(IILjava/lang/String;)V", sig := { parameters := [.int, .int, (.object "java/lang/String")], returnType := none }, accessFlags := 10, code := some k2c2 }
/-- com/example/regretta/regretta/GroupProblemGenerator -/
def k2 : Class := { plain "com/example/regretta/regretta/GroupProblemGenerator" (some 0) with
  accessFlags := 49
  interfaces := #[]
  cf := some (fileOf pool2 12 #[] #[{ accessFlags := 1, nameIndex := 7, descriptorIndex := 212, attributes := #[] }, { accessFlags := 1, nameIndex := 220, descriptorIndex := 221, attributes := #[] }, { accessFlags := 10, nameIndex := 15, descriptorIndex := 16, attributes := #[] }] 49 4 #[] #[{ accessFlags := 26, nameIndex := 205, descriptorIndex := 71, attributes := #[] }, { accessFlags := 26, nameIndex := 208, descriptorIndex := 71, attributes := #[] }, { accessFlags := 26, nameIndex := 210, descriptorIndex := 71, attributes := #[] }, { accessFlags := 18, nameIndex := 70, descriptorIndex := 71, attributes := #[] }, { accessFlags := 18, nameIndex := 74, descriptorIndex := 71, attributes := #[] }, { accessFlags := 18, nameIndex := 77, descriptorIndex := 71, attributes := #[] }, { accessFlags := 18, nameIndex := 80, descriptorIndex := 71, attributes := #[] }])
  fields := #[{ name := "LEAST_SCOPE", type := .int, accessFlags := 26, slot := 0, constantValue := 0 }, { name := "MOST_SCOPE", type := .int, accessFlags := 26, slot := 1, constantValue := 0 }, { name := "SCALE", type := .int, accessFlags := 26, slot := 2, constantValue := 0 }, { name := "variables", type := .int, accessFlags := 18, slot := 0, constantValue := 0 }, { name := "factors", type := .int, accessFlags := 18, slot := 1, constantValue := 0 }, { name := "agents", type := .int, accessFlags := 18, slot := 2, constantValue := 0 }, { name := "domain", type := .int, accessFlags := 18, slot := 3, constantValue := 0 }]
  methods := #[k2m0, k2m1, k2m2]
  instanceTypes := #[.int, .int, .int, .int]
  staticTypes := #[.int, .int, .int]
  resolved := Array.replicate 249 none
  statics := none }

def pool3 : Array CpInfo := pool [(1, .class_ 2), (0, u "java/io/Serializable"), (0, .class_ 4), (0, u "java/lang/Object")] 2

/-- java/io/Serializable -/
def k3 : Class := { plain "java/io/Serializable" (some 0) with
  accessFlags := 1537
  interfaces := #[]
  cf := some (fileOf pool3 1 #[] #[] 1537 3 #[] #[])
  fields := #[]
  methods := #[]
  instanceTypes := #[]
  staticTypes := #[]
  resolved := Array.replicate 7 none
  statics := none }

def pool4 : Array CpInfo := pool [(1, .class_ 2), (0, u "java/lang/Comparable"), (0, .class_ 4), (0, u "java/lang/Object")] 7

/-- java/lang/Comparable -/
def k4 : Class := { plain "java/lang/Comparable" (some 0) with
  accessFlags := 1537
  interfaces := #[]
  cf := some (fileOf pool4 1 #[] #[] 1537 3 #[] #[])
  fields := #[]
  methods := #[]
  instanceTypes := #[]
  staticTypes := #[]
  resolved := Array.replicate 12 none
  statics := none }

def pool5 : Array CpInfo := pool [(2, .class_ 4), (1, u "java/lang/CharSequence"), (42, .class_ 48), (0, u "java/lang/CharSequence$1CodePointIterator"), (10, .class_ 60), (0, u "java/lang/CharSequence$1CharIterator"), (5, .class_ 67), (0, u "java/lang/Object")] 63

/-- java/lang/CharSequence -/
def k5 : Class := { plain "java/lang/CharSequence" (some 0) with
  accessFlags := 1537
  interfaces := #[]
  cf := some (fileOf pool5 2 #[.nestMembers #[47, 59]] #[] 1537 66 #[] #[])
  fields := #[]
  methods := #[]
  instanceTypes := #[]
  staticTypes := #[]
  resolved := Array.replicate 131 none
  statics := none }

def pool6 : Array CpInfo := pool [(1, .class_ 2), (0, u "java/lang/constant/Constable"), (0, .class_ 4), (0, u "java/lang/Object")] 6

/-- java/lang/constant/Constable -/
def k6 : Class := { plain "java/lang/constant/Constable" (some 0) with
  accessFlags := 1537
  interfaces := #[]
  cf := some (fileOf pool6 1 #[] #[] 1537 3 #[] #[])
  fields := #[]
  methods := #[]
  instanceTypes := #[]
  staticTypes := #[]
  resolved := Array.replicate 11 none
  statics := none }

def pool7 : Array CpInfo := pool [(1, .class_ 2), (0, u "java/lang/constant/ConstantDesc"), (0, .class_ 4), (0, u "java/lang/Object")] 32

/-- java/lang/constant/ConstantDesc -/
def k7 : Class := { plain "java/lang/constant/ConstantDesc" (some 0) with
  accessFlags := 1537
  interfaces := #[]
  cf := some (fileOf pool7 1 #[] #[] 1537 3 #[] #[])
  fields := #[]
  methods := #[]
  instanceTypes := #[]
  staticTypes := #[]
  resolved := Array.replicate 37 none
  statics := none }

def pool8 : Array CpInfo := pool [(1, .methodref 2 3), (0, .class_ 4), (0, .nameAndType 5 6), (0, u "java/lang/Object"), (0, u "<init>"), (0, u "()V"), (2, .fieldref 10 11), (0, .class_ 12), (0, .nameAndType 13 14), (0, u "java/lang/String"), (0, u "value"), (0, u "[B"), (0, .fieldref 10 16), (0, .nameAndType 17 18), (0, u "coder"), (0, u "B"), (2, u "hash"), (0, u "I"), (2, u "hashIsZero"), (0, u "Z"), (11, .fieldref 10 39), (0, .nameAndType 40 26), (0, u "COMPACT_STRINGS"), (13, .methodref 55 56), (0, .class_ 57), (0, .nameAndType 58 59), (0, u "java/util/Arrays"), (0, u "copyOfRange"), (0, u "([BII)[B"), (47, .class_ 109), (1, u "java/lang/StringLatin1"), (32, u "()Z"), (50, .class_ 195), (1, u "java/lang/System"), (16, .methodref 193 213), (0, .nameAndType 214 215), (0, u "arraycopy"), (0, u "(Ljava/lang/Object;ILjava/lang/Object;II)V"), (118, u "()I"), (0, .methodref 10 336), (0, .nameAndType 17 337), (0, u "()B"), (2, u "()[B"), (22, u "([BI)C"), (27, u "(II)V"), (35, u "(I)C"), (61, .methodref 10 490), (0, .nameAndType 5 491), (0, u "(Ljava/lang/AbstractStringBuilder;Ljava/lang/Void;)V"), (0, .methodref 10 493), (0, .nameAndType 494 142), (0, u "isLatin1"), (0, .methodref 107 496), (0, .nameAndType 497 363), (0, u "charAt"), (3, u "checkIndex"), (4, .nameAndType 507 334), (0, u "length"), (24, u "getBytes"), (16, .methodref 550 506), (0, .class_ 551), (0, u "java/lang/AbstractStringBuilder"), (0, .methodref 550 553), (0, .nameAndType 554 340), (0, u "getValue"), (20, .class_ 576), (0, u "java/lang/CharSequence"), (22, u "CASE_INSENSITIVE_ORDER"), (0, u "Ljava/util/Comparator;"), (220, u "([BIB)V"), (225, .methodref 550 493), (5, .fieldref 1054 1055), (0, .class_ 1056), (0, .nameAndType 1057 1058), (0, u "jdk/internal/util/Preconditions"), (0, u "SIOOBE_FORMATTER"), (0, u "Ljava/util/function/BiFunction;"), (0, .methodref 1054 1060), (0, .nameAndType 501 1061), (0, u "(IILjava/util/function/BiFunction;)I"), (39, u "serialPersistentFields"), (0, u "[Ljava/io/ObjectStreamField;"), (0, .class_ 1104), (0, u "java/lang/String$CaseInsensitiveComparator"), (1, .class_ 1107), (0, u "java/io/Serializable"), (0, .class_ 1109), (0, u "java/lang/Comparable"), (0, .class_ 1111), (0, u "java/lang/constant/Constable"), (0, .class_ 1113), (0, u "java/lang/constant/ConstantDesc"), (2, u "serialVersionUID"), (0, u "J"), (3, u "REPL"), (0, u "C"), (2, u "LATIN1"), (1, u "UTF16"), (105, u "(Ljava/lang/StringBuilder;)V")] 217

def k8m0 : Method := { name := "<init>", desc := "()V", sig := { parameters := [], returnType := none }, accessFlags := 1, code := none }
def k8c1 : Code := { maxStack := 3, maxLocals := 2, code := jdk_42_method_53_code, exceptionTable := #[], attributes := #[] }
def k8m1 : Method := { name := "<init>", desc := "(Ljava/lang/StringBuilder;)V", sig := { parameters := [(.object "java/lang/StringBuilder")], returnType := none }, accessFlags := 1, code := some k8c1 }
def k8c2 : Code := { maxStack := 2, maxLocals := 1, code := jdk_42_method_54_code, exceptionTable := #[], attributes := #[] }
def k8m2 : Method := { name := "length", desc := "()I", sig := { parameters := [], returnType := some .int }, accessFlags := 1, code := some k8c2 }
def k8c3 : Code := { maxStack := 2, maxLocals := 2, code := jdk_42_method_56_code, exceptionTable := #[], attributes := #[] }
def k8m3 : Method := { name := "charAt", desc := "(I)C", sig := { parameters := [.int], returnType := some .char }, accessFlags := 1, code := some k8c3 }
def k8c4 : Code := { maxStack := 5, maxLocals := 4, code := jdk_42_method_147_code, exceptionTable := #[], attributes := #[] }
def k8m4 : Method := { name := "getBytes", desc := "([BIB)V", sig := { parameters := [(.array .byte), .int, .byte], returnType := none }, accessFlags := 0, code := some k8c4 }
def k8c5 : Code := { maxStack := 5, maxLocals := 5, code := jdk_42_method_150_code, exceptionTable := #[], attributes := #[] }
def k8m5 : Method := { name := "<init>", desc := "(Ljava/lang/AbstractStringBuilder;Ljava/lang/Void;)V", sig := { parameters := [(.object "java/lang/AbstractStringBuilder"), (.object "java/lang/Void")], returnType := none }, accessFlags := 0, code := some k8c5 }
def k8c6 : Code := { maxStack := 1, maxLocals := 1, code := jdk_42_method_152_code, exceptionTable := #[], attributes := #[] }
def k8m6 : Method := { name := "coder", desc := "()B", sig := { parameters := [], returnType := some .byte }, accessFlags := 0, code := some k8c6 }
def k8c7 : Code := { maxStack := 1, maxLocals := 1, code := jdk_42_method_154_code, exceptionTable := #[], attributes := #[] }
def k8m7 : Method := { name := "isLatin1", desc := "()Z", sig := { parameters := [], returnType := some .boolean }, accessFlags := 0, code := some k8c7 }
def k8c8 : Code := { maxStack := 3, maxLocals := 2, code := jdk_42_method_155_code, exceptionTable := #[], attributes := #[] }
def k8m8 : Method := { name := "checkIndex", desc := "(II)V", sig := { parameters := [.int, .int], returnType := none }, accessFlags := 8, code := some k8c8 }
/-- java/lang/String -/
def k8 : Class := { plain "java/lang/String" (some 0) with
  accessFlags := 49
  interfaces := #[3, 4, 5, 6, 7]
  cf := some (fileOf pool8 10 #[.nestMembers #[1103]] #[{ accessFlags := 1, nameIndex := 5, descriptorIndex := 6, attributes := #[] }, { accessFlags := 1, nameIndex := 5, descriptorIndex := 1233, attributes := #[] }, { accessFlags := 1, nameIndex := 507, descriptorIndex := 334, attributes := #[] }, { accessFlags := 1, nameIndex := 497, descriptorIndex := 427, attributes := #[] }, { accessFlags := 0, nameIndex := 532, descriptorIndex := 821, attributes := #[] }, { accessFlags := 0, nameIndex := 5, descriptorIndex := 491, attributes := #[] }, { accessFlags := 0, nameIndex := 17, descriptorIndex := 337, attributes := #[] }, { accessFlags := 0, nameIndex := 494, descriptorIndex := 142, attributes := #[] }, { accessFlags := 8, nameIndex := 501, descriptorIndex := 391, attributes := #[] }] 49 2 #[1106, 1108, 575, 1110, 1112] #[{ accessFlags := 18, nameIndex := 13, descriptorIndex := 14, attributes := #[] }, { accessFlags := 18, nameIndex := 17, descriptorIndex := 18, attributes := #[] }, { accessFlags := 2, nameIndex := 21, descriptorIndex := 22, attributes := #[] }, { accessFlags := 2, nameIndex := 25, descriptorIndex := 26, attributes := #[] }, { accessFlags := 26, nameIndex := 1116, descriptorIndex := 1117, attributes := #[] }, { accessFlags := 24, nameIndex := 40, descriptorIndex := 26, attributes := #[] }, { accessFlags := 26, nameIndex := 1101, descriptorIndex := 1102, attributes := #[] }, { accessFlags := 26, nameIndex := 1121, descriptorIndex := 1122, attributes := #[] }, { accessFlags := 25, nameIndex := 599, descriptorIndex := 600, attributes := #[] }, { accessFlags := 24, nameIndex := 1125, descriptorIndex := 18, attributes := #[] }, { accessFlags := 24, nameIndex := 1127, descriptorIndex := 18, attributes := #[] }])
  fields := #[{ name := "value", type := (.array .byte), accessFlags := 18, slot := 0, constantValue := 0 }, { name := "coder", type := .byte, accessFlags := 18, slot := 1, constantValue := 0 }, { name := "hash", type := .int, accessFlags := 2, slot := 2, constantValue := 0 }, { name := "hashIsZero", type := .boolean, accessFlags := 2, slot := 3, constantValue := 0 }, { name := "serialVersionUID", type := .long, accessFlags := 26, slot := 0, constantValue := 0 }, { name := "COMPACT_STRINGS", type := .boolean, accessFlags := 24, slot := 1, constantValue := 0 }, { name := "serialPersistentFields", type := (.array (.object "java/io/ObjectStreamField")), accessFlags := 26, slot := 2, constantValue := 0 }, { name := "REPL", type := .char, accessFlags := 26, slot := 3, constantValue := 0 }, { name := "CASE_INSENSITIVE_ORDER", type := (.object "java/util/Comparator"), accessFlags := 25, slot := 4, constantValue := 0 }, { name := "LATIN1", type := .byte, accessFlags := 24, slot := 5, constantValue := 0 }, { name := "UTF16", type := .byte, accessFlags := 24, slot := 6, constantValue := 0 }]
  methods := #[k8m0, k8m1, k8m2, k8m3, k8m4, k8m5, k8m6, k8m7, k8m8]
  instanceTypes := #[(.array .byte), .byte, .int, .boolean]
  staticTypes := #[.long, .boolean, (.array (.object "java/io/ObjectStreamField")), .char, (.object "java/util/Comparator"), .byte, .byte]
  resolved := Array.replicate 1451 none
  statics := some 0 }

def pool9 : Array CpInfo := pool [(1, .class_ 2), (0, u "java/lang/Math"), (1, .class_ 6), (1, u "java/lang/Object"), (0, u "<init>"), (0, u "()V"), (89, .class_ 100), (1, u "java/lang/Math$RandomNumberGeneratorHolder"), (20, u "(JJ)J"), (50, u "negativeZeroFloatBits"), (0, u "J"), (2, u "negativeZeroDoubleBits"), (21, u "max"), (2, u "min"), (43, u "$assertionsDisabled"), (0, u "Z"), (88, u "(II)I"), (2, u "twoToTheDoubleScaleDown"), (0, u "D"), (4, u "twoToTheDoubleScaleUp"), (9, u "E"), (3, u "PI"), (2, u "TAU"), (2, u "DEGREES_TO_RADIANS"), (0, u "RADIANS_TO_DEGREES")] 94

def k9m0 : Method := { name := "<init>", desc := "()V", sig := { parameters := [], returnType := none }, accessFlags := 2, code := none }
def k9c1 : Code := { maxStack := 2, maxLocals := 2, code := jdk_29_method_65_code, exceptionTable := #[], attributes := #[] }
def k9m1 : Method := { name := "max", desc := "(II)I", sig := { parameters := [.int, .int], returnType := some .int }, accessFlags := 9, code := some k9c1 }
def k9c2 : Code := { maxStack := 2, maxLocals := 2, code := jdk_29_method_69_code, exceptionTable := #[], attributes := #[] }
def k9m2 : Method := { name := "min", desc := "(II)I", sig := { parameters := [.int, .int], returnType := some .int }, accessFlags := 9, code := some k9c2 }
def k9c3 : Code := { maxStack := 4, maxLocals := 4, code := jdk_29_method_70_code, exceptionTable := #[], attributes := #[] }
def k9m3 : Method := { name := "min", desc := "(JJ)J", sig := { parameters := [.long, .long], returnType := some .long }, accessFlags := 9, code := some k9c3 }
/-- java/lang/Math -/
def k9 : Class := { plain "java/lang/Math" (some 0) with
  accessFlags := 49
  interfaces := #[]
  cf := some (fileOf pool9 1 #[.nestMembers #[98]] #[{ accessFlags := 2, nameIndex := 7, descriptorIndex := 8, attributes := #[] }, { accessFlags := 9, nameIndex := 198, descriptorIndex := 335, attributes := #[] }, { accessFlags := 9, nameIndex := 201, descriptorIndex := 335, attributes := #[] }, { accessFlags := 9, nameIndex := 201, descriptorIndex := 121, attributes := #[] }] 49 4 #[] #[{ accessFlags := 25, nameIndex := 354, descriptorIndex := 339, attributes := #[] }, { accessFlags := 25, nameIndex := 358, descriptorIndex := 339, attributes := #[] }, { accessFlags := 25, nameIndex := 361, descriptorIndex := 339, attributes := #[] }, { accessFlags := 26, nameIndex := 364, descriptorIndex := 339, attributes := #[] }, { accessFlags := 26, nameIndex := 365, descriptorIndex := 339, attributes := #[] }, { accessFlags := 26, nameIndex := 172, descriptorIndex := 173, attributes := #[] }, { accessFlags := 26, nameIndex := 176, descriptorIndex := 173, attributes := #[] }, { accessFlags := 8, nameIndex := 344, descriptorIndex := 339, attributes := #[] }, { accessFlags := 8, nameIndex := 338, descriptorIndex := 339, attributes := #[] }, { accessFlags := 4120, nameIndex := 245, descriptorIndex := 246, attributes := #[] }])
  fields := #[{ name := "E", type := .double, accessFlags := 25, slot := 0, constantValue := 0 }, { name := "PI", type := .double, accessFlags := 25, slot := 1, constantValue := 0 }, { name := "TAU", type := .double, accessFlags := 25, slot := 2, constantValue := 0 }, { name := "DEGREES_TO_RADIANS", type := .double, accessFlags := 26, slot := 3, constantValue := 0 }, { name := "RADIANS_TO_DEGREES", type := .double, accessFlags := 26, slot := 4, constantValue := 0 }, { name := "negativeZeroFloatBits", type := .long, accessFlags := 26, slot := 5, constantValue := 0 }, { name := "negativeZeroDoubleBits", type := .long, accessFlags := 26, slot := 6, constantValue := 0 }, { name := "twoToTheDoubleScaleUp", type := .double, accessFlags := 8, slot := 7, constantValue := 0 }, { name := "twoToTheDoubleScaleDown", type := .double, accessFlags := 8, slot := 8, constantValue := 0 }, { name := "$assertionsDisabled", type := .boolean, accessFlags := 4120, slot := 9, constantValue := 0 }]
  methods := #[k9m0, k9m1, k9m2, k9m3]
  instanceTypes := #[]
  staticTypes := #[.double, .double, .double, .double, .double, .long, .long, .double, .double, .boolean]
  resolved := Array.replicate 460 none
  statics := none }

def pool10 : Array CpInfo := pool [(1, .class_ 2), (0, u "java/lang/Appendable"), (0, .class_ 4), (0, u "java/lang/Object")] 9

/-- java/lang/Appendable -/
def k10 : Class := { plain "java/lang/Appendable" (some 0) with
  accessFlags := 1537
  interfaces := #[]
  cf := some (fileOf pool10 1 #[] #[] 1537 3 #[] #[])
  fields := #[]
  methods := #[]
  instanceTypes := #[]
  staticTypes := #[]
  resolved := Array.replicate 14 none
  statics := none }

def pool11 : Array CpInfo := pool [(1, .class_ 2), (0, u "java/lang/String"), (0, .methodref 4 5), (0, .class_ 6), (0, .nameAndType 7 8), (0, u "java/lang/Object"), (0, u "<init>"), (0, u "()V"), (1, .class_ 12), (1, u "java/lang/AbstractStringBuilder"), (0, u "EMPTYVALUE"), (0, u "[B"), (0, .fieldref 10 16), (0, .nameAndType 17 14), (0, u "value"), (0, .fieldref 1 19), (0, .nameAndType 20 21), (0, u "COMPACT_STRINGS"), (0, u "Z"), (0, .fieldref 10 23), (0, .nameAndType 24 25), (0, u "coder"), (0, u "B"), (6, .methodref 1 33), (0, .nameAndType 34 35), (0, u "length"), (0, u "()I"), (0, .class_ 37), (0, u "java/lang/Integer"), (1, .integer 2147483647), (0, .methodref 1 41), (0, .nameAndType 24 42), (0, u "()B"), (2, u "append"), (0, u "(Ljava/lang/String;)Ljava/lang/AbstractStringBuilder;"), (1, .class_ 49), (0, u "java/lang/CharSequence"), (19, u "(Ljava/lang/String;)V"), (5, u "maybeLatin1"), (3, .fieldref 10 80), (0, .nameAndType 81 82), (0, u "count"), (0, u "I"), (0, .methodref 10 84), (0, .nameAndType 85 86), (0, u "isLatin1"), (0, u "()Z"), (13, .methodref 10 101), (0, .nameAndType 102 103), (0, u "ensureCapacityInternal"), (0, u "(I)V"), (0, .methodref 10 105), (0, .nameAndType 106 107), (0, u "newCapacity"), (0, u "(I)I"), (0, .methodref 109 110), (0, .class_ 111), (0, .nameAndType 112 113), (0, u "java/util/Arrays"), (0, u "copyOf"), (0, u "([BI)[B"), (0, .methodref 115 116), (0, .class_ 117), (0, .nameAndType 118 119), (0, u "jdk/internal/util/ArraysSupport"), (0, u "newLength"), (0, u "(III)I"), (68, u "getChars"), (19, .methodref 10 209), (0, .nameAndType 210 211), (0, u "putStringAt"), (0, u "(ILjava/lang/String;)V"), (5, u "inflateIfNeededFor"), (2, .nameAndType 221 222), (0, u "getBytes"), (0, u "([BIB)V"), (22, .methodref 36 246), (0, .nameAndType 247 107), (0, u "stringSize"), (0, .methodref 36 249), (0, .nameAndType 188 250), (0, u "(II[B)I"), (3, .methodref 255 256), (0, .class_ 257), (0, .nameAndType 247 258), (0, u "java/lang/Long"), (0, u "(J)I"), (0, .methodref 255 260), (0, .nameAndType 188 261), (0, u "(JI[B)I"), (135, .methodref 10 398), (0, .nameAndType 217 69), (0, .methodref 1 220), (3, u "()[B"), (40, .class_ 445), (0, u "java/lang/Appendable"), (65, u "(I)Ljava/lang/AbstractStringBuilder;"), (1, u "(J)Ljava/lang/AbstractStringBuilder;"), (38, u "getValue")] 56

def k11m0 : Method := { name := "<init>", desc := "()V", sig := { parameters := [], returnType := none }, accessFlags := 0, code := none }
def k11c1 : Code := { maxStack := 2, maxLocals := 2, code := jdk_68_method_2_code, exceptionTable := #[], attributes := #[] }
def k11m1 : Method := { name := "<init>", desc := "(I)V", sig := { parameters := [.int], returnType := none }, accessFlags := 0, code := some k11c1 }
def k11c2 : Code := { maxStack := 1, maxLocals := 1, code := jdk_68_method_6_code, exceptionTable := #[], attributes := #[] }
def k11m2 : Method := { name := "length", desc := "()I", sig := { parameters := [], returnType := some .int }, accessFlags := 1, code := some k11c2 }
def k11c3 : Code := { maxStack := 4, maxLocals := 3, code := jdk_68_method_9_code, exceptionTable := #[], attributes := #[] }
def k11m3 : Method := { name := "ensureCapacityInternal", desc := "(I)V", sig := { parameters := [.int], returnType := none }, accessFlags := 2, code := some k11c3 }
def k11c4 : Code := { maxStack := 5, maxLocals := 6, code := jdk_68_method_10_code, exceptionTable := #[], attributes := #[] }
def k11m4 : Method := { name := "newCapacity", desc := "(I)I", sig := { parameters := [.int], returnType := some .int }, accessFlags := 2, code := some k11c4 }
def k11c5 : Code := { maxStack := 3, maxLocals := 3, code := jdk_68_method_22_code, exceptionTable := #[], attributes := #[] }
def k11m5 : Method := { name := "append", desc := "(Ljava/lang/String;)Ljava/lang/AbstractStringBuilder;", sig := { parameters := [(.object "java/lang/String")], returnType := some (.object "java/lang/AbstractStringBuilder") }, accessFlags := 1, code := some k11c5 }
def k11c6 : Code := { maxStack := 4, maxLocals := 4, code := jdk_68_method_32_code, exceptionTable := #[], attributes := #[] }
def k11m6 : Method := { name := "append", desc := "(I)Ljava/lang/AbstractStringBuilder;", sig := { parameters := [.int], returnType := some (.object "java/lang/AbstractStringBuilder") }, accessFlags := 1, code := some k11c6 }
def k11c7 : Code := { maxStack := 5, maxLocals := 5, code := jdk_68_method_33_code, exceptionTable := #[], attributes := #[] }
def k11m7 : Method := { name := "append", desc := "(J)Ljava/lang/AbstractStringBuilder;", sig := { parameters := [.long], returnType := some (.object "java/lang/AbstractStringBuilder") }, accessFlags := 1, code := some k11c7 }
def k11c8 : Code := { maxStack := 1, maxLocals := 1, code := jdk_68_method_64_code, exceptionTable := #[], attributes := #[] }
def k11m8 : Method := { name := "getValue", desc := "()[B", sig := { parameters := [], returnType := some (.array .byte) }, accessFlags := 16, code := some k11c8 }
def k11c9 : Code := { maxStack := 1, maxLocals := 1, code := jdk_68_method_68_code, exceptionTable := #[], attributes := #[] }
def k11m9 : Method := { name := "isLatin1", desc := "()Z", sig := { parameters := [], returnType := some .boolean }, accessFlags := 16, code := some k11c9 }
def k11c10 : Code := { maxStack := 2, maxLocals := 2, code := jdk_68_method_71_code, exceptionTable := #[], attributes := #[] }
def k11m10 : Method := { name := "inflateIfNeededFor", desc := "(Ljava/lang/String;)V", sig := { parameters := [(.object "java/lang/String")], returnType := none }, accessFlags := 2, code := some k11c10 }
def k11c11 : Code := { maxStack := 4, maxLocals := 3, code := jdk_68_method_73_code, exceptionTable := #[], attributes := #[] }
def k11m11 : Method := { name := "putStringAt", desc := "(ILjava/lang/String;)V", sig := { parameters := [.int, (.object "java/lang/String")], returnType := none }, accessFlags := 2, code := some k11c11 }
/-- java/lang/AbstractStringBuilder -/
def k11 : Class := { plain "java/lang/AbstractStringBuilder" (some 0) with
  accessFlags := 1056
  interfaces := #[10, 5]
  cf := some (fileOf pool11 10 #[] #[{ accessFlags := 0, nameIndex := 7, descriptorIndex := 8, attributes := #[] }, { accessFlags := 0, nameIndex := 7, descriptorIndex := 103, attributes := #[] }, { accessFlags := 1, nameIndex := 34, descriptorIndex := 35, attributes := #[] }, { accessFlags := 2, nameIndex := 102, descriptorIndex := 103, attributes := #[] }, { accessFlags := 2, nameIndex := 106, descriptorIndex := 107, attributes := #[] }, { accessFlags := 1, nameIndex := 45, descriptorIndex := 46, attributes := #[] }, { accessFlags := 1, nameIndex := 45, descriptorIndex := 511, attributes := #[] }, { accessFlags := 1, nameIndex := 45, descriptorIndex := 513, attributes := #[] }, { accessFlags := 16, nameIndex := 552, descriptorIndex := 403, attributes := #[] }, { accessFlags := 16, nameIndex := 85, descriptorIndex := 86, attributes := #[] }, { accessFlags := 2, nameIndex := 217, descriptorIndex := 69, attributes := #[] }, { accessFlags := 2, nameIndex := 210, descriptorIndex := 211, attributes := #[] }] 1056 4 #[444, 48] #[{ accessFlags := 0, nameIndex := 17, descriptorIndex := 14, attributes := #[] }, { accessFlags := 0, nameIndex := 24, descriptorIndex := 25, attributes := #[] }, { accessFlags := 0, nameIndex := 75, descriptorIndex := 21, attributes := #[] }, { accessFlags := 0, nameIndex := 81, descriptorIndex := 82, attributes := #[] }, { accessFlags := 26, nameIndex := 13, descriptorIndex := 14, attributes := #[] }])
  fields := #[{ name := "value", type := (.array .byte), accessFlags := 0, slot := 0, constantValue := 0 }, { name := "coder", type := .byte, accessFlags := 0, slot := 1, constantValue := 0 }, { name := "maybeLatin1", type := .boolean, accessFlags := 0, slot := 2, constantValue := 0 }, { name := "count", type := .int, accessFlags := 0, slot := 3, constantValue := 0 }, { name := "EMPTYVALUE", type := (.array .byte), accessFlags := 26, slot := 0, constantValue := 0 }]
  methods := #[k11m0, k11m1, k11m2, k11m3, k11m4, k11m5, k11m6, k11m7, k11m8, k11m9, k11m10, k11m11]
  instanceTypes := #[(.array .byte), .byte, .boolean, .int]
  staticTypes := #[(.array .byte)]
  resolved := Array.replicate 609 none
  statics := none }

def pool12 : Array CpInfo := pool [(1, .methodref 2 3), (0, .class_ 4), (0, .nameAndType 5 6), (0, u "java/lang/AbstractStringBuilder"), (0, u "<init>"), (0, u "(I)V"), (11, .class_ 20), (1, u "java/lang/String"), (3, .class_ 26), (1, u "java/lang/StringBuilder"), (0, u "append"), (0, u "(Ljava/lang/String;)Ljava/lang/StringBuilder;"), (0, .methodref 2 30), (0, .nameAndType 27 31), (0, u "(Ljava/lang/String;)Ljava/lang/AbstractStringBuilder;"), (21, .methodref 2 54), (0, .nameAndType 27 55), (0, u "(I)Ljava/lang/AbstractStringBuilder;"), (0, .methodref 2 57), (0, .nameAndType 27 58), (0, u "(J)Ljava/lang/AbstractStringBuilder;"), (78, .methodref 18 138), (0, .nameAndType 5 139), (0, u "(Ljava/lang/StringBuilder;)V"), (5, u "()V"), (10, u "()I"), (111, u "(I)Ljava/lang/StringBuilder;"), (12, u "(J)Ljava/lang/StringBuilder;"), (61, .methodref 2 344), (0, .nameAndType 345 156), (0, u "length"), (3, .class_ 350), (0, u "java/lang/Appendable"), (0, .class_ 352), (0, u "java/io/Serializable"), (0, .class_ 354), (0, u "java/lang/Comparable"), (0, .class_ 356), (0, u "java/lang/CharSequence"), (0, u "serialVersionUID"), (0, u "J"), (40, u "toString"), (0, u "()Ljava/lang/String;")] 21

def k12c0 : Code := { maxStack := 2, maxLocals := 1, code := jdk_67_method_1_code, exceptionTable := #[], attributes := #[] }
def k12m0 : Method := { name := "<init>", desc := "()V", sig := { parameters := [], returnType := none }, accessFlags := 1, code := some k12c0 }
def k12c1 : Code := { maxStack := 2, maxLocals := 2, code := jdk_67_method_7_code, exceptionTable := #[], attributes := #[] }
def k12m1 : Method := { name := "append", desc := "(Ljava/lang/String;)Ljava/lang/StringBuilder;", sig := { parameters := [(.object "java/lang/String")], returnType := some (.object "java/lang/StringBuilder") }, accessFlags := 1, code := some k12c1 }
def k12c2 : Code := { maxStack := 2, maxLocals := 2, code := jdk_67_method_15_code, exceptionTable := #[], attributes := #[] }
def k12m2 : Method := { name := "append", desc := "(I)Ljava/lang/StringBuilder;", sig := { parameters := [.int], returnType := some (.object "java/lang/StringBuilder") }, accessFlags := 1, code := some k12c2 }
def k12c3 : Code := { maxStack := 3, maxLocals := 3, code := jdk_67_method_16_code, exceptionTable := #[], attributes := #[] }
def k12m3 : Method := { name := "append", desc := "(J)Ljava/lang/StringBuilder;", sig := { parameters := [.long], returnType := some (.object "java/lang/StringBuilder") }, accessFlags := 1, code := some k12c3 }
def k12c4 : Code := { maxStack := 3, maxLocals := 1, code := jdk_67_method_42_code, exceptionTable := #[], attributes := #[] }
def k12m4 : Method := { name := "toString", desc := "()Ljava/lang/String;", sig := { parameters := [], returnType := some (.object "java/lang/String") }, accessFlags := 1, code := some k12c4 }
def k12c5 : Code := { maxStack := 1, maxLocals := 1, code := jdk_67_method_93_code, exceptionTable := #[], attributes := #[] }
def k12m5 : Method := { name := "length", desc := "()I", sig := { parameters := [], returnType := some .int }, accessFlags := 4161, code := some k12c5 }
/-- java/lang/StringBuilder -/
def k12 : Class := { plain "java/lang/StringBuilder" (some 11) with
  accessFlags := 49
  interfaces := #[10, 3, 4, 5]
  cf := some (fileOf pool12 24 #[] #[{ accessFlags := 1, nameIndex := 5, descriptorIndex := 145, attributes := #[] }, { accessFlags := 1, nameIndex := 27, descriptorIndex := 28, attributes := #[] }, { accessFlags := 1, nameIndex := 27, descriptorIndex := 268, attributes := #[] }, { accessFlags := 1, nameIndex := 27, descriptorIndex := 281, attributes := #[] }, { accessFlags := 1, nameIndex := 399, descriptorIndex := 400, attributes := #[] }, { accessFlags := 4161, nameIndex := 345, descriptorIndex := 156, attributes := #[] }] 49 2 #[349, 351, 353, 355] #[{ accessFlags := 24, nameIndex := 357, descriptorIndex := 358, attributes := #[] }])
  fields := #[{ name := "serialVersionUID", type := .long, accessFlags := 24, slot := 0, constantValue := 0 }]
  methods := #[k12m0, k12m1, k12m2, k12m3, k12m4, k12m5]
  instanceTypes := #[(.array .byte), .byte, .boolean, .int]
  staticTypes := #[.long]
  resolved := Array.replicate 422 none
  statics := none }

def pool13 : Array CpInfo := pool [(9, u "<init>"), (6, .class_ 18), (1, u "java/lang/Object"), (0, u "()V"), (1, .class_ 23), (1, u "jdk/internal/util/ArraysSupport"), (0, u "LOG2_ARRAY_LONG_INDEX_SCALE"), (0, u "I"), (2, u "U"), (0, u "Ljdk/internal/misc/Unsafe;"), (8, u "BIG_ENDIAN"), (0, u "Z"), (8, u "LOG2_BYTE_BIT_SIZE"), (4, u "LOG2_ARRAY_INT_INDEX_SCALE"), (54, u "JLA"), (0, u "Ljdk/internal/access/JavaLangAccess;"), (11, u "LOG2_ARRAY_BOOLEAN_INDEX_SCALE"), (9, u "LOG2_ARRAY_BYTE_INDEX_SCALE"), (5, u "LOG2_ARRAY_CHAR_INDEX_SCALE"), (5, u "LOG2_ARRAY_SHORT_INDEX_SCALE"), (18, u "LOG2_ARRAY_FLOAT_INDEX_SCALE"), (24, u "LOG2_ARRAY_DOUBLE_INDEX_SCALE"), (6, .methodref 195 196), (0, .class_ 197), (0, .nameAndType 198 199), (0, u "java/lang/Math"), (0, u "max"), (0, u "(II)I"), (0, .integer 2147483639), (76, u "T_BOOLEAN"), (2, u "T_CHAR"), (1, u "T_FLOAT"), (1, u "T_DOUBLE"), (1, u "T_BYTE"), (1, u "T_SHORT"), (1, u "T_INT"), (1, u "T_LONG"), (1, u "SOFT_MAX_ARRAY_LENGTH"), (56, u "newLength"), (0, u "(III)I")] 25

def k13m0 : Method := { name := "<init>", desc := "()V", sig := { parameters := [], returnType := none }, accessFlags := 2, code := none }
def k13c1 : Code := { maxStack := 3, maxLocals := 4, code := jdk_48_method_27_code, exceptionTable := #[], attributes := #[] }
def k13m1 : Method := { name := "newLength", desc := "(III)I", sig := { parameters := [.int, .int, .int], returnType := some .int }, accessFlags := 9, code := some k13c1 }
/-- jdk/internal/util/ArraysSupport -/
def k13 : Class := { plain "jdk/internal/util/ArraysSupport" (some 0) with
  accessFlags := 33
  interfaces := #[]
  cf := some (fileOf pool13 21 #[] #[{ accessFlags := 2, nameIndex := 9, descriptorIndex := 19, attributes := #[] }, { accessFlags := 9, nameIndex := 351, descriptorIndex := 352, attributes := #[] }] 33 16 #[] #[{ accessFlags := 24, nameIndex := 28, descriptorIndex := 29, attributes := #[] }, { accessFlags := 26, nameIndex := 38, descriptorIndex := 39, attributes := #[] }, { accessFlags := 25, nameIndex := 121, descriptorIndex := 25, attributes := #[] }, { accessFlags := 25, nameIndex := 131, descriptorIndex := 25, attributes := #[] }, { accessFlags := 25, nameIndex := 137, descriptorIndex := 25, attributes := #[] }, { accessFlags := 25, nameIndex := 143, descriptorIndex := 25, attributes := #[] }, { accessFlags := 25, nameIndex := 53, descriptorIndex := 25, attributes := #[] }, { accessFlags := 25, nameIndex := 24, descriptorIndex := 25, attributes := #[] }, { accessFlags := 25, nameIndex := 162, descriptorIndex := 25, attributes := #[] }, { accessFlags := 25, nameIndex := 187, descriptorIndex := 25, attributes := #[] }, { accessFlags := 26, nameIndex := 48, descriptorIndex := 25, attributes := #[] }, { accessFlags := 25, nameIndex := 277, descriptorIndex := 25, attributes := #[] }, { accessFlags := 25, nameIndex := 280, descriptorIndex := 25, attributes := #[] }, { accessFlags := 25, nameIndex := 282, descriptorIndex := 25, attributes := #[] }, { accessFlags := 25, nameIndex := 284, descriptorIndex := 25, attributes := #[] }, { accessFlags := 25, nameIndex := 286, descriptorIndex := 25, attributes := #[] }, { accessFlags := 25, nameIndex := 288, descriptorIndex := 25, attributes := #[] }, { accessFlags := 25, nameIndex := 290, descriptorIndex := 25, attributes := #[] }, { accessFlags := 25, nameIndex := 292, descriptorIndex := 25, attributes := #[] }, { accessFlags := 26, nameIndex := 108, descriptorIndex := 109, attributes := #[] }, { accessFlags := 25, nameIndex := 294, descriptorIndex := 25, attributes := #[] }])
  fields := #[{ name := "U", type := (.object "jdk/internal/misc/Unsafe"), accessFlags := 24, slot := 0, constantValue := 0 }, { name := "BIG_ENDIAN", type := .boolean, accessFlags := 26, slot := 1, constantValue := 0 }, { name := "LOG2_ARRAY_BOOLEAN_INDEX_SCALE", type := .int, accessFlags := 25, slot := 2, constantValue := 0 }, { name := "LOG2_ARRAY_BYTE_INDEX_SCALE", type := .int, accessFlags := 25, slot := 3, constantValue := 0 }, { name := "LOG2_ARRAY_CHAR_INDEX_SCALE", type := .int, accessFlags := 25, slot := 4, constantValue := 0 }, { name := "LOG2_ARRAY_SHORT_INDEX_SCALE", type := .int, accessFlags := 25, slot := 5, constantValue := 0 }, { name := "LOG2_ARRAY_INT_INDEX_SCALE", type := .int, accessFlags := 25, slot := 6, constantValue := 0 }, { name := "LOG2_ARRAY_LONG_INDEX_SCALE", type := .int, accessFlags := 25, slot := 7, constantValue := 0 }, { name := "LOG2_ARRAY_FLOAT_INDEX_SCALE", type := .int, accessFlags := 25, slot := 8, constantValue := 0 }, { name := "LOG2_ARRAY_DOUBLE_INDEX_SCALE", type := .int, accessFlags := 25, slot := 9, constantValue := 0 }, { name := "LOG2_BYTE_BIT_SIZE", type := .int, accessFlags := 26, slot := 10, constantValue := 0 }, { name := "T_BOOLEAN", type := .int, accessFlags := 25, slot := 11, constantValue := 0 }, { name := "T_CHAR", type := .int, accessFlags := 25, slot := 12, constantValue := 0 }, { name := "T_FLOAT", type := .int, accessFlags := 25, slot := 13, constantValue := 0 }, { name := "T_DOUBLE", type := .int, accessFlags := 25, slot := 14, constantValue := 0 }, { name := "T_BYTE", type := .int, accessFlags := 25, slot := 15, constantValue := 0 }, { name := "T_SHORT", type := .int, accessFlags := 25, slot := 16, constantValue := 0 }, { name := "T_INT", type := .int, accessFlags := 25, slot := 17, constantValue := 0 }, { name := "T_LONG", type := .int, accessFlags := 25, slot := 18, constantValue := 0 }, { name := "JLA", type := (.object "jdk/internal/access/JavaLangAccess"), accessFlags := 26, slot := 19, constantValue := 0 }, { name := "SOFT_MAX_ARRAY_LENGTH", type := .int, accessFlags := 25, slot := 20, constantValue := 0 }]
  methods := #[k13m0, k13m1]
  instanceTypes := #[]
  staticTypes := #[(.object "jdk/internal/misc/Unsafe"), .boolean, .int, .int, .int, .int, .int, .int, .int, .int, .int, .int, .int, .int, .int, .int, .int, .int, .int, (.object "jdk/internal/access/JavaLangAccess"), .int]
  resolved := Array.replicate 378 none
  statics := none }

def pool14 : Array CpInfo := pool [(2, .class_ 4), (1, u "java/lang/Object"), (0, u "<init>"), (0, u "()V"), (7, .class_ 16), (1, u "java/util/Arrays"), (57, .class_ 76), (1, u "java/util/Arrays$NaturalOrder"), (36, .class_ 115), (1, u "java/util/Arrays$LegacyMergeSort"), (1, u "Z"), (21, u "copyOfRange"), (10, .methodref 151 152), (0, .class_ 153), (0, .nameAndType 154 155), (0, u "java/lang/System"), (0, u "arraycopy"), (0, u "(Ljava/lang/Object;ILjava/lang/Object;II)V"), (146, u "copyOf"), (1, .methodref 305 306), (0, .class_ 307), (0, .nameAndType 308 309), (0, u "java/lang/Math"), (0, u "min"), (0, u "(II)I"), (29, .methodref 14 340), (0, .nameAndType 341 342), (0, u "copyOfRangeByte"), (0, u "([BII)[B"), (0, .methodref 14 344), (0, .nameAndType 345 346), (0, u "checkLength"), (0, u "(II)V"), (28, .class_ 376), (0, u "java/util/Arrays$ArrayList"), (68, u "$assertionsDisabled"), (269, u "MIN_ARRAY_SORT_GRAN"), (0, u "I"), (2, u "INSERTIONSORT_THRESHOLD"), (149, u "([BI)[B"), (105, .class_ 976), (0, u "java/util/Arrays$ArrayItr")] 52

def k14m0 : Method := { name := "<init>", desc := "()V", sig := { parameters := [], returnType := none }, accessFlags := 2, code := none }
def k14c1 : Code := { maxStack := 6, maxLocals := 3, code := jdk_65_method_121_code, exceptionTable := #[], attributes := #[] }
def k14m1 : Method := { name := "copyOf", desc := "([BI)[B", sig := { parameters := [(.array .byte), .int], returnType := some (.array .byte) }, accessFlags := 9, code := some k14c1 }
def k14c2 : Code := { maxStack := 4, maxLocals := 2, code := jdk_65_method_131_code, exceptionTable := #[], attributes := #[] }
def k14m2 : Method := { name := "checkLength", desc := "(II)V", sig := { parameters := [.int, .int], returnType := none }, accessFlags := 10, code := some k14c2 }
def k14c3 : Code := { maxStack := 3, maxLocals := 3, code := jdk_65_method_132_code, exceptionTable := #[], attributes := #[] }
def k14m3 : Method := { name := "copyOfRange", desc := "([BII)[B", sig := { parameters := [(.array .byte), .int, .int], returnType := some (.array .byte) }, accessFlags := 9, code := some k14c3 }
def k14c4 : Code := { maxStack := 6, maxLocals := 5, code := jdk_65_method_133_code, exceptionTable := #[], attributes := #[] }
def k14m4 : Method := { name := "copyOfRangeByte", desc := "([BII)[B", sig := { parameters := [(.array .byte), .int, .int], returnType := some (.array .byte) }, accessFlags := 10, code := some k14c4 }
/-- java/util/Arrays -/
def k14 : Class := { plain "java/util/Arrays" (some 0) with
  accessFlags := 49
  interfaces := #[]
  cf := some (fileOf pool14 14 #[.nestMembers #[975, 375, 113, 74]] #[{ accessFlags := 2, nameIndex := 5, descriptorIndex := 6, attributes := #[] }, { accessFlags := 9, nameIndex := 302, descriptorIndex := 869, attributes := #[] }, { accessFlags := 10, nameIndex := 345, descriptorIndex := 346, attributes := #[] }, { accessFlags := 9, nameIndex := 139, descriptorIndex := 342, attributes := #[] }, { accessFlags := 10, nameIndex := 341, descriptorIndex := 342, attributes := #[] }] 49 2 #[] #[{ accessFlags := 26, nameIndex := 715, descriptorIndex := 716, attributes := #[] }, { accessFlags := 26, nameIndex := 719, descriptorIndex := 716, attributes := #[] }, { accessFlags := 4120, nameIndex := 445, descriptorIndex := 117, attributes := #[] }])
  fields := #[{ name := "MIN_ARRAY_SORT_GRAN", type := .int, accessFlags := 26, slot := 0, constantValue := 0 }, { name := "INSERTIONSORT_THRESHOLD", type := .int, accessFlags := 26, slot := 1, constantValue := 0 }, { name := "$assertionsDisabled", type := .boolean, accessFlags := 4120, slot := 2, constantValue := 0 }]
  methods := #[k14m0, k14m1, k14m2, k14m3, k14m4]
  instanceTypes := #[]
  staticTypes := #[.int, .int, .boolean]
  resolved := Array.replicate 1029 none
  statics := none }

def pool15 : Array CpInfo := pool [(2, .class_ 4), (1, u "java/lang/Object"), (0, u "<init>"), (0, u "()V"), (1, .class_ 10), (1, u "java/lang/System"), (0, u "allowSecurityManager"), (0, u "I"), (16, u "cons"), (0, u "Ljava/io/Console;"), (77, .class_ 110), (1, u "java/lang/System$CallersHolder"), (43, u "initialErrStream"), (0, u "Ljava/io/PrintStream;"), (19, u "security"), (0, u "Ljava/lang/SecurityManager;"), (31, .class_ 209), (0, u "java/lang/System$1"), (7, u "props"), (0, u "Ljava/util/Properties;"), (2, u "lineSeparator"), (0, u "Ljava/lang/String;"), (96, .class_ 321), (1, u "java/lang/System$LoggerFinder"), (5, .class_ 328), (0, u "java/lang/System$Logger"), (67, u "err"), (2, u "out"), (91, u "notSupportedJnuEncoding"), (15, u "in"), (17, u "initialIn"), (0, u "Ljava/io/InputStream;"), (35, u "bootLayer"), (0, u "Ljava/lang/ModuleLayer;"), (99, .class_ 664), (0, u "java/lang/System$2"), (9, u "NEVER"), (2, u "MAYBE"), (49, u "arraycopy"), (0, u "(Ljava/lang/Object;ILjava/lang/Object;II)V"), (72, .class_ 802), (0, u "java/lang/System$Logger$Level")] 31

def k15m0 : Method := { name := "<init>", desc := "()V", sig := { parameters := [], returnType := none }, accessFlags := 2, code := none }
def k15m1 : Method := { name := "arraycopy", desc := "(Ljava/lang/Object;ILjava/lang/Object;II)V", sig := { parameters := [(.object "java/lang/Object"), .int, (.object "java/lang/Object"), .int, .int], returnType := none }, accessFlags := 265, code := none }
/-- java/lang/System -/
def k15 : Class := { plain "java/lang/System" (some 0) with
  accessFlags := 49
  interfaces := #[]
  cf := some (fileOf pool15 8 #[.nestMembers #[319, 327, 801, 108, 663, 208]] #[{ accessFlags := 2, nameIndex := 5, descriptorIndex := 6, attributes := #[] }, { accessFlags := 265, nameIndex := 727, descriptorIndex := 728, attributes := #[] }] 49 2 #[] #[{ accessFlags := 25, nameIndex := 507, descriptorIndex := 526, attributes := #[] }, { accessFlags := 25, nameIndex := 399, descriptorIndex := 155, attributes := #[] }, { accessFlags := 25, nameIndex := 396, descriptorIndex := 155, attributes := #[] }, { accessFlags := 10, nameIndex := 525, descriptorIndex := 526, attributes := #[] }, { accessFlags := 26, nameIndex := 674, descriptorIndex := 12, attributes := #[] }, { accessFlags := 26, nameIndex := 677, descriptorIndex := 12, attributes := #[] }, { accessFlags := 10, nameIndex := 11, descriptorIndex := 12, attributes := #[] }, { accessFlags := 74, nameIndex := 175, descriptorIndex := 176, attributes := #[] }, { accessFlags := 10, nameIndex := 491, descriptorIndex := 222, attributes := #[] }, { accessFlags := 74, nameIndex := 29, descriptorIndex := 30, attributes := #[] }, { accessFlags := 74, nameIndex := 154, descriptorIndex := 155, attributes := #[] }, { accessFlags := 10, nameIndex := 217, descriptorIndex := 218, attributes := #[] }, { accessFlags := 10, nameIndex := 221, descriptorIndex := 222, attributes := #[] }, { accessFlags := 8, nameIndex := 562, descriptorIndex := 563, attributes := #[] }])
  fields := #[{ name := "in", type := (.object "java/io/InputStream"), accessFlags := 25, slot := 0, constantValue := 0 }, { name := "out", type := (.object "java/io/PrintStream"), accessFlags := 25, slot := 1, constantValue := 0 }, { name := "err", type := (.object "java/io/PrintStream"), accessFlags := 25, slot := 2, constantValue := 0 }, { name := "initialIn", type := (.object "java/io/InputStream"), accessFlags := 10, slot := 3, constantValue := 0 }, { name := "NEVER", type := .int, accessFlags := 26, slot := 4, constantValue := 0 }, { name := "MAYBE", type := .int, accessFlags := 26, slot := 5, constantValue := 0 }, { name := "allowSecurityManager", type := .int, accessFlags := 10, slot := 6, constantValue := 0 }, { name := "security", type := (.object "java/lang/SecurityManager"), accessFlags := 74, slot := 7, constantValue := 0 }, { name := "notSupportedJnuEncoding", type := (.object "java/lang/String"), accessFlags := 10, slot := 8, constantValue := 0 }, { name := "cons", type := (.object "java/io/Console"), accessFlags := 74, slot := 9, constantValue := 0 }, { name := "initialErrStream", type := (.object "java/io/PrintStream"), accessFlags := 74, slot := 10, constantValue := 0 }, { name := "props", type := (.object "java/util/Properties"), accessFlags := 10, slot := 11, constantValue := 0 }, { name := "lineSeparator", type := (.object "java/lang/String"), accessFlags := 10, slot := 12, constantValue := 0 }, { name := "bootLayer", type := (.object "java/lang/ModuleLayer"), accessFlags := 8, slot := 13, constantValue := 0 }]
  methods := #[k15m0, k15m1]
  instanceTypes := #[]
  staticTypes := #[(.object "java/io/InputStream"), (.object "java/io/PrintStream"), (.object "java/io/PrintStream"), (.object "java/io/InputStream"), .int, .int, .int, (.object "java/lang/SecurityManager"), (.object "java/lang/String"), (.object "java/io/Console"), (.object "java/io/PrintStream"), (.object "java/util/Properties"), (.object "java/lang/String"), (.object "java/lang/ModuleLayer")]
  resolved := Array.replicate 834 none
  statics := none }

def pool16 : Array CpInfo := pool [(2, .class_ 4), (1, u "java/lang/Object"), (0, u "<init>"), (0, u "()V"), (1, .class_ 10), (1, u "java/lang/Number"), (2, .class_ 14), (0, u "java/io/Serializable"), (0, u "serialVersionUID"), (0, u "J")] 20

def k16m0 : Method := { name := "<init>", desc := "()V", sig := { parameters := [], returnType := none }, accessFlags := 1, code := none }
/-- java/lang/Number -/
def k16 : Class := { plain "java/lang/Number" (some 0) with
  accessFlags := 1057
  interfaces := #[3]
  cf := some (fileOf pool16 8 #[] #[{ accessFlags := 1, nameIndex := 5, descriptorIndex := 6, attributes := #[] }] 1057 2 #[13] #[{ accessFlags := 26, nameIndex := 15, descriptorIndex := 16, attributes := #[] }])
  fields := #[{ name := "serialVersionUID", type := .long, accessFlags := 26, slot := 0, constantValue := 0 }]
  methods := #[k16m0]
  instanceTypes := #[]
  staticTypes := #[.long]
  resolved := Array.replicate 37 none
  statics := none }

def pool17 : Array CpInfo := pool [(1, .class_ 2), (0, u "java/lang/Integer"), (16, u "digits"), (0, u "[C"), (33, u "(I)I"), (19, u "stringSize"), (2, u "getChars"), (0, u "(II[B)I"), (4, .fieldref 1 84), (0, .nameAndType 85 86), (0, u "DigitOnes"), (0, u "[B"), (2, u "DigitTens"), (99, .class_ 190), (0, u "java/lang/Integer$IntegerCache"), (3, u "I"), (8, .class_ 204), (0, u "java/lang/Number"), (2, u "value"), (94, u "TYPE"), (0, u "Ljava/lang/Class;"), (0, .class_ 305), (0, u "java/lang/Comparable"), (0, .class_ 307), (0, u "java/lang/constant/Constable"), (0, .class_ 309), (0, u "java/lang/constant/ConstantDesc"), (0, u "MIN_VALUE"), (1, u "MAX_VALUE"), (3, u "SIZE"), (1, u "BYTES"), (1, u "serialVersionUID"), (0, u "J")] 131

def k17c0 : Code := { maxStack := 4, maxLocals := 7, code := jdk_33_method_12_code, exceptionTable := #[], attributes := #[] }
def k17m0 : Method := { name := "getChars", desc := "(II[B)I", sig := { parameters := [.int, .int, (.array .byte)], returnType := some .int }, accessFlags := 8, code := some k17c0 }
def k17c1 : Code := { maxStack := 2, maxLocals := 4, code := jdk_33_method_13_code, exceptionTable := #[], attributes := #[] }
def k17m1 : Method := { name := "stringSize", desc := "(I)I", sig := { parameters := [.int], returnType := some .int }, accessFlags := 8, code := some k17c1 }
/-- java/lang/Integer -/
def k17 : Class := { plain "java/lang/Integer" (some 16) with
  accessFlags := 49
  interfaces := #[4, 6, 7]
  cf := some (fileOf pool17 1 #[.nestMembers #[189]] #[{ accessFlags := 8, nameIndex := 77, descriptorIndex := 78, attributes := #[] }, { accessFlags := 8, nameIndex := 74, descriptorIndex := 54, attributes := #[] }] 49 203 #[304, 306, 308] #[{ accessFlags := 25, nameIndex := 310, descriptorIndex := 194, attributes := #[] }, { accessFlags := 25, nameIndex := 312, descriptorIndex := 194, attributes := #[] }, { accessFlags := 25, nameIndex := 302, descriptorIndex := 303, attributes := #[] }, { accessFlags := 24, nameIndex := 19, descriptorIndex := 20, attributes := #[] }, { accessFlags := 24, nameIndex := 89, descriptorIndex := 86, attributes := #[] }, { accessFlags := 24, nameIndex := 85, descriptorIndex := 86, attributes := #[] }, { accessFlags := 18, nameIndex := 207, descriptorIndex := 194, attributes := #[] }, { accessFlags := 25, nameIndex := 316, descriptorIndex := 194, attributes := #[] }, { accessFlags := 25, nameIndex := 318, descriptorIndex := 194, attributes := #[] }, { accessFlags := 26, nameIndex := 320, descriptorIndex := 321, attributes := #[] }])
  fields := #[{ name := "MIN_VALUE", type := .int, accessFlags := 25, slot := 0, constantValue := 0 }, { name := "MAX_VALUE", type := .int, accessFlags := 25, slot := 1, constantValue := 0 }, { name := "TYPE", type := (.object "java/lang/Class"), accessFlags := 25, slot := 2, constantValue := 0 }, { name := "digits", type := (.array .char), accessFlags := 24, slot := 3, constantValue := 0 }, { name := "DigitTens", type := (.array .byte), accessFlags := 24, slot := 4, constantValue := 0 }, { name := "DigitOnes", type := (.array .byte), accessFlags := 24, slot := 5, constantValue := 0 }, { name := "value", type := .int, accessFlags := 18, slot := 0, constantValue := 0 }, { name := "SIZE", type := .int, accessFlags := 25, slot := 6, constantValue := 0 }, { name := "BYTES", type := .int, accessFlags := 25, slot := 7, constantValue := 0 }, { name := "serialVersionUID", type := .long, accessFlags := 26, slot := 8, constantValue := 0 }]
  methods := #[k17m0, k17m1]
  instanceTypes := #[.int]
  staticTypes := #[.int, .int, (.object "java/lang/Class"), (.array .char), (.array .byte), (.array .byte), .int, .int, .long]
  resolved := Array.replicate 453 none
  statics := some 1 }

def pool18 : Array CpInfo := pool [(1, .class_ 2), (0, u "java/lang/Long"), (15, .class_ 20), (1, u "java/lang/Integer"), (32, .long 10), (47, u "(J)I"), (18, u "stringSize"), (2, u "getChars"), (0, u "(JI[B)I"), (4, .long 18446744071562067968), (1, .long 100), (1, .fieldref 18 134), (0, .nameAndType 135 136), (0, u "DigitOnes"), (0, u "[B"), (0, .fieldref 18 138), (0, .nameAndType 139 136), (0, u "DigitTens"), (0, .long 18446744073709551606), (94, .class_ 237), (1, u "java/lang/Long$LongCache"), (33, .class_ 272), (0, u "java/lang/Number"), (2, u "value"), (0, u "J"), (84, u "TYPE"), (0, u "Ljava/lang/Class;"), (0, .class_ 364), (0, u "java/lang/Comparable"), (0, .class_ 366), (0, u "java/lang/constant/Constable"), (0, .class_ 368), (0, u "java/lang/constant/ConstantDesc"), (0, u "MIN_VALUE"), (1, u "MAX_VALUE"), (4, u "SIZE"), (0, u "I"), (1, u "BYTES"), (1, u "serialVersionUID")] 142

def k18c0 : Code := { maxStack := 4, maxLocals := 11, code := jdk_35_method_14_code, exceptionTable := #[], attributes := #[] }
def k18m0 : Method := { name := "getChars", desc := "(JI[B)I", sig := { parameters := [.long, .int, (.array .byte)], returnType := some .int }, accessFlags := 8, code := some k18c0 }
def k18c1 : Code := { maxStack := 4, maxLocals := 6, code := jdk_35_method_15_code, exceptionTable := #[], attributes := #[] }
def k18m1 : Method := { name := "stringSize", desc := "(J)I", sig := { parameters := [.long], returnType := some .int }, accessFlags := 8, code := some k18c1 }
/-- java/lang/Long -/
def k18 : Class := { plain "java/lang/Long" (some 16) with
  accessFlags := 49
  interfaces := #[4, 6, 7]
  cf := some (fileOf pool18 1 #[.nestMembers #[235]] #[{ accessFlags := 8, nameIndex := 123, descriptorIndex := 124, attributes := #[] }, { accessFlags := 8, nameIndex := 120, descriptorIndex := 101, attributes := #[] }] 49 271 #[363, 365, 367] #[{ accessFlags := 25, nameIndex := 369, descriptorIndex := 276, attributes := #[] }, { accessFlags := 25, nameIndex := 371, descriptorIndex := 276, attributes := #[] }, { accessFlags := 25, nameIndex := 361, descriptorIndex := 362, attributes := #[] }, { accessFlags := 18, nameIndex := 275, descriptorIndex := 276, attributes := #[] }, { accessFlags := 25, nameIndex := 376, descriptorIndex := 377, attributes := #[] }, { accessFlags := 25, nameIndex := 379, descriptorIndex := 377, attributes := #[] }, { accessFlags := 26, nameIndex := 381, descriptorIndex := 276, attributes := #[] }])
  fields := #[{ name := "MIN_VALUE", type := .long, accessFlags := 25, slot := 0, constantValue := 0 }, { name := "MAX_VALUE", type := .long, accessFlags := 25, slot := 1, constantValue := 0 }, { name := "TYPE", type := (.object "java/lang/Class"), accessFlags := 25, slot := 2, constantValue := 0 }, { name := "value", type := .long, accessFlags := 18, slot := 0, constantValue := 0 }, { name := "SIZE", type := .int, accessFlags := 25, slot := 3, constantValue := 0 }, { name := "BYTES", type := .int, accessFlags := 25, slot := 4, constantValue := 0 }, { name := "serialVersionUID", type := .long, accessFlags := 26, slot := 5, constantValue := 0 }]
  methods := #[k18m0, k18m1]
  instanceTypes := #[.long]
  staticTypes := #[.long, .long, (.object "java/lang/Class"), .int, .int, .long]
  resolved := Array.replicate 524 none
  statics := none }

def pool19 : Array CpInfo := pool [(1, .class_ 2), (0, u "java/lang/String"), (1, .class_ 6), (1, u "java/lang/Object"), (0, u "<init>"), (0, u "()V"), (0, .methodref 1 10), (0, .nameAndType 11 12), (0, u "checkIndex"), (0, u "(II)V"), (1, .class_ 16), (1, u "java/lang/StringLatin1"), (36, u "([BI)C"), (67, u "$assertionsDisabled"), (0, u "Z"), (98, .class_ 223), (1, u "java/lang/StringLatin1$LinesSpliterator"), (28, u "charAt"), (137, .class_ 391), (0, u "java/lang/StringLatin1$CharsSpliterator")] 3

def k19m0 : Method := { name := "<init>", desc := "()V", sig := { parameters := [], returnType := none }, accessFlags := 0, code := none }
def k19c1 : Code := { maxStack := 2, maxLocals := 2, code := jdk_43_method_2_code, exceptionTable := #[], attributes := #[] }
def k19m1 : Method := { name := "charAt", desc := "([BI)C", sig := { parameters := [(.array .byte), .int], returnType := some .char }, accessFlags := 9, code := some k19c1 }
/-- java/lang/StringLatin1 -/
def k19 : Class := { plain "java/lang/StringLatin1" (some 0) with
  accessFlags := 48
  interfaces := #[]
  cf := some (fileOf pool19 14 #[.nestMembers #[390, 221]] #[{ accessFlags := 0, nameIndex := 7, descriptorIndex := 8, attributes := #[] }, { accessFlags := 9, nameIndex := 252, descriptorIndex := 53, attributes := #[] }] 48 4 #[] #[{ accessFlags := 4120, nameIndex := 121, descriptorIndex := 122, attributes := #[] }])
  fields := #[{ name := "$assertionsDisabled", type := .boolean, accessFlags := 4120, slot := 0, constantValue := 0 }]
  methods := #[k19m0, k19m1]
  instanceTypes := #[]
  staticTypes := #[.boolean]
  resolved := Array.replicate 395 none
  statics := none }

def pool20 : Array CpInfo := pool [(2, .class_ 4), (1, u "java/lang/Object"), (0, u "<init>"), (0, u "()V"), (17, .class_ 26), (1, u "jdk/internal/util/Preconditions"), (6, u "checkIndex"), (21, .class_ 56), (0, u "jdk/internal/util/Preconditions$4"), (57, .class_ 115), (0, u "jdk/internal/util/Preconditions$1"), (7, u "SIOOBE_FORMATTER"), (0, u "Ljava/util/function/BiFunction;"), (0, .class_ 126), (0, u "jdk/internal/util/Preconditions$2"), (3, u "AIOOBE_FORMATTER"), (0, .class_ 132), (0, u "jdk/internal/util/Preconditions$3"), (3, u "IOOBE_FORMATTER"), (41, u "(IILjava/util/function/BiFunction;)I")] 15

def k20m0 : Method := { name := "<init>", desc := "()V", sig := { parameters := [], returnType := none }, accessFlags := 1, code := none }
def k20c1 : Code := { maxStack := 3, maxLocals := 3, code := jdk_41_method_11_code, exceptionTable := #[], attributes := #[] }
def k20m1 : Method := { name := "checkIndex", desc := "(IILjava/util/function/BiFunction;)I", sig := { parameters := [.int, .int, (.object "java/util/function/BiFunction")], returnType := some .int }, accessFlags := 9, code := some k20c1 }
/-- jdk/internal/util/Preconditions -/
def k20 : Class := { plain "jdk/internal/util/Preconditions" (some 0) with
  accessFlags := 33
  interfaces := #[]
  cf := some (fileOf pool20 24 #[.nestMembers #[55, 131, 125, 114]] #[{ accessFlags := 1, nameIndex := 5, descriptorIndex := 6, attributes := #[] }, { accessFlags := 9, nameIndex := 33, descriptorIndex := 178, attributes := #[] }] 33 2 #[] #[{ accessFlags := 25, nameIndex := 123, descriptorIndex := 124, attributes := #[] }, { accessFlags := 25, nameIndex := 130, descriptorIndex := 124, attributes := #[] }, { accessFlags := 25, nameIndex := 136, descriptorIndex := 124, attributes := #[] }])
  fields := #[{ name := "SIOOBE_FORMATTER", type := (.object "java/util/function/BiFunction"), accessFlags := 25, slot := 0, constantValue := 0 }, { name := "AIOOBE_FORMATTER", type := (.object "java/util/function/BiFunction"), accessFlags := 25, slot := 1, constantValue := 0 }, { name := "IOOBE_FORMATTER", type := (.object "java/util/function/BiFunction"), accessFlags := 25, slot := 2, constantValue := 0 }]
  methods := #[k20m0, k20m1]
  instanceTypes := #[]
  staticTypes := #[(.object "java/util/function/BiFunction"), (.object "java/util/function/BiFunction"), (.object "java/util/function/BiFunction")]
  resolved := Array.replicate 194 none
  statics := some 2 }

def pool21 : Array CpInfo := pool [(1, u "java/lang/Cloneable"), (0, .class_ 1), (0, u "java/lang/Object"), (0, .class_ 3)] 3

/-- java/lang/Cloneable -/
def k21 : Class := { plain "java/lang/Cloneable" (some 0) with
  accessFlags := 1537
  interfaces := #[]
  cf := some (fileOf pool21 2 #[] #[] 1537 4 #[] #[])
  fields := #[]
  methods := #[]
  instanceTypes := #[]
  staticTypes := #[]
  resolved := Array.replicate 8 none
  statics := none }

/-- the primitive byte -/
def k22 : Class := { plain "byte" none with kind := .primitive 'B', accessFlags := 0x411 }
/-- [B -/
def k23 : Class := { plain "[B" (some 0) with kind := .array 22 .byte, interfaces := #[21, 3], accessFlags := 1041 }

/-- the primitive int -/
def k24 : Class := { plain "int" none with kind := .primitive 'I', accessFlags := 0x411 }
/-- [I -/
def k25 : Class := { plain "[I" (some 0) with kind := .array 24 .int, interfaces := #[21, 3], accessFlags := 1041 }

/-- the primitive long -/
def k26 : Class := { plain "long" none with kind := .primitive 'J', accessFlags := 0x411 }
/-- [J -/
def k27 : Class := { plain "[J" (some 0) with kind := .array 26 .long, interfaces := #[21, 3], accessFlags := 1041 }

def heap : Heap := #[{ cls := 8, slots := #[.long 0, .int 1, .null, .int 0, .null, .int 0, .int 0], vm := .statics 8 },
  { cls := 17, slots := #[.int 0, .int 0, .null, .null, .ref 4, .ref 3, .int 0, .int 0, .long 0], vm := .statics 17 },
  { cls := 20, slots := #[.null, .null, .null], vm := .statics 20 },
  { cls := 23, slots := #[.int 48, .int 49, .int 50, .int 51, .int 52, .int 53, .int 54, .int 55, .int 56, .int 57, .int 48, .int 49, .int 50, .int 51, .int 52, .int 53, .int 54, .int 55, .int 56, .int 57, .int 48, .int 49, .int 50, .int 51, .int 52, .int 53, .int 54, .int 55, .int 56, .int 57, .int 48, .int 49, .int 50, .int 51, .int 52, .int 53, .int 54, .int 55, .int 56, .int 57, .int 48, .int 49, .int 50, .int 51, .int 52, .int 53, .int 54, .int 55, .int 56, .int 57, .int 48, .int 49, .int 50, .int 51, .int 52, .int 53, .int 54, .int 55, .int 56, .int 57, .int 48, .int 49, .int 50, .int 51, .int 52, .int 53, .int 54, .int 55, .int 56, .int 57, .int 48, .int 49, .int 50, .int 51, .int 52, .int 53, .int 54, .int 55, .int 56, .int 57, .int 48, .int 49, .int 50, .int 51, .int 52, .int 53, .int 54, .int 55, .int 56, .int 57, .int 48, .int 49, .int 50, .int 51, .int 52, .int 53, .int 54, .int 55, .int 56, .int 57], vm := .none },
  { cls := 23, slots := #[.int 48, .int 48, .int 48, .int 48, .int 48, .int 48, .int 48, .int 48, .int 48, .int 48, .int 49, .int 49, .int 49, .int 49, .int 49, .int 49, .int 49, .int 49, .int 49, .int 49, .int 50, .int 50, .int 50, .int 50, .int 50, .int 50, .int 50, .int 50, .int 50, .int 50, .int 51, .int 51, .int 51, .int 51, .int 51, .int 51, .int 51, .int 51, .int 51, .int 51, .int 52, .int 52, .int 52, .int 52, .int 52, .int 52, .int 52, .int 52, .int 52, .int 52, .int 53, .int 53, .int 53, .int 53, .int 53, .int 53, .int 53, .int 53, .int 53, .int 53, .int 54, .int 54, .int 54, .int 54, .int 54, .int 54, .int 54, .int 54, .int 54, .int 54, .int 55, .int 55, .int 55, .int 55, .int 55, .int 55, .int 55, .int 55, .int 55, .int 55, .int 56, .int 56, .int 56, .int 56, .int 56, .int 56, .int 56, .int 56, .int 56, .int 56, .int 57, .int 57, .int 57, .int 57, .int 57, .int 57, .int 57, .int 57, .int 57, .int 57], vm := .none }]
def classes : Array Class := #[k0, k1, k2, k3, k4, k5, k6, k7, k8, k9, k10, k11, k12, k13, k14, k15, k16, k17, k18, k19, k20, k21, k22, k23, k24, k25, k26, k27]
def interned : List (Array UInt16 × Addr) := []
def slotsUsed : Nat := 219
def theMethod : MethodId := ⟨1, 1⟩
def args0 : Array Value := #[.int 1, .int 2, .int 3, .int 4, .long 5]
def aboutOver (below : List Frame) : State where
  vm := { classes := classes, interned := interned.toArray }
  heap := heap
  slotsUsed := slotsUsed
  threads := #[{ frames := .invoking theMethod args0 :: below }]
def below0 : List Frame := [.native { method := ⟨0, 0⟩, args := #[] }]
def about1 : State := aboutOver below0
def p0 : Program := .bare "" "" ""
def e0 : Env := launch0.env 0 0 0
theorem w_frames : about1.frames = Frame.invoking theMethod args0 :: below0 := rfl
set_option maxRecDepth 65536 in
theorem w_args : argsFit about1.vm theMethod args0 = true := by decide +kernel
set_option maxRecDepth 65536 in
theorem w_heap : heapFits about1 = true := by decide +kernel
set_option maxRecDepth 65536 in
theorem w_runnable : about1.curStatus? = some .runnable := by decide +kernel
set_option maxRecDepth 65536 in
theorem w_alone : about1.alone = true := by decide +kernel
set_option maxRecDepth 65536 in
theorem w_named : about1.methodNamed? x = some theMethod := by decide +kernel
set_option maxRecDepth 65536 in
theorem w_hears : about1.hears theMethod below0 = true := by decide +kernel
set_option maxRecDepth 65536 in
theorem w_ripe : about1.ripe theMethod args0 below0 = true := by decide +kernel
theorem w_running : about1.status = .running := rfl
set_option maxRecDepth 65536 in
theorem w_room : about1.hasRoom e0.platform room_1 = true :=
  launch0.hasRoom_least _ room_1 (by decide +kernel) (by decide +kernel) (by decide +kernel) (by decide +kernel) (by decide +kernel) (by decide +kernel)
theorem allAtoms_all (ts : List Jvm.Cond) (a : Array Jvm.Value) (st : Jvm.State) : (allAtoms ts).before a st = ts.all (fun c => c.before a st) := by
  induction ts with
  | nil => rfl
  | cons c t ih =>
    show (Jvm.Cond.and c (allAtoms t)).before a st = _
    rw [Jvm.Cond.before_and, ih, List.all_cons]
def words1 : List Jvm.Cond := Jvm.Cond.code x code maxLocals ret :: tables_1
/-- a 'code' word, met by the world's own term for the bytes: nothing is compared byte by byte -/
theorem code_word {y : MethodName} {bytes : ByteArray} {mx : Nat} {rt : Option FieldType} {a : Array Value} {s : State} {m : MethodId} {meth : Method} {c : Code} (h1 : s.methodNamed? y = some m) (h2 : s.vm.method? m = some meth) (h3 : meth.code = some c) (h4 : c.code = bytes)
    (h5 : (c.maxLocals == mx && c.exceptionTable.isEmpty && decide (c.maxStack ≤ mostOperands) && decide (meth.sig.returnType = rt) && !meth.locks && decide (parseMethodDescriptor y.desc = some meth.sig)) = true) : (Jvm.Cond.code y bytes mx rt).before a s = true := by
  simp only [Bool.and_eq_true, beq_iff_eq, Bool.not_eq_true', decide_eq_true_eq] at h5
  obtain ⟨⟨⟨⟨⟨g1, g2⟩, g3⟩, g4⟩, g5⟩, g6⟩ := h5
  simp [Cond.before, Cond.holds, Cond.value, h1, h2, h3, h4, g1, g2, g3, g4, g5, g6]
def isCode : Jvm.Cond → Bool
  | .code _ _ _ _ => true
  | _ => false
theorem all_split {L : List Jvm.Cond} {P : Jvm.Cond → Bool} (h1 : L.all (fun c => isCode c || P c) = true) (h2 : ∀ c ∈ L.filter isCode, P c = true) : L.all P = true := by
  refine List.all_eq_true.mpr fun c hc => ?_
  have h := List.all_eq_true.mp h1 c hc
  rcases Bool.eq_false_or_eq_true (isCode c) with hi | hi
  · exact h2 c (List.mem_filter.mpr ⟨hc, hi⟩)
  · simpa [hi] using h
set_option maxRecDepth 65536 in
theorem w_c0 : (Jvm.Cond.code x code maxLocals ret).before args0 about1 = true := code_word (m := ⟨1, 1⟩) (meth := k1m1) (c := k1c1) (by decide +kernel) rfl rfl rfl (by decide +kernel)
set_option maxRecDepth 65536 in
theorem w_c1 : (Jvm.Cond.code ({ cls := "com/example/regretta/regretta/GroupProblemGenerator", name := "<init>", desc := "(IIII)V" } : Jvm.MethodName) prog_22_method_1_code (11 : Nat) (Option.none : Option Jvm.ClassFile.FieldType)).before args0 about1 = true := code_word (m := ⟨2, 0⟩) (meth := k2m0) (c := k2c0) (by decide +kernel) rfl rfl rfl (by decide +kernel)
set_option maxRecDepth 65536 in
theorem w_c2 : (Jvm.Cond.code ({ cls := "java/lang/Object", name := "<init>", desc := "()V" } : Jvm.MethodName) object_method_1_code (1 : Nat) (Option.none : Option Jvm.ClassFile.FieldType)).before args0 about1 = true := code_word (m := ⟨0, 0⟩) (meth := k0m0) (c := k0c0) (by decide +kernel) rfl rfl rfl (by decide +kernel)
set_option maxRecDepth 65536 in
theorem w_c3 : (Jvm.Cond.code ({ cls := "com/example/regretta/regretta/GroupProblemGenerator", name := "atLeast", desc := "(IILjava/lang/String;)V" } : Jvm.MethodName) prog_22_method_5_code (3 : Nat) (Option.none : Option Jvm.ClassFile.FieldType)).before args0 about1 = true := code_word (m := ⟨2, 2⟩) (meth := k2m2) (c := k2c2) (by decide +kernel) rfl rfl rfl (by decide +kernel)
set_option maxRecDepth 65536 in
theorem w_c4 : (Jvm.Cond.code ({ cls := "java/lang/Math", name := "min", desc := "(II)I" } : Jvm.MethodName) jdk_29_method_69_code (2 : Nat) (Option.some Jvm.ClassFile.FieldType.int)).before args0 about1 = true := code_word (m := ⟨9, 2⟩) (meth := k9m2) (c := k9c2) (by decide +kernel) rfl rfl rfl (by decide +kernel)
set_option maxRecDepth 65536 in
theorem w_c5 : (Jvm.Cond.code ({ cls := "java/lang/Math", name := "min", desc := "(JJ)J" } : Jvm.MethodName) jdk_29_method_70_code (4 : Nat) (Option.some Jvm.ClassFile.FieldType.long)).before args0 about1 = true := code_word (m := ⟨9, 3⟩) (meth := k9m3) (c := k9c3) (by decide +kernel) rfl rfl rfl (by decide +kernel)
set_option maxRecDepth 65536 in
theorem w_c6 : (Jvm.Cond.code ({ cls := "com/example/regretta/regretta/GroupProblemGenerator", name := "description", desc := "(J)Ljava/lang/String;" } : Jvm.MethodName) prog_22_method_3_code (3 : Nat) (Option.some (Jvm.ClassFile.FieldType.object "java/lang/String"))).before args0 about1 = true := code_word (m := ⟨2, 1⟩) (meth := k2m1) (c := k2c1) (by decide +kernel) rfl rfl rfl (by decide +kernel)
set_option maxRecDepth 65536 in
theorem w_c7 : (Jvm.Cond.code ({ cls := "java/lang/StringBuilder", name := "<init>", desc := "()V" } : Jvm.MethodName) jdk_67_method_1_code (1 : Nat) (Option.none : Option Jvm.ClassFile.FieldType)).before args0 about1 = true := code_word (m := ⟨12, 0⟩) (meth := k12m0) (c := k12c0) (by decide +kernel) rfl rfl rfl (by decide +kernel)
set_option maxRecDepth 65536 in
theorem w_c8 : (Jvm.Cond.code ({ cls := "java/lang/AbstractStringBuilder", name := "<init>", desc := "(I)V" } : Jvm.MethodName) jdk_68_method_2_code (2 : Nat) (Option.none : Option Jvm.ClassFile.FieldType)).before args0 about1 = true := code_word (m := ⟨11, 1⟩) (meth := k11m1) (c := k11c1) (by decide +kernel) rfl rfl rfl (by decide +kernel)
set_option maxRecDepth 65536 in
theorem w_c9 : (Jvm.Cond.code ({ cls := "java/lang/StringBuilder", name := "append", desc := "(Ljava/lang/String;)Ljava/lang/StringBuilder;" } : Jvm.MethodName) jdk_67_method_7_code (2 : Nat) (Option.some (Jvm.ClassFile.FieldType.object "java/lang/StringBuilder"))).before args0 about1 = true := code_word (m := ⟨12, 1⟩) (meth := k12m1) (c := k12c1) (by decide +kernel) rfl rfl rfl (by decide +kernel)
set_option maxRecDepth 65536 in
theorem w_c10 : (Jvm.Cond.code ({ cls := "java/lang/AbstractStringBuilder", name := "append", desc := "(Ljava/lang/String;)Ljava/lang/AbstractStringBuilder;" } : Jvm.MethodName) jdk_68_method_22_code (3 : Nat) (Option.some (Jvm.ClassFile.FieldType.object "java/lang/AbstractStringBuilder"))).before args0 about1 = true := code_word (m := ⟨11, 5⟩) (meth := k11m5) (c := k11c5) (by decide +kernel) rfl rfl rfl (by decide +kernel)
set_option maxRecDepth 65536 in
theorem w_c11 : (Jvm.Cond.code ({ cls := "java/lang/String", name := "length", desc := "()I" } : Jvm.MethodName) jdk_42_method_54_code (1 : Nat) (Option.some Jvm.ClassFile.FieldType.int)).before args0 about1 = true := code_word (m := ⟨8, 2⟩) (meth := k8m2) (c := k8c2) (by decide +kernel) rfl rfl rfl (by decide +kernel)
set_option maxRecDepth 65536 in
theorem w_c12 : (Jvm.Cond.code ({ cls := "java/lang/String", name := "coder", desc := "()B" } : Jvm.MethodName) jdk_42_method_152_code (1 : Nat) (Option.some Jvm.ClassFile.FieldType.byte)).before args0 about1 = true := code_word (m := ⟨8, 6⟩) (meth := k8m6) (c := k8c6) (by decide +kernel) rfl rfl rfl (by decide +kernel)
set_option maxRecDepth 65536 in
theorem w_c13 : (Jvm.Cond.code ({ cls := "java/lang/AbstractStringBuilder", name := "ensureCapacityInternal", desc := "(I)V" } : Jvm.MethodName) jdk_68_method_9_code (3 : Nat) (Option.none : Option Jvm.ClassFile.FieldType)).before args0 about1 = true := code_word (m := ⟨11, 3⟩) (meth := k11m3) (c := k11c3) (by decide +kernel) rfl rfl rfl (by decide +kernel)
set_option maxRecDepth 65536 in
theorem w_c14 : (Jvm.Cond.code ({ cls := "java/lang/AbstractStringBuilder", name := "newCapacity", desc := "(I)I" } : Jvm.MethodName) jdk_68_method_10_code (6 : Nat) (Option.some Jvm.ClassFile.FieldType.int)).before args0 about1 = true := code_word (m := ⟨11, 4⟩) (meth := k11m4) (c := k11c4) (by decide +kernel) rfl rfl rfl (by decide +kernel)
set_option maxRecDepth 65536 in
theorem w_c15 : (Jvm.Cond.code ({ cls := "jdk/internal/util/ArraysSupport", name := "newLength", desc := "(III)I" } : Jvm.MethodName) jdk_48_method_27_code (4 : Nat) (Option.some Jvm.ClassFile.FieldType.int)).before args0 about1 = true := code_word (m := ⟨13, 1⟩) (meth := k13m1) (c := k13c1) (by decide +kernel) rfl rfl rfl (by decide +kernel)
set_option maxRecDepth 65536 in
theorem w_c16 : (Jvm.Cond.code ({ cls := "java/lang/Math", name := "max", desc := "(II)I" } : Jvm.MethodName) jdk_29_method_65_code (2 : Nat) (Option.some Jvm.ClassFile.FieldType.int)).before args0 about1 = true := code_word (m := ⟨9, 1⟩) (meth := k9m1) (c := k9c1) (by decide +kernel) rfl rfl rfl (by decide +kernel)
set_option maxRecDepth 65536 in
theorem w_c17 : (Jvm.Cond.code ({ cls := "java/util/Arrays", name := "copyOf", desc := "([BI)[B" } : Jvm.MethodName) jdk_65_method_121_code (3 : Nat) (Option.some (Jvm.ClassFile.FieldType.array Jvm.ClassFile.FieldType.byte))).before args0 about1 = true := code_word (m := ⟨14, 1⟩) (meth := k14m1) (c := k14c1) (by decide +kernel) rfl rfl rfl (by decide +kernel)
set_option maxRecDepth 65536 in
theorem w_c18 : (Jvm.Cond.code ({ cls := "java/lang/AbstractStringBuilder", name := "putStringAt", desc := "(ILjava/lang/String;)V" } : Jvm.MethodName) jdk_68_method_73_code (3 : Nat) (Option.none : Option Jvm.ClassFile.FieldType)).before args0 about1 = true := code_word (m := ⟨11, 11⟩) (meth := k11m11) (c := k11c11) (by decide +kernel) rfl rfl rfl (by decide +kernel)
set_option maxRecDepth 65536 in
theorem w_c19 : (Jvm.Cond.code ({ cls := "java/lang/AbstractStringBuilder", name := "inflateIfNeededFor", desc := "(Ljava/lang/String;)V" } : Jvm.MethodName) jdk_68_method_71_code (2 : Nat) (Option.none : Option Jvm.ClassFile.FieldType)).before args0 about1 = true := code_word (m := ⟨11, 10⟩) (meth := k11m10) (c := k11c10) (by decide +kernel) rfl rfl rfl (by decide +kernel)
set_option maxRecDepth 65536 in
theorem w_c20 : (Jvm.Cond.code ({ cls := "java/lang/String", name := "getBytes", desc := "([BIB)V" } : Jvm.MethodName) jdk_42_method_147_code (4 : Nat) (Option.none : Option Jvm.ClassFile.FieldType)).before args0 about1 = true := code_word (m := ⟨8, 4⟩) (meth := k8m4) (c := k8c4) (by decide +kernel) rfl rfl rfl (by decide +kernel)
set_option maxRecDepth 65536 in
theorem w_c21 : (Jvm.Cond.code ({ cls := "java/lang/StringBuilder", name := "append", desc := "(I)Ljava/lang/StringBuilder;" } : Jvm.MethodName) jdk_67_method_15_code (2 : Nat) (Option.some (Jvm.ClassFile.FieldType.object "java/lang/StringBuilder"))).before args0 about1 = true := code_word (m := ⟨12, 2⟩) (meth := k12m2) (c := k12c2) (by decide +kernel) rfl rfl rfl (by decide +kernel)
set_option maxRecDepth 65536 in
theorem w_c22 : (Jvm.Cond.code ({ cls := "java/lang/AbstractStringBuilder", name := "append", desc := "(I)Ljava/lang/AbstractStringBuilder;" } : Jvm.MethodName) jdk_68_method_32_code (4 : Nat) (Option.some (Jvm.ClassFile.FieldType.object "java/lang/AbstractStringBuilder"))).before args0 about1 = true := code_word (m := ⟨11, 6⟩) (meth := k11m6) (c := k11c6) (by decide +kernel) rfl rfl rfl (by decide +kernel)
set_option maxRecDepth 65536 in
theorem w_c23 : (Jvm.Cond.code ({ cls := "java/lang/Integer", name := "stringSize", desc := "(I)I" } : Jvm.MethodName) jdk_33_method_13_code (4 : Nat) (Option.some Jvm.ClassFile.FieldType.int)).before args0 about1 = true := code_word (m := ⟨17, 1⟩) (meth := k17m1) (c := k17c1) (by decide +kernel) rfl rfl rfl (by decide +kernel)
set_option maxRecDepth 65536 in
theorem w_c24 : (Jvm.Cond.code ({ cls := "java/lang/AbstractStringBuilder", name := "isLatin1", desc := "()Z" } : Jvm.MethodName) jdk_68_method_68_code (1 : Nat) (Option.some Jvm.ClassFile.FieldType.boolean)).before args0 about1 = true := code_word (m := ⟨11, 9⟩) (meth := k11m9) (c := k11c9) (by decide +kernel) rfl rfl rfl (by decide +kernel)
set_option maxRecDepth 65536 in
theorem w_c25 : (Jvm.Cond.code ({ cls := "java/lang/Integer", name := "getChars", desc := "(II[B)I" } : Jvm.MethodName) jdk_33_method_12_code (7 : Nat) (Option.some Jvm.ClassFile.FieldType.int)).before args0 about1 = true := code_word (m := ⟨17, 0⟩) (meth := k17m0) (c := k17c0) (by decide +kernel) rfl rfl rfl (by decide +kernel)
set_option maxRecDepth 65536 in
theorem w_c26 : (Jvm.Cond.code ({ cls := "java/lang/StringBuilder", name := "append", desc := "(J)Ljava/lang/StringBuilder;" } : Jvm.MethodName) jdk_67_method_16_code (3 : Nat) (Option.some (Jvm.ClassFile.FieldType.object "java/lang/StringBuilder"))).before args0 about1 = true := code_word (m := ⟨12, 3⟩) (meth := k12m3) (c := k12c3) (by decide +kernel) rfl rfl rfl (by decide +kernel)
set_option maxRecDepth 65536 in
theorem w_c27 : (Jvm.Cond.code ({ cls := "java/lang/AbstractStringBuilder", name := "append", desc := "(J)Ljava/lang/AbstractStringBuilder;" } : Jvm.MethodName) jdk_68_method_33_code (5 : Nat) (Option.some (Jvm.ClassFile.FieldType.object "java/lang/AbstractStringBuilder"))).before args0 about1 = true := code_word (m := ⟨11, 7⟩) (meth := k11m7) (c := k11c7) (by decide +kernel) rfl rfl rfl (by decide +kernel)
set_option maxRecDepth 65536 in
theorem w_c28 : (Jvm.Cond.code ({ cls := "java/lang/Long", name := "stringSize", desc := "(J)I" } : Jvm.MethodName) jdk_35_method_15_code (6 : Nat) (Option.some Jvm.ClassFile.FieldType.int)).before args0 about1 = true := code_word (m := ⟨18, 1⟩) (meth := k18m1) (c := k18c1) (by decide +kernel) rfl rfl rfl (by decide +kernel)
set_option maxRecDepth 65536 in
theorem w_c29 : (Jvm.Cond.code ({ cls := "java/lang/Long", name := "getChars", desc := "(JI[B)I" } : Jvm.MethodName) jdk_35_method_14_code (11 : Nat) (Option.some Jvm.ClassFile.FieldType.int)).before args0 about1 = true := code_word (m := ⟨18, 0⟩) (meth := k18m0) (c := k18c0) (by decide +kernel) rfl rfl rfl (by decide +kernel)
set_option maxRecDepth 65536 in
theorem w_c30 : (Jvm.Cond.code ({ cls := "java/lang/StringBuilder", name := "toString", desc := "()Ljava/lang/String;" } : Jvm.MethodName) jdk_67_method_42_code (1 : Nat) (Option.some (Jvm.ClassFile.FieldType.object "java/lang/String"))).before args0 about1 = true := code_word (m := ⟨12, 4⟩) (meth := k12m4) (c := k12c4) (by decide +kernel) rfl rfl rfl (by decide +kernel)
set_option maxRecDepth 65536 in
theorem w_c31 : (Jvm.Cond.code ({ cls := "java/lang/String", name := "<init>", desc := "(Ljava/lang/StringBuilder;)V" } : Jvm.MethodName) jdk_42_method_53_code (2 : Nat) (Option.none : Option Jvm.ClassFile.FieldType)).before args0 about1 = true := code_word (m := ⟨8, 1⟩) (meth := k8m1) (c := k8c1) (by decide +kernel) rfl rfl rfl (by decide +kernel)
set_option maxRecDepth 65536 in
theorem w_c32 : (Jvm.Cond.code ({ cls := "java/lang/String", name := "<init>", desc := "(Ljava/lang/AbstractStringBuilder;Ljava/lang/Void;)V" } : Jvm.MethodName) jdk_42_method_150_code (5 : Nat) (Option.none : Option Jvm.ClassFile.FieldType)).before args0 about1 = true := code_word (m := ⟨8, 5⟩) (meth := k8m5) (c := k8c5) (by decide +kernel) rfl rfl rfl (by decide +kernel)
set_option maxRecDepth 65536 in
theorem w_c33 : (Jvm.Cond.code ({ cls := "java/lang/AbstractStringBuilder", name := "getValue", desc := "()[B" } : Jvm.MethodName) jdk_68_method_64_code (1 : Nat) (Option.some (Jvm.ClassFile.FieldType.array Jvm.ClassFile.FieldType.byte))).before args0 about1 = true := code_word (m := ⟨11, 8⟩) (meth := k11m8) (c := k11c8) (by decide +kernel) rfl rfl rfl (by decide +kernel)
set_option maxRecDepth 65536 in
theorem w_c34 : (Jvm.Cond.code ({ cls := "java/lang/StringBuilder", name := "length", desc := "()I" } : Jvm.MethodName) jdk_67_method_93_code (1 : Nat) (Option.some Jvm.ClassFile.FieldType.int)).before args0 about1 = true := code_word (m := ⟨12, 5⟩) (meth := k12m5) (c := k12c5) (by decide +kernel) rfl rfl rfl (by decide +kernel)
set_option maxRecDepth 65536 in
theorem w_c35 : (Jvm.Cond.code ({ cls := "java/lang/AbstractStringBuilder", name := "length", desc := "()I" } : Jvm.MethodName) jdk_68_method_6_code (1 : Nat) (Option.some Jvm.ClassFile.FieldType.int)).before args0 about1 = true := code_word (m := ⟨11, 2⟩) (meth := k11m2) (c := k11c2) (by decide +kernel) rfl rfl rfl (by decide +kernel)
set_option maxRecDepth 65536 in
theorem w_c36 : (Jvm.Cond.code ({ cls := "java/util/Arrays", name := "copyOfRange", desc := "([BII)[B" } : Jvm.MethodName) jdk_65_method_132_code (3 : Nat) (Option.some (Jvm.ClassFile.FieldType.array Jvm.ClassFile.FieldType.byte))).before args0 about1 = true := code_word (m := ⟨14, 3⟩) (meth := k14m3) (c := k14c3) (by decide +kernel) rfl rfl rfl (by decide +kernel)
set_option maxRecDepth 65536 in
theorem w_c37 : (Jvm.Cond.code ({ cls := "java/util/Arrays", name := "copyOfRangeByte", desc := "([BII)[B" } : Jvm.MethodName) jdk_65_method_133_code (5 : Nat) (Option.some (Jvm.ClassFile.FieldType.array Jvm.ClassFile.FieldType.byte))).before args0 about1 = true := code_word (m := ⟨14, 4⟩) (meth := k14m4) (c := k14c4) (by decide +kernel) rfl rfl rfl (by decide +kernel)
set_option maxRecDepth 65536 in
theorem w_c38 : (Jvm.Cond.code ({ cls := "java/util/Arrays", name := "checkLength", desc := "(II)V" } : Jvm.MethodName) jdk_65_method_131_code (2 : Nat) (Option.none : Option Jvm.ClassFile.FieldType)).before args0 about1 = true := code_word (m := ⟨14, 2⟩) (meth := k14m2) (c := k14c2) (by decide +kernel) rfl rfl rfl (by decide +kernel)
set_option maxRecDepth 65536 in
theorem w_c39 : (Jvm.Cond.code ({ cls := "com/example/regretta/regretta/GroupProblemGeneratorDescriptionPinLaw", name := "w8", desc := "(Ljava/lang/String;I)Z" } : Jvm.MethodName) method_4_code (2 : Nat) (Option.some Jvm.ClassFile.FieldType.boolean)).before args0 about1 = true := code_word (m := ⟨1, 3⟩) (meth := k1m3) (c := k1c3) (by decide +kernel) rfl rfl rfl (by decide +kernel)
set_option maxRecDepth 65536 in
theorem w_c40 : (Jvm.Cond.code ({ cls := "com/example/regretta/regretta/GroupProblemGeneratorDescriptionPinLaw", name := "eq", desc := "(Ljava/lang/String;I)Z" } : Jvm.MethodName) method_3_code (3 : Nat) (Option.some Jvm.ClassFile.FieldType.boolean)).before args0 about1 = true := code_word (m := ⟨1, 2⟩) (meth := k1m2) (c := k1c2) (by decide +kernel) rfl rfl rfl (by decide +kernel)
set_option maxRecDepth 65536 in
theorem w_c41 : (Jvm.Cond.code ({ cls := "java/lang/String", name := "charAt", desc := "(I)C" } : Jvm.MethodName) jdk_42_method_56_code (2 : Nat) (Option.some Jvm.ClassFile.FieldType.char)).before args0 about1 = true := code_word (m := ⟨8, 3⟩) (meth := k8m3) (c := k8c3) (by decide +kernel) rfl rfl rfl (by decide +kernel)
set_option maxRecDepth 65536 in
theorem w_c42 : (Jvm.Cond.code ({ cls := "java/lang/String", name := "isLatin1", desc := "()Z" } : Jvm.MethodName) jdk_42_method_154_code (1 : Nat) (Option.some Jvm.ClassFile.FieldType.boolean)).before args0 about1 = true := code_word (m := ⟨8, 7⟩) (meth := k8m7) (c := k8c7) (by decide +kernel) rfl rfl rfl (by decide +kernel)
set_option maxRecDepth 65536 in
theorem w_c43 : (Jvm.Cond.code ({ cls := "java/lang/StringLatin1", name := "charAt", desc := "([BI)C" } : Jvm.MethodName) jdk_43_method_2_code (2 : Nat) (Option.some Jvm.ClassFile.FieldType.char)).before args0 about1 = true := code_word (m := ⟨19, 1⟩) (meth := k19m1) (c := k19c1) (by decide +kernel) rfl rfl rfl (by decide +kernel)
set_option maxRecDepth 65536 in
theorem w_c44 : (Jvm.Cond.code ({ cls := "java/lang/String", name := "checkIndex", desc := "(II)V" } : Jvm.MethodName) jdk_42_method_155_code (2 : Nat) (Option.none : Option Jvm.ClassFile.FieldType)).before args0 about1 = true := code_word (m := ⟨8, 8⟩) (meth := k8m8) (c := k8c8) (by decide +kernel) rfl rfl rfl (by decide +kernel)
set_option maxRecDepth 65536 in
theorem w_c45 : (Jvm.Cond.code ({ cls := "jdk/internal/util/Preconditions", name := "checkIndex", desc := "(IILjava/util/function/BiFunction;)I" } : Jvm.MethodName) jdk_41_method_11_code (3 : Nat) (Option.some Jvm.ClassFile.FieldType.int)).before args0 about1 = true := code_word (m := ⟨20, 1⟩) (meth := k20m1) (c := k20c1) (by decide +kernel) rfl rfl rfl (by decide +kernel)
set_option maxRecDepth 65536 in
theorem w_c46 : (Jvm.Cond.code ({ cls := "com/example/regretta/regretta/GroupProblemGeneratorDescriptionPinLaw", name := "dg", desc := "(Ljava/lang/String;IIJ[JI)Z" } : Jvm.MethodName) method_5_code (7 : Nat) (Option.some Jvm.ClassFile.FieldType.boolean)).before args0 about1 = true := code_word (m := ⟨1, 4⟩) (meth := k1m4) (c := k1c4) (by decide +kernel) rfl rfl rfl (by decide +kernel)
def codes1 : List Jvm.Cond := [Jvm.Cond.code x code maxLocals ret, Jvm.Cond.code ({ cls := "com/example/regretta/regretta/GroupProblemGenerator", name := "<init>", desc := "(IIII)V" } : Jvm.MethodName) prog_22_method_1_code (11 : Nat) (Option.none : Option Jvm.ClassFile.FieldType), Jvm.Cond.code ({ cls := "java/lang/Object", name := "<init>", desc := "()V" } : Jvm.MethodName) object_method_1_code (1 : Nat) (Option.none : Option Jvm.ClassFile.FieldType), Jvm.Cond.code ({ cls := "com/example/regretta/regretta/GroupProblemGenerator", name := "atLeast", desc := "(IILjava/lang/String;)V" } : Jvm.MethodName) prog_22_method_5_code (3 : Nat) (Option.none : Option Jvm.ClassFile.FieldType), Jvm.Cond.code ({ cls := "java/lang/Math", name := "min", desc := "(II)I" } : Jvm.MethodName) jdk_29_method_69_code (2 : Nat) (Option.some Jvm.ClassFile.FieldType.int), Jvm.Cond.code ({ cls := "java/lang/Math", name := "min", desc := "(JJ)J" } : Jvm.MethodName) jdk_29_method_70_code (4 : Nat) (Option.some Jvm.ClassFile.FieldType.long), Jvm.Cond.code ({ cls := "com/example/regretta/regretta/GroupProblemGenerator", name := "description", desc := "(J)Ljava/lang/String;" } : Jvm.MethodName) prog_22_method_3_code (3 : Nat) (Option.some (Jvm.ClassFile.FieldType.object "java/lang/String")), Jvm.Cond.code ({ cls := "java/lang/StringBuilder", name := "<init>", desc := "()V" } : Jvm.MethodName) jdk_67_method_1_code (1 : Nat) (Option.none : Option Jvm.ClassFile.FieldType), Jvm.Cond.code ({ cls := "java/lang/AbstractStringBuilder", name := "<init>", desc := "(I)V" } : Jvm.MethodName) jdk_68_method_2_code (2 : Nat) (Option.none : Option Jvm.ClassFile.FieldType), Jvm.Cond.code ({ cls := "java/lang/StringBuilder", name := "append", desc := "(Ljava/lang/String;)Ljava/lang/StringBuilder;" } : Jvm.MethodName) jdk_67_method_7_code (2 : Nat) (Option.some (Jvm.ClassFile.FieldType.object "java/lang/StringBuilder")), Jvm.Cond.code ({ cls := "java/lang/AbstractStringBuilder", name := "append", desc := "(Ljava/lang/String;)Ljava/lang/AbstractStringBuilder;" } : Jvm.MethodName) jdk_68_method_22_code (3 : Nat) (Option.some (Jvm.ClassFile.FieldType.object "java/lang/AbstractStringBuilder")), Jvm.Cond.code ({ cls := "java/lang/String", name := "length", desc := "()I" } : Jvm.MethodName) jdk_42_method_54_code (1 : Nat) (Option.some Jvm.ClassFile.FieldType.int), Jvm.Cond.code ({ cls := "java/lang/String", name := "coder", desc := "()B" } : Jvm.MethodName) jdk_42_method_152_code (1 : Nat) (Option.some Jvm.ClassFile.FieldType.byte), Jvm.Cond.code ({ cls := "java/lang/AbstractStringBuilder", name := "ensureCapacityInternal", desc := "(I)V" } : Jvm.MethodName) jdk_68_method_9_code (3 : Nat) (Option.none : Option Jvm.ClassFile.FieldType), Jvm.Cond.code ({ cls := "java/lang/AbstractStringBuilder", name := "newCapacity", desc := "(I)I" } : Jvm.MethodName) jdk_68_method_10_code (6 : Nat) (Option.some Jvm.ClassFile.FieldType.int), Jvm.Cond.code ({ cls := "jdk/internal/util/ArraysSupport", name := "newLength", desc := "(III)I" } : Jvm.MethodName) jdk_48_method_27_code (4 : Nat) (Option.some Jvm.ClassFile.FieldType.int), Jvm.Cond.code ({ cls := "java/lang/Math", name := "max", desc := "(II)I" } : Jvm.MethodName) jdk_29_method_65_code (2 : Nat) (Option.some Jvm.ClassFile.FieldType.int), Jvm.Cond.code ({ cls := "java/util/Arrays", name := "copyOf", desc := "([BI)[B" } : Jvm.MethodName) jdk_65_method_121_code (3 : Nat) (Option.some (Jvm.ClassFile.FieldType.array Jvm.ClassFile.FieldType.byte)), Jvm.Cond.code ({ cls := "java/lang/AbstractStringBuilder", name := "putStringAt", desc := "(ILjava/lang/String;)V" } : Jvm.MethodName) jdk_68_method_73_code (3 : Nat) (Option.none : Option Jvm.ClassFile.FieldType), Jvm.Cond.code ({ cls := "java/lang/AbstractStringBuilder", name := "inflateIfNeededFor", desc := "(Ljava/lang/String;)V" } : Jvm.MethodName) jdk_68_method_71_code (2 : Nat) (Option.none : Option Jvm.ClassFile.FieldType), Jvm.Cond.code ({ cls := "java/lang/String", name := "getBytes", desc := "([BIB)V" } : Jvm.MethodName) jdk_42_method_147_code (4 : Nat) (Option.none : Option Jvm.ClassFile.FieldType), Jvm.Cond.code ({ cls := "java/lang/StringBuilder", name := "append", desc := "(I)Ljava/lang/StringBuilder;" } : Jvm.MethodName) jdk_67_method_15_code (2 : Nat) (Option.some (Jvm.ClassFile.FieldType.object "java/lang/StringBuilder")), Jvm.Cond.code ({ cls := "java/lang/AbstractStringBuilder", name := "append", desc := "(I)Ljava/lang/AbstractStringBuilder;" } : Jvm.MethodName) jdk_68_method_32_code (4 : Nat) (Option.some (Jvm.ClassFile.FieldType.object "java/lang/AbstractStringBuilder")), Jvm.Cond.code ({ cls := "java/lang/Integer", name := "stringSize", desc := "(I)I" } : Jvm.MethodName) jdk_33_method_13_code (4 : Nat) (Option.some Jvm.ClassFile.FieldType.int), Jvm.Cond.code ({ cls := "java/lang/AbstractStringBuilder", name := "isLatin1", desc := "()Z" } : Jvm.MethodName) jdk_68_method_68_code (1 : Nat) (Option.some Jvm.ClassFile.FieldType.boolean), Jvm.Cond.code ({ cls := "java/lang/Integer", name := "getChars", desc := "(II[B)I" } : Jvm.MethodName) jdk_33_method_12_code (7 : Nat) (Option.some Jvm.ClassFile.FieldType.int), Jvm.Cond.code ({ cls := "java/lang/StringBuilder", name := "append", desc := "(J)Ljava/lang/StringBuilder;" } : Jvm.MethodName) jdk_67_method_16_code (3 : Nat) (Option.some (Jvm.ClassFile.FieldType.object "java/lang/StringBuilder")), Jvm.Cond.code ({ cls := "java/lang/AbstractStringBuilder", name := "append", desc := "(J)Ljava/lang/AbstractStringBuilder;" } : Jvm.MethodName) jdk_68_method_33_code (5 : Nat) (Option.some (Jvm.ClassFile.FieldType.object "java/lang/AbstractStringBuilder")), Jvm.Cond.code ({ cls := "java/lang/Long", name := "stringSize", desc := "(J)I" } : Jvm.MethodName) jdk_35_method_15_code (6 : Nat) (Option.some Jvm.ClassFile.FieldType.int), Jvm.Cond.code ({ cls := "java/lang/Long", name := "getChars", desc := "(JI[B)I" } : Jvm.MethodName) jdk_35_method_14_code (11 : Nat) (Option.some Jvm.ClassFile.FieldType.int), Jvm.Cond.code ({ cls := "java/lang/StringBuilder", name := "toString", desc := "()Ljava/lang/String;" } : Jvm.MethodName) jdk_67_method_42_code (1 : Nat) (Option.some (Jvm.ClassFile.FieldType.object "java/lang/String")), Jvm.Cond.code ({ cls := "java/lang/String", name := "<init>", desc := "(Ljava/lang/StringBuilder;)V" } : Jvm.MethodName) jdk_42_method_53_code (2 : Nat) (Option.none : Option Jvm.ClassFile.FieldType), Jvm.Cond.code ({ cls := "java/lang/String", name := "<init>", desc := "(Ljava/lang/AbstractStringBuilder;Ljava/lang/Void;)V" } : Jvm.MethodName) jdk_42_method_150_code (5 : Nat) (Option.none : Option Jvm.ClassFile.FieldType), Jvm.Cond.code ({ cls := "java/lang/AbstractStringBuilder", name := "getValue", desc := "()[B" } : Jvm.MethodName) jdk_68_method_64_code (1 : Nat) (Option.some (Jvm.ClassFile.FieldType.array Jvm.ClassFile.FieldType.byte)), Jvm.Cond.code ({ cls := "java/lang/StringBuilder", name := "length", desc := "()I" } : Jvm.MethodName) jdk_67_method_93_code (1 : Nat) (Option.some Jvm.ClassFile.FieldType.int), Jvm.Cond.code ({ cls := "java/lang/AbstractStringBuilder", name := "length", desc := "()I" } : Jvm.MethodName) jdk_68_method_6_code (1 : Nat) (Option.some Jvm.ClassFile.FieldType.int), Jvm.Cond.code ({ cls := "java/util/Arrays", name := "copyOfRange", desc := "([BII)[B" } : Jvm.MethodName) jdk_65_method_132_code (3 : Nat) (Option.some (Jvm.ClassFile.FieldType.array Jvm.ClassFile.FieldType.byte)), Jvm.Cond.code ({ cls := "java/util/Arrays", name := "copyOfRangeByte", desc := "([BII)[B" } : Jvm.MethodName) jdk_65_method_133_code (5 : Nat) (Option.some (Jvm.ClassFile.FieldType.array Jvm.ClassFile.FieldType.byte)), Jvm.Cond.code ({ cls := "java/util/Arrays", name := "checkLength", desc := "(II)V" } : Jvm.MethodName) jdk_65_method_131_code (2 : Nat) (Option.none : Option Jvm.ClassFile.FieldType), Jvm.Cond.code ({ cls := "com/example/regretta/regretta/GroupProblemGeneratorDescriptionPinLaw", name := "w8", desc := "(Ljava/lang/String;I)Z" } : Jvm.MethodName) method_4_code (2 : Nat) (Option.some Jvm.ClassFile.FieldType.boolean), Jvm.Cond.code ({ cls := "com/example/regretta/regretta/GroupProblemGeneratorDescriptionPinLaw", name := "eq", desc := "(Ljava/lang/String;I)Z" } : Jvm.MethodName) method_3_code (3 : Nat) (Option.some Jvm.ClassFile.FieldType.boolean), Jvm.Cond.code ({ cls := "java/lang/String", name := "charAt", desc := "(I)C" } : Jvm.MethodName) jdk_42_method_56_code (2 : Nat) (Option.some Jvm.ClassFile.FieldType.char), Jvm.Cond.code ({ cls := "java/lang/String", name := "isLatin1", desc := "()Z" } : Jvm.MethodName) jdk_42_method_154_code (1 : Nat) (Option.some Jvm.ClassFile.FieldType.boolean), Jvm.Cond.code ({ cls := "java/lang/StringLatin1", name := "charAt", desc := "([BI)C" } : Jvm.MethodName) jdk_43_method_2_code (2 : Nat) (Option.some Jvm.ClassFile.FieldType.char), Jvm.Cond.code ({ cls := "java/lang/String", name := "checkIndex", desc := "(II)V" } : Jvm.MethodName) jdk_42_method_155_code (2 : Nat) (Option.none : Option Jvm.ClassFile.FieldType), Jvm.Cond.code ({ cls := "jdk/internal/util/Preconditions", name := "checkIndex", desc := "(IILjava/util/function/BiFunction;)I" } : Jvm.MethodName) jdk_41_method_11_code (3 : Nat) (Option.some Jvm.ClassFile.FieldType.int), Jvm.Cond.code ({ cls := "com/example/regretta/regretta/GroupProblemGeneratorDescriptionPinLaw", name := "dg", desc := "(Ljava/lang/String;IIJ[JI)Z" } : Jvm.MethodName) method_5_code (7 : Nat) (Option.some Jvm.ClassFile.FieldType.boolean)]
set_option maxRecDepth 65536 in
theorem codes_eq : words1.filter isCode = codes1 := rfl
theorem w_codes : ∀ c ∈ words1.filter isCode, c.before args0 about1 = true := by
  rw [codes_eq]
  intro c hc
  simp only [codes1, List.mem_cons, List.not_mem_nil, or_false] at hc
  rcases hc with rfl | rfl | rfl | rfl | rfl | rfl | rfl | rfl | rfl | rfl | rfl | rfl | rfl | rfl | rfl | rfl | rfl | rfl | rfl | rfl | rfl | rfl | rfl | rfl | rfl | rfl | rfl | rfl | rfl | rfl | rfl | rfl | rfl | rfl | rfl | rfl | rfl | rfl | rfl | rfl | rfl | rfl | rfl | rfl | rfl | rfl | rfl
  · exact w_c0
  · exact w_c1
  · exact w_c2
  · exact w_c3
  · exact w_c4
  · exact w_c5
  · exact w_c6
  · exact w_c7
  · exact w_c8
  · exact w_c9
  · exact w_c10
  · exact w_c11
  · exact w_c12
  · exact w_c13
  · exact w_c14
  · exact w_c15
  · exact w_c16
  · exact w_c17
  · exact w_c18
  · exact w_c19
  · exact w_c20
  · exact w_c21
  · exact w_c22
  · exact w_c23
  · exact w_c24
  · exact w_c25
  · exact w_c26
  · exact w_c27
  · exact w_c28
  · exact w_c29
  · exact w_c30
  · exact w_c31
  · exact w_c32
  · exact w_c33
  · exact w_c34
  · exact w_c35
  · exact w_c36
  · exact w_c37
  · exact w_c38
  · exact w_c39
  · exact w_c40
  · exact w_c41
  · exact w_c42
  · exact w_c43
  · exact w_c44
  · exact w_c45
  · exact w_c46
set_option maxRecDepth 65536 in
theorem w_t1 : (words1.take 24).all (fun c => isCode c || c.before args0 about1) = true := by decide +kernel
set_option maxRecDepth 65536 in
theorem w_t2 : ((words1.drop 24).take 24).all (fun c => isCode c || c.before args0 about1) = true := by decide +kernel
set_option maxRecDepth 65536 in
theorem w_t3 : (((words1.drop 24).drop 24).take 24).all (fun c => isCode c || c.before args0 about1) = true := by decide +kernel
set_option maxRecDepth 65536 in
theorem w_t4 : ((((words1.drop 24).drop 24).drop 24).take 24).all (fun c => isCode c || c.before args0 about1) = true := by decide +kernel
set_option maxRecDepth 65536 in
theorem w_t5 : (((((words1.drop 24).drop 24).drop 24).drop 24).take 24).all (fun c => isCode c || c.before args0 about1) = true := by decide +kernel
set_option maxRecDepth 65536 in
theorem w_t6 : ((((((words1.drop 24).drop 24).drop 24).drop 24).drop 24).take 24).all (fun c => isCode c || c.before args0 about1) = true := by decide +kernel
set_option maxRecDepth 65536 in
theorem w_t7 : (((((((words1.drop 24).drop 24).drop 24).drop 24).drop 24).drop 24).take 24).all (fun c => isCode c || c.before args0 about1) = true := by decide +kernel
set_option maxRecDepth 65536 in
theorem w_t8 : ((((((((words1.drop 24).drop 24).drop 24).drop 24).drop 24).drop 24).drop 24).take 24).all (fun c => isCode c || c.before args0 about1) = true := by decide +kernel
set_option maxRecDepth 65536 in
theorem w_t9 : (((((((((words1.drop 24).drop 24).drop 24).drop 24).drop 24).drop 24).drop 24).drop 24).take 24).all (fun c => isCode c || c.before args0 about1) = true := by decide +kernel
set_option maxRecDepth 65536 in
theorem w_t10 : ((((((((((words1.drop 24).drop 24).drop 24).drop 24).drop 24).drop 24).drop 24).drop 24).drop 24).take 24).all (fun c => isCode c || c.before args0 about1) = true := by decide +kernel
set_option maxRecDepth 65536 in
theorem w_t11 : (((((((((((words1.drop 24).drop 24).drop 24).drop 24).drop 24).drop 24).drop 24).drop 24).drop 24).drop 24).take 24).all (fun c => isCode c || c.before args0 about1) = true := by decide +kernel
set_option maxRecDepth 65536 in
theorem w_t12 : (((((((((((words1.drop 24).drop 24).drop 24).drop 24).drop 24).drop 24).drop 24).drop 24).drop 24).drop 24).drop 24).all (fun c => isCode c || c.before args0 about1) = true := by decide +kernel
theorem w_tables : (allAtoms (Jvm.Cond.code x code maxLocals ret :: tables_1)).before args0 about1 = true := by
  rw [allAtoms_all]
  show words1.all (fun c => c.before args0 about1) = true
  refine all_split ?_ w_codes
  rw [← List.take_append_drop 24 words1, List.all_append, w_t1, ← List.take_append_drop 24 (words1.drop 24), List.all_append, w_t2, ← List.take_append_drop 24 ((words1.drop 24).drop 24), List.all_append, w_t3, ← List.take_append_drop 24 (((words1.drop 24).drop 24).drop 24), List.all_append, w_t4, ← List.take_append_drop 24 ((((words1.drop 24).drop 24).drop 24).drop 24), List.all_append, w_t5, ← List.take_append_drop 24 (((((words1.drop 24).drop 24).drop 24).drop 24).drop 24), List.all_append, w_t6, ← List.take_append_drop 24 ((((((words1.drop 24).drop 24).drop 24).drop 24).drop 24).drop 24), List.all_append, w_t7, ← List.take_append_drop 24 (((((((words1.drop 24).drop 24).drop 24).drop 24).drop 24).drop 24).drop 24), List.all_append, w_t8, ← List.take_append_drop 24 ((((((((words1.drop 24).drop 24).drop 24).drop 24).drop 24).drop 24).drop 24).drop 24), List.all_append, w_t9, ← List.take_append_drop 24 (((((((((words1.drop 24).drop 24).drop 24).drop 24).drop 24).drop 24).drop 24).drop 24).drop 24), List.all_append, w_t10, ← List.take_append_drop 24 ((((((((((words1.drop 24).drop 24).drop 24).drop 24).drop 24).drop 24).drop 24).drop 24).drop 24).drop 24), List.all_append, w_t11, w_t12]
  rfl
set_option maxRecDepth 65536 in
theorem w_rest : rest_1_c.before args0 about1 = true := by decide +kernel
set_option maxRecDepth 65536 in
theorem w_case : (Jvm.Cond.and given_1 narrow_1).before args0 about1 = true := by decide +kernel
set_option maxRecDepth 65536 in
theorem w_consts : constsHeld consts_1 about1 := Jvm.Lit.constsHeldB_iff.mp (by decide +kernel)
theorem w_applies : (headSpec (Jvm.Cond.code x code maxLocals ret :: tables_1) room_1).applies x e0.platform about1 = true :=
  (Spec.applies_iff w_frames).mpr ⟨w_running, w_runnable, w_alone, w_named, w_hears, w_ripe, w_room, w_tables⟩
theorem atStart : AtStart classFile x code maxLocals ret World_1 tables_1 room_1 Calls_1 rest_1 Pre_1 launch0 p0 e0 about1 theMethod args0 below0 :=
  ⟨lists_1, trivial, launch0.admits_env _ _ _, launch0.least_env, fairChoices_fair.cas, fairChoices_fair.clock, w_frames, w_args, w_heap, w_applies, ⟨w_consts, trivial⟩, w_rest, w_case⟩
end start1
theorem witness_1 : WitnessClaimed_1 := ⟨start1.p0, start1.e0, start1.about1, start1.theMethod, start1.args0, start1.below0, start1.atStart⟩
end Jvm.Pilot.@@N@@
