import JvmDerived
import JvmDerived.Pilot.@@N@@Statement
import JvmDerived.Pilot.@@N@@Code
set_option linter.unusedVariables false
set_option linter.unusedSimpArgs false
namespace Jvm.Pilot.@@N@@
open Jvm Jvm.ClassFile Sem Op Lib Jvm.Free Jvm.Stand Jvm.LawKit Jvm.RoadKit Bundle Jvm.Pilot.@@N@@.Jvm.D
section OwnKit
variable {p : Program} {l : Launch} {e : Env} {R : Room} {s : State} {m : MethodId} {args : Array Value} {below : List Frame} {meth : Method} {c : Code} {T T' : State} {locs : List Loc} {cells slots : Nat} {Z : State} {a0 : Array Value} {h : Heap}
/-- from here the run comes to an end of which E speaks -/
def own_Go (p : Program) (e : Env) (below : List Frame) (E : State → Outcome → Prop) (T : State) (g : JFrame) : Prop :=
  ∃ t o, Steps p.tables e below (T.setTop g) t ∧ t.status = .running ∧ Ended t below o ∧ E t o
def own_End (s : State) (k n : Nat) (Q : Option Value → Heap → List Loc → Prop) (t : State) (o : Outcome) : Prop :=
  ∃ v L, o = .returned v ∧ Q v t.heap L ∧ FrameEnd s o t L k n
theorem own_by {E : State → Outcome → Prop} {g g' : JFrame} (st : ∀ target, Steps p.tables e below (T'.setTop g') target → Steps p.tables e below (T.setTop g) target) (k : own_Go p e below E T' g') : own_Go p e below E T g := by
  obtain ⟨t, o, h1, r⟩ := k
  exact ⟨t, o, st t h1, r⟩
theorem own_retW (X : Stand p l e R s m args below meth c T locs cells slots) (hx : p.tables.exec = Jvm.exec) (hlk : meth.locks = false) {pc : Nat} {Ls : Array Slot} {w : Value} {t : FieldType} {i : Instr} {rest : List Value} (hret : meth.sig.returnType = some t) (hn : narrow t w = w)
    (hi : (i = .ireturn ∧ (t = .int ∨ t = .boolean ∨ t = .byte ∨ t = .char ∨ t = .short) ∧ ∃ z, w = .int z) ∨ (i = .lreturn ∧ t = .long ∧ ∃ z, w = .long z) ∨ (i = .dreturn ∧ t = .double ∧ ∃ z, w = .double z) ∨ (i = .freturn ∧ t = .float ∧ ∃ z, w = .float z) ∨ (i = .areturn ∧ t.isReference = true ∧ w.isRef = true))
    (hd : decode c.code pc = .ok (i, 1)) {Q : Option Value → Heap → List Loc → Prop} {k n : Nat} (hQ : Q (some w) T.heap locs) (hk : cells ≤ k) (hs : slots ≤ n) : own_Go p e below (own_End s k n Q) T (mkF m pc Ls (w :: rest)) := by
  obtain ⟨fs, hr, hrun, hended, hW, hsame⟩ := X.leave (v := some w) (fun h => by rw [hret] at h; cases h) hlk
  exact ⟨_, _, retOut X hx hret hn hi hd hr, hrun, hended, _, _, rfl, hQ, ⟨_, rfl⟩, hW, hsame.mono hk hs⟩
theorem own_retI (X : Stand p l e R s m args below meth c T locs cells slots) (hx : p.tables.exec = Jvm.exec) (hlk : meth.locks = false) {pc : Nat} {Ls : Array Slot} {z : Int32} {rest : List Value} (hret : meth.sig.returnType = some .int) (hd : decode c.code pc = .ok (.ireturn, 1)) {Q : Option Value → Heap → List Loc → Prop} {k n : Nat} (hQ : Q (some (.int z)) T.heap locs) (hk : cells ≤ k) (hs : slots ≤ n) : own_Go p e below (own_End s k n Q) T (mkF m pc Ls (.int z :: rest)) :=
  own_retW X hx hlk hret rfl (Or.inl ⟨rfl, Or.inl rfl, z, rfl⟩) hd hQ hk hs
theorem own_retJ (X : Stand p l e R s m args below meth c T locs cells slots) (hx : p.tables.exec = Jvm.exec) (hlk : meth.locks = false) {pc : Nat} {Ls : Array Slot} {z : Int64} {rest : List Value} (hret : meth.sig.returnType = some .long) (hd : decode c.code pc = .ok (.lreturn, 1)) {Q : Option Value → Heap → List Loc → Prop} {k n : Nat} (hQ : Q (some (.long z)) T.heap locs) (hk : cells ≤ k) (hs : slots ≤ n) : own_Go p e below (own_End s k n Q) T (mkF m pc Ls (.long z :: rest)) :=
  own_retW X hx hlk hret rfl (Or.inr (Or.inl ⟨rfl, rfl, z, rfl⟩)) hd hQ hk hs
theorem own_retA (X : Stand p l e R s m args below meth c T locs cells slots) (hx : p.tables.exec = Jvm.exec) (hlk : meth.locks = false) {pc : Nat} {Ls : Array Slot} {w : Value} {t : FieldType} {rest : List Value} (hret : meth.sig.returnType = some t) (ht : t.isReference = true) (hw : w.isRef = true) (hd : decode c.code pc = .ok (.areturn, 1)) {Q : Option Value → Heap → List Loc → Prop} {k n : Nat} (hQ : Q (some w) T.heap locs) (hk : cells ≤ k) (hs : slots ≤ n) : own_Go p e below (own_End s k n Q) T (mkF m pc Ls (w :: rest)) :=
  own_retW X hx hlk hret (by cases t <;> first | (cases ht; done) | (cases w <;> first | rfl | (cases hw; done))) (Or.inr (Or.inr (Or.inr (Or.inr ⟨rfl, ht, hw⟩)))) hd hQ hk hs
theorem own_retN (X : Stand p l e R s m args below meth c T locs cells slots) (hx : p.tables.exec = Jvm.exec) (hlk : meth.locks = false) {pc : Nat} {Ls : Array Slot} {z : Int32} {t : FieldType} {rest : List Value} (hret : meth.sig.returnType = some t) (ht : t = .boolean ∨ t = .byte ∨ t = .char ∨ t = .short) (hn : nar t z = z) (hd : decode c.code pc = .ok (.ireturn, 1)) {Q : Option Value → Heap → List Loc → Prop} {k n : Nat} (hQ : Q (some (.int z)) T.heap locs) (hk : cells ≤ k) (hs : slots ≤ n) : own_Go p e below (own_End s k n Q) T (mkF m pc Ls (.int z :: rest)) :=
  own_retW X hx hlk hret (by rcases ht with rfl | rfl | rfl | rfl <;> exact congrArg Value.int hn) (Or.inl ⟨rfl, Or.inr ht, z, rfl⟩) hd hQ hk hs
theorem own_ret0 (X : Stand p l e R s m args below meth c T locs cells slots) (hx : p.tables.exec = Jvm.exec) (hlk : meth.locks = false) {pc : Nat} {Ls : Array Slot} (hret : meth.sig.returnType = none) (hd : decode c.code pc = .ok (.return_, 1)) {Q : Option Value → Heap → List Loc → Prop} {k n : Nat} (hQ : Q none T.heap locs) (hk : cells ≤ k) (hs : slots ≤ n) : own_Go p e below (own_End s k n Q) T (mkF m pc Ls []) := by
  obtain ⟨fs, hr, hrun, hended, hW, hsame⟩ := X.leave (v := none) (fun _ => rfl) hlk
  exact ⟨_, _, X.returnOut hx hret hd hr, hrun, hended, _, _, rfl, hQ, ⟨_, rfl⟩, hW, hsame.mono hk hs⟩
theorem own_lrem {g : JFrame} {target : State} (X : Stand p l e R s m args below meth c T locs cells slots) (hx : p.tables.exec = Jvm.exec) (hg : g.method = m) {x y : Int64} {rest : List Value} (hd : decode c.code g.pc = .ok (.lrem, 1)) (hs : g.stack = .long y :: .long x :: rest) (hy : y ≠ 0)
    (hr : Steps p.tables e below (T.setTop { g with pc := g.pc + 1, stack := .long (x % y) :: rest }) target) : Steps p.tables e below (T.setTop g) target :=
  XS.lrem X.here hx hg hd hs hy (by rw [lrem_mod]; exact hr)
/-- a body's contract: called with as' at the heap h it returns, and Q speaks of what it returns, the heap that it leaves and the places that it wrote -/
abbrev own_Met (l : Launch) (Z : State) (y : MethodName) (bytes : ByteArray) (maxL : Nat) (rt : Option FieldType) (ws : List Jvm.Cond) (rm : Room) (as' : Array Value) (h : Heap) (Q : Option Value → Heap → List Loc → Prop) : Prop :=
  MetFree l y (head1 (Jvm.Cond.code y bytes maxL rt :: ws) rm) (fun a U => a = as' ∧ Z.Warmed39 U.vm ∧ U.heap = h) (fun _ _ _ _ _ => True) (fun _ U o U' => ∃ v L, o = .returned v ∧ Q v U'.heap L ∧ FrameEnd U o U' L rm.cells rm.slots)
theorem own_enter {y : MethodName} {bytes : ByteArray} {maxL : Nat} {rt : Option FieldType} {ws : List Jvm.Cond} {rm : Room} {as' : Array Value} {Q : Option Value → Heap → List Loc → Prop} (hy : plainFor y = true) {g0 : MethodId → JFrame} (hg0 : ∀ m, entryFrame m as' maxL = g0 m)
    (body : ∀ (p : Program) (e : Env) (s : State) (m : MethodId) (below : List Frame) (meth : Method) (c : Code) (s₁ : State), p.tables.exec = Jvm.exec → c.code = bytes → c.maxLocals = maxL → s.vm.findClass y.cls = some m.cls → meth.name = y.name → meth.sig.returnType = rt → meth.locks = false → Z.Warmed39 s.vm → Stand p l e rm s m as' below meth c s₁ [] 0 0 → s₁.heap = h → own_Go p e below (own_End s rm.cells rm.slots Q) s₁ (g0 m)) :
    own_Met l Z y bytes maxL rt ws rm as' h Q := by
  refine MetFree.of_bodySF hy hisR ?_
  intro p e s m args below meth c s₁ Bd hml0 hP hK
  obtain ⟨rfl, hZ, hh⟩ := hP
  obtain ⟨t, o, h1, h2, h3, h4⟩ := body p e s m below meth c s₁ Bd.exec Bd.bytes hml0 (findClass_of_methodNamed Bd.named) (name_of_methodNamed Bd.named Bd.method).1 Bd.returns (BodyLoose.notSynchronized Bd) hZ (Stand.of_body Bd) (by rw [← hh, Bd.state]; rfl)
  exact ⟨t, o, castTop (hg0 m) h1, h2, h3, h4⟩
theorem own_callS (X : Stand p l e R s m args below meth c T locs cells slots) (hx : p.tables.exec = Jvm.exec) (hZ : Z.Warmed39 s.vm) {own : String} (hown : s.vm.findClass own = some m.cls) {index : Nat} {y : MethodName} {bytes : ByteArray} {maxL : Nat} {rt : Option FieldType}
    (w1 : (Jvm.Cond.methodLink own index y).before a0 Z = true) (w2 : (Jvm.Cond.static y).before a0 Z = true) (w3 : (Jvm.Cond.initialized y.cls).before a0 Z = true) (w4 : (Jvm.Cond.code y bytes maxL rt).before a0 Z = true)
    (hy : y.cls ≠ "java/lang/invoke/MethodHandle" ∧ y.cls ≠ "java/lang/invoke/VarHandle") {rm : Room} {argsL rest : List Value} {Q : Option Value → Heap → List Loc → Prop} (eT : T.heap = h) (hM : own_Met l Z y bytes maxL rt [] rm argsL.toArray h Q)
    {g : JFrame} (hg : g.method = m) (hsize : g.locals.size = c.maxLocals) (hlen : ∀ sig, parseMethodDescriptor y.desc = some sig → argsL.length = sig.parameters.length) (hstack : g.stack = argsL.reverse ++ rest) {W : Nat} (hW : 2 * g.monitorRoom + (rest.map fun v => v.category).sum ≤ W) (hd : decode c.code g.pc = .ok (.invokestatic index, 3))
    (hf : rm.frames + 1 ≤ R.frames) (hl : W + (maxL + 11) + rm.locals ≤ R.locals) (hc : cells + rm.cells ≤ R.cells) (hs : slots + rm.slots ≤ R.slots) :
    ∃ v T' L, Stand p l e R s m args below meth c T' (locs ++ L) (cells + rm.cells) (slots + rm.slots) ∧ Q v T'.heap L ∧ ∀ target, Steps p.tables e below (T'.setTop { g with pc := g.pc + 3, stack := v.toList ++ rest }) target → Steps p.tables e below (T.setTop g) target := by
  obtain ⟨v, _, ⟨T1, L1, k1, n1⟩, -, X1, ⟨Lc, hQ, l1, y1, z1⟩, st⟩ := Jvm.LawKit.callS X hx (y := y) hown (mvT hZ w1) (mvT hZ w2) (mvT hZ w3) (mvT hZ w4) hy (backOf (W := W) hM hZ w4 w3 hf hl) (g := g) hg hsize (argsL := argsL) (rest := rest) hlen hstack hW hd (fun _ _ => ⟨rfl, eT, hc, hs⟩)
  dsimp only [Pt.U, Pt.locs, Pt.cells, Pt.slots] at X1 l1 y1 z1 st hQ
  subst l1 y1 z1
  exact ⟨v, T1, Lc, X1, hQ, st⟩
theorem own_callI (X : Stand p l e R s m args below meth c T locs cells slots) (hx : p.tables.exec = Jvm.exec) (hZ : Z.Warmed39 s.vm) {own : String} (hown : s.vm.findClass own = some m.cls) {index : Nat} {y : MethodName} {bytes : ByteArray} {maxL : Nat} (hy1 : y.name = "<init>")
    (w1 : (Jvm.Cond.methodLink own index y).before a0 Z = true) (w2 : (Jvm.Cond.instanceMethod y).before a0 Z = true) (w3 : (Jvm.Cond.initialized y.cls).before a0 Z = true) (w4 : (Jvm.Cond.code y bytes maxL none).before a0 Z = true)
    (hy : y.cls ≠ "java/lang/invoke/MethodHandle" ∧ y.cls ≠ "java/lang/invoke/VarHandle") {rm : Room} {a : Addr} {argsL rest : List Value} {Q : Option Value → Heap → List Loc → Prop} (eT : T.heap = h) (hM : own_Met l Z y bytes maxL none [] rm (.ref a :: argsL).toArray h Q)
    {g : JFrame} (hg : g.method = m) (hsize : g.locals.size = c.maxLocals) (hlen : ∀ sig, parseMethodDescriptor y.desc = some sig → argsL.length = sig.parameters.length) (hstack : g.stack = argsL.reverse ++ .ref a :: rest) {W : Nat} (hW : 2 * g.monitorRoom + (rest.map fun v => v.category).sum ≤ W) (hd : decode c.code g.pc = .ok (.invokespecial index, 3))
    (hf : rm.frames + 1 ≤ R.frames) (hl : W + (maxL + 11) + rm.locals ≤ R.locals) (hc : cells + rm.cells ≤ R.cells) (hs : slots + rm.slots ≤ R.slots) :
    ∃ v T' L, Stand p l e R s m args below meth c T' (locs ++ L) (cells + rm.cells) (slots + rm.slots) ∧ Q v T'.heap L ∧ ∀ target, Steps p.tables e below (T'.setTop { g with pc := g.pc + 3, stack := v.toList ++ rest }) target → Steps p.tables e below (T.setTop g) target := by
  obtain ⟨v, _, ⟨T1, L1, k1, n1⟩, -, X1, ⟨Lc, hQ, l1, y1, z1⟩, st⟩ := X.specialBack hx (y := y) hy1 hown (mvT hZ w1) (mvT hZ w2) (mvT hZ w4) hy (backOf (W := W) hM hZ w4 w3 hf hl) (g := g) hg hsize (Steps.refl _) (a := a) (argsL := argsL) (rest := rest) hlen hstack hW hd (fun _ _ => ⟨rfl, eT, hc, hs⟩)
  dsimp only [Pt.U, Pt.locs, Pt.cells, Pt.slots] at X1 l1 y1 z1 st hQ
  subst l1 y1 z1
  exact ⟨v, T1, Lc, X1, hQ, fun _ k => st.trans k⟩
theorem own_callV (X : Stand p l e R s m args below meth c T locs cells slots) (hx : p.tables.exec = Jvm.exec) (hZ : Z.Warmed39 s.vm) {own C : String} (hown : s.vm.findClass own = some m.cls) {index : Nat} {y : MethodName} {bytes : ByteArray} {maxL : Nat} {rt : Option FieldType}
    (w1 : (Jvm.Cond.methodLink own index y).before a0 Z = true) (w2 : (Jvm.Cond.declares y).before a0 Z = true) (w5 : (Jvm.Cond.selects C y y).before a0 Z = true) (w6 : (Jvm.Cond.instanceMethod y).before a0 Z = true) (w3 : (Jvm.Cond.initialized y.cls).before a0 Z = true) (w4 : (Jvm.Cond.code y bytes maxL rt).before a0 Z = true)
    (hy : y.cls ≠ "java/lang/invoke/MethodHandle" ∧ y.cls ≠ "java/lang/invoke/VarHandle") {rm : Room} {a : Addr} {argsL rest : List Value} {Q : Option Value → Heap → List Loc → Prop} (hE : Exa Z h a C) (eT : T.heap = h) (hM : own_Met l Z y bytes maxL rt [] rm (.ref a :: argsL).toArray h Q)
    {g : JFrame} (hg : g.method = m) (hsize : g.locals.size = c.maxLocals) (hlen : ∀ sig, parseMethodDescriptor y.desc = some sig → argsL.length = sig.parameters.length) (hstack : g.stack = argsL.reverse ++ .ref a :: rest) {W : Nat} (hW : 2 * g.monitorRoom + (rest.map fun v => v.category).sum ≤ W) (hd : decode c.code g.pc = .ok (.invokevirtual index, 3))
    (hf : rm.frames + 1 ≤ R.frames) (hl : W + (maxL + 11) + rm.locals ≤ R.locals) (hc : cells + rm.cells ≤ R.cells) (hs : slots + rm.slots ≤ R.slots) (hC : C = y.cls := by rfl) :
    ∃ v T' L, Stand p l e R s m args below meth c T' (locs ++ L) (cells + rm.cells) (slots + rm.slots) ∧ Q v T'.heap L ∧ ∀ target, Steps p.tables e below (T'.setTop { g with pc := g.pc + 3, stack := v.toList ++ rest }) target → Steps p.tables e below (T.setTop g) target := by
  subst hC
  obtain ⟨_, _, qa, -, qc⟩ := isOf hZ eT hE
  obtain ⟨v, _, ⟨T1, L1, k1, n1⟩, -, X1, ⟨Lc, hQ, l1, y1, z1⟩, st⟩ := X.virtualBack hx (y := y) (z := y) hown (mvT hZ w1) (mvT hZ w2) (notFace_of_selects (args := #[]) (mvT hZ w5)) (mvT hZ w5) (mvT hZ w6) hy (backOf (W := W) hM hZ w4 w3 hf hl) qa qc (g := g) hg hsize (Steps.refl _) (argsL := argsL) (rest := rest) hlen hstack hW hd (fun _ _ => ⟨rfl, eT, hc, hs⟩)
  dsimp only [Pt.U, Pt.locs, Pt.cells, Pt.slots] at X1 l1 y1 z1 st hQ
  subst l1 y1 z1
  exact ⟨v, T1, Lc, X1, hQ, fun _ k => st.trans k⟩
theorem own_callU (X : Stand p l e R s m args below meth c T locs cells slots) (hx : p.tables.exec = Jvm.exec) (hZ : Z.Warmed39 s.vm) {own C owner : String} (hown : s.vm.findClass own = some m.cls) {index : Nat} {x y : MethodName} {bytes : ByteArray} {maxL : Nat} {rt : Option FieldType}
    (w1 : (Jvm.Cond.methodLink own index x).before a0 Z = true) (w7 : (Jvm.Cond.sameMethod x.cls owner x.name x.desc).before a0 Z = true) (w2 : (Jvm.Cond.declares ⟨owner, x.name, x.desc⟩).before a0 Z = true) (hy : owner ≠ "java/lang/invoke/MethodHandle" ∧ owner ≠ "java/lang/invoke/VarHandle") (w5 : (Jvm.Cond.selects C x y).before a0 Z = true) (w6 : (Jvm.Cond.instanceMethod y).before a0 Z = true) (w3 : (Jvm.Cond.initialized y.cls).before a0 Z = true) (w4 : (Jvm.Cond.code y bytes maxL rt).before a0 Z = true)
    {rm : Room} {a : Addr} {argsL rest : List Value} {Q : Option Value → Heap → List Loc → Prop} (hE : Exa Z h a C) (eT : T.heap = h) (hM : own_Met l Z y bytes maxL rt [] rm (.ref a :: argsL).toArray h Q)
    {g : JFrame} (hg : g.method = m) (hsize : g.locals.size = c.maxLocals) (hlen : ∀ sig, parseMethodDescriptor x.desc = some sig → argsL.length = sig.parameters.length) (hstack : g.stack = argsL.reverse ++ .ref a :: rest) {W : Nat} (hW : 2 * g.monitorRoom + (rest.map fun v => v.category).sum ≤ W) (hd : decode c.code g.pc = .ok (.invokevirtual index, 3))
    (hf : rm.frames + 1 ≤ R.frames) (hl : W + (maxL + 11) + rm.locals ≤ R.locals) (hc : cells + rm.cells ≤ R.cells) (hs : slots + rm.slots ≤ R.slots) :
    ∃ v T' L, Stand p l e R s m args below meth c T' (locs ++ L) (cells + rm.cells) (slots + rm.slots) ∧ Q v T'.heap L ∧ ∀ target, Steps p.tables e below (T'.setTop { g with pc := g.pc + 3, stack := v.toList ++ rest }) target → Steps p.tables e below (T.setTop g) target := by
  obtain ⟨_, _, qa, -, qc⟩ := isOf hZ eT hE
  obtain ⟨v, _, ⟨T1, L1, k1, n1⟩, -, X1, ⟨Lc, hQ, l1, y1, z1⟩, st⟩ := X.virtualBackUp hx (x := x) (y := y) hown (mvT hZ w1) (mvT hZ w7) (mvT hZ w2) hy (mvT hZ w5) (mvT hZ w6) (backOf (W := W) hM hZ w4 w3 hf hl) qa qc (g := g) hg hsize (Steps.refl _) (argsL := argsL) (rest := rest) hlen hstack hW hd (fun _ _ => ⟨rfl, eT, hc, hs⟩)
  dsimp only [Pt.U, Pt.locs, Pt.cells, Pt.slots] at X1 l1 y1 z1 st hQ
  subst l1 y1 z1
  exact ⟨v, T1, Lc, X1, hQ, fun _ k => st.trans k⟩
theorem own_arv {a : Addr} {k : ClassId} {ty : FieldType} {z : Int32} {vs : List Value} {dv : Value} (V : Arv Z h a k ty z vs dv) {j : Int32} (q : ¬ j < 0 ∧ j < z) :
    ∃ cl : Cell, Arr Z h a cl ty ∧ cl.cls = k ∧ ¬ (j < 0 ∨ cl.slots.size ≤ j.toNatClampNeg) ∧ cl.slots[j.toNatClampNeg]? = some (vs.getD j.toNatClampNeg dv) ∧ ∀ {h' : Heap} {v : Value}, fits ty v = true → Wr h h' a j.toNatClampNeg v → ∀ i, j.toNatClampNeg = i → i < vs.length → Arv Z h' a k ty z (vs.set i v) dv := by
  obtain ⟨cl, A, q1, S, q3, H, G⟩ := V
  have hin := inb_of S q
  exact ⟨cl, A, q1, hin, Has.at H hin rfl, fun hf W i hj hi => Arv.set A q1 S q3 H G hf W i hj hi⟩
theorem own_len {a : Addr} {k : ClassId} {ty : FieldType} {z : Int32} {vs : List Value} {dv : Value} (V : Arv Z h a k ty z vs dv) : ∃ cl : Cell, Arr Z h a cl ty ∧ cl.slots.size.toInt32 = z := by
  obtain ⟨cl, A, q1, S, q3, -⟩ := V
  exact ⟨cl, A, len_of S q3⟩
theorem own_sta {C f d K : String} (hx : (Jvm.Cond.exactly (.static C f d) K).value args s none s [] = some true) (w1 : (Jvm.Cond.initialized C).before args s = true) (w2 : (Jvm.Cond.laysStatic C f d).before args s = true) :
    ∃ a, (Term.static C f d).eval args s none [] s = some (.ref a) ∧ Sta s s.heap C f d (.ref a) ∧ Exa s s.heap a K := by
  obtain ⟨a, ev⟩ := exa_v hx
  exact ⟨a, ev, Sta.start ev (Or.inr ⟨w1, w2⟩), Exa.start ev hx⟩
theorem own_fldI {t : Term} {C f d : String} {a : Addr} {k : Int32} (ev : t.eval args s none [] s = some (.ref a)) (hx : (Jvm.Cond.eq (.field t C f d) (.int k)).value args s none s [] = some true) : Fld s s.heap a C f d (.int k) := by
  obtain ⟨v, w, e1, e2, k1, k2⟩ := cmp_v (Or.inl hx)
  obtain rfl : w = .int k := Option.some.inj (e2.symm.trans (Term.int_eval k))
  obtain ⟨z, rfl⟩ : ∃ z, v = .int z := k2
  have q : z = k := by simpa [Cond.value, e1, e2] using hx
  subst q
  exact Fld.start (by rw [← fld_at ev]; exact e1)
theorem own_neS {t u : Term} {a b : Addr} (ea : t.eval args s none [] s = some (.ref a)) (eb : u.eval args s none [] s = some (.ref b)) (hx : (Jvm.Cond.not (.eq t u)).value args s none s [] = some true) : a ≠ b := fun q =>
  gotF (eq_R ea eb rfl rfl) (not_v hx) (congrArg Value.ref q)
theorem own_staK {C f d : String} {v : Value} {h' : Heap} {ws : List Addr} (S : Sta Z h C f d v) (K : Keep h h' ws) (q : ∀ x ∈ ws, ∀ cell : Cell, h[x]? = some cell → cell.vm.isStatics = false) : Sta Z h' C f d v := by
  obtain ⟨cf, i, k, fl, st, cell, h1, h2, h3, h4, h5, h6, h7⟩ := S
  refine ⟨cf, i, k, fl, st, cell, h1, h2, h3, h4, K.2.1 st cell h5 (fun hm => ?_), h6, h7⟩
  have := q st hm cell h5
  rw [h6] at this
  cases this
end OwnKit
def own_pick (x y z s i : Int32) : Int32 := if ((s.toUInt32 >>> (((2 : Int32) * i) &&& 31).toUInt32).toInt32 &&& 3) = 1 then y else if ((s.toUInt32 >>> (((2 : Int32) * i) &&& 31).toUInt32).toInt32 &&& 3) = 2 then z else x
def own_step (a b r : Int32) : Int32 := if b = a then r + 1 else 0
def own_m (w1 w2 q : Int32) : Int32 := if w1 = q then w2 else 0
def Q_rm1 (Z : State) (p1 p2 p3 p4 p5 : Int32) (h0 : Heap) (n0 : Nat) (v : Option Value) (h : Heap) (L : List Loc) : Prop := v = some (.int (own_pick p1 p2 p3 p4 p5)) ∧ Fr n0 L ∧ h = h0
theorem pn_rm1 : plainFor (⟨"com/example/tolk/tolk/query/OccurrencesNextPinLaw", "pick", "(IIIII)I"⟩ : MethodName) = true := plainFor_of_name (by first | (simp [plainName, overriddenIn, x]; done) | decide +kernel)
theorem d1_0 : decode method_2_code 0 = .ok (.iload_n 3, 1) := by decide +kernel
theorem d1_1 : decode method_2_code 1 = .ok (.iconst 2, 1) := by decide +kernel
theorem d1_2 : decode method_2_code 2 = .ok (.iload 4, 2) := by decide +kernel
theorem d1_4 : decode method_2_code 4 = .ok (.imul, 1) := by decide +kernel
theorem d1_5 : decode method_2_code 5 = .ok (.iushr, 1) := by decide +kernel
theorem d1_6 : decode method_2_code 6 = .ok (.iconst 3, 1) := by decide +kernel
theorem d1_7 : decode method_2_code 7 = .ok (.iand, 1) := by decide +kernel
theorem d1_8 : decode method_2_code 8 = .ok (.istore 5, 2) := by decide +kernel
theorem d1_10 : decode method_2_code 10 = .ok (.iload 5, 2) := by decide +kernel
theorem d1_12 : decode method_2_code 12 = .ok (.iconst 1, 1) := by decide +kernel
theorem d1_13 : decode method_2_code 13 = .ok (.if_icmp .ne 5, 3) := by decide +kernel
theorem d1_16 : decode method_2_code 16 = .ok (.iload_n 1, 1) := by decide +kernel
theorem d1_17 : decode method_2_code 17 = .ok (.ireturn, 1) := by decide +kernel
theorem d1_18 : decode method_2_code 18 = .ok (.iload 5, 2) := by decide +kernel
theorem d1_20 : decode method_2_code 20 = .ok (.iconst 2, 1) := by decide +kernel
theorem d1_21 : decode method_2_code 21 = .ok (.if_icmp .ne 5, 3) := by decide +kernel
theorem d1_24 : decode method_2_code 24 = .ok (.iload_n 2, 1) := by decide +kernel
theorem d1_25 : decode method_2_code 25 = .ok (.ireturn, 1) := by decide +kernel
theorem d1_26 : decode method_2_code 26 = .ok (.iload_n 0, 1) := by decide +kernel
theorem d1_27 : decode method_2_code 27 = .ok (.ireturn, 1) := by decide +kernel
set_option maxRecDepth 65536 in
set_option maxHeartbeats 40000000 in
theorem rm1 (l : Launch) (Z : State) (a0 : Array Value) (hw : ∀ d ∈ tables_1, d.before a0 Z = true) (ws : List Jvm.Cond) (p1 p2 p3 p4 p5 : Int32) (h0 : Heap) (n0 : Nat) (Z0 : n0 ≤ h0.size)  :
    own_Met l Z (⟨"com/example/tolk/tolk/query/OccurrencesNextPinLaw", "pick", "(IIIII)I"⟩ : MethodName) method_2_code 6 (some .int) ws ({ frames := 0, cells := 0, slots := 0, locals := 0 } : Room) #[(.int p1), (.int p2), (.int p3), (.int p4), (.int p5)] h0 (Q_rm1 Z p1 p2 p3 p4 p5 h0 n0) := by
  refine own_enter (g0 := fun m => (mkF m 0 #[.val (.int p1), .val (.int p2), .val (.int p3), .val (.int p4), .val (.int p5), .unset] [])) pn_rm1 (fun m => by first | (simp [entryFrame, mkF, argsToLocals, Value.category, maxLocals]; done) | rfl) ?_
  intro p e s m below meth c s₁ hx hby hml hown hnm hret hlk hZ X0 e0
  have hml : c.maxLocals = 6 := hml
  have hown : s.vm.findClass "com/example/tolk/tolk/query/OccurrencesNextPinLaw" = some m.cls := hown
  have N0 := Fr.nil n0
  show own_Go p e below _ s₁ (mkF m 0 #[.val (.int p1), .val (.int p2), .val (.int p3), .val (.int p4), .val (.int p5), .unset] [])
  refine own_by (fun _ k => XS.iloadN X0.here hx rfl (hb hby d1_0) rfl k) ?_
  show own_Go p e below _ s₁ (mkF m 1 #[.val (.int p1), .val (.int p2), .val (.int p3), .val (.int p4), .val (.int p5), .unset] [(.int p4)])
  refine own_by (fun _ k => XS.iconst X0.here hx rfl (hb hby d1_1) k) ?_
  show own_Go p e below _ s₁ (mkF m 2 #[.val (.int p1), .val (.int p2), .val (.int p3), .val (.int p4), .val (.int p5), .unset] [(.int (2 : Int32)), (.int p4)])
  refine own_by (fun _ k => XS.iload X0.here hx rfl (hb hby d1_2) rfl k) ?_
  show own_Go p e below _ s₁ (mkF m 4 #[.val (.int p1), .val (.int p2), .val (.int p3), .val (.int p4), .val (.int p5), .unset] [(.int p5), (.int (2 : Int32)), (.int p4)])
  refine own_by (fun _ k => XS.imul X0.here hx rfl (hb hby d1_4) rfl k) ?_
  show own_Go p e below _ s₁ (mkF m 5 #[.val (.int p1), .val (.int p2), .val (.int p3), .val (.int p4), .val (.int p5), .unset] [(.int ((2 : Int32) * p5)), (.int p4)])
  refine own_by (fun _ k => XS.iushr X0.here hx rfl (hb hby d1_5) rfl k) ?_
  show own_Go p e below _ s₁ (mkF m 6 #[.val (.int p1), .val (.int p2), .val (.int p3), .val (.int p4), .val (.int p5), .unset] [(.int ((p4.toUInt32 >>> (((2 : Int32) * p5) &&& 31).toUInt32).toInt32))])
  refine own_by (fun _ k => XS.iconst X0.here hx rfl (hb hby d1_6) k) ?_
  show own_Go p e below _ s₁ (mkF m 7 #[.val (.int p1), .val (.int p2), .val (.int p3), .val (.int p4), .val (.int p5), .unset] [(.int (3 : Int32)), (.int ((p4.toUInt32 >>> (((2 : Int32) * p5) &&& 31).toUInt32).toInt32))])
  refine own_by (fun _ k => XS.iand X0.here hx rfl (hb hby d1_7) rfl k) ?_
  show own_Go p e below _ s₁ (mkF m 8 #[.val (.int p1), .val (.int p2), .val (.int p3), .val (.int p4), .val (.int p5), .unset] [(.int (((p4.toUInt32 >>> (((2 : Int32) * p5) &&& 31).toUInt32).toInt32) &&& (3 : Int32)))])
  refine own_by (fun _ k => XS.istore X0.here hx rfl (hb hby d1_8) rfl (l' := #[.val (.int p1), .val (.int p2), .val (.int p3), .val (.int p4), .val (.int p5), .val (.int (((p4.toUInt32 >>> (((2 : Int32) * p5) &&& 31).toUInt32).toInt32) &&& (3 : Int32)))]) rfl k) ?_
  show own_Go p e below _ s₁ (mkF m 10 #[.val (.int p1), .val (.int p2), .val (.int p3), .val (.int p4), .val (.int p5), .val (.int (((p4.toUInt32 >>> (((2 : Int32) * p5) &&& 31).toUInt32).toInt32) &&& (3 : Int32)))] [])
  refine own_by (fun _ k => XS.iload X0.here hx rfl (hb hby d1_10) rfl k) ?_
  show own_Go p e below _ s₁ (mkF m 12 #[.val (.int p1), .val (.int p2), .val (.int p3), .val (.int p4), .val (.int p5), .val (.int (((p4.toUInt32 >>> (((2 : Int32) * p5) &&& 31).toUInt32).toInt32) &&& (3 : Int32)))] [(.int (((p4.toUInt32 >>> (((2 : Int32) * p5) &&& 31).toUInt32).toInt32) &&& (3 : Int32)))])
  refine own_by (fun _ k => XS.iconst X0.here hx rfl (hb hby d1_12) k) ?_
  show own_Go p e below _ s₁ (mkF m 13 #[.val (.int p1), .val (.int p2), .val (.int p3), .val (.int p4), .val (.int p5), .val (.int (((p4.toUInt32 >>> (((2 : Int32) * p5) &&& 31).toUInt32).toInt32) &&& (3 : Int32)))] [(.int (1 : Int32)), (.int (((p4.toUInt32 >>> (((2 : Int32) * p5) &&& 31).toUInt32).toInt32) &&& (3 : Int32)))])
  by_cases h1 : (((p4.toUInt32 >>> (((2 : Int32) * p5) &&& 31).toUInt32).toInt32) &&& (3 : Int32)) = (1 : Int32)
  · refine own_by (fun _ k => XS.icmpNo X0.here hx rfl (hb hby d1_13) rfl (teq (h1 : (((p4.toUInt32 >>> (((2 : Int32) * p5) &&& 31).toUInt32).toInt32) &&& (3 : Int32)) = (1 : Int32))).2 k) ?_
    show own_Go p e below _ s₁ (mkF m 16 #[.val (.int p1), .val (.int p2), .val (.int p3), .val (.int p4), .val (.int p5), .val (.int (((p4.toUInt32 >>> (((2 : Int32) * p5) &&& 31).toUInt32).toInt32) &&& (3 : Int32)))] [])
    refine own_by (fun _ k => XS.iloadN X0.here hx rfl (hb hby d1_16) rfl k) ?_
    show own_Go p e below _ s₁ (mkF m 17 #[.val (.int p1), .val (.int p2), .val (.int p3), .val (.int p4), .val (.int p5), .val (.int (((p4.toUInt32 >>> (((2 : Int32) * p5) &&& 31).toUInt32).toInt32) &&& (3 : Int32)))] [(.int p2)])
    exact own_retI X0 hx hlk hret  (hb hby d1_17) (by first | exact ⟨by simp only [own_pick, if_pos h1], N0, rfl⟩ | (rw [e0]; exact ⟨by simp only [own_pick, if_pos h1], N0, rfl⟩)) (by decide) (by decide)
  · refine own_by (fun _ k => XS.icmpYes X0.here hx rfl (pc0 := 13) (pc' := 18) rfl (hb hby d1_13) rfl (feq (h1 : ¬ ((((p4.toUInt32 >>> (((2 : Int32) * p5) &&& 31).toUInt32).toInt32) &&& (3 : Int32)) = (1 : Int32)))).2 (by decide) (by decide) k) ?_
    show own_Go p e below _ s₁ (mkF m 18 #[.val (.int p1), .val (.int p2), .val (.int p3), .val (.int p4), .val (.int p5), .val (.int (((p4.toUInt32 >>> (((2 : Int32) * p5) &&& 31).toUInt32).toInt32) &&& (3 : Int32)))] [])
    refine own_by (fun _ k => XS.iload X0.here hx rfl (hb hby d1_18) rfl k) ?_
    show own_Go p e below _ s₁ (mkF m 20 #[.val (.int p1), .val (.int p2), .val (.int p3), .val (.int p4), .val (.int p5), .val (.int (((p4.toUInt32 >>> (((2 : Int32) * p5) &&& 31).toUInt32).toInt32) &&& (3 : Int32)))] [(.int (((p4.toUInt32 >>> (((2 : Int32) * p5) &&& 31).toUInt32).toInt32) &&& (3 : Int32)))])
    refine own_by (fun _ k => XS.iconst X0.here hx rfl (hb hby d1_20) k) ?_
    show own_Go p e below _ s₁ (mkF m 21 #[.val (.int p1), .val (.int p2), .val (.int p3), .val (.int p4), .val (.int p5), .val (.int (((p4.toUInt32 >>> (((2 : Int32) * p5) &&& 31).toUInt32).toInt32) &&& (3 : Int32)))] [(.int (2 : Int32)), (.int (((p4.toUInt32 >>> (((2 : Int32) * p5) &&& 31).toUInt32).toInt32) &&& (3 : Int32)))])
    by_cases h2 : (((p4.toUInt32 >>> (((2 : Int32) * p5) &&& 31).toUInt32).toInt32) &&& (3 : Int32)) = (2 : Int32)
    · refine own_by (fun _ k => XS.icmpNo X0.here hx rfl (hb hby d1_21) rfl (teq (h2 : (((p4.toUInt32 >>> (((2 : Int32) * p5) &&& 31).toUInt32).toInt32) &&& (3 : Int32)) = (2 : Int32))).2 k) ?_
      show own_Go p e below _ s₁ (mkF m 24 #[.val (.int p1), .val (.int p2), .val (.int p3), .val (.int p4), .val (.int p5), .val (.int (((p4.toUInt32 >>> (((2 : Int32) * p5) &&& 31).toUInt32).toInt32) &&& (3 : Int32)))] [])
      refine own_by (fun _ k => XS.iloadN X0.here hx rfl (hb hby d1_24) rfl k) ?_
      show own_Go p e below _ s₁ (mkF m 25 #[.val (.int p1), .val (.int p2), .val (.int p3), .val (.int p4), .val (.int p5), .val (.int (((p4.toUInt32 >>> (((2 : Int32) * p5) &&& 31).toUInt32).toInt32) &&& (3 : Int32)))] [(.int p3)])
      exact own_retI X0 hx hlk hret  (hb hby d1_25) (by first | exact ⟨by simp only [own_pick, if_neg h1, if_pos h2], N0, rfl⟩ | (rw [e0]; exact ⟨by simp only [own_pick, if_neg h1, if_pos h2], N0, rfl⟩)) (by decide) (by decide)
    · refine own_by (fun _ k => XS.icmpYes X0.here hx rfl (pc0 := 21) (pc' := 26) rfl (hb hby d1_21) rfl (feq (h2 : ¬ ((((p4.toUInt32 >>> (((2 : Int32) * p5) &&& 31).toUInt32).toInt32) &&& (3 : Int32)) = (2 : Int32)))).2 (by decide) (by decide) k) ?_
      show own_Go p e below _ s₁ (mkF m 26 #[.val (.int p1), .val (.int p2), .val (.int p3), .val (.int p4), .val (.int p5), .val (.int (((p4.toUInt32 >>> (((2 : Int32) * p5) &&& 31).toUInt32).toInt32) &&& (3 : Int32)))] [])
      refine own_by (fun _ k => XS.iloadN X0.here hx rfl (hb hby d1_26) rfl k) ?_
      show own_Go p e below _ s₁ (mkF m 27 #[.val (.int p1), .val (.int p2), .val (.int p3), .val (.int p4), .val (.int p5), .val (.int (((p4.toUInt32 >>> (((2 : Int32) * p5) &&& 31).toUInt32).toInt32) &&& (3 : Int32)))] [(.int p1)])
      exact own_retI X0 hx hlk hret  (hb hby d1_27) (by first | exact ⟨by simp only [own_pick, if_neg h1, if_neg h2], N0, rfl⟩ | (rw [e0]; exact ⟨by simp only [own_pick, if_neg h1, if_neg h2], N0, rfl⟩)) (by decide) (by decide)
def Q_rm2 (Z : State) (a1 : Addr) (h0 : Heap) (n0 : Nat) (v : Option Value) (h : Heap) (L : List Loc) : Prop := v = none ∧ Fr n0 L ∧ h = h0
theorem pn_rm2 : plainFor (⟨"com/example/tolk/tolk/query/Occurrences", "<init>", "()V"⟩ : MethodName) = true := plainFor_of_name (by first | (simp [plainName, overriddenIn, x]; done) | decide +kernel)
theorem d2_0 : decode prog_21_method_1_code 0 = .ok (.aload_n 0, 1) := by decide +kernel
theorem d2_1 : decode prog_21_method_1_code 1 = .ok (.invokespecial 1, 3) := by decide +kernel
theorem d2_4 : decode prog_21_method_1_code 4 = .ok (.return_, 1) := by decide +kernel
set_option maxRecDepth 65536 in
set_option maxHeartbeats 40000000 in
theorem rm2 (l : Launch) (Z : State) (a0 : Array Value) (hw : ∀ d ∈ tables_1, d.before a0 Z = true) (ws : List Jvm.Cond) (a1 : Addr) (h0 : Heap) (n0 : Nat) (Z0 : n0 ≤ h0.size)  :
    own_Met l Z (⟨"com/example/tolk/tolk/query/Occurrences", "<init>", "()V"⟩ : MethodName) prog_21_method_1_code 1 none ws ({ frames := 1, cells := 0, slots := 0, locals := 12 } : Room) #[(.ref a1)] h0 (Q_rm2 Z a1 h0 n0) := by
  refine own_enter (g0 := fun m => (mkF m 0 #[.val (.ref a1)] [])) pn_rm2 (fun m => by first | (simp [entryFrame, mkF, argsToLocals, Value.category, maxLocals]; done) | rfl) ?_
  intro p e s m below meth c s₁ hx hby hml hown hnm hret hlk hZ X0 e0
  have hml : c.maxLocals = 1 := hml
  have hown : s.vm.findClass "com/example/tolk/tolk/query/Occurrences" = some m.cls := hown
  have N0 := Fr.nil n0
  show own_Go p e below _ s₁ (mkF m 0 #[.val (.ref a1)] [])
  refine own_by (fun _ k => XS.aloadN X0.here hx rfl (hb hby d2_0) rfl rfl k) ?_
  show own_Go p e below _ s₁ (mkF m 1 #[.val (.ref a1)] [(.ref a1)])
  obtain ⟨T101, X101, e101, st101⟩ := initO X0 hx hZ hown (hw _ (List.mem_of_getElem? (i := 10) rfl)) (hw _ (List.mem_of_getElem? (i := 11) rfl)) (hw _ (List.mem_of_getElem? (i := 12) rfl)) e0 (g := (mkF m 1 #[.val (.ref a1)] [(.ref a1)])) rfl (by rw [hml]; rfl) rfl (hb hby d2_1) (by decide) (W := 0) (by show 2 * 0 + _ ≤ _; exact Nat.le_of_eq rfl) (by decide)
  refine own_by st101 ?_
  show own_Go p e below _ T101 (mkF m 4 #[.val (.ref a1)] [])
  exact own_ret0 X101 hx hlk hret (hb hby d2_4) (by first | exact ⟨rfl, N0, rfl⟩ | (rw [e101]; exact ⟨rfl, N0, rfl⟩)) (by decide) (by decide)
def Q_rm4 (Z : State) (a1 : Addr) (p2 : Int32) (w1 w2 : Int32) (h0 : Heap) (n0 : Nat) (v : Option Value) (h : Heap) (L : List Loc) : Prop := v = some (.int (own_m w1 w2 p2)) ∧ Fr n0 L ∧ Keep h0 h [a1] ∧ Exa Z h a1 "com/example/tolk/tolk/query/Occurrences" ∧ Fld Z h a1 "com/example/tolk/tolk/query/Occurrences" "pass" "I" (.int p2) ∧ Fld Z h a1 "com/example/tolk/tolk/query/Occurrences" "made" "I" (.int (own_m w1 w2 p2 + 1))
theorem pn_rm4 : plainFor (⟨"com/example/tolk/tolk/query/Occurrences", "next", "(I)I"⟩ : MethodName) = true := plainFor_of_name (by first | (simp [plainName, overriddenIn, x]; done) | decide +kernel)
theorem d4_0 : decode prog_21_method_2_code 0 = .ok (.aload_n 0, 1) := by decide +kernel
theorem d4_1 : decode prog_21_method_2_code 1 = .ok (.getfield 7, 3) := by decide +kernel
theorem d4_4 : decode prog_21_method_2_code 4 = .ok (.iload_n 1, 1) := by decide +kernel
theorem d4_5 : decode prog_21_method_2_code 5 = .ok (.if_icmp .eq 13, 3) := by decide +kernel
theorem d4_18 : decode prog_21_method_2_code 18 = .ok (.aload_n 0, 1) := by decide +kernel
theorem d4_19 : decode prog_21_method_2_code 19 = .ok (.dup, 1) := by decide +kernel
theorem d4_20 : decode prog_21_method_2_code 20 = .ok (.getfield 13, 3) := by decide +kernel
theorem d4_23 : decode prog_21_method_2_code 23 = .ok (.dup_x1, 1) := by decide +kernel
theorem d4_24 : decode prog_21_method_2_code 24 = .ok (.iconst 1, 1) := by decide +kernel
theorem d4_25 : decode prog_21_method_2_code 25 = .ok (.iadd, 1) := by decide +kernel
theorem d4_26 : decode prog_21_method_2_code 26 = .ok (.putfield 13, 3) := by decide +kernel
theorem d4_29 : decode prog_21_method_2_code 29 = .ok (.ireturn, 1) := by decide +kernel
theorem d4_8 : decode prog_21_method_2_code 8 = .ok (.aload_n 0, 1) := by decide +kernel
theorem d4_9 : decode prog_21_method_2_code 9 = .ok (.iload_n 1, 1) := by decide +kernel
theorem d4_10 : decode prog_21_method_2_code 10 = .ok (.putfield 7, 3) := by decide +kernel
theorem d4_13 : decode prog_21_method_2_code 13 = .ok (.aload_n 0, 1) := by decide +kernel
theorem d4_14 : decode prog_21_method_2_code 14 = .ok (.iconst 0, 1) := by decide +kernel
theorem d4_15 : decode prog_21_method_2_code 15 = .ok (.putfield 13, 3) := by decide +kernel
set_option maxRecDepth 65536 in
set_option maxHeartbeats 40000000 in
theorem rm4 (l : Launch) (Z : State) (a0 : Array Value) (hw : ∀ d ∈ tables_1, d.before a0 Z = true) (ws : List Jvm.Cond) (a1 : Addr) (p2 : Int32) (w1 w2 : Int32) (h0 : Heap) (n0 : Nat) (Z0 : n0 ≤ h0.size) (g1 : n0 ≤ a1) (E1 : Exa Z h0 a1 "com/example/tolk/tolk/query/Occurrences") (F1 : Fld Z h0 a1 "com/example/tolk/tolk/query/Occurrences" "pass" "I" (.int w1)) (F2 : Fld Z h0 a1 "com/example/tolk/tolk/query/Occurrences" "made" "I" (.int w2)) :
    own_Met l Z (⟨"com/example/tolk/tolk/query/Occurrences", "next", "(I)I"⟩ : MethodName) prog_21_method_2_code 2 (some .int) ws ({ frames := 0, cells := 0, slots := 0, locals := 0 } : Room) #[(.ref a1), (.int p2)] h0 (Q_rm4 Z a1 p2 w1 w2 h0 n0) := by
  refine own_enter (g0 := fun m => (mkF m 0 #[.val (.ref a1), .val (.int p2)] [])) pn_rm4 (fun m => by first | (simp [entryFrame, mkF, argsToLocals, Value.category, maxLocals]; done) | rfl) ?_
  intro p e s m below meth c s₁ hx hby hml hown hnm hret hlk hZ X0 e0
  have hml : c.maxLocals = 2 := hml
  have hown : s.vm.findClass "com/example/tolk/tolk/query/Occurrences" = some m.cls := hown
  have N0 := Fr.nil n0
  show own_Go p e below _ s₁ (mkF m 0 #[.val (.ref a1), .val (.int p2)] [])
  have K0 := Keep.refl h0 [a1]
  refine own_by (fun _ k => XS.aloadN X0.here hx rfl (hb hby d4_0) rfl rfl k) ?_
  show own_Go p e below _ s₁ (mkF m 1 #[.val (.ref a1), .val (.int p2)] [(.ref a1)])
  obtain ⟨T102, X102, e102, st102⟩ := getF X0 hx hZ hown (host := "") (Or.inl (hw _ (List.mem_of_getElem? (i := 18) rfl))) Via.refl e0 F1 (g := (mkF m 1 #[.val (.ref a1), .val (.int p2)] [(.ref a1)])) rfl rfl (hb hby d4_1)
  refine own_by st102 ?_
  show own_Go p e below _ T102 (mkF m 4 #[.val (.ref a1), .val (.int p2)] [(.int w1)])
  refine own_by (fun _ k => XS.iloadN X102.here hx rfl (hb hby d4_4) rfl k) ?_
  show own_Go p e below _ T102 (mkF m 5 #[.val (.ref a1), .val (.int p2)] [(.int p2), (.int w1)])
  by_cases hp : w1 = p2
  · refine own_by (fun _ k => XS.icmpYes X102.here hx rfl (pc0 := 5) (pc' := 18) rfl (hb hby d4_5) rfl (teq (hp : w1 = p2)).1 (by decide) (by decide) k) ?_
    show own_Go p e below _ T102 (mkF m 18 #[.val (.ref a1), .val (.int p2)] [])
    refine own_by (fun _ k => XS.aloadN X102.here hx rfl (hb hby d4_18) rfl rfl k) ?_
    show own_Go p e below _ T102 (mkF m 19 #[.val (.ref a1), .val (.int p2)] [(.ref a1)])
    refine own_by (fun _ k => XS.dup X102.here hx rfl (hb hby d4_19) rfl rfl k) ?_
    show own_Go p e below _ T102 (mkF m 20 #[.val (.ref a1), .val (.int p2)] [(.ref a1), (.ref a1)])
    obtain ⟨T103, X103, e103, st103⟩ := getF X102 hx hZ hown (host := "") (Or.inl (hw _ (List.mem_of_getElem? (i := 20) rfl))) Via.refl e102 F2 (g := (mkF m 20 #[.val (.ref a1), .val (.int p2)] [(.ref a1), (.ref a1)])) rfl rfl (hb hby d4_20)
    refine own_by st103 ?_
    show own_Go p e below _ T103 (mkF m 23 #[.val (.ref a1), .val (.int p2)] [(.int w2), (.ref a1)])
    refine own_by (fun _ k => XS.dupX1 X103.here hx rfl (hb hby d4_23) rfl rfl rfl k) ?_
    show own_Go p e below _ T103 (mkF m 24 #[.val (.ref a1), .val (.int p2)] [(.int w2), (.ref a1), (.int w2)])
    refine own_by (fun _ k => XS.iconst X103.here hx rfl (hb hby d4_24) k) ?_
    show own_Go p e below _ T103 (mkF m 25 #[.val (.ref a1), .val (.int p2)] [(.int (1 : Int32)), (.int w2), (.ref a1), (.int w2)])
    refine own_by (fun _ k => XS.iadd X103.here hx rfl (hb hby d4_25) rfl k) ?_
    show own_Go p e below _ T103 (mkF m 26 #[.val (.ref a1), .val (.int p2)] [(.int (w2 + (1 : Int32))), (.ref a1), (.int w2)])
    obtain ⟨T104, h104, X104, e104, W104, st104⟩ := putF X103 hx hZ hown (host := "") (Or.inl (hw _ (List.mem_of_getElem? (i := 20) rfl))) Via.refl e103 F2 E1 (Or.inl (hw _ (List.mem_of_getElem? (i := 21) rfl))) (hw _ (List.mem_of_getElem? (i := 5) rfl)) (ty := .int) (by decide) rfl rfl (g := (mkF m 26 #[.val (.ref a1), .val (.int p2)] [(.int (w2 + (1 : Int32))), (.ref a1), (.int w2)])) rfl rfl (hb hby d4_26)
    refine own_by st104 ?_
    have N104 := Fr.snoc X104 N0 g1
    have fw104 := F2.same W104
    have K105 := K0.wr W104 (Or.inl (List.mem_of_getElem? (i := 0) rfl))
    have Z104 : n0 ≤ h104.size := Nat.le_trans Z0 (Keep.of_wr W104).1
    show own_Go p e below _ T104 (mkF m 29 #[.val (.ref a1), .val (.int p2)] [(.int w2)])
    have f106 := (F1.other W104 (Or.inr (slot_ne (Or.inl (hw _ (List.mem_of_getElem? (i := 19) rfl))) (Or.inl (hw _ (List.mem_of_getElem? (i := 21) rfl))) (by decide) (t := .int) (t' := .int) (by decide) (by decide))))
    have hm : own_m w1 w2 p2 = w2 := if_pos hp
    have f107 := (E1.wr W104)
    exact own_retI X104 hx hlk hret  (hb hby d4_29) (by first | exact ⟨by rw [hm], N104, K105, f107, hp ▸ f106, by rw [hm]; exact fw104⟩ | (rw [e104]; exact ⟨by rw [hm], N104, K105, f107, hp ▸ f106, by rw [hm]; exact fw104⟩)) (by decide) (by decide)
  · refine own_by (fun _ k => XS.icmpNo X102.here hx rfl (hb hby d4_5) rfl (feq (hp : ¬ (w1 = p2))).1 k) ?_
    show own_Go p e below _ T102 (mkF m 8 #[.val (.ref a1), .val (.int p2)] [])
    refine own_by (fun _ k => XS.aloadN X102.here hx rfl (hb hby d4_8) rfl rfl k) ?_
    show own_Go p e below _ T102 (mkF m 9 #[.val (.ref a1), .val (.int p2)] [(.ref a1)])
    refine own_by (fun _ k => XS.iloadN X102.here hx rfl (hb hby d4_9) rfl k) ?_
    show own_Go p e below _ T102 (mkF m 10 #[.val (.ref a1), .val (.int p2)] [(.int p2), (.ref a1)])
    obtain ⟨T108, h108, X108, e108, W108, st108⟩ := putF X102 hx hZ hown (host := "") (Or.inl (hw _ (List.mem_of_getElem? (i := 18) rfl))) Via.refl e102 F1 E1 (Or.inl (hw _ (List.mem_of_getElem? (i := 19) rfl))) (hw _ (List.mem_of_getElem? (i := 5) rfl)) (ty := .int) (by decide) rfl rfl (g := (mkF m 10 #[.val (.ref a1), .val (.int p2)] [(.int p2), (.ref a1)])) rfl rfl (hb hby d4_10)
    refine own_by st108 ?_
    have N108 := Fr.snoc X108 N0 g1
    have fw108 := F1.same W108
    have K109 := K0.wr W108 (Or.inl (List.mem_of_getElem? (i := 0) rfl))
    have Z108 : n0 ≤ h108.size := Nat.le_trans Z0 (Keep.of_wr W108).1
    show own_Go p e below _ T108 (mkF m 13 #[.val (.ref a1), .val (.int p2)] [])
    refine own_by (fun _ k => XS.aloadN X108.here hx rfl (hb hby d4_13) rfl rfl k) ?_
    show own_Go p e below _ T108 (mkF m 14 #[.val (.ref a1), .val (.int p2)] [(.ref a1)])
    refine own_by (fun _ k => XS.iconst X108.here hx rfl (hb hby d4_14) k) ?_
    show own_Go p e below _ T108 (mkF m 15 #[.val (.ref a1), .val (.int p2)] [(.int (0 : Int32)), (.ref a1)])
    have f111 := (F2.other W108 (Or.inr (slot_ne (Or.inl (hw _ (List.mem_of_getElem? (i := 21) rfl))) (Or.inl (hw _ (List.mem_of_getElem? (i := 19) rfl))) (by decide) (t := .int) (t' := .int) (by decide) (by decide))))
    have f112 := (E1.wr W108)
    obtain ⟨T110, h110, X110, e110, W110, st110⟩ := putF X108 hx hZ hown (host := "") (Or.inl (hw _ (List.mem_of_getElem? (i := 20) rfl))) Via.refl e108 f111 f112 (Or.inl (hw _ (List.mem_of_getElem? (i := 21) rfl))) (hw _ (List.mem_of_getElem? (i := 5) rfl)) (ty := .int) (by decide) rfl rfl (g := (mkF m 15 #[.val (.ref a1), .val (.int p2)] [(.int (0 : Int32)), (.ref a1)])) rfl rfl (hb hby d4_15)
    refine own_by st110 ?_
    have N110 := Fr.snoc X110 N108 g1
    have fw110 := f111.same W110
    have K113 := K109.wr W110 (Or.inl (List.mem_of_getElem? (i := 0) rfl))
    have Z110 : n0 ≤ h110.size := Nat.le_trans Z108 (Keep.of_wr W110).1
    show own_Go p e below _ T110 (mkF m 18 #[.val (.ref a1), .val (.int p2)] [])
    refine own_by (fun _ k => XS.aloadN X110.here hx rfl (hb hby d4_18) rfl rfl k) ?_
    show own_Go p e below _ T110 (mkF m 19 #[.val (.ref a1), .val (.int p2)] [(.ref a1)])
    refine own_by (fun _ k => XS.dup X110.here hx rfl (hb hby d4_19) rfl rfl k) ?_
    show own_Go p e below _ T110 (mkF m 20 #[.val (.ref a1), .val (.int p2)] [(.ref a1), (.ref a1)])
    obtain ⟨T114, X114, e114, st114⟩ := getF X110 hx hZ hown (host := "") (Or.inl (hw _ (List.mem_of_getElem? (i := 20) rfl))) Via.refl e110 fw110 (g := (mkF m 20 #[.val (.ref a1), .val (.int p2)] [(.ref a1), (.ref a1)])) rfl rfl (hb hby d4_20)
    refine own_by st114 ?_
    show own_Go p e below _ T114 (mkF m 23 #[.val (.ref a1), .val (.int p2)] [(.int (0 : Int32)), (.ref a1)])
    refine own_by (fun _ k => XS.dupX1 X114.here hx rfl (hb hby d4_23) rfl rfl rfl k) ?_
    show own_Go p e below _ T114 (mkF m 24 #[.val (.ref a1), .val (.int p2)] [(.int (0 : Int32)), (.ref a1), (.int (0 : Int32))])
    refine own_by (fun _ k => XS.iconst X114.here hx rfl (hb hby d4_24) k) ?_
    show own_Go p e below _ T114 (mkF m 25 #[.val (.ref a1), .val (.int p2)] [(.int (1 : Int32)), (.int (0 : Int32)), (.ref a1), (.int (0 : Int32))])
    refine own_by (fun _ k => XS.iadd X114.here hx rfl (hb hby d4_25) rfl k) ?_
    show own_Go p e below _ T114 (mkF m 26 #[.val (.ref a1), .val (.int p2)] [(.int ((0 : Int32) + (1 : Int32))), (.ref a1), (.int (0 : Int32))])
    have f116 := (f112.wr W110)
    obtain ⟨T115, h115, X115, e115, W115, st115⟩ := putF X114 hx hZ hown (host := "") (Or.inl (hw _ (List.mem_of_getElem? (i := 20) rfl))) Via.refl e114 fw110 f116 (Or.inl (hw _ (List.mem_of_getElem? (i := 21) rfl))) (hw _ (List.mem_of_getElem? (i := 5) rfl)) (ty := .int) (by decide) rfl rfl (g := (mkF m 26 #[.val (.ref a1), .val (.int p2)] [(.int ((0 : Int32) + (1 : Int32))), (.ref a1), (.int (0 : Int32))])) rfl rfl (hb hby d4_26)
    refine own_by st115 ?_
    have N115 := Fr.snoc X115 N110 g1
    have fw115 := fw110.same W115
    have K117 := K113.wr W115 (Or.inl (List.mem_of_getElem? (i := 0) rfl))
    have Z115 : n0 ≤ h115.size := Nat.le_trans Z110 (Keep.of_wr W115).1
    show own_Go p e below _ T115 (mkF m 29 #[.val (.ref a1), .val (.int p2)] [(.int (0 : Int32))])
    have f118 := ((fw108.other W110 (Or.inr (slot_ne (Or.inl (hw _ (List.mem_of_getElem? (i := 19) rfl))) (Or.inl (hw _ (List.mem_of_getElem? (i := 21) rfl))) (by decide) (t := .int) (t' := .int) (by decide) (by decide)))).other W115 (Or.inr (slot_ne (Or.inl (hw _ (List.mem_of_getElem? (i := 19) rfl))) (Or.inl (hw _ (List.mem_of_getElem? (i := 21) rfl))) (by decide) (t := .int) (t' := .int) (by decide) (by decide))))
    have hm : own_m w1 w2 p2 = (0 : Int32) := if_neg hp
    have f119 := (f116.wr W115)
    exact own_retI X115 hx hlk hret  (hb hby d4_29) (by first | exact ⟨by rw [hm], N115, K117, f119, f118, by rw [hm]; exact fw115⟩ | (rw [e115]; exact ⟨by rw [hm], N115, K117, f119, f118, by rw [hm]; exact fw115⟩)) (by decide) (by decide)
def Q_rm5 (Z : State) (p1 p2 p3 : Int32) (h0 : Heap) (n0 : Nat) (v : Option Value) (h : Heap) (L : List Loc) : Prop := v = some (.int (own_step p1 p2 p3)) ∧ Fr n0 L ∧ h = h0
theorem pn_rm5 : plainFor (⟨"com/example/tolk/tolk/query/OccurrencesNextPinLaw", "step", "(III)I"⟩ : MethodName) = true := plainFor_of_name (by first | (simp [plainName, overriddenIn, x]; done) | decide +kernel)
theorem d5_0 : decode method_3_code 0 = .ok (.iload_n 1, 1) := by decide +kernel
theorem d5_1 : decode method_3_code 1 = .ok (.iload_n 0, 1) := by decide +kernel
theorem d5_2 : decode method_3_code 2 = .ok (.if_icmp .ne 7, 3) := by decide +kernel
theorem d5_5 : decode method_3_code 5 = .ok (.iload_n 2, 1) := by decide +kernel
theorem d5_6 : decode method_3_code 6 = .ok (.iconst 1, 1) := by decide +kernel
theorem d5_7 : decode method_3_code 7 = .ok (.iadd, 1) := by decide +kernel
theorem d5_8 : decode method_3_code 8 = .ok (.ireturn, 1) := by decide +kernel
theorem d5_9 : decode method_3_code 9 = .ok (.iconst 0, 1) := by decide +kernel
theorem d5_10 : decode method_3_code 10 = .ok (.ireturn, 1) := by decide +kernel
set_option maxRecDepth 65536 in
set_option maxHeartbeats 40000000 in
theorem rm5 (l : Launch) (Z : State) (a0 : Array Value) (hw : ∀ d ∈ tables_1, d.before a0 Z = true) (ws : List Jvm.Cond) (p1 p2 p3 : Int32) (h0 : Heap) (n0 : Nat) (Z0 : n0 ≤ h0.size)  :
    own_Met l Z (⟨"com/example/tolk/tolk/query/OccurrencesNextPinLaw", "step", "(III)I"⟩ : MethodName) method_3_code 3 (some .int) ws ({ frames := 0, cells := 0, slots := 0, locals := 0 } : Room) #[(.int p1), (.int p2), (.int p3)] h0 (Q_rm5 Z p1 p2 p3 h0 n0) := by
  refine own_enter (g0 := fun m => (mkF m 0 #[.val (.int p1), .val (.int p2), .val (.int p3)] [])) pn_rm5 (fun m => by first | (simp [entryFrame, mkF, argsToLocals, Value.category, maxLocals]; done) | rfl) ?_
  intro p e s m below meth c s₁ hx hby hml hown hnm hret hlk hZ X0 e0
  have hml : c.maxLocals = 3 := hml
  have hown : s.vm.findClass "com/example/tolk/tolk/query/OccurrencesNextPinLaw" = some m.cls := hown
  have N0 := Fr.nil n0
  show own_Go p e below _ s₁ (mkF m 0 #[.val (.int p1), .val (.int p2), .val (.int p3)] [])
  refine own_by (fun _ k => XS.iloadN X0.here hx rfl (hb hby d5_0) rfl k) ?_
  show own_Go p e below _ s₁ (mkF m 1 #[.val (.int p1), .val (.int p2), .val (.int p3)] [(.int p2)])
  refine own_by (fun _ k => XS.iloadN X0.here hx rfl (hb hby d5_1) rfl k) ?_
  show own_Go p e below _ s₁ (mkF m 2 #[.val (.int p1), .val (.int p2), .val (.int p3)] [(.int p1), (.int p2)])
  by_cases h1 : p2 = p1
  · refine own_by (fun _ k => XS.icmpNo X0.here hx rfl (hb hby d5_2) rfl (teq (h1 : p2 = p1)).2 k) ?_
    show own_Go p e below _ s₁ (mkF m 5 #[.val (.int p1), .val (.int p2), .val (.int p3)] [])
    refine own_by (fun _ k => XS.iloadN X0.here hx rfl (hb hby d5_5) rfl k) ?_
    show own_Go p e below _ s₁ (mkF m 6 #[.val (.int p1), .val (.int p2), .val (.int p3)] [(.int p3)])
    refine own_by (fun _ k => XS.iconst X0.here hx rfl (hb hby d5_6) k) ?_
    show own_Go p e below _ s₁ (mkF m 7 #[.val (.int p1), .val (.int p2), .val (.int p3)] [(.int (1 : Int32)), (.int p3)])
    refine own_by (fun _ k => XS.iadd X0.here hx rfl (hb hby d5_7) rfl k) ?_
    show own_Go p e below _ s₁ (mkF m 8 #[.val (.int p1), .val (.int p2), .val (.int p3)] [(.int (p3 + (1 : Int32)))])
    exact own_retI X0 hx hlk hret  (hb hby d5_8) (by first | exact ⟨by simp only [own_step, if_pos h1], N0, rfl⟩ | (rw [e0]; exact ⟨by simp only [own_step, if_pos h1], N0, rfl⟩)) (by decide) (by decide)
  · refine own_by (fun _ k => XS.icmpYes X0.here hx rfl (pc0 := 2) (pc' := 9) rfl (hb hby d5_2) rfl (feq (h1 : ¬ (p2 = p1))).2 (by decide) (by decide) k) ?_
    show own_Go p e below _ s₁ (mkF m 9 #[.val (.int p1), .val (.int p2), .val (.int p3)] [])
    refine own_by (fun _ k => XS.iconst X0.here hx rfl (hb hby d5_9) k) ?_
    show own_Go p e below _ s₁ (mkF m 10 #[.val (.int p1), .val (.int p2), .val (.int p3)] [(.int (0 : Int32))])
    exact own_retI X0 hx hlk hret  (hb hby d5_10) (by first | exact ⟨by simp only [own_step, if_neg h1], N0, rfl⟩ | (rw [e0]; exact ⟨by simp only [own_step, if_neg h1], N0, rfl⟩)) (by decide) (by decide)
theorem own_first (q : Int32) : own_m 0 0 q = 0 := by unfold own_m; split <;> rfl
theorem own_next (a b r : Int32) : own_m a (r + 1) b = own_step a b r := by
  unfold own_m own_step
  by_cases h : a = b
  · rw [if_pos h, if_pos h.symm]
  · rw [if_neg h, if_neg (fun q => h q.symm)]
def Q_rm0 (Z : State) (p1 p2 p3 p4 : Int32) (h0 : Heap) (n0 : Nat) (v : Option Value) (h : Heap) (L : List Loc) : Prop := v = some (.int 1) ∧ Fr n0 L
theorem pn_rm0 : plainFor x = true := plainFor_of_name (by first | (simp [plainName, overriddenIn, x]; done) | decide +kernel)
theorem pd_0 : parseMethodDescriptor "(IIIII)I" = some ⟨[.int, .int, .int, .int, .int], some .int⟩ := by decide +kernel
theorem pd_1 : parseMethodDescriptor "()V" = some ⟨[], none⟩ := by decide +kernel
theorem pd_2 : parseMethodDescriptor "(I)I" = some ⟨[.int], some .int⟩ := by decide +kernel
theorem pd_3 : parseMethodDescriptor "(III)I" = some ⟨[.int, .int, .int], some .int⟩ := by decide +kernel
set_option maxRecDepth 65536 in
set_option maxHeartbeats 40000000 in
theorem rm0 (l : Launch) (Z : State) (a0 : Array Value) (hw : ∀ d ∈ tables_1, d.before a0 Z = true) (ws : List Jvm.Cond) (p1 p2 p3 p4 : Int32) (h0 : Heap) (n0 : Nat) (Z0 : n0 ≤ h0.size)  :
    own_Met l Z x code maxLocals ret ws room_1 #[(.int p1), (.int p2), (.int p3), (.int p4)] h0 (Q_rm0 Z p1 p2 p3 p4 h0 n0) := by
  refine own_enter (g0 := fun m => (mkF m 0 #[.val (.int p1), .val (.int p2), .val (.int p3), .val (.int p4), .unset, .unset, .unset, .unset, .unset, .unset, .unset, .unset, .unset, .unset, .unset, .unset, .unset, .unset, .unset, .unset] [])) pn_rm0 (fun m => by first | (simp [entryFrame, mkF, argsToLocals, Value.category, maxLocals]; done) | rfl) ?_
  intro p e s m below meth c s₁ hx hby hml hown hnm hret hlk hZ X0 e0
  have hml : c.maxLocals = 20 := hml
  have hown : s.vm.findClass "com/example/tolk/tolk/query/OccurrencesNextPinLaw" = some m.cls := hown
  have N0 := Fr.nil n0
  show own_Go p e below _ s₁ (mkF m 0 #[.val (.int p1), .val (.int p2), .val (.int p3), .val (.int p4), .unset, .unset, .unset, .unset, .unset, .unset, .unset, .unset, .unset, .unset, .unset, .unset, .unset, .unset, .unset, .unset] [])
  refine own_by (fun _ k => XS.iloadN X0.here hx rfl (hb hby at_0) rfl k) ?_
  show own_Go p e below _ s₁ (mkF m 1 #[.val (.int p1), .val (.int p2), .val (.int p3), .val (.int p4), .unset, .unset, .unset, .unset, .unset, .unset, .unset, .unset, .unset, .unset, .unset, .unset, .unset, .unset, .unset, .unset] [(.int p1)])
  refine own_by (fun _ k => XS.iloadN X0.here hx rfl (hb hby at_1) rfl k) ?_
  show own_Go p e below _ s₁ (mkF m 2 #[.val (.int p1), .val (.int p2), .val (.int p3), .val (.int p4), .unset, .unset, .unset, .unset, .unset, .unset, .unset, .unset, .unset, .unset, .unset, .unset, .unset, .unset, .unset, .unset] [(.int p2), (.int p1)])
  refine own_by (fun _ k => XS.iloadN X0.here hx rfl (hb hby at_2) rfl k) ?_
  show own_Go p e below _ s₁ (mkF m 3 #[.val (.int p1), .val (.int p2), .val (.int p3), .val (.int p4), .unset, .unset, .unset, .unset, .unset, .unset, .unset, .unset, .unset, .unset, .unset, .unset, .unset, .unset, .unset, .unset] [(.int p3), (.int p2), (.int p1)])
  refine own_by (fun _ k => XS.iloadN X0.here hx rfl (hb hby at_3) rfl k) ?_
  show own_Go p e below _ s₁ (mkF m 4 #[.val (.int p1), .val (.int p2), .val (.int p3), .val (.int p4), .unset, .unset, .unset, .unset, .unset, .unset, .unset, .unset, .unset, .unset, .unset, .unset, .unset, .unset, .unset, .unset] [(.int p4), (.int p3), (.int p2), (.int p1)])
  refine own_by (fun _ k => XS.iconst X0.here hx rfl (hb hby at_4) k) ?_
  show own_Go p e below _ s₁ (mkF m 5 #[.val (.int p1), .val (.int p2), .val (.int p3), .val (.int p4), .unset, .unset, .unset, .unset, .unset, .unset, .unset, .unset, .unset, .unset, .unset, .unset, .unset, .unset, .unset, .unset] [(.int (0 : Int32)), (.int p4), (.int p3), (.int p2), (.int p1)])
  obtain ⟨_, T120, L120, X120, ⟨rfl, N120q, e120⟩, st120⟩ := own_callS X0 hx hZ hown (y := (⟨"com/example/tolk/tolk/query/OccurrencesNextPinLaw", "pick", "(IIIII)I"⟩ : MethodName)) (hw _ (List.mem_of_getElem? (i := 0) rfl)) (hw _ (List.mem_of_getElem? (i := 1) rfl)) (hw _ (List.mem_of_getElem? (i := 2) rfl)) (hw _ (List.mem_of_getElem? (i := 3) rfl)) (by decide) (argsL := [(.int p1), (.int p2), (.int p3), (.int p4), (.int (0 : Int32))]) (rest := []) e0 (rm1 l Z a0 hw [] p1 p2 p3 p4 (0 : Int32) h0 n0 Z0) (g := (mkF m 5 #[.val (.int p1), .val (.int p2), .val (.int p3), .val (.int p4), .unset, .unset, .unset, .unset, .unset, .unset, .unset, .unset, .unset, .unset, .unset, .unset, .unset, .unset, .unset, .unset] [(.int (0 : Int32)), (.int p4), (.int p3), (.int p2), (.int p1)])) rfl (by rw [hml]; rfl) (lenOf pd_0 rfl) rfl (W := 0) (by show 2 * 0 + _ ≤ _; exact Nat.le_of_eq rfl) (hb hby at_5) (by decide) (by decide) (by decide) (by decide)
  have N120 := Fr.app N0 N120q
  refine own_by st120 ?_
  show own_Go p e below _ T120 (mkF m 8 #[.val (.int p1), .val (.int p2), .val (.int p3), .val (.int p4), .unset, .unset, .unset, .unset, .unset, .unset, .unset, .unset, .unset, .unset, .unset, .unset, .unset, .unset, .unset, .unset] [(.int (own_pick p1 p2 p3 p4 (0 : Int32)))])
  obtain ⟨q0, hq0⟩ : ∃ z, z = (own_pick p1 p2 p3 p4 (0 : Int32)) := ⟨_, rfl⟩
  rw [← hq0]
  show own_Go p e below _ T120 (mkF m 8 #[.val (.int p1), .val (.int p2), .val (.int p3), .val (.int p4), .unset, .unset, .unset, .unset, .unset, .unset, .unset, .unset, .unset, .unset, .unset, .unset, .unset, .unset, .unset, .unset] [(.int q0)])
  refine own_by (fun _ k => XS.istore X120.here hx rfl (hb hby at_8) rfl (l' := #[.val (.int p1), .val (.int p2), .val (.int p3), .val (.int p4), .val (.int q0), .unset, .unset, .unset, .unset, .unset, .unset, .unset, .unset, .unset, .unset, .unset, .unset, .unset, .unset, .unset]) rfl k) ?_
  show own_Go p e below _ T120 (mkF m 10 #[.val (.int p1), .val (.int p2), .val (.int p3), .val (.int p4), .val (.int q0), .unset, .unset, .unset, .unset, .unset, .unset, .unset, .unset, .unset, .unset, .unset, .unset, .unset, .unset, .unset] [])
  refine own_by (fun _ k => XS.iloadN X120.here hx rfl (hb hby at_10) rfl k) ?_
  show own_Go p e below _ T120 (mkF m 11 #[.val (.int p1), .val (.int p2), .val (.int p3), .val (.int p4), .val (.int q0), .unset, .unset, .unset, .unset, .unset, .unset, .unset, .unset, .unset, .unset, .unset, .unset, .unset, .unset, .unset] [(.int p1)])
  refine own_by (fun _ k => XS.iloadN X120.here hx rfl (hb hby at_11) rfl k) ?_
  show own_Go p e below _ T120 (mkF m 12 #[.val (.int p1), .val (.int p2), .val (.int p3), .val (.int p4), .val (.int q0), .unset, .unset, .unset, .unset, .unset, .unset, .unset, .unset, .unset, .unset, .unset, .unset, .unset, .unset, .unset] [(.int p2), (.int p1)])
  refine own_by (fun _ k => XS.iloadN X120.here hx rfl (hb hby at_12) rfl k) ?_
  show own_Go p e below _ T120 (mkF m 13 #[.val (.int p1), .val (.int p2), .val (.int p3), .val (.int p4), .val (.int q0), .unset, .unset, .unset, .unset, .unset, .unset, .unset, .unset, .unset, .unset, .unset, .unset, .unset, .unset, .unset] [(.int p3), (.int p2), (.int p1)])
  refine own_by (fun _ k => XS.iloadN X120.here hx rfl (hb hby at_13) rfl k) ?_
  show own_Go p e below _ T120 (mkF m 14 #[.val (.int p1), .val (.int p2), .val (.int p3), .val (.int p4), .val (.int q0), .unset, .unset, .unset, .unset, .unset, .unset, .unset, .unset, .unset, .unset, .unset, .unset, .unset, .unset, .unset] [(.int p4), (.int p3), (.int p2), (.int p1)])
  refine own_by (fun _ k => XS.iconst X120.here hx rfl (hb hby at_14) k) ?_
  show own_Go p e below _ T120 (mkF m 15 #[.val (.int p1), .val (.int p2), .val (.int p3), .val (.int p4), .val (.int q0), .unset, .unset, .unset, .unset, .unset, .unset, .unset, .unset, .unset, .unset, .unset, .unset, .unset, .unset, .unset] [(.int (1 : Int32)), (.int p4), (.int p3), (.int p2), (.int p1)])
  obtain ⟨_, T121, L121, X121, ⟨rfl, N121q, e121⟩, st121⟩ := own_callS X120 hx hZ hown (y := (⟨"com/example/tolk/tolk/query/OccurrencesNextPinLaw", "pick", "(IIIII)I"⟩ : MethodName)) (hw _ (List.mem_of_getElem? (i := 0) rfl)) (hw _ (List.mem_of_getElem? (i := 1) rfl)) (hw _ (List.mem_of_getElem? (i := 2) rfl)) (hw _ (List.mem_of_getElem? (i := 3) rfl)) (by decide) (argsL := [(.int p1), (.int p2), (.int p3), (.int p4), (.int (1 : Int32))]) (rest := []) e120 (rm1 l Z a0 hw [] p1 p2 p3 p4 (1 : Int32) h0 n0 Z0) (g := (mkF m 15 #[.val (.int p1), .val (.int p2), .val (.int p3), .val (.int p4), .val (.int q0), .unset, .unset, .unset, .unset, .unset, .unset, .unset, .unset, .unset, .unset, .unset, .unset, .unset, .unset, .unset] [(.int (1 : Int32)), (.int p4), (.int p3), (.int p2), (.int p1)])) rfl (by rw [hml]; rfl) (lenOf pd_0 rfl) rfl (W := 0) (by show 2 * 0 + _ ≤ _; exact Nat.le_of_eq rfl) (hb hby at_15) (by decide) (by decide) (by decide) (by decide)
  have N121 := Fr.app N120 N121q
  refine own_by st121 ?_
  show own_Go p e below _ T121 (mkF m 18 #[.val (.int p1), .val (.int p2), .val (.int p3), .val (.int p4), .val (.int q0), .unset, .unset, .unset, .unset, .unset, .unset, .unset, .unset, .unset, .unset, .unset, .unset, .unset, .unset, .unset] [(.int (own_pick p1 p2 p3 p4 (1 : Int32)))])
  obtain ⟨q1, hq1⟩ : ∃ z, z = (own_pick p1 p2 p3 p4 (1 : Int32)) := ⟨_, rfl⟩
  rw [← hq1]
  show own_Go p e below _ T121 (mkF m 18 #[.val (.int p1), .val (.int p2), .val (.int p3), .val (.int p4), .val (.int q0), .unset, .unset, .unset, .unset, .unset, .unset, .unset, .unset, .unset, .unset, .unset, .unset, .unset, .unset, .unset] [(.int q1)])
  refine own_by (fun _ k => XS.istore X121.here hx rfl (hb hby at_18) rfl (l' := #[.val (.int p1), .val (.int p2), .val (.int p3), .val (.int p4), .val (.int q0), .val (.int q1), .unset, .unset, .unset, .unset, .unset, .unset, .unset, .unset, .unset, .unset, .unset, .unset, .unset, .unset]) rfl k) ?_
  show own_Go p e below _ T121 (mkF m 20 #[.val (.int p1), .val (.int p2), .val (.int p3), .val (.int p4), .val (.int q0), .val (.int q1), .unset, .unset, .unset, .unset, .unset, .unset, .unset, .unset, .unset, .unset, .unset, .unset, .unset, .unset] [])
  refine own_by (fun _ k => XS.iloadN X121.here hx rfl (hb hby at_20) rfl k) ?_
  show own_Go p e below _ T121 (mkF m 21 #[.val (.int p1), .val (.int p2), .val (.int p3), .val (.int p4), .val (.int q0), .val (.int q1), .unset, .unset, .unset, .unset, .unset, .unset, .unset, .unset, .unset, .unset, .unset, .unset, .unset, .unset] [(.int p1)])
  refine own_by (fun _ k => XS.iloadN X121.here hx rfl (hb hby at_21) rfl k) ?_
  show own_Go p e below _ T121 (mkF m 22 #[.val (.int p1), .val (.int p2), .val (.int p3), .val (.int p4), .val (.int q0), .val (.int q1), .unset, .unset, .unset, .unset, .unset, .unset, .unset, .unset, .unset, .unset, .unset, .unset, .unset, .unset] [(.int p2), (.int p1)])
  refine own_by (fun _ k => XS.iloadN X121.here hx rfl (hb hby at_22) rfl k) ?_
  show own_Go p e below _ T121 (mkF m 23 #[.val (.int p1), .val (.int p2), .val (.int p3), .val (.int p4), .val (.int q0), .val (.int q1), .unset, .unset, .unset, .unset, .unset, .unset, .unset, .unset, .unset, .unset, .unset, .unset, .unset, .unset] [(.int p3), (.int p2), (.int p1)])
  refine own_by (fun _ k => XS.iloadN X121.here hx rfl (hb hby at_23) rfl k) ?_
  show own_Go p e below _ T121 (mkF m 24 #[.val (.int p1), .val (.int p2), .val (.int p3), .val (.int p4), .val (.int q0), .val (.int q1), .unset, .unset, .unset, .unset, .unset, .unset, .unset, .unset, .unset, .unset, .unset, .unset, .unset, .unset] [(.int p4), (.int p3), (.int p2), (.int p1)])
  refine own_by (fun _ k => XS.iconst X121.here hx rfl (hb hby at_24) k) ?_
  show own_Go p e below _ T121 (mkF m 25 #[.val (.int p1), .val (.int p2), .val (.int p3), .val (.int p4), .val (.int q0), .val (.int q1), .unset, .unset, .unset, .unset, .unset, .unset, .unset, .unset, .unset, .unset, .unset, .unset, .unset, .unset] [(.int (2 : Int32)), (.int p4), (.int p3), (.int p2), (.int p1)])
  obtain ⟨_, T122, L122, X122, ⟨rfl, N122q, e122⟩, st122⟩ := own_callS X121 hx hZ hown (y := (⟨"com/example/tolk/tolk/query/OccurrencesNextPinLaw", "pick", "(IIIII)I"⟩ : MethodName)) (hw _ (List.mem_of_getElem? (i := 0) rfl)) (hw _ (List.mem_of_getElem? (i := 1) rfl)) (hw _ (List.mem_of_getElem? (i := 2) rfl)) (hw _ (List.mem_of_getElem? (i := 3) rfl)) (by decide) (argsL := [(.int p1), (.int p2), (.int p3), (.int p4), (.int (2 : Int32))]) (rest := []) e121 (rm1 l Z a0 hw [] p1 p2 p3 p4 (2 : Int32) h0 n0 Z0) (g := (mkF m 25 #[.val (.int p1), .val (.int p2), .val (.int p3), .val (.int p4), .val (.int q0), .val (.int q1), .unset, .unset, .unset, .unset, .unset, .unset, .unset, .unset, .unset, .unset, .unset, .unset, .unset, .unset] [(.int (2 : Int32)), (.int p4), (.int p3), (.int p2), (.int p1)])) rfl (by rw [hml]; rfl) (lenOf pd_0 rfl) rfl (W := 0) (by show 2 * 0 + _ ≤ _; exact Nat.le_of_eq rfl) (hb hby at_25) (by decide) (by decide) (by decide) (by decide)
  have N122 := Fr.app N121 N122q
  refine own_by st122 ?_
  show own_Go p e below _ T122 (mkF m 28 #[.val (.int p1), .val (.int p2), .val (.int p3), .val (.int p4), .val (.int q0), .val (.int q1), .unset, .unset, .unset, .unset, .unset, .unset, .unset, .unset, .unset, .unset, .unset, .unset, .unset, .unset] [(.int (own_pick p1 p2 p3 p4 (2 : Int32)))])
  obtain ⟨q2, hq2⟩ : ∃ z, z = (own_pick p1 p2 p3 p4 (2 : Int32)) := ⟨_, rfl⟩
  rw [← hq2]
  show own_Go p e below _ T122 (mkF m 28 #[.val (.int p1), .val (.int p2), .val (.int p3), .val (.int p4), .val (.int q0), .val (.int q1), .unset, .unset, .unset, .unset, .unset, .unset, .unset, .unset, .unset, .unset, .unset, .unset, .unset, .unset] [(.int q2)])
  refine own_by (fun _ k => XS.istore X122.here hx rfl (hb hby at_28) rfl (l' := #[.val (.int p1), .val (.int p2), .val (.int p3), .val (.int p4), .val (.int q0), .val (.int q1), .val (.int q2), .unset, .unset, .unset, .unset, .unset, .unset, .unset, .unset, .unset, .unset, .unset, .unset, .unset]) rfl k) ?_
  show own_Go p e below _ T122 (mkF m 30 #[.val (.int p1), .val (.int p2), .val (.int p3), .val (.int p4), .val (.int q0), .val (.int q1), .val (.int q2), .unset, .unset, .unset, .unset, .unset, .unset, .unset, .unset, .unset, .unset, .unset, .unset, .unset] [])
  refine own_by (fun _ k => XS.iloadN X122.here hx rfl (hb hby at_30) rfl k) ?_
  show own_Go p e below _ T122 (mkF m 31 #[.val (.int p1), .val (.int p2), .val (.int p3), .val (.int p4), .val (.int q0), .val (.int q1), .val (.int q2), .unset, .unset, .unset, .unset, .unset, .unset, .unset, .unset, .unset, .unset, .unset, .unset, .unset] [(.int p1)])
  refine own_by (fun _ k => XS.iloadN X122.here hx rfl (hb hby at_31) rfl k) ?_
  show own_Go p e below _ T122 (mkF m 32 #[.val (.int p1), .val (.int p2), .val (.int p3), .val (.int p4), .val (.int q0), .val (.int q1), .val (.int q2), .unset, .unset, .unset, .unset, .unset, .unset, .unset, .unset, .unset, .unset, .unset, .unset, .unset] [(.int p2), (.int p1)])
  refine own_by (fun _ k => XS.iloadN X122.here hx rfl (hb hby at_32) rfl k) ?_
  show own_Go p e below _ T122 (mkF m 33 #[.val (.int p1), .val (.int p2), .val (.int p3), .val (.int p4), .val (.int q0), .val (.int q1), .val (.int q2), .unset, .unset, .unset, .unset, .unset, .unset, .unset, .unset, .unset, .unset, .unset, .unset, .unset] [(.int p3), (.int p2), (.int p1)])
  refine own_by (fun _ k => XS.iloadN X122.here hx rfl (hb hby at_33) rfl k) ?_
  show own_Go p e below _ T122 (mkF m 34 #[.val (.int p1), .val (.int p2), .val (.int p3), .val (.int p4), .val (.int q0), .val (.int q1), .val (.int q2), .unset, .unset, .unset, .unset, .unset, .unset, .unset, .unset, .unset, .unset, .unset, .unset, .unset] [(.int p4), (.int p3), (.int p2), (.int p1)])
  refine own_by (fun _ k => XS.iconst X122.here hx rfl (hb hby at_34) k) ?_
  show own_Go p e below _ T122 (mkF m 35 #[.val (.int p1), .val (.int p2), .val (.int p3), .val (.int p4), .val (.int q0), .val (.int q1), .val (.int q2), .unset, .unset, .unset, .unset, .unset, .unset, .unset, .unset, .unset, .unset, .unset, .unset, .unset] [(.int (3 : Int32)), (.int p4), (.int p3), (.int p2), (.int p1)])
  obtain ⟨_, T123, L123, X123, ⟨rfl, N123q, e123⟩, st123⟩ := own_callS X122 hx hZ hown (y := (⟨"com/example/tolk/tolk/query/OccurrencesNextPinLaw", "pick", "(IIIII)I"⟩ : MethodName)) (hw _ (List.mem_of_getElem? (i := 0) rfl)) (hw _ (List.mem_of_getElem? (i := 1) rfl)) (hw _ (List.mem_of_getElem? (i := 2) rfl)) (hw _ (List.mem_of_getElem? (i := 3) rfl)) (by decide) (argsL := [(.int p1), (.int p2), (.int p3), (.int p4), (.int (3 : Int32))]) (rest := []) e122 (rm1 l Z a0 hw [] p1 p2 p3 p4 (3 : Int32) h0 n0 Z0) (g := (mkF m 35 #[.val (.int p1), .val (.int p2), .val (.int p3), .val (.int p4), .val (.int q0), .val (.int q1), .val (.int q2), .unset, .unset, .unset, .unset, .unset, .unset, .unset, .unset, .unset, .unset, .unset, .unset, .unset] [(.int (3 : Int32)), (.int p4), (.int p3), (.int p2), (.int p1)])) rfl (by rw [hml]; rfl) (lenOf pd_0 rfl) rfl (W := 0) (by show 2 * 0 + _ ≤ _; exact Nat.le_of_eq rfl) (hb hby at_35) (by decide) (by decide) (by decide) (by decide)
  have N123 := Fr.app N122 N123q
  refine own_by st123 ?_
  show own_Go p e below _ T123 (mkF m 38 #[.val (.int p1), .val (.int p2), .val (.int p3), .val (.int p4), .val (.int q0), .val (.int q1), .val (.int q2), .unset, .unset, .unset, .unset, .unset, .unset, .unset, .unset, .unset, .unset, .unset, .unset, .unset] [(.int (own_pick p1 p2 p3 p4 (3 : Int32)))])
  obtain ⟨q3, hq3⟩ : ∃ z, z = (own_pick p1 p2 p3 p4 (3 : Int32)) := ⟨_, rfl⟩
  rw [← hq3]
  show own_Go p e below _ T123 (mkF m 38 #[.val (.int p1), .val (.int p2), .val (.int p3), .val (.int p4), .val (.int q0), .val (.int q1), .val (.int q2), .unset, .unset, .unset, .unset, .unset, .unset, .unset, .unset, .unset, .unset, .unset, .unset, .unset] [(.int q3)])
  refine own_by (fun _ k => XS.istore X123.here hx rfl (hb hby at_38) rfl (l' := #[.val (.int p1), .val (.int p2), .val (.int p3), .val (.int p4), .val (.int q0), .val (.int q1), .val (.int q2), .val (.int q3), .unset, .unset, .unset, .unset, .unset, .unset, .unset, .unset, .unset, .unset, .unset, .unset]) rfl k) ?_
  show own_Go p e below _ T123 (mkF m 40 #[.val (.int p1), .val (.int p2), .val (.int p3), .val (.int p4), .val (.int q0), .val (.int q1), .val (.int q2), .val (.int q3), .unset, .unset, .unset, .unset, .unset, .unset, .unset, .unset, .unset, .unset, .unset, .unset] [])
  refine own_by (fun _ k => XS.iloadN X123.here hx rfl (hb hby at_40) rfl k) ?_
  show own_Go p e below _ T123 (mkF m 41 #[.val (.int p1), .val (.int p2), .val (.int p3), .val (.int p4), .val (.int q0), .val (.int q1), .val (.int q2), .val (.int q3), .unset, .unset, .unset, .unset, .unset, .unset, .unset, .unset, .unset, .unset, .unset, .unset] [(.int p1)])
  refine own_by (fun _ k => XS.iloadN X123.here hx rfl (hb hby at_41) rfl k) ?_
  show own_Go p e below _ T123 (mkF m 42 #[.val (.int p1), .val (.int p2), .val (.int p3), .val (.int p4), .val (.int q0), .val (.int q1), .val (.int q2), .val (.int q3), .unset, .unset, .unset, .unset, .unset, .unset, .unset, .unset, .unset, .unset, .unset, .unset] [(.int p2), (.int p1)])
  refine own_by (fun _ k => XS.iloadN X123.here hx rfl (hb hby at_42) rfl k) ?_
  show own_Go p e below _ T123 (mkF m 43 #[.val (.int p1), .val (.int p2), .val (.int p3), .val (.int p4), .val (.int q0), .val (.int q1), .val (.int q2), .val (.int q3), .unset, .unset, .unset, .unset, .unset, .unset, .unset, .unset, .unset, .unset, .unset, .unset] [(.int p3), (.int p2), (.int p1)])
  refine own_by (fun _ k => XS.iloadN X123.here hx rfl (hb hby at_43) rfl k) ?_
  show own_Go p e below _ T123 (mkF m 44 #[.val (.int p1), .val (.int p2), .val (.int p3), .val (.int p4), .val (.int q0), .val (.int q1), .val (.int q2), .val (.int q3), .unset, .unset, .unset, .unset, .unset, .unset, .unset, .unset, .unset, .unset, .unset, .unset] [(.int p4), (.int p3), (.int p2), (.int p1)])
  refine own_by (fun _ k => XS.iconst X123.here hx rfl (hb hby at_44) k) ?_
  show own_Go p e below _ T123 (mkF m 45 #[.val (.int p1), .val (.int p2), .val (.int p3), .val (.int p4), .val (.int q0), .val (.int q1), .val (.int q2), .val (.int q3), .unset, .unset, .unset, .unset, .unset, .unset, .unset, .unset, .unset, .unset, .unset, .unset] [(.int (4 : Int32)), (.int p4), (.int p3), (.int p2), (.int p1)])
  obtain ⟨_, T124, L124, X124, ⟨rfl, N124q, e124⟩, st124⟩ := own_callS X123 hx hZ hown (y := (⟨"com/example/tolk/tolk/query/OccurrencesNextPinLaw", "pick", "(IIIII)I"⟩ : MethodName)) (hw _ (List.mem_of_getElem? (i := 0) rfl)) (hw _ (List.mem_of_getElem? (i := 1) rfl)) (hw _ (List.mem_of_getElem? (i := 2) rfl)) (hw _ (List.mem_of_getElem? (i := 3) rfl)) (by decide) (argsL := [(.int p1), (.int p2), (.int p3), (.int p4), (.int (4 : Int32))]) (rest := []) e123 (rm1 l Z a0 hw [] p1 p2 p3 p4 (4 : Int32) h0 n0 Z0) (g := (mkF m 45 #[.val (.int p1), .val (.int p2), .val (.int p3), .val (.int p4), .val (.int q0), .val (.int q1), .val (.int q2), .val (.int q3), .unset, .unset, .unset, .unset, .unset, .unset, .unset, .unset, .unset, .unset, .unset, .unset] [(.int (4 : Int32)), (.int p4), (.int p3), (.int p2), (.int p1)])) rfl (by rw [hml]; rfl) (lenOf pd_0 rfl) rfl (W := 0) (by show 2 * 0 + _ ≤ _; exact Nat.le_of_eq rfl) (hb hby at_45) (by decide) (by decide) (by decide) (by decide)
  have N124 := Fr.app N123 N124q
  refine own_by st124 ?_
  show own_Go p e below _ T124 (mkF m 48 #[.val (.int p1), .val (.int p2), .val (.int p3), .val (.int p4), .val (.int q0), .val (.int q1), .val (.int q2), .val (.int q3), .unset, .unset, .unset, .unset, .unset, .unset, .unset, .unset, .unset, .unset, .unset, .unset] [(.int (own_pick p1 p2 p3 p4 (4 : Int32)))])
  obtain ⟨q4, hq4⟩ : ∃ z, z = (own_pick p1 p2 p3 p4 (4 : Int32)) := ⟨_, rfl⟩
  rw [← hq4]
  show own_Go p e below _ T124 (mkF m 48 #[.val (.int p1), .val (.int p2), .val (.int p3), .val (.int p4), .val (.int q0), .val (.int q1), .val (.int q2), .val (.int q3), .unset, .unset, .unset, .unset, .unset, .unset, .unset, .unset, .unset, .unset, .unset, .unset] [(.int q4)])
  refine own_by (fun _ k => XS.istore X124.here hx rfl (hb hby at_48) rfl (l' := #[.val (.int p1), .val (.int p2), .val (.int p3), .val (.int p4), .val (.int q0), .val (.int q1), .val (.int q2), .val (.int q3), .val (.int q4), .unset, .unset, .unset, .unset, .unset, .unset, .unset, .unset, .unset, .unset, .unset]) rfl k) ?_
  show own_Go p e below _ T124 (mkF m 50 #[.val (.int p1), .val (.int p2), .val (.int p3), .val (.int p4), .val (.int q0), .val (.int q1), .val (.int q2), .val (.int q3), .val (.int q4), .unset, .unset, .unset, .unset, .unset, .unset, .unset, .unset, .unset, .unset, .unset] [])
  obtain ⟨T125, h125, X125, e125, E125, A125, D125, -, st125⟩ := newO X124 hx hZ hown (hw _ (List.mem_of_getElem? (i := 4) rfl)) (hw _ (List.mem_of_getElem? (i := 5) rfl)) (hw _ (List.mem_of_getElem? (i := 6) rfl)) e124 (g := (mkF m 50 #[.val (.int p1), .val (.int p2), .val (.int p3), .val (.int p4), .val (.int q0), .val (.int q1), .val (.int q2), .val (.int q3), .val (.int q4), .unset, .unset, .unset, .unset, .unset, .unset, .unset, .unset, .unset, .unset, .unset] [])) rfl (hb hby at_50) (by decide) (by decide)
  obtain ⟨b125, g125⟩ : ∃ z, z = h0.size := ⟨_, rfl⟩
  rw [← g125] at A125 D125 st125
  have og_b125 : n0 ≤ b125 := Nat.le_trans Z0 (Nat.le_of_eq g125.symm)
  have Z125 : n0 ≤ h125.size := Nat.le_trans Z0 E125.1
  have F_pass_b125 : Fld Z h125 b125 "com/example/tolk/tolk/query/Occurrences" "pass" "I" (.int (0 : Int32)) := D125 (Or.inl (hw _ (List.mem_of_getElem? (i := 19) rfl))) (ty := .int) (by decide)
  have F_made_b125 : Fld Z h125 b125 "com/example/tolk/tolk/query/Occurrences" "made" "I" (.int (0 : Int32)) := D125 (Or.inl (hw _ (List.mem_of_getElem? (i := 21) rfl))) (ty := .int) (by decide)
  refine own_by st125 ?_
  show own_Go p e below _ T125 (mkF m 53 #[.val (.int p1), .val (.int p2), .val (.int p3), .val (.int p4), .val (.int q0), .val (.int q1), .val (.int q2), .val (.int q3), .val (.int q4), .unset, .unset, .unset, .unset, .unset, .unset, .unset, .unset, .unset, .unset, .unset] [(.ref b125)])
  refine own_by (fun _ k => XS.dup X125.here hx rfl (hb hby at_53) rfl rfl k) ?_
  show own_Go p e below _ T125 (mkF m 54 #[.val (.int p1), .val (.int p2), .val (.int p3), .val (.int p4), .val (.int q0), .val (.int q1), .val (.int q2), .val (.int q3), .val (.int q4), .unset, .unset, .unset, .unset, .unset, .unset, .unset, .unset, .unset, .unset, .unset] [(.ref b125), (.ref b125)])
  obtain ⟨_, T126, L126, X126, ⟨rfl, N126q, e126⟩, st126⟩ := own_callI X125 hx hZ hown (y := (⟨"com/example/tolk/tolk/query/Occurrences", "<init>", "()V"⟩ : MethodName)) rfl (hw _ (List.mem_of_getElem? (i := 7) rfl)) (hw _ (List.mem_of_getElem? (i := 8) rfl)) (hw _ (List.mem_of_getElem? (i := 6) rfl)) (hw _ (List.mem_of_getElem? (i := 9) rfl)) (by decide) (a := b125) (argsL := []) (rest := [(.ref b125)]) e125 (rm2 l Z a0 hw [] b125 h125 n0 Z125) (g := (mkF m 54 #[.val (.int p1), .val (.int p2), .val (.int p3), .val (.int p4), .val (.int q0), .val (.int q1), .val (.int q2), .val (.int q3), .val (.int q4), .unset, .unset, .unset, .unset, .unset, .unset, .unset, .unset, .unset, .unset, .unset] [(.ref b125), (.ref b125)])) rfl (by rw [hml]; rfl) (lenOf pd_1 rfl) rfl (W := 1) (by show 2 * 0 + _ ≤ _; exact Nat.le_of_eq rfl) (hb hby at_54) (by decide) (by decide) (by decide) (by decide)
  have N126 := Fr.app N124 N126q
  refine own_by st126 ?_
  show own_Go p e below _ T126 (mkF m 57 #[.val (.int p1), .val (.int p2), .val (.int p3), .val (.int p4), .val (.int q0), .val (.int q1), .val (.int q2), .val (.int q3), .val (.int q4), .unset, .unset, .unset, .unset, .unset, .unset, .unset, .unset, .unset, .unset, .unset] [(.ref b125)])
  refine own_by (fun _ k => XS.astore X126.here hx rfl (hb hby at_57) rfl rfl (l' := #[.val (.int p1), .val (.int p2), .val (.int p3), .val (.int p4), .val (.int q0), .val (.int q1), .val (.int q2), .val (.int q3), .val (.int q4), .val (.ref b125), .unset, .unset, .unset, .unset, .unset, .unset, .unset, .unset, .unset, .unset]) rfl k) ?_
  show own_Go p e below _ T126 (mkF m 59 #[.val (.int p1), .val (.int p2), .val (.int p3), .val (.int p4), .val (.int q0), .val (.int q1), .val (.int q2), .val (.int q3), .val (.int q4), .val (.ref b125), .unset, .unset, .unset, .unset, .unset, .unset, .unset, .unset, .unset, .unset] [])
  refine own_by (fun _ k => XS.aload X126.here hx rfl (hb hby at_59) rfl rfl k) ?_
  show own_Go p e below _ T126 (mkF m 61 #[.val (.int p1), .val (.int p2), .val (.int p3), .val (.int p4), .val (.int q0), .val (.int q1), .val (.int q2), .val (.int q3), .val (.int q4), .val (.ref b125), .unset, .unset, .unset, .unset, .unset, .unset, .unset, .unset, .unset, .unset] [(.ref b125)])
  refine own_by (fun _ k => XS.iload X126.here hx rfl (hb hby at_61) rfl k) ?_
  show own_Go p e below _ T126 (mkF m 63 #[.val (.int p1), .val (.int p2), .val (.int p3), .val (.int p4), .val (.int q0), .val (.int q1), .val (.int q2), .val (.int q3), .val (.int q4), .val (.ref b125), .unset, .unset, .unset, .unset, .unset, .unset, .unset, .unset, .unset, .unset] [(.int q0), (.ref b125)])
  obtain ⟨_, T127, L127, X127, ⟨rfl, N127q, K0', E0', P0', M0'⟩, st127⟩ := own_callV X126 hx hZ hown (y := (⟨"com/example/tolk/tolk/query/Occurrences", "next", "(I)I"⟩ : MethodName)) (C := "com/example/tolk/tolk/query/Occurrences") (hw _ (List.mem_of_getElem? (i := 13) rfl)) (hw _ (List.mem_of_getElem? (i := 14) rfl)) (hw _ (List.mem_of_getElem? (i := 16) rfl)) (hw _ (List.mem_of_getElem? (i := 15) rfl)) (hw _ (List.mem_of_getElem? (i := 6) rfl)) (hw _ (List.mem_of_getElem? (i := 17) rfl)) (by decide) (a := b125) A125 (argsL := [(.int q0)]) (rest := []) e126 (rm4 l Z a0 hw [] b125 q0 (0 : Int32) (0 : Int32) h125 n0 Z125 og_b125 A125 F_pass_b125 F_made_b125) (g := (mkF m 63 #[.val (.int p1), .val (.int p2), .val (.int p3), .val (.int p4), .val (.int q0), .val (.int q1), .val (.int q2), .val (.int q3), .val (.int q4), .val (.ref b125), .unset, .unset, .unset, .unset, .unset, .unset, .unset, .unset, .unset, .unset] [(.int q0), (.ref b125)])) rfl (by rw [hml]; rfl) (lenOf pd_2 rfl) rfl (W := 0) (by show 2 * 0 + _ ≤ _; exact Nat.le_of_eq rfl) (hb hby at_63) (by decide) (by decide) (by decide) (by decide)
  have N127 := Fr.app N126 N127q
  refine own_by st127 ?_
  show own_Go p e below _ T127 (mkF m 66 #[.val (.int p1), .val (.int p2), .val (.int p3), .val (.int p4), .val (.int q0), .val (.int q1), .val (.int q2), .val (.int q3), .val (.int q4), .val (.ref b125), .unset, .unset, .unset, .unset, .unset, .unset, .unset, .unset, .unset, .unset] [(.int (own_m (0 : Int32) (0 : Int32) q0))])
  have Z127 : n0 ≤ T127.heap.size := Nat.le_trans Z125 K0'.1
  have hr0 : (own_m (0 : Int32) (0 : Int32) q0) = (0 : Int32) := own_first _
  rw [hr0] at M0'
  rw [hr0]
  show own_Go p e below _ T127 (mkF m 66 #[.val (.int p1), .val (.int p2), .val (.int p3), .val (.int p4), .val (.int q0), .val (.int q1), .val (.int q2), .val (.int q3), .val (.int q4), .val (.ref b125), .unset, .unset, .unset, .unset, .unset, .unset, .unset, .unset, .unset, .unset] [(.int (0 : Int32))])
  refine own_by (fun _ k => XS.istore X127.here hx rfl (hb hby at_66) rfl (l' := #[.val (.int p1), .val (.int p2), .val (.int p3), .val (.int p4), .val (.int q0), .val (.int q1), .val (.int q2), .val (.int q3), .val (.int q4), .val (.ref b125), .val (.int (0 : Int32)), .unset, .unset, .unset, .unset, .unset, .unset, .unset, .unset, .unset]) rfl k) ?_
  show own_Go p e below _ T127 (mkF m 68 #[.val (.int p1), .val (.int p2), .val (.int p3), .val (.int p4), .val (.int q0), .val (.int q1), .val (.int q2), .val (.int q3), .val (.int q4), .val (.ref b125), .val (.int (0 : Int32)), .unset, .unset, .unset, .unset, .unset, .unset, .unset, .unset, .unset] [])
  refine own_by (fun _ k => XS.aload X127.here hx rfl (hb hby at_68) rfl rfl k) ?_
  show own_Go p e below _ T127 (mkF m 70 #[.val (.int p1), .val (.int p2), .val (.int p3), .val (.int p4), .val (.int q0), .val (.int q1), .val (.int q2), .val (.int q3), .val (.int q4), .val (.ref b125), .val (.int (0 : Int32)), .unset, .unset, .unset, .unset, .unset, .unset, .unset, .unset, .unset] [(.ref b125)])
  refine own_by (fun _ k => XS.iload X127.here hx rfl (hb hby at_70) rfl k) ?_
  show own_Go p e below _ T127 (mkF m 72 #[.val (.int p1), .val (.int p2), .val (.int p3), .val (.int p4), .val (.int q0), .val (.int q1), .val (.int q2), .val (.int q3), .val (.int q4), .val (.ref b125), .val (.int (0 : Int32)), .unset, .unset, .unset, .unset, .unset, .unset, .unset, .unset, .unset] [(.int q1), (.ref b125)])
  obtain ⟨_, T128, L128, X128, ⟨rfl, N128q, K1', E1', P1', M1'⟩, st128⟩ := own_callV X127 hx hZ hown (y := (⟨"com/example/tolk/tolk/query/Occurrences", "next", "(I)I"⟩ : MethodName)) (C := "com/example/tolk/tolk/query/Occurrences") (hw _ (List.mem_of_getElem? (i := 13) rfl)) (hw _ (List.mem_of_getElem? (i := 14) rfl)) (hw _ (List.mem_of_getElem? (i := 16) rfl)) (hw _ (List.mem_of_getElem? (i := 15) rfl)) (hw _ (List.mem_of_getElem? (i := 6) rfl)) (hw _ (List.mem_of_getElem? (i := 17) rfl)) (by decide) (a := b125) E0' (argsL := [(.int q1)]) (rest := []) rfl (rm4 l Z a0 hw [] b125 q1 q0 ((0 : Int32) + 1) T127.heap n0 Z127 og_b125 E0' P0' M0') (g := (mkF m 72 #[.val (.int p1), .val (.int p2), .val (.int p3), .val (.int p4), .val (.int q0), .val (.int q1), .val (.int q2), .val (.int q3), .val (.int q4), .val (.ref b125), .val (.int (0 : Int32)), .unset, .unset, .unset, .unset, .unset, .unset, .unset, .unset, .unset] [(.int q1), (.ref b125)])) rfl (by rw [hml]; rfl) (lenOf pd_2 rfl) rfl (W := 0) (by show 2 * 0 + _ ≤ _; exact Nat.le_of_eq rfl) (hb hby at_72) (by decide) (by decide) (by decide) (by decide)
  have N128 := Fr.app N127 N128q
  refine own_by st128 ?_
  show own_Go p e below _ T128 (mkF m 75 #[.val (.int p1), .val (.int p2), .val (.int p3), .val (.int p4), .val (.int q0), .val (.int q1), .val (.int q2), .val (.int q3), .val (.int q4), .val (.ref b125), .val (.int (0 : Int32)), .unset, .unset, .unset, .unset, .unset, .unset, .unset, .unset, .unset] [(.int (own_m q0 ((0 : Int32) + 1) q1))])
  have Z128 : n0 ≤ T128.heap.size := Nat.le_trans Z127 K1'.1
  have hr1 : (own_m q0 ((0 : Int32) + 1) q1) = (own_step q0 q1 (0 : Int32)) := own_next _ _ _
  rw [hr1] at M1'
  rw [hr1]
  show own_Go p e below _ T128 (mkF m 75 #[.val (.int p1), .val (.int p2), .val (.int p3), .val (.int p4), .val (.int q0), .val (.int q1), .val (.int q2), .val (.int q3), .val (.int q4), .val (.ref b125), .val (.int (0 : Int32)), .unset, .unset, .unset, .unset, .unset, .unset, .unset, .unset, .unset] [(.int (own_step q0 q1 (0 : Int32)))])
  refine own_by (fun _ k => XS.istore X128.here hx rfl (hb hby at_75) rfl (l' := #[.val (.int p1), .val (.int p2), .val (.int p3), .val (.int p4), .val (.int q0), .val (.int q1), .val (.int q2), .val (.int q3), .val (.int q4), .val (.ref b125), .val (.int (0 : Int32)), .val (.int (own_step q0 q1 (0 : Int32))), .unset, .unset, .unset, .unset, .unset, .unset, .unset, .unset]) rfl k) ?_
  show own_Go p e below _ T128 (mkF m 77 #[.val (.int p1), .val (.int p2), .val (.int p3), .val (.int p4), .val (.int q0), .val (.int q1), .val (.int q2), .val (.int q3), .val (.int q4), .val (.ref b125), .val (.int (0 : Int32)), .val (.int (own_step q0 q1 (0 : Int32))), .unset, .unset, .unset, .unset, .unset, .unset, .unset, .unset] [])
  refine own_by (fun _ k => XS.aload X128.here hx rfl (hb hby at_77) rfl rfl k) ?_
  show own_Go p e below _ T128 (mkF m 79 #[.val (.int p1), .val (.int p2), .val (.int p3), .val (.int p4), .val (.int q0), .val (.int q1), .val (.int q2), .val (.int q3), .val (.int q4), .val (.ref b125), .val (.int (0 : Int32)), .val (.int (own_step q0 q1 (0 : Int32))), .unset, .unset, .unset, .unset, .unset, .unset, .unset, .unset] [(.ref b125)])
  refine own_by (fun _ k => XS.iload X128.here hx rfl (hb hby at_79) rfl k) ?_
  show own_Go p e below _ T128 (mkF m 81 #[.val (.int p1), .val (.int p2), .val (.int p3), .val (.int p4), .val (.int q0), .val (.int q1), .val (.int q2), .val (.int q3), .val (.int q4), .val (.ref b125), .val (.int (0 : Int32)), .val (.int (own_step q0 q1 (0 : Int32))), .unset, .unset, .unset, .unset, .unset, .unset, .unset, .unset] [(.int q2), (.ref b125)])
  obtain ⟨_, T129, L129, X129, ⟨rfl, N129q, K2', E2', P2', M2'⟩, st129⟩ := own_callV X128 hx hZ hown (y := (⟨"com/example/tolk/tolk/query/Occurrences", "next", "(I)I"⟩ : MethodName)) (C := "com/example/tolk/tolk/query/Occurrences") (hw _ (List.mem_of_getElem? (i := 13) rfl)) (hw _ (List.mem_of_getElem? (i := 14) rfl)) (hw _ (List.mem_of_getElem? (i := 16) rfl)) (hw _ (List.mem_of_getElem? (i := 15) rfl)) (hw _ (List.mem_of_getElem? (i := 6) rfl)) (hw _ (List.mem_of_getElem? (i := 17) rfl)) (by decide) (a := b125) E1' (argsL := [(.int q2)]) (rest := []) rfl (rm4 l Z a0 hw [] b125 q2 q1 ((own_step q0 q1 (0 : Int32)) + 1) T128.heap n0 Z128 og_b125 E1' P1' M1') (g := (mkF m 81 #[.val (.int p1), .val (.int p2), .val (.int p3), .val (.int p4), .val (.int q0), .val (.int q1), .val (.int q2), .val (.int q3), .val (.int q4), .val (.ref b125), .val (.int (0 : Int32)), .val (.int (own_step q0 q1 (0 : Int32))), .unset, .unset, .unset, .unset, .unset, .unset, .unset, .unset] [(.int q2), (.ref b125)])) rfl (by rw [hml]; rfl) (lenOf pd_2 rfl) rfl (W := 0) (by show 2 * 0 + _ ≤ _; exact Nat.le_of_eq rfl) (hb hby at_81) (by decide) (by decide) (by decide) (by decide)
  have N129 := Fr.app N128 N129q
  refine own_by st129 ?_
  show own_Go p e below _ T129 (mkF m 84 #[.val (.int p1), .val (.int p2), .val (.int p3), .val (.int p4), .val (.int q0), .val (.int q1), .val (.int q2), .val (.int q3), .val (.int q4), .val (.ref b125), .val (.int (0 : Int32)), .val (.int (own_step q0 q1 (0 : Int32))), .unset, .unset, .unset, .unset, .unset, .unset, .unset, .unset] [(.int (own_m q1 ((own_step q0 q1 (0 : Int32)) + 1) q2))])
  have Z129 : n0 ≤ T129.heap.size := Nat.le_trans Z128 K2'.1
  have hr2 : (own_m q1 ((own_step q0 q1 (0 : Int32)) + 1) q2) = (own_step q1 q2 (own_step q0 q1 (0 : Int32))) := own_next _ _ _
  rw [hr2] at M2'
  rw [hr2]
  show own_Go p e below _ T129 (mkF m 84 #[.val (.int p1), .val (.int p2), .val (.int p3), .val (.int p4), .val (.int q0), .val (.int q1), .val (.int q2), .val (.int q3), .val (.int q4), .val (.ref b125), .val (.int (0 : Int32)), .val (.int (own_step q0 q1 (0 : Int32))), .unset, .unset, .unset, .unset, .unset, .unset, .unset, .unset] [(.int (own_step q1 q2 (own_step q0 q1 (0 : Int32))))])
  refine own_by (fun _ k => XS.istore X129.here hx rfl (hb hby at_84) rfl (l' := #[.val (.int p1), .val (.int p2), .val (.int p3), .val (.int p4), .val (.int q0), .val (.int q1), .val (.int q2), .val (.int q3), .val (.int q4), .val (.ref b125), .val (.int (0 : Int32)), .val (.int (own_step q0 q1 (0 : Int32))), .val (.int (own_step q1 q2 (own_step q0 q1 (0 : Int32)))), .unset, .unset, .unset, .unset, .unset, .unset, .unset]) rfl k) ?_
  show own_Go p e below _ T129 (mkF m 86 #[.val (.int p1), .val (.int p2), .val (.int p3), .val (.int p4), .val (.int q0), .val (.int q1), .val (.int q2), .val (.int q3), .val (.int q4), .val (.ref b125), .val (.int (0 : Int32)), .val (.int (own_step q0 q1 (0 : Int32))), .val (.int (own_step q1 q2 (own_step q0 q1 (0 : Int32)))), .unset, .unset, .unset, .unset, .unset, .unset, .unset] [])
  refine own_by (fun _ k => XS.aload X129.here hx rfl (hb hby at_86) rfl rfl k) ?_
  show own_Go p e below _ T129 (mkF m 88 #[.val (.int p1), .val (.int p2), .val (.int p3), .val (.int p4), .val (.int q0), .val (.int q1), .val (.int q2), .val (.int q3), .val (.int q4), .val (.ref b125), .val (.int (0 : Int32)), .val (.int (own_step q0 q1 (0 : Int32))), .val (.int (own_step q1 q2 (own_step q0 q1 (0 : Int32)))), .unset, .unset, .unset, .unset, .unset, .unset, .unset] [(.ref b125)])
  refine own_by (fun _ k => XS.iload X129.here hx rfl (hb hby at_88) rfl k) ?_
  show own_Go p e below _ T129 (mkF m 90 #[.val (.int p1), .val (.int p2), .val (.int p3), .val (.int p4), .val (.int q0), .val (.int q1), .val (.int q2), .val (.int q3), .val (.int q4), .val (.ref b125), .val (.int (0 : Int32)), .val (.int (own_step q0 q1 (0 : Int32))), .val (.int (own_step q1 q2 (own_step q0 q1 (0 : Int32)))), .unset, .unset, .unset, .unset, .unset, .unset, .unset] [(.int q3), (.ref b125)])
  obtain ⟨_, T130, L130, X130, ⟨rfl, N130q, K3', E3', P3', M3'⟩, st130⟩ := own_callV X129 hx hZ hown (y := (⟨"com/example/tolk/tolk/query/Occurrences", "next", "(I)I"⟩ : MethodName)) (C := "com/example/tolk/tolk/query/Occurrences") (hw _ (List.mem_of_getElem? (i := 13) rfl)) (hw _ (List.mem_of_getElem? (i := 14) rfl)) (hw _ (List.mem_of_getElem? (i := 16) rfl)) (hw _ (List.mem_of_getElem? (i := 15) rfl)) (hw _ (List.mem_of_getElem? (i := 6) rfl)) (hw _ (List.mem_of_getElem? (i := 17) rfl)) (by decide) (a := b125) E2' (argsL := [(.int q3)]) (rest := []) rfl (rm4 l Z a0 hw [] b125 q3 q2 ((own_step q1 q2 (own_step q0 q1 (0 : Int32))) + 1) T129.heap n0 Z129 og_b125 E2' P2' M2') (g := (mkF m 90 #[.val (.int p1), .val (.int p2), .val (.int p3), .val (.int p4), .val (.int q0), .val (.int q1), .val (.int q2), .val (.int q3), .val (.int q4), .val (.ref b125), .val (.int (0 : Int32)), .val (.int (own_step q0 q1 (0 : Int32))), .val (.int (own_step q1 q2 (own_step q0 q1 (0 : Int32)))), .unset, .unset, .unset, .unset, .unset, .unset, .unset] [(.int q3), (.ref b125)])) rfl (by rw [hml]; rfl) (lenOf pd_2 rfl) rfl (W := 0) (by show 2 * 0 + _ ≤ _; exact Nat.le_of_eq rfl) (hb hby at_90) (by decide) (by decide) (by decide) (by decide)
  have N130 := Fr.app N129 N130q
  refine own_by st130 ?_
  show own_Go p e below _ T130 (mkF m 93 #[.val (.int p1), .val (.int p2), .val (.int p3), .val (.int p4), .val (.int q0), .val (.int q1), .val (.int q2), .val (.int q3), .val (.int q4), .val (.ref b125), .val (.int (0 : Int32)), .val (.int (own_step q0 q1 (0 : Int32))), .val (.int (own_step q1 q2 (own_step q0 q1 (0 : Int32)))), .unset, .unset, .unset, .unset, .unset, .unset, .unset] [(.int (own_m q2 ((own_step q1 q2 (own_step q0 q1 (0 : Int32))) + 1) q3))])
  have Z130 : n0 ≤ T130.heap.size := Nat.le_trans Z129 K3'.1
  have hr3 : (own_m q2 ((own_step q1 q2 (own_step q0 q1 (0 : Int32))) + 1) q3) = (own_step q2 q3 (own_step q1 q2 (own_step q0 q1 (0 : Int32)))) := own_next _ _ _
  rw [hr3] at M3'
  rw [hr3]
  show own_Go p e below _ T130 (mkF m 93 #[.val (.int p1), .val (.int p2), .val (.int p3), .val (.int p4), .val (.int q0), .val (.int q1), .val (.int q2), .val (.int q3), .val (.int q4), .val (.ref b125), .val (.int (0 : Int32)), .val (.int (own_step q0 q1 (0 : Int32))), .val (.int (own_step q1 q2 (own_step q0 q1 (0 : Int32)))), .unset, .unset, .unset, .unset, .unset, .unset, .unset] [(.int (own_step q2 q3 (own_step q1 q2 (own_step q0 q1 (0 : Int32)))))])
  refine own_by (fun _ k => XS.istore X130.here hx rfl (hb hby at_93) rfl (l' := #[.val (.int p1), .val (.int p2), .val (.int p3), .val (.int p4), .val (.int q0), .val (.int q1), .val (.int q2), .val (.int q3), .val (.int q4), .val (.ref b125), .val (.int (0 : Int32)), .val (.int (own_step q0 q1 (0 : Int32))), .val (.int (own_step q1 q2 (own_step q0 q1 (0 : Int32)))), .val (.int (own_step q2 q3 (own_step q1 q2 (own_step q0 q1 (0 : Int32))))), .unset, .unset, .unset, .unset, .unset, .unset]) rfl k) ?_
  show own_Go p e below _ T130 (mkF m 95 #[.val (.int p1), .val (.int p2), .val (.int p3), .val (.int p4), .val (.int q0), .val (.int q1), .val (.int q2), .val (.int q3), .val (.int q4), .val (.ref b125), .val (.int (0 : Int32)), .val (.int (own_step q0 q1 (0 : Int32))), .val (.int (own_step q1 q2 (own_step q0 q1 (0 : Int32)))), .val (.int (own_step q2 q3 (own_step q1 q2 (own_step q0 q1 (0 : Int32))))), .unset, .unset, .unset, .unset, .unset, .unset] [])
  refine own_by (fun _ k => XS.aload X130.here hx rfl (hb hby at_95) rfl rfl k) ?_
  show own_Go p e below _ T130 (mkF m 97 #[.val (.int p1), .val (.int p2), .val (.int p3), .val (.int p4), .val (.int q0), .val (.int q1), .val (.int q2), .val (.int q3), .val (.int q4), .val (.ref b125), .val (.int (0 : Int32)), .val (.int (own_step q0 q1 (0 : Int32))), .val (.int (own_step q1 q2 (own_step q0 q1 (0 : Int32)))), .val (.int (own_step q2 q3 (own_step q1 q2 (own_step q0 q1 (0 : Int32))))), .unset, .unset, .unset, .unset, .unset, .unset] [(.ref b125)])
  refine own_by (fun _ k => XS.iload X130.here hx rfl (hb hby at_97) rfl k) ?_
  show own_Go p e below _ T130 (mkF m 99 #[.val (.int p1), .val (.int p2), .val (.int p3), .val (.int p4), .val (.int q0), .val (.int q1), .val (.int q2), .val (.int q3), .val (.int q4), .val (.ref b125), .val (.int (0 : Int32)), .val (.int (own_step q0 q1 (0 : Int32))), .val (.int (own_step q1 q2 (own_step q0 q1 (0 : Int32)))), .val (.int (own_step q2 q3 (own_step q1 q2 (own_step q0 q1 (0 : Int32))))), .unset, .unset, .unset, .unset, .unset, .unset] [(.int q4), (.ref b125)])
  obtain ⟨_, T131, L131, X131, ⟨rfl, N131q, K4', E4', P4', M4'⟩, st131⟩ := own_callV X130 hx hZ hown (y := (⟨"com/example/tolk/tolk/query/Occurrences", "next", "(I)I"⟩ : MethodName)) (C := "com/example/tolk/tolk/query/Occurrences") (hw _ (List.mem_of_getElem? (i := 13) rfl)) (hw _ (List.mem_of_getElem? (i := 14) rfl)) (hw _ (List.mem_of_getElem? (i := 16) rfl)) (hw _ (List.mem_of_getElem? (i := 15) rfl)) (hw _ (List.mem_of_getElem? (i := 6) rfl)) (hw _ (List.mem_of_getElem? (i := 17) rfl)) (by decide) (a := b125) E3' (argsL := [(.int q4)]) (rest := []) rfl (rm4 l Z a0 hw [] b125 q4 q3 ((own_step q2 q3 (own_step q1 q2 (own_step q0 q1 (0 : Int32)))) + 1) T130.heap n0 Z130 og_b125 E3' P3' M3') (g := (mkF m 99 #[.val (.int p1), .val (.int p2), .val (.int p3), .val (.int p4), .val (.int q0), .val (.int q1), .val (.int q2), .val (.int q3), .val (.int q4), .val (.ref b125), .val (.int (0 : Int32)), .val (.int (own_step q0 q1 (0 : Int32))), .val (.int (own_step q1 q2 (own_step q0 q1 (0 : Int32)))), .val (.int (own_step q2 q3 (own_step q1 q2 (own_step q0 q1 (0 : Int32))))), .unset, .unset, .unset, .unset, .unset, .unset] [(.int q4), (.ref b125)])) rfl (by rw [hml]; rfl) (lenOf pd_2 rfl) rfl (W := 0) (by show 2 * 0 + _ ≤ _; exact Nat.le_of_eq rfl) (hb hby at_99) (by decide) (by decide) (by decide) (by decide)
  have N131 := Fr.app N130 N131q
  refine own_by st131 ?_
  show own_Go p e below _ T131 (mkF m 102 #[.val (.int p1), .val (.int p2), .val (.int p3), .val (.int p4), .val (.int q0), .val (.int q1), .val (.int q2), .val (.int q3), .val (.int q4), .val (.ref b125), .val (.int (0 : Int32)), .val (.int (own_step q0 q1 (0 : Int32))), .val (.int (own_step q1 q2 (own_step q0 q1 (0 : Int32)))), .val (.int (own_step q2 q3 (own_step q1 q2 (own_step q0 q1 (0 : Int32))))), .unset, .unset, .unset, .unset, .unset, .unset] [(.int (own_m q3 ((own_step q2 q3 (own_step q1 q2 (own_step q0 q1 (0 : Int32)))) + 1) q4))])
  have Z131 : n0 ≤ T131.heap.size := Nat.le_trans Z130 K4'.1
  have hr4 : (own_m q3 ((own_step q2 q3 (own_step q1 q2 (own_step q0 q1 (0 : Int32)))) + 1) q4) = (own_step q3 q4 (own_step q2 q3 (own_step q1 q2 (own_step q0 q1 (0 : Int32))))) := own_next _ _ _
  rw [hr4] at M4'
  rw [hr4]
  show own_Go p e below _ T131 (mkF m 102 #[.val (.int p1), .val (.int p2), .val (.int p3), .val (.int p4), .val (.int q0), .val (.int q1), .val (.int q2), .val (.int q3), .val (.int q4), .val (.ref b125), .val (.int (0 : Int32)), .val (.int (own_step q0 q1 (0 : Int32))), .val (.int (own_step q1 q2 (own_step q0 q1 (0 : Int32)))), .val (.int (own_step q2 q3 (own_step q1 q2 (own_step q0 q1 (0 : Int32))))), .unset, .unset, .unset, .unset, .unset, .unset] [(.int (own_step q3 q4 (own_step q2 q3 (own_step q1 q2 (own_step q0 q1 (0 : Int32))))))])
  refine own_by (fun _ k => XS.istore X131.here hx rfl (hb hby at_102) rfl (l' := #[.val (.int p1), .val (.int p2), .val (.int p3), .val (.int p4), .val (.int q0), .val (.int q1), .val (.int q2), .val (.int q3), .val (.int q4), .val (.ref b125), .val (.int (0 : Int32)), .val (.int (own_step q0 q1 (0 : Int32))), .val (.int (own_step q1 q2 (own_step q0 q1 (0 : Int32)))), .val (.int (own_step q2 q3 (own_step q1 q2 (own_step q0 q1 (0 : Int32))))), .val (.int (own_step q3 q4 (own_step q2 q3 (own_step q1 q2 (own_step q0 q1 (0 : Int32)))))), .unset, .unset, .unset, .unset, .unset]) rfl k) ?_
  show own_Go p e below _ T131 (mkF m 104 #[.val (.int p1), .val (.int p2), .val (.int p3), .val (.int p4), .val (.int q0), .val (.int q1), .val (.int q2), .val (.int q3), .val (.int q4), .val (.ref b125), .val (.int (0 : Int32)), .val (.int (own_step q0 q1 (0 : Int32))), .val (.int (own_step q1 q2 (own_step q0 q1 (0 : Int32)))), .val (.int (own_step q2 q3 (own_step q1 q2 (own_step q0 q1 (0 : Int32))))), .val (.int (own_step q3 q4 (own_step q2 q3 (own_step q1 q2 (own_step q0 q1 (0 : Int32)))))), .unset, .unset, .unset, .unset, .unset] [])
  refine own_by (fun _ k => XS.iconst X131.here hx rfl (hb hby at_104) k) ?_
  show own_Go p e below _ T131 (mkF m 105 #[.val (.int p1), .val (.int p2), .val (.int p3), .val (.int p4), .val (.int q0), .val (.int q1), .val (.int q2), .val (.int q3), .val (.int q4), .val (.ref b125), .val (.int (0 : Int32)), .val (.int (own_step q0 q1 (0 : Int32))), .val (.int (own_step q1 q2 (own_step q0 q1 (0 : Int32)))), .val (.int (own_step q2 q3 (own_step q1 q2 (own_step q0 q1 (0 : Int32))))), .val (.int (own_step q3 q4 (own_step q2 q3 (own_step q1 q2 (own_step q0 q1 (0 : Int32)))))), .unset, .unset, .unset, .unset, .unset] [(.int (0 : Int32))])
  refine own_by (fun _ k => XS.istore X131.here hx rfl (hb hby at_105) rfl (l' := #[.val (.int p1), .val (.int p2), .val (.int p3), .val (.int p4), .val (.int q0), .val (.int q1), .val (.int q2), .val (.int q3), .val (.int q4), .val (.ref b125), .val (.int (0 : Int32)), .val (.int (own_step q0 q1 (0 : Int32))), .val (.int (own_step q1 q2 (own_step q0 q1 (0 : Int32)))), .val (.int (own_step q2 q3 (own_step q1 q2 (own_step q0 q1 (0 : Int32))))), .val (.int (own_step q3 q4 (own_step q2 q3 (own_step q1 q2 (own_step q0 q1 (0 : Int32)))))), .val (.int (0 : Int32)), .unset, .unset, .unset, .unset]) rfl k) ?_
  show own_Go p e below _ T131 (mkF m 107 #[.val (.int p1), .val (.int p2), .val (.int p3), .val (.int p4), .val (.int q0), .val (.int q1), .val (.int q2), .val (.int q3), .val (.int q4), .val (.ref b125), .val (.int (0 : Int32)), .val (.int (own_step q0 q1 (0 : Int32))), .val (.int (own_step q1 q2 (own_step q0 q1 (0 : Int32)))), .val (.int (own_step q2 q3 (own_step q1 q2 (own_step q0 q1 (0 : Int32))))), .val (.int (own_step q3 q4 (own_step q2 q3 (own_step q1 q2 (own_step q0 q1 (0 : Int32)))))), .val (.int (0 : Int32)), .unset, .unset, .unset, .unset] [])
  refine own_by (fun _ k => XS.iload X131.here hx rfl (hb hby at_107) rfl k) ?_
  show own_Go p e below _ T131 (mkF m 109 #[.val (.int p1), .val (.int p2), .val (.int p3), .val (.int p4), .val (.int q0), .val (.int q1), .val (.int q2), .val (.int q3), .val (.int q4), .val (.ref b125), .val (.int (0 : Int32)), .val (.int (own_step q0 q1 (0 : Int32))), .val (.int (own_step q1 q2 (own_step q0 q1 (0 : Int32)))), .val (.int (own_step q2 q3 (own_step q1 q2 (own_step q0 q1 (0 : Int32))))), .val (.int (own_step q3 q4 (own_step q2 q3 (own_step q1 q2 (own_step q0 q1 (0 : Int32)))))), .val (.int (0 : Int32)), .unset, .unset, .unset, .unset] [(.int q0)])
  refine own_by (fun _ k => XS.iload X131.here hx rfl (hb hby at_109) rfl k) ?_
  show own_Go p e below _ T131 (mkF m 111 #[.val (.int p1), .val (.int p2), .val (.int p3), .val (.int p4), .val (.int q0), .val (.int q1), .val (.int q2), .val (.int q3), .val (.int q4), .val (.ref b125), .val (.int (0 : Int32)), .val (.int (own_step q0 q1 (0 : Int32))), .val (.int (own_step q1 q2 (own_step q0 q1 (0 : Int32)))), .val (.int (own_step q2 q3 (own_step q1 q2 (own_step q0 q1 (0 : Int32))))), .val (.int (own_step q3 q4 (own_step q2 q3 (own_step q1 q2 (own_step q0 q1 (0 : Int32)))))), .val (.int (0 : Int32)), .unset, .unset, .unset, .unset] [(.int q1), (.int q0)])
  refine own_by (fun _ k => XS.iload X131.here hx rfl (hb hby at_111) rfl k) ?_
  show own_Go p e below _ T131 (mkF m 113 #[.val (.int p1), .val (.int p2), .val (.int p3), .val (.int p4), .val (.int q0), .val (.int q1), .val (.int q2), .val (.int q3), .val (.int q4), .val (.ref b125), .val (.int (0 : Int32)), .val (.int (own_step q0 q1 (0 : Int32))), .val (.int (own_step q1 q2 (own_step q0 q1 (0 : Int32)))), .val (.int (own_step q2 q3 (own_step q1 q2 (own_step q0 q1 (0 : Int32))))), .val (.int (own_step q3 q4 (own_step q2 q3 (own_step q1 q2 (own_step q0 q1 (0 : Int32)))))), .val (.int (0 : Int32)), .unset, .unset, .unset, .unset] [(.int (0 : Int32)), (.int q1), (.int q0)])
  obtain ⟨_, T132, L132, X132, ⟨rfl, N132q, e132⟩, st132⟩ := own_callS X131 hx hZ hown (y := (⟨"com/example/tolk/tolk/query/OccurrencesNextPinLaw", "step", "(III)I"⟩ : MethodName)) (hw _ (List.mem_of_getElem? (i := 22) rfl)) (hw _ (List.mem_of_getElem? (i := 23) rfl)) (hw _ (List.mem_of_getElem? (i := 2) rfl)) (hw _ (List.mem_of_getElem? (i := 24) rfl)) (by decide) (argsL := [(.int q0), (.int q1), (.int (0 : Int32))]) (rest := []) rfl (rm5 l Z a0 hw [] q0 q1 (0 : Int32) T131.heap n0 Z131) (g := (mkF m 113 #[.val (.int p1), .val (.int p2), .val (.int p3), .val (.int p4), .val (.int q0), .val (.int q1), .val (.int q2), .val (.int q3), .val (.int q4), .val (.ref b125), .val (.int (0 : Int32)), .val (.int (own_step q0 q1 (0 : Int32))), .val (.int (own_step q1 q2 (own_step q0 q1 (0 : Int32)))), .val (.int (own_step q2 q3 (own_step q1 q2 (own_step q0 q1 (0 : Int32))))), .val (.int (own_step q3 q4 (own_step q2 q3 (own_step q1 q2 (own_step q0 q1 (0 : Int32)))))), .val (.int (0 : Int32)), .unset, .unset, .unset, .unset] [(.int (0 : Int32)), (.int q1), (.int q0)])) rfl (by rw [hml]; rfl) (lenOf pd_3 rfl) rfl (W := 0) (by show 2 * 0 + _ ≤ _; exact Nat.le_of_eq rfl) (hb hby at_113) (by decide) (by decide) (by decide) (by decide)
  have N132 := Fr.app N131 N132q
  refine own_by st132 ?_
  show own_Go p e below _ T132 (mkF m 116 #[.val (.int p1), .val (.int p2), .val (.int p3), .val (.int p4), .val (.int q0), .val (.int q1), .val (.int q2), .val (.int q3), .val (.int q4), .val (.ref b125), .val (.int (0 : Int32)), .val (.int (own_step q0 q1 (0 : Int32))), .val (.int (own_step q1 q2 (own_step q0 q1 (0 : Int32)))), .val (.int (own_step q2 q3 (own_step q1 q2 (own_step q0 q1 (0 : Int32))))), .val (.int (own_step q3 q4 (own_step q2 q3 (own_step q1 q2 (own_step q0 q1 (0 : Int32)))))), .val (.int (0 : Int32)), .unset, .unset, .unset, .unset] [(.int (own_step q0 q1 (0 : Int32)))])
  refine own_by (fun _ k => XS.istore X132.here hx rfl (hb hby at_116) rfl (l' := #[.val (.int p1), .val (.int p2), .val (.int p3), .val (.int p4), .val (.int q0), .val (.int q1), .val (.int q2), .val (.int q3), .val (.int q4), .val (.ref b125), .val (.int (0 : Int32)), .val (.int (own_step q0 q1 (0 : Int32))), .val (.int (own_step q1 q2 (own_step q0 q1 (0 : Int32)))), .val (.int (own_step q2 q3 (own_step q1 q2 (own_step q0 q1 (0 : Int32))))), .val (.int (own_step q3 q4 (own_step q2 q3 (own_step q1 q2 (own_step q0 q1 (0 : Int32)))))), .val (.int (0 : Int32)), .val (.int (own_step q0 q1 (0 : Int32))), .unset, .unset, .unset]) rfl k) ?_
  show own_Go p e below _ T132 (mkF m 118 #[.val (.int p1), .val (.int p2), .val (.int p3), .val (.int p4), .val (.int q0), .val (.int q1), .val (.int q2), .val (.int q3), .val (.int q4), .val (.ref b125), .val (.int (0 : Int32)), .val (.int (own_step q0 q1 (0 : Int32))), .val (.int (own_step q1 q2 (own_step q0 q1 (0 : Int32)))), .val (.int (own_step q2 q3 (own_step q1 q2 (own_step q0 q1 (0 : Int32))))), .val (.int (own_step q3 q4 (own_step q2 q3 (own_step q1 q2 (own_step q0 q1 (0 : Int32)))))), .val (.int (0 : Int32)), .val (.int (own_step q0 q1 (0 : Int32))), .unset, .unset, .unset] [])
  refine own_by (fun _ k => XS.iload X132.here hx rfl (hb hby at_118) rfl k) ?_
  show own_Go p e below _ T132 (mkF m 120 #[.val (.int p1), .val (.int p2), .val (.int p3), .val (.int p4), .val (.int q0), .val (.int q1), .val (.int q2), .val (.int q3), .val (.int q4), .val (.ref b125), .val (.int (0 : Int32)), .val (.int (own_step q0 q1 (0 : Int32))), .val (.int (own_step q1 q2 (own_step q0 q1 (0 : Int32)))), .val (.int (own_step q2 q3 (own_step q1 q2 (own_step q0 q1 (0 : Int32))))), .val (.int (own_step q3 q4 (own_step q2 q3 (own_step q1 q2 (own_step q0 q1 (0 : Int32)))))), .val (.int (0 : Int32)), .val (.int (own_step q0 q1 (0 : Int32))), .unset, .unset, .unset] [(.int q1)])
  refine own_by (fun _ k => XS.iload X132.here hx rfl (hb hby at_120) rfl k) ?_
  show own_Go p e below _ T132 (mkF m 122 #[.val (.int p1), .val (.int p2), .val (.int p3), .val (.int p4), .val (.int q0), .val (.int q1), .val (.int q2), .val (.int q3), .val (.int q4), .val (.ref b125), .val (.int (0 : Int32)), .val (.int (own_step q0 q1 (0 : Int32))), .val (.int (own_step q1 q2 (own_step q0 q1 (0 : Int32)))), .val (.int (own_step q2 q3 (own_step q1 q2 (own_step q0 q1 (0 : Int32))))), .val (.int (own_step q3 q4 (own_step q2 q3 (own_step q1 q2 (own_step q0 q1 (0 : Int32)))))), .val (.int (0 : Int32)), .val (.int (own_step q0 q1 (0 : Int32))), .unset, .unset, .unset] [(.int q2), (.int q1)])
  refine own_by (fun _ k => XS.iload X132.here hx rfl (hb hby at_122) rfl k) ?_
  show own_Go p e below _ T132 (mkF m 124 #[.val (.int p1), .val (.int p2), .val (.int p3), .val (.int p4), .val (.int q0), .val (.int q1), .val (.int q2), .val (.int q3), .val (.int q4), .val (.ref b125), .val (.int (0 : Int32)), .val (.int (own_step q0 q1 (0 : Int32))), .val (.int (own_step q1 q2 (own_step q0 q1 (0 : Int32)))), .val (.int (own_step q2 q3 (own_step q1 q2 (own_step q0 q1 (0 : Int32))))), .val (.int (own_step q3 q4 (own_step q2 q3 (own_step q1 q2 (own_step q0 q1 (0 : Int32)))))), .val (.int (0 : Int32)), .val (.int (own_step q0 q1 (0 : Int32))), .unset, .unset, .unset] [(.int (own_step q0 q1 (0 : Int32))), (.int q2), (.int q1)])
  obtain ⟨_, T133, L133, X133, ⟨rfl, N133q, e133⟩, st133⟩ := own_callS X132 hx hZ hown (y := (⟨"com/example/tolk/tolk/query/OccurrencesNextPinLaw", "step", "(III)I"⟩ : MethodName)) (hw _ (List.mem_of_getElem? (i := 22) rfl)) (hw _ (List.mem_of_getElem? (i := 23) rfl)) (hw _ (List.mem_of_getElem? (i := 2) rfl)) (hw _ (List.mem_of_getElem? (i := 24) rfl)) (by decide) (argsL := [(.int q1), (.int q2), (.int (own_step q0 q1 (0 : Int32)))]) (rest := []) e132 (rm5 l Z a0 hw [] q1 q2 (own_step q0 q1 (0 : Int32)) T131.heap n0 Z131) (g := (mkF m 124 #[.val (.int p1), .val (.int p2), .val (.int p3), .val (.int p4), .val (.int q0), .val (.int q1), .val (.int q2), .val (.int q3), .val (.int q4), .val (.ref b125), .val (.int (0 : Int32)), .val (.int (own_step q0 q1 (0 : Int32))), .val (.int (own_step q1 q2 (own_step q0 q1 (0 : Int32)))), .val (.int (own_step q2 q3 (own_step q1 q2 (own_step q0 q1 (0 : Int32))))), .val (.int (own_step q3 q4 (own_step q2 q3 (own_step q1 q2 (own_step q0 q1 (0 : Int32)))))), .val (.int (0 : Int32)), .val (.int (own_step q0 q1 (0 : Int32))), .unset, .unset, .unset] [(.int (own_step q0 q1 (0 : Int32))), (.int q2), (.int q1)])) rfl (by rw [hml]; rfl) (lenOf pd_3 rfl) rfl (W := 0) (by show 2 * 0 + _ ≤ _; exact Nat.le_of_eq rfl) (hb hby at_124) (by decide) (by decide) (by decide) (by decide)
  have N133 := Fr.app N132 N133q
  refine own_by st133 ?_
  show own_Go p e below _ T133 (mkF m 127 #[.val (.int p1), .val (.int p2), .val (.int p3), .val (.int p4), .val (.int q0), .val (.int q1), .val (.int q2), .val (.int q3), .val (.int q4), .val (.ref b125), .val (.int (0 : Int32)), .val (.int (own_step q0 q1 (0 : Int32))), .val (.int (own_step q1 q2 (own_step q0 q1 (0 : Int32)))), .val (.int (own_step q2 q3 (own_step q1 q2 (own_step q0 q1 (0 : Int32))))), .val (.int (own_step q3 q4 (own_step q2 q3 (own_step q1 q2 (own_step q0 q1 (0 : Int32)))))), .val (.int (0 : Int32)), .val (.int (own_step q0 q1 (0 : Int32))), .unset, .unset, .unset] [(.int (own_step q1 q2 (own_step q0 q1 (0 : Int32))))])
  refine own_by (fun _ k => XS.istore X133.here hx rfl (hb hby at_127) rfl (l' := #[.val (.int p1), .val (.int p2), .val (.int p3), .val (.int p4), .val (.int q0), .val (.int q1), .val (.int q2), .val (.int q3), .val (.int q4), .val (.ref b125), .val (.int (0 : Int32)), .val (.int (own_step q0 q1 (0 : Int32))), .val (.int (own_step q1 q2 (own_step q0 q1 (0 : Int32)))), .val (.int (own_step q2 q3 (own_step q1 q2 (own_step q0 q1 (0 : Int32))))), .val (.int (own_step q3 q4 (own_step q2 q3 (own_step q1 q2 (own_step q0 q1 (0 : Int32)))))), .val (.int (0 : Int32)), .val (.int (own_step q0 q1 (0 : Int32))), .val (.int (own_step q1 q2 (own_step q0 q1 (0 : Int32)))), .unset, .unset]) rfl k) ?_
  show own_Go p e below _ T133 (mkF m 129 #[.val (.int p1), .val (.int p2), .val (.int p3), .val (.int p4), .val (.int q0), .val (.int q1), .val (.int q2), .val (.int q3), .val (.int q4), .val (.ref b125), .val (.int (0 : Int32)), .val (.int (own_step q0 q1 (0 : Int32))), .val (.int (own_step q1 q2 (own_step q0 q1 (0 : Int32)))), .val (.int (own_step q2 q3 (own_step q1 q2 (own_step q0 q1 (0 : Int32))))), .val (.int (own_step q3 q4 (own_step q2 q3 (own_step q1 q2 (own_step q0 q1 (0 : Int32)))))), .val (.int (0 : Int32)), .val (.int (own_step q0 q1 (0 : Int32))), .val (.int (own_step q1 q2 (own_step q0 q1 (0 : Int32)))), .unset, .unset] [])
  refine own_by (fun _ k => XS.iload X133.here hx rfl (hb hby at_129) rfl k) ?_
  show own_Go p e below _ T133 (mkF m 131 #[.val (.int p1), .val (.int p2), .val (.int p3), .val (.int p4), .val (.int q0), .val (.int q1), .val (.int q2), .val (.int q3), .val (.int q4), .val (.ref b125), .val (.int (0 : Int32)), .val (.int (own_step q0 q1 (0 : Int32))), .val (.int (own_step q1 q2 (own_step q0 q1 (0 : Int32)))), .val (.int (own_step q2 q3 (own_step q1 q2 (own_step q0 q1 (0 : Int32))))), .val (.int (own_step q3 q4 (own_step q2 q3 (own_step q1 q2 (own_step q0 q1 (0 : Int32)))))), .val (.int (0 : Int32)), .val (.int (own_step q0 q1 (0 : Int32))), .val (.int (own_step q1 q2 (own_step q0 q1 (0 : Int32)))), .unset, .unset] [(.int q2)])
  refine own_by (fun _ k => XS.iload X133.here hx rfl (hb hby at_131) rfl k) ?_
  show own_Go p e below _ T133 (mkF m 133 #[.val (.int p1), .val (.int p2), .val (.int p3), .val (.int p4), .val (.int q0), .val (.int q1), .val (.int q2), .val (.int q3), .val (.int q4), .val (.ref b125), .val (.int (0 : Int32)), .val (.int (own_step q0 q1 (0 : Int32))), .val (.int (own_step q1 q2 (own_step q0 q1 (0 : Int32)))), .val (.int (own_step q2 q3 (own_step q1 q2 (own_step q0 q1 (0 : Int32))))), .val (.int (own_step q3 q4 (own_step q2 q3 (own_step q1 q2 (own_step q0 q1 (0 : Int32)))))), .val (.int (0 : Int32)), .val (.int (own_step q0 q1 (0 : Int32))), .val (.int (own_step q1 q2 (own_step q0 q1 (0 : Int32)))), .unset, .unset] [(.int q3), (.int q2)])
  refine own_by (fun _ k => XS.iload X133.here hx rfl (hb hby at_133) rfl k) ?_
  show own_Go p e below _ T133 (mkF m 135 #[.val (.int p1), .val (.int p2), .val (.int p3), .val (.int p4), .val (.int q0), .val (.int q1), .val (.int q2), .val (.int q3), .val (.int q4), .val (.ref b125), .val (.int (0 : Int32)), .val (.int (own_step q0 q1 (0 : Int32))), .val (.int (own_step q1 q2 (own_step q0 q1 (0 : Int32)))), .val (.int (own_step q2 q3 (own_step q1 q2 (own_step q0 q1 (0 : Int32))))), .val (.int (own_step q3 q4 (own_step q2 q3 (own_step q1 q2 (own_step q0 q1 (0 : Int32)))))), .val (.int (0 : Int32)), .val (.int (own_step q0 q1 (0 : Int32))), .val (.int (own_step q1 q2 (own_step q0 q1 (0 : Int32)))), .unset, .unset] [(.int (own_step q1 q2 (own_step q0 q1 (0 : Int32)))), (.int q3), (.int q2)])
  obtain ⟨_, T134, L134, X134, ⟨rfl, N134q, e134⟩, st134⟩ := own_callS X133 hx hZ hown (y := (⟨"com/example/tolk/tolk/query/OccurrencesNextPinLaw", "step", "(III)I"⟩ : MethodName)) (hw _ (List.mem_of_getElem? (i := 22) rfl)) (hw _ (List.mem_of_getElem? (i := 23) rfl)) (hw _ (List.mem_of_getElem? (i := 2) rfl)) (hw _ (List.mem_of_getElem? (i := 24) rfl)) (by decide) (argsL := [(.int q2), (.int q3), (.int (own_step q1 q2 (own_step q0 q1 (0 : Int32))))]) (rest := []) e133 (rm5 l Z a0 hw [] q2 q3 (own_step q1 q2 (own_step q0 q1 (0 : Int32))) T131.heap n0 Z131) (g := (mkF m 135 #[.val (.int p1), .val (.int p2), .val (.int p3), .val (.int p4), .val (.int q0), .val (.int q1), .val (.int q2), .val (.int q3), .val (.int q4), .val (.ref b125), .val (.int (0 : Int32)), .val (.int (own_step q0 q1 (0 : Int32))), .val (.int (own_step q1 q2 (own_step q0 q1 (0 : Int32)))), .val (.int (own_step q2 q3 (own_step q1 q2 (own_step q0 q1 (0 : Int32))))), .val (.int (own_step q3 q4 (own_step q2 q3 (own_step q1 q2 (own_step q0 q1 (0 : Int32)))))), .val (.int (0 : Int32)), .val (.int (own_step q0 q1 (0 : Int32))), .val (.int (own_step q1 q2 (own_step q0 q1 (0 : Int32)))), .unset, .unset] [(.int (own_step q1 q2 (own_step q0 q1 (0 : Int32)))), (.int q3), (.int q2)])) rfl (by rw [hml]; rfl) (lenOf pd_3 rfl) rfl (W := 0) (by show 2 * 0 + _ ≤ _; exact Nat.le_of_eq rfl) (hb hby at_135) (by decide) (by decide) (by decide) (by decide)
  have N134 := Fr.app N133 N134q
  refine own_by st134 ?_
  show own_Go p e below _ T134 (mkF m 138 #[.val (.int p1), .val (.int p2), .val (.int p3), .val (.int p4), .val (.int q0), .val (.int q1), .val (.int q2), .val (.int q3), .val (.int q4), .val (.ref b125), .val (.int (0 : Int32)), .val (.int (own_step q0 q1 (0 : Int32))), .val (.int (own_step q1 q2 (own_step q0 q1 (0 : Int32)))), .val (.int (own_step q2 q3 (own_step q1 q2 (own_step q0 q1 (0 : Int32))))), .val (.int (own_step q3 q4 (own_step q2 q3 (own_step q1 q2 (own_step q0 q1 (0 : Int32)))))), .val (.int (0 : Int32)), .val (.int (own_step q0 q1 (0 : Int32))), .val (.int (own_step q1 q2 (own_step q0 q1 (0 : Int32)))), .unset, .unset] [(.int (own_step q2 q3 (own_step q1 q2 (own_step q0 q1 (0 : Int32)))))])
  refine own_by (fun _ k => XS.istore X134.here hx rfl (hb hby at_138) rfl (l' := #[.val (.int p1), .val (.int p2), .val (.int p3), .val (.int p4), .val (.int q0), .val (.int q1), .val (.int q2), .val (.int q3), .val (.int q4), .val (.ref b125), .val (.int (0 : Int32)), .val (.int (own_step q0 q1 (0 : Int32))), .val (.int (own_step q1 q2 (own_step q0 q1 (0 : Int32)))), .val (.int (own_step q2 q3 (own_step q1 q2 (own_step q0 q1 (0 : Int32))))), .val (.int (own_step q3 q4 (own_step q2 q3 (own_step q1 q2 (own_step q0 q1 (0 : Int32)))))), .val (.int (0 : Int32)), .val (.int (own_step q0 q1 (0 : Int32))), .val (.int (own_step q1 q2 (own_step q0 q1 (0 : Int32)))), .val (.int (own_step q2 q3 (own_step q1 q2 (own_step q0 q1 (0 : Int32))))), .unset]) rfl k) ?_
  show own_Go p e below _ T134 (mkF m 140 #[.val (.int p1), .val (.int p2), .val (.int p3), .val (.int p4), .val (.int q0), .val (.int q1), .val (.int q2), .val (.int q3), .val (.int q4), .val (.ref b125), .val (.int (0 : Int32)), .val (.int (own_step q0 q1 (0 : Int32))), .val (.int (own_step q1 q2 (own_step q0 q1 (0 : Int32)))), .val (.int (own_step q2 q3 (own_step q1 q2 (own_step q0 q1 (0 : Int32))))), .val (.int (own_step q3 q4 (own_step q2 q3 (own_step q1 q2 (own_step q0 q1 (0 : Int32)))))), .val (.int (0 : Int32)), .val (.int (own_step q0 q1 (0 : Int32))), .val (.int (own_step q1 q2 (own_step q0 q1 (0 : Int32)))), .val (.int (own_step q2 q3 (own_step q1 q2 (own_step q0 q1 (0 : Int32))))), .unset] [])
  refine own_by (fun _ k => XS.iload X134.here hx rfl (hb hby at_140) rfl k) ?_
  show own_Go p e below _ T134 (mkF m 142 #[.val (.int p1), .val (.int p2), .val (.int p3), .val (.int p4), .val (.int q0), .val (.int q1), .val (.int q2), .val (.int q3), .val (.int q4), .val (.ref b125), .val (.int (0 : Int32)), .val (.int (own_step q0 q1 (0 : Int32))), .val (.int (own_step q1 q2 (own_step q0 q1 (0 : Int32)))), .val (.int (own_step q2 q3 (own_step q1 q2 (own_step q0 q1 (0 : Int32))))), .val (.int (own_step q3 q4 (own_step q2 q3 (own_step q1 q2 (own_step q0 q1 (0 : Int32)))))), .val (.int (0 : Int32)), .val (.int (own_step q0 q1 (0 : Int32))), .val (.int (own_step q1 q2 (own_step q0 q1 (0 : Int32)))), .val (.int (own_step q2 q3 (own_step q1 q2 (own_step q0 q1 (0 : Int32))))), .unset] [(.int q3)])
  refine own_by (fun _ k => XS.iload X134.here hx rfl (hb hby at_142) rfl k) ?_
  show own_Go p e below _ T134 (mkF m 144 #[.val (.int p1), .val (.int p2), .val (.int p3), .val (.int p4), .val (.int q0), .val (.int q1), .val (.int q2), .val (.int q3), .val (.int q4), .val (.ref b125), .val (.int (0 : Int32)), .val (.int (own_step q0 q1 (0 : Int32))), .val (.int (own_step q1 q2 (own_step q0 q1 (0 : Int32)))), .val (.int (own_step q2 q3 (own_step q1 q2 (own_step q0 q1 (0 : Int32))))), .val (.int (own_step q3 q4 (own_step q2 q3 (own_step q1 q2 (own_step q0 q1 (0 : Int32)))))), .val (.int (0 : Int32)), .val (.int (own_step q0 q1 (0 : Int32))), .val (.int (own_step q1 q2 (own_step q0 q1 (0 : Int32)))), .val (.int (own_step q2 q3 (own_step q1 q2 (own_step q0 q1 (0 : Int32))))), .unset] [(.int q4), (.int q3)])
  refine own_by (fun _ k => XS.iload X134.here hx rfl (hb hby at_144) rfl k) ?_
  show own_Go p e below _ T134 (mkF m 146 #[.val (.int p1), .val (.int p2), .val (.int p3), .val (.int p4), .val (.int q0), .val (.int q1), .val (.int q2), .val (.int q3), .val (.int q4), .val (.ref b125), .val (.int (0 : Int32)), .val (.int (own_step q0 q1 (0 : Int32))), .val (.int (own_step q1 q2 (own_step q0 q1 (0 : Int32)))), .val (.int (own_step q2 q3 (own_step q1 q2 (own_step q0 q1 (0 : Int32))))), .val (.int (own_step q3 q4 (own_step q2 q3 (own_step q1 q2 (own_step q0 q1 (0 : Int32)))))), .val (.int (0 : Int32)), .val (.int (own_step q0 q1 (0 : Int32))), .val (.int (own_step q1 q2 (own_step q0 q1 (0 : Int32)))), .val (.int (own_step q2 q3 (own_step q1 q2 (own_step q0 q1 (0 : Int32))))), .unset] [(.int (own_step q2 q3 (own_step q1 q2 (own_step q0 q1 (0 : Int32))))), (.int q4), (.int q3)])
  obtain ⟨_, T135, L135, X135, ⟨rfl, N135q, e135⟩, st135⟩ := own_callS X134 hx hZ hown (y := (⟨"com/example/tolk/tolk/query/OccurrencesNextPinLaw", "step", "(III)I"⟩ : MethodName)) (hw _ (List.mem_of_getElem? (i := 22) rfl)) (hw _ (List.mem_of_getElem? (i := 23) rfl)) (hw _ (List.mem_of_getElem? (i := 2) rfl)) (hw _ (List.mem_of_getElem? (i := 24) rfl)) (by decide) (argsL := [(.int q3), (.int q4), (.int (own_step q2 q3 (own_step q1 q2 (own_step q0 q1 (0 : Int32)))))]) (rest := []) e134 (rm5 l Z a0 hw [] q3 q4 (own_step q2 q3 (own_step q1 q2 (own_step q0 q1 (0 : Int32)))) T131.heap n0 Z131) (g := (mkF m 146 #[.val (.int p1), .val (.int p2), .val (.int p3), .val (.int p4), .val (.int q0), .val (.int q1), .val (.int q2), .val (.int q3), .val (.int q4), .val (.ref b125), .val (.int (0 : Int32)), .val (.int (own_step q0 q1 (0 : Int32))), .val (.int (own_step q1 q2 (own_step q0 q1 (0 : Int32)))), .val (.int (own_step q2 q3 (own_step q1 q2 (own_step q0 q1 (0 : Int32))))), .val (.int (own_step q3 q4 (own_step q2 q3 (own_step q1 q2 (own_step q0 q1 (0 : Int32)))))), .val (.int (0 : Int32)), .val (.int (own_step q0 q1 (0 : Int32))), .val (.int (own_step q1 q2 (own_step q0 q1 (0 : Int32)))), .val (.int (own_step q2 q3 (own_step q1 q2 (own_step q0 q1 (0 : Int32))))), .unset] [(.int (own_step q2 q3 (own_step q1 q2 (own_step q0 q1 (0 : Int32))))), (.int q4), (.int q3)])) rfl (by rw [hml]; rfl) (lenOf pd_3 rfl) rfl (W := 0) (by show 2 * 0 + _ ≤ _; exact Nat.le_of_eq rfl) (hb hby at_146) (by decide) (by decide) (by decide) (by decide)
  have N135 := Fr.app N134 N135q
  refine own_by st135 ?_
  show own_Go p e below _ T135 (mkF m 149 #[.val (.int p1), .val (.int p2), .val (.int p3), .val (.int p4), .val (.int q0), .val (.int q1), .val (.int q2), .val (.int q3), .val (.int q4), .val (.ref b125), .val (.int (0 : Int32)), .val (.int (own_step q0 q1 (0 : Int32))), .val (.int (own_step q1 q2 (own_step q0 q1 (0 : Int32)))), .val (.int (own_step q2 q3 (own_step q1 q2 (own_step q0 q1 (0 : Int32))))), .val (.int (own_step q3 q4 (own_step q2 q3 (own_step q1 q2 (own_step q0 q1 (0 : Int32)))))), .val (.int (0 : Int32)), .val (.int (own_step q0 q1 (0 : Int32))), .val (.int (own_step q1 q2 (own_step q0 q1 (0 : Int32)))), .val (.int (own_step q2 q3 (own_step q1 q2 (own_step q0 q1 (0 : Int32))))), .unset] [(.int (own_step q3 q4 (own_step q2 q3 (own_step q1 q2 (own_step q0 q1 (0 : Int32))))))])
  refine own_by (fun _ k => XS.istore X135.here hx rfl (hb hby at_149) rfl (l' := #[.val (.int p1), .val (.int p2), .val (.int p3), .val (.int p4), .val (.int q0), .val (.int q1), .val (.int q2), .val (.int q3), .val (.int q4), .val (.ref b125), .val (.int (0 : Int32)), .val (.int (own_step q0 q1 (0 : Int32))), .val (.int (own_step q1 q2 (own_step q0 q1 (0 : Int32)))), .val (.int (own_step q2 q3 (own_step q1 q2 (own_step q0 q1 (0 : Int32))))), .val (.int (own_step q3 q4 (own_step q2 q3 (own_step q1 q2 (own_step q0 q1 (0 : Int32)))))), .val (.int (0 : Int32)), .val (.int (own_step q0 q1 (0 : Int32))), .val (.int (own_step q1 q2 (own_step q0 q1 (0 : Int32)))), .val (.int (own_step q2 q3 (own_step q1 q2 (own_step q0 q1 (0 : Int32))))), .val (.int (own_step q3 q4 (own_step q2 q3 (own_step q1 q2 (own_step q0 q1 (0 : Int32))))))]) rfl k) ?_
  show own_Go p e below _ T135 (mkF m 151 #[.val (.int p1), .val (.int p2), .val (.int p3), .val (.int p4), .val (.int q0), .val (.int q1), .val (.int q2), .val (.int q3), .val (.int q4), .val (.ref b125), .val (.int (0 : Int32)), .val (.int (own_step q0 q1 (0 : Int32))), .val (.int (own_step q1 q2 (own_step q0 q1 (0 : Int32)))), .val (.int (own_step q2 q3 (own_step q1 q2 (own_step q0 q1 (0 : Int32))))), .val (.int (own_step q3 q4 (own_step q2 q3 (own_step q1 q2 (own_step q0 q1 (0 : Int32)))))), .val (.int (0 : Int32)), .val (.int (own_step q0 q1 (0 : Int32))), .val (.int (own_step q1 q2 (own_step q0 q1 (0 : Int32)))), .val (.int (own_step q2 q3 (own_step q1 q2 (own_step q0 q1 (0 : Int32))))), .val (.int (own_step q3 q4 (own_step q2 q3 (own_step q1 q2 (own_step q0 q1 (0 : Int32))))))] [])
  refine own_by (fun _ k => XS.iload X135.here hx rfl (hb hby at_151) rfl k) ?_
  show own_Go p e below _ T135 (mkF m 153 #[.val (.int p1), .val (.int p2), .val (.int p3), .val (.int p4), .val (.int q0), .val (.int q1), .val (.int q2), .val (.int q3), .val (.int q4), .val (.ref b125), .val (.int (0 : Int32)), .val (.int (own_step q0 q1 (0 : Int32))), .val (.int (own_step q1 q2 (own_step q0 q1 (0 : Int32)))), .val (.int (own_step q2 q3 (own_step q1 q2 (own_step q0 q1 (0 : Int32))))), .val (.int (own_step q3 q4 (own_step q2 q3 (own_step q1 q2 (own_step q0 q1 (0 : Int32)))))), .val (.int (0 : Int32)), .val (.int (own_step q0 q1 (0 : Int32))), .val (.int (own_step q1 q2 (own_step q0 q1 (0 : Int32)))), .val (.int (own_step q2 q3 (own_step q1 q2 (own_step q0 q1 (0 : Int32))))), .val (.int (own_step q3 q4 (own_step q2 q3 (own_step q1 q2 (own_step q0 q1 (0 : Int32))))))] [(.int (0 : Int32))])
  refine own_by (fun _ k => XS.iload X135.here hx rfl (hb hby at_153) rfl k) ?_
  show own_Go p e below _ T135 (mkF m 155 #[.val (.int p1), .val (.int p2), .val (.int p3), .val (.int p4), .val (.int q0), .val (.int q1), .val (.int q2), .val (.int q3), .val (.int q4), .val (.ref b125), .val (.int (0 : Int32)), .val (.int (own_step q0 q1 (0 : Int32))), .val (.int (own_step q1 q2 (own_step q0 q1 (0 : Int32)))), .val (.int (own_step q2 q3 (own_step q1 q2 (own_step q0 q1 (0 : Int32))))), .val (.int (own_step q3 q4 (own_step q2 q3 (own_step q1 q2 (own_step q0 q1 (0 : Int32)))))), .val (.int (0 : Int32)), .val (.int (own_step q0 q1 (0 : Int32))), .val (.int (own_step q1 q2 (own_step q0 q1 (0 : Int32)))), .val (.int (own_step q2 q3 (own_step q1 q2 (own_step q0 q1 (0 : Int32))))), .val (.int (own_step q3 q4 (own_step q2 q3 (own_step q1 q2 (own_step q0 q1 (0 : Int32))))))] [(.int (0 : Int32)), (.int (0 : Int32))])
  refine own_by (fun _ k => XS.icmpNo X135.here hx rfl (hb hby at_155) rfl (teq (rfl : (0 : Int32) = (0 : Int32))).2 k) ?_
  show own_Go p e below _ T135 (mkF m 158 #[.val (.int p1), .val (.int p2), .val (.int p3), .val (.int p4), .val (.int q0), .val (.int q1), .val (.int q2), .val (.int q3), .val (.int q4), .val (.ref b125), .val (.int (0 : Int32)), .val (.int (own_step q0 q1 (0 : Int32))), .val (.int (own_step q1 q2 (own_step q0 q1 (0 : Int32)))), .val (.int (own_step q2 q3 (own_step q1 q2 (own_step q0 q1 (0 : Int32))))), .val (.int (own_step q3 q4 (own_step q2 q3 (own_step q1 q2 (own_step q0 q1 (0 : Int32)))))), .val (.int (0 : Int32)), .val (.int (own_step q0 q1 (0 : Int32))), .val (.int (own_step q1 q2 (own_step q0 q1 (0 : Int32)))), .val (.int (own_step q2 q3 (own_step q1 q2 (own_step q0 q1 (0 : Int32))))), .val (.int (own_step q3 q4 (own_step q2 q3 (own_step q1 q2 (own_step q0 q1 (0 : Int32))))))] [])
  refine own_by (fun _ k => XS.iload X135.here hx rfl (hb hby at_158) rfl k) ?_
  show own_Go p e below _ T135 (mkF m 160 #[.val (.int p1), .val (.int p2), .val (.int p3), .val (.int p4), .val (.int q0), .val (.int q1), .val (.int q2), .val (.int q3), .val (.int q4), .val (.ref b125), .val (.int (0 : Int32)), .val (.int (own_step q0 q1 (0 : Int32))), .val (.int (own_step q1 q2 (own_step q0 q1 (0 : Int32)))), .val (.int (own_step q2 q3 (own_step q1 q2 (own_step q0 q1 (0 : Int32))))), .val (.int (own_step q3 q4 (own_step q2 q3 (own_step q1 q2 (own_step q0 q1 (0 : Int32)))))), .val (.int (0 : Int32)), .val (.int (own_step q0 q1 (0 : Int32))), .val (.int (own_step q1 q2 (own_step q0 q1 (0 : Int32)))), .val (.int (own_step q2 q3 (own_step q1 q2 (own_step q0 q1 (0 : Int32))))), .val (.int (own_step q3 q4 (own_step q2 q3 (own_step q1 q2 (own_step q0 q1 (0 : Int32))))))] [(.int (own_step q0 q1 (0 : Int32)))])
  refine own_by (fun _ k => XS.iload X135.here hx rfl (hb hby at_160) rfl k) ?_
  show own_Go p e below _ T135 (mkF m 162 #[.val (.int p1), .val (.int p2), .val (.int p3), .val (.int p4), .val (.int q0), .val (.int q1), .val (.int q2), .val (.int q3), .val (.int q4), .val (.ref b125), .val (.int (0 : Int32)), .val (.int (own_step q0 q1 (0 : Int32))), .val (.int (own_step q1 q2 (own_step q0 q1 (0 : Int32)))), .val (.int (own_step q2 q3 (own_step q1 q2 (own_step q0 q1 (0 : Int32))))), .val (.int (own_step q3 q4 (own_step q2 q3 (own_step q1 q2 (own_step q0 q1 (0 : Int32)))))), .val (.int (0 : Int32)), .val (.int (own_step q0 q1 (0 : Int32))), .val (.int (own_step q1 q2 (own_step q0 q1 (0 : Int32)))), .val (.int (own_step q2 q3 (own_step q1 q2 (own_step q0 q1 (0 : Int32))))), .val (.int (own_step q3 q4 (own_step q2 q3 (own_step q1 q2 (own_step q0 q1 (0 : Int32))))))] [(.int (own_step q0 q1 (0 : Int32))), (.int (own_step q0 q1 (0 : Int32)))])
  refine own_by (fun _ k => XS.icmpNo X135.here hx rfl (hb hby at_162) rfl (teq (rfl : (own_step q0 q1 (0 : Int32)) = (own_step q0 q1 (0 : Int32)))).2 k) ?_
  show own_Go p e below _ T135 (mkF m 165 #[.val (.int p1), .val (.int p2), .val (.int p3), .val (.int p4), .val (.int q0), .val (.int q1), .val (.int q2), .val (.int q3), .val (.int q4), .val (.ref b125), .val (.int (0 : Int32)), .val (.int (own_step q0 q1 (0 : Int32))), .val (.int (own_step q1 q2 (own_step q0 q1 (0 : Int32)))), .val (.int (own_step q2 q3 (own_step q1 q2 (own_step q0 q1 (0 : Int32))))), .val (.int (own_step q3 q4 (own_step q2 q3 (own_step q1 q2 (own_step q0 q1 (0 : Int32)))))), .val (.int (0 : Int32)), .val (.int (own_step q0 q1 (0 : Int32))), .val (.int (own_step q1 q2 (own_step q0 q1 (0 : Int32)))), .val (.int (own_step q2 q3 (own_step q1 q2 (own_step q0 q1 (0 : Int32))))), .val (.int (own_step q3 q4 (own_step q2 q3 (own_step q1 q2 (own_step q0 q1 (0 : Int32))))))] [])
  refine own_by (fun _ k => XS.iload X135.here hx rfl (hb hby at_165) rfl k) ?_
  show own_Go p e below _ T135 (mkF m 167 #[.val (.int p1), .val (.int p2), .val (.int p3), .val (.int p4), .val (.int q0), .val (.int q1), .val (.int q2), .val (.int q3), .val (.int q4), .val (.ref b125), .val (.int (0 : Int32)), .val (.int (own_step q0 q1 (0 : Int32))), .val (.int (own_step q1 q2 (own_step q0 q1 (0 : Int32)))), .val (.int (own_step q2 q3 (own_step q1 q2 (own_step q0 q1 (0 : Int32))))), .val (.int (own_step q3 q4 (own_step q2 q3 (own_step q1 q2 (own_step q0 q1 (0 : Int32)))))), .val (.int (0 : Int32)), .val (.int (own_step q0 q1 (0 : Int32))), .val (.int (own_step q1 q2 (own_step q0 q1 (0 : Int32)))), .val (.int (own_step q2 q3 (own_step q1 q2 (own_step q0 q1 (0 : Int32))))), .val (.int (own_step q3 q4 (own_step q2 q3 (own_step q1 q2 (own_step q0 q1 (0 : Int32))))))] [(.int (own_step q1 q2 (own_step q0 q1 (0 : Int32))))])
  refine own_by (fun _ k => XS.iload X135.here hx rfl (hb hby at_167) rfl k) ?_
  show own_Go p e below _ T135 (mkF m 169 #[.val (.int p1), .val (.int p2), .val (.int p3), .val (.int p4), .val (.int q0), .val (.int q1), .val (.int q2), .val (.int q3), .val (.int q4), .val (.ref b125), .val (.int (0 : Int32)), .val (.int (own_step q0 q1 (0 : Int32))), .val (.int (own_step q1 q2 (own_step q0 q1 (0 : Int32)))), .val (.int (own_step q2 q3 (own_step q1 q2 (own_step q0 q1 (0 : Int32))))), .val (.int (own_step q3 q4 (own_step q2 q3 (own_step q1 q2 (own_step q0 q1 (0 : Int32)))))), .val (.int (0 : Int32)), .val (.int (own_step q0 q1 (0 : Int32))), .val (.int (own_step q1 q2 (own_step q0 q1 (0 : Int32)))), .val (.int (own_step q2 q3 (own_step q1 q2 (own_step q0 q1 (0 : Int32))))), .val (.int (own_step q3 q4 (own_step q2 q3 (own_step q1 q2 (own_step q0 q1 (0 : Int32))))))] [(.int (own_step q1 q2 (own_step q0 q1 (0 : Int32)))), (.int (own_step q1 q2 (own_step q0 q1 (0 : Int32))))])
  refine own_by (fun _ k => XS.icmpNo X135.here hx rfl (hb hby at_169) rfl (teq (rfl : (own_step q1 q2 (own_step q0 q1 (0 : Int32))) = (own_step q1 q2 (own_step q0 q1 (0 : Int32))))).2 k) ?_
  show own_Go p e below _ T135 (mkF m 172 #[.val (.int p1), .val (.int p2), .val (.int p3), .val (.int p4), .val (.int q0), .val (.int q1), .val (.int q2), .val (.int q3), .val (.int q4), .val (.ref b125), .val (.int (0 : Int32)), .val (.int (own_step q0 q1 (0 : Int32))), .val (.int (own_step q1 q2 (own_step q0 q1 (0 : Int32)))), .val (.int (own_step q2 q3 (own_step q1 q2 (own_step q0 q1 (0 : Int32))))), .val (.int (own_step q3 q4 (own_step q2 q3 (own_step q1 q2 (own_step q0 q1 (0 : Int32)))))), .val (.int (0 : Int32)), .val (.int (own_step q0 q1 (0 : Int32))), .val (.int (own_step q1 q2 (own_step q0 q1 (0 : Int32)))), .val (.int (own_step q2 q3 (own_step q1 q2 (own_step q0 q1 (0 : Int32))))), .val (.int (own_step q3 q4 (own_step q2 q3 (own_step q1 q2 (own_step q0 q1 (0 : Int32))))))] [])
  refine own_by (fun _ k => XS.iload X135.here hx rfl (hb hby at_172) rfl k) ?_
  show own_Go p e below _ T135 (mkF m 174 #[.val (.int p1), .val (.int p2), .val (.int p3), .val (.int p4), .val (.int q0), .val (.int q1), .val (.int q2), .val (.int q3), .val (.int q4), .val (.ref b125), .val (.int (0 : Int32)), .val (.int (own_step q0 q1 (0 : Int32))), .val (.int (own_step q1 q2 (own_step q0 q1 (0 : Int32)))), .val (.int (own_step q2 q3 (own_step q1 q2 (own_step q0 q1 (0 : Int32))))), .val (.int (own_step q3 q4 (own_step q2 q3 (own_step q1 q2 (own_step q0 q1 (0 : Int32)))))), .val (.int (0 : Int32)), .val (.int (own_step q0 q1 (0 : Int32))), .val (.int (own_step q1 q2 (own_step q0 q1 (0 : Int32)))), .val (.int (own_step q2 q3 (own_step q1 q2 (own_step q0 q1 (0 : Int32))))), .val (.int (own_step q3 q4 (own_step q2 q3 (own_step q1 q2 (own_step q0 q1 (0 : Int32))))))] [(.int (own_step q2 q3 (own_step q1 q2 (own_step q0 q1 (0 : Int32)))))])
  refine own_by (fun _ k => XS.iload X135.here hx rfl (hb hby at_174) rfl k) ?_
  show own_Go p e below _ T135 (mkF m 176 #[.val (.int p1), .val (.int p2), .val (.int p3), .val (.int p4), .val (.int q0), .val (.int q1), .val (.int q2), .val (.int q3), .val (.int q4), .val (.ref b125), .val (.int (0 : Int32)), .val (.int (own_step q0 q1 (0 : Int32))), .val (.int (own_step q1 q2 (own_step q0 q1 (0 : Int32)))), .val (.int (own_step q2 q3 (own_step q1 q2 (own_step q0 q1 (0 : Int32))))), .val (.int (own_step q3 q4 (own_step q2 q3 (own_step q1 q2 (own_step q0 q1 (0 : Int32)))))), .val (.int (0 : Int32)), .val (.int (own_step q0 q1 (0 : Int32))), .val (.int (own_step q1 q2 (own_step q0 q1 (0 : Int32)))), .val (.int (own_step q2 q3 (own_step q1 q2 (own_step q0 q1 (0 : Int32))))), .val (.int (own_step q3 q4 (own_step q2 q3 (own_step q1 q2 (own_step q0 q1 (0 : Int32))))))] [(.int (own_step q2 q3 (own_step q1 q2 (own_step q0 q1 (0 : Int32))))), (.int (own_step q2 q3 (own_step q1 q2 (own_step q0 q1 (0 : Int32)))))])
  refine own_by (fun _ k => XS.icmpNo X135.here hx rfl (hb hby at_176) rfl (teq (rfl : (own_step q2 q3 (own_step q1 q2 (own_step q0 q1 (0 : Int32)))) = (own_step q2 q3 (own_step q1 q2 (own_step q0 q1 (0 : Int32)))))).2 k) ?_
  show own_Go p e below _ T135 (mkF m 179 #[.val (.int p1), .val (.int p2), .val (.int p3), .val (.int p4), .val (.int q0), .val (.int q1), .val (.int q2), .val (.int q3), .val (.int q4), .val (.ref b125), .val (.int (0 : Int32)), .val (.int (own_step q0 q1 (0 : Int32))), .val (.int (own_step q1 q2 (own_step q0 q1 (0 : Int32)))), .val (.int (own_step q2 q3 (own_step q1 q2 (own_step q0 q1 (0 : Int32))))), .val (.int (own_step q3 q4 (own_step q2 q3 (own_step q1 q2 (own_step q0 q1 (0 : Int32)))))), .val (.int (0 : Int32)), .val (.int (own_step q0 q1 (0 : Int32))), .val (.int (own_step q1 q2 (own_step q0 q1 (0 : Int32)))), .val (.int (own_step q2 q3 (own_step q1 q2 (own_step q0 q1 (0 : Int32))))), .val (.int (own_step q3 q4 (own_step q2 q3 (own_step q1 q2 (own_step q0 q1 (0 : Int32))))))] [])
  refine own_by (fun _ k => XS.iload X135.here hx rfl (hb hby at_179) rfl k) ?_
  show own_Go p e below _ T135 (mkF m 181 #[.val (.int p1), .val (.int p2), .val (.int p3), .val (.int p4), .val (.int q0), .val (.int q1), .val (.int q2), .val (.int q3), .val (.int q4), .val (.ref b125), .val (.int (0 : Int32)), .val (.int (own_step q0 q1 (0 : Int32))), .val (.int (own_step q1 q2 (own_step q0 q1 (0 : Int32)))), .val (.int (own_step q2 q3 (own_step q1 q2 (own_step q0 q1 (0 : Int32))))), .val (.int (own_step q3 q4 (own_step q2 q3 (own_step q1 q2 (own_step q0 q1 (0 : Int32)))))), .val (.int (0 : Int32)), .val (.int (own_step q0 q1 (0 : Int32))), .val (.int (own_step q1 q2 (own_step q0 q1 (0 : Int32)))), .val (.int (own_step q2 q3 (own_step q1 q2 (own_step q0 q1 (0 : Int32))))), .val (.int (own_step q3 q4 (own_step q2 q3 (own_step q1 q2 (own_step q0 q1 (0 : Int32))))))] [(.int (own_step q3 q4 (own_step q2 q3 (own_step q1 q2 (own_step q0 q1 (0 : Int32))))))])
  refine own_by (fun _ k => XS.iload X135.here hx rfl (hb hby at_181) rfl k) ?_
  show own_Go p e below _ T135 (mkF m 183 #[.val (.int p1), .val (.int p2), .val (.int p3), .val (.int p4), .val (.int q0), .val (.int q1), .val (.int q2), .val (.int q3), .val (.int q4), .val (.ref b125), .val (.int (0 : Int32)), .val (.int (own_step q0 q1 (0 : Int32))), .val (.int (own_step q1 q2 (own_step q0 q1 (0 : Int32)))), .val (.int (own_step q2 q3 (own_step q1 q2 (own_step q0 q1 (0 : Int32))))), .val (.int (own_step q3 q4 (own_step q2 q3 (own_step q1 q2 (own_step q0 q1 (0 : Int32)))))), .val (.int (0 : Int32)), .val (.int (own_step q0 q1 (0 : Int32))), .val (.int (own_step q1 q2 (own_step q0 q1 (0 : Int32)))), .val (.int (own_step q2 q3 (own_step q1 q2 (own_step q0 q1 (0 : Int32))))), .val (.int (own_step q3 q4 (own_step q2 q3 (own_step q1 q2 (own_step q0 q1 (0 : Int32))))))] [(.int (own_step q3 q4 (own_step q2 q3 (own_step q1 q2 (own_step q0 q1 (0 : Int32)))))), (.int (own_step q3 q4 (own_step q2 q3 (own_step q1 q2 (own_step q0 q1 (0 : Int32))))))])
  refine own_by (fun _ k => XS.icmpNo X135.here hx rfl (hb hby at_183) rfl (teq (rfl : (own_step q3 q4 (own_step q2 q3 (own_step q1 q2 (own_step q0 q1 (0 : Int32))))) = (own_step q3 q4 (own_step q2 q3 (own_step q1 q2 (own_step q0 q1 (0 : Int32))))))).2 k) ?_
  show own_Go p e below _ T135 (mkF m 186 #[.val (.int p1), .val (.int p2), .val (.int p3), .val (.int p4), .val (.int q0), .val (.int q1), .val (.int q2), .val (.int q3), .val (.int q4), .val (.ref b125), .val (.int (0 : Int32)), .val (.int (own_step q0 q1 (0 : Int32))), .val (.int (own_step q1 q2 (own_step q0 q1 (0 : Int32)))), .val (.int (own_step q2 q3 (own_step q1 q2 (own_step q0 q1 (0 : Int32))))), .val (.int (own_step q3 q4 (own_step q2 q3 (own_step q1 q2 (own_step q0 q1 (0 : Int32)))))), .val (.int (0 : Int32)), .val (.int (own_step q0 q1 (0 : Int32))), .val (.int (own_step q1 q2 (own_step q0 q1 (0 : Int32)))), .val (.int (own_step q2 q3 (own_step q1 q2 (own_step q0 q1 (0 : Int32))))), .val (.int (own_step q3 q4 (own_step q2 q3 (own_step q1 q2 (own_step q0 q1 (0 : Int32))))))] [])
  refine own_by (fun _ k => XS.iconst X135.here hx rfl (hb hby at_186) k) ?_
  show own_Go p e below _ T135 (mkF m 187 #[.val (.int p1), .val (.int p2), .val (.int p3), .val (.int p4), .val (.int q0), .val (.int q1), .val (.int q2), .val (.int q3), .val (.int q4), .val (.ref b125), .val (.int (0 : Int32)), .val (.int (own_step q0 q1 (0 : Int32))), .val (.int (own_step q1 q2 (own_step q0 q1 (0 : Int32)))), .val (.int (own_step q2 q3 (own_step q1 q2 (own_step q0 q1 (0 : Int32))))), .val (.int (own_step q3 q4 (own_step q2 q3 (own_step q1 q2 (own_step q0 q1 (0 : Int32)))))), .val (.int (0 : Int32)), .val (.int (own_step q0 q1 (0 : Int32))), .val (.int (own_step q1 q2 (own_step q0 q1 (0 : Int32)))), .val (.int (own_step q2 q3 (own_step q1 q2 (own_step q0 q1 (0 : Int32))))), .val (.int (own_step q3 q4 (own_step q2 q3 (own_step q1 q2 (own_step q0 q1 (0 : Int32))))))] [(.int (1 : Int32))])
  refine own_by (fun _ k => XS.goto X135.here hx rfl (pc0 := 187) (pc' := 191) rfl (hb hby at_187) (by decide) (by decide) k) ?_
  show own_Go p e below _ T135 (mkF m 191 #[.val (.int p1), .val (.int p2), .val (.int p3), .val (.int p4), .val (.int q0), .val (.int q1), .val (.int q2), .val (.int q3), .val (.int q4), .val (.ref b125), .val (.int (0 : Int32)), .val (.int (own_step q0 q1 (0 : Int32))), .val (.int (own_step q1 q2 (own_step q0 q1 (0 : Int32)))), .val (.int (own_step q2 q3 (own_step q1 q2 (own_step q0 q1 (0 : Int32))))), .val (.int (own_step q3 q4 (own_step q2 q3 (own_step q1 q2 (own_step q0 q1 (0 : Int32)))))), .val (.int (0 : Int32)), .val (.int (own_step q0 q1 (0 : Int32))), .val (.int (own_step q1 q2 (own_step q0 q1 (0 : Int32)))), .val (.int (own_step q2 q3 (own_step q1 q2 (own_step q0 q1 (0 : Int32))))), .val (.int (own_step q3 q4 (own_step q2 q3 (own_step q1 q2 (own_step q0 q1 (0 : Int32))))))] [(.int (1 : Int32))])
  exact own_retN X135 hx hlk hret (by simp) rfl (hb hby at_191) (by first | exact ⟨rfl, N135⟩ | (rw [e135]; exact ⟨rfl, N135⟩)) (by decide) (by decide)
set_option maxRecDepth 65536 in
set_option maxHeartbeats 40000000 in
theorem comes_1 {Post : Tables → Env → Array Value → State → Outcome → State → Prop} (hpost : ∀ tb e args s v u, (limb_1_1.after args s (.returned v) u = true ∧ limb_1_2.after args s (.returned v) u = true ∧ True) → FrameEnd s (.returned v) u (Jvm.fieldLocs frame_1_writes args s ++ Jvm.arrayLocs frame_1_arrays args s ++ Jvm.staticLocs frame_1_statics s) 16 128 → Post tb e args s (.returned v) u) :
    ArmFor flags0 classFile x code maxLocals ret World_1 tables_1 room_1 Calls_1 rest_1 Pre_1 Post := by
  intro l hfl _ _ p e ha hc hk s m args below hf hA hF happ hP
  obtain ⟨hcalls, hrest, hpre⟩ := hP
  obtain ⟨-, -, -, hnamed, -, -, -, hat⟩ := (Spec.applies_iff hf).mp happ
  obtain ⟨hg, hn⟩ := and_e (Cond.before_iff.mp (show (Jvm.Cond.and given_1 narrow_1).before args s = true from hpre))
  obtain ⟨g1, g2⟩ := and_e hg
  obtain ⟨g3, g4⟩ := and_e g2
  obtain ⟨g5, g6⟩ := and_e g4
  obtain ⟨g7, g8⟩ := and_e g6
  obtain ⟨w0, w1, w2, w3, rfl⟩ : ∃ w0 w1 w2 w3 : Value, args = #[w0, w1, w2, w3] := by
    have hs : args.size = 4 := by simpa [Cond.value, given_1] using g1
    obtain ⟨L⟩ := args
    match L, hs with
    | [w0, w1, w2, w3], _ => exact ⟨w0, w1, w2, w3, rfl⟩
  have hw := fun d (hd : d ∈ tables_1) => atoms_spec (ws := Jvm.Cond.code x code maxLocals ret :: tables_1) hat d (List.mem_cons_of_mem _ hd)
  have hfit : Fit s := fun {y c} hc i hi => by
    obtain ⟨ha, rfl⟩ := Array.getElem?_eq_some_iff.mp hc
    have q := List.all_eq_true.mp ((Array.all_eq_true_iff_forall_mem.mp hF) _ (Array.getElem_mem ha)) i (List.mem_range.mpr hi)
    simpa [Array.getElem?_eq_getElem hi] using q
  obtain ⟨i0, ei0⟩ := is_v g3
  obtain rfl : w0 = (.int i0) := Option.some.inj ei0
  obtain ⟨i1, ei1⟩ := is_v g5
  obtain rfl : w1 = (.int i1) := Option.some.inj ei1
  obtain ⟨i2, ei2⟩ := is_v g7
  obtain rfl : w2 = (.int i2) := Option.some.inj ei2
  obtain ⟨i3, ei3⟩ := is_v g8
  obtain rfl : w3 = (.int i3) := Option.some.inj ei3
  obtain ⟨n, o, h1, h2, h3, _, L, rfl, ⟨rfl, N⟩, hq⟩ := rm0 l s _ hw tables_1 i0 i1 i2 i3 s.heap s.heap.size (Nat.le_refl _)  p e ha hc hk s m _ below hf ((Spec.applies_iff_loose hf).mp happ).1 ⟨rfl, State.Warmed39.refl s, rfl⟩ trivial
  refine ⟨n, _, h1, h2, h3, hpost _ _ _ _ _ _ ⟨Cond.after_iff.mpr rfl, Cond.after_iff.mpr (eq_i res_at (Term.int_eval (1)) rfl), trivial⟩ ⟨hq.1, hq.2.1, (hq.2.2.sift fun y hy => Or.inr (N y hy)).mono (by decide) (by decide)⟩⟩
theorem main_1_1 : Claimed_1_1 := comes_1 fun _ _ _ _ _ _ h hF => ⟨h.1, hF⟩
theorem main_1_2 : Claimed_1_2 := comes_1 fun _ _ _ _ _ _ h hF => ⟨h.2.1, hF⟩
end Jvm.Pilot.@@N@@
namespace Jvm.Pilot.@@N@@
open Jvm Jvm.ClassFile Sem Op Lib Jvm.Free Jvm.Stand Jvm.Pilot.@@N@@.Jvm.D
/-! MADE BY PROGRAM (witnessworld.py) out of the Statement's table words and the real class files: 9 classes; the members and pool entries that the words name. The judged class is class 1, her method 3. -/
namespace start1
open Jvm.ClassFile
def u (s : String) : CpInfo := .utf8 (stringToUtf16 s)
/-- a pool by its gaps: so many unusable entries, then the entry; so many at the end -/
def gap : Nat → List CpInfo → List CpInfo
  | 0, r => r
  | n + 1, r => .unusable :: gap n r
def poolList (es : List (Nat × CpInfo)) (last : Nat) : List CpInfo := es.foldr (fun e r => gap e.1 (e.2 :: r)) (gap last [])
def pool (es : List (Nat × CpInfo)) (last : Nat) : Array CpInfo := ⟨poolList es last⟩
def fileOf (pool : Array CpInfo) (this : Nat) (attrs : Array Attribute := #[]) (ms : Array MethodInfo := #[]) (fl : Nat := 33) (sup : Nat := 0) (ifs : Array Nat := #[]) (fds : Array FieldInfo := #[]) : ClassFile where
  minorVersion := 0
  majorVersion := 65
  constantPool := pool
  accessFlags := fl
  thisClass := this
  superClass := sup
  interfaces := ifs
  fields := fds
  methods := ms
  attributes := attrs
def plain (name : String) (sup : Option ClassId) : Class where
  name := name
  kind := .ordinary
  loader := none
  accessFlags := 33
  super := sup
  interfaces := #[]
  cf := none
  fields := #[]
  methods := #[]
  instanceTypes := #[]
  staticTypes := #[]
  resolved := #[]
  callSites := []
  init := .initialized
  statics := none
  mirror := none

def pool0 : Array CpInfo := pool [(5, u "<init>"), (0, u "()V"), (1, .class_ 10), (1, u "java/lang/Object")] 113

def k0c0 : Code := { maxStack := 0, maxLocals := 1, code := object_method_1_code, exceptionTable := #[], attributes := #[] }
def k0m0 : Method := { name := "<init>", desc := "()V", sig := { parameters := [], returnType := none }, accessFlags := 1, code := some k0c0 }
/-- java/lang/Object -/
def k0 : Class := { plain "java/lang/Object" none with
  accessFlags := 33
  interfaces := #[]
  cf := some (fileOf pool0 8 #[] #[{ accessFlags := 1, nameIndex := 5, descriptorIndex := 6, attributes := #[] }] 33 0 #[] #[])
  fields := #[]
  methods := #[k0m0]
  instanceTypes := #[]
  staticTypes := #[]
  resolved := Array.replicate 124 none
  statics := none }

def pool1 : Array CpInfo := pool [(2, .class_ 4), (0, .nameAndType 5 6), (0, u "java/lang/Object"), (0, u "<init>"), (0, u "()V"), (0, .methodref 8 9), (0, .class_ 10), (0, .nameAndType 11 12), (0, u "com/example/tolk/tolk/query/OccurrencesNextPinLaw"), (0, u "pick"), (0, u "(IIIII)I"), (0, .class_ 14), (0, u "com/example/tolk/tolk/query/Occurrences"), (0, .methodref 13 3), (0, .methodref 13 17), (0, .nameAndType 18 19), (0, u "next"), (0, u "(I)I"), (0, .methodref 8 21), (0, .nameAndType 22 23), (0, u "step"), (0, u "(III)I"), (3, u "law"), (0, u "(IIII)Z")] 2

def k1m0 : Method := { name := "<init>", desc := "()V", sig := { parameters := [], returnType := none }, accessFlags := 1, code := none }
def k1c1 : Code := { maxStack := 3, maxLocals := 6, code := method_2_code, exceptionTable := #[], attributes := #[] }
def k1m1 : Method := { name := "pick", desc := "(IIIII)I", sig := { parameters := [.int, .int, .int, .int, .int], returnType := some .int }, accessFlags := 10, code := some k1c1 }
def k1c2 : Code := { maxStack := 2, maxLocals := 3, code := method_3_code, exceptionTable := #[], attributes := #[] }
def k1m2 : Method := { name := "step", desc := "(III)I", sig := { parameters := [.int, .int, .int], returnType := some .int }, accessFlags := 10, code := some k1c2 }
def k1c3 : Code := { maxStack := 5, maxLocals := 20, code := code, exceptionTable := #[], attributes := #[] }
def k1m3 : Method := { name := "law", desc := "(IIII)Z", sig := { parameters := [.int, .int, .int, .int], returnType := some .boolean }, accessFlags := 9, code := some k1c3 }
/-- com/example/tolk/tolk/query/OccurrencesNextPinLaw -/
def k1 : Class := { plain "com/example/tolk/tolk/query/OccurrencesNextPinLaw" (some 0) with
  accessFlags := 49
  interfaces := #[]
  cf := some (fileOf pool1 8 #[] #[{ accessFlags := 1, nameIndex := 5, descriptorIndex := 6, attributes := #[] }, { accessFlags := 10, nameIndex := 11, descriptorIndex := 12, attributes := #[] }, { accessFlags := 10, nameIndex := 22, descriptorIndex := 23, attributes := #[] }, { accessFlags := 9, nameIndex := 27, descriptorIndex := 28, attributes := #[] }] 49 2 #[] #[])
  fields := #[]
  methods := #[k1m0, k1m1, k1m2, k1m3]
  instanceTypes := #[]
  staticTypes := #[]
  resolved := Array.replicate 31 none
  statics := none }

def pool2 : Array CpInfo := pool [(1, .methodref 2 3), (0, .class_ 4), (0, .nameAndType 5 6), (0, u "java/lang/Object"), (0, u "<init>"), (0, u "()V"), (0, .fieldref 8 9), (0, .class_ 10), (0, .nameAndType 11 12), (0, u "com/example/tolk/tolk/query/Occurrences"), (0, u "pass"), (0, u "I"), (0, .fieldref 8 14), (0, .nameAndType 15 12), (0, u "made"), (2, u "next"), (0, u "(I)I")] 3

def k2c0 : Code := { maxStack := 1, maxLocals := 1, code := prog_21_method_1_code, exceptionTable := #[], attributes := #[] }
def k2m0 : Method := { name := "<init>", desc := "()V", sig := { parameters := [], returnType := none }, accessFlags := 0, code := some k2c0 }
def k2c1 : Code := { maxStack := 4, maxLocals := 2, code := prog_21_method_2_code, exceptionTable := #[], attributes := #[] }
def k2m1 : Method := { name := "next", desc := "(I)I", sig := { parameters := [.int], returnType := some .int }, accessFlags := 0, code := some k2c1 }
/-- com/example/tolk/tolk/query/Occurrences -/
def k2 : Class := { plain "com/example/tolk/tolk/query/Occurrences" (some 0) with
  accessFlags := 48
  interfaces := #[]
  cf := some (fileOf pool2 8 #[] #[{ accessFlags := 0, nameIndex := 5, descriptorIndex := 6, attributes := #[] }, { accessFlags := 0, nameIndex := 18, descriptorIndex := 19, attributes := #[] }] 48 2 #[] #[{ accessFlags := 2, nameIndex := 11, descriptorIndex := 12, attributes := #[] }, { accessFlags := 2, nameIndex := 15, descriptorIndex := 12, attributes := #[] }])
  fields := #[{ name := "pass", type := .int, accessFlags := 2, slot := 0, constantValue := 0 }, { name := "made", type := .int, accessFlags := 2, slot := 1, constantValue := 0 }]
  methods := #[k2m0, k2m1]
  instanceTypes := #[.int, .int]
  staticTypes := #[]
  resolved := Array.replicate 23 none
  statics := none }

def pool3 : Array CpInfo := pool [(1, u "java/lang/Cloneable"), (0, .class_ 1), (0, u "java/lang/Object"), (0, .class_ 3)] 3

/-- java/lang/Cloneable -/
def k3 : Class := { plain "java/lang/Cloneable" (some 0) with
  accessFlags := 1537
  interfaces := #[]
  cf := some (fileOf pool3 2 #[] #[] 1537 4 #[] #[])
  fields := #[]
  methods := #[]
  instanceTypes := #[]
  staticTypes := #[]
  resolved := Array.replicate 8 none
  statics := none }

def pool4 : Array CpInfo := pool [(1, u "java/io/Serializable"), (0, .class_ 1), (0, u "java/lang/Object"), (0, .class_ 3)] 3

/-- java/io/Serializable -/
def k4 : Class := { plain "java/io/Serializable" (some 0) with
  accessFlags := 1537
  interfaces := #[]
  cf := some (fileOf pool4 2 #[] #[] 1537 4 #[] #[])
  fields := #[]
  methods := #[]
  instanceTypes := #[]
  staticTypes := #[]
  resolved := Array.replicate 8 none
  statics := none }

/-- the primitive byte -/
def k5 : Class := { plain "byte" none with kind := .primitive 'B', accessFlags := 0x411 }
/-- [B -/
def k6 : Class := { plain "[B" (some 0) with kind := .array 5 .byte, interfaces := #[3, 4], accessFlags := 1041 }

/-- the primitive int -/
def k7 : Class := { plain "int" none with kind := .primitive 'I', accessFlags := 0x411 }
/-- [I -/
def k8 : Class := { plain "[I" (some 0) with kind := .array 7 .int, interfaces := #[3, 4], accessFlags := 1041 }

def heap : Heap := #[]
def classes : Array Class := #[k0, k1, k2, k3, k4, k5, k6, k7, k8]
def interned : List (Array UInt16 × Addr) := []
def slotsUsed : Nat := 0
def theMethod : MethodId := ⟨1, 3⟩
def args0 : Array Value := #[.int 1, .int 2, .int 3, .int 4]
def aboutOver (below : List Frame) : State where
  vm := { classes := classes, interned := interned.toArray }
  heap := heap
  slotsUsed := slotsUsed
  threads := #[{ frames := .invoking theMethod args0 :: below }]
def below0 : List Frame := [.native { method := ⟨0, 0⟩, args := #[] }]
def about1 : State := aboutOver below0
def p0 : Program := .bare "" "" ""
def e0 : Env := launch0.env 0 0 0
theorem w_frames : about1.frames = Frame.invoking theMethod args0 :: below0 := rfl
set_option maxRecDepth 65536 in
theorem w_args : argsFit about1.vm theMethod args0 = true := by decide +kernel
set_option maxRecDepth 65536 in
theorem w_heap : heapFits about1 = true := by decide +kernel
set_option maxRecDepth 65536 in
theorem w_runnable : about1.curStatus? = some .runnable := by decide +kernel
set_option maxRecDepth 65536 in
theorem w_alone : about1.alone = true := by decide +kernel
set_option maxRecDepth 65536 in
theorem w_named : about1.methodNamed? x = some theMethod := by decide +kernel
set_option maxRecDepth 65536 in
theorem w_hears : about1.hears theMethod below0 = true := by decide +kernel
set_option maxRecDepth 65536 in
theorem w_ripe : about1.ripe theMethod args0 below0 = true := by decide +kernel
theorem w_running : about1.status = .running := rfl
set_option maxRecDepth 65536 in
theorem w_room : about1.hasRoom e0.platform room_1 = true :=
  launch0.hasRoom_least _ room_1 (by decide +kernel) (by decide +kernel) (by decide +kernel) (by decide +kernel) (by decide +kernel) (by decide +kernel)
theorem allAtoms_all (ts : List Jvm.Cond) (a : Array Jvm.Value) (st : Jvm.State) : (allAtoms ts).before a st = ts.all (fun c => c.before a st) := by
  induction ts with
  | nil => rfl
  | cons c t ih =>
    show (Jvm.Cond.and c (allAtoms t)).before a st = _
    rw [Jvm.Cond.before_and, ih, List.all_cons]
def words1 : List Jvm.Cond := Jvm.Cond.code x code maxLocals ret :: tables_1
/-- a 'code' word, met by the world's own term for the bytes: nothing is compared byte by byte -/
theorem code_word {y : MethodName} {bytes : ByteArray} {mx : Nat} {rt : Option FieldType} {a : Array Value} {s : State} {m : MethodId} {meth : Method} {c : Code} (h1 : s.methodNamed? y = some m) (h2 : s.vm.method? m = some meth) (h3 : meth.code = some c) (h4 : c.code = bytes)
    (h5 : (c.maxLocals == mx && c.exceptionTable.isEmpty && decide (c.maxStack ≤ mostOperands) && decide (meth.sig.returnType = rt) && !meth.locks && decide (parseMethodDescriptor y.desc = some meth.sig)) = true) : (Jvm.Cond.code y bytes mx rt).before a s = true := by
  simp only [Bool.and_eq_true, beq_iff_eq, Bool.not_eq_true', decide_eq_true_eq] at h5
  obtain ⟨⟨⟨⟨⟨g1, g2⟩, g3⟩, g4⟩, g5⟩, g6⟩ := h5
  simp [Cond.before, Cond.holds, Cond.value, h1, h2, h3, h4, g1, g2, g3, g4, g5, g6]
def isCode : Jvm.Cond → Bool
  | .code _ _ _ _ => true
  | _ => false
theorem all_split {L : List Jvm.Cond} {P : Jvm.Cond → Bool} (h1 : L.all (fun c => isCode c || P c) = true) (h2 : ∀ c ∈ L.filter isCode, P c = true) : L.all P = true := by
  refine List.all_eq_true.mpr fun c hc => ?_
  have h := List.all_eq_true.mp h1 c hc
  rcases Bool.eq_false_or_eq_true (isCode c) with hi | hi
  · exact h2 c (List.mem_filter.mpr ⟨hc, hi⟩)
  · simpa [hi] using h
set_option maxRecDepth 65536 in
theorem w_c0 : (Jvm.Cond.code x code maxLocals ret).before args0 about1 = true := code_word (m := ⟨1, 3⟩) (meth := k1m3) (c := k1c3) (by decide +kernel) rfl rfl rfl (by decide +kernel)
set_option maxRecDepth 65536 in
theorem w_c1 : (Jvm.Cond.code ({ cls := "com/example/tolk/tolk/query/OccurrencesNextPinLaw", name := "pick", desc := "(IIIII)I" } : Jvm.MethodName) method_2_code (6 : Nat) (Option.some Jvm.ClassFile.FieldType.int)).before args0 about1 = true := code_word (m := ⟨1, 1⟩) (meth := k1m1) (c := k1c1) (by decide +kernel) rfl rfl rfl (by decide +kernel)
set_option maxRecDepth 65536 in
theorem w_c2 : (Jvm.Cond.code ({ cls := "com/example/tolk/tolk/query/Occurrences", name := "<init>", desc := "()V" } : Jvm.MethodName) prog_21_method_1_code (1 : Nat) (Option.none : Option Jvm.ClassFile.FieldType)).before args0 about1 = true := code_word (m := ⟨2, 0⟩) (meth := k2m0) (c := k2c0) (by decide +kernel) rfl rfl rfl (by decide +kernel)
set_option maxRecDepth 65536 in
theorem w_c3 : (Jvm.Cond.code ({ cls := "java/lang/Object", name := "<init>", desc := "()V" } : Jvm.MethodName) object_method_1_code (1 : Nat) (Option.none : Option Jvm.ClassFile.FieldType)).before args0 about1 = true := code_word (m := ⟨0, 0⟩) (meth := k0m0) (c := k0c0) (by decide +kernel) rfl rfl rfl (by decide +kernel)
set_option maxRecDepth 65536 in
theorem w_c4 : (Jvm.Cond.code ({ cls := "com/example/tolk/tolk/query/Occurrences", name := "next", desc := "(I)I" } : Jvm.MethodName) prog_21_method_2_code (2 : Nat) (Option.some Jvm.ClassFile.FieldType.int)).before args0 about1 = true := code_word (m := ⟨2, 1⟩) (meth := k2m1) (c := k2c1) (by decide +kernel) rfl rfl rfl (by decide +kernel)
set_option maxRecDepth 65536 in
theorem w_c5 : (Jvm.Cond.code ({ cls := "com/example/tolk/tolk/query/OccurrencesNextPinLaw", name := "step", desc := "(III)I" } : Jvm.MethodName) method_3_code (3 : Nat) (Option.some Jvm.ClassFile.FieldType.int)).before args0 about1 = true := code_word (m := ⟨1, 2⟩) (meth := k1m2) (c := k1c2) (by decide +kernel) rfl rfl rfl (by decide +kernel)
def codes1 : List Jvm.Cond := [Jvm.Cond.code x code maxLocals ret, Jvm.Cond.code ({ cls := "com/example/tolk/tolk/query/OccurrencesNextPinLaw", name := "pick", desc := "(IIIII)I" } : Jvm.MethodName) method_2_code (6 : Nat) (Option.some Jvm.ClassFile.FieldType.int), Jvm.Cond.code ({ cls := "com/example/tolk/tolk/query/Occurrences", name := "<init>", desc := "()V" } : Jvm.MethodName) prog_21_method_1_code (1 : Nat) (Option.none : Option Jvm.ClassFile.FieldType), Jvm.Cond.code ({ cls := "java/lang/Object", name := "<init>", desc := "()V" } : Jvm.MethodName) object_method_1_code (1 : Nat) (Option.none : Option Jvm.ClassFile.FieldType), Jvm.Cond.code ({ cls := "com/example/tolk/tolk/query/Occurrences", name := "next", desc := "(I)I" } : Jvm.MethodName) prog_21_method_2_code (2 : Nat) (Option.some Jvm.ClassFile.FieldType.int), Jvm.Cond.code ({ cls := "com/example/tolk/tolk/query/OccurrencesNextPinLaw", name := "step", desc := "(III)I" } : Jvm.MethodName) method_3_code (3 : Nat) (Option.some Jvm.ClassFile.FieldType.int)]
set_option maxRecDepth 65536 in
theorem codes_eq : words1.filter isCode = codes1 := rfl
theorem w_codes : ∀ c ∈ words1.filter isCode, c.before args0 about1 = true := by
  rw [codes_eq]
  intro c hc
  simp only [codes1, List.mem_cons, List.not_mem_nil, or_false] at hc
  rcases hc with rfl | rfl | rfl | rfl | rfl | rfl
  · exact w_c0
  · exact w_c1
  · exact w_c2
  · exact w_c3
  · exact w_c4
  · exact w_c5
set_option maxRecDepth 65536 in
theorem w_t1 : (words1.take 24).all (fun c => isCode c || c.before args0 about1) = true := by decide +kernel
set_option maxRecDepth 65536 in
theorem w_t2 : (words1.drop 24).all (fun c => isCode c || c.before args0 about1) = true := by decide +kernel
theorem w_tables : (allAtoms (Jvm.Cond.code x code maxLocals ret :: tables_1)).before args0 about1 = true := by
  rw [allAtoms_all]
  show words1.all (fun c => c.before args0 about1) = true
  refine all_split ?_ w_codes
  rw [← List.take_append_drop 24 words1, List.all_append, w_t1, w_t2]
  rfl
set_option maxRecDepth 65536 in
theorem w_case : (Jvm.Cond.and given_1 narrow_1).before args0 about1 = true := by decide +kernel
theorem w_applies : (headSpec (Jvm.Cond.code x code maxLocals ret :: tables_1) room_1).applies x e0.platform about1 = true :=
  (Spec.applies_iff w_frames).mpr ⟨w_running, w_runnable, w_alone, w_named, w_hears, w_ripe, w_room, w_tables⟩
theorem atStart : AtStart classFile x code maxLocals ret World_1 tables_1 room_1 Calls_1 rest_1 Pre_1 launch0 p0 e0 about1 theMethod args0 below0 :=
  ⟨lists_1, trivial, launch0.admits_env _ _ _, launch0.least_env, fairChoices_fair.cas, fairChoices_fair.clock, w_frames, w_args, w_heap, w_applies, trivial, trivial, w_case⟩
end start1
theorem witness_1 : WitnessClaimed_1 := ⟨start1.p0, start1.e0, start1.about1, start1.theMethod, start1.args0, start1.below0, start1.atStart⟩
end Jvm.Pilot.@@N@@
