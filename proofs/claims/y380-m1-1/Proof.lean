import JvmDerived
import JvmDerived.Pilot.@@N@@Statement
import JvmDerived.Pilot.@@N@@Code
set_option linter.unusedVariables false
set_option linter.unusedSimpArgs false
namespace Jvm.Pilot.@@N@@
open Jvm Jvm.ClassFile Sem Op Lib Jvm.Free Jvm.Stand Jvm.LawKit Jvm.RoadKit Bundle Jvm.Pilot.@@N@@.Jvm.D
section OwnKit
variable {p : Program} {l : Launch} {e : Env} {R : Room} {s : State} {m : MethodId} {args : Array Value} {below : List Frame} {meth : Method} {c : Code} {T T' : State} {locs : List Loc} {cells slots : Nat} {Z : State} {a0 : Array Value} {h : Heap}
/-- from here the run comes to an end of which E speaks -/
def own_Go (p : Program) (e : Env) (below : List Frame) (E : State → Outcome → Prop) (T : State) (g : JFrame) : Prop :=
  ∃ t o, Steps p.tables e below (T.setTop g) t ∧ t.status = .running ∧ Ended t below o ∧ E t o
def own_End (s : State) (k n : Nat) (Q : Option Value → Heap → List Loc → Prop) (t : State) (o : Outcome) : Prop :=
  ∃ v L, o = .returned v ∧ Q v t.heap L ∧ FrameEnd s o t L k n
theorem own_by {E : State → Outcome → Prop} {g g' : JFrame} (st : ∀ target, Steps p.tables e below (T'.setTop g') target → Steps p.tables e below (T.setTop g) target) (k : own_Go p e below E T' g') : own_Go p e below E T g := by
  obtain ⟨t, o, h1, r⟩ := k
  exact ⟨t, o, st t h1, r⟩
theorem own_retW (X : Stand p l e R s m args below meth c T locs cells slots) (hx : p.tables.exec = Jvm.exec) (hlk : meth.locks = false) {pc : Nat} {Ls : Array Slot} {w : Value} {t : FieldType} {i : Instr} {rest : List Value} (hret : meth.sig.returnType = some t) (hn : narrow t w = w)
    (hi : (i = .ireturn ∧ (t = .int ∨ t = .boolean ∨ t = .byte ∨ t = .char ∨ t = .short) ∧ ∃ z, w = .int z) ∨ (i = .lreturn ∧ t = .long ∧ ∃ z, w = .long z) ∨ (i = .dreturn ∧ t = .double ∧ ∃ z, w = .double z) ∨ (i = .freturn ∧ t = .float ∧ ∃ z, w = .float z) ∨ (i = .areturn ∧ t.isReference = true ∧ w.isRef = true))
    (hd : decode c.code pc = .ok (i, 1)) {Q : Option Value → Heap → List Loc → Prop} {k n : Nat} (hQ : Q (some w) T.heap locs) (hk : cells ≤ k) (hs : slots ≤ n) : own_Go p e below (own_End s k n Q) T (mkF m pc Ls (w :: rest)) := by
  obtain ⟨fs, hr, hrun, hended, hW, hsame⟩ := X.leave (v := some w) (fun h => by rw [hret] at h; cases h) hlk
  exact ⟨_, _, retOut X hx hret hn hi hd hr, hrun, hended, _, _, rfl, hQ, ⟨_, rfl⟩, hW, hsame.mono hk hs⟩
theorem own_retI (X : Stand p l e R s m args below meth c T locs cells slots) (hx : p.tables.exec = Jvm.exec) (hlk : meth.locks = false) {pc : Nat} {Ls : Array Slot} {z : Int32} {rest : List Value} (hret : meth.sig.returnType = some .int) (hd : decode c.code pc = .ok (.ireturn, 1)) {Q : Option Value → Heap → List Loc → Prop} {k n : Nat} (hQ : Q (some (.int z)) T.heap locs) (hk : cells ≤ k) (hs : slots ≤ n) : own_Go p e below (own_End s k n Q) T (mkF m pc Ls (.int z :: rest)) :=
  own_retW X hx hlk hret rfl (Or.inl ⟨rfl, Or.inl rfl, z, rfl⟩) hd hQ hk hs
theorem own_retJ (X : Stand p l e R s m args below meth c T locs cells slots) (hx : p.tables.exec = Jvm.exec) (hlk : meth.locks = false) {pc : Nat} {Ls : Array Slot} {z : Int64} {rest : List Value} (hret : meth.sig.returnType = some .long) (hd : decode c.code pc = .ok (.lreturn, 1)) {Q : Option Value → Heap → List Loc → Prop} {k n : Nat} (hQ : Q (some (.long z)) T.heap locs) (hk : cells ≤ k) (hs : slots ≤ n) : own_Go p e below (own_End s k n Q) T (mkF m pc Ls (.long z :: rest)) :=
  own_retW X hx hlk hret rfl (Or.inr (Or.inl ⟨rfl, rfl, z, rfl⟩)) hd hQ hk hs
theorem own_retA (X : Stand p l e R s m args below meth c T locs cells slots) (hx : p.tables.exec = Jvm.exec) (hlk : meth.locks = false) {pc : Nat} {Ls : Array Slot} {w : Value} {t : FieldType} {rest : List Value} (hret : meth.sig.returnType = some t) (ht : t.isReference = true) (hw : w.isRef = true) (hd : decode c.code pc = .ok (.areturn, 1)) {Q : Option Value → Heap → List Loc → Prop} {k n : Nat} (hQ : Q (some w) T.heap locs) (hk : cells ≤ k) (hs : slots ≤ n) : own_Go p e below (own_End s k n Q) T (mkF m pc Ls (w :: rest)) :=
  own_retW X hx hlk hret (by cases t <;> first | (cases ht; done) | (cases w <;> first | rfl | (cases hw; done))) (Or.inr (Or.inr (Or.inr (Or.inr ⟨rfl, ht, hw⟩)))) hd hQ hk hs
theorem own_retN (X : Stand p l e R s m args below meth c T locs cells slots) (hx : p.tables.exec = Jvm.exec) (hlk : meth.locks = false) {pc : Nat} {Ls : Array Slot} {z : Int32} {t : FieldType} {rest : List Value} (hret : meth.sig.returnType = some t) (ht : t = .boolean ∨ t = .byte ∨ t = .char ∨ t = .short) (hn : nar t z = z) (hd : decode c.code pc = .ok (.ireturn, 1)) {Q : Option Value → Heap → List Loc → Prop} {k n : Nat} (hQ : Q (some (.int z)) T.heap locs) (hk : cells ≤ k) (hs : slots ≤ n) : own_Go p e below (own_End s k n Q) T (mkF m pc Ls (.int z :: rest)) :=
  own_retW X hx hlk hret (by rcases ht with rfl | rfl | rfl | rfl <;> exact congrArg Value.int hn) (Or.inl ⟨rfl, Or.inr ht, z, rfl⟩) hd hQ hk hs
theorem own_ret0 (X : Stand p l e R s m args below meth c T locs cells slots) (hx : p.tables.exec = Jvm.exec) (hlk : meth.locks = false) {pc : Nat} {Ls : Array Slot} (hret : meth.sig.returnType = none) (hd : decode c.code pc = .ok (.return_, 1)) {Q : Option Value → Heap → List Loc → Prop} {k n : Nat} (hQ : Q none T.heap locs) (hk : cells ≤ k) (hs : slots ≤ n) : own_Go p e below (own_End s k n Q) T (mkF m pc Ls []) := by
  obtain ⟨fs, hr, hrun, hended, hW, hsame⟩ := X.leave (v := none) (fun _ => rfl) hlk
  exact ⟨_, _, X.returnOut hx hret hd hr, hrun, hended, _, _, rfl, hQ, ⟨_, rfl⟩, hW, hsame.mono hk hs⟩
theorem own_lrem {g : JFrame} {target : State} (X : Stand p l e R s m args below meth c T locs cells slots) (hx : p.tables.exec = Jvm.exec) (hg : g.method = m) {x y : Int64} {rest : List Value} (hd : decode c.code g.pc = .ok (.lrem, 1)) (hs : g.stack = .long y :: .long x :: rest) (hy : y ≠ 0)
    (hr : Steps p.tables e below (T.setTop { g with pc := g.pc + 1, stack := .long (x % y) :: rest }) target) : Steps p.tables e below (T.setTop g) target :=
  XS.lrem X.here hx hg hd hs hy (by rw [lrem_mod]; exact hr)
/-- a body's contract: called with as' at the heap h it returns, and Q speaks of what it returns, the heap that it leaves and the places that it wrote -/
abbrev own_Met (l : Launch) (Z : State) (y : MethodName) (bytes : ByteArray) (maxL : Nat) (rt : Option FieldType) (ws : List Jvm.Cond) (rm : Room) (as' : Array Value) (h : Heap) (Q : Option Value → Heap → List Loc → Prop) : Prop :=
  MetFree l y (head1 (Jvm.Cond.code y bytes maxL rt :: ws) rm) (fun a U => a = as' ∧ Z.Warmed39 U.vm ∧ U.heap = h) (fun _ _ _ _ _ => True) (fun _ U o U' => ∃ v L, o = .returned v ∧ Q v U'.heap L ∧ FrameEnd U o U' L rm.cells rm.slots)
theorem own_enter {y : MethodName} {bytes : ByteArray} {maxL : Nat} {rt : Option FieldType} {ws : List Jvm.Cond} {rm : Room} {as' : Array Value} {Q : Option Value → Heap → List Loc → Prop} (hy : plainFor y = true) {g0 : MethodId → JFrame} (hg0 : ∀ m, entryFrame m as' maxL = g0 m)
    (body : ∀ (p : Program) (e : Env) (s : State) (m : MethodId) (below : List Frame) (meth : Method) (c : Code) (s₁ : State), p.tables.exec = Jvm.exec → c.code = bytes → c.maxLocals = maxL → s.vm.findClass y.cls = some m.cls → meth.name = y.name → meth.sig.returnType = rt → meth.locks = false → Z.Warmed39 s.vm → Stand p l e rm s m as' below meth c s₁ [] 0 0 → s₁.heap = h → own_Go p e below (own_End s rm.cells rm.slots Q) s₁ (g0 m)) :
    own_Met l Z y bytes maxL rt ws rm as' h Q := by
  refine MetFree.of_bodySF hy hisR ?_
  intro p e s m args below meth c s₁ Bd hml0 hP hK
  obtain ⟨rfl, hZ, hh⟩ := hP
  obtain ⟨t, o, h1, h2, h3, h4⟩ := body p e s m below meth c s₁ Bd.exec Bd.bytes hml0 (findClass_of_methodNamed Bd.named) (name_of_methodNamed Bd.named Bd.method).1 Bd.returns (BodyLoose.notSynchronized Bd) hZ (Stand.of_body Bd) (by rw [← hh, Bd.state]; rfl)
  exact ⟨t, o, castTop (hg0 m) h1, h2, h3, h4⟩
theorem own_callS (X : Stand p l e R s m args below meth c T locs cells slots) (hx : p.tables.exec = Jvm.exec) (hZ : Z.Warmed39 s.vm) {own : String} (hown : s.vm.findClass own = some m.cls) {index : Nat} {y : MethodName} {bytes : ByteArray} {maxL : Nat} {rt : Option FieldType}
    (w1 : (Jvm.Cond.methodLink own index y).before a0 Z = true) (w2 : (Jvm.Cond.static y).before a0 Z = true) (w3 : (Jvm.Cond.initialized y.cls).before a0 Z = true) (w4 : (Jvm.Cond.code y bytes maxL rt).before a0 Z = true)
    (hy : y.cls ≠ "java/lang/invoke/MethodHandle" ∧ y.cls ≠ "java/lang/invoke/VarHandle") {rm : Room} {argsL rest : List Value} {Q : Option Value → Heap → List Loc → Prop} (eT : T.heap = h) (hM : own_Met l Z y bytes maxL rt [] rm argsL.toArray h Q)
    {g : JFrame} (hg : g.method = m) (hsize : g.locals.size = c.maxLocals) (hlen : ∀ sig, parseMethodDescriptor y.desc = some sig → argsL.length = sig.parameters.length) (hstack : g.stack = argsL.reverse ++ rest) {W : Nat} (hW : 2 * g.monitorRoom + (rest.map fun v => v.category).sum ≤ W) (hd : decode c.code g.pc = .ok (.invokestatic index, 3))
    (hf : rm.frames + 1 ≤ R.frames) (hl : W + (maxL + 11) + rm.locals ≤ R.locals) (hc : cells + rm.cells ≤ R.cells) (hs : slots + rm.slots ≤ R.slots) :
    ∃ v T' L, Stand p l e R s m args below meth c T' (locs ++ L) (cells + rm.cells) (slots + rm.slots) ∧ Q v T'.heap L ∧ ∀ target, Steps p.tables e below (T'.setTop { g with pc := g.pc + 3, stack := v.toList ++ rest }) target → Steps p.tables e below (T.setTop g) target := by
  obtain ⟨v, _, ⟨T1, L1, k1, n1⟩, -, X1, ⟨Lc, hQ, l1, y1, z1⟩, st⟩ := Jvm.LawKit.callS X hx (y := y) hown (mvT hZ w1) (mvT hZ w2) (mvT hZ w3) (mvT hZ w4) hy (backOf (W := W) hM hZ w4 w3 hf hl) (g := g) hg hsize (argsL := argsL) (rest := rest) hlen hstack hW hd (fun _ _ => ⟨rfl, eT, hc, hs⟩)
  dsimp only [Pt.U, Pt.locs, Pt.cells, Pt.slots] at X1 l1 y1 z1 st hQ
  subst l1 y1 z1
  exact ⟨v, T1, Lc, X1, hQ, st⟩
theorem own_callI (X : Stand p l e R s m args below meth c T locs cells slots) (hx : p.tables.exec = Jvm.exec) (hZ : Z.Warmed39 s.vm) {own : String} (hown : s.vm.findClass own = some m.cls) {index : Nat} {y : MethodName} {bytes : ByteArray} {maxL : Nat} (hy1 : y.name = "<init>")
    (w1 : (Jvm.Cond.methodLink own index y).before a0 Z = true) (w2 : (Jvm.Cond.instanceMethod y).before a0 Z = true) (w3 : (Jvm.Cond.initialized y.cls).before a0 Z = true) (w4 : (Jvm.Cond.code y bytes maxL none).before a0 Z = true)
    (hy : y.cls ≠ "java/lang/invoke/MethodHandle" ∧ y.cls ≠ "java/lang/invoke/VarHandle") {rm : Room} {a : Addr} {argsL rest : List Value} {Q : Option Value → Heap → List Loc → Prop} (eT : T.heap = h) (hM : own_Met l Z y bytes maxL none [] rm (.ref a :: argsL).toArray h Q)
    {g : JFrame} (hg : g.method = m) (hsize : g.locals.size = c.maxLocals) (hlen : ∀ sig, parseMethodDescriptor y.desc = some sig → argsL.length = sig.parameters.length) (hstack : g.stack = argsL.reverse ++ .ref a :: rest) {W : Nat} (hW : 2 * g.monitorRoom + (rest.map fun v => v.category).sum ≤ W) (hd : decode c.code g.pc = .ok (.invokespecial index, 3))
    (hf : rm.frames + 1 ≤ R.frames) (hl : W + (maxL + 11) + rm.locals ≤ R.locals) (hc : cells + rm.cells ≤ R.cells) (hs : slots + rm.slots ≤ R.slots) :
    ∃ v T' L, Stand p l e R s m args below meth c T' (locs ++ L) (cells + rm.cells) (slots + rm.slots) ∧ Q v T'.heap L ∧ ∀ target, Steps p.tables e below (T'.setTop { g with pc := g.pc + 3, stack := v.toList ++ rest }) target → Steps p.tables e below (T.setTop g) target := by
  obtain ⟨v, _, ⟨T1, L1, k1, n1⟩, -, X1, ⟨Lc, hQ, l1, y1, z1⟩, st⟩ := X.specialBack hx (y := y) hy1 hown (mvT hZ w1) (mvT hZ w2) (mvT hZ w4) hy (backOf (W := W) hM hZ w4 w3 hf hl) (g := g) hg hsize (Steps.refl _) (a := a) (argsL := argsL) (rest := rest) hlen hstack hW hd (fun _ _ => ⟨rfl, eT, hc, hs⟩)
  dsimp only [Pt.U, Pt.locs, Pt.cells, Pt.slots] at X1 l1 y1 z1 st hQ
  subst l1 y1 z1
  exact ⟨v, T1, Lc, X1, hQ, fun _ k => st.trans k⟩
theorem own_callV (X : Stand p l e R s m args below meth c T locs cells slots) (hx : p.tables.exec = Jvm.exec) (hZ : Z.Warmed39 s.vm) {own C : String} (hown : s.vm.findClass own = some m.cls) {index : Nat} {y : MethodName} {bytes : ByteArray} {maxL : Nat} {rt : Option FieldType}
    (w1 : (Jvm.Cond.methodLink own index y).before a0 Z = true) (w2 : (Jvm.Cond.declares y).before a0 Z = true) (w5 : (Jvm.Cond.selects C y y).before a0 Z = true) (w6 : (Jvm.Cond.instanceMethod y).before a0 Z = true) (w3 : (Jvm.Cond.initialized y.cls).before a0 Z = true) (w4 : (Jvm.Cond.code y bytes maxL rt).before a0 Z = true)
    (hy : y.cls ≠ "java/lang/invoke/MethodHandle" ∧ y.cls ≠ "java/lang/invoke/VarHandle") {rm : Room} {a : Addr} {argsL rest : List Value} {Q : Option Value → Heap → List Loc → Prop} (hE : Exa Z h a C) (eT : T.heap = h) (hM : own_Met l Z y bytes maxL rt [] rm (.ref a :: argsL).toArray h Q)
    {g : JFrame} (hg : g.method = m) (hsize : g.locals.size = c.maxLocals) (hlen : ∀ sig, parseMethodDescriptor y.desc = some sig → argsL.length = sig.parameters.length) (hstack : g.stack = argsL.reverse ++ .ref a :: rest) {W : Nat} (hW : 2 * g.monitorRoom + (rest.map fun v => v.category).sum ≤ W) (hd : decode c.code g.pc = .ok (.invokevirtual index, 3))
    (hf : rm.frames + 1 ≤ R.frames) (hl : W + (maxL + 11) + rm.locals ≤ R.locals) (hc : cells + rm.cells ≤ R.cells) (hs : slots + rm.slots ≤ R.slots) (hC : C = y.cls := by rfl) :
    ∃ v T' L, Stand p l e R s m args below meth c T' (locs ++ L) (cells + rm.cells) (slots + rm.slots) ∧ Q v T'.heap L ∧ ∀ target, Steps p.tables e below (T'.setTop { g with pc := g.pc + 3, stack := v.toList ++ rest }) target → Steps p.tables e below (T.setTop g) target := by
  subst hC
  obtain ⟨_, _, qa, -, qc⟩ := isOf hZ eT hE
  obtain ⟨v, _, ⟨T1, L1, k1, n1⟩, -, X1, ⟨Lc, hQ, l1, y1, z1⟩, st⟩ := X.virtualBack hx (y := y) (z := y) hown (mvT hZ w1) (mvT hZ w2) (notFace_of_selects (args := #[]) (mvT hZ w5)) (mvT hZ w5) (mvT hZ w6) hy (backOf (W := W) hM hZ w4 w3 hf hl) qa qc (g := g) hg hsize (Steps.refl _) (argsL := argsL) (rest := rest) hlen hstack hW hd (fun _ _ => ⟨rfl, eT, hc, hs⟩)
  dsimp only [Pt.U, Pt.locs, Pt.cells, Pt.slots] at X1 l1 y1 z1 st hQ
  subst l1 y1 z1
  exact ⟨v, T1, Lc, X1, hQ, fun _ k => st.trans k⟩
theorem own_callU (X : Stand p l e R s m args below meth c T locs cells slots) (hx : p.tables.exec = Jvm.exec) (hZ : Z.Warmed39 s.vm) {own C owner : String} (hown : s.vm.findClass own = some m.cls) {index : Nat} {x y : MethodName} {bytes : ByteArray} {maxL : Nat} {rt : Option FieldType}
    (w1 : (Jvm.Cond.methodLink own index x).before a0 Z = true) (w7 : (Jvm.Cond.sameMethod x.cls owner x.name x.desc).before a0 Z = true) (w2 : (Jvm.Cond.declares ⟨owner, x.name, x.desc⟩).before a0 Z = true) (hy : owner ≠ "java/lang/invoke/MethodHandle" ∧ owner ≠ "java/lang/invoke/VarHandle") (w5 : (Jvm.Cond.selects C x y).before a0 Z = true) (w6 : (Jvm.Cond.instanceMethod y).before a0 Z = true) (w3 : (Jvm.Cond.initialized y.cls).before a0 Z = true) (w4 : (Jvm.Cond.code y bytes maxL rt).before a0 Z = true)
    {rm : Room} {a : Addr} {argsL rest : List Value} {Q : Option Value → Heap → List Loc → Prop} (hE : Exa Z h a C) (eT : T.heap = h) (hM : own_Met l Z y bytes maxL rt [] rm (.ref a :: argsL).toArray h Q)
    {g : JFrame} (hg : g.method = m) (hsize : g.locals.size = c.maxLocals) (hlen : ∀ sig, parseMethodDescriptor x.desc = some sig → argsL.length = sig.parameters.length) (hstack : g.stack = argsL.reverse ++ .ref a :: rest) {W : Nat} (hW : 2 * g.monitorRoom + (rest.map fun v => v.category).sum ≤ W) (hd : decode c.code g.pc = .ok (.invokevirtual index, 3))
    (hf : rm.frames + 1 ≤ R.frames) (hl : W + (maxL + 11) + rm.locals ≤ R.locals) (hc : cells + rm.cells ≤ R.cells) (hs : slots + rm.slots ≤ R.slots) :
    ∃ v T' L, Stand p l e R s m args below meth c T' (locs ++ L) (cells + rm.cells) (slots + rm.slots) ∧ Q v T'.heap L ∧ ∀ target, Steps p.tables e below (T'.setTop { g with pc := g.pc + 3, stack := v.toList ++ rest }) target → Steps p.tables e below (T.setTop g) target := by
  obtain ⟨_, _, qa, -, qc⟩ := isOf hZ eT hE
  obtain ⟨v, _, ⟨T1, L1, k1, n1⟩, -, X1, ⟨Lc, hQ, l1, y1, z1⟩, st⟩ := X.virtualBackUp hx (x := x) (y := y) hown (mvT hZ w1) (mvT hZ w7) (mvT hZ w2) hy (mvT hZ w5) (mvT hZ w6) (backOf (W := W) hM hZ w4 w3 hf hl) qa qc (g := g) hg hsize (Steps.refl _) (argsL := argsL) (rest := rest) hlen hstack hW hd (fun _ _ => ⟨rfl, eT, hc, hs⟩)
  dsimp only [Pt.U, Pt.locs, Pt.cells, Pt.slots] at X1 l1 y1 z1 st hQ
  subst l1 y1 z1
  exact ⟨v, T1, Lc, X1, hQ, fun _ k => st.trans k⟩
theorem own_arv {a : Addr} {k : ClassId} {ty : FieldType} {z : Int32} {vs : List Value} {dv : Value} (V : Arv Z h a k ty z vs dv) {j : Int32} (q : ¬ j < 0 ∧ j < z) :
    ∃ cl : Cell, Arr Z h a cl ty ∧ cl.cls = k ∧ ¬ (j < 0 ∨ cl.slots.size ≤ j.toNatClampNeg) ∧ cl.slots[j.toNatClampNeg]? = some (vs.getD j.toNatClampNeg dv) ∧ ∀ {h' : Heap} {v : Value}, fits ty v = true → Wr h h' a j.toNatClampNeg v → ∀ i, j.toNatClampNeg = i → i < vs.length → Arv Z h' a k ty z (vs.set i v) dv := by
  obtain ⟨cl, A, q1, S, q3, H, G⟩ := V
  have hin := inb_of S q
  exact ⟨cl, A, q1, hin, Has.at H hin rfl, fun hf W i hj hi => Arv.set A q1 S q3 H G hf W i hj hi⟩
theorem own_len {a : Addr} {k : ClassId} {ty : FieldType} {z : Int32} {vs : List Value} {dv : Value} (V : Arv Z h a k ty z vs dv) : ∃ cl : Cell, Arr Z h a cl ty ∧ cl.slots.size.toInt32 = z := by
  obtain ⟨cl, A, q1, S, q3, -⟩ := V
  exact ⟨cl, A, len_of S q3⟩
theorem own_sta {C f d K : String} (hx : (Jvm.Cond.exactly (.static C f d) K).value args s none s [] = some true) (w1 : (Jvm.Cond.initialized C).before args s = true) (w2 : (Jvm.Cond.laysStatic C f d).before args s = true) :
    ∃ a, (Term.static C f d).eval args s none [] s = some (.ref a) ∧ Sta s s.heap C f d (.ref a) ∧ Exa s s.heap a K := by
  obtain ⟨a, ev⟩ := exa_v hx
  exact ⟨a, ev, Sta.start ev (Or.inr ⟨w1, w2⟩), Exa.start ev hx⟩
theorem own_fldI {t : Term} {C f d : String} {a : Addr} {k : Int32} (ev : t.eval args s none [] s = some (.ref a)) (hx : (Jvm.Cond.eq (.field t C f d) (.int k)).value args s none s [] = some true) : Fld s s.heap a C f d (.int k) := by
  obtain ⟨v, w, e1, e2, k1, k2⟩ := cmp_v (Or.inl hx)
  obtain rfl : w = .int k := Option.some.inj (e2.symm.trans (Term.int_eval k))
  obtain ⟨z, rfl⟩ : ∃ z, v = .int z := k2
  have q : z = k := by simpa [Cond.value, e1, e2] using hx
  subst q
  exact Fld.start (by rw [← fld_at ev]; exact e1)
theorem own_neS {t u : Term} {a b : Addr} (ea : t.eval args s none [] s = some (.ref a)) (eb : u.eval args s none [] s = some (.ref b)) (hx : (Jvm.Cond.not (.eq t u)).value args s none s [] = some true) : a ≠ b := fun q =>
  gotF (eq_R ea eb rfl rfl) (not_v hx) (congrArg Value.ref q)
theorem own_staK {C f d : String} {v : Value} {h' : Heap} {ws : List Addr} (S : Sta Z h C f d v) (K : Keep h h' ws) (q : ∀ x ∈ ws, ∀ cell : Cell, h[x]? = some cell → cell.vm.isStatics = false) : Sta Z h' C f d v := by
  obtain ⟨cf, i, k, fl, st, cell, h1, h2, h3, h4, h5, h6, h7⟩ := S
  refine ⟨cf, i, k, fl, st, cell, h1, h2, h3, h4, K.2.1 st cell h5 (fun hm => ?_), h6, h7⟩
  have := q st hm cell h5
  rw [h6] at this
  cases this
end OwnKit
theorem own_five (x : Int32) : (x &&& 2147483647) % 5 = 0 ∨ (x &&& 2147483647) % 5 = 1 ∨ (x &&& 2147483647) % 5 = 2 ∨ (x &&& 2147483647) % 5 = 3 ∨ (x &&& 2147483647) % 5 = 4 := by
  have h := c_mask x 2147483647 31 (by decide) (by decide)
  have h0 : 0 ≤ (x &&& 2147483647).toInt := by rw [h]; omega
  have h5 := (c_irem (x &&& 2147483647) 5 5 rfl).1 h0
  have e : ∀ k : Int32, ((x &&& 2147483647) % 5).toInt = k.toInt → (x &&& 2147483647) % 5 = k := fun k q => Int32.toInt_inj.mp q
  have c : ((x &&& 2147483647) % 5).toInt = 0 ∨ ((x &&& 2147483647) % 5).toInt = 1 ∨ ((x &&& 2147483647) % 5).toInt = 2 ∨ ((x &&& 2147483647) % 5).toInt = 3 ∨ ((x &&& 2147483647) % 5).toInt = 4 := by omega
  rcases c with c | c | c | c | c
  · exact Or.inl (e 0 c)
  · exact Or.inr (Or.inl (e 1 c))
  · exact Or.inr (Or.inr (Or.inl (e 2 c)))
  · exact Or.inr (Or.inr (Or.inr (Or.inl (e 3 c))))
  · exact Or.inr (Or.inr (Or.inr (Or.inr (e 4 c))))
def Q_rm2 (Z : State) (a1 : Addr) (w1 : Int32) (h0 : Heap) (n0 : Nat) (v : Option Value) (h : Heap) (L : List Loc) : Prop := v = some (.int w1) ∧ Fr n0 L ∧ h = h0
theorem pn_rm2 : plainFor (⟨"java/lang/Enum", "ordinal", "()I"⟩ : MethodName) = true := plainFor_of_name (by first | (simp [plainName, overriddenIn, x]; done) | decide +kernel)
theorem d2_0 : decode jdk_37_method_2_code 0 = .ok (.aload_n 0, 1) := by decide +kernel
theorem d2_1 : decode jdk_37_method_2_code 1 = .ok (.getfield 7, 3) := by decide +kernel
theorem d2_4 : decode jdk_37_method_2_code 4 = .ok (.ireturn, 1) := by decide +kernel
set_option maxRecDepth 65536 in
set_option maxHeartbeats 40000000 in
theorem rm2 (l : Launch) (Z : State) (a0 : Array Value) (hw : ∀ d ∈ tables_1, d.before a0 Z = true) (ws : List Jvm.Cond) (a1 : Addr) (w1 : Int32) (h0 : Heap) (n0 : Nat) (Z0 : n0 ≤ h0.size) (F1 : Fld Z h0 a1 "java/lang/Enum" "ordinal" "I" (.int w1)) :
    own_Met l Z (⟨"java/lang/Enum", "ordinal", "()I"⟩ : MethodName) jdk_37_method_2_code 1 (some .int) ws ({ frames := 0, cells := 0, slots := 0, locals := 0 } : Room) #[(.ref a1)] h0 (Q_rm2 Z a1 w1 h0 n0) := by
  refine own_enter (g0 := fun m => (mkF m 0 #[.val (.ref a1)] [])) pn_rm2 (fun m => by first | rfl | (simp [entryFrame, mkF, argsToLocals, Value.category, maxLocals]; done)) ?_
  intro p e s m below meth c s₁ hx hby hml hown hnm hret hlk hZ X0 e0
  have hml : c.maxLocals = 1 := hml
  have hown : s.vm.findClass "java/lang/Enum" = some m.cls := hown
  have N0 := Fr.nil n0
  show own_Go p e below _ s₁ (mkF m 0 #[.val (.ref a1)] [])
  refine own_by (fun _ k => XS.aloadN X0.here hx rfl (hb hby d2_0) rfl rfl k) ?_
  show own_Go p e below _ s₁ (mkF m 1 #[.val (.ref a1)] [(.ref a1)])
  obtain ⟨T101, X101, e101, st101⟩ := getF X0 hx hZ hown (host := "") (Or.inl (hw _ (List.mem_of_getElem? (i := 16) rfl))) Via.refl e0 F1 (g := (mkF m 1 #[.val (.ref a1)] [(.ref a1)])) rfl rfl (hb hby d2_1)
  refine own_by st101 ?_
  show own_Go p e below _ T101 (mkF m 4 #[.val (.ref a1)] [(.int w1)])
  exact own_retI X101 hx hlk hret  (hb hby d2_4) (by first | exact ⟨rfl, N0, rfl⟩ | (rw [e101]; exact ⟨rfl, N0, rfl⟩)) (by decide) (by decide)
def Q_rm1_0 (Z : State) (a1 : Addr) (h0 : Heap) (n0 : Nat) (v : Option Value) (h : Heap) (L : List Loc) : Prop := v = some (.int (2 : Int32)) ∧ Fr n0 L ∧ h = h0
theorem pn_rm1_0 : plainFor (⟨"com/example/tabularium/tabularium/archive/Outcome", "exitStatus", "()I"⟩ : MethodName) = true := plainFor_of_name (by first | (simp [plainName, overriddenIn, x]; done) | decide +kernel)
theorem d1_0 : decode prog_15_method_6_code 0 = .ok (.aload_n 0, 1) := by decide +kernel
theorem pd_0 : parseMethodDescriptor "()I" = some ⟨[], some .int⟩ := by decide +kernel
theorem d1_1 : decode prog_15_method_6_code 1 = .ok (.invokevirtual 51, 3) := by decide +kernel
theorem d1_4 : decode prog_15_method_6_code 4 = .ok (.tableswitch 32 1 3 #[28, 28, 30], 28) := by decide +kernel
theorem d1_36 : decode prog_15_method_6_code 36 = .ok (.iconst 2, 1) := by decide +kernel
theorem d1_37 : decode prog_15_method_6_code 37 = .ok (.ireturn, 1) := by decide +kernel
set_option maxRecDepth 65536 in
set_option maxHeartbeats 40000000 in
theorem rm1_0 (l : Launch) (Z : State) (a0 : Array Value) (hw : ∀ d ∈ tables_1, d.before a0 Z = true) (ws : List Jvm.Cond) (a1 : Addr) (h0 : Heap) (n0 : Nat) (Z0 : n0 ≤ h0.size) (E1 : Exa Z h0 a1 "com/example/tabularium/tabularium/archive/Outcome") (F1 : Fld Z h0 a1 "java/lang/Enum" "ordinal" "I" (.int (0 : Int32))) :
    own_Met l Z (⟨"com/example/tabularium/tabularium/archive/Outcome", "exitStatus", "()I"⟩ : MethodName) prog_15_method_6_code 1 (some .int) ws ({ frames := 1, cells := 0, slots := 0, locals := 12 } : Room) #[(.ref a1)] h0 (Q_rm1_0 Z a1 h0 n0) := by
  refine own_enter (g0 := fun m => (mkF m 0 #[.val (.ref a1)] [])) pn_rm1_0 (fun m => by first | rfl | (simp [entryFrame, mkF, argsToLocals, Value.category, maxLocals]; done)) ?_
  intro p e s m below meth c s₁ hx hby hml hown hnm hret hlk hZ X0 e0
  have hml : c.maxLocals = 1 := hml
  have hown : s.vm.findClass "com/example/tabularium/tabularium/archive/Outcome" = some m.cls := hown
  have N0 := Fr.nil n0
  show own_Go p e below _ s₁ (mkF m 0 #[.val (.ref a1)] [])
  refine own_by (fun _ k => XS.aloadN X0.here hx rfl (hb hby d1_0) rfl rfl k) ?_
  show own_Go p e below _ s₁ (mkF m 1 #[.val (.ref a1)] [(.ref a1)])
  obtain ⟨_, T102, L102, X102, ⟨rfl, N102q, e102⟩, st102⟩ := own_callU X0 hx hZ hown (x := (⟨"com/example/tabularium/tabularium/archive/Outcome", "ordinal", "()I"⟩ : MethodName)) (y := (⟨"java/lang/Enum", "ordinal", "()I"⟩ : MethodName)) (C := "com/example/tabularium/tabularium/archive/Outcome") (owner := "java/lang/Enum") (hw _ (List.mem_of_getElem? (i := 9) rfl)) (hw _ (List.mem_of_getElem? (i := 10) rfl)) (hw _ (List.mem_of_getElem? (i := 11) rfl)) (by decide) (hw _ (List.mem_of_getElem? (i := 13) rfl)) (hw _ (List.mem_of_getElem? (i := 12) rfl)) (hw _ (List.mem_of_getElem? (i := 14) rfl)) (hw _ (List.mem_of_getElem? (i := 15) rfl)) (a := a1) E1 (argsL := []) (rest := []) e0 (rm2 l Z a0 hw [] a1 (0 : Int32) h0 n0 Z0 F1) (g := (mkF m 1 #[.val (.ref a1)] [(.ref a1)])) rfl (by rw [hml]; rfl) (lenOf pd_0 rfl) rfl (W := 0) (by show 2 * 0 + _ ≤ _; exact Nat.le_of_eq rfl) (hb hby d1_1) (by decide) (by decide) (by decide) (by decide)
  have N102 := Fr.app N0 N102q
  refine own_by st102 ?_
  show own_Go p e below _ T102 (mkF m 4 #[.val (.ref a1)] [(.int (0 : Int32))])
  refine own_by (fun _ k => XS.tswOut X102.here hx rfl (pc0 := 4) (pc' := 36) rfl (hb hby d1_4) rfl (by decide) (by decide) (by decide) k) ?_
  show own_Go p e below _ T102 (mkF m 36 #[.val (.ref a1)] [])
  refine own_by (fun _ k => XS.iconst X102.here hx rfl (hb hby d1_36) k) ?_
  show own_Go p e below _ T102 (mkF m 37 #[.val (.ref a1)] [(.int (2 : Int32))])
  exact own_retI X102 hx hlk hret  (hb hby d1_37) (by first | exact ⟨rfl, N102, rfl⟩ | (rw [e102]; exact ⟨rfl, N102, rfl⟩)) (by decide) (by decide)
def Q_rm1_1 (Z : State) (a1 : Addr) (h0 : Heap) (n0 : Nat) (v : Option Value) (h : Heap) (L : List Loc) : Prop := v = some (.int (0 : Int32)) ∧ Fr n0 L ∧ h = h0
theorem pn_rm1_1 : plainFor (⟨"com/example/tabularium/tabularium/archive/Outcome", "exitStatus", "()I"⟩ : MethodName) = true := plainFor_of_name (by first | (simp [plainName, overriddenIn, x]; done) | decide +kernel)
theorem d1_32 : decode prog_15_method_6_code 32 = .ok (.iconst 0, 1) := by decide +kernel
theorem d1_33 : decode prog_15_method_6_code 33 = .ok (.ireturn, 1) := by decide +kernel
set_option maxRecDepth 65536 in
set_option maxHeartbeats 40000000 in
theorem rm1_1 (l : Launch) (Z : State) (a0 : Array Value) (hw : ∀ d ∈ tables_1, d.before a0 Z = true) (ws : List Jvm.Cond) (a1 : Addr) (h0 : Heap) (n0 : Nat) (Z0 : n0 ≤ h0.size) (E1 : Exa Z h0 a1 "com/example/tabularium/tabularium/archive/Outcome") (F1 : Fld Z h0 a1 "java/lang/Enum" "ordinal" "I" (.int (1 : Int32))) :
    own_Met l Z (⟨"com/example/tabularium/tabularium/archive/Outcome", "exitStatus", "()I"⟩ : MethodName) prog_15_method_6_code 1 (some .int) ws ({ frames := 1, cells := 0, slots := 0, locals := 12 } : Room) #[(.ref a1)] h0 (Q_rm1_1 Z a1 h0 n0) := by
  refine own_enter (g0 := fun m => (mkF m 0 #[.val (.ref a1)] [])) pn_rm1_1 (fun m => by first | rfl | (simp [entryFrame, mkF, argsToLocals, Value.category, maxLocals]; done)) ?_
  intro p e s m below meth c s₁ hx hby hml hown hnm hret hlk hZ X0 e0
  have hml : c.maxLocals = 1 := hml
  have hown : s.vm.findClass "com/example/tabularium/tabularium/archive/Outcome" = some m.cls := hown
  have N0 := Fr.nil n0
  show own_Go p e below _ s₁ (mkF m 0 #[.val (.ref a1)] [])
  refine own_by (fun _ k => XS.aloadN X0.here hx rfl (hb hby d1_0) rfl rfl k) ?_
  show own_Go p e below _ s₁ (mkF m 1 #[.val (.ref a1)] [(.ref a1)])
  obtain ⟨_, T103, L103, X103, ⟨rfl, N103q, e103⟩, st103⟩ := own_callU X0 hx hZ hown (x := (⟨"com/example/tabularium/tabularium/archive/Outcome", "ordinal", "()I"⟩ : MethodName)) (y := (⟨"java/lang/Enum", "ordinal", "()I"⟩ : MethodName)) (C := "com/example/tabularium/tabularium/archive/Outcome") (owner := "java/lang/Enum") (hw _ (List.mem_of_getElem? (i := 9) rfl)) (hw _ (List.mem_of_getElem? (i := 10) rfl)) (hw _ (List.mem_of_getElem? (i := 11) rfl)) (by decide) (hw _ (List.mem_of_getElem? (i := 13) rfl)) (hw _ (List.mem_of_getElem? (i := 12) rfl)) (hw _ (List.mem_of_getElem? (i := 14) rfl)) (hw _ (List.mem_of_getElem? (i := 15) rfl)) (a := a1) E1 (argsL := []) (rest := []) e0 (rm2 l Z a0 hw [] a1 (1 : Int32) h0 n0 Z0 F1) (g := (mkF m 1 #[.val (.ref a1)] [(.ref a1)])) rfl (by rw [hml]; rfl) (lenOf pd_0 rfl) rfl (W := 0) (by show 2 * 0 + _ ≤ _; exact Nat.le_of_eq rfl) (hb hby d1_1) (by decide) (by decide) (by decide) (by decide)
  have N103 := Fr.app N0 N103q
  refine own_by st103 ?_
  show own_Go p e below _ T103 (mkF m 4 #[.val (.ref a1)] [(.int (1 : Int32))])
  refine own_by (fun _ k => XS.tswIn X103.here hx rfl (pc0 := 4) (pc' := 32) rfl (hb hby d1_4) rfl (by decide) (o := 28) rfl (by decide) (by decide) k) ?_
  show own_Go p e below _ T103 (mkF m 32 #[.val (.ref a1)] [])
  refine own_by (fun _ k => XS.iconst X103.here hx rfl (hb hby d1_32) k) ?_
  show own_Go p e below _ T103 (mkF m 33 #[.val (.ref a1)] [(.int (0 : Int32))])
  exact own_retI X103 hx hlk hret  (hb hby d1_33) (by first | exact ⟨rfl, N103, rfl⟩ | (rw [e103]; exact ⟨rfl, N103, rfl⟩)) (by decide) (by decide)
def Q_rm1_2 (Z : State) (a1 : Addr) (h0 : Heap) (n0 : Nat) (v : Option Value) (h : Heap) (L : List Loc) : Prop := v = some (.int (0 : Int32)) ∧ Fr n0 L ∧ h = h0
theorem pn_rm1_2 : plainFor (⟨"com/example/tabularium/tabularium/archive/Outcome", "exitStatus", "()I"⟩ : MethodName) = true := plainFor_of_name (by first | (simp [plainName, overriddenIn, x]; done) | decide +kernel)
set_option maxRecDepth 65536 in
set_option maxHeartbeats 40000000 in
theorem rm1_2 (l : Launch) (Z : State) (a0 : Array Value) (hw : ∀ d ∈ tables_1, d.before a0 Z = true) (ws : List Jvm.Cond) (a1 : Addr) (h0 : Heap) (n0 : Nat) (Z0 : n0 ≤ h0.size) (E1 : Exa Z h0 a1 "com/example/tabularium/tabularium/archive/Outcome") (F1 : Fld Z h0 a1 "java/lang/Enum" "ordinal" "I" (.int (2 : Int32))) :
    own_Met l Z (⟨"com/example/tabularium/tabularium/archive/Outcome", "exitStatus", "()I"⟩ : MethodName) prog_15_method_6_code 1 (some .int) ws ({ frames := 1, cells := 0, slots := 0, locals := 12 } : Room) #[(.ref a1)] h0 (Q_rm1_2 Z a1 h0 n0) := by
  refine own_enter (g0 := fun m => (mkF m 0 #[.val (.ref a1)] [])) pn_rm1_2 (fun m => by first | rfl | (simp [entryFrame, mkF, argsToLocals, Value.category, maxLocals]; done)) ?_
  intro p e s m below meth c s₁ hx hby hml hown hnm hret hlk hZ X0 e0
  have hml : c.maxLocals = 1 := hml
  have hown : s.vm.findClass "com/example/tabularium/tabularium/archive/Outcome" = some m.cls := hown
  have N0 := Fr.nil n0
  show own_Go p e below _ s₁ (mkF m 0 #[.val (.ref a1)] [])
  refine own_by (fun _ k => XS.aloadN X0.here hx rfl (hb hby d1_0) rfl rfl k) ?_
  show own_Go p e below _ s₁ (mkF m 1 #[.val (.ref a1)] [(.ref a1)])
  obtain ⟨_, T104, L104, X104, ⟨rfl, N104q, e104⟩, st104⟩ := own_callU X0 hx hZ hown (x := (⟨"com/example/tabularium/tabularium/archive/Outcome", "ordinal", "()I"⟩ : MethodName)) (y := (⟨"java/lang/Enum", "ordinal", "()I"⟩ : MethodName)) (C := "com/example/tabularium/tabularium/archive/Outcome") (owner := "java/lang/Enum") (hw _ (List.mem_of_getElem? (i := 9) rfl)) (hw _ (List.mem_of_getElem? (i := 10) rfl)) (hw _ (List.mem_of_getElem? (i := 11) rfl)) (by decide) (hw _ (List.mem_of_getElem? (i := 13) rfl)) (hw _ (List.mem_of_getElem? (i := 12) rfl)) (hw _ (List.mem_of_getElem? (i := 14) rfl)) (hw _ (List.mem_of_getElem? (i := 15) rfl)) (a := a1) E1 (argsL := []) (rest := []) e0 (rm2 l Z a0 hw [] a1 (2 : Int32) h0 n0 Z0 F1) (g := (mkF m 1 #[.val (.ref a1)] [(.ref a1)])) rfl (by rw [hml]; rfl) (lenOf pd_0 rfl) rfl (W := 0) (by show 2 * 0 + _ ≤ _; exact Nat.le_of_eq rfl) (hb hby d1_1) (by decide) (by decide) (by decide) (by decide)
  have N104 := Fr.app N0 N104q
  refine own_by st104 ?_
  show own_Go p e below _ T104 (mkF m 4 #[.val (.ref a1)] [(.int (2 : Int32))])
  refine own_by (fun _ k => XS.tswIn X104.here hx rfl (pc0 := 4) (pc' := 32) rfl (hb hby d1_4) rfl (by decide) (o := 28) rfl (by decide) (by decide) k) ?_
  show own_Go p e below _ T104 (mkF m 32 #[.val (.ref a1)] [])
  refine own_by (fun _ k => XS.iconst X104.here hx rfl (hb hby d1_32) k) ?_
  show own_Go p e below _ T104 (mkF m 33 #[.val (.ref a1)] [(.int (0 : Int32))])
  exact own_retI X104 hx hlk hret  (hb hby d1_33) (by first | exact ⟨rfl, N104, rfl⟩ | (rw [e104]; exact ⟨rfl, N104, rfl⟩)) (by decide) (by decide)
def Q_rm1_3 (Z : State) (a1 : Addr) (h0 : Heap) (n0 : Nat) (v : Option Value) (h : Heap) (L : List Loc) : Prop := v = some (.int (1 : Int32)) ∧ Fr n0 L ∧ h = h0
theorem pn_rm1_3 : plainFor (⟨"com/example/tabularium/tabularium/archive/Outcome", "exitStatus", "()I"⟩ : MethodName) = true := plainFor_of_name (by first | (simp [plainName, overriddenIn, x]; done) | decide +kernel)
theorem d1_34 : decode prog_15_method_6_code 34 = .ok (.iconst 1, 1) := by decide +kernel
theorem d1_35 : decode prog_15_method_6_code 35 = .ok (.ireturn, 1) := by decide +kernel
set_option maxRecDepth 65536 in
set_option maxHeartbeats 40000000 in
theorem rm1_3 (l : Launch) (Z : State) (a0 : Array Value) (hw : ∀ d ∈ tables_1, d.before a0 Z = true) (ws : List Jvm.Cond) (a1 : Addr) (h0 : Heap) (n0 : Nat) (Z0 : n0 ≤ h0.size) (E1 : Exa Z h0 a1 "com/example/tabularium/tabularium/archive/Outcome") (F1 : Fld Z h0 a1 "java/lang/Enum" "ordinal" "I" (.int (3 : Int32))) :
    own_Met l Z (⟨"com/example/tabularium/tabularium/archive/Outcome", "exitStatus", "()I"⟩ : MethodName) prog_15_method_6_code 1 (some .int) ws ({ frames := 1, cells := 0, slots := 0, locals := 12 } : Room) #[(.ref a1)] h0 (Q_rm1_3 Z a1 h0 n0) := by
  refine own_enter (g0 := fun m => (mkF m 0 #[.val (.ref a1)] [])) pn_rm1_3 (fun m => by first | rfl | (simp [entryFrame, mkF, argsToLocals, Value.category, maxLocals]; done)) ?_
  intro p e s m below meth c s₁ hx hby hml hown hnm hret hlk hZ X0 e0
  have hml : c.maxLocals = 1 := hml
  have hown : s.vm.findClass "com/example/tabularium/tabularium/archive/Outcome" = some m.cls := hown
  have N0 := Fr.nil n0
  show own_Go p e below _ s₁ (mkF m 0 #[.val (.ref a1)] [])
  refine own_by (fun _ k => XS.aloadN X0.here hx rfl (hb hby d1_0) rfl rfl k) ?_
  show own_Go p e below _ s₁ (mkF m 1 #[.val (.ref a1)] [(.ref a1)])
  obtain ⟨_, T105, L105, X105, ⟨rfl, N105q, e105⟩, st105⟩ := own_callU X0 hx hZ hown (x := (⟨"com/example/tabularium/tabularium/archive/Outcome", "ordinal", "()I"⟩ : MethodName)) (y := (⟨"java/lang/Enum", "ordinal", "()I"⟩ : MethodName)) (C := "com/example/tabularium/tabularium/archive/Outcome") (owner := "java/lang/Enum") (hw _ (List.mem_of_getElem? (i := 9) rfl)) (hw _ (List.mem_of_getElem? (i := 10) rfl)) (hw _ (List.mem_of_getElem? (i := 11) rfl)) (by decide) (hw _ (List.mem_of_getElem? (i := 13) rfl)) (hw _ (List.mem_of_getElem? (i := 12) rfl)) (hw _ (List.mem_of_getElem? (i := 14) rfl)) (hw _ (List.mem_of_getElem? (i := 15) rfl)) (a := a1) E1 (argsL := []) (rest := []) e0 (rm2 l Z a0 hw [] a1 (3 : Int32) h0 n0 Z0 F1) (g := (mkF m 1 #[.val (.ref a1)] [(.ref a1)])) rfl (by rw [hml]; rfl) (lenOf pd_0 rfl) rfl (W := 0) (by show 2 * 0 + _ ≤ _; exact Nat.le_of_eq rfl) (hb hby d1_1) (by decide) (by decide) (by decide) (by decide)
  have N105 := Fr.app N0 N105q
  refine own_by st105 ?_
  show own_Go p e below _ T105 (mkF m 4 #[.val (.ref a1)] [(.int (3 : Int32))])
  refine own_by (fun _ k => XS.tswIn X105.here hx rfl (pc0 := 4) (pc' := 34) rfl (hb hby d1_4) rfl (by decide) (o := 30) rfl (by decide) (by decide) k) ?_
  show own_Go p e below _ T105 (mkF m 34 #[.val (.ref a1)] [])
  refine own_by (fun _ k => XS.iconst X105.here hx rfl (hb hby d1_34) k) ?_
  show own_Go p e below _ T105 (mkF m 35 #[.val (.ref a1)] [(.int (1 : Int32))])
  exact own_retI X105 hx hlk hret  (hb hby d1_35) (by first | exact ⟨rfl, N105, rfl⟩ | (rw [e105]; exact ⟨rfl, N105, rfl⟩)) (by decide) (by decide)
def Q_rm1_4 (Z : State) (a1 : Addr) (h0 : Heap) (n0 : Nat) (v : Option Value) (h : Heap) (L : List Loc) : Prop := v = some (.int (2 : Int32)) ∧ Fr n0 L ∧ h = h0
theorem pn_rm1_4 : plainFor (⟨"com/example/tabularium/tabularium/archive/Outcome", "exitStatus", "()I"⟩ : MethodName) = true := plainFor_of_name (by first | (simp [plainName, overriddenIn, x]; done) | decide +kernel)
set_option maxRecDepth 65536 in
set_option maxHeartbeats 40000000 in
theorem rm1_4 (l : Launch) (Z : State) (a0 : Array Value) (hw : ∀ d ∈ tables_1, d.before a0 Z = true) (ws : List Jvm.Cond) (a1 : Addr) (h0 : Heap) (n0 : Nat) (Z0 : n0 ≤ h0.size) (E1 : Exa Z h0 a1 "com/example/tabularium/tabularium/archive/Outcome") (F1 : Fld Z h0 a1 "java/lang/Enum" "ordinal" "I" (.int (4 : Int32))) :
    own_Met l Z (⟨"com/example/tabularium/tabularium/archive/Outcome", "exitStatus", "()I"⟩ : MethodName) prog_15_method_6_code 1 (some .int) ws ({ frames := 1, cells := 0, slots := 0, locals := 12 } : Room) #[(.ref a1)] h0 (Q_rm1_4 Z a1 h0 n0) := by
  refine own_enter (g0 := fun m => (mkF m 0 #[.val (.ref a1)] [])) pn_rm1_4 (fun m => by first | rfl | (simp [entryFrame, mkF, argsToLocals, Value.category, maxLocals]; done)) ?_
  intro p e s m below meth c s₁ hx hby hml hown hnm hret hlk hZ X0 e0
  have hml : c.maxLocals = 1 := hml
  have hown : s.vm.findClass "com/example/tabularium/tabularium/archive/Outcome" = some m.cls := hown
  have N0 := Fr.nil n0
  show own_Go p e below _ s₁ (mkF m 0 #[.val (.ref a1)] [])
  refine own_by (fun _ k => XS.aloadN X0.here hx rfl (hb hby d1_0) rfl rfl k) ?_
  show own_Go p e below _ s₁ (mkF m 1 #[.val (.ref a1)] [(.ref a1)])
  obtain ⟨_, T106, L106, X106, ⟨rfl, N106q, e106⟩, st106⟩ := own_callU X0 hx hZ hown (x := (⟨"com/example/tabularium/tabularium/archive/Outcome", "ordinal", "()I"⟩ : MethodName)) (y := (⟨"java/lang/Enum", "ordinal", "()I"⟩ : MethodName)) (C := "com/example/tabularium/tabularium/archive/Outcome") (owner := "java/lang/Enum") (hw _ (List.mem_of_getElem? (i := 9) rfl)) (hw _ (List.mem_of_getElem? (i := 10) rfl)) (hw _ (List.mem_of_getElem? (i := 11) rfl)) (by decide) (hw _ (List.mem_of_getElem? (i := 13) rfl)) (hw _ (List.mem_of_getElem? (i := 12) rfl)) (hw _ (List.mem_of_getElem? (i := 14) rfl)) (hw _ (List.mem_of_getElem? (i := 15) rfl)) (a := a1) E1 (argsL := []) (rest := []) e0 (rm2 l Z a0 hw [] a1 (4 : Int32) h0 n0 Z0 F1) (g := (mkF m 1 #[.val (.ref a1)] [(.ref a1)])) rfl (by rw [hml]; rfl) (lenOf pd_0 rfl) rfl (W := 0) (by show 2 * 0 + _ ≤ _; exact Nat.le_of_eq rfl) (hb hby d1_1) (by decide) (by decide) (by decide) (by decide)
  have N106 := Fr.app N0 N106q
  refine own_by st106 ?_
  show own_Go p e below _ T106 (mkF m 4 #[.val (.ref a1)] [(.int (4 : Int32))])
  refine own_by (fun _ k => XS.tswOut X106.here hx rfl (pc0 := 4) (pc' := 36) rfl (hb hby d1_4) rfl (by decide) (by decide) (by decide) k) ?_
  show own_Go p e below _ T106 (mkF m 36 #[.val (.ref a1)] [])
  refine own_by (fun _ k => XS.iconst X106.here hx rfl (hb hby d1_36) k) ?_
  show own_Go p e below _ T106 (mkF m 37 #[.val (.ref a1)] [(.int (2 : Int32))])
  exact own_retI X106 hx hlk hret  (hb hby d1_37) (by first | exact ⟨rfl, N106, rfl⟩ | (rw [e106]; exact ⟨rfl, N106, rfl⟩)) (by decide) (by decide)
def Q_rm0 (Z : State) (p1 : Int32) (o0 o1 o2 o3 o4 : Addr) (h0 : Heap) (n0 : Nat) (v : Option Value) (h : Heap) (L : List Loc) : Prop := v = some (.int 1) ∧ Fr n0 L
theorem pn_rm0 : plainFor x = true := plainFor_of_name (by first | (simp [plainName, overriddenIn, x]; done) | decide +kernel)
set_option maxRecDepth 65536 in
set_option maxHeartbeats 40000000 in
theorem rm0 (l : Launch) (Z : State) (a0 : Array Value) (hw : ∀ d ∈ tables_1, d.before a0 Z = true) (ws : List Jvm.Cond) (p1 : Int32) (o0 o1 o2 o3 o4 : Addr) (h0 : Heap) (n0 : Nat) (Z0 : n0 ≤ h0.size) (S0 : Sta Z h0 "com/example/tabularium/tabularium/archive/Outcome" "STARTED" "Lcom/example/tabularium/tabularium/archive/Outcome;" (.ref o0)) (E0 : Exa Z h0 o0 "com/example/tabularium/tabularium/archive/Outcome") (F0 : Fld Z h0 o0 "java/lang/Enum" "ordinal" "I" (.int (0 : Int32))) (S1 : Sta Z h0 "com/example/tabularium/tabularium/archive/Outcome" "OK" "Lcom/example/tabularium/tabularium/archive/Outcome;" (.ref o1)) (E1 : Exa Z h0 o1 "com/example/tabularium/tabularium/archive/Outcome") (F1 : Fld Z h0 o1 "java/lang/Enum" "ordinal" "I" (.int (1 : Int32))) (S2 : Sta Z h0 "com/example/tabularium/tabularium/archive/Outcome" "WARNING" "Lcom/example/tabularium/tabularium/archive/Outcome;" (.ref o2)) (E2 : Exa Z h0 o2 "com/example/tabularium/tabularium/archive/Outcome") (F2 : Fld Z h0 o2 "java/lang/Enum" "ordinal" "I" (.int (2 : Int32))) (S3 : Sta Z h0 "com/example/tabularium/tabularium/archive/Outcome" "KO" "Lcom/example/tabularium/tabularium/archive/Outcome;" (.ref o3)) (E3 : Exa Z h0 o3 "com/example/tabularium/tabularium/archive/Outcome") (F3 : Fld Z h0 o3 "java/lang/Enum" "ordinal" "I" (.int (3 : Int32))) (S4 : Sta Z h0 "com/example/tabularium/tabularium/archive/Outcome" "FATAL" "Lcom/example/tabularium/tabularium/archive/Outcome;" (.ref o4)) (E4 : Exa Z h0 o4 "com/example/tabularium/tabularium/archive/Outcome") (F4 : Fld Z h0 o4 "java/lang/Enum" "ordinal" "I" (.int (4 : Int32))) :
    own_Met l Z x code maxLocals ret ws room_1 #[(.int p1)] h0 (Q_rm0 Z p1 o0 o1 o2 o3 o4 h0 n0) := by
  refine own_enter (g0 := fun m => (mkF m 0 #[.val (.int p1), .unset, .unset, .unset] [])) pn_rm0 (fun m => by first | rfl | (simp [entryFrame, mkF, argsToLocals, Value.category, maxLocals]; done)) ?_
  intro p e s m below meth c s₁ hx hby hml hown hnm hret hlk hZ X0 e0
  have hml : c.maxLocals = 4 := hml
  have hown : s.vm.findClass "com/example/tabularium/tabularium/archive/OutcomeExitStatusPinLaw" = some m.cls := hown
  have N0 := Fr.nil n0
  show own_Go p e below _ s₁ (mkF m 0 #[.val (.int p1), .unset, .unset, .unset] [])
  refine own_by (fun _ k => XS.iloadN X0.here hx rfl (hb hby at_0) rfl k) ?_
  show own_Go p e below _ s₁ (mkF m 1 #[.val (.int p1), .unset, .unset, .unset] [(.int p1)])
  refine own_by (fun _ k => Stand.ldcI X0 hx hown (mvT hZ (hw _ (List.mem_of_getElem? (i := 0) rfl))) rfl (hb hby at_1) k) ?_
  show own_Go p e below _ s₁ (mkF m 3 #[.val (.int p1), .unset, .unset, .unset] [(.int (2147483647 : Int32)), (.int p1)])
  refine own_by (fun _ k => XS.iand X0.here hx rfl (hb hby at_3) rfl k) ?_
  show own_Go p e below _ s₁ (mkF m 4 #[.val (.int p1), .unset, .unset, .unset] [(.int (p1 &&& (2147483647 : Int32)))])
  refine own_by (fun _ k => XS.iconst X0.here hx rfl (hb hby at_4) k) ?_
  show own_Go p e below _ s₁ (mkF m 5 #[.val (.int p1), .unset, .unset, .unset] [(.int (5 : Int32)), (.int (p1 &&& (2147483647 : Int32)))])
  refine own_by (fun _ k => iremM X0 hx rfl (hb hby at_5) rfl (by decide) k) ?_
  show own_Go p e below _ s₁ (mkF m 6 #[.val (.int p1), .unset, .unset, .unset] [(.int ((p1 &&& (2147483647 : Int32)) % (5 : Int32)))])
  refine own_by (fun _ k => XS.istoreN X0.here hx rfl (hb hby at_6) rfl (l' := #[.val (.int p1), .val (.int ((p1 &&& (2147483647 : Int32)) % (5 : Int32))), .unset, .unset]) rfl k) ?_
  show own_Go p e below _ s₁ (mkF m 7 #[.val (.int p1), .val (.int ((p1 &&& (2147483647 : Int32)) % (5 : Int32))), .unset, .unset] [])
  rcases own_five p1 with hk | hk | hk | hk | hk
  · show own_Go p e below _ s₁ (mkF m 7 #[.val (.int p1), .val (.int ((p1 &&& (2147483647 : Int32)) % (5 : Int32))), .unset, .unset] [])
    rw [hk]
    show own_Go p e below _ s₁ (mkF m 7 #[.val (.int p1), .val (.int (0 : Int32)), .unset, .unset] [])
    refine own_by (fun _ k => XS.iloadN X0.here hx rfl (hb hby at_7) rfl k) ?_
    show own_Go p e below _ s₁ (mkF m 8 #[.val (.int p1), .val (.int (0 : Int32)), .unset, .unset] [(.int (0 : Int32))])
    refine own_by (fun _ k => XS.ifNo X0.here hx rfl (hb hby at_8) rfl ((if0 _ _).trans (teq (by decide : (0 : Int32) = (0 : Int32))).2) k) ?_
    show own_Go p e below _ s₁ (mkF m 11 #[.val (.int p1), .val (.int (0 : Int32)), .unset, .unset] [])
    obtain ⟨T107, X107, e107, st107⟩ := getS2 X0 hx hZ hown (host := "") (Or.inl (hw _ (List.mem_of_getElem? (i := 1) rfl))) Via.refl e0 S0 (g := (mkF m 11 #[.val (.int p1), .val (.int (0 : Int32)), .unset, .unset] [])) rfl (hb hby at_11)
    refine own_by st107 ?_
    show own_Go p e below _ T107 (mkF m 14 #[.val (.int p1), .val (.int (0 : Int32)), .unset, .unset] [(.ref o0)])
    refine own_by (fun _ k => XS.astoreN X107.here hx rfl (hb hby at_14) rfl rfl (l' := #[.val (.int p1), .val (.int (0 : Int32)), .val (.ref o0), .unset]) rfl k) ?_
    show own_Go p e below _ T107 (mkF m 15 #[.val (.int p1), .val (.int (0 : Int32)), .val (.ref o0), .unset] [])
    refine own_by (fun _ k => XS.iconst X107.here hx rfl (hb hby at_15) k) ?_
    show own_Go p e below _ T107 (mkF m 16 #[.val (.int p1), .val (.int (0 : Int32)), .val (.ref o0), .unset] [(.int (2 : Int32))])
    refine own_by (fun _ k => XS.istoreN X107.here hx rfl (hb hby at_16) rfl (l' := #[.val (.int p1), .val (.int (0 : Int32)), .val (.ref o0), .val (.int (2 : Int32))]) rfl k) ?_
    show own_Go p e below _ T107 (mkF m 17 #[.val (.int p1), .val (.int (0 : Int32)), .val (.ref o0), .val (.int (2 : Int32))] [])
    refine own_by (fun _ k => XS.goto X107.here hx rfl (pc0 := 17) (pc' := 68) rfl (hb hby at_17) (by decide) (by decide) k) ?_
    show own_Go p e below _ T107 (mkF m 68 #[.val (.int p1), .val (.int (0 : Int32)), .val (.ref o0), .val (.int (2 : Int32))] [])
    refine own_by (fun _ k => XS.aloadN X107.here hx rfl (hb hby at_68) rfl rfl k) ?_
    show own_Go p e below _ T107 (mkF m 69 #[.val (.int p1), .val (.int (0 : Int32)), .val (.ref o0), .val (.int (2 : Int32))] [(.ref o0)])
    obtain ⟨_, T108, L108, X108, ⟨rfl, N108q, e108⟩, st108⟩ := own_callV X107 hx hZ hown (y := (⟨"com/example/tabularium/tabularium/archive/Outcome", "exitStatus", "()I"⟩ : MethodName)) (C := "com/example/tabularium/tabularium/archive/Outcome") (hw _ (List.mem_of_getElem? (i := 4) rfl)) (hw _ (List.mem_of_getElem? (i := 5) rfl)) (hw _ (List.mem_of_getElem? (i := 7) rfl)) (hw _ (List.mem_of_getElem? (i := 6) rfl)) (hw _ (List.mem_of_getElem? (i := 2) rfl)) (hw _ (List.mem_of_getElem? (i := 8) rfl)) (by decide) (a := o0) E0 (argsL := []) (rest := []) e107 (rm1_0 l Z a0 hw [] o0 h0 n0 Z0 E0 F0) (g := (mkF m 69 #[.val (.int p1), .val (.int (0 : Int32)), .val (.ref o0), .val (.int (2 : Int32))] [(.ref o0)])) rfl (by rw [hml]; rfl) (lenOf pd_0 rfl) rfl (W := 0) (by show 2 * 0 + _ ≤ _; exact Nat.le_of_eq rfl) (hb hby at_69) (by decide) (by decide) (by decide) (by decide)
    have N108 := Fr.app N0 N108q
    refine own_by st108 ?_
    show own_Go p e below _ T108 (mkF m 72 #[.val (.int p1), .val (.int (0 : Int32)), .val (.ref o0), .val (.int (2 : Int32))] [(.int (2 : Int32))])
    refine own_by (fun _ k => XS.iloadN X108.here hx rfl (hb hby at_72) rfl k) ?_
    show own_Go p e below _ T108 (mkF m 73 #[.val (.int p1), .val (.int (0 : Int32)), .val (.ref o0), .val (.int (2 : Int32))] [(.int (2 : Int32)), (.int (2 : Int32))])
    refine own_by (fun _ k => XS.icmpNo X108.here hx rfl (hb hby at_73) rfl (teq (rfl : (2 : Int32) = (2 : Int32))).2 k) ?_
    show own_Go p e below _ T108 (mkF m 76 #[.val (.int p1), .val (.int (0 : Int32)), .val (.ref o0), .val (.int (2 : Int32))] [])
    refine own_by (fun _ k => XS.iconst X108.here hx rfl (hb hby at_76) k) ?_
    show own_Go p e below _ T108 (mkF m 77 #[.val (.int p1), .val (.int (0 : Int32)), .val (.ref o0), .val (.int (2 : Int32))] [(.int (1 : Int32))])
    refine own_by (fun _ k => XS.goto X108.here hx rfl (pc0 := 77) (pc' := 81) rfl (hb hby at_77) (by decide) (by decide) k) ?_
    show own_Go p e below _ T108 (mkF m 81 #[.val (.int p1), .val (.int (0 : Int32)), .val (.ref o0), .val (.int (2 : Int32))] [(.int (1 : Int32))])
    exact own_retN X108 hx hlk hret (by simp) rfl (hb hby at_81) (by first | exact ⟨rfl, N108⟩ | (rw [e108]; exact ⟨rfl, N108⟩)) (by decide) (by decide)
  · show own_Go p e below _ s₁ (mkF m 7 #[.val (.int p1), .val (.int ((p1 &&& (2147483647 : Int32)) % (5 : Int32))), .unset, .unset] [])
    rw [hk]
    show own_Go p e below _ s₁ (mkF m 7 #[.val (.int p1), .val (.int (1 : Int32)), .unset, .unset] [])
    refine own_by (fun _ k => XS.iloadN X0.here hx rfl (hb hby at_7) rfl k) ?_
    show own_Go p e below _ s₁ (mkF m 8 #[.val (.int p1), .val (.int (1 : Int32)), .unset, .unset] [(.int (1 : Int32))])
    refine own_by (fun _ k => XS.ifYes X0.here hx rfl (pc0 := 8) (pc' := 20) rfl (hb hby at_8) rfl ((if0 _ _).trans (feq (by decide : ¬ ((1 : Int32) = (0 : Int32)))).2) (by decide) (by decide) k) ?_
    show own_Go p e below _ s₁ (mkF m 20 #[.val (.int p1), .val (.int (1 : Int32)), .unset, .unset] [])
    refine own_by (fun _ k => XS.iloadN X0.here hx rfl (hb hby at_20) rfl k) ?_
    show own_Go p e below _ s₁ (mkF m 21 #[.val (.int p1), .val (.int (1 : Int32)), .unset, .unset] [(.int (1 : Int32))])
    refine own_by (fun _ k => XS.iconst X0.here hx rfl (hb hby at_21) k) ?_
    show own_Go p e below _ s₁ (mkF m 22 #[.val (.int p1), .val (.int (1 : Int32)), .unset, .unset] [(.int (1 : Int32)), (.int (1 : Int32))])
    refine own_by (fun _ k => XS.icmpNo X0.here hx rfl (hb hby at_22) rfl (teq (by decide : (1 : Int32) = (1 : Int32))).2 k) ?_
    show own_Go p e below _ s₁ (mkF m 25 #[.val (.int p1), .val (.int (1 : Int32)), .unset, .unset] [])
    obtain ⟨T109, X109, e109, st109⟩ := getS2 X0 hx hZ hown (host := "") (Or.inl (hw _ (List.mem_of_getElem? (i := 20) rfl))) Via.refl e0 S1 (g := (mkF m 25 #[.val (.int p1), .val (.int (1 : Int32)), .unset, .unset] [])) rfl (hb hby at_25)
    refine own_by st109 ?_
    show own_Go p e below _ T109 (mkF m 28 #[.val (.int p1), .val (.int (1 : Int32)), .unset, .unset] [(.ref o1)])
    refine own_by (fun _ k => XS.astoreN X109.here hx rfl (hb hby at_28) rfl rfl (l' := #[.val (.int p1), .val (.int (1 : Int32)), .val (.ref o1), .unset]) rfl k) ?_
    show own_Go p e below _ T109 (mkF m 29 #[.val (.int p1), .val (.int (1 : Int32)), .val (.ref o1), .unset] [])
    refine own_by (fun _ k => XS.iconst X109.here hx rfl (hb hby at_29) k) ?_
    show own_Go p e below _ T109 (mkF m 30 #[.val (.int p1), .val (.int (1 : Int32)), .val (.ref o1), .unset] [(.int (0 : Int32))])
    refine own_by (fun _ k => XS.istoreN X109.here hx rfl (hb hby at_30) rfl (l' := #[.val (.int p1), .val (.int (1 : Int32)), .val (.ref o1), .val (.int (0 : Int32))]) rfl k) ?_
    show own_Go p e below _ T109 (mkF m 31 #[.val (.int p1), .val (.int (1 : Int32)), .val (.ref o1), .val (.int (0 : Int32))] [])
    refine own_by (fun _ k => XS.goto X109.here hx rfl (pc0 := 31) (pc' := 68) rfl (hb hby at_31) (by decide) (by decide) k) ?_
    show own_Go p e below _ T109 (mkF m 68 #[.val (.int p1), .val (.int (1 : Int32)), .val (.ref o1), .val (.int (0 : Int32))] [])
    refine own_by (fun _ k => XS.aloadN X109.here hx rfl (hb hby at_68) rfl rfl k) ?_
    show own_Go p e below _ T109 (mkF m 69 #[.val (.int p1), .val (.int (1 : Int32)), .val (.ref o1), .val (.int (0 : Int32))] [(.ref o1)])
    obtain ⟨_, T110, L110, X110, ⟨rfl, N110q, e110⟩, st110⟩ := own_callV X109 hx hZ hown (y := (⟨"com/example/tabularium/tabularium/archive/Outcome", "exitStatus", "()I"⟩ : MethodName)) (C := "com/example/tabularium/tabularium/archive/Outcome") (hw _ (List.mem_of_getElem? (i := 4) rfl)) (hw _ (List.mem_of_getElem? (i := 5) rfl)) (hw _ (List.mem_of_getElem? (i := 7) rfl)) (hw _ (List.mem_of_getElem? (i := 6) rfl)) (hw _ (List.mem_of_getElem? (i := 2) rfl)) (hw _ (List.mem_of_getElem? (i := 8) rfl)) (by decide) (a := o1) E1 (argsL := []) (rest := []) e109 (rm1_1 l Z a0 hw [] o1 h0 n0 Z0 E1 F1) (g := (mkF m 69 #[.val (.int p1), .val (.int (1 : Int32)), .val (.ref o1), .val (.int (0 : Int32))] [(.ref o1)])) rfl (by rw [hml]; rfl) (lenOf pd_0 rfl) rfl (W := 0) (by show 2 * 0 + _ ≤ _; exact Nat.le_of_eq rfl) (hb hby at_69) (by decide) (by decide) (by decide) (by decide)
    have N110 := Fr.app N0 N110q
    refine own_by st110 ?_
    show own_Go p e below _ T110 (mkF m 72 #[.val (.int p1), .val (.int (1 : Int32)), .val (.ref o1), .val (.int (0 : Int32))] [(.int (0 : Int32))])
    refine own_by (fun _ k => XS.iloadN X110.here hx rfl (hb hby at_72) rfl k) ?_
    show own_Go p e below _ T110 (mkF m 73 #[.val (.int p1), .val (.int (1 : Int32)), .val (.ref o1), .val (.int (0 : Int32))] [(.int (0 : Int32)), (.int (0 : Int32))])
    refine own_by (fun _ k => XS.icmpNo X110.here hx rfl (hb hby at_73) rfl (teq (rfl : (0 : Int32) = (0 : Int32))).2 k) ?_
    show own_Go p e below _ T110 (mkF m 76 #[.val (.int p1), .val (.int (1 : Int32)), .val (.ref o1), .val (.int (0 : Int32))] [])
    refine own_by (fun _ k => XS.iconst X110.here hx rfl (hb hby at_76) k) ?_
    show own_Go p e below _ T110 (mkF m 77 #[.val (.int p1), .val (.int (1 : Int32)), .val (.ref o1), .val (.int (0 : Int32))] [(.int (1 : Int32))])
    refine own_by (fun _ k => XS.goto X110.here hx rfl (pc0 := 77) (pc' := 81) rfl (hb hby at_77) (by decide) (by decide) k) ?_
    show own_Go p e below _ T110 (mkF m 81 #[.val (.int p1), .val (.int (1 : Int32)), .val (.ref o1), .val (.int (0 : Int32))] [(.int (1 : Int32))])
    exact own_retN X110 hx hlk hret (by simp) rfl (hb hby at_81) (by first | exact ⟨rfl, N110⟩ | (rw [e110]; exact ⟨rfl, N110⟩)) (by decide) (by decide)
  · show own_Go p e below _ s₁ (mkF m 7 #[.val (.int p1), .val (.int ((p1 &&& (2147483647 : Int32)) % (5 : Int32))), .unset, .unset] [])
    rw [hk]
    show own_Go p e below _ s₁ (mkF m 7 #[.val (.int p1), .val (.int (2 : Int32)), .unset, .unset] [])
    refine own_by (fun _ k => XS.iloadN X0.here hx rfl (hb hby at_7) rfl k) ?_
    show own_Go p e below _ s₁ (mkF m 8 #[.val (.int p1), .val (.int (2 : Int32)), .unset, .unset] [(.int (2 : Int32))])
    refine own_by (fun _ k => XS.ifYes X0.here hx rfl (pc0 := 8) (pc' := 20) rfl (hb hby at_8) rfl ((if0 _ _).trans (feq (by decide : ¬ ((2 : Int32) = (0 : Int32)))).2) (by decide) (by decide) k) ?_
    show own_Go p e below _ s₁ (mkF m 20 #[.val (.int p1), .val (.int (2 : Int32)), .unset, .unset] [])
    refine own_by (fun _ k => XS.iloadN X0.here hx rfl (hb hby at_20) rfl k) ?_
    show own_Go p e below _ s₁ (mkF m 21 #[.val (.int p1), .val (.int (2 : Int32)), .unset, .unset] [(.int (2 : Int32))])
    refine own_by (fun _ k => XS.iconst X0.here hx rfl (hb hby at_21) k) ?_
    show own_Go p e below _ s₁ (mkF m 22 #[.val (.int p1), .val (.int (2 : Int32)), .unset, .unset] [(.int (1 : Int32)), (.int (2 : Int32))])
    refine own_by (fun _ k => XS.icmpYes X0.here hx rfl (pc0 := 22) (pc' := 34) rfl (hb hby at_22) rfl (feq (by decide : ¬ ((2 : Int32) = (1 : Int32)))).2 (by decide) (by decide) k) ?_
    show own_Go p e below _ s₁ (mkF m 34 #[.val (.int p1), .val (.int (2 : Int32)), .unset, .unset] [])
    refine own_by (fun _ k => XS.iloadN X0.here hx rfl (hb hby at_34) rfl k) ?_
    show own_Go p e below _ s₁ (mkF m 35 #[.val (.int p1), .val (.int (2 : Int32)), .unset, .unset] [(.int (2 : Int32))])
    refine own_by (fun _ k => XS.iconst X0.here hx rfl (hb hby at_35) k) ?_
    show own_Go p e below _ s₁ (mkF m 36 #[.val (.int p1), .val (.int (2 : Int32)), .unset, .unset] [(.int (2 : Int32)), (.int (2 : Int32))])
    refine own_by (fun _ k => XS.icmpNo X0.here hx rfl (hb hby at_36) rfl (teq (by decide : (2 : Int32) = (2 : Int32))).2 k) ?_
    show own_Go p e below _ s₁ (mkF m 39 #[.val (.int p1), .val (.int (2 : Int32)), .unset, .unset] [])
    obtain ⟨T111, X111, e111, st111⟩ := getS2 X0 hx hZ hown (host := "") (Or.inl (hw _ (List.mem_of_getElem? (i := 24) rfl))) Via.refl e0 S2 (g := (mkF m 39 #[.val (.int p1), .val (.int (2 : Int32)), .unset, .unset] [])) rfl (hb hby at_39)
    refine own_by st111 ?_
    show own_Go p e below _ T111 (mkF m 42 #[.val (.int p1), .val (.int (2 : Int32)), .unset, .unset] [(.ref o2)])
    refine own_by (fun _ k => XS.astoreN X111.here hx rfl (hb hby at_42) rfl rfl (l' := #[.val (.int p1), .val (.int (2 : Int32)), .val (.ref o2), .unset]) rfl k) ?_
    show own_Go p e below _ T111 (mkF m 43 #[.val (.int p1), .val (.int (2 : Int32)), .val (.ref o2), .unset] [])
    refine own_by (fun _ k => XS.iconst X111.here hx rfl (hb hby at_43) k) ?_
    show own_Go p e below _ T111 (mkF m 44 #[.val (.int p1), .val (.int (2 : Int32)), .val (.ref o2), .unset] [(.int (0 : Int32))])
    refine own_by (fun _ k => XS.istoreN X111.here hx rfl (hb hby at_44) rfl (l' := #[.val (.int p1), .val (.int (2 : Int32)), .val (.ref o2), .val (.int (0 : Int32))]) rfl k) ?_
    show own_Go p e below _ T111 (mkF m 45 #[.val (.int p1), .val (.int (2 : Int32)), .val (.ref o2), .val (.int (0 : Int32))] [])
    refine own_by (fun _ k => XS.goto X111.here hx rfl (pc0 := 45) (pc' := 68) rfl (hb hby at_45) (by decide) (by decide) k) ?_
    show own_Go p e below _ T111 (mkF m 68 #[.val (.int p1), .val (.int (2 : Int32)), .val (.ref o2), .val (.int (0 : Int32))] [])
    refine own_by (fun _ k => XS.aloadN X111.here hx rfl (hb hby at_68) rfl rfl k) ?_
    show own_Go p e below _ T111 (mkF m 69 #[.val (.int p1), .val (.int (2 : Int32)), .val (.ref o2), .val (.int (0 : Int32))] [(.ref o2)])
    obtain ⟨_, T112, L112, X112, ⟨rfl, N112q, e112⟩, st112⟩ := own_callV X111 hx hZ hown (y := (⟨"com/example/tabularium/tabularium/archive/Outcome", "exitStatus", "()I"⟩ : MethodName)) (C := "com/example/tabularium/tabularium/archive/Outcome") (hw _ (List.mem_of_getElem? (i := 4) rfl)) (hw _ (List.mem_of_getElem? (i := 5) rfl)) (hw _ (List.mem_of_getElem? (i := 7) rfl)) (hw _ (List.mem_of_getElem? (i := 6) rfl)) (hw _ (List.mem_of_getElem? (i := 2) rfl)) (hw _ (List.mem_of_getElem? (i := 8) rfl)) (by decide) (a := o2) E2 (argsL := []) (rest := []) e111 (rm1_2 l Z a0 hw [] o2 h0 n0 Z0 E2 F2) (g := (mkF m 69 #[.val (.int p1), .val (.int (2 : Int32)), .val (.ref o2), .val (.int (0 : Int32))] [(.ref o2)])) rfl (by rw [hml]; rfl) (lenOf pd_0 rfl) rfl (W := 0) (by show 2 * 0 + _ ≤ _; exact Nat.le_of_eq rfl) (hb hby at_69) (by decide) (by decide) (by decide) (by decide)
    have N112 := Fr.app N0 N112q
    refine own_by st112 ?_
    show own_Go p e below _ T112 (mkF m 72 #[.val (.int p1), .val (.int (2 : Int32)), .val (.ref o2), .val (.int (0 : Int32))] [(.int (0 : Int32))])
    refine own_by (fun _ k => XS.iloadN X112.here hx rfl (hb hby at_72) rfl k) ?_
    show own_Go p e below _ T112 (mkF m 73 #[.val (.int p1), .val (.int (2 : Int32)), .val (.ref o2), .val (.int (0 : Int32))] [(.int (0 : Int32)), (.int (0 : Int32))])
    refine own_by (fun _ k => XS.icmpNo X112.here hx rfl (hb hby at_73) rfl (teq (rfl : (0 : Int32) = (0 : Int32))).2 k) ?_
    show own_Go p e below _ T112 (mkF m 76 #[.val (.int p1), .val (.int (2 : Int32)), .val (.ref o2), .val (.int (0 : Int32))] [])
    refine own_by (fun _ k => XS.iconst X112.here hx rfl (hb hby at_76) k) ?_
    show own_Go p e below _ T112 (mkF m 77 #[.val (.int p1), .val (.int (2 : Int32)), .val (.ref o2), .val (.int (0 : Int32))] [(.int (1 : Int32))])
    refine own_by (fun _ k => XS.goto X112.here hx rfl (pc0 := 77) (pc' := 81) rfl (hb hby at_77) (by decide) (by decide) k) ?_
    show own_Go p e below _ T112 (mkF m 81 #[.val (.int p1), .val (.int (2 : Int32)), .val (.ref o2), .val (.int (0 : Int32))] [(.int (1 : Int32))])
    exact own_retN X112 hx hlk hret (by simp) rfl (hb hby at_81) (by first | exact ⟨rfl, N112⟩ | (rw [e112]; exact ⟨rfl, N112⟩)) (by decide) (by decide)
  · show own_Go p e below _ s₁ (mkF m 7 #[.val (.int p1), .val (.int ((p1 &&& (2147483647 : Int32)) % (5 : Int32))), .unset, .unset] [])
    rw [hk]
    show own_Go p e below _ s₁ (mkF m 7 #[.val (.int p1), .val (.int (3 : Int32)), .unset, .unset] [])
    refine own_by (fun _ k => XS.iloadN X0.here hx rfl (hb hby at_7) rfl k) ?_
    show own_Go p e below _ s₁ (mkF m 8 #[.val (.int p1), .val (.int (3 : Int32)), .unset, .unset] [(.int (3 : Int32))])
    refine own_by (fun _ k => XS.ifYes X0.here hx rfl (pc0 := 8) (pc' := 20) rfl (hb hby at_8) rfl ((if0 _ _).trans (feq (by decide : ¬ ((3 : Int32) = (0 : Int32)))).2) (by decide) (by decide) k) ?_
    show own_Go p e below _ s₁ (mkF m 20 #[.val (.int p1), .val (.int (3 : Int32)), .unset, .unset] [])
    refine own_by (fun _ k => XS.iloadN X0.here hx rfl (hb hby at_20) rfl k) ?_
    show own_Go p e below _ s₁ (mkF m 21 #[.val (.int p1), .val (.int (3 : Int32)), .unset, .unset] [(.int (3 : Int32))])
    refine own_by (fun _ k => XS.iconst X0.here hx rfl (hb hby at_21) k) ?_
    show own_Go p e below _ s₁ (mkF m 22 #[.val (.int p1), .val (.int (3 : Int32)), .unset, .unset] [(.int (1 : Int32)), (.int (3 : Int32))])
    refine own_by (fun _ k => XS.icmpYes X0.here hx rfl (pc0 := 22) (pc' := 34) rfl (hb hby at_22) rfl (feq (by decide : ¬ ((3 : Int32) = (1 : Int32)))).2 (by decide) (by decide) k) ?_
    show own_Go p e below _ s₁ (mkF m 34 #[.val (.int p1), .val (.int (3 : Int32)), .unset, .unset] [])
    refine own_by (fun _ k => XS.iloadN X0.here hx rfl (hb hby at_34) rfl k) ?_
    show own_Go p e below _ s₁ (mkF m 35 #[.val (.int p1), .val (.int (3 : Int32)), .unset, .unset] [(.int (3 : Int32))])
    refine own_by (fun _ k => XS.iconst X0.here hx rfl (hb hby at_35) k) ?_
    show own_Go p e below _ s₁ (mkF m 36 #[.val (.int p1), .val (.int (3 : Int32)), .unset, .unset] [(.int (2 : Int32)), (.int (3 : Int32))])
    refine own_by (fun _ k => XS.icmpYes X0.here hx rfl (pc0 := 36) (pc' := 48) rfl (hb hby at_36) rfl (feq (by decide : ¬ ((3 : Int32) = (2 : Int32)))).2 (by decide) (by decide) k) ?_
    show own_Go p e below _ s₁ (mkF m 48 #[.val (.int p1), .val (.int (3 : Int32)), .unset, .unset] [])
    refine own_by (fun _ k => XS.iloadN X0.here hx rfl (hb hby at_48) rfl k) ?_
    show own_Go p e below _ s₁ (mkF m 49 #[.val (.int p1), .val (.int (3 : Int32)), .unset, .unset] [(.int (3 : Int32))])
    refine own_by (fun _ k => XS.iconst X0.here hx rfl (hb hby at_49) k) ?_
    show own_Go p e below _ s₁ (mkF m 50 #[.val (.int p1), .val (.int (3 : Int32)), .unset, .unset] [(.int (3 : Int32)), (.int (3 : Int32))])
    refine own_by (fun _ k => XS.icmpNo X0.here hx rfl (hb hby at_50) rfl (teq (by decide : (3 : Int32) = (3 : Int32))).2 k) ?_
    show own_Go p e below _ s₁ (mkF m 53 #[.val (.int p1), .val (.int (3 : Int32)), .unset, .unset] [])
    obtain ⟨T113, X113, e113, st113⟩ := getS2 X0 hx hZ hown (host := "") (Or.inl (hw _ (List.mem_of_getElem? (i := 18) rfl))) Via.refl e0 S3 (g := (mkF m 53 #[.val (.int p1), .val (.int (3 : Int32)), .unset, .unset] [])) rfl (hb hby at_53)
    refine own_by st113 ?_
    show own_Go p e below _ T113 (mkF m 56 #[.val (.int p1), .val (.int (3 : Int32)), .unset, .unset] [(.ref o3)])
    refine own_by (fun _ k => XS.astoreN X113.here hx rfl (hb hby at_56) rfl rfl (l' := #[.val (.int p1), .val (.int (3 : Int32)), .val (.ref o3), .unset]) rfl k) ?_
    show own_Go p e below _ T113 (mkF m 57 #[.val (.int p1), .val (.int (3 : Int32)), .val (.ref o3), .unset] [])
    refine own_by (fun _ k => XS.iconst X113.here hx rfl (hb hby at_57) k) ?_
    show own_Go p e below _ T113 (mkF m 58 #[.val (.int p1), .val (.int (3 : Int32)), .val (.ref o3), .unset] [(.int (1 : Int32))])
    refine own_by (fun _ k => XS.istoreN X113.here hx rfl (hb hby at_58) rfl (l' := #[.val (.int p1), .val (.int (3 : Int32)), .val (.ref o3), .val (.int (1 : Int32))]) rfl k) ?_
    show own_Go p e below _ T113 (mkF m 59 #[.val (.int p1), .val (.int (3 : Int32)), .val (.ref o3), .val (.int (1 : Int32))] [])
    refine own_by (fun _ k => XS.goto X113.here hx rfl (pc0 := 59) (pc' := 68) rfl (hb hby at_59) (by decide) (by decide) k) ?_
    show own_Go p e below _ T113 (mkF m 68 #[.val (.int p1), .val (.int (3 : Int32)), .val (.ref o3), .val (.int (1 : Int32))] [])
    refine own_by (fun _ k => XS.aloadN X113.here hx rfl (hb hby at_68) rfl rfl k) ?_
    show own_Go p e below _ T113 (mkF m 69 #[.val (.int p1), .val (.int (3 : Int32)), .val (.ref o3), .val (.int (1 : Int32))] [(.ref o3)])
    obtain ⟨_, T114, L114, X114, ⟨rfl, N114q, e114⟩, st114⟩ := own_callV X113 hx hZ hown (y := (⟨"com/example/tabularium/tabularium/archive/Outcome", "exitStatus", "()I"⟩ : MethodName)) (C := "com/example/tabularium/tabularium/archive/Outcome") (hw _ (List.mem_of_getElem? (i := 4) rfl)) (hw _ (List.mem_of_getElem? (i := 5) rfl)) (hw _ (List.mem_of_getElem? (i := 7) rfl)) (hw _ (List.mem_of_getElem? (i := 6) rfl)) (hw _ (List.mem_of_getElem? (i := 2) rfl)) (hw _ (List.mem_of_getElem? (i := 8) rfl)) (by decide) (a := o3) E3 (argsL := []) (rest := []) e113 (rm1_3 l Z a0 hw [] o3 h0 n0 Z0 E3 F3) (g := (mkF m 69 #[.val (.int p1), .val (.int (3 : Int32)), .val (.ref o3), .val (.int (1 : Int32))] [(.ref o3)])) rfl (by rw [hml]; rfl) (lenOf pd_0 rfl) rfl (W := 0) (by show 2 * 0 + _ ≤ _; exact Nat.le_of_eq rfl) (hb hby at_69) (by decide) (by decide) (by decide) (by decide)
    have N114 := Fr.app N0 N114q
    refine own_by st114 ?_
    show own_Go p e below _ T114 (mkF m 72 #[.val (.int p1), .val (.int (3 : Int32)), .val (.ref o3), .val (.int (1 : Int32))] [(.int (1 : Int32))])
    refine own_by (fun _ k => XS.iloadN X114.here hx rfl (hb hby at_72) rfl k) ?_
    show own_Go p e below _ T114 (mkF m 73 #[.val (.int p1), .val (.int (3 : Int32)), .val (.ref o3), .val (.int (1 : Int32))] [(.int (1 : Int32)), (.int (1 : Int32))])
    refine own_by (fun _ k => XS.icmpNo X114.here hx rfl (hb hby at_73) rfl (teq (rfl : (1 : Int32) = (1 : Int32))).2 k) ?_
    show own_Go p e below _ T114 (mkF m 76 #[.val (.int p1), .val (.int (3 : Int32)), .val (.ref o3), .val (.int (1 : Int32))] [])
    refine own_by (fun _ k => XS.iconst X114.here hx rfl (hb hby at_76) k) ?_
    show own_Go p e below _ T114 (mkF m 77 #[.val (.int p1), .val (.int (3 : Int32)), .val (.ref o3), .val (.int (1 : Int32))] [(.int (1 : Int32))])
    refine own_by (fun _ k => XS.goto X114.here hx rfl (pc0 := 77) (pc' := 81) rfl (hb hby at_77) (by decide) (by decide) k) ?_
    show own_Go p e below _ T114 (mkF m 81 #[.val (.int p1), .val (.int (3 : Int32)), .val (.ref o3), .val (.int (1 : Int32))] [(.int (1 : Int32))])
    exact own_retN X114 hx hlk hret (by simp) rfl (hb hby at_81) (by first | exact ⟨rfl, N114⟩ | (rw [e114]; exact ⟨rfl, N114⟩)) (by decide) (by decide)
  · show own_Go p e below _ s₁ (mkF m 7 #[.val (.int p1), .val (.int ((p1 &&& (2147483647 : Int32)) % (5 : Int32))), .unset, .unset] [])
    rw [hk]
    show own_Go p e below _ s₁ (mkF m 7 #[.val (.int p1), .val (.int (4 : Int32)), .unset, .unset] [])
    refine own_by (fun _ k => XS.iloadN X0.here hx rfl (hb hby at_7) rfl k) ?_
    show own_Go p e below _ s₁ (mkF m 8 #[.val (.int p1), .val (.int (4 : Int32)), .unset, .unset] [(.int (4 : Int32))])
    refine own_by (fun _ k => XS.ifYes X0.here hx rfl (pc0 := 8) (pc' := 20) rfl (hb hby at_8) rfl ((if0 _ _).trans (feq (by decide : ¬ ((4 : Int32) = (0 : Int32)))).2) (by decide) (by decide) k) ?_
    show own_Go p e below _ s₁ (mkF m 20 #[.val (.int p1), .val (.int (4 : Int32)), .unset, .unset] [])
    refine own_by (fun _ k => XS.iloadN X0.here hx rfl (hb hby at_20) rfl k) ?_
    show own_Go p e below _ s₁ (mkF m 21 #[.val (.int p1), .val (.int (4 : Int32)), .unset, .unset] [(.int (4 : Int32))])
    refine own_by (fun _ k => XS.iconst X0.here hx rfl (hb hby at_21) k) ?_
    show own_Go p e below _ s₁ (mkF m 22 #[.val (.int p1), .val (.int (4 : Int32)), .unset, .unset] [(.int (1 : Int32)), (.int (4 : Int32))])
    refine own_by (fun _ k => XS.icmpYes X0.here hx rfl (pc0 := 22) (pc' := 34) rfl (hb hby at_22) rfl (feq (by decide : ¬ ((4 : Int32) = (1 : Int32)))).2 (by decide) (by decide) k) ?_
    show own_Go p e below _ s₁ (mkF m 34 #[.val (.int p1), .val (.int (4 : Int32)), .unset, .unset] [])
    refine own_by (fun _ k => XS.iloadN X0.here hx rfl (hb hby at_34) rfl k) ?_
    show own_Go p e below _ s₁ (mkF m 35 #[.val (.int p1), .val (.int (4 : Int32)), .unset, .unset] [(.int (4 : Int32))])
    refine own_by (fun _ k => XS.iconst X0.here hx rfl (hb hby at_35) k) ?_
    show own_Go p e below _ s₁ (mkF m 36 #[.val (.int p1), .val (.int (4 : Int32)), .unset, .unset] [(.int (2 : Int32)), (.int (4 : Int32))])
    refine own_by (fun _ k => XS.icmpYes X0.here hx rfl (pc0 := 36) (pc' := 48) rfl (hb hby at_36) rfl (feq (by decide : ¬ ((4 : Int32) = (2 : Int32)))).2 (by decide) (by decide) k) ?_
    show own_Go p e below _ s₁ (mkF m 48 #[.val (.int p1), .val (.int (4 : Int32)), .unset, .unset] [])
    refine own_by (fun _ k => XS.iloadN X0.here hx rfl (hb hby at_48) rfl k) ?_
    show own_Go p e below _ s₁ (mkF m 49 #[.val (.int p1), .val (.int (4 : Int32)), .unset, .unset] [(.int (4 : Int32))])
    refine own_by (fun _ k => XS.iconst X0.here hx rfl (hb hby at_49) k) ?_
    show own_Go p e below _ s₁ (mkF m 50 #[.val (.int p1), .val (.int (4 : Int32)), .unset, .unset] [(.int (3 : Int32)), (.int (4 : Int32))])
    refine own_by (fun _ k => XS.icmpYes X0.here hx rfl (pc0 := 50) (pc' := 62) rfl (hb hby at_50) rfl (feq (by decide : ¬ ((4 : Int32) = (3 : Int32)))).2 (by decide) (by decide) k) ?_
    show own_Go p e below _ s₁ (mkF m 62 #[.val (.int p1), .val (.int (4 : Int32)), .unset, .unset] [])
    obtain ⟨T115, X115, e115, st115⟩ := getS2 X0 hx hZ hown (host := "") (Or.inl (hw _ (List.mem_of_getElem? (i := 22) rfl))) Via.refl e0 S4 (g := (mkF m 62 #[.val (.int p1), .val (.int (4 : Int32)), .unset, .unset] [])) rfl (hb hby at_62)
    refine own_by st115 ?_
    show own_Go p e below _ T115 (mkF m 65 #[.val (.int p1), .val (.int (4 : Int32)), .unset, .unset] [(.ref o4)])
    refine own_by (fun _ k => XS.astoreN X115.here hx rfl (hb hby at_65) rfl rfl (l' := #[.val (.int p1), .val (.int (4 : Int32)), .val (.ref o4), .unset]) rfl k) ?_
    show own_Go p e below _ T115 (mkF m 66 #[.val (.int p1), .val (.int (4 : Int32)), .val (.ref o4), .unset] [])
    refine own_by (fun _ k => XS.iconst X115.here hx rfl (hb hby at_66) k) ?_
    show own_Go p e below _ T115 (mkF m 67 #[.val (.int p1), .val (.int (4 : Int32)), .val (.ref o4), .unset] [(.int (2 : Int32))])
    refine own_by (fun _ k => XS.istoreN X115.here hx rfl (hb hby at_67) rfl (l' := #[.val (.int p1), .val (.int (4 : Int32)), .val (.ref o4), .val (.int (2 : Int32))]) rfl k) ?_
    show own_Go p e below _ T115 (mkF m 68 #[.val (.int p1), .val (.int (4 : Int32)), .val (.ref o4), .val (.int (2 : Int32))] [])
    refine own_by (fun _ k => XS.aloadN X115.here hx rfl (hb hby at_68) rfl rfl k) ?_
    show own_Go p e below _ T115 (mkF m 69 #[.val (.int p1), .val (.int (4 : Int32)), .val (.ref o4), .val (.int (2 : Int32))] [(.ref o4)])
    obtain ⟨_, T116, L116, X116, ⟨rfl, N116q, e116⟩, st116⟩ := own_callV X115 hx hZ hown (y := (⟨"com/example/tabularium/tabularium/archive/Outcome", "exitStatus", "()I"⟩ : MethodName)) (C := "com/example/tabularium/tabularium/archive/Outcome") (hw _ (List.mem_of_getElem? (i := 4) rfl)) (hw _ (List.mem_of_getElem? (i := 5) rfl)) (hw _ (List.mem_of_getElem? (i := 7) rfl)) (hw _ (List.mem_of_getElem? (i := 6) rfl)) (hw _ (List.mem_of_getElem? (i := 2) rfl)) (hw _ (List.mem_of_getElem? (i := 8) rfl)) (by decide) (a := o4) E4 (argsL := []) (rest := []) e115 (rm1_4 l Z a0 hw [] o4 h0 n0 Z0 E4 F4) (g := (mkF m 69 #[.val (.int p1), .val (.int (4 : Int32)), .val (.ref o4), .val (.int (2 : Int32))] [(.ref o4)])) rfl (by rw [hml]; rfl) (lenOf pd_0 rfl) rfl (W := 0) (by show 2 * 0 + _ ≤ _; exact Nat.le_of_eq rfl) (hb hby at_69) (by decide) (by decide) (by decide) (by decide)
    have N116 := Fr.app N0 N116q
    refine own_by st116 ?_
    show own_Go p e below _ T116 (mkF m 72 #[.val (.int p1), .val (.int (4 : Int32)), .val (.ref o4), .val (.int (2 : Int32))] [(.int (2 : Int32))])
    refine own_by (fun _ k => XS.iloadN X116.here hx rfl (hb hby at_72) rfl k) ?_
    show own_Go p e below _ T116 (mkF m 73 #[.val (.int p1), .val (.int (4 : Int32)), .val (.ref o4), .val (.int (2 : Int32))] [(.int (2 : Int32)), (.int (2 : Int32))])
    refine own_by (fun _ k => XS.icmpNo X116.here hx rfl (hb hby at_73) rfl (teq (rfl : (2 : Int32) = (2 : Int32))).2 k) ?_
    show own_Go p e below _ T116 (mkF m 76 #[.val (.int p1), .val (.int (4 : Int32)), .val (.ref o4), .val (.int (2 : Int32))] [])
    refine own_by (fun _ k => XS.iconst X116.here hx rfl (hb hby at_76) k) ?_
    show own_Go p e below _ T116 (mkF m 77 #[.val (.int p1), .val (.int (4 : Int32)), .val (.ref o4), .val (.int (2 : Int32))] [(.int (1 : Int32))])
    refine own_by (fun _ k => XS.goto X116.here hx rfl (pc0 := 77) (pc' := 81) rfl (hb hby at_77) (by decide) (by decide) k) ?_
    show own_Go p e below _ T116 (mkF m 81 #[.val (.int p1), .val (.int (4 : Int32)), .val (.ref o4), .val (.int (2 : Int32))] [(.int (1 : Int32))])
    exact own_retN X116 hx hlk hret (by simp) rfl (hb hby at_81) (by first | exact ⟨rfl, N116⟩ | (rw [e116]; exact ⟨rfl, N116⟩)) (by decide) (by decide)
set_option maxRecDepth 65536 in
set_option maxHeartbeats 40000000 in
theorem comes_1 {Post : Tables → Env → Array Value → State → Outcome → State → Prop} (hpost : ∀ tb e args s v u, (limb_1_1.after args s (.returned v) u = true ∧ limb_1_2.after args s (.returned v) u = true ∧ True) → FrameEnd s (.returned v) u (Jvm.fieldLocs frame_1_writes args s ++ Jvm.arrayLocs frame_1_arrays args s ++ Jvm.staticLocs frame_1_statics s) 0 0 → Post tb e args s (.returned v) u) :
    ArmFor flags0 classFile x code maxLocals ret World_1 tables_1 room_1 Calls_1 rest_1 Pre_1 Post := by
  intro l hfl _ _ p e ha hc hk s m args below hf hA hF happ hP
  obtain ⟨hcalls, hrest, hpre⟩ := hP
  obtain ⟨-, -, -, hnamed, -, -, -, hat⟩ := (Spec.applies_iff hf).mp happ
  obtain ⟨hg, hn⟩ := and_e (Cond.before_iff.mp (show (Jvm.Cond.and given_1 narrow_1).before args s = true from hpre))
  obtain ⟨g1, g2⟩ := and_e hg
  obtain ⟨w0, rfl⟩ : ∃ w0 : Value, args = #[w0] := by
    have hs : args.size = 1 := by simpa [Cond.value, given_1] using g1
    obtain ⟨L⟩ := args
    match L, hs with
    | [w0], _ => exact ⟨w0, rfl⟩
  have hw := fun d (hd : d ∈ tables_1) => atoms_spec (ws := Jvm.Cond.code x code maxLocals ret :: tables_1) hat d (List.mem_cons_of_mem _ hd)
  have hfit : Fit s := fun {y c} hc i hi => by
    obtain ⟨ha, rfl⟩ := Array.getElem?_eq_some_iff.mp hc
    have q := List.all_eq_true.mp ((Array.all_eq_true_iff_forall_mem.mp hF) _ (Array.getElem_mem ha)) i (List.mem_range.mpr hi)
    simpa [Array.getElem?_eq_getElem hi] using q
  obtain ⟨i0, ei0⟩ := is_v g2
  obtain rfl : w0 = (.int i0) := Option.some.inj ei0
  obtain ⟨m0, hn⟩ := and_e hn
  obtain ⟨f0, hn⟩ := and_e hn
  obtain ⟨m3, hn⟩ := and_e hn
  obtain ⟨f3, hn⟩ := and_e hn
  obtain ⟨m1, hn⟩ := and_e hn
  obtain ⟨f1, hn⟩ := and_e hn
  obtain ⟨m4, hn⟩ := and_e hn
  obtain ⟨f4, hn⟩ := and_e hn
  obtain ⟨m2, hn⟩ := and_e hn
  have f2 := hn
  obtain ⟨o0, ev0, S0, E0⟩ := own_sta m0 (hw _ (List.mem_of_getElem? (i := 2) rfl)) (hw _ (List.mem_of_getElem? (i := 3) rfl))
  have F0 := own_fldI ev0 f0
  obtain ⟨o1, ev1, S1, E1⟩ := own_sta m1 (hw _ (List.mem_of_getElem? (i := 2) rfl)) (hw _ (List.mem_of_getElem? (i := 21) rfl))
  have F1 := own_fldI ev1 f1
  obtain ⟨o2, ev2, S2, E2⟩ := own_sta m2 (hw _ (List.mem_of_getElem? (i := 2) rfl)) (hw _ (List.mem_of_getElem? (i := 25) rfl))
  have F2 := own_fldI ev2 f2
  obtain ⟨o3, ev3, S3, E3⟩ := own_sta m3 (hw _ (List.mem_of_getElem? (i := 2) rfl)) (hw _ (List.mem_of_getElem? (i := 19) rfl))
  have F3 := own_fldI ev3 f3
  obtain ⟨o4, ev4, S4, E4⟩ := own_sta m4 (hw _ (List.mem_of_getElem? (i := 2) rfl)) (hw _ (List.mem_of_getElem? (i := 23) rfl))
  have F4 := own_fldI ev4 f4
  obtain ⟨n, o, h1, h2, h3, _, L, rfl, ⟨rfl, N⟩, hq⟩ := rm0 l s _ hw tables_1 i0 o0 o1 o2 o3 o4 s.heap s.heap.size (Nat.le_refl _) S0 E0 F0 S1 E1 F1 S2 E2 F2 S3 E3 F3 S4 E4 F4 p e ha hc hk s m _ below hf ((Spec.applies_iff_loose hf).mp happ).1 ⟨rfl, State.Warmed39.refl s, rfl⟩ trivial
  refine ⟨n, _, h1, h2, h3, hpost _ _ _ _ _ _ ⟨Cond.after_iff.mpr rfl, Cond.after_iff.mpr (eq_i res_at (Term.int_eval (1)) rfl), trivial⟩ ⟨hq.1, hq.2.1, (hq.2.2.sift fun y hy => Or.inr (N y hy)).mono (by decide) (by decide)⟩⟩
theorem main_1_1 : Claimed_1_1 := comes_1 fun _ _ _ _ _ _ h hF => ⟨h.1, hF⟩
theorem main_1_2 : Claimed_1_2 := comes_1 fun _ _ _ _ _ _ h hF => ⟨h.2.1, hF⟩
end Jvm.Pilot.@@N@@
namespace Jvm.Pilot.@@N@@
open Jvm Jvm.ClassFile Sem Op Lib Jvm.Free Jvm.Stand Jvm.Pilot.@@N@@.Jvm.D
/-! MADE BY PROGRAM (witnessworld.py) out of the Statement's table words and the real class files: 12 classes; the members and pool entries that the words name. The judged class is class 1, her method 1. -/
namespace start1
open Jvm.ClassFile
def u (s : String) : CpInfo := .utf8 (stringToUtf16 s)
/-- a pool by its gaps: so many unusable entries, then the entry; so many at the end -/
def gap : Nat → List CpInfo → List CpInfo
  | 0, r => r
  | n + 1, r => .unusable :: gap n r
def poolList (es : List (Nat × CpInfo)) (last : Nat) : List CpInfo := es.foldr (fun e r => gap e.1 (e.2 :: r)) (gap last [])
def pool (es : List (Nat × CpInfo)) (last : Nat) : Array CpInfo := ⟨poolList es last⟩
def fileOf (pool : Array CpInfo) (this : Nat) (attrs : Array Attribute := #[]) (ms : Array MethodInfo := #[]) (fl : Nat := 33) (sup : Nat := 0) (ifs : Array Nat := #[]) (fds : Array FieldInfo := #[]) : ClassFile where
  minorVersion := 0
  majorVersion := 65
  constantPool := pool
  accessFlags := fl
  thisClass := this
  superClass := sup
  interfaces := ifs
  fields := fds
  methods := ms
  attributes := attrs
def plain (name : String) (sup : Option ClassId) : Class where
  name := name
  kind := .ordinary
  loader := none
  accessFlags := 33
  super := sup
  interfaces := #[]
  cf := none
  fields := #[]
  methods := #[]
  instanceTypes := #[]
  staticTypes := #[]
  resolved := #[]
  callSites := []
  init := .initialized
  statics := none
  mirror := none

def pool0 : Array CpInfo := pool [(5, u "<init>"), (0, u "()V"), (1, .class_ 10), (1, u "java/lang/Object")] 113

def k0m0 : Method := { name := "<init>", desc := "()V", sig := { parameters := [], returnType := none }, accessFlags := 1, code := none }
/-- java/lang/Object -/
def k0 : Class := { plain "java/lang/Object" none with
  accessFlags := 33
  interfaces := #[]
  cf := some (fileOf pool0 8 #[] #[{ accessFlags := 1, nameIndex := 5, descriptorIndex := 6, attributes := #[] }] 33 0 #[] #[])
  fields := #[]
  methods := #[k0m0]
  instanceTypes := #[]
  staticTypes := #[]
  resolved := Array.replicate 124 none
  statics := none }

def pool1 : Array CpInfo := pool [(2, .class_ 4), (1, u "java/lang/Object"), (0, u "<init>"), (0, u "()V"), (0, .integer 2147483647), (0, .fieldref 9 10), (0, .class_ 11), (0, .nameAndType 12 13), (0, u "com/example/tabularium/tabularium/archive/Outcome"), (0, u "STARTED"), (0, u "Lcom/example/tabularium/tabularium/archive/Outcome;"), (0, .fieldref 9 15), (0, .nameAndType 16 13), (0, u "OK"), (0, .fieldref 9 18), (0, .nameAndType 19 13), (0, u "WARNING"), (0, .fieldref 9 21), (0, .nameAndType 22 13), (0, u "KO"), (0, .fieldref 9 24), (0, .nameAndType 25 13), (0, u "FATAL"), (0, .methodref 9 27), (0, .nameAndType 28 29), (0, u "exitStatus"), (0, u "()I"), (0, .class_ 31), (0, u "com/example/tabularium/tabularium/archive/OutcomeExitStatusPinLaw"), (2, u "law"), (0, u "(I)Z")] 3

def k1m0 : Method := { name := "<init>", desc := "()V", sig := { parameters := [], returnType := none }, accessFlags := 1, code := none }
def k1c1 : Code := { maxStack := 2, maxLocals := 4, code := code, exceptionTable := #[], attributes := #[] }
def k1m1 : Method := { name := "law", desc := "(I)Z", sig := { parameters := [.int], returnType := some .boolean }, accessFlags := 9, code := some k1c1 }
/-- com/example/tabularium/tabularium/archive/OutcomeExitStatusPinLaw -/
def k1 : Class := { plain "com/example/tabularium/tabularium/archive/OutcomeExitStatusPinLaw" (some 0) with
  accessFlags := 49
  interfaces := #[]
  cf := some (fileOf pool1 30 #[] #[{ accessFlags := 1, nameIndex := 5, descriptorIndex := 6, attributes := #[] }, { accessFlags := 9, nameIndex := 34, descriptorIndex := 35, attributes := #[] }] 49 2 #[] #[])
  fields := #[]
  methods := #[k1m0, k1m1]
  instanceTypes := #[]
  staticTypes := #[]
  resolved := Array.replicate 39 none
  statics := none }

def pool2 : Array CpInfo := pool [(1, .class_ 2), (0, u "java/lang/constant/Constable"), (0, .class_ 4), (0, u "java/lang/Object")] 6

/-- java/lang/constant/Constable -/
def k2 : Class := { plain "java/lang/constant/Constable" (some 0) with
  accessFlags := 1537
  interfaces := #[]
  cf := some (fileOf pool2 1 #[] #[] 1537 3 #[] #[])
  fields := #[]
  methods := #[]
  instanceTypes := #[]
  staticTypes := #[]
  resolved := Array.replicate 11 none
  statics := none }

def pool3 : Array CpInfo := pool [(1, .class_ 2), (0, u "java/lang/Comparable"), (0, .class_ 4), (0, u "java/lang/Object")] 7

/-- java/lang/Comparable -/
def k3 : Class := { plain "java/lang/Comparable" (some 0) with
  accessFlags := 1537
  interfaces := #[]
  cf := some (fileOf pool3 1 #[] #[] 1537 3 #[] #[])
  fields := #[]
  methods := #[]
  instanceTypes := #[]
  staticTypes := #[]
  resolved := Array.replicate 12 none
  statics := none }

def pool4 : Array CpInfo := pool [(1, .class_ 2), (0, u "java/io/Serializable"), (0, .class_ 4), (0, u "java/lang/Object")] 2

/-- java/io/Serializable -/
def k4 : Class := { plain "java/io/Serializable" (some 0) with
  accessFlags := 1537
  interfaces := #[]
  cf := some (fileOf pool4 1 #[] #[] 1537 3 #[] #[])
  fields := #[]
  methods := #[]
  instanceTypes := #[]
  staticTypes := #[]
  resolved := Array.replicate 7 none
  statics := none }

def pool5 : Array CpInfo := pool [(2, .class_ 4), (1, u "java/lang/Enum"), (0, u "name"), (0, u "Ljava/lang/String;"), (0, .fieldref 2 8), (0, .nameAndType 9 10), (0, u "ordinal"), (0, u "I"), (1, .class_ 14), (1, u "java/lang/Object"), (4, u "hash"), (86, .class_ 108), (1, u "java/lang/Enum$EnumDesc"), (2, .class_ 112), (0, u "java/lang/constant/Constable"), (0, .class_ 114), (0, u "java/lang/Comparable"), (0, .class_ 116), (0, u "java/io/Serializable"), (9, u "()I")] 77

def k5c0 : Code := { maxStack := 1, maxLocals := 1, code := jdk_37_method_2_code, exceptionTable := #[], attributes := #[] }
def k5m0 : Method := { name := "ordinal", desc := "()I", sig := { parameters := [], returnType := some .int }, accessFlags := 17, code := some k5c0 }
/-- java/lang/Enum -/
def k5 : Class := { plain "java/lang/Enum" (some 0) with
  accessFlags := 1057
  interfaces := #[2, 3, 4]
  cf := some (fileOf pool5 2 #[.nestMembers #[106]] #[{ accessFlags := 17, nameIndex := 9, descriptorIndex := 126, attributes := #[] }] 1057 12 #[111, 113, 115] #[{ accessFlags := 18, nameIndex := 5, descriptorIndex := 6, attributes := #[] }, { accessFlags := 18, nameIndex := 9, descriptorIndex := 10, attributes := #[] }, { accessFlags := 2, nameIndex := 19, descriptorIndex := 10, attributes := #[] }])
  fields := #[{ name := "name", type := (.object "java/lang/String"), accessFlags := 18, slot := 0, constantValue := 0 }, { name := "ordinal", type := .int, accessFlags := 18, slot := 1, constantValue := 0 }, { name := "hash", type := .int, accessFlags := 2, slot := 2, constantValue := 0 }]
  methods := #[k5m0]
  instanceTypes := #[(.object "java/lang/String"), .int, .int]
  staticTypes := #[]
  resolved := Array.replicate 204 none
  statics := none }

def pool6 : Array CpInfo := pool [(1, .class_ 2), (0, u "com/example/tabularium/tabularium/archive/Outcome"), (2, u "STARTED"), (0, u "Lcom/example/tabularium/tabularium/archive/Outcome;"), (2, u "OK"), (2, u "WARNING"), (2, u "KO"), (2, u "FATAL"), (2, u "$VALUES"), (0, u "[Lcom/example/tabularium/tabularium/archive/Outcome;"), (6, .class_ 31), (1, u "java/lang/Enum"), (8, u "messagePrefix"), (0, u "Ljava/lang/String;"), (9, .methodref 1 52), (0, .nameAndType 53 54), (0, u "ordinal"), (0, u "()I"), (32, u "exitStatus")] 23

def k6c0 : Code := { maxStack := 1, maxLocals := 1, code := prog_15_method_6_code, exceptionTable := #[], attributes := #[] }
def k6m0 : Method := { name := "exitStatus", desc := "()I", sig := { parameters := [], returnType := some .int }, accessFlags := 1, code := some k6c0 }
/-- com/example/tabularium/tabularium/archive/Outcome -/
def k6 : Class := { plain "com/example/tabularium/tabularium/archive/Outcome" (some 5) with
  accessFlags := 16433
  interfaces := #[]
  cf := some (fileOf pool6 1 #[] #[{ accessFlags := 1, nameIndex := 87, descriptorIndex := 54, attributes := #[] }] 16433 29 #[] #[{ accessFlags := 16409, nameIndex := 5, descriptorIndex := 6, attributes := #[] }, { accessFlags := 16409, nameIndex := 9, descriptorIndex := 6, attributes := #[] }, { accessFlags := 16409, nameIndex := 12, descriptorIndex := 6, attributes := #[] }, { accessFlags := 16409, nameIndex := 15, descriptorIndex := 6, attributes := #[] }, { accessFlags := 16409, nameIndex := 18, descriptorIndex := 6, attributes := #[] }, { accessFlags := 18, nameIndex := 40, descriptorIndex := 41, attributes := #[] }, { accessFlags := 4122, nameIndex := 21, descriptorIndex := 22, attributes := #[] }])
  fields := #[{ name := "STARTED", type := (.object "com/example/tabularium/tabularium/archive/Outcome"), accessFlags := 16409, slot := 0, constantValue := 0 }, { name := "OK", type := (.object "com/example/tabularium/tabularium/archive/Outcome"), accessFlags := 16409, slot := 1, constantValue := 0 }, { name := "WARNING", type := (.object "com/example/tabularium/tabularium/archive/Outcome"), accessFlags := 16409, slot := 2, constantValue := 0 }, { name := "KO", type := (.object "com/example/tabularium/tabularium/archive/Outcome"), accessFlags := 16409, slot := 3, constantValue := 0 }, { name := "FATAL", type := (.object "com/example/tabularium/tabularium/archive/Outcome"), accessFlags := 16409, slot := 4, constantValue := 0 }, { name := "messagePrefix", type := (.object "java/lang/String"), accessFlags := 18, slot := 3, constantValue := 0 }, { name := "$VALUES", type := (.array (.object "com/example/tabularium/tabularium/archive/Outcome")), accessFlags := 4122, slot := 5, constantValue := 0 }]
  methods := #[k6m0]
  instanceTypes := #[(.object "java/lang/String"), .int, .int, (.object "java/lang/String")]
  staticTypes := #[(.object "com/example/tabularium/tabularium/archive/Outcome"), (.object "com/example/tabularium/tabularium/archive/Outcome"), (.object "com/example/tabularium/tabularium/archive/Outcome"), (.object "com/example/tabularium/tabularium/archive/Outcome"), (.object "com/example/tabularium/tabularium/archive/Outcome"), (.array (.object "com/example/tabularium/tabularium/archive/Outcome"))]
  resolved := Array.replicate 111 none
  statics := some 0 }

def pool7 : Array CpInfo := pool [(1, u "java/lang/Cloneable"), (0, .class_ 1), (0, u "java/lang/Object"), (0, .class_ 3)] 3

/-- java/lang/Cloneable -/
def k7 : Class := { plain "java/lang/Cloneable" (some 0) with
  accessFlags := 1537
  interfaces := #[]
  cf := some (fileOf pool7 2 #[] #[] 1537 4 #[] #[])
  fields := #[]
  methods := #[]
  instanceTypes := #[]
  staticTypes := #[]
  resolved := Array.replicate 8 none
  statics := none }

/-- the primitive byte -/
def k8 : Class := { plain "byte" none with kind := .primitive 'B', accessFlags := 0x411 }
/-- [B -/
def k9 : Class := { plain "[B" (some 0) with kind := .array 8 .byte, interfaces := #[7, 4], accessFlags := 1041 }

/-- the primitive int -/
def k10 : Class := { plain "int" none with kind := .primitive 'I', accessFlags := 0x411 }
/-- [I -/
def k11 : Class := { plain "[I" (some 0) with kind := .array 10 .int, interfaces := #[7, 4], accessFlags := 1041 }

def heap : Heap := #[{ cls := 6, slots := #[.ref 1, .ref 2, .ref 3, .ref 4, .ref 5, .null], vm := .statics 6 },
  { cls := 6, slots := #[.null, .int 0, .int 0, .null], vm := .none },
  { cls := 6, slots := #[.null, .int 1, .int 0, .null], vm := .none },
  { cls := 6, slots := #[.null, .int 2, .int 0, .null], vm := .none },
  { cls := 6, slots := #[.null, .int 3, .int 0, .null], vm := .none },
  { cls := 6, slots := #[.null, .int 4, .int 0, .null], vm := .none }]
def classes : Array Class := #[k0, k1, k2, k3, k4, k5, k6, k7, k8, k9, k10, k11]
def interned : List (Array UInt16 × Addr) := []
def slotsUsed : Nat := 26
def theMethod : MethodId := ⟨1, 1⟩
def args0 : Array Value := #[.int 1]
def aboutOver (below : List Frame) : State where
  vm := { classes := classes, interned := interned.toArray }
  heap := heap
  slotsUsed := slotsUsed
  threads := #[{ frames := .invoking theMethod args0 :: below }]
def below0 : List Frame := [.native { method := ⟨0, 0⟩, args := #[] }]
def about1 : State := aboutOver below0
def p0 : Program := .bare "" "" ""
def e0 : Env := launch0.env 0 0 0
theorem w_frames : about1.frames = Frame.invoking theMethod args0 :: below0 := rfl
set_option maxRecDepth 65536 in
theorem w_args : argsFit about1.vm theMethod args0 = true := by decide +kernel
set_option maxRecDepth 65536 in
theorem w_heap : heapFits about1 = true := by decide +kernel
set_option maxRecDepth 65536 in
theorem w_runnable : about1.curStatus? = some .runnable := by decide +kernel
set_option maxRecDepth 65536 in
theorem w_alone : about1.alone = true := by decide +kernel
set_option maxRecDepth 65536 in
theorem w_named : about1.methodNamed? x = some theMethod := by decide +kernel
set_option maxRecDepth 65536 in
theorem w_hears : about1.hears theMethod below0 = true := by decide +kernel
set_option maxRecDepth 65536 in
theorem w_ripe : about1.ripe theMethod args0 below0 = true := by decide +kernel
theorem w_running : about1.status = .running := rfl
set_option maxRecDepth 65536 in
theorem w_room : about1.hasRoom e0.platform room_1 = true :=
  launch0.hasRoom_least _ room_1 (by decide +kernel) (by decide +kernel) (by decide +kernel) (by decide +kernel) (by decide +kernel) (by decide +kernel)
theorem allAtoms_all (ts : List Jvm.Cond) (a : Array Jvm.Value) (st : Jvm.State) : (allAtoms ts).before a st = ts.all (fun c => c.before a st) := by
  induction ts with
  | nil => rfl
  | cons c t ih =>
    show (Jvm.Cond.and c (allAtoms t)).before a st = _
    rw [Jvm.Cond.before_and, ih, List.all_cons]
def words1 : List Jvm.Cond := Jvm.Cond.code x code maxLocals ret :: tables_1
/-- a 'code' word, met by the world's own term for the bytes: nothing is compared byte by byte -/
theorem code_word {y : MethodName} {bytes : ByteArray} {mx : Nat} {rt : Option FieldType} {a : Array Value} {s : State} {m : MethodId} {meth : Method} {c : Code} (h1 : s.methodNamed? y = some m) (h2 : s.vm.method? m = some meth) (h3 : meth.code = some c) (h4 : c.code = bytes)
    (h5 : (c.maxLocals == mx && c.exceptionTable.isEmpty && decide (c.maxStack ≤ mostOperands) && decide (meth.sig.returnType = rt) && !meth.locks && decide (parseMethodDescriptor y.desc = some meth.sig)) = true) : (Jvm.Cond.code y bytes mx rt).before a s = true := by
  simp only [Bool.and_eq_true, beq_iff_eq, Bool.not_eq_true', decide_eq_true_eq] at h5
  obtain ⟨⟨⟨⟨⟨g1, g2⟩, g3⟩, g4⟩, g5⟩, g6⟩ := h5
  simp [Cond.before, Cond.holds, Cond.value, h1, h2, h3, h4, g1, g2, g3, g4, g5, g6]
def isCode : Jvm.Cond → Bool
  | .code _ _ _ _ => true
  | _ => false
theorem all_split {L : List Jvm.Cond} {P : Jvm.Cond → Bool} (h1 : L.all (fun c => isCode c || P c) = true) (h2 : ∀ c ∈ L.filter isCode, P c = true) : L.all P = true := by
  refine List.all_eq_true.mpr fun c hc => ?_
  have h := List.all_eq_true.mp h1 c hc
  rcases Bool.eq_false_or_eq_true (isCode c) with hi | hi
  · exact h2 c (List.mem_filter.mpr ⟨hc, hi⟩)
  · simpa [hi] using h
set_option maxRecDepth 65536 in
theorem w_c0 : (Jvm.Cond.code x code maxLocals ret).before args0 about1 = true := code_word (m := ⟨1, 1⟩) (meth := k1m1) (c := k1c1) (by decide +kernel) rfl rfl rfl (by decide +kernel)
set_option maxRecDepth 65536 in
theorem w_c1 : (Jvm.Cond.code ({ cls := "com/example/tabularium/tabularium/archive/Outcome", name := "exitStatus", desc := "()I" } : Jvm.MethodName) prog_15_method_6_code (1 : Nat) (Option.some Jvm.ClassFile.FieldType.int)).before args0 about1 = true := code_word (m := ⟨6, 0⟩) (meth := k6m0) (c := k6c0) (by decide +kernel) rfl rfl rfl (by decide +kernel)
set_option maxRecDepth 65536 in
theorem w_c2 : (Jvm.Cond.code ({ cls := "java/lang/Enum", name := "ordinal", desc := "()I" } : Jvm.MethodName) jdk_37_method_2_code (1 : Nat) (Option.some Jvm.ClassFile.FieldType.int)).before args0 about1 = true := code_word (m := ⟨5, 0⟩) (meth := k5m0) (c := k5c0) (by decide +kernel) rfl rfl rfl (by decide +kernel)
def codes1 : List Jvm.Cond := [Jvm.Cond.code x code maxLocals ret, Jvm.Cond.code ({ cls := "com/example/tabularium/tabularium/archive/Outcome", name := "exitStatus", desc := "()I" } : Jvm.MethodName) prog_15_method_6_code (1 : Nat) (Option.some Jvm.ClassFile.FieldType.int), Jvm.Cond.code ({ cls := "java/lang/Enum", name := "ordinal", desc := "()I" } : Jvm.MethodName) jdk_37_method_2_code (1 : Nat) (Option.some Jvm.ClassFile.FieldType.int)]
set_option maxRecDepth 65536 in
theorem codes_eq : words1.filter isCode = codes1 := rfl
theorem w_codes : ∀ c ∈ words1.filter isCode, c.before args0 about1 = true := by
  rw [codes_eq]
  intro c hc
  simp only [codes1, List.mem_cons, List.not_mem_nil, or_false] at hc
  rcases hc with rfl | rfl | rfl
  · exact w_c0
  · exact w_c1
  · exact w_c2
set_option maxRecDepth 65536 in
theorem w_t1 : (words1.take 24).all (fun c => isCode c || c.before args0 about1) = true := by decide +kernel
set_option maxRecDepth 65536 in
theorem w_t2 : (words1.drop 24).all (fun c => isCode c || c.before args0 about1) = true := by decide +kernel
theorem w_tables : (allAtoms (Jvm.Cond.code x code maxLocals ret :: tables_1)).before args0 about1 = true := by
  rw [allAtoms_all]
  show words1.all (fun c => c.before args0 about1) = true
  refine all_split ?_ w_codes
  rw [← List.take_append_drop 24 words1, List.all_append, w_t1, w_t2]
  rfl
set_option maxRecDepth 65536 in
theorem w_case : (Jvm.Cond.and given_1 narrow_1).before args0 about1 = true := by decide +kernel
theorem w_applies : (headSpec (Jvm.Cond.code x code maxLocals ret :: tables_1) room_1).applies x e0.platform about1 = true :=
  (Spec.applies_iff w_frames).mpr ⟨w_running, w_runnable, w_alone, w_named, w_hears, w_ripe, w_room, w_tables⟩
theorem atStart : AtStart classFile x code maxLocals ret World_1 tables_1 room_1 Calls_1 rest_1 Pre_1 launch0 p0 e0 about1 theMethod args0 below0 :=
  ⟨lists_1, trivial, launch0.admits_env _ _ _, launch0.least_env, fairChoices_fair.cas, fairChoices_fair.clock, w_frames, w_args, w_heap, w_applies, trivial, trivial, w_case⟩
end start1
theorem witness_1 : WitnessClaimed_1 := ⟨start1.p0, start1.e0, start1.about1, start1.theMethod, start1.args0, start1.below0, start1.atStart⟩
end Jvm.Pilot.@@N@@
