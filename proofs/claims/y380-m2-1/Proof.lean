import JvmDerived
import JvmDerived.Pilot.@@N@@Statement
import JvmDerived.Pilot.@@N@@Code
set_option linter.unusedVariables false
set_option linter.unusedSimpArgs false
namespace Jvm.Pilot.@@N@@
open Jvm Jvm.ClassFile Sem Op Lib Jvm.Free Jvm.Stand Jvm.LawKit Jvm.RoadKit Bundle Jvm.Pilot.@@N@@.Jvm.D
section OwnKit
variable {p : Program} {l : Launch} {e : Env} {R : Room} {s : State} {m : MethodId} {args : Array Value} {below : List Frame} {meth : Method} {c : Code} {T T' : State} {locs : List Loc} {cells slots : Nat} {Z : State} {a0 : Array Value} {h : Heap}
/-- from here the run comes to an end of which E speaks -/
def own_Go (p : Program) (e : Env) (below : List Frame) (E : State → Outcome → Prop) (T : State) (g : JFrame) : Prop :=
  ∃ t o, Steps p.tables e below (T.setTop g) t ∧ t.status = .running ∧ Ended t below o ∧ E t o
def own_End (s : State) (k n : Nat) (Q : Option Value → Heap → List Loc → Prop) (t : State) (o : Outcome) : Prop :=
  ∃ v L, o = .returned v ∧ Q v t.heap L ∧ FrameEnd s o t L k n
theorem own_by {E : State → Outcome → Prop} {g g' : JFrame} (st : ∀ target, Steps p.tables e below (T'.setTop g') target → Steps p.tables e below (T.setTop g) target) (k : own_Go p e below E T' g') : own_Go p e below E T g := by
  obtain ⟨t, o, h1, r⟩ := k
  exact ⟨t, o, st t h1, r⟩
theorem own_retW (X : Stand p l e R s m args below meth c T locs cells slots) (hx : p.tables.exec = Jvm.exec) (hlk : meth.locks = false) {pc : Nat} {Ls : Array Slot} {w : Value} {t : FieldType} {i : Instr} {rest : List Value} (hret : meth.sig.returnType = some t) (hn : narrow t w = w)
    (hi : (i = .ireturn ∧ (t = .int ∨ t = .boolean ∨ t = .byte ∨ t = .char ∨ t = .short) ∧ ∃ z, w = .int z) ∨ (i = .lreturn ∧ t = .long ∧ ∃ z, w = .long z) ∨ (i = .dreturn ∧ t = .double ∧ ∃ z, w = .double z) ∨ (i = .freturn ∧ t = .float ∧ ∃ z, w = .float z) ∨ (i = .areturn ∧ t.isReference = true ∧ w.isRef = true))
    (hd : decode c.code pc = .ok (i, 1)) {Q : Option Value → Heap → List Loc → Prop} {k n : Nat} (hQ : Q (some w) T.heap locs) (hk : cells ≤ k) (hs : slots ≤ n) : own_Go p e below (own_End s k n Q) T (mkF m pc Ls (w :: rest)) := by
  obtain ⟨fs, hr, hrun, hended, hW, hsame⟩ := X.leave (v := some w) (fun h => by rw [hret] at h; cases h) hlk
  exact ⟨_, _, retOut X hx hret hn hi hd hr, hrun, hended, _, _, rfl, hQ, ⟨_, rfl⟩, hW, hsame.mono hk hs⟩
theorem own_retI (X : Stand p l e R s m args below meth c T locs cells slots) (hx : p.tables.exec = Jvm.exec) (hlk : meth.locks = false) {pc : Nat} {Ls : Array Slot} {z : Int32} {rest : List Value} (hret : meth.sig.returnType = some .int) (hd : decode c.code pc = .ok (.ireturn, 1)) {Q : Option Value → Heap → List Loc → Prop} {k n : Nat} (hQ : Q (some (.int z)) T.heap locs) (hk : cells ≤ k) (hs : slots ≤ n) : own_Go p e below (own_End s k n Q) T (mkF m pc Ls (.int z :: rest)) :=
  own_retW X hx hlk hret rfl (Or.inl ⟨rfl, Or.inl rfl, z, rfl⟩) hd hQ hk hs
theorem own_retJ (X : Stand p l e R s m args below meth c T locs cells slots) (hx : p.tables.exec = Jvm.exec) (hlk : meth.locks = false) {pc : Nat} {Ls : Array Slot} {z : Int64} {rest : List Value} (hret : meth.sig.returnType = some .long) (hd : decode c.code pc = .ok (.lreturn, 1)) {Q : Option Value → Heap → List Loc → Prop} {k n : Nat} (hQ : Q (some (.long z)) T.heap locs) (hk : cells ≤ k) (hs : slots ≤ n) : own_Go p e below (own_End s k n Q) T (mkF m pc Ls (.long z :: rest)) :=
  own_retW X hx hlk hret rfl (Or.inr (Or.inl ⟨rfl, rfl, z, rfl⟩)) hd hQ hk hs
theorem own_retA (X : Stand p l e R s m args below meth c T locs cells slots) (hx : p.tables.exec = Jvm.exec) (hlk : meth.locks = false) {pc : Nat} {Ls : Array Slot} {w : Value} {t : FieldType} {rest : List Value} (hret : meth.sig.returnType = some t) (ht : t.isReference = true) (hw : w.isRef = true) (hd : decode c.code pc = .ok (.areturn, 1)) {Q : Option Value → Heap → List Loc → Prop} {k n : Nat} (hQ : Q (some w) T.heap locs) (hk : cells ≤ k) (hs : slots ≤ n) : own_Go p e below (own_End s k n Q) T (mkF m pc Ls (w :: rest)) :=
  own_retW X hx hlk hret (by cases t <;> first | (cases ht; done) | (cases w <;> first | rfl | (cases hw; done))) (Or.inr (Or.inr (Or.inr (Or.inr ⟨rfl, ht, hw⟩)))) hd hQ hk hs
theorem own_retN (X : Stand p l e R s m args below meth c T locs cells slots) (hx : p.tables.exec = Jvm.exec) (hlk : meth.locks = false) {pc : Nat} {Ls : Array Slot} {z : Int32} {t : FieldType} {rest : List Value} (hret : meth.sig.returnType = some t) (ht : t = .boolean ∨ t = .byte ∨ t = .char ∨ t = .short) (hn : nar t z = z) (hd : decode c.code pc = .ok (.ireturn, 1)) {Q : Option Value → Heap → List Loc → Prop} {k n : Nat} (hQ : Q (some (.int z)) T.heap locs) (hk : cells ≤ k) (hs : slots ≤ n) : own_Go p e below (own_End s k n Q) T (mkF m pc Ls (.int z :: rest)) :=
  own_retW X hx hlk hret (by rcases ht with rfl | rfl | rfl | rfl <;> exact congrArg Value.int hn) (Or.inl ⟨rfl, Or.inr ht, z, rfl⟩) hd hQ hk hs
theorem own_ret0 (X : Stand p l e R s m args below meth c T locs cells slots) (hx : p.tables.exec = Jvm.exec) (hlk : meth.locks = false) {pc : Nat} {Ls : Array Slot} (hret : meth.sig.returnType = none) (hd : decode c.code pc = .ok (.return_, 1)) {Q : Option Value → Heap → List Loc → Prop} {k n : Nat} (hQ : Q none T.heap locs) (hk : cells ≤ k) (hs : slots ≤ n) : own_Go p e below (own_End s k n Q) T (mkF m pc Ls []) := by
  obtain ⟨fs, hr, hrun, hended, hW, hsame⟩ := X.leave (v := none) (fun _ => rfl) hlk
  exact ⟨_, _, X.returnOut hx hret hd hr, hrun, hended, _, _, rfl, hQ, ⟨_, rfl⟩, hW, hsame.mono hk hs⟩
theorem own_lrem {g : JFrame} {target : State} (X : Stand p l e R s m args below meth c T locs cells slots) (hx : p.tables.exec = Jvm.exec) (hg : g.method = m) {x y : Int64} {rest : List Value} (hd : decode c.code g.pc = .ok (.lrem, 1)) (hs : g.stack = .long y :: .long x :: rest) (hy : y ≠ 0)
    (hr : Steps p.tables e below (T.setTop { g with pc := g.pc + 1, stack := .long (x % y) :: rest }) target) : Steps p.tables e below (T.setTop g) target :=
  XS.lrem X.here hx hg hd hs hy (by rw [lrem_mod]; exact hr)
/-- a body's contract: called with as' at the heap h it returns, and Q speaks of what it returns, the heap that it leaves and the places that it wrote -/
abbrev own_Met (l : Launch) (Z : State) (y : MethodName) (bytes : ByteArray) (maxL : Nat) (rt : Option FieldType) (ws : List Jvm.Cond) (rm : Room) (as' : Array Value) (h : Heap) (Q : Option Value → Heap → List Loc → Prop) : Prop :=
  MetFree l y (head1 (Jvm.Cond.code y bytes maxL rt :: ws) rm) (fun a U => a = as' ∧ Z.Warmed39 U.vm ∧ U.heap = h) (fun _ _ _ _ _ => True) (fun _ U o U' => ∃ v L, o = .returned v ∧ Q v U'.heap L ∧ FrameEnd U o U' L rm.cells rm.slots)
theorem own_enter {y : MethodName} {bytes : ByteArray} {maxL : Nat} {rt : Option FieldType} {ws : List Jvm.Cond} {rm : Room} {as' : Array Value} {Q : Option Value → Heap → List Loc → Prop} (hy : plainFor y = true) {g0 : MethodId → JFrame} (hg0 : ∀ m, entryFrame m as' maxL = g0 m)
    (body : ∀ (p : Program) (e : Env) (s : State) (m : MethodId) (below : List Frame) (meth : Method) (c : Code) (s₁ : State), p.tables.exec = Jvm.exec → c.code = bytes → c.maxLocals = maxL → s.vm.findClass y.cls = some m.cls → meth.name = y.name → meth.sig.returnType = rt → meth.locks = false → Z.Warmed39 s.vm → Stand p l e rm s m as' below meth c s₁ [] 0 0 → s₁.heap = h → own_Go p e below (own_End s rm.cells rm.slots Q) s₁ (g0 m)) :
    own_Met l Z y bytes maxL rt ws rm as' h Q := by
  refine MetFree.of_bodySF hy hisR ?_
  intro p e s m args below meth c s₁ Bd hml0 hP hK
  obtain ⟨rfl, hZ, hh⟩ := hP
  obtain ⟨t, o, h1, h2, h3, h4⟩ := body p e s m below meth c s₁ Bd.exec Bd.bytes hml0 (findClass_of_methodNamed Bd.named) (name_of_methodNamed Bd.named Bd.method).1 Bd.returns (BodyLoose.notSynchronized Bd) hZ (Stand.of_body Bd) (by rw [← hh, Bd.state]; rfl)
  exact ⟨t, o, castTop (hg0 m) h1, h2, h3, h4⟩
theorem own_callS (X : Stand p l e R s m args below meth c T locs cells slots) (hx : p.tables.exec = Jvm.exec) (hZ : Z.Warmed39 s.vm) {own : String} (hown : s.vm.findClass own = some m.cls) {index : Nat} {y : MethodName} {bytes : ByteArray} {maxL : Nat} {rt : Option FieldType}
    (w1 : (Jvm.Cond.methodLink own index y).before a0 Z = true) (w2 : (Jvm.Cond.static y).before a0 Z = true) (w3 : (Jvm.Cond.initialized y.cls).before a0 Z = true) (w4 : (Jvm.Cond.code y bytes maxL rt).before a0 Z = true)
    (hy : y.cls ≠ "java/lang/invoke/MethodHandle" ∧ y.cls ≠ "java/lang/invoke/VarHandle") {rm : Room} {argsL rest : List Value} {Q : Option Value → Heap → List Loc → Prop} (eT : T.heap = h) (hM : own_Met l Z y bytes maxL rt [] rm argsL.toArray h Q)
    {g : JFrame} (hg : g.method = m) (hsize : g.locals.size = c.maxLocals) (hlen : ∀ sig, parseMethodDescriptor y.desc = some sig → argsL.length = sig.parameters.length) (hstack : g.stack = argsL.reverse ++ rest) {W : Nat} (hW : 2 * g.monitorRoom + (rest.map fun v => v.category).sum ≤ W) (hd : decode c.code g.pc = .ok (.invokestatic index, 3))
    (hf : rm.frames + 1 ≤ R.frames) (hl : W + (maxL + 11) + rm.locals ≤ R.locals) (hc : cells + rm.cells ≤ R.cells) (hs : slots + rm.slots ≤ R.slots) :
    ∃ v T' L, Stand p l e R s m args below meth c T' (locs ++ L) (cells + rm.cells) (slots + rm.slots) ∧ Q v T'.heap L ∧ ∀ target, Steps p.tables e below (T'.setTop { g with pc := g.pc + 3, stack := v.toList ++ rest }) target → Steps p.tables e below (T.setTop g) target := by
  obtain ⟨v, _, ⟨T1, L1, k1, n1⟩, -, X1, ⟨Lc, hQ, l1, y1, z1⟩, st⟩ := Jvm.LawKit.callS X hx (y := y) hown (mvT hZ w1) (mvT hZ w2) (mvT hZ w3) (mvT hZ w4) hy (backOf (W := W) hM hZ w4 w3 hf hl) (g := g) hg hsize (argsL := argsL) (rest := rest) hlen hstack hW hd (fun _ _ => ⟨rfl, eT, hc, hs⟩)
  dsimp only [Pt.U, Pt.locs, Pt.cells, Pt.slots] at X1 l1 y1 z1 st hQ
  subst l1 y1 z1
  exact ⟨v, T1, Lc, X1, hQ, st⟩
theorem own_callI (X : Stand p l e R s m args below meth c T locs cells slots) (hx : p.tables.exec = Jvm.exec) (hZ : Z.Warmed39 s.vm) {own : String} (hown : s.vm.findClass own = some m.cls) {index : Nat} {y : MethodName} {bytes : ByteArray} {maxL : Nat} (hy1 : y.name = "<init>")
    (w1 : (Jvm.Cond.methodLink own index y).before a0 Z = true) (w2 : (Jvm.Cond.instanceMethod y).before a0 Z = true) (w3 : (Jvm.Cond.initialized y.cls).before a0 Z = true) (w4 : (Jvm.Cond.code y bytes maxL none).before a0 Z = true)
    (hy : y.cls ≠ "java/lang/invoke/MethodHandle" ∧ y.cls ≠ "java/lang/invoke/VarHandle") {rm : Room} {a : Addr} {argsL rest : List Value} {Q : Option Value → Heap → List Loc → Prop} (eT : T.heap = h) (hM : own_Met l Z y bytes maxL none [] rm (.ref a :: argsL).toArray h Q)
    {g : JFrame} (hg : g.method = m) (hsize : g.locals.size = c.maxLocals) (hlen : ∀ sig, parseMethodDescriptor y.desc = some sig → argsL.length = sig.parameters.length) (hstack : g.stack = argsL.reverse ++ .ref a :: rest) {W : Nat} (hW : 2 * g.monitorRoom + (rest.map fun v => v.category).sum ≤ W) (hd : decode c.code g.pc = .ok (.invokespecial index, 3))
    (hf : rm.frames + 1 ≤ R.frames) (hl : W + (maxL + 11) + rm.locals ≤ R.locals) (hc : cells + rm.cells ≤ R.cells) (hs : slots + rm.slots ≤ R.slots) :
    ∃ v T' L, Stand p l e R s m args below meth c T' (locs ++ L) (cells + rm.cells) (slots + rm.slots) ∧ Q v T'.heap L ∧ ∀ target, Steps p.tables e below (T'.setTop { g with pc := g.pc + 3, stack := v.toList ++ rest }) target → Steps p.tables e below (T.setTop g) target := by
  obtain ⟨v, _, ⟨T1, L1, k1, n1⟩, -, X1, ⟨Lc, hQ, l1, y1, z1⟩, st⟩ := X.specialBack hx (y := y) hy1 hown (mvT hZ w1) (mvT hZ w2) (mvT hZ w4) hy (backOf (W := W) hM hZ w4 w3 hf hl) (g := g) hg hsize (Steps.refl _) (a := a) (argsL := argsL) (rest := rest) hlen hstack hW hd (fun _ _ => ⟨rfl, eT, hc, hs⟩)
  dsimp only [Pt.U, Pt.locs, Pt.cells, Pt.slots] at X1 l1 y1 z1 st hQ
  subst l1 y1 z1
  exact ⟨v, T1, Lc, X1, hQ, fun _ k => st.trans k⟩
theorem own_callV (X : Stand p l e R s m args below meth c T locs cells slots) (hx : p.tables.exec = Jvm.exec) (hZ : Z.Warmed39 s.vm) {own C : String} (hown : s.vm.findClass own = some m.cls) {index : Nat} {y : MethodName} {bytes : ByteArray} {maxL : Nat} {rt : Option FieldType}
    (w1 : (Jvm.Cond.methodLink own index y).before a0 Z = true) (w2 : (Jvm.Cond.declares y).before a0 Z = true) (w5 : (Jvm.Cond.selects C y y).before a0 Z = true) (w6 : (Jvm.Cond.instanceMethod y).before a0 Z = true) (w3 : (Jvm.Cond.initialized y.cls).before a0 Z = true) (w4 : (Jvm.Cond.code y bytes maxL rt).before a0 Z = true)
    (hy : y.cls ≠ "java/lang/invoke/MethodHandle" ∧ y.cls ≠ "java/lang/invoke/VarHandle") {rm : Room} {a : Addr} {argsL rest : List Value} {Q : Option Value → Heap → List Loc → Prop} (hE : Exa Z h a C) (eT : T.heap = h) (hM : own_Met l Z y bytes maxL rt [] rm (.ref a :: argsL).toArray h Q)
    {g : JFrame} (hg : g.method = m) (hsize : g.locals.size = c.maxLocals) (hlen : ∀ sig, parseMethodDescriptor y.desc = some sig → argsL.length = sig.parameters.length) (hstack : g.stack = argsL.reverse ++ .ref a :: rest) {W : Nat} (hW : 2 * g.monitorRoom + (rest.map fun v => v.category).sum ≤ W) (hd : decode c.code g.pc = .ok (.invokevirtual index, 3))
    (hf : rm.frames + 1 ≤ R.frames) (hl : W + (maxL + 11) + rm.locals ≤ R.locals) (hc : cells + rm.cells ≤ R.cells) (hs : slots + rm.slots ≤ R.slots) (hC : C = y.cls := by rfl) :
    ∃ v T' L, Stand p l e R s m args below meth c T' (locs ++ L) (cells + rm.cells) (slots + rm.slots) ∧ Q v T'.heap L ∧ ∀ target, Steps p.tables e below (T'.setTop { g with pc := g.pc + 3, stack := v.toList ++ rest }) target → Steps p.tables e below (T.setTop g) target := by
  subst hC
  obtain ⟨_, _, qa, -, qc⟩ := isOf hZ eT hE
  obtain ⟨v, _, ⟨T1, L1, k1, n1⟩, -, X1, ⟨Lc, hQ, l1, y1, z1⟩, st⟩ := X.virtualBack hx (y := y) (z := y) hown (mvT hZ w1) (mvT hZ w2) (notFace_of_selects (args := #[]) (mvT hZ w5)) (mvT hZ w5) (mvT hZ w6) hy (backOf (W := W) hM hZ w4 w3 hf hl) qa qc (g := g) hg hsize (Steps.refl _) (argsL := argsL) (rest := rest) hlen hstack hW hd (fun _ _ => ⟨rfl, eT, hc, hs⟩)
  dsimp only [Pt.U, Pt.locs, Pt.cells, Pt.slots] at X1 l1 y1 z1 st hQ
  subst l1 y1 z1
  exact ⟨v, T1, Lc, X1, hQ, fun _ k => st.trans k⟩
theorem own_callU (X : Stand p l e R s m args below meth c T locs cells slots) (hx : p.tables.exec = Jvm.exec) (hZ : Z.Warmed39 s.vm) {own C owner : String} (hown : s.vm.findClass own = some m.cls) {index : Nat} {x y : MethodName} {bytes : ByteArray} {maxL : Nat} {rt : Option FieldType}
    (w1 : (Jvm.Cond.methodLink own index x).before a0 Z = true) (w7 : (Jvm.Cond.sameMethod x.cls owner x.name x.desc).before a0 Z = true) (w2 : (Jvm.Cond.declares ⟨owner, x.name, x.desc⟩).before a0 Z = true) (hy : owner ≠ "java/lang/invoke/MethodHandle" ∧ owner ≠ "java/lang/invoke/VarHandle") (w5 : (Jvm.Cond.selects C x y).before a0 Z = true) (w6 : (Jvm.Cond.instanceMethod y).before a0 Z = true) (w3 : (Jvm.Cond.initialized y.cls).before a0 Z = true) (w4 : (Jvm.Cond.code y bytes maxL rt).before a0 Z = true)
    {rm : Room} {a : Addr} {argsL rest : List Value} {Q : Option Value → Heap → List Loc → Prop} (hE : Exa Z h a C) (eT : T.heap = h) (hM : own_Met l Z y bytes maxL rt [] rm (.ref a :: argsL).toArray h Q)
    {g : JFrame} (hg : g.method = m) (hsize : g.locals.size = c.maxLocals) (hlen : ∀ sig, parseMethodDescriptor x.desc = some sig → argsL.length = sig.parameters.length) (hstack : g.stack = argsL.reverse ++ .ref a :: rest) {W : Nat} (hW : 2 * g.monitorRoom + (rest.map fun v => v.category).sum ≤ W) (hd : decode c.code g.pc = .ok (.invokevirtual index, 3))
    (hf : rm.frames + 1 ≤ R.frames) (hl : W + (maxL + 11) + rm.locals ≤ R.locals) (hc : cells + rm.cells ≤ R.cells) (hs : slots + rm.slots ≤ R.slots) :
    ∃ v T' L, Stand p l e R s m args below meth c T' (locs ++ L) (cells + rm.cells) (slots + rm.slots) ∧ Q v T'.heap L ∧ ∀ target, Steps p.tables e below (T'.setTop { g with pc := g.pc + 3, stack := v.toList ++ rest }) target → Steps p.tables e below (T.setTop g) target := by
  obtain ⟨_, _, qa, -, qc⟩ := isOf hZ eT hE
  obtain ⟨v, _, ⟨T1, L1, k1, n1⟩, -, X1, ⟨Lc, hQ, l1, y1, z1⟩, st⟩ := X.virtualBackUp hx (x := x) (y := y) hown (mvT hZ w1) (mvT hZ w7) (mvT hZ w2) hy (mvT hZ w5) (mvT hZ w6) (backOf (W := W) hM hZ w4 w3 hf hl) qa qc (g := g) hg hsize (Steps.refl _) (argsL := argsL) (rest := rest) hlen hstack hW hd (fun _ _ => ⟨rfl, eT, hc, hs⟩)
  dsimp only [Pt.U, Pt.locs, Pt.cells, Pt.slots] at X1 l1 y1 z1 st hQ
  subst l1 y1 z1
  exact ⟨v, T1, Lc, X1, hQ, fun _ k => st.trans k⟩
theorem own_arv {a : Addr} {k : ClassId} {ty : FieldType} {z : Int32} {vs : List Value} {dv : Value} (V : Arv Z h a k ty z vs dv) {j : Int32} (q : ¬ j < 0 ∧ j < z) :
    ∃ cl : Cell, Arr Z h a cl ty ∧ cl.cls = k ∧ ¬ (j < 0 ∨ cl.slots.size ≤ j.toNatClampNeg) ∧ cl.slots[j.toNatClampNeg]? = some (vs.getD j.toNatClampNeg dv) ∧ ∀ {h' : Heap} {v : Value}, fits ty v = true → Wr h h' a j.toNatClampNeg v → ∀ i, j.toNatClampNeg = i → i < vs.length → Arv Z h' a k ty z (vs.set i v) dv := by
  obtain ⟨cl, A, q1, S, q3, H, G⟩ := V
  have hin := inb_of S q
  exact ⟨cl, A, q1, hin, Has.at H hin rfl, fun hf W i hj hi => Arv.set A q1 S q3 H G hf W i hj hi⟩
theorem own_len {a : Addr} {k : ClassId} {ty : FieldType} {z : Int32} {vs : List Value} {dv : Value} (V : Arv Z h a k ty z vs dv) : ∃ cl : Cell, Arr Z h a cl ty ∧ cl.slots.size.toInt32 = z := by
  obtain ⟨cl, A, q1, S, q3, -⟩ := V
  exact ⟨cl, A, len_of S q3⟩
theorem own_sta {C f d K : String} (hx : (Jvm.Cond.exactly (.static C f d) K).value args s none s [] = some true) (w1 : (Jvm.Cond.initialized C).before args s = true) (w2 : (Jvm.Cond.laysStatic C f d).before args s = true) :
    ∃ a, (Term.static C f d).eval args s none [] s = some (.ref a) ∧ Sta s s.heap C f d (.ref a) ∧ Exa s s.heap a K := by
  obtain ⟨a, ev⟩ := exa_v hx
  exact ⟨a, ev, Sta.start ev (Or.inr ⟨w1, w2⟩), Exa.start ev hx⟩
theorem own_fldI {t : Term} {C f d : String} {a : Addr} {k : Int32} (ev : t.eval args s none [] s = some (.ref a)) (hx : (Jvm.Cond.eq (.field t C f d) (.int k)).value args s none s [] = some true) : Fld s s.heap a C f d (.int k) := by
  obtain ⟨v, w, e1, e2, k1, k2⟩ := cmp_v (Or.inl hx)
  obtain rfl : w = .int k := Option.some.inj (e2.symm.trans (Term.int_eval k))
  obtain ⟨z, rfl⟩ : ∃ z, v = .int z := k2
  have q : z = k := by simpa [Cond.value, e1, e2] using hx
  subst q
  exact Fld.start (by rw [← fld_at ev]; exact e1)
theorem own_neS {t u : Term} {a b : Addr} (ea : t.eval args s none [] s = some (.ref a)) (eb : u.eval args s none [] s = some (.ref b)) (hx : (Jvm.Cond.not (.eq t u)).value args s none s [] = some true) : a ≠ b := fun q =>
  gotF (eq_R ea eb rfl rfl) (not_v hx) (congrArg Value.ref q)
theorem own_staK {C f d : String} {v : Value} {h' : Heap} {ws : List Addr} (S : Sta Z h C f d v) (K : Keep h h' ws) (q : ∀ x ∈ ws, ∀ cell : Cell, h[x]? = some cell → cell.vm.isStatics = false) : Sta Z h' C f d v := by
  obtain ⟨cf, i, k, fl, st, cell, h1, h2, h3, h4, h5, h6, h7⟩ := S
  refine ⟨cf, i, k, fl, st, cell, h1, h2, h3, h4, K.2.1 st cell h5 (fun hm => ?_), h6, h7⟩
  have := q st hm cell h5
  rw [h6] at this
  cases this
end OwnKit
theorem own_four (x : Int32) : x &&& 3 = 0 ∨ x &&& 3 = 1 ∨ x &&& 3 = 2 ∨ x &&& 3 = 3 := by
  have h := c_mask x 3 2 (by decide) (by decide)
  have e : ∀ k : Int32, (x &&& 3).toInt = k.toInt → x &&& 3 = k := fun k q => Int32.toInt_inj.mp q
  have c : (x &&& 3).toInt = 0 ∨ (x &&& 3).toInt = 1 ∨ (x &&& 3).toInt = 2 ∨ (x &&& 3).toInt = 3 := by rw [h]; omega
  rcases c with c | c | c | c
  · exact Or.inl (e 0 c)
  · exact Or.inr (Or.inl (e 1 c))
  · exact Or.inr (Or.inr (Or.inl (e 2 c)))
  · exact Or.inr (Or.inr (Or.inr (e 3 c)))
theorem own_nb (y : Int32) : nar .byte y.toInt8.toInt32 = y.toInt8.toInt32 := by simp [nar]
theorem own_tag (x : Int32) : ∃ k : Fin 31, (x &&& 2147483647) % 31 = Int32.ofNat k.val := by
  have h := c_mask x 2147483647 31 (by decide) (by decide)
  have h0 : 0 ≤ (x &&& 2147483647).toInt := by rw [h]; omega
  have h5 := (c_irem (x &&& 2147483647) 31 31 rfl).1 h0
  have hb : 0 ≤ ((x &&& 2147483647) % 31).toInt ∧ ((x &&& 2147483647) % 31).toInt < 31 := by rw [h5]; omega
  refine ⟨⟨((x &&& 2147483647) % 31).toInt.toNat, by omega⟩, ?_⟩
  apply Int32.toInt_inj.mp
  rw [Int32.toInt_ofNat_small (by show ((x &&& 2147483647) % 31).toInt.toNat < 2 ^ 31; omega)]
  show _ = ((((x &&& 2147483647) % 31).toInt.toNat : Nat) : Int)
  omega
theorem own_b32 (y : Int32) : y &&& 32 = 0 ∨ y &&& 32 = 32 := by
  have h : ∀ b : BitVec 32, b &&& 32#32 = 0#32 ∨ b &&& 32#32 = 32#32 := by
    intro b
    have e : ∀ i, i < 32 → (32#32).getLsbD i = decide (i = 5) := by decide
    cases hb : b.getLsbD 5
    · refine Or.inl (BitVec.eq_of_getLsbD_eq fun i hi => ?_)
      rw [BitVec.getLsbD_and, e i hi]
      by_cases q : i = 5
      · subst q; rw [hb]; rfl
      · simp [q]
    · refine Or.inr (BitVec.eq_of_getLsbD_eq fun i hi => ?_)
      rw [BitVec.getLsbD_and, e i hi]
      by_cases q : i = 5
      · subst q; rw [hb]; rfl
      · simp [q]
  rcases h y.toBitVec with q | q
  · exact Or.inl (Int32.toBitVec_inj.mp q)
  · exact Or.inr (Int32.toBitVec_inj.mp q)
theorem own_lo (y : Int32) : y.toInt8.toInt32 &&& 32 = y &&& 32 := by
  have h1 := c_i2b y
  have a := c_mask y.toInt8.toInt32 63 6 (by decide) (by decide)
  have b := c_mask y 63 6 (by decide) (by decide)
  have e : y.toInt8.toInt32 &&& 63 = y &&& 63 := Int32.toInt_inj.mp (by rw [a, b]; omega)
  have f : ∀ z : Int32, z &&& 32 = (z &&& 63) &&& 32 := fun z => by rw [Int32.and_assoc]; rfl
  rw [f, e, ← f]
theorem own_set (k : Fin 31) : (((128 : Int32) ||| Int32.ofNat k.val) ||| 32).toInt8.toInt32 = ((160 : Int32) + Int32.ofNat k.val).toInt8.toInt32 := by revert k; decide
theorem own_clr (k : Fin 31) : (((128 : Int32) ||| Int32.ofNat k.val) ||| 0).toInt8.toInt32 = ((128 : Int32) + Int32.ofNat k.val).toInt8.toInt32 := by revert k; decide
theorem own_rgT (k : Fin 31) : ¬ Int32.ofNat k.val < 0 ∧ ¬ (30 : Int32) < Int32.ofNat k.val := by revert k; decide
def Q_rm2 (Z : State) (p1 : Int32) (h0 : Heap) (n0 : Nat) (v : Option Value) (h : Heap) (L : List Loc) : Prop := v = some (.int ((128 : Int32) ||| p1)) ∧ Fr n0 L ∧ h = h0
theorem pn_rm2 : plainFor (⟨"com/example/tabularium/tabularium/traceability/Der", "contextTag", "(I)I"⟩ : MethodName) = true := plainFor_of_name (by first | (simp [plainName, overriddenIn, x]; done) | decide +kernel)
theorem d2_0 : decode prog_33_method_12_code 0 = .ok (.iload_n 0, 1) := by decide +kernel
theorem d2_1 : decode prog_33_method_12_code 1 = .ok (.ifCond .lt 9, 3) := by decide +kernel
theorem d2_4 : decode prog_33_method_12_code 4 = .ok (.iload_n 0, 1) := by decide +kernel
theorem d2_5 : decode prog_33_method_12_code 5 = .ok (.bipush 30, 2) := by decide +kernel
theorem d2_7 : decode prog_33_method_12_code 7 = .ok (.if_icmp .le 17, 3) := by decide +kernel
theorem d2_24 : decode prog_33_method_12_code 24 = .ok (.sipush 128, 3) := by decide +kernel
theorem d2_27 : decode prog_33_method_12_code 27 = .ok (.iload_n 0, 1) := by decide +kernel
theorem d2_28 : decode prog_33_method_12_code 28 = .ok (.ior, 1) := by decide +kernel
theorem d2_29 : decode prog_33_method_12_code 29 = .ok (.ireturn, 1) := by decide +kernel
set_option maxRecDepth 65536 in
set_option maxHeartbeats 40000000 in
theorem rm2 (l : Launch) (Z : State) (a0 : Array Value) (hw : ∀ d ∈ tables_1, d.before a0 Z = true) (ws : List Jvm.Cond) (p1 : Int32) (h0 : Heap) (n0 : Nat) (Z0 : n0 ≤ h0.size) (h1 : ¬ p1 < 0) (h2 : ¬ (30 : Int32) < p1) :
    own_Met l Z (⟨"com/example/tabularium/tabularium/traceability/Der", "contextTag", "(I)I"⟩ : MethodName) prog_33_method_12_code 1 (some .int) ws ({ frames := 0, cells := 0, slots := 0, locals := 0 } : Room) #[(.int p1)] h0 (Q_rm2 Z p1 h0 n0) := by
  refine own_enter (g0 := fun m => (mkF m 0 #[.val (.int p1)] [])) pn_rm2 (fun m => by first | (simp [entryFrame, mkF, argsToLocals, Value.category, maxLocals]; done) | rfl) ?_
  intro p e s m below meth c s₁ hx hby hml hown hnm hret hlk hZ X0 e0
  have hml : c.maxLocals = 1 := hml
  have hown : s.vm.findClass "com/example/tabularium/tabularium/traceability/Der" = some m.cls := hown
  have N0 := Fr.nil n0
  show own_Go p e below _ s₁ (mkF m 0 #[.val (.int p1)] [])
  refine own_by (fun _ k => XS.iloadN X0.here hx rfl (hb hby d2_0) rfl k) ?_
  show own_Go p e below _ s₁ (mkF m 1 #[.val (.int p1)] [(.int p1)])
  refine own_by (fun _ k => XS.ifNo X0.here hx rfl (hb hby d2_1) rfl ((if0 _ _).trans (flt (h1 : ¬ (p1 < (0 : Int32)))).1) k) ?_
  show own_Go p e below _ s₁ (mkF m 4 #[.val (.int p1)] [])
  refine own_by (fun _ k => XS.iloadN X0.here hx rfl (hb hby d2_4) rfl k) ?_
  show own_Go p e below _ s₁ (mkF m 5 #[.val (.int p1)] [(.int p1)])
  refine own_by (fun _ k => XS.bipush X0.here hx rfl (hb hby d2_5) k) ?_
  show own_Go p e below _ s₁ (mkF m 7 #[.val (.int p1)] [(.int (30 : Int32)), (.int p1)])
  refine own_by (fun _ k => XS.icmpYes X0.here hx rfl (pc0 := 7) (pc' := 24) rfl (hb hby d2_7) rfl (flt (h2 : ¬ ((30 : Int32) < p1))).2.2.2 (by decide) (by decide) k) ?_
  show own_Go p e below _ s₁ (mkF m 24 #[.val (.int p1)] [])
  refine own_by (fun _ k => XS.sipush X0.here hx rfl (hb hby d2_24) k) ?_
  show own_Go p e below _ s₁ (mkF m 27 #[.val (.int p1)] [(.int (128 : Int32))])
  refine own_by (fun _ k => XS.iloadN X0.here hx rfl (hb hby d2_27) rfl k) ?_
  show own_Go p e below _ s₁ (mkF m 28 #[.val (.int p1)] [(.int p1), (.int (128 : Int32))])
  refine own_by (fun _ k => XS.ior X0.here hx rfl (hb hby d2_28) rfl k) ?_
  show own_Go p e below _ s₁ (mkF m 29 #[.val (.int p1)] [(.int ((128 : Int32) ||| p1))])
  exact own_retI X0 hx hlk hret  (hb hby d2_29) (by first | exact ⟨rfl, N0, rfl⟩ | (rw [e0]; exact ⟨rfl, N0, rfl⟩)) (by decide) (by decide)
def Q_rm1_1 (Z : State) (p1 : Int32) (a2 : Addr) (k2 : ClassId) (x0 : Int32) (h0 : Heap) (n0 : Nat) (v : Option Value) (h : Heap) (L : List Loc) : Prop := ∃ b, v = some (.ref b) ∧ Fr n0 L ∧ Keep h0 h [] ∧ h0.size ≤ b ∧ Arv Z h b k2 .byte (1 : Int32) [(.int ((((128 : Int32) ||| p1) ||| (x0 &&& (32 : Int32))).toInt8.toInt32))] (.int (0 : Int32))
theorem pn_rm1_1 : plainFor (⟨"com/example/tabularium/tabularium/traceability/Der", "implicit", "(I[B)[B"⟩ : MethodName) = true := plainFor_of_name (by first | (simp [plainName, overriddenIn, x]; done) | decide +kernel)
theorem d1_0 : decode prog_33_method_11_code 0 = .ok (.aload_n 1, 1) := by decide +kernel
theorem d1_1 : decode prog_33_method_11_code 1 = .ok (.invokevirtual 111, 3) := by decide +kernel
theorem d1_4 : decode prog_33_method_11_code 4 = .ok (.checkcast 112, 3) := by decide +kernel
theorem d1_7 : decode prog_33_method_11_code 7 = .ok (.astore_n 2, 1) := by decide +kernel
theorem d1_8 : decode prog_33_method_11_code 8 = .ok (.aload_n 2, 1) := by decide +kernel
theorem d1_9 : decode prog_33_method_11_code 9 = .ok (.iconst 0, 1) := by decide +kernel
theorem d1_10 : decode prog_33_method_11_code 10 = .ok (.iload_n 0, 1) := by decide +kernel
theorem pd_0 : parseMethodDescriptor "(I)I" = some ⟨[.int], some .int⟩ := by decide +kernel
theorem d1_11 : decode prog_33_method_11_code 11 = .ok (.invokestatic 107, 3) := by decide +kernel
theorem d1_14 : decode prog_33_method_11_code 14 = .ok (.aload_n 1, 1) := by decide +kernel
theorem d1_15 : decode prog_33_method_11_code 15 = .ok (.iconst 0, 1) := by decide +kernel
theorem d1_16 : decode prog_33_method_11_code 16 = .ok (.baload, 1) := by decide +kernel
theorem d1_17 : decode prog_33_method_11_code 17 = .ok (.bipush 32, 2) := by decide +kernel
theorem d1_19 : decode prog_33_method_11_code 19 = .ok (.iand, 1) := by decide +kernel
theorem d1_20 : decode prog_33_method_11_code 20 = .ok (.ior, 1) := by decide +kernel
theorem d1_21 : decode prog_33_method_11_code 21 = .ok (.i2b, 1) := by decide +kernel
theorem d1_22 : decode prog_33_method_11_code 22 = .ok (.bastore, 1) := by decide +kernel
theorem d1_23 : decode prog_33_method_11_code 23 = .ok (.aload_n 2, 1) := by decide +kernel
theorem d1_24 : decode prog_33_method_11_code 24 = .ok (.areturn, 1) := by decide +kernel
set_option maxRecDepth 65536 in
set_option maxHeartbeats 40000000 in
theorem rm1_1 (l : Launch) (Z : State) (a0 : Array Value) (hw : ∀ d ∈ tables_1, d.before a0 Z = true) (ws : List Jvm.Cond) (p1 : Int32) (a2 : Addr) (k2 : ClassId) (x0 : Int32) (h0 : Heap) (n0 : Nat) (Z0 : n0 ≤ h0.size) (h1 : ¬ p1 < 0) (h2 : ¬ (30 : Int32) < p1) (E1 : Exa Z h0 a2 "[B") (V1 : Arv Z h0 a2 k2 .byte (1 : Int32) [(.int x0)] (.int (0 : Int32))) :
    own_Met l Z (⟨"com/example/tabularium/tabularium/traceability/Der", "implicit", "(I[B)[B"⟩ : MethodName) prog_33_method_11_code 3 (some (.array .byte)) ws ({ frames := 1, cells := 1, slots := 1, locals := 32 } : Room) #[(.int p1), (.ref a2)] h0 (Q_rm1_1 Z p1 a2 k2 x0 h0 n0) := by
  refine own_enter (g0 := fun m => (mkF m 0 #[.val (.int p1), .val (.ref a2), .unset] [])) pn_rm1_1 (fun m => by first | (simp [entryFrame, mkF, argsToLocals, Value.category, maxLocals]; done) | rfl) ?_
  intro p e s m below meth c s₁ hx hby hml hown hnm hret hlk hZ X0 e0
  have hml : c.maxLocals = 3 := hml
  have hown : s.vm.findClass "com/example/tabularium/tabularium/traceability/Der" = some m.cls := hown
  have N0 := Fr.nil n0
  show own_Go p e below _ s₁ (mkF m 0 #[.val (.int p1), .val (.ref a2), .unset] [])
  have K0 := Keep.refl h0 []
  refine own_by (fun _ k => XS.aloadN X0.here hx rfl (hb hby d1_0) rfl rfl k) ?_
  show own_Go p e below _ s₁ (mkF m 1 #[.val (.int p1), .val (.ref a2), .unset] [(.ref a2)])
  obtain ⟨T101, h101, X101, e101, E101, A101, C101, st101⟩ := cloneH X0 hx hZ hown (hw _ (List.mem_of_getElem? (i := 6) rfl)) (hw _ (List.mem_of_getElem? (i := 7) rfl)) (hw _ (List.mem_of_getElem? (i := 11) rfl)) (hw _ (List.mem_of_getElem? (i := 9) rfl)) (hw _ (List.mem_of_getElem? (i := 10) rfl)) (hw _ (List.mem_of_getElem? (i := 12) rfl)) e0 (hs := []) V1 E1 (g := (mkF m 1 #[.val (.int p1), .val (.ref a2), .unset] [(.ref a2)])) rfl (by rw [hml]; rfl) rfl (hb hby d1_1) (by decide) (W := 0) (cap := 1) (by show 2 * 0 + _ ≤ _; exact Nat.le_of_eq rfl) (by decide) (by decide) (by decide) (by decide)
  obtain ⟨b101, g101⟩ : ∃ z, z = h0.size := ⟨_, rfl⟩
  rw [← g101] at A101 C101 st101
  have ne_a2_b101 : a2 ≠ b101 := Nat.ne_of_lt (Nat.lt_of_lt_of_le V1.lt (Nat.le_of_eq g101.symm))
  have og_b101 : n0 ≤ b101 := Nat.le_trans Z0 (Nat.le_of_eq g101.symm)
  have sz_b101 : h0.size ≤ b101 := Nat.le_trans K0.1 (Nat.le_of_eq g101.symm)
  have Z101 : n0 ≤ h101.size := Nat.le_trans Z0 E101.1
  have K102 := K0.ext E101
  have V101 : Arv Z h101 b101 k2 .byte (1 : Int32) [(.int x0)] (.int (0 : Int32)) := A101
  refine own_by st101 ?_
  show own_Go p e below _ T101 (mkF m 4 #[.val (.int p1), .val (.ref a2), .unset] [(.ref b101)])
  obtain ⟨T103, X103, e103, st103⟩ := castY X101 hx hZ hown (hw _ (List.mem_of_getElem? (i := 13) rfl)) e101 (Ins.self C101) (g := (mkF m 4 #[.val (.int p1), .val (.ref a2), .unset] [(.ref b101)])) rfl rfl (hb hby d1_4)
  refine own_by st103 ?_
  show own_Go p e below _ T103 (mkF m 7 #[.val (.int p1), .val (.ref a2), .unset] [(.ref b101)])
  refine own_by (fun _ k => XS.astoreN X103.here hx rfl (hb hby d1_7) rfl rfl (l' := #[.val (.int p1), .val (.ref a2), .val (.ref b101)]) rfl k) ?_
  show own_Go p e below _ T103 (mkF m 8 #[.val (.int p1), .val (.ref a2), .val (.ref b101)] [])
  refine own_by (fun _ k => XS.aloadN X103.here hx rfl (hb hby d1_8) rfl rfl k) ?_
  show own_Go p e below _ T103 (mkF m 9 #[.val (.int p1), .val (.ref a2), .val (.ref b101)] [(.ref b101)])
  refine own_by (fun _ k => XS.iconst X103.here hx rfl (hb hby d1_9) k) ?_
  show own_Go p e below _ T103 (mkF m 10 #[.val (.int p1), .val (.ref a2), .val (.ref b101)] [(.int (0 : Int32)), (.ref b101)])
  refine own_by (fun _ k => XS.iloadN X103.here hx rfl (hb hby d1_10) rfl k) ?_
  show own_Go p e below _ T103 (mkF m 11 #[.val (.int p1), .val (.ref a2), .val (.ref b101)] [(.int p1), (.int (0 : Int32)), (.ref b101)])
  obtain ⟨_, T104, L104, X104, ⟨rfl, N104q, e104⟩, st104⟩ := own_callS X103 hx hZ hown (y := (⟨"com/example/tabularium/tabularium/traceability/Der", "contextTag", "(I)I"⟩ : MethodName)) (hw _ (List.mem_of_getElem? (i := 15) rfl)) (hw _ (List.mem_of_getElem? (i := 16) rfl)) (hw _ (List.mem_of_getElem? (i := 4) rfl)) (hw _ (List.mem_of_getElem? (i := 17) rfl)) (by decide) (argsL := [(.int p1)]) (rest := [(.int (0 : Int32)), (.ref b101)]) e103 (rm2 l Z a0 hw [] p1 h101 n0 Z101 h1 h2) (g := (mkF m 11 #[.val (.int p1), .val (.ref a2), .val (.ref b101)] [(.int p1), (.int (0 : Int32)), (.ref b101)])) rfl (by rw [hml]; rfl) (lenOf pd_0 rfl) rfl (W := 2) (by show 2 * 0 + _ ≤ _; exact Nat.le_of_eq rfl) (hb hby d1_11) (by decide) (by decide) (by decide) (by decide)
  have N104 := Fr.app N0 N104q
  refine own_by st104 ?_
  show own_Go p e below _ T104 (mkF m 14 #[.val (.int p1), .val (.ref a2), .val (.ref b101)] [(.int ((128 : Int32) ||| p1)), (.int (0 : Int32)), (.ref b101)])
  refine own_by (fun _ k => XS.aloadN X104.here hx rfl (hb hby d1_14) rfl rfl k) ?_
  show own_Go p e below _ T104 (mkF m 15 #[.val (.int p1), .val (.ref a2), .val (.ref b101)] [(.ref a2), (.int ((128 : Int32) ||| p1)), (.int (0 : Int32)), (.ref b101)])
  refine own_by (fun _ k => XS.iconst X104.here hx rfl (hb hby d1_15) k) ?_
  show own_Go p e below _ T104 (mkF m 16 #[.val (.int p1), .val (.ref a2), .val (.ref b101)] [(.int (0 : Int32)), (.ref a2), (.int ((128 : Int32) ||| p1)), (.int (0 : Int32)), (.ref b101)])
  have f106 := (V1.ext E101)
  obtain ⟨cl105, Ar105, cq105, hin105, hat105, set105⟩ := own_arv f106 (j := (0 : Int32)) ⟨by decide, by decide⟩
  refine own_by (fun _ k => X104.baloadBytes hx (j := (0 : Int32)) (v := (.int x0)) (by rw [e104]; exact Ar105.1) (State.isArrayOf_alike hZ.alike Ar105.2.1) Ar105.2.2 hin105 hat105 (g := (mkF m 16 #[.val (.int p1), .val (.ref a2), .val (.ref b101)] [(.int (0 : Int32)), (.ref a2), (.int ((128 : Int32) ||| p1)), (.int (0 : Int32)), (.ref b101)])) rfl rfl (hb hby d1_16) _ k) ?_
  show own_Go p e below _ T104 (mkF m 17 #[.val (.int p1), .val (.ref a2), .val (.ref b101)] [(.int x0), (.int ((128 : Int32) ||| p1)), (.int (0 : Int32)), (.ref b101)])
  refine own_by (fun _ k => XS.bipush X104.here hx rfl (hb hby d1_17) k) ?_
  show own_Go p e below _ T104 (mkF m 19 #[.val (.int p1), .val (.ref a2), .val (.ref b101)] [(.int (32 : Int32)), (.int x0), (.int ((128 : Int32) ||| p1)), (.int (0 : Int32)), (.ref b101)])
  refine own_by (fun _ k => XS.iand X104.here hx rfl (hb hby d1_19) rfl k) ?_
  show own_Go p e below _ T104 (mkF m 20 #[.val (.int p1), .val (.ref a2), .val (.ref b101)] [(.int (x0 &&& (32 : Int32))), (.int ((128 : Int32) ||| p1)), (.int (0 : Int32)), (.ref b101)])
  refine own_by (fun _ k => XS.ior X104.here hx rfl (hb hby d1_20) rfl k) ?_
  show own_Go p e below _ T104 (mkF m 21 #[.val (.int p1), .val (.ref a2), .val (.ref b101)] [(.int (((128 : Int32) ||| p1) ||| (x0 &&& (32 : Int32)))), (.int (0 : Int32)), (.ref b101)])
  refine own_by (fun _ k => XS.i2b X104.here hx rfl (hb hby d1_21) rfl k) ?_
  show own_Go p e below _ T104 (mkF m 22 #[.val (.int p1), .val (.ref a2), .val (.ref b101)] [(.int ((((128 : Int32) ||| p1) ||| (x0 &&& (32 : Int32))).toInt8.toInt32)), (.int (0 : Int32)), (.ref b101)])
  obtain ⟨cl107, Ar107, cq107, hin107, hat107, set107⟩ := own_arv V101 (j := (0 : Int32)) ⟨by decide, by decide⟩
  obtain ⟨T108, h108, X108, e108, W108, st108⟩ := stB X104 hx hZ e104 Ar107 (j := (0 : Int32)) hin107 (g := (mkF m 22 #[.val (.int p1), .val (.ref a2), .val (.ref b101)] [(.int ((((128 : Int32) ||| p1) ||| (x0 &&& (32 : Int32))).toInt8.toInt32)), (.int (0 : Int32)), (.ref b101)])) rfl rfl (hb hby d1_22)
  have wq108 : nar .byte ((((128 : Int32) ||| p1) ||| (x0 &&& (32 : Int32))).toInt8.toInt32) = ((((128 : Int32) ||| p1) ||| (x0 &&& (32 : Int32))).toInt8.toInt32) := own_nb _
  rw [wq108] at W108
  have wf108 : fits .byte (.int ((((128 : Int32) ||| p1) ||| (x0 &&& (32 : Int32))).toInt8.toInt32)) = true := wq108 ▸ (fits_nar_byte _)
  have V108 : Arv Z h108 b101 k2 .byte (1 : Int32) [(.int ((((128 : Int32) ||| p1) ||| (x0 &&& (32 : Int32))).toInt8.toInt32))] (.int (0 : Int32)) := set107 wf108 W108 0 rfl (Nat.le_of_ble_eq_true rfl)
  have N108 := Fr.snoc X108 N104 og_b101
  have K109 := K102.wr W108 (Or.inr sz_b101)
  have Z108 : n0 ≤ h108.size := Nat.le_trans Z101 (Keep.of_wr W108).1
  refine own_by st108 ?_
  show own_Go p e below _ T108 (mkF m 23 #[.val (.int p1), .val (.ref a2), .val (.ref b101)] [])
  refine own_by (fun _ k => XS.aloadN X108.here hx rfl (hb hby d1_23) rfl rfl k) ?_
  show own_Go p e below _ T108 (mkF m 24 #[.val (.int p1), .val (.ref a2), .val (.ref b101)] [(.ref b101)])
  exact own_retA X108 hx hlk hret rfl rfl (hb hby d1_24) (by first | exact ⟨b101, rfl, N108, K109, sz_b101, V108⟩ | (rw [e108]; exact ⟨b101, rfl, N108, K109, sz_b101, V108⟩)) (by decide) (by decide)
def Q_rm1_2 (Z : State) (p1 : Int32) (a2 : Addr) (k2 : ClassId) (x0 x1 : Int32) (h0 : Heap) (n0 : Nat) (v : Option Value) (h : Heap) (L : List Loc) : Prop := ∃ b, v = some (.ref b) ∧ Fr n0 L ∧ Keep h0 h [] ∧ h0.size ≤ b ∧ Arv Z h b k2 .byte (2 : Int32) [(.int ((((128 : Int32) ||| p1) ||| (x0 &&& (32 : Int32))).toInt8.toInt32)), (.int x1)] (.int (0 : Int32))
theorem pn_rm1_2 : plainFor (⟨"com/example/tabularium/tabularium/traceability/Der", "implicit", "(I[B)[B"⟩ : MethodName) = true := plainFor_of_name (by first | (simp [plainName, overriddenIn, x]; done) | decide +kernel)
set_option maxRecDepth 65536 in
set_option maxHeartbeats 40000000 in
theorem rm1_2 (l : Launch) (Z : State) (a0 : Array Value) (hw : ∀ d ∈ tables_1, d.before a0 Z = true) (ws : List Jvm.Cond) (p1 : Int32) (a2 : Addr) (k2 : ClassId) (x0 x1 : Int32) (h0 : Heap) (n0 : Nat) (Z0 : n0 ≤ h0.size) (h1 : ¬ p1 < 0) (h2 : ¬ (30 : Int32) < p1) (E1 : Exa Z h0 a2 "[B") (V1 : Arv Z h0 a2 k2 .byte (2 : Int32) [(.int x0), (.int x1)] (.int (0 : Int32))) :
    own_Met l Z (⟨"com/example/tabularium/tabularium/traceability/Der", "implicit", "(I[B)[B"⟩ : MethodName) prog_33_method_11_code 3 (some (.array .byte)) ws ({ frames := 1, cells := 1, slots := 2, locals := 32 } : Room) #[(.int p1), (.ref a2)] h0 (Q_rm1_2 Z p1 a2 k2 x0 x1 h0 n0) := by
  refine own_enter (g0 := fun m => (mkF m 0 #[.val (.int p1), .val (.ref a2), .unset] [])) pn_rm1_2 (fun m => by first | (simp [entryFrame, mkF, argsToLocals, Value.category, maxLocals]; done) | rfl) ?_
  intro p e s m below meth c s₁ hx hby hml hown hnm hret hlk hZ X0 e0
  have hml : c.maxLocals = 3 := hml
  have hown : s.vm.findClass "com/example/tabularium/tabularium/traceability/Der" = some m.cls := hown
  have N0 := Fr.nil n0
  show own_Go p e below _ s₁ (mkF m 0 #[.val (.int p1), .val (.ref a2), .unset] [])
  have K0 := Keep.refl h0 []
  refine own_by (fun _ k => XS.aloadN X0.here hx rfl (hb hby d1_0) rfl rfl k) ?_
  show own_Go p e below _ s₁ (mkF m 1 #[.val (.int p1), .val (.ref a2), .unset] [(.ref a2)])
  obtain ⟨T110, h110, X110, e110, E110, A110, C110, st110⟩ := cloneH X0 hx hZ hown (hw _ (List.mem_of_getElem? (i := 6) rfl)) (hw _ (List.mem_of_getElem? (i := 7) rfl)) (hw _ (List.mem_of_getElem? (i := 11) rfl)) (hw _ (List.mem_of_getElem? (i := 9) rfl)) (hw _ (List.mem_of_getElem? (i := 10) rfl)) (hw _ (List.mem_of_getElem? (i := 12) rfl)) e0 (hs := []) V1 E1 (g := (mkF m 1 #[.val (.int p1), .val (.ref a2), .unset] [(.ref a2)])) rfl (by rw [hml]; rfl) rfl (hb hby d1_1) (by decide) (W := 0) (cap := 2) (by show 2 * 0 + _ ≤ _; exact Nat.le_of_eq rfl) (by decide) (by decide) (by decide) (by decide)
  obtain ⟨b110, g110⟩ : ∃ z, z = h0.size := ⟨_, rfl⟩
  rw [← g110] at A110 C110 st110
  have ne_a2_b110 : a2 ≠ b110 := Nat.ne_of_lt (Nat.lt_of_lt_of_le V1.lt (Nat.le_of_eq g110.symm))
  have og_b110 : n0 ≤ b110 := Nat.le_trans Z0 (Nat.le_of_eq g110.symm)
  have sz_b110 : h0.size ≤ b110 := Nat.le_trans K0.1 (Nat.le_of_eq g110.symm)
  have Z110 : n0 ≤ h110.size := Nat.le_trans Z0 E110.1
  have K111 := K0.ext E110
  have V110 : Arv Z h110 b110 k2 .byte (2 : Int32) [(.int x0), (.int x1)] (.int (0 : Int32)) := A110
  refine own_by st110 ?_
  show own_Go p e below _ T110 (mkF m 4 #[.val (.int p1), .val (.ref a2), .unset] [(.ref b110)])
  obtain ⟨T112, X112, e112, st112⟩ := castY X110 hx hZ hown (hw _ (List.mem_of_getElem? (i := 13) rfl)) e110 (Ins.self C110) (g := (mkF m 4 #[.val (.int p1), .val (.ref a2), .unset] [(.ref b110)])) rfl rfl (hb hby d1_4)
  refine own_by st112 ?_
  show own_Go p e below _ T112 (mkF m 7 #[.val (.int p1), .val (.ref a2), .unset] [(.ref b110)])
  refine own_by (fun _ k => XS.astoreN X112.here hx rfl (hb hby d1_7) rfl rfl (l' := #[.val (.int p1), .val (.ref a2), .val (.ref b110)]) rfl k) ?_
  show own_Go p e below _ T112 (mkF m 8 #[.val (.int p1), .val (.ref a2), .val (.ref b110)] [])
  refine own_by (fun _ k => XS.aloadN X112.here hx rfl (hb hby d1_8) rfl rfl k) ?_
  show own_Go p e below _ T112 (mkF m 9 #[.val (.int p1), .val (.ref a2), .val (.ref b110)] [(.ref b110)])
  refine own_by (fun _ k => XS.iconst X112.here hx rfl (hb hby d1_9) k) ?_
  show own_Go p e below _ T112 (mkF m 10 #[.val (.int p1), .val (.ref a2), .val (.ref b110)] [(.int (0 : Int32)), (.ref b110)])
  refine own_by (fun _ k => XS.iloadN X112.here hx rfl (hb hby d1_10) rfl k) ?_
  show own_Go p e below _ T112 (mkF m 11 #[.val (.int p1), .val (.ref a2), .val (.ref b110)] [(.int p1), (.int (0 : Int32)), (.ref b110)])
  obtain ⟨_, T113, L113, X113, ⟨rfl, N113q, e113⟩, st113⟩ := own_callS X112 hx hZ hown (y := (⟨"com/example/tabularium/tabularium/traceability/Der", "contextTag", "(I)I"⟩ : MethodName)) (hw _ (List.mem_of_getElem? (i := 15) rfl)) (hw _ (List.mem_of_getElem? (i := 16) rfl)) (hw _ (List.mem_of_getElem? (i := 4) rfl)) (hw _ (List.mem_of_getElem? (i := 17) rfl)) (by decide) (argsL := [(.int p1)]) (rest := [(.int (0 : Int32)), (.ref b110)]) e112 (rm2 l Z a0 hw [] p1 h110 n0 Z110 h1 h2) (g := (mkF m 11 #[.val (.int p1), .val (.ref a2), .val (.ref b110)] [(.int p1), (.int (0 : Int32)), (.ref b110)])) rfl (by rw [hml]; rfl) (lenOf pd_0 rfl) rfl (W := 2) (by show 2 * 0 + _ ≤ _; exact Nat.le_of_eq rfl) (hb hby d1_11) (by decide) (by decide) (by decide) (by decide)
  have N113 := Fr.app N0 N113q
  refine own_by st113 ?_
  show own_Go p e below _ T113 (mkF m 14 #[.val (.int p1), .val (.ref a2), .val (.ref b110)] [(.int ((128 : Int32) ||| p1)), (.int (0 : Int32)), (.ref b110)])
  refine own_by (fun _ k => XS.aloadN X113.here hx rfl (hb hby d1_14) rfl rfl k) ?_
  show own_Go p e below _ T113 (mkF m 15 #[.val (.int p1), .val (.ref a2), .val (.ref b110)] [(.ref a2), (.int ((128 : Int32) ||| p1)), (.int (0 : Int32)), (.ref b110)])
  refine own_by (fun _ k => XS.iconst X113.here hx rfl (hb hby d1_15) k) ?_
  show own_Go p e below _ T113 (mkF m 16 #[.val (.int p1), .val (.ref a2), .val (.ref b110)] [(.int (0 : Int32)), (.ref a2), (.int ((128 : Int32) ||| p1)), (.int (0 : Int32)), (.ref b110)])
  have f115 := (V1.ext E110)
  obtain ⟨cl114, Ar114, cq114, hin114, hat114, set114⟩ := own_arv f115 (j := (0 : Int32)) ⟨by decide, by decide⟩
  refine own_by (fun _ k => X113.baloadBytes hx (j := (0 : Int32)) (v := (.int x0)) (by rw [e113]; exact Ar114.1) (State.isArrayOf_alike hZ.alike Ar114.2.1) Ar114.2.2 hin114 hat114 (g := (mkF m 16 #[.val (.int p1), .val (.ref a2), .val (.ref b110)] [(.int (0 : Int32)), (.ref a2), (.int ((128 : Int32) ||| p1)), (.int (0 : Int32)), (.ref b110)])) rfl rfl (hb hby d1_16) _ k) ?_
  show own_Go p e below _ T113 (mkF m 17 #[.val (.int p1), .val (.ref a2), .val (.ref b110)] [(.int x0), (.int ((128 : Int32) ||| p1)), (.int (0 : Int32)), (.ref b110)])
  refine own_by (fun _ k => XS.bipush X113.here hx rfl (hb hby d1_17) k) ?_
  show own_Go p e below _ T113 (mkF m 19 #[.val (.int p1), .val (.ref a2), .val (.ref b110)] [(.int (32 : Int32)), (.int x0), (.int ((128 : Int32) ||| p1)), (.int (0 : Int32)), (.ref b110)])
  refine own_by (fun _ k => XS.iand X113.here hx rfl (hb hby d1_19) rfl k) ?_
  show own_Go p e below _ T113 (mkF m 20 #[.val (.int p1), .val (.ref a2), .val (.ref b110)] [(.int (x0 &&& (32 : Int32))), (.int ((128 : Int32) ||| p1)), (.int (0 : Int32)), (.ref b110)])
  refine own_by (fun _ k => XS.ior X113.here hx rfl (hb hby d1_20) rfl k) ?_
  show own_Go p e below _ T113 (mkF m 21 #[.val (.int p1), .val (.ref a2), .val (.ref b110)] [(.int (((128 : Int32) ||| p1) ||| (x0 &&& (32 : Int32)))), (.int (0 : Int32)), (.ref b110)])
  refine own_by (fun _ k => XS.i2b X113.here hx rfl (hb hby d1_21) rfl k) ?_
  show own_Go p e below _ T113 (mkF m 22 #[.val (.int p1), .val (.ref a2), .val (.ref b110)] [(.int ((((128 : Int32) ||| p1) ||| (x0 &&& (32 : Int32))).toInt8.toInt32)), (.int (0 : Int32)), (.ref b110)])
  obtain ⟨cl116, Ar116, cq116, hin116, hat116, set116⟩ := own_arv V110 (j := (0 : Int32)) ⟨by decide, by decide⟩
  obtain ⟨T117, h117, X117, e117, W117, st117⟩ := stB X113 hx hZ e113 Ar116 (j := (0 : Int32)) hin116 (g := (mkF m 22 #[.val (.int p1), .val (.ref a2), .val (.ref b110)] [(.int ((((128 : Int32) ||| p1) ||| (x0 &&& (32 : Int32))).toInt8.toInt32)), (.int (0 : Int32)), (.ref b110)])) rfl rfl (hb hby d1_22)
  have wq117 : nar .byte ((((128 : Int32) ||| p1) ||| (x0 &&& (32 : Int32))).toInt8.toInt32) = ((((128 : Int32) ||| p1) ||| (x0 &&& (32 : Int32))).toInt8.toInt32) := own_nb _
  rw [wq117] at W117
  have wf117 : fits .byte (.int ((((128 : Int32) ||| p1) ||| (x0 &&& (32 : Int32))).toInt8.toInt32)) = true := wq117 ▸ (fits_nar_byte _)
  have V117 : Arv Z h117 b110 k2 .byte (2 : Int32) [(.int ((((128 : Int32) ||| p1) ||| (x0 &&& (32 : Int32))).toInt8.toInt32)), (.int x1)] (.int (0 : Int32)) := set116 wf117 W117 0 rfl (Nat.le_of_ble_eq_true rfl)
  have N117 := Fr.snoc X117 N113 og_b110
  have K118 := K111.wr W117 (Or.inr sz_b110)
  have Z117 : n0 ≤ h117.size := Nat.le_trans Z110 (Keep.of_wr W117).1
  refine own_by st117 ?_
  show own_Go p e below _ T117 (mkF m 23 #[.val (.int p1), .val (.ref a2), .val (.ref b110)] [])
  refine own_by (fun _ k => XS.aloadN X117.here hx rfl (hb hby d1_23) rfl rfl k) ?_
  show own_Go p e below _ T117 (mkF m 24 #[.val (.int p1), .val (.ref a2), .val (.ref b110)] [(.ref b110)])
  exact own_retA X117 hx hlk hret rfl rfl (hb hby d1_24) (by first | exact ⟨b110, rfl, N117, K118, sz_b110, V117⟩ | (rw [e117]; exact ⟨b110, rfl, N117, K118, sz_b110, V117⟩)) (by decide) (by decide)
def Q_rm1_3 (Z : State) (p1 : Int32) (a2 : Addr) (k2 : ClassId) (x0 x1 x2 : Int32) (h0 : Heap) (n0 : Nat) (v : Option Value) (h : Heap) (L : List Loc) : Prop := ∃ b, v = some (.ref b) ∧ Fr n0 L ∧ Keep h0 h [] ∧ h0.size ≤ b ∧ Arv Z h b k2 .byte (3 : Int32) [(.int ((((128 : Int32) ||| p1) ||| (x0 &&& (32 : Int32))).toInt8.toInt32)), (.int x1), (.int x2)] (.int (0 : Int32))
theorem pn_rm1_3 : plainFor (⟨"com/example/tabularium/tabularium/traceability/Der", "implicit", "(I[B)[B"⟩ : MethodName) = true := plainFor_of_name (by first | (simp [plainName, overriddenIn, x]; done) | decide +kernel)
set_option maxRecDepth 65536 in
set_option maxHeartbeats 40000000 in
theorem rm1_3 (l : Launch) (Z : State) (a0 : Array Value) (hw : ∀ d ∈ tables_1, d.before a0 Z = true) (ws : List Jvm.Cond) (p1 : Int32) (a2 : Addr) (k2 : ClassId) (x0 x1 x2 : Int32) (h0 : Heap) (n0 : Nat) (Z0 : n0 ≤ h0.size) (h1 : ¬ p1 < 0) (h2 : ¬ (30 : Int32) < p1) (E1 : Exa Z h0 a2 "[B") (V1 : Arv Z h0 a2 k2 .byte (3 : Int32) [(.int x0), (.int x1), (.int x2)] (.int (0 : Int32))) :
    own_Met l Z (⟨"com/example/tabularium/tabularium/traceability/Der", "implicit", "(I[B)[B"⟩ : MethodName) prog_33_method_11_code 3 (some (.array .byte)) ws ({ frames := 1, cells := 1, slots := 3, locals := 32 } : Room) #[(.int p1), (.ref a2)] h0 (Q_rm1_3 Z p1 a2 k2 x0 x1 x2 h0 n0) := by
  refine own_enter (g0 := fun m => (mkF m 0 #[.val (.int p1), .val (.ref a2), .unset] [])) pn_rm1_3 (fun m => by first | (simp [entryFrame, mkF, argsToLocals, Value.category, maxLocals]; done) | rfl) ?_
  intro p e s m below meth c s₁ hx hby hml hown hnm hret hlk hZ X0 e0
  have hml : c.maxLocals = 3 := hml
  have hown : s.vm.findClass "com/example/tabularium/tabularium/traceability/Der" = some m.cls := hown
  have N0 := Fr.nil n0
  show own_Go p e below _ s₁ (mkF m 0 #[.val (.int p1), .val (.ref a2), .unset] [])
  have K0 := Keep.refl h0 []
  refine own_by (fun _ k => XS.aloadN X0.here hx rfl (hb hby d1_0) rfl rfl k) ?_
  show own_Go p e below _ s₁ (mkF m 1 #[.val (.int p1), .val (.ref a2), .unset] [(.ref a2)])
  obtain ⟨T119, h119, X119, e119, E119, A119, C119, st119⟩ := cloneH X0 hx hZ hown (hw _ (List.mem_of_getElem? (i := 6) rfl)) (hw _ (List.mem_of_getElem? (i := 7) rfl)) (hw _ (List.mem_of_getElem? (i := 11) rfl)) (hw _ (List.mem_of_getElem? (i := 9) rfl)) (hw _ (List.mem_of_getElem? (i := 10) rfl)) (hw _ (List.mem_of_getElem? (i := 12) rfl)) e0 (hs := []) V1 E1 (g := (mkF m 1 #[.val (.int p1), .val (.ref a2), .unset] [(.ref a2)])) rfl (by rw [hml]; rfl) rfl (hb hby d1_1) (by decide) (W := 0) (cap := 3) (by show 2 * 0 + _ ≤ _; exact Nat.le_of_eq rfl) (by decide) (by decide) (by decide) (by decide)
  obtain ⟨b119, g119⟩ : ∃ z, z = h0.size := ⟨_, rfl⟩
  rw [← g119] at A119 C119 st119
  have ne_a2_b119 : a2 ≠ b119 := Nat.ne_of_lt (Nat.lt_of_lt_of_le V1.lt (Nat.le_of_eq g119.symm))
  have og_b119 : n0 ≤ b119 := Nat.le_trans Z0 (Nat.le_of_eq g119.symm)
  have sz_b119 : h0.size ≤ b119 := Nat.le_trans K0.1 (Nat.le_of_eq g119.symm)
  have Z119 : n0 ≤ h119.size := Nat.le_trans Z0 E119.1
  have K120 := K0.ext E119
  have V119 : Arv Z h119 b119 k2 .byte (3 : Int32) [(.int x0), (.int x1), (.int x2)] (.int (0 : Int32)) := A119
  refine own_by st119 ?_
  show own_Go p e below _ T119 (mkF m 4 #[.val (.int p1), .val (.ref a2), .unset] [(.ref b119)])
  obtain ⟨T121, X121, e121, st121⟩ := castY X119 hx hZ hown (hw _ (List.mem_of_getElem? (i := 13) rfl)) e119 (Ins.self C119) (g := (mkF m 4 #[.val (.int p1), .val (.ref a2), .unset] [(.ref b119)])) rfl rfl (hb hby d1_4)
  refine own_by st121 ?_
  show own_Go p e below _ T121 (mkF m 7 #[.val (.int p1), .val (.ref a2), .unset] [(.ref b119)])
  refine own_by (fun _ k => XS.astoreN X121.here hx rfl (hb hby d1_7) rfl rfl (l' := #[.val (.int p1), .val (.ref a2), .val (.ref b119)]) rfl k) ?_
  show own_Go p e below _ T121 (mkF m 8 #[.val (.int p1), .val (.ref a2), .val (.ref b119)] [])
  refine own_by (fun _ k => XS.aloadN X121.here hx rfl (hb hby d1_8) rfl rfl k) ?_
  show own_Go p e below _ T121 (mkF m 9 #[.val (.int p1), .val (.ref a2), .val (.ref b119)] [(.ref b119)])
  refine own_by (fun _ k => XS.iconst X121.here hx rfl (hb hby d1_9) k) ?_
  show own_Go p e below _ T121 (mkF m 10 #[.val (.int p1), .val (.ref a2), .val (.ref b119)] [(.int (0 : Int32)), (.ref b119)])
  refine own_by (fun _ k => XS.iloadN X121.here hx rfl (hb hby d1_10) rfl k) ?_
  show own_Go p e below _ T121 (mkF m 11 #[.val (.int p1), .val (.ref a2), .val (.ref b119)] [(.int p1), (.int (0 : Int32)), (.ref b119)])
  obtain ⟨_, T122, L122, X122, ⟨rfl, N122q, e122⟩, st122⟩ := own_callS X121 hx hZ hown (y := (⟨"com/example/tabularium/tabularium/traceability/Der", "contextTag", "(I)I"⟩ : MethodName)) (hw _ (List.mem_of_getElem? (i := 15) rfl)) (hw _ (List.mem_of_getElem? (i := 16) rfl)) (hw _ (List.mem_of_getElem? (i := 4) rfl)) (hw _ (List.mem_of_getElem? (i := 17) rfl)) (by decide) (argsL := [(.int p1)]) (rest := [(.int (0 : Int32)), (.ref b119)]) e121 (rm2 l Z a0 hw [] p1 h119 n0 Z119 h1 h2) (g := (mkF m 11 #[.val (.int p1), .val (.ref a2), .val (.ref b119)] [(.int p1), (.int (0 : Int32)), (.ref b119)])) rfl (by rw [hml]; rfl) (lenOf pd_0 rfl) rfl (W := 2) (by show 2 * 0 + _ ≤ _; exact Nat.le_of_eq rfl) (hb hby d1_11) (by decide) (by decide) (by decide) (by decide)
  have N122 := Fr.app N0 N122q
  refine own_by st122 ?_
  show own_Go p e below _ T122 (mkF m 14 #[.val (.int p1), .val (.ref a2), .val (.ref b119)] [(.int ((128 : Int32) ||| p1)), (.int (0 : Int32)), (.ref b119)])
  refine own_by (fun _ k => XS.aloadN X122.here hx rfl (hb hby d1_14) rfl rfl k) ?_
  show own_Go p e below _ T122 (mkF m 15 #[.val (.int p1), .val (.ref a2), .val (.ref b119)] [(.ref a2), (.int ((128 : Int32) ||| p1)), (.int (0 : Int32)), (.ref b119)])
  refine own_by (fun _ k => XS.iconst X122.here hx rfl (hb hby d1_15) k) ?_
  show own_Go p e below _ T122 (mkF m 16 #[.val (.int p1), .val (.ref a2), .val (.ref b119)] [(.int (0 : Int32)), (.ref a2), (.int ((128 : Int32) ||| p1)), (.int (0 : Int32)), (.ref b119)])
  have f124 := (V1.ext E119)
  obtain ⟨cl123, Ar123, cq123, hin123, hat123, set123⟩ := own_arv f124 (j := (0 : Int32)) ⟨by decide, by decide⟩
  refine own_by (fun _ k => X122.baloadBytes hx (j := (0 : Int32)) (v := (.int x0)) (by rw [e122]; exact Ar123.1) (State.isArrayOf_alike hZ.alike Ar123.2.1) Ar123.2.2 hin123 hat123 (g := (mkF m 16 #[.val (.int p1), .val (.ref a2), .val (.ref b119)] [(.int (0 : Int32)), (.ref a2), (.int ((128 : Int32) ||| p1)), (.int (0 : Int32)), (.ref b119)])) rfl rfl (hb hby d1_16) _ k) ?_
  show own_Go p e below _ T122 (mkF m 17 #[.val (.int p1), .val (.ref a2), .val (.ref b119)] [(.int x0), (.int ((128 : Int32) ||| p1)), (.int (0 : Int32)), (.ref b119)])
  refine own_by (fun _ k => XS.bipush X122.here hx rfl (hb hby d1_17) k) ?_
  show own_Go p e below _ T122 (mkF m 19 #[.val (.int p1), .val (.ref a2), .val (.ref b119)] [(.int (32 : Int32)), (.int x0), (.int ((128 : Int32) ||| p1)), (.int (0 : Int32)), (.ref b119)])
  refine own_by (fun _ k => XS.iand X122.here hx rfl (hb hby d1_19) rfl k) ?_
  show own_Go p e below _ T122 (mkF m 20 #[.val (.int p1), .val (.ref a2), .val (.ref b119)] [(.int (x0 &&& (32 : Int32))), (.int ((128 : Int32) ||| p1)), (.int (0 : Int32)), (.ref b119)])
  refine own_by (fun _ k => XS.ior X122.here hx rfl (hb hby d1_20) rfl k) ?_
  show own_Go p e below _ T122 (mkF m 21 #[.val (.int p1), .val (.ref a2), .val (.ref b119)] [(.int (((128 : Int32) ||| p1) ||| (x0 &&& (32 : Int32)))), (.int (0 : Int32)), (.ref b119)])
  refine own_by (fun _ k => XS.i2b X122.here hx rfl (hb hby d1_21) rfl k) ?_
  show own_Go p e below _ T122 (mkF m 22 #[.val (.int p1), .val (.ref a2), .val (.ref b119)] [(.int ((((128 : Int32) ||| p1) ||| (x0 &&& (32 : Int32))).toInt8.toInt32)), (.int (0 : Int32)), (.ref b119)])
  obtain ⟨cl125, Ar125, cq125, hin125, hat125, set125⟩ := own_arv V119 (j := (0 : Int32)) ⟨by decide, by decide⟩
  obtain ⟨T126, h126, X126, e126, W126, st126⟩ := stB X122 hx hZ e122 Ar125 (j := (0 : Int32)) hin125 (g := (mkF m 22 #[.val (.int p1), .val (.ref a2), .val (.ref b119)] [(.int ((((128 : Int32) ||| p1) ||| (x0 &&& (32 : Int32))).toInt8.toInt32)), (.int (0 : Int32)), (.ref b119)])) rfl rfl (hb hby d1_22)
  have wq126 : nar .byte ((((128 : Int32) ||| p1) ||| (x0 &&& (32 : Int32))).toInt8.toInt32) = ((((128 : Int32) ||| p1) ||| (x0 &&& (32 : Int32))).toInt8.toInt32) := own_nb _
  rw [wq126] at W126
  have wf126 : fits .byte (.int ((((128 : Int32) ||| p1) ||| (x0 &&& (32 : Int32))).toInt8.toInt32)) = true := wq126 ▸ (fits_nar_byte _)
  have V126 : Arv Z h126 b119 k2 .byte (3 : Int32) [(.int ((((128 : Int32) ||| p1) ||| (x0 &&& (32 : Int32))).toInt8.toInt32)), (.int x1), (.int x2)] (.int (0 : Int32)) := set125 wf126 W126 0 rfl (Nat.le_of_ble_eq_true rfl)
  have N126 := Fr.snoc X126 N122 og_b119
  have K127 := K120.wr W126 (Or.inr sz_b119)
  have Z126 : n0 ≤ h126.size := Nat.le_trans Z119 (Keep.of_wr W126).1
  refine own_by st126 ?_
  show own_Go p e below _ T126 (mkF m 23 #[.val (.int p1), .val (.ref a2), .val (.ref b119)] [])
  refine own_by (fun _ k => XS.aloadN X126.here hx rfl (hb hby d1_23) rfl rfl k) ?_
  show own_Go p e below _ T126 (mkF m 24 #[.val (.int p1), .val (.ref a2), .val (.ref b119)] [(.ref b119)])
  exact own_retA X126 hx hlk hret rfl rfl (hb hby d1_24) (by first | exact ⟨b119, rfl, N126, K127, sz_b119, V126⟩ | (rw [e126]; exact ⟨b119, rfl, N126, K127, sz_b119, V126⟩)) (by decide) (by decide)
def Q_rm1_4 (Z : State) (p1 : Int32) (a2 : Addr) (k2 : ClassId) (x0 x1 x2 x3 : Int32) (h0 : Heap) (n0 : Nat) (v : Option Value) (h : Heap) (L : List Loc) : Prop := ∃ b, v = some (.ref b) ∧ Fr n0 L ∧ Keep h0 h [] ∧ h0.size ≤ b ∧ Arv Z h b k2 .byte (4 : Int32) [(.int ((((128 : Int32) ||| p1) ||| (x0 &&& (32 : Int32))).toInt8.toInt32)), (.int x1), (.int x2), (.int x3)] (.int (0 : Int32))
theorem pn_rm1_4 : plainFor (⟨"com/example/tabularium/tabularium/traceability/Der", "implicit", "(I[B)[B"⟩ : MethodName) = true := plainFor_of_name (by first | (simp [plainName, overriddenIn, x]; done) | decide +kernel)
set_option maxRecDepth 65536 in
set_option maxHeartbeats 40000000 in
theorem rm1_4 (l : Launch) (Z : State) (a0 : Array Value) (hw : ∀ d ∈ tables_1, d.before a0 Z = true) (ws : List Jvm.Cond) (p1 : Int32) (a2 : Addr) (k2 : ClassId) (x0 x1 x2 x3 : Int32) (h0 : Heap) (n0 : Nat) (Z0 : n0 ≤ h0.size) (h1 : ¬ p1 < 0) (h2 : ¬ (30 : Int32) < p1) (E1 : Exa Z h0 a2 "[B") (V1 : Arv Z h0 a2 k2 .byte (4 : Int32) [(.int x0), (.int x1), (.int x2), (.int x3)] (.int (0 : Int32))) :
    own_Met l Z (⟨"com/example/tabularium/tabularium/traceability/Der", "implicit", "(I[B)[B"⟩ : MethodName) prog_33_method_11_code 3 (some (.array .byte)) ws ({ frames := 1, cells := 1, slots := 4, locals := 32 } : Room) #[(.int p1), (.ref a2)] h0 (Q_rm1_4 Z p1 a2 k2 x0 x1 x2 x3 h0 n0) := by
  refine own_enter (g0 := fun m => (mkF m 0 #[.val (.int p1), .val (.ref a2), .unset] [])) pn_rm1_4 (fun m => by first | (simp [entryFrame, mkF, argsToLocals, Value.category, maxLocals]; done) | rfl) ?_
  intro p e s m below meth c s₁ hx hby hml hown hnm hret hlk hZ X0 e0
  have hml : c.maxLocals = 3 := hml
  have hown : s.vm.findClass "com/example/tabularium/tabularium/traceability/Der" = some m.cls := hown
  have N0 := Fr.nil n0
  show own_Go p e below _ s₁ (mkF m 0 #[.val (.int p1), .val (.ref a2), .unset] [])
  have K0 := Keep.refl h0 []
  refine own_by (fun _ k => XS.aloadN X0.here hx rfl (hb hby d1_0) rfl rfl k) ?_
  show own_Go p e below _ s₁ (mkF m 1 #[.val (.int p1), .val (.ref a2), .unset] [(.ref a2)])
  obtain ⟨T128, h128, X128, e128, E128, A128, C128, st128⟩ := cloneH X0 hx hZ hown (hw _ (List.mem_of_getElem? (i := 6) rfl)) (hw _ (List.mem_of_getElem? (i := 7) rfl)) (hw _ (List.mem_of_getElem? (i := 11) rfl)) (hw _ (List.mem_of_getElem? (i := 9) rfl)) (hw _ (List.mem_of_getElem? (i := 10) rfl)) (hw _ (List.mem_of_getElem? (i := 12) rfl)) e0 (hs := []) V1 E1 (g := (mkF m 1 #[.val (.int p1), .val (.ref a2), .unset] [(.ref a2)])) rfl (by rw [hml]; rfl) rfl (hb hby d1_1) (by decide) (W := 0) (cap := 4) (by show 2 * 0 + _ ≤ _; exact Nat.le_of_eq rfl) (by decide) (by decide) (by decide) (by decide)
  obtain ⟨b128, g128⟩ : ∃ z, z = h0.size := ⟨_, rfl⟩
  rw [← g128] at A128 C128 st128
  have ne_a2_b128 : a2 ≠ b128 := Nat.ne_of_lt (Nat.lt_of_lt_of_le V1.lt (Nat.le_of_eq g128.symm))
  have og_b128 : n0 ≤ b128 := Nat.le_trans Z0 (Nat.le_of_eq g128.symm)
  have sz_b128 : h0.size ≤ b128 := Nat.le_trans K0.1 (Nat.le_of_eq g128.symm)
  have Z128 : n0 ≤ h128.size := Nat.le_trans Z0 E128.1
  have K129 := K0.ext E128
  have V128 : Arv Z h128 b128 k2 .byte (4 : Int32) [(.int x0), (.int x1), (.int x2), (.int x3)] (.int (0 : Int32)) := A128
  refine own_by st128 ?_
  show own_Go p e below _ T128 (mkF m 4 #[.val (.int p1), .val (.ref a2), .unset] [(.ref b128)])
  obtain ⟨T130, X130, e130, st130⟩ := castY X128 hx hZ hown (hw _ (List.mem_of_getElem? (i := 13) rfl)) e128 (Ins.self C128) (g := (mkF m 4 #[.val (.int p1), .val (.ref a2), .unset] [(.ref b128)])) rfl rfl (hb hby d1_4)
  refine own_by st130 ?_
  show own_Go p e below _ T130 (mkF m 7 #[.val (.int p1), .val (.ref a2), .unset] [(.ref b128)])
  refine own_by (fun _ k => XS.astoreN X130.here hx rfl (hb hby d1_7) rfl rfl (l' := #[.val (.int p1), .val (.ref a2), .val (.ref b128)]) rfl k) ?_
  show own_Go p e below _ T130 (mkF m 8 #[.val (.int p1), .val (.ref a2), .val (.ref b128)] [])
  refine own_by (fun _ k => XS.aloadN X130.here hx rfl (hb hby d1_8) rfl rfl k) ?_
  show own_Go p e below _ T130 (mkF m 9 #[.val (.int p1), .val (.ref a2), .val (.ref b128)] [(.ref b128)])
  refine own_by (fun _ k => XS.iconst X130.here hx rfl (hb hby d1_9) k) ?_
  show own_Go p e below _ T130 (mkF m 10 #[.val (.int p1), .val (.ref a2), .val (.ref b128)] [(.int (0 : Int32)), (.ref b128)])
  refine own_by (fun _ k => XS.iloadN X130.here hx rfl (hb hby d1_10) rfl k) ?_
  show own_Go p e below _ T130 (mkF m 11 #[.val (.int p1), .val (.ref a2), .val (.ref b128)] [(.int p1), (.int (0 : Int32)), (.ref b128)])
  obtain ⟨_, T131, L131, X131, ⟨rfl, N131q, e131⟩, st131⟩ := own_callS X130 hx hZ hown (y := (⟨"com/example/tabularium/tabularium/traceability/Der", "contextTag", "(I)I"⟩ : MethodName)) (hw _ (List.mem_of_getElem? (i := 15) rfl)) (hw _ (List.mem_of_getElem? (i := 16) rfl)) (hw _ (List.mem_of_getElem? (i := 4) rfl)) (hw _ (List.mem_of_getElem? (i := 17) rfl)) (by decide) (argsL := [(.int p1)]) (rest := [(.int (0 : Int32)), (.ref b128)]) e130 (rm2 l Z a0 hw [] p1 h128 n0 Z128 h1 h2) (g := (mkF m 11 #[.val (.int p1), .val (.ref a2), .val (.ref b128)] [(.int p1), (.int (0 : Int32)), (.ref b128)])) rfl (by rw [hml]; rfl) (lenOf pd_0 rfl) rfl (W := 2) (by show 2 * 0 + _ ≤ _; exact Nat.le_of_eq rfl) (hb hby d1_11) (by decide) (by decide) (by decide) (by decide)
  have N131 := Fr.app N0 N131q
  refine own_by st131 ?_
  show own_Go p e below _ T131 (mkF m 14 #[.val (.int p1), .val (.ref a2), .val (.ref b128)] [(.int ((128 : Int32) ||| p1)), (.int (0 : Int32)), (.ref b128)])
  refine own_by (fun _ k => XS.aloadN X131.here hx rfl (hb hby d1_14) rfl rfl k) ?_
  show own_Go p e below _ T131 (mkF m 15 #[.val (.int p1), .val (.ref a2), .val (.ref b128)] [(.ref a2), (.int ((128 : Int32) ||| p1)), (.int (0 : Int32)), (.ref b128)])
  refine own_by (fun _ k => XS.iconst X131.here hx rfl (hb hby d1_15) k) ?_
  show own_Go p e below _ T131 (mkF m 16 #[.val (.int p1), .val (.ref a2), .val (.ref b128)] [(.int (0 : Int32)), (.ref a2), (.int ((128 : Int32) ||| p1)), (.int (0 : Int32)), (.ref b128)])
  have f133 := (V1.ext E128)
  obtain ⟨cl132, Ar132, cq132, hin132, hat132, set132⟩ := own_arv f133 (j := (0 : Int32)) ⟨by decide, by decide⟩
  refine own_by (fun _ k => X131.baloadBytes hx (j := (0 : Int32)) (v := (.int x0)) (by rw [e131]; exact Ar132.1) (State.isArrayOf_alike hZ.alike Ar132.2.1) Ar132.2.2 hin132 hat132 (g := (mkF m 16 #[.val (.int p1), .val (.ref a2), .val (.ref b128)] [(.int (0 : Int32)), (.ref a2), (.int ((128 : Int32) ||| p1)), (.int (0 : Int32)), (.ref b128)])) rfl rfl (hb hby d1_16) _ k) ?_
  show own_Go p e below _ T131 (mkF m 17 #[.val (.int p1), .val (.ref a2), .val (.ref b128)] [(.int x0), (.int ((128 : Int32) ||| p1)), (.int (0 : Int32)), (.ref b128)])
  refine own_by (fun _ k => XS.bipush X131.here hx rfl (hb hby d1_17) k) ?_
  show own_Go p e below _ T131 (mkF m 19 #[.val (.int p1), .val (.ref a2), .val (.ref b128)] [(.int (32 : Int32)), (.int x0), (.int ((128 : Int32) ||| p1)), (.int (0 : Int32)), (.ref b128)])
  refine own_by (fun _ k => XS.iand X131.here hx rfl (hb hby d1_19) rfl k) ?_
  show own_Go p e below _ T131 (mkF m 20 #[.val (.int p1), .val (.ref a2), .val (.ref b128)] [(.int (x0 &&& (32 : Int32))), (.int ((128 : Int32) ||| p1)), (.int (0 : Int32)), (.ref b128)])
  refine own_by (fun _ k => XS.ior X131.here hx rfl (hb hby d1_20) rfl k) ?_
  show own_Go p e below _ T131 (mkF m 21 #[.val (.int p1), .val (.ref a2), .val (.ref b128)] [(.int (((128 : Int32) ||| p1) ||| (x0 &&& (32 : Int32)))), (.int (0 : Int32)), (.ref b128)])
  refine own_by (fun _ k => XS.i2b X131.here hx rfl (hb hby d1_21) rfl k) ?_
  show own_Go p e below _ T131 (mkF m 22 #[.val (.int p1), .val (.ref a2), .val (.ref b128)] [(.int ((((128 : Int32) ||| p1) ||| (x0 &&& (32 : Int32))).toInt8.toInt32)), (.int (0 : Int32)), (.ref b128)])
  obtain ⟨cl134, Ar134, cq134, hin134, hat134, set134⟩ := own_arv V128 (j := (0 : Int32)) ⟨by decide, by decide⟩
  obtain ⟨T135, h135, X135, e135, W135, st135⟩ := stB X131 hx hZ e131 Ar134 (j := (0 : Int32)) hin134 (g := (mkF m 22 #[.val (.int p1), .val (.ref a2), .val (.ref b128)] [(.int ((((128 : Int32) ||| p1) ||| (x0 &&& (32 : Int32))).toInt8.toInt32)), (.int (0 : Int32)), (.ref b128)])) rfl rfl (hb hby d1_22)
  have wq135 : nar .byte ((((128 : Int32) ||| p1) ||| (x0 &&& (32 : Int32))).toInt8.toInt32) = ((((128 : Int32) ||| p1) ||| (x0 &&& (32 : Int32))).toInt8.toInt32) := own_nb _
  rw [wq135] at W135
  have wf135 : fits .byte (.int ((((128 : Int32) ||| p1) ||| (x0 &&& (32 : Int32))).toInt8.toInt32)) = true := wq135 ▸ (fits_nar_byte _)
  have V135 : Arv Z h135 b128 k2 .byte (4 : Int32) [(.int ((((128 : Int32) ||| p1) ||| (x0 &&& (32 : Int32))).toInt8.toInt32)), (.int x1), (.int x2), (.int x3)] (.int (0 : Int32)) := set134 wf135 W135 0 rfl (Nat.le_of_ble_eq_true rfl)
  have N135 := Fr.snoc X135 N131 og_b128
  have K136 := K129.wr W135 (Or.inr sz_b128)
  have Z135 : n0 ≤ h135.size := Nat.le_trans Z128 (Keep.of_wr W135).1
  refine own_by st135 ?_
  show own_Go p e below _ T135 (mkF m 23 #[.val (.int p1), .val (.ref a2), .val (.ref b128)] [])
  refine own_by (fun _ k => XS.aloadN X135.here hx rfl (hb hby d1_23) rfl rfl k) ?_
  show own_Go p e below _ T135 (mkF m 24 #[.val (.int p1), .val (.ref a2), .val (.ref b128)] [(.ref b128)])
  exact own_retA X135 hx hlk hret rfl rfl (hb hby d1_24) (by first | exact ⟨b128, rfl, N135, K136, sz_b128, V135⟩ | (rw [e135]; exact ⟨b128, rfl, N135, K136, sz_b128, V135⟩)) (by decide) (by decide)
def Q_rm0 (Z : State) (p1 p2 p3 p4 p5 p6 : Int32) (h0 : Heap) (n0 : Nat) (v : Option Value) (h : Heap) (L : List Loc) : Prop := v = some (.int 1) ∧ Fr n0 L
theorem pn_rm0 : plainFor x = true := plainFor_of_name (by first | (simp [plainName, overriddenIn, x]; done) | decide +kernel)
theorem pd_1 : parseMethodDescriptor "(I[B)[B" = some ⟨[.int, (.array .byte)], some (.array .byte)⟩ := by decide +kernel
set_option maxRecDepth 65536 in
set_option maxHeartbeats 40000000 in
theorem rm0 (l : Launch) (Z : State) (a0 : Array Value) (hw : ∀ d ∈ tables_1, d.before a0 Z = true) (ws : List Jvm.Cond) (p1 p2 p3 p4 p5 p6 : Int32) (h0 : Heap) (n0 : Nat) (Z0 : n0 ≤ h0.size)  :
    own_Met l Z x code maxLocals ret ws room_1 #[(.int p1), (.int p2), (.int p3), (.int p4), (.int p5), (.int p6)] h0 (Q_rm0 Z p1 p2 p3 p4 p5 p6 h0 n0) := by
  refine own_enter (g0 := fun m => (mkF m 0 #[.val (.int p1), .val (.int p2), .val (.int p3), .val (.int p4), .val (.int p5), .val (.int p6), .unset, .unset, .unset, .unset, .unset, .unset, .unset, .unset, .unset] [])) pn_rm0 (fun m => by first | (simp [entryFrame, mkF, argsToLocals, Value.category, maxLocals]; done) | rfl) ?_
  intro p e s m below meth c s₁ hx hby hml hown hnm hret hlk hZ X0 e0
  have hml : c.maxLocals = 15 := hml
  have hown : s.vm.findClass "com/example/tabularium/tabularium/traceability/DerImplicitPinLaw" = some m.cls := hown
  have N0 := Fr.nil n0
  show own_Go p e below _ s₁ (mkF m 0 #[.val (.int p1), .val (.int p2), .val (.int p3), .val (.int p4), .val (.int p5), .val (.int p6), .unset, .unset, .unset, .unset, .unset, .unset, .unset, .unset, .unset] [])
  refine own_by (fun _ k => XS.iloadN X0.here hx rfl (hb hby at_0) rfl k) ?_
  show own_Go p e below _ s₁ (mkF m 1 #[.val (.int p1), .val (.int p2), .val (.int p3), .val (.int p4), .val (.int p5), .val (.int p6), .unset, .unset, .unset, .unset, .unset, .unset, .unset, .unset, .unset] [(.int p1)])
  refine own_by (fun _ k => Stand.ldcI X0 hx hown (mvT hZ (hw _ (List.mem_of_getElem? (i := 0) rfl))) rfl (hb hby at_1) k) ?_
  show own_Go p e below _ s₁ (mkF m 3 #[.val (.int p1), .val (.int p2), .val (.int p3), .val (.int p4), .val (.int p5), .val (.int p6), .unset, .unset, .unset, .unset, .unset, .unset, .unset, .unset, .unset] [(.int (2147483647 : Int32)), (.int p1)])
  refine own_by (fun _ k => XS.iand X0.here hx rfl (hb hby at_3) rfl k) ?_
  show own_Go p e below _ s₁ (mkF m 4 #[.val (.int p1), .val (.int p2), .val (.int p3), .val (.int p4), .val (.int p5), .val (.int p6), .unset, .unset, .unset, .unset, .unset, .unset, .unset, .unset, .unset] [(.int (p1 &&& (2147483647 : Int32)))])
  refine own_by (fun _ k => XS.bipush X0.here hx rfl (hb hby at_4) k) ?_
  show own_Go p e below _ s₁ (mkF m 6 #[.val (.int p1), .val (.int p2), .val (.int p3), .val (.int p4), .val (.int p5), .val (.int p6), .unset, .unset, .unset, .unset, .unset, .unset, .unset, .unset, .unset] [(.int (31 : Int32)), (.int (p1 &&& (2147483647 : Int32)))])
  refine own_by (fun _ k => iremM X0 hx rfl (hb hby at_6) rfl (by decide) k) ?_
  show own_Go p e below _ s₁ (mkF m 7 #[.val (.int p1), .val (.int p2), .val (.int p3), .val (.int p4), .val (.int p5), .val (.int p6), .unset, .unset, .unset, .unset, .unset, .unset, .unset, .unset, .unset] [(.int ((p1 &&& (2147483647 : Int32)) % (31 : Int32)))])
  refine own_by (fun _ k => XS.istore X0.here hx rfl (hb hby at_7) rfl (l' := #[.val (.int p1), .val (.int p2), .val (.int p3), .val (.int p4), .val (.int p5), .val (.int p6), .val (.int ((p1 &&& (2147483647 : Int32)) % (31 : Int32))), .unset, .unset, .unset, .unset, .unset, .unset, .unset, .unset]) rfl k) ?_
  show own_Go p e below _ s₁ (mkF m 9 #[.val (.int p1), .val (.int p2), .val (.int p3), .val (.int p4), .val (.int p5), .val (.int p6), .val (.int ((p1 &&& (2147483647 : Int32)) % (31 : Int32))), .unset, .unset, .unset, .unset, .unset, .unset, .unset, .unset] [])
  obtain ⟨t, ht⟩ : ∃ z, z = ((p1 &&& (2147483647 : Int32)) % (31 : Int32)) := ⟨_, rfl⟩
  rw [← ht]
  show own_Go p e below _ s₁ (mkF m 9 #[.val (.int p1), .val (.int p2), .val (.int p3), .val (.int p4), .val (.int p5), .val (.int p6), .val (.int t), .unset, .unset, .unset, .unset, .unset, .unset, .unset, .unset] [])
  obtain ⟨kt, hkt⟩ := own_tag p1
  have hkt : t = Int32.ofNat kt.val := ht.trans hkt
  have ht1 : ¬ t < 0 := by rw [hkt]; exact (own_rgT kt).1
  have ht2 : ¬ (30 : Int32) < t := by rw [hkt]; exact (own_rgT kt).2
  refine own_by (fun _ k => XS.iload X0.here hx rfl (hb hby at_9) rfl k) ?_
  show own_Go p e below _ s₁ (mkF m 11 #[.val (.int p1), .val (.int p2), .val (.int p3), .val (.int p4), .val (.int p5), .val (.int p6), .val (.int t), .unset, .unset, .unset, .unset, .unset, .unset, .unset, .unset] [(.int p6)])
  refine own_by (fun _ k => XS.iconst X0.here hx rfl (hb hby at_11) k) ?_
  show own_Go p e below _ s₁ (mkF m 12 #[.val (.int p1), .val (.int p2), .val (.int p3), .val (.int p4), .val (.int p5), .val (.int p6), .val (.int t), .unset, .unset, .unset, .unset, .unset, .unset, .unset, .unset] [(.int (3 : Int32)), (.int p6)])
  refine own_by (fun _ k => XS.iand X0.here hx rfl (hb hby at_12) rfl k) ?_
  show own_Go p e below _ s₁ (mkF m 13 #[.val (.int p1), .val (.int p2), .val (.int p3), .val (.int p4), .val (.int p5), .val (.int p6), .val (.int t), .unset, .unset, .unset, .unset, .unset, .unset, .unset, .unset] [(.int (p6 &&& (3 : Int32)))])
  refine own_by (fun _ k => XS.iconst X0.here hx rfl (hb hby at_13) k) ?_
  show own_Go p e below _ s₁ (mkF m 14 #[.val (.int p1), .val (.int p2), .val (.int p3), .val (.int p4), .val (.int p5), .val (.int p6), .val (.int t), .unset, .unset, .unset, .unset, .unset, .unset, .unset, .unset] [(.int (1 : Int32)), (.int (p6 &&& (3 : Int32)))])
  refine own_by (fun _ k => XS.iadd X0.here hx rfl (hb hby at_14) rfl k) ?_
  show own_Go p e below _ s₁ (mkF m 15 #[.val (.int p1), .val (.int p2), .val (.int p3), .val (.int p4), .val (.int p5), .val (.int p6), .val (.int t), .unset, .unset, .unset, .unset, .unset, .unset, .unset, .unset] [(.int ((p6 &&& (3 : Int32)) + (1 : Int32)))])
  refine own_by (fun _ k => XS.istore X0.here hx rfl (hb hby at_15) rfl (l' := #[.val (.int p1), .val (.int p2), .val (.int p3), .val (.int p4), .val (.int p5), .val (.int p6), .val (.int t), .val (.int ((p6 &&& (3 : Int32)) + (1 : Int32))), .unset, .unset, .unset, .unset, .unset, .unset, .unset]) rfl k) ?_
  show own_Go p e below _ s₁ (mkF m 17 #[.val (.int p1), .val (.int p2), .val (.int p3), .val (.int p4), .val (.int p5), .val (.int p6), .val (.int t), .val (.int ((p6 &&& (3 : Int32)) + (1 : Int32))), .unset, .unset, .unset, .unset, .unset, .unset, .unset] [])
  refine own_by (fun _ k => XS.iloadN X0.here hx rfl (hb hby at_17) rfl k) ?_
  show own_Go p e below _ s₁ (mkF m 18 #[.val (.int p1), .val (.int p2), .val (.int p3), .val (.int p4), .val (.int p5), .val (.int p6), .val (.int t), .val (.int ((p6 &&& (3 : Int32)) + (1 : Int32))), .unset, .unset, .unset, .unset, .unset, .unset, .unset] [(.int p2)])
  refine own_by (fun _ k => XS.i2b X0.here hx rfl (hb hby at_18) rfl k) ?_
  show own_Go p e below _ s₁ (mkF m 19 #[.val (.int p1), .val (.int p2), .val (.int p3), .val (.int p4), .val (.int p5), .val (.int p6), .val (.int t), .val (.int ((p6 &&& (3 : Int32)) + (1 : Int32))), .unset, .unset, .unset, .unset, .unset, .unset, .unset] [(.int (p2.toInt8.toInt32))])
  refine own_by (fun _ k => XS.istore X0.here hx rfl (hb hby at_19) rfl (l' := #[.val (.int p1), .val (.int p2), .val (.int p3), .val (.int p4), .val (.int p5), .val (.int p6), .val (.int t), .val (.int ((p6 &&& (3 : Int32)) + (1 : Int32))), .val (.int (p2.toInt8.toInt32)), .unset, .unset, .unset, .unset, .unset, .unset]) rfl k) ?_
  show own_Go p e below _ s₁ (mkF m 21 #[.val (.int p1), .val (.int p2), .val (.int p3), .val (.int p4), .val (.int p5), .val (.int p6), .val (.int t), .val (.int ((p6 &&& (3 : Int32)) + (1 : Int32))), .val (.int (p2.toInt8.toInt32)), .unset, .unset, .unset, .unset, .unset, .unset] [])
  obtain ⟨x0, hx0⟩ : ∃ z, z = (p2.toInt8.toInt32) := ⟨_, rfl⟩
  rw [← hx0]
  show own_Go p e below _ s₁ (mkF m 21 #[.val (.int p1), .val (.int p2), .val (.int p3), .val (.int p4), .val (.int p5), .val (.int p6), .val (.int t), .val (.int ((p6 &&& (3 : Int32)) + (1 : Int32))), .val (.int x0), .unset, .unset, .unset, .unset, .unset, .unset] [])
  refine own_by (fun _ k => XS.iloadN X0.here hx rfl (hb hby at_21) rfl k) ?_
  show own_Go p e below _ s₁ (mkF m 22 #[.val (.int p1), .val (.int p2), .val (.int p3), .val (.int p4), .val (.int p5), .val (.int p6), .val (.int t), .val (.int ((p6 &&& (3 : Int32)) + (1 : Int32))), .val (.int x0), .unset, .unset, .unset, .unset, .unset, .unset] [(.int p3)])
  refine own_by (fun _ k => XS.i2b X0.here hx rfl (hb hby at_22) rfl k) ?_
  show own_Go p e below _ s₁ (mkF m 23 #[.val (.int p1), .val (.int p2), .val (.int p3), .val (.int p4), .val (.int p5), .val (.int p6), .val (.int t), .val (.int ((p6 &&& (3 : Int32)) + (1 : Int32))), .val (.int x0), .unset, .unset, .unset, .unset, .unset, .unset] [(.int (p3.toInt8.toInt32))])
  refine own_by (fun _ k => XS.istore X0.here hx rfl (hb hby at_23) rfl (l' := #[.val (.int p1), .val (.int p2), .val (.int p3), .val (.int p4), .val (.int p5), .val (.int p6), .val (.int t), .val (.int ((p6 &&& (3 : Int32)) + (1 : Int32))), .val (.int x0), .val (.int (p3.toInt8.toInt32)), .unset, .unset, .unset, .unset, .unset]) rfl k) ?_
  show own_Go p e below _ s₁ (mkF m 25 #[.val (.int p1), .val (.int p2), .val (.int p3), .val (.int p4), .val (.int p5), .val (.int p6), .val (.int t), .val (.int ((p6 &&& (3 : Int32)) + (1 : Int32))), .val (.int x0), .val (.int (p3.toInt8.toInt32)), .unset, .unset, .unset, .unset, .unset] [])
  obtain ⟨x1, hx1⟩ : ∃ z, z = (p3.toInt8.toInt32) := ⟨_, rfl⟩
  rw [← hx1]
  show own_Go p e below _ s₁ (mkF m 25 #[.val (.int p1), .val (.int p2), .val (.int p3), .val (.int p4), .val (.int p5), .val (.int p6), .val (.int t), .val (.int ((p6 &&& (3 : Int32)) + (1 : Int32))), .val (.int x0), .val (.int x1), .unset, .unset, .unset, .unset, .unset] [])
  refine own_by (fun _ k => XS.iloadN X0.here hx rfl (hb hby at_25) rfl k) ?_
  show own_Go p e below _ s₁ (mkF m 26 #[.val (.int p1), .val (.int p2), .val (.int p3), .val (.int p4), .val (.int p5), .val (.int p6), .val (.int t), .val (.int ((p6 &&& (3 : Int32)) + (1 : Int32))), .val (.int x0), .val (.int x1), .unset, .unset, .unset, .unset, .unset] [(.int p4)])
  refine own_by (fun _ k => XS.i2b X0.here hx rfl (hb hby at_26) rfl k) ?_
  show own_Go p e below _ s₁ (mkF m 27 #[.val (.int p1), .val (.int p2), .val (.int p3), .val (.int p4), .val (.int p5), .val (.int p6), .val (.int t), .val (.int ((p6 &&& (3 : Int32)) + (1 : Int32))), .val (.int x0), .val (.int x1), .unset, .unset, .unset, .unset, .unset] [(.int (p4.toInt8.toInt32))])
  refine own_by (fun _ k => XS.istore X0.here hx rfl (hb hby at_27) rfl (l' := #[.val (.int p1), .val (.int p2), .val (.int p3), .val (.int p4), .val (.int p5), .val (.int p6), .val (.int t), .val (.int ((p6 &&& (3 : Int32)) + (1 : Int32))), .val (.int x0), .val (.int x1), .val (.int (p4.toInt8.toInt32)), .unset, .unset, .unset, .unset]) rfl k) ?_
  show own_Go p e below _ s₁ (mkF m 29 #[.val (.int p1), .val (.int p2), .val (.int p3), .val (.int p4), .val (.int p5), .val (.int p6), .val (.int t), .val (.int ((p6 &&& (3 : Int32)) + (1 : Int32))), .val (.int x0), .val (.int x1), .val (.int (p4.toInt8.toInt32)), .unset, .unset, .unset, .unset] [])
  obtain ⟨x2, hx2⟩ : ∃ z, z = (p4.toInt8.toInt32) := ⟨_, rfl⟩
  rw [← hx2]
  show own_Go p e below _ s₁ (mkF m 29 #[.val (.int p1), .val (.int p2), .val (.int p3), .val (.int p4), .val (.int p5), .val (.int p6), .val (.int t), .val (.int ((p6 &&& (3 : Int32)) + (1 : Int32))), .val (.int x0), .val (.int x1), .val (.int x2), .unset, .unset, .unset, .unset] [])
  refine own_by (fun _ k => XS.iload X0.here hx rfl (hb hby at_29) rfl k) ?_
  show own_Go p e below _ s₁ (mkF m 31 #[.val (.int p1), .val (.int p2), .val (.int p3), .val (.int p4), .val (.int p5), .val (.int p6), .val (.int t), .val (.int ((p6 &&& (3 : Int32)) + (1 : Int32))), .val (.int x0), .val (.int x1), .val (.int x2), .unset, .unset, .unset, .unset] [(.int p5)])
  refine own_by (fun _ k => XS.i2b X0.here hx rfl (hb hby at_31) rfl k) ?_
  show own_Go p e below _ s₁ (mkF m 32 #[.val (.int p1), .val (.int p2), .val (.int p3), .val (.int p4), .val (.int p5), .val (.int p6), .val (.int t), .val (.int ((p6 &&& (3 : Int32)) + (1 : Int32))), .val (.int x0), .val (.int x1), .val (.int x2), .unset, .unset, .unset, .unset] [(.int (p5.toInt8.toInt32))])
  refine own_by (fun _ k => XS.istore X0.here hx rfl (hb hby at_32) rfl (l' := #[.val (.int p1), .val (.int p2), .val (.int p3), .val (.int p4), .val (.int p5), .val (.int p6), .val (.int t), .val (.int ((p6 &&& (3 : Int32)) + (1 : Int32))), .val (.int x0), .val (.int x1), .val (.int x2), .val (.int (p5.toInt8.toInt32)), .unset, .unset, .unset]) rfl k) ?_
  show own_Go p e below _ s₁ (mkF m 34 #[.val (.int p1), .val (.int p2), .val (.int p3), .val (.int p4), .val (.int p5), .val (.int p6), .val (.int t), .val (.int ((p6 &&& (3 : Int32)) + (1 : Int32))), .val (.int x0), .val (.int x1), .val (.int x2), .val (.int (p5.toInt8.toInt32)), .unset, .unset, .unset] [])
  obtain ⟨x3, hx3⟩ : ∃ z, z = (p5.toInt8.toInt32) := ⟨_, rfl⟩
  rw [← hx3]
  show own_Go p e below _ s₁ (mkF m 34 #[.val (.int p1), .val (.int p2), .val (.int p3), .val (.int p4), .val (.int p5), .val (.int p6), .val (.int t), .val (.int ((p6 &&& (3 : Int32)) + (1 : Int32))), .val (.int x0), .val (.int x1), .val (.int x2), .val (.int x3), .unset, .unset, .unset] [])
  rcases own_four p6 with hk | hk | hk | hk
  · show own_Go p e below _ s₁ (mkF m 34 #[.val (.int p1), .val (.int p2), .val (.int p3), .val (.int p4), .val (.int p5), .val (.int p6), .val (.int t), .val (.int ((p6 &&& (3 : Int32)) + (1 : Int32))), .val (.int x0), .val (.int x1), .val (.int x2), .val (.int x3), .unset, .unset, .unset] [])
    rw [hk]
    rw [show (0 : Int32) + (1 : Int32) = (1 : Int32) from by decide]
    show own_Go p e below _ s₁ (mkF m 34 #[.val (.int p1), .val (.int p2), .val (.int p3), .val (.int p4), .val (.int p5), .val (.int p6), .val (.int t), .val (.int (1 : Int32)), .val (.int x0), .val (.int x1), .val (.int x2), .val (.int x3), .unset, .unset, .unset] [])
    refine own_by (fun _ k => XS.iload X0.here hx rfl (hb hby at_34) rfl k) ?_
    show own_Go p e below _ s₁ (mkF m 36 #[.val (.int p1), .val (.int p2), .val (.int p3), .val (.int p4), .val (.int p5), .val (.int p6), .val (.int t), .val (.int (1 : Int32)), .val (.int x0), .val (.int x1), .val (.int x2), .val (.int x3), .unset, .unset, .unset] [(.int (1 : Int32))])
    refine own_by (fun _ k => XS.iconst X0.here hx rfl (hb hby at_36) k) ?_
    show own_Go p e below _ s₁ (mkF m 37 #[.val (.int p1), .val (.int p2), .val (.int p3), .val (.int p4), .val (.int p5), .val (.int p6), .val (.int t), .val (.int (1 : Int32)), .val (.int x0), .val (.int x1), .val (.int x2), .val (.int x3), .unset, .unset, .unset] [(.int (1 : Int32)), (.int (1 : Int32))])
    refine own_by (fun _ k => XS.icmpNo X0.here hx rfl (hb hby at_37) rfl (teq (by decide : (1 : Int32) = (1 : Int32))).2 k) ?_
    show own_Go p e below _ s₁ (mkF m 40 #[.val (.int p1), .val (.int p2), .val (.int p3), .val (.int p4), .val (.int p5), .val (.int p6), .val (.int t), .val (.int (1 : Int32)), .val (.int x0), .val (.int x1), .val (.int x2), .val (.int x3), .unset, .unset, .unset] [])
    refine own_by (fun _ k => XS.iconst X0.here hx rfl (hb hby at_40) k) ?_
    show own_Go p e below _ s₁ (mkF m 41 #[.val (.int p1), .val (.int p2), .val (.int p3), .val (.int p4), .val (.int p5), .val (.int p6), .val (.int t), .val (.int (1 : Int32)), .val (.int x0), .val (.int x1), .val (.int x2), .val (.int x3), .unset, .unset, .unset] [(.int (1 : Int32))])
    obtain ⟨T137, h137, k137, X137, e137, E137, A137, C137, st137⟩ := newPE X0 hx hZ (hw _ (List.mem_of_getElem? (i := 1) rfl)) e0 (g := (mkF m 41 #[.val (.int p1), .val (.int p2), .val (.int p3), .val (.int p4), .val (.int p5), .val (.int p6), .val (.int t), .val (.int (1 : Int32)), .val (.int x0), .val (.int x1), .val (.int x2), .val (.int x3), .unset, .unset, .unset] [(.int (1 : Int32))])) rfl (hb hby at_41) rfl (by decide) (cap := 1) (by decide) (by decide) (by decide) (by decide) (ad := "[B") (by decide)
    obtain ⟨b137, g137⟩ : ∃ z, z = h0.size := ⟨_, rfl⟩
    rw [← g137] at A137 C137 st137
    have og_b137 : n0 ≤ b137 := Nat.le_trans Z0 (Nat.le_of_eq g137.symm)
    have Z137 : n0 ≤ h137.size := Nat.le_trans Z0 E137.1
    have V137 : Arv Z h137 b137 k137 .byte (1 : Int32) [(.int (0 : Int32))] (.int (0 : Int32)) := (Arv.new A137 (by decide)).pad (pad_rep [] (.int (0 : Int32)) 1)
    refine own_by st137 ?_
    show own_Go p e below _ T137 (mkF m 43 #[.val (.int p1), .val (.int p2), .val (.int p3), .val (.int p4), .val (.int p5), .val (.int p6), .val (.int t), .val (.int (1 : Int32)), .val (.int x0), .val (.int x1), .val (.int x2), .val (.int x3), .unset, .unset, .unset] [(.ref b137)])
    refine own_by (fun _ k => XS.dup X137.here hx rfl (hb hby at_43) rfl rfl k) ?_
    show own_Go p e below _ T137 (mkF m 44 #[.val (.int p1), .val (.int p2), .val (.int p3), .val (.int p4), .val (.int p5), .val (.int p6), .val (.int t), .val (.int (1 : Int32)), .val (.int x0), .val (.int x1), .val (.int x2), .val (.int x3), .unset, .unset, .unset] [(.ref b137), (.ref b137)])
    refine own_by (fun _ k => XS.iconst X137.here hx rfl (hb hby at_44) k) ?_
    show own_Go p e below _ T137 (mkF m 45 #[.val (.int p1), .val (.int p2), .val (.int p3), .val (.int p4), .val (.int p5), .val (.int p6), .val (.int t), .val (.int (1 : Int32)), .val (.int x0), .val (.int x1), .val (.int x2), .val (.int x3), .unset, .unset, .unset] [(.int (0 : Int32)), (.ref b137), (.ref b137)])
    refine own_by (fun _ k => XS.iload X137.here hx rfl (hb hby at_45) rfl k) ?_
    show own_Go p e below _ T137 (mkF m 47 #[.val (.int p1), .val (.int p2), .val (.int p3), .val (.int p4), .val (.int p5), .val (.int p6), .val (.int t), .val (.int (1 : Int32)), .val (.int x0), .val (.int x1), .val (.int x2), .val (.int x3), .unset, .unset, .unset] [(.int x0), (.int (0 : Int32)), (.ref b137), (.ref b137)])
    obtain ⟨cl138, Ar138, cq138, hin138, hat138, set138⟩ := own_arv V137 (j := (0 : Int32)) ⟨by decide, by decide⟩
    obtain ⟨T139, h139, X139, e139, W139, st139⟩ := stB X137 hx hZ e137 Ar138 (j := (0 : Int32)) hin138 (g := (mkF m 47 #[.val (.int p1), .val (.int p2), .val (.int p3), .val (.int p4), .val (.int p5), .val (.int p6), .val (.int t), .val (.int (1 : Int32)), .val (.int x0), .val (.int x1), .val (.int x2), .val (.int x3), .unset, .unset, .unset] [(.int x0), (.int (0 : Int32)), (.ref b137), (.ref b137)])) rfl rfl (hb hby at_47)
    have wq139 : nar .byte x0 = x0 := by rw [hx0]; exact own_nb _
    rw [wq139] at W139
    have wf139 : fits .byte (.int x0) = true := wq139 ▸ (fits_nar_byte _)
    have V139 : Arv Z h139 b137 k137 .byte (1 : Int32) [(.int x0)] (.int (0 : Int32)) := set138 wf139 W139 0 rfl (Nat.le_of_ble_eq_true rfl)
    have N139 := Fr.snoc X139 N0 og_b137
    have Z139 : n0 ≤ h139.size := Nat.le_trans Z137 (Keep.of_wr W139).1
    refine own_by st139 ?_
    show own_Go p e below _ T139 (mkF m 48 #[.val (.int p1), .val (.int p2), .val (.int p3), .val (.int p4), .val (.int p5), .val (.int p6), .val (.int t), .val (.int (1 : Int32)), .val (.int x0), .val (.int x1), .val (.int x2), .val (.int x3), .unset, .unset, .unset] [(.ref b137)])
    refine own_by (fun _ k => XS.astore X139.here hx rfl (hb hby at_48) rfl rfl (l' := #[.val (.int p1), .val (.int p2), .val (.int p3), .val (.int p4), .val (.int p5), .val (.int p6), .val (.int t), .val (.int (1 : Int32)), .val (.int x0), .val (.int x1), .val (.int x2), .val (.int x3), .val (.ref b137), .unset, .unset]) rfl k) ?_
    show own_Go p e below _ T139 (mkF m 50 #[.val (.int p1), .val (.int p2), .val (.int p3), .val (.int p4), .val (.int p5), .val (.int p6), .val (.int t), .val (.int (1 : Int32)), .val (.int x0), .val (.int x1), .val (.int x2), .val (.int x3), .val (.ref b137), .unset, .unset] [])
    refine own_by (fun _ k => XS.goto X139.here hx rfl (pc0 := 50) (pc' := 131) rfl (hb hby at_50) (by decide) (by decide) k) ?_
    show own_Go p e below _ T139 (mkF m 131 #[.val (.int p1), .val (.int p2), .val (.int p3), .val (.int p4), .val (.int p5), .val (.int p6), .val (.int t), .val (.int (1 : Int32)), .val (.int x0), .val (.int x1), .val (.int x2), .val (.int x3), .val (.ref b137), .unset, .unset] [])
    refine own_by (fun _ k => XS.iload X139.here hx rfl (hb hby at_131) rfl k) ?_
    show own_Go p e below _ T139 (mkF m 133 #[.val (.int p1), .val (.int p2), .val (.int p3), .val (.int p4), .val (.int p5), .val (.int p6), .val (.int t), .val (.int (1 : Int32)), .val (.int x0), .val (.int x1), .val (.int x2), .val (.int x3), .val (.ref b137), .unset, .unset] [(.int t)])
    refine own_by (fun _ k => XS.aload X139.here hx rfl (hb hby at_133) rfl rfl k) ?_
    show own_Go p e below _ T139 (mkF m 135 #[.val (.int p1), .val (.int p2), .val (.int p3), .val (.int p4), .val (.int p5), .val (.int p6), .val (.int t), .val (.int (1 : Int32)), .val (.int x0), .val (.int x1), .val (.int x2), .val (.int x3), .val (.ref b137), .unset, .unset] [(.ref b137), (.int t)])
    have f140 := (C137.wr W139)
    obtain ⟨_, T141, L141, X141, ⟨r, rfl, N141q, Kr, sr, Vr⟩, st141⟩ := own_callS X139 hx hZ hown (y := (⟨"com/example/tabularium/tabularium/traceability/Der", "implicit", "(I[B)[B"⟩ : MethodName)) (hw _ (List.mem_of_getElem? (i := 2) rfl)) (hw _ (List.mem_of_getElem? (i := 3) rfl)) (hw _ (List.mem_of_getElem? (i := 4) rfl)) (hw _ (List.mem_of_getElem? (i := 5) rfl)) (by decide) (argsL := [(.int t), (.ref b137)]) (rest := []) e139 (rm1_1 l Z a0 hw [] t b137 k137 x0 h139 n0 Z139 ht1 ht2 f140 V139) (g := (mkF m 135 #[.val (.int p1), .val (.int p2), .val (.int p3), .val (.int p4), .val (.int p5), .val (.int p6), .val (.int t), .val (.int (1 : Int32)), .val (.int x0), .val (.int x1), .val (.int x2), .val (.int x3), .val (.ref b137), .unset, .unset] [(.ref b137), (.int t)])) rfl (by rw [hml]; rfl) (lenOf pd_1 rfl) rfl (W := 0) (by show 2 * 0 + _ ≤ _; exact Nat.le_of_eq rfl) (hb hby at_135) (by decide) (by decide) (by decide) (by decide)
    have N141 := Fr.app N139 N141q
    refine own_by st141 ?_
    show own_Go p e below _ T141 (mkF m 138 #[.val (.int p1), .val (.int p2), .val (.int p3), .val (.int p4), .val (.int p5), .val (.int p6), .val (.int t), .val (.int (1 : Int32)), .val (.int x0), .val (.int x1), .val (.int x2), .val (.int x3), .val (.ref b137), .unset, .unset] [(.ref r)])
    have ner : b137 ≠ r := Nat.ne_of_lt (Nat.lt_of_lt_of_le V139.lt sr)
    have Z141 : n0 ≤ T141.heap.size := Nat.le_trans Z139 Kr.1
    refine own_by (fun _ k => XS.astore X141.here hx rfl (hb hby at_138) rfl rfl (l' := #[.val (.int p1), .val (.int p2), .val (.int p3), .val (.int p4), .val (.int p5), .val (.int p6), .val (.int t), .val (.int (1 : Int32)), .val (.int x0), .val (.int x1), .val (.int x2), .val (.int x3), .val (.ref b137), .val (.ref r), .unset]) rfl k) ?_
    show own_Go p e below _ T141 (mkF m 140 #[.val (.int p1), .val (.int p2), .val (.int p3), .val (.int p4), .val (.int p5), .val (.int p6), .val (.int t), .val (.int (1 : Int32)), .val (.int x0), .val (.int x1), .val (.int x2), .val (.int x3), .val (.ref b137), .val (.ref r), .unset] [])
    refine own_by (fun _ k => XS.iloadN X141.here hx rfl (hb hby at_140) rfl k) ?_
    show own_Go p e below _ T141 (mkF m 141 #[.val (.int p1), .val (.int p2), .val (.int p3), .val (.int p4), .val (.int p5), .val (.int p6), .val (.int t), .val (.int (1 : Int32)), .val (.int x0), .val (.int x1), .val (.int x2), .val (.int x3), .val (.ref b137), .val (.ref r), .unset] [(.int p2)])
    refine own_by (fun _ k => XS.bipush X141.here hx rfl (hb hby at_141) k) ?_
    show own_Go p e below _ T141 (mkF m 143 #[.val (.int p1), .val (.int p2), .val (.int p3), .val (.int p4), .val (.int p5), .val (.int p6), .val (.int t), .val (.int (1 : Int32)), .val (.int x0), .val (.int x1), .val (.int x2), .val (.int x3), .val (.ref b137), .val (.ref r), .unset] [(.int (32 : Int32)), (.int p2)])
    refine own_by (fun _ k => XS.iand X141.here hx rfl (hb hby at_143) rfl k) ?_
    show own_Go p e below _ T141 (mkF m 144 #[.val (.int p1), .val (.int p2), .val (.int p3), .val (.int p4), .val (.int p5), .val (.int p6), .val (.int t), .val (.int (1 : Int32)), .val (.int x0), .val (.int x1), .val (.int x2), .val (.int x3), .val (.ref b137), .val (.ref r), .unset] [(.int (p2 &&& (32 : Int32)))])
    have J166 : ∀ (ef : Int32) (hef : ((((128 : Int32) ||| t) ||| (x0 &&& (32 : Int32))).toInt8.toInt32) = ef.toInt8.toInt32), own_Go p e below (own_End s room_1.cells room_1.slots (Q_rm0 Z p1 p2 p3 p4 p5 p6 h0 n0)) T141 (mkF m 166 #[.val (.int p1), .val (.int p2), .val (.int p3), .val (.int p4), .val (.int p5), .val (.int p6), .val (.int t), .val (.int (1 : Int32)), .val (.int x0), .val (.int x1), .val (.int x2), .val (.int x3), .val (.ref b137), .val (.ref r), .val (.int ef)] []) := by
      intro  ef hef
      show own_Go p e below _ T141 (mkF m 166 #[.val (.int p1), .val (.int p2), .val (.int p3), .val (.int p4), .val (.int p5), .val (.int p6), .val (.int t), .val (.int (1 : Int32)), .val (.int x0), .val (.int x1), .val (.int x2), .val (.int x3), .val (.ref b137), .val (.ref r), .val (.int ef)] [])
      refine own_by (fun _ k => XS.aload X141.here hx rfl (hb hby at_166) rfl rfl k) ?_
      show own_Go p e below _ T141 (mkF m 168 #[.val (.int p1), .val (.int p2), .val (.int p3), .val (.int p4), .val (.int p5), .val (.int p6), .val (.int t), .val (.int (1 : Int32)), .val (.int x0), .val (.int x1), .val (.int x2), .val (.int x3), .val (.ref b137), .val (.ref r), .val (.int ef)] [(.ref r)])
      refine own_by (fun _ k => XS.ifnullNo X141.here hx rfl (hb hby at_168) rfl k) ?_
      show own_Go p e below _ T141 (mkF m 171 #[.val (.int p1), .val (.int p2), .val (.int p3), .val (.int p4), .val (.int p5), .val (.int p6), .val (.int t), .val (.int (1 : Int32)), .val (.int x0), .val (.int x1), .val (.int x2), .val (.int x3), .val (.ref b137), .val (.ref r), .val (.int ef)] [])
      refine own_by (fun _ k => XS.aload X141.here hx rfl (hb hby at_171) rfl rfl k) ?_
      show own_Go p e below _ T141 (mkF m 173 #[.val (.int p1), .val (.int p2), .val (.int p3), .val (.int p4), .val (.int p5), .val (.int p6), .val (.int t), .val (.int (1 : Int32)), .val (.int x0), .val (.int x1), .val (.int x2), .val (.int x3), .val (.ref b137), .val (.ref r), .val (.int ef)] [(.ref r)])
      refine own_by (fun _ k => XS.aload X141.here hx rfl (hb hby at_173) rfl rfl k) ?_
      show own_Go p e below _ T141 (mkF m 175 #[.val (.int p1), .val (.int p2), .val (.int p3), .val (.int p4), .val (.int p5), .val (.int p6), .val (.int t), .val (.int (1 : Int32)), .val (.int x0), .val (.int x1), .val (.int x2), .val (.int x3), .val (.ref b137), .val (.ref r), .val (.int ef)] [(.ref b137), (.ref r)])
      refine own_by (fun _ k => Jvm.RoadKit.acmp (g := (mkF m 175 #[.val (.int p1), .val (.int p2), .val (.int p3), .val (.int p4), .val (.int p5), .val (.int p6), .val (.int t), .val (.int (1 : Int32)), .val (.int x0), .val (.int x1), .val (.int x2), .val (.int x3), .val (.ref b137), .val (.ref r), .val (.int ef)] [(.ref b137), (.ref r)])) X141 hx rfl rfl rfl (pc0 := 175) (pc' := 178) (same := false) rfl (hb hby at_175) rfl (decide_eq_false fun q => ner.symm (Value.ref.inj q)) (by decide) (by decide) k) ?_
      show own_Go p e below _ T141 (mkF m 178 #[.val (.int p1), .val (.int p2), .val (.int p3), .val (.int p4), .val (.int p5), .val (.int p6), .val (.int t), .val (.int (1 : Int32)), .val (.int x0), .val (.int x1), .val (.int x2), .val (.int x3), .val (.ref b137), .val (.ref r), .val (.int ef)] [])
      refine own_by (fun _ k => XS.aload X141.here hx rfl (hb hby at_178) rfl rfl k) ?_
      show own_Go p e below _ T141 (mkF m 180 #[.val (.int p1), .val (.int p2), .val (.int p3), .val (.int p4), .val (.int p5), .val (.int p6), .val (.int t), .val (.int (1 : Int32)), .val (.int x0), .val (.int x1), .val (.int x2), .val (.int x3), .val (.ref b137), .val (.ref r), .val (.int ef)] [(.ref r)])
      obtain ⟨cl142, Ar142, len142⟩ := own_len Vr
      refine own_by (T' := T141) (g' := (mkF m 181 #[.val (.int p1), .val (.int p2), .val (.int p3), .val (.int p4), .val (.int p5), .val (.int p6), .val (.int t), .val (.int (1 : Int32)), .val (.int x0), .val (.int x1), .val (.int x2), .val (.int x3), .val (.ref b137), .val (.ref r), .val (.int ef)] [(.int (1 : Int32))])) (fun _ k => X141.arraylength hx Ar142.1 (State.isArrayOf_alike hZ.alike Ar142.2.1) (g := (mkF m 180 #[.val (.int p1), .val (.int p2), .val (.int p3), .val (.int p4), .val (.int p5), .val (.int p6), .val (.int t), .val (.int (1 : Int32)), .val (.int x0), .val (.int x1), .val (.int x2), .val (.int x3), .val (.ref b137), .val (.ref r), .val (.int ef)] [(.ref r)])) rfl rfl (hb hby at_180) _ (by rw [len142]; exact k)) ?_
      refine own_by (fun _ k => XS.iload X141.here hx rfl (hb hby at_181) rfl k) ?_
      show own_Go p e below _ T141 (mkF m 183 #[.val (.int p1), .val (.int p2), .val (.int p3), .val (.int p4), .val (.int p5), .val (.int p6), .val (.int t), .val (.int (1 : Int32)), .val (.int x0), .val (.int x1), .val (.int x2), .val (.int x3), .val (.ref b137), .val (.ref r), .val (.int ef)] [(.int (1 : Int32)), (.int (1 : Int32))])
      refine own_by (fun _ k => XS.icmpYes X141.here hx rfl (pc0 := 183) (pc' := 188) rfl (hb hby at_183) rfl (teq (rfl : (1 : Int32) = (1 : Int32))).1 (by decide) (by decide) k) ?_
      show own_Go p e below _ T141 (mkF m 188 #[.val (.int p1), .val (.int p2), .val (.int p3), .val (.int p4), .val (.int p5), .val (.int p6), .val (.int t), .val (.int (1 : Int32)), .val (.int x0), .val (.int x1), .val (.int x2), .val (.int x3), .val (.ref b137), .val (.ref r), .val (.int ef)] [])
      refine own_by (fun _ k => XS.aload X141.here hx rfl (hb hby at_188) rfl rfl k) ?_
      show own_Go p e below _ T141 (mkF m 190 #[.val (.int p1), .val (.int p2), .val (.int p3), .val (.int p4), .val (.int p5), .val (.int p6), .val (.int t), .val (.int (1 : Int32)), .val (.int x0), .val (.int x1), .val (.int x2), .val (.int x3), .val (.ref b137), .val (.ref r), .val (.int ef)] [(.ref r)])
      refine own_by (fun _ k => XS.iconst X141.here hx rfl (hb hby at_190) k) ?_
      show own_Go p e below _ T141 (mkF m 191 #[.val (.int p1), .val (.int p2), .val (.int p3), .val (.int p4), .val (.int p5), .val (.int p6), .val (.int t), .val (.int (1 : Int32)), .val (.int x0), .val (.int x1), .val (.int x2), .val (.int x3), .val (.ref b137), .val (.ref r), .val (.int ef)] [(.int (0 : Int32)), (.ref r)])
      obtain ⟨cl143, Ar143, cq143, hin143, hat143, set143⟩ := own_arv Vr (j := (0 : Int32)) ⟨by decide, by decide⟩
      refine own_by (fun _ k => X141.baloadBytes hx (j := (0 : Int32)) (v := (.int ((((128 : Int32) ||| t) ||| (x0 &&& (32 : Int32))).toInt8.toInt32))) Ar143.1 (State.isArrayOf_alike hZ.alike Ar143.2.1) Ar143.2.2 hin143 hat143 (g := (mkF m 191 #[.val (.int p1), .val (.int p2), .val (.int p3), .val (.int p4), .val (.int p5), .val (.int p6), .val (.int t), .val (.int (1 : Int32)), .val (.int x0), .val (.int x1), .val (.int x2), .val (.int x3), .val (.ref b137), .val (.ref r), .val (.int ef)] [(.int (0 : Int32)), (.ref r)])) rfl rfl (hb hby at_191) _ k) ?_
      show own_Go p e below _ T141 (mkF m 192 #[.val (.int p1), .val (.int p2), .val (.int p3), .val (.int p4), .val (.int p5), .val (.int p6), .val (.int t), .val (.int (1 : Int32)), .val (.int x0), .val (.int x1), .val (.int x2), .val (.int x3), .val (.ref b137), .val (.ref r), .val (.int ef)] [(.int ((((128 : Int32) ||| t) ||| (x0 &&& (32 : Int32))).toInt8.toInt32))])
      refine own_by (fun _ k => XS.iload X141.here hx rfl (hb hby at_192) rfl k) ?_
      show own_Go p e below _ T141 (mkF m 194 #[.val (.int p1), .val (.int p2), .val (.int p3), .val (.int p4), .val (.int p5), .val (.int p6), .val (.int t), .val (.int (1 : Int32)), .val (.int x0), .val (.int x1), .val (.int x2), .val (.int x3), .val (.ref b137), .val (.ref r), .val (.int ef)] [(.int ef), (.int ((((128 : Int32) ||| t) ||| (x0 &&& (32 : Int32))).toInt8.toInt32))])
      refine own_by (fun _ k => XS.i2b X141.here hx rfl (hb hby at_194) rfl k) ?_
      show own_Go p e below _ T141 (mkF m 195 #[.val (.int p1), .val (.int p2), .val (.int p3), .val (.int p4), .val (.int p5), .val (.int p6), .val (.int t), .val (.int (1 : Int32)), .val (.int x0), .val (.int x1), .val (.int x2), .val (.int x3), .val (.ref b137), .val (.ref r), .val (.int ef)] [(.int (ef.toInt8.toInt32)), (.int ((((128 : Int32) ||| t) ||| (x0 &&& (32 : Int32))).toInt8.toInt32))])
      refine own_by (fun _ k => XS.icmpNo X141.here hx rfl (hb hby at_195) rfl (teq (hef : ((((128 : Int32) ||| t) ||| (x0 &&& (32 : Int32))).toInt8.toInt32) = (ef.toInt8.toInt32))).2 k) ?_
      show own_Go p e below _ T141 (mkF m 198 #[.val (.int p1), .val (.int p2), .val (.int p3), .val (.int p4), .val (.int p5), .val (.int p6), .val (.int t), .val (.int (1 : Int32)), .val (.int x0), .val (.int x1), .val (.int x2), .val (.int x3), .val (.ref b137), .val (.ref r), .val (.int ef)] [])
      refine own_by (fun _ k => XS.aload X141.here hx rfl (hb hby at_198) rfl rfl k) ?_
      show own_Go p e below _ T141 (mkF m 200 #[.val (.int p1), .val (.int p2), .val (.int p3), .val (.int p4), .val (.int p5), .val (.int p6), .val (.int t), .val (.int (1 : Int32)), .val (.int x0), .val (.int x1), .val (.int x2), .val (.int x3), .val (.ref b137), .val (.ref r), .val (.int ef)] [(.ref b137)])
      refine own_by (fun _ k => XS.iconst X141.here hx rfl (hb hby at_200) k) ?_
      show own_Go p e below _ T141 (mkF m 201 #[.val (.int p1), .val (.int p2), .val (.int p3), .val (.int p4), .val (.int p5), .val (.int p6), .val (.int t), .val (.int (1 : Int32)), .val (.int x0), .val (.int x1), .val (.int x2), .val (.int x3), .val (.ref b137), .val (.ref r), .val (.int ef)] [(.int (0 : Int32)), (.ref b137)])
      have f145 := (V139.keep Kr nin0)
      obtain ⟨cl144, Ar144, cq144, hin144, hat144, set144⟩ := own_arv f145 (j := (0 : Int32)) ⟨by decide, by decide⟩
      refine own_by (fun _ k => X141.baloadBytes hx (j := (0 : Int32)) (v := (.int x0)) Ar144.1 (State.isArrayOf_alike hZ.alike Ar144.2.1) Ar144.2.2 hin144 hat144 (g := (mkF m 201 #[.val (.int p1), .val (.int p2), .val (.int p3), .val (.int p4), .val (.int p5), .val (.int p6), .val (.int t), .val (.int (1 : Int32)), .val (.int x0), .val (.int x1), .val (.int x2), .val (.int x3), .val (.ref b137), .val (.ref r), .val (.int ef)] [(.int (0 : Int32)), (.ref b137)])) rfl rfl (hb hby at_201) _ k) ?_
      show own_Go p e below _ T141 (mkF m 202 #[.val (.int p1), .val (.int p2), .val (.int p3), .val (.int p4), .val (.int p5), .val (.int p6), .val (.int t), .val (.int (1 : Int32)), .val (.int x0), .val (.int x1), .val (.int x2), .val (.int x3), .val (.ref b137), .val (.ref r), .val (.int ef)] [(.int x0)])
      refine own_by (fun _ k => XS.iload X141.here hx rfl (hb hby at_202) rfl k) ?_
      show own_Go p e below _ T141 (mkF m 204 #[.val (.int p1), .val (.int p2), .val (.int p3), .val (.int p4), .val (.int p5), .val (.int p6), .val (.int t), .val (.int (1 : Int32)), .val (.int x0), .val (.int x1), .val (.int x2), .val (.int x3), .val (.ref b137), .val (.ref r), .val (.int ef)] [(.int x0), (.int x0)])
      refine own_by (fun _ k => XS.icmpYes X141.here hx rfl (pc0 := 204) (pc' := 209) rfl (hb hby at_204) rfl (teq (rfl : x0 = x0)).1 (by decide) (by decide) k) ?_
      show own_Go p e below _ T141 (mkF m 209 #[.val (.int p1), .val (.int p2), .val (.int p3), .val (.int p4), .val (.int p5), .val (.int p6), .val (.int t), .val (.int (1 : Int32)), .val (.int x0), .val (.int x1), .val (.int x2), .val (.int x3), .val (.ref b137), .val (.ref r), .val (.int ef)] [])
      refine own_by (fun _ k => XS.iload X141.here hx rfl (hb hby at_209) rfl k) ?_
      show own_Go p e below _ T141 (mkF m 211 #[.val (.int p1), .val (.int p2), .val (.int p3), .val (.int p4), .val (.int p5), .val (.int p6), .val (.int t), .val (.int (1 : Int32)), .val (.int x0), .val (.int x1), .val (.int x2), .val (.int x3), .val (.ref b137), .val (.ref r), .val (.int ef)] [(.int (1 : Int32))])
      refine own_by (fun _ k => XS.iconst X141.here hx rfl (hb hby at_211) k) ?_
      show own_Go p e below _ T141 (mkF m 212 #[.val (.int p1), .val (.int p2), .val (.int p3), .val (.int p4), .val (.int p5), .val (.int p6), .val (.int t), .val (.int (1 : Int32)), .val (.int x0), .val (.int x1), .val (.int x2), .val (.int x3), .val (.ref b137), .val (.ref r), .val (.int ef)] [(.int (2 : Int32)), (.int (1 : Int32))])
      refine own_by (fun _ k => XS.icmpYes X141.here hx rfl (pc0 := 212) (pc' := 235) rfl (hb hby at_212) rfl (tlt (by decide : (1 : Int32) < (2 : Int32))).1 (by decide) (by decide) k) ?_
      show own_Go p e below _ T141 (mkF m 235 #[.val (.int p1), .val (.int p2), .val (.int p3), .val (.int p4), .val (.int p5), .val (.int p6), .val (.int t), .val (.int (1 : Int32)), .val (.int x0), .val (.int x1), .val (.int x2), .val (.int x3), .val (.ref b137), .val (.ref r), .val (.int ef)] [])
      refine own_by (fun _ k => XS.iload X141.here hx rfl (hb hby at_235) rfl k) ?_
      show own_Go p e below _ T141 (mkF m 237 #[.val (.int p1), .val (.int p2), .val (.int p3), .val (.int p4), .val (.int p5), .val (.int p6), .val (.int t), .val (.int (1 : Int32)), .val (.int x0), .val (.int x1), .val (.int x2), .val (.int x3), .val (.ref b137), .val (.ref r), .val (.int ef)] [(.int (1 : Int32))])
      refine own_by (fun _ k => XS.iconst X141.here hx rfl (hb hby at_237) k) ?_
      show own_Go p e below _ T141 (mkF m 238 #[.val (.int p1), .val (.int p2), .val (.int p3), .val (.int p4), .val (.int p5), .val (.int p6), .val (.int t), .val (.int (1 : Int32)), .val (.int x0), .val (.int x1), .val (.int x2), .val (.int x3), .val (.ref b137), .val (.ref r), .val (.int ef)] [(.int (3 : Int32)), (.int (1 : Int32))])
      refine own_by (fun _ k => XS.icmpYes X141.here hx rfl (pc0 := 238) (pc' := 261) rfl (hb hby at_238) rfl (tlt (by decide : (1 : Int32) < (3 : Int32))).1 (by decide) (by decide) k) ?_
      show own_Go p e below _ T141 (mkF m 261 #[.val (.int p1), .val (.int p2), .val (.int p3), .val (.int p4), .val (.int p5), .val (.int p6), .val (.int t), .val (.int (1 : Int32)), .val (.int x0), .val (.int x1), .val (.int x2), .val (.int x3), .val (.ref b137), .val (.ref r), .val (.int ef)] [])
      refine own_by (fun _ k => XS.iload X141.here hx rfl (hb hby at_261) rfl k) ?_
      show own_Go p e below _ T141 (mkF m 263 #[.val (.int p1), .val (.int p2), .val (.int p3), .val (.int p4), .val (.int p5), .val (.int p6), .val (.int t), .val (.int (1 : Int32)), .val (.int x0), .val (.int x1), .val (.int x2), .val (.int x3), .val (.ref b137), .val (.ref r), .val (.int ef)] [(.int (1 : Int32))])
      refine own_by (fun _ k => XS.iconst X141.here hx rfl (hb hby at_263) k) ?_
      show own_Go p e below _ T141 (mkF m 264 #[.val (.int p1), .val (.int p2), .val (.int p3), .val (.int p4), .val (.int p5), .val (.int p6), .val (.int t), .val (.int (1 : Int32)), .val (.int x0), .val (.int x1), .val (.int x2), .val (.int x3), .val (.ref b137), .val (.ref r), .val (.int ef)] [(.int (4 : Int32)), (.int (1 : Int32))])
      refine own_by (fun _ k => XS.icmpYes X141.here hx rfl (pc0 := 264) (pc' := 287) rfl (hb hby at_264) rfl (tlt (by decide : (1 : Int32) < (4 : Int32))).1 (by decide) (by decide) k) ?_
      show own_Go p e below _ T141 (mkF m 287 #[.val (.int p1), .val (.int p2), .val (.int p3), .val (.int p4), .val (.int p5), .val (.int p6), .val (.int t), .val (.int (1 : Int32)), .val (.int x0), .val (.int x1), .val (.int x2), .val (.int x3), .val (.ref b137), .val (.ref r), .val (.int ef)] [])
      refine own_by (fun _ k => XS.iconst X141.here hx rfl (hb hby at_287) k) ?_
      show own_Go p e below _ T141 (mkF m 288 #[.val (.int p1), .val (.int p2), .val (.int p3), .val (.int p4), .val (.int p5), .val (.int p6), .val (.int t), .val (.int (1 : Int32)), .val (.int x0), .val (.int x1), .val (.int x2), .val (.int x3), .val (.ref b137), .val (.ref r), .val (.int ef)] [(.int (1 : Int32))])
      exact own_retN X141 hx hlk hret (by simp) rfl (hb hby at_288) ⟨rfl, N141⟩ (by decide) (by decide)
    by_cases hb5 : (p2 &&& (32 : Int32)) = (0 : Int32)
    · refine own_by (fun _ k => XS.ifYes X141.here hx rfl (pc0 := 144) (pc' := 158) rfl (hb hby at_144) rfl ((if0 _ _).trans (teq (hb5 : (p2 &&& (32 : Int32)) = (0 : Int32))).1) (by decide) (by decide) k) ?_
      show own_Go p e below _ T141 (mkF m 158 #[.val (.int p1), .val (.int p2), .val (.int p3), .val (.int p4), .val (.int p5), .val (.int p6), .val (.int t), .val (.int (1 : Int32)), .val (.int x0), .val (.int x1), .val (.int x2), .val (.int x3), .val (.ref b137), .val (.ref r), .unset] [])
      refine own_by (fun _ k => XS.sipush X141.here hx rfl (hb hby at_158) k) ?_
      show own_Go p e below _ T141 (mkF m 161 #[.val (.int p1), .val (.int p2), .val (.int p3), .val (.int p4), .val (.int p5), .val (.int p6), .val (.int t), .val (.int (1 : Int32)), .val (.int x0), .val (.int x1), .val (.int x2), .val (.int x3), .val (.ref b137), .val (.ref r), .unset] [(.int (128 : Int32))])
      refine own_by (fun _ k => XS.iload X141.here hx rfl (hb hby at_161) rfl k) ?_
      show own_Go p e below _ T141 (mkF m 163 #[.val (.int p1), .val (.int p2), .val (.int p3), .val (.int p4), .val (.int p5), .val (.int p6), .val (.int t), .val (.int (1 : Int32)), .val (.int x0), .val (.int x1), .val (.int x2), .val (.int x3), .val (.ref b137), .val (.ref r), .unset] [(.int t), (.int (128 : Int32))])
      refine own_by (fun _ k => XS.iadd X141.here hx rfl (hb hby at_163) rfl k) ?_
      show own_Go p e below _ T141 (mkF m 164 #[.val (.int p1), .val (.int p2), .val (.int p3), .val (.int p4), .val (.int p5), .val (.int p6), .val (.int t), .val (.int (1 : Int32)), .val (.int x0), .val (.int x1), .val (.int x2), .val (.int x3), .val (.ref b137), .val (.ref r), .unset] [(.int ((128 : Int32) + t))])
      refine own_by (fun _ k => XS.istore X141.here hx rfl (hb hby at_164) rfl (l' := #[.val (.int p1), .val (.int p2), .val (.int p3), .val (.int p4), .val (.int p5), .val (.int p6), .val (.int t), .val (.int (1 : Int32)), .val (.int x0), .val (.int x1), .val (.int x2), .val (.int x3), .val (.ref b137), .val (.ref r), .val (.int ((128 : Int32) + t))]) rfl k) ?_
      show own_Go p e below _ T141 (mkF m 166 #[.val (.int p1), .val (.int p2), .val (.int p3), .val (.int p4), .val (.int p5), .val (.int p6), .val (.int t), .val (.int (1 : Int32)), .val (.int x0), .val (.int x1), .val (.int x2), .val (.int x3), .val (.ref b137), .val (.ref r), .val (.int ((128 : Int32) + t))] [])
      exact J166 _ (by rw [hx0, own_lo, hb5, hkt]; exact own_clr kt)
    · refine own_by (fun _ k => XS.ifNo X141.here hx rfl (hb hby at_144) rfl ((if0 _ _).trans (feq (hb5 : ¬ ((p2 &&& (32 : Int32)) = (0 : Int32)))).1) k) ?_
      show own_Go p e below _ T141 (mkF m 147 #[.val (.int p1), .val (.int p2), .val (.int p3), .val (.int p4), .val (.int p5), .val (.int p6), .val (.int t), .val (.int (1 : Int32)), .val (.int x0), .val (.int x1), .val (.int x2), .val (.int x3), .val (.ref b137), .val (.ref r), .unset] [])
      refine own_by (fun _ k => XS.sipush X141.here hx rfl (hb hby at_147) k) ?_
      show own_Go p e below _ T141 (mkF m 150 #[.val (.int p1), .val (.int p2), .val (.int p3), .val (.int p4), .val (.int p5), .val (.int p6), .val (.int t), .val (.int (1 : Int32)), .val (.int x0), .val (.int x1), .val (.int x2), .val (.int x3), .val (.ref b137), .val (.ref r), .unset] [(.int (160 : Int32))])
      refine own_by (fun _ k => XS.iload X141.here hx rfl (hb hby at_150) rfl k) ?_
      show own_Go p e below _ T141 (mkF m 152 #[.val (.int p1), .val (.int p2), .val (.int p3), .val (.int p4), .val (.int p5), .val (.int p6), .val (.int t), .val (.int (1 : Int32)), .val (.int x0), .val (.int x1), .val (.int x2), .val (.int x3), .val (.ref b137), .val (.ref r), .unset] [(.int t), (.int (160 : Int32))])
      refine own_by (fun _ k => XS.iadd X141.here hx rfl (hb hby at_152) rfl k) ?_
      show own_Go p e below _ T141 (mkF m 153 #[.val (.int p1), .val (.int p2), .val (.int p3), .val (.int p4), .val (.int p5), .val (.int p6), .val (.int t), .val (.int (1 : Int32)), .val (.int x0), .val (.int x1), .val (.int x2), .val (.int x3), .val (.ref b137), .val (.ref r), .unset] [(.int ((160 : Int32) + t))])
      refine own_by (fun _ k => XS.istore X141.here hx rfl (hb hby at_153) rfl (l' := #[.val (.int p1), .val (.int p2), .val (.int p3), .val (.int p4), .val (.int p5), .val (.int p6), .val (.int t), .val (.int (1 : Int32)), .val (.int x0), .val (.int x1), .val (.int x2), .val (.int x3), .val (.ref b137), .val (.ref r), .val (.int ((160 : Int32) + t))]) rfl k) ?_
      show own_Go p e below _ T141 (mkF m 155 #[.val (.int p1), .val (.int p2), .val (.int p3), .val (.int p4), .val (.int p5), .val (.int p6), .val (.int t), .val (.int (1 : Int32)), .val (.int x0), .val (.int x1), .val (.int x2), .val (.int x3), .val (.ref b137), .val (.ref r), .val (.int ((160 : Int32) + t))] [])
      refine own_by (fun _ k => XS.goto X141.here hx rfl (pc0 := 155) (pc' := 166) rfl (hb hby at_155) (by decide) (by decide) k) ?_
      show own_Go p e below _ T141 (mkF m 166 #[.val (.int p1), .val (.int p2), .val (.int p3), .val (.int p4), .val (.int p5), .val (.int p6), .val (.int t), .val (.int (1 : Int32)), .val (.int x0), .val (.int x1), .val (.int x2), .val (.int x3), .val (.ref b137), .val (.ref r), .val (.int ((160 : Int32) + t))] [])
      exact J166 _ (by rw [hx0, own_lo, (own_b32 p2).resolve_left hb5, hkt]; exact own_set kt)
  · show own_Go p e below _ s₁ (mkF m 34 #[.val (.int p1), .val (.int p2), .val (.int p3), .val (.int p4), .val (.int p5), .val (.int p6), .val (.int t), .val (.int ((p6 &&& (3 : Int32)) + (1 : Int32))), .val (.int x0), .val (.int x1), .val (.int x2), .val (.int x3), .unset, .unset, .unset] [])
    rw [hk]
    rw [show (1 : Int32) + (1 : Int32) = (2 : Int32) from by decide]
    show own_Go p e below _ s₁ (mkF m 34 #[.val (.int p1), .val (.int p2), .val (.int p3), .val (.int p4), .val (.int p5), .val (.int p6), .val (.int t), .val (.int (2 : Int32)), .val (.int x0), .val (.int x1), .val (.int x2), .val (.int x3), .unset, .unset, .unset] [])
    refine own_by (fun _ k => XS.iload X0.here hx rfl (hb hby at_34) rfl k) ?_
    show own_Go p e below _ s₁ (mkF m 36 #[.val (.int p1), .val (.int p2), .val (.int p3), .val (.int p4), .val (.int p5), .val (.int p6), .val (.int t), .val (.int (2 : Int32)), .val (.int x0), .val (.int x1), .val (.int x2), .val (.int x3), .unset, .unset, .unset] [(.int (2 : Int32))])
    refine own_by (fun _ k => XS.iconst X0.here hx rfl (hb hby at_36) k) ?_
    show own_Go p e below _ s₁ (mkF m 37 #[.val (.int p1), .val (.int p2), .val (.int p3), .val (.int p4), .val (.int p5), .val (.int p6), .val (.int t), .val (.int (2 : Int32)), .val (.int x0), .val (.int x1), .val (.int x2), .val (.int x3), .unset, .unset, .unset] [(.int (1 : Int32)), (.int (2 : Int32))])
    refine own_by (fun _ k => XS.icmpYes X0.here hx rfl (pc0 := 37) (pc' := 53) rfl (hb hby at_37) rfl (feq (by decide : ¬ ((2 : Int32) = (1 : Int32)))).2 (by decide) (by decide) k) ?_
    show own_Go p e below _ s₁ (mkF m 53 #[.val (.int p1), .val (.int p2), .val (.int p3), .val (.int p4), .val (.int p5), .val (.int p6), .val (.int t), .val (.int (2 : Int32)), .val (.int x0), .val (.int x1), .val (.int x2), .val (.int x3), .unset, .unset, .unset] [])
    refine own_by (fun _ k => XS.iload X0.here hx rfl (hb hby at_53) rfl k) ?_
    show own_Go p e below _ s₁ (mkF m 55 #[.val (.int p1), .val (.int p2), .val (.int p3), .val (.int p4), .val (.int p5), .val (.int p6), .val (.int t), .val (.int (2 : Int32)), .val (.int x0), .val (.int x1), .val (.int x2), .val (.int x3), .unset, .unset, .unset] [(.int (2 : Int32))])
    refine own_by (fun _ k => XS.iconst X0.here hx rfl (hb hby at_55) k) ?_
    show own_Go p e below _ s₁ (mkF m 56 #[.val (.int p1), .val (.int p2), .val (.int p3), .val (.int p4), .val (.int p5), .val (.int p6), .val (.int t), .val (.int (2 : Int32)), .val (.int x0), .val (.int x1), .val (.int x2), .val (.int x3), .unset, .unset, .unset] [(.int (2 : Int32)), (.int (2 : Int32))])
    refine own_by (fun _ k => XS.icmpNo X0.here hx rfl (hb hby at_56) rfl (teq (by decide : (2 : Int32) = (2 : Int32))).2 k) ?_
    show own_Go p e below _ s₁ (mkF m 59 #[.val (.int p1), .val (.int p2), .val (.int p3), .val (.int p4), .val (.int p5), .val (.int p6), .val (.int t), .val (.int (2 : Int32)), .val (.int x0), .val (.int x1), .val (.int x2), .val (.int x3), .unset, .unset, .unset] [])
    refine own_by (fun _ k => XS.iconst X0.here hx rfl (hb hby at_59) k) ?_
    show own_Go p e below _ s₁ (mkF m 60 #[.val (.int p1), .val (.int p2), .val (.int p3), .val (.int p4), .val (.int p5), .val (.int p6), .val (.int t), .val (.int (2 : Int32)), .val (.int x0), .val (.int x1), .val (.int x2), .val (.int x3), .unset, .unset, .unset] [(.int (2 : Int32))])
    obtain ⟨T146, h146, k146, X146, e146, E146, A146, C146, st146⟩ := newPE X0 hx hZ (hw _ (List.mem_of_getElem? (i := 1) rfl)) e0 (g := (mkF m 60 #[.val (.int p1), .val (.int p2), .val (.int p3), .val (.int p4), .val (.int p5), .val (.int p6), .val (.int t), .val (.int (2 : Int32)), .val (.int x0), .val (.int x1), .val (.int x2), .val (.int x3), .unset, .unset, .unset] [(.int (2 : Int32))])) rfl (hb hby at_60) rfl (by decide) (cap := 2) (by decide) (by decide) (by decide) (by decide) (ad := "[B") (by decide)
    obtain ⟨b146, g146⟩ : ∃ z, z = h0.size := ⟨_, rfl⟩
    rw [← g146] at A146 C146 st146
    have og_b146 : n0 ≤ b146 := Nat.le_trans Z0 (Nat.le_of_eq g146.symm)
    have Z146 : n0 ≤ h146.size := Nat.le_trans Z0 E146.1
    have V146 : Arv Z h146 b146 k146 .byte (2 : Int32) [(.int (0 : Int32)), (.int (0 : Int32))] (.int (0 : Int32)) := (Arv.new A146 (by decide)).pad (pad_rep [] (.int (0 : Int32)) 2)
    refine own_by st146 ?_
    show own_Go p e below _ T146 (mkF m 62 #[.val (.int p1), .val (.int p2), .val (.int p3), .val (.int p4), .val (.int p5), .val (.int p6), .val (.int t), .val (.int (2 : Int32)), .val (.int x0), .val (.int x1), .val (.int x2), .val (.int x3), .unset, .unset, .unset] [(.ref b146)])
    refine own_by (fun _ k => XS.dup X146.here hx rfl (hb hby at_62) rfl rfl k) ?_
    show own_Go p e below _ T146 (mkF m 63 #[.val (.int p1), .val (.int p2), .val (.int p3), .val (.int p4), .val (.int p5), .val (.int p6), .val (.int t), .val (.int (2 : Int32)), .val (.int x0), .val (.int x1), .val (.int x2), .val (.int x3), .unset, .unset, .unset] [(.ref b146), (.ref b146)])
    refine own_by (fun _ k => XS.iconst X146.here hx rfl (hb hby at_63) k) ?_
    show own_Go p e below _ T146 (mkF m 64 #[.val (.int p1), .val (.int p2), .val (.int p3), .val (.int p4), .val (.int p5), .val (.int p6), .val (.int t), .val (.int (2 : Int32)), .val (.int x0), .val (.int x1), .val (.int x2), .val (.int x3), .unset, .unset, .unset] [(.int (0 : Int32)), (.ref b146), (.ref b146)])
    refine own_by (fun _ k => XS.iload X146.here hx rfl (hb hby at_64) rfl k) ?_
    show own_Go p e below _ T146 (mkF m 66 #[.val (.int p1), .val (.int p2), .val (.int p3), .val (.int p4), .val (.int p5), .val (.int p6), .val (.int t), .val (.int (2 : Int32)), .val (.int x0), .val (.int x1), .val (.int x2), .val (.int x3), .unset, .unset, .unset] [(.int x0), (.int (0 : Int32)), (.ref b146), (.ref b146)])
    obtain ⟨cl147, Ar147, cq147, hin147, hat147, set147⟩ := own_arv V146 (j := (0 : Int32)) ⟨by decide, by decide⟩
    obtain ⟨T148, h148, X148, e148, W148, st148⟩ := stB X146 hx hZ e146 Ar147 (j := (0 : Int32)) hin147 (g := (mkF m 66 #[.val (.int p1), .val (.int p2), .val (.int p3), .val (.int p4), .val (.int p5), .val (.int p6), .val (.int t), .val (.int (2 : Int32)), .val (.int x0), .val (.int x1), .val (.int x2), .val (.int x3), .unset, .unset, .unset] [(.int x0), (.int (0 : Int32)), (.ref b146), (.ref b146)])) rfl rfl (hb hby at_66)
    have wq148 : nar .byte x0 = x0 := by rw [hx0]; exact own_nb _
    rw [wq148] at W148
    have wf148 : fits .byte (.int x0) = true := wq148 ▸ (fits_nar_byte _)
    have V148 : Arv Z h148 b146 k146 .byte (2 : Int32) [(.int x0), (.int (0 : Int32))] (.int (0 : Int32)) := set147 wf148 W148 0 rfl (Nat.le_of_ble_eq_true rfl)
    have N148 := Fr.snoc X148 N0 og_b146
    have Z148 : n0 ≤ h148.size := Nat.le_trans Z146 (Keep.of_wr W148).1
    refine own_by st148 ?_
    show own_Go p e below _ T148 (mkF m 67 #[.val (.int p1), .val (.int p2), .val (.int p3), .val (.int p4), .val (.int p5), .val (.int p6), .val (.int t), .val (.int (2 : Int32)), .val (.int x0), .val (.int x1), .val (.int x2), .val (.int x3), .unset, .unset, .unset] [(.ref b146)])
    refine own_by (fun _ k => XS.dup X148.here hx rfl (hb hby at_67) rfl rfl k) ?_
    show own_Go p e below _ T148 (mkF m 68 #[.val (.int p1), .val (.int p2), .val (.int p3), .val (.int p4), .val (.int p5), .val (.int p6), .val (.int t), .val (.int (2 : Int32)), .val (.int x0), .val (.int x1), .val (.int x2), .val (.int x3), .unset, .unset, .unset] [(.ref b146), (.ref b146)])
    refine own_by (fun _ k => XS.iconst X148.here hx rfl (hb hby at_68) k) ?_
    show own_Go p e below _ T148 (mkF m 69 #[.val (.int p1), .val (.int p2), .val (.int p3), .val (.int p4), .val (.int p5), .val (.int p6), .val (.int t), .val (.int (2 : Int32)), .val (.int x0), .val (.int x1), .val (.int x2), .val (.int x3), .unset, .unset, .unset] [(.int (1 : Int32)), (.ref b146), (.ref b146)])
    refine own_by (fun _ k => XS.iload X148.here hx rfl (hb hby at_69) rfl k) ?_
    show own_Go p e below _ T148 (mkF m 71 #[.val (.int p1), .val (.int p2), .val (.int p3), .val (.int p4), .val (.int p5), .val (.int p6), .val (.int t), .val (.int (2 : Int32)), .val (.int x0), .val (.int x1), .val (.int x2), .val (.int x3), .unset, .unset, .unset] [(.int x1), (.int (1 : Int32)), (.ref b146), (.ref b146)])
    obtain ⟨cl149, Ar149, cq149, hin149, hat149, set149⟩ := own_arv V148 (j := (1 : Int32)) ⟨by decide, by decide⟩
    obtain ⟨T150, h150, X150, e150, W150, st150⟩ := stB X148 hx hZ e148 Ar149 (j := (1 : Int32)) hin149 (g := (mkF m 71 #[.val (.int p1), .val (.int p2), .val (.int p3), .val (.int p4), .val (.int p5), .val (.int p6), .val (.int t), .val (.int (2 : Int32)), .val (.int x0), .val (.int x1), .val (.int x2), .val (.int x3), .unset, .unset, .unset] [(.int x1), (.int (1 : Int32)), (.ref b146), (.ref b146)])) rfl rfl (hb hby at_71)
    have wq150 : nar .byte x1 = x1 := by rw [hx1]; exact own_nb _
    rw [wq150] at W150
    have wf150 : fits .byte (.int x1) = true := wq150 ▸ (fits_nar_byte _)
    have V150 : Arv Z h150 b146 k146 .byte (2 : Int32) [(.int x0), (.int x1)] (.int (0 : Int32)) := set149 wf150 W150 1 rfl (Nat.le_of_ble_eq_true rfl)
    have N150 := Fr.snoc X150 N148 og_b146
    have Z150 : n0 ≤ h150.size := Nat.le_trans Z148 (Keep.of_wr W150).1
    refine own_by st150 ?_
    show own_Go p e below _ T150 (mkF m 72 #[.val (.int p1), .val (.int p2), .val (.int p3), .val (.int p4), .val (.int p5), .val (.int p6), .val (.int t), .val (.int (2 : Int32)), .val (.int x0), .val (.int x1), .val (.int x2), .val (.int x3), .unset, .unset, .unset] [(.ref b146)])
    refine own_by (fun _ k => XS.astore X150.here hx rfl (hb hby at_72) rfl rfl (l' := #[.val (.int p1), .val (.int p2), .val (.int p3), .val (.int p4), .val (.int p5), .val (.int p6), .val (.int t), .val (.int (2 : Int32)), .val (.int x0), .val (.int x1), .val (.int x2), .val (.int x3), .val (.ref b146), .unset, .unset]) rfl k) ?_
    show own_Go p e below _ T150 (mkF m 74 #[.val (.int p1), .val (.int p2), .val (.int p3), .val (.int p4), .val (.int p5), .val (.int p6), .val (.int t), .val (.int (2 : Int32)), .val (.int x0), .val (.int x1), .val (.int x2), .val (.int x3), .val (.ref b146), .unset, .unset] [])
    refine own_by (fun _ k => XS.goto X150.here hx rfl (pc0 := 74) (pc' := 131) rfl (hb hby at_74) (by decide) (by decide) k) ?_
    show own_Go p e below _ T150 (mkF m 131 #[.val (.int p1), .val (.int p2), .val (.int p3), .val (.int p4), .val (.int p5), .val (.int p6), .val (.int t), .val (.int (2 : Int32)), .val (.int x0), .val (.int x1), .val (.int x2), .val (.int x3), .val (.ref b146), .unset, .unset] [])
    refine own_by (fun _ k => XS.iload X150.here hx rfl (hb hby at_131) rfl k) ?_
    show own_Go p e below _ T150 (mkF m 133 #[.val (.int p1), .val (.int p2), .val (.int p3), .val (.int p4), .val (.int p5), .val (.int p6), .val (.int t), .val (.int (2 : Int32)), .val (.int x0), .val (.int x1), .val (.int x2), .val (.int x3), .val (.ref b146), .unset, .unset] [(.int t)])
    refine own_by (fun _ k => XS.aload X150.here hx rfl (hb hby at_133) rfl rfl k) ?_
    show own_Go p e below _ T150 (mkF m 135 #[.val (.int p1), .val (.int p2), .val (.int p3), .val (.int p4), .val (.int p5), .val (.int p6), .val (.int t), .val (.int (2 : Int32)), .val (.int x0), .val (.int x1), .val (.int x2), .val (.int x3), .val (.ref b146), .unset, .unset] [(.ref b146), (.int t)])
    have f151 := ((C146.wr W148).wr W150)
    obtain ⟨_, T152, L152, X152, ⟨r, rfl, N152q, Kr, sr, Vr⟩, st152⟩ := own_callS X150 hx hZ hown (y := (⟨"com/example/tabularium/tabularium/traceability/Der", "implicit", "(I[B)[B"⟩ : MethodName)) (hw _ (List.mem_of_getElem? (i := 2) rfl)) (hw _ (List.mem_of_getElem? (i := 3) rfl)) (hw _ (List.mem_of_getElem? (i := 4) rfl)) (hw _ (List.mem_of_getElem? (i := 5) rfl)) (by decide) (argsL := [(.int t), (.ref b146)]) (rest := []) e150 (rm1_2 l Z a0 hw [] t b146 k146 x0 x1 h150 n0 Z150 ht1 ht2 f151 V150) (g := (mkF m 135 #[.val (.int p1), .val (.int p2), .val (.int p3), .val (.int p4), .val (.int p5), .val (.int p6), .val (.int t), .val (.int (2 : Int32)), .val (.int x0), .val (.int x1), .val (.int x2), .val (.int x3), .val (.ref b146), .unset, .unset] [(.ref b146), (.int t)])) rfl (by rw [hml]; rfl) (lenOf pd_1 rfl) rfl (W := 0) (by show 2 * 0 + _ ≤ _; exact Nat.le_of_eq rfl) (hb hby at_135) (by decide) (by decide) (by decide) (by decide)
    have N152 := Fr.app N150 N152q
    refine own_by st152 ?_
    show own_Go p e below _ T152 (mkF m 138 #[.val (.int p1), .val (.int p2), .val (.int p3), .val (.int p4), .val (.int p5), .val (.int p6), .val (.int t), .val (.int (2 : Int32)), .val (.int x0), .val (.int x1), .val (.int x2), .val (.int x3), .val (.ref b146), .unset, .unset] [(.ref r)])
    have ner : b146 ≠ r := Nat.ne_of_lt (Nat.lt_of_lt_of_le V150.lt sr)
    have Z152 : n0 ≤ T152.heap.size := Nat.le_trans Z150 Kr.1
    refine own_by (fun _ k => XS.astore X152.here hx rfl (hb hby at_138) rfl rfl (l' := #[.val (.int p1), .val (.int p2), .val (.int p3), .val (.int p4), .val (.int p5), .val (.int p6), .val (.int t), .val (.int (2 : Int32)), .val (.int x0), .val (.int x1), .val (.int x2), .val (.int x3), .val (.ref b146), .val (.ref r), .unset]) rfl k) ?_
    show own_Go p e below _ T152 (mkF m 140 #[.val (.int p1), .val (.int p2), .val (.int p3), .val (.int p4), .val (.int p5), .val (.int p6), .val (.int t), .val (.int (2 : Int32)), .val (.int x0), .val (.int x1), .val (.int x2), .val (.int x3), .val (.ref b146), .val (.ref r), .unset] [])
    refine own_by (fun _ k => XS.iloadN X152.here hx rfl (hb hby at_140) rfl k) ?_
    show own_Go p e below _ T152 (mkF m 141 #[.val (.int p1), .val (.int p2), .val (.int p3), .val (.int p4), .val (.int p5), .val (.int p6), .val (.int t), .val (.int (2 : Int32)), .val (.int x0), .val (.int x1), .val (.int x2), .val (.int x3), .val (.ref b146), .val (.ref r), .unset] [(.int p2)])
    refine own_by (fun _ k => XS.bipush X152.here hx rfl (hb hby at_141) k) ?_
    show own_Go p e below _ T152 (mkF m 143 #[.val (.int p1), .val (.int p2), .val (.int p3), .val (.int p4), .val (.int p5), .val (.int p6), .val (.int t), .val (.int (2 : Int32)), .val (.int x0), .val (.int x1), .val (.int x2), .val (.int x3), .val (.ref b146), .val (.ref r), .unset] [(.int (32 : Int32)), (.int p2)])
    refine own_by (fun _ k => XS.iand X152.here hx rfl (hb hby at_143) rfl k) ?_
    show own_Go p e below _ T152 (mkF m 144 #[.val (.int p1), .val (.int p2), .val (.int p3), .val (.int p4), .val (.int p5), .val (.int p6), .val (.int t), .val (.int (2 : Int32)), .val (.int x0), .val (.int x1), .val (.int x2), .val (.int x3), .val (.ref b146), .val (.ref r), .unset] [(.int (p2 &&& (32 : Int32)))])
    have J166 : ∀ (ef : Int32) (hef : ((((128 : Int32) ||| t) ||| (x0 &&& (32 : Int32))).toInt8.toInt32) = ef.toInt8.toInt32), own_Go p e below (own_End s room_1.cells room_1.slots (Q_rm0 Z p1 p2 p3 p4 p5 p6 h0 n0)) T152 (mkF m 166 #[.val (.int p1), .val (.int p2), .val (.int p3), .val (.int p4), .val (.int p5), .val (.int p6), .val (.int t), .val (.int (2 : Int32)), .val (.int x0), .val (.int x1), .val (.int x2), .val (.int x3), .val (.ref b146), .val (.ref r), .val (.int ef)] []) := by
      intro  ef hef
      show own_Go p e below _ T152 (mkF m 166 #[.val (.int p1), .val (.int p2), .val (.int p3), .val (.int p4), .val (.int p5), .val (.int p6), .val (.int t), .val (.int (2 : Int32)), .val (.int x0), .val (.int x1), .val (.int x2), .val (.int x3), .val (.ref b146), .val (.ref r), .val (.int ef)] [])
      refine own_by (fun _ k => XS.aload X152.here hx rfl (hb hby at_166) rfl rfl k) ?_
      show own_Go p e below _ T152 (mkF m 168 #[.val (.int p1), .val (.int p2), .val (.int p3), .val (.int p4), .val (.int p5), .val (.int p6), .val (.int t), .val (.int (2 : Int32)), .val (.int x0), .val (.int x1), .val (.int x2), .val (.int x3), .val (.ref b146), .val (.ref r), .val (.int ef)] [(.ref r)])
      refine own_by (fun _ k => XS.ifnullNo X152.here hx rfl (hb hby at_168) rfl k) ?_
      show own_Go p e below _ T152 (mkF m 171 #[.val (.int p1), .val (.int p2), .val (.int p3), .val (.int p4), .val (.int p5), .val (.int p6), .val (.int t), .val (.int (2 : Int32)), .val (.int x0), .val (.int x1), .val (.int x2), .val (.int x3), .val (.ref b146), .val (.ref r), .val (.int ef)] [])
      refine own_by (fun _ k => XS.aload X152.here hx rfl (hb hby at_171) rfl rfl k) ?_
      show own_Go p e below _ T152 (mkF m 173 #[.val (.int p1), .val (.int p2), .val (.int p3), .val (.int p4), .val (.int p5), .val (.int p6), .val (.int t), .val (.int (2 : Int32)), .val (.int x0), .val (.int x1), .val (.int x2), .val (.int x3), .val (.ref b146), .val (.ref r), .val (.int ef)] [(.ref r)])
      refine own_by (fun _ k => XS.aload X152.here hx rfl (hb hby at_173) rfl rfl k) ?_
      show own_Go p e below _ T152 (mkF m 175 #[.val (.int p1), .val (.int p2), .val (.int p3), .val (.int p4), .val (.int p5), .val (.int p6), .val (.int t), .val (.int (2 : Int32)), .val (.int x0), .val (.int x1), .val (.int x2), .val (.int x3), .val (.ref b146), .val (.ref r), .val (.int ef)] [(.ref b146), (.ref r)])
      refine own_by (fun _ k => Jvm.RoadKit.acmp (g := (mkF m 175 #[.val (.int p1), .val (.int p2), .val (.int p3), .val (.int p4), .val (.int p5), .val (.int p6), .val (.int t), .val (.int (2 : Int32)), .val (.int x0), .val (.int x1), .val (.int x2), .val (.int x3), .val (.ref b146), .val (.ref r), .val (.int ef)] [(.ref b146), (.ref r)])) X152 hx rfl rfl rfl (pc0 := 175) (pc' := 178) (same := false) rfl (hb hby at_175) rfl (decide_eq_false fun q => ner.symm (Value.ref.inj q)) (by decide) (by decide) k) ?_
      show own_Go p e below _ T152 (mkF m 178 #[.val (.int p1), .val (.int p2), .val (.int p3), .val (.int p4), .val (.int p5), .val (.int p6), .val (.int t), .val (.int (2 : Int32)), .val (.int x0), .val (.int x1), .val (.int x2), .val (.int x3), .val (.ref b146), .val (.ref r), .val (.int ef)] [])
      refine own_by (fun _ k => XS.aload X152.here hx rfl (hb hby at_178) rfl rfl k) ?_
      show own_Go p e below _ T152 (mkF m 180 #[.val (.int p1), .val (.int p2), .val (.int p3), .val (.int p4), .val (.int p5), .val (.int p6), .val (.int t), .val (.int (2 : Int32)), .val (.int x0), .val (.int x1), .val (.int x2), .val (.int x3), .val (.ref b146), .val (.ref r), .val (.int ef)] [(.ref r)])
      obtain ⟨cl153, Ar153, len153⟩ := own_len Vr
      refine own_by (T' := T152) (g' := (mkF m 181 #[.val (.int p1), .val (.int p2), .val (.int p3), .val (.int p4), .val (.int p5), .val (.int p6), .val (.int t), .val (.int (2 : Int32)), .val (.int x0), .val (.int x1), .val (.int x2), .val (.int x3), .val (.ref b146), .val (.ref r), .val (.int ef)] [(.int (2 : Int32))])) (fun _ k => X152.arraylength hx Ar153.1 (State.isArrayOf_alike hZ.alike Ar153.2.1) (g := (mkF m 180 #[.val (.int p1), .val (.int p2), .val (.int p3), .val (.int p4), .val (.int p5), .val (.int p6), .val (.int t), .val (.int (2 : Int32)), .val (.int x0), .val (.int x1), .val (.int x2), .val (.int x3), .val (.ref b146), .val (.ref r), .val (.int ef)] [(.ref r)])) rfl rfl (hb hby at_180) _ (by rw [len153]; exact k)) ?_
      refine own_by (fun _ k => XS.iload X152.here hx rfl (hb hby at_181) rfl k) ?_
      show own_Go p e below _ T152 (mkF m 183 #[.val (.int p1), .val (.int p2), .val (.int p3), .val (.int p4), .val (.int p5), .val (.int p6), .val (.int t), .val (.int (2 : Int32)), .val (.int x0), .val (.int x1), .val (.int x2), .val (.int x3), .val (.ref b146), .val (.ref r), .val (.int ef)] [(.int (2 : Int32)), (.int (2 : Int32))])
      refine own_by (fun _ k => XS.icmpYes X152.here hx rfl (pc0 := 183) (pc' := 188) rfl (hb hby at_183) rfl (teq (rfl : (2 : Int32) = (2 : Int32))).1 (by decide) (by decide) k) ?_
      show own_Go p e below _ T152 (mkF m 188 #[.val (.int p1), .val (.int p2), .val (.int p3), .val (.int p4), .val (.int p5), .val (.int p6), .val (.int t), .val (.int (2 : Int32)), .val (.int x0), .val (.int x1), .val (.int x2), .val (.int x3), .val (.ref b146), .val (.ref r), .val (.int ef)] [])
      refine own_by (fun _ k => XS.aload X152.here hx rfl (hb hby at_188) rfl rfl k) ?_
      show own_Go p e below _ T152 (mkF m 190 #[.val (.int p1), .val (.int p2), .val (.int p3), .val (.int p4), .val (.int p5), .val (.int p6), .val (.int t), .val (.int (2 : Int32)), .val (.int x0), .val (.int x1), .val (.int x2), .val (.int x3), .val (.ref b146), .val (.ref r), .val (.int ef)] [(.ref r)])
      refine own_by (fun _ k => XS.iconst X152.here hx rfl (hb hby at_190) k) ?_
      show own_Go p e below _ T152 (mkF m 191 #[.val (.int p1), .val (.int p2), .val (.int p3), .val (.int p4), .val (.int p5), .val (.int p6), .val (.int t), .val (.int (2 : Int32)), .val (.int x0), .val (.int x1), .val (.int x2), .val (.int x3), .val (.ref b146), .val (.ref r), .val (.int ef)] [(.int (0 : Int32)), (.ref r)])
      obtain ⟨cl154, Ar154, cq154, hin154, hat154, set154⟩ := own_arv Vr (j := (0 : Int32)) ⟨by decide, by decide⟩
      refine own_by (fun _ k => X152.baloadBytes hx (j := (0 : Int32)) (v := (.int ((((128 : Int32) ||| t) ||| (x0 &&& (32 : Int32))).toInt8.toInt32))) Ar154.1 (State.isArrayOf_alike hZ.alike Ar154.2.1) Ar154.2.2 hin154 hat154 (g := (mkF m 191 #[.val (.int p1), .val (.int p2), .val (.int p3), .val (.int p4), .val (.int p5), .val (.int p6), .val (.int t), .val (.int (2 : Int32)), .val (.int x0), .val (.int x1), .val (.int x2), .val (.int x3), .val (.ref b146), .val (.ref r), .val (.int ef)] [(.int (0 : Int32)), (.ref r)])) rfl rfl (hb hby at_191) _ k) ?_
      show own_Go p e below _ T152 (mkF m 192 #[.val (.int p1), .val (.int p2), .val (.int p3), .val (.int p4), .val (.int p5), .val (.int p6), .val (.int t), .val (.int (2 : Int32)), .val (.int x0), .val (.int x1), .val (.int x2), .val (.int x3), .val (.ref b146), .val (.ref r), .val (.int ef)] [(.int ((((128 : Int32) ||| t) ||| (x0 &&& (32 : Int32))).toInt8.toInt32))])
      refine own_by (fun _ k => XS.iload X152.here hx rfl (hb hby at_192) rfl k) ?_
      show own_Go p e below _ T152 (mkF m 194 #[.val (.int p1), .val (.int p2), .val (.int p3), .val (.int p4), .val (.int p5), .val (.int p6), .val (.int t), .val (.int (2 : Int32)), .val (.int x0), .val (.int x1), .val (.int x2), .val (.int x3), .val (.ref b146), .val (.ref r), .val (.int ef)] [(.int ef), (.int ((((128 : Int32) ||| t) ||| (x0 &&& (32 : Int32))).toInt8.toInt32))])
      refine own_by (fun _ k => XS.i2b X152.here hx rfl (hb hby at_194) rfl k) ?_
      show own_Go p e below _ T152 (mkF m 195 #[.val (.int p1), .val (.int p2), .val (.int p3), .val (.int p4), .val (.int p5), .val (.int p6), .val (.int t), .val (.int (2 : Int32)), .val (.int x0), .val (.int x1), .val (.int x2), .val (.int x3), .val (.ref b146), .val (.ref r), .val (.int ef)] [(.int (ef.toInt8.toInt32)), (.int ((((128 : Int32) ||| t) ||| (x0 &&& (32 : Int32))).toInt8.toInt32))])
      refine own_by (fun _ k => XS.icmpNo X152.here hx rfl (hb hby at_195) rfl (teq (hef : ((((128 : Int32) ||| t) ||| (x0 &&& (32 : Int32))).toInt8.toInt32) = (ef.toInt8.toInt32))).2 k) ?_
      show own_Go p e below _ T152 (mkF m 198 #[.val (.int p1), .val (.int p2), .val (.int p3), .val (.int p4), .val (.int p5), .val (.int p6), .val (.int t), .val (.int (2 : Int32)), .val (.int x0), .val (.int x1), .val (.int x2), .val (.int x3), .val (.ref b146), .val (.ref r), .val (.int ef)] [])
      refine own_by (fun _ k => XS.aload X152.here hx rfl (hb hby at_198) rfl rfl k) ?_
      show own_Go p e below _ T152 (mkF m 200 #[.val (.int p1), .val (.int p2), .val (.int p3), .val (.int p4), .val (.int p5), .val (.int p6), .val (.int t), .val (.int (2 : Int32)), .val (.int x0), .val (.int x1), .val (.int x2), .val (.int x3), .val (.ref b146), .val (.ref r), .val (.int ef)] [(.ref b146)])
      refine own_by (fun _ k => XS.iconst X152.here hx rfl (hb hby at_200) k) ?_
      show own_Go p e below _ T152 (mkF m 201 #[.val (.int p1), .val (.int p2), .val (.int p3), .val (.int p4), .val (.int p5), .val (.int p6), .val (.int t), .val (.int (2 : Int32)), .val (.int x0), .val (.int x1), .val (.int x2), .val (.int x3), .val (.ref b146), .val (.ref r), .val (.int ef)] [(.int (0 : Int32)), (.ref b146)])
      have f156 := (V150.keep Kr nin0)
      obtain ⟨cl155, Ar155, cq155, hin155, hat155, set155⟩ := own_arv f156 (j := (0 : Int32)) ⟨by decide, by decide⟩
      refine own_by (fun _ k => X152.baloadBytes hx (j := (0 : Int32)) (v := (.int x0)) Ar155.1 (State.isArrayOf_alike hZ.alike Ar155.2.1) Ar155.2.2 hin155 hat155 (g := (mkF m 201 #[.val (.int p1), .val (.int p2), .val (.int p3), .val (.int p4), .val (.int p5), .val (.int p6), .val (.int t), .val (.int (2 : Int32)), .val (.int x0), .val (.int x1), .val (.int x2), .val (.int x3), .val (.ref b146), .val (.ref r), .val (.int ef)] [(.int (0 : Int32)), (.ref b146)])) rfl rfl (hb hby at_201) _ k) ?_
      show own_Go p e below _ T152 (mkF m 202 #[.val (.int p1), .val (.int p2), .val (.int p3), .val (.int p4), .val (.int p5), .val (.int p6), .val (.int t), .val (.int (2 : Int32)), .val (.int x0), .val (.int x1), .val (.int x2), .val (.int x3), .val (.ref b146), .val (.ref r), .val (.int ef)] [(.int x0)])
      refine own_by (fun _ k => XS.iload X152.here hx rfl (hb hby at_202) rfl k) ?_
      show own_Go p e below _ T152 (mkF m 204 #[.val (.int p1), .val (.int p2), .val (.int p3), .val (.int p4), .val (.int p5), .val (.int p6), .val (.int t), .val (.int (2 : Int32)), .val (.int x0), .val (.int x1), .val (.int x2), .val (.int x3), .val (.ref b146), .val (.ref r), .val (.int ef)] [(.int x0), (.int x0)])
      refine own_by (fun _ k => XS.icmpYes X152.here hx rfl (pc0 := 204) (pc' := 209) rfl (hb hby at_204) rfl (teq (rfl : x0 = x0)).1 (by decide) (by decide) k) ?_
      show own_Go p e below _ T152 (mkF m 209 #[.val (.int p1), .val (.int p2), .val (.int p3), .val (.int p4), .val (.int p5), .val (.int p6), .val (.int t), .val (.int (2 : Int32)), .val (.int x0), .val (.int x1), .val (.int x2), .val (.int x3), .val (.ref b146), .val (.ref r), .val (.int ef)] [])
      refine own_by (fun _ k => XS.iload X152.here hx rfl (hb hby at_209) rfl k) ?_
      show own_Go p e below _ T152 (mkF m 211 #[.val (.int p1), .val (.int p2), .val (.int p3), .val (.int p4), .val (.int p5), .val (.int p6), .val (.int t), .val (.int (2 : Int32)), .val (.int x0), .val (.int x1), .val (.int x2), .val (.int x3), .val (.ref b146), .val (.ref r), .val (.int ef)] [(.int (2 : Int32))])
      refine own_by (fun _ k => XS.iconst X152.here hx rfl (hb hby at_211) k) ?_
      show own_Go p e below _ T152 (mkF m 212 #[.val (.int p1), .val (.int p2), .val (.int p3), .val (.int p4), .val (.int p5), .val (.int p6), .val (.int t), .val (.int (2 : Int32)), .val (.int x0), .val (.int x1), .val (.int x2), .val (.int x3), .val (.ref b146), .val (.ref r), .val (.int ef)] [(.int (2 : Int32)), (.int (2 : Int32))])
      refine own_by (fun _ k => XS.icmpNo X152.here hx rfl (hb hby at_212) rfl (flt (by decide : ¬ ((2 : Int32) < (2 : Int32)))).1 k) ?_
      show own_Go p e below _ T152 (mkF m 215 #[.val (.int p1), .val (.int p2), .val (.int p3), .val (.int p4), .val (.int p5), .val (.int p6), .val (.int t), .val (.int (2 : Int32)), .val (.int x0), .val (.int x1), .val (.int x2), .val (.int x3), .val (.ref b146), .val (.ref r), .val (.int ef)] [])
      refine own_by (fun _ k => XS.aload X152.here hx rfl (hb hby at_215) rfl rfl k) ?_
      show own_Go p e below _ T152 (mkF m 217 #[.val (.int p1), .val (.int p2), .val (.int p3), .val (.int p4), .val (.int p5), .val (.int p6), .val (.int t), .val (.int (2 : Int32)), .val (.int x0), .val (.int x1), .val (.int x2), .val (.int x3), .val (.ref b146), .val (.ref r), .val (.int ef)] [(.ref r)])
      refine own_by (fun _ k => XS.iconst X152.here hx rfl (hb hby at_217) k) ?_
      show own_Go p e below _ T152 (mkF m 218 #[.val (.int p1), .val (.int p2), .val (.int p3), .val (.int p4), .val (.int p5), .val (.int p6), .val (.int t), .val (.int (2 : Int32)), .val (.int x0), .val (.int x1), .val (.int x2), .val (.int x3), .val (.ref b146), .val (.ref r), .val (.int ef)] [(.int (1 : Int32)), (.ref r)])
      obtain ⟨cl157, Ar157, cq157, hin157, hat157, set157⟩ := own_arv Vr (j := (1 : Int32)) ⟨by decide, by decide⟩
      refine own_by (fun _ k => X152.baloadBytes hx (j := (1 : Int32)) (v := (.int x1)) Ar157.1 (State.isArrayOf_alike hZ.alike Ar157.2.1) Ar157.2.2 hin157 hat157 (g := (mkF m 218 #[.val (.int p1), .val (.int p2), .val (.int p3), .val (.int p4), .val (.int p5), .val (.int p6), .val (.int t), .val (.int (2 : Int32)), .val (.int x0), .val (.int x1), .val (.int x2), .val (.int x3), .val (.ref b146), .val (.ref r), .val (.int ef)] [(.int (1 : Int32)), (.ref r)])) rfl rfl (hb hby at_218) _ k) ?_
      show own_Go p e below _ T152 (mkF m 219 #[.val (.int p1), .val (.int p2), .val (.int p3), .val (.int p4), .val (.int p5), .val (.int p6), .val (.int t), .val (.int (2 : Int32)), .val (.int x0), .val (.int x1), .val (.int x2), .val (.int x3), .val (.ref b146), .val (.ref r), .val (.int ef)] [(.int x1)])
      refine own_by (fun _ k => XS.iload X152.here hx rfl (hb hby at_219) rfl k) ?_
      show own_Go p e below _ T152 (mkF m 221 #[.val (.int p1), .val (.int p2), .val (.int p3), .val (.int p4), .val (.int p5), .val (.int p6), .val (.int t), .val (.int (2 : Int32)), .val (.int x0), .val (.int x1), .val (.int x2), .val (.int x3), .val (.ref b146), .val (.ref r), .val (.int ef)] [(.int x1), (.int x1)])
      refine own_by (fun _ k => XS.icmpNo X152.here hx rfl (hb hby at_221) rfl (teq (rfl : x1 = x1)).2 k) ?_
      show own_Go p e below _ T152 (mkF m 224 #[.val (.int p1), .val (.int p2), .val (.int p3), .val (.int p4), .val (.int p5), .val (.int p6), .val (.int t), .val (.int (2 : Int32)), .val (.int x0), .val (.int x1), .val (.int x2), .val (.int x3), .val (.ref b146), .val (.ref r), .val (.int ef)] [])
      refine own_by (fun _ k => XS.aload X152.here hx rfl (hb hby at_224) rfl rfl k) ?_
      show own_Go p e below _ T152 (mkF m 226 #[.val (.int p1), .val (.int p2), .val (.int p3), .val (.int p4), .val (.int p5), .val (.int p6), .val (.int t), .val (.int (2 : Int32)), .val (.int x0), .val (.int x1), .val (.int x2), .val (.int x3), .val (.ref b146), .val (.ref r), .val (.int ef)] [(.ref b146)])
      refine own_by (fun _ k => XS.iconst X152.here hx rfl (hb hby at_226) k) ?_
      show own_Go p e below _ T152 (mkF m 227 #[.val (.int p1), .val (.int p2), .val (.int p3), .val (.int p4), .val (.int p5), .val (.int p6), .val (.int t), .val (.int (2 : Int32)), .val (.int x0), .val (.int x1), .val (.int x2), .val (.int x3), .val (.ref b146), .val (.ref r), .val (.int ef)] [(.int (1 : Int32)), (.ref b146)])
      obtain ⟨cl158, Ar158, cq158, hin158, hat158, set158⟩ := own_arv f156 (j := (1 : Int32)) ⟨by decide, by decide⟩
      refine own_by (fun _ k => X152.baloadBytes hx (j := (1 : Int32)) (v := (.int x1)) Ar158.1 (State.isArrayOf_alike hZ.alike Ar158.2.1) Ar158.2.2 hin158 hat158 (g := (mkF m 227 #[.val (.int p1), .val (.int p2), .val (.int p3), .val (.int p4), .val (.int p5), .val (.int p6), .val (.int t), .val (.int (2 : Int32)), .val (.int x0), .val (.int x1), .val (.int x2), .val (.int x3), .val (.ref b146), .val (.ref r), .val (.int ef)] [(.int (1 : Int32)), (.ref b146)])) rfl rfl (hb hby at_227) _ k) ?_
      show own_Go p e below _ T152 (mkF m 228 #[.val (.int p1), .val (.int p2), .val (.int p3), .val (.int p4), .val (.int p5), .val (.int p6), .val (.int t), .val (.int (2 : Int32)), .val (.int x0), .val (.int x1), .val (.int x2), .val (.int x3), .val (.ref b146), .val (.ref r), .val (.int ef)] [(.int x1)])
      refine own_by (fun _ k => XS.iload X152.here hx rfl (hb hby at_228) rfl k) ?_
      show own_Go p e below _ T152 (mkF m 230 #[.val (.int p1), .val (.int p2), .val (.int p3), .val (.int p4), .val (.int p5), .val (.int p6), .val (.int t), .val (.int (2 : Int32)), .val (.int x0), .val (.int x1), .val (.int x2), .val (.int x3), .val (.ref b146), .val (.ref r), .val (.int ef)] [(.int x1), (.int x1)])
      refine own_by (fun _ k => XS.icmpYes X152.here hx rfl (pc0 := 230) (pc' := 235) rfl (hb hby at_230) rfl (teq (rfl : x1 = x1)).1 (by decide) (by decide) k) ?_
      show own_Go p e below _ T152 (mkF m 235 #[.val (.int p1), .val (.int p2), .val (.int p3), .val (.int p4), .val (.int p5), .val (.int p6), .val (.int t), .val (.int (2 : Int32)), .val (.int x0), .val (.int x1), .val (.int x2), .val (.int x3), .val (.ref b146), .val (.ref r), .val (.int ef)] [])
      refine own_by (fun _ k => XS.iload X152.here hx rfl (hb hby at_235) rfl k) ?_
      show own_Go p e below _ T152 (mkF m 237 #[.val (.int p1), .val (.int p2), .val (.int p3), .val (.int p4), .val (.int p5), .val (.int p6), .val (.int t), .val (.int (2 : Int32)), .val (.int x0), .val (.int x1), .val (.int x2), .val (.int x3), .val (.ref b146), .val (.ref r), .val (.int ef)] [(.int (2 : Int32))])
      refine own_by (fun _ k => XS.iconst X152.here hx rfl (hb hby at_237) k) ?_
      show own_Go p e below _ T152 (mkF m 238 #[.val (.int p1), .val (.int p2), .val (.int p3), .val (.int p4), .val (.int p5), .val (.int p6), .val (.int t), .val (.int (2 : Int32)), .val (.int x0), .val (.int x1), .val (.int x2), .val (.int x3), .val (.ref b146), .val (.ref r), .val (.int ef)] [(.int (3 : Int32)), (.int (2 : Int32))])
      refine own_by (fun _ k => XS.icmpYes X152.here hx rfl (pc0 := 238) (pc' := 261) rfl (hb hby at_238) rfl (tlt (by decide : (2 : Int32) < (3 : Int32))).1 (by decide) (by decide) k) ?_
      show own_Go p e below _ T152 (mkF m 261 #[.val (.int p1), .val (.int p2), .val (.int p3), .val (.int p4), .val (.int p5), .val (.int p6), .val (.int t), .val (.int (2 : Int32)), .val (.int x0), .val (.int x1), .val (.int x2), .val (.int x3), .val (.ref b146), .val (.ref r), .val (.int ef)] [])
      refine own_by (fun _ k => XS.iload X152.here hx rfl (hb hby at_261) rfl k) ?_
      show own_Go p e below _ T152 (mkF m 263 #[.val (.int p1), .val (.int p2), .val (.int p3), .val (.int p4), .val (.int p5), .val (.int p6), .val (.int t), .val (.int (2 : Int32)), .val (.int x0), .val (.int x1), .val (.int x2), .val (.int x3), .val (.ref b146), .val (.ref r), .val (.int ef)] [(.int (2 : Int32))])
      refine own_by (fun _ k => XS.iconst X152.here hx rfl (hb hby at_263) k) ?_
      show own_Go p e below _ T152 (mkF m 264 #[.val (.int p1), .val (.int p2), .val (.int p3), .val (.int p4), .val (.int p5), .val (.int p6), .val (.int t), .val (.int (2 : Int32)), .val (.int x0), .val (.int x1), .val (.int x2), .val (.int x3), .val (.ref b146), .val (.ref r), .val (.int ef)] [(.int (4 : Int32)), (.int (2 : Int32))])
      refine own_by (fun _ k => XS.icmpYes X152.here hx rfl (pc0 := 264) (pc' := 287) rfl (hb hby at_264) rfl (tlt (by decide : (2 : Int32) < (4 : Int32))).1 (by decide) (by decide) k) ?_
      show own_Go p e below _ T152 (mkF m 287 #[.val (.int p1), .val (.int p2), .val (.int p3), .val (.int p4), .val (.int p5), .val (.int p6), .val (.int t), .val (.int (2 : Int32)), .val (.int x0), .val (.int x1), .val (.int x2), .val (.int x3), .val (.ref b146), .val (.ref r), .val (.int ef)] [])
      refine own_by (fun _ k => XS.iconst X152.here hx rfl (hb hby at_287) k) ?_
      show own_Go p e below _ T152 (mkF m 288 #[.val (.int p1), .val (.int p2), .val (.int p3), .val (.int p4), .val (.int p5), .val (.int p6), .val (.int t), .val (.int (2 : Int32)), .val (.int x0), .val (.int x1), .val (.int x2), .val (.int x3), .val (.ref b146), .val (.ref r), .val (.int ef)] [(.int (1 : Int32))])
      exact own_retN X152 hx hlk hret (by simp) rfl (hb hby at_288) ⟨rfl, N152⟩ (by decide) (by decide)
    by_cases hb5 : (p2 &&& (32 : Int32)) = (0 : Int32)
    · refine own_by (fun _ k => XS.ifYes X152.here hx rfl (pc0 := 144) (pc' := 158) rfl (hb hby at_144) rfl ((if0 _ _).trans (teq (hb5 : (p2 &&& (32 : Int32)) = (0 : Int32))).1) (by decide) (by decide) k) ?_
      show own_Go p e below _ T152 (mkF m 158 #[.val (.int p1), .val (.int p2), .val (.int p3), .val (.int p4), .val (.int p5), .val (.int p6), .val (.int t), .val (.int (2 : Int32)), .val (.int x0), .val (.int x1), .val (.int x2), .val (.int x3), .val (.ref b146), .val (.ref r), .unset] [])
      refine own_by (fun _ k => XS.sipush X152.here hx rfl (hb hby at_158) k) ?_
      show own_Go p e below _ T152 (mkF m 161 #[.val (.int p1), .val (.int p2), .val (.int p3), .val (.int p4), .val (.int p5), .val (.int p6), .val (.int t), .val (.int (2 : Int32)), .val (.int x0), .val (.int x1), .val (.int x2), .val (.int x3), .val (.ref b146), .val (.ref r), .unset] [(.int (128 : Int32))])
      refine own_by (fun _ k => XS.iload X152.here hx rfl (hb hby at_161) rfl k) ?_
      show own_Go p e below _ T152 (mkF m 163 #[.val (.int p1), .val (.int p2), .val (.int p3), .val (.int p4), .val (.int p5), .val (.int p6), .val (.int t), .val (.int (2 : Int32)), .val (.int x0), .val (.int x1), .val (.int x2), .val (.int x3), .val (.ref b146), .val (.ref r), .unset] [(.int t), (.int (128 : Int32))])
      refine own_by (fun _ k => XS.iadd X152.here hx rfl (hb hby at_163) rfl k) ?_
      show own_Go p e below _ T152 (mkF m 164 #[.val (.int p1), .val (.int p2), .val (.int p3), .val (.int p4), .val (.int p5), .val (.int p6), .val (.int t), .val (.int (2 : Int32)), .val (.int x0), .val (.int x1), .val (.int x2), .val (.int x3), .val (.ref b146), .val (.ref r), .unset] [(.int ((128 : Int32) + t))])
      refine own_by (fun _ k => XS.istore X152.here hx rfl (hb hby at_164) rfl (l' := #[.val (.int p1), .val (.int p2), .val (.int p3), .val (.int p4), .val (.int p5), .val (.int p6), .val (.int t), .val (.int (2 : Int32)), .val (.int x0), .val (.int x1), .val (.int x2), .val (.int x3), .val (.ref b146), .val (.ref r), .val (.int ((128 : Int32) + t))]) rfl k) ?_
      show own_Go p e below _ T152 (mkF m 166 #[.val (.int p1), .val (.int p2), .val (.int p3), .val (.int p4), .val (.int p5), .val (.int p6), .val (.int t), .val (.int (2 : Int32)), .val (.int x0), .val (.int x1), .val (.int x2), .val (.int x3), .val (.ref b146), .val (.ref r), .val (.int ((128 : Int32) + t))] [])
      exact J166 _ (by rw [hx0, own_lo, hb5, hkt]; exact own_clr kt)
    · refine own_by (fun _ k => XS.ifNo X152.here hx rfl (hb hby at_144) rfl ((if0 _ _).trans (feq (hb5 : ¬ ((p2 &&& (32 : Int32)) = (0 : Int32)))).1) k) ?_
      show own_Go p e below _ T152 (mkF m 147 #[.val (.int p1), .val (.int p2), .val (.int p3), .val (.int p4), .val (.int p5), .val (.int p6), .val (.int t), .val (.int (2 : Int32)), .val (.int x0), .val (.int x1), .val (.int x2), .val (.int x3), .val (.ref b146), .val (.ref r), .unset] [])
      refine own_by (fun _ k => XS.sipush X152.here hx rfl (hb hby at_147) k) ?_
      show own_Go p e below _ T152 (mkF m 150 #[.val (.int p1), .val (.int p2), .val (.int p3), .val (.int p4), .val (.int p5), .val (.int p6), .val (.int t), .val (.int (2 : Int32)), .val (.int x0), .val (.int x1), .val (.int x2), .val (.int x3), .val (.ref b146), .val (.ref r), .unset] [(.int (160 : Int32))])
      refine own_by (fun _ k => XS.iload X152.here hx rfl (hb hby at_150) rfl k) ?_
      show own_Go p e below _ T152 (mkF m 152 #[.val (.int p1), .val (.int p2), .val (.int p3), .val (.int p4), .val (.int p5), .val (.int p6), .val (.int t), .val (.int (2 : Int32)), .val (.int x0), .val (.int x1), .val (.int x2), .val (.int x3), .val (.ref b146), .val (.ref r), .unset] [(.int t), (.int (160 : Int32))])
      refine own_by (fun _ k => XS.iadd X152.here hx rfl (hb hby at_152) rfl k) ?_
      show own_Go p e below _ T152 (mkF m 153 #[.val (.int p1), .val (.int p2), .val (.int p3), .val (.int p4), .val (.int p5), .val (.int p6), .val (.int t), .val (.int (2 : Int32)), .val (.int x0), .val (.int x1), .val (.int x2), .val (.int x3), .val (.ref b146), .val (.ref r), .unset] [(.int ((160 : Int32) + t))])
      refine own_by (fun _ k => XS.istore X152.here hx rfl (hb hby at_153) rfl (l' := #[.val (.int p1), .val (.int p2), .val (.int p3), .val (.int p4), .val (.int p5), .val (.int p6), .val (.int t), .val (.int (2 : Int32)), .val (.int x0), .val (.int x1), .val (.int x2), .val (.int x3), .val (.ref b146), .val (.ref r), .val (.int ((160 : Int32) + t))]) rfl k) ?_
      show own_Go p e below _ T152 (mkF m 155 #[.val (.int p1), .val (.int p2), .val (.int p3), .val (.int p4), .val (.int p5), .val (.int p6), .val (.int t), .val (.int (2 : Int32)), .val (.int x0), .val (.int x1), .val (.int x2), .val (.int x3), .val (.ref b146), .val (.ref r), .val (.int ((160 : Int32) + t))] [])
      refine own_by (fun _ k => XS.goto X152.here hx rfl (pc0 := 155) (pc' := 166) rfl (hb hby at_155) (by decide) (by decide) k) ?_
      show own_Go p e below _ T152 (mkF m 166 #[.val (.int p1), .val (.int p2), .val (.int p3), .val (.int p4), .val (.int p5), .val (.int p6), .val (.int t), .val (.int (2 : Int32)), .val (.int x0), .val (.int x1), .val (.int x2), .val (.int x3), .val (.ref b146), .val (.ref r), .val (.int ((160 : Int32) + t))] [])
      exact J166 _ (by rw [hx0, own_lo, (own_b32 p2).resolve_left hb5, hkt]; exact own_set kt)
  · show own_Go p e below _ s₁ (mkF m 34 #[.val (.int p1), .val (.int p2), .val (.int p3), .val (.int p4), .val (.int p5), .val (.int p6), .val (.int t), .val (.int ((p6 &&& (3 : Int32)) + (1 : Int32))), .val (.int x0), .val (.int x1), .val (.int x2), .val (.int x3), .unset, .unset, .unset] [])
    rw [hk]
    rw [show (2 : Int32) + (1 : Int32) = (3 : Int32) from by decide]
    show own_Go p e below _ s₁ (mkF m 34 #[.val (.int p1), .val (.int p2), .val (.int p3), .val (.int p4), .val (.int p5), .val (.int p6), .val (.int t), .val (.int (3 : Int32)), .val (.int x0), .val (.int x1), .val (.int x2), .val (.int x3), .unset, .unset, .unset] [])
    refine own_by (fun _ k => XS.iload X0.here hx rfl (hb hby at_34) rfl k) ?_
    show own_Go p e below _ s₁ (mkF m 36 #[.val (.int p1), .val (.int p2), .val (.int p3), .val (.int p4), .val (.int p5), .val (.int p6), .val (.int t), .val (.int (3 : Int32)), .val (.int x0), .val (.int x1), .val (.int x2), .val (.int x3), .unset, .unset, .unset] [(.int (3 : Int32))])
    refine own_by (fun _ k => XS.iconst X0.here hx rfl (hb hby at_36) k) ?_
    show own_Go p e below _ s₁ (mkF m 37 #[.val (.int p1), .val (.int p2), .val (.int p3), .val (.int p4), .val (.int p5), .val (.int p6), .val (.int t), .val (.int (3 : Int32)), .val (.int x0), .val (.int x1), .val (.int x2), .val (.int x3), .unset, .unset, .unset] [(.int (1 : Int32)), (.int (3 : Int32))])
    refine own_by (fun _ k => XS.icmpYes X0.here hx rfl (pc0 := 37) (pc' := 53) rfl (hb hby at_37) rfl (feq (by decide : ¬ ((3 : Int32) = (1 : Int32)))).2 (by decide) (by decide) k) ?_
    show own_Go p e below _ s₁ (mkF m 53 #[.val (.int p1), .val (.int p2), .val (.int p3), .val (.int p4), .val (.int p5), .val (.int p6), .val (.int t), .val (.int (3 : Int32)), .val (.int x0), .val (.int x1), .val (.int x2), .val (.int x3), .unset, .unset, .unset] [])
    refine own_by (fun _ k => XS.iload X0.here hx rfl (hb hby at_53) rfl k) ?_
    show own_Go p e below _ s₁ (mkF m 55 #[.val (.int p1), .val (.int p2), .val (.int p3), .val (.int p4), .val (.int p5), .val (.int p6), .val (.int t), .val (.int (3 : Int32)), .val (.int x0), .val (.int x1), .val (.int x2), .val (.int x3), .unset, .unset, .unset] [(.int (3 : Int32))])
    refine own_by (fun _ k => XS.iconst X0.here hx rfl (hb hby at_55) k) ?_
    show own_Go p e below _ s₁ (mkF m 56 #[.val (.int p1), .val (.int p2), .val (.int p3), .val (.int p4), .val (.int p5), .val (.int p6), .val (.int t), .val (.int (3 : Int32)), .val (.int x0), .val (.int x1), .val (.int x2), .val (.int x3), .unset, .unset, .unset] [(.int (2 : Int32)), (.int (3 : Int32))])
    refine own_by (fun _ k => XS.icmpYes X0.here hx rfl (pc0 := 56) (pc' := 77) rfl (hb hby at_56) rfl (feq (by decide : ¬ ((3 : Int32) = (2 : Int32)))).2 (by decide) (by decide) k) ?_
    show own_Go p e below _ s₁ (mkF m 77 #[.val (.int p1), .val (.int p2), .val (.int p3), .val (.int p4), .val (.int p5), .val (.int p6), .val (.int t), .val (.int (3 : Int32)), .val (.int x0), .val (.int x1), .val (.int x2), .val (.int x3), .unset, .unset, .unset] [])
    refine own_by (fun _ k => XS.iload X0.here hx rfl (hb hby at_77) rfl k) ?_
    show own_Go p e below _ s₁ (mkF m 79 #[.val (.int p1), .val (.int p2), .val (.int p3), .val (.int p4), .val (.int p5), .val (.int p6), .val (.int t), .val (.int (3 : Int32)), .val (.int x0), .val (.int x1), .val (.int x2), .val (.int x3), .unset, .unset, .unset] [(.int (3 : Int32))])
    refine own_by (fun _ k => XS.iconst X0.here hx rfl (hb hby at_79) k) ?_
    show own_Go p e below _ s₁ (mkF m 80 #[.val (.int p1), .val (.int p2), .val (.int p3), .val (.int p4), .val (.int p5), .val (.int p6), .val (.int t), .val (.int (3 : Int32)), .val (.int x0), .val (.int x1), .val (.int x2), .val (.int x3), .unset, .unset, .unset] [(.int (3 : Int32)), (.int (3 : Int32))])
    refine own_by (fun _ k => XS.icmpNo X0.here hx rfl (hb hby at_80) rfl (teq (by decide : (3 : Int32) = (3 : Int32))).2 k) ?_
    show own_Go p e below _ s₁ (mkF m 83 #[.val (.int p1), .val (.int p2), .val (.int p3), .val (.int p4), .val (.int p5), .val (.int p6), .val (.int t), .val (.int (3 : Int32)), .val (.int x0), .val (.int x1), .val (.int x2), .val (.int x3), .unset, .unset, .unset] [])
    refine own_by (fun _ k => XS.iconst X0.here hx rfl (hb hby at_83) k) ?_
    show own_Go p e below _ s₁ (mkF m 84 #[.val (.int p1), .val (.int p2), .val (.int p3), .val (.int p4), .val (.int p5), .val (.int p6), .val (.int t), .val (.int (3 : Int32)), .val (.int x0), .val (.int x1), .val (.int x2), .val (.int x3), .unset, .unset, .unset] [(.int (3 : Int32))])
    obtain ⟨T159, h159, k159, X159, e159, E159, A159, C159, st159⟩ := newPE X0 hx hZ (hw _ (List.mem_of_getElem? (i := 1) rfl)) e0 (g := (mkF m 84 #[.val (.int p1), .val (.int p2), .val (.int p3), .val (.int p4), .val (.int p5), .val (.int p6), .val (.int t), .val (.int (3 : Int32)), .val (.int x0), .val (.int x1), .val (.int x2), .val (.int x3), .unset, .unset, .unset] [(.int (3 : Int32))])) rfl (hb hby at_84) rfl (by decide) (cap := 3) (by decide) (by decide) (by decide) (by decide) (ad := "[B") (by decide)
    obtain ⟨b159, g159⟩ : ∃ z, z = h0.size := ⟨_, rfl⟩
    rw [← g159] at A159 C159 st159
    have og_b159 : n0 ≤ b159 := Nat.le_trans Z0 (Nat.le_of_eq g159.symm)
    have Z159 : n0 ≤ h159.size := Nat.le_trans Z0 E159.1
    have V159 : Arv Z h159 b159 k159 .byte (3 : Int32) [(.int (0 : Int32)), (.int (0 : Int32)), (.int (0 : Int32))] (.int (0 : Int32)) := (Arv.new A159 (by decide)).pad (pad_rep [] (.int (0 : Int32)) 3)
    refine own_by st159 ?_
    show own_Go p e below _ T159 (mkF m 86 #[.val (.int p1), .val (.int p2), .val (.int p3), .val (.int p4), .val (.int p5), .val (.int p6), .val (.int t), .val (.int (3 : Int32)), .val (.int x0), .val (.int x1), .val (.int x2), .val (.int x3), .unset, .unset, .unset] [(.ref b159)])
    refine own_by (fun _ k => XS.dup X159.here hx rfl (hb hby at_86) rfl rfl k) ?_
    show own_Go p e below _ T159 (mkF m 87 #[.val (.int p1), .val (.int p2), .val (.int p3), .val (.int p4), .val (.int p5), .val (.int p6), .val (.int t), .val (.int (3 : Int32)), .val (.int x0), .val (.int x1), .val (.int x2), .val (.int x3), .unset, .unset, .unset] [(.ref b159), (.ref b159)])
    refine own_by (fun _ k => XS.iconst X159.here hx rfl (hb hby at_87) k) ?_
    show own_Go p e below _ T159 (mkF m 88 #[.val (.int p1), .val (.int p2), .val (.int p3), .val (.int p4), .val (.int p5), .val (.int p6), .val (.int t), .val (.int (3 : Int32)), .val (.int x0), .val (.int x1), .val (.int x2), .val (.int x3), .unset, .unset, .unset] [(.int (0 : Int32)), (.ref b159), (.ref b159)])
    refine own_by (fun _ k => XS.iload X159.here hx rfl (hb hby at_88) rfl k) ?_
    show own_Go p e below _ T159 (mkF m 90 #[.val (.int p1), .val (.int p2), .val (.int p3), .val (.int p4), .val (.int p5), .val (.int p6), .val (.int t), .val (.int (3 : Int32)), .val (.int x0), .val (.int x1), .val (.int x2), .val (.int x3), .unset, .unset, .unset] [(.int x0), (.int (0 : Int32)), (.ref b159), (.ref b159)])
    obtain ⟨cl160, Ar160, cq160, hin160, hat160, set160⟩ := own_arv V159 (j := (0 : Int32)) ⟨by decide, by decide⟩
    obtain ⟨T161, h161, X161, e161, W161, st161⟩ := stB X159 hx hZ e159 Ar160 (j := (0 : Int32)) hin160 (g := (mkF m 90 #[.val (.int p1), .val (.int p2), .val (.int p3), .val (.int p4), .val (.int p5), .val (.int p6), .val (.int t), .val (.int (3 : Int32)), .val (.int x0), .val (.int x1), .val (.int x2), .val (.int x3), .unset, .unset, .unset] [(.int x0), (.int (0 : Int32)), (.ref b159), (.ref b159)])) rfl rfl (hb hby at_90)
    have wq161 : nar .byte x0 = x0 := by rw [hx0]; exact own_nb _
    rw [wq161] at W161
    have wf161 : fits .byte (.int x0) = true := wq161 ▸ (fits_nar_byte _)
    have V161 : Arv Z h161 b159 k159 .byte (3 : Int32) [(.int x0), (.int (0 : Int32)), (.int (0 : Int32))] (.int (0 : Int32)) := set160 wf161 W161 0 rfl (Nat.le_of_ble_eq_true rfl)
    have N161 := Fr.snoc X161 N0 og_b159
    have Z161 : n0 ≤ h161.size := Nat.le_trans Z159 (Keep.of_wr W161).1
    refine own_by st161 ?_
    show own_Go p e below _ T161 (mkF m 91 #[.val (.int p1), .val (.int p2), .val (.int p3), .val (.int p4), .val (.int p5), .val (.int p6), .val (.int t), .val (.int (3 : Int32)), .val (.int x0), .val (.int x1), .val (.int x2), .val (.int x3), .unset, .unset, .unset] [(.ref b159)])
    refine own_by (fun _ k => XS.dup X161.here hx rfl (hb hby at_91) rfl rfl k) ?_
    show own_Go p e below _ T161 (mkF m 92 #[.val (.int p1), .val (.int p2), .val (.int p3), .val (.int p4), .val (.int p5), .val (.int p6), .val (.int t), .val (.int (3 : Int32)), .val (.int x0), .val (.int x1), .val (.int x2), .val (.int x3), .unset, .unset, .unset] [(.ref b159), (.ref b159)])
    refine own_by (fun _ k => XS.iconst X161.here hx rfl (hb hby at_92) k) ?_
    show own_Go p e below _ T161 (mkF m 93 #[.val (.int p1), .val (.int p2), .val (.int p3), .val (.int p4), .val (.int p5), .val (.int p6), .val (.int t), .val (.int (3 : Int32)), .val (.int x0), .val (.int x1), .val (.int x2), .val (.int x3), .unset, .unset, .unset] [(.int (1 : Int32)), (.ref b159), (.ref b159)])
    refine own_by (fun _ k => XS.iload X161.here hx rfl (hb hby at_93) rfl k) ?_
    show own_Go p e below _ T161 (mkF m 95 #[.val (.int p1), .val (.int p2), .val (.int p3), .val (.int p4), .val (.int p5), .val (.int p6), .val (.int t), .val (.int (3 : Int32)), .val (.int x0), .val (.int x1), .val (.int x2), .val (.int x3), .unset, .unset, .unset] [(.int x1), (.int (1 : Int32)), (.ref b159), (.ref b159)])
    obtain ⟨cl162, Ar162, cq162, hin162, hat162, set162⟩ := own_arv V161 (j := (1 : Int32)) ⟨by decide, by decide⟩
    obtain ⟨T163, h163, X163, e163, W163, st163⟩ := stB X161 hx hZ e161 Ar162 (j := (1 : Int32)) hin162 (g := (mkF m 95 #[.val (.int p1), .val (.int p2), .val (.int p3), .val (.int p4), .val (.int p5), .val (.int p6), .val (.int t), .val (.int (3 : Int32)), .val (.int x0), .val (.int x1), .val (.int x2), .val (.int x3), .unset, .unset, .unset] [(.int x1), (.int (1 : Int32)), (.ref b159), (.ref b159)])) rfl rfl (hb hby at_95)
    have wq163 : nar .byte x1 = x1 := by rw [hx1]; exact own_nb _
    rw [wq163] at W163
    have wf163 : fits .byte (.int x1) = true := wq163 ▸ (fits_nar_byte _)
    have V163 : Arv Z h163 b159 k159 .byte (3 : Int32) [(.int x0), (.int x1), (.int (0 : Int32))] (.int (0 : Int32)) := set162 wf163 W163 1 rfl (Nat.le_of_ble_eq_true rfl)
    have N163 := Fr.snoc X163 N161 og_b159
    have Z163 : n0 ≤ h163.size := Nat.le_trans Z161 (Keep.of_wr W163).1
    refine own_by st163 ?_
    show own_Go p e below _ T163 (mkF m 96 #[.val (.int p1), .val (.int p2), .val (.int p3), .val (.int p4), .val (.int p5), .val (.int p6), .val (.int t), .val (.int (3 : Int32)), .val (.int x0), .val (.int x1), .val (.int x2), .val (.int x3), .unset, .unset, .unset] [(.ref b159)])
    refine own_by (fun _ k => XS.dup X163.here hx rfl (hb hby at_96) rfl rfl k) ?_
    show own_Go p e below _ T163 (mkF m 97 #[.val (.int p1), .val (.int p2), .val (.int p3), .val (.int p4), .val (.int p5), .val (.int p6), .val (.int t), .val (.int (3 : Int32)), .val (.int x0), .val (.int x1), .val (.int x2), .val (.int x3), .unset, .unset, .unset] [(.ref b159), (.ref b159)])
    refine own_by (fun _ k => XS.iconst X163.here hx rfl (hb hby at_97) k) ?_
    show own_Go p e below _ T163 (mkF m 98 #[.val (.int p1), .val (.int p2), .val (.int p3), .val (.int p4), .val (.int p5), .val (.int p6), .val (.int t), .val (.int (3 : Int32)), .val (.int x0), .val (.int x1), .val (.int x2), .val (.int x3), .unset, .unset, .unset] [(.int (2 : Int32)), (.ref b159), (.ref b159)])
    refine own_by (fun _ k => XS.iload X163.here hx rfl (hb hby at_98) rfl k) ?_
    show own_Go p e below _ T163 (mkF m 100 #[.val (.int p1), .val (.int p2), .val (.int p3), .val (.int p4), .val (.int p5), .val (.int p6), .val (.int t), .val (.int (3 : Int32)), .val (.int x0), .val (.int x1), .val (.int x2), .val (.int x3), .unset, .unset, .unset] [(.int x2), (.int (2 : Int32)), (.ref b159), (.ref b159)])
    obtain ⟨cl164, Ar164, cq164, hin164, hat164, set164⟩ := own_arv V163 (j := (2 : Int32)) ⟨by decide, by decide⟩
    obtain ⟨T165, h165, X165, e165, W165, st165⟩ := stB X163 hx hZ e163 Ar164 (j := (2 : Int32)) hin164 (g := (mkF m 100 #[.val (.int p1), .val (.int p2), .val (.int p3), .val (.int p4), .val (.int p5), .val (.int p6), .val (.int t), .val (.int (3 : Int32)), .val (.int x0), .val (.int x1), .val (.int x2), .val (.int x3), .unset, .unset, .unset] [(.int x2), (.int (2 : Int32)), (.ref b159), (.ref b159)])) rfl rfl (hb hby at_100)
    have wq165 : nar .byte x2 = x2 := by rw [hx2]; exact own_nb _
    rw [wq165] at W165
    have wf165 : fits .byte (.int x2) = true := wq165 ▸ (fits_nar_byte _)
    have V165 : Arv Z h165 b159 k159 .byte (3 : Int32) [(.int x0), (.int x1), (.int x2)] (.int (0 : Int32)) := set164 wf165 W165 2 rfl (Nat.le_of_ble_eq_true rfl)
    have N165 := Fr.snoc X165 N163 og_b159
    have Z165 : n0 ≤ h165.size := Nat.le_trans Z163 (Keep.of_wr W165).1
    refine own_by st165 ?_
    show own_Go p e below _ T165 (mkF m 101 #[.val (.int p1), .val (.int p2), .val (.int p3), .val (.int p4), .val (.int p5), .val (.int p6), .val (.int t), .val (.int (3 : Int32)), .val (.int x0), .val (.int x1), .val (.int x2), .val (.int x3), .unset, .unset, .unset] [(.ref b159)])
    refine own_by (fun _ k => XS.astore X165.here hx rfl (hb hby at_101) rfl rfl (l' := #[.val (.int p1), .val (.int p2), .val (.int p3), .val (.int p4), .val (.int p5), .val (.int p6), .val (.int t), .val (.int (3 : Int32)), .val (.int x0), .val (.int x1), .val (.int x2), .val (.int x3), .val (.ref b159), .unset, .unset]) rfl k) ?_
    show own_Go p e below _ T165 (mkF m 103 #[.val (.int p1), .val (.int p2), .val (.int p3), .val (.int p4), .val (.int p5), .val (.int p6), .val (.int t), .val (.int (3 : Int32)), .val (.int x0), .val (.int x1), .val (.int x2), .val (.int x3), .val (.ref b159), .unset, .unset] [])
    refine own_by (fun _ k => XS.goto X165.here hx rfl (pc0 := 103) (pc' := 131) rfl (hb hby at_103) (by decide) (by decide) k) ?_
    show own_Go p e below _ T165 (mkF m 131 #[.val (.int p1), .val (.int p2), .val (.int p3), .val (.int p4), .val (.int p5), .val (.int p6), .val (.int t), .val (.int (3 : Int32)), .val (.int x0), .val (.int x1), .val (.int x2), .val (.int x3), .val (.ref b159), .unset, .unset] [])
    refine own_by (fun _ k => XS.iload X165.here hx rfl (hb hby at_131) rfl k) ?_
    show own_Go p e below _ T165 (mkF m 133 #[.val (.int p1), .val (.int p2), .val (.int p3), .val (.int p4), .val (.int p5), .val (.int p6), .val (.int t), .val (.int (3 : Int32)), .val (.int x0), .val (.int x1), .val (.int x2), .val (.int x3), .val (.ref b159), .unset, .unset] [(.int t)])
    refine own_by (fun _ k => XS.aload X165.here hx rfl (hb hby at_133) rfl rfl k) ?_
    show own_Go p e below _ T165 (mkF m 135 #[.val (.int p1), .val (.int p2), .val (.int p3), .val (.int p4), .val (.int p5), .val (.int p6), .val (.int t), .val (.int (3 : Int32)), .val (.int x0), .val (.int x1), .val (.int x2), .val (.int x3), .val (.ref b159), .unset, .unset] [(.ref b159), (.int t)])
    have f166 := (((C159.wr W161).wr W163).wr W165)
    obtain ⟨_, T167, L167, X167, ⟨r, rfl, N167q, Kr, sr, Vr⟩, st167⟩ := own_callS X165 hx hZ hown (y := (⟨"com/example/tabularium/tabularium/traceability/Der", "implicit", "(I[B)[B"⟩ : MethodName)) (hw _ (List.mem_of_getElem? (i := 2) rfl)) (hw _ (List.mem_of_getElem? (i := 3) rfl)) (hw _ (List.mem_of_getElem? (i := 4) rfl)) (hw _ (List.mem_of_getElem? (i := 5) rfl)) (by decide) (argsL := [(.int t), (.ref b159)]) (rest := []) e165 (rm1_3 l Z a0 hw [] t b159 k159 x0 x1 x2 h165 n0 Z165 ht1 ht2 f166 V165) (g := (mkF m 135 #[.val (.int p1), .val (.int p2), .val (.int p3), .val (.int p4), .val (.int p5), .val (.int p6), .val (.int t), .val (.int (3 : Int32)), .val (.int x0), .val (.int x1), .val (.int x2), .val (.int x3), .val (.ref b159), .unset, .unset] [(.ref b159), (.int t)])) rfl (by rw [hml]; rfl) (lenOf pd_1 rfl) rfl (W := 0) (by show 2 * 0 + _ ≤ _; exact Nat.le_of_eq rfl) (hb hby at_135) (by decide) (by decide) (by decide) (by decide)
    have N167 := Fr.app N165 N167q
    refine own_by st167 ?_
    show own_Go p e below _ T167 (mkF m 138 #[.val (.int p1), .val (.int p2), .val (.int p3), .val (.int p4), .val (.int p5), .val (.int p6), .val (.int t), .val (.int (3 : Int32)), .val (.int x0), .val (.int x1), .val (.int x2), .val (.int x3), .val (.ref b159), .unset, .unset] [(.ref r)])
    have ner : b159 ≠ r := Nat.ne_of_lt (Nat.lt_of_lt_of_le V165.lt sr)
    have Z167 : n0 ≤ T167.heap.size := Nat.le_trans Z165 Kr.1
    refine own_by (fun _ k => XS.astore X167.here hx rfl (hb hby at_138) rfl rfl (l' := #[.val (.int p1), .val (.int p2), .val (.int p3), .val (.int p4), .val (.int p5), .val (.int p6), .val (.int t), .val (.int (3 : Int32)), .val (.int x0), .val (.int x1), .val (.int x2), .val (.int x3), .val (.ref b159), .val (.ref r), .unset]) rfl k) ?_
    show own_Go p e below _ T167 (mkF m 140 #[.val (.int p1), .val (.int p2), .val (.int p3), .val (.int p4), .val (.int p5), .val (.int p6), .val (.int t), .val (.int (3 : Int32)), .val (.int x0), .val (.int x1), .val (.int x2), .val (.int x3), .val (.ref b159), .val (.ref r), .unset] [])
    refine own_by (fun _ k => XS.iloadN X167.here hx rfl (hb hby at_140) rfl k) ?_
    show own_Go p e below _ T167 (mkF m 141 #[.val (.int p1), .val (.int p2), .val (.int p3), .val (.int p4), .val (.int p5), .val (.int p6), .val (.int t), .val (.int (3 : Int32)), .val (.int x0), .val (.int x1), .val (.int x2), .val (.int x3), .val (.ref b159), .val (.ref r), .unset] [(.int p2)])
    refine own_by (fun _ k => XS.bipush X167.here hx rfl (hb hby at_141) k) ?_
    show own_Go p e below _ T167 (mkF m 143 #[.val (.int p1), .val (.int p2), .val (.int p3), .val (.int p4), .val (.int p5), .val (.int p6), .val (.int t), .val (.int (3 : Int32)), .val (.int x0), .val (.int x1), .val (.int x2), .val (.int x3), .val (.ref b159), .val (.ref r), .unset] [(.int (32 : Int32)), (.int p2)])
    refine own_by (fun _ k => XS.iand X167.here hx rfl (hb hby at_143) rfl k) ?_
    show own_Go p e below _ T167 (mkF m 144 #[.val (.int p1), .val (.int p2), .val (.int p3), .val (.int p4), .val (.int p5), .val (.int p6), .val (.int t), .val (.int (3 : Int32)), .val (.int x0), .val (.int x1), .val (.int x2), .val (.int x3), .val (.ref b159), .val (.ref r), .unset] [(.int (p2 &&& (32 : Int32)))])
    have J166 : ∀ (ef : Int32) (hef : ((((128 : Int32) ||| t) ||| (x0 &&& (32 : Int32))).toInt8.toInt32) = ef.toInt8.toInt32), own_Go p e below (own_End s room_1.cells room_1.slots (Q_rm0 Z p1 p2 p3 p4 p5 p6 h0 n0)) T167 (mkF m 166 #[.val (.int p1), .val (.int p2), .val (.int p3), .val (.int p4), .val (.int p5), .val (.int p6), .val (.int t), .val (.int (3 : Int32)), .val (.int x0), .val (.int x1), .val (.int x2), .val (.int x3), .val (.ref b159), .val (.ref r), .val (.int ef)] []) := by
      intro  ef hef
      show own_Go p e below _ T167 (mkF m 166 #[.val (.int p1), .val (.int p2), .val (.int p3), .val (.int p4), .val (.int p5), .val (.int p6), .val (.int t), .val (.int (3 : Int32)), .val (.int x0), .val (.int x1), .val (.int x2), .val (.int x3), .val (.ref b159), .val (.ref r), .val (.int ef)] [])
      refine own_by (fun _ k => XS.aload X167.here hx rfl (hb hby at_166) rfl rfl k) ?_
      show own_Go p e below _ T167 (mkF m 168 #[.val (.int p1), .val (.int p2), .val (.int p3), .val (.int p4), .val (.int p5), .val (.int p6), .val (.int t), .val (.int (3 : Int32)), .val (.int x0), .val (.int x1), .val (.int x2), .val (.int x3), .val (.ref b159), .val (.ref r), .val (.int ef)] [(.ref r)])
      refine own_by (fun _ k => XS.ifnullNo X167.here hx rfl (hb hby at_168) rfl k) ?_
      show own_Go p e below _ T167 (mkF m 171 #[.val (.int p1), .val (.int p2), .val (.int p3), .val (.int p4), .val (.int p5), .val (.int p6), .val (.int t), .val (.int (3 : Int32)), .val (.int x0), .val (.int x1), .val (.int x2), .val (.int x3), .val (.ref b159), .val (.ref r), .val (.int ef)] [])
      refine own_by (fun _ k => XS.aload X167.here hx rfl (hb hby at_171) rfl rfl k) ?_
      show own_Go p e below _ T167 (mkF m 173 #[.val (.int p1), .val (.int p2), .val (.int p3), .val (.int p4), .val (.int p5), .val (.int p6), .val (.int t), .val (.int (3 : Int32)), .val (.int x0), .val (.int x1), .val (.int x2), .val (.int x3), .val (.ref b159), .val (.ref r), .val (.int ef)] [(.ref r)])
      refine own_by (fun _ k => XS.aload X167.here hx rfl (hb hby at_173) rfl rfl k) ?_
      show own_Go p e below _ T167 (mkF m 175 #[.val (.int p1), .val (.int p2), .val (.int p3), .val (.int p4), .val (.int p5), .val (.int p6), .val (.int t), .val (.int (3 : Int32)), .val (.int x0), .val (.int x1), .val (.int x2), .val (.int x3), .val (.ref b159), .val (.ref r), .val (.int ef)] [(.ref b159), (.ref r)])
      refine own_by (fun _ k => Jvm.RoadKit.acmp (g := (mkF m 175 #[.val (.int p1), .val (.int p2), .val (.int p3), .val (.int p4), .val (.int p5), .val (.int p6), .val (.int t), .val (.int (3 : Int32)), .val (.int x0), .val (.int x1), .val (.int x2), .val (.int x3), .val (.ref b159), .val (.ref r), .val (.int ef)] [(.ref b159), (.ref r)])) X167 hx rfl rfl rfl (pc0 := 175) (pc' := 178) (same := false) rfl (hb hby at_175) rfl (decide_eq_false fun q => ner.symm (Value.ref.inj q)) (by decide) (by decide) k) ?_
      show own_Go p e below _ T167 (mkF m 178 #[.val (.int p1), .val (.int p2), .val (.int p3), .val (.int p4), .val (.int p5), .val (.int p6), .val (.int t), .val (.int (3 : Int32)), .val (.int x0), .val (.int x1), .val (.int x2), .val (.int x3), .val (.ref b159), .val (.ref r), .val (.int ef)] [])
      refine own_by (fun _ k => XS.aload X167.here hx rfl (hb hby at_178) rfl rfl k) ?_
      show own_Go p e below _ T167 (mkF m 180 #[.val (.int p1), .val (.int p2), .val (.int p3), .val (.int p4), .val (.int p5), .val (.int p6), .val (.int t), .val (.int (3 : Int32)), .val (.int x0), .val (.int x1), .val (.int x2), .val (.int x3), .val (.ref b159), .val (.ref r), .val (.int ef)] [(.ref r)])
      obtain ⟨cl168, Ar168, len168⟩ := own_len Vr
      refine own_by (T' := T167) (g' := (mkF m 181 #[.val (.int p1), .val (.int p2), .val (.int p3), .val (.int p4), .val (.int p5), .val (.int p6), .val (.int t), .val (.int (3 : Int32)), .val (.int x0), .val (.int x1), .val (.int x2), .val (.int x3), .val (.ref b159), .val (.ref r), .val (.int ef)] [(.int (3 : Int32))])) (fun _ k => X167.arraylength hx Ar168.1 (State.isArrayOf_alike hZ.alike Ar168.2.1) (g := (mkF m 180 #[.val (.int p1), .val (.int p2), .val (.int p3), .val (.int p4), .val (.int p5), .val (.int p6), .val (.int t), .val (.int (3 : Int32)), .val (.int x0), .val (.int x1), .val (.int x2), .val (.int x3), .val (.ref b159), .val (.ref r), .val (.int ef)] [(.ref r)])) rfl rfl (hb hby at_180) _ (by rw [len168]; exact k)) ?_
      refine own_by (fun _ k => XS.iload X167.here hx rfl (hb hby at_181) rfl k) ?_
      show own_Go p e below _ T167 (mkF m 183 #[.val (.int p1), .val (.int p2), .val (.int p3), .val (.int p4), .val (.int p5), .val (.int p6), .val (.int t), .val (.int (3 : Int32)), .val (.int x0), .val (.int x1), .val (.int x2), .val (.int x3), .val (.ref b159), .val (.ref r), .val (.int ef)] [(.int (3 : Int32)), (.int (3 : Int32))])
      refine own_by (fun _ k => XS.icmpYes X167.here hx rfl (pc0 := 183) (pc' := 188) rfl (hb hby at_183) rfl (teq (rfl : (3 : Int32) = (3 : Int32))).1 (by decide) (by decide) k) ?_
      show own_Go p e below _ T167 (mkF m 188 #[.val (.int p1), .val (.int p2), .val (.int p3), .val (.int p4), .val (.int p5), .val (.int p6), .val (.int t), .val (.int (3 : Int32)), .val (.int x0), .val (.int x1), .val (.int x2), .val (.int x3), .val (.ref b159), .val (.ref r), .val (.int ef)] [])
      refine own_by (fun _ k => XS.aload X167.here hx rfl (hb hby at_188) rfl rfl k) ?_
      show own_Go p e below _ T167 (mkF m 190 #[.val (.int p1), .val (.int p2), .val (.int p3), .val (.int p4), .val (.int p5), .val (.int p6), .val (.int t), .val (.int (3 : Int32)), .val (.int x0), .val (.int x1), .val (.int x2), .val (.int x3), .val (.ref b159), .val (.ref r), .val (.int ef)] [(.ref r)])
      refine own_by (fun _ k => XS.iconst X167.here hx rfl (hb hby at_190) k) ?_
      show own_Go p e below _ T167 (mkF m 191 #[.val (.int p1), .val (.int p2), .val (.int p3), .val (.int p4), .val (.int p5), .val (.int p6), .val (.int t), .val (.int (3 : Int32)), .val (.int x0), .val (.int x1), .val (.int x2), .val (.int x3), .val (.ref b159), .val (.ref r), .val (.int ef)] [(.int (0 : Int32)), (.ref r)])
      obtain ⟨cl169, Ar169, cq169, hin169, hat169, set169⟩ := own_arv Vr (j := (0 : Int32)) ⟨by decide, by decide⟩
      refine own_by (fun _ k => X167.baloadBytes hx (j := (0 : Int32)) (v := (.int ((((128 : Int32) ||| t) ||| (x0 &&& (32 : Int32))).toInt8.toInt32))) Ar169.1 (State.isArrayOf_alike hZ.alike Ar169.2.1) Ar169.2.2 hin169 hat169 (g := (mkF m 191 #[.val (.int p1), .val (.int p2), .val (.int p3), .val (.int p4), .val (.int p5), .val (.int p6), .val (.int t), .val (.int (3 : Int32)), .val (.int x0), .val (.int x1), .val (.int x2), .val (.int x3), .val (.ref b159), .val (.ref r), .val (.int ef)] [(.int (0 : Int32)), (.ref r)])) rfl rfl (hb hby at_191) _ k) ?_
      show own_Go p e below _ T167 (mkF m 192 #[.val (.int p1), .val (.int p2), .val (.int p3), .val (.int p4), .val (.int p5), .val (.int p6), .val (.int t), .val (.int (3 : Int32)), .val (.int x0), .val (.int x1), .val (.int x2), .val (.int x3), .val (.ref b159), .val (.ref r), .val (.int ef)] [(.int ((((128 : Int32) ||| t) ||| (x0 &&& (32 : Int32))).toInt8.toInt32))])
      refine own_by (fun _ k => XS.iload X167.here hx rfl (hb hby at_192) rfl k) ?_
      show own_Go p e below _ T167 (mkF m 194 #[.val (.int p1), .val (.int p2), .val (.int p3), .val (.int p4), .val (.int p5), .val (.int p6), .val (.int t), .val (.int (3 : Int32)), .val (.int x0), .val (.int x1), .val (.int x2), .val (.int x3), .val (.ref b159), .val (.ref r), .val (.int ef)] [(.int ef), (.int ((((128 : Int32) ||| t) ||| (x0 &&& (32 : Int32))).toInt8.toInt32))])
      refine own_by (fun _ k => XS.i2b X167.here hx rfl (hb hby at_194) rfl k) ?_
      show own_Go p e below _ T167 (mkF m 195 #[.val (.int p1), .val (.int p2), .val (.int p3), .val (.int p4), .val (.int p5), .val (.int p6), .val (.int t), .val (.int (3 : Int32)), .val (.int x0), .val (.int x1), .val (.int x2), .val (.int x3), .val (.ref b159), .val (.ref r), .val (.int ef)] [(.int (ef.toInt8.toInt32)), (.int ((((128 : Int32) ||| t) ||| (x0 &&& (32 : Int32))).toInt8.toInt32))])
      refine own_by (fun _ k => XS.icmpNo X167.here hx rfl (hb hby at_195) rfl (teq (hef : ((((128 : Int32) ||| t) ||| (x0 &&& (32 : Int32))).toInt8.toInt32) = (ef.toInt8.toInt32))).2 k) ?_
      show own_Go p e below _ T167 (mkF m 198 #[.val (.int p1), .val (.int p2), .val (.int p3), .val (.int p4), .val (.int p5), .val (.int p6), .val (.int t), .val (.int (3 : Int32)), .val (.int x0), .val (.int x1), .val (.int x2), .val (.int x3), .val (.ref b159), .val (.ref r), .val (.int ef)] [])
      refine own_by (fun _ k => XS.aload X167.here hx rfl (hb hby at_198) rfl rfl k) ?_
      show own_Go p e below _ T167 (mkF m 200 #[.val (.int p1), .val (.int p2), .val (.int p3), .val (.int p4), .val (.int p5), .val (.int p6), .val (.int t), .val (.int (3 : Int32)), .val (.int x0), .val (.int x1), .val (.int x2), .val (.int x3), .val (.ref b159), .val (.ref r), .val (.int ef)] [(.ref b159)])
      refine own_by (fun _ k => XS.iconst X167.here hx rfl (hb hby at_200) k) ?_
      show own_Go p e below _ T167 (mkF m 201 #[.val (.int p1), .val (.int p2), .val (.int p3), .val (.int p4), .val (.int p5), .val (.int p6), .val (.int t), .val (.int (3 : Int32)), .val (.int x0), .val (.int x1), .val (.int x2), .val (.int x3), .val (.ref b159), .val (.ref r), .val (.int ef)] [(.int (0 : Int32)), (.ref b159)])
      have f171 := (V165.keep Kr nin0)
      obtain ⟨cl170, Ar170, cq170, hin170, hat170, set170⟩ := own_arv f171 (j := (0 : Int32)) ⟨by decide, by decide⟩
      refine own_by (fun _ k => X167.baloadBytes hx (j := (0 : Int32)) (v := (.int x0)) Ar170.1 (State.isArrayOf_alike hZ.alike Ar170.2.1) Ar170.2.2 hin170 hat170 (g := (mkF m 201 #[.val (.int p1), .val (.int p2), .val (.int p3), .val (.int p4), .val (.int p5), .val (.int p6), .val (.int t), .val (.int (3 : Int32)), .val (.int x0), .val (.int x1), .val (.int x2), .val (.int x3), .val (.ref b159), .val (.ref r), .val (.int ef)] [(.int (0 : Int32)), (.ref b159)])) rfl rfl (hb hby at_201) _ k) ?_
      show own_Go p e below _ T167 (mkF m 202 #[.val (.int p1), .val (.int p2), .val (.int p3), .val (.int p4), .val (.int p5), .val (.int p6), .val (.int t), .val (.int (3 : Int32)), .val (.int x0), .val (.int x1), .val (.int x2), .val (.int x3), .val (.ref b159), .val (.ref r), .val (.int ef)] [(.int x0)])
      refine own_by (fun _ k => XS.iload X167.here hx rfl (hb hby at_202) rfl k) ?_
      show own_Go p e below _ T167 (mkF m 204 #[.val (.int p1), .val (.int p2), .val (.int p3), .val (.int p4), .val (.int p5), .val (.int p6), .val (.int t), .val (.int (3 : Int32)), .val (.int x0), .val (.int x1), .val (.int x2), .val (.int x3), .val (.ref b159), .val (.ref r), .val (.int ef)] [(.int x0), (.int x0)])
      refine own_by (fun _ k => XS.icmpYes X167.here hx rfl (pc0 := 204) (pc' := 209) rfl (hb hby at_204) rfl (teq (rfl : x0 = x0)).1 (by decide) (by decide) k) ?_
      show own_Go p e below _ T167 (mkF m 209 #[.val (.int p1), .val (.int p2), .val (.int p3), .val (.int p4), .val (.int p5), .val (.int p6), .val (.int t), .val (.int (3 : Int32)), .val (.int x0), .val (.int x1), .val (.int x2), .val (.int x3), .val (.ref b159), .val (.ref r), .val (.int ef)] [])
      refine own_by (fun _ k => XS.iload X167.here hx rfl (hb hby at_209) rfl k) ?_
      show own_Go p e below _ T167 (mkF m 211 #[.val (.int p1), .val (.int p2), .val (.int p3), .val (.int p4), .val (.int p5), .val (.int p6), .val (.int t), .val (.int (3 : Int32)), .val (.int x0), .val (.int x1), .val (.int x2), .val (.int x3), .val (.ref b159), .val (.ref r), .val (.int ef)] [(.int (3 : Int32))])
      refine own_by (fun _ k => XS.iconst X167.here hx rfl (hb hby at_211) k) ?_
      show own_Go p e below _ T167 (mkF m 212 #[.val (.int p1), .val (.int p2), .val (.int p3), .val (.int p4), .val (.int p5), .val (.int p6), .val (.int t), .val (.int (3 : Int32)), .val (.int x0), .val (.int x1), .val (.int x2), .val (.int x3), .val (.ref b159), .val (.ref r), .val (.int ef)] [(.int (2 : Int32)), (.int (3 : Int32))])
      refine own_by (fun _ k => XS.icmpNo X167.here hx rfl (hb hby at_212) rfl (flt (by decide : ¬ ((3 : Int32) < (2 : Int32)))).1 k) ?_
      show own_Go p e below _ T167 (mkF m 215 #[.val (.int p1), .val (.int p2), .val (.int p3), .val (.int p4), .val (.int p5), .val (.int p6), .val (.int t), .val (.int (3 : Int32)), .val (.int x0), .val (.int x1), .val (.int x2), .val (.int x3), .val (.ref b159), .val (.ref r), .val (.int ef)] [])
      refine own_by (fun _ k => XS.aload X167.here hx rfl (hb hby at_215) rfl rfl k) ?_
      show own_Go p e below _ T167 (mkF m 217 #[.val (.int p1), .val (.int p2), .val (.int p3), .val (.int p4), .val (.int p5), .val (.int p6), .val (.int t), .val (.int (3 : Int32)), .val (.int x0), .val (.int x1), .val (.int x2), .val (.int x3), .val (.ref b159), .val (.ref r), .val (.int ef)] [(.ref r)])
      refine own_by (fun _ k => XS.iconst X167.here hx rfl (hb hby at_217) k) ?_
      show own_Go p e below _ T167 (mkF m 218 #[.val (.int p1), .val (.int p2), .val (.int p3), .val (.int p4), .val (.int p5), .val (.int p6), .val (.int t), .val (.int (3 : Int32)), .val (.int x0), .val (.int x1), .val (.int x2), .val (.int x3), .val (.ref b159), .val (.ref r), .val (.int ef)] [(.int (1 : Int32)), (.ref r)])
      obtain ⟨cl172, Ar172, cq172, hin172, hat172, set172⟩ := own_arv Vr (j := (1 : Int32)) ⟨by decide, by decide⟩
      refine own_by (fun _ k => X167.baloadBytes hx (j := (1 : Int32)) (v := (.int x1)) Ar172.1 (State.isArrayOf_alike hZ.alike Ar172.2.1) Ar172.2.2 hin172 hat172 (g := (mkF m 218 #[.val (.int p1), .val (.int p2), .val (.int p3), .val (.int p4), .val (.int p5), .val (.int p6), .val (.int t), .val (.int (3 : Int32)), .val (.int x0), .val (.int x1), .val (.int x2), .val (.int x3), .val (.ref b159), .val (.ref r), .val (.int ef)] [(.int (1 : Int32)), (.ref r)])) rfl rfl (hb hby at_218) _ k) ?_
      show own_Go p e below _ T167 (mkF m 219 #[.val (.int p1), .val (.int p2), .val (.int p3), .val (.int p4), .val (.int p5), .val (.int p6), .val (.int t), .val (.int (3 : Int32)), .val (.int x0), .val (.int x1), .val (.int x2), .val (.int x3), .val (.ref b159), .val (.ref r), .val (.int ef)] [(.int x1)])
      refine own_by (fun _ k => XS.iload X167.here hx rfl (hb hby at_219) rfl k) ?_
      show own_Go p e below _ T167 (mkF m 221 #[.val (.int p1), .val (.int p2), .val (.int p3), .val (.int p4), .val (.int p5), .val (.int p6), .val (.int t), .val (.int (3 : Int32)), .val (.int x0), .val (.int x1), .val (.int x2), .val (.int x3), .val (.ref b159), .val (.ref r), .val (.int ef)] [(.int x1), (.int x1)])
      refine own_by (fun _ k => XS.icmpNo X167.here hx rfl (hb hby at_221) rfl (teq (rfl : x1 = x1)).2 k) ?_
      show own_Go p e below _ T167 (mkF m 224 #[.val (.int p1), .val (.int p2), .val (.int p3), .val (.int p4), .val (.int p5), .val (.int p6), .val (.int t), .val (.int (3 : Int32)), .val (.int x0), .val (.int x1), .val (.int x2), .val (.int x3), .val (.ref b159), .val (.ref r), .val (.int ef)] [])
      refine own_by (fun _ k => XS.aload X167.here hx rfl (hb hby at_224) rfl rfl k) ?_
      show own_Go p e below _ T167 (mkF m 226 #[.val (.int p1), .val (.int p2), .val (.int p3), .val (.int p4), .val (.int p5), .val (.int p6), .val (.int t), .val (.int (3 : Int32)), .val (.int x0), .val (.int x1), .val (.int x2), .val (.int x3), .val (.ref b159), .val (.ref r), .val (.int ef)] [(.ref b159)])
      refine own_by (fun _ k => XS.iconst X167.here hx rfl (hb hby at_226) k) ?_
      show own_Go p e below _ T167 (mkF m 227 #[.val (.int p1), .val (.int p2), .val (.int p3), .val (.int p4), .val (.int p5), .val (.int p6), .val (.int t), .val (.int (3 : Int32)), .val (.int x0), .val (.int x1), .val (.int x2), .val (.int x3), .val (.ref b159), .val (.ref r), .val (.int ef)] [(.int (1 : Int32)), (.ref b159)])
      obtain ⟨cl173, Ar173, cq173, hin173, hat173, set173⟩ := own_arv f171 (j := (1 : Int32)) ⟨by decide, by decide⟩
      refine own_by (fun _ k => X167.baloadBytes hx (j := (1 : Int32)) (v := (.int x1)) Ar173.1 (State.isArrayOf_alike hZ.alike Ar173.2.1) Ar173.2.2 hin173 hat173 (g := (mkF m 227 #[.val (.int p1), .val (.int p2), .val (.int p3), .val (.int p4), .val (.int p5), .val (.int p6), .val (.int t), .val (.int (3 : Int32)), .val (.int x0), .val (.int x1), .val (.int x2), .val (.int x3), .val (.ref b159), .val (.ref r), .val (.int ef)] [(.int (1 : Int32)), (.ref b159)])) rfl rfl (hb hby at_227) _ k) ?_
      show own_Go p e below _ T167 (mkF m 228 #[.val (.int p1), .val (.int p2), .val (.int p3), .val (.int p4), .val (.int p5), .val (.int p6), .val (.int t), .val (.int (3 : Int32)), .val (.int x0), .val (.int x1), .val (.int x2), .val (.int x3), .val (.ref b159), .val (.ref r), .val (.int ef)] [(.int x1)])
      refine own_by (fun _ k => XS.iload X167.here hx rfl (hb hby at_228) rfl k) ?_
      show own_Go p e below _ T167 (mkF m 230 #[.val (.int p1), .val (.int p2), .val (.int p3), .val (.int p4), .val (.int p5), .val (.int p6), .val (.int t), .val (.int (3 : Int32)), .val (.int x0), .val (.int x1), .val (.int x2), .val (.int x3), .val (.ref b159), .val (.ref r), .val (.int ef)] [(.int x1), (.int x1)])
      refine own_by (fun _ k => XS.icmpYes X167.here hx rfl (pc0 := 230) (pc' := 235) rfl (hb hby at_230) rfl (teq (rfl : x1 = x1)).1 (by decide) (by decide) k) ?_
      show own_Go p e below _ T167 (mkF m 235 #[.val (.int p1), .val (.int p2), .val (.int p3), .val (.int p4), .val (.int p5), .val (.int p6), .val (.int t), .val (.int (3 : Int32)), .val (.int x0), .val (.int x1), .val (.int x2), .val (.int x3), .val (.ref b159), .val (.ref r), .val (.int ef)] [])
      refine own_by (fun _ k => XS.iload X167.here hx rfl (hb hby at_235) rfl k) ?_
      show own_Go p e below _ T167 (mkF m 237 #[.val (.int p1), .val (.int p2), .val (.int p3), .val (.int p4), .val (.int p5), .val (.int p6), .val (.int t), .val (.int (3 : Int32)), .val (.int x0), .val (.int x1), .val (.int x2), .val (.int x3), .val (.ref b159), .val (.ref r), .val (.int ef)] [(.int (3 : Int32))])
      refine own_by (fun _ k => XS.iconst X167.here hx rfl (hb hby at_237) k) ?_
      show own_Go p e below _ T167 (mkF m 238 #[.val (.int p1), .val (.int p2), .val (.int p3), .val (.int p4), .val (.int p5), .val (.int p6), .val (.int t), .val (.int (3 : Int32)), .val (.int x0), .val (.int x1), .val (.int x2), .val (.int x3), .val (.ref b159), .val (.ref r), .val (.int ef)] [(.int (3 : Int32)), (.int (3 : Int32))])
      refine own_by (fun _ k => XS.icmpNo X167.here hx rfl (hb hby at_238) rfl (flt (by decide : ¬ ((3 : Int32) < (3 : Int32)))).1 k) ?_
      show own_Go p e below _ T167 (mkF m 241 #[.val (.int p1), .val (.int p2), .val (.int p3), .val (.int p4), .val (.int p5), .val (.int p6), .val (.int t), .val (.int (3 : Int32)), .val (.int x0), .val (.int x1), .val (.int x2), .val (.int x3), .val (.ref b159), .val (.ref r), .val (.int ef)] [])
      refine own_by (fun _ k => XS.aload X167.here hx rfl (hb hby at_241) rfl rfl k) ?_
      show own_Go p e below _ T167 (mkF m 243 #[.val (.int p1), .val (.int p2), .val (.int p3), .val (.int p4), .val (.int p5), .val (.int p6), .val (.int t), .val (.int (3 : Int32)), .val (.int x0), .val (.int x1), .val (.int x2), .val (.int x3), .val (.ref b159), .val (.ref r), .val (.int ef)] [(.ref r)])
      refine own_by (fun _ k => XS.iconst X167.here hx rfl (hb hby at_243) k) ?_
      show own_Go p e below _ T167 (mkF m 244 #[.val (.int p1), .val (.int p2), .val (.int p3), .val (.int p4), .val (.int p5), .val (.int p6), .val (.int t), .val (.int (3 : Int32)), .val (.int x0), .val (.int x1), .val (.int x2), .val (.int x3), .val (.ref b159), .val (.ref r), .val (.int ef)] [(.int (2 : Int32)), (.ref r)])
      obtain ⟨cl174, Ar174, cq174, hin174, hat174, set174⟩ := own_arv Vr (j := (2 : Int32)) ⟨by decide, by decide⟩
      refine own_by (fun _ k => X167.baloadBytes hx (j := (2 : Int32)) (v := (.int x2)) Ar174.1 (State.isArrayOf_alike hZ.alike Ar174.2.1) Ar174.2.2 hin174 hat174 (g := (mkF m 244 #[.val (.int p1), .val (.int p2), .val (.int p3), .val (.int p4), .val (.int p5), .val (.int p6), .val (.int t), .val (.int (3 : Int32)), .val (.int x0), .val (.int x1), .val (.int x2), .val (.int x3), .val (.ref b159), .val (.ref r), .val (.int ef)] [(.int (2 : Int32)), (.ref r)])) rfl rfl (hb hby at_244) _ k) ?_
      show own_Go p e below _ T167 (mkF m 245 #[.val (.int p1), .val (.int p2), .val (.int p3), .val (.int p4), .val (.int p5), .val (.int p6), .val (.int t), .val (.int (3 : Int32)), .val (.int x0), .val (.int x1), .val (.int x2), .val (.int x3), .val (.ref b159), .val (.ref r), .val (.int ef)] [(.int x2)])
      refine own_by (fun _ k => XS.iload X167.here hx rfl (hb hby at_245) rfl k) ?_
      show own_Go p e below _ T167 (mkF m 247 #[.val (.int p1), .val (.int p2), .val (.int p3), .val (.int p4), .val (.int p5), .val (.int p6), .val (.int t), .val (.int (3 : Int32)), .val (.int x0), .val (.int x1), .val (.int x2), .val (.int x3), .val (.ref b159), .val (.ref r), .val (.int ef)] [(.int x2), (.int x2)])
      refine own_by (fun _ k => XS.icmpNo X167.here hx rfl (hb hby at_247) rfl (teq (rfl : x2 = x2)).2 k) ?_
      show own_Go p e below _ T167 (mkF m 250 #[.val (.int p1), .val (.int p2), .val (.int p3), .val (.int p4), .val (.int p5), .val (.int p6), .val (.int t), .val (.int (3 : Int32)), .val (.int x0), .val (.int x1), .val (.int x2), .val (.int x3), .val (.ref b159), .val (.ref r), .val (.int ef)] [])
      refine own_by (fun _ k => XS.aload X167.here hx rfl (hb hby at_250) rfl rfl k) ?_
      show own_Go p e below _ T167 (mkF m 252 #[.val (.int p1), .val (.int p2), .val (.int p3), .val (.int p4), .val (.int p5), .val (.int p6), .val (.int t), .val (.int (3 : Int32)), .val (.int x0), .val (.int x1), .val (.int x2), .val (.int x3), .val (.ref b159), .val (.ref r), .val (.int ef)] [(.ref b159)])
      refine own_by (fun _ k => XS.iconst X167.here hx rfl (hb hby at_252) k) ?_
      show own_Go p e below _ T167 (mkF m 253 #[.val (.int p1), .val (.int p2), .val (.int p3), .val (.int p4), .val (.int p5), .val (.int p6), .val (.int t), .val (.int (3 : Int32)), .val (.int x0), .val (.int x1), .val (.int x2), .val (.int x3), .val (.ref b159), .val (.ref r), .val (.int ef)] [(.int (2 : Int32)), (.ref b159)])
      obtain ⟨cl175, Ar175, cq175, hin175, hat175, set175⟩ := own_arv f171 (j := (2 : Int32)) ⟨by decide, by decide⟩
      refine own_by (fun _ k => X167.baloadBytes hx (j := (2 : Int32)) (v := (.int x2)) Ar175.1 (State.isArrayOf_alike hZ.alike Ar175.2.1) Ar175.2.2 hin175 hat175 (g := (mkF m 253 #[.val (.int p1), .val (.int p2), .val (.int p3), .val (.int p4), .val (.int p5), .val (.int p6), .val (.int t), .val (.int (3 : Int32)), .val (.int x0), .val (.int x1), .val (.int x2), .val (.int x3), .val (.ref b159), .val (.ref r), .val (.int ef)] [(.int (2 : Int32)), (.ref b159)])) rfl rfl (hb hby at_253) _ k) ?_
      show own_Go p e below _ T167 (mkF m 254 #[.val (.int p1), .val (.int p2), .val (.int p3), .val (.int p4), .val (.int p5), .val (.int p6), .val (.int t), .val (.int (3 : Int32)), .val (.int x0), .val (.int x1), .val (.int x2), .val (.int x3), .val (.ref b159), .val (.ref r), .val (.int ef)] [(.int x2)])
      refine own_by (fun _ k => XS.iload X167.here hx rfl (hb hby at_254) rfl k) ?_
      show own_Go p e below _ T167 (mkF m 256 #[.val (.int p1), .val (.int p2), .val (.int p3), .val (.int p4), .val (.int p5), .val (.int p6), .val (.int t), .val (.int (3 : Int32)), .val (.int x0), .val (.int x1), .val (.int x2), .val (.int x3), .val (.ref b159), .val (.ref r), .val (.int ef)] [(.int x2), (.int x2)])
      refine own_by (fun _ k => XS.icmpYes X167.here hx rfl (pc0 := 256) (pc' := 261) rfl (hb hby at_256) rfl (teq (rfl : x2 = x2)).1 (by decide) (by decide) k) ?_
      show own_Go p e below _ T167 (mkF m 261 #[.val (.int p1), .val (.int p2), .val (.int p3), .val (.int p4), .val (.int p5), .val (.int p6), .val (.int t), .val (.int (3 : Int32)), .val (.int x0), .val (.int x1), .val (.int x2), .val (.int x3), .val (.ref b159), .val (.ref r), .val (.int ef)] [])
      refine own_by (fun _ k => XS.iload X167.here hx rfl (hb hby at_261) rfl k) ?_
      show own_Go p e below _ T167 (mkF m 263 #[.val (.int p1), .val (.int p2), .val (.int p3), .val (.int p4), .val (.int p5), .val (.int p6), .val (.int t), .val (.int (3 : Int32)), .val (.int x0), .val (.int x1), .val (.int x2), .val (.int x3), .val (.ref b159), .val (.ref r), .val (.int ef)] [(.int (3 : Int32))])
      refine own_by (fun _ k => XS.iconst X167.here hx rfl (hb hby at_263) k) ?_
      show own_Go p e below _ T167 (mkF m 264 #[.val (.int p1), .val (.int p2), .val (.int p3), .val (.int p4), .val (.int p5), .val (.int p6), .val (.int t), .val (.int (3 : Int32)), .val (.int x0), .val (.int x1), .val (.int x2), .val (.int x3), .val (.ref b159), .val (.ref r), .val (.int ef)] [(.int (4 : Int32)), (.int (3 : Int32))])
      refine own_by (fun _ k => XS.icmpYes X167.here hx rfl (pc0 := 264) (pc' := 287) rfl (hb hby at_264) rfl (tlt (by decide : (3 : Int32) < (4 : Int32))).1 (by decide) (by decide) k) ?_
      show own_Go p e below _ T167 (mkF m 287 #[.val (.int p1), .val (.int p2), .val (.int p3), .val (.int p4), .val (.int p5), .val (.int p6), .val (.int t), .val (.int (3 : Int32)), .val (.int x0), .val (.int x1), .val (.int x2), .val (.int x3), .val (.ref b159), .val (.ref r), .val (.int ef)] [])
      refine own_by (fun _ k => XS.iconst X167.here hx rfl (hb hby at_287) k) ?_
      show own_Go p e below _ T167 (mkF m 288 #[.val (.int p1), .val (.int p2), .val (.int p3), .val (.int p4), .val (.int p5), .val (.int p6), .val (.int t), .val (.int (3 : Int32)), .val (.int x0), .val (.int x1), .val (.int x2), .val (.int x3), .val (.ref b159), .val (.ref r), .val (.int ef)] [(.int (1 : Int32))])
      exact own_retN X167 hx hlk hret (by simp) rfl (hb hby at_288) ⟨rfl, N167⟩ (by decide) (by decide)
    by_cases hb5 : (p2 &&& (32 : Int32)) = (0 : Int32)
    · refine own_by (fun _ k => XS.ifYes X167.here hx rfl (pc0 := 144) (pc' := 158) rfl (hb hby at_144) rfl ((if0 _ _).trans (teq (hb5 : (p2 &&& (32 : Int32)) = (0 : Int32))).1) (by decide) (by decide) k) ?_
      show own_Go p e below _ T167 (mkF m 158 #[.val (.int p1), .val (.int p2), .val (.int p3), .val (.int p4), .val (.int p5), .val (.int p6), .val (.int t), .val (.int (3 : Int32)), .val (.int x0), .val (.int x1), .val (.int x2), .val (.int x3), .val (.ref b159), .val (.ref r), .unset] [])
      refine own_by (fun _ k => XS.sipush X167.here hx rfl (hb hby at_158) k) ?_
      show own_Go p e below _ T167 (mkF m 161 #[.val (.int p1), .val (.int p2), .val (.int p3), .val (.int p4), .val (.int p5), .val (.int p6), .val (.int t), .val (.int (3 : Int32)), .val (.int x0), .val (.int x1), .val (.int x2), .val (.int x3), .val (.ref b159), .val (.ref r), .unset] [(.int (128 : Int32))])
      refine own_by (fun _ k => XS.iload X167.here hx rfl (hb hby at_161) rfl k) ?_
      show own_Go p e below _ T167 (mkF m 163 #[.val (.int p1), .val (.int p2), .val (.int p3), .val (.int p4), .val (.int p5), .val (.int p6), .val (.int t), .val (.int (3 : Int32)), .val (.int x0), .val (.int x1), .val (.int x2), .val (.int x3), .val (.ref b159), .val (.ref r), .unset] [(.int t), (.int (128 : Int32))])
      refine own_by (fun _ k => XS.iadd X167.here hx rfl (hb hby at_163) rfl k) ?_
      show own_Go p e below _ T167 (mkF m 164 #[.val (.int p1), .val (.int p2), .val (.int p3), .val (.int p4), .val (.int p5), .val (.int p6), .val (.int t), .val (.int (3 : Int32)), .val (.int x0), .val (.int x1), .val (.int x2), .val (.int x3), .val (.ref b159), .val (.ref r), .unset] [(.int ((128 : Int32) + t))])
      refine own_by (fun _ k => XS.istore X167.here hx rfl (hb hby at_164) rfl (l' := #[.val (.int p1), .val (.int p2), .val (.int p3), .val (.int p4), .val (.int p5), .val (.int p6), .val (.int t), .val (.int (3 : Int32)), .val (.int x0), .val (.int x1), .val (.int x2), .val (.int x3), .val (.ref b159), .val (.ref r), .val (.int ((128 : Int32) + t))]) rfl k) ?_
      show own_Go p e below _ T167 (mkF m 166 #[.val (.int p1), .val (.int p2), .val (.int p3), .val (.int p4), .val (.int p5), .val (.int p6), .val (.int t), .val (.int (3 : Int32)), .val (.int x0), .val (.int x1), .val (.int x2), .val (.int x3), .val (.ref b159), .val (.ref r), .val (.int ((128 : Int32) + t))] [])
      exact J166 _ (by rw [hx0, own_lo, hb5, hkt]; exact own_clr kt)
    · refine own_by (fun _ k => XS.ifNo X167.here hx rfl (hb hby at_144) rfl ((if0 _ _).trans (feq (hb5 : ¬ ((p2 &&& (32 : Int32)) = (0 : Int32)))).1) k) ?_
      show own_Go p e below _ T167 (mkF m 147 #[.val (.int p1), .val (.int p2), .val (.int p3), .val (.int p4), .val (.int p5), .val (.int p6), .val (.int t), .val (.int (3 : Int32)), .val (.int x0), .val (.int x1), .val (.int x2), .val (.int x3), .val (.ref b159), .val (.ref r), .unset] [])
      refine own_by (fun _ k => XS.sipush X167.here hx rfl (hb hby at_147) k) ?_
      show own_Go p e below _ T167 (mkF m 150 #[.val (.int p1), .val (.int p2), .val (.int p3), .val (.int p4), .val (.int p5), .val (.int p6), .val (.int t), .val (.int (3 : Int32)), .val (.int x0), .val (.int x1), .val (.int x2), .val (.int x3), .val (.ref b159), .val (.ref r), .unset] [(.int (160 : Int32))])
      refine own_by (fun _ k => XS.iload X167.here hx rfl (hb hby at_150) rfl k) ?_
      show own_Go p e below _ T167 (mkF m 152 #[.val (.int p1), .val (.int p2), .val (.int p3), .val (.int p4), .val (.int p5), .val (.int p6), .val (.int t), .val (.int (3 : Int32)), .val (.int x0), .val (.int x1), .val (.int x2), .val (.int x3), .val (.ref b159), .val (.ref r), .unset] [(.int t), (.int (160 : Int32))])
      refine own_by (fun _ k => XS.iadd X167.here hx rfl (hb hby at_152) rfl k) ?_
      show own_Go p e below _ T167 (mkF m 153 #[.val (.int p1), .val (.int p2), .val (.int p3), .val (.int p4), .val (.int p5), .val (.int p6), .val (.int t), .val (.int (3 : Int32)), .val (.int x0), .val (.int x1), .val (.int x2), .val (.int x3), .val (.ref b159), .val (.ref r), .unset] [(.int ((160 : Int32) + t))])
      refine own_by (fun _ k => XS.istore X167.here hx rfl (hb hby at_153) rfl (l' := #[.val (.int p1), .val (.int p2), .val (.int p3), .val (.int p4), .val (.int p5), .val (.int p6), .val (.int t), .val (.int (3 : Int32)), .val (.int x0), .val (.int x1), .val (.int x2), .val (.int x3), .val (.ref b159), .val (.ref r), .val (.int ((160 : Int32) + t))]) rfl k) ?_
      show own_Go p e below _ T167 (mkF m 155 #[.val (.int p1), .val (.int p2), .val (.int p3), .val (.int p4), .val (.int p5), .val (.int p6), .val (.int t), .val (.int (3 : Int32)), .val (.int x0), .val (.int x1), .val (.int x2), .val (.int x3), .val (.ref b159), .val (.ref r), .val (.int ((160 : Int32) + t))] [])
      refine own_by (fun _ k => XS.goto X167.here hx rfl (pc0 := 155) (pc' := 166) rfl (hb hby at_155) (by decide) (by decide) k) ?_
      show own_Go p e below _ T167 (mkF m 166 #[.val (.int p1), .val (.int p2), .val (.int p3), .val (.int p4), .val (.int p5), .val (.int p6), .val (.int t), .val (.int (3 : Int32)), .val (.int x0), .val (.int x1), .val (.int x2), .val (.int x3), .val (.ref b159), .val (.ref r), .val (.int ((160 : Int32) + t))] [])
      exact J166 _ (by rw [hx0, own_lo, (own_b32 p2).resolve_left hb5, hkt]; exact own_set kt)
  · show own_Go p e below _ s₁ (mkF m 34 #[.val (.int p1), .val (.int p2), .val (.int p3), .val (.int p4), .val (.int p5), .val (.int p6), .val (.int t), .val (.int ((p6 &&& (3 : Int32)) + (1 : Int32))), .val (.int x0), .val (.int x1), .val (.int x2), .val (.int x3), .unset, .unset, .unset] [])
    rw [hk]
    rw [show (3 : Int32) + (1 : Int32) = (4 : Int32) from by decide]
    show own_Go p e below _ s₁ (mkF m 34 #[.val (.int p1), .val (.int p2), .val (.int p3), .val (.int p4), .val (.int p5), .val (.int p6), .val (.int t), .val (.int (4 : Int32)), .val (.int x0), .val (.int x1), .val (.int x2), .val (.int x3), .unset, .unset, .unset] [])
    refine own_by (fun _ k => XS.iload X0.here hx rfl (hb hby at_34) rfl k) ?_
    show own_Go p e below _ s₁ (mkF m 36 #[.val (.int p1), .val (.int p2), .val (.int p3), .val (.int p4), .val (.int p5), .val (.int p6), .val (.int t), .val (.int (4 : Int32)), .val (.int x0), .val (.int x1), .val (.int x2), .val (.int x3), .unset, .unset, .unset] [(.int (4 : Int32))])
    refine own_by (fun _ k => XS.iconst X0.here hx rfl (hb hby at_36) k) ?_
    show own_Go p e below _ s₁ (mkF m 37 #[.val (.int p1), .val (.int p2), .val (.int p3), .val (.int p4), .val (.int p5), .val (.int p6), .val (.int t), .val (.int (4 : Int32)), .val (.int x0), .val (.int x1), .val (.int x2), .val (.int x3), .unset, .unset, .unset] [(.int (1 : Int32)), (.int (4 : Int32))])
    refine own_by (fun _ k => XS.icmpYes X0.here hx rfl (pc0 := 37) (pc' := 53) rfl (hb hby at_37) rfl (feq (by decide : ¬ ((4 : Int32) = (1 : Int32)))).2 (by decide) (by decide) k) ?_
    show own_Go p e below _ s₁ (mkF m 53 #[.val (.int p1), .val (.int p2), .val (.int p3), .val (.int p4), .val (.int p5), .val (.int p6), .val (.int t), .val (.int (4 : Int32)), .val (.int x0), .val (.int x1), .val (.int x2), .val (.int x3), .unset, .unset, .unset] [])
    refine own_by (fun _ k => XS.iload X0.here hx rfl (hb hby at_53) rfl k) ?_
    show own_Go p e below _ s₁ (mkF m 55 #[.val (.int p1), .val (.int p2), .val (.int p3), .val (.int p4), .val (.int p5), .val (.int p6), .val (.int t), .val (.int (4 : Int32)), .val (.int x0), .val (.int x1), .val (.int x2), .val (.int x3), .unset, .unset, .unset] [(.int (4 : Int32))])
    refine own_by (fun _ k => XS.iconst X0.here hx rfl (hb hby at_55) k) ?_
    show own_Go p e below _ s₁ (mkF m 56 #[.val (.int p1), .val (.int p2), .val (.int p3), .val (.int p4), .val (.int p5), .val (.int p6), .val (.int t), .val (.int (4 : Int32)), .val (.int x0), .val (.int x1), .val (.int x2), .val (.int x3), .unset, .unset, .unset] [(.int (2 : Int32)), (.int (4 : Int32))])
    refine own_by (fun _ k => XS.icmpYes X0.here hx rfl (pc0 := 56) (pc' := 77) rfl (hb hby at_56) rfl (feq (by decide : ¬ ((4 : Int32) = (2 : Int32)))).2 (by decide) (by decide) k) ?_
    show own_Go p e below _ s₁ (mkF m 77 #[.val (.int p1), .val (.int p2), .val (.int p3), .val (.int p4), .val (.int p5), .val (.int p6), .val (.int t), .val (.int (4 : Int32)), .val (.int x0), .val (.int x1), .val (.int x2), .val (.int x3), .unset, .unset, .unset] [])
    refine own_by (fun _ k => XS.iload X0.here hx rfl (hb hby at_77) rfl k) ?_
    show own_Go p e below _ s₁ (mkF m 79 #[.val (.int p1), .val (.int p2), .val (.int p3), .val (.int p4), .val (.int p5), .val (.int p6), .val (.int t), .val (.int (4 : Int32)), .val (.int x0), .val (.int x1), .val (.int x2), .val (.int x3), .unset, .unset, .unset] [(.int (4 : Int32))])
    refine own_by (fun _ k => XS.iconst X0.here hx rfl (hb hby at_79) k) ?_
    show own_Go p e below _ s₁ (mkF m 80 #[.val (.int p1), .val (.int p2), .val (.int p3), .val (.int p4), .val (.int p5), .val (.int p6), .val (.int t), .val (.int (4 : Int32)), .val (.int x0), .val (.int x1), .val (.int x2), .val (.int x3), .unset, .unset, .unset] [(.int (3 : Int32)), (.int (4 : Int32))])
    refine own_by (fun _ k => XS.icmpYes X0.here hx rfl (pc0 := 80) (pc' := 106) rfl (hb hby at_80) rfl (feq (by decide : ¬ ((4 : Int32) = (3 : Int32)))).2 (by decide) (by decide) k) ?_
    show own_Go p e below _ s₁ (mkF m 106 #[.val (.int p1), .val (.int p2), .val (.int p3), .val (.int p4), .val (.int p5), .val (.int p6), .val (.int t), .val (.int (4 : Int32)), .val (.int x0), .val (.int x1), .val (.int x2), .val (.int x3), .unset, .unset, .unset] [])
    refine own_by (fun _ k => XS.iconst X0.here hx rfl (hb hby at_106) k) ?_
    show own_Go p e below _ s₁ (mkF m 107 #[.val (.int p1), .val (.int p2), .val (.int p3), .val (.int p4), .val (.int p5), .val (.int p6), .val (.int t), .val (.int (4 : Int32)), .val (.int x0), .val (.int x1), .val (.int x2), .val (.int x3), .unset, .unset, .unset] [(.int (4 : Int32))])
    obtain ⟨T176, h176, k176, X176, e176, E176, A176, C176, st176⟩ := newPE X0 hx hZ (hw _ (List.mem_of_getElem? (i := 1) rfl)) e0 (g := (mkF m 107 #[.val (.int p1), .val (.int p2), .val (.int p3), .val (.int p4), .val (.int p5), .val (.int p6), .val (.int t), .val (.int (4 : Int32)), .val (.int x0), .val (.int x1), .val (.int x2), .val (.int x3), .unset, .unset, .unset] [(.int (4 : Int32))])) rfl (hb hby at_107) rfl (by decide) (cap := 4) (by decide) (by decide) (by decide) (by decide) (ad := "[B") (by decide)
    obtain ⟨b176, g176⟩ : ∃ z, z = h0.size := ⟨_, rfl⟩
    rw [← g176] at A176 C176 st176
    have og_b176 : n0 ≤ b176 := Nat.le_trans Z0 (Nat.le_of_eq g176.symm)
    have Z176 : n0 ≤ h176.size := Nat.le_trans Z0 E176.1
    have V176 : Arv Z h176 b176 k176 .byte (4 : Int32) [(.int (0 : Int32)), (.int (0 : Int32)), (.int (0 : Int32)), (.int (0 : Int32))] (.int (0 : Int32)) := (Arv.new A176 (by decide)).pad (pad_rep [] (.int (0 : Int32)) 4)
    refine own_by st176 ?_
    show own_Go p e below _ T176 (mkF m 109 #[.val (.int p1), .val (.int p2), .val (.int p3), .val (.int p4), .val (.int p5), .val (.int p6), .val (.int t), .val (.int (4 : Int32)), .val (.int x0), .val (.int x1), .val (.int x2), .val (.int x3), .unset, .unset, .unset] [(.ref b176)])
    refine own_by (fun _ k => XS.dup X176.here hx rfl (hb hby at_109) rfl rfl k) ?_
    show own_Go p e below _ T176 (mkF m 110 #[.val (.int p1), .val (.int p2), .val (.int p3), .val (.int p4), .val (.int p5), .val (.int p6), .val (.int t), .val (.int (4 : Int32)), .val (.int x0), .val (.int x1), .val (.int x2), .val (.int x3), .unset, .unset, .unset] [(.ref b176), (.ref b176)])
    refine own_by (fun _ k => XS.iconst X176.here hx rfl (hb hby at_110) k) ?_
    show own_Go p e below _ T176 (mkF m 111 #[.val (.int p1), .val (.int p2), .val (.int p3), .val (.int p4), .val (.int p5), .val (.int p6), .val (.int t), .val (.int (4 : Int32)), .val (.int x0), .val (.int x1), .val (.int x2), .val (.int x3), .unset, .unset, .unset] [(.int (0 : Int32)), (.ref b176), (.ref b176)])
    refine own_by (fun _ k => XS.iload X176.here hx rfl (hb hby at_111) rfl k) ?_
    show own_Go p e below _ T176 (mkF m 113 #[.val (.int p1), .val (.int p2), .val (.int p3), .val (.int p4), .val (.int p5), .val (.int p6), .val (.int t), .val (.int (4 : Int32)), .val (.int x0), .val (.int x1), .val (.int x2), .val (.int x3), .unset, .unset, .unset] [(.int x0), (.int (0 : Int32)), (.ref b176), (.ref b176)])
    obtain ⟨cl177, Ar177, cq177, hin177, hat177, set177⟩ := own_arv V176 (j := (0 : Int32)) ⟨by decide, by decide⟩
    obtain ⟨T178, h178, X178, e178, W178, st178⟩ := stB X176 hx hZ e176 Ar177 (j := (0 : Int32)) hin177 (g := (mkF m 113 #[.val (.int p1), .val (.int p2), .val (.int p3), .val (.int p4), .val (.int p5), .val (.int p6), .val (.int t), .val (.int (4 : Int32)), .val (.int x0), .val (.int x1), .val (.int x2), .val (.int x3), .unset, .unset, .unset] [(.int x0), (.int (0 : Int32)), (.ref b176), (.ref b176)])) rfl rfl (hb hby at_113)
    have wq178 : nar .byte x0 = x0 := by rw [hx0]; exact own_nb _
    rw [wq178] at W178
    have wf178 : fits .byte (.int x0) = true := wq178 ▸ (fits_nar_byte _)
    have V178 : Arv Z h178 b176 k176 .byte (4 : Int32) [(.int x0), (.int (0 : Int32)), (.int (0 : Int32)), (.int (0 : Int32))] (.int (0 : Int32)) := set177 wf178 W178 0 rfl (Nat.le_of_ble_eq_true rfl)
    have N178 := Fr.snoc X178 N0 og_b176
    have Z178 : n0 ≤ h178.size := Nat.le_trans Z176 (Keep.of_wr W178).1
    refine own_by st178 ?_
    show own_Go p e below _ T178 (mkF m 114 #[.val (.int p1), .val (.int p2), .val (.int p3), .val (.int p4), .val (.int p5), .val (.int p6), .val (.int t), .val (.int (4 : Int32)), .val (.int x0), .val (.int x1), .val (.int x2), .val (.int x3), .unset, .unset, .unset] [(.ref b176)])
    refine own_by (fun _ k => XS.dup X178.here hx rfl (hb hby at_114) rfl rfl k) ?_
    show own_Go p e below _ T178 (mkF m 115 #[.val (.int p1), .val (.int p2), .val (.int p3), .val (.int p4), .val (.int p5), .val (.int p6), .val (.int t), .val (.int (4 : Int32)), .val (.int x0), .val (.int x1), .val (.int x2), .val (.int x3), .unset, .unset, .unset] [(.ref b176), (.ref b176)])
    refine own_by (fun _ k => XS.iconst X178.here hx rfl (hb hby at_115) k) ?_
    show own_Go p e below _ T178 (mkF m 116 #[.val (.int p1), .val (.int p2), .val (.int p3), .val (.int p4), .val (.int p5), .val (.int p6), .val (.int t), .val (.int (4 : Int32)), .val (.int x0), .val (.int x1), .val (.int x2), .val (.int x3), .unset, .unset, .unset] [(.int (1 : Int32)), (.ref b176), (.ref b176)])
    refine own_by (fun _ k => XS.iload X178.here hx rfl (hb hby at_116) rfl k) ?_
    show own_Go p e below _ T178 (mkF m 118 #[.val (.int p1), .val (.int p2), .val (.int p3), .val (.int p4), .val (.int p5), .val (.int p6), .val (.int t), .val (.int (4 : Int32)), .val (.int x0), .val (.int x1), .val (.int x2), .val (.int x3), .unset, .unset, .unset] [(.int x1), (.int (1 : Int32)), (.ref b176), (.ref b176)])
    obtain ⟨cl179, Ar179, cq179, hin179, hat179, set179⟩ := own_arv V178 (j := (1 : Int32)) ⟨by decide, by decide⟩
    obtain ⟨T180, h180, X180, e180, W180, st180⟩ := stB X178 hx hZ e178 Ar179 (j := (1 : Int32)) hin179 (g := (mkF m 118 #[.val (.int p1), .val (.int p2), .val (.int p3), .val (.int p4), .val (.int p5), .val (.int p6), .val (.int t), .val (.int (4 : Int32)), .val (.int x0), .val (.int x1), .val (.int x2), .val (.int x3), .unset, .unset, .unset] [(.int x1), (.int (1 : Int32)), (.ref b176), (.ref b176)])) rfl rfl (hb hby at_118)
    have wq180 : nar .byte x1 = x1 := by rw [hx1]; exact own_nb _
    rw [wq180] at W180
    have wf180 : fits .byte (.int x1) = true := wq180 ▸ (fits_nar_byte _)
    have V180 : Arv Z h180 b176 k176 .byte (4 : Int32) [(.int x0), (.int x1), (.int (0 : Int32)), (.int (0 : Int32))] (.int (0 : Int32)) := set179 wf180 W180 1 rfl (Nat.le_of_ble_eq_true rfl)
    have N180 := Fr.snoc X180 N178 og_b176
    have Z180 : n0 ≤ h180.size := Nat.le_trans Z178 (Keep.of_wr W180).1
    refine own_by st180 ?_
    show own_Go p e below _ T180 (mkF m 119 #[.val (.int p1), .val (.int p2), .val (.int p3), .val (.int p4), .val (.int p5), .val (.int p6), .val (.int t), .val (.int (4 : Int32)), .val (.int x0), .val (.int x1), .val (.int x2), .val (.int x3), .unset, .unset, .unset] [(.ref b176)])
    refine own_by (fun _ k => XS.dup X180.here hx rfl (hb hby at_119) rfl rfl k) ?_
    show own_Go p e below _ T180 (mkF m 120 #[.val (.int p1), .val (.int p2), .val (.int p3), .val (.int p4), .val (.int p5), .val (.int p6), .val (.int t), .val (.int (4 : Int32)), .val (.int x0), .val (.int x1), .val (.int x2), .val (.int x3), .unset, .unset, .unset] [(.ref b176), (.ref b176)])
    refine own_by (fun _ k => XS.iconst X180.here hx rfl (hb hby at_120) k) ?_
    show own_Go p e below _ T180 (mkF m 121 #[.val (.int p1), .val (.int p2), .val (.int p3), .val (.int p4), .val (.int p5), .val (.int p6), .val (.int t), .val (.int (4 : Int32)), .val (.int x0), .val (.int x1), .val (.int x2), .val (.int x3), .unset, .unset, .unset] [(.int (2 : Int32)), (.ref b176), (.ref b176)])
    refine own_by (fun _ k => XS.iload X180.here hx rfl (hb hby at_121) rfl k) ?_
    show own_Go p e below _ T180 (mkF m 123 #[.val (.int p1), .val (.int p2), .val (.int p3), .val (.int p4), .val (.int p5), .val (.int p6), .val (.int t), .val (.int (4 : Int32)), .val (.int x0), .val (.int x1), .val (.int x2), .val (.int x3), .unset, .unset, .unset] [(.int x2), (.int (2 : Int32)), (.ref b176), (.ref b176)])
    obtain ⟨cl181, Ar181, cq181, hin181, hat181, set181⟩ := own_arv V180 (j := (2 : Int32)) ⟨by decide, by decide⟩
    obtain ⟨T182, h182, X182, e182, W182, st182⟩ := stB X180 hx hZ e180 Ar181 (j := (2 : Int32)) hin181 (g := (mkF m 123 #[.val (.int p1), .val (.int p2), .val (.int p3), .val (.int p4), .val (.int p5), .val (.int p6), .val (.int t), .val (.int (4 : Int32)), .val (.int x0), .val (.int x1), .val (.int x2), .val (.int x3), .unset, .unset, .unset] [(.int x2), (.int (2 : Int32)), (.ref b176), (.ref b176)])) rfl rfl (hb hby at_123)
    have wq182 : nar .byte x2 = x2 := by rw [hx2]; exact own_nb _
    rw [wq182] at W182
    have wf182 : fits .byte (.int x2) = true := wq182 ▸ (fits_nar_byte _)
    have V182 : Arv Z h182 b176 k176 .byte (4 : Int32) [(.int x0), (.int x1), (.int x2), (.int (0 : Int32))] (.int (0 : Int32)) := set181 wf182 W182 2 rfl (Nat.le_of_ble_eq_true rfl)
    have N182 := Fr.snoc X182 N180 og_b176
    have Z182 : n0 ≤ h182.size := Nat.le_trans Z180 (Keep.of_wr W182).1
    refine own_by st182 ?_
    show own_Go p e below _ T182 (mkF m 124 #[.val (.int p1), .val (.int p2), .val (.int p3), .val (.int p4), .val (.int p5), .val (.int p6), .val (.int t), .val (.int (4 : Int32)), .val (.int x0), .val (.int x1), .val (.int x2), .val (.int x3), .unset, .unset, .unset] [(.ref b176)])
    refine own_by (fun _ k => XS.dup X182.here hx rfl (hb hby at_124) rfl rfl k) ?_
    show own_Go p e below _ T182 (mkF m 125 #[.val (.int p1), .val (.int p2), .val (.int p3), .val (.int p4), .val (.int p5), .val (.int p6), .val (.int t), .val (.int (4 : Int32)), .val (.int x0), .val (.int x1), .val (.int x2), .val (.int x3), .unset, .unset, .unset] [(.ref b176), (.ref b176)])
    refine own_by (fun _ k => XS.iconst X182.here hx rfl (hb hby at_125) k) ?_
    show own_Go p e below _ T182 (mkF m 126 #[.val (.int p1), .val (.int p2), .val (.int p3), .val (.int p4), .val (.int p5), .val (.int p6), .val (.int t), .val (.int (4 : Int32)), .val (.int x0), .val (.int x1), .val (.int x2), .val (.int x3), .unset, .unset, .unset] [(.int (3 : Int32)), (.ref b176), (.ref b176)])
    refine own_by (fun _ k => XS.iload X182.here hx rfl (hb hby at_126) rfl k) ?_
    show own_Go p e below _ T182 (mkF m 128 #[.val (.int p1), .val (.int p2), .val (.int p3), .val (.int p4), .val (.int p5), .val (.int p6), .val (.int t), .val (.int (4 : Int32)), .val (.int x0), .val (.int x1), .val (.int x2), .val (.int x3), .unset, .unset, .unset] [(.int x3), (.int (3 : Int32)), (.ref b176), (.ref b176)])
    obtain ⟨cl183, Ar183, cq183, hin183, hat183, set183⟩ := own_arv V182 (j := (3 : Int32)) ⟨by decide, by decide⟩
    obtain ⟨T184, h184, X184, e184, W184, st184⟩ := stB X182 hx hZ e182 Ar183 (j := (3 : Int32)) hin183 (g := (mkF m 128 #[.val (.int p1), .val (.int p2), .val (.int p3), .val (.int p4), .val (.int p5), .val (.int p6), .val (.int t), .val (.int (4 : Int32)), .val (.int x0), .val (.int x1), .val (.int x2), .val (.int x3), .unset, .unset, .unset] [(.int x3), (.int (3 : Int32)), (.ref b176), (.ref b176)])) rfl rfl (hb hby at_128)
    have wq184 : nar .byte x3 = x3 := by rw [hx3]; exact own_nb _
    rw [wq184] at W184
    have wf184 : fits .byte (.int x3) = true := wq184 ▸ (fits_nar_byte _)
    have V184 : Arv Z h184 b176 k176 .byte (4 : Int32) [(.int x0), (.int x1), (.int x2), (.int x3)] (.int (0 : Int32)) := set183 wf184 W184 3 rfl (Nat.le_of_ble_eq_true rfl)
    have N184 := Fr.snoc X184 N182 og_b176
    have Z184 : n0 ≤ h184.size := Nat.le_trans Z182 (Keep.of_wr W184).1
    refine own_by st184 ?_
    show own_Go p e below _ T184 (mkF m 129 #[.val (.int p1), .val (.int p2), .val (.int p3), .val (.int p4), .val (.int p5), .val (.int p6), .val (.int t), .val (.int (4 : Int32)), .val (.int x0), .val (.int x1), .val (.int x2), .val (.int x3), .unset, .unset, .unset] [(.ref b176)])
    refine own_by (fun _ k => XS.astore X184.here hx rfl (hb hby at_129) rfl rfl (l' := #[.val (.int p1), .val (.int p2), .val (.int p3), .val (.int p4), .val (.int p5), .val (.int p6), .val (.int t), .val (.int (4 : Int32)), .val (.int x0), .val (.int x1), .val (.int x2), .val (.int x3), .val (.ref b176), .unset, .unset]) rfl k) ?_
    show own_Go p e below _ T184 (mkF m 131 #[.val (.int p1), .val (.int p2), .val (.int p3), .val (.int p4), .val (.int p5), .val (.int p6), .val (.int t), .val (.int (4 : Int32)), .val (.int x0), .val (.int x1), .val (.int x2), .val (.int x3), .val (.ref b176), .unset, .unset] [])
    refine own_by (fun _ k => XS.iload X184.here hx rfl (hb hby at_131) rfl k) ?_
    show own_Go p e below _ T184 (mkF m 133 #[.val (.int p1), .val (.int p2), .val (.int p3), .val (.int p4), .val (.int p5), .val (.int p6), .val (.int t), .val (.int (4 : Int32)), .val (.int x0), .val (.int x1), .val (.int x2), .val (.int x3), .val (.ref b176), .unset, .unset] [(.int t)])
    refine own_by (fun _ k => XS.aload X184.here hx rfl (hb hby at_133) rfl rfl k) ?_
    show own_Go p e below _ T184 (mkF m 135 #[.val (.int p1), .val (.int p2), .val (.int p3), .val (.int p4), .val (.int p5), .val (.int p6), .val (.int t), .val (.int (4 : Int32)), .val (.int x0), .val (.int x1), .val (.int x2), .val (.int x3), .val (.ref b176), .unset, .unset] [(.ref b176), (.int t)])
    have f185 := ((((C176.wr W178).wr W180).wr W182).wr W184)
    obtain ⟨_, T186, L186, X186, ⟨r, rfl, N186q, Kr, sr, Vr⟩, st186⟩ := own_callS X184 hx hZ hown (y := (⟨"com/example/tabularium/tabularium/traceability/Der", "implicit", "(I[B)[B"⟩ : MethodName)) (hw _ (List.mem_of_getElem? (i := 2) rfl)) (hw _ (List.mem_of_getElem? (i := 3) rfl)) (hw _ (List.mem_of_getElem? (i := 4) rfl)) (hw _ (List.mem_of_getElem? (i := 5) rfl)) (by decide) (argsL := [(.int t), (.ref b176)]) (rest := []) e184 (rm1_4 l Z a0 hw [] t b176 k176 x0 x1 x2 x3 h184 n0 Z184 ht1 ht2 f185 V184) (g := (mkF m 135 #[.val (.int p1), .val (.int p2), .val (.int p3), .val (.int p4), .val (.int p5), .val (.int p6), .val (.int t), .val (.int (4 : Int32)), .val (.int x0), .val (.int x1), .val (.int x2), .val (.int x3), .val (.ref b176), .unset, .unset] [(.ref b176), (.int t)])) rfl (by rw [hml]; rfl) (lenOf pd_1 rfl) rfl (W := 0) (by show 2 * 0 + _ ≤ _; exact Nat.le_of_eq rfl) (hb hby at_135) (by decide) (by decide) (by decide) (by decide)
    have N186 := Fr.app N184 N186q
    refine own_by st186 ?_
    show own_Go p e below _ T186 (mkF m 138 #[.val (.int p1), .val (.int p2), .val (.int p3), .val (.int p4), .val (.int p5), .val (.int p6), .val (.int t), .val (.int (4 : Int32)), .val (.int x0), .val (.int x1), .val (.int x2), .val (.int x3), .val (.ref b176), .unset, .unset] [(.ref r)])
    have ner : b176 ≠ r := Nat.ne_of_lt (Nat.lt_of_lt_of_le V184.lt sr)
    have Z186 : n0 ≤ T186.heap.size := Nat.le_trans Z184 Kr.1
    refine own_by (fun _ k => XS.astore X186.here hx rfl (hb hby at_138) rfl rfl (l' := #[.val (.int p1), .val (.int p2), .val (.int p3), .val (.int p4), .val (.int p5), .val (.int p6), .val (.int t), .val (.int (4 : Int32)), .val (.int x0), .val (.int x1), .val (.int x2), .val (.int x3), .val (.ref b176), .val (.ref r), .unset]) rfl k) ?_
    show own_Go p e below _ T186 (mkF m 140 #[.val (.int p1), .val (.int p2), .val (.int p3), .val (.int p4), .val (.int p5), .val (.int p6), .val (.int t), .val (.int (4 : Int32)), .val (.int x0), .val (.int x1), .val (.int x2), .val (.int x3), .val (.ref b176), .val (.ref r), .unset] [])
    refine own_by (fun _ k => XS.iloadN X186.here hx rfl (hb hby at_140) rfl k) ?_
    show own_Go p e below _ T186 (mkF m 141 #[.val (.int p1), .val (.int p2), .val (.int p3), .val (.int p4), .val (.int p5), .val (.int p6), .val (.int t), .val (.int (4 : Int32)), .val (.int x0), .val (.int x1), .val (.int x2), .val (.int x3), .val (.ref b176), .val (.ref r), .unset] [(.int p2)])
    refine own_by (fun _ k => XS.bipush X186.here hx rfl (hb hby at_141) k) ?_
    show own_Go p e below _ T186 (mkF m 143 #[.val (.int p1), .val (.int p2), .val (.int p3), .val (.int p4), .val (.int p5), .val (.int p6), .val (.int t), .val (.int (4 : Int32)), .val (.int x0), .val (.int x1), .val (.int x2), .val (.int x3), .val (.ref b176), .val (.ref r), .unset] [(.int (32 : Int32)), (.int p2)])
    refine own_by (fun _ k => XS.iand X186.here hx rfl (hb hby at_143) rfl k) ?_
    show own_Go p e below _ T186 (mkF m 144 #[.val (.int p1), .val (.int p2), .val (.int p3), .val (.int p4), .val (.int p5), .val (.int p6), .val (.int t), .val (.int (4 : Int32)), .val (.int x0), .val (.int x1), .val (.int x2), .val (.int x3), .val (.ref b176), .val (.ref r), .unset] [(.int (p2 &&& (32 : Int32)))])
    have J166 : ∀ (ef : Int32) (hef : ((((128 : Int32) ||| t) ||| (x0 &&& (32 : Int32))).toInt8.toInt32) = ef.toInt8.toInt32), own_Go p e below (own_End s room_1.cells room_1.slots (Q_rm0 Z p1 p2 p3 p4 p5 p6 h0 n0)) T186 (mkF m 166 #[.val (.int p1), .val (.int p2), .val (.int p3), .val (.int p4), .val (.int p5), .val (.int p6), .val (.int t), .val (.int (4 : Int32)), .val (.int x0), .val (.int x1), .val (.int x2), .val (.int x3), .val (.ref b176), .val (.ref r), .val (.int ef)] []) := by
      intro  ef hef
      show own_Go p e below _ T186 (mkF m 166 #[.val (.int p1), .val (.int p2), .val (.int p3), .val (.int p4), .val (.int p5), .val (.int p6), .val (.int t), .val (.int (4 : Int32)), .val (.int x0), .val (.int x1), .val (.int x2), .val (.int x3), .val (.ref b176), .val (.ref r), .val (.int ef)] [])
      refine own_by (fun _ k => XS.aload X186.here hx rfl (hb hby at_166) rfl rfl k) ?_
      show own_Go p e below _ T186 (mkF m 168 #[.val (.int p1), .val (.int p2), .val (.int p3), .val (.int p4), .val (.int p5), .val (.int p6), .val (.int t), .val (.int (4 : Int32)), .val (.int x0), .val (.int x1), .val (.int x2), .val (.int x3), .val (.ref b176), .val (.ref r), .val (.int ef)] [(.ref r)])
      refine own_by (fun _ k => XS.ifnullNo X186.here hx rfl (hb hby at_168) rfl k) ?_
      show own_Go p e below _ T186 (mkF m 171 #[.val (.int p1), .val (.int p2), .val (.int p3), .val (.int p4), .val (.int p5), .val (.int p6), .val (.int t), .val (.int (4 : Int32)), .val (.int x0), .val (.int x1), .val (.int x2), .val (.int x3), .val (.ref b176), .val (.ref r), .val (.int ef)] [])
      refine own_by (fun _ k => XS.aload X186.here hx rfl (hb hby at_171) rfl rfl k) ?_
      show own_Go p e below _ T186 (mkF m 173 #[.val (.int p1), .val (.int p2), .val (.int p3), .val (.int p4), .val (.int p5), .val (.int p6), .val (.int t), .val (.int (4 : Int32)), .val (.int x0), .val (.int x1), .val (.int x2), .val (.int x3), .val (.ref b176), .val (.ref r), .val (.int ef)] [(.ref r)])
      refine own_by (fun _ k => XS.aload X186.here hx rfl (hb hby at_173) rfl rfl k) ?_
      show own_Go p e below _ T186 (mkF m 175 #[.val (.int p1), .val (.int p2), .val (.int p3), .val (.int p4), .val (.int p5), .val (.int p6), .val (.int t), .val (.int (4 : Int32)), .val (.int x0), .val (.int x1), .val (.int x2), .val (.int x3), .val (.ref b176), .val (.ref r), .val (.int ef)] [(.ref b176), (.ref r)])
      refine own_by (fun _ k => Jvm.RoadKit.acmp (g := (mkF m 175 #[.val (.int p1), .val (.int p2), .val (.int p3), .val (.int p4), .val (.int p5), .val (.int p6), .val (.int t), .val (.int (4 : Int32)), .val (.int x0), .val (.int x1), .val (.int x2), .val (.int x3), .val (.ref b176), .val (.ref r), .val (.int ef)] [(.ref b176), (.ref r)])) X186 hx rfl rfl rfl (pc0 := 175) (pc' := 178) (same := false) rfl (hb hby at_175) rfl (decide_eq_false fun q => ner.symm (Value.ref.inj q)) (by decide) (by decide) k) ?_
      show own_Go p e below _ T186 (mkF m 178 #[.val (.int p1), .val (.int p2), .val (.int p3), .val (.int p4), .val (.int p5), .val (.int p6), .val (.int t), .val (.int (4 : Int32)), .val (.int x0), .val (.int x1), .val (.int x2), .val (.int x3), .val (.ref b176), .val (.ref r), .val (.int ef)] [])
      refine own_by (fun _ k => XS.aload X186.here hx rfl (hb hby at_178) rfl rfl k) ?_
      show own_Go p e below _ T186 (mkF m 180 #[.val (.int p1), .val (.int p2), .val (.int p3), .val (.int p4), .val (.int p5), .val (.int p6), .val (.int t), .val (.int (4 : Int32)), .val (.int x0), .val (.int x1), .val (.int x2), .val (.int x3), .val (.ref b176), .val (.ref r), .val (.int ef)] [(.ref r)])
      obtain ⟨cl187, Ar187, len187⟩ := own_len Vr
      refine own_by (T' := T186) (g' := (mkF m 181 #[.val (.int p1), .val (.int p2), .val (.int p3), .val (.int p4), .val (.int p5), .val (.int p6), .val (.int t), .val (.int (4 : Int32)), .val (.int x0), .val (.int x1), .val (.int x2), .val (.int x3), .val (.ref b176), .val (.ref r), .val (.int ef)] [(.int (4 : Int32))])) (fun _ k => X186.arraylength hx Ar187.1 (State.isArrayOf_alike hZ.alike Ar187.2.1) (g := (mkF m 180 #[.val (.int p1), .val (.int p2), .val (.int p3), .val (.int p4), .val (.int p5), .val (.int p6), .val (.int t), .val (.int (4 : Int32)), .val (.int x0), .val (.int x1), .val (.int x2), .val (.int x3), .val (.ref b176), .val (.ref r), .val (.int ef)] [(.ref r)])) rfl rfl (hb hby at_180) _ (by rw [len187]; exact k)) ?_
      refine own_by (fun _ k => XS.iload X186.here hx rfl (hb hby at_181) rfl k) ?_
      show own_Go p e below _ T186 (mkF m 183 #[.val (.int p1), .val (.int p2), .val (.int p3), .val (.int p4), .val (.int p5), .val (.int p6), .val (.int t), .val (.int (4 : Int32)), .val (.int x0), .val (.int x1), .val (.int x2), .val (.int x3), .val (.ref b176), .val (.ref r), .val (.int ef)] [(.int (4 : Int32)), (.int (4 : Int32))])
      refine own_by (fun _ k => XS.icmpYes X186.here hx rfl (pc0 := 183) (pc' := 188) rfl (hb hby at_183) rfl (teq (rfl : (4 : Int32) = (4 : Int32))).1 (by decide) (by decide) k) ?_
      show own_Go p e below _ T186 (mkF m 188 #[.val (.int p1), .val (.int p2), .val (.int p3), .val (.int p4), .val (.int p5), .val (.int p6), .val (.int t), .val (.int (4 : Int32)), .val (.int x0), .val (.int x1), .val (.int x2), .val (.int x3), .val (.ref b176), .val (.ref r), .val (.int ef)] [])
      refine own_by (fun _ k => XS.aload X186.here hx rfl (hb hby at_188) rfl rfl k) ?_
      show own_Go p e below _ T186 (mkF m 190 #[.val (.int p1), .val (.int p2), .val (.int p3), .val (.int p4), .val (.int p5), .val (.int p6), .val (.int t), .val (.int (4 : Int32)), .val (.int x0), .val (.int x1), .val (.int x2), .val (.int x3), .val (.ref b176), .val (.ref r), .val (.int ef)] [(.ref r)])
      refine own_by (fun _ k => XS.iconst X186.here hx rfl (hb hby at_190) k) ?_
      show own_Go p e below _ T186 (mkF m 191 #[.val (.int p1), .val (.int p2), .val (.int p3), .val (.int p4), .val (.int p5), .val (.int p6), .val (.int t), .val (.int (4 : Int32)), .val (.int x0), .val (.int x1), .val (.int x2), .val (.int x3), .val (.ref b176), .val (.ref r), .val (.int ef)] [(.int (0 : Int32)), (.ref r)])
      obtain ⟨cl188, Ar188, cq188, hin188, hat188, set188⟩ := own_arv Vr (j := (0 : Int32)) ⟨by decide, by decide⟩
      refine own_by (fun _ k => X186.baloadBytes hx (j := (0 : Int32)) (v := (.int ((((128 : Int32) ||| t) ||| (x0 &&& (32 : Int32))).toInt8.toInt32))) Ar188.1 (State.isArrayOf_alike hZ.alike Ar188.2.1) Ar188.2.2 hin188 hat188 (g := (mkF m 191 #[.val (.int p1), .val (.int p2), .val (.int p3), .val (.int p4), .val (.int p5), .val (.int p6), .val (.int t), .val (.int (4 : Int32)), .val (.int x0), .val (.int x1), .val (.int x2), .val (.int x3), .val (.ref b176), .val (.ref r), .val (.int ef)] [(.int (0 : Int32)), (.ref r)])) rfl rfl (hb hby at_191) _ k) ?_
      show own_Go p e below _ T186 (mkF m 192 #[.val (.int p1), .val (.int p2), .val (.int p3), .val (.int p4), .val (.int p5), .val (.int p6), .val (.int t), .val (.int (4 : Int32)), .val (.int x0), .val (.int x1), .val (.int x2), .val (.int x3), .val (.ref b176), .val (.ref r), .val (.int ef)] [(.int ((((128 : Int32) ||| t) ||| (x0 &&& (32 : Int32))).toInt8.toInt32))])
      refine own_by (fun _ k => XS.iload X186.here hx rfl (hb hby at_192) rfl k) ?_
      show own_Go p e below _ T186 (mkF m 194 #[.val (.int p1), .val (.int p2), .val (.int p3), .val (.int p4), .val (.int p5), .val (.int p6), .val (.int t), .val (.int (4 : Int32)), .val (.int x0), .val (.int x1), .val (.int x2), .val (.int x3), .val (.ref b176), .val (.ref r), .val (.int ef)] [(.int ef), (.int ((((128 : Int32) ||| t) ||| (x0 &&& (32 : Int32))).toInt8.toInt32))])
      refine own_by (fun _ k => XS.i2b X186.here hx rfl (hb hby at_194) rfl k) ?_
      show own_Go p e below _ T186 (mkF m 195 #[.val (.int p1), .val (.int p2), .val (.int p3), .val (.int p4), .val (.int p5), .val (.int p6), .val (.int t), .val (.int (4 : Int32)), .val (.int x0), .val (.int x1), .val (.int x2), .val (.int x3), .val (.ref b176), .val (.ref r), .val (.int ef)] [(.int (ef.toInt8.toInt32)), (.int ((((128 : Int32) ||| t) ||| (x0 &&& (32 : Int32))).toInt8.toInt32))])
      refine own_by (fun _ k => XS.icmpNo X186.here hx rfl (hb hby at_195) rfl (teq (hef : ((((128 : Int32) ||| t) ||| (x0 &&& (32 : Int32))).toInt8.toInt32) = (ef.toInt8.toInt32))).2 k) ?_
      show own_Go p e below _ T186 (mkF m 198 #[.val (.int p1), .val (.int p2), .val (.int p3), .val (.int p4), .val (.int p5), .val (.int p6), .val (.int t), .val (.int (4 : Int32)), .val (.int x0), .val (.int x1), .val (.int x2), .val (.int x3), .val (.ref b176), .val (.ref r), .val (.int ef)] [])
      refine own_by (fun _ k => XS.aload X186.here hx rfl (hb hby at_198) rfl rfl k) ?_
      show own_Go p e below _ T186 (mkF m 200 #[.val (.int p1), .val (.int p2), .val (.int p3), .val (.int p4), .val (.int p5), .val (.int p6), .val (.int t), .val (.int (4 : Int32)), .val (.int x0), .val (.int x1), .val (.int x2), .val (.int x3), .val (.ref b176), .val (.ref r), .val (.int ef)] [(.ref b176)])
      refine own_by (fun _ k => XS.iconst X186.here hx rfl (hb hby at_200) k) ?_
      show own_Go p e below _ T186 (mkF m 201 #[.val (.int p1), .val (.int p2), .val (.int p3), .val (.int p4), .val (.int p5), .val (.int p6), .val (.int t), .val (.int (4 : Int32)), .val (.int x0), .val (.int x1), .val (.int x2), .val (.int x3), .val (.ref b176), .val (.ref r), .val (.int ef)] [(.int (0 : Int32)), (.ref b176)])
      have f190 := (V184.keep Kr nin0)
      obtain ⟨cl189, Ar189, cq189, hin189, hat189, set189⟩ := own_arv f190 (j := (0 : Int32)) ⟨by decide, by decide⟩
      refine own_by (fun _ k => X186.baloadBytes hx (j := (0 : Int32)) (v := (.int x0)) Ar189.1 (State.isArrayOf_alike hZ.alike Ar189.2.1) Ar189.2.2 hin189 hat189 (g := (mkF m 201 #[.val (.int p1), .val (.int p2), .val (.int p3), .val (.int p4), .val (.int p5), .val (.int p6), .val (.int t), .val (.int (4 : Int32)), .val (.int x0), .val (.int x1), .val (.int x2), .val (.int x3), .val (.ref b176), .val (.ref r), .val (.int ef)] [(.int (0 : Int32)), (.ref b176)])) rfl rfl (hb hby at_201) _ k) ?_
      show own_Go p e below _ T186 (mkF m 202 #[.val (.int p1), .val (.int p2), .val (.int p3), .val (.int p4), .val (.int p5), .val (.int p6), .val (.int t), .val (.int (4 : Int32)), .val (.int x0), .val (.int x1), .val (.int x2), .val (.int x3), .val (.ref b176), .val (.ref r), .val (.int ef)] [(.int x0)])
      refine own_by (fun _ k => XS.iload X186.here hx rfl (hb hby at_202) rfl k) ?_
      show own_Go p e below _ T186 (mkF m 204 #[.val (.int p1), .val (.int p2), .val (.int p3), .val (.int p4), .val (.int p5), .val (.int p6), .val (.int t), .val (.int (4 : Int32)), .val (.int x0), .val (.int x1), .val (.int x2), .val (.int x3), .val (.ref b176), .val (.ref r), .val (.int ef)] [(.int x0), (.int x0)])
      refine own_by (fun _ k => XS.icmpYes X186.here hx rfl (pc0 := 204) (pc' := 209) rfl (hb hby at_204) rfl (teq (rfl : x0 = x0)).1 (by decide) (by decide) k) ?_
      show own_Go p e below _ T186 (mkF m 209 #[.val (.int p1), .val (.int p2), .val (.int p3), .val (.int p4), .val (.int p5), .val (.int p6), .val (.int t), .val (.int (4 : Int32)), .val (.int x0), .val (.int x1), .val (.int x2), .val (.int x3), .val (.ref b176), .val (.ref r), .val (.int ef)] [])
      refine own_by (fun _ k => XS.iload X186.here hx rfl (hb hby at_209) rfl k) ?_
      show own_Go p e below _ T186 (mkF m 211 #[.val (.int p1), .val (.int p2), .val (.int p3), .val (.int p4), .val (.int p5), .val (.int p6), .val (.int t), .val (.int (4 : Int32)), .val (.int x0), .val (.int x1), .val (.int x2), .val (.int x3), .val (.ref b176), .val (.ref r), .val (.int ef)] [(.int (4 : Int32))])
      refine own_by (fun _ k => XS.iconst X186.here hx rfl (hb hby at_211) k) ?_
      show own_Go p e below _ T186 (mkF m 212 #[.val (.int p1), .val (.int p2), .val (.int p3), .val (.int p4), .val (.int p5), .val (.int p6), .val (.int t), .val (.int (4 : Int32)), .val (.int x0), .val (.int x1), .val (.int x2), .val (.int x3), .val (.ref b176), .val (.ref r), .val (.int ef)] [(.int (2 : Int32)), (.int (4 : Int32))])
      refine own_by (fun _ k => XS.icmpNo X186.here hx rfl (hb hby at_212) rfl (flt (by decide : ¬ ((4 : Int32) < (2 : Int32)))).1 k) ?_
      show own_Go p e below _ T186 (mkF m 215 #[.val (.int p1), .val (.int p2), .val (.int p3), .val (.int p4), .val (.int p5), .val (.int p6), .val (.int t), .val (.int (4 : Int32)), .val (.int x0), .val (.int x1), .val (.int x2), .val (.int x3), .val (.ref b176), .val (.ref r), .val (.int ef)] [])
      refine own_by (fun _ k => XS.aload X186.here hx rfl (hb hby at_215) rfl rfl k) ?_
      show own_Go p e below _ T186 (mkF m 217 #[.val (.int p1), .val (.int p2), .val (.int p3), .val (.int p4), .val (.int p5), .val (.int p6), .val (.int t), .val (.int (4 : Int32)), .val (.int x0), .val (.int x1), .val (.int x2), .val (.int x3), .val (.ref b176), .val (.ref r), .val (.int ef)] [(.ref r)])
      refine own_by (fun _ k => XS.iconst X186.here hx rfl (hb hby at_217) k) ?_
      show own_Go p e below _ T186 (mkF m 218 #[.val (.int p1), .val (.int p2), .val (.int p3), .val (.int p4), .val (.int p5), .val (.int p6), .val (.int t), .val (.int (4 : Int32)), .val (.int x0), .val (.int x1), .val (.int x2), .val (.int x3), .val (.ref b176), .val (.ref r), .val (.int ef)] [(.int (1 : Int32)), (.ref r)])
      obtain ⟨cl191, Ar191, cq191, hin191, hat191, set191⟩ := own_arv Vr (j := (1 : Int32)) ⟨by decide, by decide⟩
      refine own_by (fun _ k => X186.baloadBytes hx (j := (1 : Int32)) (v := (.int x1)) Ar191.1 (State.isArrayOf_alike hZ.alike Ar191.2.1) Ar191.2.2 hin191 hat191 (g := (mkF m 218 #[.val (.int p1), .val (.int p2), .val (.int p3), .val (.int p4), .val (.int p5), .val (.int p6), .val (.int t), .val (.int (4 : Int32)), .val (.int x0), .val (.int x1), .val (.int x2), .val (.int x3), .val (.ref b176), .val (.ref r), .val (.int ef)] [(.int (1 : Int32)), (.ref r)])) rfl rfl (hb hby at_218) _ k) ?_
      show own_Go p e below _ T186 (mkF m 219 #[.val (.int p1), .val (.int p2), .val (.int p3), .val (.int p4), .val (.int p5), .val (.int p6), .val (.int t), .val (.int (4 : Int32)), .val (.int x0), .val (.int x1), .val (.int x2), .val (.int x3), .val (.ref b176), .val (.ref r), .val (.int ef)] [(.int x1)])
      refine own_by (fun _ k => XS.iload X186.here hx rfl (hb hby at_219) rfl k) ?_
      show own_Go p e below _ T186 (mkF m 221 #[.val (.int p1), .val (.int p2), .val (.int p3), .val (.int p4), .val (.int p5), .val (.int p6), .val (.int t), .val (.int (4 : Int32)), .val (.int x0), .val (.int x1), .val (.int x2), .val (.int x3), .val (.ref b176), .val (.ref r), .val (.int ef)] [(.int x1), (.int x1)])
      refine own_by (fun _ k => XS.icmpNo X186.here hx rfl (hb hby at_221) rfl (teq (rfl : x1 = x1)).2 k) ?_
      show own_Go p e below _ T186 (mkF m 224 #[.val (.int p1), .val (.int p2), .val (.int p3), .val (.int p4), .val (.int p5), .val (.int p6), .val (.int t), .val (.int (4 : Int32)), .val (.int x0), .val (.int x1), .val (.int x2), .val (.int x3), .val (.ref b176), .val (.ref r), .val (.int ef)] [])
      refine own_by (fun _ k => XS.aload X186.here hx rfl (hb hby at_224) rfl rfl k) ?_
      show own_Go p e below _ T186 (mkF m 226 #[.val (.int p1), .val (.int p2), .val (.int p3), .val (.int p4), .val (.int p5), .val (.int p6), .val (.int t), .val (.int (4 : Int32)), .val (.int x0), .val (.int x1), .val (.int x2), .val (.int x3), .val (.ref b176), .val (.ref r), .val (.int ef)] [(.ref b176)])
      refine own_by (fun _ k => XS.iconst X186.here hx rfl (hb hby at_226) k) ?_
      show own_Go p e below _ T186 (mkF m 227 #[.val (.int p1), .val (.int p2), .val (.int p3), .val (.int p4), .val (.int p5), .val (.int p6), .val (.int t), .val (.int (4 : Int32)), .val (.int x0), .val (.int x1), .val (.int x2), .val (.int x3), .val (.ref b176), .val (.ref r), .val (.int ef)] [(.int (1 : Int32)), (.ref b176)])
      obtain ⟨cl192, Ar192, cq192, hin192, hat192, set192⟩ := own_arv f190 (j := (1 : Int32)) ⟨by decide, by decide⟩
      refine own_by (fun _ k => X186.baloadBytes hx (j := (1 : Int32)) (v := (.int x1)) Ar192.1 (State.isArrayOf_alike hZ.alike Ar192.2.1) Ar192.2.2 hin192 hat192 (g := (mkF m 227 #[.val (.int p1), .val (.int p2), .val (.int p3), .val (.int p4), .val (.int p5), .val (.int p6), .val (.int t), .val (.int (4 : Int32)), .val (.int x0), .val (.int x1), .val (.int x2), .val (.int x3), .val (.ref b176), .val (.ref r), .val (.int ef)] [(.int (1 : Int32)), (.ref b176)])) rfl rfl (hb hby at_227) _ k) ?_
      show own_Go p e below _ T186 (mkF m 228 #[.val (.int p1), .val (.int p2), .val (.int p3), .val (.int p4), .val (.int p5), .val (.int p6), .val (.int t), .val (.int (4 : Int32)), .val (.int x0), .val (.int x1), .val (.int x2), .val (.int x3), .val (.ref b176), .val (.ref r), .val (.int ef)] [(.int x1)])
      refine own_by (fun _ k => XS.iload X186.here hx rfl (hb hby at_228) rfl k) ?_
      show own_Go p e below _ T186 (mkF m 230 #[.val (.int p1), .val (.int p2), .val (.int p3), .val (.int p4), .val (.int p5), .val (.int p6), .val (.int t), .val (.int (4 : Int32)), .val (.int x0), .val (.int x1), .val (.int x2), .val (.int x3), .val (.ref b176), .val (.ref r), .val (.int ef)] [(.int x1), (.int x1)])
      refine own_by (fun _ k => XS.icmpYes X186.here hx rfl (pc0 := 230) (pc' := 235) rfl (hb hby at_230) rfl (teq (rfl : x1 = x1)).1 (by decide) (by decide) k) ?_
      show own_Go p e below _ T186 (mkF m 235 #[.val (.int p1), .val (.int p2), .val (.int p3), .val (.int p4), .val (.int p5), .val (.int p6), .val (.int t), .val (.int (4 : Int32)), .val (.int x0), .val (.int x1), .val (.int x2), .val (.int x3), .val (.ref b176), .val (.ref r), .val (.int ef)] [])
      refine own_by (fun _ k => XS.iload X186.here hx rfl (hb hby at_235) rfl k) ?_
      show own_Go p e below _ T186 (mkF m 237 #[.val (.int p1), .val (.int p2), .val (.int p3), .val (.int p4), .val (.int p5), .val (.int p6), .val (.int t), .val (.int (4 : Int32)), .val (.int x0), .val (.int x1), .val (.int x2), .val (.int x3), .val (.ref b176), .val (.ref r), .val (.int ef)] [(.int (4 : Int32))])
      refine own_by (fun _ k => XS.iconst X186.here hx rfl (hb hby at_237) k) ?_
      show own_Go p e below _ T186 (mkF m 238 #[.val (.int p1), .val (.int p2), .val (.int p3), .val (.int p4), .val (.int p5), .val (.int p6), .val (.int t), .val (.int (4 : Int32)), .val (.int x0), .val (.int x1), .val (.int x2), .val (.int x3), .val (.ref b176), .val (.ref r), .val (.int ef)] [(.int (3 : Int32)), (.int (4 : Int32))])
      refine own_by (fun _ k => XS.icmpNo X186.here hx rfl (hb hby at_238) rfl (flt (by decide : ¬ ((4 : Int32) < (3 : Int32)))).1 k) ?_
      show own_Go p e below _ T186 (mkF m 241 #[.val (.int p1), .val (.int p2), .val (.int p3), .val (.int p4), .val (.int p5), .val (.int p6), .val (.int t), .val (.int (4 : Int32)), .val (.int x0), .val (.int x1), .val (.int x2), .val (.int x3), .val (.ref b176), .val (.ref r), .val (.int ef)] [])
      refine own_by (fun _ k => XS.aload X186.here hx rfl (hb hby at_241) rfl rfl k) ?_
      show own_Go p e below _ T186 (mkF m 243 #[.val (.int p1), .val (.int p2), .val (.int p3), .val (.int p4), .val (.int p5), .val (.int p6), .val (.int t), .val (.int (4 : Int32)), .val (.int x0), .val (.int x1), .val (.int x2), .val (.int x3), .val (.ref b176), .val (.ref r), .val (.int ef)] [(.ref r)])
      refine own_by (fun _ k => XS.iconst X186.here hx rfl (hb hby at_243) k) ?_
      show own_Go p e below _ T186 (mkF m 244 #[.val (.int p1), .val (.int p2), .val (.int p3), .val (.int p4), .val (.int p5), .val (.int p6), .val (.int t), .val (.int (4 : Int32)), .val (.int x0), .val (.int x1), .val (.int x2), .val (.int x3), .val (.ref b176), .val (.ref r), .val (.int ef)] [(.int (2 : Int32)), (.ref r)])
      obtain ⟨cl193, Ar193, cq193, hin193, hat193, set193⟩ := own_arv Vr (j := (2 : Int32)) ⟨by decide, by decide⟩
      refine own_by (fun _ k => X186.baloadBytes hx (j := (2 : Int32)) (v := (.int x2)) Ar193.1 (State.isArrayOf_alike hZ.alike Ar193.2.1) Ar193.2.2 hin193 hat193 (g := (mkF m 244 #[.val (.int p1), .val (.int p2), .val (.int p3), .val (.int p4), .val (.int p5), .val (.int p6), .val (.int t), .val (.int (4 : Int32)), .val (.int x0), .val (.int x1), .val (.int x2), .val (.int x3), .val (.ref b176), .val (.ref r), .val (.int ef)] [(.int (2 : Int32)), (.ref r)])) rfl rfl (hb hby at_244) _ k) ?_
      show own_Go p e below _ T186 (mkF m 245 #[.val (.int p1), .val (.int p2), .val (.int p3), .val (.int p4), .val (.int p5), .val (.int p6), .val (.int t), .val (.int (4 : Int32)), .val (.int x0), .val (.int x1), .val (.int x2), .val (.int x3), .val (.ref b176), .val (.ref r), .val (.int ef)] [(.int x2)])
      refine own_by (fun _ k => XS.iload X186.here hx rfl (hb hby at_245) rfl k) ?_
      show own_Go p e below _ T186 (mkF m 247 #[.val (.int p1), .val (.int p2), .val (.int p3), .val (.int p4), .val (.int p5), .val (.int p6), .val (.int t), .val (.int (4 : Int32)), .val (.int x0), .val (.int x1), .val (.int x2), .val (.int x3), .val (.ref b176), .val (.ref r), .val (.int ef)] [(.int x2), (.int x2)])
      refine own_by (fun _ k => XS.icmpNo X186.here hx rfl (hb hby at_247) rfl (teq (rfl : x2 = x2)).2 k) ?_
      show own_Go p e below _ T186 (mkF m 250 #[.val (.int p1), .val (.int p2), .val (.int p3), .val (.int p4), .val (.int p5), .val (.int p6), .val (.int t), .val (.int (4 : Int32)), .val (.int x0), .val (.int x1), .val (.int x2), .val (.int x3), .val (.ref b176), .val (.ref r), .val (.int ef)] [])
      refine own_by (fun _ k => XS.aload X186.here hx rfl (hb hby at_250) rfl rfl k) ?_
      show own_Go p e below _ T186 (mkF m 252 #[.val (.int p1), .val (.int p2), .val (.int p3), .val (.int p4), .val (.int p5), .val (.int p6), .val (.int t), .val (.int (4 : Int32)), .val (.int x0), .val (.int x1), .val (.int x2), .val (.int x3), .val (.ref b176), .val (.ref r), .val (.int ef)] [(.ref b176)])
      refine own_by (fun _ k => XS.iconst X186.here hx rfl (hb hby at_252) k) ?_
      show own_Go p e below _ T186 (mkF m 253 #[.val (.int p1), .val (.int p2), .val (.int p3), .val (.int p4), .val (.int p5), .val (.int p6), .val (.int t), .val (.int (4 : Int32)), .val (.int x0), .val (.int x1), .val (.int x2), .val (.int x3), .val (.ref b176), .val (.ref r), .val (.int ef)] [(.int (2 : Int32)), (.ref b176)])
      obtain ⟨cl194, Ar194, cq194, hin194, hat194, set194⟩ := own_arv f190 (j := (2 : Int32)) ⟨by decide, by decide⟩
      refine own_by (fun _ k => X186.baloadBytes hx (j := (2 : Int32)) (v := (.int x2)) Ar194.1 (State.isArrayOf_alike hZ.alike Ar194.2.1) Ar194.2.2 hin194 hat194 (g := (mkF m 253 #[.val (.int p1), .val (.int p2), .val (.int p3), .val (.int p4), .val (.int p5), .val (.int p6), .val (.int t), .val (.int (4 : Int32)), .val (.int x0), .val (.int x1), .val (.int x2), .val (.int x3), .val (.ref b176), .val (.ref r), .val (.int ef)] [(.int (2 : Int32)), (.ref b176)])) rfl rfl (hb hby at_253) _ k) ?_
      show own_Go p e below _ T186 (mkF m 254 #[.val (.int p1), .val (.int p2), .val (.int p3), .val (.int p4), .val (.int p5), .val (.int p6), .val (.int t), .val (.int (4 : Int32)), .val (.int x0), .val (.int x1), .val (.int x2), .val (.int x3), .val (.ref b176), .val (.ref r), .val (.int ef)] [(.int x2)])
      refine own_by (fun _ k => XS.iload X186.here hx rfl (hb hby at_254) rfl k) ?_
      show own_Go p e below _ T186 (mkF m 256 #[.val (.int p1), .val (.int p2), .val (.int p3), .val (.int p4), .val (.int p5), .val (.int p6), .val (.int t), .val (.int (4 : Int32)), .val (.int x0), .val (.int x1), .val (.int x2), .val (.int x3), .val (.ref b176), .val (.ref r), .val (.int ef)] [(.int x2), (.int x2)])
      refine own_by (fun _ k => XS.icmpYes X186.here hx rfl (pc0 := 256) (pc' := 261) rfl (hb hby at_256) rfl (teq (rfl : x2 = x2)).1 (by decide) (by decide) k) ?_
      show own_Go p e below _ T186 (mkF m 261 #[.val (.int p1), .val (.int p2), .val (.int p3), .val (.int p4), .val (.int p5), .val (.int p6), .val (.int t), .val (.int (4 : Int32)), .val (.int x0), .val (.int x1), .val (.int x2), .val (.int x3), .val (.ref b176), .val (.ref r), .val (.int ef)] [])
      refine own_by (fun _ k => XS.iload X186.here hx rfl (hb hby at_261) rfl k) ?_
      show own_Go p e below _ T186 (mkF m 263 #[.val (.int p1), .val (.int p2), .val (.int p3), .val (.int p4), .val (.int p5), .val (.int p6), .val (.int t), .val (.int (4 : Int32)), .val (.int x0), .val (.int x1), .val (.int x2), .val (.int x3), .val (.ref b176), .val (.ref r), .val (.int ef)] [(.int (4 : Int32))])
      refine own_by (fun _ k => XS.iconst X186.here hx rfl (hb hby at_263) k) ?_
      show own_Go p e below _ T186 (mkF m 264 #[.val (.int p1), .val (.int p2), .val (.int p3), .val (.int p4), .val (.int p5), .val (.int p6), .val (.int t), .val (.int (4 : Int32)), .val (.int x0), .val (.int x1), .val (.int x2), .val (.int x3), .val (.ref b176), .val (.ref r), .val (.int ef)] [(.int (4 : Int32)), (.int (4 : Int32))])
      refine own_by (fun _ k => XS.icmpNo X186.here hx rfl (hb hby at_264) rfl (flt (by decide : ¬ ((4 : Int32) < (4 : Int32)))).1 k) ?_
      show own_Go p e below _ T186 (mkF m 267 #[.val (.int p1), .val (.int p2), .val (.int p3), .val (.int p4), .val (.int p5), .val (.int p6), .val (.int t), .val (.int (4 : Int32)), .val (.int x0), .val (.int x1), .val (.int x2), .val (.int x3), .val (.ref b176), .val (.ref r), .val (.int ef)] [])
      refine own_by (fun _ k => XS.aload X186.here hx rfl (hb hby at_267) rfl rfl k) ?_
      show own_Go p e below _ T186 (mkF m 269 #[.val (.int p1), .val (.int p2), .val (.int p3), .val (.int p4), .val (.int p5), .val (.int p6), .val (.int t), .val (.int (4 : Int32)), .val (.int x0), .val (.int x1), .val (.int x2), .val (.int x3), .val (.ref b176), .val (.ref r), .val (.int ef)] [(.ref r)])
      refine own_by (fun _ k => XS.iconst X186.here hx rfl (hb hby at_269) k) ?_
      show own_Go p e below _ T186 (mkF m 270 #[.val (.int p1), .val (.int p2), .val (.int p3), .val (.int p4), .val (.int p5), .val (.int p6), .val (.int t), .val (.int (4 : Int32)), .val (.int x0), .val (.int x1), .val (.int x2), .val (.int x3), .val (.ref b176), .val (.ref r), .val (.int ef)] [(.int (3 : Int32)), (.ref r)])
      obtain ⟨cl195, Ar195, cq195, hin195, hat195, set195⟩ := own_arv Vr (j := (3 : Int32)) ⟨by decide, by decide⟩
      refine own_by (fun _ k => X186.baloadBytes hx (j := (3 : Int32)) (v := (.int x3)) Ar195.1 (State.isArrayOf_alike hZ.alike Ar195.2.1) Ar195.2.2 hin195 hat195 (g := (mkF m 270 #[.val (.int p1), .val (.int p2), .val (.int p3), .val (.int p4), .val (.int p5), .val (.int p6), .val (.int t), .val (.int (4 : Int32)), .val (.int x0), .val (.int x1), .val (.int x2), .val (.int x3), .val (.ref b176), .val (.ref r), .val (.int ef)] [(.int (3 : Int32)), (.ref r)])) rfl rfl (hb hby at_270) _ k) ?_
      show own_Go p e below _ T186 (mkF m 271 #[.val (.int p1), .val (.int p2), .val (.int p3), .val (.int p4), .val (.int p5), .val (.int p6), .val (.int t), .val (.int (4 : Int32)), .val (.int x0), .val (.int x1), .val (.int x2), .val (.int x3), .val (.ref b176), .val (.ref r), .val (.int ef)] [(.int x3)])
      refine own_by (fun _ k => XS.iload X186.here hx rfl (hb hby at_271) rfl k) ?_
      show own_Go p e below _ T186 (mkF m 273 #[.val (.int p1), .val (.int p2), .val (.int p3), .val (.int p4), .val (.int p5), .val (.int p6), .val (.int t), .val (.int (4 : Int32)), .val (.int x0), .val (.int x1), .val (.int x2), .val (.int x3), .val (.ref b176), .val (.ref r), .val (.int ef)] [(.int x3), (.int x3)])
      refine own_by (fun _ k => XS.icmpNo X186.here hx rfl (hb hby at_273) rfl (teq (rfl : x3 = x3)).2 k) ?_
      show own_Go p e below _ T186 (mkF m 276 #[.val (.int p1), .val (.int p2), .val (.int p3), .val (.int p4), .val (.int p5), .val (.int p6), .val (.int t), .val (.int (4 : Int32)), .val (.int x0), .val (.int x1), .val (.int x2), .val (.int x3), .val (.ref b176), .val (.ref r), .val (.int ef)] [])
      refine own_by (fun _ k => XS.aload X186.here hx rfl (hb hby at_276) rfl rfl k) ?_
      show own_Go p e below _ T186 (mkF m 278 #[.val (.int p1), .val (.int p2), .val (.int p3), .val (.int p4), .val (.int p5), .val (.int p6), .val (.int t), .val (.int (4 : Int32)), .val (.int x0), .val (.int x1), .val (.int x2), .val (.int x3), .val (.ref b176), .val (.ref r), .val (.int ef)] [(.ref b176)])
      refine own_by (fun _ k => XS.iconst X186.here hx rfl (hb hby at_278) k) ?_
      show own_Go p e below _ T186 (mkF m 279 #[.val (.int p1), .val (.int p2), .val (.int p3), .val (.int p4), .val (.int p5), .val (.int p6), .val (.int t), .val (.int (4 : Int32)), .val (.int x0), .val (.int x1), .val (.int x2), .val (.int x3), .val (.ref b176), .val (.ref r), .val (.int ef)] [(.int (3 : Int32)), (.ref b176)])
      obtain ⟨cl196, Ar196, cq196, hin196, hat196, set196⟩ := own_arv f190 (j := (3 : Int32)) ⟨by decide, by decide⟩
      refine own_by (fun _ k => X186.baloadBytes hx (j := (3 : Int32)) (v := (.int x3)) Ar196.1 (State.isArrayOf_alike hZ.alike Ar196.2.1) Ar196.2.2 hin196 hat196 (g := (mkF m 279 #[.val (.int p1), .val (.int p2), .val (.int p3), .val (.int p4), .val (.int p5), .val (.int p6), .val (.int t), .val (.int (4 : Int32)), .val (.int x0), .val (.int x1), .val (.int x2), .val (.int x3), .val (.ref b176), .val (.ref r), .val (.int ef)] [(.int (3 : Int32)), (.ref b176)])) rfl rfl (hb hby at_279) _ k) ?_
      show own_Go p e below _ T186 (mkF m 280 #[.val (.int p1), .val (.int p2), .val (.int p3), .val (.int p4), .val (.int p5), .val (.int p6), .val (.int t), .val (.int (4 : Int32)), .val (.int x0), .val (.int x1), .val (.int x2), .val (.int x3), .val (.ref b176), .val (.ref r), .val (.int ef)] [(.int x3)])
      refine own_by (fun _ k => XS.iload X186.here hx rfl (hb hby at_280) rfl k) ?_
      show own_Go p e below _ T186 (mkF m 282 #[.val (.int p1), .val (.int p2), .val (.int p3), .val (.int p4), .val (.int p5), .val (.int p6), .val (.int t), .val (.int (4 : Int32)), .val (.int x0), .val (.int x1), .val (.int x2), .val (.int x3), .val (.ref b176), .val (.ref r), .val (.int ef)] [(.int x3), (.int x3)])
      refine own_by (fun _ k => XS.icmpYes X186.here hx rfl (pc0 := 282) (pc' := 287) rfl (hb hby at_282) rfl (teq (rfl : x3 = x3)).1 (by decide) (by decide) k) ?_
      show own_Go p e below _ T186 (mkF m 287 #[.val (.int p1), .val (.int p2), .val (.int p3), .val (.int p4), .val (.int p5), .val (.int p6), .val (.int t), .val (.int (4 : Int32)), .val (.int x0), .val (.int x1), .val (.int x2), .val (.int x3), .val (.ref b176), .val (.ref r), .val (.int ef)] [])
      refine own_by (fun _ k => XS.iconst X186.here hx rfl (hb hby at_287) k) ?_
      show own_Go p e below _ T186 (mkF m 288 #[.val (.int p1), .val (.int p2), .val (.int p3), .val (.int p4), .val (.int p5), .val (.int p6), .val (.int t), .val (.int (4 : Int32)), .val (.int x0), .val (.int x1), .val (.int x2), .val (.int x3), .val (.ref b176), .val (.ref r), .val (.int ef)] [(.int (1 : Int32))])
      exact own_retN X186 hx hlk hret (by simp) rfl (hb hby at_288) ⟨rfl, N186⟩ (by decide) (by decide)
    by_cases hb5 : (p2 &&& (32 : Int32)) = (0 : Int32)
    · refine own_by (fun _ k => XS.ifYes X186.here hx rfl (pc0 := 144) (pc' := 158) rfl (hb hby at_144) rfl ((if0 _ _).trans (teq (hb5 : (p2 &&& (32 : Int32)) = (0 : Int32))).1) (by decide) (by decide) k) ?_
      show own_Go p e below _ T186 (mkF m 158 #[.val (.int p1), .val (.int p2), .val (.int p3), .val (.int p4), .val (.int p5), .val (.int p6), .val (.int t), .val (.int (4 : Int32)), .val (.int x0), .val (.int x1), .val (.int x2), .val (.int x3), .val (.ref b176), .val (.ref r), .unset] [])
      refine own_by (fun _ k => XS.sipush X186.here hx rfl (hb hby at_158) k) ?_
      show own_Go p e below _ T186 (mkF m 161 #[.val (.int p1), .val (.int p2), .val (.int p3), .val (.int p4), .val (.int p5), .val (.int p6), .val (.int t), .val (.int (4 : Int32)), .val (.int x0), .val (.int x1), .val (.int x2), .val (.int x3), .val (.ref b176), .val (.ref r), .unset] [(.int (128 : Int32))])
      refine own_by (fun _ k => XS.iload X186.here hx rfl (hb hby at_161) rfl k) ?_
      show own_Go p e below _ T186 (mkF m 163 #[.val (.int p1), .val (.int p2), .val (.int p3), .val (.int p4), .val (.int p5), .val (.int p6), .val (.int t), .val (.int (4 : Int32)), .val (.int x0), .val (.int x1), .val (.int x2), .val (.int x3), .val (.ref b176), .val (.ref r), .unset] [(.int t), (.int (128 : Int32))])
      refine own_by (fun _ k => XS.iadd X186.here hx rfl (hb hby at_163) rfl k) ?_
      show own_Go p e below _ T186 (mkF m 164 #[.val (.int p1), .val (.int p2), .val (.int p3), .val (.int p4), .val (.int p5), .val (.int p6), .val (.int t), .val (.int (4 : Int32)), .val (.int x0), .val (.int x1), .val (.int x2), .val (.int x3), .val (.ref b176), .val (.ref r), .unset] [(.int ((128 : Int32) + t))])
      refine own_by (fun _ k => XS.istore X186.here hx rfl (hb hby at_164) rfl (l' := #[.val (.int p1), .val (.int p2), .val (.int p3), .val (.int p4), .val (.int p5), .val (.int p6), .val (.int t), .val (.int (4 : Int32)), .val (.int x0), .val (.int x1), .val (.int x2), .val (.int x3), .val (.ref b176), .val (.ref r), .val (.int ((128 : Int32) + t))]) rfl k) ?_
      show own_Go p e below _ T186 (mkF m 166 #[.val (.int p1), .val (.int p2), .val (.int p3), .val (.int p4), .val (.int p5), .val (.int p6), .val (.int t), .val (.int (4 : Int32)), .val (.int x0), .val (.int x1), .val (.int x2), .val (.int x3), .val (.ref b176), .val (.ref r), .val (.int ((128 : Int32) + t))] [])
      exact J166 _ (by rw [hx0, own_lo, hb5, hkt]; exact own_clr kt)
    · refine own_by (fun _ k => XS.ifNo X186.here hx rfl (hb hby at_144) rfl ((if0 _ _).trans (feq (hb5 : ¬ ((p2 &&& (32 : Int32)) = (0 : Int32)))).1) k) ?_
      show own_Go p e below _ T186 (mkF m 147 #[.val (.int p1), .val (.int p2), .val (.int p3), .val (.int p4), .val (.int p5), .val (.int p6), .val (.int t), .val (.int (4 : Int32)), .val (.int x0), .val (.int x1), .val (.int x2), .val (.int x3), .val (.ref b176), .val (.ref r), .unset] [])
      refine own_by (fun _ k => XS.sipush X186.here hx rfl (hb hby at_147) k) ?_
      show own_Go p e below _ T186 (mkF m 150 #[.val (.int p1), .val (.int p2), .val (.int p3), .val (.int p4), .val (.int p5), .val (.int p6), .val (.int t), .val (.int (4 : Int32)), .val (.int x0), .val (.int x1), .val (.int x2), .val (.int x3), .val (.ref b176), .val (.ref r), .unset] [(.int (160 : Int32))])
      refine own_by (fun _ k => XS.iload X186.here hx rfl (hb hby at_150) rfl k) ?_
      show own_Go p e below _ T186 (mkF m 152 #[.val (.int p1), .val (.int p2), .val (.int p3), .val (.int p4), .val (.int p5), .val (.int p6), .val (.int t), .val (.int (4 : Int32)), .val (.int x0), .val (.int x1), .val (.int x2), .val (.int x3), .val (.ref b176), .val (.ref r), .unset] [(.int t), (.int (160 : Int32))])
      refine own_by (fun _ k => XS.iadd X186.here hx rfl (hb hby at_152) rfl k) ?_
      show own_Go p e below _ T186 (mkF m 153 #[.val (.int p1), .val (.int p2), .val (.int p3), .val (.int p4), .val (.int p5), .val (.int p6), .val (.int t), .val (.int (4 : Int32)), .val (.int x0), .val (.int x1), .val (.int x2), .val (.int x3), .val (.ref b176), .val (.ref r), .unset] [(.int ((160 : Int32) + t))])
      refine own_by (fun _ k => XS.istore X186.here hx rfl (hb hby at_153) rfl (l' := #[.val (.int p1), .val (.int p2), .val (.int p3), .val (.int p4), .val (.int p5), .val (.int p6), .val (.int t), .val (.int (4 : Int32)), .val (.int x0), .val (.int x1), .val (.int x2), .val (.int x3), .val (.ref b176), .val (.ref r), .val (.int ((160 : Int32) + t))]) rfl k) ?_
      show own_Go p e below _ T186 (mkF m 155 #[.val (.int p1), .val (.int p2), .val (.int p3), .val (.int p4), .val (.int p5), .val (.int p6), .val (.int t), .val (.int (4 : Int32)), .val (.int x0), .val (.int x1), .val (.int x2), .val (.int x3), .val (.ref b176), .val (.ref r), .val (.int ((160 : Int32) + t))] [])
      refine own_by (fun _ k => XS.goto X186.here hx rfl (pc0 := 155) (pc' := 166) rfl (hb hby at_155) (by decide) (by decide) k) ?_
      show own_Go p e below _ T186 (mkF m 166 #[.val (.int p1), .val (.int p2), .val (.int p3), .val (.int p4), .val (.int p5), .val (.int p6), .val (.int t), .val (.int (4 : Int32)), .val (.int x0), .val (.int x1), .val (.int x2), .val (.int x3), .val (.ref b176), .val (.ref r), .val (.int ((160 : Int32) + t))] [])
      exact J166 _ (by rw [hx0, own_lo, (own_b32 p2).resolve_left hb5, hkt]; exact own_set kt)
set_option maxRecDepth 65536 in
set_option maxHeartbeats 40000000 in
theorem comes_1 {Post : Tables → Env → Array Value → State → Outcome → State → Prop} (hpost : ∀ tb e args s v u, (limb_1_1.after args s (.returned v) u = true ∧ limb_1_2.after args s (.returned v) u = true ∧ True) → FrameEnd s (.returned v) u (Jvm.fieldLocs frame_1_writes args s ++ Jvm.arrayLocs frame_1_arrays args s ++ Jvm.staticLocs frame_1_statics s) 16 128 → Post tb e args s (.returned v) u) :
    ArmFor flags0 classFile x code maxLocals ret World_1 tables_1 room_1 Calls_1 rest_1 Pre_1 Post := by
  intro l hfl _ _ p e ha hc hk s m args below hf hA hF happ hP
  obtain ⟨hcalls, hrest, hpre⟩ := hP
  obtain ⟨-, -, -, hnamed, -, -, -, hat⟩ := (Spec.applies_iff hf).mp happ
  obtain ⟨hg, hn⟩ := and_e (Cond.before_iff.mp (show (Jvm.Cond.and given_1 narrow_1).before args s = true from hpre))
  obtain ⟨g1, g2⟩ := and_e hg
  obtain ⟨g3, g4⟩ := and_e g2
  obtain ⟨g5, g6⟩ := and_e g4
  obtain ⟨g7, g8⟩ := and_e g6
  obtain ⟨g9, g10⟩ := and_e g8
  obtain ⟨g11, g12⟩ := and_e g10
  obtain ⟨w0, w1, w2, w3, w4, w5, rfl⟩ : ∃ w0 w1 w2 w3 w4 w5 : Value, args = #[w0, w1, w2, w3, w4, w5] := by
    have hs : args.size = 6 := by simpa [Cond.value, given_1] using g1
    obtain ⟨L⟩ := args
    match L, hs with
    | [w0, w1, w2, w3, w4, w5], _ => exact ⟨w0, w1, w2, w3, w4, w5, rfl⟩
  have hw := fun d (hd : d ∈ tables_1) => atoms_spec (ws := Jvm.Cond.code x code maxLocals ret :: tables_1) hat d (List.mem_cons_of_mem _ hd)
  have hfit : Fit s := fun {y c} hc i hi => by
    obtain ⟨ha, rfl⟩ := Array.getElem?_eq_some_iff.mp hc
    have q := List.all_eq_true.mp ((Array.all_eq_true_iff_forall_mem.mp hF) _ (Array.getElem_mem ha)) i (List.mem_range.mpr hi)
    simpa [Array.getElem?_eq_getElem hi] using q
  obtain ⟨i0, ei0⟩ := is_v g3
  obtain rfl : w0 = (.int i0) := Option.some.inj ei0
  obtain ⟨i1, ei1⟩ := is_v g5
  obtain rfl : w1 = (.int i1) := Option.some.inj ei1
  obtain ⟨i2, ei2⟩ := is_v g7
  obtain rfl : w2 = (.int i2) := Option.some.inj ei2
  obtain ⟨i3, ei3⟩ := is_v g9
  obtain rfl : w3 = (.int i3) := Option.some.inj ei3
  obtain ⟨i4, ei4⟩ := is_v g11
  obtain rfl : w4 = (.int i4) := Option.some.inj ei4
  obtain ⟨i5, ei5⟩ := is_v g12
  obtain rfl : w5 = (.int i5) := Option.some.inj ei5
  obtain ⟨n, o, h1, h2, h3, _, L, rfl, ⟨rfl, N⟩, hq⟩ := rm0 l s _ hw tables_1 i0 i1 i2 i3 i4 i5 s.heap s.heap.size (Nat.le_refl _)  p e ha hc hk s m _ below hf ((Spec.applies_iff_loose hf).mp happ).1 ⟨rfl, State.Warmed39.refl s, rfl⟩ trivial
  refine ⟨n, _, h1, h2, h3, hpost _ _ _ _ _ _ ⟨Cond.after_iff.mpr rfl, Cond.after_iff.mpr (eq_i res_at (Term.int_eval (1)) rfl), trivial⟩ ⟨hq.1, hq.2.1, (hq.2.2.sift fun y hy => Or.inr (N y hy)).mono (by decide) (by decide)⟩⟩
theorem main_1_1 : Claimed_1_1 := comes_1 fun _ _ _ _ _ _ h hF => ⟨h.1, hF⟩
theorem main_1_2 : Claimed_1_2 := comes_1 fun _ _ _ _ _ _ h hF => ⟨h.2.1, hF⟩
end Jvm.Pilot.@@N@@
namespace Jvm.Pilot.@@N@@
open Jvm Jvm.ClassFile Sem Op Lib Jvm.Free Jvm.Stand Jvm.Pilot.@@N@@.Jvm.D
/-! MADE BY PROGRAM (witnessworld.py) out of the Statement's table words and the real class files: 9 classes; the members and pool entries that the words name. The judged class is class 1, her method 1. -/
namespace start1
open Jvm.ClassFile
def u (s : String) : CpInfo := .utf8 (stringToUtf16 s)
/-- a pool by its gaps: so many unusable entries, then the entry; so many at the end -/
def gap : Nat → List CpInfo → List CpInfo
  | 0, r => r
  | n + 1, r => .unusable :: gap n r
def poolList (es : List (Nat × CpInfo)) (last : Nat) : List CpInfo := es.foldr (fun e r => gap e.1 (e.2 :: r)) (gap last [])
def pool (es : List (Nat × CpInfo)) (last : Nat) : Array CpInfo := ⟨poolList es last⟩
def fileOf (pool : Array CpInfo) (this : Nat) (attrs : Array Attribute := #[]) (ms : Array MethodInfo := #[]) (fl : Nat := 33) (sup : Nat := 0) (ifs : Array Nat := #[]) (fds : Array FieldInfo := #[]) : ClassFile where
  minorVersion := 0
  majorVersion := 65
  constantPool := pool
  accessFlags := fl
  thisClass := this
  superClass := sup
  interfaces := ifs
  fields := fds
  methods := ms
  attributes := attrs
def plain (name : String) (sup : Option ClassId) : Class where
  name := name
  kind := .ordinary
  loader := none
  accessFlags := 33
  super := sup
  interfaces := #[]
  cf := none
  fields := #[]
  methods := #[]
  instanceTypes := #[]
  staticTypes := #[]
  resolved := #[]
  callSites := []
  init := .initialized
  statics := none
  mirror := none

def pool0 : Array CpInfo := pool [(5, u "<init>"), (0, u "()V"), (1, .class_ 10), (1, u "java/lang/Object"), (85, u "clone"), (0, u "()Ljava/lang/Object;")] 26

def k0m0 : Method := { name := "<init>", desc := "()V", sig := { parameters := [], returnType := none }, accessFlags := 1, code := none }
def k0m1 : Method := { name := "clone", desc := "()Ljava/lang/Object;", sig := { parameters := [], returnType := some (.object "java/lang/Object") }, accessFlags := 260, code := none }
/-- java/lang/Object -/
def k0 : Class := { plain "java/lang/Object" none with
  accessFlags := 33
  interfaces := #[]
  cf := some (fileOf pool0 8 #[] #[{ accessFlags := 1, nameIndex := 5, descriptorIndex := 6, attributes := #[] }, { accessFlags := 260, nameIndex := 96, descriptorIndex := 97, attributes := #[] }] 33 0 #[] #[])
  fields := #[]
  methods := #[k0m0, k0m1]
  instanceTypes := #[]
  staticTypes := #[]
  resolved := Array.replicate 124 none
  statics := none }

def pool1 : Array CpInfo := pool [(2, .class_ 4), (1, u "java/lang/Object"), (0, u "<init>"), (0, u "()V"), (0, .integer 2147483647), (0, .methodref 9 10), (0, .class_ 11), (0, .nameAndType 12 13), (0, u "com/example/tabularium/tabularium/traceability/Der"), (0, u "implicit"), (0, u "(I[B)[B"), (0, .class_ 15), (0, u "com/example/tabularium/tabularium/traceability/DerImplicitPinLaw"), (2, u "law"), (0, u "(IIIIII)Z")] 5

def k1m0 : Method := { name := "<init>", desc := "()V", sig := { parameters := [], returnType := none }, accessFlags := 1, code := none }
def k1c1 : Code := { maxStack := 4, maxLocals := 15, code := code, exceptionTable := #[], attributes := #[] }
def k1m1 : Method := { name := "law", desc := "(IIIIII)Z", sig := { parameters := [.int, .int, .int, .int, .int, .int], returnType := some .boolean }, accessFlags := 9, code := some k1c1 }
/-- com/example/tabularium/tabularium/traceability/DerImplicitPinLaw -/
def k1 : Class := { plain "com/example/tabularium/tabularium/traceability/DerImplicitPinLaw" (some 0) with
  accessFlags := 49
  interfaces := #[]
  cf := some (fileOf pool1 14 #[] #[{ accessFlags := 1, nameIndex := 5, descriptorIndex := 6, attributes := #[] }, { accessFlags := 9, nameIndex := 18, descriptorIndex := 19, attributes := #[] }] 49 2 #[] #[])
  fields := #[]
  methods := #[k1m0, k1m1]
  instanceTypes := #[]
  staticTypes := #[]
  resolved := Array.replicate 25 none
  statics := none }

def pool2 : Array CpInfo := pool [(2, .class_ 4), (1, u "java/lang/Object"), (0, u "<init>"), (0, u "()V"), (0, .class_ 8), (0, u "com/example/tabularium/tabularium/traceability/Der"), (13, u "(I[B)[B"), (50, u "FIRST_ARC_WEIGHT"), (0, u "Ljava/math/BigInteger;"), (14, u "SECONDS"), (0, u "Ljava/time/format/DateTimeFormatter;"), (16, .methodref 7 108), (0, .nameAndType 109 110), (0, u "contextTag"), (0, u "(I)I"), (0, .methodref 112 113), (0, .class_ 114), (0, .nameAndType 115 116), (0, u "[B"), (0, u "clone"), (0, u "()Ljava/lang/Object;"), (71, u "INTEGER"), (0, u "I"), (2, u "OCTET_STRING"), (1, u "NULL"), (1, u "OBJECT_IDENTIFIER"), (1, u "GENERALIZED_TIME"), (1, u "SEQUENCE"), (1, u "SET"), (1, u "CONTEXT_SPECIFIC"), (1, u "CONSTRUCTED"), (1, u "LONG_LENGTH"), (0, u "MAX_LOW_TAG"), (1, u "DIGIT_BITS"), (1, u "MORE_DIGITS"), (17, u "implicit")] 41

def k2m0 : Method := { name := "<init>", desc := "()V", sig := { parameters := [], returnType := none }, accessFlags := 2, code := none }
def k2c1 : Code := { maxStack := 5, maxLocals := 3, code := prog_33_method_11_code, exceptionTable := #[], attributes := #[] }
def k2m1 : Method := { name := "implicit", desc := "(I[B)[B", sig := { parameters := [.int, (.array .byte)], returnType := some (.array .byte) }, accessFlags := 8, code := some k2c1 }
def k2c2 : Code := { maxStack := 3, maxLocals := 1, code := prog_33_method_12_code, exceptionTable := #[], attributes := #[] }
def k2m2 : Method := { name := "contextTag", desc := "(I)I", sig := { parameters := [.int], returnType := some .int }, accessFlags := 10, code := some k2c2 }
/-- com/example/tabularium/tabularium/traceability/Der -/
def k2 : Class := { plain "com/example/tabularium/tabularium/traceability/Der" (some 0) with
  accessFlags := 48
  interfaces := #[]
  cf := some (fileOf pool2 7 #[] #[{ accessFlags := 2, nameIndex := 5, descriptorIndex := 6, attributes := #[] }, { accessFlags := 8, nameIndex := 231, descriptorIndex := 22, attributes := #[] }, { accessFlags := 10, nameIndex := 109, descriptorIndex := 110, attributes := #[] }] 48 2 #[] #[{ accessFlags := 26, nameIndex := 188, descriptorIndex := 189, attributes := #[] }, { accessFlags := 26, nameIndex := 192, descriptorIndex := 189, attributes := #[] }, { accessFlags := 26, nameIndex := 194, descriptorIndex := 189, attributes := #[] }, { accessFlags := 26, nameIndex := 196, descriptorIndex := 189, attributes := #[] }, { accessFlags := 26, nameIndex := 198, descriptorIndex := 189, attributes := #[] }, { accessFlags := 26, nameIndex := 200, descriptorIndex := 189, attributes := #[] }, { accessFlags := 26, nameIndex := 202, descriptorIndex := 189, attributes := #[] }, { accessFlags := 26, nameIndex := 204, descriptorIndex := 189, attributes := #[] }, { accessFlags := 26, nameIndex := 206, descriptorIndex := 189, attributes := #[] }, { accessFlags := 26, nameIndex := 208, descriptorIndex := 189, attributes := #[] }, { accessFlags := 26, nameIndex := 209, descriptorIndex := 189, attributes := #[] }, { accessFlags := 26, nameIndex := 211, descriptorIndex := 189, attributes := #[] }, { accessFlags := 26, nameIndex := 213, descriptorIndex := 189, attributes := #[] }, { accessFlags := 26, nameIndex := 73, descriptorIndex := 74, attributes := #[] }, { accessFlags := 26, nameIndex := 89, descriptorIndex := 90, attributes := #[] }])
  fields := #[{ name := "INTEGER", type := .int, accessFlags := 26, slot := 0, constantValue := 0 }, { name := "OCTET_STRING", type := .int, accessFlags := 26, slot := 1, constantValue := 0 }, { name := "NULL", type := .int, accessFlags := 26, slot := 2, constantValue := 0 }, { name := "OBJECT_IDENTIFIER", type := .int, accessFlags := 26, slot := 3, constantValue := 0 }, { name := "GENERALIZED_TIME", type := .int, accessFlags := 26, slot := 4, constantValue := 0 }, { name := "SEQUENCE", type := .int, accessFlags := 26, slot := 5, constantValue := 0 }, { name := "SET", type := .int, accessFlags := 26, slot := 6, constantValue := 0 }, { name := "CONTEXT_SPECIFIC", type := .int, accessFlags := 26, slot := 7, constantValue := 0 }, { name := "CONSTRUCTED", type := .int, accessFlags := 26, slot := 8, constantValue := 0 }, { name := "LONG_LENGTH", type := .int, accessFlags := 26, slot := 9, constantValue := 0 }, { name := "MAX_LOW_TAG", type := .int, accessFlags := 26, slot := 10, constantValue := 0 }, { name := "DIGIT_BITS", type := .int, accessFlags := 26, slot := 11, constantValue := 0 }, { name := "MORE_DIGITS", type := .int, accessFlags := 26, slot := 12, constantValue := 0 }, { name := "FIRST_ARC_WEIGHT", type := (.object "java/math/BigInteger"), accessFlags := 26, slot := 13, constantValue := 0 }, { name := "SECONDS", type := (.object "java/time/format/DateTimeFormatter"), accessFlags := 26, slot := 14, constantValue := 0 }]
  methods := #[k2m0, k2m1, k2m2]
  instanceTypes := #[]
  staticTypes := #[.int, .int, .int, .int, .int, .int, .int, .int, .int, .int, .int, .int, .int, (.object "java/math/BigInteger"), (.object "java/time/format/DateTimeFormatter")]
  resolved := Array.replicate 273 none
  statics := none }

def pool3 : Array CpInfo := pool [(1, .class_ 2), (0, u "java/lang/Cloneable"), (0, .class_ 4), (0, u "java/lang/Object")] 2

/-- java/lang/Cloneable -/
def k3 : Class := { plain "java/lang/Cloneable" (some 0) with
  accessFlags := 1537
  interfaces := #[]
  cf := some (fileOf pool3 1 #[] #[] 1537 3 #[] #[])
  fields := #[]
  methods := #[]
  instanceTypes := #[]
  staticTypes := #[]
  resolved := Array.replicate 7 none
  statics := none }

def pool4 : Array CpInfo := pool [(1, u "java/io/Serializable"), (0, .class_ 1), (0, u "java/lang/Object"), (0, .class_ 3)] 3

/-- java/io/Serializable -/
def k4 : Class := { plain "java/io/Serializable" (some 0) with
  accessFlags := 1537
  interfaces := #[]
  cf := some (fileOf pool4 2 #[] #[] 1537 4 #[] #[])
  fields := #[]
  methods := #[]
  instanceTypes := #[]
  staticTypes := #[]
  resolved := Array.replicate 8 none
  statics := none }

/-- the primitive byte -/
def k5 : Class := { plain "byte" none with kind := .primitive 'B', accessFlags := 0x411 }
/-- [B -/
def k6 : Class := { plain "[B" (some 0) with kind := .array 5 .byte, interfaces := #[3, 4], accessFlags := 1041 }

/-- the primitive int -/
def k7 : Class := { plain "int" none with kind := .primitive 'I', accessFlags := 0x411 }
/-- [I -/
def k8 : Class := { plain "[I" (some 0) with kind := .array 7 .int, interfaces := #[3, 4], accessFlags := 1041 }

def heap : Heap := #[]
def classes : Array Class := #[k0, k1, k2, k3, k4, k5, k6, k7, k8]
def interned : List (Array UInt16 × Addr) := []
def slotsUsed : Nat := 0
def theMethod : MethodId := ⟨1, 1⟩
def args0 : Array Value := #[.int 1, .int 2, .int 3, .int 4, .int 5, .int 6]
def aboutOver (below : List Frame) : State where
  vm := { classes := classes, interned := interned.toArray }
  heap := heap
  slotsUsed := slotsUsed
  threads := #[{ frames := .invoking theMethod args0 :: below }]
def below0 : List Frame := [.native { method := ⟨0, 0⟩, args := #[] }]
def about1 : State := aboutOver below0
def p0 : Program := .bare "" "" ""
def e0 : Env := launch0.env 0 0 0
theorem w_frames : about1.frames = Frame.invoking theMethod args0 :: below0 := rfl
set_option maxRecDepth 65536 in
theorem w_args : argsFit about1.vm theMethod args0 = true := by decide +kernel
set_option maxRecDepth 65536 in
theorem w_heap : heapFits about1 = true := by decide +kernel
set_option maxRecDepth 65536 in
theorem w_runnable : about1.curStatus? = some .runnable := by decide +kernel
set_option maxRecDepth 65536 in
theorem w_alone : about1.alone = true := by decide +kernel
set_option maxRecDepth 65536 in
theorem w_named : about1.methodNamed? x = some theMethod := by decide +kernel
set_option maxRecDepth 65536 in
theorem w_hears : about1.hears theMethod below0 = true := by decide +kernel
set_option maxRecDepth 65536 in
theorem w_ripe : about1.ripe theMethod args0 below0 = true := by decide +kernel
theorem w_running : about1.status = .running := rfl
set_option maxRecDepth 65536 in
theorem w_room : about1.hasRoom e0.platform room_1 = true :=
  launch0.hasRoom_least _ room_1 (by decide +kernel) (by decide +kernel) (by decide +kernel) (by decide +kernel) (by decide +kernel) (by decide +kernel)
theorem allAtoms_all (ts : List Jvm.Cond) (a : Array Jvm.Value) (st : Jvm.State) : (allAtoms ts).before a st = ts.all (fun c => c.before a st) := by
  induction ts with
  | nil => rfl
  | cons c t ih =>
    show (Jvm.Cond.and c (allAtoms t)).before a st = _
    rw [Jvm.Cond.before_and, ih, List.all_cons]
def words1 : List Jvm.Cond := Jvm.Cond.code x code maxLocals ret :: tables_1
/-- a 'code' word, met by the world's own term for the bytes: nothing is compared byte by byte -/
theorem code_word {y : MethodName} {bytes : ByteArray} {mx : Nat} {rt : Option FieldType} {a : Array Value} {s : State} {m : MethodId} {meth : Method} {c : Code} (h1 : s.methodNamed? y = some m) (h2 : s.vm.method? m = some meth) (h3 : meth.code = some c) (h4 : c.code = bytes)
    (h5 : (c.maxLocals == mx && c.exceptionTable.isEmpty && decide (c.maxStack ≤ mostOperands) && decide (meth.sig.returnType = rt) && !meth.locks && decide (parseMethodDescriptor y.desc = some meth.sig)) = true) : (Jvm.Cond.code y bytes mx rt).before a s = true := by
  simp only [Bool.and_eq_true, beq_iff_eq, Bool.not_eq_true', decide_eq_true_eq] at h5
  obtain ⟨⟨⟨⟨⟨g1, g2⟩, g3⟩, g4⟩, g5⟩, g6⟩ := h5
  simp [Cond.before, Cond.holds, Cond.value, h1, h2, h3, h4, g1, g2, g3, g4, g5, g6]
def isCode : Jvm.Cond → Bool
  | .code _ _ _ _ => true
  | _ => false
theorem all_split {L : List Jvm.Cond} {P : Jvm.Cond → Bool} (h1 : L.all (fun c => isCode c || P c) = true) (h2 : ∀ c ∈ L.filter isCode, P c = true) : L.all P = true := by
  refine List.all_eq_true.mpr fun c hc => ?_
  have h := List.all_eq_true.mp h1 c hc
  rcases Bool.eq_false_or_eq_true (isCode c) with hi | hi
  · exact h2 c (List.mem_filter.mpr ⟨hc, hi⟩)
  · simpa [hi] using h
set_option maxRecDepth 65536 in
theorem w_c0 : (Jvm.Cond.code x code maxLocals ret).before args0 about1 = true := code_word (m := ⟨1, 1⟩) (meth := k1m1) (c := k1c1) (by decide +kernel) rfl rfl rfl (by decide +kernel)
set_option maxRecDepth 65536 in
theorem w_c1 : (Jvm.Cond.code ({ cls := "com/example/tabularium/tabularium/traceability/Der", name := "implicit", desc := "(I[B)[B" } : Jvm.MethodName) prog_33_method_11_code (3 : Nat) (Option.some (Jvm.ClassFile.FieldType.array Jvm.ClassFile.FieldType.byte))).before args0 about1 = true := code_word (m := ⟨2, 1⟩) (meth := k2m1) (c := k2c1) (by decide +kernel) rfl rfl rfl (by decide +kernel)
set_option maxRecDepth 65536 in
theorem w_c2 : (Jvm.Cond.code ({ cls := "com/example/tabularium/tabularium/traceability/Der", name := "contextTag", desc := "(I)I" } : Jvm.MethodName) prog_33_method_12_code (1 : Nat) (Option.some Jvm.ClassFile.FieldType.int)).before args0 about1 = true := code_word (m := ⟨2, 2⟩) (meth := k2m2) (c := k2c2) (by decide +kernel) rfl rfl rfl (by decide +kernel)
def codes1 : List Jvm.Cond := [Jvm.Cond.code x code maxLocals ret, Jvm.Cond.code ({ cls := "com/example/tabularium/tabularium/traceability/Der", name := "implicit", desc := "(I[B)[B" } : Jvm.MethodName) prog_33_method_11_code (3 : Nat) (Option.some (Jvm.ClassFile.FieldType.array Jvm.ClassFile.FieldType.byte)), Jvm.Cond.code ({ cls := "com/example/tabularium/tabularium/traceability/Der", name := "contextTag", desc := "(I)I" } : Jvm.MethodName) prog_33_method_12_code (1 : Nat) (Option.some Jvm.ClassFile.FieldType.int)]
set_option maxRecDepth 65536 in
theorem codes_eq : words1.filter isCode = codes1 := rfl
theorem w_codes : ∀ c ∈ words1.filter isCode, c.before args0 about1 = true := by
  rw [codes_eq]
  intro c hc
  simp only [codes1, List.mem_cons, List.not_mem_nil, or_false] at hc
  rcases hc with rfl | rfl | rfl
  · exact w_c0
  · exact w_c1
  · exact w_c2
set_option maxRecDepth 65536 in
theorem w_t1 : words1.all (fun c => isCode c || c.before args0 about1) = true := by decide +kernel
theorem w_tables : (allAtoms (Jvm.Cond.code x code maxLocals ret :: tables_1)).before args0 about1 = true := by
  rw [allAtoms_all]
  show words1.all (fun c => c.before args0 about1) = true
  refine all_split ?_ w_codes
  rw [w_t1]
set_option maxRecDepth 65536 in
theorem w_case : (Jvm.Cond.and given_1 narrow_1).before args0 about1 = true := by decide +kernel
theorem w_applies : (headSpec (Jvm.Cond.code x code maxLocals ret :: tables_1) room_1).applies x e0.platform about1 = true :=
  (Spec.applies_iff w_frames).mpr ⟨w_running, w_runnable, w_alone, w_named, w_hears, w_ripe, w_room, w_tables⟩
theorem atStart : AtStart classFile x code maxLocals ret World_1 tables_1 room_1 Calls_1 rest_1 Pre_1 launch0 p0 e0 about1 theMethod args0 below0 :=
  ⟨lists_1, trivial, launch0.admits_env _ _ _, launch0.least_env, fairChoices_fair.cas, fairChoices_fair.clock, w_frames, w_args, w_heap, w_applies, trivial, trivial, w_case⟩
end start1
theorem witness_1 : WitnessClaimed_1 := ⟨start1.p0, start1.e0, start1.about1, start1.theMethod, start1.args0, start1.below0, start1.atStart⟩
end Jvm.Pilot.@@N@@
