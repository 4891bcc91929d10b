import JvmDerived
import JvmDerived.Pilot.@@N@@Statement
import JvmDerived.Pilot.@@N@@Code
set_option linter.unusedVariables false
set_option linter.unusedSimpArgs false
namespace Jvm.Pilot.@@N@@
open Jvm Jvm.ClassFile Sem Op Lib Jvm.Free Jvm.Stand Jvm.LawKit Jvm.RoadKit Bundle Jvm.Pilot.@@N@@.Jvm.D
section OwnKit
variable {p : Program} {l : Launch} {e : Env} {R : Room} {s : State} {m : MethodId} {args : Array Value} {below : List Frame} {meth : Method} {c : Code} {T T' : State} {locs : List Loc} {cells slots : Nat} {Z : State} {a0 : Array Value} {h : Heap}
/-- from here the run comes to an end of which E speaks -/
def own_Go (p : Program) (e : Env) (below : List Frame) (E : State → Outcome → Prop) (T : State) (g : JFrame) : Prop :=
  ∃ t o, Steps p.tables e below (T.setTop g) t ∧ t.status = .running ∧ Ended t below o ∧ E t o
def own_End (s : State) (k n : Nat) (Q : Option Value → Heap → List Loc → Prop) (t : State) (o : Outcome) : Prop :=
  ∃ v L, o = .returned v ∧ Q v t.heap L ∧ FrameEnd s o t L k n
theorem own_by {E : State → Outcome → Prop} {g g' : JFrame} (st : ∀ target, Steps p.tables e below (T'.setTop g') target → Steps p.tables e below (T.setTop g) target) (k : own_Go p e below E T' g') : own_Go p e below E T g := by
  obtain ⟨t, o, h1, r⟩ := k
  exact ⟨t, o, st t h1, r⟩
theorem own_retW (X : Stand p l e R s m args below meth c T locs cells slots) (hx : p.tables.exec = Jvm.exec) (hlk : meth.locks = false) {pc : Nat} {Ls : Array Slot} {w : Value} {t : FieldType} {i : Instr} {rest : List Value} (hret : meth.sig.returnType = some t) (hn : narrow t w = w)
    (hi : (i = .ireturn ∧ (t = .int ∨ t = .boolean ∨ t = .byte ∨ t = .char ∨ t = .short) ∧ ∃ z, w = .int z) ∨ (i = .lreturn ∧ t = .long ∧ ∃ z, w = .long z) ∨ (i = .dreturn ∧ t = .double ∧ ∃ z, w = .double z) ∨ (i = .freturn ∧ t = .float ∧ ∃ z, w = .float z) ∨ (i = .areturn ∧ t.isReference = true ∧ w.isRef = true))
    (hd : decode c.code pc = .ok (i, 1)) {Q : Option Value → Heap → List Loc → Prop} {k n : Nat} (hQ : Q (some w) T.heap locs) (hk : cells ≤ k) (hs : slots ≤ n) : own_Go p e below (own_End s k n Q) T (mkF m pc Ls (w :: rest)) := by
  obtain ⟨fs, hr, hrun, hended, hW, hsame⟩ := X.leave (v := some w) (fun h => by rw [hret] at h; cases h) hlk
  exact ⟨_, _, retOut X hx hret hn hi hd hr, hrun, hended, _, _, rfl, hQ, ⟨_, rfl⟩, hW, hsame.mono hk hs⟩
theorem own_retI (X : Stand p l e R s m args below meth c T locs cells slots) (hx : p.tables.exec = Jvm.exec) (hlk : meth.locks = false) {pc : Nat} {Ls : Array Slot} {z : Int32} {rest : List Value} (hret : meth.sig.returnType = some .int) (hd : decode c.code pc = .ok (.ireturn, 1)) {Q : Option Value → Heap → List Loc → Prop} {k n : Nat} (hQ : Q (some (.int z)) T.heap locs) (hk : cells ≤ k) (hs : slots ≤ n) : own_Go p e below (own_End s k n Q) T (mkF m pc Ls (.int z :: rest)) :=
  own_retW X hx hlk hret rfl (Or.inl ⟨rfl, Or.inl rfl, z, rfl⟩) hd hQ hk hs
theorem own_retJ (X : Stand p l e R s m args below meth c T locs cells slots) (hx : p.tables.exec = Jvm.exec) (hlk : meth.locks = false) {pc : Nat} {Ls : Array Slot} {z : Int64} {rest : List Value} (hret : meth.sig.returnType = some .long) (hd : decode c.code pc = .ok (.lreturn, 1)) {Q : Option Value → Heap → List Loc → Prop} {k n : Nat} (hQ : Q (some (.long z)) T.heap locs) (hk : cells ≤ k) (hs : slots ≤ n) : own_Go p e below (own_End s k n Q) T (mkF m pc Ls (.long z :: rest)) :=
  own_retW X hx hlk hret rfl (Or.inr (Or.inl ⟨rfl, rfl, z, rfl⟩)) hd hQ hk hs
theorem own_retA (X : Stand p l e R s m args below meth c T locs cells slots) (hx : p.tables.exec = Jvm.exec) (hlk : meth.locks = false) {pc : Nat} {Ls : Array Slot} {w : Value} {t : FieldType} {rest : List Value} (hret : meth.sig.returnType = some t) (ht : t.isReference = true) (hw : w.isRef = true) (hd : decode c.code pc = .ok (.areturn, 1)) {Q : Option Value → Heap → List Loc → Prop} {k n : Nat} (hQ : Q (some w) T.heap locs) (hk : cells ≤ k) (hs : slots ≤ n) : own_Go p e below (own_End s k n Q) T (mkF m pc Ls (w :: rest)) :=
  own_retW X hx hlk hret (by cases t <;> first | (cases ht; done) | (cases w <;> first | rfl | (cases hw; done))) (Or.inr (Or.inr (Or.inr (Or.inr ⟨rfl, ht, hw⟩)))) hd hQ hk hs
theorem own_retN (X : Stand p l e R s m args below meth c T locs cells slots) (hx : p.tables.exec = Jvm.exec) (hlk : meth.locks = false) {pc : Nat} {Ls : Array Slot} {z : Int32} {t : FieldType} {rest : List Value} (hret : meth.sig.returnType = some t) (ht : t = .boolean ∨ t = .byte ∨ t = .char ∨ t = .short) (hn : nar t z = z) (hd : decode c.code pc = .ok (.ireturn, 1)) {Q : Option Value → Heap → List Loc → Prop} {k n : Nat} (hQ : Q (some (.int z)) T.heap locs) (hk : cells ≤ k) (hs : slots ≤ n) : own_Go p e below (own_End s k n Q) T (mkF m pc Ls (.int z :: rest)) :=
  own_retW X hx hlk hret (by rcases ht with rfl | rfl | rfl | rfl <;> exact congrArg Value.int hn) (Or.inl ⟨rfl, Or.inr ht, z, rfl⟩) hd hQ hk hs
theorem own_ret0 (X : Stand p l e R s m args below meth c T locs cells slots) (hx : p.tables.exec = Jvm.exec) (hlk : meth.locks = false) {pc : Nat} {Ls : Array Slot} (hret : meth.sig.returnType = none) (hd : decode c.code pc = .ok (.return_, 1)) {Q : Option Value → Heap → List Loc → Prop} {k n : Nat} (hQ : Q none T.heap locs) (hk : cells ≤ k) (hs : slots ≤ n) : own_Go p e below (own_End s k n Q) T (mkF m pc Ls []) := by
  obtain ⟨fs, hr, hrun, hended, hW, hsame⟩ := X.leave (v := none) (fun _ => rfl) hlk
  exact ⟨_, _, X.returnOut hx hret hd hr, hrun, hended, _, _, rfl, hQ, ⟨_, rfl⟩, hW, hsame.mono hk hs⟩
theorem own_lrem {g : JFrame} {target : State} (X : Stand p l e R s m args below meth c T locs cells slots) (hx : p.tables.exec = Jvm.exec) (hg : g.method = m) {x y : Int64} {rest : List Value} (hd : decode c.code g.pc = .ok (.lrem, 1)) (hs : g.stack = .long y :: .long x :: rest) (hy : y ≠ 0)
    (hr : Steps p.tables e below (T.setTop { g with pc := g.pc + 1, stack := .long (x % y) :: rest }) target) : Steps p.tables e below (T.setTop g) target :=
  XS.lrem X.here hx hg hd hs hy (by rw [lrem_mod]; exact hr)
/-- a body's contract: called with as' at the heap h it returns, and Q speaks of what it returns, the heap that it leaves and the places that it wrote -/
abbrev own_Met (l : Launch) (Z : State) (y : MethodName) (bytes : ByteArray) (maxL : Nat) (rt : Option FieldType) (ws : List Jvm.Cond) (rm : Room) (as' : Array Value) (h : Heap) (Q : Option Value → Heap → List Loc → Prop) : Prop :=
  MetFree l y (head1 (Jvm.Cond.code y bytes maxL rt :: ws) rm) (fun a U => a = as' ∧ Z.Warmed39 U.vm ∧ U.heap = h) (fun _ _ _ _ _ => True) (fun _ U o U' => ∃ v L, o = .returned v ∧ Q v U'.heap L ∧ FrameEnd U o U' L rm.cells rm.slots)
theorem own_enter {y : MethodName} {bytes : ByteArray} {maxL : Nat} {rt : Option FieldType} {ws : List Jvm.Cond} {rm : Room} {as' : Array Value} {Q : Option Value → Heap → List Loc → Prop} (hy : plainFor y = true) {g0 : MethodId → JFrame} (hg0 : ∀ m, entryFrame m as' maxL = g0 m)
    (body : ∀ (p : Program) (e : Env) (s : State) (m : MethodId) (below : List Frame) (meth : Method) (c : Code) (s₁ : State), p.tables.exec = Jvm.exec → c.code = bytes → c.maxLocals = maxL → s.vm.findClass y.cls = some m.cls → meth.name = y.name → meth.sig.returnType = rt → meth.locks = false → Z.Warmed39 s.vm → Stand p l e rm s m as' below meth c s₁ [] 0 0 → s₁.heap = h → own_Go p e below (own_End s rm.cells rm.slots Q) s₁ (g0 m)) :
    own_Met l Z y bytes maxL rt ws rm as' h Q := by
  refine MetFree.of_bodySF hy hisR ?_
  intro p e s m args below meth c s₁ Bd hml0 hP hK
  obtain ⟨rfl, hZ, hh⟩ := hP
  obtain ⟨t, o, h1, h2, h3, h4⟩ := body p e s m below meth c s₁ Bd.exec Bd.bytes hml0 (findClass_of_methodNamed Bd.named) (name_of_methodNamed Bd.named Bd.method).1 Bd.returns (BodyLoose.notSynchronized Bd) hZ (Stand.of_body Bd) (by rw [← hh, Bd.state]; rfl)
  exact ⟨t, o, castTop (hg0 m) h1, h2, h3, h4⟩
theorem own_callS (X : Stand p l e R s m args below meth c T locs cells slots) (hx : p.tables.exec = Jvm.exec) (hZ : Z.Warmed39 s.vm) {own : String} (hown : s.vm.findClass own = some m.cls) {index : Nat} {y : MethodName} {bytes : ByteArray} {maxL : Nat} {rt : Option FieldType}
    (w1 : (Jvm.Cond.methodLink own index y).before a0 Z = true) (w2 : (Jvm.Cond.static y).before a0 Z = true) (w3 : (Jvm.Cond.initialized y.cls).before a0 Z = true) (w4 : (Jvm.Cond.code y bytes maxL rt).before a0 Z = true)
    (hy : y.cls ≠ "java/lang/invoke/MethodHandle" ∧ y.cls ≠ "java/lang/invoke/VarHandle") {rm : Room} {argsL rest : List Value} {Q : Option Value → Heap → List Loc → Prop} (eT : T.heap = h) (hM : own_Met l Z y bytes maxL rt [] rm argsL.toArray h Q)
    {g : JFrame} (hg : g.method = m) (hsize : g.locals.size = c.maxLocals) (hlen : ∀ sig, parseMethodDescriptor y.desc = some sig → argsL.length = sig.parameters.length) (hstack : g.stack = argsL.reverse ++ rest) {W : Nat} (hW : 2 * g.monitorRoom + (rest.map fun v => v.category).sum ≤ W) (hd : decode c.code g.pc = .ok (.invokestatic index, 3))
    (hf : rm.frames + 1 ≤ R.frames) (hl : W + (maxL + 11) + rm.locals ≤ R.locals) (hc : cells + rm.cells ≤ R.cells) (hs : slots + rm.slots ≤ R.slots) :
    ∃ v T' L, Stand p l e R s m args below meth c T' (locs ++ L) (cells + rm.cells) (slots + rm.slots) ∧ Q v T'.heap L ∧ ∀ target, Steps p.tables e below (T'.setTop { g with pc := g.pc + 3, stack := v.toList ++ rest }) target → Steps p.tables e below (T.setTop g) target := by
  obtain ⟨v, _, ⟨T1, L1, k1, n1⟩, -, X1, ⟨Lc, hQ, l1, y1, z1⟩, st⟩ := Jvm.LawKit.callS X hx (y := y) hown (mvT hZ w1) (mvT hZ w2) (mvT hZ w3) (mvT hZ w4) hy (backOf (W := W) hM hZ w4 w3 hf hl) (g := g) hg hsize (argsL := argsL) (rest := rest) hlen hstack hW hd (fun _ _ => ⟨rfl, eT, hc, hs⟩)
  dsimp only [Pt.U, Pt.locs, Pt.cells, Pt.slots] at X1 l1 y1 z1 st hQ
  subst l1 y1 z1
  exact ⟨v, T1, Lc, X1, hQ, st⟩
theorem own_callI (X : Stand p l e R s m args below meth c T locs cells slots) (hx : p.tables.exec = Jvm.exec) (hZ : Z.Warmed39 s.vm) {own : String} (hown : s.vm.findClass own = some m.cls) {index : Nat} {y : MethodName} {bytes : ByteArray} {maxL : Nat} (hy1 : y.name = "<init>")
    (w1 : (Jvm.Cond.methodLink own index y).before a0 Z = true) (w2 : (Jvm.Cond.instanceMethod y).before a0 Z = true) (w3 : (Jvm.Cond.initialized y.cls).before a0 Z = true) (w4 : (Jvm.Cond.code y bytes maxL none).before a0 Z = true)
    (hy : y.cls ≠ "java/lang/invoke/MethodHandle" ∧ y.cls ≠ "java/lang/invoke/VarHandle") {rm : Room} {a : Addr} {argsL rest : List Value} {Q : Option Value → Heap → List Loc → Prop} (eT : T.heap = h) (hM : own_Met l Z y bytes maxL none [] rm (.ref a :: argsL).toArray h Q)
    {g : JFrame} (hg : g.method = m) (hsize : g.locals.size = c.maxLocals) (hlen : ∀ sig, parseMethodDescriptor y.desc = some sig → argsL.length = sig.parameters.length) (hstack : g.stack = argsL.reverse ++ .ref a :: rest) {W : Nat} (hW : 2 * g.monitorRoom + (rest.map fun v => v.category).sum ≤ W) (hd : decode c.code g.pc = .ok (.invokespecial index, 3))
    (hf : rm.frames + 1 ≤ R.frames) (hl : W + (maxL + 11) + rm.locals ≤ R.locals) (hc : cells + rm.cells ≤ R.cells) (hs : slots + rm.slots ≤ R.slots) :
    ∃ v T' L, Stand p l e R s m args below meth c T' (locs ++ L) (cells + rm.cells) (slots + rm.slots) ∧ Q v T'.heap L ∧ ∀ target, Steps p.tables e below (T'.setTop { g with pc := g.pc + 3, stack := v.toList ++ rest }) target → Steps p.tables e below (T.setTop g) target := by
  obtain ⟨v, _, ⟨T1, L1, k1, n1⟩, -, X1, ⟨Lc, hQ, l1, y1, z1⟩, st⟩ := X.specialBack hx (y := y) hy1 hown (mvT hZ w1) (mvT hZ w2) (mvT hZ w4) hy (backOf (W := W) hM hZ w4 w3 hf hl) (g := g) hg hsize (Steps.refl _) (a := a) (argsL := argsL) (rest := rest) hlen hstack hW hd (fun _ _ => ⟨rfl, eT, hc, hs⟩)
  dsimp only [Pt.U, Pt.locs, Pt.cells, Pt.slots] at X1 l1 y1 z1 st hQ
  subst l1 y1 z1
  exact ⟨v, T1, Lc, X1, hQ, fun _ k => st.trans k⟩
theorem own_callV (X : Stand p l e R s m args below meth c T locs cells slots) (hx : p.tables.exec = Jvm.exec) (hZ : Z.Warmed39 s.vm) {own C : String} (hown : s.vm.findClass own = some m.cls) {index : Nat} {y : MethodName} {bytes : ByteArray} {maxL : Nat} {rt : Option FieldType}
    (w1 : (Jvm.Cond.methodLink own index y).before a0 Z = true) (w2 : (Jvm.Cond.declares y).before a0 Z = true) (w5 : (Jvm.Cond.selects C y y).before a0 Z = true) (w6 : (Jvm.Cond.instanceMethod y).before a0 Z = true) (w3 : (Jvm.Cond.initialized y.cls).before a0 Z = true) (w4 : (Jvm.Cond.code y bytes maxL rt).before a0 Z = true)
    (hy : y.cls ≠ "java/lang/invoke/MethodHandle" ∧ y.cls ≠ "java/lang/invoke/VarHandle") {rm : Room} {a : Addr} {argsL rest : List Value} {Q : Option Value → Heap → List Loc → Prop} (hE : Exa Z h a C) (eT : T.heap = h) (hM : own_Met l Z y bytes maxL rt [] rm (.ref a :: argsL).toArray h Q)
    {g : JFrame} (hg : g.method = m) (hsize : g.locals.size = c.maxLocals) (hlen : ∀ sig, parseMethodDescriptor y.desc = some sig → argsL.length = sig.parameters.length) (hstack : g.stack = argsL.reverse ++ .ref a :: rest) {W : Nat} (hW : 2 * g.monitorRoom + (rest.map fun v => v.category).sum ≤ W) (hd : decode c.code g.pc = .ok (.invokevirtual index, 3))
    (hf : rm.frames + 1 ≤ R.frames) (hl : W + (maxL + 11) + rm.locals ≤ R.locals) (hc : cells + rm.cells ≤ R.cells) (hs : slots + rm.slots ≤ R.slots) (hC : C = y.cls := by rfl) :
    ∃ v T' L, Stand p l e R s m args below meth c T' (locs ++ L) (cells + rm.cells) (slots + rm.slots) ∧ Q v T'.heap L ∧ ∀ target, Steps p.tables e below (T'.setTop { g with pc := g.pc + 3, stack := v.toList ++ rest }) target → Steps p.tables e below (T.setTop g) target := by
  subst hC
  obtain ⟨_, _, qa, -, qc⟩ := isOf hZ eT hE
  obtain ⟨v, _, ⟨T1, L1, k1, n1⟩, -, X1, ⟨Lc, hQ, l1, y1, z1⟩, st⟩ := X.virtualBack hx (y := y) (z := y) hown (mvT hZ w1) (mvT hZ w2) (notFace_of_selects (args := #[]) (mvT hZ w5)) (mvT hZ w5) (mvT hZ w6) hy (backOf (W := W) hM hZ w4 w3 hf hl) qa qc (g := g) hg hsize (Steps.refl _) (argsL := argsL) (rest := rest) hlen hstack hW hd (fun _ _ => ⟨rfl, eT, hc, hs⟩)
  dsimp only [Pt.U, Pt.locs, Pt.cells, Pt.slots] at X1 l1 y1 z1 st hQ
  subst l1 y1 z1
  exact ⟨v, T1, Lc, X1, hQ, fun _ k => st.trans k⟩
theorem own_callU (X : Stand p l e R s m args below meth c T locs cells slots) (hx : p.tables.exec = Jvm.exec) (hZ : Z.Warmed39 s.vm) {own C owner : String} (hown : s.vm.findClass own = some m.cls) {index : Nat} {x y : MethodName} {bytes : ByteArray} {maxL : Nat} {rt : Option FieldType}
    (w1 : (Jvm.Cond.methodLink own index x).before a0 Z = true) (w7 : (Jvm.Cond.sameMethod x.cls owner x.name x.desc).before a0 Z = true) (w2 : (Jvm.Cond.declares ⟨owner, x.name, x.desc⟩).before a0 Z = true) (hy : owner ≠ "java/lang/invoke/MethodHandle" ∧ owner ≠ "java/lang/invoke/VarHandle") (w5 : (Jvm.Cond.selects C x y).before a0 Z = true) (w6 : (Jvm.Cond.instanceMethod y).before a0 Z = true) (w3 : (Jvm.Cond.initialized y.cls).before a0 Z = true) (w4 : (Jvm.Cond.code y bytes maxL rt).before a0 Z = true)
    {rm : Room} {a : Addr} {argsL rest : List Value} {Q : Option Value → Heap → List Loc → Prop} (hE : Exa Z h a C) (eT : T.heap = h) (hM : own_Met l Z y bytes maxL rt [] rm (.ref a :: argsL).toArray h Q)
    {g : JFrame} (hg : g.method = m) (hsize : g.locals.size = c.maxLocals) (hlen : ∀ sig, parseMethodDescriptor x.desc = some sig → argsL.length = sig.parameters.length) (hstack : g.stack = argsL.reverse ++ .ref a :: rest) {W : Nat} (hW : 2 * g.monitorRoom + (rest.map fun v => v.category).sum ≤ W) (hd : decode c.code g.pc = .ok (.invokevirtual index, 3))
    (hf : rm.frames + 1 ≤ R.frames) (hl : W + (maxL + 11) + rm.locals ≤ R.locals) (hc : cells + rm.cells ≤ R.cells) (hs : slots + rm.slots ≤ R.slots) :
    ∃ v T' L, Stand p l e R s m args below meth c T' (locs ++ L) (cells + rm.cells) (slots + rm.slots) ∧ Q v T'.heap L ∧ ∀ target, Steps p.tables e below (T'.setTop { g with pc := g.pc + 3, stack := v.toList ++ rest }) target → Steps p.tables e below (T.setTop g) target := by
  obtain ⟨_, _, qa, -, qc⟩ := isOf hZ eT hE
  obtain ⟨v, _, ⟨T1, L1, k1, n1⟩, -, X1, ⟨Lc, hQ, l1, y1, z1⟩, st⟩ := X.virtualBackUp hx (x := x) (y := y) hown (mvT hZ w1) (mvT hZ w7) (mvT hZ w2) hy (mvT hZ w5) (mvT hZ w6) (backOf (W := W) hM hZ w4 w3 hf hl) qa qc (g := g) hg hsize (Steps.refl _) (argsL := argsL) (rest := rest) hlen hstack hW hd (fun _ _ => ⟨rfl, eT, hc, hs⟩)
  dsimp only [Pt.U, Pt.locs, Pt.cells, Pt.slots] at X1 l1 y1 z1 st hQ
  subst l1 y1 z1
  exact ⟨v, T1, Lc, X1, hQ, fun _ k => st.trans k⟩
theorem own_arv {a : Addr} {k : ClassId} {ty : FieldType} {z : Int32} {vs : List Value} {dv : Value} (V : Arv Z h a k ty z vs dv) {j : Int32} (q : ¬ j < 0 ∧ j < z) :
    ∃ cl : Cell, Arr Z h a cl ty ∧ cl.cls = k ∧ ¬ (j < 0 ∨ cl.slots.size ≤ j.toNatClampNeg) ∧ cl.slots[j.toNatClampNeg]? = some (vs.getD j.toNatClampNeg dv) ∧ ∀ {h' : Heap} {v : Value}, fits ty v = true → Wr h h' a j.toNatClampNeg v → ∀ i, j.toNatClampNeg = i → i < vs.length → Arv Z h' a k ty z (vs.set i v) dv := by
  obtain ⟨cl, A, q1, S, q3, H, G⟩ := V
  have hin := inb_of S q
  exact ⟨cl, A, q1, hin, Has.at H hin rfl, fun hf W i hj hi => Arv.set A q1 S q3 H G hf W i hj hi⟩
theorem own_len {a : Addr} {k : ClassId} {ty : FieldType} {z : Int32} {vs : List Value} {dv : Value} (V : Arv Z h a k ty z vs dv) : ∃ cl : Cell, Arr Z h a cl ty ∧ cl.slots.size.toInt32 = z := by
  obtain ⟨cl, A, q1, S, q3, -⟩ := V
  exact ⟨cl, A, len_of S q3⟩
theorem own_sta {C f d K : String} (hx : (Jvm.Cond.exactly (.static C f d) K).value args s none s [] = some true) (w1 : (Jvm.Cond.initialized C).before args s = true) (w2 : (Jvm.Cond.laysStatic C f d).before args s = true) :
    ∃ a, (Term.static C f d).eval args s none [] s = some (.ref a) ∧ Sta s s.heap C f d (.ref a) ∧ Exa s s.heap a K := by
  obtain ⟨a, ev⟩ := exa_v hx
  exact ⟨a, ev, Sta.start ev (Or.inr ⟨w1, w2⟩), Exa.start ev hx⟩
theorem own_fldI {t : Term} {C f d : String} {a : Addr} {k : Int32} (ev : t.eval args s none [] s = some (.ref a)) (hx : (Jvm.Cond.eq (.field t C f d) (.int k)).value args s none s [] = some true) : Fld s s.heap a C f d (.int k) := by
  obtain ⟨v, w, e1, e2, k1, k2⟩ := cmp_v (Or.inl hx)
  obtain rfl : w = .int k := Option.some.inj (e2.symm.trans (Term.int_eval k))
  obtain ⟨z, rfl⟩ : ∃ z, v = .int z := k2
  have q : z = k := by simpa [Cond.value, e1, e2] using hx
  subst q
  exact Fld.start (by rw [← fld_at ev]; exact e1)
theorem own_neS {t u : Term} {a b : Addr} (ea : t.eval args s none [] s = some (.ref a)) (eb : u.eval args s none [] s = some (.ref b)) (hx : (Jvm.Cond.not (.eq t u)).value args s none s [] = some true) : a ≠ b := fun q =>
  gotF (eq_R ea eb rfl rfl) (not_v hx) (congrArg Value.ref q)
theorem own_staK {C f d : String} {v : Value} {h' : Heap} {ws : List Addr} (S : Sta Z h C f d v) (K : Keep h h' ws) (q : ∀ x ∈ ws, ∀ cell : Cell, h[x]? = some cell → cell.vm.isStatics = false) : Sta Z h' C f d v := by
  obtain ⟨cf, i, k, fl, st, cell, h1, h2, h3, h4, h5, h6, h7⟩ := S
  refine ⟨cf, i, k, fl, st, cell, h1, h2, h3, h4, K.2.1 st cell h5 (fun hm => ?_), h6, h7⟩
  have := q st hm cell h5
  rw [h6] at this
  cases this
end OwnKit
section OwnRef
variable {p : Program} {l : Launch} {e : Env} {R : Room} {s : State} {m : MethodId} {args : Array Value} {below : List Frame} {meth : Method} {c : Code} {T T' : State} {locs : List Loc} {cells slots : Nat} {Z : State} {a0 : Array Value} {h : Heap}
/-- a call of a constructor whose pool entry is resolved already (the word 'methodRef') -/
theorem own_callR (X : Stand p l e R s m args below meth c T locs cells slots) (hx : p.tables.exec = Jvm.exec) (hZ : Z.Warmed39 s.vm) {own : String} (hown : s.vm.findClass own = some m.cls) {index : Nat} {y : MethodName} {bytes : ByteArray} {maxL : Nat} (hy1 : y.name = "<init>")
    (w1 : (Jvm.Cond.methodRef own index y).before a0 Z = true) (w2 : (Jvm.Cond.instanceMethod y).before a0 Z = true) (w3 : (Jvm.Cond.initialized y.cls).before a0 Z = true) (w4 : (Jvm.Cond.code y bytes maxL none).before a0 Z = true)
    (hy : y.cls ≠ "java/lang/invoke/MethodHandle" ∧ y.cls ≠ "java/lang/invoke/VarHandle") {rm : Room} {a : Addr} {argsL rest : List Value} {Q : Option Value → Heap → List Loc → Prop} (eT : T.heap = h) (hM : own_Met l Z y bytes maxL none [] rm (.ref a :: argsL).toArray h Q)
    {g : JFrame} (hg : g.method = m) (hsize : g.locals.size = c.maxLocals) (hlen : ∀ sig, parseMethodDescriptor y.desc = some sig → argsL.length = sig.parameters.length) (hstack : g.stack = argsL.reverse ++ .ref a :: rest) {W : Nat} (hW : 2 * g.monitorRoom + (rest.map fun v => v.category).sum ≤ W) (hd : decode c.code g.pc = .ok (.invokespecial index, 3))
    (hf : rm.frames + 1 ≤ R.frames) (hl : W + (maxL + 11) + rm.locals ≤ R.locals) (hc : cells + rm.cells ≤ R.cells) (hs : slots + rm.slots ≤ R.slots) :
    ∃ v T' L, Stand p l e R s m args below meth c T' (locs ++ L) (cells + rm.cells) (slots + rm.slots) ∧ Q v T'.heap L ∧ ∀ target, Steps p.tables e below (T'.setTop { g with pc := g.pc + 3, stack := v.toList ++ rest }) target → Steps p.tables e below (T.setTop g) target := by
  have hready : ∀ (U : State) (r : MethodId), s.WarmedH U.vm → s.methodNamed? y = some r → namesResolved U.vm m.cls index r.cls ∧ U.vm.methodReady m.cls index r := by
    intro U r hU hr
    obtain ⟨r0, _, hn0, -⟩ := Cond.instanceMethod_spec w2
    have q1 : (Jvm.Cond.methodRef own index y).before a0 (Z.setVm s.vm) = true := Cond.methodRef_warmed39 hZ hn0 hy w1
    have q2 : (Jvm.Cond.methodRef own index y).before a0 s = true := q1
    have q3 : (Jvm.Cond.methodRef own index y).before a0 (s.setVm U.vm) = true := Cond.methodRef_warmed hU hr hy q2
    obtain ⟨m', c', e1, e2, e3, e4⟩ := Cond.methodRef_named (s := s.setVm U.vm) e (cur := m.cls) (by rw [State.vm_setVm, hU.alike.findClass]; exact hown) q3
    rw [State.methodFound?_setVm_of_named hU.alike hr hy] at e1
    cases (State.methodFound?_of_named hr hy).symm.trans e1
    have e5 : s.vm.findClass y.cls = some r.cls := findClass_of_methodNamed hr
    rw [State.vm_setVm, hU.alike.findClass] at e3
    cases e5.symm.trans e3
    exact ⟨e4, e2⟩
  obtain ⟨v, _, ⟨T1, L1, k1, n1⟩, -, X1, ⟨Lc, hQ, l1, y1, z1⟩, st⟩ := SCall.of_ready (y := y) (bytes := bytes) (maxL := maxL) hx hy1 (mvT hZ w2) (mvT hZ w4) hready X (backOf (W := W) hM hZ w4 w3 hf hl) (g := g) hg hsize (Steps.refl _) (a := a) (argsL := argsL) (rest := rest) hlen hstack hW hd (fun _ _ => ⟨rfl, eT, hc, hs⟩)
  dsimp only [Pt.U, Pt.locs, Pt.cells, Pt.slots] at X1 l1 y1 z1 st hQ
  subst l1 y1 z1
  exact ⟨v, T1, Lc, X1, hQ, fun _ k => st.trans k⟩
/-- getfield by an entry that is resolved already (the word 'fieldRef') -/
theorem own_getR (X : Stand p l e R s m args below meth c T locs cells slots) (hx : p.tables.exec = Jvm.exec) (hZ : Z.Warmed39 s.vm) {own O n d : String} (hown : s.vm.findClass own = some m.cls) {index : Nat} (w : (Jvm.Cond.fieldRef own index O n d).before a0 Z = true)
    (eT : T.heap = h) {a : Addr} {v : Value} (F : Fld Z h a O n d v) {g : JFrame} (hg : g.method = m) {rest : List Value} (hs : g.stack = .ref a :: rest) (hd : decode c.code g.pc = .ok (.getfield index, 3)) :
    ∃ T', Stand p l e R s m args below meth c T' locs cells slots ∧ T'.heap = h ∧ ∀ target, Steps p.tables e below (T'.setTop { g with pc := g.pc + 3, stack := v :: rest }) target → Steps p.tables e below (T.setTop g) target := by
  obtain ⟨cell, cf, k, i, f, h1, h2, h3, h4, -, -, h7⟩ := F
  have q1 : (Jvm.Cond.fieldRef own index O n d).before a0 (Z.setVm s.vm) = true := Cond.fieldRef_warmed39 hZ w
  have q2 : (Jvm.Cond.fieldRef own index O n d).before a0 s = true := q1
  have q3 : (Jvm.Cond.fieldRef own index O n d).before a0 (s.setVm T.vm) = true := Cond.fieldRef_warmed X.warmed q2
  obtain ⟨cf', k', i', f', e1, e2⟩ := Cond.fieldRef_spec (s := s.setVm T.vm) (cur := m.cls) (by rw [State.vm_setVm, X.warmed.alike.findClass]; exact hown) q3
  obtain ⟨k1, hi1, -⟩ := State.fieldFound?_setVm (s := Z) hZ.alike h2
  have hi1' : s.fieldFound? O n d = some (cf, k1, i, f) := hi1
  obtain ⟨k2, hi2, -⟩ := State.fieldFound?_setVm (s := s) X.warmed.alike hi1'
  cases hi2.symm.trans e1
  refine ⟨T, X, eT, fun target hrest => ?_⟩
  subst hg
  jvm_step X.here [hx, hd, getfield.wp_ready (e := e) (s := T) (f := g) X.here.top e2 h3 hs (by rw [eT]; exact h1) h4 h7]
  exact hrest
end OwnRef
def own_bit (u : Int32) : Prop := u = 0 ∨ u = 1
theorem own_bit_nar {u : Int32} (h : own_bit u) : nar .boolean u = u := by rcases h with rfl | rfl <;> rfl
def own_at (b0 b1 b2 b3 j : Int32) : Int32 := if j = 1 then b1 else if j = 2 then b2 else if j = 3 then b3 else b0
theorem own_four (x : Int32) : x &&& 3 = 0 ∨ x &&& 3 = 1 ∨ x &&& 3 = 2 ∨ x &&& 3 = 3 := by
  have h := c_mask x 3 2 (by decide) (by decide)
  have e : ∀ k : Int32, (x &&& 3).toInt = k.toInt → x &&& 3 = k := fun k q => Int32.toInt_inj.mp q
  have c : (x &&& 3).toInt = 0 ∨ (x &&& 3).toInt = 1 ∨ (x &&& 3).toInt = 2 ∨ (x &&& 3).toInt = 3 := by rw [h]; omega
  rcases c with c | c | c | c
  · exact Or.inl (e 0 c)
  · exact Or.inr (Or.inl (e 1 c))
  · exact Or.inr (Or.inr (Or.inl (e 2 c)))
  · exact Or.inr (Or.inr (Or.inr (e 3 c)))
/-- the state: which rests, since when, which is next -/
abbrev own_St := Int32 × Int64 × Int32
def own_wake (now r : Int64) (s : own_St) : own_St := if s.1 = -1 then s else if now - s.2.1 < r then s else (-1, s.2.1, s.2.2)
/-- the second loop's turns, k of them left, i the present one -/
def own_loop (n c : Int32) (u : Int32 → Int32) (now t0 r : Int64) : Nat → Int32 → own_St → own_St
  | 0, _, s => s
  | k + 1, i, s =>
    if s.1 = -1 then
      if 1 < c then
        if u (1 + (s.2.2 - 1 + i) % n) = 0 then own_loop n c u now t0 r k (i + 1) s
        else if now - t0 < r then own_loop n c u now t0 r k (i + 1) s
        else own_loop n c u now t0 r k (i + 1) (1 + (s.2.2 - 1 + i) % n, now, 1 + (1 + (s.2.2 - 1 + i) % n) % n)
      else s
    else s
def own_rest (n c : Int32) (u : Int32 → Int32) (now t0 r : Int64) (k : Nat) (x : Int32) (y : Int64) (z : Int32) : own_St := own_loop n c u now t0 r k 0 (own_wake now r (x, y, z))
section OwnStep
variable {n c : Int32} {u : Int32 → Int32} {now t0 r : Int64} {k : Nat} {i : Int32} {s : own_St}
theorem own_skip (h1 : s.1 = -1) (h2 : 1 < c) (h3 : u (1 + (s.2.2 - 1 + i) % n) = 0) : own_loop n c u now t0 r (k + 1) i s = own_loop n c u now t0 r k (i + 1) s := by
  simp only [own_loop, if_pos h1, if_pos h2, if_pos h3]
theorem own_late (h1 : s.1 = -1) (h2 : 1 < c) (h3 : ¬ u (1 + (s.2.2 - 1 + i) % n) = 0) (h4 : now - t0 < r) : own_loop n c u now t0 r (k + 1) i s = own_loop n c u now t0 r k (i + 1) s := by
  simp only [own_loop, if_pos h1, if_pos h2, if_neg h3, if_pos h4]
theorem own_take (h1 : s.1 = -1) (h2 : 1 < c) (h3 : ¬ u (1 + (s.2.2 - 1 + i) % n) = 0) (h4 : ¬ now - t0 < r) : own_loop n c u now t0 r (k + 1) i s = own_loop n c u now t0 r k (i + 1) (1 + (s.2.2 - 1 + i) % n, now, 1 + (1 + (s.2.2 - 1 + i) % n) % n) := by
  simp only [own_loop, if_pos h1, if_pos h2, if_neg h3, if_neg h4]
theorem own_out1 (h1 : ¬ s.1 = -1) : own_loop n c u now t0 r (k + 1) i s = s := by
  simp only [own_loop, if_neg h1]
theorem own_out2 (h1 : s.1 = -1) (h2 : ¬ 1 < c) : own_loop n c u now t0 r (k + 1) i s = s := by
  simp only [own_loop, if_pos h1, if_neg h2]
end OwnStep
def own_wrap (x n : Int32) : Int32 := if n < x then x - n else x
def own_one (u : Int32) : Int32 := if u = 0 then 0 else 1
def own_count (n : Int32) (u1 u2 u3 : Int32) : Int32 := (((0 : Int32) + if n < 1 then 0 else own_one u1) + if n < 2 then 0 else own_one u2) + if n < 3 then 0 else own_one u3
def own_first (n : Int32) (u : Int32 → Int32) (x : Int32) : Int32 :=
  if n < 1 ∨ u (own_wrap x n) = 0 then
    if n < 2 ∨ u (own_wrap (x + 1) n) = 0 then
      if n < 3 ∨ u (own_wrap (x + 2) n) = 0 then -1 else own_wrap (x + 2) n
    else own_wrap (x + 1) n
  else own_wrap x n
def own_model (n c : Int32) (u : Int32 → Int32) (now t0 r : Int64) (s : own_St) : own_St :=
  if s.1 = -1 then
    if 1 < c then
      if now - t0 < r then s else (own_first n u s.2.2, now, if own_first n u s.2.2 = n then 1 else own_first n u s.2.2 + 1)
    else s
  else s
def Q_rm1 (Z : State) (p1 : Int32) (h0 : Heap) (n0 : Nat) (v : Option Value) (h : Heap) (L : List Loc) : Prop := ∃ b kb u0 u1 u2 u3, v = some (.ref b) ∧ Fr n0 L ∧ Keep h0 h [] ∧ h0.size ≤ b ∧ own_bit u0 ∧ own_bit u1 ∧ own_bit u2 ∧ own_bit u3 ∧ Arv Z h b kb .boolean (4 : Int32) [(.int u0), (.int u1), (.int u2), (.int u3)] (.int (0 : Int32))
theorem pn_rm1 : plainFor (⟨"com/example/eskew/eskew/server/split/CounterValuesRestingPinLaw", "ups", "(I)[Z"⟩ : MethodName) = true := plainFor_of_name (by first | (simp [plainName, overriddenIn, x]; done) | decide +kernel)
theorem d1_0 : decode method_3_code 0 = .ok (.iconst 4, 1) := by decide +kernel
theorem d1_1 : decode method_3_code 1 = .ok (.newarray .boolean, 2) := by decide +kernel
theorem d1_3 : decode method_3_code 3 = .ok (.astore_n 1, 1) := by decide +kernel
theorem d1_4 : decode method_3_code 4 = .ok (.aload_n 1, 1) := by decide +kernel
theorem d1_5 : decode method_3_code 5 = .ok (.iconst 0, 1) := by decide +kernel
theorem d1_6 : decode method_3_code 6 = .ok (.iload_n 0, 1) := by decide +kernel
theorem d1_7 : decode method_3_code 7 = .ok (.iconst 1, 1) := by decide +kernel
theorem d1_8 : decode method_3_code 8 = .ok (.iand, 1) := by decide +kernel
theorem d1_17 : decode method_3_code 17 = .ok (.bastore, 1) := by decide +kernel
theorem d1_18 : decode method_3_code 18 = .ok (.aload_n 1, 1) := by decide +kernel
theorem d1_19 : decode method_3_code 19 = .ok (.iconst 1, 1) := by decide +kernel
theorem d1_20 : decode method_3_code 20 = .ok (.iload_n 0, 1) := by decide +kernel
theorem d1_21 : decode method_3_code 21 = .ok (.iconst 2, 1) := by decide +kernel
theorem d1_22 : decode method_3_code 22 = .ok (.iand, 1) := by decide +kernel
theorem d1_31 : decode method_3_code 31 = .ok (.bastore, 1) := by decide +kernel
theorem d1_32 : decode method_3_code 32 = .ok (.aload_n 1, 1) := by decide +kernel
theorem d1_33 : decode method_3_code 33 = .ok (.iconst 2, 1) := by decide +kernel
theorem d1_34 : decode method_3_code 34 = .ok (.iload_n 0, 1) := by decide +kernel
theorem d1_35 : decode method_3_code 35 = .ok (.iconst 4, 1) := by decide +kernel
theorem d1_36 : decode method_3_code 36 = .ok (.iand, 1) := by decide +kernel
theorem d1_45 : decode method_3_code 45 = .ok (.bastore, 1) := by decide +kernel
theorem d1_46 : decode method_3_code 46 = .ok (.aload_n 1, 1) := by decide +kernel
theorem d1_47 : decode method_3_code 47 = .ok (.iconst 3, 1) := by decide +kernel
theorem d1_48 : decode method_3_code 48 = .ok (.iload_n 0, 1) := by decide +kernel
theorem d1_49 : decode method_3_code 49 = .ok (.bipush 8, 2) := by decide +kernel
theorem d1_51 : decode method_3_code 51 = .ok (.iand, 1) := by decide +kernel
theorem d1_60 : decode method_3_code 60 = .ok (.bastore, 1) := by decide +kernel
theorem d1_61 : decode method_3_code 61 = .ok (.aload_n 1, 1) := by decide +kernel
theorem d1_62 : decode method_3_code 62 = .ok (.areturn, 1) := by decide +kernel
theorem d1_52 : decode method_3_code 52 = .ok (.ifCond .eq 7, 3) := by decide +kernel
theorem d1_59 : decode method_3_code 59 = .ok (.iconst 0, 1) := by decide +kernel
theorem d1_55 : decode method_3_code 55 = .ok (.iconst 1, 1) := by decide +kernel
theorem d1_56 : decode method_3_code 56 = .ok (.goto 4, 3) := by decide +kernel
theorem d1_37 : decode method_3_code 37 = .ok (.ifCond .eq 7, 3) := by decide +kernel
theorem d1_44 : decode method_3_code 44 = .ok (.iconst 0, 1) := by decide +kernel
theorem d1_40 : decode method_3_code 40 = .ok (.iconst 1, 1) := by decide +kernel
theorem d1_41 : decode method_3_code 41 = .ok (.goto 4, 3) := by decide +kernel
theorem d1_23 : decode method_3_code 23 = .ok (.ifCond .eq 7, 3) := by decide +kernel
theorem d1_30 : decode method_3_code 30 = .ok (.iconst 0, 1) := by decide +kernel
theorem d1_26 : decode method_3_code 26 = .ok (.iconst 1, 1) := by decide +kernel
theorem d1_27 : decode method_3_code 27 = .ok (.goto 4, 3) := by decide +kernel
theorem d1_9 : decode method_3_code 9 = .ok (.ifCond .eq 7, 3) := by decide +kernel
theorem d1_16 : decode method_3_code 16 = .ok (.iconst 0, 1) := by decide +kernel
theorem d1_12 : decode method_3_code 12 = .ok (.iconst 1, 1) := by decide +kernel
theorem d1_13 : decode method_3_code 13 = .ok (.goto 4, 3) := by decide +kernel
set_option maxRecDepth 65536 in
set_option maxHeartbeats 40000000 in
theorem rm1 (l : Launch) (Z : State) (a0 : Array Value) (hw : ∀ d ∈ tables_1, d.before a0 Z = true) (ws : List Jvm.Cond) (p1 : Int32) (h0 : Heap) (n0 : Nat) (Z0 : n0 ≤ h0.size)  :
    own_Met l Z (⟨"com/example/eskew/eskew/server/split/CounterValuesRestingPinLaw", "ups", "(I)[Z"⟩ : MethodName) method_3_code 2 (some (.array .boolean)) ws ({ frames := 0, cells := 1, slots := 4, locals := 0 } : Room) #[(.int p1)] h0 (Q_rm1 Z p1 h0 n0) := by
  refine own_enter (g0 := fun m => (mkF m 0 #[.val (.int p1), .unset] [])) pn_rm1 (fun m => by first | (simp [entryFrame, mkF, argsToLocals, Value.category, maxLocals]; done) | rfl) ?_
  intro p e s m below meth c s₁ hx hby hml hown hnm hret hlk hZ X0 e0
  have hml : c.maxLocals = 2 := hml
  have hown : s.vm.findClass "com/example/eskew/eskew/server/split/CounterValuesRestingPinLaw" = some m.cls := hown
  have N0 := Fr.nil n0
  have K0 := Keep.refl h0 []
  refine own_by (fun _ k => XS.iconst X0.here hx rfl (hb hby d1_0) k) ?_
  obtain ⟨T101, h101, k101, X101, e101, E101, A101, C101, st101⟩ := newPE X0 hx hZ (hw _ (List.mem_of_getElem? (i := 4) rfl)) e0 (g := (mkF m 1 #[.val (.int p1), .unset] [(.int (4 : Int32))])) rfl (hb hby d1_1) rfl (by decide) (cap := 4) (by decide) (by decide) (by decide) (by decide) (ad := "[Z") (by decide)
  obtain ⟨b101, g101⟩ : ∃ zq, zq = h0.size := ⟨_, rfl⟩
  rw [← g101] at A101 C101 st101
  have og_b101 : n0 ≤ b101 := Nat.le_trans Z0 (Nat.le_of_eq g101.symm)
  have sz_b101 : h0.size ≤ b101 := Nat.le_trans K0.1 (Nat.le_of_eq g101.symm)
  have Z101 : n0 ≤ h101.size := Nat.le_trans Z0 E101.1
  have K102 := K0.ext E101
  have V101 : Arv Z h101 b101 k101 .boolean (4 : Int32) [(.int (0 : Int32)), (.int (0 : Int32)), (.int (0 : Int32)), (.int (0 : Int32))] (.int (0 : Int32)) := (Arv.new A101 (by decide)).pad (pad_rep [] (.int (0 : Int32)) 4)
  refine own_by st101 ?_
  refine own_by (fun _ k => XS.astoreN X101.here hx rfl (hb hby d1_3) rfl rfl (l' := #[.val (.int p1), .val (.ref b101)]) rfl k) ?_
  refine own_by (fun _ k => XS.aloadN X101.here hx rfl (hb hby d1_4) rfl rfl k) ?_
  refine own_by (fun _ k => XS.iconst X101.here hx rfl (hb hby d1_5) k) ?_
  refine own_by (fun _ k => XS.iloadN X101.here hx rfl (hb hby d1_6) rfl k) ?_
  refine own_by (fun _ k => XS.iconst X101.here hx rfl (hb hby d1_7) k) ?_
  refine own_by (fun _ k => XS.iand X101.here hx rfl (hb hby d1_8) rfl k) ?_
  show own_Go p e below _ T101 (mkF m 9 #[.val (.int p1), .val (.ref b101)] [(.int (p1 &&& (1 : Int32))), (.int (0 : Int32)), (.ref b101)])
  have J17 : ∀ (u0 : Int32) (hb0 : own_bit u0), own_Go p e below (own_End s ({ frames := 0, cells := 1, slots := 4, locals := 0 } : Room).cells ({ frames := 0, cells := 1, slots := 4, locals := 0 } : Room).slots (Q_rm1 Z p1 h0 n0)) T101 (mkF m 17 #[.val (.int p1), .val (.ref b101)] [(.int u0), (.int (0 : Int32)), (.ref b101)]) := by
    intro u0 hb0
    obtain ⟨cl103, Ar103, cq103, hin103, hat103, set103⟩ := own_arv V101 (j := (0 : Int32)) ⟨by decide, by decide⟩
    obtain ⟨T104, h104, X104, e104, W104, st104⟩ := stZ X101 hx hZ e101 Ar103 (j := (0 : Int32)) hin103 (g := (mkF m 17 #[.val (.int p1), .val (.ref b101)] [(.int u0), (.int (0 : Int32)), (.ref b101)])) rfl rfl (hb hby d1_17)
    have wq104 : nar .boolean u0 = u0 := own_bit_nar hb0
    rw [wq104] at W104
    have wf104 : fits .boolean (.int u0) = true := wq104 ▸ (fits_nar_bool _)
    have V104 : Arv Z h104 b101 k101 .boolean (4 : Int32) [(.int u0), (.int (0 : Int32)), (.int (0 : Int32)), (.int (0 : Int32))] (.int (0 : Int32)) := set103 wf104 W104 0 rfl (Nat.le_of_ble_eq_true rfl)
    have N104 := Fr.snoc X104 N0 og_b101
    have K105 := K102.wr W104 (Or.inr sz_b101)
    have Z104 : n0 ≤ h104.size := Nat.le_trans Z101 (Keep.of_wr W104).1
    refine own_by st104 ?_
    refine own_by (fun _ k => XS.aloadN X104.here hx rfl (hb hby d1_18) rfl rfl k) ?_
    refine own_by (fun _ k => XS.iconst X104.here hx rfl (hb hby d1_19) k) ?_
    refine own_by (fun _ k => XS.iloadN X104.here hx rfl (hb hby d1_20) rfl k) ?_
    refine own_by (fun _ k => XS.iconst X104.here hx rfl (hb hby d1_21) k) ?_
    refine own_by (fun _ k => XS.iand X104.here hx rfl (hb hby d1_22) rfl k) ?_
    have J31 : ∀ (u1 : Int32) (hb1 : own_bit u1), own_Go p e below (own_End s ({ frames := 0, cells := 1, slots := 4, locals := 0 } : Room).cells ({ frames := 0, cells := 1, slots := 4, locals := 0 } : Room).slots (Q_rm1 Z p1 h0 n0)) T104 (mkF m 31 #[.val (.int p1), .val (.ref b101)] [(.int u1), (.int (1 : Int32)), (.ref b101)]) := by
      intro u1 hb1
      obtain ⟨cl106, Ar106, cq106, hin106, hat106, set106⟩ := own_arv V104 (j := (1 : Int32)) ⟨by decide, by decide⟩
      obtain ⟨T107, h107, X107, e107, W107, st107⟩ := stZ X104 hx hZ e104 Ar106 (j := (1 : Int32)) hin106 (g := (mkF m 31 #[.val (.int p1), .val (.ref b101)] [(.int u1), (.int (1 : Int32)), (.ref b101)])) rfl rfl (hb hby d1_31)
      have wq107 : nar .boolean u1 = u1 := own_bit_nar hb1
      rw [wq107] at W107
      have wf107 : fits .boolean (.int u1) = true := wq107 ▸ (fits_nar_bool _)
      have V107 : Arv Z h107 b101 k101 .boolean (4 : Int32) [(.int u0), (.int u1), (.int (0 : Int32)), (.int (0 : Int32))] (.int (0 : Int32)) := set106 wf107 W107 1 rfl (Nat.le_of_ble_eq_true rfl)
      have N107 := Fr.snoc X107 N104 og_b101
      have K108 := K105.wr W107 (Or.inr sz_b101)
      have Z107 : n0 ≤ h107.size := Nat.le_trans Z104 (Keep.of_wr W107).1
      refine own_by st107 ?_
      show own_Go p e below _ T107 (mkF m 32 #[.val (.int p1), .val (.ref b101)] [])
      refine own_by (fun _ k => XS.aloadN X107.here hx rfl (hb hby d1_32) rfl rfl k) ?_
      refine own_by (fun _ k => XS.iconst X107.here hx rfl (hb hby d1_33) k) ?_
      refine own_by (fun _ k => XS.iloadN X107.here hx rfl (hb hby d1_34) rfl k) ?_
      refine own_by (fun _ k => XS.iconst X107.here hx rfl (hb hby d1_35) k) ?_
      refine own_by (fun _ k => XS.iand X107.here hx rfl (hb hby d1_36) rfl k) ?_
      have J45 : ∀ (u2 : Int32) (hb2 : own_bit u2), own_Go p e below (own_End s ({ frames := 0, cells := 1, slots := 4, locals := 0 } : Room).cells ({ frames := 0, cells := 1, slots := 4, locals := 0 } : Room).slots (Q_rm1 Z p1 h0 n0)) T107 (mkF m 45 #[.val (.int p1), .val (.ref b101)] [(.int u2), (.int (2 : Int32)), (.ref b101)]) := by
        intro u2 hb2
        obtain ⟨cl109, Ar109, cq109, hin109, hat109, set109⟩ := own_arv V107 (j := (2 : Int32)) ⟨by decide, by decide⟩
        obtain ⟨T110, h110, X110, e110, W110, st110⟩ := stZ X107 hx hZ e107 Ar109 (j := (2 : Int32)) hin109 (g := (mkF m 45 #[.val (.int p1), .val (.ref b101)] [(.int u2), (.int (2 : Int32)), (.ref b101)])) rfl rfl (hb hby d1_45)
        have wq110 : nar .boolean u2 = u2 := own_bit_nar hb2
        rw [wq110] at W110
        have wf110 : fits .boolean (.int u2) = true := wq110 ▸ (fits_nar_bool _)
        have V110 : Arv Z h110 b101 k101 .boolean (4 : Int32) [(.int u0), (.int u1), (.int u2), (.int (0 : Int32))] (.int (0 : Int32)) := set109 wf110 W110 2 rfl (Nat.le_of_ble_eq_true rfl)
        have N110 := Fr.snoc X110 N107 og_b101
        have K111 := K108.wr W110 (Or.inr sz_b101)
        have Z110 : n0 ≤ h110.size := Nat.le_trans Z107 (Keep.of_wr W110).1
        refine own_by st110 ?_
        refine own_by (fun _ k => XS.aloadN X110.here hx rfl (hb hby d1_46) rfl rfl k) ?_
        refine own_by (fun _ k => XS.iconst X110.here hx rfl (hb hby d1_47) k) ?_
        show own_Go p e below _ T110 (mkF m 48 #[.val (.int p1), .val (.ref b101)] [(.int (3 : Int32)), (.ref b101)])
        refine own_by (fun _ k => XS.iloadN X110.here hx rfl (hb hby d1_48) rfl k) ?_
        refine own_by (fun _ k => XS.bipush X110.here hx rfl (hb hby d1_49) k) ?_
        refine own_by (fun _ k => XS.iand X110.here hx rfl (hb hby d1_51) rfl k) ?_
        have J60 : ∀ (u3 : Int32) (hb3 : own_bit u3), own_Go p e below (own_End s ({ frames := 0, cells := 1, slots := 4, locals := 0 } : Room).cells ({ frames := 0, cells := 1, slots := 4, locals := 0 } : Room).slots (Q_rm1 Z p1 h0 n0)) T110 (mkF m 60 #[.val (.int p1), .val (.ref b101)] [(.int u3), (.int (3 : Int32)), (.ref b101)]) := by
          intro u3 hb3
          obtain ⟨cl112, Ar112, cq112, hin112, hat112, set112⟩ := own_arv V110 (j := (3 : Int32)) ⟨by decide, by decide⟩
          obtain ⟨T113, h113, X113, e113, W113, st113⟩ := stZ X110 hx hZ e110 Ar112 (j := (3 : Int32)) hin112 (g := (mkF m 60 #[.val (.int p1), .val (.ref b101)] [(.int u3), (.int (3 : Int32)), (.ref b101)])) rfl rfl (hb hby d1_60)
          have wq113 : nar .boolean u3 = u3 := own_bit_nar hb3
          rw [wq113] at W113
          have wf113 : fits .boolean (.int u3) = true := wq113 ▸ (fits_nar_bool _)
          have V113 : Arv Z h113 b101 k101 .boolean (4 : Int32) [(.int u0), (.int u1), (.int u2), (.int u3)] (.int (0 : Int32)) := set112 wf113 W113 3 rfl (Nat.le_of_ble_eq_true rfl)
          have N113 := Fr.snoc X113 N110 og_b101
          have K114 := K111.wr W113 (Or.inr sz_b101)
          have Z113 : n0 ≤ h113.size := Nat.le_trans Z110 (Keep.of_wr W113).1
          refine own_by st113 ?_
          refine own_by (fun _ k => XS.aloadN X113.here hx rfl (hb hby d1_61) rfl rfl k) ?_
          exact own_retA X113 hx hlk hret rfl rfl (hb hby d1_62) (by first | exact ⟨b101, k101, u0, u1, u2, u3, rfl, N113, K114, sz_b101, hb0, hb1, hb2, hb3, V113⟩ | (rw [e113]; exact ⟨b101, k101, u0, u1, u2, u3, rfl, N113, K114, sz_b101, hb0, hb1, hb2, hb3, V113⟩)) (by decide) (by decide)
        by_cases hq3 : (p1 &&& (8 : Int32)) = (0 : Int32)
        · refine own_by (fun _ k => XS.ifYes X110.here hx rfl (pc0 := 52) (pc' := 59) rfl (hb hby d1_52) rfl ((if0 _ _).trans (teq (hq3 : (p1 &&& (8 : Int32)) = (0 : Int32))).1) (by decide) (by decide) k) ?_
          refine own_by (fun _ k => XS.iconst X110.here hx rfl (hb hby d1_59) k) ?_
          exact J60 _ (Or.inl rfl)
        · refine own_by (fun _ k => XS.ifNo X110.here hx rfl (hb hby d1_52) rfl ((if0 _ _).trans (feq (hq3 : ¬ ((p1 &&& (8 : Int32)) = (0 : Int32)))).1) k) ?_
          refine own_by (fun _ k => XS.iconst X110.here hx rfl (hb hby d1_55) k) ?_
          refine own_by (fun _ k => XS.goto X110.here hx rfl (pc0 := 56) (pc' := 60) rfl (hb hby d1_56) (by decide) (by decide) k) ?_
          exact J60 _ (Or.inr rfl)
      by_cases hq2 : (p1 &&& (4 : Int32)) = (0 : Int32)
      · refine own_by (fun _ k => XS.ifYes X107.here hx rfl (pc0 := 37) (pc' := 44) rfl (hb hby d1_37) rfl ((if0 _ _).trans (teq (hq2 : (p1 &&& (4 : Int32)) = (0 : Int32))).1) (by decide) (by decide) k) ?_
        refine own_by (fun _ k => XS.iconst X107.here hx rfl (hb hby d1_44) k) ?_
        exact J45 _ (Or.inl rfl)
      · refine own_by (fun _ k => XS.ifNo X107.here hx rfl (hb hby d1_37) rfl ((if0 _ _).trans (feq (hq2 : ¬ ((p1 &&& (4 : Int32)) = (0 : Int32)))).1) k) ?_
        refine own_by (fun _ k => XS.iconst X107.here hx rfl (hb hby d1_40) k) ?_
        refine own_by (fun _ k => XS.goto X107.here hx rfl (pc0 := 41) (pc' := 45) rfl (hb hby d1_41) (by decide) (by decide) k) ?_
        exact J45 _ (Or.inr rfl)
    by_cases hq1 : (p1 &&& (2 : Int32)) = (0 : Int32)
    · refine own_by (fun _ k => XS.ifYes X104.here hx rfl (pc0 := 23) (pc' := 30) rfl (hb hby d1_23) rfl ((if0 _ _).trans (teq (hq1 : (p1 &&& (2 : Int32)) = (0 : Int32))).1) (by decide) (by decide) k) ?_
      refine own_by (fun _ k => XS.iconst X104.here hx rfl (hb hby d1_30) k) ?_
      show own_Go p e below _ T104 (mkF m 31 #[.val (.int p1), .val (.ref b101)] [(.int (0 : Int32)), (.int (1 : Int32)), (.ref b101)])
      exact J31 _ (Or.inl rfl)
    · refine own_by (fun _ k => XS.ifNo X104.here hx rfl (hb hby d1_23) rfl ((if0 _ _).trans (feq (hq1 : ¬ ((p1 &&& (2 : Int32)) = (0 : Int32)))).1) k) ?_
      refine own_by (fun _ k => XS.iconst X104.here hx rfl (hb hby d1_26) k) ?_
      show own_Go p e below _ T104 (mkF m 27 #[.val (.int p1), .val (.ref b101)] [(.int (1 : Int32)), (.int (1 : Int32)), (.ref b101)])
      refine own_by (fun _ k => XS.goto X104.here hx rfl (pc0 := 27) (pc' := 31) rfl (hb hby d1_27) (by decide) (by decide) k) ?_
      exact J31 _ (Or.inr rfl)
  by_cases hq0 : (p1 &&& (1 : Int32)) = (0 : Int32)
  · refine own_by (fun _ k => XS.ifYes X101.here hx rfl (pc0 := 9) (pc' := 16) rfl (hb hby d1_9) rfl ((if0 _ _).trans (teq (hq0 : (p1 &&& (1 : Int32)) = (0 : Int32))).1) (by decide) (by decide) k) ?_
    refine own_by (fun _ k => XS.iconst X101.here hx rfl (hb hby d1_16) k) ?_
    exact J17 _ (Or.inl rfl)
  · refine own_by (fun _ k => XS.ifNo X101.here hx rfl (hb hby d1_9) rfl ((if0 _ _).trans (feq (hq0 : ¬ ((p1 &&& (1 : Int32)) = (0 : Int32)))).1) k) ?_
    refine own_by (fun _ k => XS.iconst X101.here hx rfl (hb hby d1_12) k) ?_
    refine own_by (fun _ k => XS.goto X101.here hx rfl (pc0 := 13) (pc' := 17) rfl (hb hby d1_13) (by decide) (by decide) k) ?_
    exact J17 _ (Or.inr rfl)
def Q_rm4 (Z : State) (a1 : Addr) (h0 : Heap) (n0 : Nat) (v : Option Value) (h : Heap) (L : List Loc) : Prop := v = none ∧ Fr n0 L ∧ h = h0
theorem pn_rm4 : plainFor (⟨"com/example/eskew/eskew/server/split/CounterValues$WideSum", "<init>", "()V"⟩ : MethodName) = true := plainFor_of_name (by first | (simp [plainName, overriddenIn, x]; done) | decide +kernel)
theorem d4_0 : decode prog_36_method_1_code 0 = .ok (.aload_n 0, 1) := by decide +kernel
theorem d4_1 : decode prog_36_method_1_code 1 = .ok (.invokespecial 1, 3) := by decide +kernel
theorem d4_4 : decode prog_36_method_1_code 4 = .ok (.return_, 1) := by decide +kernel
set_option maxRecDepth 65536 in
set_option maxHeartbeats 40000000 in
theorem rm4 (l : Launch) (Z : State) (a0 : Array Value) (hw : ∀ d ∈ tables_1, d.before a0 Z = true) (ws : List Jvm.Cond) (a1 : Addr) (h0 : Heap) (n0 : Nat) (Z0 : n0 ≤ h0.size)  :
    own_Met l Z (⟨"com/example/eskew/eskew/server/split/CounterValues$WideSum", "<init>", "()V"⟩ : MethodName) prog_36_method_1_code 1 none ws ({ frames := 1, cells := 0, slots := 0, locals := 12 } : Room) #[(.ref a1)] h0 (Q_rm4 Z a1 h0 n0) := by
  refine own_enter (g0 := fun m => (mkF m 0 #[.val (.ref a1)] [])) pn_rm4 (fun m => by first | (simp [entryFrame, mkF, argsToLocals, Value.category, maxLocals]; done) | rfl) ?_
  intro p e s m below meth c s₁ hx hby hml hown hnm hret hlk hZ X0 e0
  have hml : c.maxLocals = 1 := hml
  have hown : s.vm.findClass "com/example/eskew/eskew/server/split/CounterValues$WideSum" = some m.cls := hown
  have N0 := Fr.nil n0
  refine own_by (fun _ k => XS.aloadN X0.here hx rfl (hb hby d4_0) rfl rfl k) ?_
  obtain ⟨T115, X115, e115, st115⟩ := initO X0 hx hZ hown (hw _ (List.mem_of_getElem? (i := 20) rfl)) (hw _ (List.mem_of_getElem? (i := 12) rfl)) (hw _ (List.mem_of_getElem? (i := 13) rfl)) e0 (g := (mkF m 1 #[.val (.ref a1)] [(.ref a1)])) rfl (by rw [hml]; rfl) rfl (hb hby d4_1) (by decide) (W := 0) (by show 2 * 0 + _ ≤ _; exact Nat.le_of_eq rfl) (by decide)
  refine own_by st115 ?_
  exact own_ret0 X115 hx hlk hret (hb hby d4_4) (by first | exact ⟨rfl, N0, rfl⟩ | (rw [e115]; exact ⟨rfl, N0, rfl⟩)) (by decide) (by decide)
def Q_rm5 (Z : State) (a1 : Addr) (q2 : Int64) (h0 : Heap) (n0 : Nat) (v : Option Value) (h : Heap) (L : List Loc) : Prop := v = none ∧ Fr n0 L ∧ Keep h0 h [a1] ∧ Exa Z h a1 "com/example/eskew/eskew/server/split/CounterValues$Tally" ∧ Fld Z h a1 "com/example/eskew/eskew/server/split/CounterValues$Tally" "since" "J" (.long q2)
theorem pn_rm5 : plainFor (⟨"com/example/eskew/eskew/server/split/CounterValues$Tally", "<init>", "(J)V"⟩ : MethodName) = true := plainFor_of_name (by first | (simp [plainName, overriddenIn, x]; done) | decide +kernel)
theorem d5_0 : decode prog_35_method_1_code 0 = .ok (.aload_n 0, 1) := by decide +kernel
theorem d5_1 : decode prog_35_method_1_code 1 = .ok (.invokespecial 1, 3) := by decide +kernel
theorem d5_4 : decode prog_35_method_1_code 4 = .ok (.aload_n 0, 1) := by decide +kernel
theorem d5_5 : decode prog_35_method_1_code 5 = .ok (.lload_n 1, 1) := by decide +kernel
theorem d5_6 : decode prog_35_method_1_code 6 = .ok (.putfield 7, 3) := by decide +kernel
theorem d5_9 : decode prog_35_method_1_code 9 = .ok (.return_, 1) := by decide +kernel
set_option maxRecDepth 65536 in
set_option maxHeartbeats 40000000 in
theorem rm5 (l : Launch) (Z : State) (a0 : Array Value) (hw : ∀ d ∈ tables_1, d.before a0 Z = true) (ws : List Jvm.Cond) (a1 : Addr) (q2 : Int64) (h0 : Heap) (n0 : Nat) (Z0 : n0 ≤ h0.size) (g1 : n0 ≤ a1) (E1 : Exa Z h0 a1 "com/example/eskew/eskew/server/split/CounterValues$Tally") (F1 : Fld Z h0 a1 "com/example/eskew/eskew/server/split/CounterValues$Tally" "since" "J" (.long (0 : Int64))) :
    own_Met l Z (⟨"com/example/eskew/eskew/server/split/CounterValues$Tally", "<init>", "(J)V"⟩ : MethodName) prog_35_method_1_code 3 none ws ({ frames := 1, cells := 0, slots := 0, locals := 12 } : Room) #[(.ref a1), (.long q2)] h0 (Q_rm5 Z a1 q2 h0 n0) := by
  refine own_enter (g0 := fun m => (mkF m 0 #[.val (.ref a1), .val (.long q2), .second] [])) pn_rm5 (fun m => by first | (simp [entryFrame, mkF, argsToLocals, Value.category, maxLocals]; done) | rfl) ?_
  intro p e s m below meth c s₁ hx hby hml hown hnm hret hlk hZ X0 e0
  have hml : c.maxLocals = 3 := hml
  have hown : s.vm.findClass "com/example/eskew/eskew/server/split/CounterValues$Tally" = some m.cls := hown
  have N0 := Fr.nil n0
  have K0 := Keep.refl h0 [a1]
  refine own_by (fun _ k => XS.aloadN X0.here hx rfl (hb hby d5_0) rfl rfl k) ?_
  obtain ⟨T116, X116, e116, st116⟩ := initO X0 hx hZ hown (hw _ (List.mem_of_getElem? (i := 40) rfl)) (hw _ (List.mem_of_getElem? (i := 12) rfl)) (hw _ (List.mem_of_getElem? (i := 13) rfl)) e0 (g := (mkF m 1 #[.val (.ref a1), .val (.long q2), .second] [(.ref a1)])) rfl (by rw [hml]; rfl) rfl (hb hby d5_1) (by decide) (W := 0) (by show 2 * 0 + _ ≤ _; exact Nat.le_of_eq rfl) (by decide)
  refine own_by st116 ?_
  refine own_by (fun _ k => XS.aloadN X116.here hx rfl (hb hby d5_4) rfl rfl k) ?_
  refine own_by (fun _ k => XS.lloadN X116.here hx rfl (hb hby d5_5) rfl k) ?_
  obtain ⟨T117, h117, X117, e117, W117, st117⟩ := putF X116 hx hZ hown (host := "") (Or.inl (hw _ (List.mem_of_getElem? (i := 41) rfl))) Via.refl e116 F1 E1 (Or.inl (hw _ (List.mem_of_getElem? (i := 42) rfl))) (hw _ (List.mem_of_getElem? (i := 35) rfl)) (ty := .long) (by decide) rfl rfl (g := (mkF m 6 #[.val (.ref a1), .val (.long q2), .second] [(.long q2), (.ref a1)])) rfl rfl (hb hby d5_6)
  refine own_by st117 ?_
  have N117 := Fr.snoc X117 N0 g1
  have fw117 := F1.same W117
  have K118 := K0.wr W117 (Or.inl (List.mem_of_getElem? (i := 0) rfl))
  have Z117 : n0 ≤ h117.size := Nat.le_trans Z0 (Keep.of_wr W117).1
  have f119 := (E1.wr W117)
  exact own_ret0 X117 hx hlk hret (hb hby d5_9) (by first | exact ⟨rfl, N117, K118, f119, fw117⟩ | (rw [e117]; exact ⟨rfl, N117, K118, f119, fw117⟩)) (by decide) (by decide)
def Q_rm2_0 (Z : State) (a1 : Addr) (q3 q4 : Int64) (h0 : Heap) (n0 : Nat) (v : Option Value) (h : Heap) (L : List Loc) : Prop := ∃ ta kt tl0, v = none ∧ Fr n0 L ∧ Keep h0 h [a1] ∧ Exa Z h a1 "com/example/eskew/eskew/server/split/CounterValues" ∧ Fld Z h a1 "com/example/eskew/eskew/server/split/CounterValues" "resting" "I" (.int (-1 : Int32)) ∧ Fld Z h a1 "com/example/eskew/eskew/server/split/CounterValues" "restingSince" "J" (.long (0 : Int64)) ∧ Fld Z h a1 "com/example/eskew/eskew/server/split/CounterValues" "nextToRest" "I" (.int (1 : Int32)) ∧ Fld Z h a1 "com/example/eskew/eskew/server/split/CounterValues" "rereadNanos" "J" (.long q3) ∧ Fld Z h a1 "com/example/eskew/eskew/server/split/CounterValues" "tallies" "[Lcom/example/eskew/eskew/server/split/CounterValues$Tally;" (.ref ta) ∧ h0.size ≤ ta ∧ Arv Z h ta kt (.object "com/example/eskew/eskew/server/split/CounterValues$Tally") (1 : Int32) [(.ref tl0)] .null ∧ h0.size ≤ tl0 ∧ Fld Z h tl0 "com/example/eskew/eskew/server/split/CounterValues$Tally" "since" "J" (.long q4)
theorem pn_rm2_0 : plainFor (⟨"com/example/eskew/eskew/server/split/CounterValues", "<init>", "(IJJ)V"⟩ : MethodName) = true := plainFor_of_name (by first | (simp [plainName, overriddenIn, x]; done) | decide +kernel)
theorem d2_0 : decode prog_33_method_1_code 0 = .ok (.aload_n 0, 1) := by decide +kernel
theorem d2_1 : decode prog_33_method_1_code 1 = .ok (.invokespecial 1, 3) := by decide +kernel
theorem d2_4 : decode prog_33_method_1_code 4 = .ok (.aload_n 0, 1) := by decide +kernel
theorem d2_5 : decode prog_33_method_1_code 5 = .ok (.new 7, 3) := by decide +kernel
theorem d2_8 : decode prog_33_method_1_code 8 = .ok (.dup, 1) := by decide +kernel
theorem pd_0 : parseMethodDescriptor "()V" = some ⟨[], none⟩ := by decide +kernel
theorem d2_9 : decode prog_33_method_1_code 9 = .ok (.invokespecial 9, 3) := by decide +kernel
theorem d2_12 : decode prog_33_method_1_code 12 = .ok (.putfield 10, 3) := by decide +kernel
theorem d2_15 : decode prog_33_method_1_code 15 = .ok (.aload_n 0, 1) := by decide +kernel
theorem d2_16 : decode prog_33_method_1_code 16 = .ok (.new 7, 3) := by decide +kernel
theorem d2_19 : decode prog_33_method_1_code 19 = .ok (.dup, 1) := by decide +kernel
theorem d2_20 : decode prog_33_method_1_code 20 = .ok (.invokespecial 9, 3) := by decide +kernel
theorem d2_23 : decode prog_33_method_1_code 23 = .ok (.putfield 16, 3) := by decide +kernel
theorem d2_26 : decode prog_33_method_1_code 26 = .ok (.aload_n 0, 1) := by decide +kernel
theorem d2_27 : decode prog_33_method_1_code 27 = .ok (.iconst (-1), 1) := by decide +kernel
theorem d2_28 : decode prog_33_method_1_code 28 = .ok (.putfield 19, 3) := by decide +kernel
theorem d2_31 : decode prog_33_method_1_code 31 = .ok (.aload_n 0, 1) := by decide +kernel
theorem d2_32 : decode prog_33_method_1_code 32 = .ok (.iconst 1, 1) := by decide +kernel
theorem d2_33 : decode prog_33_method_1_code 33 = .ok (.putfield 23, 3) := by decide +kernel
theorem d2_36 : decode prog_33_method_1_code 36 = .ok (.aload_n 0, 1) := by decide +kernel
theorem d2_37 : decode prog_33_method_1_code 37 = .ok (.lload_n 2, 1) := by decide +kernel
theorem d2_38 : decode prog_33_method_1_code 38 = .ok (.putfield 26, 3) := by decide +kernel
theorem d2_41 : decode prog_33_method_1_code 41 = .ok (.aload_n 0, 1) := by decide +kernel
theorem d2_42 : decode prog_33_method_1_code 42 = .ok (.iload_n 1, 1) := by decide +kernel
theorem d2_43 : decode prog_33_method_1_code 43 = .ok (.anewarray 30, 3) := by decide +kernel
theorem d2_46 : decode prog_33_method_1_code 46 = .ok (.putfield 32, 3) := by decide +kernel
theorem d2_49 : decode prog_33_method_1_code 49 = .ok (.iconst 0, 1) := by decide +kernel
theorem d2_50 : decode prog_33_method_1_code 50 = .ok (.istore 6, 2) := by decide +kernel
theorem d2_52 : decode prog_33_method_1_code 52 = .ok (.iload 6, 2) := by decide +kernel
theorem d2_54 : decode prog_33_method_1_code 54 = .ok (.iload_n 1, 1) := by decide +kernel
theorem d2_55 : decode prog_33_method_1_code 55 = .ok (.if_icmp .ge 25, 3) := by decide +kernel
theorem d2_58 : decode prog_33_method_1_code 58 = .ok (.aload_n 0, 1) := by decide +kernel
theorem d2_59 : decode prog_33_method_1_code 59 = .ok (.getfield 32, 3) := by decide +kernel
theorem d2_62 : decode prog_33_method_1_code 62 = .ok (.iload 6, 2) := by decide +kernel
theorem d2_64 : decode prog_33_method_1_code 64 = .ok (.new 30, 3) := by decide +kernel
theorem d2_67 : decode prog_33_method_1_code 67 = .ok (.dup, 1) := by decide +kernel
theorem d2_68 : decode prog_33_method_1_code 68 = .ok (.lload 4, 2) := by decide +kernel
theorem pd_1 : parseMethodDescriptor "(J)V" = some ⟨[.long], none⟩ := by decide +kernel
theorem d2_70 : decode prog_33_method_1_code 70 = .ok (.invokespecial 36, 3) := by decide +kernel
theorem d2_73 : decode prog_33_method_1_code 73 = .ok (.aastore, 1) := by decide +kernel
theorem d2_74 : decode prog_33_method_1_code 74 = .ok (.iinc 6 1, 3) := by decide +kernel
theorem d2_77 : decode prog_33_method_1_code 77 = .ok (.goto (-25), 3) := by decide +kernel
theorem d2_80 : decode prog_33_method_1_code 80 = .ok (.return_, 1) := by decide +kernel
set_option maxRecDepth 65536 in
set_option maxHeartbeats 40000000 in
theorem rm2_0 (l : Launch) (Z : State) (a0 : Array Value) (hw : ∀ d ∈ tables_1, d.before a0 Z = true) (ws : List Jvm.Cond) (a1 : Addr) (q3 q4 : Int64) (h0 : Heap) (n0 : Nat) (Z0 : n0 ≤ h0.size) (g1 : n0 ≤ a1) (E1 : Exa Z h0 a1 "com/example/eskew/eskew/server/split/CounterValues") (F_rising : Fld Z h0 a1 "com/example/eskew/eskew/server/split/CounterValues" "rising" "Lcom/example/eskew/eskew/server/split/CounterValues$WideSum;" .null) (F_falling : Fld Z h0 a1 "com/example/eskew/eskew/server/split/CounterValues" "falling" "Lcom/example/eskew/eskew/server/split/CounterValues$WideSum;" .null) (F_resting : Fld Z h0 a1 "com/example/eskew/eskew/server/split/CounterValues" "resting" "I" (.int (0 : Int32))) (F_nextToRest : Fld Z h0 a1 "com/example/eskew/eskew/server/split/CounterValues" "nextToRest" "I" (.int (0 : Int32))) (F_rereadNanos : Fld Z h0 a1 "com/example/eskew/eskew/server/split/CounterValues" "rereadNanos" "J" (.long (0 : Int64))) (F_tallies : Fld Z h0 a1 "com/example/eskew/eskew/server/split/CounterValues" "tallies" "[Lcom/example/eskew/eskew/server/split/CounterValues$Tally;" .null) (F_restingSince : Fld Z h0 a1 "com/example/eskew/eskew/server/split/CounterValues" "restingSince" "J" (.long (0 : Int64))) :
    own_Met l Z (⟨"com/example/eskew/eskew/server/split/CounterValues", "<init>", "(IJJ)V"⟩ : MethodName) prog_33_method_1_code 7 none ws ({ frames := 2, cells := 4, slots := 14, locals := 48 } : Room) #[(.ref a1), (.int (1 : Int32)), (.long q3), (.long q4)] h0 (Q_rm2_0 Z a1 q3 q4 h0 n0) := by
  refine own_enter (g0 := fun m => (mkF m 0 #[.val (.ref a1), .val (.int (1 : Int32)), .val (.long q3), .second, .val (.long q4), .second, .unset] [])) pn_rm2_0 (fun m => by first | (simp [entryFrame, mkF, argsToLocals, Value.category, maxLocals]; done) | rfl) ?_
  intro p e s m below meth c s₁ hx hby hml hown hnm hret hlk hZ X0 e0
  have hml : c.maxLocals = 7 := hml
  have hown : s.vm.findClass "com/example/eskew/eskew/server/split/CounterValues" = some m.cls := hown
  have N0 := Fr.nil n0
  have K0 := Keep.refl h0 [a1]
  refine own_by (fun _ k => XS.aloadN X0.here hx rfl (hb hby d2_0) rfl rfl k) ?_
  obtain ⟨T120, X120, e120, st120⟩ := initO X0 hx hZ hown (hw _ (List.mem_of_getElem? (i := 11) rfl)) (hw _ (List.mem_of_getElem? (i := 12) rfl)) (hw _ (List.mem_of_getElem? (i := 13) rfl)) e0 (g := (mkF m 1 #[.val (.ref a1), .val (.int (1 : Int32)), .val (.long q3), .second, .val (.long q4), .second, .unset] [(.ref a1)])) rfl (by rw [hml]; rfl) rfl (hb hby d2_1) (by decide) (W := 0) (by show 2 * 0 + _ ≤ _; exact Nat.le_of_eq rfl) (by decide)
  refine own_by st120 ?_
  refine own_by (fun _ k => XS.aloadN X120.here hx rfl (hb hby d2_4) rfl rfl k) ?_
  obtain ⟨T121, h121, X121, e121, E121, A121, D121, -, st121⟩ := newO X120 hx hZ hown (hw _ (List.mem_of_getElem? (i := 14) rfl)) (hw _ (List.mem_of_getElem? (i := 15) rfl)) (hw _ (List.mem_of_getElem? (i := 16) rfl)) e120 (g := (mkF m 5 #[.val (.ref a1), .val (.int (1 : Int32)), .val (.long q3), .second, .val (.long q4), .second, .unset] [(.ref a1)])) rfl (hb hby d2_5) (by decide) (by decide)
  obtain ⟨b121, g121⟩ : ∃ zq, zq = h0.size := ⟨_, rfl⟩
  rw [← g121] at A121 D121 st121
  have ne_a1_b121 : a1 ≠ b121 := Nat.ne_of_lt (Nat.lt_of_lt_of_le F_rising.lt (Nat.le_of_eq g121.symm))
  have og_b121 : n0 ≤ b121 := Nat.le_trans Z0 (Nat.le_of_eq g121.symm)
  have sz_b121 : h0.size ≤ b121 := Nat.le_trans K0.1 (Nat.le_of_eq g121.symm)
  have Z121 : n0 ≤ h121.size := Nat.le_trans Z0 E121.1
  have K122 := K0.ext E121
  refine own_by st121 ?_
  refine own_by (fun _ k => XS.dup X121.here hx rfl (hb hby d2_8) rfl rfl k) ?_
  obtain ⟨_, T123, L123, X123, ⟨rfl, N123q, e123⟩, st123⟩ := own_callR X121 hx hZ hown (y := (⟨"com/example/eskew/eskew/server/split/CounterValues$WideSum", "<init>", "()V"⟩ : MethodName)) rfl (hw _ (List.mem_of_getElem? (i := 17) rfl)) (hw _ (List.mem_of_getElem? (i := 18) rfl)) (hw _ (List.mem_of_getElem? (i := 16) rfl)) (hw _ (List.mem_of_getElem? (i := 19) rfl)) (by decide) (a := b121) (argsL := []) (rest := [(.ref b121), (.ref a1)]) e121 (rm4 l Z a0 hw [] b121 h121 n0 Z121) (g := (mkF m 9 #[.val (.ref a1), .val (.int (1 : Int32)), .val (.long q3), .second, .val (.long q4), .second, .unset] [(.ref b121), (.ref b121), (.ref a1)])) rfl (by rw [hml]; rfl) (lenOf pd_0 rfl) rfl (W := 2) (by show 2 * 0 + _ ≤ _; exact Nat.le_of_eq rfl) (hb hby d2_9) (by decide) (by decide) (by decide) (by decide)
  have N123 := Fr.app N0 N123q
  refine own_by st123 ?_
  have f125 := (F_rising.ext E121)
  have f126 := (E1.ext E121)
  obtain ⟨T124, h124, X124, e124, W124, st124⟩ := putF X123 hx hZ hown (host := "") (Or.inl (hw _ (List.mem_of_getElem? (i := 21) rfl))) Via.refl e123 f125 f126 (Or.inr ⟨(hw _ (List.mem_of_getElem? (i := 22) rfl)), rfl, hnm⟩) (hw _ (List.mem_of_getElem? (i := 6) rfl)) (ty := (.object "com/example/eskew/eskew/server/split/CounterValues$WideSum")) (by decide) rfl rfl (g := (mkF m 12 #[.val (.ref a1), .val (.int (1 : Int32)), .val (.long q3), .second, .val (.long q4), .second, .unset] [(.ref b121), (.ref a1)])) rfl rfl (hb hby d2_12)
  refine own_by st124 ?_
  have N124 := Fr.snoc X124 N123 g1
  have fw124 := f125.same W124
  have K127 := K122.wr W124 (Or.inl (List.mem_of_getElem? (i := 0) rfl))
  have Z124 : n0 ≤ h124.size := Nat.le_trans Z121 (Keep.of_wr W124).1
  refine own_by (fun _ k => XS.aloadN X124.here hx rfl (hb hby d2_15) rfl rfl k) ?_
  show own_Go p e below _ T124 (mkF m 16 #[.val (.ref a1), .val (.int (1 : Int32)), .val (.long q3), .second, .val (.long q4), .second, .unset] [(.ref a1)])
  obtain ⟨T128, h128, X128, e128, E128, A128, D128, -, st128⟩ := newO X124 hx hZ hown (hw _ (List.mem_of_getElem? (i := 14) rfl)) (hw _ (List.mem_of_getElem? (i := 15) rfl)) (hw _ (List.mem_of_getElem? (i := 16) rfl)) e124 (g := (mkF m 16 #[.val (.ref a1), .val (.int (1 : Int32)), .val (.long q3), .second, .val (.long q4), .second, .unset] [(.ref a1)])) rfl (hb hby d2_16) (by decide) (by decide)
  obtain ⟨b128, g128⟩ : ∃ zq, zq = h124.size := ⟨_, rfl⟩
  rw [← g128] at A128 D128 st128
  have ne_a1_b128 : a1 ≠ b128 := Nat.ne_of_lt (Nat.lt_of_lt_of_le fw124.lt (Nat.le_of_eq g128.symm))
  have f129 := (A121.wr W124)
  have ne_b121_b128 : b121 ≠ b128 := Nat.ne_of_lt (Nat.lt_of_lt_of_le f129.lt (Nat.le_of_eq g128.symm))
  have og_b128 : n0 ≤ b128 := Nat.le_trans Z124 (Nat.le_of_eq g128.symm)
  have sz_b128 : h0.size ≤ b128 := Nat.le_trans K127.1 (Nat.le_of_eq g128.symm)
  have Z128 : n0 ≤ h128.size := Nat.le_trans Z124 E128.1
  have K130 := K127.ext E128
  refine own_by st128 ?_
  refine own_by (fun _ k => XS.dup X128.here hx rfl (hb hby d2_19) rfl rfl k) ?_
  obtain ⟨_, T131, L131, X131, ⟨rfl, N131q, e131⟩, st131⟩ := own_callR X128 hx hZ hown (y := (⟨"com/example/eskew/eskew/server/split/CounterValues$WideSum", "<init>", "()V"⟩ : MethodName)) rfl (hw _ (List.mem_of_getElem? (i := 17) rfl)) (hw _ (List.mem_of_getElem? (i := 18) rfl)) (hw _ (List.mem_of_getElem? (i := 16) rfl)) (hw _ (List.mem_of_getElem? (i := 19) rfl)) (by decide) (a := b128) (argsL := []) (rest := [(.ref b128), (.ref a1)]) e128 (rm4 l Z a0 hw [] b128 h128 n0 Z128) (g := (mkF m 20 #[.val (.ref a1), .val (.int (1 : Int32)), .val (.long q3), .second, .val (.long q4), .second, .unset] [(.ref b128), (.ref b128), (.ref a1)])) rfl (by rw [hml]; rfl) (lenOf pd_0 rfl) rfl (W := 2) (by show 2 * 0 + _ ≤ _; exact Nat.le_of_eq rfl) (hb hby d2_20) (by decide) (by decide) (by decide) (by decide)
  have N131 := Fr.app N124 N131q
  refine own_by st131 ?_
  have f133 := (((F_falling.ext E121).other W124 (Or.inr (slot_ne (Or.inr (hw _ (List.mem_of_getElem? (i := 24) rfl))) (Or.inr (hw _ (List.mem_of_getElem? (i := 22) rfl))) (by decide) (t := (.object "com/example/eskew/eskew/server/split/CounterValues$WideSum")) (t' := (.object "com/example/eskew/eskew/server/split/CounterValues$WideSum")) (by decide) (by decide)))).ext E128)
  have f134 := ((f126.wr W124).ext E128)
  obtain ⟨T132, h132, X132, e132, W132, st132⟩ := putF X131 hx hZ hown (host := "") (Or.inl (hw _ (List.mem_of_getElem? (i := 23) rfl))) Via.refl e131 f133 f134 (Or.inr ⟨(hw _ (List.mem_of_getElem? (i := 24) rfl)), rfl, hnm⟩) (hw _ (List.mem_of_getElem? (i := 6) rfl)) (ty := (.object "com/example/eskew/eskew/server/split/CounterValues$WideSum")) (by decide) rfl rfl (g := (mkF m 23 #[.val (.ref a1), .val (.int (1 : Int32)), .val (.long q3), .second, .val (.long q4), .second, .unset] [(.ref b128), (.ref a1)])) rfl rfl (hb hby d2_23)
  refine own_by st132 ?_
  have N132 := Fr.snoc X132 N131 g1
  have fw132 := f133.same W132
  have K135 := K130.wr W132 (Or.inl (List.mem_of_getElem? (i := 0) rfl))
  have Z132 : n0 ≤ h132.size := Nat.le_trans Z128 (Keep.of_wr W132).1
  refine own_by (fun _ k => XS.aloadN X132.here hx rfl (hb hby d2_26) rfl rfl k) ?_
  refine own_by (fun _ k => XS.iconst X132.here hx rfl (hb hby d2_27) k) ?_
  have f137 := ((((F_resting.ext E121).other W124 (Or.inr (slot_ne (Or.inl (hw _ (List.mem_of_getElem? (i := 26) rfl))) (Or.inr (hw _ (List.mem_of_getElem? (i := 22) rfl))) (by decide) (t := .int) (t' := (.object "com/example/eskew/eskew/server/split/CounterValues$WideSum")) (by decide) (by decide)))).ext E128).other W132 (Or.inr (slot_ne (Or.inl (hw _ (List.mem_of_getElem? (i := 26) rfl))) (Or.inr (hw _ (List.mem_of_getElem? (i := 24) rfl))) (by decide) (t := .int) (t' := (.object "com/example/eskew/eskew/server/split/CounterValues$WideSum")) (by decide) (by decide))))
  have f138 := (f134.wr W132)
  obtain ⟨T136, h136, X136, e136, W136, st136⟩ := putF X132 hx hZ hown (host := "") (Or.inl (hw _ (List.mem_of_getElem? (i := 25) rfl))) Via.refl e132 f137 f138 (Or.inl (hw _ (List.mem_of_getElem? (i := 26) rfl))) (hw _ (List.mem_of_getElem? (i := 6) rfl)) (ty := .int) (by decide) rfl rfl (g := (mkF m 28 #[.val (.ref a1), .val (.int (1 : Int32)), .val (.long q3), .second, .val (.long q4), .second, .unset] [(.int (-1 : Int32)), (.ref a1)])) rfl rfl (hb hby d2_28)
  refine own_by st136 ?_
  have N136 := Fr.snoc X136 N132 g1
  have fw136 := f137.same W136
  have K139 := K135.wr W136 (Or.inl (List.mem_of_getElem? (i := 0) rfl))
  have Z136 : n0 ≤ h136.size := Nat.le_trans Z132 (Keep.of_wr W136).1
  refine own_by (fun _ k => XS.aloadN X136.here hx rfl (hb hby d2_31) rfl rfl k) ?_
  refine own_by (fun _ k => XS.iconst X136.here hx rfl (hb hby d2_32) k) ?_
  show own_Go p e below _ T136 (mkF m 33 #[.val (.ref a1), .val (.int (1 : Int32)), .val (.long q3), .second, .val (.long q4), .second, .unset] [(.int (1 : Int32)), (.ref a1)])
  have f141 := (((((F_nextToRest.ext E121).other W124 (Or.inr (slot_ne (Or.inl (hw _ (List.mem_of_getElem? (i := 28) rfl))) (Or.inr (hw _ (List.mem_of_getElem? (i := 22) rfl))) (by decide) (t := .int) (t' := (.object "com/example/eskew/eskew/server/split/CounterValues$WideSum")) (by decide) (by decide)))).ext E128).other W132 (Or.inr (slot_ne (Or.inl (hw _ (List.mem_of_getElem? (i := 28) rfl))) (Or.inr (hw _ (List.mem_of_getElem? (i := 24) rfl))) (by decide) (t := .int) (t' := (.object "com/example/eskew/eskew/server/split/CounterValues$WideSum")) (by decide) (by decide)))).other W136 (Or.inr (slot_ne (Or.inl (hw _ (List.mem_of_getElem? (i := 28) rfl))) (Or.inl (hw _ (List.mem_of_getElem? (i := 26) rfl))) (by decide) (t := .int) (t' := .int) (by decide) (by decide))))
  have f142 := (f138.wr W136)
  obtain ⟨T140, h140, X140, e140, W140, st140⟩ := putF X136 hx hZ hown (host := "") (Or.inl (hw _ (List.mem_of_getElem? (i := 27) rfl))) Via.refl e136 f141 f142 (Or.inl (hw _ (List.mem_of_getElem? (i := 28) rfl))) (hw _ (List.mem_of_getElem? (i := 6) rfl)) (ty := .int) (by decide) rfl rfl (g := (mkF m 33 #[.val (.ref a1), .val (.int (1 : Int32)), .val (.long q3), .second, .val (.long q4), .second, .unset] [(.int (1 : Int32)), (.ref a1)])) rfl rfl (hb hby d2_33)
  refine own_by st140 ?_
  have N140 := Fr.snoc X140 N136 g1
  have fw140 := f141.same W140
  have K143 := K139.wr W140 (Or.inl (List.mem_of_getElem? (i := 0) rfl))
  have Z140 : n0 ≤ h140.size := Nat.le_trans Z136 (Keep.of_wr W140).1
  refine own_by (fun _ k => XS.aloadN X140.here hx rfl (hb hby d2_36) rfl rfl k) ?_
  refine own_by (fun _ k => XS.lloadN X140.here hx rfl (hb hby d2_37) rfl k) ?_
  have f145 := ((((((F_rereadNanos.ext E121).other W124 (Or.inr (slot_ne (Or.inr (hw _ (List.mem_of_getElem? (i := 30) rfl))) (Or.inr (hw _ (List.mem_of_getElem? (i := 22) rfl))) (by decide) (t := .long) (t' := (.object "com/example/eskew/eskew/server/split/CounterValues$WideSum")) (by decide) (by decide)))).ext E128).other W132 (Or.inr (slot_ne (Or.inr (hw _ (List.mem_of_getElem? (i := 30) rfl))) (Or.inr (hw _ (List.mem_of_getElem? (i := 24) rfl))) (by decide) (t := .long) (t' := (.object "com/example/eskew/eskew/server/split/CounterValues$WideSum")) (by decide) (by decide)))).other W136 (Or.inr (slot_ne (Or.inr (hw _ (List.mem_of_getElem? (i := 30) rfl))) (Or.inl (hw _ (List.mem_of_getElem? (i := 26) rfl))) (by decide) (t := .long) (t' := .int) (by decide) (by decide)))).other W140 (Or.inr (slot_ne (Or.inr (hw _ (List.mem_of_getElem? (i := 30) rfl))) (Or.inl (hw _ (List.mem_of_getElem? (i := 28) rfl))) (by decide) (t := .long) (t' := .int) (by decide) (by decide))))
  have f146 := (f142.wr W140)
  obtain ⟨T144, h144, X144, e144, W144, st144⟩ := putF X140 hx hZ hown (host := "") (Or.inl (hw _ (List.mem_of_getElem? (i := 29) rfl))) Via.refl e140 f145 f146 (Or.inr ⟨(hw _ (List.mem_of_getElem? (i := 30) rfl)), rfl, hnm⟩) (hw _ (List.mem_of_getElem? (i := 6) rfl)) (ty := .long) (by decide) rfl rfl (g := (mkF m 38 #[.val (.ref a1), .val (.int (1 : Int32)), .val (.long q3), .second, .val (.long q4), .second, .unset] [(.long q3), (.ref a1)])) rfl rfl (hb hby d2_38)
  refine own_by st144 ?_
  have N144 := Fr.snoc X144 N140 g1
  have fw144 := f145.same W144
  have K147 := K143.wr W144 (Or.inl (List.mem_of_getElem? (i := 0) rfl))
  have Z144 : n0 ≤ h144.size := Nat.le_trans Z140 (Keep.of_wr W144).1
  refine own_by (fun _ k => XS.aloadN X144.here hx rfl (hb hby d2_41) rfl rfl k) ?_
  refine own_by (fun _ k => XS.iloadN X144.here hx rfl (hb hby d2_42) rfl k) ?_
  obtain ⟨T148, h148, k148, X148, e148, E148, A148, O148, st148⟩ := newR X144 hx hZ hown (hw _ (List.mem_of_getElem? (i := 31) rfl)) (hw _ (List.mem_of_getElem? (i := 32) rfl)) e144 (g := (mkF m 43 #[.val (.ref a1), .val (.int (1 : Int32)), .val (.long q3), .second, .val (.long q4), .second, .unset] [(.int (1 : Int32)), (.ref a1)])) rfl (hb hby d2_43) rfl (by decide) (cap := 1) (by decide) (by decide) (by decide) (by decide)
  obtain ⟨b148, g148⟩ : ∃ zq, zq = h144.size := ⟨_, rfl⟩
  rw [← g148] at A148 st148
  have f149 := (((((fw124.ext E128).other W132 (Or.inr (slot_ne (Or.inr (hw _ (List.mem_of_getElem? (i := 22) rfl))) (Or.inr (hw _ (List.mem_of_getElem? (i := 24) rfl))) (by decide) (t := (.object "com/example/eskew/eskew/server/split/CounterValues$WideSum")) (t' := (.object "com/example/eskew/eskew/server/split/CounterValues$WideSum")) (by decide) (by decide)))).other W136 (Or.inr (slot_ne (Or.inr (hw _ (List.mem_of_getElem? (i := 22) rfl))) (Or.inl (hw _ (List.mem_of_getElem? (i := 26) rfl))) (by decide) (t := (.object "com/example/eskew/eskew/server/split/CounterValues$WideSum")) (t' := .int) (by decide) (by decide)))).other W140 (Or.inr (slot_ne (Or.inr (hw _ (List.mem_of_getElem? (i := 22) rfl))) (Or.inl (hw _ (List.mem_of_getElem? (i := 28) rfl))) (by decide) (t := (.object "com/example/eskew/eskew/server/split/CounterValues$WideSum")) (t' := .int) (by decide) (by decide)))).other W144 (Or.inr (slot_ne (Or.inr (hw _ (List.mem_of_getElem? (i := 22) rfl))) (Or.inr (hw _ (List.mem_of_getElem? (i := 30) rfl))) (by decide) (t := (.object "com/example/eskew/eskew/server/split/CounterValues$WideSum")) (t' := .long) (by decide) (by decide))))
  have ne_a1_b148 : a1 ≠ b148 := Nat.ne_of_lt (Nat.lt_of_lt_of_le f149.lt (Nat.le_of_eq g148.symm))
  have f150 := (((((f129.ext E128).wr W132).wr W136).wr W140).wr W144)
  have ne_b121_b148 : b121 ≠ b148 := Nat.ne_of_lt (Nat.lt_of_lt_of_le f150.lt (Nat.le_of_eq g148.symm))
  have f151 := ((((A128.wr W132).wr W136).wr W140).wr W144)
  have ne_b128_b148 : b128 ≠ b148 := Nat.ne_of_lt (Nat.lt_of_lt_of_le f151.lt (Nat.le_of_eq g148.symm))
  have og_b148 : n0 ≤ b148 := Nat.le_trans Z144 (Nat.le_of_eq g148.symm)
  have sz_b148 : h0.size ≤ b148 := Nat.le_trans K147.1 (Nat.le_of_eq g148.symm)
  have Z148 : n0 ≤ h148.size := Nat.le_trans Z144 E148.1
  have K152 := K147.ext E148
  have V148 : Arv Z h148 b148 k148 (.object "com/example/eskew/eskew/server/split/CounterValues$Tally") (1 : Int32) [.null] .null := (Arv.new A148 (by decide)).pad (pad_rep [] .null 1)
  refine own_by st148 ?_
  have f154 := ((((((((F_tallies.ext E121).other W124 (Or.inr (slot_ne (Or.inr (hw _ (List.mem_of_getElem? (i := 34) rfl))) (Or.inr (hw _ (List.mem_of_getElem? (i := 22) rfl))) (by decide) (t := (.array (.object "com/example/eskew/eskew/server/split/CounterValues$Tally"))) (t' := (.object "com/example/eskew/eskew/server/split/CounterValues$WideSum")) (by decide) (by decide)))).ext E128).other W132 (Or.inr (slot_ne (Or.inr (hw _ (List.mem_of_getElem? (i := 34) rfl))) (Or.inr (hw _ (List.mem_of_getElem? (i := 24) rfl))) (by decide) (t := (.array (.object "com/example/eskew/eskew/server/split/CounterValues$Tally"))) (t' := (.object "com/example/eskew/eskew/server/split/CounterValues$WideSum")) (by decide) (by decide)))).other W136 (Or.inr (slot_ne (Or.inr (hw _ (List.mem_of_getElem? (i := 34) rfl))) (Or.inl (hw _ (List.mem_of_getElem? (i := 26) rfl))) (by decide) (t := (.array (.object "com/example/eskew/eskew/server/split/CounterValues$Tally"))) (t' := .int) (by decide) (by decide)))).other W140 (Or.inr (slot_ne (Or.inr (hw _ (List.mem_of_getElem? (i := 34) rfl))) (Or.inl (hw _ (List.mem_of_getElem? (i := 28) rfl))) (by decide) (t := (.array (.object "com/example/eskew/eskew/server/split/CounterValues$Tally"))) (t' := .int) (by decide) (by decide)))).other W144 (Or.inr (slot_ne (Or.inr (hw _ (List.mem_of_getElem? (i := 34) rfl))) (Or.inr (hw _ (List.mem_of_getElem? (i := 30) rfl))) (by decide) (t := (.array (.object "com/example/eskew/eskew/server/split/CounterValues$Tally"))) (t' := .long) (by decide) (by decide)))).ext E148)
  have f155 := ((f146.wr W144).ext E148)
  obtain ⟨T153, h153, X153, e153, W153, st153⟩ := putF X148 hx hZ hown (host := "") (Or.inl (hw _ (List.mem_of_getElem? (i := 33) rfl))) Via.refl e148 f154 f155 (Or.inr ⟨(hw _ (List.mem_of_getElem? (i := 34) rfl)), rfl, hnm⟩) (hw _ (List.mem_of_getElem? (i := 6) rfl)) (ty := (.array (.object "com/example/eskew/eskew/server/split/CounterValues$Tally"))) (by decide) rfl rfl (g := (mkF m 46 #[.val (.ref a1), .val (.int (1 : Int32)), .val (.long q3), .second, .val (.long q4), .second, .unset] [(.ref b148), (.ref a1)])) rfl rfl (hb hby d2_46)
  refine own_by st153 ?_
  have N153 := Fr.snoc X153 N144 g1
  have fw153 := f154.same W153
  have K156 := K152.wr W153 (Or.inl (List.mem_of_getElem? (i := 0) rfl))
  have Z153 : n0 ≤ h153.size := Nat.le_trans Z148 (Keep.of_wr W153).1
  refine own_by (fun _ k => XS.iconst X153.here hx rfl (hb hby d2_49) k) ?_
  show own_Go p e below _ T153 (mkF m 50 #[.val (.ref a1), .val (.int (1 : Int32)), .val (.long q3), .second, .val (.long q4), .second, .unset] [(.int (0 : Int32))])
  refine own_by (fun _ k => XS.istore X153.here hx rfl (hb hby d2_50) rfl (l' := #[.val (.ref a1), .val (.int (1 : Int32)), .val (.long q3), .second, .val (.long q4), .second, .val (.int (0 : Int32))]) rfl k) ?_
  refine own_by (fun _ k => XS.iload X153.here hx rfl (hb hby d2_52) rfl k) ?_
  refine own_by (fun _ k => XS.iloadN X153.here hx rfl (hb hby d2_54) rfl k) ?_
  refine own_by (fun _ k => XS.icmpNo X153.here hx rfl (hb hby d2_55) rfl (tlt (by decide : (0 : Int32) < (1 : Int32))).2.1 k) ?_
  refine own_by (fun _ k => XS.aloadN X153.here hx rfl (hb hby d2_58) rfl rfl k) ?_
  obtain ⟨T157, X157, e157, st157⟩ := getF X153 hx hZ hown (host := "") (Or.inl (hw _ (List.mem_of_getElem? (i := 33) rfl))) Via.refl e153 fw153 (g := (mkF m 59 #[.val (.ref a1), .val (.int (1 : Int32)), .val (.long q3), .second, .val (.long q4), .second, .val (.int (0 : Int32))] [(.ref a1)])) rfl rfl (hb hby d2_59)
  refine own_by st157 ?_
  refine own_by (fun _ k => XS.iload X157.here hx rfl (hb hby d2_62) rfl k) ?_
  obtain ⟨T158, h158, X158, e158, E158, A158, D158, -, st158⟩ := newO X157 hx hZ hown (hw _ (List.mem_of_getElem? (i := 31) rfl)) (hw _ (List.mem_of_getElem? (i := 35) rfl)) (hw _ (List.mem_of_getElem? (i := 36) rfl)) e157 (g := (mkF m 64 #[.val (.ref a1), .val (.int (1 : Int32)), .val (.long q3), .second, .val (.long q4), .second, .val (.int (0 : Int32))] [(.int (0 : Int32)), (.ref b148)])) rfl (hb hby d2_64) (by decide) (by decide)
  obtain ⟨b158, g158⟩ : ∃ zq, zq = h153.size := ⟨_, rfl⟩
  rw [← g158] at A158 D158 st158
  have f159 := ((f149.ext E148).other W153 (Or.inr (slot_ne (Or.inr (hw _ (List.mem_of_getElem? (i := 22) rfl))) (Or.inr (hw _ (List.mem_of_getElem? (i := 34) rfl))) (by decide) (t := (.object "com/example/eskew/eskew/server/split/CounterValues$WideSum")) (t' := (.array (.object "com/example/eskew/eskew/server/split/CounterValues$Tally"))) (by decide) (by decide))))
  have ne_a1_b158 : a1 ≠ b158 := Nat.ne_of_lt (Nat.lt_of_lt_of_le f159.lt (Nat.le_of_eq g158.symm))
  have f160 := ((f150.ext E148).wr W153)
  have ne_b121_b158 : b121 ≠ b158 := Nat.ne_of_lt (Nat.lt_of_lt_of_le f160.lt (Nat.le_of_eq g158.symm))
  have f161 := ((f151.ext E148).wr W153)
  have ne_b128_b158 : b128 ≠ b158 := Nat.ne_of_lt (Nat.lt_of_lt_of_le f161.lt (Nat.le_of_eq g158.symm))
  have f162 := (V148.other W153 (Ne.symm ne_a1_b148))
  have ne_b148_b158 : b148 ≠ b158 := Nat.ne_of_lt (Nat.lt_of_lt_of_le f162.lt (Nat.le_of_eq g158.symm))
  have og_b158 : n0 ≤ b158 := Nat.le_trans Z153 (Nat.le_of_eq g158.symm)
  have sz_b158 : h0.size ≤ b158 := Nat.le_trans K156.1 (Nat.le_of_eq g158.symm)
  have Z158 : n0 ≤ h158.size := Nat.le_trans Z153 E158.1
  have K163 := K156.ext E158
  have F_since_b158 : Fld Z h158 b158 "com/example/eskew/eskew/server/split/CounterValues$Tally" "since" "J" (.long (0 : Int64)) := D158 (Or.inl (hw _ (List.mem_of_getElem? (i := 42) rfl))) (ty := .long) (by decide)
  refine own_by st158 ?_
  refine own_by (fun _ k => XS.dup X158.here hx rfl (hb hby d2_67) rfl rfl k) ?_
  show own_Go p e below _ T158 (mkF m 68 #[.val (.ref a1), .val (.int (1 : Int32)), .val (.long q3), .second, .val (.long q4), .second, .val (.int (0 : Int32))] [(.ref b158), (.ref b158), (.int (0 : Int32)), (.ref b148)])
  refine own_by (fun _ k => XS.lload X158.here hx rfl (hb hby d2_68) rfl k) ?_
  have f164 := (f159.ext E158)
  have f165 := (f160.ext E158)
  have f166 := (f161.ext E158)
  have f167 := (f162.ext E158)
  obtain ⟨_, T168, L168, X168, ⟨rfl, N168q, K0', E0', S0'⟩, st168⟩ := own_callR X158 hx hZ hown (y := (⟨"com/example/eskew/eskew/server/split/CounterValues$Tally", "<init>", "(J)V"⟩ : MethodName)) rfl (hw _ (List.mem_of_getElem? (i := 37) rfl)) (hw _ (List.mem_of_getElem? (i := 38) rfl)) (hw _ (List.mem_of_getElem? (i := 36) rfl)) (hw _ (List.mem_of_getElem? (i := 39) rfl)) (by decide) (a := b158) (argsL := [(.long q4)]) (rest := [(.ref b158), (.int (0 : Int32)), (.ref b148)]) e158 (rm5 l Z a0 hw [] b158 q4 h158 n0 Z158 og_b158 A158 F_since_b158) (g := (mkF m 70 #[.val (.ref a1), .val (.int (1 : Int32)), .val (.long q3), .second, .val (.long q4), .second, .val (.int (0 : Int32))] [(.long q4), (.ref b158), (.ref b158), (.int (0 : Int32)), (.ref b148)])) rfl (by rw [hml]; rfl) (lenOf pd_1 rfl) rfl (W := 3) (by show 2 * 0 + _ ≤ _; exact Nat.le_of_eq rfl) (hb hby d2_70) (by decide) (by decide) (by decide) (by decide)
  have N168 := Fr.app N153 N168q
  refine own_by st168 ?_
  have Z168 : n0 ≤ T168.heap.size := Nat.le_trans Z158 K0'.1
  have K168c := K163.trans K0' (allS (Or.inr sz_b158) all0)
  have f170 := (f167.keep K0' (ninS ne_b148_b158 nin0))
  obtain ⟨cl169, Ar169, cq169, hin169, hat169, set169⟩ := own_arv f170 (j := (0 : Int32)) ⟨by decide, by decide⟩
  obtain ⟨T171, h171, X171, e171, W171, st171⟩ := stR X168 hx hZ rfl Ar169 (j := (0 : Int32)) hin169 rfl (Sto.ofV Ar169 cq169 O148 (Ins.self E0')) (g := (mkF m 73 #[.val (.ref a1), .val (.int (1 : Int32)), .val (.long q3), .second, .val (.long q4), .second, .val (.int (0 : Int32))] [(.ref b158), (.int (0 : Int32)), (.ref b148)])) rfl rfl (hb hby d2_73)
  have V171 : Arv Z h171 b148 k148 (.object "com/example/eskew/eskew/server/split/CounterValues$Tally") (1 : Int32) [(.ref b158)] .null := set169 rfl W171 0 rfl (Nat.le_of_ble_eq_true rfl)
  have N171 := Fr.snoc X171 N168 og_b148
  have K172 := K168c.wr W171 (Or.inr sz_b148)
  have Z171 : n0 ≤ h171.size := Nat.le_trans Z168 (Keep.of_wr W171).1
  refine own_by st171 ?_
  refine own_by (fun _ k => XS.iinc X171.here hx rfl (hb hby d2_74) rfl (l' := #[.val (.ref a1), .val (.int (1 : Int32)), .val (.long q3), .second, .val (.long q4), .second, .val (.int ((0 : Int32) + (1 : Int32)))]) rfl k) ?_
  show own_Go p e below _ T171 (mkF m 77 #[.val (.ref a1), .val (.int (1 : Int32)), .val (.long q3), .second, .val (.long q4), .second, .val (.int ((0 : Int32) + (1 : Int32)))] [])
  rw [show (0 : Int32) + (1 : Int32) = (1 : Int32) from by decide]
  refine own_by (fun _ k => XS.goto X171.here hx rfl (pc0 := 77) (pc' := 52) rfl (hb hby d2_77) (by decide) (by decide) k) ?_
  refine own_by (fun _ k => XS.iload X171.here hx rfl (hb hby d2_52) rfl k) ?_
  refine own_by (fun _ k => XS.iloadN X171.here hx rfl (hb hby d2_54) rfl k) ?_
  refine own_by (fun _ k => XS.icmpYes X171.here hx rfl (pc0 := 55) (pc' := 80) rfl (hb hby d2_55) rfl (flt (by decide : ¬ ((1 : Int32) < (1 : Int32)))).2.1 (by decide) (by decide) k) ?_
  have f173 := ((((f155.wr W153).ext E158).keep K0').wr W171)
  have f174 := (((((((fw136.other W140 (Or.inr (slot_ne (Or.inl (hw _ (List.mem_of_getElem? (i := 26) rfl))) (Or.inl (hw _ (List.mem_of_getElem? (i := 28) rfl))) (by decide) (t := .int) (t' := .int) (by decide) (by decide)))).other W144 (Or.inr (slot_ne (Or.inl (hw _ (List.mem_of_getElem? (i := 26) rfl))) (Or.inr (hw _ (List.mem_of_getElem? (i := 30) rfl))) (by decide) (t := .int) (t' := .long) (by decide) (by decide)))).ext E148).other W153 (Or.inr (slot_ne (Or.inl (hw _ (List.mem_of_getElem? (i := 26) rfl))) (Or.inr (hw _ (List.mem_of_getElem? (i := 34) rfl))) (by decide) (t := .int) (t' := (.array (.object "com/example/eskew/eskew/server/split/CounterValues$Tally"))) (by decide) (by decide)))).ext E158).keep K0' (ninS ne_a1_b158 nin0)).other W171 (Or.inl ne_a1_b148))
  have f175 := ((((((((((((F_restingSince.ext E121).other W124 (Or.inr (slot_ne (Or.inl (hw _ (List.mem_of_getElem? (i := 59) rfl))) (Or.inr (hw _ (List.mem_of_getElem? (i := 22) rfl))) (by decide) (t := .long) (t' := (.object "com/example/eskew/eskew/server/split/CounterValues$WideSum")) (by decide) (by decide)))).ext E128).other W132 (Or.inr (slot_ne (Or.inl (hw _ (List.mem_of_getElem? (i := 59) rfl))) (Or.inr (hw _ (List.mem_of_getElem? (i := 24) rfl))) (by decide) (t := .long) (t' := (.object "com/example/eskew/eskew/server/split/CounterValues$WideSum")) (by decide) (by decide)))).other W136 (Or.inr (slot_ne (Or.inl (hw _ (List.mem_of_getElem? (i := 59) rfl))) (Or.inl (hw _ (List.mem_of_getElem? (i := 26) rfl))) (by decide) (t := .long) (t' := .int) (by decide) (by decide)))).other W140 (Or.inr (slot_ne (Or.inl (hw _ (List.mem_of_getElem? (i := 59) rfl))) (Or.inl (hw _ (List.mem_of_getElem? (i := 28) rfl))) (by decide) (t := .long) (t' := .int) (by decide) (by decide)))).other W144 (Or.inr (slot_ne (Or.inl (hw _ (List.mem_of_getElem? (i := 59) rfl))) (Or.inr (hw _ (List.mem_of_getElem? (i := 30) rfl))) (by decide) (t := .long) (t' := .long) (by decide) (by decide)))).ext E148).other W153 (Or.inr (slot_ne (Or.inl (hw _ (List.mem_of_getElem? (i := 59) rfl))) (Or.inr (hw _ (List.mem_of_getElem? (i := 34) rfl))) (by decide) (t := .long) (t' := (.array (.object "com/example/eskew/eskew/server/split/CounterValues$Tally"))) (by decide) (by decide)))).ext E158).keep K0' (ninS ne_a1_b158 nin0)).other W171 (Or.inl ne_a1_b148))
  have f176 := ((((((fw140.other W144 (Or.inr (slot_ne (Or.inl (hw _ (List.mem_of_getElem? (i := 28) rfl))) (Or.inr (hw _ (List.mem_of_getElem? (i := 30) rfl))) (by decide) (t := .int) (t' := .long) (by decide) (by decide)))).ext E148).other W153 (Or.inr (slot_ne (Or.inl (hw _ (List.mem_of_getElem? (i := 28) rfl))) (Or.inr (hw _ (List.mem_of_getElem? (i := 34) rfl))) (by decide) (t := .int) (t' := (.array (.object "com/example/eskew/eskew/server/split/CounterValues$Tally"))) (by decide) (by decide)))).ext E158).keep K0' (ninS ne_a1_b158 nin0)).other W171 (Or.inl ne_a1_b148))
  have f177 := (((((fw144.ext E148).other W153 (Or.inr (slot_ne (Or.inr (hw _ (List.mem_of_getElem? (i := 30) rfl))) (Or.inr (hw _ (List.mem_of_getElem? (i := 34) rfl))) (by decide) (t := .long) (t' := (.array (.object "com/example/eskew/eskew/server/split/CounterValues$Tally"))) (by decide) (by decide)))).ext E158).keep K0' (ninS ne_a1_b158 nin0)).other W171 (Or.inl ne_a1_b148))
  have f178 := (((fw153.ext E158).keep K0' (ninS ne_a1_b158 nin0)).other W171 (Or.inl ne_a1_b148))
  have f179 := (S0'.other W171 (Or.inl (Ne.symm ne_b148_b158)))
  exact own_ret0 X171 hx hlk hret (hb hby d2_80) (by first | exact ⟨b148, k148, b158, rfl, N171, K172, f173, f174, f175, f176, f177, f178, sz_b148, V171, sz_b158, f179⟩ | (rw [e171]; exact ⟨b148, k148, b158, rfl, N171, K172, f173, f174, f175, f176, f177, f178, sz_b148, V171, sz_b158, f179⟩)) (by decide) (by decide)
def Q_rm2_1 (Z : State) (a1 : Addr) (q3 q4 : Int64) (h0 : Heap) (n0 : Nat) (v : Option Value) (h : Heap) (L : List Loc) : Prop := ∃ ta kt tl0 tl1, v = none ∧ Fr n0 L ∧ Keep h0 h [a1] ∧ Exa Z h a1 "com/example/eskew/eskew/server/split/CounterValues" ∧ Fld Z h a1 "com/example/eskew/eskew/server/split/CounterValues" "resting" "I" (.int (-1 : Int32)) ∧ Fld Z h a1 "com/example/eskew/eskew/server/split/CounterValues" "restingSince" "J" (.long (0 : Int64)) ∧ Fld Z h a1 "com/example/eskew/eskew/server/split/CounterValues" "nextToRest" "I" (.int (1 : Int32)) ∧ Fld Z h a1 "com/example/eskew/eskew/server/split/CounterValues" "rereadNanos" "J" (.long q3) ∧ Fld Z h a1 "com/example/eskew/eskew/server/split/CounterValues" "tallies" "[Lcom/example/eskew/eskew/server/split/CounterValues$Tally;" (.ref ta) ∧ h0.size ≤ ta ∧ Arv Z h ta kt (.object "com/example/eskew/eskew/server/split/CounterValues$Tally") (2 : Int32) [(.ref tl0), (.ref tl1)] .null ∧ h0.size ≤ tl0 ∧ h0.size ≤ tl1 ∧ Fld Z h tl0 "com/example/eskew/eskew/server/split/CounterValues$Tally" "since" "J" (.long q4) ∧ Fld Z h tl1 "com/example/eskew/eskew/server/split/CounterValues$Tally" "since" "J" (.long q4)
theorem pn_rm2_1 : plainFor (⟨"com/example/eskew/eskew/server/split/CounterValues", "<init>", "(IJJ)V"⟩ : MethodName) = true := plainFor_of_name (by first | (simp [plainName, overriddenIn, x]; done) | decide +kernel)
set_option maxRecDepth 65536 in
set_option maxHeartbeats 40000000 in
theorem rm2_1 (l : Launch) (Z : State) (a0 : Array Value) (hw : ∀ d ∈ tables_1, d.before a0 Z = true) (ws : List Jvm.Cond) (a1 : Addr) (q3 q4 : Int64) (h0 : Heap) (n0 : Nat) (Z0 : n0 ≤ h0.size) (g1 : n0 ≤ a1) (E1 : Exa Z h0 a1 "com/example/eskew/eskew/server/split/CounterValues") (F_rising : Fld Z h0 a1 "com/example/eskew/eskew/server/split/CounterValues" "rising" "Lcom/example/eskew/eskew/server/split/CounterValues$WideSum;" .null) (F_falling : Fld Z h0 a1 "com/example/eskew/eskew/server/split/CounterValues" "falling" "Lcom/example/eskew/eskew/server/split/CounterValues$WideSum;" .null) (F_resting : Fld Z h0 a1 "com/example/eskew/eskew/server/split/CounterValues" "resting" "I" (.int (0 : Int32))) (F_nextToRest : Fld Z h0 a1 "com/example/eskew/eskew/server/split/CounterValues" "nextToRest" "I" (.int (0 : Int32))) (F_rereadNanos : Fld Z h0 a1 "com/example/eskew/eskew/server/split/CounterValues" "rereadNanos" "J" (.long (0 : Int64))) (F_tallies : Fld Z h0 a1 "com/example/eskew/eskew/server/split/CounterValues" "tallies" "[Lcom/example/eskew/eskew/server/split/CounterValues$Tally;" .null) (F_restingSince : Fld Z h0 a1 "com/example/eskew/eskew/server/split/CounterValues" "restingSince" "J" (.long (0 : Int64))) :
    own_Met l Z (⟨"com/example/eskew/eskew/server/split/CounterValues", "<init>", "(IJJ)V"⟩ : MethodName) prog_33_method_1_code 7 none ws ({ frames := 2, cells := 5, slots := 24, locals := 48 } : Room) #[(.ref a1), (.int (2 : Int32)), (.long q3), (.long q4)] h0 (Q_rm2_1 Z a1 q3 q4 h0 n0) := by
  refine own_enter (g0 := fun m => (mkF m 0 #[.val (.ref a1), .val (.int (2 : Int32)), .val (.long q3), .second, .val (.long q4), .second, .unset] [])) pn_rm2_1 (fun m => by first | (simp [entryFrame, mkF, argsToLocals, Value.category, maxLocals]; done) | rfl) ?_
  intro p e s m below meth c s₁ hx hby hml hown hnm hret hlk hZ X0 e0
  have hml : c.maxLocals = 7 := hml
  have hown : s.vm.findClass "com/example/eskew/eskew/server/split/CounterValues" = some m.cls := hown
  have N0 := Fr.nil n0
  have K0 := Keep.refl h0 [a1]
  refine own_by (fun _ k => XS.aloadN X0.here hx rfl (hb hby d2_0) rfl rfl k) ?_
  obtain ⟨T180, X180, e180, st180⟩ := initO X0 hx hZ hown (hw _ (List.mem_of_getElem? (i := 11) rfl)) (hw _ (List.mem_of_getElem? (i := 12) rfl)) (hw _ (List.mem_of_getElem? (i := 13) rfl)) e0 (g := (mkF m 1 #[.val (.ref a1), .val (.int (2 : Int32)), .val (.long q3), .second, .val (.long q4), .second, .unset] [(.ref a1)])) rfl (by rw [hml]; rfl) rfl (hb hby d2_1) (by decide) (W := 0) (by show 2 * 0 + _ ≤ _; exact Nat.le_of_eq rfl) (by decide)
  refine own_by st180 ?_
  refine own_by (fun _ k => XS.aloadN X180.here hx rfl (hb hby d2_4) rfl rfl k) ?_
  obtain ⟨T181, h181, X181, e181, E181, A181, D181, -, st181⟩ := newO X180 hx hZ hown (hw _ (List.mem_of_getElem? (i := 14) rfl)) (hw _ (List.mem_of_getElem? (i := 15) rfl)) (hw _ (List.mem_of_getElem? (i := 16) rfl)) e180 (g := (mkF m 5 #[.val (.ref a1), .val (.int (2 : Int32)), .val (.long q3), .second, .val (.long q4), .second, .unset] [(.ref a1)])) rfl (hb hby d2_5) (by decide) (by decide)
  obtain ⟨b181, g181⟩ : ∃ zq, zq = h0.size := ⟨_, rfl⟩
  rw [← g181] at A181 D181 st181
  have ne_a1_b181 : a1 ≠ b181 := Nat.ne_of_lt (Nat.lt_of_lt_of_le F_rising.lt (Nat.le_of_eq g181.symm))
  have og_b181 : n0 ≤ b181 := Nat.le_trans Z0 (Nat.le_of_eq g181.symm)
  have sz_b181 : h0.size ≤ b181 := Nat.le_trans K0.1 (Nat.le_of_eq g181.symm)
  have Z181 : n0 ≤ h181.size := Nat.le_trans Z0 E181.1
  have K182 := K0.ext E181
  refine own_by st181 ?_
  refine own_by (fun _ k => XS.dup X181.here hx rfl (hb hby d2_8) rfl rfl k) ?_
  obtain ⟨_, T183, L183, X183, ⟨rfl, N183q, e183⟩, st183⟩ := own_callR X181 hx hZ hown (y := (⟨"com/example/eskew/eskew/server/split/CounterValues$WideSum", "<init>", "()V"⟩ : MethodName)) rfl (hw _ (List.mem_of_getElem? (i := 17) rfl)) (hw _ (List.mem_of_getElem? (i := 18) rfl)) (hw _ (List.mem_of_getElem? (i := 16) rfl)) (hw _ (List.mem_of_getElem? (i := 19) rfl)) (by decide) (a := b181) (argsL := []) (rest := [(.ref b181), (.ref a1)]) e181 (rm4 l Z a0 hw [] b181 h181 n0 Z181) (g := (mkF m 9 #[.val (.ref a1), .val (.int (2 : Int32)), .val (.long q3), .second, .val (.long q4), .second, .unset] [(.ref b181), (.ref b181), (.ref a1)])) rfl (by rw [hml]; rfl) (lenOf pd_0 rfl) rfl (W := 2) (by show 2 * 0 + _ ≤ _; exact Nat.le_of_eq rfl) (hb hby d2_9) (by decide) (by decide) (by decide) (by decide)
  have N183 := Fr.app N0 N183q
  refine own_by st183 ?_
  have f185 := (F_rising.ext E181)
  have f186 := (E1.ext E181)
  obtain ⟨T184, h184, X184, e184, W184, st184⟩ := putF X183 hx hZ hown (host := "") (Or.inl (hw _ (List.mem_of_getElem? (i := 21) rfl))) Via.refl e183 f185 f186 (Or.inr ⟨(hw _ (List.mem_of_getElem? (i := 22) rfl)), rfl, hnm⟩) (hw _ (List.mem_of_getElem? (i := 6) rfl)) (ty := (.object "com/example/eskew/eskew/server/split/CounterValues$WideSum")) (by decide) rfl rfl (g := (mkF m 12 #[.val (.ref a1), .val (.int (2 : Int32)), .val (.long q3), .second, .val (.long q4), .second, .unset] [(.ref b181), (.ref a1)])) rfl rfl (hb hby d2_12)
  refine own_by st184 ?_
  have N184 := Fr.snoc X184 N183 g1
  have fw184 := f185.same W184
  have K187 := K182.wr W184 (Or.inl (List.mem_of_getElem? (i := 0) rfl))
  have Z184 : n0 ≤ h184.size := Nat.le_trans Z181 (Keep.of_wr W184).1
  refine own_by (fun _ k => XS.aloadN X184.here hx rfl (hb hby d2_15) rfl rfl k) ?_
  show own_Go p e below _ T184 (mkF m 16 #[.val (.ref a1), .val (.int (2 : Int32)), .val (.long q3), .second, .val (.long q4), .second, .unset] [(.ref a1)])
  obtain ⟨T188, h188, X188, e188, E188, A188, D188, -, st188⟩ := newO X184 hx hZ hown (hw _ (List.mem_of_getElem? (i := 14) rfl)) (hw _ (List.mem_of_getElem? (i := 15) rfl)) (hw _ (List.mem_of_getElem? (i := 16) rfl)) e184 (g := (mkF m 16 #[.val (.ref a1), .val (.int (2 : Int32)), .val (.long q3), .second, .val (.long q4), .second, .unset] [(.ref a1)])) rfl (hb hby d2_16) (by decide) (by decide)
  obtain ⟨b188, g188⟩ : ∃ zq, zq = h184.size := ⟨_, rfl⟩
  rw [← g188] at A188 D188 st188
  have ne_a1_b188 : a1 ≠ b188 := Nat.ne_of_lt (Nat.lt_of_lt_of_le fw184.lt (Nat.le_of_eq g188.symm))
  have f189 := (A181.wr W184)
  have ne_b181_b188 : b181 ≠ b188 := Nat.ne_of_lt (Nat.lt_of_lt_of_le f189.lt (Nat.le_of_eq g188.symm))
  have og_b188 : n0 ≤ b188 := Nat.le_trans Z184 (Nat.le_of_eq g188.symm)
  have sz_b188 : h0.size ≤ b188 := Nat.le_trans K187.1 (Nat.le_of_eq g188.symm)
  have Z188 : n0 ≤ h188.size := Nat.le_trans Z184 E188.1
  have K190 := K187.ext E188
  refine own_by st188 ?_
  refine own_by (fun _ k => XS.dup X188.here hx rfl (hb hby d2_19) rfl rfl k) ?_
  obtain ⟨_, T191, L191, X191, ⟨rfl, N191q, e191⟩, st191⟩ := own_callR X188 hx hZ hown (y := (⟨"com/example/eskew/eskew/server/split/CounterValues$WideSum", "<init>", "()V"⟩ : MethodName)) rfl (hw _ (List.mem_of_getElem? (i := 17) rfl)) (hw _ (List.mem_of_getElem? (i := 18) rfl)) (hw _ (List.mem_of_getElem? (i := 16) rfl)) (hw _ (List.mem_of_getElem? (i := 19) rfl)) (by decide) (a := b188) (argsL := []) (rest := [(.ref b188), (.ref a1)]) e188 (rm4 l Z a0 hw [] b188 h188 n0 Z188) (g := (mkF m 20 #[.val (.ref a1), .val (.int (2 : Int32)), .val (.long q3), .second, .val (.long q4), .second, .unset] [(.ref b188), (.ref b188), (.ref a1)])) rfl (by rw [hml]; rfl) (lenOf pd_0 rfl) rfl (W := 2) (by show 2 * 0 + _ ≤ _; exact Nat.le_of_eq rfl) (hb hby d2_20) (by decide) (by decide) (by decide) (by decide)
  have N191 := Fr.app N184 N191q
  refine own_by st191 ?_
  have f193 := (((F_falling.ext E181).other W184 (Or.inr (slot_ne (Or.inr (hw _ (List.mem_of_getElem? (i := 24) rfl))) (Or.inr (hw _ (List.mem_of_getElem? (i := 22) rfl))) (by decide) (t := (.object "com/example/eskew/eskew/server/split/CounterValues$WideSum")) (t' := (.object "com/example/eskew/eskew/server/split/CounterValues$WideSum")) (by decide) (by decide)))).ext E188)
  have f194 := ((f186.wr W184).ext E188)
  obtain ⟨T192, h192, X192, e192, W192, st192⟩ := putF X191 hx hZ hown (host := "") (Or.inl (hw _ (List.mem_of_getElem? (i := 23) rfl))) Via.refl e191 f193 f194 (Or.inr ⟨(hw _ (List.mem_of_getElem? (i := 24) rfl)), rfl, hnm⟩) (hw _ (List.mem_of_getElem? (i := 6) rfl)) (ty := (.object "com/example/eskew/eskew/server/split/CounterValues$WideSum")) (by decide) rfl rfl (g := (mkF m 23 #[.val (.ref a1), .val (.int (2 : Int32)), .val (.long q3), .second, .val (.long q4), .second, .unset] [(.ref b188), (.ref a1)])) rfl rfl (hb hby d2_23)
  refine own_by st192 ?_
  have N192 := Fr.snoc X192 N191 g1
  have fw192 := f193.same W192
  have K195 := K190.wr W192 (Or.inl (List.mem_of_getElem? (i := 0) rfl))
  have Z192 : n0 ≤ h192.size := Nat.le_trans Z188 (Keep.of_wr W192).1
  refine own_by (fun _ k => XS.aloadN X192.here hx rfl (hb hby d2_26) rfl rfl k) ?_
  refine own_by (fun _ k => XS.iconst X192.here hx rfl (hb hby d2_27) k) ?_
  have f197 := ((((F_resting.ext E181).other W184 (Or.inr (slot_ne (Or.inl (hw _ (List.mem_of_getElem? (i := 26) rfl))) (Or.inr (hw _ (List.mem_of_getElem? (i := 22) rfl))) (by decide) (t := .int) (t' := (.object "com/example/eskew/eskew/server/split/CounterValues$WideSum")) (by decide) (by decide)))).ext E188).other W192 (Or.inr (slot_ne (Or.inl (hw _ (List.mem_of_getElem? (i := 26) rfl))) (Or.inr (hw _ (List.mem_of_getElem? (i := 24) rfl))) (by decide) (t := .int) (t' := (.object "com/example/eskew/eskew/server/split/CounterValues$WideSum")) (by decide) (by decide))))
  have f198 := (f194.wr W192)
  obtain ⟨T196, h196, X196, e196, W196, st196⟩ := putF X192 hx hZ hown (host := "") (Or.inl (hw _ (List.mem_of_getElem? (i := 25) rfl))) Via.refl e192 f197 f198 (Or.inl (hw _ (List.mem_of_getElem? (i := 26) rfl))) (hw _ (List.mem_of_getElem? (i := 6) rfl)) (ty := .int) (by decide) rfl rfl (g := (mkF m 28 #[.val (.ref a1), .val (.int (2 : Int32)), .val (.long q3), .second, .val (.long q4), .second, .unset] [(.int (-1 : Int32)), (.ref a1)])) rfl rfl (hb hby d2_28)
  refine own_by st196 ?_
  have N196 := Fr.snoc X196 N192 g1
  have fw196 := f197.same W196
  have K199 := K195.wr W196 (Or.inl (List.mem_of_getElem? (i := 0) rfl))
  have Z196 : n0 ≤ h196.size := Nat.le_trans Z192 (Keep.of_wr W196).1
  refine own_by (fun _ k => XS.aloadN X196.here hx rfl (hb hby d2_31) rfl rfl k) ?_
  refine own_by (fun _ k => XS.iconst X196.here hx rfl (hb hby d2_32) k) ?_
  show own_Go p e below _ T196 (mkF m 33 #[.val (.ref a1), .val (.int (2 : Int32)), .val (.long q3), .second, .val (.long q4), .second, .unset] [(.int (1 : Int32)), (.ref a1)])
  have f201 := (((((F_nextToRest.ext E181).other W184 (Or.inr (slot_ne (Or.inl (hw _ (List.mem_of_getElem? (i := 28) rfl))) (Or.inr (hw _ (List.mem_of_getElem? (i := 22) rfl))) (by decide) (t := .int) (t' := (.object "com/example/eskew/eskew/server/split/CounterValues$WideSum")) (by decide) (by decide)))).ext E188).other W192 (Or.inr (slot_ne (Or.inl (hw _ (List.mem_of_getElem? (i := 28) rfl))) (Or.inr (hw _ (List.mem_of_getElem? (i := 24) rfl))) (by decide) (t := .int) (t' := (.object "com/example/eskew/eskew/server/split/CounterValues$WideSum")) (by decide) (by decide)))).other W196 (Or.inr (slot_ne (Or.inl (hw _ (List.mem_of_getElem? (i := 28) rfl))) (Or.inl (hw _ (List.mem_of_getElem? (i := 26) rfl))) (by decide) (t := .int) (t' := .int) (by decide) (by decide))))
  have f202 := (f198.wr W196)
  obtain ⟨T200, h200, X200, e200, W200, st200⟩ := putF X196 hx hZ hown (host := "") (Or.inl (hw _ (List.mem_of_getElem? (i := 27) rfl))) Via.refl e196 f201 f202 (Or.inl (hw _ (List.mem_of_getElem? (i := 28) rfl))) (hw _ (List.mem_of_getElem? (i := 6) rfl)) (ty := .int) (by decide) rfl rfl (g := (mkF m 33 #[.val (.ref a1), .val (.int (2 : Int32)), .val (.long q3), .second, .val (.long q4), .second, .unset] [(.int (1 : Int32)), (.ref a1)])) rfl rfl (hb hby d2_33)
  refine own_by st200 ?_
  have N200 := Fr.snoc X200 N196 g1
  have fw200 := f201.same W200
  have K203 := K199.wr W200 (Or.inl (List.mem_of_getElem? (i := 0) rfl))
  have Z200 : n0 ≤ h200.size := Nat.le_trans Z196 (Keep.of_wr W200).1
  refine own_by (fun _ k => XS.aloadN X200.here hx rfl (hb hby d2_36) rfl rfl k) ?_
  refine own_by (fun _ k => XS.lloadN X200.here hx rfl (hb hby d2_37) rfl k) ?_
  have f205 := ((((((F_rereadNanos.ext E181).other W184 (Or.inr (slot_ne (Or.inr (hw _ (List.mem_of_getElem? (i := 30) rfl))) (Or.inr (hw _ (List.mem_of_getElem? (i := 22) rfl))) (by decide) (t := .long) (t' := (.object "com/example/eskew/eskew/server/split/CounterValues$WideSum")) (by decide) (by decide)))).ext E188).other W192 (Or.inr (slot_ne (Or.inr (hw _ (List.mem_of_getElem? (i := 30) rfl))) (Or.inr (hw _ (List.mem_of_getElem? (i := 24) rfl))) (by decide) (t := .long) (t' := (.object "com/example/eskew/eskew/server/split/CounterValues$WideSum")) (by decide) (by decide)))).other W196 (Or.inr (slot_ne (Or.inr (hw _ (List.mem_of_getElem? (i := 30) rfl))) (Or.inl (hw _ (List.mem_of_getElem? (i := 26) rfl))) (by decide) (t := .long) (t' := .int) (by decide) (by decide)))).other W200 (Or.inr (slot_ne (Or.inr (hw _ (List.mem_of_getElem? (i := 30) rfl))) (Or.inl (hw _ (List.mem_of_getElem? (i := 28) rfl))) (by decide) (t := .long) (t' := .int) (by decide) (by decide))))
  have f206 := (f202.wr W200)
  obtain ⟨T204, h204, X204, e204, W204, st204⟩ := putF X200 hx hZ hown (host := "") (Or.inl (hw _ (List.mem_of_getElem? (i := 29) rfl))) Via.refl e200 f205 f206 (Or.inr ⟨(hw _ (List.mem_of_getElem? (i := 30) rfl)), rfl, hnm⟩) (hw _ (List.mem_of_getElem? (i := 6) rfl)) (ty := .long) (by decide) rfl rfl (g := (mkF m 38 #[.val (.ref a1), .val (.int (2 : Int32)), .val (.long q3), .second, .val (.long q4), .second, .unset] [(.long q3), (.ref a1)])) rfl rfl (hb hby d2_38)
  refine own_by st204 ?_
  have N204 := Fr.snoc X204 N200 g1
  have fw204 := f205.same W204
  have K207 := K203.wr W204 (Or.inl (List.mem_of_getElem? (i := 0) rfl))
  have Z204 : n0 ≤ h204.size := Nat.le_trans Z200 (Keep.of_wr W204).1
  refine own_by (fun _ k => XS.aloadN X204.here hx rfl (hb hby d2_41) rfl rfl k) ?_
  refine own_by (fun _ k => XS.iloadN X204.here hx rfl (hb hby d2_42) rfl k) ?_
  obtain ⟨T208, h208, k208, X208, e208, E208, A208, O208, st208⟩ := newR X204 hx hZ hown (hw _ (List.mem_of_getElem? (i := 31) rfl)) (hw _ (List.mem_of_getElem? (i := 32) rfl)) e204 (g := (mkF m 43 #[.val (.ref a1), .val (.int (2 : Int32)), .val (.long q3), .second, .val (.long q4), .second, .unset] [(.int (2 : Int32)), (.ref a1)])) rfl (hb hby d2_43) rfl (by decide) (cap := 2) (by decide) (by decide) (by decide) (by decide)
  obtain ⟨b208, g208⟩ : ∃ zq, zq = h204.size := ⟨_, rfl⟩
  rw [← g208] at A208 st208
  have f209 := (((((fw184.ext E188).other W192 (Or.inr (slot_ne (Or.inr (hw _ (List.mem_of_getElem? (i := 22) rfl))) (Or.inr (hw _ (List.mem_of_getElem? (i := 24) rfl))) (by decide) (t := (.object "com/example/eskew/eskew/server/split/CounterValues$WideSum")) (t' := (.object "com/example/eskew/eskew/server/split/CounterValues$WideSum")) (by decide) (by decide)))).other W196 (Or.inr (slot_ne (Or.inr (hw _ (List.mem_of_getElem? (i := 22) rfl))) (Or.inl (hw _ (List.mem_of_getElem? (i := 26) rfl))) (by decide) (t := (.object "com/example/eskew/eskew/server/split/CounterValues$WideSum")) (t' := .int) (by decide) (by decide)))).other W200 (Or.inr (slot_ne (Or.inr (hw _ (List.mem_of_getElem? (i := 22) rfl))) (Or.inl (hw _ (List.mem_of_getElem? (i := 28) rfl))) (by decide) (t := (.object "com/example/eskew/eskew/server/split/CounterValues$WideSum")) (t' := .int) (by decide) (by decide)))).other W204 (Or.inr (slot_ne (Or.inr (hw _ (List.mem_of_getElem? (i := 22) rfl))) (Or.inr (hw _ (List.mem_of_getElem? (i := 30) rfl))) (by decide) (t := (.object "com/example/eskew/eskew/server/split/CounterValues$WideSum")) (t' := .long) (by decide) (by decide))))
  have ne_a1_b208 : a1 ≠ b208 := Nat.ne_of_lt (Nat.lt_of_lt_of_le f209.lt (Nat.le_of_eq g208.symm))
  have f210 := (((((f189.ext E188).wr W192).wr W196).wr W200).wr W204)
  have ne_b181_b208 : b181 ≠ b208 := Nat.ne_of_lt (Nat.lt_of_lt_of_le f210.lt (Nat.le_of_eq g208.symm))
  have f211 := ((((A188.wr W192).wr W196).wr W200).wr W204)
  have ne_b188_b208 : b188 ≠ b208 := Nat.ne_of_lt (Nat.lt_of_lt_of_le f211.lt (Nat.le_of_eq g208.symm))
  have og_b208 : n0 ≤ b208 := Nat.le_trans Z204 (Nat.le_of_eq g208.symm)
  have sz_b208 : h0.size ≤ b208 := Nat.le_trans K207.1 (Nat.le_of_eq g208.symm)
  have Z208 : n0 ≤ h208.size := Nat.le_trans Z204 E208.1
  have K212 := K207.ext E208
  have V208 : Arv Z h208 b208 k208 (.object "com/example/eskew/eskew/server/split/CounterValues$Tally") (2 : Int32) [.null, .null] .null := (Arv.new A208 (by decide)).pad (pad_rep [] .null 2)
  refine own_by st208 ?_
  have f214 := ((((((((F_tallies.ext E181).other W184 (Or.inr (slot_ne (Or.inr (hw _ (List.mem_of_getElem? (i := 34) rfl))) (Or.inr (hw _ (List.mem_of_getElem? (i := 22) rfl))) (by decide) (t := (.array (.object "com/example/eskew/eskew/server/split/CounterValues$Tally"))) (t' := (.object "com/example/eskew/eskew/server/split/CounterValues$WideSum")) (by decide) (by decide)))).ext E188).other W192 (Or.inr (slot_ne (Or.inr (hw _ (List.mem_of_getElem? (i := 34) rfl))) (Or.inr (hw _ (List.mem_of_getElem? (i := 24) rfl))) (by decide) (t := (.array (.object "com/example/eskew/eskew/server/split/CounterValues$Tally"))) (t' := (.object "com/example/eskew/eskew/server/split/CounterValues$WideSum")) (by decide) (by decide)))).other W196 (Or.inr (slot_ne (Or.inr (hw _ (List.mem_of_getElem? (i := 34) rfl))) (Or.inl (hw _ (List.mem_of_getElem? (i := 26) rfl))) (by decide) (t := (.array (.object "com/example/eskew/eskew/server/split/CounterValues$Tally"))) (t' := .int) (by decide) (by decide)))).other W200 (Or.inr (slot_ne (Or.inr (hw _ (List.mem_of_getElem? (i := 34) rfl))) (Or.inl (hw _ (List.mem_of_getElem? (i := 28) rfl))) (by decide) (t := (.array (.object "com/example/eskew/eskew/server/split/CounterValues$Tally"))) (t' := .int) (by decide) (by decide)))).other W204 (Or.inr (slot_ne (Or.inr (hw _ (List.mem_of_getElem? (i := 34) rfl))) (Or.inr (hw _ (List.mem_of_getElem? (i := 30) rfl))) (by decide) (t := (.array (.object "com/example/eskew/eskew/server/split/CounterValues$Tally"))) (t' := .long) (by decide) (by decide)))).ext E208)
  have f215 := ((f206.wr W204).ext E208)
  obtain ⟨T213, h213, X213, e213, W213, st213⟩ := putF X208 hx hZ hown (host := "") (Or.inl (hw _ (List.mem_of_getElem? (i := 33) rfl))) Via.refl e208 f214 f215 (Or.inr ⟨(hw _ (List.mem_of_getElem? (i := 34) rfl)), rfl, hnm⟩) (hw _ (List.mem_of_getElem? (i := 6) rfl)) (ty := (.array (.object "com/example/eskew/eskew/server/split/CounterValues$Tally"))) (by decide) rfl rfl (g := (mkF m 46 #[.val (.ref a1), .val (.int (2 : Int32)), .val (.long q3), .second, .val (.long q4), .second, .unset] [(.ref b208), (.ref a1)])) rfl rfl (hb hby d2_46)
  refine own_by st213 ?_
  have N213 := Fr.snoc X213 N204 g1
  have fw213 := f214.same W213
  have K216 := K212.wr W213 (Or.inl (List.mem_of_getElem? (i := 0) rfl))
  have Z213 : n0 ≤ h213.size := Nat.le_trans Z208 (Keep.of_wr W213).1
  refine own_by (fun _ k => XS.iconst X213.here hx rfl (hb hby d2_49) k) ?_
  show own_Go p e below _ T213 (mkF m 50 #[.val (.ref a1), .val (.int (2 : Int32)), .val (.long q3), .second, .val (.long q4), .second, .unset] [(.int (0 : Int32))])
  refine own_by (fun _ k => XS.istore X213.here hx rfl (hb hby d2_50) rfl (l' := #[.val (.ref a1), .val (.int (2 : Int32)), .val (.long q3), .second, .val (.long q4), .second, .val (.int (0 : Int32))]) rfl k) ?_
  refine own_by (fun _ k => XS.iload X213.here hx rfl (hb hby d2_52) rfl k) ?_
  refine own_by (fun _ k => XS.iloadN X213.here hx rfl (hb hby d2_54) rfl k) ?_
  refine own_by (fun _ k => XS.icmpNo X213.here hx rfl (hb hby d2_55) rfl (tlt (by decide : (0 : Int32) < (2 : Int32))).2.1 k) ?_
  refine own_by (fun _ k => XS.aloadN X213.here hx rfl (hb hby d2_58) rfl rfl k) ?_
  obtain ⟨T217, X217, e217, st217⟩ := getF X213 hx hZ hown (host := "") (Or.inl (hw _ (List.mem_of_getElem? (i := 33) rfl))) Via.refl e213 fw213 (g := (mkF m 59 #[.val (.ref a1), .val (.int (2 : Int32)), .val (.long q3), .second, .val (.long q4), .second, .val (.int (0 : Int32))] [(.ref a1)])) rfl rfl (hb hby d2_59)
  refine own_by st217 ?_
  refine own_by (fun _ k => XS.iload X217.here hx rfl (hb hby d2_62) rfl k) ?_
  obtain ⟨T218, h218, X218, e218, E218, A218, D218, -, st218⟩ := newO X217 hx hZ hown (hw _ (List.mem_of_getElem? (i := 31) rfl)) (hw _ (List.mem_of_getElem? (i := 35) rfl)) (hw _ (List.mem_of_getElem? (i := 36) rfl)) e217 (g := (mkF m 64 #[.val (.ref a1), .val (.int (2 : Int32)), .val (.long q3), .second, .val (.long q4), .second, .val (.int (0 : Int32))] [(.int (0 : Int32)), (.ref b208)])) rfl (hb hby d2_64) (by decide) (by decide)
  obtain ⟨b218, g218⟩ : ∃ zq, zq = h213.size := ⟨_, rfl⟩
  rw [← g218] at A218 D218 st218
  have f219 := ((f209.ext E208).other W213 (Or.inr (slot_ne (Or.inr (hw _ (List.mem_of_getElem? (i := 22) rfl))) (Or.inr (hw _ (List.mem_of_getElem? (i := 34) rfl))) (by decide) (t := (.object "com/example/eskew/eskew/server/split/CounterValues$WideSum")) (t' := (.array (.object "com/example/eskew/eskew/server/split/CounterValues$Tally"))) (by decide) (by decide))))
  have ne_a1_b218 : a1 ≠ b218 := Nat.ne_of_lt (Nat.lt_of_lt_of_le f219.lt (Nat.le_of_eq g218.symm))
  have f220 := ((f210.ext E208).wr W213)
  have ne_b181_b218 : b181 ≠ b218 := Nat.ne_of_lt (Nat.lt_of_lt_of_le f220.lt (Nat.le_of_eq g218.symm))
  have f221 := ((f211.ext E208).wr W213)
  have ne_b188_b218 : b188 ≠ b218 := Nat.ne_of_lt (Nat.lt_of_lt_of_le f221.lt (Nat.le_of_eq g218.symm))
  have f222 := (V208.other W213 (Ne.symm ne_a1_b208))
  have ne_b208_b218 : b208 ≠ b218 := Nat.ne_of_lt (Nat.lt_of_lt_of_le f222.lt (Nat.le_of_eq g218.symm))
  have og_b218 : n0 ≤ b218 := Nat.le_trans Z213 (Nat.le_of_eq g218.symm)
  have sz_b218 : h0.size ≤ b218 := Nat.le_trans K216.1 (Nat.le_of_eq g218.symm)
  have Z218 : n0 ≤ h218.size := Nat.le_trans Z213 E218.1
  have K223 := K216.ext E218
  have F_since_b218 : Fld Z h218 b218 "com/example/eskew/eskew/server/split/CounterValues$Tally" "since" "J" (.long (0 : Int64)) := D218 (Or.inl (hw _ (List.mem_of_getElem? (i := 42) rfl))) (ty := .long) (by decide)
  refine own_by st218 ?_
  refine own_by (fun _ k => XS.dup X218.here hx rfl (hb hby d2_67) rfl rfl k) ?_
  show own_Go p e below _ T218 (mkF m 68 #[.val (.ref a1), .val (.int (2 : Int32)), .val (.long q3), .second, .val (.long q4), .second, .val (.int (0 : Int32))] [(.ref b218), (.ref b218), (.int (0 : Int32)), (.ref b208)])
  refine own_by (fun _ k => XS.lload X218.here hx rfl (hb hby d2_68) rfl k) ?_
  have f224 := (f219.ext E218)
  have f225 := (f220.ext E218)
  have f226 := (f221.ext E218)
  have f227 := (f222.ext E218)
  obtain ⟨_, T228, L228, X228, ⟨rfl, N228q, K0', E0', S0'⟩, st228⟩ := own_callR X218 hx hZ hown (y := (⟨"com/example/eskew/eskew/server/split/CounterValues$Tally", "<init>", "(J)V"⟩ : MethodName)) rfl (hw _ (List.mem_of_getElem? (i := 37) rfl)) (hw _ (List.mem_of_getElem? (i := 38) rfl)) (hw _ (List.mem_of_getElem? (i := 36) rfl)) (hw _ (List.mem_of_getElem? (i := 39) rfl)) (by decide) (a := b218) (argsL := [(.long q4)]) (rest := [(.ref b218), (.int (0 : Int32)), (.ref b208)]) e218 (rm5 l Z a0 hw [] b218 q4 h218 n0 Z218 og_b218 A218 F_since_b218) (g := (mkF m 70 #[.val (.ref a1), .val (.int (2 : Int32)), .val (.long q3), .second, .val (.long q4), .second, .val (.int (0 : Int32))] [(.long q4), (.ref b218), (.ref b218), (.int (0 : Int32)), (.ref b208)])) rfl (by rw [hml]; rfl) (lenOf pd_1 rfl) rfl (W := 3) (by show 2 * 0 + _ ≤ _; exact Nat.le_of_eq rfl) (hb hby d2_70) (by decide) (by decide) (by decide) (by decide)
  have N228 := Fr.app N213 N228q
  refine own_by st228 ?_
  have Z228 : n0 ≤ T228.heap.size := Nat.le_trans Z218 K0'.1
  have K228c := K223.trans K0' (allS (Or.inr sz_b218) all0)
  have f230 := (f227.keep K0' (ninS ne_b208_b218 nin0))
  obtain ⟨cl229, Ar229, cq229, hin229, hat229, set229⟩ := own_arv f230 (j := (0 : Int32)) ⟨by decide, by decide⟩
  obtain ⟨T231, h231, X231, e231, W231, st231⟩ := stR X228 hx hZ rfl Ar229 (j := (0 : Int32)) hin229 rfl (Sto.ofV Ar229 cq229 O208 (Ins.self E0')) (g := (mkF m 73 #[.val (.ref a1), .val (.int (2 : Int32)), .val (.long q3), .second, .val (.long q4), .second, .val (.int (0 : Int32))] [(.ref b218), (.int (0 : Int32)), (.ref b208)])) rfl rfl (hb hby d2_73)
  have V231 : Arv Z h231 b208 k208 (.object "com/example/eskew/eskew/server/split/CounterValues$Tally") (2 : Int32) [(.ref b218), .null] .null := set229 rfl W231 0 rfl (Nat.le_of_ble_eq_true rfl)
  have N231 := Fr.snoc X231 N228 og_b208
  have K232 := K228c.wr W231 (Or.inr sz_b208)
  have Z231 : n0 ≤ h231.size := Nat.le_trans Z228 (Keep.of_wr W231).1
  refine own_by st231 ?_
  refine own_by (fun _ k => XS.iinc X231.here hx rfl (hb hby d2_74) rfl (l' := #[.val (.ref a1), .val (.int (2 : Int32)), .val (.long q3), .second, .val (.long q4), .second, .val (.int ((0 : Int32) + (1 : Int32)))]) rfl k) ?_
  show own_Go p e below _ T231 (mkF m 77 #[.val (.ref a1), .val (.int (2 : Int32)), .val (.long q3), .second, .val (.long q4), .second, .val (.int ((0 : Int32) + (1 : Int32)))] [])
  rw [show (0 : Int32) + (1 : Int32) = (1 : Int32) from by decide]
  refine own_by (fun _ k => XS.goto X231.here hx rfl (pc0 := 77) (pc' := 52) rfl (hb hby d2_77) (by decide) (by decide) k) ?_
  refine own_by (fun _ k => XS.iload X231.here hx rfl (hb hby d2_52) rfl k) ?_
  refine own_by (fun _ k => XS.iloadN X231.here hx rfl (hb hby d2_54) rfl k) ?_
  refine own_by (fun _ k => XS.icmpNo X231.here hx rfl (hb hby d2_55) rfl (tlt (by decide : (1 : Int32) < (2 : Int32))).2.1 k) ?_
  refine own_by (fun _ k => XS.aloadN X231.here hx rfl (hb hby d2_58) rfl rfl k) ?_
  have f234 := (((fw213.ext E218).keep K0' (ninS ne_a1_b218 nin0)).other W231 (Or.inl ne_a1_b208))
  obtain ⟨T233, X233, e233, st233⟩ := getF X231 hx hZ hown (host := "") (Or.inl (hw _ (List.mem_of_getElem? (i := 33) rfl))) Via.refl e231 f234 (g := (mkF m 59 #[.val (.ref a1), .val (.int (2 : Int32)), .val (.long q3), .second, .val (.long q4), .second, .val (.int (1 : Int32))] [(.ref a1)])) rfl rfl (hb hby d2_59)
  refine own_by st233 ?_
  refine own_by (fun _ k => XS.iload X233.here hx rfl (hb hby d2_62) rfl k) ?_
  obtain ⟨T235, h235, X235, e235, E235, A235, D235, -, st235⟩ := newO X233 hx hZ hown (hw _ (List.mem_of_getElem? (i := 31) rfl)) (hw _ (List.mem_of_getElem? (i := 35) rfl)) (hw _ (List.mem_of_getElem? (i := 36) rfl)) e233 (g := (mkF m 64 #[.val (.ref a1), .val (.int (2 : Int32)), .val (.long q3), .second, .val (.long q4), .second, .val (.int (1 : Int32))] [(.int (1 : Int32)), (.ref b208)])) rfl (hb hby d2_64) (by decide) (by decide)
  obtain ⟨b235, g235⟩ : ∃ zq, zq = h231.size := ⟨_, rfl⟩
  rw [← g235] at A235 D235 st235
  have f236 := ((f224.keep K0' (ninS ne_a1_b218 nin0)).other W231 (Or.inl ne_a1_b208))
  have ne_a1_b235 : a1 ≠ b235 := Nat.ne_of_lt (Nat.lt_of_lt_of_le f236.lt (Nat.le_of_eq g235.symm))
  have f237 := ((f225.keep K0').wr W231)
  have ne_b181_b235 : b181 ≠ b235 := Nat.ne_of_lt (Nat.lt_of_lt_of_le f237.lt (Nat.le_of_eq g235.symm))
  have f238 := ((f226.keep K0').wr W231)
  have ne_b188_b235 : b188 ≠ b235 := Nat.ne_of_lt (Nat.lt_of_lt_of_le f238.lt (Nat.le_of_eq g235.symm))
  have ne_b208_b235 : b208 ≠ b235 := Nat.ne_of_lt (Nat.lt_of_lt_of_le V231.lt (Nat.le_of_eq g235.symm))
  have f239 := (E0'.wr W231)
  have ne_b218_b235 : b218 ≠ b235 := Nat.ne_of_lt (Nat.lt_of_lt_of_le f239.lt (Nat.le_of_eq g235.symm))
  have og_b235 : n0 ≤ b235 := Nat.le_trans Z231 (Nat.le_of_eq g235.symm)
  have sz_b235 : h0.size ≤ b235 := Nat.le_trans K232.1 (Nat.le_of_eq g235.symm)
  have Z235 : n0 ≤ h235.size := Nat.le_trans Z231 E235.1
  have K240 := K232.ext E235
  have F_since_b235 : Fld Z h235 b235 "com/example/eskew/eskew/server/split/CounterValues$Tally" "since" "J" (.long (0 : Int64)) := D235 (Or.inl (hw _ (List.mem_of_getElem? (i := 42) rfl))) (ty := .long) (by decide)
  refine own_by st235 ?_
  show own_Go p e below _ T235 (mkF m 67 #[.val (.ref a1), .val (.int (2 : Int32)), .val (.long q3), .second, .val (.long q4), .second, .val (.int (1 : Int32))] [(.ref b235), (.int (1 : Int32)), (.ref b208)])
  refine own_by (fun _ k => XS.dup X235.here hx rfl (hb hby d2_67) rfl rfl k) ?_
  refine own_by (fun _ k => XS.lload X235.here hx rfl (hb hby d2_68) rfl k) ?_
  have f241 := (f236.ext E235)
  have f242 := (f237.ext E235)
  have f243 := (f238.ext E235)
  have f244 := (V231.ext E235)
  have f245 := (f239.ext E235)
  obtain ⟨_, T246, L246, X246, ⟨rfl, N246q, K1', E1', S1'⟩, st246⟩ := own_callR X235 hx hZ hown (y := (⟨"com/example/eskew/eskew/server/split/CounterValues$Tally", "<init>", "(J)V"⟩ : MethodName)) rfl (hw _ (List.mem_of_getElem? (i := 37) rfl)) (hw _ (List.mem_of_getElem? (i := 38) rfl)) (hw _ (List.mem_of_getElem? (i := 36) rfl)) (hw _ (List.mem_of_getElem? (i := 39) rfl)) (by decide) (a := b235) (argsL := [(.long q4)]) (rest := [(.ref b235), (.int (1 : Int32)), (.ref b208)]) e235 (rm5 l Z a0 hw [] b235 q4 h235 n0 Z235 og_b235 A235 F_since_b235) (g := (mkF m 70 #[.val (.ref a1), .val (.int (2 : Int32)), .val (.long q3), .second, .val (.long q4), .second, .val (.int (1 : Int32))] [(.long q4), (.ref b235), (.ref b235), (.int (1 : Int32)), (.ref b208)])) rfl (by rw [hml]; rfl) (lenOf pd_1 rfl) rfl (W := 3) (by show 2 * 0 + _ ≤ _; exact Nat.le_of_eq rfl) (hb hby d2_70) (by decide) (by decide) (by decide) (by decide)
  have N246 := Fr.app N231 N246q
  refine own_by st246 ?_
  have Z246 : n0 ≤ T246.heap.size := Nat.le_trans Z235 K1'.1
  have K246c := K240.trans K1' (allS (Or.inr sz_b235) all0)
  have f248 := (f244.keep K1' (ninS ne_b208_b235 nin0))
  obtain ⟨cl247, Ar247, cq247, hin247, hat247, set247⟩ := own_arv f248 (j := (1 : Int32)) ⟨by decide, by decide⟩
  obtain ⟨T249, h249, X249, e249, W249, st249⟩ := stR X246 hx hZ rfl Ar247 (j := (1 : Int32)) hin247 rfl (Sto.ofV Ar247 cq247 O208 (Ins.self E1')) (g := (mkF m 73 #[.val (.ref a1), .val (.int (2 : Int32)), .val (.long q3), .second, .val (.long q4), .second, .val (.int (1 : Int32))] [(.ref b235), (.int (1 : Int32)), (.ref b208)])) rfl rfl (hb hby d2_73)
  have V249 : Arv Z h249 b208 k208 (.object "com/example/eskew/eskew/server/split/CounterValues$Tally") (2 : Int32) [(.ref b218), (.ref b235)] .null := set247 rfl W249 1 rfl (Nat.le_of_ble_eq_true rfl)
  have N249 := Fr.snoc X249 N246 og_b208
  have K250 := K246c.wr W249 (Or.inr sz_b208)
  have Z249 : n0 ≤ h249.size := Nat.le_trans Z246 (Keep.of_wr W249).1
  refine own_by st249 ?_
  refine own_by (fun _ k => XS.iinc X249.here hx rfl (hb hby d2_74) rfl (l' := #[.val (.ref a1), .val (.int (2 : Int32)), .val (.long q3), .second, .val (.long q4), .second, .val (.int ((1 : Int32) + (1 : Int32)))]) rfl k) ?_
  show own_Go p e below _ T249 (mkF m 77 #[.val (.ref a1), .val (.int (2 : Int32)), .val (.long q3), .second, .val (.long q4), .second, .val (.int ((1 : Int32) + (1 : Int32)))] [])
  rw [show (1 : Int32) + (1 : Int32) = (2 : Int32) from by decide]
  refine own_by (fun _ k => XS.goto X249.here hx rfl (pc0 := 77) (pc' := 52) rfl (hb hby d2_77) (by decide) (by decide) k) ?_
  refine own_by (fun _ k => XS.iload X249.here hx rfl (hb hby d2_52) rfl k) ?_
  refine own_by (fun _ k => XS.iloadN X249.here hx rfl (hb hby d2_54) rfl k) ?_
  refine own_by (fun _ k => XS.icmpYes X249.here hx rfl (pc0 := 55) (pc' := 80) rfl (hb hby d2_55) rfl (flt (by decide : ¬ ((2 : Int32) < (2 : Int32)))).2.1 (by decide) (by decide) k) ?_
  have f251 := (((((((f215.wr W213).ext E218).keep K0').wr W231).ext E235).keep K1').wr W249)
  have f252 := ((((((((((fw196.other W200 (Or.inr (slot_ne (Or.inl (hw _ (List.mem_of_getElem? (i := 26) rfl))) (Or.inl (hw _ (List.mem_of_getElem? (i := 28) rfl))) (by decide) (t := .int) (t' := .int) (by decide) (by decide)))).other W204 (Or.inr (slot_ne (Or.inl (hw _ (List.mem_of_getElem? (i := 26) rfl))) (Or.inr (hw _ (List.mem_of_getElem? (i := 30) rfl))) (by decide) (t := .int) (t' := .long) (by decide) (by decide)))).ext E208).other W213 (Or.inr (slot_ne (Or.inl (hw _ (List.mem_of_getElem? (i := 26) rfl))) (Or.inr (hw _ (List.mem_of_getElem? (i := 34) rfl))) (by decide) (t := .int) (t' := (.array (.object "com/example/eskew/eskew/server/split/CounterValues$Tally"))) (by decide) (by decide)))).ext E218).keep K0' (ninS ne_a1_b218 nin0)).other W231 (Or.inl ne_a1_b208)).ext E235).keep K1' (ninS ne_a1_b235 nin0)).other W249 (Or.inl ne_a1_b208))
  have f253 := (((((((((((((((F_restingSince.ext E181).other W184 (Or.inr (slot_ne (Or.inl (hw _ (List.mem_of_getElem? (i := 59) rfl))) (Or.inr (hw _ (List.mem_of_getElem? (i := 22) rfl))) (by decide) (t := .long) (t' := (.object "com/example/eskew/eskew/server/split/CounterValues$WideSum")) (by decide) (by decide)))).ext E188).other W192 (Or.inr (slot_ne (Or.inl (hw _ (List.mem_of_getElem? (i := 59) rfl))) (Or.inr (hw _ (List.mem_of_getElem? (i := 24) rfl))) (by decide) (t := .long) (t' := (.object "com/example/eskew/eskew/server/split/CounterValues$WideSum")) (by decide) (by decide)))).other W196 (Or.inr (slot_ne (Or.inl (hw _ (List.mem_of_getElem? (i := 59) rfl))) (Or.inl (hw _ (List.mem_of_getElem? (i := 26) rfl))) (by decide) (t := .long) (t' := .int) (by decide) (by decide)))).other W200 (Or.inr (slot_ne (Or.inl (hw _ (List.mem_of_getElem? (i := 59) rfl))) (Or.inl (hw _ (List.mem_of_getElem? (i := 28) rfl))) (by decide) (t := .long) (t' := .int) (by decide) (by decide)))).other W204 (Or.inr (slot_ne (Or.inl (hw _ (List.mem_of_getElem? (i := 59) rfl))) (Or.inr (hw _ (List.mem_of_getElem? (i := 30) rfl))) (by decide) (t := .long) (t' := .long) (by decide) (by decide)))).ext E208).other W213 (Or.inr (slot_ne (Or.inl (hw _ (List.mem_of_getElem? (i := 59) rfl))) (Or.inr (hw _ (List.mem_of_getElem? (i := 34) rfl))) (by decide) (t := .long) (t' := (.array (.object "com/example/eskew/eskew/server/split/CounterValues$Tally"))) (by decide) (by decide)))).ext E218).keep K0' (ninS ne_a1_b218 nin0)).other W231 (Or.inl ne_a1_b208)).ext E235).keep K1' (ninS ne_a1_b235 nin0)).other W249 (Or.inl ne_a1_b208))
  have f254 := (((((((((fw200.other W204 (Or.inr (slot_ne (Or.inl (hw _ (List.mem_of_getElem? (i := 28) rfl))) (Or.inr (hw _ (List.mem_of_getElem? (i := 30) rfl))) (by decide) (t := .int) (t' := .long) (by decide) (by decide)))).ext E208).other W213 (Or.inr (slot_ne (Or.inl (hw _ (List.mem_of_getElem? (i := 28) rfl))) (Or.inr (hw _ (List.mem_of_getElem? (i := 34) rfl))) (by decide) (t := .int) (t' := (.array (.object "com/example/eskew/eskew/server/split/CounterValues$Tally"))) (by decide) (by decide)))).ext E218).keep K0' (ninS ne_a1_b218 nin0)).other W231 (Or.inl ne_a1_b208)).ext E235).keep K1' (ninS ne_a1_b235 nin0)).other W249 (Or.inl ne_a1_b208))
  have f255 := ((((((((fw204.ext E208).other W213 (Or.inr (slot_ne (Or.inr (hw _ (List.mem_of_getElem? (i := 30) rfl))) (Or.inr (hw _ (List.mem_of_getElem? (i := 34) rfl))) (by decide) (t := .long) (t' := (.array (.object "com/example/eskew/eskew/server/split/CounterValues$Tally"))) (by decide) (by decide)))).ext E218).keep K0' (ninS ne_a1_b218 nin0)).other W231 (Or.inl ne_a1_b208)).ext E235).keep K1' (ninS ne_a1_b235 nin0)).other W249 (Or.inl ne_a1_b208))
  have f256 := (((f234.ext E235).keep K1' (ninS ne_a1_b235 nin0)).other W249 (Or.inl ne_a1_b208))
  have f257 := ((((S0'.other W231 (Or.inl (Ne.symm ne_b208_b218))).ext E235).keep K1' (ninS ne_b218_b235 nin0)).other W249 (Or.inl (Ne.symm ne_b208_b218)))
  have f258 := (S1'.other W249 (Or.inl (Ne.symm ne_b208_b235)))
  exact own_ret0 X249 hx hlk hret (hb hby d2_80) (by first | exact ⟨b208, k208, b218, b235, rfl, N249, K250, f251, f252, f253, f254, f255, f256, sz_b208, V249, sz_b218, sz_b235, f257, f258⟩ | (rw [e249]; exact ⟨b208, k208, b218, b235, rfl, N249, K250, f251, f252, f253, f254, f255, f256, sz_b208, V249, sz_b218, sz_b235, f257, f258⟩)) (by decide) (by decide)
def Q_rm2_2 (Z : State) (a1 : Addr) (q3 q4 : Int64) (h0 : Heap) (n0 : Nat) (v : Option Value) (h : Heap) (L : List Loc) : Prop := ∃ ta kt tl0 tl1 tl2, v = none ∧ Fr n0 L ∧ Keep h0 h [a1] ∧ Exa Z h a1 "com/example/eskew/eskew/server/split/CounterValues" ∧ Fld Z h a1 "com/example/eskew/eskew/server/split/CounterValues" "resting" "I" (.int (-1 : Int32)) ∧ Fld Z h a1 "com/example/eskew/eskew/server/split/CounterValues" "restingSince" "J" (.long (0 : Int64)) ∧ Fld Z h a1 "com/example/eskew/eskew/server/split/CounterValues" "nextToRest" "I" (.int (1 : Int32)) ∧ Fld Z h a1 "com/example/eskew/eskew/server/split/CounterValues" "rereadNanos" "J" (.long q3) ∧ Fld Z h a1 "com/example/eskew/eskew/server/split/CounterValues" "tallies" "[Lcom/example/eskew/eskew/server/split/CounterValues$Tally;" (.ref ta) ∧ h0.size ≤ ta ∧ Arv Z h ta kt (.object "com/example/eskew/eskew/server/split/CounterValues$Tally") (3 : Int32) [(.ref tl0), (.ref tl1), (.ref tl2)] .null ∧ h0.size ≤ tl0 ∧ h0.size ≤ tl1 ∧ h0.size ≤ tl2 ∧ Fld Z h tl0 "com/example/eskew/eskew/server/split/CounterValues$Tally" "since" "J" (.long q4) ∧ Fld Z h tl1 "com/example/eskew/eskew/server/split/CounterValues$Tally" "since" "J" (.long q4) ∧ Fld Z h tl2 "com/example/eskew/eskew/server/split/CounterValues$Tally" "since" "J" (.long q4)
theorem pn_rm2_2 : plainFor (⟨"com/example/eskew/eskew/server/split/CounterValues", "<init>", "(IJJ)V"⟩ : MethodName) = true := plainFor_of_name (by first | (simp [plainName, overriddenIn, x]; done) | decide +kernel)
set_option maxRecDepth 65536 in
set_option maxHeartbeats 40000000 in
theorem rm2_2 (l : Launch) (Z : State) (a0 : Array Value) (hw : ∀ d ∈ tables_1, d.before a0 Z = true) (ws : List Jvm.Cond) (a1 : Addr) (q3 q4 : Int64) (h0 : Heap) (n0 : Nat) (Z0 : n0 ≤ h0.size) (g1 : n0 ≤ a1) (E1 : Exa Z h0 a1 "com/example/eskew/eskew/server/split/CounterValues") (F_rising : Fld Z h0 a1 "com/example/eskew/eskew/server/split/CounterValues" "rising" "Lcom/example/eskew/eskew/server/split/CounterValues$WideSum;" .null) (F_falling : Fld Z h0 a1 "com/example/eskew/eskew/server/split/CounterValues" "falling" "Lcom/example/eskew/eskew/server/split/CounterValues$WideSum;" .null) (F_resting : Fld Z h0 a1 "com/example/eskew/eskew/server/split/CounterValues" "resting" "I" (.int (0 : Int32))) (F_nextToRest : Fld Z h0 a1 "com/example/eskew/eskew/server/split/CounterValues" "nextToRest" "I" (.int (0 : Int32))) (F_rereadNanos : Fld Z h0 a1 "com/example/eskew/eskew/server/split/CounterValues" "rereadNanos" "J" (.long (0 : Int64))) (F_tallies : Fld Z h0 a1 "com/example/eskew/eskew/server/split/CounterValues" "tallies" "[Lcom/example/eskew/eskew/server/split/CounterValues$Tally;" .null) (F_restingSince : Fld Z h0 a1 "com/example/eskew/eskew/server/split/CounterValues" "restingSince" "J" (.long (0 : Int64))) :
    own_Met l Z (⟨"com/example/eskew/eskew/server/split/CounterValues", "<init>", "(IJJ)V"⟩ : MethodName) prog_33_method_1_code 7 none ws ({ frames := 2, cells := 6, slots := 34, locals := 48 } : Room) #[(.ref a1), (.int (3 : Int32)), (.long q3), (.long q4)] h0 (Q_rm2_2 Z a1 q3 q4 h0 n0) := by
  refine own_enter (g0 := fun m => (mkF m 0 #[.val (.ref a1), .val (.int (3 : Int32)), .val (.long q3), .second, .val (.long q4), .second, .unset] [])) pn_rm2_2 (fun m => by first | (simp [entryFrame, mkF, argsToLocals, Value.category, maxLocals]; done) | rfl) ?_
  intro p e s m below meth c s₁ hx hby hml hown hnm hret hlk hZ X0 e0
  have hml : c.maxLocals = 7 := hml
  have hown : s.vm.findClass "com/example/eskew/eskew/server/split/CounterValues" = some m.cls := hown
  have N0 := Fr.nil n0
  have K0 := Keep.refl h0 [a1]
  refine own_by (fun _ k => XS.aloadN X0.here hx rfl (hb hby d2_0) rfl rfl k) ?_
  obtain ⟨T259, X259, e259, st259⟩ := initO X0 hx hZ hown (hw _ (List.mem_of_getElem? (i := 11) rfl)) (hw _ (List.mem_of_getElem? (i := 12) rfl)) (hw _ (List.mem_of_getElem? (i := 13) rfl)) e0 (g := (mkF m 1 #[.val (.ref a1), .val (.int (3 : Int32)), .val (.long q3), .second, .val (.long q4), .second, .unset] [(.ref a1)])) rfl (by rw [hml]; rfl) rfl (hb hby d2_1) (by decide) (W := 0) (by show 2 * 0 + _ ≤ _; exact Nat.le_of_eq rfl) (by decide)
  refine own_by st259 ?_
  refine own_by (fun _ k => XS.aloadN X259.here hx rfl (hb hby d2_4) rfl rfl k) ?_
  obtain ⟨T260, h260, X260, e260, E260, A260, D260, -, st260⟩ := newO X259 hx hZ hown (hw _ (List.mem_of_getElem? (i := 14) rfl)) (hw _ (List.mem_of_getElem? (i := 15) rfl)) (hw _ (List.mem_of_getElem? (i := 16) rfl)) e259 (g := (mkF m 5 #[.val (.ref a1), .val (.int (3 : Int32)), .val (.long q3), .second, .val (.long q4), .second, .unset] [(.ref a1)])) rfl (hb hby d2_5) (by decide) (by decide)
  obtain ⟨b260, g260⟩ : ∃ zq, zq = h0.size := ⟨_, rfl⟩
  rw [← g260] at A260 D260 st260
  have ne_a1_b260 : a1 ≠ b260 := Nat.ne_of_lt (Nat.lt_of_lt_of_le F_rising.lt (Nat.le_of_eq g260.symm))
  have og_b260 : n0 ≤ b260 := Nat.le_trans Z0 (Nat.le_of_eq g260.symm)
  have sz_b260 : h0.size ≤ b260 := Nat.le_trans K0.1 (Nat.le_of_eq g260.symm)
  have Z260 : n0 ≤ h260.size := Nat.le_trans Z0 E260.1
  have K261 := K0.ext E260
  refine own_by st260 ?_
  refine own_by (fun _ k => XS.dup X260.here hx rfl (hb hby d2_8) rfl rfl k) ?_
  obtain ⟨_, T262, L262, X262, ⟨rfl, N262q, e262⟩, st262⟩ := own_callR X260 hx hZ hown (y := (⟨"com/example/eskew/eskew/server/split/CounterValues$WideSum", "<init>", "()V"⟩ : MethodName)) rfl (hw _ (List.mem_of_getElem? (i := 17) rfl)) (hw _ (List.mem_of_getElem? (i := 18) rfl)) (hw _ (List.mem_of_getElem? (i := 16) rfl)) (hw _ (List.mem_of_getElem? (i := 19) rfl)) (by decide) (a := b260) (argsL := []) (rest := [(.ref b260), (.ref a1)]) e260 (rm4 l Z a0 hw [] b260 h260 n0 Z260) (g := (mkF m 9 #[.val (.ref a1), .val (.int (3 : Int32)), .val (.long q3), .second, .val (.long q4), .second, .unset] [(.ref b260), (.ref b260), (.ref a1)])) rfl (by rw [hml]; rfl) (lenOf pd_0 rfl) rfl (W := 2) (by show 2 * 0 + _ ≤ _; exact Nat.le_of_eq rfl) (hb hby d2_9) (by decide) (by decide) (by decide) (by decide)
  have N262 := Fr.app N0 N262q
  refine own_by st262 ?_
  have f264 := (F_rising.ext E260)
  have f265 := (E1.ext E260)
  obtain ⟨T263, h263, X263, e263, W263, st263⟩ := putF X262 hx hZ hown (host := "") (Or.inl (hw _ (List.mem_of_getElem? (i := 21) rfl))) Via.refl e262 f264 f265 (Or.inr ⟨(hw _ (List.mem_of_getElem? (i := 22) rfl)), rfl, hnm⟩) (hw _ (List.mem_of_getElem? (i := 6) rfl)) (ty := (.object "com/example/eskew/eskew/server/split/CounterValues$WideSum")) (by decide) rfl rfl (g := (mkF m 12 #[.val (.ref a1), .val (.int (3 : Int32)), .val (.long q3), .second, .val (.long q4), .second, .unset] [(.ref b260), (.ref a1)])) rfl rfl (hb hby d2_12)
  refine own_by st263 ?_
  have N263 := Fr.snoc X263 N262 g1
  have fw263 := f264.same W263
  have K266 := K261.wr W263 (Or.inl (List.mem_of_getElem? (i := 0) rfl))
  have Z263 : n0 ≤ h263.size := Nat.le_trans Z260 (Keep.of_wr W263).1
  refine own_by (fun _ k => XS.aloadN X263.here hx rfl (hb hby d2_15) rfl rfl k) ?_
  show own_Go p e below _ T263 (mkF m 16 #[.val (.ref a1), .val (.int (3 : Int32)), .val (.long q3), .second, .val (.long q4), .second, .unset] [(.ref a1)])
  obtain ⟨T267, h267, X267, e267, E267, A267, D267, -, st267⟩ := newO X263 hx hZ hown (hw _ (List.mem_of_getElem? (i := 14) rfl)) (hw _ (List.mem_of_getElem? (i := 15) rfl)) (hw _ (List.mem_of_getElem? (i := 16) rfl)) e263 (g := (mkF m 16 #[.val (.ref a1), .val (.int (3 : Int32)), .val (.long q3), .second, .val (.long q4), .second, .unset] [(.ref a1)])) rfl (hb hby d2_16) (by decide) (by decide)
  obtain ⟨b267, g267⟩ : ∃ zq, zq = h263.size := ⟨_, rfl⟩
  rw [← g267] at A267 D267 st267
  have ne_a1_b267 : a1 ≠ b267 := Nat.ne_of_lt (Nat.lt_of_lt_of_le fw263.lt (Nat.le_of_eq g267.symm))
  have f268 := (A260.wr W263)
  have ne_b260_b267 : b260 ≠ b267 := Nat.ne_of_lt (Nat.lt_of_lt_of_le f268.lt (Nat.le_of_eq g267.symm))
  have og_b267 : n0 ≤ b267 := Nat.le_trans Z263 (Nat.le_of_eq g267.symm)
  have sz_b267 : h0.size ≤ b267 := Nat.le_trans K266.1 (Nat.le_of_eq g267.symm)
  have Z267 : n0 ≤ h267.size := Nat.le_trans Z263 E267.1
  have K269 := K266.ext E267
  refine own_by st267 ?_
  refine own_by (fun _ k => XS.dup X267.here hx rfl (hb hby d2_19) rfl rfl k) ?_
  obtain ⟨_, T270, L270, X270, ⟨rfl, N270q, e270⟩, st270⟩ := own_callR X267 hx hZ hown (y := (⟨"com/example/eskew/eskew/server/split/CounterValues$WideSum", "<init>", "()V"⟩ : MethodName)) rfl (hw _ (List.mem_of_getElem? (i := 17) rfl)) (hw _ (List.mem_of_getElem? (i := 18) rfl)) (hw _ (List.mem_of_getElem? (i := 16) rfl)) (hw _ (List.mem_of_getElem? (i := 19) rfl)) (by decide) (a := b267) (argsL := []) (rest := [(.ref b267), (.ref a1)]) e267 (rm4 l Z a0 hw [] b267 h267 n0 Z267) (g := (mkF m 20 #[.val (.ref a1), .val (.int (3 : Int32)), .val (.long q3), .second, .val (.long q4), .second, .unset] [(.ref b267), (.ref b267), (.ref a1)])) rfl (by rw [hml]; rfl) (lenOf pd_0 rfl) rfl (W := 2) (by show 2 * 0 + _ ≤ _; exact Nat.le_of_eq rfl) (hb hby d2_20) (by decide) (by decide) (by decide) (by decide)
  have N270 := Fr.app N263 N270q
  refine own_by st270 ?_
  have f272 := (((F_falling.ext E260).other W263 (Or.inr (slot_ne (Or.inr (hw _ (List.mem_of_getElem? (i := 24) rfl))) (Or.inr (hw _ (List.mem_of_getElem? (i := 22) rfl))) (by decide) (t := (.object "com/example/eskew/eskew/server/split/CounterValues$WideSum")) (t' := (.object "com/example/eskew/eskew/server/split/CounterValues$WideSum")) (by decide) (by decide)))).ext E267)
  have f273 := ((f265.wr W263).ext E267)
  obtain ⟨T271, h271, X271, e271, W271, st271⟩ := putF X270 hx hZ hown (host := "") (Or.inl (hw _ (List.mem_of_getElem? (i := 23) rfl))) Via.refl e270 f272 f273 (Or.inr ⟨(hw _ (List.mem_of_getElem? (i := 24) rfl)), rfl, hnm⟩) (hw _ (List.mem_of_getElem? (i := 6) rfl)) (ty := (.object "com/example/eskew/eskew/server/split/CounterValues$WideSum")) (by decide) rfl rfl (g := (mkF m 23 #[.val (.ref a1), .val (.int (3 : Int32)), .val (.long q3), .second, .val (.long q4), .second, .unset] [(.ref b267), (.ref a1)])) rfl rfl (hb hby d2_23)
  refine own_by st271 ?_
  have N271 := Fr.snoc X271 N270 g1
  have fw271 := f272.same W271
  have K274 := K269.wr W271 (Or.inl (List.mem_of_getElem? (i := 0) rfl))
  have Z271 : n0 ≤ h271.size := Nat.le_trans Z267 (Keep.of_wr W271).1
  refine own_by (fun _ k => XS.aloadN X271.here hx rfl (hb hby d2_26) rfl rfl k) ?_
  refine own_by (fun _ k => XS.iconst X271.here hx rfl (hb hby d2_27) k) ?_
  have f276 := ((((F_resting.ext E260).other W263 (Or.inr (slot_ne (Or.inl (hw _ (List.mem_of_getElem? (i := 26) rfl))) (Or.inr (hw _ (List.mem_of_getElem? (i := 22) rfl))) (by decide) (t := .int) (t' := (.object "com/example/eskew/eskew/server/split/CounterValues$WideSum")) (by decide) (by decide)))).ext E267).other W271 (Or.inr (slot_ne (Or.inl (hw _ (List.mem_of_getElem? (i := 26) rfl))) (Or.inr (hw _ (List.mem_of_getElem? (i := 24) rfl))) (by decide) (t := .int) (t' := (.object "com/example/eskew/eskew/server/split/CounterValues$WideSum")) (by decide) (by decide))))
  have f277 := (f273.wr W271)
  obtain ⟨T275, h275, X275, e275, W275, st275⟩ := putF X271 hx hZ hown (host := "") (Or.inl (hw _ (List.mem_of_getElem? (i := 25) rfl))) Via.refl e271 f276 f277 (Or.inl (hw _ (List.mem_of_getElem? (i := 26) rfl))) (hw _ (List.mem_of_getElem? (i := 6) rfl)) (ty := .int) (by decide) rfl rfl (g := (mkF m 28 #[.val (.ref a1), .val (.int (3 : Int32)), .val (.long q3), .second, .val (.long q4), .second, .unset] [(.int (-1 : Int32)), (.ref a1)])) rfl rfl (hb hby d2_28)
  refine own_by st275 ?_
  have N275 := Fr.snoc X275 N271 g1
  have fw275 := f276.same W275
  have K278 := K274.wr W275 (Or.inl (List.mem_of_getElem? (i := 0) rfl))
  have Z275 : n0 ≤ h275.size := Nat.le_trans Z271 (Keep.of_wr W275).1
  refine own_by (fun _ k => XS.aloadN X275.here hx rfl (hb hby d2_31) rfl rfl k) ?_
  refine own_by (fun _ k => XS.iconst X275.here hx rfl (hb hby d2_32) k) ?_
  show own_Go p e below _ T275 (mkF m 33 #[.val (.ref a1), .val (.int (3 : Int32)), .val (.long q3), .second, .val (.long q4), .second, .unset] [(.int (1 : Int32)), (.ref a1)])
  have f280 := (((((F_nextToRest.ext E260).other W263 (Or.inr (slot_ne (Or.inl (hw _ (List.mem_of_getElem? (i := 28) rfl))) (Or.inr (hw _ (List.mem_of_getElem? (i := 22) rfl))) (by decide) (t := .int) (t' := (.object "com/example/eskew/eskew/server/split/CounterValues$WideSum")) (by decide) (by decide)))).ext E267).other W271 (Or.inr (slot_ne (Or.inl (hw _ (List.mem_of_getElem? (i := 28) rfl))) (Or.inr (hw _ (List.mem_of_getElem? (i := 24) rfl))) (by decide) (t := .int) (t' := (.object "com/example/eskew/eskew/server/split/CounterValues$WideSum")) (by decide) (by decide)))).other W275 (Or.inr (slot_ne (Or.inl (hw _ (List.mem_of_getElem? (i := 28) rfl))) (Or.inl (hw _ (List.mem_of_getElem? (i := 26) rfl))) (by decide) (t := .int) (t' := .int) (by decide) (by decide))))
  have f281 := (f277.wr W275)
  obtain ⟨T279, h279, X279, e279, W279, st279⟩ := putF X275 hx hZ hown (host := "") (Or.inl (hw _ (List.mem_of_getElem? (i := 27) rfl))) Via.refl e275 f280 f281 (Or.inl (hw _ (List.mem_of_getElem? (i := 28) rfl))) (hw _ (List.mem_of_getElem? (i := 6) rfl)) (ty := .int) (by decide) rfl rfl (g := (mkF m 33 #[.val (.ref a1), .val (.int (3 : Int32)), .val (.long q3), .second, .val (.long q4), .second, .unset] [(.int (1 : Int32)), (.ref a1)])) rfl rfl (hb hby d2_33)
  refine own_by st279 ?_
  have N279 := Fr.snoc X279 N275 g1
  have fw279 := f280.same W279
  have K282 := K278.wr W279 (Or.inl (List.mem_of_getElem? (i := 0) rfl))
  have Z279 : n0 ≤ h279.size := Nat.le_trans Z275 (Keep.of_wr W279).1
  refine own_by (fun _ k => XS.aloadN X279.here hx rfl (hb hby d2_36) rfl rfl k) ?_
  refine own_by (fun _ k => XS.lloadN X279.here hx rfl (hb hby d2_37) rfl k) ?_
  have f284 := ((((((F_rereadNanos.ext E260).other W263 (Or.inr (slot_ne (Or.inr (hw _ (List.mem_of_getElem? (i := 30) rfl))) (Or.inr (hw _ (List.mem_of_getElem? (i := 22) rfl))) (by decide) (t := .long) (t' := (.object "com/example/eskew/eskew/server/split/CounterValues$WideSum")) (by decide) (by decide)))).ext E267).other W271 (Or.inr (slot_ne (Or.inr (hw _ (List.mem_of_getElem? (i := 30) rfl))) (Or.inr (hw _ (List.mem_of_getElem? (i := 24) rfl))) (by decide) (t := .long) (t' := (.object "com/example/eskew/eskew/server/split/CounterValues$WideSum")) (by decide) (by decide)))).other W275 (Or.inr (slot_ne (Or.inr (hw _ (List.mem_of_getElem? (i := 30) rfl))) (Or.inl (hw _ (List.mem_of_getElem? (i := 26) rfl))) (by decide) (t := .long) (t' := .int) (by decide) (by decide)))).other W279 (Or.inr (slot_ne (Or.inr (hw _ (List.mem_of_getElem? (i := 30) rfl))) (Or.inl (hw _ (List.mem_of_getElem? (i := 28) rfl))) (by decide) (t := .long) (t' := .int) (by decide) (by decide))))
  have f285 := (f281.wr W279)
  obtain ⟨T283, h283, X283, e283, W283, st283⟩ := putF X279 hx hZ hown (host := "") (Or.inl (hw _ (List.mem_of_getElem? (i := 29) rfl))) Via.refl e279 f284 f285 (Or.inr ⟨(hw _ (List.mem_of_getElem? (i := 30) rfl)), rfl, hnm⟩) (hw _ (List.mem_of_getElem? (i := 6) rfl)) (ty := .long) (by decide) rfl rfl (g := (mkF m 38 #[.val (.ref a1), .val (.int (3 : Int32)), .val (.long q3), .second, .val (.long q4), .second, .unset] [(.long q3), (.ref a1)])) rfl rfl (hb hby d2_38)
  refine own_by st283 ?_
  have N283 := Fr.snoc X283 N279 g1
  have fw283 := f284.same W283
  have K286 := K282.wr W283 (Or.inl (List.mem_of_getElem? (i := 0) rfl))
  have Z283 : n0 ≤ h283.size := Nat.le_trans Z279 (Keep.of_wr W283).1
  refine own_by (fun _ k => XS.aloadN X283.here hx rfl (hb hby d2_41) rfl rfl k) ?_
  refine own_by (fun _ k => XS.iloadN X283.here hx rfl (hb hby d2_42) rfl k) ?_
  obtain ⟨T287, h287, k287, X287, e287, E287, A287, O287, st287⟩ := newR X283 hx hZ hown (hw _ (List.mem_of_getElem? (i := 31) rfl)) (hw _ (List.mem_of_getElem? (i := 32) rfl)) e283 (g := (mkF m 43 #[.val (.ref a1), .val (.int (3 : Int32)), .val (.long q3), .second, .val (.long q4), .second, .unset] [(.int (3 : Int32)), (.ref a1)])) rfl (hb hby d2_43) rfl (by decide) (cap := 3) (by decide) (by decide) (by decide) (by decide)
  obtain ⟨b287, g287⟩ : ∃ zq, zq = h283.size := ⟨_, rfl⟩
  rw [← g287] at A287 st287
  have f288 := (((((fw263.ext E267).other W271 (Or.inr (slot_ne (Or.inr (hw _ (List.mem_of_getElem? (i := 22) rfl))) (Or.inr (hw _ (List.mem_of_getElem? (i := 24) rfl))) (by decide) (t := (.object "com/example/eskew/eskew/server/split/CounterValues$WideSum")) (t' := (.object "com/example/eskew/eskew/server/split/CounterValues$WideSum")) (by decide) (by decide)))).other W275 (Or.inr (slot_ne (Or.inr (hw _ (List.mem_of_getElem? (i := 22) rfl))) (Or.inl (hw _ (List.mem_of_getElem? (i := 26) rfl))) (by decide) (t := (.object "com/example/eskew/eskew/server/split/CounterValues$WideSum")) (t' := .int) (by decide) (by decide)))).other W279 (Or.inr (slot_ne (Or.inr (hw _ (List.mem_of_getElem? (i := 22) rfl))) (Or.inl (hw _ (List.mem_of_getElem? (i := 28) rfl))) (by decide) (t := (.object "com/example/eskew/eskew/server/split/CounterValues$WideSum")) (t' := .int) (by decide) (by decide)))).other W283 (Or.inr (slot_ne (Or.inr (hw _ (List.mem_of_getElem? (i := 22) rfl))) (Or.inr (hw _ (List.mem_of_getElem? (i := 30) rfl))) (by decide) (t := (.object "com/example/eskew/eskew/server/split/CounterValues$WideSum")) (t' := .long) (by decide) (by decide))))
  have ne_a1_b287 : a1 ≠ b287 := Nat.ne_of_lt (Nat.lt_of_lt_of_le f288.lt (Nat.le_of_eq g287.symm))
  have f289 := (((((f268.ext E267).wr W271).wr W275).wr W279).wr W283)
  have ne_b260_b287 : b260 ≠ b287 := Nat.ne_of_lt (Nat.lt_of_lt_of_le f289.lt (Nat.le_of_eq g287.symm))
  have f290 := ((((A267.wr W271).wr W275).wr W279).wr W283)
  have ne_b267_b287 : b267 ≠ b287 := Nat.ne_of_lt (Nat.lt_of_lt_of_le f290.lt (Nat.le_of_eq g287.symm))
  have og_b287 : n0 ≤ b287 := Nat.le_trans Z283 (Nat.le_of_eq g287.symm)
  have sz_b287 : h0.size ≤ b287 := Nat.le_trans K286.1 (Nat.le_of_eq g287.symm)
  have Z287 : n0 ≤ h287.size := Nat.le_trans Z283 E287.1
  have K291 := K286.ext E287
  have V287 : Arv Z h287 b287 k287 (.object "com/example/eskew/eskew/server/split/CounterValues$Tally") (3 : Int32) [.null, .null, .null] .null := (Arv.new A287 (by decide)).pad (pad_rep [] .null 3)
  refine own_by st287 ?_
  have f293 := ((((((((F_tallies.ext E260).other W263 (Or.inr (slot_ne (Or.inr (hw _ (List.mem_of_getElem? (i := 34) rfl))) (Or.inr (hw _ (List.mem_of_getElem? (i := 22) rfl))) (by decide) (t := (.array (.object "com/example/eskew/eskew/server/split/CounterValues$Tally"))) (t' := (.object "com/example/eskew/eskew/server/split/CounterValues$WideSum")) (by decide) (by decide)))).ext E267).other W271 (Or.inr (slot_ne (Or.inr (hw _ (List.mem_of_getElem? (i := 34) rfl))) (Or.inr (hw _ (List.mem_of_getElem? (i := 24) rfl))) (by decide) (t := (.array (.object "com/example/eskew/eskew/server/split/CounterValues$Tally"))) (t' := (.object "com/example/eskew/eskew/server/split/CounterValues$WideSum")) (by decide) (by decide)))).other W275 (Or.inr (slot_ne (Or.inr (hw _ (List.mem_of_getElem? (i := 34) rfl))) (Or.inl (hw _ (List.mem_of_getElem? (i := 26) rfl))) (by decide) (t := (.array (.object "com/example/eskew/eskew/server/split/CounterValues$Tally"))) (t' := .int) (by decide) (by decide)))).other W279 (Or.inr (slot_ne (Or.inr (hw _ (List.mem_of_getElem? (i := 34) rfl))) (Or.inl (hw _ (List.mem_of_getElem? (i := 28) rfl))) (by decide) (t := (.array (.object "com/example/eskew/eskew/server/split/CounterValues$Tally"))) (t' := .int) (by decide) (by decide)))).other W283 (Or.inr (slot_ne (Or.inr (hw _ (List.mem_of_getElem? (i := 34) rfl))) (Or.inr (hw _ (List.mem_of_getElem? (i := 30) rfl))) (by decide) (t := (.array (.object "com/example/eskew/eskew/server/split/CounterValues$Tally"))) (t' := .long) (by decide) (by decide)))).ext E287)
  have f294 := ((f285.wr W283).ext E287)
  obtain ⟨T292, h292, X292, e292, W292, st292⟩ := putF X287 hx hZ hown (host := "") (Or.inl (hw _ (List.mem_of_getElem? (i := 33) rfl))) Via.refl e287 f293 f294 (Or.inr ⟨(hw _ (List.mem_of_getElem? (i := 34) rfl)), rfl, hnm⟩) (hw _ (List.mem_of_getElem? (i := 6) rfl)) (ty := (.array (.object "com/example/eskew/eskew/server/split/CounterValues$Tally"))) (by decide) rfl rfl (g := (mkF m 46 #[.val (.ref a1), .val (.int (3 : Int32)), .val (.long q3), .second, .val (.long q4), .second, .unset] [(.ref b287), (.ref a1)])) rfl rfl (hb hby d2_46)
  refine own_by st292 ?_
  have N292 := Fr.snoc X292 N283 g1
  have fw292 := f293.same W292
  have K295 := K291.wr W292 (Or.inl (List.mem_of_getElem? (i := 0) rfl))
  have Z292 : n0 ≤ h292.size := Nat.le_trans Z287 (Keep.of_wr W292).1
  refine own_by (fun _ k => XS.iconst X292.here hx rfl (hb hby d2_49) k) ?_
  show own_Go p e below _ T292 (mkF m 50 #[.val (.ref a1), .val (.int (3 : Int32)), .val (.long q3), .second, .val (.long q4), .second, .unset] [(.int (0 : Int32))])
  refine own_by (fun _ k => XS.istore X292.here hx rfl (hb hby d2_50) rfl (l' := #[.val (.ref a1), .val (.int (3 : Int32)), .val (.long q3), .second, .val (.long q4), .second, .val (.int (0 : Int32))]) rfl k) ?_
  refine own_by (fun _ k => XS.iload X292.here hx rfl (hb hby d2_52) rfl k) ?_
  refine own_by (fun _ k => XS.iloadN X292.here hx rfl (hb hby d2_54) rfl k) ?_
  refine own_by (fun _ k => XS.icmpNo X292.here hx rfl (hb hby d2_55) rfl (tlt (by decide : (0 : Int32) < (3 : Int32))).2.1 k) ?_
  refine own_by (fun _ k => XS.aloadN X292.here hx rfl (hb hby d2_58) rfl rfl k) ?_
  obtain ⟨T296, X296, e296, st296⟩ := getF X292 hx hZ hown (host := "") (Or.inl (hw _ (List.mem_of_getElem? (i := 33) rfl))) Via.refl e292 fw292 (g := (mkF m 59 #[.val (.ref a1), .val (.int (3 : Int32)), .val (.long q3), .second, .val (.long q4), .second, .val (.int (0 : Int32))] [(.ref a1)])) rfl rfl (hb hby d2_59)
  refine own_by st296 ?_
  refine own_by (fun _ k => XS.iload X296.here hx rfl (hb hby d2_62) rfl k) ?_
  obtain ⟨T297, h297, X297, e297, E297, A297, D297, -, st297⟩ := newO X296 hx hZ hown (hw _ (List.mem_of_getElem? (i := 31) rfl)) (hw _ (List.mem_of_getElem? (i := 35) rfl)) (hw _ (List.mem_of_getElem? (i := 36) rfl)) e296 (g := (mkF m 64 #[.val (.ref a1), .val (.int (3 : Int32)), .val (.long q3), .second, .val (.long q4), .second, .val (.int (0 : Int32))] [(.int (0 : Int32)), (.ref b287)])) rfl (hb hby d2_64) (by decide) (by decide)
  obtain ⟨b297, g297⟩ : ∃ zq, zq = h292.size := ⟨_, rfl⟩
  rw [← g297] at A297 D297 st297
  have f298 := ((f288.ext E287).other W292 (Or.inr (slot_ne (Or.inr (hw _ (List.mem_of_getElem? (i := 22) rfl))) (Or.inr (hw _ (List.mem_of_getElem? (i := 34) rfl))) (by decide) (t := (.object "com/example/eskew/eskew/server/split/CounterValues$WideSum")) (t' := (.array (.object "com/example/eskew/eskew/server/split/CounterValues$Tally"))) (by decide) (by decide))))
  have ne_a1_b297 : a1 ≠ b297 := Nat.ne_of_lt (Nat.lt_of_lt_of_le f298.lt (Nat.le_of_eq g297.symm))
  have f299 := ((f289.ext E287).wr W292)
  have ne_b260_b297 : b260 ≠ b297 := Nat.ne_of_lt (Nat.lt_of_lt_of_le f299.lt (Nat.le_of_eq g297.symm))
  have f300 := ((f290.ext E287).wr W292)
  have ne_b267_b297 : b267 ≠ b297 := Nat.ne_of_lt (Nat.lt_of_lt_of_le f300.lt (Nat.le_of_eq g297.symm))
  have f301 := (V287.other W292 (Ne.symm ne_a1_b287))
  have ne_b287_b297 : b287 ≠ b297 := Nat.ne_of_lt (Nat.lt_of_lt_of_le f301.lt (Nat.le_of_eq g297.symm))
  have og_b297 : n0 ≤ b297 := Nat.le_trans Z292 (Nat.le_of_eq g297.symm)
  have sz_b297 : h0.size ≤ b297 := Nat.le_trans K295.1 (Nat.le_of_eq g297.symm)
  have Z297 : n0 ≤ h297.size := Nat.le_trans Z292 E297.1
  have K302 := K295.ext E297
  have F_since_b297 : Fld Z h297 b297 "com/example/eskew/eskew/server/split/CounterValues$Tally" "since" "J" (.long (0 : Int64)) := D297 (Or.inl (hw _ (List.mem_of_getElem? (i := 42) rfl))) (ty := .long) (by decide)
  refine own_by st297 ?_
  refine own_by (fun _ k => XS.dup X297.here hx rfl (hb hby d2_67) rfl rfl k) ?_
  show own_Go p e below _ T297 (mkF m 68 #[.val (.ref a1), .val (.int (3 : Int32)), .val (.long q3), .second, .val (.long q4), .second, .val (.int (0 : Int32))] [(.ref b297), (.ref b297), (.int (0 : Int32)), (.ref b287)])
  refine own_by (fun _ k => XS.lload X297.here hx rfl (hb hby d2_68) rfl k) ?_
  have f303 := (f298.ext E297)
  have f304 := (f299.ext E297)
  have f305 := (f300.ext E297)
  have f306 := (f301.ext E297)
  obtain ⟨_, T307, L307, X307, ⟨rfl, N307q, K0', E0', S0'⟩, st307⟩ := own_callR X297 hx hZ hown (y := (⟨"com/example/eskew/eskew/server/split/CounterValues$Tally", "<init>", "(J)V"⟩ : MethodName)) rfl (hw _ (List.mem_of_getElem? (i := 37) rfl)) (hw _ (List.mem_of_getElem? (i := 38) rfl)) (hw _ (List.mem_of_getElem? (i := 36) rfl)) (hw _ (List.mem_of_getElem? (i := 39) rfl)) (by decide) (a := b297) (argsL := [(.long q4)]) (rest := [(.ref b297), (.int (0 : Int32)), (.ref b287)]) e297 (rm5 l Z a0 hw [] b297 q4 h297 n0 Z297 og_b297 A297 F_since_b297) (g := (mkF m 70 #[.val (.ref a1), .val (.int (3 : Int32)), .val (.long q3), .second, .val (.long q4), .second, .val (.int (0 : Int32))] [(.long q4), (.ref b297), (.ref b297), (.int (0 : Int32)), (.ref b287)])) rfl (by rw [hml]; rfl) (lenOf pd_1 rfl) rfl (W := 3) (by show 2 * 0 + _ ≤ _; exact Nat.le_of_eq rfl) (hb hby d2_70) (by decide) (by decide) (by decide) (by decide)
  have N307 := Fr.app N292 N307q
  refine own_by st307 ?_
  have Z307 : n0 ≤ T307.heap.size := Nat.le_trans Z297 K0'.1
  have K307c := K302.trans K0' (allS (Or.inr sz_b297) all0)
  have f309 := (f306.keep K0' (ninS ne_b287_b297 nin0))
  obtain ⟨cl308, Ar308, cq308, hin308, hat308, set308⟩ := own_arv f309 (j := (0 : Int32)) ⟨by decide, by decide⟩
  obtain ⟨T310, h310, X310, e310, W310, st310⟩ := stR X307 hx hZ rfl Ar308 (j := (0 : Int32)) hin308 rfl (Sto.ofV Ar308 cq308 O287 (Ins.self E0')) (g := (mkF m 73 #[.val (.ref a1), .val (.int (3 : Int32)), .val (.long q3), .second, .val (.long q4), .second, .val (.int (0 : Int32))] [(.ref b297), (.int (0 : Int32)), (.ref b287)])) rfl rfl (hb hby d2_73)
  have V310 : Arv Z h310 b287 k287 (.object "com/example/eskew/eskew/server/split/CounterValues$Tally") (3 : Int32) [(.ref b297), .null, .null] .null := set308 rfl W310 0 rfl (Nat.le_of_ble_eq_true rfl)
  have N310 := Fr.snoc X310 N307 og_b287
  have K311 := K307c.wr W310 (Or.inr sz_b287)
  have Z310 : n0 ≤ h310.size := Nat.le_trans Z307 (Keep.of_wr W310).1
  refine own_by st310 ?_
  refine own_by (fun _ k => XS.iinc X310.here hx rfl (hb hby d2_74) rfl (l' := #[.val (.ref a1), .val (.int (3 : Int32)), .val (.long q3), .second, .val (.long q4), .second, .val (.int ((0 : Int32) + (1 : Int32)))]) rfl k) ?_
  show own_Go p e below _ T310 (mkF m 77 #[.val (.ref a1), .val (.int (3 : Int32)), .val (.long q3), .second, .val (.long q4), .second, .val (.int ((0 : Int32) + (1 : Int32)))] [])
  rw [show (0 : Int32) + (1 : Int32) = (1 : Int32) from by decide]
  refine own_by (fun _ k => XS.goto X310.here hx rfl (pc0 := 77) (pc' := 52) rfl (hb hby d2_77) (by decide) (by decide) k) ?_
  refine own_by (fun _ k => XS.iload X310.here hx rfl (hb hby d2_52) rfl k) ?_
  refine own_by (fun _ k => XS.iloadN X310.here hx rfl (hb hby d2_54) rfl k) ?_
  refine own_by (fun _ k => XS.icmpNo X310.here hx rfl (hb hby d2_55) rfl (tlt (by decide : (1 : Int32) < (3 : Int32))).2.1 k) ?_
  refine own_by (fun _ k => XS.aloadN X310.here hx rfl (hb hby d2_58) rfl rfl k) ?_
  have f313 := (((fw292.ext E297).keep K0' (ninS ne_a1_b297 nin0)).other W310 (Or.inl ne_a1_b287))
  obtain ⟨T312, X312, e312, st312⟩ := getF X310 hx hZ hown (host := "") (Or.inl (hw _ (List.mem_of_getElem? (i := 33) rfl))) Via.refl e310 f313 (g := (mkF m 59 #[.val (.ref a1), .val (.int (3 : Int32)), .val (.long q3), .second, .val (.long q4), .second, .val (.int (1 : Int32))] [(.ref a1)])) rfl rfl (hb hby d2_59)
  refine own_by st312 ?_
  refine own_by (fun _ k => XS.iload X312.here hx rfl (hb hby d2_62) rfl k) ?_
  obtain ⟨T314, h314, X314, e314, E314, A314, D314, -, st314⟩ := newO X312 hx hZ hown (hw _ (List.mem_of_getElem? (i := 31) rfl)) (hw _ (List.mem_of_getElem? (i := 35) rfl)) (hw _ (List.mem_of_getElem? (i := 36) rfl)) e312 (g := (mkF m 64 #[.val (.ref a1), .val (.int (3 : Int32)), .val (.long q3), .second, .val (.long q4), .second, .val (.int (1 : Int32))] [(.int (1 : Int32)), (.ref b287)])) rfl (hb hby d2_64) (by decide) (by decide)
  obtain ⟨b314, g314⟩ : ∃ zq, zq = h310.size := ⟨_, rfl⟩
  rw [← g314] at A314 D314 st314
  have f315 := ((f303.keep K0' (ninS ne_a1_b297 nin0)).other W310 (Or.inl ne_a1_b287))
  have ne_a1_b314 : a1 ≠ b314 := Nat.ne_of_lt (Nat.lt_of_lt_of_le f315.lt (Nat.le_of_eq g314.symm))
  have f316 := ((f304.keep K0').wr W310)
  have ne_b260_b314 : b260 ≠ b314 := Nat.ne_of_lt (Nat.lt_of_lt_of_le f316.lt (Nat.le_of_eq g314.symm))
  have f317 := ((f305.keep K0').wr W310)
  have ne_b267_b314 : b267 ≠ b314 := Nat.ne_of_lt (Nat.lt_of_lt_of_le f317.lt (Nat.le_of_eq g314.symm))
  have ne_b287_b314 : b287 ≠ b314 := Nat.ne_of_lt (Nat.lt_of_lt_of_le V310.lt (Nat.le_of_eq g314.symm))
  have f318 := (E0'.wr W310)
  have ne_b297_b314 : b297 ≠ b314 := Nat.ne_of_lt (Nat.lt_of_lt_of_le f318.lt (Nat.le_of_eq g314.symm))
  have og_b314 : n0 ≤ b314 := Nat.le_trans Z310 (Nat.le_of_eq g314.symm)
  have sz_b314 : h0.size ≤ b314 := Nat.le_trans K311.1 (Nat.le_of_eq g314.symm)
  have Z314 : n0 ≤ h314.size := Nat.le_trans Z310 E314.1
  have K319 := K311.ext E314
  have F_since_b314 : Fld Z h314 b314 "com/example/eskew/eskew/server/split/CounterValues$Tally" "since" "J" (.long (0 : Int64)) := D314 (Or.inl (hw _ (List.mem_of_getElem? (i := 42) rfl))) (ty := .long) (by decide)
  refine own_by st314 ?_
  show own_Go p e below _ T314 (mkF m 67 #[.val (.ref a1), .val (.int (3 : Int32)), .val (.long q3), .second, .val (.long q4), .second, .val (.int (1 : Int32))] [(.ref b314), (.int (1 : Int32)), (.ref b287)])
  refine own_by (fun _ k => XS.dup X314.here hx rfl (hb hby d2_67) rfl rfl k) ?_
  refine own_by (fun _ k => XS.lload X314.here hx rfl (hb hby d2_68) rfl k) ?_
  have f320 := (f315.ext E314)
  have f321 := (f316.ext E314)
  have f322 := (f317.ext E314)
  have f323 := (V310.ext E314)
  have f324 := (f318.ext E314)
  obtain ⟨_, T325, L325, X325, ⟨rfl, N325q, K1', E1', S1'⟩, st325⟩ := own_callR X314 hx hZ hown (y := (⟨"com/example/eskew/eskew/server/split/CounterValues$Tally", "<init>", "(J)V"⟩ : MethodName)) rfl (hw _ (List.mem_of_getElem? (i := 37) rfl)) (hw _ (List.mem_of_getElem? (i := 38) rfl)) (hw _ (List.mem_of_getElem? (i := 36) rfl)) (hw _ (List.mem_of_getElem? (i := 39) rfl)) (by decide) (a := b314) (argsL := [(.long q4)]) (rest := [(.ref b314), (.int (1 : Int32)), (.ref b287)]) e314 (rm5 l Z a0 hw [] b314 q4 h314 n0 Z314 og_b314 A314 F_since_b314) (g := (mkF m 70 #[.val (.ref a1), .val (.int (3 : Int32)), .val (.long q3), .second, .val (.long q4), .second, .val (.int (1 : Int32))] [(.long q4), (.ref b314), (.ref b314), (.int (1 : Int32)), (.ref b287)])) rfl (by rw [hml]; rfl) (lenOf pd_1 rfl) rfl (W := 3) (by show 2 * 0 + _ ≤ _; exact Nat.le_of_eq rfl) (hb hby d2_70) (by decide) (by decide) (by decide) (by decide)
  have N325 := Fr.app N310 N325q
  refine own_by st325 ?_
  have Z325 : n0 ≤ T325.heap.size := Nat.le_trans Z314 K1'.1
  have K325c := K319.trans K1' (allS (Or.inr sz_b314) all0)
  have f327 := (f323.keep K1' (ninS ne_b287_b314 nin0))
  obtain ⟨cl326, Ar326, cq326, hin326, hat326, set326⟩ := own_arv f327 (j := (1 : Int32)) ⟨by decide, by decide⟩
  obtain ⟨T328, h328, X328, e328, W328, st328⟩ := stR X325 hx hZ rfl Ar326 (j := (1 : Int32)) hin326 rfl (Sto.ofV Ar326 cq326 O287 (Ins.self E1')) (g := (mkF m 73 #[.val (.ref a1), .val (.int (3 : Int32)), .val (.long q3), .second, .val (.long q4), .second, .val (.int (1 : Int32))] [(.ref b314), (.int (1 : Int32)), (.ref b287)])) rfl rfl (hb hby d2_73)
  have V328 : Arv Z h328 b287 k287 (.object "com/example/eskew/eskew/server/split/CounterValues$Tally") (3 : Int32) [(.ref b297), (.ref b314), .null] .null := set326 rfl W328 1 rfl (Nat.le_of_ble_eq_true rfl)
  have N328 := Fr.snoc X328 N325 og_b287
  have K329 := K325c.wr W328 (Or.inr sz_b287)
  have Z328 : n0 ≤ h328.size := Nat.le_trans Z325 (Keep.of_wr W328).1
  refine own_by st328 ?_
  refine own_by (fun _ k => XS.iinc X328.here hx rfl (hb hby d2_74) rfl (l' := #[.val (.ref a1), .val (.int (3 : Int32)), .val (.long q3), .second, .val (.long q4), .second, .val (.int ((1 : Int32) + (1 : Int32)))]) rfl k) ?_
  show own_Go p e below _ T328 (mkF m 77 #[.val (.ref a1), .val (.int (3 : Int32)), .val (.long q3), .second, .val (.long q4), .second, .val (.int ((1 : Int32) + (1 : Int32)))] [])
  rw [show (1 : Int32) + (1 : Int32) = (2 : Int32) from by decide]
  refine own_by (fun _ k => XS.goto X328.here hx rfl (pc0 := 77) (pc' := 52) rfl (hb hby d2_77) (by decide) (by decide) k) ?_
  refine own_by (fun _ k => XS.iload X328.here hx rfl (hb hby d2_52) rfl k) ?_
  refine own_by (fun _ k => XS.iloadN X328.here hx rfl (hb hby d2_54) rfl k) ?_
  refine own_by (fun _ k => XS.icmpNo X328.here hx rfl (hb hby d2_55) rfl (tlt (by decide : (2 : Int32) < (3 : Int32))).2.1 k) ?_
  refine own_by (fun _ k => XS.aloadN X328.here hx rfl (hb hby d2_58) rfl rfl k) ?_
  have f331 := (((f313.ext E314).keep K1' (ninS ne_a1_b314 nin0)).other W328 (Or.inl ne_a1_b287))
  obtain ⟨T330, X330, e330, st330⟩ := getF X328 hx hZ hown (host := "") (Or.inl (hw _ (List.mem_of_getElem? (i := 33) rfl))) Via.refl e328 f331 (g := (mkF m 59 #[.val (.ref a1), .val (.int (3 : Int32)), .val (.long q3), .second, .val (.long q4), .second, .val (.int (2 : Int32))] [(.ref a1)])) rfl rfl (hb hby d2_59)
  refine own_by st330 ?_
  refine own_by (fun _ k => XS.iload X330.here hx rfl (hb hby d2_62) rfl k) ?_
  obtain ⟨T332, h332, X332, e332, E332, A332, D332, -, st332⟩ := newO X330 hx hZ hown (hw _ (List.mem_of_getElem? (i := 31) rfl)) (hw _ (List.mem_of_getElem? (i := 35) rfl)) (hw _ (List.mem_of_getElem? (i := 36) rfl)) e330 (g := (mkF m 64 #[.val (.ref a1), .val (.int (3 : Int32)), .val (.long q3), .second, .val (.long q4), .second, .val (.int (2 : Int32))] [(.int (2 : Int32)), (.ref b287)])) rfl (hb hby d2_64) (by decide) (by decide)
  obtain ⟨b332, g332⟩ : ∃ zq, zq = h328.size := ⟨_, rfl⟩
  rw [← g332] at A332 D332 st332
  have f333 := ((f320.keep K1' (ninS ne_a1_b314 nin0)).other W328 (Or.inl ne_a1_b287))
  have ne_a1_b332 : a1 ≠ b332 := Nat.ne_of_lt (Nat.lt_of_lt_of_le f333.lt (Nat.le_of_eq g332.symm))
  have f334 := ((f321.keep K1').wr W328)
  have ne_b260_b332 : b260 ≠ b332 := Nat.ne_of_lt (Nat.lt_of_lt_of_le f334.lt (Nat.le_of_eq g332.symm))
  have f335 := ((f322.keep K1').wr W328)
  have ne_b267_b332 : b267 ≠ b332 := Nat.ne_of_lt (Nat.lt_of_lt_of_le f335.lt (Nat.le_of_eq g332.symm))
  have ne_b287_b332 : b287 ≠ b332 := Nat.ne_of_lt (Nat.lt_of_lt_of_le V328.lt (Nat.le_of_eq g332.symm))
  have f336 := ((f324.keep K1').wr W328)
  have ne_b297_b332 : b297 ≠ b332 := Nat.ne_of_lt (Nat.lt_of_lt_of_le f336.lt (Nat.le_of_eq g332.symm))
  have f337 := (E1'.wr W328)
  have ne_b314_b332 : b314 ≠ b332 := Nat.ne_of_lt (Nat.lt_of_lt_of_le f337.lt (Nat.le_of_eq g332.symm))
  have og_b332 : n0 ≤ b332 := Nat.le_trans Z328 (Nat.le_of_eq g332.symm)
  have sz_b332 : h0.size ≤ b332 := Nat.le_trans K329.1 (Nat.le_of_eq g332.symm)
  have Z332 : n0 ≤ h332.size := Nat.le_trans Z328 E332.1
  have K338 := K329.ext E332
  have F_since_b332 : Fld Z h332 b332 "com/example/eskew/eskew/server/split/CounterValues$Tally" "since" "J" (.long (0 : Int64)) := D332 (Or.inl (hw _ (List.mem_of_getElem? (i := 42) rfl))) (ty := .long) (by decide)
  refine own_by st332 ?_
  show own_Go p e below _ T332 (mkF m 67 #[.val (.ref a1), .val (.int (3 : Int32)), .val (.long q3), .second, .val (.long q4), .second, .val (.int (2 : Int32))] [(.ref b332), (.int (2 : Int32)), (.ref b287)])
  refine own_by (fun _ k => XS.dup X332.here hx rfl (hb hby d2_67) rfl rfl k) ?_
  refine own_by (fun _ k => XS.lload X332.here hx rfl (hb hby d2_68) rfl k) ?_
  have f339 := (f333.ext E332)
  have f340 := (f334.ext E332)
  have f341 := (f335.ext E332)
  have f342 := (V328.ext E332)
  have f343 := (f336.ext E332)
  have f344 := (f337.ext E332)
  obtain ⟨_, T345, L345, X345, ⟨rfl, N345q, K2', E2', S2'⟩, st345⟩ := own_callR X332 hx hZ hown (y := (⟨"com/example/eskew/eskew/server/split/CounterValues$Tally", "<init>", "(J)V"⟩ : MethodName)) rfl (hw _ (List.mem_of_getElem? (i := 37) rfl)) (hw _ (List.mem_of_getElem? (i := 38) rfl)) (hw _ (List.mem_of_getElem? (i := 36) rfl)) (hw _ (List.mem_of_getElem? (i := 39) rfl)) (by decide) (a := b332) (argsL := [(.long q4)]) (rest := [(.ref b332), (.int (2 : Int32)), (.ref b287)]) e332 (rm5 l Z a0 hw [] b332 q4 h332 n0 Z332 og_b332 A332 F_since_b332) (g := (mkF m 70 #[.val (.ref a1), .val (.int (3 : Int32)), .val (.long q3), .second, .val (.long q4), .second, .val (.int (2 : Int32))] [(.long q4), (.ref b332), (.ref b332), (.int (2 : Int32)), (.ref b287)])) rfl (by rw [hml]; rfl) (lenOf pd_1 rfl) rfl (W := 3) (by show 2 * 0 + _ ≤ _; exact Nat.le_of_eq rfl) (hb hby d2_70) (by decide) (by decide) (by decide) (by decide)
  have N345 := Fr.app N328 N345q
  refine own_by st345 ?_
  have Z345 : n0 ≤ T345.heap.size := Nat.le_trans Z332 K2'.1
  have K345c := K338.trans K2' (allS (Or.inr sz_b332) all0)
  have f347 := (f342.keep K2' (ninS ne_b287_b332 nin0))
  obtain ⟨cl346, Ar346, cq346, hin346, hat346, set346⟩ := own_arv f347 (j := (2 : Int32)) ⟨by decide, by decide⟩
  obtain ⟨T348, h348, X348, e348, W348, st348⟩ := stR X345 hx hZ rfl Ar346 (j := (2 : Int32)) hin346 rfl (Sto.ofV Ar346 cq346 O287 (Ins.self E2')) (g := (mkF m 73 #[.val (.ref a1), .val (.int (3 : Int32)), .val (.long q3), .second, .val (.long q4), .second, .val (.int (2 : Int32))] [(.ref b332), (.int (2 : Int32)), (.ref b287)])) rfl rfl (hb hby d2_73)
  have V348 : Arv Z h348 b287 k287 (.object "com/example/eskew/eskew/server/split/CounterValues$Tally") (3 : Int32) [(.ref b297), (.ref b314), (.ref b332)] .null := set346 rfl W348 2 rfl (Nat.le_of_ble_eq_true rfl)
  have N348 := Fr.snoc X348 N345 og_b287
  have K349 := K345c.wr W348 (Or.inr sz_b287)
  have Z348 : n0 ≤ h348.size := Nat.le_trans Z345 (Keep.of_wr W348).1
  refine own_by st348 ?_
  refine own_by (fun _ k => XS.iinc X348.here hx rfl (hb hby d2_74) rfl (l' := #[.val (.ref a1), .val (.int (3 : Int32)), .val (.long q3), .second, .val (.long q4), .second, .val (.int ((2 : Int32) + (1 : Int32)))]) rfl k) ?_
  show own_Go p e below _ T348 (mkF m 77 #[.val (.ref a1), .val (.int (3 : Int32)), .val (.long q3), .second, .val (.long q4), .second, .val (.int ((2 : Int32) + (1 : Int32)))] [])
  rw [show (2 : Int32) + (1 : Int32) = (3 : Int32) from by decide]
  refine own_by (fun _ k => XS.goto X348.here hx rfl (pc0 := 77) (pc' := 52) rfl (hb hby d2_77) (by decide) (by decide) k) ?_
  refine own_by (fun _ k => XS.iload X348.here hx rfl (hb hby d2_52) rfl k) ?_
  refine own_by (fun _ k => XS.iloadN X348.here hx rfl (hb hby d2_54) rfl k) ?_
  refine own_by (fun _ k => XS.icmpYes X348.here hx rfl (pc0 := 55) (pc' := 80) rfl (hb hby d2_55) rfl (flt (by decide : ¬ ((3 : Int32) < (3 : Int32)))).2.1 (by decide) (by decide) k) ?_
  have f350 := ((((((((((f294.wr W292).ext E297).keep K0').wr W310).ext E314).keep K1').wr W328).ext E332).keep K2').wr W348)
  have f351 := (((((((((((((fw275.other W279 (Or.inr (slot_ne (Or.inl (hw _ (List.mem_of_getElem? (i := 26) rfl))) (Or.inl (hw _ (List.mem_of_getElem? (i := 28) rfl))) (by decide) (t := .int) (t' := .int) (by decide) (by decide)))).other W283 (Or.inr (slot_ne (Or.inl (hw _ (List.mem_of_getElem? (i := 26) rfl))) (Or.inr (hw _ (List.mem_of_getElem? (i := 30) rfl))) (by decide) (t := .int) (t' := .long) (by decide) (by decide)))).ext E287).other W292 (Or.inr (slot_ne (Or.inl (hw _ (List.mem_of_getElem? (i := 26) rfl))) (Or.inr (hw _ (List.mem_of_getElem? (i := 34) rfl))) (by decide) (t := .int) (t' := (.array (.object "com/example/eskew/eskew/server/split/CounterValues$Tally"))) (by decide) (by decide)))).ext E297).keep K0' (ninS ne_a1_b297 nin0)).other W310 (Or.inl ne_a1_b287)).ext E314).keep K1' (ninS ne_a1_b314 nin0)).other W328 (Or.inl ne_a1_b287)).ext E332).keep K2' (ninS ne_a1_b332 nin0)).other W348 (Or.inl ne_a1_b287))
  have f352 := ((((((((((((((((((F_restingSince.ext E260).other W263 (Or.inr (slot_ne (Or.inl (hw _ (List.mem_of_getElem? (i := 59) rfl))) (Or.inr (hw _ (List.mem_of_getElem? (i := 22) rfl))) (by decide) (t := .long) (t' := (.object "com/example/eskew/eskew/server/split/CounterValues$WideSum")) (by decide) (by decide)))).ext E267).other W271 (Or.inr (slot_ne (Or.inl (hw _ (List.mem_of_getElem? (i := 59) rfl))) (Or.inr (hw _ (List.mem_of_getElem? (i := 24) rfl))) (by decide) (t := .long) (t' := (.object "com/example/eskew/eskew/server/split/CounterValues$WideSum")) (by decide) (by decide)))).other W275 (Or.inr (slot_ne (Or.inl (hw _ (List.mem_of_getElem? (i := 59) rfl))) (Or.inl (hw _ (List.mem_of_getElem? (i := 26) rfl))) (by decide) (t := .long) (t' := .int) (by decide) (by decide)))).other W279 (Or.inr (slot_ne (Or.inl (hw _ (List.mem_of_getElem? (i := 59) rfl))) (Or.inl (hw _ (List.mem_of_getElem? (i := 28) rfl))) (by decide) (t := .long) (t' := .int) (by decide) (by decide)))).other W283 (Or.inr (slot_ne (Or.inl (hw _ (List.mem_of_getElem? (i := 59) rfl))) (Or.inr (hw _ (List.mem_of_getElem? (i := 30) rfl))) (by decide) (t := .long) (t' := .long) (by decide) (by decide)))).ext E287).other W292 (Or.inr (slot_ne (Or.inl (hw _ (List.mem_of_getElem? (i := 59) rfl))) (Or.inr (hw _ (List.mem_of_getElem? (i := 34) rfl))) (by decide) (t := .long) (t' := (.array (.object "com/example/eskew/eskew/server/split/CounterValues$Tally"))) (by decide) (by decide)))).ext E297).keep K0' (ninS ne_a1_b297 nin0)).other W310 (Or.inl ne_a1_b287)).ext E314).keep K1' (ninS ne_a1_b314 nin0)).other W328 (Or.inl ne_a1_b287)).ext E332).keep K2' (ninS ne_a1_b332 nin0)).other W348 (Or.inl ne_a1_b287))
  have f353 := ((((((((((((fw279.other W283 (Or.inr (slot_ne (Or.inl (hw _ (List.mem_of_getElem? (i := 28) rfl))) (Or.inr (hw _ (List.mem_of_getElem? (i := 30) rfl))) (by decide) (t := .int) (t' := .long) (by decide) (by decide)))).ext E287).other W292 (Or.inr (slot_ne (Or.inl (hw _ (List.mem_of_getElem? (i := 28) rfl))) (Or.inr (hw _ (List.mem_of_getElem? (i := 34) rfl))) (by decide) (t := .int) (t' := (.array (.object "com/example/eskew/eskew/server/split/CounterValues$Tally"))) (by decide) (by decide)))).ext E297).keep K0' (ninS ne_a1_b297 nin0)).other W310 (Or.inl ne_a1_b287)).ext E314).keep K1' (ninS ne_a1_b314 nin0)).other W328 (Or.inl ne_a1_b287)).ext E332).keep K2' (ninS ne_a1_b332 nin0)).other W348 (Or.inl ne_a1_b287))
  have f354 := (((((((((((fw283.ext E287).other W292 (Or.inr (slot_ne (Or.inr (hw _ (List.mem_of_getElem? (i := 30) rfl))) (Or.inr (hw _ (List.mem_of_getElem? (i := 34) rfl))) (by decide) (t := .long) (t' := (.array (.object "com/example/eskew/eskew/server/split/CounterValues$Tally"))) (by decide) (by decide)))).ext E297).keep K0' (ninS ne_a1_b297 nin0)).other W310 (Or.inl ne_a1_b287)).ext E314).keep K1' (ninS ne_a1_b314 nin0)).other W328 (Or.inl ne_a1_b287)).ext E332).keep K2' (ninS ne_a1_b332 nin0)).other W348 (Or.inl ne_a1_b287))
  have f355 := (((f331.ext E332).keep K2' (ninS ne_a1_b332 nin0)).other W348 (Or.inl ne_a1_b287))
  have f356 := (((((((S0'.other W310 (Or.inl (Ne.symm ne_b287_b297))).ext E314).keep K1' (ninS ne_b297_b314 nin0)).other W328 (Or.inl (Ne.symm ne_b287_b297))).ext E332).keep K2' (ninS ne_b297_b332 nin0)).other W348 (Or.inl (Ne.symm ne_b287_b297)))
  have f357 := ((((S1'.other W328 (Or.inl (Ne.symm ne_b287_b314))).ext E332).keep K2' (ninS ne_b314_b332 nin0)).other W348 (Or.inl (Ne.symm ne_b287_b314)))
  have f358 := (S2'.other W348 (Or.inl (Ne.symm ne_b287_b332)))
  exact own_ret0 X348 hx hlk hret (hb hby d2_80) (by first | exact ⟨b287, k287, b297, b314, b332, rfl, N348, K349, f350, f351, f352, f353, f354, f355, sz_b287, V348, sz_b297, sz_b314, sz_b332, f356, f357, f358⟩ | (rw [e348]; exact ⟨b287, k287, b297, b314, b332, rfl, N348, K349, f350, f351, f352, f353, f354, f355, sz_b287, V348, sz_b297, sz_b314, sz_b332, f356, f357, f358⟩)) (by decide) (by decide)
def Q_rm2_3 (Z : State) (a1 : Addr) (q3 q4 : Int64) (h0 : Heap) (n0 : Nat) (v : Option Value) (h : Heap) (L : List Loc) : Prop := ∃ ta kt tl0 tl1 tl2 tl3, v = none ∧ Fr n0 L ∧ Keep h0 h [a1] ∧ Exa Z h a1 "com/example/eskew/eskew/server/split/CounterValues" ∧ Fld Z h a1 "com/example/eskew/eskew/server/split/CounterValues" "resting" "I" (.int (-1 : Int32)) ∧ Fld Z h a1 "com/example/eskew/eskew/server/split/CounterValues" "restingSince" "J" (.long (0 : Int64)) ∧ Fld Z h a1 "com/example/eskew/eskew/server/split/CounterValues" "nextToRest" "I" (.int (1 : Int32)) ∧ Fld Z h a1 "com/example/eskew/eskew/server/split/CounterValues" "rereadNanos" "J" (.long q3) ∧ Fld Z h a1 "com/example/eskew/eskew/server/split/CounterValues" "tallies" "[Lcom/example/eskew/eskew/server/split/CounterValues$Tally;" (.ref ta) ∧ h0.size ≤ ta ∧ Arv Z h ta kt (.object "com/example/eskew/eskew/server/split/CounterValues$Tally") (4 : Int32) [(.ref tl0), (.ref tl1), (.ref tl2), (.ref tl3)] .null ∧ h0.size ≤ tl0 ∧ h0.size ≤ tl1 ∧ h0.size ≤ tl2 ∧ h0.size ≤ tl3 ∧ Fld Z h tl0 "com/example/eskew/eskew/server/split/CounterValues$Tally" "since" "J" (.long q4) ∧ Fld Z h tl1 "com/example/eskew/eskew/server/split/CounterValues$Tally" "since" "J" (.long q4) ∧ Fld Z h tl2 "com/example/eskew/eskew/server/split/CounterValues$Tally" "since" "J" (.long q4) ∧ Fld Z h tl3 "com/example/eskew/eskew/server/split/CounterValues$Tally" "since" "J" (.long q4)
theorem pn_rm2_3 : plainFor (⟨"com/example/eskew/eskew/server/split/CounterValues", "<init>", "(IJJ)V"⟩ : MethodName) = true := plainFor_of_name (by first | (simp [plainName, overriddenIn, x]; done) | decide +kernel)
set_option maxRecDepth 65536 in
set_option maxHeartbeats 40000000 in
theorem rm2_3 (l : Launch) (Z : State) (a0 : Array Value) (hw : ∀ d ∈ tables_1, d.before a0 Z = true) (ws : List Jvm.Cond) (a1 : Addr) (q3 q4 : Int64) (h0 : Heap) (n0 : Nat) (Z0 : n0 ≤ h0.size) (g1 : n0 ≤ a1) (E1 : Exa Z h0 a1 "com/example/eskew/eskew/server/split/CounterValues") (F_rising : Fld Z h0 a1 "com/example/eskew/eskew/server/split/CounterValues" "rising" "Lcom/example/eskew/eskew/server/split/CounterValues$WideSum;" .null) (F_falling : Fld Z h0 a1 "com/example/eskew/eskew/server/split/CounterValues" "falling" "Lcom/example/eskew/eskew/server/split/CounterValues$WideSum;" .null) (F_resting : Fld Z h0 a1 "com/example/eskew/eskew/server/split/CounterValues" "resting" "I" (.int (0 : Int32))) (F_nextToRest : Fld Z h0 a1 "com/example/eskew/eskew/server/split/CounterValues" "nextToRest" "I" (.int (0 : Int32))) (F_rereadNanos : Fld Z h0 a1 "com/example/eskew/eskew/server/split/CounterValues" "rereadNanos" "J" (.long (0 : Int64))) (F_tallies : Fld Z h0 a1 "com/example/eskew/eskew/server/split/CounterValues" "tallies" "[Lcom/example/eskew/eskew/server/split/CounterValues$Tally;" .null) (F_restingSince : Fld Z h0 a1 "com/example/eskew/eskew/server/split/CounterValues" "restingSince" "J" (.long (0 : Int64))) :
    own_Met l Z (⟨"com/example/eskew/eskew/server/split/CounterValues", "<init>", "(IJJ)V"⟩ : MethodName) prog_33_method_1_code 7 none ws ({ frames := 2, cells := 7, slots := 44, locals := 48 } : Room) #[(.ref a1), (.int (4 : Int32)), (.long q3), (.long q4)] h0 (Q_rm2_3 Z a1 q3 q4 h0 n0) := by
  refine own_enter (g0 := fun m => (mkF m 0 #[.val (.ref a1), .val (.int (4 : Int32)), .val (.long q3), .second, .val (.long q4), .second, .unset] [])) pn_rm2_3 (fun m => by first | (simp [entryFrame, mkF, argsToLocals, Value.category, maxLocals]; done) | rfl) ?_
  intro p e s m below meth c s₁ hx hby hml hown hnm hret hlk hZ X0 e0
  have hml : c.maxLocals = 7 := hml
  have hown : s.vm.findClass "com/example/eskew/eskew/server/split/CounterValues" = some m.cls := hown
  have N0 := Fr.nil n0
  have K0 := Keep.refl h0 [a1]
  refine own_by (fun _ k => XS.aloadN X0.here hx rfl (hb hby d2_0) rfl rfl k) ?_
  obtain ⟨T359, X359, e359, st359⟩ := initO X0 hx hZ hown (hw _ (List.mem_of_getElem? (i := 11) rfl)) (hw _ (List.mem_of_getElem? (i := 12) rfl)) (hw _ (List.mem_of_getElem? (i := 13) rfl)) e0 (g := (mkF m 1 #[.val (.ref a1), .val (.int (4 : Int32)), .val (.long q3), .second, .val (.long q4), .second, .unset] [(.ref a1)])) rfl (by rw [hml]; rfl) rfl (hb hby d2_1) (by decide) (W := 0) (by show 2 * 0 + _ ≤ _; exact Nat.le_of_eq rfl) (by decide)
  refine own_by st359 ?_
  refine own_by (fun _ k => XS.aloadN X359.here hx rfl (hb hby d2_4) rfl rfl k) ?_
  obtain ⟨T360, h360, X360, e360, E360, A360, D360, -, st360⟩ := newO X359 hx hZ hown (hw _ (List.mem_of_getElem? (i := 14) rfl)) (hw _ (List.mem_of_getElem? (i := 15) rfl)) (hw _ (List.mem_of_getElem? (i := 16) rfl)) e359 (g := (mkF m 5 #[.val (.ref a1), .val (.int (4 : Int32)), .val (.long q3), .second, .val (.long q4), .second, .unset] [(.ref a1)])) rfl (hb hby d2_5) (by decide) (by decide)
  obtain ⟨b360, g360⟩ : ∃ zq, zq = h0.size := ⟨_, rfl⟩
  rw [← g360] at A360 D360 st360
  have ne_a1_b360 : a1 ≠ b360 := Nat.ne_of_lt (Nat.lt_of_lt_of_le F_rising.lt (Nat.le_of_eq g360.symm))
  have og_b360 : n0 ≤ b360 := Nat.le_trans Z0 (Nat.le_of_eq g360.symm)
  have sz_b360 : h0.size ≤ b360 := Nat.le_trans K0.1 (Nat.le_of_eq g360.symm)
  have Z360 : n0 ≤ h360.size := Nat.le_trans Z0 E360.1
  have K361 := K0.ext E360
  refine own_by st360 ?_
  refine own_by (fun _ k => XS.dup X360.here hx rfl (hb hby d2_8) rfl rfl k) ?_
  obtain ⟨_, T362, L362, X362, ⟨rfl, N362q, e362⟩, st362⟩ := own_callR X360 hx hZ hown (y := (⟨"com/example/eskew/eskew/server/split/CounterValues$WideSum", "<init>", "()V"⟩ : MethodName)) rfl (hw _ (List.mem_of_getElem? (i := 17) rfl)) (hw _ (List.mem_of_getElem? (i := 18) rfl)) (hw _ (List.mem_of_getElem? (i := 16) rfl)) (hw _ (List.mem_of_getElem? (i := 19) rfl)) (by decide) (a := b360) (argsL := []) (rest := [(.ref b360), (.ref a1)]) e360 (rm4 l Z a0 hw [] b360 h360 n0 Z360) (g := (mkF m 9 #[.val (.ref a1), .val (.int (4 : Int32)), .val (.long q3), .second, .val (.long q4), .second, .unset] [(.ref b360), (.ref b360), (.ref a1)])) rfl (by rw [hml]; rfl) (lenOf pd_0 rfl) rfl (W := 2) (by show 2 * 0 + _ ≤ _; exact Nat.le_of_eq rfl) (hb hby d2_9) (by decide) (by decide) (by decide) (by decide)
  have N362 := Fr.app N0 N362q
  refine own_by st362 ?_
  have f364 := (F_rising.ext E360)
  have f365 := (E1.ext E360)
  obtain ⟨T363, h363, X363, e363, W363, st363⟩ := putF X362 hx hZ hown (host := "") (Or.inl (hw _ (List.mem_of_getElem? (i := 21) rfl))) Via.refl e362 f364 f365 (Or.inr ⟨(hw _ (List.mem_of_getElem? (i := 22) rfl)), rfl, hnm⟩) (hw _ (List.mem_of_getElem? (i := 6) rfl)) (ty := (.object "com/example/eskew/eskew/server/split/CounterValues$WideSum")) (by decide) rfl rfl (g := (mkF m 12 #[.val (.ref a1), .val (.int (4 : Int32)), .val (.long q3), .second, .val (.long q4), .second, .unset] [(.ref b360), (.ref a1)])) rfl rfl (hb hby d2_12)
  refine own_by st363 ?_
  have N363 := Fr.snoc X363 N362 g1
  have fw363 := f364.same W363
  have K366 := K361.wr W363 (Or.inl (List.mem_of_getElem? (i := 0) rfl))
  have Z363 : n0 ≤ h363.size := Nat.le_trans Z360 (Keep.of_wr W363).1
  refine own_by (fun _ k => XS.aloadN X363.here hx rfl (hb hby d2_15) rfl rfl k) ?_
  show own_Go p e below _ T363 (mkF m 16 #[.val (.ref a1), .val (.int (4 : Int32)), .val (.long q3), .second, .val (.long q4), .second, .unset] [(.ref a1)])
  obtain ⟨T367, h367, X367, e367, E367, A367, D367, -, st367⟩ := newO X363 hx hZ hown (hw _ (List.mem_of_getElem? (i := 14) rfl)) (hw _ (List.mem_of_getElem? (i := 15) rfl)) (hw _ (List.mem_of_getElem? (i := 16) rfl)) e363 (g := (mkF m 16 #[.val (.ref a1), .val (.int (4 : Int32)), .val (.long q3), .second, .val (.long q4), .second, .unset] [(.ref a1)])) rfl (hb hby d2_16) (by decide) (by decide)
  obtain ⟨b367, g367⟩ : ∃ zq, zq = h363.size := ⟨_, rfl⟩
  rw [← g367] at A367 D367 st367
  have ne_a1_b367 : a1 ≠ b367 := Nat.ne_of_lt (Nat.lt_of_lt_of_le fw363.lt (Nat.le_of_eq g367.symm))
  have f368 := (A360.wr W363)
  have ne_b360_b367 : b360 ≠ b367 := Nat.ne_of_lt (Nat.lt_of_lt_of_le f368.lt (Nat.le_of_eq g367.symm))
  have og_b367 : n0 ≤ b367 := Nat.le_trans Z363 (Nat.le_of_eq g367.symm)
  have sz_b367 : h0.size ≤ b367 := Nat.le_trans K366.1 (Nat.le_of_eq g367.symm)
  have Z367 : n0 ≤ h367.size := Nat.le_trans Z363 E367.1
  have K369 := K366.ext E367
  refine own_by st367 ?_
  refine own_by (fun _ k => XS.dup X367.here hx rfl (hb hby d2_19) rfl rfl k) ?_
  obtain ⟨_, T370, L370, X370, ⟨rfl, N370q, e370⟩, st370⟩ := own_callR X367 hx hZ hown (y := (⟨"com/example/eskew/eskew/server/split/CounterValues$WideSum", "<init>", "()V"⟩ : MethodName)) rfl (hw _ (List.mem_of_getElem? (i := 17) rfl)) (hw _ (List.mem_of_getElem? (i := 18) rfl)) (hw _ (List.mem_of_getElem? (i := 16) rfl)) (hw _ (List.mem_of_getElem? (i := 19) rfl)) (by decide) (a := b367) (argsL := []) (rest := [(.ref b367), (.ref a1)]) e367 (rm4 l Z a0 hw [] b367 h367 n0 Z367) (g := (mkF m 20 #[.val (.ref a1), .val (.int (4 : Int32)), .val (.long q3), .second, .val (.long q4), .second, .unset] [(.ref b367), (.ref b367), (.ref a1)])) rfl (by rw [hml]; rfl) (lenOf pd_0 rfl) rfl (W := 2) (by show 2 * 0 + _ ≤ _; exact Nat.le_of_eq rfl) (hb hby d2_20) (by decide) (by decide) (by decide) (by decide)
  have N370 := Fr.app N363 N370q
  refine own_by st370 ?_
  have f372 := (((F_falling.ext E360).other W363 (Or.inr (slot_ne (Or.inr (hw _ (List.mem_of_getElem? (i := 24) rfl))) (Or.inr (hw _ (List.mem_of_getElem? (i := 22) rfl))) (by decide) (t := (.object "com/example/eskew/eskew/server/split/CounterValues$WideSum")) (t' := (.object "com/example/eskew/eskew/server/split/CounterValues$WideSum")) (by decide) (by decide)))).ext E367)
  have f373 := ((f365.wr W363).ext E367)
  obtain ⟨T371, h371, X371, e371, W371, st371⟩ := putF X370 hx hZ hown (host := "") (Or.inl (hw _ (List.mem_of_getElem? (i := 23) rfl))) Via.refl e370 f372 f373 (Or.inr ⟨(hw _ (List.mem_of_getElem? (i := 24) rfl)), rfl, hnm⟩) (hw _ (List.mem_of_getElem? (i := 6) rfl)) (ty := (.object "com/example/eskew/eskew/server/split/CounterValues$WideSum")) (by decide) rfl rfl (g := (mkF m 23 #[.val (.ref a1), .val (.int (4 : Int32)), .val (.long q3), .second, .val (.long q4), .second, .unset] [(.ref b367), (.ref a1)])) rfl rfl (hb hby d2_23)
  refine own_by st371 ?_
  have N371 := Fr.snoc X371 N370 g1
  have fw371 := f372.same W371
  have K374 := K369.wr W371 (Or.inl (List.mem_of_getElem? (i := 0) rfl))
  have Z371 : n0 ≤ h371.size := Nat.le_trans Z367 (Keep.of_wr W371).1
  refine own_by (fun _ k => XS.aloadN X371.here hx rfl (hb hby d2_26) rfl rfl k) ?_
  refine own_by (fun _ k => XS.iconst X371.here hx rfl (hb hby d2_27) k) ?_
  have f376 := ((((F_resting.ext E360).other W363 (Or.inr (slot_ne (Or.inl (hw _ (List.mem_of_getElem? (i := 26) rfl))) (Or.inr (hw _ (List.mem_of_getElem? (i := 22) rfl))) (by decide) (t := .int) (t' := (.object "com/example/eskew/eskew/server/split/CounterValues$WideSum")) (by decide) (by decide)))).ext E367).other W371 (Or.inr (slot_ne (Or.inl (hw _ (List.mem_of_getElem? (i := 26) rfl))) (Or.inr (hw _ (List.mem_of_getElem? (i := 24) rfl))) (by decide) (t := .int) (t' := (.object "com/example/eskew/eskew/server/split/CounterValues$WideSum")) (by decide) (by decide))))
  have f377 := (f373.wr W371)
  obtain ⟨T375, h375, X375, e375, W375, st375⟩ := putF X371 hx hZ hown (host := "") (Or.inl (hw _ (List.mem_of_getElem? (i := 25) rfl))) Via.refl e371 f376 f377 (Or.inl (hw _ (List.mem_of_getElem? (i := 26) rfl))) (hw _ (List.mem_of_getElem? (i := 6) rfl)) (ty := .int) (by decide) rfl rfl (g := (mkF m 28 #[.val (.ref a1), .val (.int (4 : Int32)), .val (.long q3), .second, .val (.long q4), .second, .unset] [(.int (-1 : Int32)), (.ref a1)])) rfl rfl (hb hby d2_28)
  refine own_by st375 ?_
  have N375 := Fr.snoc X375 N371 g1
  have fw375 := f376.same W375
  have K378 := K374.wr W375 (Or.inl (List.mem_of_getElem? (i := 0) rfl))
  have Z375 : n0 ≤ h375.size := Nat.le_trans Z371 (Keep.of_wr W375).1
  refine own_by (fun _ k => XS.aloadN X375.here hx rfl (hb hby d2_31) rfl rfl k) ?_
  refine own_by (fun _ k => XS.iconst X375.here hx rfl (hb hby d2_32) k) ?_
  show own_Go p e below _ T375 (mkF m 33 #[.val (.ref a1), .val (.int (4 : Int32)), .val (.long q3), .second, .val (.long q4), .second, .unset] [(.int (1 : Int32)), (.ref a1)])
  have f380 := (((((F_nextToRest.ext E360).other W363 (Or.inr (slot_ne (Or.inl (hw _ (List.mem_of_getElem? (i := 28) rfl))) (Or.inr (hw _ (List.mem_of_getElem? (i := 22) rfl))) (by decide) (t := .int) (t' := (.object "com/example/eskew/eskew/server/split/CounterValues$WideSum")) (by decide) (by decide)))).ext E367).other W371 (Or.inr (slot_ne (Or.inl (hw _ (List.mem_of_getElem? (i := 28) rfl))) (Or.inr (hw _ (List.mem_of_getElem? (i := 24) rfl))) (by decide) (t := .int) (t' := (.object "com/example/eskew/eskew/server/split/CounterValues$WideSum")) (by decide) (by decide)))).other W375 (Or.inr (slot_ne (Or.inl (hw _ (List.mem_of_getElem? (i := 28) rfl))) (Or.inl (hw _ (List.mem_of_getElem? (i := 26) rfl))) (by decide) (t := .int) (t' := .int) (by decide) (by decide))))
  have f381 := (f377.wr W375)
  obtain ⟨T379, h379, X379, e379, W379, st379⟩ := putF X375 hx hZ hown (host := "") (Or.inl (hw _ (List.mem_of_getElem? (i := 27) rfl))) Via.refl e375 f380 f381 (Or.inl (hw _ (List.mem_of_getElem? (i := 28) rfl))) (hw _ (List.mem_of_getElem? (i := 6) rfl)) (ty := .int) (by decide) rfl rfl (g := (mkF m 33 #[.val (.ref a1), .val (.int (4 : Int32)), .val (.long q3), .second, .val (.long q4), .second, .unset] [(.int (1 : Int32)), (.ref a1)])) rfl rfl (hb hby d2_33)
  refine own_by st379 ?_
  have N379 := Fr.snoc X379 N375 g1
  have fw379 := f380.same W379
  have K382 := K378.wr W379 (Or.inl (List.mem_of_getElem? (i := 0) rfl))
  have Z379 : n0 ≤ h379.size := Nat.le_trans Z375 (Keep.of_wr W379).1
  refine own_by (fun _ k => XS.aloadN X379.here hx rfl (hb hby d2_36) rfl rfl k) ?_
  refine own_by (fun _ k => XS.lloadN X379.here hx rfl (hb hby d2_37) rfl k) ?_
  have f384 := ((((((F_rereadNanos.ext E360).other W363 (Or.inr (slot_ne (Or.inr (hw _ (List.mem_of_getElem? (i := 30) rfl))) (Or.inr (hw _ (List.mem_of_getElem? (i := 22) rfl))) (by decide) (t := .long) (t' := (.object "com/example/eskew/eskew/server/split/CounterValues$WideSum")) (by decide) (by decide)))).ext E367).other W371 (Or.inr (slot_ne (Or.inr (hw _ (List.mem_of_getElem? (i := 30) rfl))) (Or.inr (hw _ (List.mem_of_getElem? (i := 24) rfl))) (by decide) (t := .long) (t' := (.object "com/example/eskew/eskew/server/split/CounterValues$WideSum")) (by decide) (by decide)))).other W375 (Or.inr (slot_ne (Or.inr (hw _ (List.mem_of_getElem? (i := 30) rfl))) (Or.inl (hw _ (List.mem_of_getElem? (i := 26) rfl))) (by decide) (t := .long) (t' := .int) (by decide) (by decide)))).other W379 (Or.inr (slot_ne (Or.inr (hw _ (List.mem_of_getElem? (i := 30) rfl))) (Or.inl (hw _ (List.mem_of_getElem? (i := 28) rfl))) (by decide) (t := .long) (t' := .int) (by decide) (by decide))))
  have f385 := (f381.wr W379)
  obtain ⟨T383, h383, X383, e383, W383, st383⟩ := putF X379 hx hZ hown (host := "") (Or.inl (hw _ (List.mem_of_getElem? (i := 29) rfl))) Via.refl e379 f384 f385 (Or.inr ⟨(hw _ (List.mem_of_getElem? (i := 30) rfl)), rfl, hnm⟩) (hw _ (List.mem_of_getElem? (i := 6) rfl)) (ty := .long) (by decide) rfl rfl (g := (mkF m 38 #[.val (.ref a1), .val (.int (4 : Int32)), .val (.long q3), .second, .val (.long q4), .second, .unset] [(.long q3), (.ref a1)])) rfl rfl (hb hby d2_38)
  refine own_by st383 ?_
  have N383 := Fr.snoc X383 N379 g1
  have fw383 := f384.same W383
  have K386 := K382.wr W383 (Or.inl (List.mem_of_getElem? (i := 0) rfl))
  have Z383 : n0 ≤ h383.size := Nat.le_trans Z379 (Keep.of_wr W383).1
  refine own_by (fun _ k => XS.aloadN X383.here hx rfl (hb hby d2_41) rfl rfl k) ?_
  refine own_by (fun _ k => XS.iloadN X383.here hx rfl (hb hby d2_42) rfl k) ?_
  obtain ⟨T387, h387, k387, X387, e387, E387, A387, O387, st387⟩ := newR X383 hx hZ hown (hw _ (List.mem_of_getElem? (i := 31) rfl)) (hw _ (List.mem_of_getElem? (i := 32) rfl)) e383 (g := (mkF m 43 #[.val (.ref a1), .val (.int (4 : Int32)), .val (.long q3), .second, .val (.long q4), .second, .unset] [(.int (4 : Int32)), (.ref a1)])) rfl (hb hby d2_43) rfl (by decide) (cap := 4) (by decide) (by decide) (by decide) (by decide)
  obtain ⟨b387, g387⟩ : ∃ zq, zq = h383.size := ⟨_, rfl⟩
  rw [← g387] at A387 st387
  have f388 := (((((fw363.ext E367).other W371 (Or.inr (slot_ne (Or.inr (hw _ (List.mem_of_getElem? (i := 22) rfl))) (Or.inr (hw _ (List.mem_of_getElem? (i := 24) rfl))) (by decide) (t := (.object "com/example/eskew/eskew/server/split/CounterValues$WideSum")) (t' := (.object "com/example/eskew/eskew/server/split/CounterValues$WideSum")) (by decide) (by decide)))).other W375 (Or.inr (slot_ne (Or.inr (hw _ (List.mem_of_getElem? (i := 22) rfl))) (Or.inl (hw _ (List.mem_of_getElem? (i := 26) rfl))) (by decide) (t := (.object "com/example/eskew/eskew/server/split/CounterValues$WideSum")) (t' := .int) (by decide) (by decide)))).other W379 (Or.inr (slot_ne (Or.inr (hw _ (List.mem_of_getElem? (i := 22) rfl))) (Or.inl (hw _ (List.mem_of_getElem? (i := 28) rfl))) (by decide) (t := (.object "com/example/eskew/eskew/server/split/CounterValues$WideSum")) (t' := .int) (by decide) (by decide)))).other W383 (Or.inr (slot_ne (Or.inr (hw _ (List.mem_of_getElem? (i := 22) rfl))) (Or.inr (hw _ (List.mem_of_getElem? (i := 30) rfl))) (by decide) (t := (.object "com/example/eskew/eskew/server/split/CounterValues$WideSum")) (t' := .long) (by decide) (by decide))))
  have ne_a1_b387 : a1 ≠ b387 := Nat.ne_of_lt (Nat.lt_of_lt_of_le f388.lt (Nat.le_of_eq g387.symm))
  have f389 := (((((f368.ext E367).wr W371).wr W375).wr W379).wr W383)
  have ne_b360_b387 : b360 ≠ b387 := Nat.ne_of_lt (Nat.lt_of_lt_of_le f389.lt (Nat.le_of_eq g387.symm))
  have f390 := ((((A367.wr W371).wr W375).wr W379).wr W383)
  have ne_b367_b387 : b367 ≠ b387 := Nat.ne_of_lt (Nat.lt_of_lt_of_le f390.lt (Nat.le_of_eq g387.symm))
  have og_b387 : n0 ≤ b387 := Nat.le_trans Z383 (Nat.le_of_eq g387.symm)
  have sz_b387 : h0.size ≤ b387 := Nat.le_trans K386.1 (Nat.le_of_eq g387.symm)
  have Z387 : n0 ≤ h387.size := Nat.le_trans Z383 E387.1
  have K391 := K386.ext E387
  have V387 : Arv Z h387 b387 k387 (.object "com/example/eskew/eskew/server/split/CounterValues$Tally") (4 : Int32) [.null, .null, .null, .null] .null := (Arv.new A387 (by decide)).pad (pad_rep [] .null 4)
  refine own_by st387 ?_
  have f393 := ((((((((F_tallies.ext E360).other W363 (Or.inr (slot_ne (Or.inr (hw _ (List.mem_of_getElem? (i := 34) rfl))) (Or.inr (hw _ (List.mem_of_getElem? (i := 22) rfl))) (by decide) (t := (.array (.object "com/example/eskew/eskew/server/split/CounterValues$Tally"))) (t' := (.object "com/example/eskew/eskew/server/split/CounterValues$WideSum")) (by decide) (by decide)))).ext E367).other W371 (Or.inr (slot_ne (Or.inr (hw _ (List.mem_of_getElem? (i := 34) rfl))) (Or.inr (hw _ (List.mem_of_getElem? (i := 24) rfl))) (by decide) (t := (.array (.object "com/example/eskew/eskew/server/split/CounterValues$Tally"))) (t' := (.object "com/example/eskew/eskew/server/split/CounterValues$WideSum")) (by decide) (by decide)))).other W375 (Or.inr (slot_ne (Or.inr (hw _ (List.mem_of_getElem? (i := 34) rfl))) (Or.inl (hw _ (List.mem_of_getElem? (i := 26) rfl))) (by decide) (t := (.array (.object "com/example/eskew/eskew/server/split/CounterValues$Tally"))) (t' := .int) (by decide) (by decide)))).other W379 (Or.inr (slot_ne (Or.inr (hw _ (List.mem_of_getElem? (i := 34) rfl))) (Or.inl (hw _ (List.mem_of_getElem? (i := 28) rfl))) (by decide) (t := (.array (.object "com/example/eskew/eskew/server/split/CounterValues$Tally"))) (t' := .int) (by decide) (by decide)))).other W383 (Or.inr (slot_ne (Or.inr (hw _ (List.mem_of_getElem? (i := 34) rfl))) (Or.inr (hw _ (List.mem_of_getElem? (i := 30) rfl))) (by decide) (t := (.array (.object "com/example/eskew/eskew/server/split/CounterValues$Tally"))) (t' := .long) (by decide) (by decide)))).ext E387)
  have f394 := ((f385.wr W383).ext E387)
  obtain ⟨T392, h392, X392, e392, W392, st392⟩ := putF X387 hx hZ hown (host := "") (Or.inl (hw _ (List.mem_of_getElem? (i := 33) rfl))) Via.refl e387 f393 f394 (Or.inr ⟨(hw _ (List.mem_of_getElem? (i := 34) rfl)), rfl, hnm⟩) (hw _ (List.mem_of_getElem? (i := 6) rfl)) (ty := (.array (.object "com/example/eskew/eskew/server/split/CounterValues$Tally"))) (by decide) rfl rfl (g := (mkF m 46 #[.val (.ref a1), .val (.int (4 : Int32)), .val (.long q3), .second, .val (.long q4), .second, .unset] [(.ref b387), (.ref a1)])) rfl rfl (hb hby d2_46)
  refine own_by st392 ?_
  have N392 := Fr.snoc X392 N383 g1
  have fw392 := f393.same W392
  have K395 := K391.wr W392 (Or.inl (List.mem_of_getElem? (i := 0) rfl))
  have Z392 : n0 ≤ h392.size := Nat.le_trans Z387 (Keep.of_wr W392).1
  refine own_by (fun _ k => XS.iconst X392.here hx rfl (hb hby d2_49) k) ?_
  show own_Go p e below _ T392 (mkF m 50 #[.val (.ref a1), .val (.int (4 : Int32)), .val (.long q3), .second, .val (.long q4), .second, .unset] [(.int (0 : Int32))])
  refine own_by (fun _ k => XS.istore X392.here hx rfl (hb hby d2_50) rfl (l' := #[.val (.ref a1), .val (.int (4 : Int32)), .val (.long q3), .second, .val (.long q4), .second, .val (.int (0 : Int32))]) rfl k) ?_
  refine own_by (fun _ k => XS.iload X392.here hx rfl (hb hby d2_52) rfl k) ?_
  refine own_by (fun _ k => XS.iloadN X392.here hx rfl (hb hby d2_54) rfl k) ?_
  refine own_by (fun _ k => XS.icmpNo X392.here hx rfl (hb hby d2_55) rfl (tlt (by decide : (0 : Int32) < (4 : Int32))).2.1 k) ?_
  refine own_by (fun _ k => XS.aloadN X392.here hx rfl (hb hby d2_58) rfl rfl k) ?_
  obtain ⟨T396, X396, e396, st396⟩ := getF X392 hx hZ hown (host := "") (Or.inl (hw _ (List.mem_of_getElem? (i := 33) rfl))) Via.refl e392 fw392 (g := (mkF m 59 #[.val (.ref a1), .val (.int (4 : Int32)), .val (.long q3), .second, .val (.long q4), .second, .val (.int (0 : Int32))] [(.ref a1)])) rfl rfl (hb hby d2_59)
  refine own_by st396 ?_
  refine own_by (fun _ k => XS.iload X396.here hx rfl (hb hby d2_62) rfl k) ?_
  obtain ⟨T397, h397, X397, e397, E397, A397, D397, -, st397⟩ := newO X396 hx hZ hown (hw _ (List.mem_of_getElem? (i := 31) rfl)) (hw _ (List.mem_of_getElem? (i := 35) rfl)) (hw _ (List.mem_of_getElem? (i := 36) rfl)) e396 (g := (mkF m 64 #[.val (.ref a1), .val (.int (4 : Int32)), .val (.long q3), .second, .val (.long q4), .second, .val (.int (0 : Int32))] [(.int (0 : Int32)), (.ref b387)])) rfl (hb hby d2_64) (by decide) (by decide)
  obtain ⟨b397, g397⟩ : ∃ zq, zq = h392.size := ⟨_, rfl⟩
  rw [← g397] at A397 D397 st397
  have f398 := ((f388.ext E387).other W392 (Or.inr (slot_ne (Or.inr (hw _ (List.mem_of_getElem? (i := 22) rfl))) (Or.inr (hw _ (List.mem_of_getElem? (i := 34) rfl))) (by decide) (t := (.object "com/example/eskew/eskew/server/split/CounterValues$WideSum")) (t' := (.array (.object "com/example/eskew/eskew/server/split/CounterValues$Tally"))) (by decide) (by decide))))
  have ne_a1_b397 : a1 ≠ b397 := Nat.ne_of_lt (Nat.lt_of_lt_of_le f398.lt (Nat.le_of_eq g397.symm))
  have f399 := ((f389.ext E387).wr W392)
  have ne_b360_b397 : b360 ≠ b397 := Nat.ne_of_lt (Nat.lt_of_lt_of_le f399.lt (Nat.le_of_eq g397.symm))
  have f400 := ((f390.ext E387).wr W392)
  have ne_b367_b397 : b367 ≠ b397 := Nat.ne_of_lt (Nat.lt_of_lt_of_le f400.lt (Nat.le_of_eq g397.symm))
  have f401 := (V387.other W392 (Ne.symm ne_a1_b387))
  have ne_b387_b397 : b387 ≠ b397 := Nat.ne_of_lt (Nat.lt_of_lt_of_le f401.lt (Nat.le_of_eq g397.symm))
  have og_b397 : n0 ≤ b397 := Nat.le_trans Z392 (Nat.le_of_eq g397.symm)
  have sz_b397 : h0.size ≤ b397 := Nat.le_trans K395.1 (Nat.le_of_eq g397.symm)
  have Z397 : n0 ≤ h397.size := Nat.le_trans Z392 E397.1
  have K402 := K395.ext E397
  have F_since_b397 : Fld Z h397 b397 "com/example/eskew/eskew/server/split/CounterValues$Tally" "since" "J" (.long (0 : Int64)) := D397 (Or.inl (hw _ (List.mem_of_getElem? (i := 42) rfl))) (ty := .long) (by decide)
  refine own_by st397 ?_
  refine own_by (fun _ k => XS.dup X397.here hx rfl (hb hby d2_67) rfl rfl k) ?_
  show own_Go p e below _ T397 (mkF m 68 #[.val (.ref a1), .val (.int (4 : Int32)), .val (.long q3), .second, .val (.long q4), .second, .val (.int (0 : Int32))] [(.ref b397), (.ref b397), (.int (0 : Int32)), (.ref b387)])
  refine own_by (fun _ k => XS.lload X397.here hx rfl (hb hby d2_68) rfl k) ?_
  have f403 := (f398.ext E397)
  have f404 := (f399.ext E397)
  have f405 := (f400.ext E397)
  have f406 := (f401.ext E397)
  obtain ⟨_, T407, L407, X407, ⟨rfl, N407q, K0', E0', S0'⟩, st407⟩ := own_callR X397 hx hZ hown (y := (⟨"com/example/eskew/eskew/server/split/CounterValues$Tally", "<init>", "(J)V"⟩ : MethodName)) rfl (hw _ (List.mem_of_getElem? (i := 37) rfl)) (hw _ (List.mem_of_getElem? (i := 38) rfl)) (hw _ (List.mem_of_getElem? (i := 36) rfl)) (hw _ (List.mem_of_getElem? (i := 39) rfl)) (by decide) (a := b397) (argsL := [(.long q4)]) (rest := [(.ref b397), (.int (0 : Int32)), (.ref b387)]) e397 (rm5 l Z a0 hw [] b397 q4 h397 n0 Z397 og_b397 A397 F_since_b397) (g := (mkF m 70 #[.val (.ref a1), .val (.int (4 : Int32)), .val (.long q3), .second, .val (.long q4), .second, .val (.int (0 : Int32))] [(.long q4), (.ref b397), (.ref b397), (.int (0 : Int32)), (.ref b387)])) rfl (by rw [hml]; rfl) (lenOf pd_1 rfl) rfl (W := 3) (by show 2 * 0 + _ ≤ _; exact Nat.le_of_eq rfl) (hb hby d2_70) (by decide) (by decide) (by decide) (by decide)
  have N407 := Fr.app N392 N407q
  refine own_by st407 ?_
  have Z407 : n0 ≤ T407.heap.size := Nat.le_trans Z397 K0'.1
  have K407c := K402.trans K0' (allS (Or.inr sz_b397) all0)
  have f409 := (f406.keep K0' (ninS ne_b387_b397 nin0))
  obtain ⟨cl408, Ar408, cq408, hin408, hat408, set408⟩ := own_arv f409 (j := (0 : Int32)) ⟨by decide, by decide⟩
  obtain ⟨T410, h410, X410, e410, W410, st410⟩ := stR X407 hx hZ rfl Ar408 (j := (0 : Int32)) hin408 rfl (Sto.ofV Ar408 cq408 O387 (Ins.self E0')) (g := (mkF m 73 #[.val (.ref a1), .val (.int (4 : Int32)), .val (.long q3), .second, .val (.long q4), .second, .val (.int (0 : Int32))] [(.ref b397), (.int (0 : Int32)), (.ref b387)])) rfl rfl (hb hby d2_73)
  have V410 : Arv Z h410 b387 k387 (.object "com/example/eskew/eskew/server/split/CounterValues$Tally") (4 : Int32) [(.ref b397), .null, .null, .null] .null := set408 rfl W410 0 rfl (Nat.le_of_ble_eq_true rfl)
  have N410 := Fr.snoc X410 N407 og_b387
  have K411 := K407c.wr W410 (Or.inr sz_b387)
  have Z410 : n0 ≤ h410.size := Nat.le_trans Z407 (Keep.of_wr W410).1
  refine own_by st410 ?_
  refine own_by (fun _ k => XS.iinc X410.here hx rfl (hb hby d2_74) rfl (l' := #[.val (.ref a1), .val (.int (4 : Int32)), .val (.long q3), .second, .val (.long q4), .second, .val (.int ((0 : Int32) + (1 : Int32)))]) rfl k) ?_
  show own_Go p e below _ T410 (mkF m 77 #[.val (.ref a1), .val (.int (4 : Int32)), .val (.long q3), .second, .val (.long q4), .second, .val (.int ((0 : Int32) + (1 : Int32)))] [])
  rw [show (0 : Int32) + (1 : Int32) = (1 : Int32) from by decide]
  refine own_by (fun _ k => XS.goto X410.here hx rfl (pc0 := 77) (pc' := 52) rfl (hb hby d2_77) (by decide) (by decide) k) ?_
  refine own_by (fun _ k => XS.iload X410.here hx rfl (hb hby d2_52) rfl k) ?_
  refine own_by (fun _ k => XS.iloadN X410.here hx rfl (hb hby d2_54) rfl k) ?_
  refine own_by (fun _ k => XS.icmpNo X410.here hx rfl (hb hby d2_55) rfl (tlt (by decide : (1 : Int32) < (4 : Int32))).2.1 k) ?_
  refine own_by (fun _ k => XS.aloadN X410.here hx rfl (hb hby d2_58) rfl rfl k) ?_
  have f413 := (((fw392.ext E397).keep K0' (ninS ne_a1_b397 nin0)).other W410 (Or.inl ne_a1_b387))
  obtain ⟨T412, X412, e412, st412⟩ := getF X410 hx hZ hown (host := "") (Or.inl (hw _ (List.mem_of_getElem? (i := 33) rfl))) Via.refl e410 f413 (g := (mkF m 59 #[.val (.ref a1), .val (.int (4 : Int32)), .val (.long q3), .second, .val (.long q4), .second, .val (.int (1 : Int32))] [(.ref a1)])) rfl rfl (hb hby d2_59)
  refine own_by st412 ?_
  refine own_by (fun _ k => XS.iload X412.here hx rfl (hb hby d2_62) rfl k) ?_
  obtain ⟨T414, h414, X414, e414, E414, A414, D414, -, st414⟩ := newO X412 hx hZ hown (hw _ (List.mem_of_getElem? (i := 31) rfl)) (hw _ (List.mem_of_getElem? (i := 35) rfl)) (hw _ (List.mem_of_getElem? (i := 36) rfl)) e412 (g := (mkF m 64 #[.val (.ref a1), .val (.int (4 : Int32)), .val (.long q3), .second, .val (.long q4), .second, .val (.int (1 : Int32))] [(.int (1 : Int32)), (.ref b387)])) rfl (hb hby d2_64) (by decide) (by decide)
  obtain ⟨b414, g414⟩ : ∃ zq, zq = h410.size := ⟨_, rfl⟩
  rw [← g414] at A414 D414 st414
  have f415 := ((f403.keep K0' (ninS ne_a1_b397 nin0)).other W410 (Or.inl ne_a1_b387))
  have ne_a1_b414 : a1 ≠ b414 := Nat.ne_of_lt (Nat.lt_of_lt_of_le f415.lt (Nat.le_of_eq g414.symm))
  have f416 := ((f404.keep K0').wr W410)
  have ne_b360_b414 : b360 ≠ b414 := Nat.ne_of_lt (Nat.lt_of_lt_of_le f416.lt (Nat.le_of_eq g414.symm))
  have f417 := ((f405.keep K0').wr W410)
  have ne_b367_b414 : b367 ≠ b414 := Nat.ne_of_lt (Nat.lt_of_lt_of_le f417.lt (Nat.le_of_eq g414.symm))
  have ne_b387_b414 : b387 ≠ b414 := Nat.ne_of_lt (Nat.lt_of_lt_of_le V410.lt (Nat.le_of_eq g414.symm))
  have f418 := (E0'.wr W410)
  have ne_b397_b414 : b397 ≠ b414 := Nat.ne_of_lt (Nat.lt_of_lt_of_le f418.lt (Nat.le_of_eq g414.symm))
  have og_b414 : n0 ≤ b414 := Nat.le_trans Z410 (Nat.le_of_eq g414.symm)
  have sz_b414 : h0.size ≤ b414 := Nat.le_trans K411.1 (Nat.le_of_eq g414.symm)
  have Z414 : n0 ≤ h414.size := Nat.le_trans Z410 E414.1
  have K419 := K411.ext E414
  have F_since_b414 : Fld Z h414 b414 "com/example/eskew/eskew/server/split/CounterValues$Tally" "since" "J" (.long (0 : Int64)) := D414 (Or.inl (hw _ (List.mem_of_getElem? (i := 42) rfl))) (ty := .long) (by decide)
  refine own_by st414 ?_
  show own_Go p e below _ T414 (mkF m 67 #[.val (.ref a1), .val (.int (4 : Int32)), .val (.long q3), .second, .val (.long q4), .second, .val (.int (1 : Int32))] [(.ref b414), (.int (1 : Int32)), (.ref b387)])
  refine own_by (fun _ k => XS.dup X414.here hx rfl (hb hby d2_67) rfl rfl k) ?_
  refine own_by (fun _ k => XS.lload X414.here hx rfl (hb hby d2_68) rfl k) ?_
  have f420 := (f415.ext E414)
  have f421 := (f416.ext E414)
  have f422 := (f417.ext E414)
  have f423 := (V410.ext E414)
  have f424 := (f418.ext E414)
  obtain ⟨_, T425, L425, X425, ⟨rfl, N425q, K1', E1', S1'⟩, st425⟩ := own_callR X414 hx hZ hown (y := (⟨"com/example/eskew/eskew/server/split/CounterValues$Tally", "<init>", "(J)V"⟩ : MethodName)) rfl (hw _ (List.mem_of_getElem? (i := 37) rfl)) (hw _ (List.mem_of_getElem? (i := 38) rfl)) (hw _ (List.mem_of_getElem? (i := 36) rfl)) (hw _ (List.mem_of_getElem? (i := 39) rfl)) (by decide) (a := b414) (argsL := [(.long q4)]) (rest := [(.ref b414), (.int (1 : Int32)), (.ref b387)]) e414 (rm5 l Z a0 hw [] b414 q4 h414 n0 Z414 og_b414 A414 F_since_b414) (g := (mkF m 70 #[.val (.ref a1), .val (.int (4 : Int32)), .val (.long q3), .second, .val (.long q4), .second, .val (.int (1 : Int32))] [(.long q4), (.ref b414), (.ref b414), (.int (1 : Int32)), (.ref b387)])) rfl (by rw [hml]; rfl) (lenOf pd_1 rfl) rfl (W := 3) (by show 2 * 0 + _ ≤ _; exact Nat.le_of_eq rfl) (hb hby d2_70) (by decide) (by decide) (by decide) (by decide)
  have N425 := Fr.app N410 N425q
  refine own_by st425 ?_
  have Z425 : n0 ≤ T425.heap.size := Nat.le_trans Z414 K1'.1
  have K425c := K419.trans K1' (allS (Or.inr sz_b414) all0)
  have f427 := (f423.keep K1' (ninS ne_b387_b414 nin0))
  obtain ⟨cl426, Ar426, cq426, hin426, hat426, set426⟩ := own_arv f427 (j := (1 : Int32)) ⟨by decide, by decide⟩
  obtain ⟨T428, h428, X428, e428, W428, st428⟩ := stR X425 hx hZ rfl Ar426 (j := (1 : Int32)) hin426 rfl (Sto.ofV Ar426 cq426 O387 (Ins.self E1')) (g := (mkF m 73 #[.val (.ref a1), .val (.int (4 : Int32)), .val (.long q3), .second, .val (.long q4), .second, .val (.int (1 : Int32))] [(.ref b414), (.int (1 : Int32)), (.ref b387)])) rfl rfl (hb hby d2_73)
  have V428 : Arv Z h428 b387 k387 (.object "com/example/eskew/eskew/server/split/CounterValues$Tally") (4 : Int32) [(.ref b397), (.ref b414), .null, .null] .null := set426 rfl W428 1 rfl (Nat.le_of_ble_eq_true rfl)
  have N428 := Fr.snoc X428 N425 og_b387
  have K429 := K425c.wr W428 (Or.inr sz_b387)
  have Z428 : n0 ≤ h428.size := Nat.le_trans Z425 (Keep.of_wr W428).1
  refine own_by st428 ?_
  refine own_by (fun _ k => XS.iinc X428.here hx rfl (hb hby d2_74) rfl (l' := #[.val (.ref a1), .val (.int (4 : Int32)), .val (.long q3), .second, .val (.long q4), .second, .val (.int ((1 : Int32) + (1 : Int32)))]) rfl k) ?_
  show own_Go p e below _ T428 (mkF m 77 #[.val (.ref a1), .val (.int (4 : Int32)), .val (.long q3), .second, .val (.long q4), .second, .val (.int ((1 : Int32) + (1 : Int32)))] [])
  rw [show (1 : Int32) + (1 : Int32) = (2 : Int32) from by decide]
  refine own_by (fun _ k => XS.goto X428.here hx rfl (pc0 := 77) (pc' := 52) rfl (hb hby d2_77) (by decide) (by decide) k) ?_
  refine own_by (fun _ k => XS.iload X428.here hx rfl (hb hby d2_52) rfl k) ?_
  refine own_by (fun _ k => XS.iloadN X428.here hx rfl (hb hby d2_54) rfl k) ?_
  refine own_by (fun _ k => XS.icmpNo X428.here hx rfl (hb hby d2_55) rfl (tlt (by decide : (2 : Int32) < (4 : Int32))).2.1 k) ?_
  refine own_by (fun _ k => XS.aloadN X428.here hx rfl (hb hby d2_58) rfl rfl k) ?_
  have f431 := (((f413.ext E414).keep K1' (ninS ne_a1_b414 nin0)).other W428 (Or.inl ne_a1_b387))
  obtain ⟨T430, X430, e430, st430⟩ := getF X428 hx hZ hown (host := "") (Or.inl (hw _ (List.mem_of_getElem? (i := 33) rfl))) Via.refl e428 f431 (g := (mkF m 59 #[.val (.ref a1), .val (.int (4 : Int32)), .val (.long q3), .second, .val (.long q4), .second, .val (.int (2 : Int32))] [(.ref a1)])) rfl rfl (hb hby d2_59)
  refine own_by st430 ?_
  refine own_by (fun _ k => XS.iload X430.here hx rfl (hb hby d2_62) rfl k) ?_
  obtain ⟨T432, h432, X432, e432, E432, A432, D432, -, st432⟩ := newO X430 hx hZ hown (hw _ (List.mem_of_getElem? (i := 31) rfl)) (hw _ (List.mem_of_getElem? (i := 35) rfl)) (hw _ (List.mem_of_getElem? (i := 36) rfl)) e430 (g := (mkF m 64 #[.val (.ref a1), .val (.int (4 : Int32)), .val (.long q3), .second, .val (.long q4), .second, .val (.int (2 : Int32))] [(.int (2 : Int32)), (.ref b387)])) rfl (hb hby d2_64) (by decide) (by decide)
  obtain ⟨b432, g432⟩ : ∃ zq, zq = h428.size := ⟨_, rfl⟩
  rw [← g432] at A432 D432 st432
  have f433 := ((f420.keep K1' (ninS ne_a1_b414 nin0)).other W428 (Or.inl ne_a1_b387))
  have ne_a1_b432 : a1 ≠ b432 := Nat.ne_of_lt (Nat.lt_of_lt_of_le f433.lt (Nat.le_of_eq g432.symm))
  have f434 := ((f421.keep K1').wr W428)
  have ne_b360_b432 : b360 ≠ b432 := Nat.ne_of_lt (Nat.lt_of_lt_of_le f434.lt (Nat.le_of_eq g432.symm))
  have f435 := ((f422.keep K1').wr W428)
  have ne_b367_b432 : b367 ≠ b432 := Nat.ne_of_lt (Nat.lt_of_lt_of_le f435.lt (Nat.le_of_eq g432.symm))
  have ne_b387_b432 : b387 ≠ b432 := Nat.ne_of_lt (Nat.lt_of_lt_of_le V428.lt (Nat.le_of_eq g432.symm))
  have f436 := ((f424.keep K1').wr W428)
  have ne_b397_b432 : b397 ≠ b432 := Nat.ne_of_lt (Nat.lt_of_lt_of_le f436.lt (Nat.le_of_eq g432.symm))
  have f437 := (E1'.wr W428)
  have ne_b414_b432 : b414 ≠ b432 := Nat.ne_of_lt (Nat.lt_of_lt_of_le f437.lt (Nat.le_of_eq g432.symm))
  have og_b432 : n0 ≤ b432 := Nat.le_trans Z428 (Nat.le_of_eq g432.symm)
  have sz_b432 : h0.size ≤ b432 := Nat.le_trans K429.1 (Nat.le_of_eq g432.symm)
  have Z432 : n0 ≤ h432.size := Nat.le_trans Z428 E432.1
  have K438 := K429.ext E432
  have F_since_b432 : Fld Z h432 b432 "com/example/eskew/eskew/server/split/CounterValues$Tally" "since" "J" (.long (0 : Int64)) := D432 (Or.inl (hw _ (List.mem_of_getElem? (i := 42) rfl))) (ty := .long) (by decide)
  refine own_by st432 ?_
  show own_Go p e below _ T432 (mkF m 67 #[.val (.ref a1), .val (.int (4 : Int32)), .val (.long q3), .second, .val (.long q4), .second, .val (.int (2 : Int32))] [(.ref b432), (.int (2 : Int32)), (.ref b387)])
  refine own_by (fun _ k => XS.dup X432.here hx rfl (hb hby d2_67) rfl rfl k) ?_
  refine own_by (fun _ k => XS.lload X432.here hx rfl (hb hby d2_68) rfl k) ?_
  have f439 := (f433.ext E432)
  have f440 := (f434.ext E432)
  have f441 := (f435.ext E432)
  have f442 := (V428.ext E432)
  have f443 := (f436.ext E432)
  have f444 := (f437.ext E432)
  obtain ⟨_, T445, L445, X445, ⟨rfl, N445q, K2', E2', S2'⟩, st445⟩ := own_callR X432 hx hZ hown (y := (⟨"com/example/eskew/eskew/server/split/CounterValues$Tally", "<init>", "(J)V"⟩ : MethodName)) rfl (hw _ (List.mem_of_getElem? (i := 37) rfl)) (hw _ (List.mem_of_getElem? (i := 38) rfl)) (hw _ (List.mem_of_getElem? (i := 36) rfl)) (hw _ (List.mem_of_getElem? (i := 39) rfl)) (by decide) (a := b432) (argsL := [(.long q4)]) (rest := [(.ref b432), (.int (2 : Int32)), (.ref b387)]) e432 (rm5 l Z a0 hw [] b432 q4 h432 n0 Z432 og_b432 A432 F_since_b432) (g := (mkF m 70 #[.val (.ref a1), .val (.int (4 : Int32)), .val (.long q3), .second, .val (.long q4), .second, .val (.int (2 : Int32))] [(.long q4), (.ref b432), (.ref b432), (.int (2 : Int32)), (.ref b387)])) rfl (by rw [hml]; rfl) (lenOf pd_1 rfl) rfl (W := 3) (by show 2 * 0 + _ ≤ _; exact Nat.le_of_eq rfl) (hb hby d2_70) (by decide) (by decide) (by decide) (by decide)
  have N445 := Fr.app N428 N445q
  refine own_by st445 ?_
  have Z445 : n0 ≤ T445.heap.size := Nat.le_trans Z432 K2'.1
  have K445c := K438.trans K2' (allS (Or.inr sz_b432) all0)
  have f447 := (f442.keep K2' (ninS ne_b387_b432 nin0))
  obtain ⟨cl446, Ar446, cq446, hin446, hat446, set446⟩ := own_arv f447 (j := (2 : Int32)) ⟨by decide, by decide⟩
  obtain ⟨T448, h448, X448, e448, W448, st448⟩ := stR X445 hx hZ rfl Ar446 (j := (2 : Int32)) hin446 rfl (Sto.ofV Ar446 cq446 O387 (Ins.self E2')) (g := (mkF m 73 #[.val (.ref a1), .val (.int (4 : Int32)), .val (.long q3), .second, .val (.long q4), .second, .val (.int (2 : Int32))] [(.ref b432), (.int (2 : Int32)), (.ref b387)])) rfl rfl (hb hby d2_73)
  have V448 : Arv Z h448 b387 k387 (.object "com/example/eskew/eskew/server/split/CounterValues$Tally") (4 : Int32) [(.ref b397), (.ref b414), (.ref b432), .null] .null := set446 rfl W448 2 rfl (Nat.le_of_ble_eq_true rfl)
  have N448 := Fr.snoc X448 N445 og_b387
  have K449 := K445c.wr W448 (Or.inr sz_b387)
  have Z448 : n0 ≤ h448.size := Nat.le_trans Z445 (Keep.of_wr W448).1
  refine own_by st448 ?_
  refine own_by (fun _ k => XS.iinc X448.here hx rfl (hb hby d2_74) rfl (l' := #[.val (.ref a1), .val (.int (4 : Int32)), .val (.long q3), .second, .val (.long q4), .second, .val (.int ((2 : Int32) + (1 : Int32)))]) rfl k) ?_
  show own_Go p e below _ T448 (mkF m 77 #[.val (.ref a1), .val (.int (4 : Int32)), .val (.long q3), .second, .val (.long q4), .second, .val (.int ((2 : Int32) + (1 : Int32)))] [])
  rw [show (2 : Int32) + (1 : Int32) = (3 : Int32) from by decide]
  refine own_by (fun _ k => XS.goto X448.here hx rfl (pc0 := 77) (pc' := 52) rfl (hb hby d2_77) (by decide) (by decide) k) ?_
  refine own_by (fun _ k => XS.iload X448.here hx rfl (hb hby d2_52) rfl k) ?_
  refine own_by (fun _ k => XS.iloadN X448.here hx rfl (hb hby d2_54) rfl k) ?_
  refine own_by (fun _ k => XS.icmpNo X448.here hx rfl (hb hby d2_55) rfl (tlt (by decide : (3 : Int32) < (4 : Int32))).2.1 k) ?_
  refine own_by (fun _ k => XS.aloadN X448.here hx rfl (hb hby d2_58) rfl rfl k) ?_
  have f451 := (((f431.ext E432).keep K2' (ninS ne_a1_b432 nin0)).other W448 (Or.inl ne_a1_b387))
  obtain ⟨T450, X450, e450, st450⟩ := getF X448 hx hZ hown (host := "") (Or.inl (hw _ (List.mem_of_getElem? (i := 33) rfl))) Via.refl e448 f451 (g := (mkF m 59 #[.val (.ref a1), .val (.int (4 : Int32)), .val (.long q3), .second, .val (.long q4), .second, .val (.int (3 : Int32))] [(.ref a1)])) rfl rfl (hb hby d2_59)
  refine own_by st450 ?_
  refine own_by (fun _ k => XS.iload X450.here hx rfl (hb hby d2_62) rfl k) ?_
  obtain ⟨T452, h452, X452, e452, E452, A452, D452, -, st452⟩ := newO X450 hx hZ hown (hw _ (List.mem_of_getElem? (i := 31) rfl)) (hw _ (List.mem_of_getElem? (i := 35) rfl)) (hw _ (List.mem_of_getElem? (i := 36) rfl)) e450 (g := (mkF m 64 #[.val (.ref a1), .val (.int (4 : Int32)), .val (.long q3), .second, .val (.long q4), .second, .val (.int (3 : Int32))] [(.int (3 : Int32)), (.ref b387)])) rfl (hb hby d2_64) (by decide) (by decide)
  obtain ⟨b452, g452⟩ : ∃ zq, zq = h448.size := ⟨_, rfl⟩
  rw [← g452] at A452 D452 st452
  have f453 := ((f439.keep K2' (ninS ne_a1_b432 nin0)).other W448 (Or.inl ne_a1_b387))
  have ne_a1_b452 : a1 ≠ b452 := Nat.ne_of_lt (Nat.lt_of_lt_of_le f453.lt (Nat.le_of_eq g452.symm))
  have f454 := ((f440.keep K2').wr W448)
  have ne_b360_b452 : b360 ≠ b452 := Nat.ne_of_lt (Nat.lt_of_lt_of_le f454.lt (Nat.le_of_eq g452.symm))
  have f455 := ((f441.keep K2').wr W448)
  have ne_b367_b452 : b367 ≠ b452 := Nat.ne_of_lt (Nat.lt_of_lt_of_le f455.lt (Nat.le_of_eq g452.symm))
  have ne_b387_b452 : b387 ≠ b452 := Nat.ne_of_lt (Nat.lt_of_lt_of_le V448.lt (Nat.le_of_eq g452.symm))
  have f456 := ((f443.keep K2').wr W448)
  have ne_b397_b452 : b397 ≠ b452 := Nat.ne_of_lt (Nat.lt_of_lt_of_le f456.lt (Nat.le_of_eq g452.symm))
  have f457 := ((f444.keep K2').wr W448)
  have ne_b414_b452 : b414 ≠ b452 := Nat.ne_of_lt (Nat.lt_of_lt_of_le f457.lt (Nat.le_of_eq g452.symm))
  have f458 := (E2'.wr W448)
  have ne_b432_b452 : b432 ≠ b452 := Nat.ne_of_lt (Nat.lt_of_lt_of_le f458.lt (Nat.le_of_eq g452.symm))
  have og_b452 : n0 ≤ b452 := Nat.le_trans Z448 (Nat.le_of_eq g452.symm)
  have sz_b452 : h0.size ≤ b452 := Nat.le_trans K449.1 (Nat.le_of_eq g452.symm)
  have Z452 : n0 ≤ h452.size := Nat.le_trans Z448 E452.1
  have K459 := K449.ext E452
  have F_since_b452 : Fld Z h452 b452 "com/example/eskew/eskew/server/split/CounterValues$Tally" "since" "J" (.long (0 : Int64)) := D452 (Or.inl (hw _ (List.mem_of_getElem? (i := 42) rfl))) (ty := .long) (by decide)
  refine own_by st452 ?_
  show own_Go p e below _ T452 (mkF m 67 #[.val (.ref a1), .val (.int (4 : Int32)), .val (.long q3), .second, .val (.long q4), .second, .val (.int (3 : Int32))] [(.ref b452), (.int (3 : Int32)), (.ref b387)])
  refine own_by (fun _ k => XS.dup X452.here hx rfl (hb hby d2_67) rfl rfl k) ?_
  refine own_by (fun _ k => XS.lload X452.here hx rfl (hb hby d2_68) rfl k) ?_
  have f460 := (f453.ext E452)
  have f461 := (f454.ext E452)
  have f462 := (f455.ext E452)
  have f463 := (V448.ext E452)
  have f464 := (f456.ext E452)
  have f465 := (f457.ext E452)
  have f466 := (f458.ext E452)
  obtain ⟨_, T467, L467, X467, ⟨rfl, N467q, K3', E3', S3'⟩, st467⟩ := own_callR X452 hx hZ hown (y := (⟨"com/example/eskew/eskew/server/split/CounterValues$Tally", "<init>", "(J)V"⟩ : MethodName)) rfl (hw _ (List.mem_of_getElem? (i := 37) rfl)) (hw _ (List.mem_of_getElem? (i := 38) rfl)) (hw _ (List.mem_of_getElem? (i := 36) rfl)) (hw _ (List.mem_of_getElem? (i := 39) rfl)) (by decide) (a := b452) (argsL := [(.long q4)]) (rest := [(.ref b452), (.int (3 : Int32)), (.ref b387)]) e452 (rm5 l Z a0 hw [] b452 q4 h452 n0 Z452 og_b452 A452 F_since_b452) (g := (mkF m 70 #[.val (.ref a1), .val (.int (4 : Int32)), .val (.long q3), .second, .val (.long q4), .second, .val (.int (3 : Int32))] [(.long q4), (.ref b452), (.ref b452), (.int (3 : Int32)), (.ref b387)])) rfl (by rw [hml]; rfl) (lenOf pd_1 rfl) rfl (W := 3) (by show 2 * 0 + _ ≤ _; exact Nat.le_of_eq rfl) (hb hby d2_70) (by decide) (by decide) (by decide) (by decide)
  have N467 := Fr.app N448 N467q
  refine own_by st467 ?_
  have Z467 : n0 ≤ T467.heap.size := Nat.le_trans Z452 K3'.1
  have K467c := K459.trans K3' (allS (Or.inr sz_b452) all0)
  have f469 := (f463.keep K3' (ninS ne_b387_b452 nin0))
  obtain ⟨cl468, Ar468, cq468, hin468, hat468, set468⟩ := own_arv f469 (j := (3 : Int32)) ⟨by decide, by decide⟩
  obtain ⟨T470, h470, X470, e470, W470, st470⟩ := stR X467 hx hZ rfl Ar468 (j := (3 : Int32)) hin468 rfl (Sto.ofV Ar468 cq468 O387 (Ins.self E3')) (g := (mkF m 73 #[.val (.ref a1), .val (.int (4 : Int32)), .val (.long q3), .second, .val (.long q4), .second, .val (.int (3 : Int32))] [(.ref b452), (.int (3 : Int32)), (.ref b387)])) rfl rfl (hb hby d2_73)
  have V470 : Arv Z h470 b387 k387 (.object "com/example/eskew/eskew/server/split/CounterValues$Tally") (4 : Int32) [(.ref b397), (.ref b414), (.ref b432), (.ref b452)] .null := set468 rfl W470 3 rfl (Nat.le_of_ble_eq_true rfl)
  have N470 := Fr.snoc X470 N467 og_b387
  have K471 := K467c.wr W470 (Or.inr sz_b387)
  have Z470 : n0 ≤ h470.size := Nat.le_trans Z467 (Keep.of_wr W470).1
  refine own_by st470 ?_
  refine own_by (fun _ k => XS.iinc X470.here hx rfl (hb hby d2_74) rfl (l' := #[.val (.ref a1), .val (.int (4 : Int32)), .val (.long q3), .second, .val (.long q4), .second, .val (.int ((3 : Int32) + (1 : Int32)))]) rfl k) ?_
  show own_Go p e below _ T470 (mkF m 77 #[.val (.ref a1), .val (.int (4 : Int32)), .val (.long q3), .second, .val (.long q4), .second, .val (.int ((3 : Int32) + (1 : Int32)))] [])
  rw [show (3 : Int32) + (1 : Int32) = (4 : Int32) from by decide]
  refine own_by (fun _ k => XS.goto X470.here hx rfl (pc0 := 77) (pc' := 52) rfl (hb hby d2_77) (by decide) (by decide) k) ?_
  refine own_by (fun _ k => XS.iload X470.here hx rfl (hb hby d2_52) rfl k) ?_
  refine own_by (fun _ k => XS.iloadN X470.here hx rfl (hb hby d2_54) rfl k) ?_
  refine own_by (fun _ k => XS.icmpYes X470.here hx rfl (pc0 := 55) (pc' := 80) rfl (hb hby d2_55) rfl (flt (by decide : ¬ ((4 : Int32) < (4 : Int32)))).2.1 (by decide) (by decide) k) ?_
  have f472 := (((((((((((((f394.wr W392).ext E397).keep K0').wr W410).ext E414).keep K1').wr W428).ext E432).keep K2').wr W448).ext E452).keep K3').wr W470)
  have f473 := ((((((((((((((((fw375.other W379 (Or.inr (slot_ne (Or.inl (hw _ (List.mem_of_getElem? (i := 26) rfl))) (Or.inl (hw _ (List.mem_of_getElem? (i := 28) rfl))) (by decide) (t := .int) (t' := .int) (by decide) (by decide)))).other W383 (Or.inr (slot_ne (Or.inl (hw _ (List.mem_of_getElem? (i := 26) rfl))) (Or.inr (hw _ (List.mem_of_getElem? (i := 30) rfl))) (by decide) (t := .int) (t' := .long) (by decide) (by decide)))).ext E387).other W392 (Or.inr (slot_ne (Or.inl (hw _ (List.mem_of_getElem? (i := 26) rfl))) (Or.inr (hw _ (List.mem_of_getElem? (i := 34) rfl))) (by decide) (t := .int) (t' := (.array (.object "com/example/eskew/eskew/server/split/CounterValues$Tally"))) (by decide) (by decide)))).ext E397).keep K0' (ninS ne_a1_b397 nin0)).other W410 (Or.inl ne_a1_b387)).ext E414).keep K1' (ninS ne_a1_b414 nin0)).other W428 (Or.inl ne_a1_b387)).ext E432).keep K2' (ninS ne_a1_b432 nin0)).other W448 (Or.inl ne_a1_b387)).ext E452).keep K3' (ninS ne_a1_b452 nin0)).other W470 (Or.inl ne_a1_b387))
  have f474 := (((((((((((((((((((((F_restingSince.ext E360).other W363 (Or.inr (slot_ne (Or.inl (hw _ (List.mem_of_getElem? (i := 59) rfl))) (Or.inr (hw _ (List.mem_of_getElem? (i := 22) rfl))) (by decide) (t := .long) (t' := (.object "com/example/eskew/eskew/server/split/CounterValues$WideSum")) (by decide) (by decide)))).ext E367).other W371 (Or.inr (slot_ne (Or.inl (hw _ (List.mem_of_getElem? (i := 59) rfl))) (Or.inr (hw _ (List.mem_of_getElem? (i := 24) rfl))) (by decide) (t := .long) (t' := (.object "com/example/eskew/eskew/server/split/CounterValues$WideSum")) (by decide) (by decide)))).other W375 (Or.inr (slot_ne (Or.inl (hw _ (List.mem_of_getElem? (i := 59) rfl))) (Or.inl (hw _ (List.mem_of_getElem? (i := 26) rfl))) (by decide) (t := .long) (t' := .int) (by decide) (by decide)))).other W379 (Or.inr (slot_ne (Or.inl (hw _ (List.mem_of_getElem? (i := 59) rfl))) (Or.inl (hw _ (List.mem_of_getElem? (i := 28) rfl))) (by decide) (t := .long) (t' := .int) (by decide) (by decide)))).other W383 (Or.inr (slot_ne (Or.inl (hw _ (List.mem_of_getElem? (i := 59) rfl))) (Or.inr (hw _ (List.mem_of_getElem? (i := 30) rfl))) (by decide) (t := .long) (t' := .long) (by decide) (by decide)))).ext E387).other W392 (Or.inr (slot_ne (Or.inl (hw _ (List.mem_of_getElem? (i := 59) rfl))) (Or.inr (hw _ (List.mem_of_getElem? (i := 34) rfl))) (by decide) (t := .long) (t' := (.array (.object "com/example/eskew/eskew/server/split/CounterValues$Tally"))) (by decide) (by decide)))).ext E397).keep K0' (ninS ne_a1_b397 nin0)).other W410 (Or.inl ne_a1_b387)).ext E414).keep K1' (ninS ne_a1_b414 nin0)).other W428 (Or.inl ne_a1_b387)).ext E432).keep K2' (ninS ne_a1_b432 nin0)).other W448 (Or.inl ne_a1_b387)).ext E452).keep K3' (ninS ne_a1_b452 nin0)).other W470 (Or.inl ne_a1_b387))
  have f475 := (((((((((((((((fw379.other W383 (Or.inr (slot_ne (Or.inl (hw _ (List.mem_of_getElem? (i := 28) rfl))) (Or.inr (hw _ (List.mem_of_getElem? (i := 30) rfl))) (by decide) (t := .int) (t' := .long) (by decide) (by decide)))).ext E387).other W392 (Or.inr (slot_ne (Or.inl (hw _ (List.mem_of_getElem? (i := 28) rfl))) (Or.inr (hw _ (List.mem_of_getElem? (i := 34) rfl))) (by decide) (t := .int) (t' := (.array (.object "com/example/eskew/eskew/server/split/CounterValues$Tally"))) (by decide) (by decide)))).ext E397).keep K0' (ninS ne_a1_b397 nin0)).other W410 (Or.inl ne_a1_b387)).ext E414).keep K1' (ninS ne_a1_b414 nin0)).other W428 (Or.inl ne_a1_b387)).ext E432).keep K2' (ninS ne_a1_b432 nin0)).other W448 (Or.inl ne_a1_b387)).ext E452).keep K3' (ninS ne_a1_b452 nin0)).other W470 (Or.inl ne_a1_b387))
  have f476 := ((((((((((((((fw383.ext E387).other W392 (Or.inr (slot_ne (Or.inr (hw _ (List.mem_of_getElem? (i := 30) rfl))) (Or.inr (hw _ (List.mem_of_getElem? (i := 34) rfl))) (by decide) (t := .long) (t' := (.array (.object "com/example/eskew/eskew/server/split/CounterValues$Tally"))) (by decide) (by decide)))).ext E397).keep K0' (ninS ne_a1_b397 nin0)).other W410 (Or.inl ne_a1_b387)).ext E414).keep K1' (ninS ne_a1_b414 nin0)).other W428 (Or.inl ne_a1_b387)).ext E432).keep K2' (ninS ne_a1_b432 nin0)).other W448 (Or.inl ne_a1_b387)).ext E452).keep K3' (ninS ne_a1_b452 nin0)).other W470 (Or.inl ne_a1_b387))
  have f477 := (((f451.ext E452).keep K3' (ninS ne_a1_b452 nin0)).other W470 (Or.inl ne_a1_b387))
  have f478 := ((((((((((S0'.other W410 (Or.inl (Ne.symm ne_b387_b397))).ext E414).keep K1' (ninS ne_b397_b414 nin0)).other W428 (Or.inl (Ne.symm ne_b387_b397))).ext E432).keep K2' (ninS ne_b397_b432 nin0)).other W448 (Or.inl (Ne.symm ne_b387_b397))).ext E452).keep K3' (ninS ne_b397_b452 nin0)).other W470 (Or.inl (Ne.symm ne_b387_b397)))
  have f479 := (((((((S1'.other W428 (Or.inl (Ne.symm ne_b387_b414))).ext E432).keep K2' (ninS ne_b414_b432 nin0)).other W448 (Or.inl (Ne.symm ne_b387_b414))).ext E452).keep K3' (ninS ne_b414_b452 nin0)).other W470 (Or.inl (Ne.symm ne_b387_b414)))
  have f480 := ((((S2'.other W448 (Or.inl (Ne.symm ne_b387_b432))).ext E452).keep K3' (ninS ne_b432_b452 nin0)).other W470 (Or.inl (Ne.symm ne_b387_b432)))
  have f481 := (S3'.other W470 (Or.inl (Ne.symm ne_b387_b452)))
  exact own_ret0 X470 hx hlk hret (hb hby d2_80) (by first | exact ⟨b387, k387, b397, b414, b432, b452, rfl, N470, K471, f472, f473, f474, f475, f476, f477, sz_b387, V470, sz_b397, sz_b414, sz_b432, sz_b452, f478, f479, f480, f481⟩ | (rw [e470]; exact ⟨b387, k387, b397, b414, b432, b452, rfl, N470, K471, f472, f473, f474, f475, f476, f477, sz_b387, V470, sz_b397, sz_b414, sz_b432, sz_b452, f478, f479, f480, f481⟩)) (by decide) (by decide)
def Q_rm10 (Z : State) (p1 p2 : Int32) (h0 : Heap) (n0 : Nat) (v : Option Value) (h : Heap) (L : List Loc) : Prop := v = some (.int (own_wrap p1 p2)) ∧ Fr n0 L ∧ h = h0
theorem pn_rm10 : plainFor (⟨"com/example/eskew/eskew/server/split/CounterValuesRestingPinLaw", "wrap", "(II)I"⟩ : MethodName) = true := plainFor_of_name (by first | (simp [plainName, overriddenIn, x]; done) | decide +kernel)
theorem d10_0 : decode method_5_code 0 = .ok (.iload_n 0, 1) := by decide +kernel
theorem d10_1 : decode method_5_code 1 = .ok (.iload_n 1, 1) := by decide +kernel
theorem d10_2 : decode method_5_code 2 = .ok (.if_icmp .le 9, 3) := by decide +kernel
theorem d10_5 : decode method_5_code 5 = .ok (.iload_n 0, 1) := by decide +kernel
theorem d10_6 : decode method_5_code 6 = .ok (.iload_n 1, 1) := by decide +kernel
theorem d10_7 : decode method_5_code 7 = .ok (.isub, 1) := by decide +kernel
theorem d10_8 : decode method_5_code 8 = .ok (.goto 4, 3) := by decide +kernel
theorem d10_12 : decode method_5_code 12 = .ok (.ireturn, 1) := by decide +kernel
theorem d10_11 : decode method_5_code 11 = .ok (.iload_n 0, 1) := by decide +kernel
set_option maxRecDepth 65536 in
set_option maxHeartbeats 40000000 in
theorem rm10 (l : Launch) (Z : State) (a0 : Array Value) (hw : ∀ d ∈ tables_1, d.before a0 Z = true) (ws : List Jvm.Cond) (p1 p2 : Int32) (h0 : Heap) (n0 : Nat) (Z0 : n0 ≤ h0.size)  :
    own_Met l Z (⟨"com/example/eskew/eskew/server/split/CounterValuesRestingPinLaw", "wrap", "(II)I"⟩ : MethodName) method_5_code 2 (some .int) ws ({ frames := 0, cells := 0, slots := 0, locals := 0 } : Room) #[(.int p1), (.int p2)] h0 (Q_rm10 Z p1 p2 h0 n0) := by
  refine own_enter (g0 := fun m => (mkF m 0 #[.val (.int p1), .val (.int p2)] [])) pn_rm10 (fun m => by first | (simp [entryFrame, mkF, argsToLocals, Value.category, maxLocals]; done) | rfl) ?_
  intro p e s m below meth c s₁ hx hby hml hown hnm hret hlk hZ X0 e0
  have hml : c.maxLocals = 2 := hml
  have hown : s.vm.findClass "com/example/eskew/eskew/server/split/CounterValuesRestingPinLaw" = some m.cls := hown
  have N0 := Fr.nil n0
  refine own_by (fun _ k => XS.iloadN X0.here hx rfl (hb hby d10_0) rfl k) ?_
  refine own_by (fun _ k => XS.iloadN X0.here hx rfl (hb hby d10_1) rfl k) ?_
  by_cases hq : p2 < p1
  · refine own_by (fun _ k => XS.icmpNo X0.here hx rfl (hb hby d10_2) rfl (tlt (hq : p2 < p1)).2.2.2 k) ?_
    refine own_by (fun _ k => XS.iloadN X0.here hx rfl (hb hby d10_5) rfl k) ?_
    refine own_by (fun _ k => XS.iloadN X0.here hx rfl (hb hby d10_6) rfl k) ?_
    refine own_by (fun _ k => XS.isub X0.here hx rfl (hb hby d10_7) rfl k) ?_
    refine own_by (fun _ k => XS.goto X0.here hx rfl (pc0 := 8) (pc' := 12) rfl (hb hby d10_8) (by decide) (by decide) k) ?_
    exact own_retI X0 hx hlk hret  (hb hby d10_12) (by first | exact ⟨by rw [own_wrap, if_pos hq], N0, rfl⟩ | (rw [e0]; exact ⟨by rw [own_wrap, if_pos hq], N0, rfl⟩)) (by decide) (by decide)
  · refine own_by (fun _ k => XS.icmpYes X0.here hx rfl (pc0 := 2) (pc' := 11) rfl (hb hby d10_2) rfl (flt (hq : ¬ (p2 < p1))).2.2.2 (by decide) (by decide) k) ?_
    refine own_by (fun _ k => XS.iloadN X0.here hx rfl (hb hby d10_11) rfl k) ?_
    exact own_retI X0 hx hlk hret  (hb hby d10_12) (by first | exact ⟨by rw [own_wrap, if_neg hq], N0, rfl⟩ | (rw [e0]; exact ⟨by rw [own_wrap, if_neg hq], N0, rfl⟩)) (by decide) (by decide)
theorem own_get {b0 b1 b2 b3 : Int32} (j : Int32) (h : ¬ j < 0 ∧ j < 4) : ([.int b0, .int b1, .int b2, .int b3] : List Value).getD j.toNatClampNeg (.int 0) = .int (own_at b0 b1 b2 b3 j) := by
  have c : j = 0 ∨ j = 1 ∨ j = 2 ∨ j = 3 := by
    have h1 : 0 ≤ j.toInt := by have := h.1; rw [Int32.lt_iff_toInt_lt] at this; exact Int.not_lt.mp this
    have h2 : j.toInt < 4 := by have := h.2; rw [Int32.lt_iff_toInt_lt] at this; exact this
    have e : ∀ k : Int32, j.toInt = k.toInt → j = k := fun k q => Int32.toInt_inj.mp q
    have c : j.toInt = 0 ∨ j.toInt = 1 ∨ j.toInt = 2 ∨ j.toInt = 3 := by omega
    rcases c with c | c | c | c
    · exact Or.inl (e 0 c)
    · exact Or.inr (Or.inl (e 1 c))
    · exact Or.inr (Or.inr (Or.inl (e 2 c)))
    · exact Or.inr (Or.inr (Or.inr (e 3 c)))
  rcases c with rfl | rfl | rfl | rfl <;> rfl
abbrev own_in (n x : Int32) : Prop := (x = 1 ∧ n < 2) ∨ (n = 2 ∧ (x = 1 ∨ x = 2)) ∨ (n = 3 ∧ (x = 1 ∨ x = 2 ∨ x = 3))
theorem own_slot (n x i : Int32) (h : own_in n x) (hn : n = 1 ∨ n = 2 ∨ n = 3) (hi : i = 0 ∨ i = 1 ∨ i = 2) : (1 + (x - 1 + i) % n = 1 ∨ (1 + (x - 1 + i) % n = 2 ∧ 1 < n) ∨ (1 + (x - 1 + i) % n = 3 ∧ n = 3)) := by
  rcases hn with rfl | rfl | rfl <;> rcases h with ⟨rfl, h⟩ | ⟨h, rfl | rfl⟩ | ⟨h, rfl | rfl | rfl⟩ <;> first | (exact absurd h (by decide)) | (rcases hi with rfl | rfl | rfl <;> decide)
theorem own_wr (n x : Int32) (h : own_in n x) (hn : n = 1 ∨ n = 2 ∨ n = 3) : (¬ own_wrap x n < 0 ∧ own_wrap x n < 4) ∧ (¬ n < 2 → ¬ own_wrap (x + 1) n < 0 ∧ own_wrap (x + 1) n < 4) ∧ (¬ n < 3 → ¬ own_wrap (x + 2) n < 0 ∧ own_wrap (x + 2) n < 4) := by
  rcases hn with rfl | rfl | rfl <;> rcases h with ⟨rfl, h⟩ | ⟨h, rfl | rfl⟩ | ⟨h, rfl | rfl | rfl⟩ <;> first | (exact absurd h (by decide)) | decide
theorem own_cnt_1 (u1 u2 u3 : Int32) : ((0 : Int32) + own_one u1) = own_count (1 : Int32) u1 u2 u3 := by
  simp only [own_count, show ¬ ((1 : Int32) < (1 : Int32)) from by decide, show ((1 : Int32) < (2 : Int32)) from by decide, show ((1 : Int32) < (3 : Int32)) from by decide, if_true, if_false, Int32.add_zero]
theorem own_cnt_2 (u1 u2 u3 : Int32) : (((0 : Int32) + own_one u1) + own_one u2) = own_count (2 : Int32) u1 u2 u3 := by
  simp only [own_count, show ¬ ((2 : Int32) < (1 : Int32)) from by decide, show ¬ ((2 : Int32) < (2 : Int32)) from by decide, show ((2 : Int32) < (3 : Int32)) from by decide, if_true, if_false, Int32.add_zero]
theorem own_cnt_3 (u1 u2 u3 : Int32) : ((((0 : Int32) + own_one u1) + own_one u2) + own_one u3) = own_count (3 : Int32) u1 u2 u3 := by
  simp only [own_count, show ¬ ((3 : Int32) < (1 : Int32)) from by decide, show ¬ ((3 : Int32) < (2 : Int32)) from by decide, show ¬ ((3 : Int32) < (3 : Int32)) from by decide, if_true, if_false, Int32.add_zero]
def Q_rm8_0 (Z : State) (b : Addr) (kb : ClassId) (u0 u1 u2 u3 : Int32) (h0 : Heap) (n0 : Nat) (v : Option Value) (h : Heap) (L : List Loc) : Prop := v = some (.int (own_count (0 : Int32) u1 u2 u3)) ∧ Fr n0 L ∧ h = h0
theorem pn_rm8_0 : plainFor (⟨"com/example/eskew/eskew/server/split/CounterValuesRestingPinLaw", "count", "([ZI)I"⟩ : MethodName) = true := plainFor_of_name (by first | (simp [plainName, overriddenIn, x]; done) | decide +kernel)
theorem d8_0 : decode method_4_code 0 = .ok (.iconst 0, 1) := by decide +kernel
theorem d8_1 : decode method_4_code 1 = .ok (.istore_n 2, 1) := by decide +kernel
theorem d8_2 : decode method_4_code 2 = .ok (.iload_n 1, 1) := by decide +kernel
theorem d8_3 : decode method_4_code 3 = .ok (.iconst 1, 1) := by decide +kernel
theorem d8_4 : decode method_4_code 4 = .ok (.if_icmp .lt 13, 3) := by decide +kernel
theorem d8_17 : decode method_4_code 17 = .ok (.iload_n 1, 1) := by decide +kernel
theorem d8_18 : decode method_4_code 18 = .ok (.iconst 2, 1) := by decide +kernel
theorem d8_19 : decode method_4_code 19 = .ok (.if_icmp .lt 13, 3) := by decide +kernel
theorem d8_32 : decode method_4_code 32 = .ok (.iload_n 1, 1) := by decide +kernel
theorem d8_33 : decode method_4_code 33 = .ok (.iconst 3, 1) := by decide +kernel
theorem d8_34 : decode method_4_code 34 = .ok (.if_icmp .lt 13, 3) := by decide +kernel
theorem d8_47 : decode method_4_code 47 = .ok (.iload_n 2, 1) := by decide +kernel
theorem d8_48 : decode method_4_code 48 = .ok (.ireturn, 1) := by decide +kernel
set_option maxRecDepth 65536 in
set_option maxHeartbeats 40000000 in
theorem rm8_0 (l : Launch) (Z : State) (a0 : Array Value) (hw : ∀ d ∈ tables_1, d.before a0 Z = true) (ws : List Jvm.Cond) (b : Addr) (kb : ClassId) (u0 u1 u2 u3 : Int32) (h0 : Heap) (n0 : Nat) (Z0 : n0 ≤ h0.size) (V1 : Arv Z h0 b kb .boolean (4 : Int32) [(.int u0), (.int u1), (.int u2), (.int u3)] (.int (0 : Int32))) :
    own_Met l Z (⟨"com/example/eskew/eskew/server/split/CounterValuesRestingPinLaw", "count", "([ZI)I"⟩ : MethodName) method_4_code 3 (some .int) ws ({ frames := 0, cells := 0, slots := 0, locals := 0 } : Room) #[(.ref b), (.int (0 : Int32))] h0 (Q_rm8_0 Z b kb u0 u1 u2 u3 h0 n0) := by
  refine own_enter (g0 := fun m => (mkF m 0 #[.val (.ref b), .val (.int (0 : Int32)), .unset] [])) pn_rm8_0 (fun m => by first | (simp [entryFrame, mkF, argsToLocals, Value.category, maxLocals]; done) | rfl) ?_
  intro p e s m below meth c s₁ hx hby hml hown hnm hret hlk hZ X0 e0
  have hml : c.maxLocals = 3 := hml
  have hown : s.vm.findClass "com/example/eskew/eskew/server/split/CounterValuesRestingPinLaw" = some m.cls := hown
  have N0 := Fr.nil n0
  refine own_by (fun _ k => XS.iconst X0.here hx rfl (hb hby d8_0) k) ?_
  refine own_by (fun _ k => XS.istoreN X0.here hx rfl (hb hby d8_1) rfl (l' := #[.val (.ref b), .val (.int (0 : Int32)), .val (.int (0 : Int32))]) rfl k) ?_
  refine own_by (fun _ k => XS.iloadN X0.here hx rfl (hb hby d8_2) rfl k) ?_
  refine own_by (fun _ k => XS.iconst X0.here hx rfl (hb hby d8_3) k) ?_
  refine own_by (fun _ k => XS.icmpYes X0.here hx rfl (pc0 := 4) (pc' := 17) rfl (hb hby d8_4) rfl (tlt (by decide : (0 : Int32) < (1 : Int32))).1 (by decide) (by decide) k) ?_
  refine own_by (fun _ k => XS.iloadN X0.here hx rfl (hb hby d8_17) rfl k) ?_
  refine own_by (fun _ k => XS.iconst X0.here hx rfl (hb hby d8_18) k) ?_
  refine own_by (fun _ k => XS.icmpYes X0.here hx rfl (pc0 := 19) (pc' := 32) rfl (hb hby d8_19) rfl (tlt (by decide : (0 : Int32) < (2 : Int32))).1 (by decide) (by decide) k) ?_
  show own_Go p e below _ s₁ (mkF m 32 #[.val (.ref b), .val (.int (0 : Int32)), .val (.int (0 : Int32))] [])
  refine own_by (fun _ k => XS.iloadN X0.here hx rfl (hb hby d8_32) rfl k) ?_
  refine own_by (fun _ k => XS.iconst X0.here hx rfl (hb hby d8_33) k) ?_
  refine own_by (fun _ k => XS.icmpYes X0.here hx rfl (pc0 := 34) (pc' := 47) rfl (hb hby d8_34) rfl (tlt (by decide : (0 : Int32) < (3 : Int32))).1 (by decide) (by decide) k) ?_
  refine own_by (fun _ k => XS.iloadN X0.here hx rfl (hb hby d8_47) rfl k) ?_
  exact own_retI X0 hx hlk hret  (hb hby d8_48) (by first | exact ⟨by simp only [own_count, own_one]; rfl, N0, rfl⟩ | (rw [e0]; exact ⟨by simp only [own_count, own_one]; rfl, N0, rfl⟩)) (by decide) (by decide)
def Q_rm7_0 (Z : State) (a sa b : Addr) (k1 k2 kb : ClassId) (u0 u1 u2 u3 x z : Int32) (y now t0 r : Int64) (h0 : Heap) (n0 : Nat) (v : Option Value) (h : Heap) (L : List Loc) : Prop := v = some (.int (own_model (0 : Int32) (own_count (0 : Int32) u1 u2 u3) (own_at u0 u1 u2 u3) now t0 r (own_wake now r (x, y, z))).1) ∧ Fr n0 L ∧ Keep h0 h [a, sa] ∧ Arv Z h a k1 .int (2 : Int32) [(.int (own_model (0 : Int32) (own_count (0 : Int32) u1 u2 u3) (own_at u0 u1 u2 u3) now t0 r (own_wake now r (x, y, z))).1), (.int (own_model (0 : Int32) (own_count (0 : Int32) u1 u2 u3) (own_at u0 u1 u2 u3) now t0 r (own_wake now r (x, y, z))).2.2)] (.int (0 : Int32)) ∧ Arv Z h sa k2 .long (1 : Int32) [(.long (own_model (0 : Int32) (own_count (0 : Int32) u1 u2 u3) (own_at u0 u1 u2 u3) now t0 r (own_wake now r (x, y, z))).2.1)] (.long (0 : Int64))
theorem pn_rm7_0 : plainFor (⟨"com/example/eskew/eskew/server/split/CounterValuesRestingPinLaw", "model", "([I[J[ZIJJJ)I"⟩ : MethodName) = true := plainFor_of_name (by first | (simp [plainName, overriddenIn, x]; done) | decide +kernel)
theorem d7_23 : decode method_7_code 23 = .ok (.aload_n 0, 1) := by decide +kernel
theorem d7_24 : decode method_7_code 24 = .ok (.iconst 0, 1) := by decide +kernel
theorem d7_25 : decode method_7_code 25 = .ok (.iaload, 1) := by decide +kernel
theorem d7_26 : decode method_7_code 26 = .ok (.iconst (-1), 1) := by decide +kernel
theorem d7_27 : decode method_7_code 27 = .ok (.if_icmp .ne 60, 3) := by decide +kernel
theorem d7_30 : decode method_7_code 30 = .ok (.aload_n 2, 1) := by decide +kernel
theorem d7_31 : decode method_7_code 31 = .ok (.iload_n 3, 1) := by decide +kernel
theorem pd_2 : parseMethodDescriptor "([ZI)I" = some ⟨[(.array .boolean), .int], some .int⟩ := by decide +kernel
theorem d7_32 : decode method_7_code 32 = .ok (.invokestatic 30, 3) := by decide +kernel
theorem d7_35 : decode method_7_code 35 = .ok (.iconst 1, 1) := by decide +kernel
theorem d7_36 : decode method_7_code 36 = .ok (.if_icmp .le 51, 3) := by decide +kernel
theorem d7_39 : decode method_7_code 39 = .ok (.lload 4, 2) := by decide +kernel
theorem d7_41 : decode method_7_code 41 = .ok (.lload 6, 2) := by decide +kernel
theorem d7_43 : decode method_7_code 43 = .ok (.lsub, 1) := by decide +kernel
theorem d7_44 : decode method_7_code 44 = .ok (.lload 8, 2) := by decide +kernel
theorem d7_46 : decode method_7_code 46 = .ok (.lcmp, 1) := by decide +kernel
theorem d7_47 : decode method_7_code 47 = .ok (.ifCond .lt 40, 3) := by decide +kernel
theorem d7_87 : decode method_7_code 87 = .ok (.aload_n 0, 1) := by decide +kernel
theorem d7_88 : decode method_7_code 88 = .ok (.iconst 0, 1) := by decide +kernel
theorem d7_89 : decode method_7_code 89 = .ok (.iaload, 1) := by decide +kernel
theorem d7_90 : decode method_7_code 90 = .ok (.ireturn, 1) := by decide +kernel
theorem d7_50 : decode method_7_code 50 = .ok (.aload_n 2, 1) := by decide +kernel
theorem d7_51 : decode method_7_code 51 = .ok (.iload_n 3, 1) := by decide +kernel
theorem d7_52 : decode method_7_code 52 = .ok (.aload_n 0, 1) := by decide +kernel
theorem d7_53 : decode method_7_code 53 = .ok (.iconst 1, 1) := by decide +kernel
theorem d7_54 : decode method_7_code 54 = .ok (.iaload, 1) := by decide +kernel
theorem d7_0 : decode method_7_code 0 = .ok (.aload_n 0, 1) := by decide +kernel
theorem d7_1 : decode method_7_code 1 = .ok (.iconst 0, 1) := by decide +kernel
theorem d7_2 : decode method_7_code 2 = .ok (.iaload, 1) := by decide +kernel
theorem d7_3 : decode method_7_code 3 = .ok (.iconst (-1), 1) := by decide +kernel
theorem d7_4 : decode method_7_code 4 = .ok (.if_icmp .eq 19, 3) := by decide +kernel
theorem d7_7 : decode method_7_code 7 = .ok (.lload 4, 2) := by decide +kernel
theorem d7_9 : decode method_7_code 9 = .ok (.aload_n 1, 1) := by decide +kernel
theorem d7_10 : decode method_7_code 10 = .ok (.iconst 0, 1) := by decide +kernel
theorem d7_11 : decode method_7_code 11 = .ok (.laload, 1) := by decide +kernel
theorem d7_12 : decode method_7_code 12 = .ok (.lsub, 1) := by decide +kernel
theorem d7_13 : decode method_7_code 13 = .ok (.lload 8, 2) := by decide +kernel
theorem d7_15 : decode method_7_code 15 = .ok (.lcmp, 1) := by decide +kernel
theorem d7_16 : decode method_7_code 16 = .ok (.ifCond .lt 7, 3) := by decide +kernel
theorem d7_19 : decode method_7_code 19 = .ok (.aload_n 0, 1) := by decide +kernel
theorem d7_20 : decode method_7_code 20 = .ok (.iconst 0, 1) := by decide +kernel
theorem d7_21 : decode method_7_code 21 = .ok (.iconst (-1), 1) := by decide +kernel
theorem d7_22 : decode method_7_code 22 = .ok (.iastore, 1) := by decide +kernel
set_option maxRecDepth 65536 in
set_option maxHeartbeats 40000000 in
theorem rm7_0 (l : Launch) (Z : State) (a0 : Array Value) (hw : ∀ d ∈ tables_1, d.before a0 Z = true) (ws : List Jvm.Cond) (a sa b : Addr) (k1 k2 kb : ClassId) (u0 u1 u2 u3 x z : Int32) (y now t0 r : Int64) (h0 : Heap) (n0 : Nat) (Z0 : n0 ≤ h0.size) (g1 : n0 ≤ a) (g2 : n0 ≤ sa) (n1 : a ≠ sa) (n2 : a ≠ b) (n3 : sa ≠ b) (hin : own_in (0 : Int32) z) (V1 : Arv Z h0 b kb .boolean (4 : Int32) [(.int u0), (.int u1), (.int u2), (.int u3)] (.int (0 : Int32))) (V2 : Arv Z h0 a k1 .int (2 : Int32) [(.int x), (.int z)] (.int (0 : Int32))) (V3 : Arv Z h0 sa k2 .long (1 : Int32) [(.long y)] (.long (0 : Int64))) :
    own_Met l Z (⟨"com/example/eskew/eskew/server/split/CounterValuesRestingPinLaw", "model", "([I[J[ZIJJJ)I"⟩ : MethodName) method_7_code 11 (some .int) ws ({ frames := 2, cells := 0, slots := 0, locals := 64 } : Room) #[(.ref a), (.ref sa), (.ref b), (.int (0 : Int32)), (.long now), (.long t0), (.long r)] h0 (Q_rm7_0 Z a sa b k1 k2 kb u0 u1 u2 u3 x z y now t0 r h0 n0) := by
  refine own_enter (g0 := fun m => (mkF m 0 #[.val (.ref a), .val (.ref sa), .val (.ref b), .val (.int (0 : Int32)), .val (.long now), .second, .val (.long t0), .second, .val (.long r), .second, .unset] [])) pn_rm7_0 (fun m => by first | (simp [entryFrame, mkF, argsToLocals, Value.category, maxLocals]; done) | rfl) ?_
  intro p e s m below meth c s₁ hx hby hml hown hnm hret hlk hZ X0 e0
  have hml : c.maxLocals = 11 := hml
  have hown : s.vm.findClass "com/example/eskew/eskew/server/split/CounterValuesRestingPinLaw" = some m.cls := hown
  have N0 := Fr.nil n0
  have K0 := Keep.refl h0 [a, sa]
  have J23 : ∀ (T482 : State) (L482 : List Loc) (h482 : Heap) (X482 : Stand p l e ({ frames := 2, cells := 0, slots := 0, locals := 64 } : Room) s m #[(.ref a), (.ref sa), (.ref b), (.int (0 : Int32)), (.long now), (.long t0), (.long r)] below meth c T482 L482 0 0) (e482 : T482.heap = h482) (N482 : Fr n0 L482) (Kj : Keep h0 h482 [a])  (x1 : Int32) (hw1 : (own_wake now r (x, y, z)) = (x1, y, z)) (Va : Arv Z h482 a k1 .int (2 : Int32) [(.int x1), (.int z)] (.int (0 : Int32))) (Vs : Arv Z h482 sa k2 .long (1 : Int32) [(.long y)] (.long (0 : Int64))) (Vb : Arv Z h482 b kb .boolean (4 : Int32) [(.int u0), (.int u1), (.int u2), (.int u3)] (.int (0 : Int32))), own_Go p e below (own_End s ({ frames := 2, cells := 0, slots := 0, locals := 64 } : Room).cells ({ frames := 2, cells := 0, slots := 0, locals := 64 } : Room).slots (Q_rm7_0 Z a sa b k1 k2 kb u0 u1 u2 u3 x z y now t0 r h0 n0)) T482 (mkF m 23 #[.val (.ref a), .val (.ref sa), .val (.ref b), .val (.int (0 : Int32)), .val (.long now), .second, .val (.long t0), .second, .val (.long r), .second, .unset] []) := by
    intro T482 L482 h482 X482 e482 N482 Kj x1 hw1 Va Vs Vb
    have Z482 : n0 ≤ h482.size := Nat.le_trans Z0 Kj.1
    have K482c := K0.trans Kj (allS (Or.inl (List.mem_of_getElem? (i := 0) rfl)) all0)
    refine own_by (fun _ k => XS.aloadN X482.here hx rfl (hb hby d7_23) rfl rfl k) ?_
    refine own_by (fun _ k => XS.iconst X482.here hx rfl (hb hby d7_24) k) ?_
    obtain ⟨cl483, Ar483, cq483, hin483, hat483, set483⟩ := own_arv Va (j := (0 : Int32)) ⟨by decide, by decide⟩
    refine own_by (fun _ k => X482.iaload hx (j := (0 : Int32)) (v := (.int x1)) (by rw [e482]; exact Ar483.1) (State.isArrayOf_alike hZ.alike Ar483.2.1) Ar483.2.2 hin483 hat483 (g := (mkF m 25 #[.val (.ref a), .val (.ref sa), .val (.ref b), .val (.int (0 : Int32)), .val (.long now), .second, .val (.long t0), .second, .val (.long r), .second, .unset] [(.int (0 : Int32)), (.ref a)])) rfl rfl (hb hby d7_25) _ k) ?_
    refine own_by (fun _ k => XS.iconst X482.here hx rfl (hb hby d7_26) k) ?_
    by_cases hx1 : x1 = (-1 : Int32)
    · refine own_by (fun _ k => XS.icmpNo X482.here hx rfl (hb hby d7_27) rfl (teq (hx1 : x1 = (-1 : Int32))).2 k) ?_
      refine own_by (fun _ k => XS.aloadN X482.here hx rfl (hb hby d7_30) rfl rfl k) ?_
      refine own_by (fun _ k => XS.iloadN X482.here hx rfl (hb hby d7_31) rfl k) ?_
      show own_Go p e below _ T482 (mkF m 32 #[.val (.ref a), .val (.ref sa), .val (.ref b), .val (.int (0 : Int32)), .val (.long now), .second, .val (.long t0), .second, .val (.long r), .second, .unset] [(.int (0 : Int32)), (.ref b)])
      obtain ⟨_, T484, L484, X484, ⟨rfl, N484q, e484⟩, st484⟩ := own_callS X482 hx hZ hown (y := (⟨"com/example/eskew/eskew/server/split/CounterValuesRestingPinLaw", "count", "([ZI)I"⟩ : MethodName)) (hw _ (List.mem_of_getElem? (i := 54) rfl)) (hw _ (List.mem_of_getElem? (i := 55) rfl)) (hw _ (List.mem_of_getElem? (i := 2) rfl)) (hw _ (List.mem_of_getElem? (i := 56) rfl)) (by decide) (argsL := [(.ref b), (.int (0 : Int32))]) (rest := []) e482 (rm8_0 l Z a0 hw [] b kb u0 u1 u2 u3 h482 n0 Z482 Vb) (g := (mkF m 32 #[.val (.ref a), .val (.ref sa), .val (.ref b), .val (.int (0 : Int32)), .val (.long now), .second, .val (.long t0), .second, .val (.long r), .second, .unset] [(.int (0 : Int32)), (.ref b)])) rfl (by rw [hml]; rfl) (lenOf pd_2 rfl) rfl (W := 0) (by show 2 * 0 + _ ≤ _; exact Nat.le_of_eq rfl) (hb hby d7_32) (by decide) (by decide) (by decide) (by decide)
      have N484 := Fr.app N482 N484q
      refine own_by st484 ?_
      refine own_by (fun _ k => XS.iconst X484.here hx rfl (hb hby d7_35) k) ?_
      by_cases hc1 : (1 : Int32) < (own_count (0 : Int32) u1 u2 u3)
      · refine own_by (fun _ k => XS.icmpNo X484.here hx rfl (hb hby d7_36) rfl (tlt (hc1 : (1 : Int32) < (own_count (0 : Int32) u1 u2 u3))).2.2.2 k) ?_
        refine own_by (fun _ k => XS.lload X484.here hx rfl (hb hby d7_39) rfl k) ?_
        refine own_by (fun _ k => XS.lload X484.here hx rfl (hb hby d7_41) rfl k) ?_
        refine own_by (fun _ k => XS.lsub X484.here hx rfl (hb hby d7_43) rfl k) ?_
        refine own_by (fun _ k => XS.lload X484.here hx rfl (hb hby d7_44) rfl k) ?_
        refine own_by (fun _ k => XS.lcmp X484.here hx rfl (hb hby d7_46) rfl k) ?_
        by_cases hl : now - t0 < r
        · refine own_by (fun _ k => XS.ifYes X484.here hx rfl (pc0 := 47) (pc' := 87) rfl (hb hby d7_47) rfl ((if0 _ _).trans (tlt ((lw_lt _ _).mpr hl : (lcmpW (now - t0) r) < (0 : Int32))).1) (by decide) (by decide) k) ?_
          show own_Go p e below _ T484 (mkF m 87 #[.val (.ref a), .val (.ref sa), .val (.ref b), .val (.int (0 : Int32)), .val (.long now), .second, .val (.long t0), .second, .val (.long r), .second, .unset] [])
          refine own_by (fun _ k => XS.aloadN X484.here hx rfl (hb hby d7_87) rfl rfl k) ?_
          refine own_by (fun _ k => XS.iconst X484.here hx rfl (hb hby d7_88) k) ?_
          obtain ⟨cl485, Ar485, cq485, hin485, hat485, set485⟩ := own_arv Va (j := (0 : Int32)) ⟨by decide, by decide⟩
          refine own_by (fun _ k => X484.iaload hx (j := (0 : Int32)) (v := (.int x1)) (by rw [e484]; exact Ar485.1) (State.isArrayOf_alike hZ.alike Ar485.2.1) Ar485.2.2 hin485 hat485 (g := (mkF m 89 #[.val (.ref a), .val (.ref sa), .val (.ref b), .val (.int (0 : Int32)), .val (.long now), .second, .val (.long t0), .second, .val (.long r), .second, .unset] [(.int (0 : Int32)), (.ref a)])) rfl rfl (hb hby d7_89) _ k) ?_
          have hres : (own_model (0 : Int32) (own_count (0 : Int32) u1 u2 u3) (own_at u0 u1 u2 u3) now t0 r (own_wake now r (x, y, z))) = (x1, y, z) := by rw [hw1]; simp only [own_model, if_pos hx1, if_pos hc1, if_pos hl]
          exact own_retI X484 hx hlk hret  (hb hby d7_90) (by first | exact ⟨by rw [hres], N484, K482c, by rw [hres]; exact Va, by rw [hres]; exact Vs⟩ | (rw [e484]; exact ⟨by rw [hres], N484, K482c, by rw [hres]; exact Va, by rw [hres]; exact Vs⟩)) (by decide) (by decide)
        · refine own_by (fun _ k => XS.ifNo X484.here hx rfl (hb hby d7_47) rfl ((if0 _ _).trans (flt (fun q => hl ((lw_lt _ _).mp q) : ¬ ((lcmpW (now - t0) r) < (0 : Int32)))).1) k) ?_
          show own_Go p e below _ T484 (mkF m 50 #[.val (.ref a), .val (.ref sa), .val (.ref b), .val (.int (0 : Int32)), .val (.long now), .second, .val (.long t0), .second, .val (.long r), .second, .unset] [])
          refine own_by (fun _ k => XS.aloadN X484.here hx rfl (hb hby d7_50) rfl rfl k) ?_
          refine own_by (fun _ k => XS.iloadN X484.here hx rfl (hb hby d7_51) rfl k) ?_
          refine own_by (fun _ k => XS.aloadN X484.here hx rfl (hb hby d7_52) rfl rfl k) ?_
          refine own_by (fun _ k => XS.iconst X484.here hx rfl (hb hby d7_53) k) ?_
          obtain ⟨cl486, Ar486, cq486, hin486, hat486, set486⟩ := own_arv Va (j := (1 : Int32)) ⟨by decide, by decide⟩
          refine own_by (fun _ k => X484.iaload hx (j := (1 : Int32)) (v := (.int z)) (by rw [e484]; exact Ar486.1) (State.isArrayOf_alike hZ.alike Ar486.2.1) Ar486.2.2 hin486 hat486 (g := (mkF m 54 #[.val (.ref a), .val (.ref sa), .val (.ref b), .val (.int (0 : Int32)), .val (.long now), .second, .val (.long t0), .second, .val (.long r), .second, .unset] [(.int (1 : Int32)), (.ref a), (.int (0 : Int32)), (.ref b)])) rfl rfl (hb hby d7_54) _ k) ?_
          rw [show own_count (0 : Int32) u1 u2 u3 = 0 from rfl] at hc1
          exact absurd hc1 (by decide)
      · refine own_by (fun _ k => XS.icmpYes X484.here hx rfl (pc0 := 36) (pc' := 87) rfl (hb hby d7_36) rfl (flt (hc1 : ¬ ((1 : Int32) < (own_count (0 : Int32) u1 u2 u3)))).2.2.2 (by decide) (by decide) k) ?_
        refine own_by (fun _ k => XS.aloadN X484.here hx rfl (hb hby d7_87) rfl rfl k) ?_
        refine own_by (fun _ k => XS.iconst X484.here hx rfl (hb hby d7_88) k) ?_
        obtain ⟨cl487, Ar487, cq487, hin487, hat487, set487⟩ := own_arv Va (j := (0 : Int32)) ⟨by decide, by decide⟩
        refine own_by (fun _ k => X484.iaload hx (j := (0 : Int32)) (v := (.int x1)) (by rw [e484]; exact Ar487.1) (State.isArrayOf_alike hZ.alike Ar487.2.1) Ar487.2.2 hin487 hat487 (g := (mkF m 89 #[.val (.ref a), .val (.ref sa), .val (.ref b), .val (.int (0 : Int32)), .val (.long now), .second, .val (.long t0), .second, .val (.long r), .second, .unset] [(.int (0 : Int32)), (.ref a)])) rfl rfl (hb hby d7_89) _ k) ?_
        have hres : (own_model (0 : Int32) (own_count (0 : Int32) u1 u2 u3) (own_at u0 u1 u2 u3) now t0 r (own_wake now r (x, y, z))) = (x1, y, z) := by rw [hw1]; simp only [own_model, if_pos hx1, if_neg hc1]
        exact own_retI X484 hx hlk hret  (hb hby d7_90) (by first | exact ⟨by rw [hres], N484, K482c, by rw [hres]; exact Va, by rw [hres]; exact Vs⟩ | (rw [e484]; exact ⟨by rw [hres], N484, K482c, by rw [hres]; exact Va, by rw [hres]; exact Vs⟩)) (by decide) (by decide)
    · refine own_by (fun _ k => XS.icmpYes X482.here hx rfl (pc0 := 27) (pc' := 87) rfl (hb hby d7_27) rfl (feq (hx1 : ¬ (x1 = (-1 : Int32)))).2 (by decide) (by decide) k) ?_
      refine own_by (fun _ k => XS.aloadN X482.here hx rfl (hb hby d7_87) rfl rfl k) ?_
      refine own_by (fun _ k => XS.iconst X482.here hx rfl (hb hby d7_88) k) ?_
      show own_Go p e below _ T482 (mkF m 89 #[.val (.ref a), .val (.ref sa), .val (.ref b), .val (.int (0 : Int32)), .val (.long now), .second, .val (.long t0), .second, .val (.long r), .second, .unset] [(.int (0 : Int32)), (.ref a)])
      obtain ⟨cl488, Ar488, cq488, hin488, hat488, set488⟩ := own_arv Va (j := (0 : Int32)) ⟨by decide, by decide⟩
      refine own_by (fun _ k => X482.iaload hx (j := (0 : Int32)) (v := (.int x1)) (by rw [e482]; exact Ar488.1) (State.isArrayOf_alike hZ.alike Ar488.2.1) Ar488.2.2 hin488 hat488 (g := (mkF m 89 #[.val (.ref a), .val (.ref sa), .val (.ref b), .val (.int (0 : Int32)), .val (.long now), .second, .val (.long t0), .second, .val (.long r), .second, .unset] [(.int (0 : Int32)), (.ref a)])) rfl rfl (hb hby d7_89) _ k) ?_
      have hres : (own_model (0 : Int32) (own_count (0 : Int32) u1 u2 u3) (own_at u0 u1 u2 u3) now t0 r (own_wake now r (x, y, z))) = (x1, y, z) := by rw [hw1]; simp only [own_model, if_neg hx1]
      exact own_retI X482 hx hlk hret  (hb hby d7_90) (by first | exact ⟨by rw [hres], N482, K482c, by rw [hres]; exact Va, by rw [hres]; exact Vs⟩ | (rw [e482]; exact ⟨by rw [hres], N482, K482c, by rw [hres]; exact Va, by rw [hres]; exact Vs⟩)) (by decide) (by decide)
  refine own_by (fun _ k => XS.aloadN X0.here hx rfl (hb hby d7_0) rfl rfl k) ?_
  refine own_by (fun _ k => XS.iconst X0.here hx rfl (hb hby d7_1) k) ?_
  obtain ⟨cl489, Ar489, cq489, hin489, hat489, set489⟩ := own_arv V2 (j := (0 : Int32)) ⟨by decide, by decide⟩
  refine own_by (fun _ k => X0.iaload hx (j := (0 : Int32)) (v := (.int x)) (by rw [e0]; exact Ar489.1) (State.isArrayOf_alike hZ.alike Ar489.2.1) Ar489.2.2 hin489 hat489 (g := (mkF m 2 #[.val (.ref a), .val (.ref sa), .val (.ref b), .val (.int (0 : Int32)), .val (.long now), .second, .val (.long t0), .second, .val (.long r), .second, .unset] [(.int (0 : Int32)), (.ref a)])) rfl rfl (hb hby d7_2) _ k) ?_
  refine own_by (fun _ k => XS.iconst X0.here hx rfl (hb hby d7_3) k) ?_
  by_cases hx0 : x = (-1 : Int32)
  · refine own_by (fun _ k => XS.icmpYes X0.here hx rfl (pc0 := 4) (pc' := 23) rfl (hb hby d7_4) rfl (teq (hx0 : x = (-1 : Int32))).1 (by decide) (by decide) k) ?_
    exact J23 s₁ _ h0 X0 e0 N0 (Keep.refl _ _) _ (by simp only [own_wake, if_pos hx0]) V2 V3 V1
  · refine own_by (fun _ k => XS.icmpNo X0.here hx rfl (hb hby d7_4) rfl (feq (hx0 : ¬ (x = (-1 : Int32)))).1 k) ?_
    refine own_by (fun _ k => XS.lload X0.here hx rfl (hb hby d7_7) rfl k) ?_
    refine own_by (fun _ k => XS.aloadN X0.here hx rfl (hb hby d7_9) rfl rfl k) ?_
    refine own_by (fun _ k => XS.iconst X0.here hx rfl (hb hby d7_10) k) ?_
    show own_Go p e below _ s₁ (mkF m 11 #[.val (.ref a), .val (.ref sa), .val (.ref b), .val (.int (0 : Int32)), .val (.long now), .second, .val (.long t0), .second, .val (.long r), .second, .unset] [(.int (0 : Int32)), (.ref sa), (.long now)])
    obtain ⟨cl490, Ar490, cq490, hin490, hat490, set490⟩ := own_arv V3 (j := (0 : Int32)) ⟨by decide, by decide⟩
    refine own_by (fun _ k => X0.laload hx (j := (0 : Int32)) (v := (.long y)) (by rw [e0]; exact Ar490.1) (State.isArrayOf_alike hZ.alike Ar490.2.1) Ar490.2.2 hin490 hat490 (g := (mkF m 11 #[.val (.ref a), .val (.ref sa), .val (.ref b), .val (.int (0 : Int32)), .val (.long now), .second, .val (.long t0), .second, .val (.long r), .second, .unset] [(.int (0 : Int32)), (.ref sa), (.long now)])) rfl rfl (hb hby d7_11) _ k) ?_
    refine own_by (fun _ k => XS.lsub X0.here hx rfl (hb hby d7_12) rfl k) ?_
    refine own_by (fun _ k => XS.lload X0.here hx rfl (hb hby d7_13) rfl k) ?_
    refine own_by (fun _ k => XS.lcmp X0.here hx rfl (hb hby d7_15) rfl k) ?_
    by_cases hl0 : now - y < r
    · refine own_by (fun _ k => XS.ifYes X0.here hx rfl (pc0 := 16) (pc' := 23) rfl (hb hby d7_16) rfl ((if0 _ _).trans (tlt ((lw_lt _ _).mpr hl0 : (lcmpW (now - y) r) < (0 : Int32))).1) (by decide) (by decide) k) ?_
      exact J23 s₁ _ h0 X0 e0 N0 (Keep.refl _ _) _ (by simp only [own_wake, if_neg hx0, if_pos hl0]) V2 V3 V1
    · refine own_by (fun _ k => XS.ifNo X0.here hx rfl (hb hby d7_16) rfl ((if0 _ _).trans (flt (fun q => hl0 ((lw_lt _ _).mp q) : ¬ ((lcmpW (now - y) r) < (0 : Int32)))).1) k) ?_
      refine own_by (fun _ k => XS.aloadN X0.here hx rfl (hb hby d7_19) rfl rfl k) ?_
      refine own_by (fun _ k => XS.iconst X0.here hx rfl (hb hby d7_20) k) ?_
      refine own_by (fun _ k => XS.iconst X0.here hx rfl (hb hby d7_21) k) ?_
      obtain ⟨cl491, Ar491, cq491, hin491, hat491, set491⟩ := own_arv V2 (j := (0 : Int32)) ⟨by decide, by decide⟩
      obtain ⟨T492, h492, X492, e492, W492, st492⟩ := stI X0 hx hZ e0 Ar491 (j := (0 : Int32)) hin491 (g := (mkF m 22 #[.val (.ref a), .val (.ref sa), .val (.ref b), .val (.int (0 : Int32)), .val (.long now), .second, .val (.long t0), .second, .val (.long r), .second, .unset] [(.int (-1 : Int32)), (.int (0 : Int32)), (.ref a)])) rfl rfl (hb hby d7_22)
      have V492 : Arv Z h492 a k1 .int (2 : Int32) [(.int (-1 : Int32)), (.int z)] (.int (0 : Int32)) := set491 rfl W492 0 rfl (Nat.le_of_ble_eq_true rfl)
      have N492 := Fr.snoc X492 N0 g1
      have K493 := K0.wr W492 (Or.inl (List.mem_of_getElem? (i := 0) rfl))
      have Z492 : n0 ≤ h492.size := Nat.le_trans Z0 (Keep.of_wr W492).1
      refine own_by st492 ?_
      show own_Go p e below _ T492 (mkF m 23 #[.val (.ref a), .val (.ref sa), .val (.ref b), .val (.int (0 : Int32)), .val (.long now), .second, .val (.long t0), .second, .val (.long r), .second, .unset] [])
      have f494 := (V3.other W492 (Ne.symm n1))
      have f495 := (V1.other W492 (Ne.symm n2))
      exact J23 T492 _ h492 X492 e492 N492 (Keep.of_wr W492) _ (by simp only [own_wake, if_neg hx0, if_neg hl0]) V492 f494 f495
def Q_rm6_0 (Z : State) (a1 b ta tl0 : Addr) (kb kt : ClassId) (u0 u1 u2 u3 x z : Int32) (y now t0 r : Int64) (h0 : Heap) (n0 : Nat) (v : Option Value) (h : Heap) (L : List Loc) : Prop := v = some (.int (own_rest (0 : Int32) (own_count (0 : Int32) u1 u2 u3) (own_at u0 u1 u2 u3) now t0 r 0 x y z).1) ∧ Fr n0 L ∧ Keep h0 h [a1] ∧ Exa Z h a1 "com/example/eskew/eskew/server/split/CounterValues" ∧ Fld Z h a1 "com/example/eskew/eskew/server/split/CounterValues" "resting" "I" (.int (own_rest (0 : Int32) (own_count (0 : Int32) u1 u2 u3) (own_at u0 u1 u2 u3) now t0 r 0 x y z).1) ∧ Fld Z h a1 "com/example/eskew/eskew/server/split/CounterValues" "restingSince" "J" (.long (own_rest (0 : Int32) (own_count (0 : Int32) u1 u2 u3) (own_at u0 u1 u2 u3) now t0 r 0 x y z).2.1) ∧ Fld Z h a1 "com/example/eskew/eskew/server/split/CounterValues" "nextToRest" "I" (.int (own_rest (0 : Int32) (own_count (0 : Int32) u1 u2 u3) (own_at u0 u1 u2 u3) now t0 r 0 x y z).2.2) ∧ Fld Z h a1 "com/example/eskew/eskew/server/split/CounterValues" "rereadNanos" "J" (.long r) ∧ Fld Z h a1 "com/example/eskew/eskew/server/split/CounterValues" "tallies" "[Lcom/example/eskew/eskew/server/split/CounterValues$Tally;" (.ref ta)
theorem pn_rm6_0 : plainFor (⟨"com/example/eskew/eskew/server/split/CounterValues", "resting", "([ZJ)I"⟩ : MethodName) = true := plainFor_of_name (by first | (simp [plainName, overriddenIn, x]; done) | decide +kernel)
theorem d6_27 : decode prog_33_method_14_code 27 = .ok (.aload_n 0, 1) := by decide +kernel
theorem d6_28 : decode prog_33_method_14_code 28 = .ok (.getfield 32, 3) := by decide +kernel
theorem d6_31 : decode prog_33_method_14_code 31 = .ok (.arraylength, 1) := by decide +kernel
theorem d6_32 : decode prog_33_method_14_code 32 = .ok (.iconst 1, 1) := by decide +kernel
theorem d6_33 : decode prog_33_method_14_code 33 = .ok (.isub, 1) := by decide +kernel
theorem d6_34 : decode prog_33_method_14_code 34 = .ok (.istore 4, 2) := by decide +kernel
theorem d6_36 : decode prog_33_method_14_code 36 = .ok (.iconst 0, 1) := by decide +kernel
theorem d6_37 : decode prog_33_method_14_code 37 = .ok (.istore 5, 2) := by decide +kernel
theorem d6_39 : decode prog_33_method_14_code 39 = .ok (.iconst 1, 1) := by decide +kernel
theorem d6_40 : decode prog_33_method_14_code 40 = .ok (.istore 6, 2) := by decide +kernel
theorem d6_42 : decode prog_33_method_14_code 42 = .ok (.iload 6, 2) := by decide +kernel
theorem d6_44 : decode prog_33_method_14_code 44 = .ok (.iload 4, 2) := by decide +kernel
theorem d6_46 : decode prog_33_method_14_code 46 = .ok (.if_icmp .gt 26, 3) := by decide +kernel
theorem d6_72 : decode prog_33_method_14_code 72 = .ok (.iconst 0, 1) := by decide +kernel
theorem d6_73 : decode prog_33_method_14_code 73 = .ok (.istore 6, 2) := by decide +kernel
theorem d6_75 : decode prog_33_method_14_code 75 = .ok (.aload_n 0, 1) := by decide +kernel
theorem d6_76 : decode prog_33_method_14_code 76 = .ok (.getfield 19, 3) := by decide +kernel
theorem d6_79 : decode prog_33_method_14_code 79 = .ok (.iconst (-1), 1) := by decide +kernel
theorem d6_80 : decode prog_33_method_14_code 80 = .ok (.if_icmp .ne 87, 3) := by decide +kernel
theorem d6_83 : decode prog_33_method_14_code 83 = .ok (.iload 5, 2) := by decide +kernel
theorem d6_85 : decode prog_33_method_14_code 85 = .ok (.iconst 1, 1) := by decide +kernel
theorem d6_86 : decode prog_33_method_14_code 86 = .ok (.if_icmp .le 81, 3) := by decide +kernel
theorem d6_89 : decode prog_33_method_14_code 89 = .ok (.iload 6, 2) := by decide +kernel
theorem d6_91 : decode prog_33_method_14_code 91 = .ok (.iload 4, 2) := by decide +kernel
theorem d6_93 : decode prog_33_method_14_code 93 = .ok (.if_icmp .ge 74, 3) := by decide +kernel
theorem d6_167 : decode prog_33_method_14_code 167 = .ok (.aload_n 0, 1) := by decide +kernel
theorem d6_168 : decode prog_33_method_14_code 168 = .ok (.getfield 19, 3) := by decide +kernel
theorem d6_171 : decode prog_33_method_14_code 171 = .ok (.ireturn, 1) := by decide +kernel
theorem d6_0 : decode prog_33_method_14_code 0 = .ok (.aload_n 0, 1) := by decide +kernel
theorem d6_1 : decode prog_33_method_14_code 1 = .ok (.getfield 19, 3) := by decide +kernel
theorem d6_4 : decode prog_33_method_14_code 4 = .ok (.iconst (-1), 1) := by decide +kernel
theorem d6_5 : decode prog_33_method_14_code 5 = .ok (.if_icmp .eq 22, 3) := by decide +kernel
theorem d6_8 : decode prog_33_method_14_code 8 = .ok (.lload_n 2, 1) := by decide +kernel
theorem d6_9 : decode prog_33_method_14_code 9 = .ok (.aload_n 0, 1) := by decide +kernel
theorem d6_10 : decode prog_33_method_14_code 10 = .ok (.getfield 137, 3) := by decide +kernel
theorem d6_13 : decode prog_33_method_14_code 13 = .ok (.lsub, 1) := by decide +kernel
theorem d6_14 : decode prog_33_method_14_code 14 = .ok (.aload_n 0, 1) := by decide +kernel
theorem d6_15 : decode prog_33_method_14_code 15 = .ok (.getfield 26, 3) := by decide +kernel
theorem d6_18 : decode prog_33_method_14_code 18 = .ok (.lcmp, 1) := by decide +kernel
theorem d6_19 : decode prog_33_method_14_code 19 = .ok (.ifCond .lt 8, 3) := by decide +kernel
theorem d6_22 : decode prog_33_method_14_code 22 = .ok (.aload_n 0, 1) := by decide +kernel
theorem d6_23 : decode prog_33_method_14_code 23 = .ok (.iconst (-1), 1) := by decide +kernel
theorem d6_24 : decode prog_33_method_14_code 24 = .ok (.putfield 19, 3) := by decide +kernel
set_option maxRecDepth 65536 in
set_option maxHeartbeats 40000000 in
theorem rm6_0 (l : Launch) (Z : State) (a0 : Array Value) (hw : ∀ d ∈ tables_1, d.before a0 Z = true) (ws : List Jvm.Cond) (a1 b ta tl0 : Addr) (kb kt : ClassId) (u0 u1 u2 u3 x z : Int32) (y now t0 r : Int64) (h0 : Heap) (n0 : Nat) (Z0 : n0 ≤ h0.size) (g1 : n0 ≤ a1) (hin : own_in (0 : Int32) z) (mb : a1 ≠ b) (mt : a1 ≠ ta) (m0 : a1 ≠ tl0) (E1 : Exa Z h0 a1 "com/example/eskew/eskew/server/split/CounterValues") (F_resting : Fld Z h0 a1 "com/example/eskew/eskew/server/split/CounterValues" "resting" "I" (.int x)) (F_restingSince : Fld Z h0 a1 "com/example/eskew/eskew/server/split/CounterValues" "restingSince" "J" (.long y)) (F_nextToRest : Fld Z h0 a1 "com/example/eskew/eskew/server/split/CounterValues" "nextToRest" "I" (.int z)) (F_rereadNanos : Fld Z h0 a1 "com/example/eskew/eskew/server/split/CounterValues" "rereadNanos" "J" (.long r)) (F_tallies : Fld Z h0 a1 "com/example/eskew/eskew/server/split/CounterValues" "tallies" "[Lcom/example/eskew/eskew/server/split/CounterValues$Tally;" (.ref ta)) (V1 : Arv Z h0 b kb .boolean (4 : Int32) [(.int u0), (.int u1), (.int u2), (.int u3)] (.int (0 : Int32))) (V2 : Arv Z h0 ta kt (.object "com/example/eskew/eskew/server/split/CounterValues$Tally") (1 : Int32) [(.ref tl0)] .null) (S0 : Fld Z h0 tl0 "com/example/eskew/eskew/server/split/CounterValues$Tally" "since" "J" (.long t0)) :
    own_Met l Z (⟨"com/example/eskew/eskew/server/split/CounterValues", "resting", "([ZJ)I"⟩ : MethodName) prog_33_method_14_code 8 (some .int) ws ({ frames := 0, cells := 0, slots := 0, locals := 0 } : Room) #[(.ref a1), (.ref b), (.long now)] h0 (Q_rm6_0 Z a1 b ta tl0 kb kt u0 u1 u2 u3 x z y now t0 r h0 n0) := by
  refine own_enter (g0 := fun m => (mkF m 0 #[.val (.ref a1), .val (.ref b), .val (.long now), .second, .unset, .unset, .unset, .unset] [])) pn_rm6_0 (fun m => by first | (simp [entryFrame, mkF, argsToLocals, Value.category, maxLocals]; done) | rfl) ?_
  intro p e s m below meth c s₁ hx hby hml hown hnm hret hlk hZ X0 e0
  have hml : c.maxLocals = 8 := hml
  have hown : s.vm.findClass "com/example/eskew/eskew/server/split/CounterValues" = some m.cls := hown
  have N0 := Fr.nil n0
  have K0 := Keep.refl h0 [a1]
  have J27 : ∀ (T496 : State) (L496 : List Loc) (h496 : Heap) (X496 : Stand p l e ({ frames := 0, cells := 0, slots := 0, locals := 0 } : Room) s m #[(.ref a1), (.ref b), (.long now)] below meth c T496 L496 0 0) (e496 : T496.heap = h496) (N496 : Fr n0 L496) (Kj : Keep h0 h496 [a1])  (x1 : Int32) (hw1 : (own_wake now r (x, y, z)) = (x1, y, z)) (Ej : Exa Z h496 a1 "com/example/eskew/eskew/server/split/CounterValues") (Fj0 : Fld Z h496 a1 "com/example/eskew/eskew/server/split/CounterValues" "resting" "I" (.int x1)) (Fj1 : Fld Z h496 a1 "com/example/eskew/eskew/server/split/CounterValues" "restingSince" "J" (.long y)) (Fj2 : Fld Z h496 a1 "com/example/eskew/eskew/server/split/CounterValues" "nextToRest" "I" (.int z)) (Fj3 : Fld Z h496 a1 "com/example/eskew/eskew/server/split/CounterValues" "rereadNanos" "J" (.long r)) (Fj4 : Fld Z h496 a1 "com/example/eskew/eskew/server/split/CounterValues" "tallies" "[Lcom/example/eskew/eskew/server/split/CounterValues$Tally;" (.ref ta)), own_Go p e below (own_End s ({ frames := 0, cells := 0, slots := 0, locals := 0 } : Room).cells ({ frames := 0, cells := 0, slots := 0, locals := 0 } : Room).slots (Q_rm6_0 Z a1 b ta tl0 kb kt u0 u1 u2 u3 x z y now t0 r h0 n0)) T496 (mkF m 27 #[.val (.ref a1), .val (.ref b), .val (.long now), .second, .unset, .unset, .unset, .unset] []) := by
    intro T496 L496 h496 X496 e496 N496 Kj x1 hw1 Ej Fj0 Fj1 Fj2 Fj3 Fj4
    have Z496 : n0 ≤ h496.size := Nat.le_trans Z0 Kj.1
    have K496c := K0.trans Kj (allS (Or.inl (List.mem_of_getElem? (i := 0) rfl)) all0)
    refine own_by (fun _ k => XS.aloadN X496.here hx rfl (hb hby d6_27) rfl rfl k) ?_
    obtain ⟨T497, X497, e497, st497⟩ := getF X496 hx hZ hown (host := "") (Or.inl (hw _ (List.mem_of_getElem? (i := 33) rfl))) Via.refl e496 Fj4 (g := (mkF m 28 #[.val (.ref a1), .val (.ref b), .val (.long now), .second, .unset, .unset, .unset, .unset] [(.ref a1)])) rfl rfl (hb hby d6_28)
    refine own_by st497 ?_
    have f499 := (V2.keep Kj (ninS (Ne.symm mt) nin0))
    obtain ⟨cl498, Ar498, len498⟩ := own_len f499
    refine own_by (T' := T497) (g' := (mkF m 32 #[.val (.ref a1), .val (.ref b), .val (.long now), .second, .unset, .unset, .unset, .unset] [(.int (1 : Int32))])) (fun _ k => X497.arraylength hx (by rw [e497]; exact Ar498.1) (State.isArrayOf_alike hZ.alike Ar498.2.1) (g := (mkF m 31 #[.val (.ref a1), .val (.ref b), .val (.long now), .second, .unset, .unset, .unset, .unset] [(.ref ta)])) rfl rfl (hb hby d6_31) _ (by rw [len498]; exact k)) ?_
    refine own_by (fun _ k => XS.iconst X497.here hx rfl (hb hby d6_32) k) ?_
    refine own_by (fun _ k => XS.isub X497.here hx rfl (hb hby d6_33) rfl k) ?_
    show own_Go p e below _ T497 (mkF m 34 #[.val (.ref a1), .val (.ref b), .val (.long now), .second, .unset, .unset, .unset, .unset] [(.int ((1 : Int32) - (1 : Int32)))])
    rw [show (1 : Int32) - (1 : Int32) = (0 : Int32) from by decide]
    refine own_by (fun _ k => XS.istore X497.here hx rfl (hb hby d6_34) rfl (l' := #[.val (.ref a1), .val (.ref b), .val (.long now), .second, .val (.int (0 : Int32)), .unset, .unset, .unset]) rfl k) ?_
    refine own_by (fun _ k => XS.iconst X497.here hx rfl (hb hby d6_36) k) ?_
    refine own_by (fun _ k => XS.istore X497.here hx rfl (hb hby d6_37) rfl (l' := #[.val (.ref a1), .val (.ref b), .val (.long now), .second, .val (.int (0 : Int32)), .val (.int (0 : Int32)), .unset, .unset]) rfl k) ?_
    refine own_by (fun _ k => XS.iconst X497.here hx rfl (hb hby d6_39) k) ?_
    refine own_by (fun _ k => XS.istore X497.here hx rfl (hb hby d6_40) rfl (l' := #[.val (.ref a1), .val (.ref b), .val (.long now), .second, .val (.int (0 : Int32)), .val (.int (0 : Int32)), .val (.int (1 : Int32)), .unset]) rfl k) ?_
    refine own_by (fun _ k => XS.iload X497.here hx rfl (hb hby d6_42) rfl k) ?_
    refine own_by (fun _ k => XS.iload X497.here hx rfl (hb hby d6_44) rfl k) ?_
    refine own_by (fun _ k => XS.icmpYes X497.here hx rfl (pc0 := 46) (pc' := 72) rfl (hb hby d6_46) rfl (tlt (by decide : (0 : Int32) < (1 : Int32))).2.2.1 (by decide) (by decide) k) ?_
    show own_Go p e below _ T497 (mkF m 72 #[.val (.ref a1), .val (.ref b), .val (.long now), .second, .val (.int (0 : Int32)), .val (.int (0 : Int32)), .val (.int (1 : Int32)), .unset] [])
    refine own_by (fun _ k => XS.iconst X497.here hx rfl (hb hby d6_72) k) ?_
    refine own_by (fun _ k => XS.istore X497.here hx rfl (hb hby d6_73) rfl (l' := #[.val (.ref a1), .val (.ref b), .val (.long now), .second, .val (.int (0 : Int32)), .val (.int (0 : Int32)), .val (.int (0 : Int32)), .unset]) rfl k) ?_
    have hc0 : (0 : Int32) = (own_count (0 : Int32) u1 u2 u3) := rfl
    have J75_0 : ∀ (T500 : State) (L500 : List Loc) (h500 : Heap) (X500 : Stand p l e ({ frames := 0, cells := 0, slots := 0, locals := 0 } : Room) s m #[(.ref a1), (.ref b), (.long now)] below meth c T500 L500 0 0) (e500 : T500.heap = h500) (N500 : Fr n0 L500) (Kh : Keep h496 h500 [a1])  (xx : Int32) (yy : Int64) (zz : Int32) (s7 : Slot) (h7 : One s7) (hz : own_in (0 : Int32) zz) (hS : (own_rest (0 : Int32) (own_count (0 : Int32) u1 u2 u3) (own_at u0 u1 u2 u3) now t0 r 0 x y z) = (own_loop (0 : Int32) (own_count (0 : Int32) u1 u2 u3) (own_at u0 u1 u2 u3) now t0 r 0 (0 : Int32) (xx, yy, zz))) (Ej : Exa Z h500 a1 "com/example/eskew/eskew/server/split/CounterValues") (Fj0 : Fld Z h500 a1 "com/example/eskew/eskew/server/split/CounterValues" "resting" "I" (.int xx)) (Fj1 : Fld Z h500 a1 "com/example/eskew/eskew/server/split/CounterValues" "restingSince" "J" (.long yy)) (Fj2 : Fld Z h500 a1 "com/example/eskew/eskew/server/split/CounterValues" "nextToRest" "I" (.int zz)) (Fj3 : Fld Z h500 a1 "com/example/eskew/eskew/server/split/CounterValues" "rereadNanos" "J" (.long r)) (Fj4 : Fld Z h500 a1 "com/example/eskew/eskew/server/split/CounterValues" "tallies" "[Lcom/example/eskew/eskew/server/split/CounterValues$Tally;" (.ref ta)), own_Go p e below (own_End s ({ frames := 0, cells := 0, slots := 0, locals := 0 } : Room).cells ({ frames := 0, cells := 0, slots := 0, locals := 0 } : Room).slots (Q_rm6_0 Z a1 b ta tl0 kb kt u0 u1 u2 u3 x z y now t0 r h0 n0)) T500 (mkF m 75 #[.val (.ref a1), .val (.ref b), .val (.long now), .second, .val (.int (0 : Int32)), .val (.int (0 : Int32)), .val (.int (0 : Int32)), s7] []) := by
      intro T500 L500 h500 X500 e500 N500 Kh xx yy zz s7 h7 hz hS Ej Fj0 Fj1 Fj2 Fj3 Fj4
      have Z500 : n0 ≤ h500.size := Nat.le_trans Z496 Kh.1
      have K500c := K496c.trans Kh (allS (Or.inl (List.mem_of_getElem? (i := 0) rfl)) all0)
      refine own_by (fun _ k => XS.aloadN X500.here hx rfl (hb hby d6_75) rfl rfl k) ?_
      obtain ⟨T501, X501, e501, st501⟩ := getF X500 hx hZ hown (host := "") (Or.inl (hw _ (List.mem_of_getElem? (i := 25) rfl))) Via.refl e500 Fj0 (g := (mkF m 76 #[.val (.ref a1), .val (.ref b), .val (.long now), .second, .val (.int (0 : Int32)), .val (.int (0 : Int32)), .val (.int (0 : Int32)), s7] [(.ref a1)])) rfl rfl (hb hby d6_76)
      refine own_by st501 ?_
      refine own_by (fun _ k => XS.iconst X501.here hx rfl (hb hby d6_79) k) ?_
      by_cases hxx : xx = (-1 : Int32)
      · refine own_by (fun _ k => XS.icmpNo X501.here hx rfl (hb hby d6_80) rfl (teq (hxx : xx = (-1 : Int32))).2 k) ?_
        refine own_by (fun _ k => XS.iload X501.here hx rfl (hb hby d6_83) rfl k) ?_
        refine own_by (fun _ k => XS.iconst X501.here hx rfl (hb hby d6_85) k) ?_
        show own_Go p e below _ T501 (mkF m 86 #[.val (.ref a1), .val (.ref b), .val (.long now), .second, .val (.int (0 : Int32)), .val (.int (0 : Int32)), .val (.int (0 : Int32)), s7] [(.int (1 : Int32)), (.int (0 : Int32))])
        by_cases hcc : (1 : Int32) < (0 : Int32)
        · refine own_by (fun _ k => XS.icmpNo X501.here hx rfl (hb hby d6_86) rfl (tlt (hcc : (1 : Int32) < (0 : Int32))).2.2.2 k) ?_
          refine own_by (fun _ k => XS.iload X501.here hx rfl (hb hby d6_89) rfl k) ?_
          refine own_by (fun _ k => XS.iload X501.here hx rfl (hb hby d6_91) rfl k) ?_
          refine own_by (fun _ k => XS.icmpYes X501.here hx rfl (pc0 := 93) (pc' := 167) rfl (hb hby d6_93) rfl (flt (by decide : ¬ ((0 : Int32) < (0 : Int32)))).2.1 (by decide) (by decide) k) ?_
          refine own_by (fun _ k => XS.aloadN X501.here hx rfl (hb hby d6_167) rfl rfl k) ?_
          obtain ⟨T502, X502, e502, st502⟩ := getF X501 hx hZ hown (host := "") (Or.inl (hw _ (List.mem_of_getElem? (i := 25) rfl))) Via.refl e501 Fj0 (g := (mkF m 168 #[.val (.ref a1), .val (.ref b), .val (.long now), .second, .val (.int (0 : Int32)), .val (.int (0 : Int32)), .val (.int (0 : Int32)), s7] [(.ref a1)])) rfl rfl (hb hby d6_168)
          refine own_by st502 ?_
          have hres : (own_rest (0 : Int32) (own_count (0 : Int32) u1 u2 u3) (own_at u0 u1 u2 u3) now t0 r 0 x y z) = (xx, yy, zz) := hS.trans (rfl)
          exact own_retI X502 hx hlk hret  (hb hby d6_171) (by first | exact ⟨by rw [hres], N500, K500c, Ej, by rw [hres]; exact Fj0, by rw [hres]; exact Fj1, by rw [hres]; exact Fj2, Fj3, Fj4⟩ | (rw [e502]; exact ⟨by rw [hres], N500, K500c, Ej, by rw [hres]; exact Fj0, by rw [hres]; exact Fj1, by rw [hres]; exact Fj2, Fj3, Fj4⟩)) (by decide) (by decide)
        · refine own_by (fun _ k => XS.icmpYes X501.here hx rfl (pc0 := 86) (pc' := 167) rfl (hb hby d6_86) rfl (flt (hcc : ¬ ((1 : Int32) < (0 : Int32)))).2.2.2 (by decide) (by decide) k) ?_
          refine own_by (fun _ k => XS.aloadN X501.here hx rfl (hb hby d6_167) rfl rfl k) ?_
          obtain ⟨T503, X503, e503, st503⟩ := getF X501 hx hZ hown (host := "") (Or.inl (hw _ (List.mem_of_getElem? (i := 25) rfl))) Via.refl e501 Fj0 (g := (mkF m 168 #[.val (.ref a1), .val (.ref b), .val (.long now), .second, .val (.int (0 : Int32)), .val (.int (0 : Int32)), .val (.int (0 : Int32)), s7] [(.ref a1)])) rfl rfl (hb hby d6_168)
          refine own_by st503 ?_
          have hres : (own_rest (0 : Int32) (own_count (0 : Int32) u1 u2 u3) (own_at u0 u1 u2 u3) now t0 r 0 x y z) = (xx, yy, zz) := hS.trans (rfl)
          exact own_retI X503 hx hlk hret  (hb hby d6_171) (by first | exact ⟨by rw [hres], N500, K500c, Ej, by rw [hres]; exact Fj0, by rw [hres]; exact Fj1, by rw [hres]; exact Fj2, Fj3, Fj4⟩ | (rw [e503]; exact ⟨by rw [hres], N500, K500c, Ej, by rw [hres]; exact Fj0, by rw [hres]; exact Fj1, by rw [hres]; exact Fj2, Fj3, Fj4⟩)) (by decide) (by decide)
      · refine own_by (fun _ k => XS.icmpYes X501.here hx rfl (pc0 := 80) (pc' := 167) rfl (hb hby d6_80) rfl (feq (hxx : ¬ (xx = (-1 : Int32)))).2 (by decide) (by decide) k) ?_
        refine own_by (fun _ k => XS.aloadN X501.here hx rfl (hb hby d6_167) rfl rfl k) ?_
        obtain ⟨T504, X504, e504, st504⟩ := getF X501 hx hZ hown (host := "") (Or.inl (hw _ (List.mem_of_getElem? (i := 25) rfl))) Via.refl e501 Fj0 (g := (mkF m 168 #[.val (.ref a1), .val (.ref b), .val (.long now), .second, .val (.int (0 : Int32)), .val (.int (0 : Int32)), .val (.int (0 : Int32)), s7] [(.ref a1)])) rfl rfl (hb hby d6_168)
        refine own_by st504 ?_
        show own_Go p e below _ T504 (mkF m 171 #[.val (.ref a1), .val (.ref b), .val (.long now), .second, .val (.int (0 : Int32)), .val (.int (0 : Int32)), .val (.int (0 : Int32)), s7] [(.int xx)])
        have hres : (own_rest (0 : Int32) (own_count (0 : Int32) u1 u2 u3) (own_at u0 u1 u2 u3) now t0 r 0 x y z) = (xx, yy, zz) := hS.trans (rfl)
        exact own_retI X504 hx hlk hret  (hb hby d6_171) (by first | exact ⟨by rw [hres], N500, K500c, Ej, by rw [hres]; exact Fj0, by rw [hres]; exact Fj1, by rw [hres]; exact Fj2, Fj3, Fj4⟩ | (rw [e504]; exact ⟨by rw [hres], N500, K500c, Ej, by rw [hres]; exact Fj0, by rw [hres]; exact Fj1, by rw [hres]; exact Fj2, Fj3, Fj4⟩)) (by decide) (by decide)
    exact J75_0 T497 _ h496 X497 e497 N496 (Keep.refl _ _) x1 y z _ One.u hin (by rw [own_rest, hw1]) Ej Fj0 Fj1 Fj2 Fj3 Fj4
  refine own_by (fun _ k => XS.aloadN X0.here hx rfl (hb hby d6_0) rfl rfl k) ?_
  obtain ⟨T505, X505, e505, st505⟩ := getF X0 hx hZ hown (host := "") (Or.inl (hw _ (List.mem_of_getElem? (i := 25) rfl))) Via.refl e0 F_resting (g := (mkF m 1 #[.val (.ref a1), .val (.ref b), .val (.long now), .second, .unset, .unset, .unset, .unset] [(.ref a1)])) rfl rfl (hb hby d6_1)
  refine own_by st505 ?_
  refine own_by (fun _ k => XS.iconst X505.here hx rfl (hb hby d6_4) k) ?_
  by_cases hx0 : x = (-1 : Int32)
  · refine own_by (fun _ k => XS.icmpYes X505.here hx rfl (pc0 := 5) (pc' := 27) rfl (hb hby d6_5) rfl (teq (hx0 : x = (-1 : Int32))).1 (by decide) (by decide) k) ?_
    exact J27 T505 _ h0 X505 e505 N0 (Keep.refl _ _) _ (by simp only [own_wake, if_pos hx0]) E1 F_resting F_restingSince F_nextToRest F_rereadNanos F_tallies
  · refine own_by (fun _ k => XS.icmpNo X505.here hx rfl (hb hby d6_5) rfl (feq (hx0 : ¬ (x = (-1 : Int32)))).1 k) ?_
    refine own_by (fun _ k => XS.lloadN X505.here hx rfl (hb hby d6_8) rfl k) ?_
    refine own_by (fun _ k => XS.aloadN X505.here hx rfl (hb hby d6_9) rfl rfl k) ?_
    obtain ⟨T506, X506, e506, st506⟩ := getF X505 hx hZ hown (host := "") (Or.inl (hw _ (List.mem_of_getElem? (i := 58) rfl))) Via.refl e505 F_restingSince (g := (mkF m 10 #[.val (.ref a1), .val (.ref b), .val (.long now), .second, .unset, .unset, .unset, .unset] [(.ref a1), (.long now)])) rfl rfl (hb hby d6_10)
    refine own_by st506 ?_
    refine own_by (fun _ k => XS.lsub X506.here hx rfl (hb hby d6_13) rfl k) ?_
    show own_Go p e below _ T506 (mkF m 14 #[.val (.ref a1), .val (.ref b), .val (.long now), .second, .unset, .unset, .unset, .unset] [(.long (now - y))])
    refine own_by (fun _ k => XS.aloadN X506.here hx rfl (hb hby d6_14) rfl rfl k) ?_
    obtain ⟨T507, X507, e507, st507⟩ := getF X506 hx hZ hown (host := "") (Or.inl (hw _ (List.mem_of_getElem? (i := 29) rfl))) Via.refl e506 F_rereadNanos (g := (mkF m 15 #[.val (.ref a1), .val (.ref b), .val (.long now), .second, .unset, .unset, .unset, .unset] [(.ref a1), (.long (now - y))])) rfl rfl (hb hby d6_15)
    refine own_by st507 ?_
    refine own_by (fun _ k => XS.lcmp X507.here hx rfl (hb hby d6_18) rfl k) ?_
    by_cases hl0 : now - y < r
    · refine own_by (fun _ k => XS.ifYes X507.here hx rfl (pc0 := 19) (pc' := 27) rfl (hb hby d6_19) rfl ((if0 _ _).trans (tlt ((lw_lt _ _).mpr hl0 : (lcmpW (now - y) r) < (0 : Int32))).1) (by decide) (by decide) k) ?_
      exact J27 T507 _ h0 X507 e507 N0 (Keep.refl _ _) _ (by simp only [own_wake, if_neg hx0, if_pos hl0]) E1 F_resting F_restingSince F_nextToRest F_rereadNanos F_tallies
    · refine own_by (fun _ k => XS.ifNo X507.here hx rfl (hb hby d6_19) rfl ((if0 _ _).trans (flt (fun q => hl0 ((lw_lt _ _).mp q) : ¬ ((lcmpW (now - y) r) < (0 : Int32)))).1) k) ?_
      refine own_by (fun _ k => XS.aloadN X507.here hx rfl (hb hby d6_22) rfl rfl k) ?_
      refine own_by (fun _ k => XS.iconst X507.here hx rfl (hb hby d6_23) k) ?_
      obtain ⟨T508, h508, X508, e508, W508, st508⟩ := putF X507 hx hZ hown (host := "") (Or.inl (hw _ (List.mem_of_getElem? (i := 25) rfl))) Via.refl e507 F_resting E1 (Or.inl (hw _ (List.mem_of_getElem? (i := 26) rfl))) (hw _ (List.mem_of_getElem? (i := 6) rfl)) (ty := .int) (by decide) rfl rfl (g := (mkF m 24 #[.val (.ref a1), .val (.ref b), .val (.long now), .second, .unset, .unset, .unset, .unset] [(.int (-1 : Int32)), (.ref a1)])) rfl rfl (hb hby d6_24)
      refine own_by st508 ?_
      have N508 := Fr.snoc X508 N0 g1
      have fw508 := F_resting.same W508
      have K509 := K0.wr W508 (Or.inl (List.mem_of_getElem? (i := 0) rfl))
      have Z508 : n0 ≤ h508.size := Nat.le_trans Z0 (Keep.of_wr W508).1
      have f510 := (E1.wr W508)
      have f511 := (F_restingSince.other W508 (Or.inr (slot_ne (Or.inl (hw _ (List.mem_of_getElem? (i := 59) rfl))) (Or.inl (hw _ (List.mem_of_getElem? (i := 26) rfl))) (by decide) (t := .long) (t' := .int) (by decide) (by decide))))
      have f512 := (F_nextToRest.other W508 (Or.inr (slot_ne (Or.inl (hw _ (List.mem_of_getElem? (i := 28) rfl))) (Or.inl (hw _ (List.mem_of_getElem? (i := 26) rfl))) (by decide) (t := .int) (t' := .int) (by decide) (by decide))))
      have f513 := (F_rereadNanos.other W508 (Or.inr (slot_ne (Or.inr (hw _ (List.mem_of_getElem? (i := 30) rfl))) (Or.inl (hw _ (List.mem_of_getElem? (i := 26) rfl))) (by decide) (t := .long) (t' := .int) (by decide) (by decide))))
      have f514 := (F_tallies.other W508 (Or.inr (slot_ne (Or.inr (hw _ (List.mem_of_getElem? (i := 34) rfl))) (Or.inl (hw _ (List.mem_of_getElem? (i := 26) rfl))) (by decide) (t := (.array (.object "com/example/eskew/eskew/server/split/CounterValues$Tally"))) (t' := .int) (by decide) (by decide))))
      exact J27 T508 _ h508 X508 e508 N508 (Keep.of_wr W508) _ (by simp only [own_wake, if_neg hx0, if_neg hl0]) f510 fw508 f511 f512 f513 f514
def Q_rm8_1 (Z : State) (b : Addr) (kb : ClassId) (u0 u1 u2 u3 : Int32) (h0 : Heap) (n0 : Nat) (v : Option Value) (h : Heap) (L : List Loc) : Prop := v = some (.int (own_count (1 : Int32) u1 u2 u3)) ∧ Fr n0 L ∧ h = h0
theorem pn_rm8_1 : plainFor (⟨"com/example/eskew/eskew/server/split/CounterValuesRestingPinLaw", "count", "([ZI)I"⟩ : MethodName) = true := plainFor_of_name (by first | (simp [plainName, overriddenIn, x]; done) | decide +kernel)
theorem d8_7 : decode method_4_code 7 = .ok (.aload_n 0, 1) := by decide +kernel
theorem d8_8 : decode method_4_code 8 = .ok (.iconst 1, 1) := by decide +kernel
theorem d8_9 : decode method_4_code 9 = .ok (.baload, 1) := by decide +kernel
theorem d8_10 : decode method_4_code 10 = .ok (.ifCond .eq 7, 3) := by decide +kernel
theorem d8_13 : decode method_4_code 13 = .ok (.iload_n 2, 1) := by decide +kernel
theorem d8_14 : decode method_4_code 14 = .ok (.iconst 1, 1) := by decide +kernel
theorem d8_15 : decode method_4_code 15 = .ok (.iadd, 1) := by decide +kernel
theorem d8_16 : decode method_4_code 16 = .ok (.istore_n 2, 1) := by decide +kernel
set_option maxRecDepth 65536 in
set_option maxHeartbeats 40000000 in
theorem rm8_1 (l : Launch) (Z : State) (a0 : Array Value) (hw : ∀ d ∈ tables_1, d.before a0 Z = true) (ws : List Jvm.Cond) (b : Addr) (kb : ClassId) (u0 u1 u2 u3 : Int32) (h0 : Heap) (n0 : Nat) (Z0 : n0 ≤ h0.size) (V1 : Arv Z h0 b kb .boolean (4 : Int32) [(.int u0), (.int u1), (.int u2), (.int u3)] (.int (0 : Int32))) :
    own_Met l Z (⟨"com/example/eskew/eskew/server/split/CounterValuesRestingPinLaw", "count", "([ZI)I"⟩ : MethodName) method_4_code 3 (some .int) ws ({ frames := 0, cells := 0, slots := 0, locals := 0 } : Room) #[(.ref b), (.int (1 : Int32))] h0 (Q_rm8_1 Z b kb u0 u1 u2 u3 h0 n0) := by
  refine own_enter (g0 := fun m => (mkF m 0 #[.val (.ref b), .val (.int (1 : Int32)), .unset] [])) pn_rm8_1 (fun m => by first | (simp [entryFrame, mkF, argsToLocals, Value.category, maxLocals]; done) | rfl) ?_
  intro p e s m below meth c s₁ hx hby hml hown hnm hret hlk hZ X0 e0
  have hml : c.maxLocals = 3 := hml
  have hown : s.vm.findClass "com/example/eskew/eskew/server/split/CounterValuesRestingPinLaw" = some m.cls := hown
  have N0 := Fr.nil n0
  refine own_by (fun _ k => XS.iconst X0.here hx rfl (hb hby d8_0) k) ?_
  refine own_by (fun _ k => XS.istoreN X0.here hx rfl (hb hby d8_1) rfl (l' := #[.val (.ref b), .val (.int (1 : Int32)), .val (.int (0 : Int32))]) rfl k) ?_
  refine own_by (fun _ k => XS.iloadN X0.here hx rfl (hb hby d8_2) rfl k) ?_
  refine own_by (fun _ k => XS.iconst X0.here hx rfl (hb hby d8_3) k) ?_
  refine own_by (fun _ k => XS.icmpNo X0.here hx rfl (hb hby d8_4) rfl (flt (by decide : ¬ ((1 : Int32) < (1 : Int32)))).1 k) ?_
  refine own_by (fun _ k => XS.aloadN X0.here hx rfl (hb hby d8_7) rfl rfl k) ?_
  refine own_by (fun _ k => XS.iconst X0.here hx rfl (hb hby d8_8) k) ?_
  obtain ⟨cl515, Ar515, cq515, hin515, hat515, set515⟩ := own_arv V1 (j := (1 : Int32)) ⟨by decide, by decide⟩
  refine own_by (fun _ k => X0.baloadBooleans hx (j := (1 : Int32)) (v := (.int u1)) (by rw [e0]; exact Ar515.1) (State.isArrayOf_alike hZ.alike Ar515.2.1) Ar515.2.2 hin515 hat515 (g := (mkF m 9 #[.val (.ref b), .val (.int (1 : Int32)), .val (.int (0 : Int32))] [(.int (1 : Int32)), (.ref b)])) rfl rfl (hb hby d8_9) _ k) ?_
  show own_Go p e below _ s₁ (mkF m 10 #[.val (.ref b), .val (.int (1 : Int32)), .val (.int (0 : Int32))] [(.int u1)])
  by_cases z1 : u1 = (0 : Int32)
  · refine own_by (fun _ k => XS.ifYes X0.here hx rfl (pc0 := 10) (pc' := 17) rfl (hb hby d8_10) rfl ((if0 _ _).trans (teq (z1 : u1 = (0 : Int32))).1) (by decide) (by decide) k) ?_
    refine own_by (fun _ k => XS.iloadN X0.here hx rfl (hb hby d8_17) rfl k) ?_
    refine own_by (fun _ k => XS.iconst X0.here hx rfl (hb hby d8_18) k) ?_
    refine own_by (fun _ k => XS.icmpYes X0.here hx rfl (pc0 := 19) (pc' := 32) rfl (hb hby d8_19) rfl (tlt (by decide : (1 : Int32) < (2 : Int32))).1 (by decide) (by decide) k) ?_
    refine own_by (fun _ k => XS.iloadN X0.here hx rfl (hb hby d8_32) rfl k) ?_
    refine own_by (fun _ k => XS.iconst X0.here hx rfl (hb hby d8_33) k) ?_
    refine own_by (fun _ k => XS.icmpYes X0.here hx rfl (pc0 := 34) (pc' := 47) rfl (hb hby d8_34) rfl (tlt (by decide : (1 : Int32) < (3 : Int32))).1 (by decide) (by decide) k) ?_
    refine own_by (fun _ k => XS.iloadN X0.here hx rfl (hb hby d8_47) rfl k) ?_
    exact own_retI X0 hx hlk hret  (hb hby d8_48) (by first | exact ⟨by simp only [own_count, own_one, if_pos z1]; rfl, N0, rfl⟩ | (rw [e0]; exact ⟨by simp only [own_count, own_one, if_pos z1]; rfl, N0, rfl⟩)) (by decide) (by decide)
  · refine own_by (fun _ k => XS.ifNo X0.here hx rfl (hb hby d8_10) rfl ((if0 _ _).trans (feq (z1 : ¬ (u1 = (0 : Int32)))).1) k) ?_
    refine own_by (fun _ k => XS.iloadN X0.here hx rfl (hb hby d8_13) rfl k) ?_
    refine own_by (fun _ k => XS.iconst X0.here hx rfl (hb hby d8_14) k) ?_
    refine own_by (fun _ k => XS.iadd X0.here hx rfl (hb hby d8_15) rfl k) ?_
    refine own_by (fun _ k => XS.istoreN X0.here hx rfl (hb hby d8_16) rfl (l' := #[.val (.ref b), .val (.int (1 : Int32)), .val (.int ((0 : Int32) + (1 : Int32)))]) rfl k) ?_
    show own_Go p e below _ s₁ (mkF m 17 #[.val (.ref b), .val (.int (1 : Int32)), .val (.int ((0 : Int32) + (1 : Int32)))] [])
    rw [show (0 : Int32) + (1 : Int32) = (1 : Int32) from by decide]
    refine own_by (fun _ k => XS.iloadN X0.here hx rfl (hb hby d8_17) rfl k) ?_
    refine own_by (fun _ k => XS.iconst X0.here hx rfl (hb hby d8_18) k) ?_
    refine own_by (fun _ k => XS.icmpYes X0.here hx rfl (pc0 := 19) (pc' := 32) rfl (hb hby d8_19) rfl (tlt (by decide : (1 : Int32) < (2 : Int32))).1 (by decide) (by decide) k) ?_
    refine own_by (fun _ k => XS.iloadN X0.here hx rfl (hb hby d8_32) rfl k) ?_
    refine own_by (fun _ k => XS.iconst X0.here hx rfl (hb hby d8_33) k) ?_
    refine own_by (fun _ k => XS.icmpYes X0.here hx rfl (pc0 := 34) (pc' := 47) rfl (hb hby d8_34) rfl (tlt (by decide : (1 : Int32) < (3 : Int32))).1 (by decide) (by decide) k) ?_
    refine own_by (fun _ k => XS.iloadN X0.here hx rfl (hb hby d8_47) rfl k) ?_
    exact own_retI X0 hx hlk hret  (hb hby d8_48) (by first | exact ⟨by simp only [own_count, own_one, if_neg z1]; rfl, N0, rfl⟩ | (rw [e0]; exact ⟨by simp only [own_count, own_one, if_neg z1]; rfl, N0, rfl⟩)) (by decide) (by decide)
def Q_rm9_1 (Z : State) (b : Addr) (kb : ClassId) (u0 u1 u2 u3 x : Int32) (h0 : Heap) (n0 : Nat) (v : Option Value) (h : Heap) (L : List Loc) : Prop := v = some (.int (own_first (1 : Int32) (own_at u0 u1 u2 u3) x)) ∧ Fr n0 L ∧ h = h0
theorem pn_rm9_1 : plainFor (⟨"com/example/eskew/eskew/server/split/CounterValuesRestingPinLaw", "first", "([ZII)I"⟩ : MethodName) = true := plainFor_of_name (by first | (simp [plainName, overriddenIn, x]; done) | decide +kernel)
theorem d9_0 : decode method_6_code 0 = .ok (.iload_n 1, 1) := by decide +kernel
theorem d9_1 : decode method_6_code 1 = .ok (.iconst 1, 1) := by decide +kernel
theorem d9_2 : decode method_6_code 2 = .ok (.if_icmp .lt 19, 3) := by decide +kernel
theorem d9_5 : decode method_6_code 5 = .ok (.aload_n 0, 1) := by decide +kernel
theorem d9_6 : decode method_6_code 6 = .ok (.iload_n 2, 1) := by decide +kernel
theorem d9_7 : decode method_6_code 7 = .ok (.iload_n 1, 1) := by decide +kernel
theorem pd_3 : parseMethodDescriptor "(II)I" = some ⟨[.int, .int], some .int⟩ := by decide +kernel
theorem d9_8 : decode method_6_code 8 = .ok (.invokestatic 26, 3) := by decide +kernel
theorem d9_11 : decode method_6_code 11 = .ok (.baload, 1) := by decide +kernel
theorem d9_12 : decode method_6_code 12 = .ok (.ifCond .eq 9, 3) := by decide +kernel
theorem d9_21 : decode method_6_code 21 = .ok (.iload_n 1, 1) := by decide +kernel
theorem d9_22 : decode method_6_code 22 = .ok (.iconst 2, 1) := by decide +kernel
theorem d9_23 : decode method_6_code 23 = .ok (.if_icmp .lt 23, 3) := by decide +kernel
theorem d9_46 : decode method_6_code 46 = .ok (.iload_n 1, 1) := by decide +kernel
theorem d9_47 : decode method_6_code 47 = .ok (.iconst 3, 1) := by decide +kernel
theorem d9_48 : decode method_6_code 48 = .ok (.if_icmp .lt 23, 3) := by decide +kernel
theorem d9_71 : decode method_6_code 71 = .ok (.iconst (-1), 1) := by decide +kernel
theorem d9_72 : decode method_6_code 72 = .ok (.ireturn, 1) := by decide +kernel
theorem d9_15 : decode method_6_code 15 = .ok (.iload_n 2, 1) := by decide +kernel
theorem d9_16 : decode method_6_code 16 = .ok (.iload_n 1, 1) := by decide +kernel
theorem d9_17 : decode method_6_code 17 = .ok (.invokestatic 26, 3) := by decide +kernel
theorem d9_20 : decode method_6_code 20 = .ok (.ireturn, 1) := by decide +kernel
set_option maxRecDepth 65536 in
set_option maxHeartbeats 40000000 in
theorem rm9_1 (l : Launch) (Z : State) (a0 : Array Value) (hw : ∀ d ∈ tables_1, d.before a0 Z = true) (ws : List Jvm.Cond) (b : Addr) (kb : ClassId) (u0 u1 u2 u3 x : Int32) (h0 : Heap) (n0 : Nat) (Z0 : n0 ≤ h0.size) (hin : own_in (1 : Int32) x) (V1 : Arv Z h0 b kb .boolean (4 : Int32) [(.int u0), (.int u1), (.int u2), (.int u3)] (.int (0 : Int32))) :
    own_Met l Z (⟨"com/example/eskew/eskew/server/split/CounterValuesRestingPinLaw", "first", "([ZII)I"⟩ : MethodName) method_6_code 3 (some .int) ws ({ frames := 1, cells := 0, slots := 0, locals := 32 } : Room) #[(.ref b), (.int (1 : Int32)), (.int x)] h0 (Q_rm9_1 Z b kb u0 u1 u2 u3 x h0 n0) := by
  refine own_enter (g0 := fun m => (mkF m 0 #[.val (.ref b), .val (.int (1 : Int32)), .val (.int x)] [])) pn_rm9_1 (fun m => by first | (simp [entryFrame, mkF, argsToLocals, Value.category, maxLocals]; done) | rfl) ?_
  intro p e s m below meth c s₁ hx hby hml hown hnm hret hlk hZ X0 e0
  have hml : c.maxLocals = 3 := hml
  have hown : s.vm.findClass "com/example/eskew/eskew/server/split/CounterValuesRestingPinLaw" = some m.cls := hown
  have N0 := Fr.nil n0
  have hnn : (1 : Int32) = 1 ∨ (1 : Int32) = 2 ∨ (1 : Int32) = 3 := by decide
  obtain ⟨r0, r1, r2⟩ := own_wr (1 : Int32) x hin hnn
  refine own_by (fun _ k => XS.iloadN X0.here hx rfl (hb hby d9_0) rfl k) ?_
  refine own_by (fun _ k => XS.iconst X0.here hx rfl (hb hby d9_1) k) ?_
  refine own_by (fun _ k => XS.icmpNo X0.here hx rfl (hb hby d9_2) rfl (flt (by decide : ¬ ((1 : Int32) < (1 : Int32)))).1 k) ?_
  refine own_by (fun _ k => XS.aloadN X0.here hx rfl (hb hby d9_5) rfl rfl k) ?_
  refine own_by (fun _ k => XS.iloadN X0.here hx rfl (hb hby d9_6) rfl k) ?_
  refine own_by (fun _ k => XS.iloadN X0.here hx rfl (hb hby d9_7) rfl k) ?_
  obtain ⟨_, T516, L516, X516, ⟨rfl, N516q, e516⟩, st516⟩ := own_callS X0 hx hZ hown (y := (⟨"com/example/eskew/eskew/server/split/CounterValuesRestingPinLaw", "wrap", "(II)I"⟩ : MethodName)) (hw _ (List.mem_of_getElem? (i := 63) rfl)) (hw _ (List.mem_of_getElem? (i := 64) rfl)) (hw _ (List.mem_of_getElem? (i := 2) rfl)) (hw _ (List.mem_of_getElem? (i := 65) rfl)) (by decide) (argsL := [(.int x), (.int (1 : Int32))]) (rest := [(.ref b)]) e0 (rm10 l Z a0 hw [] x (1 : Int32) h0 n0 Z0) (g := (mkF m 8 #[.val (.ref b), .val (.int (1 : Int32)), .val (.int x)] [(.int (1 : Int32)), (.int x), (.ref b)])) rfl (by rw [hml]; rfl) (lenOf pd_3 rfl) rfl (W := 1) (by show 2 * 0 + _ ≤ _; exact Nat.le_of_eq rfl) (hb hby d9_8) (by decide) (by decide) (by decide) (by decide)
  have N516 := Fr.app N0 N516q
  refine own_by st516 ?_
  obtain ⟨cl517, Ar517, cq517, hin517, hat517, set517⟩ := own_arv V1 (j := (own_wrap x (1 : Int32))) r0
  refine own_by (fun _ k => X516.baloadBooleans hx (j := (own_wrap x (1 : Int32))) (v := (.int ((own_at u0 u1 u2 u3) (own_wrap x (1 : Int32))))) (by rw [e516]; exact Ar517.1) (State.isArrayOf_alike hZ.alike Ar517.2.1) Ar517.2.2 hin517 (by rw [hat517]; exact congrArg some (own_get _ r0)) (g := (mkF m 11 #[.val (.ref b), .val (.int (1 : Int32)), .val (.int x)] [(.int (own_wrap x (1 : Int32))), (.ref b)])) rfl rfl (hb hby d9_11) _ k) ?_
  show own_Go p e below _ T516 (mkF m 12 #[.val (.ref b), .val (.int (1 : Int32)), .val (.int x)] [(.int ((own_at u0 u1 u2 u3) (own_wrap x (1 : Int32))))])
  by_cases z0 : ((own_at u0 u1 u2 u3) (own_wrap x (1 : Int32))) = (0 : Int32)
  · refine own_by (fun _ k => XS.ifYes X516.here hx rfl (pc0 := 12) (pc' := 21) rfl (hb hby d9_12) rfl ((if0 _ _).trans (teq (z0 : ((own_at u0 u1 u2 u3) (own_wrap x (1 : Int32))) = (0 : Int32))).1) (by decide) (by decide) k) ?_
    refine own_by (fun _ k => XS.iloadN X516.here hx rfl (hb hby d9_21) rfl k) ?_
    refine own_by (fun _ k => XS.iconst X516.here hx rfl (hb hby d9_22) k) ?_
    refine own_by (fun _ k => XS.icmpYes X516.here hx rfl (pc0 := 23) (pc' := 46) rfl (hb hby d9_23) rfl (tlt (by decide : (1 : Int32) < (2 : Int32))).1 (by decide) (by decide) k) ?_
    refine own_by (fun _ k => XS.iloadN X516.here hx rfl (hb hby d9_46) rfl k) ?_
    refine own_by (fun _ k => XS.iconst X516.here hx rfl (hb hby d9_47) k) ?_
    refine own_by (fun _ k => XS.icmpYes X516.here hx rfl (pc0 := 48) (pc' := 71) rfl (hb hby d9_48) rfl (tlt (by decide : (1 : Int32) < (3 : Int32))).1 (by decide) (by decide) k) ?_
    refine own_by (fun _ k => XS.iconst X516.here hx rfl (hb hby d9_71) k) ?_
    exact own_retI X516 hx hlk hret  (hb hby d9_72) (by first | exact ⟨by simp only [own_first, if_pos (Or.inr z0 : (1 : Int32) < (1 : Int32) ∨ ((own_at u0 u1 u2 u3) (own_wrap x (1 : Int32))) = 0), if_pos (Or.inl (by decide : (1 : Int32) < (2 : Int32))), if_pos (Or.inl (by decide : (1 : Int32) < (3 : Int32)))]; rfl, N516, rfl⟩ | (rw [e516]; exact ⟨by simp only [own_first, if_pos (Or.inr z0 : (1 : Int32) < (1 : Int32) ∨ ((own_at u0 u1 u2 u3) (own_wrap x (1 : Int32))) = 0), if_pos (Or.inl (by decide : (1 : Int32) < (2 : Int32))), if_pos (Or.inl (by decide : (1 : Int32) < (3 : Int32)))]; rfl, N516, rfl⟩)) (by decide) (by decide)
  · refine own_by (fun _ k => XS.ifNo X516.here hx rfl (hb hby d9_12) rfl ((if0 _ _).trans (feq (z0 : ¬ (((own_at u0 u1 u2 u3) (own_wrap x (1 : Int32))) = (0 : Int32)))).1) k) ?_
    refine own_by (fun _ k => XS.iloadN X516.here hx rfl (hb hby d9_15) rfl k) ?_
    refine own_by (fun _ k => XS.iloadN X516.here hx rfl (hb hby d9_16) rfl k) ?_
    obtain ⟨_, T518, L518, X518, ⟨rfl, N518q, e518⟩, st518⟩ := own_callS X516 hx hZ hown (y := (⟨"com/example/eskew/eskew/server/split/CounterValuesRestingPinLaw", "wrap", "(II)I"⟩ : MethodName)) (hw _ (List.mem_of_getElem? (i := 63) rfl)) (hw _ (List.mem_of_getElem? (i := 64) rfl)) (hw _ (List.mem_of_getElem? (i := 2) rfl)) (hw _ (List.mem_of_getElem? (i := 65) rfl)) (by decide) (argsL := [(.int x), (.int (1 : Int32))]) (rest := []) e516 (rm10 l Z a0 hw [] x (1 : Int32) h0 n0 Z0) (g := (mkF m 17 #[.val (.ref b), .val (.int (1 : Int32)), .val (.int x)] [(.int (1 : Int32)), (.int x)])) rfl (by rw [hml]; rfl) (lenOf pd_3 rfl) rfl (W := 0) (by show 2 * 0 + _ ≤ _; exact Nat.le_of_eq rfl) (hb hby d9_17) (by decide) (by decide) (by decide) (by decide)
    have N518 := Fr.app N516 N518q
    refine own_by st518 ?_
    exact own_retI X518 hx hlk hret  (hb hby d9_20) (by first | exact ⟨by simp only [own_first, if_neg (show ¬ ((1 : Int32) < (1 : Int32) ∨ ((own_at u0 u1 u2 u3) (own_wrap x (1 : Int32))) = 0) from fun q => q.elim (by decide) z0)], N518, rfl⟩ | (rw [e518]; exact ⟨by simp only [own_first, if_neg (show ¬ ((1 : Int32) < (1 : Int32) ∨ ((own_at u0 u1 u2 u3) (own_wrap x (1 : Int32))) = 0) from fun q => q.elim (by decide) z0)], N518, rfl⟩)) (by decide) (by decide)
def Q_rm7_1 (Z : State) (a sa b : Addr) (k1 k2 kb : ClassId) (u0 u1 u2 u3 x z : Int32) (y now t0 r : Int64) (h0 : Heap) (n0 : Nat) (v : Option Value) (h : Heap) (L : List Loc) : Prop := v = some (.int (own_model (1 : Int32) (own_count (1 : Int32) u1 u2 u3) (own_at u0 u1 u2 u3) now t0 r (own_wake now r (x, y, z))).1) ∧ Fr n0 L ∧ Keep h0 h [a, sa] ∧ Arv Z h a k1 .int (2 : Int32) [(.int (own_model (1 : Int32) (own_count (1 : Int32) u1 u2 u3) (own_at u0 u1 u2 u3) now t0 r (own_wake now r (x, y, z))).1), (.int (own_model (1 : Int32) (own_count (1 : Int32) u1 u2 u3) (own_at u0 u1 u2 u3) now t0 r (own_wake now r (x, y, z))).2.2)] (.int (0 : Int32)) ∧ Arv Z h sa k2 .long (1 : Int32) [(.long (own_model (1 : Int32) (own_count (1 : Int32) u1 u2 u3) (own_at u0 u1 u2 u3) now t0 r (own_wake now r (x, y, z))).2.1)] (.long (0 : Int64))
theorem pn_rm7_1 : plainFor (⟨"com/example/eskew/eskew/server/split/CounterValuesRestingPinLaw", "model", "([I[J[ZIJJJ)I"⟩ : MethodName) = true := plainFor_of_name (by first | (simp [plainName, overriddenIn, x]; done) | decide +kernel)
theorem pd_4 : parseMethodDescriptor "([ZII)I" = some ⟨[(.array .boolean), .int, .int], some .int⟩ := by decide +kernel
theorem d7_55 : decode method_7_code 55 = .ok (.invokestatic 34, 3) := by decide +kernel
theorem d7_58 : decode method_7_code 58 = .ok (.istore 10, 2) := by decide +kernel
theorem d7_60 : decode method_7_code 60 = .ok (.aload_n 0, 1) := by decide +kernel
theorem d7_61 : decode method_7_code 61 = .ok (.iconst 0, 1) := by decide +kernel
theorem d7_62 : decode method_7_code 62 = .ok (.iload 10, 2) := by decide +kernel
theorem d7_64 : decode method_7_code 64 = .ok (.iastore, 1) := by decide +kernel
theorem d7_65 : decode method_7_code 65 = .ok (.aload_n 1, 1) := by decide +kernel
theorem d7_66 : decode method_7_code 66 = .ok (.iconst 0, 1) := by decide +kernel
theorem d7_67 : decode method_7_code 67 = .ok (.lload 4, 2) := by decide +kernel
theorem d7_69 : decode method_7_code 69 = .ok (.lastore, 1) := by decide +kernel
theorem d7_70 : decode method_7_code 70 = .ok (.aload_n 0, 1) := by decide +kernel
theorem d7_71 : decode method_7_code 71 = .ok (.iconst 1, 1) := by decide +kernel
theorem d7_72 : decode method_7_code 72 = .ok (.iload 10, 2) := by decide +kernel
theorem d7_74 : decode method_7_code 74 = .ok (.iload_n 3, 1) := by decide +kernel
theorem d7_86 : decode method_7_code 86 = .ok (.iastore, 1) := by decide +kernel
theorem d7_75 : decode method_7_code 75 = .ok (.if_icmp .ne 7, 3) := by decide +kernel
theorem d7_78 : decode method_7_code 78 = .ok (.iconst 1, 1) := by decide +kernel
theorem d7_79 : decode method_7_code 79 = .ok (.goto 7, 3) := by decide +kernel
theorem d7_82 : decode method_7_code 82 = .ok (.iload 10, 2) := by decide +kernel
theorem d7_84 : decode method_7_code 84 = .ok (.iconst 1, 1) := by decide +kernel
theorem d7_85 : decode method_7_code 85 = .ok (.iadd, 1) := by decide +kernel
set_option maxRecDepth 65536 in
set_option maxHeartbeats 40000000 in
theorem rm7_1 (l : Launch) (Z : State) (a0 : Array Value) (hw : ∀ d ∈ tables_1, d.before a0 Z = true) (ws : List Jvm.Cond) (a sa b : Addr) (k1 k2 kb : ClassId) (u0 u1 u2 u3 x z : Int32) (y now t0 r : Int64) (h0 : Heap) (n0 : Nat) (Z0 : n0 ≤ h0.size) (g1 : n0 ≤ a) (g2 : n0 ≤ sa) (n1 : a ≠ sa) (n2 : a ≠ b) (n3 : sa ≠ b) (hin : own_in (1 : Int32) z) (V1 : Arv Z h0 b kb .boolean (4 : Int32) [(.int u0), (.int u1), (.int u2), (.int u3)] (.int (0 : Int32))) (V2 : Arv Z h0 a k1 .int (2 : Int32) [(.int x), (.int z)] (.int (0 : Int32))) (V3 : Arv Z h0 sa k2 .long (1 : Int32) [(.long y)] (.long (0 : Int64))) :
    own_Met l Z (⟨"com/example/eskew/eskew/server/split/CounterValuesRestingPinLaw", "model", "([I[J[ZIJJJ)I"⟩ : MethodName) method_7_code 11 (some .int) ws ({ frames := 2, cells := 0, slots := 0, locals := 64 } : Room) #[(.ref a), (.ref sa), (.ref b), (.int (1 : Int32)), (.long now), (.long t0), (.long r)] h0 (Q_rm7_1 Z a sa b k1 k2 kb u0 u1 u2 u3 x z y now t0 r h0 n0) := by
  refine own_enter (g0 := fun m => (mkF m 0 #[.val (.ref a), .val (.ref sa), .val (.ref b), .val (.int (1 : Int32)), .val (.long now), .second, .val (.long t0), .second, .val (.long r), .second, .unset] [])) pn_rm7_1 (fun m => by first | (simp [entryFrame, mkF, argsToLocals, Value.category, maxLocals]; done) | rfl) ?_
  intro p e s m below meth c s₁ hx hby hml hown hnm hret hlk hZ X0 e0
  have hml : c.maxLocals = 11 := hml
  have hown : s.vm.findClass "com/example/eskew/eskew/server/split/CounterValuesRestingPinLaw" = some m.cls := hown
  have N0 := Fr.nil n0
  have K0 := Keep.refl h0 [a, sa]
  have J23 : ∀ (T519 : State) (L519 : List Loc) (h519 : Heap) (X519 : Stand p l e ({ frames := 2, cells := 0, slots := 0, locals := 64 } : Room) s m #[(.ref a), (.ref sa), (.ref b), (.int (1 : Int32)), (.long now), (.long t0), (.long r)] below meth c T519 L519 0 0) (e519 : T519.heap = h519) (N519 : Fr n0 L519) (Kj : Keep h0 h519 [a])  (x1 : Int32) (hw1 : (own_wake now r (x, y, z)) = (x1, y, z)) (Va : Arv Z h519 a k1 .int (2 : Int32) [(.int x1), (.int z)] (.int (0 : Int32))) (Vs : Arv Z h519 sa k2 .long (1 : Int32) [(.long y)] (.long (0 : Int64))) (Vb : Arv Z h519 b kb .boolean (4 : Int32) [(.int u0), (.int u1), (.int u2), (.int u3)] (.int (0 : Int32))), own_Go p e below (own_End s ({ frames := 2, cells := 0, slots := 0, locals := 64 } : Room).cells ({ frames := 2, cells := 0, slots := 0, locals := 64 } : Room).slots (Q_rm7_1 Z a sa b k1 k2 kb u0 u1 u2 u3 x z y now t0 r h0 n0)) T519 (mkF m 23 #[.val (.ref a), .val (.ref sa), .val (.ref b), .val (.int (1 : Int32)), .val (.long now), .second, .val (.long t0), .second, .val (.long r), .second, .unset] []) := by
    intro T519 L519 h519 X519 e519 N519 Kj x1 hw1 Va Vs Vb
    have Z519 : n0 ≤ h519.size := Nat.le_trans Z0 Kj.1
    have K519c := K0.trans Kj (allS (Or.inl (List.mem_of_getElem? (i := 0) rfl)) all0)
    refine own_by (fun _ k => XS.aloadN X519.here hx rfl (hb hby d7_23) rfl rfl k) ?_
    refine own_by (fun _ k => XS.iconst X519.here hx rfl (hb hby d7_24) k) ?_
    obtain ⟨cl520, Ar520, cq520, hin520, hat520, set520⟩ := own_arv Va (j := (0 : Int32)) ⟨by decide, by decide⟩
    refine own_by (fun _ k => X519.iaload hx (j := (0 : Int32)) (v := (.int x1)) (by rw [e519]; exact Ar520.1) (State.isArrayOf_alike hZ.alike Ar520.2.1) Ar520.2.2 hin520 hat520 (g := (mkF m 25 #[.val (.ref a), .val (.ref sa), .val (.ref b), .val (.int (1 : Int32)), .val (.long now), .second, .val (.long t0), .second, .val (.long r), .second, .unset] [(.int (0 : Int32)), (.ref a)])) rfl rfl (hb hby d7_25) _ k) ?_
    refine own_by (fun _ k => XS.iconst X519.here hx rfl (hb hby d7_26) k) ?_
    by_cases hx1 : x1 = (-1 : Int32)
    · refine own_by (fun _ k => XS.icmpNo X519.here hx rfl (hb hby d7_27) rfl (teq (hx1 : x1 = (-1 : Int32))).2 k) ?_
      refine own_by (fun _ k => XS.aloadN X519.here hx rfl (hb hby d7_30) rfl rfl k) ?_
      refine own_by (fun _ k => XS.iloadN X519.here hx rfl (hb hby d7_31) rfl k) ?_
      show own_Go p e below _ T519 (mkF m 32 #[.val (.ref a), .val (.ref sa), .val (.ref b), .val (.int (1 : Int32)), .val (.long now), .second, .val (.long t0), .second, .val (.long r), .second, .unset] [(.int (1 : Int32)), (.ref b)])
      obtain ⟨_, T521, L521, X521, ⟨rfl, N521q, e521⟩, st521⟩ := own_callS X519 hx hZ hown (y := (⟨"com/example/eskew/eskew/server/split/CounterValuesRestingPinLaw", "count", "([ZI)I"⟩ : MethodName)) (hw _ (List.mem_of_getElem? (i := 54) rfl)) (hw _ (List.mem_of_getElem? (i := 55) rfl)) (hw _ (List.mem_of_getElem? (i := 2) rfl)) (hw _ (List.mem_of_getElem? (i := 56) rfl)) (by decide) (argsL := [(.ref b), (.int (1 : Int32))]) (rest := []) e519 (rm8_1 l Z a0 hw [] b kb u0 u1 u2 u3 h519 n0 Z519 Vb) (g := (mkF m 32 #[.val (.ref a), .val (.ref sa), .val (.ref b), .val (.int (1 : Int32)), .val (.long now), .second, .val (.long t0), .second, .val (.long r), .second, .unset] [(.int (1 : Int32)), (.ref b)])) rfl (by rw [hml]; rfl) (lenOf pd_2 rfl) rfl (W := 0) (by show 2 * 0 + _ ≤ _; exact Nat.le_of_eq rfl) (hb hby d7_32) (by decide) (by decide) (by decide) (by decide)
      have N521 := Fr.app N519 N521q
      refine own_by st521 ?_
      refine own_by (fun _ k => XS.iconst X521.here hx rfl (hb hby d7_35) k) ?_
      by_cases hc1 : (1 : Int32) < (own_count (1 : Int32) u1 u2 u3)
      · refine own_by (fun _ k => XS.icmpNo X521.here hx rfl (hb hby d7_36) rfl (tlt (hc1 : (1 : Int32) < (own_count (1 : Int32) u1 u2 u3))).2.2.2 k) ?_
        refine own_by (fun _ k => XS.lload X521.here hx rfl (hb hby d7_39) rfl k) ?_
        refine own_by (fun _ k => XS.lload X521.here hx rfl (hb hby d7_41) rfl k) ?_
        refine own_by (fun _ k => XS.lsub X521.here hx rfl (hb hby d7_43) rfl k) ?_
        refine own_by (fun _ k => XS.lload X521.here hx rfl (hb hby d7_44) rfl k) ?_
        refine own_by (fun _ k => XS.lcmp X521.here hx rfl (hb hby d7_46) rfl k) ?_
        by_cases hl : now - t0 < r
        · refine own_by (fun _ k => XS.ifYes X521.here hx rfl (pc0 := 47) (pc' := 87) rfl (hb hby d7_47) rfl ((if0 _ _).trans (tlt ((lw_lt _ _).mpr hl : (lcmpW (now - t0) r) < (0 : Int32))).1) (by decide) (by decide) k) ?_
          show own_Go p e below _ T521 (mkF m 87 #[.val (.ref a), .val (.ref sa), .val (.ref b), .val (.int (1 : Int32)), .val (.long now), .second, .val (.long t0), .second, .val (.long r), .second, .unset] [])
          refine own_by (fun _ k => XS.aloadN X521.here hx rfl (hb hby d7_87) rfl rfl k) ?_
          refine own_by (fun _ k => XS.iconst X521.here hx rfl (hb hby d7_88) k) ?_
          obtain ⟨cl522, Ar522, cq522, hin522, hat522, set522⟩ := own_arv Va (j := (0 : Int32)) ⟨by decide, by decide⟩
          refine own_by (fun _ k => X521.iaload hx (j := (0 : Int32)) (v := (.int x1)) (by rw [e521]; exact Ar522.1) (State.isArrayOf_alike hZ.alike Ar522.2.1) Ar522.2.2 hin522 hat522 (g := (mkF m 89 #[.val (.ref a), .val (.ref sa), .val (.ref b), .val (.int (1 : Int32)), .val (.long now), .second, .val (.long t0), .second, .val (.long r), .second, .unset] [(.int (0 : Int32)), (.ref a)])) rfl rfl (hb hby d7_89) _ k) ?_
          have hres : (own_model (1 : Int32) (own_count (1 : Int32) u1 u2 u3) (own_at u0 u1 u2 u3) now t0 r (own_wake now r (x, y, z))) = (x1, y, z) := by rw [hw1]; simp only [own_model, if_pos hx1, if_pos hc1, if_pos hl]
          exact own_retI X521 hx hlk hret  (hb hby d7_90) (by first | exact ⟨by rw [hres], N521, K519c, by rw [hres]; exact Va, by rw [hres]; exact Vs⟩ | (rw [e521]; exact ⟨by rw [hres], N521, K519c, by rw [hres]; exact Va, by rw [hres]; exact Vs⟩)) (by decide) (by decide)
        · refine own_by (fun _ k => XS.ifNo X521.here hx rfl (hb hby d7_47) rfl ((if0 _ _).trans (flt (fun q => hl ((lw_lt _ _).mp q) : ¬ ((lcmpW (now - t0) r) < (0 : Int32)))).1) k) ?_
          show own_Go p e below _ T521 (mkF m 50 #[.val (.ref a), .val (.ref sa), .val (.ref b), .val (.int (1 : Int32)), .val (.long now), .second, .val (.long t0), .second, .val (.long r), .second, .unset] [])
          refine own_by (fun _ k => XS.aloadN X521.here hx rfl (hb hby d7_50) rfl rfl k) ?_
          refine own_by (fun _ k => XS.iloadN X521.here hx rfl (hb hby d7_51) rfl k) ?_
          refine own_by (fun _ k => XS.aloadN X521.here hx rfl (hb hby d7_52) rfl rfl k) ?_
          refine own_by (fun _ k => XS.iconst X521.here hx rfl (hb hby d7_53) k) ?_
          obtain ⟨cl523, Ar523, cq523, hin523, hat523, set523⟩ := own_arv Va (j := (1 : Int32)) ⟨by decide, by decide⟩
          refine own_by (fun _ k => X521.iaload hx (j := (1 : Int32)) (v := (.int z)) (by rw [e521]; exact Ar523.1) (State.isArrayOf_alike hZ.alike Ar523.2.1) Ar523.2.2 hin523 hat523 (g := (mkF m 54 #[.val (.ref a), .val (.ref sa), .val (.ref b), .val (.int (1 : Int32)), .val (.long now), .second, .val (.long t0), .second, .val (.long r), .second, .unset] [(.int (1 : Int32)), (.ref a), (.int (1 : Int32)), (.ref b)])) rfl rfl (hb hby d7_54) _ k) ?_
          obtain ⟨_, T524, L524, X524, ⟨rfl, N524q, e524⟩, st524⟩ := own_callS X521 hx hZ hown (y := (⟨"com/example/eskew/eskew/server/split/CounterValuesRestingPinLaw", "first", "([ZII)I"⟩ : MethodName)) (hw _ (List.mem_of_getElem? (i := 60) rfl)) (hw _ (List.mem_of_getElem? (i := 61) rfl)) (hw _ (List.mem_of_getElem? (i := 2) rfl)) (hw _ (List.mem_of_getElem? (i := 62) rfl)) (by decide) (argsL := [(.ref b), (.int (1 : Int32)), (.int z)]) (rest := []) e521 (rm9_1 l Z a0 hw [] b kb u0 u1 u2 u3 z h519 n0 Z519 hin Vb) (g := (mkF m 55 #[.val (.ref a), .val (.ref sa), .val (.ref b), .val (.int (1 : Int32)), .val (.long now), .second, .val (.long t0), .second, .val (.long r), .second, .unset] [(.int z), (.int (1 : Int32)), (.ref b)])) rfl (by rw [hml]; rfl) (lenOf pd_4 rfl) rfl (W := 0) (by show 2 * 0 + _ ≤ _; exact Nat.le_of_eq rfl) (hb hby d7_55) (by decide) (by decide) (by decide) (by decide)
          have N524 := Fr.app N521 N524q
          refine own_by st524 ?_
          obtain ⟨f, hf⟩ : ∃ zq, zq = (own_first (1 : Int32) (own_at u0 u1 u2 u3) z) := ⟨_, rfl⟩
          show own_Go p e below _ T524 (mkF m 58 #[.val (.ref a), .val (.ref sa), .val (.ref b), .val (.int (1 : Int32)), .val (.long now), .second, .val (.long t0), .second, .val (.long r), .second, .unset] [(.int (own_first (1 : Int32) (own_at u0 u1 u2 u3) z))])
          rw [← hf]
          refine own_by (fun _ k => XS.istore X524.here hx rfl (hb hby d7_58) rfl (l' := #[.val (.ref a), .val (.ref sa), .val (.ref b), .val (.int (1 : Int32)), .val (.long now), .second, .val (.long t0), .second, .val (.long r), .second, .val (.int f)]) rfl k) ?_
          refine own_by (fun _ k => XS.aloadN X524.here hx rfl (hb hby d7_60) rfl rfl k) ?_
          refine own_by (fun _ k => XS.iconst X524.here hx rfl (hb hby d7_61) k) ?_
          refine own_by (fun _ k => XS.iload X524.here hx rfl (hb hby d7_62) rfl k) ?_
          obtain ⟨cl525, Ar525, cq525, hin525, hat525, set525⟩ := own_arv Va (j := (0 : Int32)) ⟨by decide, by decide⟩
          obtain ⟨T526, h526, X526, e526, W526, st526⟩ := stI X524 hx hZ e524 Ar525 (j := (0 : Int32)) hin525 (g := (mkF m 64 #[.val (.ref a), .val (.ref sa), .val (.ref b), .val (.int (1 : Int32)), .val (.long now), .second, .val (.long t0), .second, .val (.long r), .second, .val (.int f)] [(.int f), (.int (0 : Int32)), (.ref a)])) rfl rfl (hb hby d7_64)
          have V526 : Arv Z h526 a k1 .int (2 : Int32) [(.int f), (.int z)] (.int (0 : Int32)) := set525 rfl W526 0 rfl (Nat.le_of_ble_eq_true rfl)
          have N526 := Fr.snoc X526 N524 g1
          have KB527 := Kj.wr W526 (Or.inl (List.mem_of_getElem? (i := 0) rfl))
          have K528 := K519c.wr W526 (Or.inl (List.mem_of_getElem? (i := 0) rfl))
          have Z526 : n0 ≤ h526.size := Nat.le_trans Z519 (Keep.of_wr W526).1
          refine own_by st526 ?_
          refine own_by (fun _ k => XS.aloadN X526.here hx rfl (hb hby d7_65) rfl rfl k) ?_
          refine own_by (fun _ k => XS.iconst X526.here hx rfl (hb hby d7_66) k) ?_
          refine own_by (fun _ k => XS.lload X526.here hx rfl (hb hby d7_67) rfl k) ?_
          show own_Go p e below _ T526 (mkF m 69 #[.val (.ref a), .val (.ref sa), .val (.ref b), .val (.int (1 : Int32)), .val (.long now), .second, .val (.long t0), .second, .val (.long r), .second, .val (.int f)] [(.long now), (.int (0 : Int32)), (.ref sa)])
          have f530 := (Vs.other W526 (Ne.symm n1))
          obtain ⟨cl529, Ar529, cq529, hin529, hat529, set529⟩ := own_arv f530 (j := (0 : Int32)) ⟨by decide, by decide⟩
          obtain ⟨T531, h531, X531, e531, W531, st531⟩ := stJ X526 hx hZ e526 Ar529 (j := (0 : Int32)) hin529 (g := (mkF m 69 #[.val (.ref a), .val (.ref sa), .val (.ref b), .val (.int (1 : Int32)), .val (.long now), .second, .val (.long t0), .second, .val (.long r), .second, .val (.int f)] [(.long now), (.int (0 : Int32)), (.ref sa)])) rfl rfl (hb hby d7_69)
          have V531 : Arv Z h531 sa k2 .long (1 : Int32) [(.long now)] (.long (0 : Int64)) := set529 rfl W531 0 rfl (Nat.le_of_ble_eq_true rfl)
          have N531 := Fr.snoc X531 N526 g2
          have K532 := K528.wr W531 (Or.inl (List.mem_of_getElem? (i := 1) rfl))
          have Z531 : n0 ≤ h531.size := Nat.le_trans Z526 (Keep.of_wr W531).1
          refine own_by st531 ?_
          refine own_by (fun _ k => XS.aloadN X531.here hx rfl (hb hby d7_70) rfl rfl k) ?_
          refine own_by (fun _ k => XS.iconst X531.here hx rfl (hb hby d7_71) k) ?_
          refine own_by (fun _ k => XS.iload X531.here hx rfl (hb hby d7_72) rfl k) ?_
          refine own_by (fun _ k => XS.iloadN X531.here hx rfl (hb hby d7_74) rfl k) ?_
          have J86 : ∀ (g : Int32) (hg : g = if f = (1 : Int32) then 1 else f + 1), own_Go p e below (own_End s ({ frames := 2, cells := 0, slots := 0, locals := 64 } : Room).cells ({ frames := 2, cells := 0, slots := 0, locals := 64 } : Room).slots (Q_rm7_1 Z a sa b k1 k2 kb u0 u1 u2 u3 x z y now t0 r h0 n0)) T531 (mkF m 86 #[.val (.ref a), .val (.ref sa), .val (.ref b), .val (.int (1 : Int32)), .val (.long now), .second, .val (.long t0), .second, .val (.long r), .second, .val (.int f)] [(.int g), (.int (1 : Int32)), (.ref a)]) := by
            intro  g hg
            have f534 := (V526.other W531 n1)
            obtain ⟨cl533, Ar533, cq533, hin533, hat533, set533⟩ := own_arv f534 (j := (1 : Int32)) ⟨by decide, by decide⟩
            obtain ⟨T535, h535, X535, e535, W535, st535⟩ := stI X531 hx hZ e531 Ar533 (j := (1 : Int32)) hin533 (g := (mkF m 86 #[.val (.ref a), .val (.ref sa), .val (.ref b), .val (.int (1 : Int32)), .val (.long now), .second, .val (.long t0), .second, .val (.long r), .second, .val (.int f)] [(.int g), (.int (1 : Int32)), (.ref a)])) rfl rfl (hb hby d7_86)
            have V535 : Arv Z h535 a k1 .int (2 : Int32) [(.int f), (.int g)] (.int (0 : Int32)) := set533 rfl W535 1 rfl (Nat.le_of_ble_eq_true rfl)
            have N535 := Fr.snoc X535 N531 g1
            have K536 := K532.wr W535 (Or.inl (List.mem_of_getElem? (i := 0) rfl))
            have Z535 : n0 ≤ h535.size := Nat.le_trans Z531 (Keep.of_wr W535).1
            refine own_by st535 ?_
            refine own_by (fun _ k => XS.aloadN X535.here hx rfl (hb hby d7_87) rfl rfl k) ?_
            refine own_by (fun _ k => XS.iconst X535.here hx rfl (hb hby d7_88) k) ?_
            show own_Go p e below _ T535 (mkF m 89 #[.val (.ref a), .val (.ref sa), .val (.ref b), .val (.int (1 : Int32)), .val (.long now), .second, .val (.long t0), .second, .val (.long r), .second, .val (.int f)] [(.int (0 : Int32)), (.ref a)])
            obtain ⟨cl537, Ar537, cq537, hin537, hat537, set537⟩ := own_arv V535 (j := (0 : Int32)) ⟨by decide, by decide⟩
            refine own_by (fun _ k => X535.iaload hx (j := (0 : Int32)) (v := (.int f)) (by rw [e535]; exact Ar537.1) (State.isArrayOf_alike hZ.alike Ar537.2.1) Ar537.2.2 hin537 hat537 (g := (mkF m 89 #[.val (.ref a), .val (.ref sa), .val (.ref b), .val (.int (1 : Int32)), .val (.long now), .second, .val (.long t0), .second, .val (.long r), .second, .val (.int f)] [(.int (0 : Int32)), (.ref a)])) rfl rfl (hb hby d7_89) _ k) ?_
            have hres : (own_model (1 : Int32) (own_count (1 : Int32) u1 u2 u3) (own_at u0 u1 u2 u3) now t0 r (own_wake now r (x, y, z))) = (f, now, g) := by rw [hw1]; simp only [own_model, if_pos hx1, if_pos hc1, if_neg hl, ← hf, hg]
            have f538 := (V531.other W535 (Ne.symm n1))
            exact own_retI X535 hx hlk hret  (hb hby d7_90) (by first | exact ⟨by rw [hres], N535, K536, by rw [hres]; exact V535, by rw [hres]; exact f538⟩ | (rw [e535]; exact ⟨by rw [hres], N535, K536, by rw [hres]; exact V535, by rw [hres]; exact f538⟩)) (by decide) (by decide)
          by_cases hfn : f = (1 : Int32)
          · refine own_by (fun _ k => XS.icmpNo X531.here hx rfl (hb hby d7_75) rfl (teq (hfn : f = (1 : Int32))).2 k) ?_
            refine own_by (fun _ k => XS.iconst X531.here hx rfl (hb hby d7_78) k) ?_
            refine own_by (fun _ k => XS.goto X531.here hx rfl (pc0 := 79) (pc' := 86) rfl (hb hby d7_79) (by decide) (by decide) k) ?_
            exact J86 _ (if_pos hfn).symm
          · refine own_by (fun _ k => XS.icmpYes X531.here hx rfl (pc0 := 75) (pc' := 82) rfl (hb hby d7_75) rfl (feq (hfn : ¬ (f = (1 : Int32)))).2 (by decide) (by decide) k) ?_
            refine own_by (fun _ k => XS.iload X531.here hx rfl (hb hby d7_82) rfl k) ?_
            refine own_by (fun _ k => XS.iconst X531.here hx rfl (hb hby d7_84) k) ?_
            refine own_by (fun _ k => XS.iadd X531.here hx rfl (hb hby d7_85) rfl k) ?_
            show own_Go p e below _ T531 (mkF m 86 #[.val (.ref a), .val (.ref sa), .val (.ref b), .val (.int (1 : Int32)), .val (.long now), .second, .val (.long t0), .second, .val (.long r), .second, .val (.int f)] [(.int (f + (1 : Int32))), (.int (1 : Int32)), (.ref a)])
            exact J86 _ (if_neg hfn).symm
      · refine own_by (fun _ k => XS.icmpYes X521.here hx rfl (pc0 := 36) (pc' := 87) rfl (hb hby d7_36) rfl (flt (hc1 : ¬ ((1 : Int32) < (own_count (1 : Int32) u1 u2 u3)))).2.2.2 (by decide) (by decide) k) ?_
        refine own_by (fun _ k => XS.aloadN X521.here hx rfl (hb hby d7_87) rfl rfl k) ?_
        refine own_by (fun _ k => XS.iconst X521.here hx rfl (hb hby d7_88) k) ?_
        obtain ⟨cl539, Ar539, cq539, hin539, hat539, set539⟩ := own_arv Va (j := (0 : Int32)) ⟨by decide, by decide⟩
        refine own_by (fun _ k => X521.iaload hx (j := (0 : Int32)) (v := (.int x1)) (by rw [e521]; exact Ar539.1) (State.isArrayOf_alike hZ.alike Ar539.2.1) Ar539.2.2 hin539 hat539 (g := (mkF m 89 #[.val (.ref a), .val (.ref sa), .val (.ref b), .val (.int (1 : Int32)), .val (.long now), .second, .val (.long t0), .second, .val (.long r), .second, .unset] [(.int (0 : Int32)), (.ref a)])) rfl rfl (hb hby d7_89) _ k) ?_
        have hres : (own_model (1 : Int32) (own_count (1 : Int32) u1 u2 u3) (own_at u0 u1 u2 u3) now t0 r (own_wake now r (x, y, z))) = (x1, y, z) := by rw [hw1]; simp only [own_model, if_pos hx1, if_neg hc1]
        exact own_retI X521 hx hlk hret  (hb hby d7_90) (by first | exact ⟨by rw [hres], N521, K519c, by rw [hres]; exact Va, by rw [hres]; exact Vs⟩ | (rw [e521]; exact ⟨by rw [hres], N521, K519c, by rw [hres]; exact Va, by rw [hres]; exact Vs⟩)) (by decide) (by decide)
    · refine own_by (fun _ k => XS.icmpYes X519.here hx rfl (pc0 := 27) (pc' := 87) rfl (hb hby d7_27) rfl (feq (hx1 : ¬ (x1 = (-1 : Int32)))).2 (by decide) (by decide) k) ?_
      refine own_by (fun _ k => XS.aloadN X519.here hx rfl (hb hby d7_87) rfl rfl k) ?_
      refine own_by (fun _ k => XS.iconst X519.here hx rfl (hb hby d7_88) k) ?_
      show own_Go p e below _ T519 (mkF m 89 #[.val (.ref a), .val (.ref sa), .val (.ref b), .val (.int (1 : Int32)), .val (.long now), .second, .val (.long t0), .second, .val (.long r), .second, .unset] [(.int (0 : Int32)), (.ref a)])
      obtain ⟨cl540, Ar540, cq540, hin540, hat540, set540⟩ := own_arv Va (j := (0 : Int32)) ⟨by decide, by decide⟩
      refine own_by (fun _ k => X519.iaload hx (j := (0 : Int32)) (v := (.int x1)) (by rw [e519]; exact Ar540.1) (State.isArrayOf_alike hZ.alike Ar540.2.1) Ar540.2.2 hin540 hat540 (g := (mkF m 89 #[.val (.ref a), .val (.ref sa), .val (.ref b), .val (.int (1 : Int32)), .val (.long now), .second, .val (.long t0), .second, .val (.long r), .second, .unset] [(.int (0 : Int32)), (.ref a)])) rfl rfl (hb hby d7_89) _ k) ?_
      have hres : (own_model (1 : Int32) (own_count (1 : Int32) u1 u2 u3) (own_at u0 u1 u2 u3) now t0 r (own_wake now r (x, y, z))) = (x1, y, z) := by rw [hw1]; simp only [own_model, if_neg hx1]
      exact own_retI X519 hx hlk hret  (hb hby d7_90) (by first | exact ⟨by rw [hres], N519, K519c, by rw [hres]; exact Va, by rw [hres]; exact Vs⟩ | (rw [e519]; exact ⟨by rw [hres], N519, K519c, by rw [hres]; exact Va, by rw [hres]; exact Vs⟩)) (by decide) (by decide)
  refine own_by (fun _ k => XS.aloadN X0.here hx rfl (hb hby d7_0) rfl rfl k) ?_
  refine own_by (fun _ k => XS.iconst X0.here hx rfl (hb hby d7_1) k) ?_
  obtain ⟨cl541, Ar541, cq541, hin541, hat541, set541⟩ := own_arv V2 (j := (0 : Int32)) ⟨by decide, by decide⟩
  refine own_by (fun _ k => X0.iaload hx (j := (0 : Int32)) (v := (.int x)) (by rw [e0]; exact Ar541.1) (State.isArrayOf_alike hZ.alike Ar541.2.1) Ar541.2.2 hin541 hat541 (g := (mkF m 2 #[.val (.ref a), .val (.ref sa), .val (.ref b), .val (.int (1 : Int32)), .val (.long now), .second, .val (.long t0), .second, .val (.long r), .second, .unset] [(.int (0 : Int32)), (.ref a)])) rfl rfl (hb hby d7_2) _ k) ?_
  refine own_by (fun _ k => XS.iconst X0.here hx rfl (hb hby d7_3) k) ?_
  by_cases hx0 : x = (-1 : Int32)
  · refine own_by (fun _ k => XS.icmpYes X0.here hx rfl (pc0 := 4) (pc' := 23) rfl (hb hby d7_4) rfl (teq (hx0 : x = (-1 : Int32))).1 (by decide) (by decide) k) ?_
    exact J23 s₁ _ h0 X0 e0 N0 (Keep.refl _ _) _ (by simp only [own_wake, if_pos hx0]) V2 V3 V1
  · refine own_by (fun _ k => XS.icmpNo X0.here hx rfl (hb hby d7_4) rfl (feq (hx0 : ¬ (x = (-1 : Int32)))).1 k) ?_
    refine own_by (fun _ k => XS.lload X0.here hx rfl (hb hby d7_7) rfl k) ?_
    refine own_by (fun _ k => XS.aloadN X0.here hx rfl (hb hby d7_9) rfl rfl k) ?_
    refine own_by (fun _ k => XS.iconst X0.here hx rfl (hb hby d7_10) k) ?_
    show own_Go p e below _ s₁ (mkF m 11 #[.val (.ref a), .val (.ref sa), .val (.ref b), .val (.int (1 : Int32)), .val (.long now), .second, .val (.long t0), .second, .val (.long r), .second, .unset] [(.int (0 : Int32)), (.ref sa), (.long now)])
    obtain ⟨cl542, Ar542, cq542, hin542, hat542, set542⟩ := own_arv V3 (j := (0 : Int32)) ⟨by decide, by decide⟩
    refine own_by (fun _ k => X0.laload hx (j := (0 : Int32)) (v := (.long y)) (by rw [e0]; exact Ar542.1) (State.isArrayOf_alike hZ.alike Ar542.2.1) Ar542.2.2 hin542 hat542 (g := (mkF m 11 #[.val (.ref a), .val (.ref sa), .val (.ref b), .val (.int (1 : Int32)), .val (.long now), .second, .val (.long t0), .second, .val (.long r), .second, .unset] [(.int (0 : Int32)), (.ref sa), (.long now)])) rfl rfl (hb hby d7_11) _ k) ?_
    refine own_by (fun _ k => XS.lsub X0.here hx rfl (hb hby d7_12) rfl k) ?_
    refine own_by (fun _ k => XS.lload X0.here hx rfl (hb hby d7_13) rfl k) ?_
    refine own_by (fun _ k => XS.lcmp X0.here hx rfl (hb hby d7_15) rfl k) ?_
    by_cases hl0 : now - y < r
    · refine own_by (fun _ k => XS.ifYes X0.here hx rfl (pc0 := 16) (pc' := 23) rfl (hb hby d7_16) rfl ((if0 _ _).trans (tlt ((lw_lt _ _).mpr hl0 : (lcmpW (now - y) r) < (0 : Int32))).1) (by decide) (by decide) k) ?_
      exact J23 s₁ _ h0 X0 e0 N0 (Keep.refl _ _) _ (by simp only [own_wake, if_neg hx0, if_pos hl0]) V2 V3 V1
    · refine own_by (fun _ k => XS.ifNo X0.here hx rfl (hb hby d7_16) rfl ((if0 _ _).trans (flt (fun q => hl0 ((lw_lt _ _).mp q) : ¬ ((lcmpW (now - y) r) < (0 : Int32)))).1) k) ?_
      refine own_by (fun _ k => XS.aloadN X0.here hx rfl (hb hby d7_19) rfl rfl k) ?_
      refine own_by (fun _ k => XS.iconst X0.here hx rfl (hb hby d7_20) k) ?_
      refine own_by (fun _ k => XS.iconst X0.here hx rfl (hb hby d7_21) k) ?_
      obtain ⟨cl543, Ar543, cq543, hin543, hat543, set543⟩ := own_arv V2 (j := (0 : Int32)) ⟨by decide, by decide⟩
      obtain ⟨T544, h544, X544, e544, W544, st544⟩ := stI X0 hx hZ e0 Ar543 (j := (0 : Int32)) hin543 (g := (mkF m 22 #[.val (.ref a), .val (.ref sa), .val (.ref b), .val (.int (1 : Int32)), .val (.long now), .second, .val (.long t0), .second, .val (.long r), .second, .unset] [(.int (-1 : Int32)), (.int (0 : Int32)), (.ref a)])) rfl rfl (hb hby d7_22)
      have V544 : Arv Z h544 a k1 .int (2 : Int32) [(.int (-1 : Int32)), (.int z)] (.int (0 : Int32)) := set543 rfl W544 0 rfl (Nat.le_of_ble_eq_true rfl)
      have N544 := Fr.snoc X544 N0 g1
      have K545 := K0.wr W544 (Or.inl (List.mem_of_getElem? (i := 0) rfl))
      have Z544 : n0 ≤ h544.size := Nat.le_trans Z0 (Keep.of_wr W544).1
      refine own_by st544 ?_
      show own_Go p e below _ T544 (mkF m 23 #[.val (.ref a), .val (.ref sa), .val (.ref b), .val (.int (1 : Int32)), .val (.long now), .second, .val (.long t0), .second, .val (.long r), .second, .unset] [])
      have f546 := (V3.other W544 (Ne.symm n1))
      have f547 := (V1.other W544 (Ne.symm n2))
      exact J23 T544 _ h544 X544 e544 N544 (Keep.of_wr W544) _ (by simp only [own_wake, if_neg hx0, if_neg hl0]) V544 f546 f547
def Q_rm6_1 (Z : State) (a1 b ta tl0 tl1 : Addr) (kb kt : ClassId) (u0 u1 u2 u3 x z : Int32) (y now t0 r : Int64) (h0 : Heap) (n0 : Nat) (v : Option Value) (h : Heap) (L : List Loc) : Prop := v = some (.int (own_rest (1 : Int32) (own_count (1 : Int32) u1 u2 u3) (own_at u0 u1 u2 u3) now t0 r 1 x y z).1) ∧ Fr n0 L ∧ Keep h0 h [a1] ∧ Exa Z h a1 "com/example/eskew/eskew/server/split/CounterValues" ∧ Fld Z h a1 "com/example/eskew/eskew/server/split/CounterValues" "resting" "I" (.int (own_rest (1 : Int32) (own_count (1 : Int32) u1 u2 u3) (own_at u0 u1 u2 u3) now t0 r 1 x y z).1) ∧ Fld Z h a1 "com/example/eskew/eskew/server/split/CounterValues" "restingSince" "J" (.long (own_rest (1 : Int32) (own_count (1 : Int32) u1 u2 u3) (own_at u0 u1 u2 u3) now t0 r 1 x y z).2.1) ∧ Fld Z h a1 "com/example/eskew/eskew/server/split/CounterValues" "nextToRest" "I" (.int (own_rest (1 : Int32) (own_count (1 : Int32) u1 u2 u3) (own_at u0 u1 u2 u3) now t0 r 1 x y z).2.2) ∧ Fld Z h a1 "com/example/eskew/eskew/server/split/CounterValues" "rereadNanos" "J" (.long r) ∧ Fld Z h a1 "com/example/eskew/eskew/server/split/CounterValues" "tallies" "[Lcom/example/eskew/eskew/server/split/CounterValues$Tally;" (.ref ta)
theorem pn_rm6_1 : plainFor (⟨"com/example/eskew/eskew/server/split/CounterValues", "resting", "([ZJ)I"⟩ : MethodName) = true := plainFor_of_name (by first | (simp [plainName, overriddenIn, x]; done) | decide +kernel)
theorem d6_49 : decode prog_33_method_14_code 49 = .ok (.iload 5, 2) := by decide +kernel
theorem d6_51 : decode prog_33_method_14_code 51 = .ok (.aload_n 1, 1) := by decide +kernel
theorem d6_52 : decode prog_33_method_14_code 52 = .ok (.iload 6, 2) := by decide +kernel
theorem d6_54 : decode prog_33_method_14_code 54 = .ok (.baload, 1) := by decide +kernel
theorem d6_63 : decode prog_33_method_14_code 63 = .ok (.iadd, 1) := by decide +kernel
theorem d6_64 : decode prog_33_method_14_code 64 = .ok (.istore 5, 2) := by decide +kernel
theorem d6_66 : decode prog_33_method_14_code 66 = .ok (.iinc 6 1, 3) := by decide +kernel
theorem d6_69 : decode prog_33_method_14_code 69 = .ok (.goto (-27), 3) := by decide +kernel
theorem d6_96 : decode prog_33_method_14_code 96 = .ok (.iconst 1, 1) := by decide +kernel
theorem d6_97 : decode prog_33_method_14_code 97 = .ok (.aload_n 0, 1) := by decide +kernel
theorem d6_98 : decode prog_33_method_14_code 98 = .ok (.getfield 23, 3) := by decide +kernel
theorem d6_101 : decode prog_33_method_14_code 101 = .ok (.iconst 1, 1) := by decide +kernel
theorem d6_102 : decode prog_33_method_14_code 102 = .ok (.isub, 1) := by decide +kernel
theorem d6_103 : decode prog_33_method_14_code 103 = .ok (.iload 6, 2) := by decide +kernel
theorem d6_105 : decode prog_33_method_14_code 105 = .ok (.iadd, 1) := by decide +kernel
theorem d6_106 : decode prog_33_method_14_code 106 = .ok (.iload 4, 2) := by decide +kernel
theorem d6_108 : decode prog_33_method_14_code 108 = .ok (.irem, 1) := by decide +kernel
theorem d6_109 : decode prog_33_method_14_code 109 = .ok (.iadd, 1) := by decide +kernel
theorem d6_110 : decode prog_33_method_14_code 110 = .ok (.istore 7, 2) := by decide +kernel
theorem d6_112 : decode prog_33_method_14_code 112 = .ok (.aload_n 1, 1) := by decide +kernel
theorem d6_113 : decode prog_33_method_14_code 113 = .ok (.iload 7, 2) := by decide +kernel
theorem d6_115 : decode prog_33_method_14_code 115 = .ok (.baload, 1) := by decide +kernel
theorem d6_116 : decode prog_33_method_14_code 116 = .ok (.ifCond .eq 45, 3) := by decide +kernel
theorem d6_161 : decode prog_33_method_14_code 161 = .ok (.iinc 6 1, 3) := by decide +kernel
theorem d6_164 : decode prog_33_method_14_code 164 = .ok (.goto (-89), 3) := by decide +kernel
theorem d6_119 : decode prog_33_method_14_code 119 = .ok (.lload_n 2, 1) := by decide +kernel
theorem d6_120 : decode prog_33_method_14_code 120 = .ok (.aload_n 0, 1) := by decide +kernel
theorem d6_121 : decode prog_33_method_14_code 121 = .ok (.getfield 32, 3) := by decide +kernel
theorem d6_124 : decode prog_33_method_14_code 124 = .ok (.iload 7, 2) := by decide +kernel
theorem d6_126 : decode prog_33_method_14_code 126 = .ok (.aaload, 1) := by decide +kernel
theorem d6_127 : decode prog_33_method_14_code 127 = .ok (.getfield 140, 3) := by decide +kernel
theorem d6_130 : decode prog_33_method_14_code 130 = .ok (.lsub, 1) := by decide +kernel
theorem d6_131 : decode prog_33_method_14_code 131 = .ok (.aload_n 0, 1) := by decide +kernel
theorem d6_132 : decode prog_33_method_14_code 132 = .ok (.getfield 26, 3) := by decide +kernel
theorem d6_135 : decode prog_33_method_14_code 135 = .ok (.lcmp, 1) := by decide +kernel
theorem d6_136 : decode prog_33_method_14_code 136 = .ok (.ifCond .lt 25, 3) := by decide +kernel
theorem d6_139 : decode prog_33_method_14_code 139 = .ok (.aload_n 0, 1) := by decide +kernel
theorem d6_140 : decode prog_33_method_14_code 140 = .ok (.iload 7, 2) := by decide +kernel
theorem d6_142 : decode prog_33_method_14_code 142 = .ok (.putfield 19, 3) := by decide +kernel
theorem d6_145 : decode prog_33_method_14_code 145 = .ok (.aload_n 0, 1) := by decide +kernel
theorem d6_146 : decode prog_33_method_14_code 146 = .ok (.lload_n 2, 1) := by decide +kernel
theorem d6_147 : decode prog_33_method_14_code 147 = .ok (.putfield 137, 3) := by decide +kernel
theorem d6_150 : decode prog_33_method_14_code 150 = .ok (.aload_n 0, 1) := by decide +kernel
theorem d6_151 : decode prog_33_method_14_code 151 = .ok (.iconst 1, 1) := by decide +kernel
theorem d6_152 : decode prog_33_method_14_code 152 = .ok (.iload 7, 2) := by decide +kernel
theorem d6_154 : decode prog_33_method_14_code 154 = .ok (.iload 4, 2) := by decide +kernel
theorem d6_156 : decode prog_33_method_14_code 156 = .ok (.irem, 1) := by decide +kernel
theorem d6_157 : decode prog_33_method_14_code 157 = .ok (.iadd, 1) := by decide +kernel
theorem d6_158 : decode prog_33_method_14_code 158 = .ok (.putfield 23, 3) := by decide +kernel
theorem d6_55 : decode prog_33_method_14_code 55 = .ok (.ifCond .eq 7, 3) := by decide +kernel
theorem d6_62 : decode prog_33_method_14_code 62 = .ok (.iconst 0, 1) := by decide +kernel
theorem d6_58 : decode prog_33_method_14_code 58 = .ok (.iconst 1, 1) := by decide +kernel
theorem d6_59 : decode prog_33_method_14_code 59 = .ok (.goto 4, 3) := by decide +kernel
set_option maxRecDepth 65536 in
set_option maxHeartbeats 40000000 in
theorem rm6_1 (l : Launch) (Z : State) (a0 : Array Value) (hw : ∀ d ∈ tables_1, d.before a0 Z = true) (ws : List Jvm.Cond) (a1 b ta tl0 tl1 : Addr) (kb kt : ClassId) (u0 u1 u2 u3 x z : Int32) (y now t0 r : Int64) (h0 : Heap) (n0 : Nat) (Z0 : n0 ≤ h0.size) (g1 : n0 ≤ a1) (hin : own_in (1 : Int32) z) (mb : a1 ≠ b) (mt : a1 ≠ ta) (m0 : a1 ≠ tl0) (m1 : a1 ≠ tl1) (E1 : Exa Z h0 a1 "com/example/eskew/eskew/server/split/CounterValues") (F_resting : Fld Z h0 a1 "com/example/eskew/eskew/server/split/CounterValues" "resting" "I" (.int x)) (F_restingSince : Fld Z h0 a1 "com/example/eskew/eskew/server/split/CounterValues" "restingSince" "J" (.long y)) (F_nextToRest : Fld Z h0 a1 "com/example/eskew/eskew/server/split/CounterValues" "nextToRest" "I" (.int z)) (F_rereadNanos : Fld Z h0 a1 "com/example/eskew/eskew/server/split/CounterValues" "rereadNanos" "J" (.long r)) (F_tallies : Fld Z h0 a1 "com/example/eskew/eskew/server/split/CounterValues" "tallies" "[Lcom/example/eskew/eskew/server/split/CounterValues$Tally;" (.ref ta)) (V1 : Arv Z h0 b kb .boolean (4 : Int32) [(.int u0), (.int u1), (.int u2), (.int u3)] (.int (0 : Int32))) (V2 : Arv Z h0 ta kt (.object "com/example/eskew/eskew/server/split/CounterValues$Tally") (2 : Int32) [(.ref tl0), (.ref tl1)] .null) (S0 : Fld Z h0 tl0 "com/example/eskew/eskew/server/split/CounterValues$Tally" "since" "J" (.long t0)) (S1 : Fld Z h0 tl1 "com/example/eskew/eskew/server/split/CounterValues$Tally" "since" "J" (.long t0)) :
    own_Met l Z (⟨"com/example/eskew/eskew/server/split/CounterValues", "resting", "([ZJ)I"⟩ : MethodName) prog_33_method_14_code 8 (some .int) ws ({ frames := 0, cells := 0, slots := 0, locals := 0 } : Room) #[(.ref a1), (.ref b), (.long now)] h0 (Q_rm6_1 Z a1 b ta tl0 tl1 kb kt u0 u1 u2 u3 x z y now t0 r h0 n0) := by
  refine own_enter (g0 := fun m => (mkF m 0 #[.val (.ref a1), .val (.ref b), .val (.long now), .second, .unset, .unset, .unset, .unset] [])) pn_rm6_1 (fun m => by first | (simp [entryFrame, mkF, argsToLocals, Value.category, maxLocals]; done) | rfl) ?_
  intro p e s m below meth c s₁ hx hby hml hown hnm hret hlk hZ X0 e0
  have hml : c.maxLocals = 8 := hml
  have hown : s.vm.findClass "com/example/eskew/eskew/server/split/CounterValues" = some m.cls := hown
  have N0 := Fr.nil n0
  have K0 := Keep.refl h0 [a1]
  have J27 : ∀ (T548 : State) (L548 : List Loc) (h548 : Heap) (X548 : Stand p l e ({ frames := 0, cells := 0, slots := 0, locals := 0 } : Room) s m #[(.ref a1), (.ref b), (.long now)] below meth c T548 L548 0 0) (e548 : T548.heap = h548) (N548 : Fr n0 L548) (Kj : Keep h0 h548 [a1])  (x1 : Int32) (hw1 : (own_wake now r (x, y, z)) = (x1, y, z)) (Ej : Exa Z h548 a1 "com/example/eskew/eskew/server/split/CounterValues") (Fj0 : Fld Z h548 a1 "com/example/eskew/eskew/server/split/CounterValues" "resting" "I" (.int x1)) (Fj1 : Fld Z h548 a1 "com/example/eskew/eskew/server/split/CounterValues" "restingSince" "J" (.long y)) (Fj2 : Fld Z h548 a1 "com/example/eskew/eskew/server/split/CounterValues" "nextToRest" "I" (.int z)) (Fj3 : Fld Z h548 a1 "com/example/eskew/eskew/server/split/CounterValues" "rereadNanos" "J" (.long r)) (Fj4 : Fld Z h548 a1 "com/example/eskew/eskew/server/split/CounterValues" "tallies" "[Lcom/example/eskew/eskew/server/split/CounterValues$Tally;" (.ref ta)), own_Go p e below (own_End s ({ frames := 0, cells := 0, slots := 0, locals := 0 } : Room).cells ({ frames := 0, cells := 0, slots := 0, locals := 0 } : Room).slots (Q_rm6_1 Z a1 b ta tl0 tl1 kb kt u0 u1 u2 u3 x z y now t0 r h0 n0)) T548 (mkF m 27 #[.val (.ref a1), .val (.ref b), .val (.long now), .second, .unset, .unset, .unset, .unset] []) := by
    intro T548 L548 h548 X548 e548 N548 Kj x1 hw1 Ej Fj0 Fj1 Fj2 Fj3 Fj4
    have Z548 : n0 ≤ h548.size := Nat.le_trans Z0 Kj.1
    have K548c := K0.trans Kj (allS (Or.inl (List.mem_of_getElem? (i := 0) rfl)) all0)
    refine own_by (fun _ k => XS.aloadN X548.here hx rfl (hb hby d6_27) rfl rfl k) ?_
    obtain ⟨T549, X549, e549, st549⟩ := getF X548 hx hZ hown (host := "") (Or.inl (hw _ (List.mem_of_getElem? (i := 33) rfl))) Via.refl e548 Fj4 (g := (mkF m 28 #[.val (.ref a1), .val (.ref b), .val (.long now), .second, .unset, .unset, .unset, .unset] [(.ref a1)])) rfl rfl (hb hby d6_28)
    refine own_by st549 ?_
    have f551 := (V2.keep Kj (ninS (Ne.symm mt) nin0))
    obtain ⟨cl550, Ar550, len550⟩ := own_len f551
    refine own_by (T' := T549) (g' := (mkF m 32 #[.val (.ref a1), .val (.ref b), .val (.long now), .second, .unset, .unset, .unset, .unset] [(.int (2 : Int32))])) (fun _ k => X549.arraylength hx (by rw [e549]; exact Ar550.1) (State.isArrayOf_alike hZ.alike Ar550.2.1) (g := (mkF m 31 #[.val (.ref a1), .val (.ref b), .val (.long now), .second, .unset, .unset, .unset, .unset] [(.ref ta)])) rfl rfl (hb hby d6_31) _ (by rw [len550]; exact k)) ?_
    refine own_by (fun _ k => XS.iconst X549.here hx rfl (hb hby d6_32) k) ?_
    refine own_by (fun _ k => XS.isub X549.here hx rfl (hb hby d6_33) rfl k) ?_
    show own_Go p e below _ T549 (mkF m 34 #[.val (.ref a1), .val (.ref b), .val (.long now), .second, .unset, .unset, .unset, .unset] [(.int ((2 : Int32) - (1 : Int32)))])
    rw [show (2 : Int32) - (1 : Int32) = (1 : Int32) from by decide]
    refine own_by (fun _ k => XS.istore X549.here hx rfl (hb hby d6_34) rfl (l' := #[.val (.ref a1), .val (.ref b), .val (.long now), .second, .val (.int (1 : Int32)), .unset, .unset, .unset]) rfl k) ?_
    refine own_by (fun _ k => XS.iconst X549.here hx rfl (hb hby d6_36) k) ?_
    refine own_by (fun _ k => XS.istore X549.here hx rfl (hb hby d6_37) rfl (l' := #[.val (.ref a1), .val (.ref b), .val (.long now), .second, .val (.int (1 : Int32)), .val (.int (0 : Int32)), .unset, .unset]) rfl k) ?_
    refine own_by (fun _ k => XS.iconst X549.here hx rfl (hb hby d6_39) k) ?_
    refine own_by (fun _ k => XS.istore X549.here hx rfl (hb hby d6_40) rfl (l' := #[.val (.ref a1), .val (.ref b), .val (.long now), .second, .val (.int (1 : Int32)), .val (.int (0 : Int32)), .val (.int (1 : Int32)), .unset]) rfl k) ?_
    refine own_by (fun _ k => XS.iload X549.here hx rfl (hb hby d6_42) rfl k) ?_
    refine own_by (fun _ k => XS.iload X549.here hx rfl (hb hby d6_44) rfl k) ?_
    refine own_by (fun _ k => XS.icmpNo X549.here hx rfl (hb hby d6_46) rfl (flt (by decide : ¬ ((1 : Int32) < (1 : Int32)))).2.2.1 k) ?_
    show own_Go p e below _ T549 (mkF m 49 #[.val (.ref a1), .val (.ref b), .val (.long now), .second, .val (.int (1 : Int32)), .val (.int (0 : Int32)), .val (.int (1 : Int32)), .unset] [])
    refine own_by (fun _ k => XS.iload X549.here hx rfl (hb hby d6_49) rfl k) ?_
    refine own_by (fun _ k => XS.aloadN X549.here hx rfl (hb hby d6_51) rfl rfl k) ?_
    refine own_by (fun _ k => XS.iload X549.here hx rfl (hb hby d6_52) rfl k) ?_
    have f553 := (V1.keep Kj (ninS (Ne.symm mb) nin0))
    obtain ⟨cl552, Ar552, cq552, hin552, hat552, set552⟩ := own_arv f553 (j := (1 : Int32)) ⟨by decide, by decide⟩
    refine own_by (fun _ k => X549.baloadBooleans hx (j := (1 : Int32)) (v := (.int u1)) (by rw [e549]; exact Ar552.1) (State.isArrayOf_alike hZ.alike Ar552.2.1) Ar552.2.2 hin552 hat552 (g := (mkF m 54 #[.val (.ref a1), .val (.ref b), .val (.long now), .second, .val (.int (1 : Int32)), .val (.int (0 : Int32)), .val (.int (1 : Int32)), .unset] [(.int (1 : Int32)), (.ref b), (.int (0 : Int32))])) rfl rfl (hb hby d6_54) _ k) ?_
    have J63_1 : ∀ (o : Int32) (ho : o = own_one u1), own_Go p e below (own_End s ({ frames := 0, cells := 0, slots := 0, locals := 0 } : Room).cells ({ frames := 0, cells := 0, slots := 0, locals := 0 } : Room).slots (Q_rm6_1 Z a1 b ta tl0 tl1 kb kt u0 u1 u2 u3 x z y now t0 r h0 n0)) T549 (mkF m 63 #[.val (.ref a1), .val (.ref b), .val (.long now), .second, .val (.int (1 : Int32)), .val (.int (0 : Int32)), .val (.int (1 : Int32)), .unset] [(.int o), (.int (0 : Int32))]) := by
      intro  o ho
      show own_Go p e below _ T549 (mkF m 63 #[.val (.ref a1), .val (.ref b), .val (.long now), .second, .val (.int (1 : Int32)), .val (.int (0 : Int32)), .val (.int (1 : Int32)), .unset] [(.int o), (.int (0 : Int32))])
      subst ho
      refine own_by (fun _ k => XS.iadd X549.here hx rfl (hb hby d6_63) rfl k) ?_
      refine own_by (fun _ k => XS.istore X549.here hx rfl (hb hby d6_64) rfl (l' := #[.val (.ref a1), .val (.ref b), .val (.long now), .second, .val (.int (1 : Int32)), .val (.int ((0 : Int32) + (own_one u1))), .val (.int (1 : Int32)), .unset]) rfl k) ?_
      refine own_by (fun _ k => XS.iinc X549.here hx rfl (hb hby d6_66) rfl (l' := #[.val (.ref a1), .val (.ref b), .val (.long now), .second, .val (.int (1 : Int32)), .val (.int ((0 : Int32) + (own_one u1))), .val (.int ((1 : Int32) + (1 : Int32))), .unset]) rfl k) ?_
      show own_Go p e below _ T549 (mkF m 69 #[.val (.ref a1), .val (.ref b), .val (.long now), .second, .val (.int (1 : Int32)), .val (.int ((0 : Int32) + (own_one u1))), .val (.int ((1 : Int32) + (1 : Int32))), .unset] [])
      rw [show (1 : Int32) + (1 : Int32) = (2 : Int32) from by decide]
      refine own_by (fun _ k => XS.goto X549.here hx rfl (pc0 := 69) (pc' := 42) rfl (hb hby d6_69) (by decide) (by decide) k) ?_
      refine own_by (fun _ k => XS.iload X549.here hx rfl (hb hby d6_42) rfl k) ?_
      refine own_by (fun _ k => XS.iload X549.here hx rfl (hb hby d6_44) rfl k) ?_
      refine own_by (fun _ k => XS.icmpYes X549.here hx rfl (pc0 := 46) (pc' := 72) rfl (hb hby d6_46) rfl (tlt (by decide : (1 : Int32) < (2 : Int32))).2.2.1 (by decide) (by decide) k) ?_
      refine own_by (fun _ k => XS.iconst X549.here hx rfl (hb hby d6_72) k) ?_
      refine own_by (fun _ k => XS.istore X549.here hx rfl (hb hby d6_73) rfl (l' := #[.val (.ref a1), .val (.ref b), .val (.long now), .second, .val (.int (1 : Int32)), .val (.int ((0 : Int32) + (own_one u1))), .val (.int (0 : Int32)), .unset]) rfl k) ?_
      obtain ⟨c0, hc0⟩ : ∃ zq, zq = ((0 : Int32) + own_one u1) := ⟨_, rfl⟩
      show own_Go p e below _ T549 (mkF m 75 #[.val (.ref a1), .val (.ref b), .val (.long now), .second, .val (.int (1 : Int32)), .val (.int ((0 : Int32) + (own_one u1))), .val (.int (0 : Int32)), .unset] [])
      rw [← hc0]
      have hc0 : c0 = (own_count (1 : Int32) u1 u2 u3) := hc0.trans (own_cnt_1 u1 u2 u3)
      have J75_1 : ∀ (T554 : State) (L554 : List Loc) (h554 : Heap) (X554 : Stand p l e ({ frames := 0, cells := 0, slots := 0, locals := 0 } : Room) s m #[(.ref a1), (.ref b), (.long now)] below meth c T554 L554 0 0) (e554 : T554.heap = h554) (N554 : Fr n0 L554) (Kh : Keep h548 h554 [a1])  (xx : Int32) (yy : Int64) (zz : Int32) (s7 : Slot) (h7 : One s7) (hz : own_in (1 : Int32) zz) (hS : (own_rest (1 : Int32) (own_count (1 : Int32) u1 u2 u3) (own_at u0 u1 u2 u3) now t0 r 1 x y z) = (own_loop (1 : Int32) (own_count (1 : Int32) u1 u2 u3) (own_at u0 u1 u2 u3) now t0 r 0 (1 : Int32) (xx, yy, zz))) (Ej : Exa Z h554 a1 "com/example/eskew/eskew/server/split/CounterValues") (Fj0 : Fld Z h554 a1 "com/example/eskew/eskew/server/split/CounterValues" "resting" "I" (.int xx)) (Fj1 : Fld Z h554 a1 "com/example/eskew/eskew/server/split/CounterValues" "restingSince" "J" (.long yy)) (Fj2 : Fld Z h554 a1 "com/example/eskew/eskew/server/split/CounterValues" "nextToRest" "I" (.int zz)) (Fj3 : Fld Z h554 a1 "com/example/eskew/eskew/server/split/CounterValues" "rereadNanos" "J" (.long r)) (Fj4 : Fld Z h554 a1 "com/example/eskew/eskew/server/split/CounterValues" "tallies" "[Lcom/example/eskew/eskew/server/split/CounterValues$Tally;" (.ref ta)), own_Go p e below (own_End s ({ frames := 0, cells := 0, slots := 0, locals := 0 } : Room).cells ({ frames := 0, cells := 0, slots := 0, locals := 0 } : Room).slots (Q_rm6_1 Z a1 b ta tl0 tl1 kb kt u0 u1 u2 u3 x z y now t0 r h0 n0)) T554 (mkF m 75 #[.val (.ref a1), .val (.ref b), .val (.long now), .second, .val (.int (1 : Int32)), .val (.int c0), .val (.int (1 : Int32)), s7] []) := by
        intro T554 L554 h554 X554 e554 N554 Kh xx yy zz s7 h7 hz hS Ej Fj0 Fj1 Fj2 Fj3 Fj4
        have Z554 : n0 ≤ h554.size := Nat.le_trans Z548 Kh.1
        have K554c := K548c.trans Kh (allS (Or.inl (List.mem_of_getElem? (i := 0) rfl)) all0)
        refine own_by (fun _ k => XS.aloadN X554.here hx rfl (hb hby d6_75) rfl rfl k) ?_
        obtain ⟨T555, X555, e555, st555⟩ := getF X554 hx hZ hown (host := "") (Or.inl (hw _ (List.mem_of_getElem? (i := 25) rfl))) Via.refl e554 Fj0 (g := (mkF m 76 #[.val (.ref a1), .val (.ref b), .val (.long now), .second, .val (.int (1 : Int32)), .val (.int c0), .val (.int (1 : Int32)), s7] [(.ref a1)])) rfl rfl (hb hby d6_76)
        refine own_by st555 ?_
        refine own_by (fun _ k => XS.iconst X555.here hx rfl (hb hby d6_79) k) ?_
        by_cases hxx : xx = (-1 : Int32)
        · refine own_by (fun _ k => XS.icmpNo X555.here hx rfl (hb hby d6_80) rfl (teq (hxx : xx = (-1 : Int32))).2 k) ?_
          refine own_by (fun _ k => XS.iload X555.here hx rfl (hb hby d6_83) rfl k) ?_
          refine own_by (fun _ k => XS.iconst X555.here hx rfl (hb hby d6_85) k) ?_
          by_cases hcc : (1 : Int32) < c0
          · refine own_by (fun _ k => XS.icmpNo X555.here hx rfl (hb hby d6_86) rfl (tlt (hcc : (1 : Int32) < c0)).2.2.2 k) ?_
            show own_Go p e below _ T555 (mkF m 89 #[.val (.ref a1), .val (.ref b), .val (.long now), .second, .val (.int (1 : Int32)), .val (.int c0), .val (.int (1 : Int32)), s7] [])
            refine own_by (fun _ k => XS.iload X555.here hx rfl (hb hby d6_89) rfl k) ?_
            refine own_by (fun _ k => XS.iload X555.here hx rfl (hb hby d6_91) rfl k) ?_
            refine own_by (fun _ k => XS.icmpYes X555.here hx rfl (pc0 := 93) (pc' := 167) rfl (hb hby d6_93) rfl (flt (by decide : ¬ ((1 : Int32) < (1 : Int32)))).2.1 (by decide) (by decide) k) ?_
            refine own_by (fun _ k => XS.aloadN X555.here hx rfl (hb hby d6_167) rfl rfl k) ?_
            obtain ⟨T556, X556, e556, st556⟩ := getF X555 hx hZ hown (host := "") (Or.inl (hw _ (List.mem_of_getElem? (i := 25) rfl))) Via.refl e555 Fj0 (g := (mkF m 168 #[.val (.ref a1), .val (.ref b), .val (.long now), .second, .val (.int (1 : Int32)), .val (.int c0), .val (.int (1 : Int32)), s7] [(.ref a1)])) rfl rfl (hb hby d6_168)
            refine own_by st556 ?_
            have hres : (own_rest (1 : Int32) (own_count (1 : Int32) u1 u2 u3) (own_at u0 u1 u2 u3) now t0 r 1 x y z) = (xx, yy, zz) := hS.trans (rfl)
            exact own_retI X556 hx hlk hret  (hb hby d6_171) (by first | exact ⟨by rw [hres], N554, K554c, Ej, by rw [hres]; exact Fj0, by rw [hres]; exact Fj1, by rw [hres]; exact Fj2, Fj3, Fj4⟩ | (rw [e556]; exact ⟨by rw [hres], N554, K554c, Ej, by rw [hres]; exact Fj0, by rw [hres]; exact Fj1, by rw [hres]; exact Fj2, Fj3, Fj4⟩)) (by decide) (by decide)
          · refine own_by (fun _ k => XS.icmpYes X555.here hx rfl (pc0 := 86) (pc' := 167) rfl (hb hby d6_86) rfl (flt (hcc : ¬ ((1 : Int32) < c0))).2.2.2 (by decide) (by decide) k) ?_
            show own_Go p e below _ T555 (mkF m 167 #[.val (.ref a1), .val (.ref b), .val (.long now), .second, .val (.int (1 : Int32)), .val (.int c0), .val (.int (1 : Int32)), s7] [])
            refine own_by (fun _ k => XS.aloadN X555.here hx rfl (hb hby d6_167) rfl rfl k) ?_
            obtain ⟨T557, X557, e557, st557⟩ := getF X555 hx hZ hown (host := "") (Or.inl (hw _ (List.mem_of_getElem? (i := 25) rfl))) Via.refl e555 Fj0 (g := (mkF m 168 #[.val (.ref a1), .val (.ref b), .val (.long now), .second, .val (.int (1 : Int32)), .val (.int c0), .val (.int (1 : Int32)), s7] [(.ref a1)])) rfl rfl (hb hby d6_168)
            refine own_by st557 ?_
            have hres : (own_rest (1 : Int32) (own_count (1 : Int32) u1 u2 u3) (own_at u0 u1 u2 u3) now t0 r 1 x y z) = (xx, yy, zz) := hS.trans (rfl)
            exact own_retI X557 hx hlk hret  (hb hby d6_171) (by first | exact ⟨by rw [hres], N554, K554c, Ej, by rw [hres]; exact Fj0, by rw [hres]; exact Fj1, by rw [hres]; exact Fj2, Fj3, Fj4⟩ | (rw [e557]; exact ⟨by rw [hres], N554, K554c, Ej, by rw [hres]; exact Fj0, by rw [hres]; exact Fj1, by rw [hres]; exact Fj2, Fj3, Fj4⟩)) (by decide) (by decide)
        · refine own_by (fun _ k => XS.icmpYes X555.here hx rfl (pc0 := 80) (pc' := 167) rfl (hb hby d6_80) rfl (feq (hxx : ¬ (xx = (-1 : Int32)))).2 (by decide) (by decide) k) ?_
          refine own_by (fun _ k => XS.aloadN X555.here hx rfl (hb hby d6_167) rfl rfl k) ?_
          obtain ⟨T558, X558, e558, st558⟩ := getF X555 hx hZ hown (host := "") (Or.inl (hw _ (List.mem_of_getElem? (i := 25) rfl))) Via.refl e555 Fj0 (g := (mkF m 168 #[.val (.ref a1), .val (.ref b), .val (.long now), .second, .val (.int (1 : Int32)), .val (.int c0), .val (.int (1 : Int32)), s7] [(.ref a1)])) rfl rfl (hb hby d6_168)
          refine own_by st558 ?_
          have hres : (own_rest (1 : Int32) (own_count (1 : Int32) u1 u2 u3) (own_at u0 u1 u2 u3) now t0 r 1 x y z) = (xx, yy, zz) := hS.trans (rfl)
          exact own_retI X558 hx hlk hret  (hb hby d6_171) (by first | exact ⟨by rw [hres], N554, K554c, Ej, by rw [hres]; exact Fj0, by rw [hres]; exact Fj1, by rw [hres]; exact Fj2, Fj3, Fj4⟩ | (rw [e558]; exact ⟨by rw [hres], N554, K554c, Ej, by rw [hres]; exact Fj0, by rw [hres]; exact Fj1, by rw [hres]; exact Fj2, Fj3, Fj4⟩)) (by decide) (by decide)
      have J75_0 : ∀ (T559 : State) (L559 : List Loc) (h559 : Heap) (X559 : Stand p l e ({ frames := 0, cells := 0, slots := 0, locals := 0 } : Room) s m #[(.ref a1), (.ref b), (.long now)] below meth c T559 L559 0 0) (e559 : T559.heap = h559) (N559 : Fr n0 L559) (Kh : Keep h548 h559 [a1])  (xx : Int32) (yy : Int64) (zz : Int32) (s7 : Slot) (h7 : One s7) (hz : own_in (1 : Int32) zz) (hS : (own_rest (1 : Int32) (own_count (1 : Int32) u1 u2 u3) (own_at u0 u1 u2 u3) now t0 r 1 x y z) = (own_loop (1 : Int32) (own_count (1 : Int32) u1 u2 u3) (own_at u0 u1 u2 u3) now t0 r 1 (0 : Int32) (xx, yy, zz))) (Ej : Exa Z h559 a1 "com/example/eskew/eskew/server/split/CounterValues") (Fj0 : Fld Z h559 a1 "com/example/eskew/eskew/server/split/CounterValues" "resting" "I" (.int xx)) (Fj1 : Fld Z h559 a1 "com/example/eskew/eskew/server/split/CounterValues" "restingSince" "J" (.long yy)) (Fj2 : Fld Z h559 a1 "com/example/eskew/eskew/server/split/CounterValues" "nextToRest" "I" (.int zz)) (Fj3 : Fld Z h559 a1 "com/example/eskew/eskew/server/split/CounterValues" "rereadNanos" "J" (.long r)) (Fj4 : Fld Z h559 a1 "com/example/eskew/eskew/server/split/CounterValues" "tallies" "[Lcom/example/eskew/eskew/server/split/CounterValues$Tally;" (.ref ta)), own_Go p e below (own_End s ({ frames := 0, cells := 0, slots := 0, locals := 0 } : Room).cells ({ frames := 0, cells := 0, slots := 0, locals := 0 } : Room).slots (Q_rm6_1 Z a1 b ta tl0 tl1 kb kt u0 u1 u2 u3 x z y now t0 r h0 n0)) T559 (mkF m 75 #[.val (.ref a1), .val (.ref b), .val (.long now), .second, .val (.int (1 : Int32)), .val (.int c0), .val (.int (0 : Int32)), s7] []) := by
        intro T559 L559 h559 X559 e559 N559 Kh xx yy zz s7 h7 hz hS Ej Fj0 Fj1 Fj2 Fj3 Fj4
        have Z559 : n0 ≤ h559.size := Nat.le_trans Z548 Kh.1
        have K559c := K548c.trans Kh (allS (Or.inl (List.mem_of_getElem? (i := 0) rfl)) all0)
        refine own_by (fun _ k => XS.aloadN X559.here hx rfl (hb hby d6_75) rfl rfl k) ?_
        obtain ⟨T560, X560, e560, st560⟩ := getF X559 hx hZ hown (host := "") (Or.inl (hw _ (List.mem_of_getElem? (i := 25) rfl))) Via.refl e559 Fj0 (g := (mkF m 76 #[.val (.ref a1), .val (.ref b), .val (.long now), .second, .val (.int (1 : Int32)), .val (.int c0), .val (.int (0 : Int32)), s7] [(.ref a1)])) rfl rfl (hb hby d6_76)
        refine own_by st560 ?_
        refine own_by (fun _ k => XS.iconst X560.here hx rfl (hb hby d6_79) k) ?_
        by_cases hxx : xx = (-1 : Int32)
        · refine own_by (fun _ k => XS.icmpNo X560.here hx rfl (hb hby d6_80) rfl (teq (hxx : xx = (-1 : Int32))).2 k) ?_
          refine own_by (fun _ k => XS.iload X560.here hx rfl (hb hby d6_83) rfl k) ?_
          refine own_by (fun _ k => XS.iconst X560.here hx rfl (hb hby d6_85) k) ?_
          by_cases hcc : (1 : Int32) < c0
          · refine own_by (fun _ k => XS.icmpNo X560.here hx rfl (hb hby d6_86) rfl (tlt (hcc : (1 : Int32) < c0)).2.2.2 k) ?_
            show own_Go p e below _ T560 (mkF m 89 #[.val (.ref a1), .val (.ref b), .val (.long now), .second, .val (.int (1 : Int32)), .val (.int c0), .val (.int (0 : Int32)), s7] [])
            refine own_by (fun _ k => XS.iload X560.here hx rfl (hb hby d6_89) rfl k) ?_
            refine own_by (fun _ k => XS.iload X560.here hx rfl (hb hby d6_91) rfl k) ?_
            have hcc' : (1 : Int32) < (own_count (1 : Int32) u1 u2 u3) := hc0 ▸ hcc
            refine own_by (fun _ k => XS.icmpNo X560.here hx rfl (hb hby d6_93) rfl (tlt (by decide : (0 : Int32) < (1 : Int32))).2.1 k) ?_
            refine own_by (fun _ k => XS.iconst X560.here hx rfl (hb hby d6_96) k) ?_
            refine own_by (fun _ k => XS.aloadN X560.here hx rfl (hb hby d6_97) rfl rfl k) ?_
            obtain ⟨T561, X561, e561, st561⟩ := getF X560 hx hZ hown (host := "") (Or.inl (hw _ (List.mem_of_getElem? (i := 27) rfl))) Via.refl e560 Fj2 (g := (mkF m 98 #[.val (.ref a1), .val (.ref b), .val (.long now), .second, .val (.int (1 : Int32)), .val (.int c0), .val (.int (0 : Int32)), s7] [(.ref a1), (.int (1 : Int32))])) rfl rfl (hb hby d6_98)
            refine own_by st561 ?_
            refine own_by (fun _ k => XS.iconst X561.here hx rfl (hb hby d6_101) k) ?_
            refine own_by (fun _ k => XS.isub X561.here hx rfl (hb hby d6_102) rfl k) ?_
            refine own_by (fun _ k => XS.iload X561.here hx rfl (hb hby d6_103) rfl k) ?_
            show own_Go p e below _ T561 (mkF m 105 #[.val (.ref a1), .val (.ref b), .val (.long now), .second, .val (.int (1 : Int32)), .val (.int c0), .val (.int (0 : Int32)), s7] [(.int (0 : Int32)), (.int (zz - (1 : Int32))), (.int (1 : Int32))])
            refine own_by (fun _ k => XS.iadd X561.here hx rfl (hb hby d6_105) rfl k) ?_
            refine own_by (fun _ k => XS.iload X561.here hx rfl (hb hby d6_106) rfl k) ?_
            refine own_by (fun _ k => iremM X561 hx rfl (hb hby d6_108) rfl (by decide) k) ?_
            refine own_by (fun _ k => XS.iadd X561.here hx rfl (hb hby d6_109) rfl k) ?_
            refine own_by (fun _ k => XS.istoreS X561.here hx rfl (hb hby d6_110) rfl rfl h7 k) ?_
            obtain ⟨sl, hsl⟩ : ∃ zq, zq = ((1 : Int32) + (((zz - (1 : Int32)) + (0 : Int32)) % (1 : Int32))) := ⟨_, rfl⟩
            show own_Go p e below _ T561 (mkF m 112 #[.val (.ref a1), .val (.ref b), .val (.long now), .second, .val (.int (1 : Int32)), .val (.int c0), .val (.int (0 : Int32)), .val (.int ((1 : Int32) + (((zz - (1 : Int32)) + (0 : Int32)) % (1 : Int32))))] [])
            rw [← hsl]
            have hs3 := own_slot (1 : Int32) zz (0 : Int32) hz (by decide) (by decide)
            rw [← hsl] at hs3
            have hin4 : ¬ sl < 0 ∧ sl < 4 := by rcases hs3 with q | ⟨q, -⟩ | ⟨q, -⟩ <;> rw [q] <;> decide
            refine own_by (fun _ k => XS.aloadN X561.here hx rfl (hb hby d6_112) rfl rfl k) ?_
            refine own_by (fun _ k => XS.iload X561.here hx rfl (hb hby d6_113) rfl k) ?_
            have f563 := (f553.keep Kh (ninS (Ne.symm mb) nin0))
            obtain ⟨cl562, Ar562, cq562, hin562, hat562, set562⟩ := own_arv f563 (j := sl) hin4
            refine own_by (fun _ k => X561.baloadBooleans hx (j := sl) (v := (.int ((own_at u0 u1 u2 u3) sl))) (by rw [e561]; exact Ar562.1) (State.isArrayOf_alike hZ.alike Ar562.2.1) Ar562.2.2 hin562 (by rw [hat562]; exact congrArg some (own_get _ hin4)) (g := (mkF m 115 #[.val (.ref a1), .val (.ref b), .val (.long now), .second, .val (.int (1 : Int32)), .val (.int c0), .val (.int (0 : Int32)), .val (.int sl)] [(.int sl), (.ref b)])) rfl rfl (hb hby d6_115) _ k) ?_
            by_cases hup : ((own_at u0 u1 u2 u3) sl) = (0 : Int32)
            · refine own_by (fun _ k => XS.ifYes X561.here hx rfl (pc0 := 116) (pc' := 161) rfl (hb hby d6_116) rfl ((if0 _ _).trans (teq (hup : ((own_at u0 u1 u2 u3) sl) = (0 : Int32))).1) (by decide) (by decide) k) ?_
              refine own_by (fun _ k => XS.iinc X561.here hx rfl (hb hby d6_161) rfl (l' := #[.val (.ref a1), .val (.ref b), .val (.long now), .second, .val (.int (1 : Int32)), .val (.int c0), .val (.int ((0 : Int32) + (1 : Int32))), .val (.int sl)]) rfl k) ?_
              refine own_by (fun _ k => XS.goto X561.here hx rfl (pc0 := 164) (pc' := 75) rfl (hb hby d6_164) (by decide) (by decide) k) ?_
              exact J75_1 T561 _ h559 X561 e561 N559 Kh xx yy zz _ (One.val rfl) hz (hS.trans ((own_skip (n := (1 : Int32)) (c := (own_count (1 : Int32) u1 u2 u3)) (u := (own_at u0 u1 u2 u3)) (now := now) (t0 := t0) (r := r) (k := 0) (i := (0 : Int32)) (s := (xx, yy, zz)) hxx hcc' (show ((own_at u0 u1 u2 u3) (1 + (zz - 1 + (0 : Int32)) % (1 : Int32)) = 0) by rw [← hsl]; exact hup)).trans (by rw [show (0 : Int32) + 1 = (1 : Int32) from by decide]))) Ej Fj0 Fj1 Fj2 Fj3 Fj4
            · refine own_by (fun _ k => XS.ifNo X561.here hx rfl (hb hby d6_116) rfl ((if0 _ _).trans (feq (hup : ¬ (((own_at u0 u1 u2 u3) sl) = (0 : Int32)))).1) k) ?_
              refine own_by (fun _ k => XS.lloadN X561.here hx rfl (hb hby d6_119) rfl k) ?_
              refine own_by (fun _ k => XS.aloadN X561.here hx rfl (hb hby d6_120) rfl rfl k) ?_
              obtain ⟨T564, X564, e564, st564⟩ := getF X561 hx hZ hown (host := "") (Or.inl (hw _ (List.mem_of_getElem? (i := 33) rfl))) Via.refl e561 Fj4 (g := (mkF m 121 #[.val (.ref a1), .val (.ref b), .val (.long now), .second, .val (.int (1 : Int32)), .val (.int c0), .val (.int (0 : Int32)), .val (.int sl)] [(.ref a1), (.long now)])) rfl rfl (hb hby d6_121)
              refine own_by st564 ?_
              refine own_by (fun _ k => XS.iload X564.here hx rfl (hb hby d6_124) rfl k) ?_
              show own_Go p e below _ T564 (mkF m 126 #[.val (.ref a1), .val (.ref b), .val (.long now), .second, .val (.int (1 : Int32)), .val (.int c0), .val (.int (0 : Int32)), .val (.int sl)] [(.int sl), (.ref ta), (.long now)])
              have f565 := ((S1.keep Kj (ninS (Ne.symm m1) nin0)).keep Kh (ninS (Ne.symm m1) nin0))
              obtain ⟨tt, htt, Ftt⟩ : ∃ tt, ([(.ref tl0), (.ref tl1)] : List Value).getD sl.toNatClampNeg .null = .ref tt ∧ Fld Z h559 tt "com/example/eskew/eskew/server/split/CounterValues$Tally" "since" "J" (.long t0) := by
                rcases hs3 with q | ⟨q, q'⟩ | ⟨q, q'⟩
                · rw [q]; exact ⟨tl1, rfl, f565⟩
                · exact absurd q' (by decide)
                · exact absurd q' (by decide)
              have f567 := (f551.keep Kh (ninS (Ne.symm mt) nin0))
              obtain ⟨cl566, Ar566, cq566, hin566, hat566, set566⟩ := own_arv f567 (j := sl) (show ¬ sl < 0 ∧ sl < (2 : Int32) by rcases hs3 with q | ⟨q, q'⟩ | ⟨q, q'⟩ <;> first | (rw [q]; decide) | exact absurd q' (by decide))
              refine own_by (fun _ k => X564.aaload hx (j := sl) (v := (.ref tt)) (by rw [e564]; exact Ar566.1) (State.isArrayOf_alike hZ.alike Ar566.2.1) rfl Ar566.2.2 hin566 (by rw [hat566]; exact congrArg some htt) (g := (mkF m 126 #[.val (.ref a1), .val (.ref b), .val (.long now), .second, .val (.int (1 : Int32)), .val (.int c0), .val (.int (0 : Int32)), .val (.int sl)] [(.int sl), (.ref ta), (.long now)])) rfl rfl (hb hby d6_126) _ k) ?_
              obtain ⟨T568, X568, e568, st568⟩ := own_getR X564 hx hZ hown (hw _ (List.mem_of_getElem? (i := 57) rfl)) e564 Ftt (g := (mkF m 127 #[.val (.ref a1), .val (.ref b), .val (.long now), .second, .val (.int (1 : Int32)), .val (.int c0), .val (.int (0 : Int32)), .val (.int sl)] [(.ref tt), (.long now)])) rfl rfl (hb hby d6_127)
              refine own_by st568 ?_
              refine own_by (fun _ k => XS.lsub X568.here hx rfl (hb hby d6_130) rfl k) ?_
              refine own_by (fun _ k => XS.aloadN X568.here hx rfl (hb hby d6_131) rfl rfl k) ?_
              obtain ⟨T569, X569, e569, st569⟩ := getF X568 hx hZ hown (host := "") (Or.inl (hw _ (List.mem_of_getElem? (i := 29) rfl))) Via.refl e568 Fj3 (g := (mkF m 132 #[.val (.ref a1), .val (.ref b), .val (.long now), .second, .val (.int (1 : Int32)), .val (.int c0), .val (.int (0 : Int32)), .val (.int sl)] [(.ref a1), (.long (now - t0))])) rfl rfl (hb hby d6_132)
              refine own_by st569 ?_
              refine own_by (fun _ k => XS.lcmp X569.here hx rfl (hb hby d6_135) rfl k) ?_
              by_cases hl : now - t0 < r
              · refine own_by (fun _ k => XS.ifYes X569.here hx rfl (pc0 := 136) (pc' := 161) rfl (hb hby d6_136) rfl ((if0 _ _).trans (tlt ((lw_lt _ _).mpr hl : (lcmpW (now - t0) r) < (0 : Int32))).1) (by decide) (by decide) k) ?_
                refine own_by (fun _ k => XS.iinc X569.here hx rfl (hb hby d6_161) rfl (l' := #[.val (.ref a1), .val (.ref b), .val (.long now), .second, .val (.int (1 : Int32)), .val (.int c0), .val (.int ((0 : Int32) + (1 : Int32))), .val (.int sl)]) rfl k) ?_
                refine own_by (fun _ k => XS.goto X569.here hx rfl (pc0 := 164) (pc' := 75) rfl (hb hby d6_164) (by decide) (by decide) k) ?_
                show own_Go p e below _ T569 (mkF m 75 #[.val (.ref a1), .val (.ref b), .val (.long now), .second, .val (.int (1 : Int32)), .val (.int c0), .val (.int ((0 : Int32) + (1 : Int32))), .val (.int sl)] [])
                exact J75_1 T569 _ h559 X569 e569 N559 Kh xx yy zz _ (One.val rfl) hz (hS.trans ((own_late (n := (1 : Int32)) (c := (own_count (1 : Int32) u1 u2 u3)) (u := (own_at u0 u1 u2 u3)) (now := now) (t0 := t0) (r := r) (k := 0) (i := (0 : Int32)) (s := (xx, yy, zz)) hxx hcc' (show ¬ ((own_at u0 u1 u2 u3) (1 + (zz - 1 + (0 : Int32)) % (1 : Int32)) = 0) by rw [← hsl]; exact hup) hl).trans (by rw [show (0 : Int32) + 1 = (1 : Int32) from by decide]))) Ej Fj0 Fj1 Fj2 Fj3 Fj4
              · refine own_by (fun _ k => XS.ifNo X569.here hx rfl (hb hby d6_136) rfl ((if0 _ _).trans (flt (fun q => hl ((lw_lt _ _).mp q) : ¬ ((lcmpW (now - t0) r) < (0 : Int32)))).1) k) ?_
                refine own_by (fun _ k => XS.aloadN X569.here hx rfl (hb hby d6_139) rfl rfl k) ?_
                refine own_by (fun _ k => XS.iload X569.here hx rfl (hb hby d6_140) rfl k) ?_
                show own_Go p e below _ T569 (mkF m 142 #[.val (.ref a1), .val (.ref b), .val (.long now), .second, .val (.int (1 : Int32)), .val (.int c0), .val (.int (0 : Int32)), .val (.int sl)] [(.int sl), (.ref a1)])
                obtain ⟨T570, h570, X570, e570, W570, st570⟩ := putF X569 hx hZ hown (host := "") (Or.inl (hw _ (List.mem_of_getElem? (i := 25) rfl))) Via.refl e569 Fj0 Ej (Or.inl (hw _ (List.mem_of_getElem? (i := 26) rfl))) (hw _ (List.mem_of_getElem? (i := 6) rfl)) (ty := .int) (by decide) rfl rfl (g := (mkF m 142 #[.val (.ref a1), .val (.ref b), .val (.long now), .second, .val (.int (1 : Int32)), .val (.int c0), .val (.int (0 : Int32)), .val (.int sl)] [(.int sl), (.ref a1)])) rfl rfl (hb hby d6_142)
                refine own_by st570 ?_
                have N570 := Fr.snoc X570 N559 g1
                have fw570 := Fj0.same W570
                have KB571 := Kh.wr W570 (Or.inl (List.mem_of_getElem? (i := 0) rfl))
                have K572 := K559c.wr W570 (Or.inl (List.mem_of_getElem? (i := 0) rfl))
                have Z570 : n0 ≤ h570.size := Nat.le_trans Z559 (Keep.of_wr W570).1
                refine own_by (fun _ k => XS.aloadN X570.here hx rfl (hb hby d6_145) rfl rfl k) ?_
                refine own_by (fun _ k => XS.lloadN X570.here hx rfl (hb hby d6_146) rfl k) ?_
                have f574 := (Fj1.other W570 (Or.inr (slot_ne (Or.inl (hw _ (List.mem_of_getElem? (i := 59) rfl))) (Or.inl (hw _ (List.mem_of_getElem? (i := 26) rfl))) (by decide) (t := .long) (t' := .int) (by decide) (by decide))))
                have f575 := (Ej.wr W570)
                obtain ⟨T573, h573, X573, e573, W573, st573⟩ := putF X570 hx hZ hown (host := "") (Or.inl (hw _ (List.mem_of_getElem? (i := 58) rfl))) Via.refl e570 f574 f575 (Or.inl (hw _ (List.mem_of_getElem? (i := 59) rfl))) (hw _ (List.mem_of_getElem? (i := 6) rfl)) (ty := .long) (by decide) rfl rfl (g := (mkF m 147 #[.val (.ref a1), .val (.ref b), .val (.long now), .second, .val (.int (1 : Int32)), .val (.int c0), .val (.int (0 : Int32)), .val (.int sl)] [(.long now), (.ref a1)])) rfl rfl (hb hby d6_147)
                refine own_by st573 ?_
                have N573 := Fr.snoc X573 N570 g1
                have fw573 := f574.same W573
                have KB576 := KB571.wr W573 (Or.inl (List.mem_of_getElem? (i := 0) rfl))
                have K577 := K572.wr W573 (Or.inl (List.mem_of_getElem? (i := 0) rfl))
                have Z573 : n0 ≤ h573.size := Nat.le_trans Z570 (Keep.of_wr W573).1
                refine own_by (fun _ k => XS.aloadN X573.here hx rfl (hb hby d6_150) rfl rfl k) ?_
                refine own_by (fun _ k => XS.iconst X573.here hx rfl (hb hby d6_151) k) ?_
                refine own_by (fun _ k => XS.iload X573.here hx rfl (hb hby d6_152) rfl k) ?_
                refine own_by (fun _ k => XS.iload X573.here hx rfl (hb hby d6_154) rfl k) ?_
                refine own_by (fun _ k => iremM X573 hx rfl (hb hby d6_156) rfl (by decide) k) ?_
                show own_Go p e below _ T573 (mkF m 157 #[.val (.ref a1), .val (.ref b), .val (.long now), .second, .val (.int (1 : Int32)), .val (.int c0), .val (.int (0 : Int32)), .val (.int sl)] [(.int (sl % (1 : Int32))), (.int (1 : Int32)), (.ref a1)])
                refine own_by (fun _ k => XS.iadd X573.here hx rfl (hb hby d6_157) rfl k) ?_
                have f579 := ((Fj2.other W570 (Or.inr (slot_ne (Or.inl (hw _ (List.mem_of_getElem? (i := 28) rfl))) (Or.inl (hw _ (List.mem_of_getElem? (i := 26) rfl))) (by decide) (t := .int) (t' := .int) (by decide) (by decide)))).other W573 (Or.inr (slot_ne (Or.inl (hw _ (List.mem_of_getElem? (i := 28) rfl))) (Or.inl (hw _ (List.mem_of_getElem? (i := 59) rfl))) (by decide) (t := .int) (t' := .long) (by decide) (by decide))))
                have f580 := (f575.wr W573)
                obtain ⟨T578, h578, X578, e578, W578, st578⟩ := putF X573 hx hZ hown (host := "") (Or.inl (hw _ (List.mem_of_getElem? (i := 27) rfl))) Via.refl e573 f579 f580 (Or.inl (hw _ (List.mem_of_getElem? (i := 28) rfl))) (hw _ (List.mem_of_getElem? (i := 6) rfl)) (ty := .int) (by decide) rfl rfl (g := (mkF m 158 #[.val (.ref a1), .val (.ref b), .val (.long now), .second, .val (.int (1 : Int32)), .val (.int c0), .val (.int (0 : Int32)), .val (.int sl)] [(.int ((1 : Int32) + (sl % (1 : Int32)))), (.ref a1)])) rfl rfl (hb hby d6_158)
                refine own_by st578 ?_
                have N578 := Fr.snoc X578 N573 g1
                have fw578 := f579.same W578
                have KB581 := KB576.wr W578 (Or.inl (List.mem_of_getElem? (i := 0) rfl))
                have K582 := K577.wr W578 (Or.inl (List.mem_of_getElem? (i := 0) rfl))
                have Z578 : n0 ≤ h578.size := Nat.le_trans Z573 (Keep.of_wr W578).1
                refine own_by (fun _ k => XS.iinc X578.here hx rfl (hb hby d6_161) rfl (l' := #[.val (.ref a1), .val (.ref b), .val (.long now), .second, .val (.int (1 : Int32)), .val (.int c0), .val (.int ((0 : Int32) + (1 : Int32))), .val (.int sl)]) rfl k) ?_
                refine own_by (fun _ k => XS.goto X578.here hx rfl (pc0 := 164) (pc' := 75) rfl (hb hby d6_164) (by decide) (by decide) k) ?_
                have f583 := (f580.wr W578)
                have f584 := ((fw570.other W573 (Or.inr (slot_ne (Or.inl (hw _ (List.mem_of_getElem? (i := 26) rfl))) (Or.inl (hw _ (List.mem_of_getElem? (i := 59) rfl))) (by decide) (t := .int) (t' := .long) (by decide) (by decide)))).other W578 (Or.inr (slot_ne (Or.inl (hw _ (List.mem_of_getElem? (i := 26) rfl))) (Or.inl (hw _ (List.mem_of_getElem? (i := 28) rfl))) (by decide) (t := .int) (t' := .int) (by decide) (by decide))))
                have f585 := (fw573.other W578 (Or.inr (slot_ne (Or.inl (hw _ (List.mem_of_getElem? (i := 59) rfl))) (Or.inl (hw _ (List.mem_of_getElem? (i := 28) rfl))) (by decide) (t := .long) (t' := .int) (by decide) (by decide))))
                have f586 := (((Fj3.other W570 (Or.inr (slot_ne (Or.inr (hw _ (List.mem_of_getElem? (i := 30) rfl))) (Or.inl (hw _ (List.mem_of_getElem? (i := 26) rfl))) (by decide) (t := .long) (t' := .int) (by decide) (by decide)))).other W573 (Or.inr (slot_ne (Or.inr (hw _ (List.mem_of_getElem? (i := 30) rfl))) (Or.inl (hw _ (List.mem_of_getElem? (i := 59) rfl))) (by decide) (t := .long) (t' := .long) (by decide) (by decide)))).other W578 (Or.inr (slot_ne (Or.inr (hw _ (List.mem_of_getElem? (i := 30) rfl))) (Or.inl (hw _ (List.mem_of_getElem? (i := 28) rfl))) (by decide) (t := .long) (t' := .int) (by decide) (by decide))))
                have f587 := (((Fj4.other W570 (Or.inr (slot_ne (Or.inr (hw _ (List.mem_of_getElem? (i := 34) rfl))) (Or.inl (hw _ (List.mem_of_getElem? (i := 26) rfl))) (by decide) (t := (.array (.object "com/example/eskew/eskew/server/split/CounterValues$Tally"))) (t' := .int) (by decide) (by decide)))).other W573 (Or.inr (slot_ne (Or.inr (hw _ (List.mem_of_getElem? (i := 34) rfl))) (Or.inl (hw _ (List.mem_of_getElem? (i := 59) rfl))) (by decide) (t := (.array (.object "com/example/eskew/eskew/server/split/CounterValues$Tally"))) (t' := .long) (by decide) (by decide)))).other W578 (Or.inr (slot_ne (Or.inr (hw _ (List.mem_of_getElem? (i := 34) rfl))) (Or.inl (hw _ (List.mem_of_getElem? (i := 28) rfl))) (by decide) (t := (.array (.object "com/example/eskew/eskew/server/split/CounterValues$Tally"))) (t' := .int) (by decide) (by decide))))
                exact J75_1 T578 _ h578 X578 e578 N578 KB581 sl now (1 + sl % (1 : Int32)) _ (One.val rfl) (by rcases hs3 with q | ⟨q, q'⟩ | ⟨q, q'⟩ <;> first | (rw [q]; decide) | exact absurd q' (by decide)) (hS.trans ((own_take (n := (1 : Int32)) (c := (own_count (1 : Int32) u1 u2 u3)) (u := (own_at u0 u1 u2 u3)) (now := now) (t0 := t0) (r := r) (k := 0) (i := (0 : Int32)) (s := (xx, yy, zz)) hxx hcc' (show ¬ ((own_at u0 u1 u2 u3) (1 + (zz - 1 + (0 : Int32)) % (1 : Int32)) = 0) by rw [← hsl]; exact hup) hl).trans (by rw [show (0 : Int32) + 1 = (1 : Int32) from by decide]; show own_loop _ _ _ _ _ _ _ _ (1 + (zz - 1 + (0 : Int32)) % (1 : Int32), now, 1 + (1 + (zz - 1 + (0 : Int32)) % (1 : Int32)) % (1 : Int32)) = _; rw [← hsl]))) f583 f584 f585 fw578 f586 f587
          · refine own_by (fun _ k => XS.icmpYes X560.here hx rfl (pc0 := 86) (pc' := 167) rfl (hb hby d6_86) rfl (flt (hcc : ¬ ((1 : Int32) < c0))).2.2.2 (by decide) (by decide) k) ?_
            show own_Go p e below _ T560 (mkF m 167 #[.val (.ref a1), .val (.ref b), .val (.long now), .second, .val (.int (1 : Int32)), .val (.int c0), .val (.int (0 : Int32)), s7] [])
            refine own_by (fun _ k => XS.aloadN X560.here hx rfl (hb hby d6_167) rfl rfl k) ?_
            obtain ⟨T588, X588, e588, st588⟩ := getF X560 hx hZ hown (host := "") (Or.inl (hw _ (List.mem_of_getElem? (i := 25) rfl))) Via.refl e560 Fj0 (g := (mkF m 168 #[.val (.ref a1), .val (.ref b), .val (.long now), .second, .val (.int (1 : Int32)), .val (.int c0), .val (.int (0 : Int32)), s7] [(.ref a1)])) rfl rfl (hb hby d6_168)
            refine own_by st588 ?_
            have hres : (own_rest (1 : Int32) (own_count (1 : Int32) u1 u2 u3) (own_at u0 u1 u2 u3) now t0 r 1 x y z) = (xx, yy, zz) := hS.trans (own_out2 (n := (1 : Int32)) (c := (own_count (1 : Int32) u1 u2 u3)) (u := (own_at u0 u1 u2 u3)) (now := now) (t0 := t0) (r := r) (k := 0) (i := (0 : Int32)) (s := (xx, yy, zz)) hxx (hc0 ▸ hcc))
            exact own_retI X588 hx hlk hret  (hb hby d6_171) (by first | exact ⟨by rw [hres], N559, K559c, Ej, by rw [hres]; exact Fj0, by rw [hres]; exact Fj1, by rw [hres]; exact Fj2, Fj3, Fj4⟩ | (rw [e588]; exact ⟨by rw [hres], N559, K559c, Ej, by rw [hres]; exact Fj0, by rw [hres]; exact Fj1, by rw [hres]; exact Fj2, Fj3, Fj4⟩)) (by decide) (by decide)
        · refine own_by (fun _ k => XS.icmpYes X560.here hx rfl (pc0 := 80) (pc' := 167) rfl (hb hby d6_80) rfl (feq (hxx : ¬ (xx = (-1 : Int32)))).2 (by decide) (by decide) k) ?_
          refine own_by (fun _ k => XS.aloadN X560.here hx rfl (hb hby d6_167) rfl rfl k) ?_
          obtain ⟨T589, X589, e589, st589⟩ := getF X560 hx hZ hown (host := "") (Or.inl (hw _ (List.mem_of_getElem? (i := 25) rfl))) Via.refl e560 Fj0 (g := (mkF m 168 #[.val (.ref a1), .val (.ref b), .val (.long now), .second, .val (.int (1 : Int32)), .val (.int c0), .val (.int (0 : Int32)), s7] [(.ref a1)])) rfl rfl (hb hby d6_168)
          refine own_by st589 ?_
          have hres : (own_rest (1 : Int32) (own_count (1 : Int32) u1 u2 u3) (own_at u0 u1 u2 u3) now t0 r 1 x y z) = (xx, yy, zz) := hS.trans (own_out1 (n := (1 : Int32)) (c := (own_count (1 : Int32) u1 u2 u3)) (u := (own_at u0 u1 u2 u3)) (now := now) (t0 := t0) (r := r) (k := 0) (i := (0 : Int32)) (s := (xx, yy, zz)) hxx)
          exact own_retI X589 hx hlk hret  (hb hby d6_171) (by first | exact ⟨by rw [hres], N559, K559c, Ej, by rw [hres]; exact Fj0, by rw [hres]; exact Fj1, by rw [hres]; exact Fj2, Fj3, Fj4⟩ | (rw [e589]; exact ⟨by rw [hres], N559, K559c, Ej, by rw [hres]; exact Fj0, by rw [hres]; exact Fj1, by rw [hres]; exact Fj2, Fj3, Fj4⟩)) (by decide) (by decide)
      exact J75_0 T549 _ h548 X549 e549 N548 (Keep.refl _ _) x1 y z _ One.u hin (by rw [own_rest, hw1]) Ej Fj0 Fj1 Fj2 Fj3 Fj4
    by_cases ho1 : u1 = (0 : Int32)
    · refine own_by (fun _ k => XS.ifYes X549.here hx rfl (pc0 := 55) (pc' := 62) rfl (hb hby d6_55) rfl ((if0 _ _).trans (teq (ho1 : u1 = (0 : Int32))).1) (by decide) (by decide) k) ?_
      refine own_by (fun _ k => XS.iconst X549.here hx rfl (hb hby d6_62) k) ?_
      exact J63_1 _ (if_pos ho1).symm
    · refine own_by (fun _ k => XS.ifNo X549.here hx rfl (hb hby d6_55) rfl ((if0 _ _).trans (feq (ho1 : ¬ (u1 = (0 : Int32)))).1) k) ?_
      refine own_by (fun _ k => XS.iconst X549.here hx rfl (hb hby d6_58) k) ?_
      refine own_by (fun _ k => XS.goto X549.here hx rfl (pc0 := 59) (pc' := 63) rfl (hb hby d6_59) (by decide) (by decide) k) ?_
      exact J63_1 _ (if_neg ho1).symm
  refine own_by (fun _ k => XS.aloadN X0.here hx rfl (hb hby d6_0) rfl rfl k) ?_
  obtain ⟨T590, X590, e590, st590⟩ := getF X0 hx hZ hown (host := "") (Or.inl (hw _ (List.mem_of_getElem? (i := 25) rfl))) Via.refl e0 F_resting (g := (mkF m 1 #[.val (.ref a1), .val (.ref b), .val (.long now), .second, .unset, .unset, .unset, .unset] [(.ref a1)])) rfl rfl (hb hby d6_1)
  refine own_by st590 ?_
  refine own_by (fun _ k => XS.iconst X590.here hx rfl (hb hby d6_4) k) ?_
  by_cases hx0 : x = (-1 : Int32)
  · refine own_by (fun _ k => XS.icmpYes X590.here hx rfl (pc0 := 5) (pc' := 27) rfl (hb hby d6_5) rfl (teq (hx0 : x = (-1 : Int32))).1 (by decide) (by decide) k) ?_
    exact J27 T590 _ h0 X590 e590 N0 (Keep.refl _ _) _ (by simp only [own_wake, if_pos hx0]) E1 F_resting F_restingSince F_nextToRest F_rereadNanos F_tallies
  · refine own_by (fun _ k => XS.icmpNo X590.here hx rfl (hb hby d6_5) rfl (feq (hx0 : ¬ (x = (-1 : Int32)))).1 k) ?_
    refine own_by (fun _ k => XS.lloadN X590.here hx rfl (hb hby d6_8) rfl k) ?_
    refine own_by (fun _ k => XS.aloadN X590.here hx rfl (hb hby d6_9) rfl rfl k) ?_
    obtain ⟨T591, X591, e591, st591⟩ := getF X590 hx hZ hown (host := "") (Or.inl (hw _ (List.mem_of_getElem? (i := 58) rfl))) Via.refl e590 F_restingSince (g := (mkF m 10 #[.val (.ref a1), .val (.ref b), .val (.long now), .second, .unset, .unset, .unset, .unset] [(.ref a1), (.long now)])) rfl rfl (hb hby d6_10)
    refine own_by st591 ?_
    refine own_by (fun _ k => XS.lsub X591.here hx rfl (hb hby d6_13) rfl k) ?_
    show own_Go p e below _ T591 (mkF m 14 #[.val (.ref a1), .val (.ref b), .val (.long now), .second, .unset, .unset, .unset, .unset] [(.long (now - y))])
    refine own_by (fun _ k => XS.aloadN X591.here hx rfl (hb hby d6_14) rfl rfl k) ?_
    obtain ⟨T592, X592, e592, st592⟩ := getF X591 hx hZ hown (host := "") (Or.inl (hw _ (List.mem_of_getElem? (i := 29) rfl))) Via.refl e591 F_rereadNanos (g := (mkF m 15 #[.val (.ref a1), .val (.ref b), .val (.long now), .second, .unset, .unset, .unset, .unset] [(.ref a1), (.long (now - y))])) rfl rfl (hb hby d6_15)
    refine own_by st592 ?_
    refine own_by (fun _ k => XS.lcmp X592.here hx rfl (hb hby d6_18) rfl k) ?_
    by_cases hl0 : now - y < r
    · refine own_by (fun _ k => XS.ifYes X592.here hx rfl (pc0 := 19) (pc' := 27) rfl (hb hby d6_19) rfl ((if0 _ _).trans (tlt ((lw_lt _ _).mpr hl0 : (lcmpW (now - y) r) < (0 : Int32))).1) (by decide) (by decide) k) ?_
      exact J27 T592 _ h0 X592 e592 N0 (Keep.refl _ _) _ (by simp only [own_wake, if_neg hx0, if_pos hl0]) E1 F_resting F_restingSince F_nextToRest F_rereadNanos F_tallies
    · refine own_by (fun _ k => XS.ifNo X592.here hx rfl (hb hby d6_19) rfl ((if0 _ _).trans (flt (fun q => hl0 ((lw_lt _ _).mp q) : ¬ ((lcmpW (now - y) r) < (0 : Int32)))).1) k) ?_
      refine own_by (fun _ k => XS.aloadN X592.here hx rfl (hb hby d6_22) rfl rfl k) ?_
      refine own_by (fun _ k => XS.iconst X592.here hx rfl (hb hby d6_23) k) ?_
      obtain ⟨T593, h593, X593, e593, W593, st593⟩ := putF X592 hx hZ hown (host := "") (Or.inl (hw _ (List.mem_of_getElem? (i := 25) rfl))) Via.refl e592 F_resting E1 (Or.inl (hw _ (List.mem_of_getElem? (i := 26) rfl))) (hw _ (List.mem_of_getElem? (i := 6) rfl)) (ty := .int) (by decide) rfl rfl (g := (mkF m 24 #[.val (.ref a1), .val (.ref b), .val (.long now), .second, .unset, .unset, .unset, .unset] [(.int (-1 : Int32)), (.ref a1)])) rfl rfl (hb hby d6_24)
      refine own_by st593 ?_
      have N593 := Fr.snoc X593 N0 g1
      have fw593 := F_resting.same W593
      have K594 := K0.wr W593 (Or.inl (List.mem_of_getElem? (i := 0) rfl))
      have Z593 : n0 ≤ h593.size := Nat.le_trans Z0 (Keep.of_wr W593).1
      have f595 := (E1.wr W593)
      have f596 := (F_restingSince.other W593 (Or.inr (slot_ne (Or.inl (hw _ (List.mem_of_getElem? (i := 59) rfl))) (Or.inl (hw _ (List.mem_of_getElem? (i := 26) rfl))) (by decide) (t := .long) (t' := .int) (by decide) (by decide))))
      have f597 := (F_nextToRest.other W593 (Or.inr (slot_ne (Or.inl (hw _ (List.mem_of_getElem? (i := 28) rfl))) (Or.inl (hw _ (List.mem_of_getElem? (i := 26) rfl))) (by decide) (t := .int) (t' := .int) (by decide) (by decide))))
      have f598 := (F_rereadNanos.other W593 (Or.inr (slot_ne (Or.inr (hw _ (List.mem_of_getElem? (i := 30) rfl))) (Or.inl (hw _ (List.mem_of_getElem? (i := 26) rfl))) (by decide) (t := .long) (t' := .int) (by decide) (by decide))))
      have f599 := (F_tallies.other W593 (Or.inr (slot_ne (Or.inr (hw _ (List.mem_of_getElem? (i := 34) rfl))) (Or.inl (hw _ (List.mem_of_getElem? (i := 26) rfl))) (by decide) (t := (.array (.object "com/example/eskew/eskew/server/split/CounterValues$Tally"))) (t' := .int) (by decide) (by decide))))
      exact J27 T593 _ h593 X593 e593 N593 (Keep.of_wr W593) _ (by simp only [own_wake, if_neg hx0, if_neg hl0]) f595 fw593 f596 f597 f598 f599
def Q_rm8_2 (Z : State) (b : Addr) (kb : ClassId) (u0 u1 u2 u3 : Int32) (h0 : Heap) (n0 : Nat) (v : Option Value) (h : Heap) (L : List Loc) : Prop := v = some (.int (own_count (2 : Int32) u1 u2 u3)) ∧ Fr n0 L ∧ h = h0
theorem pn_rm8_2 : plainFor (⟨"com/example/eskew/eskew/server/split/CounterValuesRestingPinLaw", "count", "([ZI)I"⟩ : MethodName) = true := plainFor_of_name (by first | (simp [plainName, overriddenIn, x]; done) | decide +kernel)
theorem d8_22 : decode method_4_code 22 = .ok (.aload_n 0, 1) := by decide +kernel
theorem d8_23 : decode method_4_code 23 = .ok (.iconst 2, 1) := by decide +kernel
theorem d8_24 : decode method_4_code 24 = .ok (.baload, 1) := by decide +kernel
theorem d8_25 : decode method_4_code 25 = .ok (.ifCond .eq 7, 3) := by decide +kernel
theorem d8_28 : decode method_4_code 28 = .ok (.iload_n 2, 1) := by decide +kernel
theorem d8_29 : decode method_4_code 29 = .ok (.iconst 1, 1) := by decide +kernel
theorem d8_30 : decode method_4_code 30 = .ok (.iadd, 1) := by decide +kernel
theorem d8_31 : decode method_4_code 31 = .ok (.istore_n 2, 1) := by decide +kernel
set_option maxRecDepth 65536 in
set_option maxHeartbeats 40000000 in
theorem rm8_2 (l : Launch) (Z : State) (a0 : Array Value) (hw : ∀ d ∈ tables_1, d.before a0 Z = true) (ws : List Jvm.Cond) (b : Addr) (kb : ClassId) (u0 u1 u2 u3 : Int32) (h0 : Heap) (n0 : Nat) (Z0 : n0 ≤ h0.size) (V1 : Arv Z h0 b kb .boolean (4 : Int32) [(.int u0), (.int u1), (.int u2), (.int u3)] (.int (0 : Int32))) :
    own_Met l Z (⟨"com/example/eskew/eskew/server/split/CounterValuesRestingPinLaw", "count", "([ZI)I"⟩ : MethodName) method_4_code 3 (some .int) ws ({ frames := 0, cells := 0, slots := 0, locals := 0 } : Room) #[(.ref b), (.int (2 : Int32))] h0 (Q_rm8_2 Z b kb u0 u1 u2 u3 h0 n0) := by
  refine own_enter (g0 := fun m => (mkF m 0 #[.val (.ref b), .val (.int (2 : Int32)), .unset] [])) pn_rm8_2 (fun m => by first | (simp [entryFrame, mkF, argsToLocals, Value.category, maxLocals]; done) | rfl) ?_
  intro p e s m below meth c s₁ hx hby hml hown hnm hret hlk hZ X0 e0
  have hml : c.maxLocals = 3 := hml
  have hown : s.vm.findClass "com/example/eskew/eskew/server/split/CounterValuesRestingPinLaw" = some m.cls := hown
  have N0 := Fr.nil n0
  refine own_by (fun _ k => XS.iconst X0.here hx rfl (hb hby d8_0) k) ?_
  refine own_by (fun _ k => XS.istoreN X0.here hx rfl (hb hby d8_1) rfl (l' := #[.val (.ref b), .val (.int (2 : Int32)), .val (.int (0 : Int32))]) rfl k) ?_
  refine own_by (fun _ k => XS.iloadN X0.here hx rfl (hb hby d8_2) rfl k) ?_
  refine own_by (fun _ k => XS.iconst X0.here hx rfl (hb hby d8_3) k) ?_
  refine own_by (fun _ k => XS.icmpNo X0.here hx rfl (hb hby d8_4) rfl (flt (by decide : ¬ ((2 : Int32) < (1 : Int32)))).1 k) ?_
  refine own_by (fun _ k => XS.aloadN X0.here hx rfl (hb hby d8_7) rfl rfl k) ?_
  refine own_by (fun _ k => XS.iconst X0.here hx rfl (hb hby d8_8) k) ?_
  obtain ⟨cl600, Ar600, cq600, hin600, hat600, set600⟩ := own_arv V1 (j := (1 : Int32)) ⟨by decide, by decide⟩
  refine own_by (fun _ k => X0.baloadBooleans hx (j := (1 : Int32)) (v := (.int u1)) (by rw [e0]; exact Ar600.1) (State.isArrayOf_alike hZ.alike Ar600.2.1) Ar600.2.2 hin600 hat600 (g := (mkF m 9 #[.val (.ref b), .val (.int (2 : Int32)), .val (.int (0 : Int32))] [(.int (1 : Int32)), (.ref b)])) rfl rfl (hb hby d8_9) _ k) ?_
  show own_Go p e below _ s₁ (mkF m 10 #[.val (.ref b), .val (.int (2 : Int32)), .val (.int (0 : Int32))] [(.int u1)])
  by_cases z1 : u1 = (0 : Int32)
  · refine own_by (fun _ k => XS.ifYes X0.here hx rfl (pc0 := 10) (pc' := 17) rfl (hb hby d8_10) rfl ((if0 _ _).trans (teq (z1 : u1 = (0 : Int32))).1) (by decide) (by decide) k) ?_
    refine own_by (fun _ k => XS.iloadN X0.here hx rfl (hb hby d8_17) rfl k) ?_
    refine own_by (fun _ k => XS.iconst X0.here hx rfl (hb hby d8_18) k) ?_
    refine own_by (fun _ k => XS.icmpNo X0.here hx rfl (hb hby d8_19) rfl (flt (by decide : ¬ ((2 : Int32) < (2 : Int32)))).1 k) ?_
    refine own_by (fun _ k => XS.aloadN X0.here hx rfl (hb hby d8_22) rfl rfl k) ?_
    refine own_by (fun _ k => XS.iconst X0.here hx rfl (hb hby d8_23) k) ?_
    obtain ⟨cl601, Ar601, cq601, hin601, hat601, set601⟩ := own_arv V1 (j := (2 : Int32)) ⟨by decide, by decide⟩
    refine own_by (fun _ k => X0.baloadBooleans hx (j := (2 : Int32)) (v := (.int u2)) (by rw [e0]; exact Ar601.1) (State.isArrayOf_alike hZ.alike Ar601.2.1) Ar601.2.2 hin601 hat601 (g := (mkF m 24 #[.val (.ref b), .val (.int (2 : Int32)), .val (.int (0 : Int32))] [(.int (2 : Int32)), (.ref b)])) rfl rfl (hb hby d8_24) _ k) ?_
    by_cases z2 : u2 = (0 : Int32)
    · refine own_by (fun _ k => XS.ifYes X0.here hx rfl (pc0 := 25) (pc' := 32) rfl (hb hby d8_25) rfl ((if0 _ _).trans (teq (z2 : u2 = (0 : Int32))).1) (by decide) (by decide) k) ?_
      refine own_by (fun _ k => XS.iloadN X0.here hx rfl (hb hby d8_32) rfl k) ?_
      show own_Go p e below _ s₁ (mkF m 33 #[.val (.ref b), .val (.int (2 : Int32)), .val (.int (0 : Int32))] [(.int (2 : Int32))])
      refine own_by (fun _ k => XS.iconst X0.here hx rfl (hb hby d8_33) k) ?_
      refine own_by (fun _ k => XS.icmpYes X0.here hx rfl (pc0 := 34) (pc' := 47) rfl (hb hby d8_34) rfl (tlt (by decide : (2 : Int32) < (3 : Int32))).1 (by decide) (by decide) k) ?_
      refine own_by (fun _ k => XS.iloadN X0.here hx rfl (hb hby d8_47) rfl k) ?_
      exact own_retI X0 hx hlk hret  (hb hby d8_48) (by first | exact ⟨by simp only [own_count, own_one, if_pos z1, if_pos z2]; rfl, N0, rfl⟩ | (rw [e0]; exact ⟨by simp only [own_count, own_one, if_pos z1, if_pos z2]; rfl, N0, rfl⟩)) (by decide) (by decide)
    · refine own_by (fun _ k => XS.ifNo X0.here hx rfl (hb hby d8_25) rfl ((if0 _ _).trans (feq (z2 : ¬ (u2 = (0 : Int32)))).1) k) ?_
      refine own_by (fun _ k => XS.iloadN X0.here hx rfl (hb hby d8_28) rfl k) ?_
      show own_Go p e below _ s₁ (mkF m 29 #[.val (.ref b), .val (.int (2 : Int32)), .val (.int (0 : Int32))] [(.int (0 : Int32))])
      refine own_by (fun _ k => XS.iconst X0.here hx rfl (hb hby d8_29) k) ?_
      refine own_by (fun _ k => XS.iadd X0.here hx rfl (hb hby d8_30) rfl k) ?_
      refine own_by (fun _ k => XS.istoreN X0.here hx rfl (hb hby d8_31) rfl (l' := #[.val (.ref b), .val (.int (2 : Int32)), .val (.int ((0 : Int32) + (1 : Int32)))]) rfl k) ?_
      show own_Go p e below _ s₁ (mkF m 32 #[.val (.ref b), .val (.int (2 : Int32)), .val (.int ((0 : Int32) + (1 : Int32)))] [])
      rw [show (0 : Int32) + (1 : Int32) = (1 : Int32) from by decide]
      refine own_by (fun _ k => XS.iloadN X0.here hx rfl (hb hby d8_32) rfl k) ?_
      refine own_by (fun _ k => XS.iconst X0.here hx rfl (hb hby d8_33) k) ?_
      refine own_by (fun _ k => XS.icmpYes X0.here hx rfl (pc0 := 34) (pc' := 47) rfl (hb hby d8_34) rfl (tlt (by decide : (2 : Int32) < (3 : Int32))).1 (by decide) (by decide) k) ?_
      refine own_by (fun _ k => XS.iloadN X0.here hx rfl (hb hby d8_47) rfl k) ?_
      exact own_retI X0 hx hlk hret  (hb hby d8_48) (by first | exact ⟨by simp only [own_count, own_one, if_pos z1, if_neg z2]; rfl, N0, rfl⟩ | (rw [e0]; exact ⟨by simp only [own_count, own_one, if_pos z1, if_neg z2]; rfl, N0, rfl⟩)) (by decide) (by decide)
  · refine own_by (fun _ k => XS.ifNo X0.here hx rfl (hb hby d8_10) rfl ((if0 _ _).trans (feq (z1 : ¬ (u1 = (0 : Int32)))).1) k) ?_
    refine own_by (fun _ k => XS.iloadN X0.here hx rfl (hb hby d8_13) rfl k) ?_
    refine own_by (fun _ k => XS.iconst X0.here hx rfl (hb hby d8_14) k) ?_
    refine own_by (fun _ k => XS.iadd X0.here hx rfl (hb hby d8_15) rfl k) ?_
    refine own_by (fun _ k => XS.istoreN X0.here hx rfl (hb hby d8_16) rfl (l' := #[.val (.ref b), .val (.int (2 : Int32)), .val (.int ((0 : Int32) + (1 : Int32)))]) rfl k) ?_
    show own_Go p e below _ s₁ (mkF m 17 #[.val (.ref b), .val (.int (2 : Int32)), .val (.int ((0 : Int32) + (1 : Int32)))] [])
    rw [show (0 : Int32) + (1 : Int32) = (1 : Int32) from by decide]
    refine own_by (fun _ k => XS.iloadN X0.here hx rfl (hb hby d8_17) rfl k) ?_
    refine own_by (fun _ k => XS.iconst X0.here hx rfl (hb hby d8_18) k) ?_
    refine own_by (fun _ k => XS.icmpNo X0.here hx rfl (hb hby d8_19) rfl (flt (by decide : ¬ ((2 : Int32) < (2 : Int32)))).1 k) ?_
    refine own_by (fun _ k => XS.aloadN X0.here hx rfl (hb hby d8_22) rfl rfl k) ?_
    refine own_by (fun _ k => XS.iconst X0.here hx rfl (hb hby d8_23) k) ?_
    obtain ⟨cl602, Ar602, cq602, hin602, hat602, set602⟩ := own_arv V1 (j := (2 : Int32)) ⟨by decide, by decide⟩
    refine own_by (fun _ k => X0.baloadBooleans hx (j := (2 : Int32)) (v := (.int u2)) (by rw [e0]; exact Ar602.1) (State.isArrayOf_alike hZ.alike Ar602.2.1) Ar602.2.2 hin602 hat602 (g := (mkF m 24 #[.val (.ref b), .val (.int (2 : Int32)), .val (.int (1 : Int32))] [(.int (2 : Int32)), (.ref b)])) rfl rfl (hb hby d8_24) _ k) ?_
    by_cases z2 : u2 = (0 : Int32)
    · refine own_by (fun _ k => XS.ifYes X0.here hx rfl (pc0 := 25) (pc' := 32) rfl (hb hby d8_25) rfl ((if0 _ _).trans (teq (z2 : u2 = (0 : Int32))).1) (by decide) (by decide) k) ?_
      refine own_by (fun _ k => XS.iloadN X0.here hx rfl (hb hby d8_32) rfl k) ?_
      show own_Go p e below _ s₁ (mkF m 33 #[.val (.ref b), .val (.int (2 : Int32)), .val (.int (1 : Int32))] [(.int (2 : Int32))])
      refine own_by (fun _ k => XS.iconst X0.here hx rfl (hb hby d8_33) k) ?_
      refine own_by (fun _ k => XS.icmpYes X0.here hx rfl (pc0 := 34) (pc' := 47) rfl (hb hby d8_34) rfl (tlt (by decide : (2 : Int32) < (3 : Int32))).1 (by decide) (by decide) k) ?_
      refine own_by (fun _ k => XS.iloadN X0.here hx rfl (hb hby d8_47) rfl k) ?_
      exact own_retI X0 hx hlk hret  (hb hby d8_48) (by first | exact ⟨by simp only [own_count, own_one, if_neg z1, if_pos z2]; rfl, N0, rfl⟩ | (rw [e0]; exact ⟨by simp only [own_count, own_one, if_neg z1, if_pos z2]; rfl, N0, rfl⟩)) (by decide) (by decide)
    · refine own_by (fun _ k => XS.ifNo X0.here hx rfl (hb hby d8_25) rfl ((if0 _ _).trans (feq (z2 : ¬ (u2 = (0 : Int32)))).1) k) ?_
      refine own_by (fun _ k => XS.iloadN X0.here hx rfl (hb hby d8_28) rfl k) ?_
      show own_Go p e below _ s₁ (mkF m 29 #[.val (.ref b), .val (.int (2 : Int32)), .val (.int (1 : Int32))] [(.int (1 : Int32))])
      refine own_by (fun _ k => XS.iconst X0.here hx rfl (hb hby d8_29) k) ?_
      refine own_by (fun _ k => XS.iadd X0.here hx rfl (hb hby d8_30) rfl k) ?_
      refine own_by (fun _ k => XS.istoreN X0.here hx rfl (hb hby d8_31) rfl (l' := #[.val (.ref b), .val (.int (2 : Int32)), .val (.int ((1 : Int32) + (1 : Int32)))]) rfl k) ?_
      show own_Go p e below _ s₁ (mkF m 32 #[.val (.ref b), .val (.int (2 : Int32)), .val (.int ((1 : Int32) + (1 : Int32)))] [])
      rw [show (1 : Int32) + (1 : Int32) = (2 : Int32) from by decide]
      refine own_by (fun _ k => XS.iloadN X0.here hx rfl (hb hby d8_32) rfl k) ?_
      refine own_by (fun _ k => XS.iconst X0.here hx rfl (hb hby d8_33) k) ?_
      refine own_by (fun _ k => XS.icmpYes X0.here hx rfl (pc0 := 34) (pc' := 47) rfl (hb hby d8_34) rfl (tlt (by decide : (2 : Int32) < (3 : Int32))).1 (by decide) (by decide) k) ?_
      refine own_by (fun _ k => XS.iloadN X0.here hx rfl (hb hby d8_47) rfl k) ?_
      exact own_retI X0 hx hlk hret  (hb hby d8_48) (by first | exact ⟨by simp only [own_count, own_one, if_neg z1, if_neg z2]; rfl, N0, rfl⟩ | (rw [e0]; exact ⟨by simp only [own_count, own_one, if_neg z1, if_neg z2]; rfl, N0, rfl⟩)) (by decide) (by decide)
def Q_rm9_2 (Z : State) (b : Addr) (kb : ClassId) (u0 u1 u2 u3 x : Int32) (h0 : Heap) (n0 : Nat) (v : Option Value) (h : Heap) (L : List Loc) : Prop := v = some (.int (own_first (2 : Int32) (own_at u0 u1 u2 u3) x)) ∧ Fr n0 L ∧ h = h0
theorem pn_rm9_2 : plainFor (⟨"com/example/eskew/eskew/server/split/CounterValuesRestingPinLaw", "first", "([ZII)I"⟩ : MethodName) = true := plainFor_of_name (by first | (simp [plainName, overriddenIn, x]; done) | decide +kernel)
theorem d9_26 : decode method_6_code 26 = .ok (.aload_n 0, 1) := by decide +kernel
theorem d9_27 : decode method_6_code 27 = .ok (.iload_n 2, 1) := by decide +kernel
theorem d9_28 : decode method_6_code 28 = .ok (.iconst 1, 1) := by decide +kernel
theorem d9_29 : decode method_6_code 29 = .ok (.iadd, 1) := by decide +kernel
theorem d9_30 : decode method_6_code 30 = .ok (.iload_n 1, 1) := by decide +kernel
theorem d9_31 : decode method_6_code 31 = .ok (.invokestatic 26, 3) := by decide +kernel
theorem d9_34 : decode method_6_code 34 = .ok (.baload, 1) := by decide +kernel
theorem d9_35 : decode method_6_code 35 = .ok (.ifCond .eq 11, 3) := by decide +kernel
theorem d9_38 : decode method_6_code 38 = .ok (.iload_n 2, 1) := by decide +kernel
theorem d9_39 : decode method_6_code 39 = .ok (.iconst 1, 1) := by decide +kernel
theorem d9_40 : decode method_6_code 40 = .ok (.iadd, 1) := by decide +kernel
theorem d9_41 : decode method_6_code 41 = .ok (.iload_n 1, 1) := by decide +kernel
theorem d9_42 : decode method_6_code 42 = .ok (.invokestatic 26, 3) := by decide +kernel
theorem d9_45 : decode method_6_code 45 = .ok (.ireturn, 1) := by decide +kernel
set_option maxRecDepth 65536 in
set_option maxHeartbeats 40000000 in
theorem rm9_2 (l : Launch) (Z : State) (a0 : Array Value) (hw : ∀ d ∈ tables_1, d.before a0 Z = true) (ws : List Jvm.Cond) (b : Addr) (kb : ClassId) (u0 u1 u2 u3 x : Int32) (h0 : Heap) (n0 : Nat) (Z0 : n0 ≤ h0.size) (hin : own_in (2 : Int32) x) (V1 : Arv Z h0 b kb .boolean (4 : Int32) [(.int u0), (.int u1), (.int u2), (.int u3)] (.int (0 : Int32))) :
    own_Met l Z (⟨"com/example/eskew/eskew/server/split/CounterValuesRestingPinLaw", "first", "([ZII)I"⟩ : MethodName) method_6_code 3 (some .int) ws ({ frames := 1, cells := 0, slots := 0, locals := 32 } : Room) #[(.ref b), (.int (2 : Int32)), (.int x)] h0 (Q_rm9_2 Z b kb u0 u1 u2 u3 x h0 n0) := by
  refine own_enter (g0 := fun m => (mkF m 0 #[.val (.ref b), .val (.int (2 : Int32)), .val (.int x)] [])) pn_rm9_2 (fun m => by first | (simp [entryFrame, mkF, argsToLocals, Value.category, maxLocals]; done) | rfl) ?_
  intro p e s m below meth c s₁ hx hby hml hown hnm hret hlk hZ X0 e0
  have hml : c.maxLocals = 3 := hml
  have hown : s.vm.findClass "com/example/eskew/eskew/server/split/CounterValuesRestingPinLaw" = some m.cls := hown
  have N0 := Fr.nil n0
  have hnn : (2 : Int32) = 1 ∨ (2 : Int32) = 2 ∨ (2 : Int32) = 3 := by decide
  obtain ⟨r0, r1, r2⟩ := own_wr (2 : Int32) x hin hnn
  refine own_by (fun _ k => XS.iloadN X0.here hx rfl (hb hby d9_0) rfl k) ?_
  refine own_by (fun _ k => XS.iconst X0.here hx rfl (hb hby d9_1) k) ?_
  refine own_by (fun _ k => XS.icmpNo X0.here hx rfl (hb hby d9_2) rfl (flt (by decide : ¬ ((2 : Int32) < (1 : Int32)))).1 k) ?_
  refine own_by (fun _ k => XS.aloadN X0.here hx rfl (hb hby d9_5) rfl rfl k) ?_
  refine own_by (fun _ k => XS.iloadN X0.here hx rfl (hb hby d9_6) rfl k) ?_
  refine own_by (fun _ k => XS.iloadN X0.here hx rfl (hb hby d9_7) rfl k) ?_
  obtain ⟨_, T603, L603, X603, ⟨rfl, N603q, e603⟩, st603⟩ := own_callS X0 hx hZ hown (y := (⟨"com/example/eskew/eskew/server/split/CounterValuesRestingPinLaw", "wrap", "(II)I"⟩ : MethodName)) (hw _ (List.mem_of_getElem? (i := 63) rfl)) (hw _ (List.mem_of_getElem? (i := 64) rfl)) (hw _ (List.mem_of_getElem? (i := 2) rfl)) (hw _ (List.mem_of_getElem? (i := 65) rfl)) (by decide) (argsL := [(.int x), (.int (2 : Int32))]) (rest := [(.ref b)]) e0 (rm10 l Z a0 hw [] x (2 : Int32) h0 n0 Z0) (g := (mkF m 8 #[.val (.ref b), .val (.int (2 : Int32)), .val (.int x)] [(.int (2 : Int32)), (.int x), (.ref b)])) rfl (by rw [hml]; rfl) (lenOf pd_3 rfl) rfl (W := 1) (by show 2 * 0 + _ ≤ _; exact Nat.le_of_eq rfl) (hb hby d9_8) (by decide) (by decide) (by decide) (by decide)
  have N603 := Fr.app N0 N603q
  refine own_by st603 ?_
  obtain ⟨cl604, Ar604, cq604, hin604, hat604, set604⟩ := own_arv V1 (j := (own_wrap x (2 : Int32))) r0
  refine own_by (fun _ k => X603.baloadBooleans hx (j := (own_wrap x (2 : Int32))) (v := (.int ((own_at u0 u1 u2 u3) (own_wrap x (2 : Int32))))) (by rw [e603]; exact Ar604.1) (State.isArrayOf_alike hZ.alike Ar604.2.1) Ar604.2.2 hin604 (by rw [hat604]; exact congrArg some (own_get _ r0)) (g := (mkF m 11 #[.val (.ref b), .val (.int (2 : Int32)), .val (.int x)] [(.int (own_wrap x (2 : Int32))), (.ref b)])) rfl rfl (hb hby d9_11) _ k) ?_
  show own_Go p e below _ T603 (mkF m 12 #[.val (.ref b), .val (.int (2 : Int32)), .val (.int x)] [(.int ((own_at u0 u1 u2 u3) (own_wrap x (2 : Int32))))])
  by_cases z0 : ((own_at u0 u1 u2 u3) (own_wrap x (2 : Int32))) = (0 : Int32)
  · refine own_by (fun _ k => XS.ifYes X603.here hx rfl (pc0 := 12) (pc' := 21) rfl (hb hby d9_12) rfl ((if0 _ _).trans (teq (z0 : ((own_at u0 u1 u2 u3) (own_wrap x (2 : Int32))) = (0 : Int32))).1) (by decide) (by decide) k) ?_
    refine own_by (fun _ k => XS.iloadN X603.here hx rfl (hb hby d9_21) rfl k) ?_
    refine own_by (fun _ k => XS.iconst X603.here hx rfl (hb hby d9_22) k) ?_
    refine own_by (fun _ k => XS.icmpNo X603.here hx rfl (hb hby d9_23) rfl (flt (by decide : ¬ ((2 : Int32) < (2 : Int32)))).1 k) ?_
    refine own_by (fun _ k => XS.aloadN X603.here hx rfl (hb hby d9_26) rfl rfl k) ?_
    refine own_by (fun _ k => XS.iloadN X603.here hx rfl (hb hby d9_27) rfl k) ?_
    refine own_by (fun _ k => XS.iconst X603.here hx rfl (hb hby d9_28) k) ?_
    refine own_by (fun _ k => XS.iadd X603.here hx rfl (hb hby d9_29) rfl k) ?_
    refine own_by (fun _ k => XS.iloadN X603.here hx rfl (hb hby d9_30) rfl k) ?_
    show own_Go p e below _ T603 (mkF m 31 #[.val (.ref b), .val (.int (2 : Int32)), .val (.int x)] [(.int (2 : Int32)), (.int (x + (1 : Int32))), (.ref b)])
    obtain ⟨_, T605, L605, X605, ⟨rfl, N605q, e605⟩, st605⟩ := own_callS X603 hx hZ hown (y := (⟨"com/example/eskew/eskew/server/split/CounterValuesRestingPinLaw", "wrap", "(II)I"⟩ : MethodName)) (hw _ (List.mem_of_getElem? (i := 63) rfl)) (hw _ (List.mem_of_getElem? (i := 64) rfl)) (hw _ (List.mem_of_getElem? (i := 2) rfl)) (hw _ (List.mem_of_getElem? (i := 65) rfl)) (by decide) (argsL := [(.int (x + (1 : Int32))), (.int (2 : Int32))]) (rest := [(.ref b)]) e603 (rm10 l Z a0 hw [] (x + (1 : Int32)) (2 : Int32) h0 n0 Z0) (g := (mkF m 31 #[.val (.ref b), .val (.int (2 : Int32)), .val (.int x)] [(.int (2 : Int32)), (.int (x + (1 : Int32))), (.ref b)])) rfl (by rw [hml]; rfl) (lenOf pd_3 rfl) rfl (W := 1) (by show 2 * 0 + _ ≤ _; exact Nat.le_of_eq rfl) (hb hby d9_31) (by decide) (by decide) (by decide) (by decide)
    have N605 := Fr.app N603 N605q
    refine own_by st605 ?_
    obtain ⟨cl606, Ar606, cq606, hin606, hat606, set606⟩ := own_arv V1 (j := (own_wrap (x + (1 : Int32)) (2 : Int32))) (r1 (by decide))
    refine own_by (fun _ k => X605.baloadBooleans hx (j := (own_wrap (x + (1 : Int32)) (2 : Int32))) (v := (.int ((own_at u0 u1 u2 u3) (own_wrap (x + (1 : Int32)) (2 : Int32))))) (by rw [e605]; exact Ar606.1) (State.isArrayOf_alike hZ.alike Ar606.2.1) Ar606.2.2 hin606 (by rw [hat606]; exact congrArg some (own_get _ (r1 (by decide)))) (g := (mkF m 34 #[.val (.ref b), .val (.int (2 : Int32)), .val (.int x)] [(.int (own_wrap (x + (1 : Int32)) (2 : Int32))), (.ref b)])) rfl rfl (hb hby d9_34) _ k) ?_
    by_cases z1 : ((own_at u0 u1 u2 u3) (own_wrap (x + (1 : Int32)) (2 : Int32))) = (0 : Int32)
    · refine own_by (fun _ k => XS.ifYes X605.here hx rfl (pc0 := 35) (pc' := 46) rfl (hb hby d9_35) rfl ((if0 _ _).trans (teq (z1 : ((own_at u0 u1 u2 u3) (own_wrap (x + (1 : Int32)) (2 : Int32))) = (0 : Int32))).1) (by decide) (by decide) k) ?_
      refine own_by (fun _ k => XS.iloadN X605.here hx rfl (hb hby d9_46) rfl k) ?_
      refine own_by (fun _ k => XS.iconst X605.here hx rfl (hb hby d9_47) k) ?_
      refine own_by (fun _ k => XS.icmpYes X605.here hx rfl (pc0 := 48) (pc' := 71) rfl (hb hby d9_48) rfl (tlt (by decide : (2 : Int32) < (3 : Int32))).1 (by decide) (by decide) k) ?_
      refine own_by (fun _ k => XS.iconst X605.here hx rfl (hb hby d9_71) k) ?_
      exact own_retI X605 hx hlk hret  (hb hby d9_72) (by first | exact ⟨by simp only [own_first, if_pos (Or.inr z0 : (2 : Int32) < (1 : Int32) ∨ ((own_at u0 u1 u2 u3) (own_wrap x (2 : Int32))) = 0), if_pos (Or.inr z1 : (2 : Int32) < (2 : Int32) ∨ ((own_at u0 u1 u2 u3) (own_wrap (x + (1 : Int32)) (2 : Int32))) = 0), if_pos (Or.inl (by decide : (2 : Int32) < (3 : Int32)))]; rfl, N605, rfl⟩ | (rw [e605]; exact ⟨by simp only [own_first, if_pos (Or.inr z0 : (2 : Int32) < (1 : Int32) ∨ ((own_at u0 u1 u2 u3) (own_wrap x (2 : Int32))) = 0), if_pos (Or.inr z1 : (2 : Int32) < (2 : Int32) ∨ ((own_at u0 u1 u2 u3) (own_wrap (x + (1 : Int32)) (2 : Int32))) = 0), if_pos (Or.inl (by decide : (2 : Int32) < (3 : Int32)))]; rfl, N605, rfl⟩)) (by decide) (by decide)
    · refine own_by (fun _ k => XS.ifNo X605.here hx rfl (hb hby d9_35) rfl ((if0 _ _).trans (feq (z1 : ¬ (((own_at u0 u1 u2 u3) (own_wrap (x + (1 : Int32)) (2 : Int32))) = (0 : Int32)))).1) k) ?_
      refine own_by (fun _ k => XS.iloadN X605.here hx rfl (hb hby d9_38) rfl k) ?_
      refine own_by (fun _ k => XS.iconst X605.here hx rfl (hb hby d9_39) k) ?_
      refine own_by (fun _ k => XS.iadd X605.here hx rfl (hb hby d9_40) rfl k) ?_
      refine own_by (fun _ k => XS.iloadN X605.here hx rfl (hb hby d9_41) rfl k) ?_
      obtain ⟨_, T607, L607, X607, ⟨rfl, N607q, e607⟩, st607⟩ := own_callS X605 hx hZ hown (y := (⟨"com/example/eskew/eskew/server/split/CounterValuesRestingPinLaw", "wrap", "(II)I"⟩ : MethodName)) (hw _ (List.mem_of_getElem? (i := 63) rfl)) (hw _ (List.mem_of_getElem? (i := 64) rfl)) (hw _ (List.mem_of_getElem? (i := 2) rfl)) (hw _ (List.mem_of_getElem? (i := 65) rfl)) (by decide) (argsL := [(.int (x + (1 : Int32))), (.int (2 : Int32))]) (rest := []) e605 (rm10 l Z a0 hw [] (x + (1 : Int32)) (2 : Int32) h0 n0 Z0) (g := (mkF m 42 #[.val (.ref b), .val (.int (2 : Int32)), .val (.int x)] [(.int (2 : Int32)), (.int (x + (1 : Int32)))])) rfl (by rw [hml]; rfl) (lenOf pd_3 rfl) rfl (W := 0) (by show 2 * 0 + _ ≤ _; exact Nat.le_of_eq rfl) (hb hby d9_42) (by decide) (by decide) (by decide) (by decide)
      have N607 := Fr.app N605 N607q
      refine own_by st607 ?_
      exact own_retI X607 hx hlk hret  (hb hby d9_45) (by first | exact ⟨by simp only [own_first, if_pos (Or.inr z0 : (2 : Int32) < (1 : Int32) ∨ ((own_at u0 u1 u2 u3) (own_wrap x (2 : Int32))) = 0), if_neg (show ¬ ((2 : Int32) < (2 : Int32) ∨ ((own_at u0 u1 u2 u3) (own_wrap (x + (1 : Int32)) (2 : Int32))) = 0) from fun q => q.elim (by decide) z1)], N607, rfl⟩ | (rw [e607]; exact ⟨by simp only [own_first, if_pos (Or.inr z0 : (2 : Int32) < (1 : Int32) ∨ ((own_at u0 u1 u2 u3) (own_wrap x (2 : Int32))) = 0), if_neg (show ¬ ((2 : Int32) < (2 : Int32) ∨ ((own_at u0 u1 u2 u3) (own_wrap (x + (1 : Int32)) (2 : Int32))) = 0) from fun q => q.elim (by decide) z1)], N607, rfl⟩)) (by decide) (by decide)
  · refine own_by (fun _ k => XS.ifNo X603.here hx rfl (hb hby d9_12) rfl ((if0 _ _).trans (feq (z0 : ¬ (((own_at u0 u1 u2 u3) (own_wrap x (2 : Int32))) = (0 : Int32)))).1) k) ?_
    refine own_by (fun _ k => XS.iloadN X603.here hx rfl (hb hby d9_15) rfl k) ?_
    refine own_by (fun _ k => XS.iloadN X603.here hx rfl (hb hby d9_16) rfl k) ?_
    obtain ⟨_, T608, L608, X608, ⟨rfl, N608q, e608⟩, st608⟩ := own_callS X603 hx hZ hown (y := (⟨"com/example/eskew/eskew/server/split/CounterValuesRestingPinLaw", "wrap", "(II)I"⟩ : MethodName)) (hw _ (List.mem_of_getElem? (i := 63) rfl)) (hw _ (List.mem_of_getElem? (i := 64) rfl)) (hw _ (List.mem_of_getElem? (i := 2) rfl)) (hw _ (List.mem_of_getElem? (i := 65) rfl)) (by decide) (argsL := [(.int x), (.int (2 : Int32))]) (rest := []) e603 (rm10 l Z a0 hw [] x (2 : Int32) h0 n0 Z0) (g := (mkF m 17 #[.val (.ref b), .val (.int (2 : Int32)), .val (.int x)] [(.int (2 : Int32)), (.int x)])) rfl (by rw [hml]; rfl) (lenOf pd_3 rfl) rfl (W := 0) (by show 2 * 0 + _ ≤ _; exact Nat.le_of_eq rfl) (hb hby d9_17) (by decide) (by decide) (by decide) (by decide)
    have N608 := Fr.app N603 N608q
    refine own_by st608 ?_
    exact own_retI X608 hx hlk hret  (hb hby d9_20) (by first | exact ⟨by simp only [own_first, if_neg (show ¬ ((2 : Int32) < (1 : Int32) ∨ ((own_at u0 u1 u2 u3) (own_wrap x (2 : Int32))) = 0) from fun q => q.elim (by decide) z0)], N608, rfl⟩ | (rw [e608]; exact ⟨by simp only [own_first, if_neg (show ¬ ((2 : Int32) < (1 : Int32) ∨ ((own_at u0 u1 u2 u3) (own_wrap x (2 : Int32))) = 0) from fun q => q.elim (by decide) z0)], N608, rfl⟩)) (by decide) (by decide)
def Q_rm7_2 (Z : State) (a sa b : Addr) (k1 k2 kb : ClassId) (u0 u1 u2 u3 x z : Int32) (y now t0 r : Int64) (h0 : Heap) (n0 : Nat) (v : Option Value) (h : Heap) (L : List Loc) : Prop := v = some (.int (own_model (2 : Int32) (own_count (2 : Int32) u1 u2 u3) (own_at u0 u1 u2 u3) now t0 r (own_wake now r (x, y, z))).1) ∧ Fr n0 L ∧ Keep h0 h [a, sa] ∧ Arv Z h a k1 .int (2 : Int32) [(.int (own_model (2 : Int32) (own_count (2 : Int32) u1 u2 u3) (own_at u0 u1 u2 u3) now t0 r (own_wake now r (x, y, z))).1), (.int (own_model (2 : Int32) (own_count (2 : Int32) u1 u2 u3) (own_at u0 u1 u2 u3) now t0 r (own_wake now r (x, y, z))).2.2)] (.int (0 : Int32)) ∧ Arv Z h sa k2 .long (1 : Int32) [(.long (own_model (2 : Int32) (own_count (2 : Int32) u1 u2 u3) (own_at u0 u1 u2 u3) now t0 r (own_wake now r (x, y, z))).2.1)] (.long (0 : Int64))
theorem pn_rm7_2 : plainFor (⟨"com/example/eskew/eskew/server/split/CounterValuesRestingPinLaw", "model", "([I[J[ZIJJJ)I"⟩ : MethodName) = true := plainFor_of_name (by first | (simp [plainName, overriddenIn, x]; done) | decide +kernel)
set_option maxRecDepth 65536 in
set_option maxHeartbeats 40000000 in
theorem rm7_2 (l : Launch) (Z : State) (a0 : Array Value) (hw : ∀ d ∈ tables_1, d.before a0 Z = true) (ws : List Jvm.Cond) (a sa b : Addr) (k1 k2 kb : ClassId) (u0 u1 u2 u3 x z : Int32) (y now t0 r : Int64) (h0 : Heap) (n0 : Nat) (Z0 : n0 ≤ h0.size) (g1 : n0 ≤ a) (g2 : n0 ≤ sa) (n1 : a ≠ sa) (n2 : a ≠ b) (n3 : sa ≠ b) (hin : own_in (2 : Int32) z) (V1 : Arv Z h0 b kb .boolean (4 : Int32) [(.int u0), (.int u1), (.int u2), (.int u3)] (.int (0 : Int32))) (V2 : Arv Z h0 a k1 .int (2 : Int32) [(.int x), (.int z)] (.int (0 : Int32))) (V3 : Arv Z h0 sa k2 .long (1 : Int32) [(.long y)] (.long (0 : Int64))) :
    own_Met l Z (⟨"com/example/eskew/eskew/server/split/CounterValuesRestingPinLaw", "model", "([I[J[ZIJJJ)I"⟩ : MethodName) method_7_code 11 (some .int) ws ({ frames := 2, cells := 0, slots := 0, locals := 64 } : Room) #[(.ref a), (.ref sa), (.ref b), (.int (2 : Int32)), (.long now), (.long t0), (.long r)] h0 (Q_rm7_2 Z a sa b k1 k2 kb u0 u1 u2 u3 x z y now t0 r h0 n0) := by
  refine own_enter (g0 := fun m => (mkF m 0 #[.val (.ref a), .val (.ref sa), .val (.ref b), .val (.int (2 : Int32)), .val (.long now), .second, .val (.long t0), .second, .val (.long r), .second, .unset] [])) pn_rm7_2 (fun m => by first | (simp [entryFrame, mkF, argsToLocals, Value.category, maxLocals]; done) | rfl) ?_
  intro p e s m below meth c s₁ hx hby hml hown hnm hret hlk hZ X0 e0
  have hml : c.maxLocals = 11 := hml
  have hown : s.vm.findClass "com/example/eskew/eskew/server/split/CounterValuesRestingPinLaw" = some m.cls := hown
  have N0 := Fr.nil n0
  have K0 := Keep.refl h0 [a, sa]
  have J23 : ∀ (T609 : State) (L609 : List Loc) (h609 : Heap) (X609 : Stand p l e ({ frames := 2, cells := 0, slots := 0, locals := 64 } : Room) s m #[(.ref a), (.ref sa), (.ref b), (.int (2 : Int32)), (.long now), (.long t0), (.long r)] below meth c T609 L609 0 0) (e609 : T609.heap = h609) (N609 : Fr n0 L609) (Kj : Keep h0 h609 [a])  (x1 : Int32) (hw1 : (own_wake now r (x, y, z)) = (x1, y, z)) (Va : Arv Z h609 a k1 .int (2 : Int32) [(.int x1), (.int z)] (.int (0 : Int32))) (Vs : Arv Z h609 sa k2 .long (1 : Int32) [(.long y)] (.long (0 : Int64))) (Vb : Arv Z h609 b kb .boolean (4 : Int32) [(.int u0), (.int u1), (.int u2), (.int u3)] (.int (0 : Int32))), own_Go p e below (own_End s ({ frames := 2, cells := 0, slots := 0, locals := 64 } : Room).cells ({ frames := 2, cells := 0, slots := 0, locals := 64 } : Room).slots (Q_rm7_2 Z a sa b k1 k2 kb u0 u1 u2 u3 x z y now t0 r h0 n0)) T609 (mkF m 23 #[.val (.ref a), .val (.ref sa), .val (.ref b), .val (.int (2 : Int32)), .val (.long now), .second, .val (.long t0), .second, .val (.long r), .second, .unset] []) := by
    intro T609 L609 h609 X609 e609 N609 Kj x1 hw1 Va Vs Vb
    have Z609 : n0 ≤ h609.size := Nat.le_trans Z0 Kj.1
    have K609c := K0.trans Kj (allS (Or.inl (List.mem_of_getElem? (i := 0) rfl)) all0)
    refine own_by (fun _ k => XS.aloadN X609.here hx rfl (hb hby d7_23) rfl rfl k) ?_
    refine own_by (fun _ k => XS.iconst X609.here hx rfl (hb hby d7_24) k) ?_
    obtain ⟨cl610, Ar610, cq610, hin610, hat610, set610⟩ := own_arv Va (j := (0 : Int32)) ⟨by decide, by decide⟩
    refine own_by (fun _ k => X609.iaload hx (j := (0 : Int32)) (v := (.int x1)) (by rw [e609]; exact Ar610.1) (State.isArrayOf_alike hZ.alike Ar610.2.1) Ar610.2.2 hin610 hat610 (g := (mkF m 25 #[.val (.ref a), .val (.ref sa), .val (.ref b), .val (.int (2 : Int32)), .val (.long now), .second, .val (.long t0), .second, .val (.long r), .second, .unset] [(.int (0 : Int32)), (.ref a)])) rfl rfl (hb hby d7_25) _ k) ?_
    refine own_by (fun _ k => XS.iconst X609.here hx rfl (hb hby d7_26) k) ?_
    by_cases hx1 : x1 = (-1 : Int32)
    · refine own_by (fun _ k => XS.icmpNo X609.here hx rfl (hb hby d7_27) rfl (teq (hx1 : x1 = (-1 : Int32))).2 k) ?_
      refine own_by (fun _ k => XS.aloadN X609.here hx rfl (hb hby d7_30) rfl rfl k) ?_
      refine own_by (fun _ k => XS.iloadN X609.here hx rfl (hb hby d7_31) rfl k) ?_
      show own_Go p e below _ T609 (mkF m 32 #[.val (.ref a), .val (.ref sa), .val (.ref b), .val (.int (2 : Int32)), .val (.long now), .second, .val (.long t0), .second, .val (.long r), .second, .unset] [(.int (2 : Int32)), (.ref b)])
      obtain ⟨_, T611, L611, X611, ⟨rfl, N611q, e611⟩, st611⟩ := own_callS X609 hx hZ hown (y := (⟨"com/example/eskew/eskew/server/split/CounterValuesRestingPinLaw", "count", "([ZI)I"⟩ : MethodName)) (hw _ (List.mem_of_getElem? (i := 54) rfl)) (hw _ (List.mem_of_getElem? (i := 55) rfl)) (hw _ (List.mem_of_getElem? (i := 2) rfl)) (hw _ (List.mem_of_getElem? (i := 56) rfl)) (by decide) (argsL := [(.ref b), (.int (2 : Int32))]) (rest := []) e609 (rm8_2 l Z a0 hw [] b kb u0 u1 u2 u3 h609 n0 Z609 Vb) (g := (mkF m 32 #[.val (.ref a), .val (.ref sa), .val (.ref b), .val (.int (2 : Int32)), .val (.long now), .second, .val (.long t0), .second, .val (.long r), .second, .unset] [(.int (2 : Int32)), (.ref b)])) rfl (by rw [hml]; rfl) (lenOf pd_2 rfl) rfl (W := 0) (by show 2 * 0 + _ ≤ _; exact Nat.le_of_eq rfl) (hb hby d7_32) (by decide) (by decide) (by decide) (by decide)
      have N611 := Fr.app N609 N611q
      refine own_by st611 ?_
      refine own_by (fun _ k => XS.iconst X611.here hx rfl (hb hby d7_35) k) ?_
      by_cases hc1 : (1 : Int32) < (own_count (2 : Int32) u1 u2 u3)
      · refine own_by (fun _ k => XS.icmpNo X611.here hx rfl (hb hby d7_36) rfl (tlt (hc1 : (1 : Int32) < (own_count (2 : Int32) u1 u2 u3))).2.2.2 k) ?_
        refine own_by (fun _ k => XS.lload X611.here hx rfl (hb hby d7_39) rfl k) ?_
        refine own_by (fun _ k => XS.lload X611.here hx rfl (hb hby d7_41) rfl k) ?_
        refine own_by (fun _ k => XS.lsub X611.here hx rfl (hb hby d7_43) rfl k) ?_
        refine own_by (fun _ k => XS.lload X611.here hx rfl (hb hby d7_44) rfl k) ?_
        refine own_by (fun _ k => XS.lcmp X611.here hx rfl (hb hby d7_46) rfl k) ?_
        by_cases hl : now - t0 < r
        · refine own_by (fun _ k => XS.ifYes X611.here hx rfl (pc0 := 47) (pc' := 87) rfl (hb hby d7_47) rfl ((if0 _ _).trans (tlt ((lw_lt _ _).mpr hl : (lcmpW (now - t0) r) < (0 : Int32))).1) (by decide) (by decide) k) ?_
          show own_Go p e below _ T611 (mkF m 87 #[.val (.ref a), .val (.ref sa), .val (.ref b), .val (.int (2 : Int32)), .val (.long now), .second, .val (.long t0), .second, .val (.long r), .second, .unset] [])
          refine own_by (fun _ k => XS.aloadN X611.here hx rfl (hb hby d7_87) rfl rfl k) ?_
          refine own_by (fun _ k => XS.iconst X611.here hx rfl (hb hby d7_88) k) ?_
          obtain ⟨cl612, Ar612, cq612, hin612, hat612, set612⟩ := own_arv Va (j := (0 : Int32)) ⟨by decide, by decide⟩
          refine own_by (fun _ k => X611.iaload hx (j := (0 : Int32)) (v := (.int x1)) (by rw [e611]; exact Ar612.1) (State.isArrayOf_alike hZ.alike Ar612.2.1) Ar612.2.2 hin612 hat612 (g := (mkF m 89 #[.val (.ref a), .val (.ref sa), .val (.ref b), .val (.int (2 : Int32)), .val (.long now), .second, .val (.long t0), .second, .val (.long r), .second, .unset] [(.int (0 : Int32)), (.ref a)])) rfl rfl (hb hby d7_89) _ k) ?_
          have hres : (own_model (2 : Int32) (own_count (2 : Int32) u1 u2 u3) (own_at u0 u1 u2 u3) now t0 r (own_wake now r (x, y, z))) = (x1, y, z) := by rw [hw1]; simp only [own_model, if_pos hx1, if_pos hc1, if_pos hl]
          exact own_retI X611 hx hlk hret  (hb hby d7_90) (by first | exact ⟨by rw [hres], N611, K609c, by rw [hres]; exact Va, by rw [hres]; exact Vs⟩ | (rw [e611]; exact ⟨by rw [hres], N611, K609c, by rw [hres]; exact Va, by rw [hres]; exact Vs⟩)) (by decide) (by decide)
        · refine own_by (fun _ k => XS.ifNo X611.here hx rfl (hb hby d7_47) rfl ((if0 _ _).trans (flt (fun q => hl ((lw_lt _ _).mp q) : ¬ ((lcmpW (now - t0) r) < (0 : Int32)))).1) k) ?_
          show own_Go p e below _ T611 (mkF m 50 #[.val (.ref a), .val (.ref sa), .val (.ref b), .val (.int (2 : Int32)), .val (.long now), .second, .val (.long t0), .second, .val (.long r), .second, .unset] [])
          refine own_by (fun _ k => XS.aloadN X611.here hx rfl (hb hby d7_50) rfl rfl k) ?_
          refine own_by (fun _ k => XS.iloadN X611.here hx rfl (hb hby d7_51) rfl k) ?_
          refine own_by (fun _ k => XS.aloadN X611.here hx rfl (hb hby d7_52) rfl rfl k) ?_
          refine own_by (fun _ k => XS.iconst X611.here hx rfl (hb hby d7_53) k) ?_
          obtain ⟨cl613, Ar613, cq613, hin613, hat613, set613⟩ := own_arv Va (j := (1 : Int32)) ⟨by decide, by decide⟩
          refine own_by (fun _ k => X611.iaload hx (j := (1 : Int32)) (v := (.int z)) (by rw [e611]; exact Ar613.1) (State.isArrayOf_alike hZ.alike Ar613.2.1) Ar613.2.2 hin613 hat613 (g := (mkF m 54 #[.val (.ref a), .val (.ref sa), .val (.ref b), .val (.int (2 : Int32)), .val (.long now), .second, .val (.long t0), .second, .val (.long r), .second, .unset] [(.int (1 : Int32)), (.ref a), (.int (2 : Int32)), (.ref b)])) rfl rfl (hb hby d7_54) _ k) ?_
          obtain ⟨_, T614, L614, X614, ⟨rfl, N614q, e614⟩, st614⟩ := own_callS X611 hx hZ hown (y := (⟨"com/example/eskew/eskew/server/split/CounterValuesRestingPinLaw", "first", "([ZII)I"⟩ : MethodName)) (hw _ (List.mem_of_getElem? (i := 60) rfl)) (hw _ (List.mem_of_getElem? (i := 61) rfl)) (hw _ (List.mem_of_getElem? (i := 2) rfl)) (hw _ (List.mem_of_getElem? (i := 62) rfl)) (by decide) (argsL := [(.ref b), (.int (2 : Int32)), (.int z)]) (rest := []) e611 (rm9_2 l Z a0 hw [] b kb u0 u1 u2 u3 z h609 n0 Z609 hin Vb) (g := (mkF m 55 #[.val (.ref a), .val (.ref sa), .val (.ref b), .val (.int (2 : Int32)), .val (.long now), .second, .val (.long t0), .second, .val (.long r), .second, .unset] [(.int z), (.int (2 : Int32)), (.ref b)])) rfl (by rw [hml]; rfl) (lenOf pd_4 rfl) rfl (W := 0) (by show 2 * 0 + _ ≤ _; exact Nat.le_of_eq rfl) (hb hby d7_55) (by decide) (by decide) (by decide) (by decide)
          have N614 := Fr.app N611 N614q
          refine own_by st614 ?_
          obtain ⟨f, hf⟩ : ∃ zq, zq = (own_first (2 : Int32) (own_at u0 u1 u2 u3) z) := ⟨_, rfl⟩
          show own_Go p e below _ T614 (mkF m 58 #[.val (.ref a), .val (.ref sa), .val (.ref b), .val (.int (2 : Int32)), .val (.long now), .second, .val (.long t0), .second, .val (.long r), .second, .unset] [(.int (own_first (2 : Int32) (own_at u0 u1 u2 u3) z))])
          rw [← hf]
          refine own_by (fun _ k => XS.istore X614.here hx rfl (hb hby d7_58) rfl (l' := #[.val (.ref a), .val (.ref sa), .val (.ref b), .val (.int (2 : Int32)), .val (.long now), .second, .val (.long t0), .second, .val (.long r), .second, .val (.int f)]) rfl k) ?_
          refine own_by (fun _ k => XS.aloadN X614.here hx rfl (hb hby d7_60) rfl rfl k) ?_
          refine own_by (fun _ k => XS.iconst X614.here hx rfl (hb hby d7_61) k) ?_
          refine own_by (fun _ k => XS.iload X614.here hx rfl (hb hby d7_62) rfl k) ?_
          obtain ⟨cl615, Ar615, cq615, hin615, hat615, set615⟩ := own_arv Va (j := (0 : Int32)) ⟨by decide, by decide⟩
          obtain ⟨T616, h616, X616, e616, W616, st616⟩ := stI X614 hx hZ e614 Ar615 (j := (0 : Int32)) hin615 (g := (mkF m 64 #[.val (.ref a), .val (.ref sa), .val (.ref b), .val (.int (2 : Int32)), .val (.long now), .second, .val (.long t0), .second, .val (.long r), .second, .val (.int f)] [(.int f), (.int (0 : Int32)), (.ref a)])) rfl rfl (hb hby d7_64)
          have V616 : Arv Z h616 a k1 .int (2 : Int32) [(.int f), (.int z)] (.int (0 : Int32)) := set615 rfl W616 0 rfl (Nat.le_of_ble_eq_true rfl)
          have N616 := Fr.snoc X616 N614 g1
          have KB617 := Kj.wr W616 (Or.inl (List.mem_of_getElem? (i := 0) rfl))
          have K618 := K609c.wr W616 (Or.inl (List.mem_of_getElem? (i := 0) rfl))
          have Z616 : n0 ≤ h616.size := Nat.le_trans Z609 (Keep.of_wr W616).1
          refine own_by st616 ?_
          refine own_by (fun _ k => XS.aloadN X616.here hx rfl (hb hby d7_65) rfl rfl k) ?_
          refine own_by (fun _ k => XS.iconst X616.here hx rfl (hb hby d7_66) k) ?_
          refine own_by (fun _ k => XS.lload X616.here hx rfl (hb hby d7_67) rfl k) ?_
          show own_Go p e below _ T616 (mkF m 69 #[.val (.ref a), .val (.ref sa), .val (.ref b), .val (.int (2 : Int32)), .val (.long now), .second, .val (.long t0), .second, .val (.long r), .second, .val (.int f)] [(.long now), (.int (0 : Int32)), (.ref sa)])
          have f620 := (Vs.other W616 (Ne.symm n1))
          obtain ⟨cl619, Ar619, cq619, hin619, hat619, set619⟩ := own_arv f620 (j := (0 : Int32)) ⟨by decide, by decide⟩
          obtain ⟨T621, h621, X621, e621, W621, st621⟩ := stJ X616 hx hZ e616 Ar619 (j := (0 : Int32)) hin619 (g := (mkF m 69 #[.val (.ref a), .val (.ref sa), .val (.ref b), .val (.int (2 : Int32)), .val (.long now), .second, .val (.long t0), .second, .val (.long r), .second, .val (.int f)] [(.long now), (.int (0 : Int32)), (.ref sa)])) rfl rfl (hb hby d7_69)
          have V621 : Arv Z h621 sa k2 .long (1 : Int32) [(.long now)] (.long (0 : Int64)) := set619 rfl W621 0 rfl (Nat.le_of_ble_eq_true rfl)
          have N621 := Fr.snoc X621 N616 g2
          have K622 := K618.wr W621 (Or.inl (List.mem_of_getElem? (i := 1) rfl))
          have Z621 : n0 ≤ h621.size := Nat.le_trans Z616 (Keep.of_wr W621).1
          refine own_by st621 ?_
          refine own_by (fun _ k => XS.aloadN X621.here hx rfl (hb hby d7_70) rfl rfl k) ?_
          refine own_by (fun _ k => XS.iconst X621.here hx rfl (hb hby d7_71) k) ?_
          refine own_by (fun _ k => XS.iload X621.here hx rfl (hb hby d7_72) rfl k) ?_
          refine own_by (fun _ k => XS.iloadN X621.here hx rfl (hb hby d7_74) rfl k) ?_
          have J86 : ∀ (g : Int32) (hg : g = if f = (2 : Int32) then 1 else f + 1), own_Go p e below (own_End s ({ frames := 2, cells := 0, slots := 0, locals := 64 } : Room).cells ({ frames := 2, cells := 0, slots := 0, locals := 64 } : Room).slots (Q_rm7_2 Z a sa b k1 k2 kb u0 u1 u2 u3 x z y now t0 r h0 n0)) T621 (mkF m 86 #[.val (.ref a), .val (.ref sa), .val (.ref b), .val (.int (2 : Int32)), .val (.long now), .second, .val (.long t0), .second, .val (.long r), .second, .val (.int f)] [(.int g), (.int (1 : Int32)), (.ref a)]) := by
            intro  g hg
            have f624 := (V616.other W621 n1)
            obtain ⟨cl623, Ar623, cq623, hin623, hat623, set623⟩ := own_arv f624 (j := (1 : Int32)) ⟨by decide, by decide⟩
            obtain ⟨T625, h625, X625, e625, W625, st625⟩ := stI X621 hx hZ e621 Ar623 (j := (1 : Int32)) hin623 (g := (mkF m 86 #[.val (.ref a), .val (.ref sa), .val (.ref b), .val (.int (2 : Int32)), .val (.long now), .second, .val (.long t0), .second, .val (.long r), .second, .val (.int f)] [(.int g), (.int (1 : Int32)), (.ref a)])) rfl rfl (hb hby d7_86)
            have V625 : Arv Z h625 a k1 .int (2 : Int32) [(.int f), (.int g)] (.int (0 : Int32)) := set623 rfl W625 1 rfl (Nat.le_of_ble_eq_true rfl)
            have N625 := Fr.snoc X625 N621 g1
            have K626 := K622.wr W625 (Or.inl (List.mem_of_getElem? (i := 0) rfl))
            have Z625 : n0 ≤ h625.size := Nat.le_trans Z621 (Keep.of_wr W625).1
            refine own_by st625 ?_
            refine own_by (fun _ k => XS.aloadN X625.here hx rfl (hb hby d7_87) rfl rfl k) ?_
            refine own_by (fun _ k => XS.iconst X625.here hx rfl (hb hby d7_88) k) ?_
            show own_Go p e below _ T625 (mkF m 89 #[.val (.ref a), .val (.ref sa), .val (.ref b), .val (.int (2 : Int32)), .val (.long now), .second, .val (.long t0), .second, .val (.long r), .second, .val (.int f)] [(.int (0 : Int32)), (.ref a)])
            obtain ⟨cl627, Ar627, cq627, hin627, hat627, set627⟩ := own_arv V625 (j := (0 : Int32)) ⟨by decide, by decide⟩
            refine own_by (fun _ k => X625.iaload hx (j := (0 : Int32)) (v := (.int f)) (by rw [e625]; exact Ar627.1) (State.isArrayOf_alike hZ.alike Ar627.2.1) Ar627.2.2 hin627 hat627 (g := (mkF m 89 #[.val (.ref a), .val (.ref sa), .val (.ref b), .val (.int (2 : Int32)), .val (.long now), .second, .val (.long t0), .second, .val (.long r), .second, .val (.int f)] [(.int (0 : Int32)), (.ref a)])) rfl rfl (hb hby d7_89) _ k) ?_
            have hres : (own_model (2 : Int32) (own_count (2 : Int32) u1 u2 u3) (own_at u0 u1 u2 u3) now t0 r (own_wake now r (x, y, z))) = (f, now, g) := by rw [hw1]; simp only [own_model, if_pos hx1, if_pos hc1, if_neg hl, ← hf, hg]
            have f628 := (V621.other W625 (Ne.symm n1))
            exact own_retI X625 hx hlk hret  (hb hby d7_90) (by first | exact ⟨by rw [hres], N625, K626, by rw [hres]; exact V625, by rw [hres]; exact f628⟩ | (rw [e625]; exact ⟨by rw [hres], N625, K626, by rw [hres]; exact V625, by rw [hres]; exact f628⟩)) (by decide) (by decide)
          by_cases hfn : f = (2 : Int32)
          · refine own_by (fun _ k => XS.icmpNo X621.here hx rfl (hb hby d7_75) rfl (teq (hfn : f = (2 : Int32))).2 k) ?_
            refine own_by (fun _ k => XS.iconst X621.here hx rfl (hb hby d7_78) k) ?_
            refine own_by (fun _ k => XS.goto X621.here hx rfl (pc0 := 79) (pc' := 86) rfl (hb hby d7_79) (by decide) (by decide) k) ?_
            exact J86 _ (if_pos hfn).symm
          · refine own_by (fun _ k => XS.icmpYes X621.here hx rfl (pc0 := 75) (pc' := 82) rfl (hb hby d7_75) rfl (feq (hfn : ¬ (f = (2 : Int32)))).2 (by decide) (by decide) k) ?_
            refine own_by (fun _ k => XS.iload X621.here hx rfl (hb hby d7_82) rfl k) ?_
            refine own_by (fun _ k => XS.iconst X621.here hx rfl (hb hby d7_84) k) ?_
            refine own_by (fun _ k => XS.iadd X621.here hx rfl (hb hby d7_85) rfl k) ?_
            show own_Go p e below _ T621 (mkF m 86 #[.val (.ref a), .val (.ref sa), .val (.ref b), .val (.int (2 : Int32)), .val (.long now), .second, .val (.long t0), .second, .val (.long r), .second, .val (.int f)] [(.int (f + (1 : Int32))), (.int (1 : Int32)), (.ref a)])
            exact J86 _ (if_neg hfn).symm
      · refine own_by (fun _ k => XS.icmpYes X611.here hx rfl (pc0 := 36) (pc' := 87) rfl (hb hby d7_36) rfl (flt (hc1 : ¬ ((1 : Int32) < (own_count (2 : Int32) u1 u2 u3)))).2.2.2 (by decide) (by decide) k) ?_
        refine own_by (fun _ k => XS.aloadN X611.here hx rfl (hb hby d7_87) rfl rfl k) ?_
        refine own_by (fun _ k => XS.iconst X611.here hx rfl (hb hby d7_88) k) ?_
        obtain ⟨cl629, Ar629, cq629, hin629, hat629, set629⟩ := own_arv Va (j := (0 : Int32)) ⟨by decide, by decide⟩
        refine own_by (fun _ k => X611.iaload hx (j := (0 : Int32)) (v := (.int x1)) (by rw [e611]; exact Ar629.1) (State.isArrayOf_alike hZ.alike Ar629.2.1) Ar629.2.2 hin629 hat629 (g := (mkF m 89 #[.val (.ref a), .val (.ref sa), .val (.ref b), .val (.int (2 : Int32)), .val (.long now), .second, .val (.long t0), .second, .val (.long r), .second, .unset] [(.int (0 : Int32)), (.ref a)])) rfl rfl (hb hby d7_89) _ k) ?_
        have hres : (own_model (2 : Int32) (own_count (2 : Int32) u1 u2 u3) (own_at u0 u1 u2 u3) now t0 r (own_wake now r (x, y, z))) = (x1, y, z) := by rw [hw1]; simp only [own_model, if_pos hx1, if_neg hc1]
        exact own_retI X611 hx hlk hret  (hb hby d7_90) (by first | exact ⟨by rw [hres], N611, K609c, by rw [hres]; exact Va, by rw [hres]; exact Vs⟩ | (rw [e611]; exact ⟨by rw [hres], N611, K609c, by rw [hres]; exact Va, by rw [hres]; exact Vs⟩)) (by decide) (by decide)
    · refine own_by (fun _ k => XS.icmpYes X609.here hx rfl (pc0 := 27) (pc' := 87) rfl (hb hby d7_27) rfl (feq (hx1 : ¬ (x1 = (-1 : Int32)))).2 (by decide) (by decide) k) ?_
      refine own_by (fun _ k => XS.aloadN X609.here hx rfl (hb hby d7_87) rfl rfl k) ?_
      refine own_by (fun _ k => XS.iconst X609.here hx rfl (hb hby d7_88) k) ?_
      show own_Go p e below _ T609 (mkF m 89 #[.val (.ref a), .val (.ref sa), .val (.ref b), .val (.int (2 : Int32)), .val (.long now), .second, .val (.long t0), .second, .val (.long r), .second, .unset] [(.int (0 : Int32)), (.ref a)])
      obtain ⟨cl630, Ar630, cq630, hin630, hat630, set630⟩ := own_arv Va (j := (0 : Int32)) ⟨by decide, by decide⟩
      refine own_by (fun _ k => X609.iaload hx (j := (0 : Int32)) (v := (.int x1)) (by rw [e609]; exact Ar630.1) (State.isArrayOf_alike hZ.alike Ar630.2.1) Ar630.2.2 hin630 hat630 (g := (mkF m 89 #[.val (.ref a), .val (.ref sa), .val (.ref b), .val (.int (2 : Int32)), .val (.long now), .second, .val (.long t0), .second, .val (.long r), .second, .unset] [(.int (0 : Int32)), (.ref a)])) rfl rfl (hb hby d7_89) _ k) ?_
      have hres : (own_model (2 : Int32) (own_count (2 : Int32) u1 u2 u3) (own_at u0 u1 u2 u3) now t0 r (own_wake now r (x, y, z))) = (x1, y, z) := by rw [hw1]; simp only [own_model, if_neg hx1]
      exact own_retI X609 hx hlk hret  (hb hby d7_90) (by first | exact ⟨by rw [hres], N609, K609c, by rw [hres]; exact Va, by rw [hres]; exact Vs⟩ | (rw [e609]; exact ⟨by rw [hres], N609, K609c, by rw [hres]; exact Va, by rw [hres]; exact Vs⟩)) (by decide) (by decide)
  refine own_by (fun _ k => XS.aloadN X0.here hx rfl (hb hby d7_0) rfl rfl k) ?_
  refine own_by (fun _ k => XS.iconst X0.here hx rfl (hb hby d7_1) k) ?_
  obtain ⟨cl631, Ar631, cq631, hin631, hat631, set631⟩ := own_arv V2 (j := (0 : Int32)) ⟨by decide, by decide⟩
  refine own_by (fun _ k => X0.iaload hx (j := (0 : Int32)) (v := (.int x)) (by rw [e0]; exact Ar631.1) (State.isArrayOf_alike hZ.alike Ar631.2.1) Ar631.2.2 hin631 hat631 (g := (mkF m 2 #[.val (.ref a), .val (.ref sa), .val (.ref b), .val (.int (2 : Int32)), .val (.long now), .second, .val (.long t0), .second, .val (.long r), .second, .unset] [(.int (0 : Int32)), (.ref a)])) rfl rfl (hb hby d7_2) _ k) ?_
  refine own_by (fun _ k => XS.iconst X0.here hx rfl (hb hby d7_3) k) ?_
  by_cases hx0 : x = (-1 : Int32)
  · refine own_by (fun _ k => XS.icmpYes X0.here hx rfl (pc0 := 4) (pc' := 23) rfl (hb hby d7_4) rfl (teq (hx0 : x = (-1 : Int32))).1 (by decide) (by decide) k) ?_
    exact J23 s₁ _ h0 X0 e0 N0 (Keep.refl _ _) _ (by simp only [own_wake, if_pos hx0]) V2 V3 V1
  · refine own_by (fun _ k => XS.icmpNo X0.here hx rfl (hb hby d7_4) rfl (feq (hx0 : ¬ (x = (-1 : Int32)))).1 k) ?_
    refine own_by (fun _ k => XS.lload X0.here hx rfl (hb hby d7_7) rfl k) ?_
    refine own_by (fun _ k => XS.aloadN X0.here hx rfl (hb hby d7_9) rfl rfl k) ?_
    refine own_by (fun _ k => XS.iconst X0.here hx rfl (hb hby d7_10) k) ?_
    show own_Go p e below _ s₁ (mkF m 11 #[.val (.ref a), .val (.ref sa), .val (.ref b), .val (.int (2 : Int32)), .val (.long now), .second, .val (.long t0), .second, .val (.long r), .second, .unset] [(.int (0 : Int32)), (.ref sa), (.long now)])
    obtain ⟨cl632, Ar632, cq632, hin632, hat632, set632⟩ := own_arv V3 (j := (0 : Int32)) ⟨by decide, by decide⟩
    refine own_by (fun _ k => X0.laload hx (j := (0 : Int32)) (v := (.long y)) (by rw [e0]; exact Ar632.1) (State.isArrayOf_alike hZ.alike Ar632.2.1) Ar632.2.2 hin632 hat632 (g := (mkF m 11 #[.val (.ref a), .val (.ref sa), .val (.ref b), .val (.int (2 : Int32)), .val (.long now), .second, .val (.long t0), .second, .val (.long r), .second, .unset] [(.int (0 : Int32)), (.ref sa), (.long now)])) rfl rfl (hb hby d7_11) _ k) ?_
    refine own_by (fun _ k => XS.lsub X0.here hx rfl (hb hby d7_12) rfl k) ?_
    refine own_by (fun _ k => XS.lload X0.here hx rfl (hb hby d7_13) rfl k) ?_
    refine own_by (fun _ k => XS.lcmp X0.here hx rfl (hb hby d7_15) rfl k) ?_
    by_cases hl0 : now - y < r
    · refine own_by (fun _ k => XS.ifYes X0.here hx rfl (pc0 := 16) (pc' := 23) rfl (hb hby d7_16) rfl ((if0 _ _).trans (tlt ((lw_lt _ _).mpr hl0 : (lcmpW (now - y) r) < (0 : Int32))).1) (by decide) (by decide) k) ?_
      exact J23 s₁ _ h0 X0 e0 N0 (Keep.refl _ _) _ (by simp only [own_wake, if_neg hx0, if_pos hl0]) V2 V3 V1
    · refine own_by (fun _ k => XS.ifNo X0.here hx rfl (hb hby d7_16) rfl ((if0 _ _).trans (flt (fun q => hl0 ((lw_lt _ _).mp q) : ¬ ((lcmpW (now - y) r) < (0 : Int32)))).1) k) ?_
      refine own_by (fun _ k => XS.aloadN X0.here hx rfl (hb hby d7_19) rfl rfl k) ?_
      refine own_by (fun _ k => XS.iconst X0.here hx rfl (hb hby d7_20) k) ?_
      refine own_by (fun _ k => XS.iconst X0.here hx rfl (hb hby d7_21) k) ?_
      obtain ⟨cl633, Ar633, cq633, hin633, hat633, set633⟩ := own_arv V2 (j := (0 : Int32)) ⟨by decide, by decide⟩
      obtain ⟨T634, h634, X634, e634, W634, st634⟩ := stI X0 hx hZ e0 Ar633 (j := (0 : Int32)) hin633 (g := (mkF m 22 #[.val (.ref a), .val (.ref sa), .val (.ref b), .val (.int (2 : Int32)), .val (.long now), .second, .val (.long t0), .second, .val (.long r), .second, .unset] [(.int (-1 : Int32)), (.int (0 : Int32)), (.ref a)])) rfl rfl (hb hby d7_22)
      have V634 : Arv Z h634 a k1 .int (2 : Int32) [(.int (-1 : Int32)), (.int z)] (.int (0 : Int32)) := set633 rfl W634 0 rfl (Nat.le_of_ble_eq_true rfl)
      have N634 := Fr.snoc X634 N0 g1
      have K635 := K0.wr W634 (Or.inl (List.mem_of_getElem? (i := 0) rfl))
      have Z634 : n0 ≤ h634.size := Nat.le_trans Z0 (Keep.of_wr W634).1
      refine own_by st634 ?_
      show own_Go p e below _ T634 (mkF m 23 #[.val (.ref a), .val (.ref sa), .val (.ref b), .val (.int (2 : Int32)), .val (.long now), .second, .val (.long t0), .second, .val (.long r), .second, .unset] [])
      have f636 := (V3.other W634 (Ne.symm n1))
      have f637 := (V1.other W634 (Ne.symm n2))
      exact J23 T634 _ h634 X634 e634 N634 (Keep.of_wr W634) _ (by simp only [own_wake, if_neg hx0, if_neg hl0]) V634 f636 f637
def Q_rm6_2 (Z : State) (a1 b ta tl0 tl1 tl2 : Addr) (kb kt : ClassId) (u0 u1 u2 u3 x z : Int32) (y now t0 r : Int64) (h0 : Heap) (n0 : Nat) (v : Option Value) (h : Heap) (L : List Loc) : Prop := v = some (.int (own_rest (2 : Int32) (own_count (2 : Int32) u1 u2 u3) (own_at u0 u1 u2 u3) now t0 r 2 x y z).1) ∧ Fr n0 L ∧ Keep h0 h [a1] ∧ Exa Z h a1 "com/example/eskew/eskew/server/split/CounterValues" ∧ Fld Z h a1 "com/example/eskew/eskew/server/split/CounterValues" "resting" "I" (.int (own_rest (2 : Int32) (own_count (2 : Int32) u1 u2 u3) (own_at u0 u1 u2 u3) now t0 r 2 x y z).1) ∧ Fld Z h a1 "com/example/eskew/eskew/server/split/CounterValues" "restingSince" "J" (.long (own_rest (2 : Int32) (own_count (2 : Int32) u1 u2 u3) (own_at u0 u1 u2 u3) now t0 r 2 x y z).2.1) ∧ Fld Z h a1 "com/example/eskew/eskew/server/split/CounterValues" "nextToRest" "I" (.int (own_rest (2 : Int32) (own_count (2 : Int32) u1 u2 u3) (own_at u0 u1 u2 u3) now t0 r 2 x y z).2.2) ∧ Fld Z h a1 "com/example/eskew/eskew/server/split/CounterValues" "rereadNanos" "J" (.long r) ∧ Fld Z h a1 "com/example/eskew/eskew/server/split/CounterValues" "tallies" "[Lcom/example/eskew/eskew/server/split/CounterValues$Tally;" (.ref ta)
theorem pn_rm6_2 : plainFor (⟨"com/example/eskew/eskew/server/split/CounterValues", "resting", "([ZJ)I"⟩ : MethodName) = true := plainFor_of_name (by first | (simp [plainName, overriddenIn, x]; done) | decide +kernel)
set_option maxRecDepth 65536 in
set_option maxHeartbeats 40000000 in
theorem rm6_2 (l : Launch) (Z : State) (a0 : Array Value) (hw : ∀ d ∈ tables_1, d.before a0 Z = true) (ws : List Jvm.Cond) (a1 b ta tl0 tl1 tl2 : Addr) (kb kt : ClassId) (u0 u1 u2 u3 x z : Int32) (y now t0 r : Int64) (h0 : Heap) (n0 : Nat) (Z0 : n0 ≤ h0.size) (g1 : n0 ≤ a1) (hin : own_in (2 : Int32) z) (mb : a1 ≠ b) (mt : a1 ≠ ta) (m0 : a1 ≠ tl0) (m1 : a1 ≠ tl1) (m2 : a1 ≠ tl2) (E1 : Exa Z h0 a1 "com/example/eskew/eskew/server/split/CounterValues") (F_resting : Fld Z h0 a1 "com/example/eskew/eskew/server/split/CounterValues" "resting" "I" (.int x)) (F_restingSince : Fld Z h0 a1 "com/example/eskew/eskew/server/split/CounterValues" "restingSince" "J" (.long y)) (F_nextToRest : Fld Z h0 a1 "com/example/eskew/eskew/server/split/CounterValues" "nextToRest" "I" (.int z)) (F_rereadNanos : Fld Z h0 a1 "com/example/eskew/eskew/server/split/CounterValues" "rereadNanos" "J" (.long r)) (F_tallies : Fld Z h0 a1 "com/example/eskew/eskew/server/split/CounterValues" "tallies" "[Lcom/example/eskew/eskew/server/split/CounterValues$Tally;" (.ref ta)) (V1 : Arv Z h0 b kb .boolean (4 : Int32) [(.int u0), (.int u1), (.int u2), (.int u3)] (.int (0 : Int32))) (V2 : Arv Z h0 ta kt (.object "com/example/eskew/eskew/server/split/CounterValues$Tally") (3 : Int32) [(.ref tl0), (.ref tl1), (.ref tl2)] .null) (S0 : Fld Z h0 tl0 "com/example/eskew/eskew/server/split/CounterValues$Tally" "since" "J" (.long t0)) (S1 : Fld Z h0 tl1 "com/example/eskew/eskew/server/split/CounterValues$Tally" "since" "J" (.long t0)) (S2 : Fld Z h0 tl2 "com/example/eskew/eskew/server/split/CounterValues$Tally" "since" "J" (.long t0)) :
    own_Met l Z (⟨"com/example/eskew/eskew/server/split/CounterValues", "resting", "([ZJ)I"⟩ : MethodName) prog_33_method_14_code 8 (some .int) ws ({ frames := 0, cells := 0, slots := 0, locals := 0 } : Room) #[(.ref a1), (.ref b), (.long now)] h0 (Q_rm6_2 Z a1 b ta tl0 tl1 tl2 kb kt u0 u1 u2 u3 x z y now t0 r h0 n0) := by
  refine own_enter (g0 := fun m => (mkF m 0 #[.val (.ref a1), .val (.ref b), .val (.long now), .second, .unset, .unset, .unset, .unset] [])) pn_rm6_2 (fun m => by first | (simp [entryFrame, mkF, argsToLocals, Value.category, maxLocals]; done) | rfl) ?_
  intro p e s m below meth c s₁ hx hby hml hown hnm hret hlk hZ X0 e0
  have hml : c.maxLocals = 8 := hml
  have hown : s.vm.findClass "com/example/eskew/eskew/server/split/CounterValues" = some m.cls := hown
  have N0 := Fr.nil n0
  have K0 := Keep.refl h0 [a1]
  have J27 : ∀ (T638 : State) (L638 : List Loc) (h638 : Heap) (X638 : Stand p l e ({ frames := 0, cells := 0, slots := 0, locals := 0 } : Room) s m #[(.ref a1), (.ref b), (.long now)] below meth c T638 L638 0 0) (e638 : T638.heap = h638) (N638 : Fr n0 L638) (Kj : Keep h0 h638 [a1])  (x1 : Int32) (hw1 : (own_wake now r (x, y, z)) = (x1, y, z)) (Ej : Exa Z h638 a1 "com/example/eskew/eskew/server/split/CounterValues") (Fj0 : Fld Z h638 a1 "com/example/eskew/eskew/server/split/CounterValues" "resting" "I" (.int x1)) (Fj1 : Fld Z h638 a1 "com/example/eskew/eskew/server/split/CounterValues" "restingSince" "J" (.long y)) (Fj2 : Fld Z h638 a1 "com/example/eskew/eskew/server/split/CounterValues" "nextToRest" "I" (.int z)) (Fj3 : Fld Z h638 a1 "com/example/eskew/eskew/server/split/CounterValues" "rereadNanos" "J" (.long r)) (Fj4 : Fld Z h638 a1 "com/example/eskew/eskew/server/split/CounterValues" "tallies" "[Lcom/example/eskew/eskew/server/split/CounterValues$Tally;" (.ref ta)), own_Go p e below (own_End s ({ frames := 0, cells := 0, slots := 0, locals := 0 } : Room).cells ({ frames := 0, cells := 0, slots := 0, locals := 0 } : Room).slots (Q_rm6_2 Z a1 b ta tl0 tl1 tl2 kb kt u0 u1 u2 u3 x z y now t0 r h0 n0)) T638 (mkF m 27 #[.val (.ref a1), .val (.ref b), .val (.long now), .second, .unset, .unset, .unset, .unset] []) := by
    intro T638 L638 h638 X638 e638 N638 Kj x1 hw1 Ej Fj0 Fj1 Fj2 Fj3 Fj4
    have Z638 : n0 ≤ h638.size := Nat.le_trans Z0 Kj.1
    have K638c := K0.trans Kj (allS (Or.inl (List.mem_of_getElem? (i := 0) rfl)) all0)
    refine own_by (fun _ k => XS.aloadN X638.here hx rfl (hb hby d6_27) rfl rfl k) ?_
    obtain ⟨T639, X639, e639, st639⟩ := getF X638 hx hZ hown (host := "") (Or.inl (hw _ (List.mem_of_getElem? (i := 33) rfl))) Via.refl e638 Fj4 (g := (mkF m 28 #[.val (.ref a1), .val (.ref b), .val (.long now), .second, .unset, .unset, .unset, .unset] [(.ref a1)])) rfl rfl (hb hby d6_28)
    refine own_by st639 ?_
    have f641 := (V2.keep Kj (ninS (Ne.symm mt) nin0))
    obtain ⟨cl640, Ar640, len640⟩ := own_len f641
    refine own_by (T' := T639) (g' := (mkF m 32 #[.val (.ref a1), .val (.ref b), .val (.long now), .second, .unset, .unset, .unset, .unset] [(.int (3 : Int32))])) (fun _ k => X639.arraylength hx (by rw [e639]; exact Ar640.1) (State.isArrayOf_alike hZ.alike Ar640.2.1) (g := (mkF m 31 #[.val (.ref a1), .val (.ref b), .val (.long now), .second, .unset, .unset, .unset, .unset] [(.ref ta)])) rfl rfl (hb hby d6_31) _ (by rw [len640]; exact k)) ?_
    refine own_by (fun _ k => XS.iconst X639.here hx rfl (hb hby d6_32) k) ?_
    refine own_by (fun _ k => XS.isub X639.here hx rfl (hb hby d6_33) rfl k) ?_
    show own_Go p e below _ T639 (mkF m 34 #[.val (.ref a1), .val (.ref b), .val (.long now), .second, .unset, .unset, .unset, .unset] [(.int ((3 : Int32) - (1 : Int32)))])
    rw [show (3 : Int32) - (1 : Int32) = (2 : Int32) from by decide]
    refine own_by (fun _ k => XS.istore X639.here hx rfl (hb hby d6_34) rfl (l' := #[.val (.ref a1), .val (.ref b), .val (.long now), .second, .val (.int (2 : Int32)), .unset, .unset, .unset]) rfl k) ?_
    refine own_by (fun _ k => XS.iconst X639.here hx rfl (hb hby d6_36) k) ?_
    refine own_by (fun _ k => XS.istore X639.here hx rfl (hb hby d6_37) rfl (l' := #[.val (.ref a1), .val (.ref b), .val (.long now), .second, .val (.int (2 : Int32)), .val (.int (0 : Int32)), .unset, .unset]) rfl k) ?_
    refine own_by (fun _ k => XS.iconst X639.here hx rfl (hb hby d6_39) k) ?_
    refine own_by (fun _ k => XS.istore X639.here hx rfl (hb hby d6_40) rfl (l' := #[.val (.ref a1), .val (.ref b), .val (.long now), .second, .val (.int (2 : Int32)), .val (.int (0 : Int32)), .val (.int (1 : Int32)), .unset]) rfl k) ?_
    refine own_by (fun _ k => XS.iload X639.here hx rfl (hb hby d6_42) rfl k) ?_
    refine own_by (fun _ k => XS.iload X639.here hx rfl (hb hby d6_44) rfl k) ?_
    refine own_by (fun _ k => XS.icmpNo X639.here hx rfl (hb hby d6_46) rfl (flt (by decide : ¬ ((2 : Int32) < (1 : Int32)))).2.2.1 k) ?_
    show own_Go p e below _ T639 (mkF m 49 #[.val (.ref a1), .val (.ref b), .val (.long now), .second, .val (.int (2 : Int32)), .val (.int (0 : Int32)), .val (.int (1 : Int32)), .unset] [])
    refine own_by (fun _ k => XS.iload X639.here hx rfl (hb hby d6_49) rfl k) ?_
    refine own_by (fun _ k => XS.aloadN X639.here hx rfl (hb hby d6_51) rfl rfl k) ?_
    refine own_by (fun _ k => XS.iload X639.here hx rfl (hb hby d6_52) rfl k) ?_
    have f643 := (V1.keep Kj (ninS (Ne.symm mb) nin0))
    obtain ⟨cl642, Ar642, cq642, hin642, hat642, set642⟩ := own_arv f643 (j := (1 : Int32)) ⟨by decide, by decide⟩
    refine own_by (fun _ k => X639.baloadBooleans hx (j := (1 : Int32)) (v := (.int u1)) (by rw [e639]; exact Ar642.1) (State.isArrayOf_alike hZ.alike Ar642.2.1) Ar642.2.2 hin642 hat642 (g := (mkF m 54 #[.val (.ref a1), .val (.ref b), .val (.long now), .second, .val (.int (2 : Int32)), .val (.int (0 : Int32)), .val (.int (1 : Int32)), .unset] [(.int (1 : Int32)), (.ref b), (.int (0 : Int32))])) rfl rfl (hb hby d6_54) _ k) ?_
    have J63_1 : ∀ (o : Int32) (ho : o = own_one u1), own_Go p e below (own_End s ({ frames := 0, cells := 0, slots := 0, locals := 0 } : Room).cells ({ frames := 0, cells := 0, slots := 0, locals := 0 } : Room).slots (Q_rm6_2 Z a1 b ta tl0 tl1 tl2 kb kt u0 u1 u2 u3 x z y now t0 r h0 n0)) T639 (mkF m 63 #[.val (.ref a1), .val (.ref b), .val (.long now), .second, .val (.int (2 : Int32)), .val (.int (0 : Int32)), .val (.int (1 : Int32)), .unset] [(.int o), (.int (0 : Int32))]) := by
      intro  o ho
      show own_Go p e below _ T639 (mkF m 63 #[.val (.ref a1), .val (.ref b), .val (.long now), .second, .val (.int (2 : Int32)), .val (.int (0 : Int32)), .val (.int (1 : Int32)), .unset] [(.int o), (.int (0 : Int32))])
      subst ho
      refine own_by (fun _ k => XS.iadd X639.here hx rfl (hb hby d6_63) rfl k) ?_
      refine own_by (fun _ k => XS.istore X639.here hx rfl (hb hby d6_64) rfl (l' := #[.val (.ref a1), .val (.ref b), .val (.long now), .second, .val (.int (2 : Int32)), .val (.int ((0 : Int32) + (own_one u1))), .val (.int (1 : Int32)), .unset]) rfl k) ?_
      refine own_by (fun _ k => XS.iinc X639.here hx rfl (hb hby d6_66) rfl (l' := #[.val (.ref a1), .val (.ref b), .val (.long now), .second, .val (.int (2 : Int32)), .val (.int ((0 : Int32) + (own_one u1))), .val (.int ((1 : Int32) + (1 : Int32))), .unset]) rfl k) ?_
      show own_Go p e below _ T639 (mkF m 69 #[.val (.ref a1), .val (.ref b), .val (.long now), .second, .val (.int (2 : Int32)), .val (.int ((0 : Int32) + (own_one u1))), .val (.int ((1 : Int32) + (1 : Int32))), .unset] [])
      rw [show (1 : Int32) + (1 : Int32) = (2 : Int32) from by decide]
      refine own_by (fun _ k => XS.goto X639.here hx rfl (pc0 := 69) (pc' := 42) rfl (hb hby d6_69) (by decide) (by decide) k) ?_
      refine own_by (fun _ k => XS.iload X639.here hx rfl (hb hby d6_42) rfl k) ?_
      refine own_by (fun _ k => XS.iload X639.here hx rfl (hb hby d6_44) rfl k) ?_
      refine own_by (fun _ k => XS.icmpNo X639.here hx rfl (hb hby d6_46) rfl (flt (by decide : ¬ ((2 : Int32) < (2 : Int32)))).2.2.1 k) ?_
      refine own_by (fun _ k => XS.iload X639.here hx rfl (hb hby d6_49) rfl k) ?_
      refine own_by (fun _ k => XS.aloadN X639.here hx rfl (hb hby d6_51) rfl rfl k) ?_
      refine own_by (fun _ k => XS.iload X639.here hx rfl (hb hby d6_52) rfl k) ?_
      obtain ⟨cl644, Ar644, cq644, hin644, hat644, set644⟩ := own_arv f643 (j := (2 : Int32)) ⟨by decide, by decide⟩
      refine own_by (fun _ k => X639.baloadBooleans hx (j := (2 : Int32)) (v := (.int u2)) (by rw [e639]; exact Ar644.1) (State.isArrayOf_alike hZ.alike Ar644.2.1) Ar644.2.2 hin644 hat644 (g := (mkF m 54 #[.val (.ref a1), .val (.ref b), .val (.long now), .second, .val (.int (2 : Int32)), .val (.int ((0 : Int32) + (own_one u1))), .val (.int (2 : Int32)), .unset] [(.int (2 : Int32)), (.ref b), (.int ((0 : Int32) + (own_one u1)))])) rfl rfl (hb hby d6_54) _ k) ?_
      show own_Go p e below _ T639 (mkF m 55 #[.val (.ref a1), .val (.ref b), .val (.long now), .second, .val (.int (2 : Int32)), .val (.int ((0 : Int32) + (own_one u1))), .val (.int (2 : Int32)), .unset] [(.int u2), (.int ((0 : Int32) + (own_one u1)))])
      have J63_2 : ∀ (o : Int32) (ho : o = own_one u2), own_Go p e below (own_End s ({ frames := 0, cells := 0, slots := 0, locals := 0 } : Room).cells ({ frames := 0, cells := 0, slots := 0, locals := 0 } : Room).slots (Q_rm6_2 Z a1 b ta tl0 tl1 tl2 kb kt u0 u1 u2 u3 x z y now t0 r h0 n0)) T639 (mkF m 63 #[.val (.ref a1), .val (.ref b), .val (.long now), .second, .val (.int (2 : Int32)), .val (.int ((0 : Int32) + (own_one u1))), .val (.int (2 : Int32)), .unset] [(.int o), (.int ((0 : Int32) + (own_one u1)))]) := by
        intro  o ho
        show own_Go p e below _ T639 (mkF m 63 #[.val (.ref a1), .val (.ref b), .val (.long now), .second, .val (.int (2 : Int32)), .val (.int ((0 : Int32) + (own_one u1))), .val (.int (2 : Int32)), .unset] [(.int o), (.int ((0 : Int32) + (own_one u1)))])
        subst ho
        refine own_by (fun _ k => XS.iadd X639.here hx rfl (hb hby d6_63) rfl k) ?_
        refine own_by (fun _ k => XS.istore X639.here hx rfl (hb hby d6_64) rfl (l' := #[.val (.ref a1), .val (.ref b), .val (.long now), .second, .val (.int (2 : Int32)), .val (.int (((0 : Int32) + (own_one u1)) + (own_one u2))), .val (.int (2 : Int32)), .unset]) rfl k) ?_
        refine own_by (fun _ k => XS.iinc X639.here hx rfl (hb hby d6_66) rfl (l' := #[.val (.ref a1), .val (.ref b), .val (.long now), .second, .val (.int (2 : Int32)), .val (.int (((0 : Int32) + (own_one u1)) + (own_one u2))), .val (.int ((2 : Int32) + (1 : Int32))), .unset]) rfl k) ?_
        show own_Go p e below _ T639 (mkF m 69 #[.val (.ref a1), .val (.ref b), .val (.long now), .second, .val (.int (2 : Int32)), .val (.int (((0 : Int32) + (own_one u1)) + (own_one u2))), .val (.int ((2 : Int32) + (1 : Int32))), .unset] [])
        rw [show (2 : Int32) + (1 : Int32) = (3 : Int32) from by decide]
        refine own_by (fun _ k => XS.goto X639.here hx rfl (pc0 := 69) (pc' := 42) rfl (hb hby d6_69) (by decide) (by decide) k) ?_
        refine own_by (fun _ k => XS.iload X639.here hx rfl (hb hby d6_42) rfl k) ?_
        refine own_by (fun _ k => XS.iload X639.here hx rfl (hb hby d6_44) rfl k) ?_
        refine own_by (fun _ k => XS.icmpYes X639.here hx rfl (pc0 := 46) (pc' := 72) rfl (hb hby d6_46) rfl (tlt (by decide : (2 : Int32) < (3 : Int32))).2.2.1 (by decide) (by decide) k) ?_
        refine own_by (fun _ k => XS.iconst X639.here hx rfl (hb hby d6_72) k) ?_
        refine own_by (fun _ k => XS.istore X639.here hx rfl (hb hby d6_73) rfl (l' := #[.val (.ref a1), .val (.ref b), .val (.long now), .second, .val (.int (2 : Int32)), .val (.int (((0 : Int32) + (own_one u1)) + (own_one u2))), .val (.int (0 : Int32)), .unset]) rfl k) ?_
        obtain ⟨c0, hc0⟩ : ∃ zq, zq = (((0 : Int32) + own_one u1) + own_one u2) := ⟨_, rfl⟩
        show own_Go p e below _ T639 (mkF m 75 #[.val (.ref a1), .val (.ref b), .val (.long now), .second, .val (.int (2 : Int32)), .val (.int (((0 : Int32) + (own_one u1)) + (own_one u2))), .val (.int (0 : Int32)), .unset] [])
        rw [← hc0]
        have hc0 : c0 = (own_count (2 : Int32) u1 u2 u3) := hc0.trans (own_cnt_2 u1 u2 u3)
        have J75_2 : ∀ (T645 : State) (L645 : List Loc) (h645 : Heap) (X645 : Stand p l e ({ frames := 0, cells := 0, slots := 0, locals := 0 } : Room) s m #[(.ref a1), (.ref b), (.long now)] below meth c T645 L645 0 0) (e645 : T645.heap = h645) (N645 : Fr n0 L645) (Kh : Keep h638 h645 [a1])  (xx : Int32) (yy : Int64) (zz : Int32) (s7 : Slot) (h7 : One s7) (hz : own_in (2 : Int32) zz) (hS : (own_rest (2 : Int32) (own_count (2 : Int32) u1 u2 u3) (own_at u0 u1 u2 u3) now t0 r 2 x y z) = (own_loop (2 : Int32) (own_count (2 : Int32) u1 u2 u3) (own_at u0 u1 u2 u3) now t0 r 0 (2 : Int32) (xx, yy, zz))) (Ej : Exa Z h645 a1 "com/example/eskew/eskew/server/split/CounterValues") (Fj0 : Fld Z h645 a1 "com/example/eskew/eskew/server/split/CounterValues" "resting" "I" (.int xx)) (Fj1 : Fld Z h645 a1 "com/example/eskew/eskew/server/split/CounterValues" "restingSince" "J" (.long yy)) (Fj2 : Fld Z h645 a1 "com/example/eskew/eskew/server/split/CounterValues" "nextToRest" "I" (.int zz)) (Fj3 : Fld Z h645 a1 "com/example/eskew/eskew/server/split/CounterValues" "rereadNanos" "J" (.long r)) (Fj4 : Fld Z h645 a1 "com/example/eskew/eskew/server/split/CounterValues" "tallies" "[Lcom/example/eskew/eskew/server/split/CounterValues$Tally;" (.ref ta)), own_Go p e below (own_End s ({ frames := 0, cells := 0, slots := 0, locals := 0 } : Room).cells ({ frames := 0, cells := 0, slots := 0, locals := 0 } : Room).slots (Q_rm6_2 Z a1 b ta tl0 tl1 tl2 kb kt u0 u1 u2 u3 x z y now t0 r h0 n0)) T645 (mkF m 75 #[.val (.ref a1), .val (.ref b), .val (.long now), .second, .val (.int (2 : Int32)), .val (.int c0), .val (.int (2 : Int32)), s7] []) := by
          intro T645 L645 h645 X645 e645 N645 Kh xx yy zz s7 h7 hz hS Ej Fj0 Fj1 Fj2 Fj3 Fj4
          have Z645 : n0 ≤ h645.size := Nat.le_trans Z638 Kh.1
          have K645c := K638c.trans Kh (allS (Or.inl (List.mem_of_getElem? (i := 0) rfl)) all0)
          refine own_by (fun _ k => XS.aloadN X645.here hx rfl (hb hby d6_75) rfl rfl k) ?_
          obtain ⟨T646, X646, e646, st646⟩ := getF X645 hx hZ hown (host := "") (Or.inl (hw _ (List.mem_of_getElem? (i := 25) rfl))) Via.refl e645 Fj0 (g := (mkF m 76 #[.val (.ref a1), .val (.ref b), .val (.long now), .second, .val (.int (2 : Int32)), .val (.int c0), .val (.int (2 : Int32)), s7] [(.ref a1)])) rfl rfl (hb hby d6_76)
          refine own_by st646 ?_
          refine own_by (fun _ k => XS.iconst X646.here hx rfl (hb hby d6_79) k) ?_
          by_cases hxx : xx = (-1 : Int32)
          · refine own_by (fun _ k => XS.icmpNo X646.here hx rfl (hb hby d6_80) rfl (teq (hxx : xx = (-1 : Int32))).2 k) ?_
            refine own_by (fun _ k => XS.iload X646.here hx rfl (hb hby d6_83) rfl k) ?_
            refine own_by (fun _ k => XS.iconst X646.here hx rfl (hb hby d6_85) k) ?_
            by_cases hcc : (1 : Int32) < c0
            · refine own_by (fun _ k => XS.icmpNo X646.here hx rfl (hb hby d6_86) rfl (tlt (hcc : (1 : Int32) < c0)).2.2.2 k) ?_
              show own_Go p e below _ T646 (mkF m 89 #[.val (.ref a1), .val (.ref b), .val (.long now), .second, .val (.int (2 : Int32)), .val (.int c0), .val (.int (2 : Int32)), s7] [])
              refine own_by (fun _ k => XS.iload X646.here hx rfl (hb hby d6_89) rfl k) ?_
              refine own_by (fun _ k => XS.iload X646.here hx rfl (hb hby d6_91) rfl k) ?_
              refine own_by (fun _ k => XS.icmpYes X646.here hx rfl (pc0 := 93) (pc' := 167) rfl (hb hby d6_93) rfl (flt (by decide : ¬ ((2 : Int32) < (2 : Int32)))).2.1 (by decide) (by decide) k) ?_
              refine own_by (fun _ k => XS.aloadN X646.here hx rfl (hb hby d6_167) rfl rfl k) ?_
              obtain ⟨T647, X647, e647, st647⟩ := getF X646 hx hZ hown (host := "") (Or.inl (hw _ (List.mem_of_getElem? (i := 25) rfl))) Via.refl e646 Fj0 (g := (mkF m 168 #[.val (.ref a1), .val (.ref b), .val (.long now), .second, .val (.int (2 : Int32)), .val (.int c0), .val (.int (2 : Int32)), s7] [(.ref a1)])) rfl rfl (hb hby d6_168)
              refine own_by st647 ?_
              have hres : (own_rest (2 : Int32) (own_count (2 : Int32) u1 u2 u3) (own_at u0 u1 u2 u3) now t0 r 2 x y z) = (xx, yy, zz) := hS.trans (rfl)
              exact own_retI X647 hx hlk hret  (hb hby d6_171) (by first | exact ⟨by rw [hres], N645, K645c, Ej, by rw [hres]; exact Fj0, by rw [hres]; exact Fj1, by rw [hres]; exact Fj2, Fj3, Fj4⟩ | (rw [e647]; exact ⟨by rw [hres], N645, K645c, Ej, by rw [hres]; exact Fj0, by rw [hres]; exact Fj1, by rw [hres]; exact Fj2, Fj3, Fj4⟩)) (by decide) (by decide)
            · refine own_by (fun _ k => XS.icmpYes X646.here hx rfl (pc0 := 86) (pc' := 167) rfl (hb hby d6_86) rfl (flt (hcc : ¬ ((1 : Int32) < c0))).2.2.2 (by decide) (by decide) k) ?_
              show own_Go p e below _ T646 (mkF m 167 #[.val (.ref a1), .val (.ref b), .val (.long now), .second, .val (.int (2 : Int32)), .val (.int c0), .val (.int (2 : Int32)), s7] [])
              refine own_by (fun _ k => XS.aloadN X646.here hx rfl (hb hby d6_167) rfl rfl k) ?_
              obtain ⟨T648, X648, e648, st648⟩ := getF X646 hx hZ hown (host := "") (Or.inl (hw _ (List.mem_of_getElem? (i := 25) rfl))) Via.refl e646 Fj0 (g := (mkF m 168 #[.val (.ref a1), .val (.ref b), .val (.long now), .second, .val (.int (2 : Int32)), .val (.int c0), .val (.int (2 : Int32)), s7] [(.ref a1)])) rfl rfl (hb hby d6_168)
              refine own_by st648 ?_
              have hres : (own_rest (2 : Int32) (own_count (2 : Int32) u1 u2 u3) (own_at u0 u1 u2 u3) now t0 r 2 x y z) = (xx, yy, zz) := hS.trans (rfl)
              exact own_retI X648 hx hlk hret  (hb hby d6_171) (by first | exact ⟨by rw [hres], N645, K645c, Ej, by rw [hres]; exact Fj0, by rw [hres]; exact Fj1, by rw [hres]; exact Fj2, Fj3, Fj4⟩ | (rw [e648]; exact ⟨by rw [hres], N645, K645c, Ej, by rw [hres]; exact Fj0, by rw [hres]; exact Fj1, by rw [hres]; exact Fj2, Fj3, Fj4⟩)) (by decide) (by decide)
          · refine own_by (fun _ k => XS.icmpYes X646.here hx rfl (pc0 := 80) (pc' := 167) rfl (hb hby d6_80) rfl (feq (hxx : ¬ (xx = (-1 : Int32)))).2 (by decide) (by decide) k) ?_
            refine own_by (fun _ k => XS.aloadN X646.here hx rfl (hb hby d6_167) rfl rfl k) ?_
            obtain ⟨T649, X649, e649, st649⟩ := getF X646 hx hZ hown (host := "") (Or.inl (hw _ (List.mem_of_getElem? (i := 25) rfl))) Via.refl e646 Fj0 (g := (mkF m 168 #[.val (.ref a1), .val (.ref b), .val (.long now), .second, .val (.int (2 : Int32)), .val (.int c0), .val (.int (2 : Int32)), s7] [(.ref a1)])) rfl rfl (hb hby d6_168)
            refine own_by st649 ?_
            have hres : (own_rest (2 : Int32) (own_count (2 : Int32) u1 u2 u3) (own_at u0 u1 u2 u3) now t0 r 2 x y z) = (xx, yy, zz) := hS.trans (rfl)
            exact own_retI X649 hx hlk hret  (hb hby d6_171) (by first | exact ⟨by rw [hres], N645, K645c, Ej, by rw [hres]; exact Fj0, by rw [hres]; exact Fj1, by rw [hres]; exact Fj2, Fj3, Fj4⟩ | (rw [e649]; exact ⟨by rw [hres], N645, K645c, Ej, by rw [hres]; exact Fj0, by rw [hres]; exact Fj1, by rw [hres]; exact Fj2, Fj3, Fj4⟩)) (by decide) (by decide)
        have J75_1 : ∀ (T650 : State) (L650 : List Loc) (h650 : Heap) (X650 : Stand p l e ({ frames := 0, cells := 0, slots := 0, locals := 0 } : Room) s m #[(.ref a1), (.ref b), (.long now)] below meth c T650 L650 0 0) (e650 : T650.heap = h650) (N650 : Fr n0 L650) (Kh : Keep h638 h650 [a1])  (xx : Int32) (yy : Int64) (zz : Int32) (s7 : Slot) (h7 : One s7) (hz : own_in (2 : Int32) zz) (hS : (own_rest (2 : Int32) (own_count (2 : Int32) u1 u2 u3) (own_at u0 u1 u2 u3) now t0 r 2 x y z) = (own_loop (2 : Int32) (own_count (2 : Int32) u1 u2 u3) (own_at u0 u1 u2 u3) now t0 r 1 (1 : Int32) (xx, yy, zz))) (Ej : Exa Z h650 a1 "com/example/eskew/eskew/server/split/CounterValues") (Fj0 : Fld Z h650 a1 "com/example/eskew/eskew/server/split/CounterValues" "resting" "I" (.int xx)) (Fj1 : Fld Z h650 a1 "com/example/eskew/eskew/server/split/CounterValues" "restingSince" "J" (.long yy)) (Fj2 : Fld Z h650 a1 "com/example/eskew/eskew/server/split/CounterValues" "nextToRest" "I" (.int zz)) (Fj3 : Fld Z h650 a1 "com/example/eskew/eskew/server/split/CounterValues" "rereadNanos" "J" (.long r)) (Fj4 : Fld Z h650 a1 "com/example/eskew/eskew/server/split/CounterValues" "tallies" "[Lcom/example/eskew/eskew/server/split/CounterValues$Tally;" (.ref ta)), own_Go p e below (own_End s ({ frames := 0, cells := 0, slots := 0, locals := 0 } : Room).cells ({ frames := 0, cells := 0, slots := 0, locals := 0 } : Room).slots (Q_rm6_2 Z a1 b ta tl0 tl1 tl2 kb kt u0 u1 u2 u3 x z y now t0 r h0 n0)) T650 (mkF m 75 #[.val (.ref a1), .val (.ref b), .val (.long now), .second, .val (.int (2 : Int32)), .val (.int c0), .val (.int (1 : Int32)), s7] []) := by
          intro T650 L650 h650 X650 e650 N650 Kh xx yy zz s7 h7 hz hS Ej Fj0 Fj1 Fj2 Fj3 Fj4
          have Z650 : n0 ≤ h650.size := Nat.le_trans Z638 Kh.1
          have K650c := K638c.trans Kh (allS (Or.inl (List.mem_of_getElem? (i := 0) rfl)) all0)
          refine own_by (fun _ k => XS.aloadN X650.here hx rfl (hb hby d6_75) rfl rfl k) ?_
          obtain ⟨T651, X651, e651, st651⟩ := getF X650 hx hZ hown (host := "") (Or.inl (hw _ (List.mem_of_getElem? (i := 25) rfl))) Via.refl e650 Fj0 (g := (mkF m 76 #[.val (.ref a1), .val (.ref b), .val (.long now), .second, .val (.int (2 : Int32)), .val (.int c0), .val (.int (1 : Int32)), s7] [(.ref a1)])) rfl rfl (hb hby d6_76)
          refine own_by st651 ?_
          refine own_by (fun _ k => XS.iconst X651.here hx rfl (hb hby d6_79) k) ?_
          by_cases hxx : xx = (-1 : Int32)
          · refine own_by (fun _ k => XS.icmpNo X651.here hx rfl (hb hby d6_80) rfl (teq (hxx : xx = (-1 : Int32))).2 k) ?_
            refine own_by (fun _ k => XS.iload X651.here hx rfl (hb hby d6_83) rfl k) ?_
            refine own_by (fun _ k => XS.iconst X651.here hx rfl (hb hby d6_85) k) ?_
            by_cases hcc : (1 : Int32) < c0
            · refine own_by (fun _ k => XS.icmpNo X651.here hx rfl (hb hby d6_86) rfl (tlt (hcc : (1 : Int32) < c0)).2.2.2 k) ?_
              show own_Go p e below _ T651 (mkF m 89 #[.val (.ref a1), .val (.ref b), .val (.long now), .second, .val (.int (2 : Int32)), .val (.int c0), .val (.int (1 : Int32)), s7] [])
              refine own_by (fun _ k => XS.iload X651.here hx rfl (hb hby d6_89) rfl k) ?_
              refine own_by (fun _ k => XS.iload X651.here hx rfl (hb hby d6_91) rfl k) ?_
              have hcc' : (1 : Int32) < (own_count (2 : Int32) u1 u2 u3) := hc0 ▸ hcc
              refine own_by (fun _ k => XS.icmpNo X651.here hx rfl (hb hby d6_93) rfl (tlt (by decide : (1 : Int32) < (2 : Int32))).2.1 k) ?_
              refine own_by (fun _ k => XS.iconst X651.here hx rfl (hb hby d6_96) k) ?_
              refine own_by (fun _ k => XS.aloadN X651.here hx rfl (hb hby d6_97) rfl rfl k) ?_
              obtain ⟨T652, X652, e652, st652⟩ := getF X651 hx hZ hown (host := "") (Or.inl (hw _ (List.mem_of_getElem? (i := 27) rfl))) Via.refl e651 Fj2 (g := (mkF m 98 #[.val (.ref a1), .val (.ref b), .val (.long now), .second, .val (.int (2 : Int32)), .val (.int c0), .val (.int (1 : Int32)), s7] [(.ref a1), (.int (1 : Int32))])) rfl rfl (hb hby d6_98)
              refine own_by st652 ?_
              refine own_by (fun _ k => XS.iconst X652.here hx rfl (hb hby d6_101) k) ?_
              refine own_by (fun _ k => XS.isub X652.here hx rfl (hb hby d6_102) rfl k) ?_
              refine own_by (fun _ k => XS.iload X652.here hx rfl (hb hby d6_103) rfl k) ?_
              show own_Go p e below _ T652 (mkF m 105 #[.val (.ref a1), .val (.ref b), .val (.long now), .second, .val (.int (2 : Int32)), .val (.int c0), .val (.int (1 : Int32)), s7] [(.int (1 : Int32)), (.int (zz - (1 : Int32))), (.int (1 : Int32))])
              refine own_by (fun _ k => XS.iadd X652.here hx rfl (hb hby d6_105) rfl k) ?_
              refine own_by (fun _ k => XS.iload X652.here hx rfl (hb hby d6_106) rfl k) ?_
              refine own_by (fun _ k => iremM X652 hx rfl (hb hby d6_108) rfl (by decide) k) ?_
              refine own_by (fun _ k => XS.iadd X652.here hx rfl (hb hby d6_109) rfl k) ?_
              refine own_by (fun _ k => XS.istoreS X652.here hx rfl (hb hby d6_110) rfl rfl h7 k) ?_
              obtain ⟨sl, hsl⟩ : ∃ zq, zq = ((1 : Int32) + (((zz - (1 : Int32)) + (1 : Int32)) % (2 : Int32))) := ⟨_, rfl⟩
              show own_Go p e below _ T652 (mkF m 112 #[.val (.ref a1), .val (.ref b), .val (.long now), .second, .val (.int (2 : Int32)), .val (.int c0), .val (.int (1 : Int32)), .val (.int ((1 : Int32) + (((zz - (1 : Int32)) + (1 : Int32)) % (2 : Int32))))] [])
              rw [← hsl]
              have hs3 := own_slot (2 : Int32) zz (1 : Int32) hz (by decide) (by decide)
              rw [← hsl] at hs3
              have hin4 : ¬ sl < 0 ∧ sl < 4 := by rcases hs3 with q | ⟨q, -⟩ | ⟨q, -⟩ <;> rw [q] <;> decide
              refine own_by (fun _ k => XS.aloadN X652.here hx rfl (hb hby d6_112) rfl rfl k) ?_
              refine own_by (fun _ k => XS.iload X652.here hx rfl (hb hby d6_113) rfl k) ?_
              have f654 := (f643.keep Kh (ninS (Ne.symm mb) nin0))
              obtain ⟨cl653, Ar653, cq653, hin653, hat653, set653⟩ := own_arv f654 (j := sl) hin4
              refine own_by (fun _ k => X652.baloadBooleans hx (j := sl) (v := (.int ((own_at u0 u1 u2 u3) sl))) (by rw [e652]; exact Ar653.1) (State.isArrayOf_alike hZ.alike Ar653.2.1) Ar653.2.2 hin653 (by rw [hat653]; exact congrArg some (own_get _ hin4)) (g := (mkF m 115 #[.val (.ref a1), .val (.ref b), .val (.long now), .second, .val (.int (2 : Int32)), .val (.int c0), .val (.int (1 : Int32)), .val (.int sl)] [(.int sl), (.ref b)])) rfl rfl (hb hby d6_115) _ k) ?_
              by_cases hup : ((own_at u0 u1 u2 u3) sl) = (0 : Int32)
              · refine own_by (fun _ k => XS.ifYes X652.here hx rfl (pc0 := 116) (pc' := 161) rfl (hb hby d6_116) rfl ((if0 _ _).trans (teq (hup : ((own_at u0 u1 u2 u3) sl) = (0 : Int32))).1) (by decide) (by decide) k) ?_
                refine own_by (fun _ k => XS.iinc X652.here hx rfl (hb hby d6_161) rfl (l' := #[.val (.ref a1), .val (.ref b), .val (.long now), .second, .val (.int (2 : Int32)), .val (.int c0), .val (.int ((1 : Int32) + (1 : Int32))), .val (.int sl)]) rfl k) ?_
                refine own_by (fun _ k => XS.goto X652.here hx rfl (pc0 := 164) (pc' := 75) rfl (hb hby d6_164) (by decide) (by decide) k) ?_
                exact J75_2 T652 _ h650 X652 e652 N650 Kh xx yy zz _ (One.val rfl) hz (hS.trans ((own_skip (n := (2 : Int32)) (c := (own_count (2 : Int32) u1 u2 u3)) (u := (own_at u0 u1 u2 u3)) (now := now) (t0 := t0) (r := r) (k := 0) (i := (1 : Int32)) (s := (xx, yy, zz)) hxx hcc' (show ((own_at u0 u1 u2 u3) (1 + (zz - 1 + (1 : Int32)) % (2 : Int32)) = 0) by rw [← hsl]; exact hup)).trans (by rw [show (1 : Int32) + 1 = (2 : Int32) from by decide]))) Ej Fj0 Fj1 Fj2 Fj3 Fj4
              · refine own_by (fun _ k => XS.ifNo X652.here hx rfl (hb hby d6_116) rfl ((if0 _ _).trans (feq (hup : ¬ (((own_at u0 u1 u2 u3) sl) = (0 : Int32)))).1) k) ?_
                refine own_by (fun _ k => XS.lloadN X652.here hx rfl (hb hby d6_119) rfl k) ?_
                refine own_by (fun _ k => XS.aloadN X652.here hx rfl (hb hby d6_120) rfl rfl k) ?_
                obtain ⟨T655, X655, e655, st655⟩ := getF X652 hx hZ hown (host := "") (Or.inl (hw _ (List.mem_of_getElem? (i := 33) rfl))) Via.refl e652 Fj4 (g := (mkF m 121 #[.val (.ref a1), .val (.ref b), .val (.long now), .second, .val (.int (2 : Int32)), .val (.int c0), .val (.int (1 : Int32)), .val (.int sl)] [(.ref a1), (.long now)])) rfl rfl (hb hby d6_121)
                refine own_by st655 ?_
                refine own_by (fun _ k => XS.iload X655.here hx rfl (hb hby d6_124) rfl k) ?_
                show own_Go p e below _ T655 (mkF m 126 #[.val (.ref a1), .val (.ref b), .val (.long now), .second, .val (.int (2 : Int32)), .val (.int c0), .val (.int (1 : Int32)), .val (.int sl)] [(.int sl), (.ref ta), (.long now)])
                have f656 := ((S1.keep Kj (ninS (Ne.symm m1) nin0)).keep Kh (ninS (Ne.symm m1) nin0))
                have f657 := ((S2.keep Kj (ninS (Ne.symm m2) nin0)).keep Kh (ninS (Ne.symm m2) nin0))
                obtain ⟨tt, htt, Ftt⟩ : ∃ tt, ([(.ref tl0), (.ref tl1), (.ref tl2)] : List Value).getD sl.toNatClampNeg .null = .ref tt ∧ Fld Z h650 tt "com/example/eskew/eskew/server/split/CounterValues$Tally" "since" "J" (.long t0) := by
                  rcases hs3 with q | ⟨q, q'⟩ | ⟨q, q'⟩
                  · rw [q]; exact ⟨tl1, rfl, f656⟩
                  · rw [q]; exact ⟨tl2, rfl, f657⟩
                  · exact absurd q' (by decide)
                have f659 := (f641.keep Kh (ninS (Ne.symm mt) nin0))
                obtain ⟨cl658, Ar658, cq658, hin658, hat658, set658⟩ := own_arv f659 (j := sl) (show ¬ sl < 0 ∧ sl < (3 : Int32) by rcases hs3 with q | ⟨q, q'⟩ | ⟨q, q'⟩ <;> first | (rw [q]; decide) | exact absurd q' (by decide))
                refine own_by (fun _ k => X655.aaload hx (j := sl) (v := (.ref tt)) (by rw [e655]; exact Ar658.1) (State.isArrayOf_alike hZ.alike Ar658.2.1) rfl Ar658.2.2 hin658 (by rw [hat658]; exact congrArg some htt) (g := (mkF m 126 #[.val (.ref a1), .val (.ref b), .val (.long now), .second, .val (.int (2 : Int32)), .val (.int c0), .val (.int (1 : Int32)), .val (.int sl)] [(.int sl), (.ref ta), (.long now)])) rfl rfl (hb hby d6_126) _ k) ?_
                obtain ⟨T660, X660, e660, st660⟩ := own_getR X655 hx hZ hown (hw _ (List.mem_of_getElem? (i := 57) rfl)) e655 Ftt (g := (mkF m 127 #[.val (.ref a1), .val (.ref b), .val (.long now), .second, .val (.int (2 : Int32)), .val (.int c0), .val (.int (1 : Int32)), .val (.int sl)] [(.ref tt), (.long now)])) rfl rfl (hb hby d6_127)
                refine own_by st660 ?_
                refine own_by (fun _ k => XS.lsub X660.here hx rfl (hb hby d6_130) rfl k) ?_
                refine own_by (fun _ k => XS.aloadN X660.here hx rfl (hb hby d6_131) rfl rfl k) ?_
                obtain ⟨T661, X661, e661, st661⟩ := getF X660 hx hZ hown (host := "") (Or.inl (hw _ (List.mem_of_getElem? (i := 29) rfl))) Via.refl e660 Fj3 (g := (mkF m 132 #[.val (.ref a1), .val (.ref b), .val (.long now), .second, .val (.int (2 : Int32)), .val (.int c0), .val (.int (1 : Int32)), .val (.int sl)] [(.ref a1), (.long (now - t0))])) rfl rfl (hb hby d6_132)
                refine own_by st661 ?_
                refine own_by (fun _ k => XS.lcmp X661.here hx rfl (hb hby d6_135) rfl k) ?_
                by_cases hl : now - t0 < r
                · refine own_by (fun _ k => XS.ifYes X661.here hx rfl (pc0 := 136) (pc' := 161) rfl (hb hby d6_136) rfl ((if0 _ _).trans (tlt ((lw_lt _ _).mpr hl : (lcmpW (now - t0) r) < (0 : Int32))).1) (by decide) (by decide) k) ?_
                  refine own_by (fun _ k => XS.iinc X661.here hx rfl (hb hby d6_161) rfl (l' := #[.val (.ref a1), .val (.ref b), .val (.long now), .second, .val (.int (2 : Int32)), .val (.int c0), .val (.int ((1 : Int32) + (1 : Int32))), .val (.int sl)]) rfl k) ?_
                  refine own_by (fun _ k => XS.goto X661.here hx rfl (pc0 := 164) (pc' := 75) rfl (hb hby d6_164) (by decide) (by decide) k) ?_
                  show own_Go p e below _ T661 (mkF m 75 #[.val (.ref a1), .val (.ref b), .val (.long now), .second, .val (.int (2 : Int32)), .val (.int c0), .val (.int ((1 : Int32) + (1 : Int32))), .val (.int sl)] [])
                  exact J75_2 T661 _ h650 X661 e661 N650 Kh xx yy zz _ (One.val rfl) hz (hS.trans ((own_late (n := (2 : Int32)) (c := (own_count (2 : Int32) u1 u2 u3)) (u := (own_at u0 u1 u2 u3)) (now := now) (t0 := t0) (r := r) (k := 0) (i := (1 : Int32)) (s := (xx, yy, zz)) hxx hcc' (show ¬ ((own_at u0 u1 u2 u3) (1 + (zz - 1 + (1 : Int32)) % (2 : Int32)) = 0) by rw [← hsl]; exact hup) hl).trans (by rw [show (1 : Int32) + 1 = (2 : Int32) from by decide]))) Ej Fj0 Fj1 Fj2 Fj3 Fj4
                · refine own_by (fun _ k => XS.ifNo X661.here hx rfl (hb hby d6_136) rfl ((if0 _ _).trans (flt (fun q => hl ((lw_lt _ _).mp q) : ¬ ((lcmpW (now - t0) r) < (0 : Int32)))).1) k) ?_
                  refine own_by (fun _ k => XS.aloadN X661.here hx rfl (hb hby d6_139) rfl rfl k) ?_
                  refine own_by (fun _ k => XS.iload X661.here hx rfl (hb hby d6_140) rfl k) ?_
                  show own_Go p e below _ T661 (mkF m 142 #[.val (.ref a1), .val (.ref b), .val (.long now), .second, .val (.int (2 : Int32)), .val (.int c0), .val (.int (1 : Int32)), .val (.int sl)] [(.int sl), (.ref a1)])
                  obtain ⟨T662, h662, X662, e662, W662, st662⟩ := putF X661 hx hZ hown (host := "") (Or.inl (hw _ (List.mem_of_getElem? (i := 25) rfl))) Via.refl e661 Fj0 Ej (Or.inl (hw _ (List.mem_of_getElem? (i := 26) rfl))) (hw _ (List.mem_of_getElem? (i := 6) rfl)) (ty := .int) (by decide) rfl rfl (g := (mkF m 142 #[.val (.ref a1), .val (.ref b), .val (.long now), .second, .val (.int (2 : Int32)), .val (.int c0), .val (.int (1 : Int32)), .val (.int sl)] [(.int sl), (.ref a1)])) rfl rfl (hb hby d6_142)
                  refine own_by st662 ?_
                  have N662 := Fr.snoc X662 N650 g1
                  have fw662 := Fj0.same W662
                  have KB663 := Kh.wr W662 (Or.inl (List.mem_of_getElem? (i := 0) rfl))
                  have K664 := K650c.wr W662 (Or.inl (List.mem_of_getElem? (i := 0) rfl))
                  have Z662 : n0 ≤ h662.size := Nat.le_trans Z650 (Keep.of_wr W662).1
                  refine own_by (fun _ k => XS.aloadN X662.here hx rfl (hb hby d6_145) rfl rfl k) ?_
                  refine own_by (fun _ k => XS.lloadN X662.here hx rfl (hb hby d6_146) rfl k) ?_
                  have f666 := (Fj1.other W662 (Or.inr (slot_ne (Or.inl (hw _ (List.mem_of_getElem? (i := 59) rfl))) (Or.inl (hw _ (List.mem_of_getElem? (i := 26) rfl))) (by decide) (t := .long) (t' := .int) (by decide) (by decide))))
                  have f667 := (Ej.wr W662)
                  obtain ⟨T665, h665, X665, e665, W665, st665⟩ := putF X662 hx hZ hown (host := "") (Or.inl (hw _ (List.mem_of_getElem? (i := 58) rfl))) Via.refl e662 f666 f667 (Or.inl (hw _ (List.mem_of_getElem? (i := 59) rfl))) (hw _ (List.mem_of_getElem? (i := 6) rfl)) (ty := .long) (by decide) rfl rfl (g := (mkF m 147 #[.val (.ref a1), .val (.ref b), .val (.long now), .second, .val (.int (2 : Int32)), .val (.int c0), .val (.int (1 : Int32)), .val (.int sl)] [(.long now), (.ref a1)])) rfl rfl (hb hby d6_147)
                  refine own_by st665 ?_
                  have N665 := Fr.snoc X665 N662 g1
                  have fw665 := f666.same W665
                  have KB668 := KB663.wr W665 (Or.inl (List.mem_of_getElem? (i := 0) rfl))
                  have K669 := K664.wr W665 (Or.inl (List.mem_of_getElem? (i := 0) rfl))
                  have Z665 : n0 ≤ h665.size := Nat.le_trans Z662 (Keep.of_wr W665).1
                  refine own_by (fun _ k => XS.aloadN X665.here hx rfl (hb hby d6_150) rfl rfl k) ?_
                  refine own_by (fun _ k => XS.iconst X665.here hx rfl (hb hby d6_151) k) ?_
                  refine own_by (fun _ k => XS.iload X665.here hx rfl (hb hby d6_152) rfl k) ?_
                  refine own_by (fun _ k => XS.iload X665.here hx rfl (hb hby d6_154) rfl k) ?_
                  refine own_by (fun _ k => iremM X665 hx rfl (hb hby d6_156) rfl (by decide) k) ?_
                  show own_Go p e below _ T665 (mkF m 157 #[.val (.ref a1), .val (.ref b), .val (.long now), .second, .val (.int (2 : Int32)), .val (.int c0), .val (.int (1 : Int32)), .val (.int sl)] [(.int (sl % (2 : Int32))), (.int (1 : Int32)), (.ref a1)])
                  refine own_by (fun _ k => XS.iadd X665.here hx rfl (hb hby d6_157) rfl k) ?_
                  have f671 := ((Fj2.other W662 (Or.inr (slot_ne (Or.inl (hw _ (List.mem_of_getElem? (i := 28) rfl))) (Or.inl (hw _ (List.mem_of_getElem? (i := 26) rfl))) (by decide) (t := .int) (t' := .int) (by decide) (by decide)))).other W665 (Or.inr (slot_ne (Or.inl (hw _ (List.mem_of_getElem? (i := 28) rfl))) (Or.inl (hw _ (List.mem_of_getElem? (i := 59) rfl))) (by decide) (t := .int) (t' := .long) (by decide) (by decide))))
                  have f672 := (f667.wr W665)
                  obtain ⟨T670, h670, X670, e670, W670, st670⟩ := putF X665 hx hZ hown (host := "") (Or.inl (hw _ (List.mem_of_getElem? (i := 27) rfl))) Via.refl e665 f671 f672 (Or.inl (hw _ (List.mem_of_getElem? (i := 28) rfl))) (hw _ (List.mem_of_getElem? (i := 6) rfl)) (ty := .int) (by decide) rfl rfl (g := (mkF m 158 #[.val (.ref a1), .val (.ref b), .val (.long now), .second, .val (.int (2 : Int32)), .val (.int c0), .val (.int (1 : Int32)), .val (.int sl)] [(.int ((1 : Int32) + (sl % (2 : Int32)))), (.ref a1)])) rfl rfl (hb hby d6_158)
                  refine own_by st670 ?_
                  have N670 := Fr.snoc X670 N665 g1
                  have fw670 := f671.same W670
                  have KB673 := KB668.wr W670 (Or.inl (List.mem_of_getElem? (i := 0) rfl))
                  have K674 := K669.wr W670 (Or.inl (List.mem_of_getElem? (i := 0) rfl))
                  have Z670 : n0 ≤ h670.size := Nat.le_trans Z665 (Keep.of_wr W670).1
                  refine own_by (fun _ k => XS.iinc X670.here hx rfl (hb hby d6_161) rfl (l' := #[.val (.ref a1), .val (.ref b), .val (.long now), .second, .val (.int (2 : Int32)), .val (.int c0), .val (.int ((1 : Int32) + (1 : Int32))), .val (.int sl)]) rfl k) ?_
                  refine own_by (fun _ k => XS.goto X670.here hx rfl (pc0 := 164) (pc' := 75) rfl (hb hby d6_164) (by decide) (by decide) k) ?_
                  have f675 := (f672.wr W670)
                  have f676 := ((fw662.other W665 (Or.inr (slot_ne (Or.inl (hw _ (List.mem_of_getElem? (i := 26) rfl))) (Or.inl (hw _ (List.mem_of_getElem? (i := 59) rfl))) (by decide) (t := .int) (t' := .long) (by decide) (by decide)))).other W670 (Or.inr (slot_ne (Or.inl (hw _ (List.mem_of_getElem? (i := 26) rfl))) (Or.inl (hw _ (List.mem_of_getElem? (i := 28) rfl))) (by decide) (t := .int) (t' := .int) (by decide) (by decide))))
                  have f677 := (fw665.other W670 (Or.inr (slot_ne (Or.inl (hw _ (List.mem_of_getElem? (i := 59) rfl))) (Or.inl (hw _ (List.mem_of_getElem? (i := 28) rfl))) (by decide) (t := .long) (t' := .int) (by decide) (by decide))))
                  have f678 := (((Fj3.other W662 (Or.inr (slot_ne (Or.inr (hw _ (List.mem_of_getElem? (i := 30) rfl))) (Or.inl (hw _ (List.mem_of_getElem? (i := 26) rfl))) (by decide) (t := .long) (t' := .int) (by decide) (by decide)))).other W665 (Or.inr (slot_ne (Or.inr (hw _ (List.mem_of_getElem? (i := 30) rfl))) (Or.inl (hw _ (List.mem_of_getElem? (i := 59) rfl))) (by decide) (t := .long) (t' := .long) (by decide) (by decide)))).other W670 (Or.inr (slot_ne (Or.inr (hw _ (List.mem_of_getElem? (i := 30) rfl))) (Or.inl (hw _ (List.mem_of_getElem? (i := 28) rfl))) (by decide) (t := .long) (t' := .int) (by decide) (by decide))))
                  have f679 := (((Fj4.other W662 (Or.inr (slot_ne (Or.inr (hw _ (List.mem_of_getElem? (i := 34) rfl))) (Or.inl (hw _ (List.mem_of_getElem? (i := 26) rfl))) (by decide) (t := (.array (.object "com/example/eskew/eskew/server/split/CounterValues$Tally"))) (t' := .int) (by decide) (by decide)))).other W665 (Or.inr (slot_ne (Or.inr (hw _ (List.mem_of_getElem? (i := 34) rfl))) (Or.inl (hw _ (List.mem_of_getElem? (i := 59) rfl))) (by decide) (t := (.array (.object "com/example/eskew/eskew/server/split/CounterValues$Tally"))) (t' := .long) (by decide) (by decide)))).other W670 (Or.inr (slot_ne (Or.inr (hw _ (List.mem_of_getElem? (i := 34) rfl))) (Or.inl (hw _ (List.mem_of_getElem? (i := 28) rfl))) (by decide) (t := (.array (.object "com/example/eskew/eskew/server/split/CounterValues$Tally"))) (t' := .int) (by decide) (by decide))))
                  exact J75_2 T670 _ h670 X670 e670 N670 KB673 sl now (1 + sl % (2 : Int32)) _ (One.val rfl) (by rcases hs3 with q | ⟨q, q'⟩ | ⟨q, q'⟩ <;> first | (rw [q]; decide) | exact absurd q' (by decide)) (hS.trans ((own_take (n := (2 : Int32)) (c := (own_count (2 : Int32) u1 u2 u3)) (u := (own_at u0 u1 u2 u3)) (now := now) (t0 := t0) (r := r) (k := 0) (i := (1 : Int32)) (s := (xx, yy, zz)) hxx hcc' (show ¬ ((own_at u0 u1 u2 u3) (1 + (zz - 1 + (1 : Int32)) % (2 : Int32)) = 0) by rw [← hsl]; exact hup) hl).trans (by rw [show (1 : Int32) + 1 = (2 : Int32) from by decide]; show own_loop _ _ _ _ _ _ _ _ (1 + (zz - 1 + (1 : Int32)) % (2 : Int32), now, 1 + (1 + (zz - 1 + (1 : Int32)) % (2 : Int32)) % (2 : Int32)) = _; rw [← hsl]))) f675 f676 f677 fw670 f678 f679
            · refine own_by (fun _ k => XS.icmpYes X651.here hx rfl (pc0 := 86) (pc' := 167) rfl (hb hby d6_86) rfl (flt (hcc : ¬ ((1 : Int32) < c0))).2.2.2 (by decide) (by decide) k) ?_
              show own_Go p e below _ T651 (mkF m 167 #[.val (.ref a1), .val (.ref b), .val (.long now), .second, .val (.int (2 : Int32)), .val (.int c0), .val (.int (1 : Int32)), s7] [])
              refine own_by (fun _ k => XS.aloadN X651.here hx rfl (hb hby d6_167) rfl rfl k) ?_
              obtain ⟨T680, X680, e680, st680⟩ := getF X651 hx hZ hown (host := "") (Or.inl (hw _ (List.mem_of_getElem? (i := 25) rfl))) Via.refl e651 Fj0 (g := (mkF m 168 #[.val (.ref a1), .val (.ref b), .val (.long now), .second, .val (.int (2 : Int32)), .val (.int c0), .val (.int (1 : Int32)), s7] [(.ref a1)])) rfl rfl (hb hby d6_168)
              refine own_by st680 ?_
              have hres : (own_rest (2 : Int32) (own_count (2 : Int32) u1 u2 u3) (own_at u0 u1 u2 u3) now t0 r 2 x y z) = (xx, yy, zz) := hS.trans (own_out2 (n := (2 : Int32)) (c := (own_count (2 : Int32) u1 u2 u3)) (u := (own_at u0 u1 u2 u3)) (now := now) (t0 := t0) (r := r) (k := 0) (i := (1 : Int32)) (s := (xx, yy, zz)) hxx (hc0 ▸ hcc))
              exact own_retI X680 hx hlk hret  (hb hby d6_171) (by first | exact ⟨by rw [hres], N650, K650c, Ej, by rw [hres]; exact Fj0, by rw [hres]; exact Fj1, by rw [hres]; exact Fj2, Fj3, Fj4⟩ | (rw [e680]; exact ⟨by rw [hres], N650, K650c, Ej, by rw [hres]; exact Fj0, by rw [hres]; exact Fj1, by rw [hres]; exact Fj2, Fj3, Fj4⟩)) (by decide) (by decide)
          · refine own_by (fun _ k => XS.icmpYes X651.here hx rfl (pc0 := 80) (pc' := 167) rfl (hb hby d6_80) rfl (feq (hxx : ¬ (xx = (-1 : Int32)))).2 (by decide) (by decide) k) ?_
            refine own_by (fun _ k => XS.aloadN X651.here hx rfl (hb hby d6_167) rfl rfl k) ?_
            obtain ⟨T681, X681, e681, st681⟩ := getF X651 hx hZ hown (host := "") (Or.inl (hw _ (List.mem_of_getElem? (i := 25) rfl))) Via.refl e651 Fj0 (g := (mkF m 168 #[.val (.ref a1), .val (.ref b), .val (.long now), .second, .val (.int (2 : Int32)), .val (.int c0), .val (.int (1 : Int32)), s7] [(.ref a1)])) rfl rfl (hb hby d6_168)
            refine own_by st681 ?_
            have hres : (own_rest (2 : Int32) (own_count (2 : Int32) u1 u2 u3) (own_at u0 u1 u2 u3) now t0 r 2 x y z) = (xx, yy, zz) := hS.trans (own_out1 (n := (2 : Int32)) (c := (own_count (2 : Int32) u1 u2 u3)) (u := (own_at u0 u1 u2 u3)) (now := now) (t0 := t0) (r := r) (k := 0) (i := (1 : Int32)) (s := (xx, yy, zz)) hxx)
            exact own_retI X681 hx hlk hret  (hb hby d6_171) (by first | exact ⟨by rw [hres], N650, K650c, Ej, by rw [hres]; exact Fj0, by rw [hres]; exact Fj1, by rw [hres]; exact Fj2, Fj3, Fj4⟩ | (rw [e681]; exact ⟨by rw [hres], N650, K650c, Ej, by rw [hres]; exact Fj0, by rw [hres]; exact Fj1, by rw [hres]; exact Fj2, Fj3, Fj4⟩)) (by decide) (by decide)
        have J75_0 : ∀ (T682 : State) (L682 : List Loc) (h682 : Heap) (X682 : Stand p l e ({ frames := 0, cells := 0, slots := 0, locals := 0 } : Room) s m #[(.ref a1), (.ref b), (.long now)] below meth c T682 L682 0 0) (e682 : T682.heap = h682) (N682 : Fr n0 L682) (Kh : Keep h638 h682 [a1])  (xx : Int32) (yy : Int64) (zz : Int32) (s7 : Slot) (h7 : One s7) (hz : own_in (2 : Int32) zz) (hS : (own_rest (2 : Int32) (own_count (2 : Int32) u1 u2 u3) (own_at u0 u1 u2 u3) now t0 r 2 x y z) = (own_loop (2 : Int32) (own_count (2 : Int32) u1 u2 u3) (own_at u0 u1 u2 u3) now t0 r 2 (0 : Int32) (xx, yy, zz))) (Ej : Exa Z h682 a1 "com/example/eskew/eskew/server/split/CounterValues") (Fj0 : Fld Z h682 a1 "com/example/eskew/eskew/server/split/CounterValues" "resting" "I" (.int xx)) (Fj1 : Fld Z h682 a1 "com/example/eskew/eskew/server/split/CounterValues" "restingSince" "J" (.long yy)) (Fj2 : Fld Z h682 a1 "com/example/eskew/eskew/server/split/CounterValues" "nextToRest" "I" (.int zz)) (Fj3 : Fld Z h682 a1 "com/example/eskew/eskew/server/split/CounterValues" "rereadNanos" "J" (.long r)) (Fj4 : Fld Z h682 a1 "com/example/eskew/eskew/server/split/CounterValues" "tallies" "[Lcom/example/eskew/eskew/server/split/CounterValues$Tally;" (.ref ta)), own_Go p e below (own_End s ({ frames := 0, cells := 0, slots := 0, locals := 0 } : Room).cells ({ frames := 0, cells := 0, slots := 0, locals := 0 } : Room).slots (Q_rm6_2 Z a1 b ta tl0 tl1 tl2 kb kt u0 u1 u2 u3 x z y now t0 r h0 n0)) T682 (mkF m 75 #[.val (.ref a1), .val (.ref b), .val (.long now), .second, .val (.int (2 : Int32)), .val (.int c0), .val (.int (0 : Int32)), s7] []) := by
          intro T682 L682 h682 X682 e682 N682 Kh xx yy zz s7 h7 hz hS Ej Fj0 Fj1 Fj2 Fj3 Fj4
          have Z682 : n0 ≤ h682.size := Nat.le_trans Z638 Kh.1
          have K682c := K638c.trans Kh (allS (Or.inl (List.mem_of_getElem? (i := 0) rfl)) all0)
          refine own_by (fun _ k => XS.aloadN X682.here hx rfl (hb hby d6_75) rfl rfl k) ?_
          obtain ⟨T683, X683, e683, st683⟩ := getF X682 hx hZ hown (host := "") (Or.inl (hw _ (List.mem_of_getElem? (i := 25) rfl))) Via.refl e682 Fj0 (g := (mkF m 76 #[.val (.ref a1), .val (.ref b), .val (.long now), .second, .val (.int (2 : Int32)), .val (.int c0), .val (.int (0 : Int32)), s7] [(.ref a1)])) rfl rfl (hb hby d6_76)
          refine own_by st683 ?_
          refine own_by (fun _ k => XS.iconst X683.here hx rfl (hb hby d6_79) k) ?_
          by_cases hxx : xx = (-1 : Int32)
          · refine own_by (fun _ k => XS.icmpNo X683.here hx rfl (hb hby d6_80) rfl (teq (hxx : xx = (-1 : Int32))).2 k) ?_
            refine own_by (fun _ k => XS.iload X683.here hx rfl (hb hby d6_83) rfl k) ?_
            refine own_by (fun _ k => XS.iconst X683.here hx rfl (hb hby d6_85) k) ?_
            by_cases hcc : (1 : Int32) < c0
            · refine own_by (fun _ k => XS.icmpNo X683.here hx rfl (hb hby d6_86) rfl (tlt (hcc : (1 : Int32) < c0)).2.2.2 k) ?_
              show own_Go p e below _ T683 (mkF m 89 #[.val (.ref a1), .val (.ref b), .val (.long now), .second, .val (.int (2 : Int32)), .val (.int c0), .val (.int (0 : Int32)), s7] [])
              refine own_by (fun _ k => XS.iload X683.here hx rfl (hb hby d6_89) rfl k) ?_
              refine own_by (fun _ k => XS.iload X683.here hx rfl (hb hby d6_91) rfl k) ?_
              have hcc' : (1 : Int32) < (own_count (2 : Int32) u1 u2 u3) := hc0 ▸ hcc
              refine own_by (fun _ k => XS.icmpNo X683.here hx rfl (hb hby d6_93) rfl (tlt (by decide : (0 : Int32) < (2 : Int32))).2.1 k) ?_
              refine own_by (fun _ k => XS.iconst X683.here hx rfl (hb hby d6_96) k) ?_
              refine own_by (fun _ k => XS.aloadN X683.here hx rfl (hb hby d6_97) rfl rfl k) ?_
              obtain ⟨T684, X684, e684, st684⟩ := getF X683 hx hZ hown (host := "") (Or.inl (hw _ (List.mem_of_getElem? (i := 27) rfl))) Via.refl e683 Fj2 (g := (mkF m 98 #[.val (.ref a1), .val (.ref b), .val (.long now), .second, .val (.int (2 : Int32)), .val (.int c0), .val (.int (0 : Int32)), s7] [(.ref a1), (.int (1 : Int32))])) rfl rfl (hb hby d6_98)
              refine own_by st684 ?_
              refine own_by (fun _ k => XS.iconst X684.here hx rfl (hb hby d6_101) k) ?_
              refine own_by (fun _ k => XS.isub X684.here hx rfl (hb hby d6_102) rfl k) ?_
              refine own_by (fun _ k => XS.iload X684.here hx rfl (hb hby d6_103) rfl k) ?_
              show own_Go p e below _ T684 (mkF m 105 #[.val (.ref a1), .val (.ref b), .val (.long now), .second, .val (.int (2 : Int32)), .val (.int c0), .val (.int (0 : Int32)), s7] [(.int (0 : Int32)), (.int (zz - (1 : Int32))), (.int (1 : Int32))])
              refine own_by (fun _ k => XS.iadd X684.here hx rfl (hb hby d6_105) rfl k) ?_
              refine own_by (fun _ k => XS.iload X684.here hx rfl (hb hby d6_106) rfl k) ?_
              refine own_by (fun _ k => iremM X684 hx rfl (hb hby d6_108) rfl (by decide) k) ?_
              refine own_by (fun _ k => XS.iadd X684.here hx rfl (hb hby d6_109) rfl k) ?_
              refine own_by (fun _ k => XS.istoreS X684.here hx rfl (hb hby d6_110) rfl rfl h7 k) ?_
              obtain ⟨sl, hsl⟩ : ∃ zq, zq = ((1 : Int32) + (((zz - (1 : Int32)) + (0 : Int32)) % (2 : Int32))) := ⟨_, rfl⟩
              show own_Go p e below _ T684 (mkF m 112 #[.val (.ref a1), .val (.ref b), .val (.long now), .second, .val (.int (2 : Int32)), .val (.int c0), .val (.int (0 : Int32)), .val (.int ((1 : Int32) + (((zz - (1 : Int32)) + (0 : Int32)) % (2 : Int32))))] [])
              rw [← hsl]
              have hs3 := own_slot (2 : Int32) zz (0 : Int32) hz (by decide) (by decide)
              rw [← hsl] at hs3
              have hin4 : ¬ sl < 0 ∧ sl < 4 := by rcases hs3 with q | ⟨q, -⟩ | ⟨q, -⟩ <;> rw [q] <;> decide
              refine own_by (fun _ k => XS.aloadN X684.here hx rfl (hb hby d6_112) rfl rfl k) ?_
              refine own_by (fun _ k => XS.iload X684.here hx rfl (hb hby d6_113) rfl k) ?_
              have f686 := (f643.keep Kh (ninS (Ne.symm mb) nin0))
              obtain ⟨cl685, Ar685, cq685, hin685, hat685, set685⟩ := own_arv f686 (j := sl) hin4
              refine own_by (fun _ k => X684.baloadBooleans hx (j := sl) (v := (.int ((own_at u0 u1 u2 u3) sl))) (by rw [e684]; exact Ar685.1) (State.isArrayOf_alike hZ.alike Ar685.2.1) Ar685.2.2 hin685 (by rw [hat685]; exact congrArg some (own_get _ hin4)) (g := (mkF m 115 #[.val (.ref a1), .val (.ref b), .val (.long now), .second, .val (.int (2 : Int32)), .val (.int c0), .val (.int (0 : Int32)), .val (.int sl)] [(.int sl), (.ref b)])) rfl rfl (hb hby d6_115) _ k) ?_
              by_cases hup : ((own_at u0 u1 u2 u3) sl) = (0 : Int32)
              · refine own_by (fun _ k => XS.ifYes X684.here hx rfl (pc0 := 116) (pc' := 161) rfl (hb hby d6_116) rfl ((if0 _ _).trans (teq (hup : ((own_at u0 u1 u2 u3) sl) = (0 : Int32))).1) (by decide) (by decide) k) ?_
                refine own_by (fun _ k => XS.iinc X684.here hx rfl (hb hby d6_161) rfl (l' := #[.val (.ref a1), .val (.ref b), .val (.long now), .second, .val (.int (2 : Int32)), .val (.int c0), .val (.int ((0 : Int32) + (1 : Int32))), .val (.int sl)]) rfl k) ?_
                refine own_by (fun _ k => XS.goto X684.here hx rfl (pc0 := 164) (pc' := 75) rfl (hb hby d6_164) (by decide) (by decide) k) ?_
                exact J75_1 T684 _ h682 X684 e684 N682 Kh xx yy zz _ (One.val rfl) hz (hS.trans ((own_skip (n := (2 : Int32)) (c := (own_count (2 : Int32) u1 u2 u3)) (u := (own_at u0 u1 u2 u3)) (now := now) (t0 := t0) (r := r) (k := 1) (i := (0 : Int32)) (s := (xx, yy, zz)) hxx hcc' (show ((own_at u0 u1 u2 u3) (1 + (zz - 1 + (0 : Int32)) % (2 : Int32)) = 0) by rw [← hsl]; exact hup)).trans (by rw [show (0 : Int32) + 1 = (1 : Int32) from by decide]))) Ej Fj0 Fj1 Fj2 Fj3 Fj4
              · refine own_by (fun _ k => XS.ifNo X684.here hx rfl (hb hby d6_116) rfl ((if0 _ _).trans (feq (hup : ¬ (((own_at u0 u1 u2 u3) sl) = (0 : Int32)))).1) k) ?_
                refine own_by (fun _ k => XS.lloadN X684.here hx rfl (hb hby d6_119) rfl k) ?_
                refine own_by (fun _ k => XS.aloadN X684.here hx rfl (hb hby d6_120) rfl rfl k) ?_
                obtain ⟨T687, X687, e687, st687⟩ := getF X684 hx hZ hown (host := "") (Or.inl (hw _ (List.mem_of_getElem? (i := 33) rfl))) Via.refl e684 Fj4 (g := (mkF m 121 #[.val (.ref a1), .val (.ref b), .val (.long now), .second, .val (.int (2 : Int32)), .val (.int c0), .val (.int (0 : Int32)), .val (.int sl)] [(.ref a1), (.long now)])) rfl rfl (hb hby d6_121)
                refine own_by st687 ?_
                refine own_by (fun _ k => XS.iload X687.here hx rfl (hb hby d6_124) rfl k) ?_
                show own_Go p e below _ T687 (mkF m 126 #[.val (.ref a1), .val (.ref b), .val (.long now), .second, .val (.int (2 : Int32)), .val (.int c0), .val (.int (0 : Int32)), .val (.int sl)] [(.int sl), (.ref ta), (.long now)])
                have f688 := ((S1.keep Kj (ninS (Ne.symm m1) nin0)).keep Kh (ninS (Ne.symm m1) nin0))
                have f689 := ((S2.keep Kj (ninS (Ne.symm m2) nin0)).keep Kh (ninS (Ne.symm m2) nin0))
                obtain ⟨tt, htt, Ftt⟩ : ∃ tt, ([(.ref tl0), (.ref tl1), (.ref tl2)] : List Value).getD sl.toNatClampNeg .null = .ref tt ∧ Fld Z h682 tt "com/example/eskew/eskew/server/split/CounterValues$Tally" "since" "J" (.long t0) := by
                  rcases hs3 with q | ⟨q, q'⟩ | ⟨q, q'⟩
                  · rw [q]; exact ⟨tl1, rfl, f688⟩
                  · rw [q]; exact ⟨tl2, rfl, f689⟩
                  · exact absurd q' (by decide)
                have f691 := (f641.keep Kh (ninS (Ne.symm mt) nin0))
                obtain ⟨cl690, Ar690, cq690, hin690, hat690, set690⟩ := own_arv f691 (j := sl) (show ¬ sl < 0 ∧ sl < (3 : Int32) by rcases hs3 with q | ⟨q, q'⟩ | ⟨q, q'⟩ <;> first | (rw [q]; decide) | exact absurd q' (by decide))
                refine own_by (fun _ k => X687.aaload hx (j := sl) (v := (.ref tt)) (by rw [e687]; exact Ar690.1) (State.isArrayOf_alike hZ.alike Ar690.2.1) rfl Ar690.2.2 hin690 (by rw [hat690]; exact congrArg some htt) (g := (mkF m 126 #[.val (.ref a1), .val (.ref b), .val (.long now), .second, .val (.int (2 : Int32)), .val (.int c0), .val (.int (0 : Int32)), .val (.int sl)] [(.int sl), (.ref ta), (.long now)])) rfl rfl (hb hby d6_126) _ k) ?_
                obtain ⟨T692, X692, e692, st692⟩ := own_getR X687 hx hZ hown (hw _ (List.mem_of_getElem? (i := 57) rfl)) e687 Ftt (g := (mkF m 127 #[.val (.ref a1), .val (.ref b), .val (.long now), .second, .val (.int (2 : Int32)), .val (.int c0), .val (.int (0 : Int32)), .val (.int sl)] [(.ref tt), (.long now)])) rfl rfl (hb hby d6_127)
                refine own_by st692 ?_
                refine own_by (fun _ k => XS.lsub X692.here hx rfl (hb hby d6_130) rfl k) ?_
                refine own_by (fun _ k => XS.aloadN X692.here hx rfl (hb hby d6_131) rfl rfl k) ?_
                obtain ⟨T693, X693, e693, st693⟩ := getF X692 hx hZ hown (host := "") (Or.inl (hw _ (List.mem_of_getElem? (i := 29) rfl))) Via.refl e692 Fj3 (g := (mkF m 132 #[.val (.ref a1), .val (.ref b), .val (.long now), .second, .val (.int (2 : Int32)), .val (.int c0), .val (.int (0 : Int32)), .val (.int sl)] [(.ref a1), (.long (now - t0))])) rfl rfl (hb hby d6_132)
                refine own_by st693 ?_
                refine own_by (fun _ k => XS.lcmp X693.here hx rfl (hb hby d6_135) rfl k) ?_
                by_cases hl : now - t0 < r
                · refine own_by (fun _ k => XS.ifYes X693.here hx rfl (pc0 := 136) (pc' := 161) rfl (hb hby d6_136) rfl ((if0 _ _).trans (tlt ((lw_lt _ _).mpr hl : (lcmpW (now - t0) r) < (0 : Int32))).1) (by decide) (by decide) k) ?_
                  refine own_by (fun _ k => XS.iinc X693.here hx rfl (hb hby d6_161) rfl (l' := #[.val (.ref a1), .val (.ref b), .val (.long now), .second, .val (.int (2 : Int32)), .val (.int c0), .val (.int ((0 : Int32) + (1 : Int32))), .val (.int sl)]) rfl k) ?_
                  refine own_by (fun _ k => XS.goto X693.here hx rfl (pc0 := 164) (pc' := 75) rfl (hb hby d6_164) (by decide) (by decide) k) ?_
                  show own_Go p e below _ T693 (mkF m 75 #[.val (.ref a1), .val (.ref b), .val (.long now), .second, .val (.int (2 : Int32)), .val (.int c0), .val (.int ((0 : Int32) + (1 : Int32))), .val (.int sl)] [])
                  exact J75_1 T693 _ h682 X693 e693 N682 Kh xx yy zz _ (One.val rfl) hz (hS.trans ((own_late (n := (2 : Int32)) (c := (own_count (2 : Int32) u1 u2 u3)) (u := (own_at u0 u1 u2 u3)) (now := now) (t0 := t0) (r := r) (k := 1) (i := (0 : Int32)) (s := (xx, yy, zz)) hxx hcc' (show ¬ ((own_at u0 u1 u2 u3) (1 + (zz - 1 + (0 : Int32)) % (2 : Int32)) = 0) by rw [← hsl]; exact hup) hl).trans (by rw [show (0 : Int32) + 1 = (1 : Int32) from by decide]))) Ej Fj0 Fj1 Fj2 Fj3 Fj4
                · refine own_by (fun _ k => XS.ifNo X693.here hx rfl (hb hby d6_136) rfl ((if0 _ _).trans (flt (fun q => hl ((lw_lt _ _).mp q) : ¬ ((lcmpW (now - t0) r) < (0 : Int32)))).1) k) ?_
                  refine own_by (fun _ k => XS.aloadN X693.here hx rfl (hb hby d6_139) rfl rfl k) ?_
                  refine own_by (fun _ k => XS.iload X693.here hx rfl (hb hby d6_140) rfl k) ?_
                  show own_Go p e below _ T693 (mkF m 142 #[.val (.ref a1), .val (.ref b), .val (.long now), .second, .val (.int (2 : Int32)), .val (.int c0), .val (.int (0 : Int32)), .val (.int sl)] [(.int sl), (.ref a1)])
                  obtain ⟨T694, h694, X694, e694, W694, st694⟩ := putF X693 hx hZ hown (host := "") (Or.inl (hw _ (List.mem_of_getElem? (i := 25) rfl))) Via.refl e693 Fj0 Ej (Or.inl (hw _ (List.mem_of_getElem? (i := 26) rfl))) (hw _ (List.mem_of_getElem? (i := 6) rfl)) (ty := .int) (by decide) rfl rfl (g := (mkF m 142 #[.val (.ref a1), .val (.ref b), .val (.long now), .second, .val (.int (2 : Int32)), .val (.int c0), .val (.int (0 : Int32)), .val (.int sl)] [(.int sl), (.ref a1)])) rfl rfl (hb hby d6_142)
                  refine own_by st694 ?_
                  have N694 := Fr.snoc X694 N682 g1
                  have fw694 := Fj0.same W694
                  have KB695 := Kh.wr W694 (Or.inl (List.mem_of_getElem? (i := 0) rfl))
                  have K696 := K682c.wr W694 (Or.inl (List.mem_of_getElem? (i := 0) rfl))
                  have Z694 : n0 ≤ h694.size := Nat.le_trans Z682 (Keep.of_wr W694).1
                  refine own_by (fun _ k => XS.aloadN X694.here hx rfl (hb hby d6_145) rfl rfl k) ?_
                  refine own_by (fun _ k => XS.lloadN X694.here hx rfl (hb hby d6_146) rfl k) ?_
                  have f698 := (Fj1.other W694 (Or.inr (slot_ne (Or.inl (hw _ (List.mem_of_getElem? (i := 59) rfl))) (Or.inl (hw _ (List.mem_of_getElem? (i := 26) rfl))) (by decide) (t := .long) (t' := .int) (by decide) (by decide))))
                  have f699 := (Ej.wr W694)
                  obtain ⟨T697, h697, X697, e697, W697, st697⟩ := putF X694 hx hZ hown (host := "") (Or.inl (hw _ (List.mem_of_getElem? (i := 58) rfl))) Via.refl e694 f698 f699 (Or.inl (hw _ (List.mem_of_getElem? (i := 59) rfl))) (hw _ (List.mem_of_getElem? (i := 6) rfl)) (ty := .long) (by decide) rfl rfl (g := (mkF m 147 #[.val (.ref a1), .val (.ref b), .val (.long now), .second, .val (.int (2 : Int32)), .val (.int c0), .val (.int (0 : Int32)), .val (.int sl)] [(.long now), (.ref a1)])) rfl rfl (hb hby d6_147)
                  refine own_by st697 ?_
                  have N697 := Fr.snoc X697 N694 g1
                  have fw697 := f698.same W697
                  have KB700 := KB695.wr W697 (Or.inl (List.mem_of_getElem? (i := 0) rfl))
                  have K701 := K696.wr W697 (Or.inl (List.mem_of_getElem? (i := 0) rfl))
                  have Z697 : n0 ≤ h697.size := Nat.le_trans Z694 (Keep.of_wr W697).1
                  refine own_by (fun _ k => XS.aloadN X697.here hx rfl (hb hby d6_150) rfl rfl k) ?_
                  refine own_by (fun _ k => XS.iconst X697.here hx rfl (hb hby d6_151) k) ?_
                  refine own_by (fun _ k => XS.iload X697.here hx rfl (hb hby d6_152) rfl k) ?_
                  refine own_by (fun _ k => XS.iload X697.here hx rfl (hb hby d6_154) rfl k) ?_
                  refine own_by (fun _ k => iremM X697 hx rfl (hb hby d6_156) rfl (by decide) k) ?_
                  show own_Go p e below _ T697 (mkF m 157 #[.val (.ref a1), .val (.ref b), .val (.long now), .second, .val (.int (2 : Int32)), .val (.int c0), .val (.int (0 : Int32)), .val (.int sl)] [(.int (sl % (2 : Int32))), (.int (1 : Int32)), (.ref a1)])
                  refine own_by (fun _ k => XS.iadd X697.here hx rfl (hb hby d6_157) rfl k) ?_
                  have f703 := ((Fj2.other W694 (Or.inr (slot_ne (Or.inl (hw _ (List.mem_of_getElem? (i := 28) rfl))) (Or.inl (hw _ (List.mem_of_getElem? (i := 26) rfl))) (by decide) (t := .int) (t' := .int) (by decide) (by decide)))).other W697 (Or.inr (slot_ne (Or.inl (hw _ (List.mem_of_getElem? (i := 28) rfl))) (Or.inl (hw _ (List.mem_of_getElem? (i := 59) rfl))) (by decide) (t := .int) (t' := .long) (by decide) (by decide))))
                  have f704 := (f699.wr W697)
                  obtain ⟨T702, h702, X702, e702, W702, st702⟩ := putF X697 hx hZ hown (host := "") (Or.inl (hw _ (List.mem_of_getElem? (i := 27) rfl))) Via.refl e697 f703 f704 (Or.inl (hw _ (List.mem_of_getElem? (i := 28) rfl))) (hw _ (List.mem_of_getElem? (i := 6) rfl)) (ty := .int) (by decide) rfl rfl (g := (mkF m 158 #[.val (.ref a1), .val (.ref b), .val (.long now), .second, .val (.int (2 : Int32)), .val (.int c0), .val (.int (0 : Int32)), .val (.int sl)] [(.int ((1 : Int32) + (sl % (2 : Int32)))), (.ref a1)])) rfl rfl (hb hby d6_158)
                  refine own_by st702 ?_
                  have N702 := Fr.snoc X702 N697 g1
                  have fw702 := f703.same W702
                  have KB705 := KB700.wr W702 (Or.inl (List.mem_of_getElem? (i := 0) rfl))
                  have K706 := K701.wr W702 (Or.inl (List.mem_of_getElem? (i := 0) rfl))
                  have Z702 : n0 ≤ h702.size := Nat.le_trans Z697 (Keep.of_wr W702).1
                  refine own_by (fun _ k => XS.iinc X702.here hx rfl (hb hby d6_161) rfl (l' := #[.val (.ref a1), .val (.ref b), .val (.long now), .second, .val (.int (2 : Int32)), .val (.int c0), .val (.int ((0 : Int32) + (1 : Int32))), .val (.int sl)]) rfl k) ?_
                  refine own_by (fun _ k => XS.goto X702.here hx rfl (pc0 := 164) (pc' := 75) rfl (hb hby d6_164) (by decide) (by decide) k) ?_
                  have f707 := (f704.wr W702)
                  have f708 := ((fw694.other W697 (Or.inr (slot_ne (Or.inl (hw _ (List.mem_of_getElem? (i := 26) rfl))) (Or.inl (hw _ (List.mem_of_getElem? (i := 59) rfl))) (by decide) (t := .int) (t' := .long) (by decide) (by decide)))).other W702 (Or.inr (slot_ne (Or.inl (hw _ (List.mem_of_getElem? (i := 26) rfl))) (Or.inl (hw _ (List.mem_of_getElem? (i := 28) rfl))) (by decide) (t := .int) (t' := .int) (by decide) (by decide))))
                  have f709 := (fw697.other W702 (Or.inr (slot_ne (Or.inl (hw _ (List.mem_of_getElem? (i := 59) rfl))) (Or.inl (hw _ (List.mem_of_getElem? (i := 28) rfl))) (by decide) (t := .long) (t' := .int) (by decide) (by decide))))
                  have f710 := (((Fj3.other W694 (Or.inr (slot_ne (Or.inr (hw _ (List.mem_of_getElem? (i := 30) rfl))) (Or.inl (hw _ (List.mem_of_getElem? (i := 26) rfl))) (by decide) (t := .long) (t' := .int) (by decide) (by decide)))).other W697 (Or.inr (slot_ne (Or.inr (hw _ (List.mem_of_getElem? (i := 30) rfl))) (Or.inl (hw _ (List.mem_of_getElem? (i := 59) rfl))) (by decide) (t := .long) (t' := .long) (by decide) (by decide)))).other W702 (Or.inr (slot_ne (Or.inr (hw _ (List.mem_of_getElem? (i := 30) rfl))) (Or.inl (hw _ (List.mem_of_getElem? (i := 28) rfl))) (by decide) (t := .long) (t' := .int) (by decide) (by decide))))
                  have f711 := (((Fj4.other W694 (Or.inr (slot_ne (Or.inr (hw _ (List.mem_of_getElem? (i := 34) rfl))) (Or.inl (hw _ (List.mem_of_getElem? (i := 26) rfl))) (by decide) (t := (.array (.object "com/example/eskew/eskew/server/split/CounterValues$Tally"))) (t' := .int) (by decide) (by decide)))).other W697 (Or.inr (slot_ne (Or.inr (hw _ (List.mem_of_getElem? (i := 34) rfl))) (Or.inl (hw _ (List.mem_of_getElem? (i := 59) rfl))) (by decide) (t := (.array (.object "com/example/eskew/eskew/server/split/CounterValues$Tally"))) (t' := .long) (by decide) (by decide)))).other W702 (Or.inr (slot_ne (Or.inr (hw _ (List.mem_of_getElem? (i := 34) rfl))) (Or.inl (hw _ (List.mem_of_getElem? (i := 28) rfl))) (by decide) (t := (.array (.object "com/example/eskew/eskew/server/split/CounterValues$Tally"))) (t' := .int) (by decide) (by decide))))
                  exact J75_1 T702 _ h702 X702 e702 N702 KB705 sl now (1 + sl % (2 : Int32)) _ (One.val rfl) (by rcases hs3 with q | ⟨q, q'⟩ | ⟨q, q'⟩ <;> first | (rw [q]; decide) | exact absurd q' (by decide)) (hS.trans ((own_take (n := (2 : Int32)) (c := (own_count (2 : Int32) u1 u2 u3)) (u := (own_at u0 u1 u2 u3)) (now := now) (t0 := t0) (r := r) (k := 1) (i := (0 : Int32)) (s := (xx, yy, zz)) hxx hcc' (show ¬ ((own_at u0 u1 u2 u3) (1 + (zz - 1 + (0 : Int32)) % (2 : Int32)) = 0) by rw [← hsl]; exact hup) hl).trans (by rw [show (0 : Int32) + 1 = (1 : Int32) from by decide]; show own_loop _ _ _ _ _ _ _ _ (1 + (zz - 1 + (0 : Int32)) % (2 : Int32), now, 1 + (1 + (zz - 1 + (0 : Int32)) % (2 : Int32)) % (2 : Int32)) = _; rw [← hsl]))) f707 f708 f709 fw702 f710 f711
            · refine own_by (fun _ k => XS.icmpYes X683.here hx rfl (pc0 := 86) (pc' := 167) rfl (hb hby d6_86) rfl (flt (hcc : ¬ ((1 : Int32) < c0))).2.2.2 (by decide) (by decide) k) ?_
              show own_Go p e below _ T683 (mkF m 167 #[.val (.ref a1), .val (.ref b), .val (.long now), .second, .val (.int (2 : Int32)), .val (.int c0), .val (.int (0 : Int32)), s7] [])
              refine own_by (fun _ k => XS.aloadN X683.here hx rfl (hb hby d6_167) rfl rfl k) ?_
              obtain ⟨T712, X712, e712, st712⟩ := getF X683 hx hZ hown (host := "") (Or.inl (hw _ (List.mem_of_getElem? (i := 25) rfl))) Via.refl e683 Fj0 (g := (mkF m 168 #[.val (.ref a1), .val (.ref b), .val (.long now), .second, .val (.int (2 : Int32)), .val (.int c0), .val (.int (0 : Int32)), s7] [(.ref a1)])) rfl rfl (hb hby d6_168)
              refine own_by st712 ?_
              have hres : (own_rest (2 : Int32) (own_count (2 : Int32) u1 u2 u3) (own_at u0 u1 u2 u3) now t0 r 2 x y z) = (xx, yy, zz) := hS.trans (own_out2 (n := (2 : Int32)) (c := (own_count (2 : Int32) u1 u2 u3)) (u := (own_at u0 u1 u2 u3)) (now := now) (t0 := t0) (r := r) (k := 1) (i := (0 : Int32)) (s := (xx, yy, zz)) hxx (hc0 ▸ hcc))
              exact own_retI X712 hx hlk hret  (hb hby d6_171) (by first | exact ⟨by rw [hres], N682, K682c, Ej, by rw [hres]; exact Fj0, by rw [hres]; exact Fj1, by rw [hres]; exact Fj2, Fj3, Fj4⟩ | (rw [e712]; exact ⟨by rw [hres], N682, K682c, Ej, by rw [hres]; exact Fj0, by rw [hres]; exact Fj1, by rw [hres]; exact Fj2, Fj3, Fj4⟩)) (by decide) (by decide)
          · refine own_by (fun _ k => XS.icmpYes X683.here hx rfl (pc0 := 80) (pc' := 167) rfl (hb hby d6_80) rfl (feq (hxx : ¬ (xx = (-1 : Int32)))).2 (by decide) (by decide) k) ?_
            refine own_by (fun _ k => XS.aloadN X683.here hx rfl (hb hby d6_167) rfl rfl k) ?_
            obtain ⟨T713, X713, e713, st713⟩ := getF X683 hx hZ hown (host := "") (Or.inl (hw _ (List.mem_of_getElem? (i := 25) rfl))) Via.refl e683 Fj0 (g := (mkF m 168 #[.val (.ref a1), .val (.ref b), .val (.long now), .second, .val (.int (2 : Int32)), .val (.int c0), .val (.int (0 : Int32)), s7] [(.ref a1)])) rfl rfl (hb hby d6_168)
            refine own_by st713 ?_
            have hres : (own_rest (2 : Int32) (own_count (2 : Int32) u1 u2 u3) (own_at u0 u1 u2 u3) now t0 r 2 x y z) = (xx, yy, zz) := hS.trans (own_out1 (n := (2 : Int32)) (c := (own_count (2 : Int32) u1 u2 u3)) (u := (own_at u0 u1 u2 u3)) (now := now) (t0 := t0) (r := r) (k := 1) (i := (0 : Int32)) (s := (xx, yy, zz)) hxx)
            exact own_retI X713 hx hlk hret  (hb hby d6_171) (by first | exact ⟨by rw [hres], N682, K682c, Ej, by rw [hres]; exact Fj0, by rw [hres]; exact Fj1, by rw [hres]; exact Fj2, Fj3, Fj4⟩ | (rw [e713]; exact ⟨by rw [hres], N682, K682c, Ej, by rw [hres]; exact Fj0, by rw [hres]; exact Fj1, by rw [hres]; exact Fj2, Fj3, Fj4⟩)) (by decide) (by decide)
        exact J75_0 T639 _ h638 X639 e639 N638 (Keep.refl _ _) x1 y z _ One.u hin (by rw [own_rest, hw1]) Ej Fj0 Fj1 Fj2 Fj3 Fj4
      by_cases ho2 : u2 = (0 : Int32)
      · refine own_by (fun _ k => XS.ifYes X639.here hx rfl (pc0 := 55) (pc' := 62) rfl (hb hby d6_55) rfl ((if0 _ _).trans (teq (ho2 : u2 = (0 : Int32))).1) (by decide) (by decide) k) ?_
        refine own_by (fun _ k => XS.iconst X639.here hx rfl (hb hby d6_62) k) ?_
        exact J63_2 _ (if_pos ho2).symm
      · refine own_by (fun _ k => XS.ifNo X639.here hx rfl (hb hby d6_55) rfl ((if0 _ _).trans (feq (ho2 : ¬ (u2 = (0 : Int32)))).1) k) ?_
        refine own_by (fun _ k => XS.iconst X639.here hx rfl (hb hby d6_58) k) ?_
        refine own_by (fun _ k => XS.goto X639.here hx rfl (pc0 := 59) (pc' := 63) rfl (hb hby d6_59) (by decide) (by decide) k) ?_
        exact J63_2 _ (if_neg ho2).symm
    by_cases ho1 : u1 = (0 : Int32)
    · refine own_by (fun _ k => XS.ifYes X639.here hx rfl (pc0 := 55) (pc' := 62) rfl (hb hby d6_55) rfl ((if0 _ _).trans (teq (ho1 : u1 = (0 : Int32))).1) (by decide) (by decide) k) ?_
      refine own_by (fun _ k => XS.iconst X639.here hx rfl (hb hby d6_62) k) ?_
      exact J63_1 _ (if_pos ho1).symm
    · refine own_by (fun _ k => XS.ifNo X639.here hx rfl (hb hby d6_55) rfl ((if0 _ _).trans (feq (ho1 : ¬ (u1 = (0 : Int32)))).1) k) ?_
      refine own_by (fun _ k => XS.iconst X639.here hx rfl (hb hby d6_58) k) ?_
      refine own_by (fun _ k => XS.goto X639.here hx rfl (pc0 := 59) (pc' := 63) rfl (hb hby d6_59) (by decide) (by decide) k) ?_
      exact J63_1 _ (if_neg ho1).symm
  refine own_by (fun _ k => XS.aloadN X0.here hx rfl (hb hby d6_0) rfl rfl k) ?_
  obtain ⟨T714, X714, e714, st714⟩ := getF X0 hx hZ hown (host := "") (Or.inl (hw _ (List.mem_of_getElem? (i := 25) rfl))) Via.refl e0 F_resting (g := (mkF m 1 #[.val (.ref a1), .val (.ref b), .val (.long now), .second, .unset, .unset, .unset, .unset] [(.ref a1)])) rfl rfl (hb hby d6_1)
  refine own_by st714 ?_
  refine own_by (fun _ k => XS.iconst X714.here hx rfl (hb hby d6_4) k) ?_
  by_cases hx0 : x = (-1 : Int32)
  · refine own_by (fun _ k => XS.icmpYes X714.here hx rfl (pc0 := 5) (pc' := 27) rfl (hb hby d6_5) rfl (teq (hx0 : x = (-1 : Int32))).1 (by decide) (by decide) k) ?_
    exact J27 T714 _ h0 X714 e714 N0 (Keep.refl _ _) _ (by simp only [own_wake, if_pos hx0]) E1 F_resting F_restingSince F_nextToRest F_rereadNanos F_tallies
  · refine own_by (fun _ k => XS.icmpNo X714.here hx rfl (hb hby d6_5) rfl (feq (hx0 : ¬ (x = (-1 : Int32)))).1 k) ?_
    refine own_by (fun _ k => XS.lloadN X714.here hx rfl (hb hby d6_8) rfl k) ?_
    refine own_by (fun _ k => XS.aloadN X714.here hx rfl (hb hby d6_9) rfl rfl k) ?_
    obtain ⟨T715, X715, e715, st715⟩ := getF X714 hx hZ hown (host := "") (Or.inl (hw _ (List.mem_of_getElem? (i := 58) rfl))) Via.refl e714 F_restingSince (g := (mkF m 10 #[.val (.ref a1), .val (.ref b), .val (.long now), .second, .unset, .unset, .unset, .unset] [(.ref a1), (.long now)])) rfl rfl (hb hby d6_10)
    refine own_by st715 ?_
    refine own_by (fun _ k => XS.lsub X715.here hx rfl (hb hby d6_13) rfl k) ?_
    show own_Go p e below _ T715 (mkF m 14 #[.val (.ref a1), .val (.ref b), .val (.long now), .second, .unset, .unset, .unset, .unset] [(.long (now - y))])
    refine own_by (fun _ k => XS.aloadN X715.here hx rfl (hb hby d6_14) rfl rfl k) ?_
    obtain ⟨T716, X716, e716, st716⟩ := getF X715 hx hZ hown (host := "") (Or.inl (hw _ (List.mem_of_getElem? (i := 29) rfl))) Via.refl e715 F_rereadNanos (g := (mkF m 15 #[.val (.ref a1), .val (.ref b), .val (.long now), .second, .unset, .unset, .unset, .unset] [(.ref a1), (.long (now - y))])) rfl rfl (hb hby d6_15)
    refine own_by st716 ?_
    refine own_by (fun _ k => XS.lcmp X716.here hx rfl (hb hby d6_18) rfl k) ?_
    by_cases hl0 : now - y < r
    · refine own_by (fun _ k => XS.ifYes X716.here hx rfl (pc0 := 19) (pc' := 27) rfl (hb hby d6_19) rfl ((if0 _ _).trans (tlt ((lw_lt _ _).mpr hl0 : (lcmpW (now - y) r) < (0 : Int32))).1) (by decide) (by decide) k) ?_
      exact J27 T716 _ h0 X716 e716 N0 (Keep.refl _ _) _ (by simp only [own_wake, if_neg hx0, if_pos hl0]) E1 F_resting F_restingSince F_nextToRest F_rereadNanos F_tallies
    · refine own_by (fun _ k => XS.ifNo X716.here hx rfl (hb hby d6_19) rfl ((if0 _ _).trans (flt (fun q => hl0 ((lw_lt _ _).mp q) : ¬ ((lcmpW (now - y) r) < (0 : Int32)))).1) k) ?_
      refine own_by (fun _ k => XS.aloadN X716.here hx rfl (hb hby d6_22) rfl rfl k) ?_
      refine own_by (fun _ k => XS.iconst X716.here hx rfl (hb hby d6_23) k) ?_
      obtain ⟨T717, h717, X717, e717, W717, st717⟩ := putF X716 hx hZ hown (host := "") (Or.inl (hw _ (List.mem_of_getElem? (i := 25) rfl))) Via.refl e716 F_resting E1 (Or.inl (hw _ (List.mem_of_getElem? (i := 26) rfl))) (hw _ (List.mem_of_getElem? (i := 6) rfl)) (ty := .int) (by decide) rfl rfl (g := (mkF m 24 #[.val (.ref a1), .val (.ref b), .val (.long now), .second, .unset, .unset, .unset, .unset] [(.int (-1 : Int32)), (.ref a1)])) rfl rfl (hb hby d6_24)
      refine own_by st717 ?_
      have N717 := Fr.snoc X717 N0 g1
      have fw717 := F_resting.same W717
      have K718 := K0.wr W717 (Or.inl (List.mem_of_getElem? (i := 0) rfl))
      have Z717 : n0 ≤ h717.size := Nat.le_trans Z0 (Keep.of_wr W717).1
      have f719 := (E1.wr W717)
      have f720 := (F_restingSince.other W717 (Or.inr (slot_ne (Or.inl (hw _ (List.mem_of_getElem? (i := 59) rfl))) (Or.inl (hw _ (List.mem_of_getElem? (i := 26) rfl))) (by decide) (t := .long) (t' := .int) (by decide) (by decide))))
      have f721 := (F_nextToRest.other W717 (Or.inr (slot_ne (Or.inl (hw _ (List.mem_of_getElem? (i := 28) rfl))) (Or.inl (hw _ (List.mem_of_getElem? (i := 26) rfl))) (by decide) (t := .int) (t' := .int) (by decide) (by decide))))
      have f722 := (F_rereadNanos.other W717 (Or.inr (slot_ne (Or.inr (hw _ (List.mem_of_getElem? (i := 30) rfl))) (Or.inl (hw _ (List.mem_of_getElem? (i := 26) rfl))) (by decide) (t := .long) (t' := .int) (by decide) (by decide))))
      have f723 := (F_tallies.other W717 (Or.inr (slot_ne (Or.inr (hw _ (List.mem_of_getElem? (i := 34) rfl))) (Or.inl (hw _ (List.mem_of_getElem? (i := 26) rfl))) (by decide) (t := (.array (.object "com/example/eskew/eskew/server/split/CounterValues$Tally"))) (t' := .int) (by decide) (by decide))))
      exact J27 T717 _ h717 X717 e717 N717 (Keep.of_wr W717) _ (by simp only [own_wake, if_neg hx0, if_neg hl0]) f719 fw717 f720 f721 f722 f723
def Q_rm8_3 (Z : State) (b : Addr) (kb : ClassId) (u0 u1 u2 u3 : Int32) (h0 : Heap) (n0 : Nat) (v : Option Value) (h : Heap) (L : List Loc) : Prop := v = some (.int (own_count (3 : Int32) u1 u2 u3)) ∧ Fr n0 L ∧ h = h0
theorem pn_rm8_3 : plainFor (⟨"com/example/eskew/eskew/server/split/CounterValuesRestingPinLaw", "count", "([ZI)I"⟩ : MethodName) = true := plainFor_of_name (by first | (simp [plainName, overriddenIn, x]; done) | decide +kernel)
theorem d8_37 : decode method_4_code 37 = .ok (.aload_n 0, 1) := by decide +kernel
theorem d8_38 : decode method_4_code 38 = .ok (.iconst 3, 1) := by decide +kernel
theorem d8_39 : decode method_4_code 39 = .ok (.baload, 1) := by decide +kernel
theorem d8_40 : decode method_4_code 40 = .ok (.ifCond .eq 7, 3) := by decide +kernel
theorem d8_43 : decode method_4_code 43 = .ok (.iload_n 2, 1) := by decide +kernel
theorem d8_44 : decode method_4_code 44 = .ok (.iconst 1, 1) := by decide +kernel
theorem d8_45 : decode method_4_code 45 = .ok (.iadd, 1) := by decide +kernel
theorem d8_46 : decode method_4_code 46 = .ok (.istore_n 2, 1) := by decide +kernel
set_option maxRecDepth 65536 in
set_option maxHeartbeats 40000000 in
theorem rm8_3 (l : Launch) (Z : State) (a0 : Array Value) (hw : ∀ d ∈ tables_1, d.before a0 Z = true) (ws : List Jvm.Cond) (b : Addr) (kb : ClassId) (u0 u1 u2 u3 : Int32) (h0 : Heap) (n0 : Nat) (Z0 : n0 ≤ h0.size) (V1 : Arv Z h0 b kb .boolean (4 : Int32) [(.int u0), (.int u1), (.int u2), (.int u3)] (.int (0 : Int32))) :
    own_Met l Z (⟨"com/example/eskew/eskew/server/split/CounterValuesRestingPinLaw", "count", "([ZI)I"⟩ : MethodName) method_4_code 3 (some .int) ws ({ frames := 0, cells := 0, slots := 0, locals := 0 } : Room) #[(.ref b), (.int (3 : Int32))] h0 (Q_rm8_3 Z b kb u0 u1 u2 u3 h0 n0) := by
  refine own_enter (g0 := fun m => (mkF m 0 #[.val (.ref b), .val (.int (3 : Int32)), .unset] [])) pn_rm8_3 (fun m => by first | (simp [entryFrame, mkF, argsToLocals, Value.category, maxLocals]; done) | rfl) ?_
  intro p e s m below meth c s₁ hx hby hml hown hnm hret hlk hZ X0 e0
  have hml : c.maxLocals = 3 := hml
  have hown : s.vm.findClass "com/example/eskew/eskew/server/split/CounterValuesRestingPinLaw" = some m.cls := hown
  have N0 := Fr.nil n0
  refine own_by (fun _ k => XS.iconst X0.here hx rfl (hb hby d8_0) k) ?_
  refine own_by (fun _ k => XS.istoreN X0.here hx rfl (hb hby d8_1) rfl (l' := #[.val (.ref b), .val (.int (3 : Int32)), .val (.int (0 : Int32))]) rfl k) ?_
  refine own_by (fun _ k => XS.iloadN X0.here hx rfl (hb hby d8_2) rfl k) ?_
  refine own_by (fun _ k => XS.iconst X0.here hx rfl (hb hby d8_3) k) ?_
  refine own_by (fun _ k => XS.icmpNo X0.here hx rfl (hb hby d8_4) rfl (flt (by decide : ¬ ((3 : Int32) < (1 : Int32)))).1 k) ?_
  refine own_by (fun _ k => XS.aloadN X0.here hx rfl (hb hby d8_7) rfl rfl k) ?_
  refine own_by (fun _ k => XS.iconst X0.here hx rfl (hb hby d8_8) k) ?_
  obtain ⟨cl724, Ar724, cq724, hin724, hat724, set724⟩ := own_arv V1 (j := (1 : Int32)) ⟨by decide, by decide⟩
  refine own_by (fun _ k => X0.baloadBooleans hx (j := (1 : Int32)) (v := (.int u1)) (by rw [e0]; exact Ar724.1) (State.isArrayOf_alike hZ.alike Ar724.2.1) Ar724.2.2 hin724 hat724 (g := (mkF m 9 #[.val (.ref b), .val (.int (3 : Int32)), .val (.int (0 : Int32))] [(.int (1 : Int32)), (.ref b)])) rfl rfl (hb hby d8_9) _ k) ?_
  show own_Go p e below _ s₁ (mkF m 10 #[.val (.ref b), .val (.int (3 : Int32)), .val (.int (0 : Int32))] [(.int u1)])
  by_cases z1 : u1 = (0 : Int32)
  · refine own_by (fun _ k => XS.ifYes X0.here hx rfl (pc0 := 10) (pc' := 17) rfl (hb hby d8_10) rfl ((if0 _ _).trans (teq (z1 : u1 = (0 : Int32))).1) (by decide) (by decide) k) ?_
    refine own_by (fun _ k => XS.iloadN X0.here hx rfl (hb hby d8_17) rfl k) ?_
    refine own_by (fun _ k => XS.iconst X0.here hx rfl (hb hby d8_18) k) ?_
    refine own_by (fun _ k => XS.icmpNo X0.here hx rfl (hb hby d8_19) rfl (flt (by decide : ¬ ((3 : Int32) < (2 : Int32)))).1 k) ?_
    refine own_by (fun _ k => XS.aloadN X0.here hx rfl (hb hby d8_22) rfl rfl k) ?_
    refine own_by (fun _ k => XS.iconst X0.here hx rfl (hb hby d8_23) k) ?_
    obtain ⟨cl725, Ar725, cq725, hin725, hat725, set725⟩ := own_arv V1 (j := (2 : Int32)) ⟨by decide, by decide⟩
    refine own_by (fun _ k => X0.baloadBooleans hx (j := (2 : Int32)) (v := (.int u2)) (by rw [e0]; exact Ar725.1) (State.isArrayOf_alike hZ.alike Ar725.2.1) Ar725.2.2 hin725 hat725 (g := (mkF m 24 #[.val (.ref b), .val (.int (3 : Int32)), .val (.int (0 : Int32))] [(.int (2 : Int32)), (.ref b)])) rfl rfl (hb hby d8_24) _ k) ?_
    by_cases z2 : u2 = (0 : Int32)
    · refine own_by (fun _ k => XS.ifYes X0.here hx rfl (pc0 := 25) (pc' := 32) rfl (hb hby d8_25) rfl ((if0 _ _).trans (teq (z2 : u2 = (0 : Int32))).1) (by decide) (by decide) k) ?_
      refine own_by (fun _ k => XS.iloadN X0.here hx rfl (hb hby d8_32) rfl k) ?_
      show own_Go p e below _ s₁ (mkF m 33 #[.val (.ref b), .val (.int (3 : Int32)), .val (.int (0 : Int32))] [(.int (3 : Int32))])
      refine own_by (fun _ k => XS.iconst X0.here hx rfl (hb hby d8_33) k) ?_
      refine own_by (fun _ k => XS.icmpNo X0.here hx rfl (hb hby d8_34) rfl (flt (by decide : ¬ ((3 : Int32) < (3 : Int32)))).1 k) ?_
      refine own_by (fun _ k => XS.aloadN X0.here hx rfl (hb hby d8_37) rfl rfl k) ?_
      refine own_by (fun _ k => XS.iconst X0.here hx rfl (hb hby d8_38) k) ?_
      obtain ⟨cl726, Ar726, cq726, hin726, hat726, set726⟩ := own_arv V1 (j := (3 : Int32)) ⟨by decide, by decide⟩
      refine own_by (fun _ k => X0.baloadBooleans hx (j := (3 : Int32)) (v := (.int u3)) (by rw [e0]; exact Ar726.1) (State.isArrayOf_alike hZ.alike Ar726.2.1) Ar726.2.2 hin726 hat726 (g := (mkF m 39 #[.val (.ref b), .val (.int (3 : Int32)), .val (.int (0 : Int32))] [(.int (3 : Int32)), (.ref b)])) rfl rfl (hb hby d8_39) _ k) ?_
      by_cases z3 : u3 = (0 : Int32)
      · refine own_by (fun _ k => XS.ifYes X0.here hx rfl (pc0 := 40) (pc' := 47) rfl (hb hby d8_40) rfl ((if0 _ _).trans (teq (z3 : u3 = (0 : Int32))).1) (by decide) (by decide) k) ?_
        refine own_by (fun _ k => XS.iloadN X0.here hx rfl (hb hby d8_47) rfl k) ?_
        exact own_retI X0 hx hlk hret  (hb hby d8_48) (by first | exact ⟨by simp only [own_count, own_one, if_pos z1, if_pos z2, if_pos z3]; rfl, N0, rfl⟩ | (rw [e0]; exact ⟨by simp only [own_count, own_one, if_pos z1, if_pos z2, if_pos z3]; rfl, N0, rfl⟩)) (by decide) (by decide)
      · refine own_by (fun _ k => XS.ifNo X0.here hx rfl (hb hby d8_40) rfl ((if0 _ _).trans (feq (z3 : ¬ (u3 = (0 : Int32)))).1) k) ?_
        refine own_by (fun _ k => XS.iloadN X0.here hx rfl (hb hby d8_43) rfl k) ?_
        refine own_by (fun _ k => XS.iconst X0.here hx rfl (hb hby d8_44) k) ?_
        refine own_by (fun _ k => XS.iadd X0.here hx rfl (hb hby d8_45) rfl k) ?_
        show own_Go p e below _ s₁ (mkF m 46 #[.val (.ref b), .val (.int (3 : Int32)), .val (.int (0 : Int32))] [(.int ((0 : Int32) + (1 : Int32)))])
        refine own_by (fun _ k => XS.istoreN X0.here hx rfl (hb hby d8_46) rfl (l' := #[.val (.ref b), .val (.int (3 : Int32)), .val (.int ((0 : Int32) + (1 : Int32)))]) rfl k) ?_
        show own_Go p e below _ s₁ (mkF m 47 #[.val (.ref b), .val (.int (3 : Int32)), .val (.int ((0 : Int32) + (1 : Int32)))] [])
        rw [show (0 : Int32) + (1 : Int32) = (1 : Int32) from by decide]
        refine own_by (fun _ k => XS.iloadN X0.here hx rfl (hb hby d8_47) rfl k) ?_
        exact own_retI X0 hx hlk hret  (hb hby d8_48) (by first | exact ⟨by simp only [own_count, own_one, if_pos z1, if_pos z2, if_neg z3]; rfl, N0, rfl⟩ | (rw [e0]; exact ⟨by simp only [own_count, own_one, if_pos z1, if_pos z2, if_neg z3]; rfl, N0, rfl⟩)) (by decide) (by decide)
    · refine own_by (fun _ k => XS.ifNo X0.here hx rfl (hb hby d8_25) rfl ((if0 _ _).trans (feq (z2 : ¬ (u2 = (0 : Int32)))).1) k) ?_
      refine own_by (fun _ k => XS.iloadN X0.here hx rfl (hb hby d8_28) rfl k) ?_
      show own_Go p e below _ s₁ (mkF m 29 #[.val (.ref b), .val (.int (3 : Int32)), .val (.int (0 : Int32))] [(.int (0 : Int32))])
      refine own_by (fun _ k => XS.iconst X0.here hx rfl (hb hby d8_29) k) ?_
      refine own_by (fun _ k => XS.iadd X0.here hx rfl (hb hby d8_30) rfl k) ?_
      refine own_by (fun _ k => XS.istoreN X0.here hx rfl (hb hby d8_31) rfl (l' := #[.val (.ref b), .val (.int (3 : Int32)), .val (.int ((0 : Int32) + (1 : Int32)))]) rfl k) ?_
      show own_Go p e below _ s₁ (mkF m 32 #[.val (.ref b), .val (.int (3 : Int32)), .val (.int ((0 : Int32) + (1 : Int32)))] [])
      rw [show (0 : Int32) + (1 : Int32) = (1 : Int32) from by decide]
      refine own_by (fun _ k => XS.iloadN X0.here hx rfl (hb hby d8_32) rfl k) ?_
      refine own_by (fun _ k => XS.iconst X0.here hx rfl (hb hby d8_33) k) ?_
      refine own_by (fun _ k => XS.icmpNo X0.here hx rfl (hb hby d8_34) rfl (flt (by decide : ¬ ((3 : Int32) < (3 : Int32)))).1 k) ?_
      refine own_by (fun _ k => XS.aloadN X0.here hx rfl (hb hby d8_37) rfl rfl k) ?_
      refine own_by (fun _ k => XS.iconst X0.here hx rfl (hb hby d8_38) k) ?_
      obtain ⟨cl727, Ar727, cq727, hin727, hat727, set727⟩ := own_arv V1 (j := (3 : Int32)) ⟨by decide, by decide⟩
      refine own_by (fun _ k => X0.baloadBooleans hx (j := (3 : Int32)) (v := (.int u3)) (by rw [e0]; exact Ar727.1) (State.isArrayOf_alike hZ.alike Ar727.2.1) Ar727.2.2 hin727 hat727 (g := (mkF m 39 #[.val (.ref b), .val (.int (3 : Int32)), .val (.int (1 : Int32))] [(.int (3 : Int32)), (.ref b)])) rfl rfl (hb hby d8_39) _ k) ?_
      by_cases z3 : u3 = (0 : Int32)
      · refine own_by (fun _ k => XS.ifYes X0.here hx rfl (pc0 := 40) (pc' := 47) rfl (hb hby d8_40) rfl ((if0 _ _).trans (teq (z3 : u3 = (0 : Int32))).1) (by decide) (by decide) k) ?_
        refine own_by (fun _ k => XS.iloadN X0.here hx rfl (hb hby d8_47) rfl k) ?_
        show own_Go p e below _ s₁ (mkF m 48 #[.val (.ref b), .val (.int (3 : Int32)), .val (.int (1 : Int32))] [(.int (1 : Int32))])
        exact own_retI X0 hx hlk hret  (hb hby d8_48) (by first | exact ⟨by simp only [own_count, own_one, if_pos z1, if_neg z2, if_pos z3]; rfl, N0, rfl⟩ | (rw [e0]; exact ⟨by simp only [own_count, own_one, if_pos z1, if_neg z2, if_pos z3]; rfl, N0, rfl⟩)) (by decide) (by decide)
      · refine own_by (fun _ k => XS.ifNo X0.here hx rfl (hb hby d8_40) rfl ((if0 _ _).trans (feq (z3 : ¬ (u3 = (0 : Int32)))).1) k) ?_
        refine own_by (fun _ k => XS.iloadN X0.here hx rfl (hb hby d8_43) rfl k) ?_
        show own_Go p e below _ s₁ (mkF m 44 #[.val (.ref b), .val (.int (3 : Int32)), .val (.int (1 : Int32))] [(.int (1 : Int32))])
        refine own_by (fun _ k => XS.iconst X0.here hx rfl (hb hby d8_44) k) ?_
        refine own_by (fun _ k => XS.iadd X0.here hx rfl (hb hby d8_45) rfl k) ?_
        refine own_by (fun _ k => XS.istoreN X0.here hx rfl (hb hby d8_46) rfl (l' := #[.val (.ref b), .val (.int (3 : Int32)), .val (.int ((1 : Int32) + (1 : Int32)))]) rfl k) ?_
        show own_Go p e below _ s₁ (mkF m 47 #[.val (.ref b), .val (.int (3 : Int32)), .val (.int ((1 : Int32) + (1 : Int32)))] [])
        rw [show (1 : Int32) + (1 : Int32) = (2 : Int32) from by decide]
        refine own_by (fun _ k => XS.iloadN X0.here hx rfl (hb hby d8_47) rfl k) ?_
        exact own_retI X0 hx hlk hret  (hb hby d8_48) (by first | exact ⟨by simp only [own_count, own_one, if_pos z1, if_neg z2, if_neg z3]; rfl, N0, rfl⟩ | (rw [e0]; exact ⟨by simp only [own_count, own_one, if_pos z1, if_neg z2, if_neg z3]; rfl, N0, rfl⟩)) (by decide) (by decide)
  · refine own_by (fun _ k => XS.ifNo X0.here hx rfl (hb hby d8_10) rfl ((if0 _ _).trans (feq (z1 : ¬ (u1 = (0 : Int32)))).1) k) ?_
    refine own_by (fun _ k => XS.iloadN X0.here hx rfl (hb hby d8_13) rfl k) ?_
    refine own_by (fun _ k => XS.iconst X0.here hx rfl (hb hby d8_14) k) ?_
    refine own_by (fun _ k => XS.iadd X0.here hx rfl (hb hby d8_15) rfl k) ?_
    refine own_by (fun _ k => XS.istoreN X0.here hx rfl (hb hby d8_16) rfl (l' := #[.val (.ref b), .val (.int (3 : Int32)), .val (.int ((0 : Int32) + (1 : Int32)))]) rfl k) ?_
    show own_Go p e below _ s₁ (mkF m 17 #[.val (.ref b), .val (.int (3 : Int32)), .val (.int ((0 : Int32) + (1 : Int32)))] [])
    rw [show (0 : Int32) + (1 : Int32) = (1 : Int32) from by decide]
    refine own_by (fun _ k => XS.iloadN X0.here hx rfl (hb hby d8_17) rfl k) ?_
    refine own_by (fun _ k => XS.iconst X0.here hx rfl (hb hby d8_18) k) ?_
    refine own_by (fun _ k => XS.icmpNo X0.here hx rfl (hb hby d8_19) rfl (flt (by decide : ¬ ((3 : Int32) < (2 : Int32)))).1 k) ?_
    refine own_by (fun _ k => XS.aloadN X0.here hx rfl (hb hby d8_22) rfl rfl k) ?_
    refine own_by (fun _ k => XS.iconst X0.here hx rfl (hb hby d8_23) k) ?_
    obtain ⟨cl728, Ar728, cq728, hin728, hat728, set728⟩ := own_arv V1 (j := (2 : Int32)) ⟨by decide, by decide⟩
    refine own_by (fun _ k => X0.baloadBooleans hx (j := (2 : Int32)) (v := (.int u2)) (by rw [e0]; exact Ar728.1) (State.isArrayOf_alike hZ.alike Ar728.2.1) Ar728.2.2 hin728 hat728 (g := (mkF m 24 #[.val (.ref b), .val (.int (3 : Int32)), .val (.int (1 : Int32))] [(.int (2 : Int32)), (.ref b)])) rfl rfl (hb hby d8_24) _ k) ?_
    by_cases z2 : u2 = (0 : Int32)
    · refine own_by (fun _ k => XS.ifYes X0.here hx rfl (pc0 := 25) (pc' := 32) rfl (hb hby d8_25) rfl ((if0 _ _).trans (teq (z2 : u2 = (0 : Int32))).1) (by decide) (by decide) k) ?_
      refine own_by (fun _ k => XS.iloadN X0.here hx rfl (hb hby d8_32) rfl k) ?_
      show own_Go p e below _ s₁ (mkF m 33 #[.val (.ref b), .val (.int (3 : Int32)), .val (.int (1 : Int32))] [(.int (3 : Int32))])
      refine own_by (fun _ k => XS.iconst X0.here hx rfl (hb hby d8_33) k) ?_
      refine own_by (fun _ k => XS.icmpNo X0.here hx rfl (hb hby d8_34) rfl (flt (by decide : ¬ ((3 : Int32) < (3 : Int32)))).1 k) ?_
      refine own_by (fun _ k => XS.aloadN X0.here hx rfl (hb hby d8_37) rfl rfl k) ?_
      refine own_by (fun _ k => XS.iconst X0.here hx rfl (hb hby d8_38) k) ?_
      obtain ⟨cl729, Ar729, cq729, hin729, hat729, set729⟩ := own_arv V1 (j := (3 : Int32)) ⟨by decide, by decide⟩
      refine own_by (fun _ k => X0.baloadBooleans hx (j := (3 : Int32)) (v := (.int u3)) (by rw [e0]; exact Ar729.1) (State.isArrayOf_alike hZ.alike Ar729.2.1) Ar729.2.2 hin729 hat729 (g := (mkF m 39 #[.val (.ref b), .val (.int (3 : Int32)), .val (.int (1 : Int32))] [(.int (3 : Int32)), (.ref b)])) rfl rfl (hb hby d8_39) _ k) ?_
      by_cases z3 : u3 = (0 : Int32)
      · refine own_by (fun _ k => XS.ifYes X0.here hx rfl (pc0 := 40) (pc' := 47) rfl (hb hby d8_40) rfl ((if0 _ _).trans (teq (z3 : u3 = (0 : Int32))).1) (by decide) (by decide) k) ?_
        refine own_by (fun _ k => XS.iloadN X0.here hx rfl (hb hby d8_47) rfl k) ?_
        exact own_retI X0 hx hlk hret  (hb hby d8_48) (by first | exact ⟨by simp only [own_count, own_one, if_neg z1, if_pos z2, if_pos z3]; rfl, N0, rfl⟩ | (rw [e0]; exact ⟨by simp only [own_count, own_one, if_neg z1, if_pos z2, if_pos z3]; rfl, N0, rfl⟩)) (by decide) (by decide)
      · refine own_by (fun _ k => XS.ifNo X0.here hx rfl (hb hby d8_40) rfl ((if0 _ _).trans (feq (z3 : ¬ (u3 = (0 : Int32)))).1) k) ?_
        refine own_by (fun _ k => XS.iloadN X0.here hx rfl (hb hby d8_43) rfl k) ?_
        refine own_by (fun _ k => XS.iconst X0.here hx rfl (hb hby d8_44) k) ?_
        refine own_by (fun _ k => XS.iadd X0.here hx rfl (hb hby d8_45) rfl k) ?_
        show own_Go p e below _ s₁ (mkF m 46 #[.val (.ref b), .val (.int (3 : Int32)), .val (.int (1 : Int32))] [(.int ((1 : Int32) + (1 : Int32)))])
        refine own_by (fun _ k => XS.istoreN X0.here hx rfl (hb hby d8_46) rfl (l' := #[.val (.ref b), .val (.int (3 : Int32)), .val (.int ((1 : Int32) + (1 : Int32)))]) rfl k) ?_
        show own_Go p e below _ s₁ (mkF m 47 #[.val (.ref b), .val (.int (3 : Int32)), .val (.int ((1 : Int32) + (1 : Int32)))] [])
        rw [show (1 : Int32) + (1 : Int32) = (2 : Int32) from by decide]
        refine own_by (fun _ k => XS.iloadN X0.here hx rfl (hb hby d8_47) rfl k) ?_
        exact own_retI X0 hx hlk hret  (hb hby d8_48) (by first | exact ⟨by simp only [own_count, own_one, if_neg z1, if_pos z2, if_neg z3]; rfl, N0, rfl⟩ | (rw [e0]; exact ⟨by simp only [own_count, own_one, if_neg z1, if_pos z2, if_neg z3]; rfl, N0, rfl⟩)) (by decide) (by decide)
    · refine own_by (fun _ k => XS.ifNo X0.here hx rfl (hb hby d8_25) rfl ((if0 _ _).trans (feq (z2 : ¬ (u2 = (0 : Int32)))).1) k) ?_
      refine own_by (fun _ k => XS.iloadN X0.here hx rfl (hb hby d8_28) rfl k) ?_
      show own_Go p e below _ s₁ (mkF m 29 #[.val (.ref b), .val (.int (3 : Int32)), .val (.int (1 : Int32))] [(.int (1 : Int32))])
      refine own_by (fun _ k => XS.iconst X0.here hx rfl (hb hby d8_29) k) ?_
      refine own_by (fun _ k => XS.iadd X0.here hx rfl (hb hby d8_30) rfl k) ?_
      refine own_by (fun _ k => XS.istoreN X0.here hx rfl (hb hby d8_31) rfl (l' := #[.val (.ref b), .val (.int (3 : Int32)), .val (.int ((1 : Int32) + (1 : Int32)))]) rfl k) ?_
      show own_Go p e below _ s₁ (mkF m 32 #[.val (.ref b), .val (.int (3 : Int32)), .val (.int ((1 : Int32) + (1 : Int32)))] [])
      rw [show (1 : Int32) + (1 : Int32) = (2 : Int32) from by decide]
      refine own_by (fun _ k => XS.iloadN X0.here hx rfl (hb hby d8_32) rfl k) ?_
      refine own_by (fun _ k => XS.iconst X0.here hx rfl (hb hby d8_33) k) ?_
      refine own_by (fun _ k => XS.icmpNo X0.here hx rfl (hb hby d8_34) rfl (flt (by decide : ¬ ((3 : Int32) < (3 : Int32)))).1 k) ?_
      refine own_by (fun _ k => XS.aloadN X0.here hx rfl (hb hby d8_37) rfl rfl k) ?_
      refine own_by (fun _ k => XS.iconst X0.here hx rfl (hb hby d8_38) k) ?_
      obtain ⟨cl730, Ar730, cq730, hin730, hat730, set730⟩ := own_arv V1 (j := (3 : Int32)) ⟨by decide, by decide⟩
      refine own_by (fun _ k => X0.baloadBooleans hx (j := (3 : Int32)) (v := (.int u3)) (by rw [e0]; exact Ar730.1) (State.isArrayOf_alike hZ.alike Ar730.2.1) Ar730.2.2 hin730 hat730 (g := (mkF m 39 #[.val (.ref b), .val (.int (3 : Int32)), .val (.int (2 : Int32))] [(.int (3 : Int32)), (.ref b)])) rfl rfl (hb hby d8_39) _ k) ?_
      by_cases z3 : u3 = (0 : Int32)
      · refine own_by (fun _ k => XS.ifYes X0.here hx rfl (pc0 := 40) (pc' := 47) rfl (hb hby d8_40) rfl ((if0 _ _).trans (teq (z3 : u3 = (0 : Int32))).1) (by decide) (by decide) k) ?_
        refine own_by (fun _ k => XS.iloadN X0.here hx rfl (hb hby d8_47) rfl k) ?_
        show own_Go p e below _ s₁ (mkF m 48 #[.val (.ref b), .val (.int (3 : Int32)), .val (.int (2 : Int32))] [(.int (2 : Int32))])
        exact own_retI X0 hx hlk hret  (hb hby d8_48) (by first | exact ⟨by simp only [own_count, own_one, if_neg z1, if_neg z2, if_pos z3]; rfl, N0, rfl⟩ | (rw [e0]; exact ⟨by simp only [own_count, own_one, if_neg z1, if_neg z2, if_pos z3]; rfl, N0, rfl⟩)) (by decide) (by decide)
      · refine own_by (fun _ k => XS.ifNo X0.here hx rfl (hb hby d8_40) rfl ((if0 _ _).trans (feq (z3 : ¬ (u3 = (0 : Int32)))).1) k) ?_
        refine own_by (fun _ k => XS.iloadN X0.here hx rfl (hb hby d8_43) rfl k) ?_
        show own_Go p e below _ s₁ (mkF m 44 #[.val (.ref b), .val (.int (3 : Int32)), .val (.int (2 : Int32))] [(.int (2 : Int32))])
        refine own_by (fun _ k => XS.iconst X0.here hx rfl (hb hby d8_44) k) ?_
        refine own_by (fun _ k => XS.iadd X0.here hx rfl (hb hby d8_45) rfl k) ?_
        refine own_by (fun _ k => XS.istoreN X0.here hx rfl (hb hby d8_46) rfl (l' := #[.val (.ref b), .val (.int (3 : Int32)), .val (.int ((2 : Int32) + (1 : Int32)))]) rfl k) ?_
        show own_Go p e below _ s₁ (mkF m 47 #[.val (.ref b), .val (.int (3 : Int32)), .val (.int ((2 : Int32) + (1 : Int32)))] [])
        rw [show (2 : Int32) + (1 : Int32) = (3 : Int32) from by decide]
        refine own_by (fun _ k => XS.iloadN X0.here hx rfl (hb hby d8_47) rfl k) ?_
        exact own_retI X0 hx hlk hret  (hb hby d8_48) (by first | exact ⟨by simp only [own_count, own_one, if_neg z1, if_neg z2, if_neg z3]; rfl, N0, rfl⟩ | (rw [e0]; exact ⟨by simp only [own_count, own_one, if_neg z1, if_neg z2, if_neg z3]; rfl, N0, rfl⟩)) (by decide) (by decide)
def Q_rm9_3 (Z : State) (b : Addr) (kb : ClassId) (u0 u1 u2 u3 x : Int32) (h0 : Heap) (n0 : Nat) (v : Option Value) (h : Heap) (L : List Loc) : Prop := v = some (.int (own_first (3 : Int32) (own_at u0 u1 u2 u3) x)) ∧ Fr n0 L ∧ h = h0
theorem pn_rm9_3 : plainFor (⟨"com/example/eskew/eskew/server/split/CounterValuesRestingPinLaw", "first", "([ZII)I"⟩ : MethodName) = true := plainFor_of_name (by first | (simp [plainName, overriddenIn, x]; done) | decide +kernel)
theorem d9_51 : decode method_6_code 51 = .ok (.aload_n 0, 1) := by decide +kernel
theorem d9_52 : decode method_6_code 52 = .ok (.iload_n 2, 1) := by decide +kernel
theorem d9_53 : decode method_6_code 53 = .ok (.iconst 2, 1) := by decide +kernel
theorem d9_54 : decode method_6_code 54 = .ok (.iadd, 1) := by decide +kernel
theorem d9_55 : decode method_6_code 55 = .ok (.iload_n 1, 1) := by decide +kernel
theorem d9_56 : decode method_6_code 56 = .ok (.invokestatic 26, 3) := by decide +kernel
theorem d9_59 : decode method_6_code 59 = .ok (.baload, 1) := by decide +kernel
theorem d9_60 : decode method_6_code 60 = .ok (.ifCond .eq 11, 3) := by decide +kernel
theorem d9_63 : decode method_6_code 63 = .ok (.iload_n 2, 1) := by decide +kernel
theorem d9_64 : decode method_6_code 64 = .ok (.iconst 2, 1) := by decide +kernel
theorem d9_65 : decode method_6_code 65 = .ok (.iadd, 1) := by decide +kernel
theorem d9_66 : decode method_6_code 66 = .ok (.iload_n 1, 1) := by decide +kernel
theorem d9_67 : decode method_6_code 67 = .ok (.invokestatic 26, 3) := by decide +kernel
theorem d9_70 : decode method_6_code 70 = .ok (.ireturn, 1) := by decide +kernel
set_option maxRecDepth 65536 in
set_option maxHeartbeats 40000000 in
theorem rm9_3 (l : Launch) (Z : State) (a0 : Array Value) (hw : ∀ d ∈ tables_1, d.before a0 Z = true) (ws : List Jvm.Cond) (b : Addr) (kb : ClassId) (u0 u1 u2 u3 x : Int32) (h0 : Heap) (n0 : Nat) (Z0 : n0 ≤ h0.size) (hin : own_in (3 : Int32) x) (V1 : Arv Z h0 b kb .boolean (4 : Int32) [(.int u0), (.int u1), (.int u2), (.int u3)] (.int (0 : Int32))) :
    own_Met l Z (⟨"com/example/eskew/eskew/server/split/CounterValuesRestingPinLaw", "first", "([ZII)I"⟩ : MethodName) method_6_code 3 (some .int) ws ({ frames := 1, cells := 0, slots := 0, locals := 32 } : Room) #[(.ref b), (.int (3 : Int32)), (.int x)] h0 (Q_rm9_3 Z b kb u0 u1 u2 u3 x h0 n0) := by
  refine own_enter (g0 := fun m => (mkF m 0 #[.val (.ref b), .val (.int (3 : Int32)), .val (.int x)] [])) pn_rm9_3 (fun m => by first | (simp [entryFrame, mkF, argsToLocals, Value.category, maxLocals]; done) | rfl) ?_
  intro p e s m below meth c s₁ hx hby hml hown hnm hret hlk hZ X0 e0
  have hml : c.maxLocals = 3 := hml
  have hown : s.vm.findClass "com/example/eskew/eskew/server/split/CounterValuesRestingPinLaw" = some m.cls := hown
  have N0 := Fr.nil n0
  have hnn : (3 : Int32) = 1 ∨ (3 : Int32) = 2 ∨ (3 : Int32) = 3 := by decide
  obtain ⟨r0, r1, r2⟩ := own_wr (3 : Int32) x hin hnn
  refine own_by (fun _ k => XS.iloadN X0.here hx rfl (hb hby d9_0) rfl k) ?_
  refine own_by (fun _ k => XS.iconst X0.here hx rfl (hb hby d9_1) k) ?_
  refine own_by (fun _ k => XS.icmpNo X0.here hx rfl (hb hby d9_2) rfl (flt (by decide : ¬ ((3 : Int32) < (1 : Int32)))).1 k) ?_
  refine own_by (fun _ k => XS.aloadN X0.here hx rfl (hb hby d9_5) rfl rfl k) ?_
  refine own_by (fun _ k => XS.iloadN X0.here hx rfl (hb hby d9_6) rfl k) ?_
  refine own_by (fun _ k => XS.iloadN X0.here hx rfl (hb hby d9_7) rfl k) ?_
  obtain ⟨_, T731, L731, X731, ⟨rfl, N731q, e731⟩, st731⟩ := own_callS X0 hx hZ hown (y := (⟨"com/example/eskew/eskew/server/split/CounterValuesRestingPinLaw", "wrap", "(II)I"⟩ : MethodName)) (hw _ (List.mem_of_getElem? (i := 63) rfl)) (hw _ (List.mem_of_getElem? (i := 64) rfl)) (hw _ (List.mem_of_getElem? (i := 2) rfl)) (hw _ (List.mem_of_getElem? (i := 65) rfl)) (by decide) (argsL := [(.int x), (.int (3 : Int32))]) (rest := [(.ref b)]) e0 (rm10 l Z a0 hw [] x (3 : Int32) h0 n0 Z0) (g := (mkF m 8 #[.val (.ref b), .val (.int (3 : Int32)), .val (.int x)] [(.int (3 : Int32)), (.int x), (.ref b)])) rfl (by rw [hml]; rfl) (lenOf pd_3 rfl) rfl (W := 1) (by show 2 * 0 + _ ≤ _; exact Nat.le_of_eq rfl) (hb hby d9_8) (by decide) (by decide) (by decide) (by decide)
  have N731 := Fr.app N0 N731q
  refine own_by st731 ?_
  obtain ⟨cl732, Ar732, cq732, hin732, hat732, set732⟩ := own_arv V1 (j := (own_wrap x (3 : Int32))) r0
  refine own_by (fun _ k => X731.baloadBooleans hx (j := (own_wrap x (3 : Int32))) (v := (.int ((own_at u0 u1 u2 u3) (own_wrap x (3 : Int32))))) (by rw [e731]; exact Ar732.1) (State.isArrayOf_alike hZ.alike Ar732.2.1) Ar732.2.2 hin732 (by rw [hat732]; exact congrArg some (own_get _ r0)) (g := (mkF m 11 #[.val (.ref b), .val (.int (3 : Int32)), .val (.int x)] [(.int (own_wrap x (3 : Int32))), (.ref b)])) rfl rfl (hb hby d9_11) _ k) ?_
  show own_Go p e below _ T731 (mkF m 12 #[.val (.ref b), .val (.int (3 : Int32)), .val (.int x)] [(.int ((own_at u0 u1 u2 u3) (own_wrap x (3 : Int32))))])
  by_cases z0 : ((own_at u0 u1 u2 u3) (own_wrap x (3 : Int32))) = (0 : Int32)
  · refine own_by (fun _ k => XS.ifYes X731.here hx rfl (pc0 := 12) (pc' := 21) rfl (hb hby d9_12) rfl ((if0 _ _).trans (teq (z0 : ((own_at u0 u1 u2 u3) (own_wrap x (3 : Int32))) = (0 : Int32))).1) (by decide) (by decide) k) ?_
    refine own_by (fun _ k => XS.iloadN X731.here hx rfl (hb hby d9_21) rfl k) ?_
    refine own_by (fun _ k => XS.iconst X731.here hx rfl (hb hby d9_22) k) ?_
    refine own_by (fun _ k => XS.icmpNo X731.here hx rfl (hb hby d9_23) rfl (flt (by decide : ¬ ((3 : Int32) < (2 : Int32)))).1 k) ?_
    refine own_by (fun _ k => XS.aloadN X731.here hx rfl (hb hby d9_26) rfl rfl k) ?_
    refine own_by (fun _ k => XS.iloadN X731.here hx rfl (hb hby d9_27) rfl k) ?_
    refine own_by (fun _ k => XS.iconst X731.here hx rfl (hb hby d9_28) k) ?_
    refine own_by (fun _ k => XS.iadd X731.here hx rfl (hb hby d9_29) rfl k) ?_
    refine own_by (fun _ k => XS.iloadN X731.here hx rfl (hb hby d9_30) rfl k) ?_
    show own_Go p e below _ T731 (mkF m 31 #[.val (.ref b), .val (.int (3 : Int32)), .val (.int x)] [(.int (3 : Int32)), (.int (x + (1 : Int32))), (.ref b)])
    obtain ⟨_, T733, L733, X733, ⟨rfl, N733q, e733⟩, st733⟩ := own_callS X731 hx hZ hown (y := (⟨"com/example/eskew/eskew/server/split/CounterValuesRestingPinLaw", "wrap", "(II)I"⟩ : MethodName)) (hw _ (List.mem_of_getElem? (i := 63) rfl)) (hw _ (List.mem_of_getElem? (i := 64) rfl)) (hw _ (List.mem_of_getElem? (i := 2) rfl)) (hw _ (List.mem_of_getElem? (i := 65) rfl)) (by decide) (argsL := [(.int (x + (1 : Int32))), (.int (3 : Int32))]) (rest := [(.ref b)]) e731 (rm10 l Z a0 hw [] (x + (1 : Int32)) (3 : Int32) h0 n0 Z0) (g := (mkF m 31 #[.val (.ref b), .val (.int (3 : Int32)), .val (.int x)] [(.int (3 : Int32)), (.int (x + (1 : Int32))), (.ref b)])) rfl (by rw [hml]; rfl) (lenOf pd_3 rfl) rfl (W := 1) (by show 2 * 0 + _ ≤ _; exact Nat.le_of_eq rfl) (hb hby d9_31) (by decide) (by decide) (by decide) (by decide)
    have N733 := Fr.app N731 N733q
    refine own_by st733 ?_
    obtain ⟨cl734, Ar734, cq734, hin734, hat734, set734⟩ := own_arv V1 (j := (own_wrap (x + (1 : Int32)) (3 : Int32))) (r1 (by decide))
    refine own_by (fun _ k => X733.baloadBooleans hx (j := (own_wrap (x + (1 : Int32)) (3 : Int32))) (v := (.int ((own_at u0 u1 u2 u3) (own_wrap (x + (1 : Int32)) (3 : Int32))))) (by rw [e733]; exact Ar734.1) (State.isArrayOf_alike hZ.alike Ar734.2.1) Ar734.2.2 hin734 (by rw [hat734]; exact congrArg some (own_get _ (r1 (by decide)))) (g := (mkF m 34 #[.val (.ref b), .val (.int (3 : Int32)), .val (.int x)] [(.int (own_wrap (x + (1 : Int32)) (3 : Int32))), (.ref b)])) rfl rfl (hb hby d9_34) _ k) ?_
    by_cases z1 : ((own_at u0 u1 u2 u3) (own_wrap (x + (1 : Int32)) (3 : Int32))) = (0 : Int32)
    · refine own_by (fun _ k => XS.ifYes X733.here hx rfl (pc0 := 35) (pc' := 46) rfl (hb hby d9_35) rfl ((if0 _ _).trans (teq (z1 : ((own_at u0 u1 u2 u3) (own_wrap (x + (1 : Int32)) (3 : Int32))) = (0 : Int32))).1) (by decide) (by decide) k) ?_
      refine own_by (fun _ k => XS.iloadN X733.here hx rfl (hb hby d9_46) rfl k) ?_
      refine own_by (fun _ k => XS.iconst X733.here hx rfl (hb hby d9_47) k) ?_
      refine own_by (fun _ k => XS.icmpNo X733.here hx rfl (hb hby d9_48) rfl (flt (by decide : ¬ ((3 : Int32) < (3 : Int32)))).1 k) ?_
      refine own_by (fun _ k => XS.aloadN X733.here hx rfl (hb hby d9_51) rfl rfl k) ?_
      refine own_by (fun _ k => XS.iloadN X733.here hx rfl (hb hby d9_52) rfl k) ?_
      refine own_by (fun _ k => XS.iconst X733.here hx rfl (hb hby d9_53) k) ?_
      show own_Go p e below _ T733 (mkF m 54 #[.val (.ref b), .val (.int (3 : Int32)), .val (.int x)] [(.int (2 : Int32)), (.int x), (.ref b)])
      refine own_by (fun _ k => XS.iadd X733.here hx rfl (hb hby d9_54) rfl k) ?_
      refine own_by (fun _ k => XS.iloadN X733.here hx rfl (hb hby d9_55) rfl k) ?_
      obtain ⟨_, T735, L735, X735, ⟨rfl, N735q, e735⟩, st735⟩ := own_callS X733 hx hZ hown (y := (⟨"com/example/eskew/eskew/server/split/CounterValuesRestingPinLaw", "wrap", "(II)I"⟩ : MethodName)) (hw _ (List.mem_of_getElem? (i := 63) rfl)) (hw _ (List.mem_of_getElem? (i := 64) rfl)) (hw _ (List.mem_of_getElem? (i := 2) rfl)) (hw _ (List.mem_of_getElem? (i := 65) rfl)) (by decide) (argsL := [(.int (x + (2 : Int32))), (.int (3 : Int32))]) (rest := [(.ref b)]) e733 (rm10 l Z a0 hw [] (x + (2 : Int32)) (3 : Int32) h0 n0 Z0) (g := (mkF m 56 #[.val (.ref b), .val (.int (3 : Int32)), .val (.int x)] [(.int (3 : Int32)), (.int (x + (2 : Int32))), (.ref b)])) rfl (by rw [hml]; rfl) (lenOf pd_3 rfl) rfl (W := 1) (by show 2 * 0 + _ ≤ _; exact Nat.le_of_eq rfl) (hb hby d9_56) (by decide) (by decide) (by decide) (by decide)
      have N735 := Fr.app N733 N735q
      refine own_by st735 ?_
      obtain ⟨cl736, Ar736, cq736, hin736, hat736, set736⟩ := own_arv V1 (j := (own_wrap (x + (2 : Int32)) (3 : Int32))) (r2 (by decide))
      refine own_by (fun _ k => X735.baloadBooleans hx (j := (own_wrap (x + (2 : Int32)) (3 : Int32))) (v := (.int ((own_at u0 u1 u2 u3) (own_wrap (x + (2 : Int32)) (3 : Int32))))) (by rw [e735]; exact Ar736.1) (State.isArrayOf_alike hZ.alike Ar736.2.1) Ar736.2.2 hin736 (by rw [hat736]; exact congrArg some (own_get _ (r2 (by decide)))) (g := (mkF m 59 #[.val (.ref b), .val (.int (3 : Int32)), .val (.int x)] [(.int (own_wrap (x + (2 : Int32)) (3 : Int32))), (.ref b)])) rfl rfl (hb hby d9_59) _ k) ?_
      by_cases z2 : ((own_at u0 u1 u2 u3) (own_wrap (x + (2 : Int32)) (3 : Int32))) = (0 : Int32)
      · refine own_by (fun _ k => XS.ifYes X735.here hx rfl (pc0 := 60) (pc' := 71) rfl (hb hby d9_60) rfl ((if0 _ _).trans (teq (z2 : ((own_at u0 u1 u2 u3) (own_wrap (x + (2 : Int32)) (3 : Int32))) = (0 : Int32))).1) (by decide) (by decide) k) ?_
        refine own_by (fun _ k => XS.iconst X735.here hx rfl (hb hby d9_71) k) ?_
        exact own_retI X735 hx hlk hret  (hb hby d9_72) (by first | exact ⟨by simp only [own_first, if_pos (Or.inr z0 : (3 : Int32) < (1 : Int32) ∨ ((own_at u0 u1 u2 u3) (own_wrap x (3 : Int32))) = 0), if_pos (Or.inr z1 : (3 : Int32) < (2 : Int32) ∨ ((own_at u0 u1 u2 u3) (own_wrap (x + (1 : Int32)) (3 : Int32))) = 0), if_pos (Or.inr z2 : (3 : Int32) < (3 : Int32) ∨ ((own_at u0 u1 u2 u3) (own_wrap (x + (2 : Int32)) (3 : Int32))) = 0)]; rfl, N735, rfl⟩ | (rw [e735]; exact ⟨by simp only [own_first, if_pos (Or.inr z0 : (3 : Int32) < (1 : Int32) ∨ ((own_at u0 u1 u2 u3) (own_wrap x (3 : Int32))) = 0), if_pos (Or.inr z1 : (3 : Int32) < (2 : Int32) ∨ ((own_at u0 u1 u2 u3) (own_wrap (x + (1 : Int32)) (3 : Int32))) = 0), if_pos (Or.inr z2 : (3 : Int32) < (3 : Int32) ∨ ((own_at u0 u1 u2 u3) (own_wrap (x + (2 : Int32)) (3 : Int32))) = 0)]; rfl, N735, rfl⟩)) (by decide) (by decide)
      · refine own_by (fun _ k => XS.ifNo X735.here hx rfl (hb hby d9_60) rfl ((if0 _ _).trans (feq (z2 : ¬ (((own_at u0 u1 u2 u3) (own_wrap (x + (2 : Int32)) (3 : Int32))) = (0 : Int32)))).1) k) ?_
        refine own_by (fun _ k => XS.iloadN X735.here hx rfl (hb hby d9_63) rfl k) ?_
        refine own_by (fun _ k => XS.iconst X735.here hx rfl (hb hby d9_64) k) ?_
        refine own_by (fun _ k => XS.iadd X735.here hx rfl (hb hby d9_65) rfl k) ?_
        refine own_by (fun _ k => XS.iloadN X735.here hx rfl (hb hby d9_66) rfl k) ?_
        show own_Go p e below _ T735 (mkF m 67 #[.val (.ref b), .val (.int (3 : Int32)), .val (.int x)] [(.int (3 : Int32)), (.int (x + (2 : Int32)))])
        obtain ⟨_, T737, L737, X737, ⟨rfl, N737q, e737⟩, st737⟩ := own_callS X735 hx hZ hown (y := (⟨"com/example/eskew/eskew/server/split/CounterValuesRestingPinLaw", "wrap", "(II)I"⟩ : MethodName)) (hw _ (List.mem_of_getElem? (i := 63) rfl)) (hw _ (List.mem_of_getElem? (i := 64) rfl)) (hw _ (List.mem_of_getElem? (i := 2) rfl)) (hw _ (List.mem_of_getElem? (i := 65) rfl)) (by decide) (argsL := [(.int (x + (2 : Int32))), (.int (3 : Int32))]) (rest := []) e735 (rm10 l Z a0 hw [] (x + (2 : Int32)) (3 : Int32) h0 n0 Z0) (g := (mkF m 67 #[.val (.ref b), .val (.int (3 : Int32)), .val (.int x)] [(.int (3 : Int32)), (.int (x + (2 : Int32)))])) rfl (by rw [hml]; rfl) (lenOf pd_3 rfl) rfl (W := 0) (by show 2 * 0 + _ ≤ _; exact Nat.le_of_eq rfl) (hb hby d9_67) (by decide) (by decide) (by decide) (by decide)
        have N737 := Fr.app N735 N737q
        refine own_by st737 ?_
        exact own_retI X737 hx hlk hret  (hb hby d9_70) (by first | exact ⟨by simp only [own_first, if_pos (Or.inr z0 : (3 : Int32) < (1 : Int32) ∨ ((own_at u0 u1 u2 u3) (own_wrap x (3 : Int32))) = 0), if_pos (Or.inr z1 : (3 : Int32) < (2 : Int32) ∨ ((own_at u0 u1 u2 u3) (own_wrap (x + (1 : Int32)) (3 : Int32))) = 0), if_neg (show ¬ ((3 : Int32) < (3 : Int32) ∨ ((own_at u0 u1 u2 u3) (own_wrap (x + (2 : Int32)) (3 : Int32))) = 0) from fun q => q.elim (by decide) z2)], N737, rfl⟩ | (rw [e737]; exact ⟨by simp only [own_first, if_pos (Or.inr z0 : (3 : Int32) < (1 : Int32) ∨ ((own_at u0 u1 u2 u3) (own_wrap x (3 : Int32))) = 0), if_pos (Or.inr z1 : (3 : Int32) < (2 : Int32) ∨ ((own_at u0 u1 u2 u3) (own_wrap (x + (1 : Int32)) (3 : Int32))) = 0), if_neg (show ¬ ((3 : Int32) < (3 : Int32) ∨ ((own_at u0 u1 u2 u3) (own_wrap (x + (2 : Int32)) (3 : Int32))) = 0) from fun q => q.elim (by decide) z2)], N737, rfl⟩)) (by decide) (by decide)
    · refine own_by (fun _ k => XS.ifNo X733.here hx rfl (hb hby d9_35) rfl ((if0 _ _).trans (feq (z1 : ¬ (((own_at u0 u1 u2 u3) (own_wrap (x + (1 : Int32)) (3 : Int32))) = (0 : Int32)))).1) k) ?_
      refine own_by (fun _ k => XS.iloadN X733.here hx rfl (hb hby d9_38) rfl k) ?_
      refine own_by (fun _ k => XS.iconst X733.here hx rfl (hb hby d9_39) k) ?_
      refine own_by (fun _ k => XS.iadd X733.here hx rfl (hb hby d9_40) rfl k) ?_
      refine own_by (fun _ k => XS.iloadN X733.here hx rfl (hb hby d9_41) rfl k) ?_
      obtain ⟨_, T738, L738, X738, ⟨rfl, N738q, e738⟩, st738⟩ := own_callS X733 hx hZ hown (y := (⟨"com/example/eskew/eskew/server/split/CounterValuesRestingPinLaw", "wrap", "(II)I"⟩ : MethodName)) (hw _ (List.mem_of_getElem? (i := 63) rfl)) (hw _ (List.mem_of_getElem? (i := 64) rfl)) (hw _ (List.mem_of_getElem? (i := 2) rfl)) (hw _ (List.mem_of_getElem? (i := 65) rfl)) (by decide) (argsL := [(.int (x + (1 : Int32))), (.int (3 : Int32))]) (rest := []) e733 (rm10 l Z a0 hw [] (x + (1 : Int32)) (3 : Int32) h0 n0 Z0) (g := (mkF m 42 #[.val (.ref b), .val (.int (3 : Int32)), .val (.int x)] [(.int (3 : Int32)), (.int (x + (1 : Int32)))])) rfl (by rw [hml]; rfl) (lenOf pd_3 rfl) rfl (W := 0) (by show 2 * 0 + _ ≤ _; exact Nat.le_of_eq rfl) (hb hby d9_42) (by decide) (by decide) (by decide) (by decide)
      have N738 := Fr.app N733 N738q
      refine own_by st738 ?_
      exact own_retI X738 hx hlk hret  (hb hby d9_45) (by first | exact ⟨by simp only [own_first, if_pos (Or.inr z0 : (3 : Int32) < (1 : Int32) ∨ ((own_at u0 u1 u2 u3) (own_wrap x (3 : Int32))) = 0), if_neg (show ¬ ((3 : Int32) < (2 : Int32) ∨ ((own_at u0 u1 u2 u3) (own_wrap (x + (1 : Int32)) (3 : Int32))) = 0) from fun q => q.elim (by decide) z1)], N738, rfl⟩ | (rw [e738]; exact ⟨by simp only [own_first, if_pos (Or.inr z0 : (3 : Int32) < (1 : Int32) ∨ ((own_at u0 u1 u2 u3) (own_wrap x (3 : Int32))) = 0), if_neg (show ¬ ((3 : Int32) < (2 : Int32) ∨ ((own_at u0 u1 u2 u3) (own_wrap (x + (1 : Int32)) (3 : Int32))) = 0) from fun q => q.elim (by decide) z1)], N738, rfl⟩)) (by decide) (by decide)
  · refine own_by (fun _ k => XS.ifNo X731.here hx rfl (hb hby d9_12) rfl ((if0 _ _).trans (feq (z0 : ¬ (((own_at u0 u1 u2 u3) (own_wrap x (3 : Int32))) = (0 : Int32)))).1) k) ?_
    refine own_by (fun _ k => XS.iloadN X731.here hx rfl (hb hby d9_15) rfl k) ?_
    refine own_by (fun _ k => XS.iloadN X731.here hx rfl (hb hby d9_16) rfl k) ?_
    obtain ⟨_, T739, L739, X739, ⟨rfl, N739q, e739⟩, st739⟩ := own_callS X731 hx hZ hown (y := (⟨"com/example/eskew/eskew/server/split/CounterValuesRestingPinLaw", "wrap", "(II)I"⟩ : MethodName)) (hw _ (List.mem_of_getElem? (i := 63) rfl)) (hw _ (List.mem_of_getElem? (i := 64) rfl)) (hw _ (List.mem_of_getElem? (i := 2) rfl)) (hw _ (List.mem_of_getElem? (i := 65) rfl)) (by decide) (argsL := [(.int x), (.int (3 : Int32))]) (rest := []) e731 (rm10 l Z a0 hw [] x (3 : Int32) h0 n0 Z0) (g := (mkF m 17 #[.val (.ref b), .val (.int (3 : Int32)), .val (.int x)] [(.int (3 : Int32)), (.int x)])) rfl (by rw [hml]; rfl) (lenOf pd_3 rfl) rfl (W := 0) (by show 2 * 0 + _ ≤ _; exact Nat.le_of_eq rfl) (hb hby d9_17) (by decide) (by decide) (by decide) (by decide)
    have N739 := Fr.app N731 N739q
    refine own_by st739 ?_
    exact own_retI X739 hx hlk hret  (hb hby d9_20) (by first | exact ⟨by simp only [own_first, if_neg (show ¬ ((3 : Int32) < (1 : Int32) ∨ ((own_at u0 u1 u2 u3) (own_wrap x (3 : Int32))) = 0) from fun q => q.elim (by decide) z0)], N739, rfl⟩ | (rw [e739]; exact ⟨by simp only [own_first, if_neg (show ¬ ((3 : Int32) < (1 : Int32) ∨ ((own_at u0 u1 u2 u3) (own_wrap x (3 : Int32))) = 0) from fun q => q.elim (by decide) z0)], N739, rfl⟩)) (by decide) (by decide)
def Q_rm7_3 (Z : State) (a sa b : Addr) (k1 k2 kb : ClassId) (u0 u1 u2 u3 x z : Int32) (y now t0 r : Int64) (h0 : Heap) (n0 : Nat) (v : Option Value) (h : Heap) (L : List Loc) : Prop := v = some (.int (own_model (3 : Int32) (own_count (3 : Int32) u1 u2 u3) (own_at u0 u1 u2 u3) now t0 r (own_wake now r (x, y, z))).1) ∧ Fr n0 L ∧ Keep h0 h [a, sa] ∧ Arv Z h a k1 .int (2 : Int32) [(.int (own_model (3 : Int32) (own_count (3 : Int32) u1 u2 u3) (own_at u0 u1 u2 u3) now t0 r (own_wake now r (x, y, z))).1), (.int (own_model (3 : Int32) (own_count (3 : Int32) u1 u2 u3) (own_at u0 u1 u2 u3) now t0 r (own_wake now r (x, y, z))).2.2)] (.int (0 : Int32)) ∧ Arv Z h sa k2 .long (1 : Int32) [(.long (own_model (3 : Int32) (own_count (3 : Int32) u1 u2 u3) (own_at u0 u1 u2 u3) now t0 r (own_wake now r (x, y, z))).2.1)] (.long (0 : Int64))
theorem pn_rm7_3 : plainFor (⟨"com/example/eskew/eskew/server/split/CounterValuesRestingPinLaw", "model", "([I[J[ZIJJJ)I"⟩ : MethodName) = true := plainFor_of_name (by first | (simp [plainName, overriddenIn, x]; done) | decide +kernel)
set_option maxRecDepth 65536 in
set_option maxHeartbeats 40000000 in
theorem rm7_3 (l : Launch) (Z : State) (a0 : Array Value) (hw : ∀ d ∈ tables_1, d.before a0 Z = true) (ws : List Jvm.Cond) (a sa b : Addr) (k1 k2 kb : ClassId) (u0 u1 u2 u3 x z : Int32) (y now t0 r : Int64) (h0 : Heap) (n0 : Nat) (Z0 : n0 ≤ h0.size) (g1 : n0 ≤ a) (g2 : n0 ≤ sa) (n1 : a ≠ sa) (n2 : a ≠ b) (n3 : sa ≠ b) (hin : own_in (3 : Int32) z) (V1 : Arv Z h0 b kb .boolean (4 : Int32) [(.int u0), (.int u1), (.int u2), (.int u3)] (.int (0 : Int32))) (V2 : Arv Z h0 a k1 .int (2 : Int32) [(.int x), (.int z)] (.int (0 : Int32))) (V3 : Arv Z h0 sa k2 .long (1 : Int32) [(.long y)] (.long (0 : Int64))) :
    own_Met l Z (⟨"com/example/eskew/eskew/server/split/CounterValuesRestingPinLaw", "model", "([I[J[ZIJJJ)I"⟩ : MethodName) method_7_code 11 (some .int) ws ({ frames := 2, cells := 0, slots := 0, locals := 64 } : Room) #[(.ref a), (.ref sa), (.ref b), (.int (3 : Int32)), (.long now), (.long t0), (.long r)] h0 (Q_rm7_3 Z a sa b k1 k2 kb u0 u1 u2 u3 x z y now t0 r h0 n0) := by
  refine own_enter (g0 := fun m => (mkF m 0 #[.val (.ref a), .val (.ref sa), .val (.ref b), .val (.int (3 : Int32)), .val (.long now), .second, .val (.long t0), .second, .val (.long r), .second, .unset] [])) pn_rm7_3 (fun m => by first | (simp [entryFrame, mkF, argsToLocals, Value.category, maxLocals]; done) | rfl) ?_
  intro p e s m below meth c s₁ hx hby hml hown hnm hret hlk hZ X0 e0
  have hml : c.maxLocals = 11 := hml
  have hown : s.vm.findClass "com/example/eskew/eskew/server/split/CounterValuesRestingPinLaw" = some m.cls := hown
  have N0 := Fr.nil n0
  have K0 := Keep.refl h0 [a, sa]
  have J23 : ∀ (T740 : State) (L740 : List Loc) (h740 : Heap) (X740 : Stand p l e ({ frames := 2, cells := 0, slots := 0, locals := 64 } : Room) s m #[(.ref a), (.ref sa), (.ref b), (.int (3 : Int32)), (.long now), (.long t0), (.long r)] below meth c T740 L740 0 0) (e740 : T740.heap = h740) (N740 : Fr n0 L740) (Kj : Keep h0 h740 [a])  (x1 : Int32) (hw1 : (own_wake now r (x, y, z)) = (x1, y, z)) (Va : Arv Z h740 a k1 .int (2 : Int32) [(.int x1), (.int z)] (.int (0 : Int32))) (Vs : Arv Z h740 sa k2 .long (1 : Int32) [(.long y)] (.long (0 : Int64))) (Vb : Arv Z h740 b kb .boolean (4 : Int32) [(.int u0), (.int u1), (.int u2), (.int u3)] (.int (0 : Int32))), own_Go p e below (own_End s ({ frames := 2, cells := 0, slots := 0, locals := 64 } : Room).cells ({ frames := 2, cells := 0, slots := 0, locals := 64 } : Room).slots (Q_rm7_3 Z a sa b k1 k2 kb u0 u1 u2 u3 x z y now t0 r h0 n0)) T740 (mkF m 23 #[.val (.ref a), .val (.ref sa), .val (.ref b), .val (.int (3 : Int32)), .val (.long now), .second, .val (.long t0), .second, .val (.long r), .second, .unset] []) := by
    intro T740 L740 h740 X740 e740 N740 Kj x1 hw1 Va Vs Vb
    have Z740 : n0 ≤ h740.size := Nat.le_trans Z0 Kj.1
    have K740c := K0.trans Kj (allS (Or.inl (List.mem_of_getElem? (i := 0) rfl)) all0)
    refine own_by (fun _ k => XS.aloadN X740.here hx rfl (hb hby d7_23) rfl rfl k) ?_
    refine own_by (fun _ k => XS.iconst X740.here hx rfl (hb hby d7_24) k) ?_
    obtain ⟨cl741, Ar741, cq741, hin741, hat741, set741⟩ := own_arv Va (j := (0 : Int32)) ⟨by decide, by decide⟩
    refine own_by (fun _ k => X740.iaload hx (j := (0 : Int32)) (v := (.int x1)) (by rw [e740]; exact Ar741.1) (State.isArrayOf_alike hZ.alike Ar741.2.1) Ar741.2.2 hin741 hat741 (g := (mkF m 25 #[.val (.ref a), .val (.ref sa), .val (.ref b), .val (.int (3 : Int32)), .val (.long now), .second, .val (.long t0), .second, .val (.long r), .second, .unset] [(.int (0 : Int32)), (.ref a)])) rfl rfl (hb hby d7_25) _ k) ?_
    refine own_by (fun _ k => XS.iconst X740.here hx rfl (hb hby d7_26) k) ?_
    by_cases hx1 : x1 = (-1 : Int32)
    · refine own_by (fun _ k => XS.icmpNo X740.here hx rfl (hb hby d7_27) rfl (teq (hx1 : x1 = (-1 : Int32))).2 k) ?_
      refine own_by (fun _ k => XS.aloadN X740.here hx rfl (hb hby d7_30) rfl rfl k) ?_
      refine own_by (fun _ k => XS.iloadN X740.here hx rfl (hb hby d7_31) rfl k) ?_
      show own_Go p e below _ T740 (mkF m 32 #[.val (.ref a), .val (.ref sa), .val (.ref b), .val (.int (3 : Int32)), .val (.long now), .second, .val (.long t0), .second, .val (.long r), .second, .unset] [(.int (3 : Int32)), (.ref b)])
      obtain ⟨_, T742, L742, X742, ⟨rfl, N742q, e742⟩, st742⟩ := own_callS X740 hx hZ hown (y := (⟨"com/example/eskew/eskew/server/split/CounterValuesRestingPinLaw", "count", "([ZI)I"⟩ : MethodName)) (hw _ (List.mem_of_getElem? (i := 54) rfl)) (hw _ (List.mem_of_getElem? (i := 55) rfl)) (hw _ (List.mem_of_getElem? (i := 2) rfl)) (hw _ (List.mem_of_getElem? (i := 56) rfl)) (by decide) (argsL := [(.ref b), (.int (3 : Int32))]) (rest := []) e740 (rm8_3 l Z a0 hw [] b kb u0 u1 u2 u3 h740 n0 Z740 Vb) (g := (mkF m 32 #[.val (.ref a), .val (.ref sa), .val (.ref b), .val (.int (3 : Int32)), .val (.long now), .second, .val (.long t0), .second, .val (.long r), .second, .unset] [(.int (3 : Int32)), (.ref b)])) rfl (by rw [hml]; rfl) (lenOf pd_2 rfl) rfl (W := 0) (by show 2 * 0 + _ ≤ _; exact Nat.le_of_eq rfl) (hb hby d7_32) (by decide) (by decide) (by decide) (by decide)
      have N742 := Fr.app N740 N742q
      refine own_by st742 ?_
      refine own_by (fun _ k => XS.iconst X742.here hx rfl (hb hby d7_35) k) ?_
      by_cases hc1 : (1 : Int32) < (own_count (3 : Int32) u1 u2 u3)
      · refine own_by (fun _ k => XS.icmpNo X742.here hx rfl (hb hby d7_36) rfl (tlt (hc1 : (1 : Int32) < (own_count (3 : Int32) u1 u2 u3))).2.2.2 k) ?_
        refine own_by (fun _ k => XS.lload X742.here hx rfl (hb hby d7_39) rfl k) ?_
        refine own_by (fun _ k => XS.lload X742.here hx rfl (hb hby d7_41) rfl k) ?_
        refine own_by (fun _ k => XS.lsub X742.here hx rfl (hb hby d7_43) rfl k) ?_
        refine own_by (fun _ k => XS.lload X742.here hx rfl (hb hby d7_44) rfl k) ?_
        refine own_by (fun _ k => XS.lcmp X742.here hx rfl (hb hby d7_46) rfl k) ?_
        by_cases hl : now - t0 < r
        · refine own_by (fun _ k => XS.ifYes X742.here hx rfl (pc0 := 47) (pc' := 87) rfl (hb hby d7_47) rfl ((if0 _ _).trans (tlt ((lw_lt _ _).mpr hl : (lcmpW (now - t0) r) < (0 : Int32))).1) (by decide) (by decide) k) ?_
          show own_Go p e below _ T742 (mkF m 87 #[.val (.ref a), .val (.ref sa), .val (.ref b), .val (.int (3 : Int32)), .val (.long now), .second, .val (.long t0), .second, .val (.long r), .second, .unset] [])
          refine own_by (fun _ k => XS.aloadN X742.here hx rfl (hb hby d7_87) rfl rfl k) ?_
          refine own_by (fun _ k => XS.iconst X742.here hx rfl (hb hby d7_88) k) ?_
          obtain ⟨cl743, Ar743, cq743, hin743, hat743, set743⟩ := own_arv Va (j := (0 : Int32)) ⟨by decide, by decide⟩
          refine own_by (fun _ k => X742.iaload hx (j := (0 : Int32)) (v := (.int x1)) (by rw [e742]; exact Ar743.1) (State.isArrayOf_alike hZ.alike Ar743.2.1) Ar743.2.2 hin743 hat743 (g := (mkF m 89 #[.val (.ref a), .val (.ref sa), .val (.ref b), .val (.int (3 : Int32)), .val (.long now), .second, .val (.long t0), .second, .val (.long r), .second, .unset] [(.int (0 : Int32)), (.ref a)])) rfl rfl (hb hby d7_89) _ k) ?_
          have hres : (own_model (3 : Int32) (own_count (3 : Int32) u1 u2 u3) (own_at u0 u1 u2 u3) now t0 r (own_wake now r (x, y, z))) = (x1, y, z) := by rw [hw1]; simp only [own_model, if_pos hx1, if_pos hc1, if_pos hl]
          exact own_retI X742 hx hlk hret  (hb hby d7_90) (by first | exact ⟨by rw [hres], N742, K740c, by rw [hres]; exact Va, by rw [hres]; exact Vs⟩ | (rw [e742]; exact ⟨by rw [hres], N742, K740c, by rw [hres]; exact Va, by rw [hres]; exact Vs⟩)) (by decide) (by decide)
        · refine own_by (fun _ k => XS.ifNo X742.here hx rfl (hb hby d7_47) rfl ((if0 _ _).trans (flt (fun q => hl ((lw_lt _ _).mp q) : ¬ ((lcmpW (now - t0) r) < (0 : Int32)))).1) k) ?_
          show own_Go p e below _ T742 (mkF m 50 #[.val (.ref a), .val (.ref sa), .val (.ref b), .val (.int (3 : Int32)), .val (.long now), .second, .val (.long t0), .second, .val (.long r), .second, .unset] [])
          refine own_by (fun _ k => XS.aloadN X742.here hx rfl (hb hby d7_50) rfl rfl k) ?_
          refine own_by (fun _ k => XS.iloadN X742.here hx rfl (hb hby d7_51) rfl k) ?_
          refine own_by (fun _ k => XS.aloadN X742.here hx rfl (hb hby d7_52) rfl rfl k) ?_
          refine own_by (fun _ k => XS.iconst X742.here hx rfl (hb hby d7_53) k) ?_
          obtain ⟨cl744, Ar744, cq744, hin744, hat744, set744⟩ := own_arv Va (j := (1 : Int32)) ⟨by decide, by decide⟩
          refine own_by (fun _ k => X742.iaload hx (j := (1 : Int32)) (v := (.int z)) (by rw [e742]; exact Ar744.1) (State.isArrayOf_alike hZ.alike Ar744.2.1) Ar744.2.2 hin744 hat744 (g := (mkF m 54 #[.val (.ref a), .val (.ref sa), .val (.ref b), .val (.int (3 : Int32)), .val (.long now), .second, .val (.long t0), .second, .val (.long r), .second, .unset] [(.int (1 : Int32)), (.ref a), (.int (3 : Int32)), (.ref b)])) rfl rfl (hb hby d7_54) _ k) ?_
          obtain ⟨_, T745, L745, X745, ⟨rfl, N745q, e745⟩, st745⟩ := own_callS X742 hx hZ hown (y := (⟨"com/example/eskew/eskew/server/split/CounterValuesRestingPinLaw", "first", "([ZII)I"⟩ : MethodName)) (hw _ (List.mem_of_getElem? (i := 60) rfl)) (hw _ (List.mem_of_getElem? (i := 61) rfl)) (hw _ (List.mem_of_getElem? (i := 2) rfl)) (hw _ (List.mem_of_getElem? (i := 62) rfl)) (by decide) (argsL := [(.ref b), (.int (3 : Int32)), (.int z)]) (rest := []) e742 (rm9_3 l Z a0 hw [] b kb u0 u1 u2 u3 z h740 n0 Z740 hin Vb) (g := (mkF m 55 #[.val (.ref a), .val (.ref sa), .val (.ref b), .val (.int (3 : Int32)), .val (.long now), .second, .val (.long t0), .second, .val (.long r), .second, .unset] [(.int z), (.int (3 : Int32)), (.ref b)])) rfl (by rw [hml]; rfl) (lenOf pd_4 rfl) rfl (W := 0) (by show 2 * 0 + _ ≤ _; exact Nat.le_of_eq rfl) (hb hby d7_55) (by decide) (by decide) (by decide) (by decide)
          have N745 := Fr.app N742 N745q
          refine own_by st745 ?_
          obtain ⟨f, hf⟩ : ∃ zq, zq = (own_first (3 : Int32) (own_at u0 u1 u2 u3) z) := ⟨_, rfl⟩
          show own_Go p e below _ T745 (mkF m 58 #[.val (.ref a), .val (.ref sa), .val (.ref b), .val (.int (3 : Int32)), .val (.long now), .second, .val (.long t0), .second, .val (.long r), .second, .unset] [(.int (own_first (3 : Int32) (own_at u0 u1 u2 u3) z))])
          rw [← hf]
          refine own_by (fun _ k => XS.istore X745.here hx rfl (hb hby d7_58) rfl (l' := #[.val (.ref a), .val (.ref sa), .val (.ref b), .val (.int (3 : Int32)), .val (.long now), .second, .val (.long t0), .second, .val (.long r), .second, .val (.int f)]) rfl k) ?_
          refine own_by (fun _ k => XS.aloadN X745.here hx rfl (hb hby d7_60) rfl rfl k) ?_
          refine own_by (fun _ k => XS.iconst X745.here hx rfl (hb hby d7_61) k) ?_
          refine own_by (fun _ k => XS.iload X745.here hx rfl (hb hby d7_62) rfl k) ?_
          obtain ⟨cl746, Ar746, cq746, hin746, hat746, set746⟩ := own_arv Va (j := (0 : Int32)) ⟨by decide, by decide⟩
          obtain ⟨T747, h747, X747, e747, W747, st747⟩ := stI X745 hx hZ e745 Ar746 (j := (0 : Int32)) hin746 (g := (mkF m 64 #[.val (.ref a), .val (.ref sa), .val (.ref b), .val (.int (3 : Int32)), .val (.long now), .second, .val (.long t0), .second, .val (.long r), .second, .val (.int f)] [(.int f), (.int (0 : Int32)), (.ref a)])) rfl rfl (hb hby d7_64)
          have V747 : Arv Z h747 a k1 .int (2 : Int32) [(.int f), (.int z)] (.int (0 : Int32)) := set746 rfl W747 0 rfl (Nat.le_of_ble_eq_true rfl)
          have N747 := Fr.snoc X747 N745 g1
          have KB748 := Kj.wr W747 (Or.inl (List.mem_of_getElem? (i := 0) rfl))
          have K749 := K740c.wr W747 (Or.inl (List.mem_of_getElem? (i := 0) rfl))
          have Z747 : n0 ≤ h747.size := Nat.le_trans Z740 (Keep.of_wr W747).1
          refine own_by st747 ?_
          refine own_by (fun _ k => XS.aloadN X747.here hx rfl (hb hby d7_65) rfl rfl k) ?_
          refine own_by (fun _ k => XS.iconst X747.here hx rfl (hb hby d7_66) k) ?_
          refine own_by (fun _ k => XS.lload X747.here hx rfl (hb hby d7_67) rfl k) ?_
          show own_Go p e below _ T747 (mkF m 69 #[.val (.ref a), .val (.ref sa), .val (.ref b), .val (.int (3 : Int32)), .val (.long now), .second, .val (.long t0), .second, .val (.long r), .second, .val (.int f)] [(.long now), (.int (0 : Int32)), (.ref sa)])
          have f751 := (Vs.other W747 (Ne.symm n1))
          obtain ⟨cl750, Ar750, cq750, hin750, hat750, set750⟩ := own_arv f751 (j := (0 : Int32)) ⟨by decide, by decide⟩
          obtain ⟨T752, h752, X752, e752, W752, st752⟩ := stJ X747 hx hZ e747 Ar750 (j := (0 : Int32)) hin750 (g := (mkF m 69 #[.val (.ref a), .val (.ref sa), .val (.ref b), .val (.int (3 : Int32)), .val (.long now), .second, .val (.long t0), .second, .val (.long r), .second, .val (.int f)] [(.long now), (.int (0 : Int32)), (.ref sa)])) rfl rfl (hb hby d7_69)
          have V752 : Arv Z h752 sa k2 .long (1 : Int32) [(.long now)] (.long (0 : Int64)) := set750 rfl W752 0 rfl (Nat.le_of_ble_eq_true rfl)
          have N752 := Fr.snoc X752 N747 g2
          have K753 := K749.wr W752 (Or.inl (List.mem_of_getElem? (i := 1) rfl))
          have Z752 : n0 ≤ h752.size := Nat.le_trans Z747 (Keep.of_wr W752).1
          refine own_by st752 ?_
          refine own_by (fun _ k => XS.aloadN X752.here hx rfl (hb hby d7_70) rfl rfl k) ?_
          refine own_by (fun _ k => XS.iconst X752.here hx rfl (hb hby d7_71) k) ?_
          refine own_by (fun _ k => XS.iload X752.here hx rfl (hb hby d7_72) rfl k) ?_
          refine own_by (fun _ k => XS.iloadN X752.here hx rfl (hb hby d7_74) rfl k) ?_
          have J86 : ∀ (g : Int32) (hg : g = if f = (3 : Int32) then 1 else f + 1), own_Go p e below (own_End s ({ frames := 2, cells := 0, slots := 0, locals := 64 } : Room).cells ({ frames := 2, cells := 0, slots := 0, locals := 64 } : Room).slots (Q_rm7_3 Z a sa b k1 k2 kb u0 u1 u2 u3 x z y now t0 r h0 n0)) T752 (mkF m 86 #[.val (.ref a), .val (.ref sa), .val (.ref b), .val (.int (3 : Int32)), .val (.long now), .second, .val (.long t0), .second, .val (.long r), .second, .val (.int f)] [(.int g), (.int (1 : Int32)), (.ref a)]) := by
            intro  g hg
            have f755 := (V747.other W752 n1)
            obtain ⟨cl754, Ar754, cq754, hin754, hat754, set754⟩ := own_arv f755 (j := (1 : Int32)) ⟨by decide, by decide⟩
            obtain ⟨T756, h756, X756, e756, W756, st756⟩ := stI X752 hx hZ e752 Ar754 (j := (1 : Int32)) hin754 (g := (mkF m 86 #[.val (.ref a), .val (.ref sa), .val (.ref b), .val (.int (3 : Int32)), .val (.long now), .second, .val (.long t0), .second, .val (.long r), .second, .val (.int f)] [(.int g), (.int (1 : Int32)), (.ref a)])) rfl rfl (hb hby d7_86)
            have V756 : Arv Z h756 a k1 .int (2 : Int32) [(.int f), (.int g)] (.int (0 : Int32)) := set754 rfl W756 1 rfl (Nat.le_of_ble_eq_true rfl)
            have N756 := Fr.snoc X756 N752 g1
            have K757 := K753.wr W756 (Or.inl (List.mem_of_getElem? (i := 0) rfl))
            have Z756 : n0 ≤ h756.size := Nat.le_trans Z752 (Keep.of_wr W756).1
            refine own_by st756 ?_
            refine own_by (fun _ k => XS.aloadN X756.here hx rfl (hb hby d7_87) rfl rfl k) ?_
            refine own_by (fun _ k => XS.iconst X756.here hx rfl (hb hby d7_88) k) ?_
            show own_Go p e below _ T756 (mkF m 89 #[.val (.ref a), .val (.ref sa), .val (.ref b), .val (.int (3 : Int32)), .val (.long now), .second, .val (.long t0), .second, .val (.long r), .second, .val (.int f)] [(.int (0 : Int32)), (.ref a)])
            obtain ⟨cl758, Ar758, cq758, hin758, hat758, set758⟩ := own_arv V756 (j := (0 : Int32)) ⟨by decide, by decide⟩
            refine own_by (fun _ k => X756.iaload hx (j := (0 : Int32)) (v := (.int f)) (by rw [e756]; exact Ar758.1) (State.isArrayOf_alike hZ.alike Ar758.2.1) Ar758.2.2 hin758 hat758 (g := (mkF m 89 #[.val (.ref a), .val (.ref sa), .val (.ref b), .val (.int (3 : Int32)), .val (.long now), .second, .val (.long t0), .second, .val (.long r), .second, .val (.int f)] [(.int (0 : Int32)), (.ref a)])) rfl rfl (hb hby d7_89) _ k) ?_
            have hres : (own_model (3 : Int32) (own_count (3 : Int32) u1 u2 u3) (own_at u0 u1 u2 u3) now t0 r (own_wake now r (x, y, z))) = (f, now, g) := by rw [hw1]; simp only [own_model, if_pos hx1, if_pos hc1, if_neg hl, ← hf, hg]
            have f759 := (V752.other W756 (Ne.symm n1))
            exact own_retI X756 hx hlk hret  (hb hby d7_90) (by first | exact ⟨by rw [hres], N756, K757, by rw [hres]; exact V756, by rw [hres]; exact f759⟩ | (rw [e756]; exact ⟨by rw [hres], N756, K757, by rw [hres]; exact V756, by rw [hres]; exact f759⟩)) (by decide) (by decide)
          by_cases hfn : f = (3 : Int32)
          · refine own_by (fun _ k => XS.icmpNo X752.here hx rfl (hb hby d7_75) rfl (teq (hfn : f = (3 : Int32))).2 k) ?_
            refine own_by (fun _ k => XS.iconst X752.here hx rfl (hb hby d7_78) k) ?_
            refine own_by (fun _ k => XS.goto X752.here hx rfl (pc0 := 79) (pc' := 86) rfl (hb hby d7_79) (by decide) (by decide) k) ?_
            exact J86 _ (if_pos hfn).symm
          · refine own_by (fun _ k => XS.icmpYes X752.here hx rfl (pc0 := 75) (pc' := 82) rfl (hb hby d7_75) rfl (feq (hfn : ¬ (f = (3 : Int32)))).2 (by decide) (by decide) k) ?_
            refine own_by (fun _ k => XS.iload X752.here hx rfl (hb hby d7_82) rfl k) ?_
            refine own_by (fun _ k => XS.iconst X752.here hx rfl (hb hby d7_84) k) ?_
            refine own_by (fun _ k => XS.iadd X752.here hx rfl (hb hby d7_85) rfl k) ?_
            show own_Go p e below _ T752 (mkF m 86 #[.val (.ref a), .val (.ref sa), .val (.ref b), .val (.int (3 : Int32)), .val (.long now), .second, .val (.long t0), .second, .val (.long r), .second, .val (.int f)] [(.int (f + (1 : Int32))), (.int (1 : Int32)), (.ref a)])
            exact J86 _ (if_neg hfn).symm
      · refine own_by (fun _ k => XS.icmpYes X742.here hx rfl (pc0 := 36) (pc' := 87) rfl (hb hby d7_36) rfl (flt (hc1 : ¬ ((1 : Int32) < (own_count (3 : Int32) u1 u2 u3)))).2.2.2 (by decide) (by decide) k) ?_
        refine own_by (fun _ k => XS.aloadN X742.here hx rfl (hb hby d7_87) rfl rfl k) ?_
        refine own_by (fun _ k => XS.iconst X742.here hx rfl (hb hby d7_88) k) ?_
        obtain ⟨cl760, Ar760, cq760, hin760, hat760, set760⟩ := own_arv Va (j := (0 : Int32)) ⟨by decide, by decide⟩
        refine own_by (fun _ k => X742.iaload hx (j := (0 : Int32)) (v := (.int x1)) (by rw [e742]; exact Ar760.1) (State.isArrayOf_alike hZ.alike Ar760.2.1) Ar760.2.2 hin760 hat760 (g := (mkF m 89 #[.val (.ref a), .val (.ref sa), .val (.ref b), .val (.int (3 : Int32)), .val (.long now), .second, .val (.long t0), .second, .val (.long r), .second, .unset] [(.int (0 : Int32)), (.ref a)])) rfl rfl (hb hby d7_89) _ k) ?_
        have hres : (own_model (3 : Int32) (own_count (3 : Int32) u1 u2 u3) (own_at u0 u1 u2 u3) now t0 r (own_wake now r (x, y, z))) = (x1, y, z) := by rw [hw1]; simp only [own_model, if_pos hx1, if_neg hc1]
        exact own_retI X742 hx hlk hret  (hb hby d7_90) (by first | exact ⟨by rw [hres], N742, K740c, by rw [hres]; exact Va, by rw [hres]; exact Vs⟩ | (rw [e742]; exact ⟨by rw [hres], N742, K740c, by rw [hres]; exact Va, by rw [hres]; exact Vs⟩)) (by decide) (by decide)
    · refine own_by (fun _ k => XS.icmpYes X740.here hx rfl (pc0 := 27) (pc' := 87) rfl (hb hby d7_27) rfl (feq (hx1 : ¬ (x1 = (-1 : Int32)))).2 (by decide) (by decide) k) ?_
      refine own_by (fun _ k => XS.aloadN X740.here hx rfl (hb hby d7_87) rfl rfl k) ?_
      refine own_by (fun _ k => XS.iconst X740.here hx rfl (hb hby d7_88) k) ?_
      show own_Go p e below _ T740 (mkF m 89 #[.val (.ref a), .val (.ref sa), .val (.ref b), .val (.int (3 : Int32)), .val (.long now), .second, .val (.long t0), .second, .val (.long r), .second, .unset] [(.int (0 : Int32)), (.ref a)])
      obtain ⟨cl761, Ar761, cq761, hin761, hat761, set761⟩ := own_arv Va (j := (0 : Int32)) ⟨by decide, by decide⟩
      refine own_by (fun _ k => X740.iaload hx (j := (0 : Int32)) (v := (.int x1)) (by rw [e740]; exact Ar761.1) (State.isArrayOf_alike hZ.alike Ar761.2.1) Ar761.2.2 hin761 hat761 (g := (mkF m 89 #[.val (.ref a), .val (.ref sa), .val (.ref b), .val (.int (3 : Int32)), .val (.long now), .second, .val (.long t0), .second, .val (.long r), .second, .unset] [(.int (0 : Int32)), (.ref a)])) rfl rfl (hb hby d7_89) _ k) ?_
      have hres : (own_model (3 : Int32) (own_count (3 : Int32) u1 u2 u3) (own_at u0 u1 u2 u3) now t0 r (own_wake now r (x, y, z))) = (x1, y, z) := by rw [hw1]; simp only [own_model, if_neg hx1]
      exact own_retI X740 hx hlk hret  (hb hby d7_90) (by first | exact ⟨by rw [hres], N740, K740c, by rw [hres]; exact Va, by rw [hres]; exact Vs⟩ | (rw [e740]; exact ⟨by rw [hres], N740, K740c, by rw [hres]; exact Va, by rw [hres]; exact Vs⟩)) (by decide) (by decide)
  refine own_by (fun _ k => XS.aloadN X0.here hx rfl (hb hby d7_0) rfl rfl k) ?_
  refine own_by (fun _ k => XS.iconst X0.here hx rfl (hb hby d7_1) k) ?_
  obtain ⟨cl762, Ar762, cq762, hin762, hat762, set762⟩ := own_arv V2 (j := (0 : Int32)) ⟨by decide, by decide⟩
  refine own_by (fun _ k => X0.iaload hx (j := (0 : Int32)) (v := (.int x)) (by rw [e0]; exact Ar762.1) (State.isArrayOf_alike hZ.alike Ar762.2.1) Ar762.2.2 hin762 hat762 (g := (mkF m 2 #[.val (.ref a), .val (.ref sa), .val (.ref b), .val (.int (3 : Int32)), .val (.long now), .second, .val (.long t0), .second, .val (.long r), .second, .unset] [(.int (0 : Int32)), (.ref a)])) rfl rfl (hb hby d7_2) _ k) ?_
  refine own_by (fun _ k => XS.iconst X0.here hx rfl (hb hby d7_3) k) ?_
  by_cases hx0 : x = (-1 : Int32)
  · refine own_by (fun _ k => XS.icmpYes X0.here hx rfl (pc0 := 4) (pc' := 23) rfl (hb hby d7_4) rfl (teq (hx0 : x = (-1 : Int32))).1 (by decide) (by decide) k) ?_
    exact J23 s₁ _ h0 X0 e0 N0 (Keep.refl _ _) _ (by simp only [own_wake, if_pos hx0]) V2 V3 V1
  · refine own_by (fun _ k => XS.icmpNo X0.here hx rfl (hb hby d7_4) rfl (feq (hx0 : ¬ (x = (-1 : Int32)))).1 k) ?_
    refine own_by (fun _ k => XS.lload X0.here hx rfl (hb hby d7_7) rfl k) ?_
    refine own_by (fun _ k => XS.aloadN X0.here hx rfl (hb hby d7_9) rfl rfl k) ?_
    refine own_by (fun _ k => XS.iconst X0.here hx rfl (hb hby d7_10) k) ?_
    show own_Go p e below _ s₁ (mkF m 11 #[.val (.ref a), .val (.ref sa), .val (.ref b), .val (.int (3 : Int32)), .val (.long now), .second, .val (.long t0), .second, .val (.long r), .second, .unset] [(.int (0 : Int32)), (.ref sa), (.long now)])
    obtain ⟨cl763, Ar763, cq763, hin763, hat763, set763⟩ := own_arv V3 (j := (0 : Int32)) ⟨by decide, by decide⟩
    refine own_by (fun _ k => X0.laload hx (j := (0 : Int32)) (v := (.long y)) (by rw [e0]; exact Ar763.1) (State.isArrayOf_alike hZ.alike Ar763.2.1) Ar763.2.2 hin763 hat763 (g := (mkF m 11 #[.val (.ref a), .val (.ref sa), .val (.ref b), .val (.int (3 : Int32)), .val (.long now), .second, .val (.long t0), .second, .val (.long r), .second, .unset] [(.int (0 : Int32)), (.ref sa), (.long now)])) rfl rfl (hb hby d7_11) _ k) ?_
    refine own_by (fun _ k => XS.lsub X0.here hx rfl (hb hby d7_12) rfl k) ?_
    refine own_by (fun _ k => XS.lload X0.here hx rfl (hb hby d7_13) rfl k) ?_
    refine own_by (fun _ k => XS.lcmp X0.here hx rfl (hb hby d7_15) rfl k) ?_
    by_cases hl0 : now - y < r
    · refine own_by (fun _ k => XS.ifYes X0.here hx rfl (pc0 := 16) (pc' := 23) rfl (hb hby d7_16) rfl ((if0 _ _).trans (tlt ((lw_lt _ _).mpr hl0 : (lcmpW (now - y) r) < (0 : Int32))).1) (by decide) (by decide) k) ?_
      exact J23 s₁ _ h0 X0 e0 N0 (Keep.refl _ _) _ (by simp only [own_wake, if_neg hx0, if_pos hl0]) V2 V3 V1
    · refine own_by (fun _ k => XS.ifNo X0.here hx rfl (hb hby d7_16) rfl ((if0 _ _).trans (flt (fun q => hl0 ((lw_lt _ _).mp q) : ¬ ((lcmpW (now - y) r) < (0 : Int32)))).1) k) ?_
      refine own_by (fun _ k => XS.aloadN X0.here hx rfl (hb hby d7_19) rfl rfl k) ?_
      refine own_by (fun _ k => XS.iconst X0.here hx rfl (hb hby d7_20) k) ?_
      refine own_by (fun _ k => XS.iconst X0.here hx rfl (hb hby d7_21) k) ?_
      obtain ⟨cl764, Ar764, cq764, hin764, hat764, set764⟩ := own_arv V2 (j := (0 : Int32)) ⟨by decide, by decide⟩
      obtain ⟨T765, h765, X765, e765, W765, st765⟩ := stI X0 hx hZ e0 Ar764 (j := (0 : Int32)) hin764 (g := (mkF m 22 #[.val (.ref a), .val (.ref sa), .val (.ref b), .val (.int (3 : Int32)), .val (.long now), .second, .val (.long t0), .second, .val (.long r), .second, .unset] [(.int (-1 : Int32)), (.int (0 : Int32)), (.ref a)])) rfl rfl (hb hby d7_22)
      have V765 : Arv Z h765 a k1 .int (2 : Int32) [(.int (-1 : Int32)), (.int z)] (.int (0 : Int32)) := set764 rfl W765 0 rfl (Nat.le_of_ble_eq_true rfl)
      have N765 := Fr.snoc X765 N0 g1
      have K766 := K0.wr W765 (Or.inl (List.mem_of_getElem? (i := 0) rfl))
      have Z765 : n0 ≤ h765.size := Nat.le_trans Z0 (Keep.of_wr W765).1
      refine own_by st765 ?_
      show own_Go p e below _ T765 (mkF m 23 #[.val (.ref a), .val (.ref sa), .val (.ref b), .val (.int (3 : Int32)), .val (.long now), .second, .val (.long t0), .second, .val (.long r), .second, .unset] [])
      have f767 := (V3.other W765 (Ne.symm n1))
      have f768 := (V1.other W765 (Ne.symm n2))
      exact J23 T765 _ h765 X765 e765 N765 (Keep.of_wr W765) _ (by simp only [own_wake, if_neg hx0, if_neg hl0]) V765 f767 f768
def Q_rm6_3 (Z : State) (a1 b ta tl0 tl1 tl2 tl3 : Addr) (kb kt : ClassId) (u0 u1 u2 u3 x z : Int32) (y now t0 r : Int64) (h0 : Heap) (n0 : Nat) (v : Option Value) (h : Heap) (L : List Loc) : Prop := v = some (.int (own_rest (3 : Int32) (own_count (3 : Int32) u1 u2 u3) (own_at u0 u1 u2 u3) now t0 r 3 x y z).1) ∧ Fr n0 L ∧ Keep h0 h [a1] ∧ Exa Z h a1 "com/example/eskew/eskew/server/split/CounterValues" ∧ Fld Z h a1 "com/example/eskew/eskew/server/split/CounterValues" "resting" "I" (.int (own_rest (3 : Int32) (own_count (3 : Int32) u1 u2 u3) (own_at u0 u1 u2 u3) now t0 r 3 x y z).1) ∧ Fld Z h a1 "com/example/eskew/eskew/server/split/CounterValues" "restingSince" "J" (.long (own_rest (3 : Int32) (own_count (3 : Int32) u1 u2 u3) (own_at u0 u1 u2 u3) now t0 r 3 x y z).2.1) ∧ Fld Z h a1 "com/example/eskew/eskew/server/split/CounterValues" "nextToRest" "I" (.int (own_rest (3 : Int32) (own_count (3 : Int32) u1 u2 u3) (own_at u0 u1 u2 u3) now t0 r 3 x y z).2.2) ∧ Fld Z h a1 "com/example/eskew/eskew/server/split/CounterValues" "rereadNanos" "J" (.long r) ∧ Fld Z h a1 "com/example/eskew/eskew/server/split/CounterValues" "tallies" "[Lcom/example/eskew/eskew/server/split/CounterValues$Tally;" (.ref ta)
theorem pn_rm6_3 : plainFor (⟨"com/example/eskew/eskew/server/split/CounterValues", "resting", "([ZJ)I"⟩ : MethodName) = true := plainFor_of_name (by first | (simp [plainName, overriddenIn, x]; done) | decide +kernel)
set_option maxRecDepth 65536 in
set_option maxHeartbeats 40000000 in
theorem rm6_3 (l : Launch) (Z : State) (a0 : Array Value) (hw : ∀ d ∈ tables_1, d.before a0 Z = true) (ws : List Jvm.Cond) (a1 b ta tl0 tl1 tl2 tl3 : Addr) (kb kt : ClassId) (u0 u1 u2 u3 x z : Int32) (y now t0 r : Int64) (h0 : Heap) (n0 : Nat) (Z0 : n0 ≤ h0.size) (g1 : n0 ≤ a1) (hin : own_in (3 : Int32) z) (mb : a1 ≠ b) (mt : a1 ≠ ta) (m0 : a1 ≠ tl0) (m1 : a1 ≠ tl1) (m2 : a1 ≠ tl2) (m3 : a1 ≠ tl3) (E1 : Exa Z h0 a1 "com/example/eskew/eskew/server/split/CounterValues") (F_resting : Fld Z h0 a1 "com/example/eskew/eskew/server/split/CounterValues" "resting" "I" (.int x)) (F_restingSince : Fld Z h0 a1 "com/example/eskew/eskew/server/split/CounterValues" "restingSince" "J" (.long y)) (F_nextToRest : Fld Z h0 a1 "com/example/eskew/eskew/server/split/CounterValues" "nextToRest" "I" (.int z)) (F_rereadNanos : Fld Z h0 a1 "com/example/eskew/eskew/server/split/CounterValues" "rereadNanos" "J" (.long r)) (F_tallies : Fld Z h0 a1 "com/example/eskew/eskew/server/split/CounterValues" "tallies" "[Lcom/example/eskew/eskew/server/split/CounterValues$Tally;" (.ref ta)) (V1 : Arv Z h0 b kb .boolean (4 : Int32) [(.int u0), (.int u1), (.int u2), (.int u3)] (.int (0 : Int32))) (V2 : Arv Z h0 ta kt (.object "com/example/eskew/eskew/server/split/CounterValues$Tally") (4 : Int32) [(.ref tl0), (.ref tl1), (.ref tl2), (.ref tl3)] .null) (S0 : Fld Z h0 tl0 "com/example/eskew/eskew/server/split/CounterValues$Tally" "since" "J" (.long t0)) (S1 : Fld Z h0 tl1 "com/example/eskew/eskew/server/split/CounterValues$Tally" "since" "J" (.long t0)) (S2 : Fld Z h0 tl2 "com/example/eskew/eskew/server/split/CounterValues$Tally" "since" "J" (.long t0)) (S3 : Fld Z h0 tl3 "com/example/eskew/eskew/server/split/CounterValues$Tally" "since" "J" (.long t0)) :
    own_Met l Z (⟨"com/example/eskew/eskew/server/split/CounterValues", "resting", "([ZJ)I"⟩ : MethodName) prog_33_method_14_code 8 (some .int) ws ({ frames := 0, cells := 0, slots := 0, locals := 0 } : Room) #[(.ref a1), (.ref b), (.long now)] h0 (Q_rm6_3 Z a1 b ta tl0 tl1 tl2 tl3 kb kt u0 u1 u2 u3 x z y now t0 r h0 n0) := by
  refine own_enter (g0 := fun m => (mkF m 0 #[.val (.ref a1), .val (.ref b), .val (.long now), .second, .unset, .unset, .unset, .unset] [])) pn_rm6_3 (fun m => by first | (simp [entryFrame, mkF, argsToLocals, Value.category, maxLocals]; done) | rfl) ?_
  intro p e s m below meth c s₁ hx hby hml hown hnm hret hlk hZ X0 e0
  have hml : c.maxLocals = 8 := hml
  have hown : s.vm.findClass "com/example/eskew/eskew/server/split/CounterValues" = some m.cls := hown
  have N0 := Fr.nil n0
  have K0 := Keep.refl h0 [a1]
  have J27 : ∀ (T769 : State) (L769 : List Loc) (h769 : Heap) (X769 : Stand p l e ({ frames := 0, cells := 0, slots := 0, locals := 0 } : Room) s m #[(.ref a1), (.ref b), (.long now)] below meth c T769 L769 0 0) (e769 : T769.heap = h769) (N769 : Fr n0 L769) (Kj : Keep h0 h769 [a1])  (x1 : Int32) (hw1 : (own_wake now r (x, y, z)) = (x1, y, z)) (Ej : Exa Z h769 a1 "com/example/eskew/eskew/server/split/CounterValues") (Fj0 : Fld Z h769 a1 "com/example/eskew/eskew/server/split/CounterValues" "resting" "I" (.int x1)) (Fj1 : Fld Z h769 a1 "com/example/eskew/eskew/server/split/CounterValues" "restingSince" "J" (.long y)) (Fj2 : Fld Z h769 a1 "com/example/eskew/eskew/server/split/CounterValues" "nextToRest" "I" (.int z)) (Fj3 : Fld Z h769 a1 "com/example/eskew/eskew/server/split/CounterValues" "rereadNanos" "J" (.long r)) (Fj4 : Fld Z h769 a1 "com/example/eskew/eskew/server/split/CounterValues" "tallies" "[Lcom/example/eskew/eskew/server/split/CounterValues$Tally;" (.ref ta)), own_Go p e below (own_End s ({ frames := 0, cells := 0, slots := 0, locals := 0 } : Room).cells ({ frames := 0, cells := 0, slots := 0, locals := 0 } : Room).slots (Q_rm6_3 Z a1 b ta tl0 tl1 tl2 tl3 kb kt u0 u1 u2 u3 x z y now t0 r h0 n0)) T769 (mkF m 27 #[.val (.ref a1), .val (.ref b), .val (.long now), .second, .unset, .unset, .unset, .unset] []) := by
    intro T769 L769 h769 X769 e769 N769 Kj x1 hw1 Ej Fj0 Fj1 Fj2 Fj3 Fj4
    have Z769 : n0 ≤ h769.size := Nat.le_trans Z0 Kj.1
    have K769c := K0.trans Kj (allS (Or.inl (List.mem_of_getElem? (i := 0) rfl)) all0)
    refine own_by (fun _ k => XS.aloadN X769.here hx rfl (hb hby d6_27) rfl rfl k) ?_
    obtain ⟨T770, X770, e770, st770⟩ := getF X769 hx hZ hown (host := "") (Or.inl (hw _ (List.mem_of_getElem? (i := 33) rfl))) Via.refl e769 Fj4 (g := (mkF m 28 #[.val (.ref a1), .val (.ref b), .val (.long now), .second, .unset, .unset, .unset, .unset] [(.ref a1)])) rfl rfl (hb hby d6_28)
    refine own_by st770 ?_
    have f772 := (V2.keep Kj (ninS (Ne.symm mt) nin0))
    obtain ⟨cl771, Ar771, len771⟩ := own_len f772
    refine own_by (T' := T770) (g' := (mkF m 32 #[.val (.ref a1), .val (.ref b), .val (.long now), .second, .unset, .unset, .unset, .unset] [(.int (4 : Int32))])) (fun _ k => X770.arraylength hx (by rw [e770]; exact Ar771.1) (State.isArrayOf_alike hZ.alike Ar771.2.1) (g := (mkF m 31 #[.val (.ref a1), .val (.ref b), .val (.long now), .second, .unset, .unset, .unset, .unset] [(.ref ta)])) rfl rfl (hb hby d6_31) _ (by rw [len771]; exact k)) ?_
    refine own_by (fun _ k => XS.iconst X770.here hx rfl (hb hby d6_32) k) ?_
    refine own_by (fun _ k => XS.isub X770.here hx rfl (hb hby d6_33) rfl k) ?_
    show own_Go p e below _ T770 (mkF m 34 #[.val (.ref a1), .val (.ref b), .val (.long now), .second, .unset, .unset, .unset, .unset] [(.int ((4 : Int32) - (1 : Int32)))])
    rw [show (4 : Int32) - (1 : Int32) = (3 : Int32) from by decide]
    refine own_by (fun _ k => XS.istore X770.here hx rfl (hb hby d6_34) rfl (l' := #[.val (.ref a1), .val (.ref b), .val (.long now), .second, .val (.int (3 : Int32)), .unset, .unset, .unset]) rfl k) ?_
    refine own_by (fun _ k => XS.iconst X770.here hx rfl (hb hby d6_36) k) ?_
    refine own_by (fun _ k => XS.istore X770.here hx rfl (hb hby d6_37) rfl (l' := #[.val (.ref a1), .val (.ref b), .val (.long now), .second, .val (.int (3 : Int32)), .val (.int (0 : Int32)), .unset, .unset]) rfl k) ?_
    refine own_by (fun _ k => XS.iconst X770.here hx rfl (hb hby d6_39) k) ?_
    refine own_by (fun _ k => XS.istore X770.here hx rfl (hb hby d6_40) rfl (l' := #[.val (.ref a1), .val (.ref b), .val (.long now), .second, .val (.int (3 : Int32)), .val (.int (0 : Int32)), .val (.int (1 : Int32)), .unset]) rfl k) ?_
    refine own_by (fun _ k => XS.iload X770.here hx rfl (hb hby d6_42) rfl k) ?_
    refine own_by (fun _ k => XS.iload X770.here hx rfl (hb hby d6_44) rfl k) ?_
    refine own_by (fun _ k => XS.icmpNo X770.here hx rfl (hb hby d6_46) rfl (flt (by decide : ¬ ((3 : Int32) < (1 : Int32)))).2.2.1 k) ?_
    show own_Go p e below _ T770 (mkF m 49 #[.val (.ref a1), .val (.ref b), .val (.long now), .second, .val (.int (3 : Int32)), .val (.int (0 : Int32)), .val (.int (1 : Int32)), .unset] [])
    refine own_by (fun _ k => XS.iload X770.here hx rfl (hb hby d6_49) rfl k) ?_
    refine own_by (fun _ k => XS.aloadN X770.here hx rfl (hb hby d6_51) rfl rfl k) ?_
    refine own_by (fun _ k => XS.iload X770.here hx rfl (hb hby d6_52) rfl k) ?_
    have f774 := (V1.keep Kj (ninS (Ne.symm mb) nin0))
    obtain ⟨cl773, Ar773, cq773, hin773, hat773, set773⟩ := own_arv f774 (j := (1 : Int32)) ⟨by decide, by decide⟩
    refine own_by (fun _ k => X770.baloadBooleans hx (j := (1 : Int32)) (v := (.int u1)) (by rw [e770]; exact Ar773.1) (State.isArrayOf_alike hZ.alike Ar773.2.1) Ar773.2.2 hin773 hat773 (g := (mkF m 54 #[.val (.ref a1), .val (.ref b), .val (.long now), .second, .val (.int (3 : Int32)), .val (.int (0 : Int32)), .val (.int (1 : Int32)), .unset] [(.int (1 : Int32)), (.ref b), (.int (0 : Int32))])) rfl rfl (hb hby d6_54) _ k) ?_
    have J63_1 : ∀ (o : Int32) (ho : o = own_one u1), own_Go p e below (own_End s ({ frames := 0, cells := 0, slots := 0, locals := 0 } : Room).cells ({ frames := 0, cells := 0, slots := 0, locals := 0 } : Room).slots (Q_rm6_3 Z a1 b ta tl0 tl1 tl2 tl3 kb kt u0 u1 u2 u3 x z y now t0 r h0 n0)) T770 (mkF m 63 #[.val (.ref a1), .val (.ref b), .val (.long now), .second, .val (.int (3 : Int32)), .val (.int (0 : Int32)), .val (.int (1 : Int32)), .unset] [(.int o), (.int (0 : Int32))]) := by
      intro  o ho
      show own_Go p e below _ T770 (mkF m 63 #[.val (.ref a1), .val (.ref b), .val (.long now), .second, .val (.int (3 : Int32)), .val (.int (0 : Int32)), .val (.int (1 : Int32)), .unset] [(.int o), (.int (0 : Int32))])
      subst ho
      refine own_by (fun _ k => XS.iadd X770.here hx rfl (hb hby d6_63) rfl k) ?_
      refine own_by (fun _ k => XS.istore X770.here hx rfl (hb hby d6_64) rfl (l' := #[.val (.ref a1), .val (.ref b), .val (.long now), .second, .val (.int (3 : Int32)), .val (.int ((0 : Int32) + (own_one u1))), .val (.int (1 : Int32)), .unset]) rfl k) ?_
      refine own_by (fun _ k => XS.iinc X770.here hx rfl (hb hby d6_66) rfl (l' := #[.val (.ref a1), .val (.ref b), .val (.long now), .second, .val (.int (3 : Int32)), .val (.int ((0 : Int32) + (own_one u1))), .val (.int ((1 : Int32) + (1 : Int32))), .unset]) rfl k) ?_
      show own_Go p e below _ T770 (mkF m 69 #[.val (.ref a1), .val (.ref b), .val (.long now), .second, .val (.int (3 : Int32)), .val (.int ((0 : Int32) + (own_one u1))), .val (.int ((1 : Int32) + (1 : Int32))), .unset] [])
      rw [show (1 : Int32) + (1 : Int32) = (2 : Int32) from by decide]
      refine own_by (fun _ k => XS.goto X770.here hx rfl (pc0 := 69) (pc' := 42) rfl (hb hby d6_69) (by decide) (by decide) k) ?_
      refine own_by (fun _ k => XS.iload X770.here hx rfl (hb hby d6_42) rfl k) ?_
      refine own_by (fun _ k => XS.iload X770.here hx rfl (hb hby d6_44) rfl k) ?_
      refine own_by (fun _ k => XS.icmpNo X770.here hx rfl (hb hby d6_46) rfl (flt (by decide : ¬ ((3 : Int32) < (2 : Int32)))).2.2.1 k) ?_
      refine own_by (fun _ k => XS.iload X770.here hx rfl (hb hby d6_49) rfl k) ?_
      refine own_by (fun _ k => XS.aloadN X770.here hx rfl (hb hby d6_51) rfl rfl k) ?_
      refine own_by (fun _ k => XS.iload X770.here hx rfl (hb hby d6_52) rfl k) ?_
      obtain ⟨cl775, Ar775, cq775, hin775, hat775, set775⟩ := own_arv f774 (j := (2 : Int32)) ⟨by decide, by decide⟩
      refine own_by (fun _ k => X770.baloadBooleans hx (j := (2 : Int32)) (v := (.int u2)) (by rw [e770]; exact Ar775.1) (State.isArrayOf_alike hZ.alike Ar775.2.1) Ar775.2.2 hin775 hat775 (g := (mkF m 54 #[.val (.ref a1), .val (.ref b), .val (.long now), .second, .val (.int (3 : Int32)), .val (.int ((0 : Int32) + (own_one u1))), .val (.int (2 : Int32)), .unset] [(.int (2 : Int32)), (.ref b), (.int ((0 : Int32) + (own_one u1)))])) rfl rfl (hb hby d6_54) _ k) ?_
      show own_Go p e below _ T770 (mkF m 55 #[.val (.ref a1), .val (.ref b), .val (.long now), .second, .val (.int (3 : Int32)), .val (.int ((0 : Int32) + (own_one u1))), .val (.int (2 : Int32)), .unset] [(.int u2), (.int ((0 : Int32) + (own_one u1)))])
      have J63_2 : ∀ (o : Int32) (ho : o = own_one u2), own_Go p e below (own_End s ({ frames := 0, cells := 0, slots := 0, locals := 0 } : Room).cells ({ frames := 0, cells := 0, slots := 0, locals := 0 } : Room).slots (Q_rm6_3 Z a1 b ta tl0 tl1 tl2 tl3 kb kt u0 u1 u2 u3 x z y now t0 r h0 n0)) T770 (mkF m 63 #[.val (.ref a1), .val (.ref b), .val (.long now), .second, .val (.int (3 : Int32)), .val (.int ((0 : Int32) + (own_one u1))), .val (.int (2 : Int32)), .unset] [(.int o), (.int ((0 : Int32) + (own_one u1)))]) := by
        intro  o ho
        show own_Go p e below _ T770 (mkF m 63 #[.val (.ref a1), .val (.ref b), .val (.long now), .second, .val (.int (3 : Int32)), .val (.int ((0 : Int32) + (own_one u1))), .val (.int (2 : Int32)), .unset] [(.int o), (.int ((0 : Int32) + (own_one u1)))])
        subst ho
        refine own_by (fun _ k => XS.iadd X770.here hx rfl (hb hby d6_63) rfl k) ?_
        refine own_by (fun _ k => XS.istore X770.here hx rfl (hb hby d6_64) rfl (l' := #[.val (.ref a1), .val (.ref b), .val (.long now), .second, .val (.int (3 : Int32)), .val (.int (((0 : Int32) + (own_one u1)) + (own_one u2))), .val (.int (2 : Int32)), .unset]) rfl k) ?_
        refine own_by (fun _ k => XS.iinc X770.here hx rfl (hb hby d6_66) rfl (l' := #[.val (.ref a1), .val (.ref b), .val (.long now), .second, .val (.int (3 : Int32)), .val (.int (((0 : Int32) + (own_one u1)) + (own_one u2))), .val (.int ((2 : Int32) + (1 : Int32))), .unset]) rfl k) ?_
        show own_Go p e below _ T770 (mkF m 69 #[.val (.ref a1), .val (.ref b), .val (.long now), .second, .val (.int (3 : Int32)), .val (.int (((0 : Int32) + (own_one u1)) + (own_one u2))), .val (.int ((2 : Int32) + (1 : Int32))), .unset] [])
        rw [show (2 : Int32) + (1 : Int32) = (3 : Int32) from by decide]
        refine own_by (fun _ k => XS.goto X770.here hx rfl (pc0 := 69) (pc' := 42) rfl (hb hby d6_69) (by decide) (by decide) k) ?_
        refine own_by (fun _ k => XS.iload X770.here hx rfl (hb hby d6_42) rfl k) ?_
        refine own_by (fun _ k => XS.iload X770.here hx rfl (hb hby d6_44) rfl k) ?_
        refine own_by (fun _ k => XS.icmpNo X770.here hx rfl (hb hby d6_46) rfl (flt (by decide : ¬ ((3 : Int32) < (3 : Int32)))).2.2.1 k) ?_
        refine own_by (fun _ k => XS.iload X770.here hx rfl (hb hby d6_49) rfl k) ?_
        refine own_by (fun _ k => XS.aloadN X770.here hx rfl (hb hby d6_51) rfl rfl k) ?_
        refine own_by (fun _ k => XS.iload X770.here hx rfl (hb hby d6_52) rfl k) ?_
        obtain ⟨cl776, Ar776, cq776, hin776, hat776, set776⟩ := own_arv f774 (j := (3 : Int32)) ⟨by decide, by decide⟩
        refine own_by (fun _ k => X770.baloadBooleans hx (j := (3 : Int32)) (v := (.int u3)) (by rw [e770]; exact Ar776.1) (State.isArrayOf_alike hZ.alike Ar776.2.1) Ar776.2.2 hin776 hat776 (g := (mkF m 54 #[.val (.ref a1), .val (.ref b), .val (.long now), .second, .val (.int (3 : Int32)), .val (.int (((0 : Int32) + (own_one u1)) + (own_one u2))), .val (.int (3 : Int32)), .unset] [(.int (3 : Int32)), (.ref b), (.int (((0 : Int32) + (own_one u1)) + (own_one u2)))])) rfl rfl (hb hby d6_54) _ k) ?_
        show own_Go p e below _ T770 (mkF m 55 #[.val (.ref a1), .val (.ref b), .val (.long now), .second, .val (.int (3 : Int32)), .val (.int (((0 : Int32) + (own_one u1)) + (own_one u2))), .val (.int (3 : Int32)), .unset] [(.int u3), (.int (((0 : Int32) + (own_one u1)) + (own_one u2)))])
        have J63_3 : ∀ (o : Int32) (ho : o = own_one u3), own_Go p e below (own_End s ({ frames := 0, cells := 0, slots := 0, locals := 0 } : Room).cells ({ frames := 0, cells := 0, slots := 0, locals := 0 } : Room).slots (Q_rm6_3 Z a1 b ta tl0 tl1 tl2 tl3 kb kt u0 u1 u2 u3 x z y now t0 r h0 n0)) T770 (mkF m 63 #[.val (.ref a1), .val (.ref b), .val (.long now), .second, .val (.int (3 : Int32)), .val (.int (((0 : Int32) + (own_one u1)) + (own_one u2))), .val (.int (3 : Int32)), .unset] [(.int o), (.int (((0 : Int32) + (own_one u1)) + (own_one u2)))]) := by
          intro  o ho
          show own_Go p e below _ T770 (mkF m 63 #[.val (.ref a1), .val (.ref b), .val (.long now), .second, .val (.int (3 : Int32)), .val (.int (((0 : Int32) + (own_one u1)) + (own_one u2))), .val (.int (3 : Int32)), .unset] [(.int o), (.int (((0 : Int32) + (own_one u1)) + (own_one u2)))])
          subst ho
          refine own_by (fun _ k => XS.iadd X770.here hx rfl (hb hby d6_63) rfl k) ?_
          refine own_by (fun _ k => XS.istore X770.here hx rfl (hb hby d6_64) rfl (l' := #[.val (.ref a1), .val (.ref b), .val (.long now), .second, .val (.int (3 : Int32)), .val (.int ((((0 : Int32) + (own_one u1)) + (own_one u2)) + (own_one u3))), .val (.int (3 : Int32)), .unset]) rfl k) ?_
          refine own_by (fun _ k => XS.iinc X770.here hx rfl (hb hby d6_66) rfl (l' := #[.val (.ref a1), .val (.ref b), .val (.long now), .second, .val (.int (3 : Int32)), .val (.int ((((0 : Int32) + (own_one u1)) + (own_one u2)) + (own_one u3))), .val (.int ((3 : Int32) + (1 : Int32))), .unset]) rfl k) ?_
          show own_Go p e below _ T770 (mkF m 69 #[.val (.ref a1), .val (.ref b), .val (.long now), .second, .val (.int (3 : Int32)), .val (.int ((((0 : Int32) + (own_one u1)) + (own_one u2)) + (own_one u3))), .val (.int ((3 : Int32) + (1 : Int32))), .unset] [])
          rw [show (3 : Int32) + (1 : Int32) = (4 : Int32) from by decide]
          refine own_by (fun _ k => XS.goto X770.here hx rfl (pc0 := 69) (pc' := 42) rfl (hb hby d6_69) (by decide) (by decide) k) ?_
          refine own_by (fun _ k => XS.iload X770.here hx rfl (hb hby d6_42) rfl k) ?_
          refine own_by (fun _ k => XS.iload X770.here hx rfl (hb hby d6_44) rfl k) ?_
          refine own_by (fun _ k => XS.icmpYes X770.here hx rfl (pc0 := 46) (pc' := 72) rfl (hb hby d6_46) rfl (tlt (by decide : (3 : Int32) < (4 : Int32))).2.2.1 (by decide) (by decide) k) ?_
          refine own_by (fun _ k => XS.iconst X770.here hx rfl (hb hby d6_72) k) ?_
          refine own_by (fun _ k => XS.istore X770.here hx rfl (hb hby d6_73) rfl (l' := #[.val (.ref a1), .val (.ref b), .val (.long now), .second, .val (.int (3 : Int32)), .val (.int ((((0 : Int32) + (own_one u1)) + (own_one u2)) + (own_one u3))), .val (.int (0 : Int32)), .unset]) rfl k) ?_
          obtain ⟨c0, hc0⟩ : ∃ zq, zq = ((((0 : Int32) + own_one u1) + own_one u2) + own_one u3) := ⟨_, rfl⟩
          show own_Go p e below _ T770 (mkF m 75 #[.val (.ref a1), .val (.ref b), .val (.long now), .second, .val (.int (3 : Int32)), .val (.int ((((0 : Int32) + (own_one u1)) + (own_one u2)) + (own_one u3))), .val (.int (0 : Int32)), .unset] [])
          rw [← hc0]
          have hc0 : c0 = (own_count (3 : Int32) u1 u2 u3) := hc0.trans (own_cnt_3 u1 u2 u3)
          have J75_3 : ∀ (T777 : State) (L777 : List Loc) (h777 : Heap) (X777 : Stand p l e ({ frames := 0, cells := 0, slots := 0, locals := 0 } : Room) s m #[(.ref a1), (.ref b), (.long now)] below meth c T777 L777 0 0) (e777 : T777.heap = h777) (N777 : Fr n0 L777) (Kh : Keep h769 h777 [a1])  (xx : Int32) (yy : Int64) (zz : Int32) (s7 : Slot) (h7 : One s7) (hz : own_in (3 : Int32) zz) (hS : (own_rest (3 : Int32) (own_count (3 : Int32) u1 u2 u3) (own_at u0 u1 u2 u3) now t0 r 3 x y z) = (own_loop (3 : Int32) (own_count (3 : Int32) u1 u2 u3) (own_at u0 u1 u2 u3) now t0 r 0 (3 : Int32) (xx, yy, zz))) (Ej : Exa Z h777 a1 "com/example/eskew/eskew/server/split/CounterValues") (Fj0 : Fld Z h777 a1 "com/example/eskew/eskew/server/split/CounterValues" "resting" "I" (.int xx)) (Fj1 : Fld Z h777 a1 "com/example/eskew/eskew/server/split/CounterValues" "restingSince" "J" (.long yy)) (Fj2 : Fld Z h777 a1 "com/example/eskew/eskew/server/split/CounterValues" "nextToRest" "I" (.int zz)) (Fj3 : Fld Z h777 a1 "com/example/eskew/eskew/server/split/CounterValues" "rereadNanos" "J" (.long r)) (Fj4 : Fld Z h777 a1 "com/example/eskew/eskew/server/split/CounterValues" "tallies" "[Lcom/example/eskew/eskew/server/split/CounterValues$Tally;" (.ref ta)), own_Go p e below (own_End s ({ frames := 0, cells := 0, slots := 0, locals := 0 } : Room).cells ({ frames := 0, cells := 0, slots := 0, locals := 0 } : Room).slots (Q_rm6_3 Z a1 b ta tl0 tl1 tl2 tl3 kb kt u0 u1 u2 u3 x z y now t0 r h0 n0)) T777 (mkF m 75 #[.val (.ref a1), .val (.ref b), .val (.long now), .second, .val (.int (3 : Int32)), .val (.int c0), .val (.int (3 : Int32)), s7] []) := by
            intro T777 L777 h777 X777 e777 N777 Kh xx yy zz s7 h7 hz hS Ej Fj0 Fj1 Fj2 Fj3 Fj4
            have Z777 : n0 ≤ h777.size := Nat.le_trans Z769 Kh.1
            have K777c := K769c.trans Kh (allS (Or.inl (List.mem_of_getElem? (i := 0) rfl)) all0)
            refine own_by (fun _ k => XS.aloadN X777.here hx rfl (hb hby d6_75) rfl rfl k) ?_
            obtain ⟨T778, X778, e778, st778⟩ := getF X777 hx hZ hown (host := "") (Or.inl (hw _ (List.mem_of_getElem? (i := 25) rfl))) Via.refl e777 Fj0 (g := (mkF m 76 #[.val (.ref a1), .val (.ref b), .val (.long now), .second, .val (.int (3 : Int32)), .val (.int c0), .val (.int (3 : Int32)), s7] [(.ref a1)])) rfl rfl (hb hby d6_76)
            refine own_by st778 ?_
            refine own_by (fun _ k => XS.iconst X778.here hx rfl (hb hby d6_79) k) ?_
            by_cases hxx : xx = (-1 : Int32)
            · refine own_by (fun _ k => XS.icmpNo X778.here hx rfl (hb hby d6_80) rfl (teq (hxx : xx = (-1 : Int32))).2 k) ?_
              refine own_by (fun _ k => XS.iload X778.here hx rfl (hb hby d6_83) rfl k) ?_
              refine own_by (fun _ k => XS.iconst X778.here hx rfl (hb hby d6_85) k) ?_
              by_cases hcc : (1 : Int32) < c0
              · refine own_by (fun _ k => XS.icmpNo X778.here hx rfl (hb hby d6_86) rfl (tlt (hcc : (1 : Int32) < c0)).2.2.2 k) ?_
                show own_Go p e below _ T778 (mkF m 89 #[.val (.ref a1), .val (.ref b), .val (.long now), .second, .val (.int (3 : Int32)), .val (.int c0), .val (.int (3 : Int32)), s7] [])
                refine own_by (fun _ k => XS.iload X778.here hx rfl (hb hby d6_89) rfl k) ?_
                refine own_by (fun _ k => XS.iload X778.here hx rfl (hb hby d6_91) rfl k) ?_
                refine own_by (fun _ k => XS.icmpYes X778.here hx rfl (pc0 := 93) (pc' := 167) rfl (hb hby d6_93) rfl (flt (by decide : ¬ ((3 : Int32) < (3 : Int32)))).2.1 (by decide) (by decide) k) ?_
                refine own_by (fun _ k => XS.aloadN X778.here hx rfl (hb hby d6_167) rfl rfl k) ?_
                obtain ⟨T779, X779, e779, st779⟩ := getF X778 hx hZ hown (host := "") (Or.inl (hw _ (List.mem_of_getElem? (i := 25) rfl))) Via.refl e778 Fj0 (g := (mkF m 168 #[.val (.ref a1), .val (.ref b), .val (.long now), .second, .val (.int (3 : Int32)), .val (.int c0), .val (.int (3 : Int32)), s7] [(.ref a1)])) rfl rfl (hb hby d6_168)
                refine own_by st779 ?_
                have hres : (own_rest (3 : Int32) (own_count (3 : Int32) u1 u2 u3) (own_at u0 u1 u2 u3) now t0 r 3 x y z) = (xx, yy, zz) := hS.trans (rfl)
                exact own_retI X779 hx hlk hret  (hb hby d6_171) (by first | exact ⟨by rw [hres], N777, K777c, Ej, by rw [hres]; exact Fj0, by rw [hres]; exact Fj1, by rw [hres]; exact Fj2, Fj3, Fj4⟩ | (rw [e779]; exact ⟨by rw [hres], N777, K777c, Ej, by rw [hres]; exact Fj0, by rw [hres]; exact Fj1, by rw [hres]; exact Fj2, Fj3, Fj4⟩)) (by decide) (by decide)
              · refine own_by (fun _ k => XS.icmpYes X778.here hx rfl (pc0 := 86) (pc' := 167) rfl (hb hby d6_86) rfl (flt (hcc : ¬ ((1 : Int32) < c0))).2.2.2 (by decide) (by decide) k) ?_
                show own_Go p e below _ T778 (mkF m 167 #[.val (.ref a1), .val (.ref b), .val (.long now), .second, .val (.int (3 : Int32)), .val (.int c0), .val (.int (3 : Int32)), s7] [])
                refine own_by (fun _ k => XS.aloadN X778.here hx rfl (hb hby d6_167) rfl rfl k) ?_
                obtain ⟨T780, X780, e780, st780⟩ := getF X778 hx hZ hown (host := "") (Or.inl (hw _ (List.mem_of_getElem? (i := 25) rfl))) Via.refl e778 Fj0 (g := (mkF m 168 #[.val (.ref a1), .val (.ref b), .val (.long now), .second, .val (.int (3 : Int32)), .val (.int c0), .val (.int (3 : Int32)), s7] [(.ref a1)])) rfl rfl (hb hby d6_168)
                refine own_by st780 ?_
                have hres : (own_rest (3 : Int32) (own_count (3 : Int32) u1 u2 u3) (own_at u0 u1 u2 u3) now t0 r 3 x y z) = (xx, yy, zz) := hS.trans (rfl)
                exact own_retI X780 hx hlk hret  (hb hby d6_171) (by first | exact ⟨by rw [hres], N777, K777c, Ej, by rw [hres]; exact Fj0, by rw [hres]; exact Fj1, by rw [hres]; exact Fj2, Fj3, Fj4⟩ | (rw [e780]; exact ⟨by rw [hres], N777, K777c, Ej, by rw [hres]; exact Fj0, by rw [hres]; exact Fj1, by rw [hres]; exact Fj2, Fj3, Fj4⟩)) (by decide) (by decide)
            · refine own_by (fun _ k => XS.icmpYes X778.here hx rfl (pc0 := 80) (pc' := 167) rfl (hb hby d6_80) rfl (feq (hxx : ¬ (xx = (-1 : Int32)))).2 (by decide) (by decide) k) ?_
              refine own_by (fun _ k => XS.aloadN X778.here hx rfl (hb hby d6_167) rfl rfl k) ?_
              obtain ⟨T781, X781, e781, st781⟩ := getF X778 hx hZ hown (host := "") (Or.inl (hw _ (List.mem_of_getElem? (i := 25) rfl))) Via.refl e778 Fj0 (g := (mkF m 168 #[.val (.ref a1), .val (.ref b), .val (.long now), .second, .val (.int (3 : Int32)), .val (.int c0), .val (.int (3 : Int32)), s7] [(.ref a1)])) rfl rfl (hb hby d6_168)
              refine own_by st781 ?_
              have hres : (own_rest (3 : Int32) (own_count (3 : Int32) u1 u2 u3) (own_at u0 u1 u2 u3) now t0 r 3 x y z) = (xx, yy, zz) := hS.trans (rfl)
              exact own_retI X781 hx hlk hret  (hb hby d6_171) (by first | exact ⟨by rw [hres], N777, K777c, Ej, by rw [hres]; exact Fj0, by rw [hres]; exact Fj1, by rw [hres]; exact Fj2, Fj3, Fj4⟩ | (rw [e781]; exact ⟨by rw [hres], N777, K777c, Ej, by rw [hres]; exact Fj0, by rw [hres]; exact Fj1, by rw [hres]; exact Fj2, Fj3, Fj4⟩)) (by decide) (by decide)
          have J75_2 : ∀ (T782 : State) (L782 : List Loc) (h782 : Heap) (X782 : Stand p l e ({ frames := 0, cells := 0, slots := 0, locals := 0 } : Room) s m #[(.ref a1), (.ref b), (.long now)] below meth c T782 L782 0 0) (e782 : T782.heap = h782) (N782 : Fr n0 L782) (Kh : Keep h769 h782 [a1])  (xx : Int32) (yy : Int64) (zz : Int32) (s7 : Slot) (h7 : One s7) (hz : own_in (3 : Int32) zz) (hS : (own_rest (3 : Int32) (own_count (3 : Int32) u1 u2 u3) (own_at u0 u1 u2 u3) now t0 r 3 x y z) = (own_loop (3 : Int32) (own_count (3 : Int32) u1 u2 u3) (own_at u0 u1 u2 u3) now t0 r 1 (2 : Int32) (xx, yy, zz))) (Ej : Exa Z h782 a1 "com/example/eskew/eskew/server/split/CounterValues") (Fj0 : Fld Z h782 a1 "com/example/eskew/eskew/server/split/CounterValues" "resting" "I" (.int xx)) (Fj1 : Fld Z h782 a1 "com/example/eskew/eskew/server/split/CounterValues" "restingSince" "J" (.long yy)) (Fj2 : Fld Z h782 a1 "com/example/eskew/eskew/server/split/CounterValues" "nextToRest" "I" (.int zz)) (Fj3 : Fld Z h782 a1 "com/example/eskew/eskew/server/split/CounterValues" "rereadNanos" "J" (.long r)) (Fj4 : Fld Z h782 a1 "com/example/eskew/eskew/server/split/CounterValues" "tallies" "[Lcom/example/eskew/eskew/server/split/CounterValues$Tally;" (.ref ta)), own_Go p e below (own_End s ({ frames := 0, cells := 0, slots := 0, locals := 0 } : Room).cells ({ frames := 0, cells := 0, slots := 0, locals := 0 } : Room).slots (Q_rm6_3 Z a1 b ta tl0 tl1 tl2 tl3 kb kt u0 u1 u2 u3 x z y now t0 r h0 n0)) T782 (mkF m 75 #[.val (.ref a1), .val (.ref b), .val (.long now), .second, .val (.int (3 : Int32)), .val (.int c0), .val (.int (2 : Int32)), s7] []) := by
            intro T782 L782 h782 X782 e782 N782 Kh xx yy zz s7 h7 hz hS Ej Fj0 Fj1 Fj2 Fj3 Fj4
            have Z782 : n0 ≤ h782.size := Nat.le_trans Z769 Kh.1
            have K782c := K769c.trans Kh (allS (Or.inl (List.mem_of_getElem? (i := 0) rfl)) all0)
            refine own_by (fun _ k => XS.aloadN X782.here hx rfl (hb hby d6_75) rfl rfl k) ?_
            obtain ⟨T783, X783, e783, st783⟩ := getF X782 hx hZ hown (host := "") (Or.inl (hw _ (List.mem_of_getElem? (i := 25) rfl))) Via.refl e782 Fj0 (g := (mkF m 76 #[.val (.ref a1), .val (.ref b), .val (.long now), .second, .val (.int (3 : Int32)), .val (.int c0), .val (.int (2 : Int32)), s7] [(.ref a1)])) rfl rfl (hb hby d6_76)
            refine own_by st783 ?_
            refine own_by (fun _ k => XS.iconst X783.here hx rfl (hb hby d6_79) k) ?_
            by_cases hxx : xx = (-1 : Int32)
            · refine own_by (fun _ k => XS.icmpNo X783.here hx rfl (hb hby d6_80) rfl (teq (hxx : xx = (-1 : Int32))).2 k) ?_
              refine own_by (fun _ k => XS.iload X783.here hx rfl (hb hby d6_83) rfl k) ?_
              refine own_by (fun _ k => XS.iconst X783.here hx rfl (hb hby d6_85) k) ?_
              by_cases hcc : (1 : Int32) < c0
              · refine own_by (fun _ k => XS.icmpNo X783.here hx rfl (hb hby d6_86) rfl (tlt (hcc : (1 : Int32) < c0)).2.2.2 k) ?_
                show own_Go p e below _ T783 (mkF m 89 #[.val (.ref a1), .val (.ref b), .val (.long now), .second, .val (.int (3 : Int32)), .val (.int c0), .val (.int (2 : Int32)), s7] [])
                refine own_by (fun _ k => XS.iload X783.here hx rfl (hb hby d6_89) rfl k) ?_
                refine own_by (fun _ k => XS.iload X783.here hx rfl (hb hby d6_91) rfl k) ?_
                have hcc' : (1 : Int32) < (own_count (3 : Int32) u1 u2 u3) := hc0 ▸ hcc
                refine own_by (fun _ k => XS.icmpNo X783.here hx rfl (hb hby d6_93) rfl (tlt (by decide : (2 : Int32) < (3 : Int32))).2.1 k) ?_
                refine own_by (fun _ k => XS.iconst X783.here hx rfl (hb hby d6_96) k) ?_
                refine own_by (fun _ k => XS.aloadN X783.here hx rfl (hb hby d6_97) rfl rfl k) ?_
                obtain ⟨T784, X784, e784, st784⟩ := getF X783 hx hZ hown (host := "") (Or.inl (hw _ (List.mem_of_getElem? (i := 27) rfl))) Via.refl e783 Fj2 (g := (mkF m 98 #[.val (.ref a1), .val (.ref b), .val (.long now), .second, .val (.int (3 : Int32)), .val (.int c0), .val (.int (2 : Int32)), s7] [(.ref a1), (.int (1 : Int32))])) rfl rfl (hb hby d6_98)
                refine own_by st784 ?_
                refine own_by (fun _ k => XS.iconst X784.here hx rfl (hb hby d6_101) k) ?_
                refine own_by (fun _ k => XS.isub X784.here hx rfl (hb hby d6_102) rfl k) ?_
                refine own_by (fun _ k => XS.iload X784.here hx rfl (hb hby d6_103) rfl k) ?_
                show own_Go p e below _ T784 (mkF m 105 #[.val (.ref a1), .val (.ref b), .val (.long now), .second, .val (.int (3 : Int32)), .val (.int c0), .val (.int (2 : Int32)), s7] [(.int (2 : Int32)), (.int (zz - (1 : Int32))), (.int (1 : Int32))])
                refine own_by (fun _ k => XS.iadd X784.here hx rfl (hb hby d6_105) rfl k) ?_
                refine own_by (fun _ k => XS.iload X784.here hx rfl (hb hby d6_106) rfl k) ?_
                refine own_by (fun _ k => iremM X784 hx rfl (hb hby d6_108) rfl (by decide) k) ?_
                refine own_by (fun _ k => XS.iadd X784.here hx rfl (hb hby d6_109) rfl k) ?_
                refine own_by (fun _ k => XS.istoreS X784.here hx rfl (hb hby d6_110) rfl rfl h7 k) ?_
                obtain ⟨sl, hsl⟩ : ∃ zq, zq = ((1 : Int32) + (((zz - (1 : Int32)) + (2 : Int32)) % (3 : Int32))) := ⟨_, rfl⟩
                show own_Go p e below _ T784 (mkF m 112 #[.val (.ref a1), .val (.ref b), .val (.long now), .second, .val (.int (3 : Int32)), .val (.int c0), .val (.int (2 : Int32)), .val (.int ((1 : Int32) + (((zz - (1 : Int32)) + (2 : Int32)) % (3 : Int32))))] [])
                rw [← hsl]
                have hs3 := own_slot (3 : Int32) zz (2 : Int32) hz (by decide) (by decide)
                rw [← hsl] at hs3
                have hin4 : ¬ sl < 0 ∧ sl < 4 := by rcases hs3 with q | ⟨q, -⟩ | ⟨q, -⟩ <;> rw [q] <;> decide
                refine own_by (fun _ k => XS.aloadN X784.here hx rfl (hb hby d6_112) rfl rfl k) ?_
                refine own_by (fun _ k => XS.iload X784.here hx rfl (hb hby d6_113) rfl k) ?_
                have f786 := (f774.keep Kh (ninS (Ne.symm mb) nin0))
                obtain ⟨cl785, Ar785, cq785, hin785, hat785, set785⟩ := own_arv f786 (j := sl) hin4
                refine own_by (fun _ k => X784.baloadBooleans hx (j := sl) (v := (.int ((own_at u0 u1 u2 u3) sl))) (by rw [e784]; exact Ar785.1) (State.isArrayOf_alike hZ.alike Ar785.2.1) Ar785.2.2 hin785 (by rw [hat785]; exact congrArg some (own_get _ hin4)) (g := (mkF m 115 #[.val (.ref a1), .val (.ref b), .val (.long now), .second, .val (.int (3 : Int32)), .val (.int c0), .val (.int (2 : Int32)), .val (.int sl)] [(.int sl), (.ref b)])) rfl rfl (hb hby d6_115) _ k) ?_
                by_cases hup : ((own_at u0 u1 u2 u3) sl) = (0 : Int32)
                · refine own_by (fun _ k => XS.ifYes X784.here hx rfl (pc0 := 116) (pc' := 161) rfl (hb hby d6_116) rfl ((if0 _ _).trans (teq (hup : ((own_at u0 u1 u2 u3) sl) = (0 : Int32))).1) (by decide) (by decide) k) ?_
                  refine own_by (fun _ k => XS.iinc X784.here hx rfl (hb hby d6_161) rfl (l' := #[.val (.ref a1), .val (.ref b), .val (.long now), .second, .val (.int (3 : Int32)), .val (.int c0), .val (.int ((2 : Int32) + (1 : Int32))), .val (.int sl)]) rfl k) ?_
                  refine own_by (fun _ k => XS.goto X784.here hx rfl (pc0 := 164) (pc' := 75) rfl (hb hby d6_164) (by decide) (by decide) k) ?_
                  exact J75_3 T784 _ h782 X784 e784 N782 Kh xx yy zz _ (One.val rfl) hz (hS.trans ((own_skip (n := (3 : Int32)) (c := (own_count (3 : Int32) u1 u2 u3)) (u := (own_at u0 u1 u2 u3)) (now := now) (t0 := t0) (r := r) (k := 0) (i := (2 : Int32)) (s := (xx, yy, zz)) hxx hcc' (show ((own_at u0 u1 u2 u3) (1 + (zz - 1 + (2 : Int32)) % (3 : Int32)) = 0) by rw [← hsl]; exact hup)).trans (by rw [show (2 : Int32) + 1 = (3 : Int32) from by decide]))) Ej Fj0 Fj1 Fj2 Fj3 Fj4
                · refine own_by (fun _ k => XS.ifNo X784.here hx rfl (hb hby d6_116) rfl ((if0 _ _).trans (feq (hup : ¬ (((own_at u0 u1 u2 u3) sl) = (0 : Int32)))).1) k) ?_
                  refine own_by (fun _ k => XS.lloadN X784.here hx rfl (hb hby d6_119) rfl k) ?_
                  refine own_by (fun _ k => XS.aloadN X784.here hx rfl (hb hby d6_120) rfl rfl k) ?_
                  obtain ⟨T787, X787, e787, st787⟩ := getF X784 hx hZ hown (host := "") (Or.inl (hw _ (List.mem_of_getElem? (i := 33) rfl))) Via.refl e784 Fj4 (g := (mkF m 121 #[.val (.ref a1), .val (.ref b), .val (.long now), .second, .val (.int (3 : Int32)), .val (.int c0), .val (.int (2 : Int32)), .val (.int sl)] [(.ref a1), (.long now)])) rfl rfl (hb hby d6_121)
                  refine own_by st787 ?_
                  refine own_by (fun _ k => XS.iload X787.here hx rfl (hb hby d6_124) rfl k) ?_
                  show own_Go p e below _ T787 (mkF m 126 #[.val (.ref a1), .val (.ref b), .val (.long now), .second, .val (.int (3 : Int32)), .val (.int c0), .val (.int (2 : Int32)), .val (.int sl)] [(.int sl), (.ref ta), (.long now)])
                  have f788 := ((S1.keep Kj (ninS (Ne.symm m1) nin0)).keep Kh (ninS (Ne.symm m1) nin0))
                  have f789 := ((S2.keep Kj (ninS (Ne.symm m2) nin0)).keep Kh (ninS (Ne.symm m2) nin0))
                  have f790 := ((S3.keep Kj (ninS (Ne.symm m3) nin0)).keep Kh (ninS (Ne.symm m3) nin0))
                  obtain ⟨tt, htt, Ftt⟩ : ∃ tt, ([(.ref tl0), (.ref tl1), (.ref tl2), (.ref tl3)] : List Value).getD sl.toNatClampNeg .null = .ref tt ∧ Fld Z h782 tt "com/example/eskew/eskew/server/split/CounterValues$Tally" "since" "J" (.long t0) := by
                    rcases hs3 with q | ⟨q, q'⟩ | ⟨q, q'⟩
                    · rw [q]; exact ⟨tl1, rfl, f788⟩
                    · rw [q]; exact ⟨tl2, rfl, f789⟩
                    · rw [q]; exact ⟨tl3, rfl, f790⟩
                  have f792 := (f772.keep Kh (ninS (Ne.symm mt) nin0))
                  obtain ⟨cl791, Ar791, cq791, hin791, hat791, set791⟩ := own_arv f792 (j := sl) (show ¬ sl < 0 ∧ sl < (4 : Int32) by rcases hs3 with q | ⟨q, q'⟩ | ⟨q, q'⟩ <;> first | (rw [q]; decide) | exact absurd q' (by decide))
                  refine own_by (fun _ k => X787.aaload hx (j := sl) (v := (.ref tt)) (by rw [e787]; exact Ar791.1) (State.isArrayOf_alike hZ.alike Ar791.2.1) rfl Ar791.2.2 hin791 (by rw [hat791]; exact congrArg some htt) (g := (mkF m 126 #[.val (.ref a1), .val (.ref b), .val (.long now), .second, .val (.int (3 : Int32)), .val (.int c0), .val (.int (2 : Int32)), .val (.int sl)] [(.int sl), (.ref ta), (.long now)])) rfl rfl (hb hby d6_126) _ k) ?_
                  obtain ⟨T793, X793, e793, st793⟩ := own_getR X787 hx hZ hown (hw _ (List.mem_of_getElem? (i := 57) rfl)) e787 Ftt (g := (mkF m 127 #[.val (.ref a1), .val (.ref b), .val (.long now), .second, .val (.int (3 : Int32)), .val (.int c0), .val (.int (2 : Int32)), .val (.int sl)] [(.ref tt), (.long now)])) rfl rfl (hb hby d6_127)
                  refine own_by st793 ?_
                  refine own_by (fun _ k => XS.lsub X793.here hx rfl (hb hby d6_130) rfl k) ?_
                  refine own_by (fun _ k => XS.aloadN X793.here hx rfl (hb hby d6_131) rfl rfl k) ?_
                  obtain ⟨T794, X794, e794, st794⟩ := getF X793 hx hZ hown (host := "") (Or.inl (hw _ (List.mem_of_getElem? (i := 29) rfl))) Via.refl e793 Fj3 (g := (mkF m 132 #[.val (.ref a1), .val (.ref b), .val (.long now), .second, .val (.int (3 : Int32)), .val (.int c0), .val (.int (2 : Int32)), .val (.int sl)] [(.ref a1), (.long (now - t0))])) rfl rfl (hb hby d6_132)
                  refine own_by st794 ?_
                  refine own_by (fun _ k => XS.lcmp X794.here hx rfl (hb hby d6_135) rfl k) ?_
                  by_cases hl : now - t0 < r
                  · refine own_by (fun _ k => XS.ifYes X794.here hx rfl (pc0 := 136) (pc' := 161) rfl (hb hby d6_136) rfl ((if0 _ _).trans (tlt ((lw_lt _ _).mpr hl : (lcmpW (now - t0) r) < (0 : Int32))).1) (by decide) (by decide) k) ?_
                    refine own_by (fun _ k => XS.iinc X794.here hx rfl (hb hby d6_161) rfl (l' := #[.val (.ref a1), .val (.ref b), .val (.long now), .second, .val (.int (3 : Int32)), .val (.int c0), .val (.int ((2 : Int32) + (1 : Int32))), .val (.int sl)]) rfl k) ?_
                    refine own_by (fun _ k => XS.goto X794.here hx rfl (pc0 := 164) (pc' := 75) rfl (hb hby d6_164) (by decide) (by decide) k) ?_
                    show own_Go p e below _ T794 (mkF m 75 #[.val (.ref a1), .val (.ref b), .val (.long now), .second, .val (.int (3 : Int32)), .val (.int c0), .val (.int ((2 : Int32) + (1 : Int32))), .val (.int sl)] [])
                    exact J75_3 T794 _ h782 X794 e794 N782 Kh xx yy zz _ (One.val rfl) hz (hS.trans ((own_late (n := (3 : Int32)) (c := (own_count (3 : Int32) u1 u2 u3)) (u := (own_at u0 u1 u2 u3)) (now := now) (t0 := t0) (r := r) (k := 0) (i := (2 : Int32)) (s := (xx, yy, zz)) hxx hcc' (show ¬ ((own_at u0 u1 u2 u3) (1 + (zz - 1 + (2 : Int32)) % (3 : Int32)) = 0) by rw [← hsl]; exact hup) hl).trans (by rw [show (2 : Int32) + 1 = (3 : Int32) from by decide]))) Ej Fj0 Fj1 Fj2 Fj3 Fj4
                  · refine own_by (fun _ k => XS.ifNo X794.here hx rfl (hb hby d6_136) rfl ((if0 _ _).trans (flt (fun q => hl ((lw_lt _ _).mp q) : ¬ ((lcmpW (now - t0) r) < (0 : Int32)))).1) k) ?_
                    refine own_by (fun _ k => XS.aloadN X794.here hx rfl (hb hby d6_139) rfl rfl k) ?_
                    refine own_by (fun _ k => XS.iload X794.here hx rfl (hb hby d6_140) rfl k) ?_
                    show own_Go p e below _ T794 (mkF m 142 #[.val (.ref a1), .val (.ref b), .val (.long now), .second, .val (.int (3 : Int32)), .val (.int c0), .val (.int (2 : Int32)), .val (.int sl)] [(.int sl), (.ref a1)])
                    obtain ⟨T795, h795, X795, e795, W795, st795⟩ := putF X794 hx hZ hown (host := "") (Or.inl (hw _ (List.mem_of_getElem? (i := 25) rfl))) Via.refl e794 Fj0 Ej (Or.inl (hw _ (List.mem_of_getElem? (i := 26) rfl))) (hw _ (List.mem_of_getElem? (i := 6) rfl)) (ty := .int) (by decide) rfl rfl (g := (mkF m 142 #[.val (.ref a1), .val (.ref b), .val (.long now), .second, .val (.int (3 : Int32)), .val (.int c0), .val (.int (2 : Int32)), .val (.int sl)] [(.int sl), (.ref a1)])) rfl rfl (hb hby d6_142)
                    refine own_by st795 ?_
                    have N795 := Fr.snoc X795 N782 g1
                    have fw795 := Fj0.same W795
                    have KB796 := Kh.wr W795 (Or.inl (List.mem_of_getElem? (i := 0) rfl))
                    have K797 := K782c.wr W795 (Or.inl (List.mem_of_getElem? (i := 0) rfl))
                    have Z795 : n0 ≤ h795.size := Nat.le_trans Z782 (Keep.of_wr W795).1
                    refine own_by (fun _ k => XS.aloadN X795.here hx rfl (hb hby d6_145) rfl rfl k) ?_
                    refine own_by (fun _ k => XS.lloadN X795.here hx rfl (hb hby d6_146) rfl k) ?_
                    have f799 := (Fj1.other W795 (Or.inr (slot_ne (Or.inl (hw _ (List.mem_of_getElem? (i := 59) rfl))) (Or.inl (hw _ (List.mem_of_getElem? (i := 26) rfl))) (by decide) (t := .long) (t' := .int) (by decide) (by decide))))
                    have f800 := (Ej.wr W795)
                    obtain ⟨T798, h798, X798, e798, W798, st798⟩ := putF X795 hx hZ hown (host := "") (Or.inl (hw _ (List.mem_of_getElem? (i := 58) rfl))) Via.refl e795 f799 f800 (Or.inl (hw _ (List.mem_of_getElem? (i := 59) rfl))) (hw _ (List.mem_of_getElem? (i := 6) rfl)) (ty := .long) (by decide) rfl rfl (g := (mkF m 147 #[.val (.ref a1), .val (.ref b), .val (.long now), .second, .val (.int (3 : Int32)), .val (.int c0), .val (.int (2 : Int32)), .val (.int sl)] [(.long now), (.ref a1)])) rfl rfl (hb hby d6_147)
                    refine own_by st798 ?_
                    have N798 := Fr.snoc X798 N795 g1
                    have fw798 := f799.same W798
                    have KB801 := KB796.wr W798 (Or.inl (List.mem_of_getElem? (i := 0) rfl))
                    have K802 := K797.wr W798 (Or.inl (List.mem_of_getElem? (i := 0) rfl))
                    have Z798 : n0 ≤ h798.size := Nat.le_trans Z795 (Keep.of_wr W798).1
                    refine own_by (fun _ k => XS.aloadN X798.here hx rfl (hb hby d6_150) rfl rfl k) ?_
                    refine own_by (fun _ k => XS.iconst X798.here hx rfl (hb hby d6_151) k) ?_
                    refine own_by (fun _ k => XS.iload X798.here hx rfl (hb hby d6_152) rfl k) ?_
                    refine own_by (fun _ k => XS.iload X798.here hx rfl (hb hby d6_154) rfl k) ?_
                    refine own_by (fun _ k => iremM X798 hx rfl (hb hby d6_156) rfl (by decide) k) ?_
                    show own_Go p e below _ T798 (mkF m 157 #[.val (.ref a1), .val (.ref b), .val (.long now), .second, .val (.int (3 : Int32)), .val (.int c0), .val (.int (2 : Int32)), .val (.int sl)] [(.int (sl % (3 : Int32))), (.int (1 : Int32)), (.ref a1)])
                    refine own_by (fun _ k => XS.iadd X798.here hx rfl (hb hby d6_157) rfl k) ?_
                    have f804 := ((Fj2.other W795 (Or.inr (slot_ne (Or.inl (hw _ (List.mem_of_getElem? (i := 28) rfl))) (Or.inl (hw _ (List.mem_of_getElem? (i := 26) rfl))) (by decide) (t := .int) (t' := .int) (by decide) (by decide)))).other W798 (Or.inr (slot_ne (Or.inl (hw _ (List.mem_of_getElem? (i := 28) rfl))) (Or.inl (hw _ (List.mem_of_getElem? (i := 59) rfl))) (by decide) (t := .int) (t' := .long) (by decide) (by decide))))
                    have f805 := (f800.wr W798)
                    obtain ⟨T803, h803, X803, e803, W803, st803⟩ := putF X798 hx hZ hown (host := "") (Or.inl (hw _ (List.mem_of_getElem? (i := 27) rfl))) Via.refl e798 f804 f805 (Or.inl (hw _ (List.mem_of_getElem? (i := 28) rfl))) (hw _ (List.mem_of_getElem? (i := 6) rfl)) (ty := .int) (by decide) rfl rfl (g := (mkF m 158 #[.val (.ref a1), .val (.ref b), .val (.long now), .second, .val (.int (3 : Int32)), .val (.int c0), .val (.int (2 : Int32)), .val (.int sl)] [(.int ((1 : Int32) + (sl % (3 : Int32)))), (.ref a1)])) rfl rfl (hb hby d6_158)
                    refine own_by st803 ?_
                    have N803 := Fr.snoc X803 N798 g1
                    have fw803 := f804.same W803
                    have KB806 := KB801.wr W803 (Or.inl (List.mem_of_getElem? (i := 0) rfl))
                    have K807 := K802.wr W803 (Or.inl (List.mem_of_getElem? (i := 0) rfl))
                    have Z803 : n0 ≤ h803.size := Nat.le_trans Z798 (Keep.of_wr W803).1
                    refine own_by (fun _ k => XS.iinc X803.here hx rfl (hb hby d6_161) rfl (l' := #[.val (.ref a1), .val (.ref b), .val (.long now), .second, .val (.int (3 : Int32)), .val (.int c0), .val (.int ((2 : Int32) + (1 : Int32))), .val (.int sl)]) rfl k) ?_
                    refine own_by (fun _ k => XS.goto X803.here hx rfl (pc0 := 164) (pc' := 75) rfl (hb hby d6_164) (by decide) (by decide) k) ?_
                    have f808 := (f805.wr W803)
                    have f809 := ((fw795.other W798 (Or.inr (slot_ne (Or.inl (hw _ (List.mem_of_getElem? (i := 26) rfl))) (Or.inl (hw _ (List.mem_of_getElem? (i := 59) rfl))) (by decide) (t := .int) (t' := .long) (by decide) (by decide)))).other W803 (Or.inr (slot_ne (Or.inl (hw _ (List.mem_of_getElem? (i := 26) rfl))) (Or.inl (hw _ (List.mem_of_getElem? (i := 28) rfl))) (by decide) (t := .int) (t' := .int) (by decide) (by decide))))
                    have f810 := (fw798.other W803 (Or.inr (slot_ne (Or.inl (hw _ (List.mem_of_getElem? (i := 59) rfl))) (Or.inl (hw _ (List.mem_of_getElem? (i := 28) rfl))) (by decide) (t := .long) (t' := .int) (by decide) (by decide))))
                    have f811 := (((Fj3.other W795 (Or.inr (slot_ne (Or.inr (hw _ (List.mem_of_getElem? (i := 30) rfl))) (Or.inl (hw _ (List.mem_of_getElem? (i := 26) rfl))) (by decide) (t := .long) (t' := .int) (by decide) (by decide)))).other W798 (Or.inr (slot_ne (Or.inr (hw _ (List.mem_of_getElem? (i := 30) rfl))) (Or.inl (hw _ (List.mem_of_getElem? (i := 59) rfl))) (by decide) (t := .long) (t' := .long) (by decide) (by decide)))).other W803 (Or.inr (slot_ne (Or.inr (hw _ (List.mem_of_getElem? (i := 30) rfl))) (Or.inl (hw _ (List.mem_of_getElem? (i := 28) rfl))) (by decide) (t := .long) (t' := .int) (by decide) (by decide))))
                    have f812 := (((Fj4.other W795 (Or.inr (slot_ne (Or.inr (hw _ (List.mem_of_getElem? (i := 34) rfl))) (Or.inl (hw _ (List.mem_of_getElem? (i := 26) rfl))) (by decide) (t := (.array (.object "com/example/eskew/eskew/server/split/CounterValues$Tally"))) (t' := .int) (by decide) (by decide)))).other W798 (Or.inr (slot_ne (Or.inr (hw _ (List.mem_of_getElem? (i := 34) rfl))) (Or.inl (hw _ (List.mem_of_getElem? (i := 59) rfl))) (by decide) (t := (.array (.object "com/example/eskew/eskew/server/split/CounterValues$Tally"))) (t' := .long) (by decide) (by decide)))).other W803 (Or.inr (slot_ne (Or.inr (hw _ (List.mem_of_getElem? (i := 34) rfl))) (Or.inl (hw _ (List.mem_of_getElem? (i := 28) rfl))) (by decide) (t := (.array (.object "com/example/eskew/eskew/server/split/CounterValues$Tally"))) (t' := .int) (by decide) (by decide))))
                    exact J75_3 T803 _ h803 X803 e803 N803 KB806 sl now (1 + sl % (3 : Int32)) _ (One.val rfl) (by rcases hs3 with q | ⟨q, q'⟩ | ⟨q, q'⟩ <;> first | (rw [q]; decide) | exact absurd q' (by decide)) (hS.trans ((own_take (n := (3 : Int32)) (c := (own_count (3 : Int32) u1 u2 u3)) (u := (own_at u0 u1 u2 u3)) (now := now) (t0 := t0) (r := r) (k := 0) (i := (2 : Int32)) (s := (xx, yy, zz)) hxx hcc' (show ¬ ((own_at u0 u1 u2 u3) (1 + (zz - 1 + (2 : Int32)) % (3 : Int32)) = 0) by rw [← hsl]; exact hup) hl).trans (by rw [show (2 : Int32) + 1 = (3 : Int32) from by decide]; show own_loop _ _ _ _ _ _ _ _ (1 + (zz - 1 + (2 : Int32)) % (3 : Int32), now, 1 + (1 + (zz - 1 + (2 : Int32)) % (3 : Int32)) % (3 : Int32)) = _; rw [← hsl]))) f808 f809 f810 fw803 f811 f812
              · refine own_by (fun _ k => XS.icmpYes X783.here hx rfl (pc0 := 86) (pc' := 167) rfl (hb hby d6_86) rfl (flt (hcc : ¬ ((1 : Int32) < c0))).2.2.2 (by decide) (by decide) k) ?_
                show own_Go p e below _ T783 (mkF m 167 #[.val (.ref a1), .val (.ref b), .val (.long now), .second, .val (.int (3 : Int32)), .val (.int c0), .val (.int (2 : Int32)), s7] [])
                refine own_by (fun _ k => XS.aloadN X783.here hx rfl (hb hby d6_167) rfl rfl k) ?_
                obtain ⟨T813, X813, e813, st813⟩ := getF X783 hx hZ hown (host := "") (Or.inl (hw _ (List.mem_of_getElem? (i := 25) rfl))) Via.refl e783 Fj0 (g := (mkF m 168 #[.val (.ref a1), .val (.ref b), .val (.long now), .second, .val (.int (3 : Int32)), .val (.int c0), .val (.int (2 : Int32)), s7] [(.ref a1)])) rfl rfl (hb hby d6_168)
                refine own_by st813 ?_
                have hres : (own_rest (3 : Int32) (own_count (3 : Int32) u1 u2 u3) (own_at u0 u1 u2 u3) now t0 r 3 x y z) = (xx, yy, zz) := hS.trans (own_out2 (n := (3 : Int32)) (c := (own_count (3 : Int32) u1 u2 u3)) (u := (own_at u0 u1 u2 u3)) (now := now) (t0 := t0) (r := r) (k := 0) (i := (2 : Int32)) (s := (xx, yy, zz)) hxx (hc0 ▸ hcc))
                exact own_retI X813 hx hlk hret  (hb hby d6_171) (by first | exact ⟨by rw [hres], N782, K782c, Ej, by rw [hres]; exact Fj0, by rw [hres]; exact Fj1, by rw [hres]; exact Fj2, Fj3, Fj4⟩ | (rw [e813]; exact ⟨by rw [hres], N782, K782c, Ej, by rw [hres]; exact Fj0, by rw [hres]; exact Fj1, by rw [hres]; exact Fj2, Fj3, Fj4⟩)) (by decide) (by decide)
            · refine own_by (fun _ k => XS.icmpYes X783.here hx rfl (pc0 := 80) (pc' := 167) rfl (hb hby d6_80) rfl (feq (hxx : ¬ (xx = (-1 : Int32)))).2 (by decide) (by decide) k) ?_
              refine own_by (fun _ k => XS.aloadN X783.here hx rfl (hb hby d6_167) rfl rfl k) ?_
              obtain ⟨T814, X814, e814, st814⟩ := getF X783 hx hZ hown (host := "") (Or.inl (hw _ (List.mem_of_getElem? (i := 25) rfl))) Via.refl e783 Fj0 (g := (mkF m 168 #[.val (.ref a1), .val (.ref b), .val (.long now), .second, .val (.int (3 : Int32)), .val (.int c0), .val (.int (2 : Int32)), s7] [(.ref a1)])) rfl rfl (hb hby d6_168)
              refine own_by st814 ?_
              have hres : (own_rest (3 : Int32) (own_count (3 : Int32) u1 u2 u3) (own_at u0 u1 u2 u3) now t0 r 3 x y z) = (xx, yy, zz) := hS.trans (own_out1 (n := (3 : Int32)) (c := (own_count (3 : Int32) u1 u2 u3)) (u := (own_at u0 u1 u2 u3)) (now := now) (t0 := t0) (r := r) (k := 0) (i := (2 : Int32)) (s := (xx, yy, zz)) hxx)
              exact own_retI X814 hx hlk hret  (hb hby d6_171) (by first | exact ⟨by rw [hres], N782, K782c, Ej, by rw [hres]; exact Fj0, by rw [hres]; exact Fj1, by rw [hres]; exact Fj2, Fj3, Fj4⟩ | (rw [e814]; exact ⟨by rw [hres], N782, K782c, Ej, by rw [hres]; exact Fj0, by rw [hres]; exact Fj1, by rw [hres]; exact Fj2, Fj3, Fj4⟩)) (by decide) (by decide)
          have J75_1 : ∀ (T815 : State) (L815 : List Loc) (h815 : Heap) (X815 : Stand p l e ({ frames := 0, cells := 0, slots := 0, locals := 0 } : Room) s m #[(.ref a1), (.ref b), (.long now)] below meth c T815 L815 0 0) (e815 : T815.heap = h815) (N815 : Fr n0 L815) (Kh : Keep h769 h815 [a1])  (xx : Int32) (yy : Int64) (zz : Int32) (s7 : Slot) (h7 : One s7) (hz : own_in (3 : Int32) zz) (hS : (own_rest (3 : Int32) (own_count (3 : Int32) u1 u2 u3) (own_at u0 u1 u2 u3) now t0 r 3 x y z) = (own_loop (3 : Int32) (own_count (3 : Int32) u1 u2 u3) (own_at u0 u1 u2 u3) now t0 r 2 (1 : Int32) (xx, yy, zz))) (Ej : Exa Z h815 a1 "com/example/eskew/eskew/server/split/CounterValues") (Fj0 : Fld Z h815 a1 "com/example/eskew/eskew/server/split/CounterValues" "resting" "I" (.int xx)) (Fj1 : Fld Z h815 a1 "com/example/eskew/eskew/server/split/CounterValues" "restingSince" "J" (.long yy)) (Fj2 : Fld Z h815 a1 "com/example/eskew/eskew/server/split/CounterValues" "nextToRest" "I" (.int zz)) (Fj3 : Fld Z h815 a1 "com/example/eskew/eskew/server/split/CounterValues" "rereadNanos" "J" (.long r)) (Fj4 : Fld Z h815 a1 "com/example/eskew/eskew/server/split/CounterValues" "tallies" "[Lcom/example/eskew/eskew/server/split/CounterValues$Tally;" (.ref ta)), own_Go p e below (own_End s ({ frames := 0, cells := 0, slots := 0, locals := 0 } : Room).cells ({ frames := 0, cells := 0, slots := 0, locals := 0 } : Room).slots (Q_rm6_3 Z a1 b ta tl0 tl1 tl2 tl3 kb kt u0 u1 u2 u3 x z y now t0 r h0 n0)) T815 (mkF m 75 #[.val (.ref a1), .val (.ref b), .val (.long now), .second, .val (.int (3 : Int32)), .val (.int c0), .val (.int (1 : Int32)), s7] []) := by
            intro T815 L815 h815 X815 e815 N815 Kh xx yy zz s7 h7 hz hS Ej Fj0 Fj1 Fj2 Fj3 Fj4
            have Z815 : n0 ≤ h815.size := Nat.le_trans Z769 Kh.1
            have K815c := K769c.trans Kh (allS (Or.inl (List.mem_of_getElem? (i := 0) rfl)) all0)
            refine own_by (fun _ k => XS.aloadN X815.here hx rfl (hb hby d6_75) rfl rfl k) ?_
            obtain ⟨T816, X816, e816, st816⟩ := getF X815 hx hZ hown (host := "") (Or.inl (hw _ (List.mem_of_getElem? (i := 25) rfl))) Via.refl e815 Fj0 (g := (mkF m 76 #[.val (.ref a1), .val (.ref b), .val (.long now), .second, .val (.int (3 : Int32)), .val (.int c0), .val (.int (1 : Int32)), s7] [(.ref a1)])) rfl rfl (hb hby d6_76)
            refine own_by st816 ?_
            refine own_by (fun _ k => XS.iconst X816.here hx rfl (hb hby d6_79) k) ?_
            by_cases hxx : xx = (-1 : Int32)
            · refine own_by (fun _ k => XS.icmpNo X816.here hx rfl (hb hby d6_80) rfl (teq (hxx : xx = (-1 : Int32))).2 k) ?_
              refine own_by (fun _ k => XS.iload X816.here hx rfl (hb hby d6_83) rfl k) ?_
              refine own_by (fun _ k => XS.iconst X816.here hx rfl (hb hby d6_85) k) ?_
              by_cases hcc : (1 : Int32) < c0
              · refine own_by (fun _ k => XS.icmpNo X816.here hx rfl (hb hby d6_86) rfl (tlt (hcc : (1 : Int32) < c0)).2.2.2 k) ?_
                show own_Go p e below _ T816 (mkF m 89 #[.val (.ref a1), .val (.ref b), .val (.long now), .second, .val (.int (3 : Int32)), .val (.int c0), .val (.int (1 : Int32)), s7] [])
                refine own_by (fun _ k => XS.iload X816.here hx rfl (hb hby d6_89) rfl k) ?_
                refine own_by (fun _ k => XS.iload X816.here hx rfl (hb hby d6_91) rfl k) ?_
                have hcc' : (1 : Int32) < (own_count (3 : Int32) u1 u2 u3) := hc0 ▸ hcc
                refine own_by (fun _ k => XS.icmpNo X816.here hx rfl (hb hby d6_93) rfl (tlt (by decide : (1 : Int32) < (3 : Int32))).2.1 k) ?_
                refine own_by (fun _ k => XS.iconst X816.here hx rfl (hb hby d6_96) k) ?_
                refine own_by (fun _ k => XS.aloadN X816.here hx rfl (hb hby d6_97) rfl rfl k) ?_
                obtain ⟨T817, X817, e817, st817⟩ := getF X816 hx hZ hown (host := "") (Or.inl (hw _ (List.mem_of_getElem? (i := 27) rfl))) Via.refl e816 Fj2 (g := (mkF m 98 #[.val (.ref a1), .val (.ref b), .val (.long now), .second, .val (.int (3 : Int32)), .val (.int c0), .val (.int (1 : Int32)), s7] [(.ref a1), (.int (1 : Int32))])) rfl rfl (hb hby d6_98)
                refine own_by st817 ?_
                refine own_by (fun _ k => XS.iconst X817.here hx rfl (hb hby d6_101) k) ?_
                refine own_by (fun _ k => XS.isub X817.here hx rfl (hb hby d6_102) rfl k) ?_
                refine own_by (fun _ k => XS.iload X817.here hx rfl (hb hby d6_103) rfl k) ?_
                show own_Go p e below _ T817 (mkF m 105 #[.val (.ref a1), .val (.ref b), .val (.long now), .second, .val (.int (3 : Int32)), .val (.int c0), .val (.int (1 : Int32)), s7] [(.int (1 : Int32)), (.int (zz - (1 : Int32))), (.int (1 : Int32))])
                refine own_by (fun _ k => XS.iadd X817.here hx rfl (hb hby d6_105) rfl k) ?_
                refine own_by (fun _ k => XS.iload X817.here hx rfl (hb hby d6_106) rfl k) ?_
                refine own_by (fun _ k => iremM X817 hx rfl (hb hby d6_108) rfl (by decide) k) ?_
                refine own_by (fun _ k => XS.iadd X817.here hx rfl (hb hby d6_109) rfl k) ?_
                refine own_by (fun _ k => XS.istoreS X817.here hx rfl (hb hby d6_110) rfl rfl h7 k) ?_
                obtain ⟨sl, hsl⟩ : ∃ zq, zq = ((1 : Int32) + (((zz - (1 : Int32)) + (1 : Int32)) % (3 : Int32))) := ⟨_, rfl⟩
                show own_Go p e below _ T817 (mkF m 112 #[.val (.ref a1), .val (.ref b), .val (.long now), .second, .val (.int (3 : Int32)), .val (.int c0), .val (.int (1 : Int32)), .val (.int ((1 : Int32) + (((zz - (1 : Int32)) + (1 : Int32)) % (3 : Int32))))] [])
                rw [← hsl]
                have hs3 := own_slot (3 : Int32) zz (1 : Int32) hz (by decide) (by decide)
                rw [← hsl] at hs3
                have hin4 : ¬ sl < 0 ∧ sl < 4 := by rcases hs3 with q | ⟨q, -⟩ | ⟨q, -⟩ <;> rw [q] <;> decide
                refine own_by (fun _ k => XS.aloadN X817.here hx rfl (hb hby d6_112) rfl rfl k) ?_
                refine own_by (fun _ k => XS.iload X817.here hx rfl (hb hby d6_113) rfl k) ?_
                have f819 := (f774.keep Kh (ninS (Ne.symm mb) nin0))
                obtain ⟨cl818, Ar818, cq818, hin818, hat818, set818⟩ := own_arv f819 (j := sl) hin4
                refine own_by (fun _ k => X817.baloadBooleans hx (j := sl) (v := (.int ((own_at u0 u1 u2 u3) sl))) (by rw [e817]; exact Ar818.1) (State.isArrayOf_alike hZ.alike Ar818.2.1) Ar818.2.2 hin818 (by rw [hat818]; exact congrArg some (own_get _ hin4)) (g := (mkF m 115 #[.val (.ref a1), .val (.ref b), .val (.long now), .second, .val (.int (3 : Int32)), .val (.int c0), .val (.int (1 : Int32)), .val (.int sl)] [(.int sl), (.ref b)])) rfl rfl (hb hby d6_115) _ k) ?_
                by_cases hup : ((own_at u0 u1 u2 u3) sl) = (0 : Int32)
                · refine own_by (fun _ k => XS.ifYes X817.here hx rfl (pc0 := 116) (pc' := 161) rfl (hb hby d6_116) rfl ((if0 _ _).trans (teq (hup : ((own_at u0 u1 u2 u3) sl) = (0 : Int32))).1) (by decide) (by decide) k) ?_
                  refine own_by (fun _ k => XS.iinc X817.here hx rfl (hb hby d6_161) rfl (l' := #[.val (.ref a1), .val (.ref b), .val (.long now), .second, .val (.int (3 : Int32)), .val (.int c0), .val (.int ((1 : Int32) + (1 : Int32))), .val (.int sl)]) rfl k) ?_
                  refine own_by (fun _ k => XS.goto X817.here hx rfl (pc0 := 164) (pc' := 75) rfl (hb hby d6_164) (by decide) (by decide) k) ?_
                  exact J75_2 T817 _ h815 X817 e817 N815 Kh xx yy zz _ (One.val rfl) hz (hS.trans ((own_skip (n := (3 : Int32)) (c := (own_count (3 : Int32) u1 u2 u3)) (u := (own_at u0 u1 u2 u3)) (now := now) (t0 := t0) (r := r) (k := 1) (i := (1 : Int32)) (s := (xx, yy, zz)) hxx hcc' (show ((own_at u0 u1 u2 u3) (1 + (zz - 1 + (1 : Int32)) % (3 : Int32)) = 0) by rw [← hsl]; exact hup)).trans (by rw [show (1 : Int32) + 1 = (2 : Int32) from by decide]))) Ej Fj0 Fj1 Fj2 Fj3 Fj4
                · refine own_by (fun _ k => XS.ifNo X817.here hx rfl (hb hby d6_116) rfl ((if0 _ _).trans (feq (hup : ¬ (((own_at u0 u1 u2 u3) sl) = (0 : Int32)))).1) k) ?_
                  refine own_by (fun _ k => XS.lloadN X817.here hx rfl (hb hby d6_119) rfl k) ?_
                  refine own_by (fun _ k => XS.aloadN X817.here hx rfl (hb hby d6_120) rfl rfl k) ?_
                  obtain ⟨T820, X820, e820, st820⟩ := getF X817 hx hZ hown (host := "") (Or.inl (hw _ (List.mem_of_getElem? (i := 33) rfl))) Via.refl e817 Fj4 (g := (mkF m 121 #[.val (.ref a1), .val (.ref b), .val (.long now), .second, .val (.int (3 : Int32)), .val (.int c0), .val (.int (1 : Int32)), .val (.int sl)] [(.ref a1), (.long now)])) rfl rfl (hb hby d6_121)
                  refine own_by st820 ?_
                  refine own_by (fun _ k => XS.iload X820.here hx rfl (hb hby d6_124) rfl k) ?_
                  show own_Go p e below _ T820 (mkF m 126 #[.val (.ref a1), .val (.ref b), .val (.long now), .second, .val (.int (3 : Int32)), .val (.int c0), .val (.int (1 : Int32)), .val (.int sl)] [(.int sl), (.ref ta), (.long now)])
                  have f821 := ((S1.keep Kj (ninS (Ne.symm m1) nin0)).keep Kh (ninS (Ne.symm m1) nin0))
                  have f822 := ((S2.keep Kj (ninS (Ne.symm m2) nin0)).keep Kh (ninS (Ne.symm m2) nin0))
                  have f823 := ((S3.keep Kj (ninS (Ne.symm m3) nin0)).keep Kh (ninS (Ne.symm m3) nin0))
                  obtain ⟨tt, htt, Ftt⟩ : ∃ tt, ([(.ref tl0), (.ref tl1), (.ref tl2), (.ref tl3)] : List Value).getD sl.toNatClampNeg .null = .ref tt ∧ Fld Z h815 tt "com/example/eskew/eskew/server/split/CounterValues$Tally" "since" "J" (.long t0) := by
                    rcases hs3 with q | ⟨q, q'⟩ | ⟨q, q'⟩
                    · rw [q]; exact ⟨tl1, rfl, f821⟩
                    · rw [q]; exact ⟨tl2, rfl, f822⟩
                    · rw [q]; exact ⟨tl3, rfl, f823⟩
                  have f825 := (f772.keep Kh (ninS (Ne.symm mt) nin0))
                  obtain ⟨cl824, Ar824, cq824, hin824, hat824, set824⟩ := own_arv f825 (j := sl) (show ¬ sl < 0 ∧ sl < (4 : Int32) by rcases hs3 with q | ⟨q, q'⟩ | ⟨q, q'⟩ <;> first | (rw [q]; decide) | exact absurd q' (by decide))
                  refine own_by (fun _ k => X820.aaload hx (j := sl) (v := (.ref tt)) (by rw [e820]; exact Ar824.1) (State.isArrayOf_alike hZ.alike Ar824.2.1) rfl Ar824.2.2 hin824 (by rw [hat824]; exact congrArg some htt) (g := (mkF m 126 #[.val (.ref a1), .val (.ref b), .val (.long now), .second, .val (.int (3 : Int32)), .val (.int c0), .val (.int (1 : Int32)), .val (.int sl)] [(.int sl), (.ref ta), (.long now)])) rfl rfl (hb hby d6_126) _ k) ?_
                  obtain ⟨T826, X826, e826, st826⟩ := own_getR X820 hx hZ hown (hw _ (List.mem_of_getElem? (i := 57) rfl)) e820 Ftt (g := (mkF m 127 #[.val (.ref a1), .val (.ref b), .val (.long now), .second, .val (.int (3 : Int32)), .val (.int c0), .val (.int (1 : Int32)), .val (.int sl)] [(.ref tt), (.long now)])) rfl rfl (hb hby d6_127)
                  refine own_by st826 ?_
                  refine own_by (fun _ k => XS.lsub X826.here hx rfl (hb hby d6_130) rfl k) ?_
                  refine own_by (fun _ k => XS.aloadN X826.here hx rfl (hb hby d6_131) rfl rfl k) ?_
                  obtain ⟨T827, X827, e827, st827⟩ := getF X826 hx hZ hown (host := "") (Or.inl (hw _ (List.mem_of_getElem? (i := 29) rfl))) Via.refl e826 Fj3 (g := (mkF m 132 #[.val (.ref a1), .val (.ref b), .val (.long now), .second, .val (.int (3 : Int32)), .val (.int c0), .val (.int (1 : Int32)), .val (.int sl)] [(.ref a1), (.long (now - t0))])) rfl rfl (hb hby d6_132)
                  refine own_by st827 ?_
                  refine own_by (fun _ k => XS.lcmp X827.here hx rfl (hb hby d6_135) rfl k) ?_
                  by_cases hl : now - t0 < r
                  · refine own_by (fun _ k => XS.ifYes X827.here hx rfl (pc0 := 136) (pc' := 161) rfl (hb hby d6_136) rfl ((if0 _ _).trans (tlt ((lw_lt _ _).mpr hl : (lcmpW (now - t0) r) < (0 : Int32))).1) (by decide) (by decide) k) ?_
                    refine own_by (fun _ k => XS.iinc X827.here hx rfl (hb hby d6_161) rfl (l' := #[.val (.ref a1), .val (.ref b), .val (.long now), .second, .val (.int (3 : Int32)), .val (.int c0), .val (.int ((1 : Int32) + (1 : Int32))), .val (.int sl)]) rfl k) ?_
                    refine own_by (fun _ k => XS.goto X827.here hx rfl (pc0 := 164) (pc' := 75) rfl (hb hby d6_164) (by decide) (by decide) k) ?_
                    show own_Go p e below _ T827 (mkF m 75 #[.val (.ref a1), .val (.ref b), .val (.long now), .second, .val (.int (3 : Int32)), .val (.int c0), .val (.int ((1 : Int32) + (1 : Int32))), .val (.int sl)] [])
                    exact J75_2 T827 _ h815 X827 e827 N815 Kh xx yy zz _ (One.val rfl) hz (hS.trans ((own_late (n := (3 : Int32)) (c := (own_count (3 : Int32) u1 u2 u3)) (u := (own_at u0 u1 u2 u3)) (now := now) (t0 := t0) (r := r) (k := 1) (i := (1 : Int32)) (s := (xx, yy, zz)) hxx hcc' (show ¬ ((own_at u0 u1 u2 u3) (1 + (zz - 1 + (1 : Int32)) % (3 : Int32)) = 0) by rw [← hsl]; exact hup) hl).trans (by rw [show (1 : Int32) + 1 = (2 : Int32) from by decide]))) Ej Fj0 Fj1 Fj2 Fj3 Fj4
                  · refine own_by (fun _ k => XS.ifNo X827.here hx rfl (hb hby d6_136) rfl ((if0 _ _).trans (flt (fun q => hl ((lw_lt _ _).mp q) : ¬ ((lcmpW (now - t0) r) < (0 : Int32)))).1) k) ?_
                    refine own_by (fun _ k => XS.aloadN X827.here hx rfl (hb hby d6_139) rfl rfl k) ?_
                    refine own_by (fun _ k => XS.iload X827.here hx rfl (hb hby d6_140) rfl k) ?_
                    show own_Go p e below _ T827 (mkF m 142 #[.val (.ref a1), .val (.ref b), .val (.long now), .second, .val (.int (3 : Int32)), .val (.int c0), .val (.int (1 : Int32)), .val (.int sl)] [(.int sl), (.ref a1)])
                    obtain ⟨T828, h828, X828, e828, W828, st828⟩ := putF X827 hx hZ hown (host := "") (Or.inl (hw _ (List.mem_of_getElem? (i := 25) rfl))) Via.refl e827 Fj0 Ej (Or.inl (hw _ (List.mem_of_getElem? (i := 26) rfl))) (hw _ (List.mem_of_getElem? (i := 6) rfl)) (ty := .int) (by decide) rfl rfl (g := (mkF m 142 #[.val (.ref a1), .val (.ref b), .val (.long now), .second, .val (.int (3 : Int32)), .val (.int c0), .val (.int (1 : Int32)), .val (.int sl)] [(.int sl), (.ref a1)])) rfl rfl (hb hby d6_142)
                    refine own_by st828 ?_
                    have N828 := Fr.snoc X828 N815 g1
                    have fw828 := Fj0.same W828
                    have KB829 := Kh.wr W828 (Or.inl (List.mem_of_getElem? (i := 0) rfl))
                    have K830 := K815c.wr W828 (Or.inl (List.mem_of_getElem? (i := 0) rfl))
                    have Z828 : n0 ≤ h828.size := Nat.le_trans Z815 (Keep.of_wr W828).1
                    refine own_by (fun _ k => XS.aloadN X828.here hx rfl (hb hby d6_145) rfl rfl k) ?_
                    refine own_by (fun _ k => XS.lloadN X828.here hx rfl (hb hby d6_146) rfl k) ?_
                    have f832 := (Fj1.other W828 (Or.inr (slot_ne (Or.inl (hw _ (List.mem_of_getElem? (i := 59) rfl))) (Or.inl (hw _ (List.mem_of_getElem? (i := 26) rfl))) (by decide) (t := .long) (t' := .int) (by decide) (by decide))))
                    have f833 := (Ej.wr W828)
                    obtain ⟨T831, h831, X831, e831, W831, st831⟩ := putF X828 hx hZ hown (host := "") (Or.inl (hw _ (List.mem_of_getElem? (i := 58) rfl))) Via.refl e828 f832 f833 (Or.inl (hw _ (List.mem_of_getElem? (i := 59) rfl))) (hw _ (List.mem_of_getElem? (i := 6) rfl)) (ty := .long) (by decide) rfl rfl (g := (mkF m 147 #[.val (.ref a1), .val (.ref b), .val (.long now), .second, .val (.int (3 : Int32)), .val (.int c0), .val (.int (1 : Int32)), .val (.int sl)] [(.long now), (.ref a1)])) rfl rfl (hb hby d6_147)
                    refine own_by st831 ?_
                    have N831 := Fr.snoc X831 N828 g1
                    have fw831 := f832.same W831
                    have KB834 := KB829.wr W831 (Or.inl (List.mem_of_getElem? (i := 0) rfl))
                    have K835 := K830.wr W831 (Or.inl (List.mem_of_getElem? (i := 0) rfl))
                    have Z831 : n0 ≤ h831.size := Nat.le_trans Z828 (Keep.of_wr W831).1
                    refine own_by (fun _ k => XS.aloadN X831.here hx rfl (hb hby d6_150) rfl rfl k) ?_
                    refine own_by (fun _ k => XS.iconst X831.here hx rfl (hb hby d6_151) k) ?_
                    refine own_by (fun _ k => XS.iload X831.here hx rfl (hb hby d6_152) rfl k) ?_
                    refine own_by (fun _ k => XS.iload X831.here hx rfl (hb hby d6_154) rfl k) ?_
                    refine own_by (fun _ k => iremM X831 hx rfl (hb hby d6_156) rfl (by decide) k) ?_
                    show own_Go p e below _ T831 (mkF m 157 #[.val (.ref a1), .val (.ref b), .val (.long now), .second, .val (.int (3 : Int32)), .val (.int c0), .val (.int (1 : Int32)), .val (.int sl)] [(.int (sl % (3 : Int32))), (.int (1 : Int32)), (.ref a1)])
                    refine own_by (fun _ k => XS.iadd X831.here hx rfl (hb hby d6_157) rfl k) ?_
                    have f837 := ((Fj2.other W828 (Or.inr (slot_ne (Or.inl (hw _ (List.mem_of_getElem? (i := 28) rfl))) (Or.inl (hw _ (List.mem_of_getElem? (i := 26) rfl))) (by decide) (t := .int) (t' := .int) (by decide) (by decide)))).other W831 (Or.inr (slot_ne (Or.inl (hw _ (List.mem_of_getElem? (i := 28) rfl))) (Or.inl (hw _ (List.mem_of_getElem? (i := 59) rfl))) (by decide) (t := .int) (t' := .long) (by decide) (by decide))))
                    have f838 := (f833.wr W831)
                    obtain ⟨T836, h836, X836, e836, W836, st836⟩ := putF X831 hx hZ hown (host := "") (Or.inl (hw _ (List.mem_of_getElem? (i := 27) rfl))) Via.refl e831 f837 f838 (Or.inl (hw _ (List.mem_of_getElem? (i := 28) rfl))) (hw _ (List.mem_of_getElem? (i := 6) rfl)) (ty := .int) (by decide) rfl rfl (g := (mkF m 158 #[.val (.ref a1), .val (.ref b), .val (.long now), .second, .val (.int (3 : Int32)), .val (.int c0), .val (.int (1 : Int32)), .val (.int sl)] [(.int ((1 : Int32) + (sl % (3 : Int32)))), (.ref a1)])) rfl rfl (hb hby d6_158)
                    refine own_by st836 ?_
                    have N836 := Fr.snoc X836 N831 g1
                    have fw836 := f837.same W836
                    have KB839 := KB834.wr W836 (Or.inl (List.mem_of_getElem? (i := 0) rfl))
                    have K840 := K835.wr W836 (Or.inl (List.mem_of_getElem? (i := 0) rfl))
                    have Z836 : n0 ≤ h836.size := Nat.le_trans Z831 (Keep.of_wr W836).1
                    refine own_by (fun _ k => XS.iinc X836.here hx rfl (hb hby d6_161) rfl (l' := #[.val (.ref a1), .val (.ref b), .val (.long now), .second, .val (.int (3 : Int32)), .val (.int c0), .val (.int ((1 : Int32) + (1 : Int32))), .val (.int sl)]) rfl k) ?_
                    refine own_by (fun _ k => XS.goto X836.here hx rfl (pc0 := 164) (pc' := 75) rfl (hb hby d6_164) (by decide) (by decide) k) ?_
                    have f841 := (f838.wr W836)
                    have f842 := ((fw828.other W831 (Or.inr (slot_ne (Or.inl (hw _ (List.mem_of_getElem? (i := 26) rfl))) (Or.inl (hw _ (List.mem_of_getElem? (i := 59) rfl))) (by decide) (t := .int) (t' := .long) (by decide) (by decide)))).other W836 (Or.inr (slot_ne (Or.inl (hw _ (List.mem_of_getElem? (i := 26) rfl))) (Or.inl (hw _ (List.mem_of_getElem? (i := 28) rfl))) (by decide) (t := .int) (t' := .int) (by decide) (by decide))))
                    have f843 := (fw831.other W836 (Or.inr (slot_ne (Or.inl (hw _ (List.mem_of_getElem? (i := 59) rfl))) (Or.inl (hw _ (List.mem_of_getElem? (i := 28) rfl))) (by decide) (t := .long) (t' := .int) (by decide) (by decide))))
                    have f844 := (((Fj3.other W828 (Or.inr (slot_ne (Or.inr (hw _ (List.mem_of_getElem? (i := 30) rfl))) (Or.inl (hw _ (List.mem_of_getElem? (i := 26) rfl))) (by decide) (t := .long) (t' := .int) (by decide) (by decide)))).other W831 (Or.inr (slot_ne (Or.inr (hw _ (List.mem_of_getElem? (i := 30) rfl))) (Or.inl (hw _ (List.mem_of_getElem? (i := 59) rfl))) (by decide) (t := .long) (t' := .long) (by decide) (by decide)))).other W836 (Or.inr (slot_ne (Or.inr (hw _ (List.mem_of_getElem? (i := 30) rfl))) (Or.inl (hw _ (List.mem_of_getElem? (i := 28) rfl))) (by decide) (t := .long) (t' := .int) (by decide) (by decide))))
                    have f845 := (((Fj4.other W828 (Or.inr (slot_ne (Or.inr (hw _ (List.mem_of_getElem? (i := 34) rfl))) (Or.inl (hw _ (List.mem_of_getElem? (i := 26) rfl))) (by decide) (t := (.array (.object "com/example/eskew/eskew/server/split/CounterValues$Tally"))) (t' := .int) (by decide) (by decide)))).other W831 (Or.inr (slot_ne (Or.inr (hw _ (List.mem_of_getElem? (i := 34) rfl))) (Or.inl (hw _ (List.mem_of_getElem? (i := 59) rfl))) (by decide) (t := (.array (.object "com/example/eskew/eskew/server/split/CounterValues$Tally"))) (t' := .long) (by decide) (by decide)))).other W836 (Or.inr (slot_ne (Or.inr (hw _ (List.mem_of_getElem? (i := 34) rfl))) (Or.inl (hw _ (List.mem_of_getElem? (i := 28) rfl))) (by decide) (t := (.array (.object "com/example/eskew/eskew/server/split/CounterValues$Tally"))) (t' := .int) (by decide) (by decide))))
                    exact J75_2 T836 _ h836 X836 e836 N836 KB839 sl now (1 + sl % (3 : Int32)) _ (One.val rfl) (by rcases hs3 with q | ⟨q, q'⟩ | ⟨q, q'⟩ <;> first | (rw [q]; decide) | exact absurd q' (by decide)) (hS.trans ((own_take (n := (3 : Int32)) (c := (own_count (3 : Int32) u1 u2 u3)) (u := (own_at u0 u1 u2 u3)) (now := now) (t0 := t0) (r := r) (k := 1) (i := (1 : Int32)) (s := (xx, yy, zz)) hxx hcc' (show ¬ ((own_at u0 u1 u2 u3) (1 + (zz - 1 + (1 : Int32)) % (3 : Int32)) = 0) by rw [← hsl]; exact hup) hl).trans (by rw [show (1 : Int32) + 1 = (2 : Int32) from by decide]; show own_loop _ _ _ _ _ _ _ _ (1 + (zz - 1 + (1 : Int32)) % (3 : Int32), now, 1 + (1 + (zz - 1 + (1 : Int32)) % (3 : Int32)) % (3 : Int32)) = _; rw [← hsl]))) f841 f842 f843 fw836 f844 f845
              · refine own_by (fun _ k => XS.icmpYes X816.here hx rfl (pc0 := 86) (pc' := 167) rfl (hb hby d6_86) rfl (flt (hcc : ¬ ((1 : Int32) < c0))).2.2.2 (by decide) (by decide) k) ?_
                show own_Go p e below _ T816 (mkF m 167 #[.val (.ref a1), .val (.ref b), .val (.long now), .second, .val (.int (3 : Int32)), .val (.int c0), .val (.int (1 : Int32)), s7] [])
                refine own_by (fun _ k => XS.aloadN X816.here hx rfl (hb hby d6_167) rfl rfl k) ?_
                obtain ⟨T846, X846, e846, st846⟩ := getF X816 hx hZ hown (host := "") (Or.inl (hw _ (List.mem_of_getElem? (i := 25) rfl))) Via.refl e816 Fj0 (g := (mkF m 168 #[.val (.ref a1), .val (.ref b), .val (.long now), .second, .val (.int (3 : Int32)), .val (.int c0), .val (.int (1 : Int32)), s7] [(.ref a1)])) rfl rfl (hb hby d6_168)
                refine own_by st846 ?_
                have hres : (own_rest (3 : Int32) (own_count (3 : Int32) u1 u2 u3) (own_at u0 u1 u2 u3) now t0 r 3 x y z) = (xx, yy, zz) := hS.trans (own_out2 (n := (3 : Int32)) (c := (own_count (3 : Int32) u1 u2 u3)) (u := (own_at u0 u1 u2 u3)) (now := now) (t0 := t0) (r := r) (k := 1) (i := (1 : Int32)) (s := (xx, yy, zz)) hxx (hc0 ▸ hcc))
                exact own_retI X846 hx hlk hret  (hb hby d6_171) (by first | exact ⟨by rw [hres], N815, K815c, Ej, by rw [hres]; exact Fj0, by rw [hres]; exact Fj1, by rw [hres]; exact Fj2, Fj3, Fj4⟩ | (rw [e846]; exact ⟨by rw [hres], N815, K815c, Ej, by rw [hres]; exact Fj0, by rw [hres]; exact Fj1, by rw [hres]; exact Fj2, Fj3, Fj4⟩)) (by decide) (by decide)
            · refine own_by (fun _ k => XS.icmpYes X816.here hx rfl (pc0 := 80) (pc' := 167) rfl (hb hby d6_80) rfl (feq (hxx : ¬ (xx = (-1 : Int32)))).2 (by decide) (by decide) k) ?_
              refine own_by (fun _ k => XS.aloadN X816.here hx rfl (hb hby d6_167) rfl rfl k) ?_
              obtain ⟨T847, X847, e847, st847⟩ := getF X816 hx hZ hown (host := "") (Or.inl (hw _ (List.mem_of_getElem? (i := 25) rfl))) Via.refl e816 Fj0 (g := (mkF m 168 #[.val (.ref a1), .val (.ref b), .val (.long now), .second, .val (.int (3 : Int32)), .val (.int c0), .val (.int (1 : Int32)), s7] [(.ref a1)])) rfl rfl (hb hby d6_168)
              refine own_by st847 ?_
              have hres : (own_rest (3 : Int32) (own_count (3 : Int32) u1 u2 u3) (own_at u0 u1 u2 u3) now t0 r 3 x y z) = (xx, yy, zz) := hS.trans (own_out1 (n := (3 : Int32)) (c := (own_count (3 : Int32) u1 u2 u3)) (u := (own_at u0 u1 u2 u3)) (now := now) (t0 := t0) (r := r) (k := 1) (i := (1 : Int32)) (s := (xx, yy, zz)) hxx)
              exact own_retI X847 hx hlk hret  (hb hby d6_171) (by first | exact ⟨by rw [hres], N815, K815c, Ej, by rw [hres]; exact Fj0, by rw [hres]; exact Fj1, by rw [hres]; exact Fj2, Fj3, Fj4⟩ | (rw [e847]; exact ⟨by rw [hres], N815, K815c, Ej, by rw [hres]; exact Fj0, by rw [hres]; exact Fj1, by rw [hres]; exact Fj2, Fj3, Fj4⟩)) (by decide) (by decide)
          have J75_0 : ∀ (T848 : State) (L848 : List Loc) (h848 : Heap) (X848 : Stand p l e ({ frames := 0, cells := 0, slots := 0, locals := 0 } : Room) s m #[(.ref a1), (.ref b), (.long now)] below meth c T848 L848 0 0) (e848 : T848.heap = h848) (N848 : Fr n0 L848) (Kh : Keep h769 h848 [a1])  (xx : Int32) (yy : Int64) (zz : Int32) (s7 : Slot) (h7 : One s7) (hz : own_in (3 : Int32) zz) (hS : (own_rest (3 : Int32) (own_count (3 : Int32) u1 u2 u3) (own_at u0 u1 u2 u3) now t0 r 3 x y z) = (own_loop (3 : Int32) (own_count (3 : Int32) u1 u2 u3) (own_at u0 u1 u2 u3) now t0 r 3 (0 : Int32) (xx, yy, zz))) (Ej : Exa Z h848 a1 "com/example/eskew/eskew/server/split/CounterValues") (Fj0 : Fld Z h848 a1 "com/example/eskew/eskew/server/split/CounterValues" "resting" "I" (.int xx)) (Fj1 : Fld Z h848 a1 "com/example/eskew/eskew/server/split/CounterValues" "restingSince" "J" (.long yy)) (Fj2 : Fld Z h848 a1 "com/example/eskew/eskew/server/split/CounterValues" "nextToRest" "I" (.int zz)) (Fj3 : Fld Z h848 a1 "com/example/eskew/eskew/server/split/CounterValues" "rereadNanos" "J" (.long r)) (Fj4 : Fld Z h848 a1 "com/example/eskew/eskew/server/split/CounterValues" "tallies" "[Lcom/example/eskew/eskew/server/split/CounterValues$Tally;" (.ref ta)), own_Go p e below (own_End s ({ frames := 0, cells := 0, slots := 0, locals := 0 } : Room).cells ({ frames := 0, cells := 0, slots := 0, locals := 0 } : Room).slots (Q_rm6_3 Z a1 b ta tl0 tl1 tl2 tl3 kb kt u0 u1 u2 u3 x z y now t0 r h0 n0)) T848 (mkF m 75 #[.val (.ref a1), .val (.ref b), .val (.long now), .second, .val (.int (3 : Int32)), .val (.int c0), .val (.int (0 : Int32)), s7] []) := by
            intro T848 L848 h848 X848 e848 N848 Kh xx yy zz s7 h7 hz hS Ej Fj0 Fj1 Fj2 Fj3 Fj4
            have Z848 : n0 ≤ h848.size := Nat.le_trans Z769 Kh.1
            have K848c := K769c.trans Kh (allS (Or.inl (List.mem_of_getElem? (i := 0) rfl)) all0)
            refine own_by (fun _ k => XS.aloadN X848.here hx rfl (hb hby d6_75) rfl rfl k) ?_
            obtain ⟨T849, X849, e849, st849⟩ := getF X848 hx hZ hown (host := "") (Or.inl (hw _ (List.mem_of_getElem? (i := 25) rfl))) Via.refl e848 Fj0 (g := (mkF m 76 #[.val (.ref a1), .val (.ref b), .val (.long now), .second, .val (.int (3 : Int32)), .val (.int c0), .val (.int (0 : Int32)), s7] [(.ref a1)])) rfl rfl (hb hby d6_76)
            refine own_by st849 ?_
            refine own_by (fun _ k => XS.iconst X849.here hx rfl (hb hby d6_79) k) ?_
            by_cases hxx : xx = (-1 : Int32)
            · refine own_by (fun _ k => XS.icmpNo X849.here hx rfl (hb hby d6_80) rfl (teq (hxx : xx = (-1 : Int32))).2 k) ?_
              refine own_by (fun _ k => XS.iload X849.here hx rfl (hb hby d6_83) rfl k) ?_
              refine own_by (fun _ k => XS.iconst X849.here hx rfl (hb hby d6_85) k) ?_
              by_cases hcc : (1 : Int32) < c0
              · refine own_by (fun _ k => XS.icmpNo X849.here hx rfl (hb hby d6_86) rfl (tlt (hcc : (1 : Int32) < c0)).2.2.2 k) ?_
                show own_Go p e below _ T849 (mkF m 89 #[.val (.ref a1), .val (.ref b), .val (.long now), .second, .val (.int (3 : Int32)), .val (.int c0), .val (.int (0 : Int32)), s7] [])
                refine own_by (fun _ k => XS.iload X849.here hx rfl (hb hby d6_89) rfl k) ?_
                refine own_by (fun _ k => XS.iload X849.here hx rfl (hb hby d6_91) rfl k) ?_
                have hcc' : (1 : Int32) < (own_count (3 : Int32) u1 u2 u3) := hc0 ▸ hcc
                refine own_by (fun _ k => XS.icmpNo X849.here hx rfl (hb hby d6_93) rfl (tlt (by decide : (0 : Int32) < (3 : Int32))).2.1 k) ?_
                refine own_by (fun _ k => XS.iconst X849.here hx rfl (hb hby d6_96) k) ?_
                refine own_by (fun _ k => XS.aloadN X849.here hx rfl (hb hby d6_97) rfl rfl k) ?_
                obtain ⟨T850, X850, e850, st850⟩ := getF X849 hx hZ hown (host := "") (Or.inl (hw _ (List.mem_of_getElem? (i := 27) rfl))) Via.refl e849 Fj2 (g := (mkF m 98 #[.val (.ref a1), .val (.ref b), .val (.long now), .second, .val (.int (3 : Int32)), .val (.int c0), .val (.int (0 : Int32)), s7] [(.ref a1), (.int (1 : Int32))])) rfl rfl (hb hby d6_98)
                refine own_by st850 ?_
                refine own_by (fun _ k => XS.iconst X850.here hx rfl (hb hby d6_101) k) ?_
                refine own_by (fun _ k => XS.isub X850.here hx rfl (hb hby d6_102) rfl k) ?_
                refine own_by (fun _ k => XS.iload X850.here hx rfl (hb hby d6_103) rfl k) ?_
                show own_Go p e below _ T850 (mkF m 105 #[.val (.ref a1), .val (.ref b), .val (.long now), .second, .val (.int (3 : Int32)), .val (.int c0), .val (.int (0 : Int32)), s7] [(.int (0 : Int32)), (.int (zz - (1 : Int32))), (.int (1 : Int32))])
                refine own_by (fun _ k => XS.iadd X850.here hx rfl (hb hby d6_105) rfl k) ?_
                refine own_by (fun _ k => XS.iload X850.here hx rfl (hb hby d6_106) rfl k) ?_
                refine own_by (fun _ k => iremM X850 hx rfl (hb hby d6_108) rfl (by decide) k) ?_
                refine own_by (fun _ k => XS.iadd X850.here hx rfl (hb hby d6_109) rfl k) ?_
                refine own_by (fun _ k => XS.istoreS X850.here hx rfl (hb hby d6_110) rfl rfl h7 k) ?_
                obtain ⟨sl, hsl⟩ : ∃ zq, zq = ((1 : Int32) + (((zz - (1 : Int32)) + (0 : Int32)) % (3 : Int32))) := ⟨_, rfl⟩
                show own_Go p e below _ T850 (mkF m 112 #[.val (.ref a1), .val (.ref b), .val (.long now), .second, .val (.int (3 : Int32)), .val (.int c0), .val (.int (0 : Int32)), .val (.int ((1 : Int32) + (((zz - (1 : Int32)) + (0 : Int32)) % (3 : Int32))))] [])
                rw [← hsl]
                have hs3 := own_slot (3 : Int32) zz (0 : Int32) hz (by decide) (by decide)
                rw [← hsl] at hs3
                have hin4 : ¬ sl < 0 ∧ sl < 4 := by rcases hs3 with q | ⟨q, -⟩ | ⟨q, -⟩ <;> rw [q] <;> decide
                refine own_by (fun _ k => XS.aloadN X850.here hx rfl (hb hby d6_112) rfl rfl k) ?_
                refine own_by (fun _ k => XS.iload X850.here hx rfl (hb hby d6_113) rfl k) ?_
                have f852 := (f774.keep Kh (ninS (Ne.symm mb) nin0))
                obtain ⟨cl851, Ar851, cq851, hin851, hat851, set851⟩ := own_arv f852 (j := sl) hin4
                refine own_by (fun _ k => X850.baloadBooleans hx (j := sl) (v := (.int ((own_at u0 u1 u2 u3) sl))) (by rw [e850]; exact Ar851.1) (State.isArrayOf_alike hZ.alike Ar851.2.1) Ar851.2.2 hin851 (by rw [hat851]; exact congrArg some (own_get _ hin4)) (g := (mkF m 115 #[.val (.ref a1), .val (.ref b), .val (.long now), .second, .val (.int (3 : Int32)), .val (.int c0), .val (.int (0 : Int32)), .val (.int sl)] [(.int sl), (.ref b)])) rfl rfl (hb hby d6_115) _ k) ?_
                by_cases hup : ((own_at u0 u1 u2 u3) sl) = (0 : Int32)
                · refine own_by (fun _ k => XS.ifYes X850.here hx rfl (pc0 := 116) (pc' := 161) rfl (hb hby d6_116) rfl ((if0 _ _).trans (teq (hup : ((own_at u0 u1 u2 u3) sl) = (0 : Int32))).1) (by decide) (by decide) k) ?_
                  refine own_by (fun _ k => XS.iinc X850.here hx rfl (hb hby d6_161) rfl (l' := #[.val (.ref a1), .val (.ref b), .val (.long now), .second, .val (.int (3 : Int32)), .val (.int c0), .val (.int ((0 : Int32) + (1 : Int32))), .val (.int sl)]) rfl k) ?_
                  refine own_by (fun _ k => XS.goto X850.here hx rfl (pc0 := 164) (pc' := 75) rfl (hb hby d6_164) (by decide) (by decide) k) ?_
                  exact J75_1 T850 _ h848 X850 e850 N848 Kh xx yy zz _ (One.val rfl) hz (hS.trans ((own_skip (n := (3 : Int32)) (c := (own_count (3 : Int32) u1 u2 u3)) (u := (own_at u0 u1 u2 u3)) (now := now) (t0 := t0) (r := r) (k := 2) (i := (0 : Int32)) (s := (xx, yy, zz)) hxx hcc' (show ((own_at u0 u1 u2 u3) (1 + (zz - 1 + (0 : Int32)) % (3 : Int32)) = 0) by rw [← hsl]; exact hup)).trans (by rw [show (0 : Int32) + 1 = (1 : Int32) from by decide]))) Ej Fj0 Fj1 Fj2 Fj3 Fj4
                · refine own_by (fun _ k => XS.ifNo X850.here hx rfl (hb hby d6_116) rfl ((if0 _ _).trans (feq (hup : ¬ (((own_at u0 u1 u2 u3) sl) = (0 : Int32)))).1) k) ?_
                  refine own_by (fun _ k => XS.lloadN X850.here hx rfl (hb hby d6_119) rfl k) ?_
                  refine own_by (fun _ k => XS.aloadN X850.here hx rfl (hb hby d6_120) rfl rfl k) ?_
                  obtain ⟨T853, X853, e853, st853⟩ := getF X850 hx hZ hown (host := "") (Or.inl (hw _ (List.mem_of_getElem? (i := 33) rfl))) Via.refl e850 Fj4 (g := (mkF m 121 #[.val (.ref a1), .val (.ref b), .val (.long now), .second, .val (.int (3 : Int32)), .val (.int c0), .val (.int (0 : Int32)), .val (.int sl)] [(.ref a1), (.long now)])) rfl rfl (hb hby d6_121)
                  refine own_by st853 ?_
                  refine own_by (fun _ k => XS.iload X853.here hx rfl (hb hby d6_124) rfl k) ?_
                  show own_Go p e below _ T853 (mkF m 126 #[.val (.ref a1), .val (.ref b), .val (.long now), .second, .val (.int (3 : Int32)), .val (.int c0), .val (.int (0 : Int32)), .val (.int sl)] [(.int sl), (.ref ta), (.long now)])
                  have f854 := ((S1.keep Kj (ninS (Ne.symm m1) nin0)).keep Kh (ninS (Ne.symm m1) nin0))
                  have f855 := ((S2.keep Kj (ninS (Ne.symm m2) nin0)).keep Kh (ninS (Ne.symm m2) nin0))
                  have f856 := ((S3.keep Kj (ninS (Ne.symm m3) nin0)).keep Kh (ninS (Ne.symm m3) nin0))
                  obtain ⟨tt, htt, Ftt⟩ : ∃ tt, ([(.ref tl0), (.ref tl1), (.ref tl2), (.ref tl3)] : List Value).getD sl.toNatClampNeg .null = .ref tt ∧ Fld Z h848 tt "com/example/eskew/eskew/server/split/CounterValues$Tally" "since" "J" (.long t0) := by
                    rcases hs3 with q | ⟨q, q'⟩ | ⟨q, q'⟩
                    · rw [q]; exact ⟨tl1, rfl, f854⟩
                    · rw [q]; exact ⟨tl2, rfl, f855⟩
                    · rw [q]; exact ⟨tl3, rfl, f856⟩
                  have f858 := (f772.keep Kh (ninS (Ne.symm mt) nin0))
                  obtain ⟨cl857, Ar857, cq857, hin857, hat857, set857⟩ := own_arv f858 (j := sl) (show ¬ sl < 0 ∧ sl < (4 : Int32) by rcases hs3 with q | ⟨q, q'⟩ | ⟨q, q'⟩ <;> first | (rw [q]; decide) | exact absurd q' (by decide))
                  refine own_by (fun _ k => X853.aaload hx (j := sl) (v := (.ref tt)) (by rw [e853]; exact Ar857.1) (State.isArrayOf_alike hZ.alike Ar857.2.1) rfl Ar857.2.2 hin857 (by rw [hat857]; exact congrArg some htt) (g := (mkF m 126 #[.val (.ref a1), .val (.ref b), .val (.long now), .second, .val (.int (3 : Int32)), .val (.int c0), .val (.int (0 : Int32)), .val (.int sl)] [(.int sl), (.ref ta), (.long now)])) rfl rfl (hb hby d6_126) _ k) ?_
                  obtain ⟨T859, X859, e859, st859⟩ := own_getR X853 hx hZ hown (hw _ (List.mem_of_getElem? (i := 57) rfl)) e853 Ftt (g := (mkF m 127 #[.val (.ref a1), .val (.ref b), .val (.long now), .second, .val (.int (3 : Int32)), .val (.int c0), .val (.int (0 : Int32)), .val (.int sl)] [(.ref tt), (.long now)])) rfl rfl (hb hby d6_127)
                  refine own_by st859 ?_
                  refine own_by (fun _ k => XS.lsub X859.here hx rfl (hb hby d6_130) rfl k) ?_
                  refine own_by (fun _ k => XS.aloadN X859.here hx rfl (hb hby d6_131) rfl rfl k) ?_
                  obtain ⟨T860, X860, e860, st860⟩ := getF X859 hx hZ hown (host := "") (Or.inl (hw _ (List.mem_of_getElem? (i := 29) rfl))) Via.refl e859 Fj3 (g := (mkF m 132 #[.val (.ref a1), .val (.ref b), .val (.long now), .second, .val (.int (3 : Int32)), .val (.int c0), .val (.int (0 : Int32)), .val (.int sl)] [(.ref a1), (.long (now - t0))])) rfl rfl (hb hby d6_132)
                  refine own_by st860 ?_
                  refine own_by (fun _ k => XS.lcmp X860.here hx rfl (hb hby d6_135) rfl k) ?_
                  by_cases hl : now - t0 < r
                  · refine own_by (fun _ k => XS.ifYes X860.here hx rfl (pc0 := 136) (pc' := 161) rfl (hb hby d6_136) rfl ((if0 _ _).trans (tlt ((lw_lt _ _).mpr hl : (lcmpW (now - t0) r) < (0 : Int32))).1) (by decide) (by decide) k) ?_
                    refine own_by (fun _ k => XS.iinc X860.here hx rfl (hb hby d6_161) rfl (l' := #[.val (.ref a1), .val (.ref b), .val (.long now), .second, .val (.int (3 : Int32)), .val (.int c0), .val (.int ((0 : Int32) + (1 : Int32))), .val (.int sl)]) rfl k) ?_
                    refine own_by (fun _ k => XS.goto X860.here hx rfl (pc0 := 164) (pc' := 75) rfl (hb hby d6_164) (by decide) (by decide) k) ?_
                    show own_Go p e below _ T860 (mkF m 75 #[.val (.ref a1), .val (.ref b), .val (.long now), .second, .val (.int (3 : Int32)), .val (.int c0), .val (.int ((0 : Int32) + (1 : Int32))), .val (.int sl)] [])
                    exact J75_1 T860 _ h848 X860 e860 N848 Kh xx yy zz _ (One.val rfl) hz (hS.trans ((own_late (n := (3 : Int32)) (c := (own_count (3 : Int32) u1 u2 u3)) (u := (own_at u0 u1 u2 u3)) (now := now) (t0 := t0) (r := r) (k := 2) (i := (0 : Int32)) (s := (xx, yy, zz)) hxx hcc' (show ¬ ((own_at u0 u1 u2 u3) (1 + (zz - 1 + (0 : Int32)) % (3 : Int32)) = 0) by rw [← hsl]; exact hup) hl).trans (by rw [show (0 : Int32) + 1 = (1 : Int32) from by decide]))) Ej Fj0 Fj1 Fj2 Fj3 Fj4
                  · refine own_by (fun _ k => XS.ifNo X860.here hx rfl (hb hby d6_136) rfl ((if0 _ _).trans (flt (fun q => hl ((lw_lt _ _).mp q) : ¬ ((lcmpW (now - t0) r) < (0 : Int32)))).1) k) ?_
                    refine own_by (fun _ k => XS.aloadN X860.here hx rfl (hb hby d6_139) rfl rfl k) ?_
                    refine own_by (fun _ k => XS.iload X860.here hx rfl (hb hby d6_140) rfl k) ?_
                    show own_Go p e below _ T860 (mkF m 142 #[.val (.ref a1), .val (.ref b), .val (.long now), .second, .val (.int (3 : Int32)), .val (.int c0), .val (.int (0 : Int32)), .val (.int sl)] [(.int sl), (.ref a1)])
                    obtain ⟨T861, h861, X861, e861, W861, st861⟩ := putF X860 hx hZ hown (host := "") (Or.inl (hw _ (List.mem_of_getElem? (i := 25) rfl))) Via.refl e860 Fj0 Ej (Or.inl (hw _ (List.mem_of_getElem? (i := 26) rfl))) (hw _ (List.mem_of_getElem? (i := 6) rfl)) (ty := .int) (by decide) rfl rfl (g := (mkF m 142 #[.val (.ref a1), .val (.ref b), .val (.long now), .second, .val (.int (3 : Int32)), .val (.int c0), .val (.int (0 : Int32)), .val (.int sl)] [(.int sl), (.ref a1)])) rfl rfl (hb hby d6_142)
                    refine own_by st861 ?_
                    have N861 := Fr.snoc X861 N848 g1
                    have fw861 := Fj0.same W861
                    have KB862 := Kh.wr W861 (Or.inl (List.mem_of_getElem? (i := 0) rfl))
                    have K863 := K848c.wr W861 (Or.inl (List.mem_of_getElem? (i := 0) rfl))
                    have Z861 : n0 ≤ h861.size := Nat.le_trans Z848 (Keep.of_wr W861).1
                    refine own_by (fun _ k => XS.aloadN X861.here hx rfl (hb hby d6_145) rfl rfl k) ?_
                    refine own_by (fun _ k => XS.lloadN X861.here hx rfl (hb hby d6_146) rfl k) ?_
                    have f865 := (Fj1.other W861 (Or.inr (slot_ne (Or.inl (hw _ (List.mem_of_getElem? (i := 59) rfl))) (Or.inl (hw _ (List.mem_of_getElem? (i := 26) rfl))) (by decide) (t := .long) (t' := .int) (by decide) (by decide))))
                    have f866 := (Ej.wr W861)
                    obtain ⟨T864, h864, X864, e864, W864, st864⟩ := putF X861 hx hZ hown (host := "") (Or.inl (hw _ (List.mem_of_getElem? (i := 58) rfl))) Via.refl e861 f865 f866 (Or.inl (hw _ (List.mem_of_getElem? (i := 59) rfl))) (hw _ (List.mem_of_getElem? (i := 6) rfl)) (ty := .long) (by decide) rfl rfl (g := (mkF m 147 #[.val (.ref a1), .val (.ref b), .val (.long now), .second, .val (.int (3 : Int32)), .val (.int c0), .val (.int (0 : Int32)), .val (.int sl)] [(.long now), (.ref a1)])) rfl rfl (hb hby d6_147)
                    refine own_by st864 ?_
                    have N864 := Fr.snoc X864 N861 g1
                    have fw864 := f865.same W864
                    have KB867 := KB862.wr W864 (Or.inl (List.mem_of_getElem? (i := 0) rfl))
                    have K868 := K863.wr W864 (Or.inl (List.mem_of_getElem? (i := 0) rfl))
                    have Z864 : n0 ≤ h864.size := Nat.le_trans Z861 (Keep.of_wr W864).1
                    refine own_by (fun _ k => XS.aloadN X864.here hx rfl (hb hby d6_150) rfl rfl k) ?_
                    refine own_by (fun _ k => XS.iconst X864.here hx rfl (hb hby d6_151) k) ?_
                    refine own_by (fun _ k => XS.iload X864.here hx rfl (hb hby d6_152) rfl k) ?_
                    refine own_by (fun _ k => XS.iload X864.here hx rfl (hb hby d6_154) rfl k) ?_
                    refine own_by (fun _ k => iremM X864 hx rfl (hb hby d6_156) rfl (by decide) k) ?_
                    show own_Go p e below _ T864 (mkF m 157 #[.val (.ref a1), .val (.ref b), .val (.long now), .second, .val (.int (3 : Int32)), .val (.int c0), .val (.int (0 : Int32)), .val (.int sl)] [(.int (sl % (3 : Int32))), (.int (1 : Int32)), (.ref a1)])
                    refine own_by (fun _ k => XS.iadd X864.here hx rfl (hb hby d6_157) rfl k) ?_
                    have f870 := ((Fj2.other W861 (Or.inr (slot_ne (Or.inl (hw _ (List.mem_of_getElem? (i := 28) rfl))) (Or.inl (hw _ (List.mem_of_getElem? (i := 26) rfl))) (by decide) (t := .int) (t' := .int) (by decide) (by decide)))).other W864 (Or.inr (slot_ne (Or.inl (hw _ (List.mem_of_getElem? (i := 28) rfl))) (Or.inl (hw _ (List.mem_of_getElem? (i := 59) rfl))) (by decide) (t := .int) (t' := .long) (by decide) (by decide))))
                    have f871 := (f866.wr W864)
                    obtain ⟨T869, h869, X869, e869, W869, st869⟩ := putF X864 hx hZ hown (host := "") (Or.inl (hw _ (List.mem_of_getElem? (i := 27) rfl))) Via.refl e864 f870 f871 (Or.inl (hw _ (List.mem_of_getElem? (i := 28) rfl))) (hw _ (List.mem_of_getElem? (i := 6) rfl)) (ty := .int) (by decide) rfl rfl (g := (mkF m 158 #[.val (.ref a1), .val (.ref b), .val (.long now), .second, .val (.int (3 : Int32)), .val (.int c0), .val (.int (0 : Int32)), .val (.int sl)] [(.int ((1 : Int32) + (sl % (3 : Int32)))), (.ref a1)])) rfl rfl (hb hby d6_158)
                    refine own_by st869 ?_
                    have N869 := Fr.snoc X869 N864 g1
                    have fw869 := f870.same W869
                    have KB872 := KB867.wr W869 (Or.inl (List.mem_of_getElem? (i := 0) rfl))
                    have K873 := K868.wr W869 (Or.inl (List.mem_of_getElem? (i := 0) rfl))
                    have Z869 : n0 ≤ h869.size := Nat.le_trans Z864 (Keep.of_wr W869).1
                    refine own_by (fun _ k => XS.iinc X869.here hx rfl (hb hby d6_161) rfl (l' := #[.val (.ref a1), .val (.ref b), .val (.long now), .second, .val (.int (3 : Int32)), .val (.int c0), .val (.int ((0 : Int32) + (1 : Int32))), .val (.int sl)]) rfl k) ?_
                    refine own_by (fun _ k => XS.goto X869.here hx rfl (pc0 := 164) (pc' := 75) rfl (hb hby d6_164) (by decide) (by decide) k) ?_
                    have f874 := (f871.wr W869)
                    have f875 := ((fw861.other W864 (Or.inr (slot_ne (Or.inl (hw _ (List.mem_of_getElem? (i := 26) rfl))) (Or.inl (hw _ (List.mem_of_getElem? (i := 59) rfl))) (by decide) (t := .int) (t' := .long) (by decide) (by decide)))).other W869 (Or.inr (slot_ne (Or.inl (hw _ (List.mem_of_getElem? (i := 26) rfl))) (Or.inl (hw _ (List.mem_of_getElem? (i := 28) rfl))) (by decide) (t := .int) (t' := .int) (by decide) (by decide))))
                    have f876 := (fw864.other W869 (Or.inr (slot_ne (Or.inl (hw _ (List.mem_of_getElem? (i := 59) rfl))) (Or.inl (hw _ (List.mem_of_getElem? (i := 28) rfl))) (by decide) (t := .long) (t' := .int) (by decide) (by decide))))
                    have f877 := (((Fj3.other W861 (Or.inr (slot_ne (Or.inr (hw _ (List.mem_of_getElem? (i := 30) rfl))) (Or.inl (hw _ (List.mem_of_getElem? (i := 26) rfl))) (by decide) (t := .long) (t' := .int) (by decide) (by decide)))).other W864 (Or.inr (slot_ne (Or.inr (hw _ (List.mem_of_getElem? (i := 30) rfl))) (Or.inl (hw _ (List.mem_of_getElem? (i := 59) rfl))) (by decide) (t := .long) (t' := .long) (by decide) (by decide)))).other W869 (Or.inr (slot_ne (Or.inr (hw _ (List.mem_of_getElem? (i := 30) rfl))) (Or.inl (hw _ (List.mem_of_getElem? (i := 28) rfl))) (by decide) (t := .long) (t' := .int) (by decide) (by decide))))
                    have f878 := (((Fj4.other W861 (Or.inr (slot_ne (Or.inr (hw _ (List.mem_of_getElem? (i := 34) rfl))) (Or.inl (hw _ (List.mem_of_getElem? (i := 26) rfl))) (by decide) (t := (.array (.object "com/example/eskew/eskew/server/split/CounterValues$Tally"))) (t' := .int) (by decide) (by decide)))).other W864 (Or.inr (slot_ne (Or.inr (hw _ (List.mem_of_getElem? (i := 34) rfl))) (Or.inl (hw _ (List.mem_of_getElem? (i := 59) rfl))) (by decide) (t := (.array (.object "com/example/eskew/eskew/server/split/CounterValues$Tally"))) (t' := .long) (by decide) (by decide)))).other W869 (Or.inr (slot_ne (Or.inr (hw _ (List.mem_of_getElem? (i := 34) rfl))) (Or.inl (hw _ (List.mem_of_getElem? (i := 28) rfl))) (by decide) (t := (.array (.object "com/example/eskew/eskew/server/split/CounterValues$Tally"))) (t' := .int) (by decide) (by decide))))
                    exact J75_1 T869 _ h869 X869 e869 N869 KB872 sl now (1 + sl % (3 : Int32)) _ (One.val rfl) (by rcases hs3 with q | ⟨q, q'⟩ | ⟨q, q'⟩ <;> first | (rw [q]; decide) | exact absurd q' (by decide)) (hS.trans ((own_take (n := (3 : Int32)) (c := (own_count (3 : Int32) u1 u2 u3)) (u := (own_at u0 u1 u2 u3)) (now := now) (t0 := t0) (r := r) (k := 2) (i := (0 : Int32)) (s := (xx, yy, zz)) hxx hcc' (show ¬ ((own_at u0 u1 u2 u3) (1 + (zz - 1 + (0 : Int32)) % (3 : Int32)) = 0) by rw [← hsl]; exact hup) hl).trans (by rw [show (0 : Int32) + 1 = (1 : Int32) from by decide]; show own_loop _ _ _ _ _ _ _ _ (1 + (zz - 1 + (0 : Int32)) % (3 : Int32), now, 1 + (1 + (zz - 1 + (0 : Int32)) % (3 : Int32)) % (3 : Int32)) = _; rw [← hsl]))) f874 f875 f876 fw869 f877 f878
              · refine own_by (fun _ k => XS.icmpYes X849.here hx rfl (pc0 := 86) (pc' := 167) rfl (hb hby d6_86) rfl (flt (hcc : ¬ ((1 : Int32) < c0))).2.2.2 (by decide) (by decide) k) ?_
                show own_Go p e below _ T849 (mkF m 167 #[.val (.ref a1), .val (.ref b), .val (.long now), .second, .val (.int (3 : Int32)), .val (.int c0), .val (.int (0 : Int32)), s7] [])
                refine own_by (fun _ k => XS.aloadN X849.here hx rfl (hb hby d6_167) rfl rfl k) ?_
                obtain ⟨T879, X879, e879, st879⟩ := getF X849 hx hZ hown (host := "") (Or.inl (hw _ (List.mem_of_getElem? (i := 25) rfl))) Via.refl e849 Fj0 (g := (mkF m 168 #[.val (.ref a1), .val (.ref b), .val (.long now), .second, .val (.int (3 : Int32)), .val (.int c0), .val (.int (0 : Int32)), s7] [(.ref a1)])) rfl rfl (hb hby d6_168)
                refine own_by st879 ?_
                have hres : (own_rest (3 : Int32) (own_count (3 : Int32) u1 u2 u3) (own_at u0 u1 u2 u3) now t0 r 3 x y z) = (xx, yy, zz) := hS.trans (own_out2 (n := (3 : Int32)) (c := (own_count (3 : Int32) u1 u2 u3)) (u := (own_at u0 u1 u2 u3)) (now := now) (t0 := t0) (r := r) (k := 2) (i := (0 : Int32)) (s := (xx, yy, zz)) hxx (hc0 ▸ hcc))
                exact own_retI X879 hx hlk hret  (hb hby d6_171) (by first | exact ⟨by rw [hres], N848, K848c, Ej, by rw [hres]; exact Fj0, by rw [hres]; exact Fj1, by rw [hres]; exact Fj2, Fj3, Fj4⟩ | (rw [e879]; exact ⟨by rw [hres], N848, K848c, Ej, by rw [hres]; exact Fj0, by rw [hres]; exact Fj1, by rw [hres]; exact Fj2, Fj3, Fj4⟩)) (by decide) (by decide)
            · refine own_by (fun _ k => XS.icmpYes X849.here hx rfl (pc0 := 80) (pc' := 167) rfl (hb hby d6_80) rfl (feq (hxx : ¬ (xx = (-1 : Int32)))).2 (by decide) (by decide) k) ?_
              refine own_by (fun _ k => XS.aloadN X849.here hx rfl (hb hby d6_167) rfl rfl k) ?_
              obtain ⟨T880, X880, e880, st880⟩ := getF X849 hx hZ hown (host := "") (Or.inl (hw _ (List.mem_of_getElem? (i := 25) rfl))) Via.refl e849 Fj0 (g := (mkF m 168 #[.val (.ref a1), .val (.ref b), .val (.long now), .second, .val (.int (3 : Int32)), .val (.int c0), .val (.int (0 : Int32)), s7] [(.ref a1)])) rfl rfl (hb hby d6_168)
              refine own_by st880 ?_
              have hres : (own_rest (3 : Int32) (own_count (3 : Int32) u1 u2 u3) (own_at u0 u1 u2 u3) now t0 r 3 x y z) = (xx, yy, zz) := hS.trans (own_out1 (n := (3 : Int32)) (c := (own_count (3 : Int32) u1 u2 u3)) (u := (own_at u0 u1 u2 u3)) (now := now) (t0 := t0) (r := r) (k := 2) (i := (0 : Int32)) (s := (xx, yy, zz)) hxx)
              exact own_retI X880 hx hlk hret  (hb hby d6_171) (by first | exact ⟨by rw [hres], N848, K848c, Ej, by rw [hres]; exact Fj0, by rw [hres]; exact Fj1, by rw [hres]; exact Fj2, Fj3, Fj4⟩ | (rw [e880]; exact ⟨by rw [hres], N848, K848c, Ej, by rw [hres]; exact Fj0, by rw [hres]; exact Fj1, by rw [hres]; exact Fj2, Fj3, Fj4⟩)) (by decide) (by decide)
          exact J75_0 T770 _ h769 X770 e770 N769 (Keep.refl _ _) x1 y z _ One.u hin (by rw [own_rest, hw1]) Ej Fj0 Fj1 Fj2 Fj3 Fj4
        by_cases ho3 : u3 = (0 : Int32)
        · refine own_by (fun _ k => XS.ifYes X770.here hx rfl (pc0 := 55) (pc' := 62) rfl (hb hby d6_55) rfl ((if0 _ _).trans (teq (ho3 : u3 = (0 : Int32))).1) (by decide) (by decide) k) ?_
          refine own_by (fun _ k => XS.iconst X770.here hx rfl (hb hby d6_62) k) ?_
          exact J63_3 _ (if_pos ho3).symm
        · refine own_by (fun _ k => XS.ifNo X770.here hx rfl (hb hby d6_55) rfl ((if0 _ _).trans (feq (ho3 : ¬ (u3 = (0 : Int32)))).1) k) ?_
          refine own_by (fun _ k => XS.iconst X770.here hx rfl (hb hby d6_58) k) ?_
          refine own_by (fun _ k => XS.goto X770.here hx rfl (pc0 := 59) (pc' := 63) rfl (hb hby d6_59) (by decide) (by decide) k) ?_
          exact J63_3 _ (if_neg ho3).symm
      by_cases ho2 : u2 = (0 : Int32)
      · refine own_by (fun _ k => XS.ifYes X770.here hx rfl (pc0 := 55) (pc' := 62) rfl (hb hby d6_55) rfl ((if0 _ _).trans (teq (ho2 : u2 = (0 : Int32))).1) (by decide) (by decide) k) ?_
        refine own_by (fun _ k => XS.iconst X770.here hx rfl (hb hby d6_62) k) ?_
        exact J63_2 _ (if_pos ho2).symm
      · refine own_by (fun _ k => XS.ifNo X770.here hx rfl (hb hby d6_55) rfl ((if0 _ _).trans (feq (ho2 : ¬ (u2 = (0 : Int32)))).1) k) ?_
        refine own_by (fun _ k => XS.iconst X770.here hx rfl (hb hby d6_58) k) ?_
        refine own_by (fun _ k => XS.goto X770.here hx rfl (pc0 := 59) (pc' := 63) rfl (hb hby d6_59) (by decide) (by decide) k) ?_
        exact J63_2 _ (if_neg ho2).symm
    by_cases ho1 : u1 = (0 : Int32)
    · refine own_by (fun _ k => XS.ifYes X770.here hx rfl (pc0 := 55) (pc' := 62) rfl (hb hby d6_55) rfl ((if0 _ _).trans (teq (ho1 : u1 = (0 : Int32))).1) (by decide) (by decide) k) ?_
      refine own_by (fun _ k => XS.iconst X770.here hx rfl (hb hby d6_62) k) ?_
      exact J63_1 _ (if_pos ho1).symm
    · refine own_by (fun _ k => XS.ifNo X770.here hx rfl (hb hby d6_55) rfl ((if0 _ _).trans (feq (ho1 : ¬ (u1 = (0 : Int32)))).1) k) ?_
      refine own_by (fun _ k => XS.iconst X770.here hx rfl (hb hby d6_58) k) ?_
      refine own_by (fun _ k => XS.goto X770.here hx rfl (pc0 := 59) (pc' := 63) rfl (hb hby d6_59) (by decide) (by decide) k) ?_
      exact J63_1 _ (if_neg ho1).symm
  refine own_by (fun _ k => XS.aloadN X0.here hx rfl (hb hby d6_0) rfl rfl k) ?_
  obtain ⟨T881, X881, e881, st881⟩ := getF X0 hx hZ hown (host := "") (Or.inl (hw _ (List.mem_of_getElem? (i := 25) rfl))) Via.refl e0 F_resting (g := (mkF m 1 #[.val (.ref a1), .val (.ref b), .val (.long now), .second, .unset, .unset, .unset, .unset] [(.ref a1)])) rfl rfl (hb hby d6_1)
  refine own_by st881 ?_
  refine own_by (fun _ k => XS.iconst X881.here hx rfl (hb hby d6_4) k) ?_
  by_cases hx0 : x = (-1 : Int32)
  · refine own_by (fun _ k => XS.icmpYes X881.here hx rfl (pc0 := 5) (pc' := 27) rfl (hb hby d6_5) rfl (teq (hx0 : x = (-1 : Int32))).1 (by decide) (by decide) k) ?_
    exact J27 T881 _ h0 X881 e881 N0 (Keep.refl _ _) _ (by simp only [own_wake, if_pos hx0]) E1 F_resting F_restingSince F_nextToRest F_rereadNanos F_tallies
  · refine own_by (fun _ k => XS.icmpNo X881.here hx rfl (hb hby d6_5) rfl (feq (hx0 : ¬ (x = (-1 : Int32)))).1 k) ?_
    refine own_by (fun _ k => XS.lloadN X881.here hx rfl (hb hby d6_8) rfl k) ?_
    refine own_by (fun _ k => XS.aloadN X881.here hx rfl (hb hby d6_9) rfl rfl k) ?_
    obtain ⟨T882, X882, e882, st882⟩ := getF X881 hx hZ hown (host := "") (Or.inl (hw _ (List.mem_of_getElem? (i := 58) rfl))) Via.refl e881 F_restingSince (g := (mkF m 10 #[.val (.ref a1), .val (.ref b), .val (.long now), .second, .unset, .unset, .unset, .unset] [(.ref a1), (.long now)])) rfl rfl (hb hby d6_10)
    refine own_by st882 ?_
    refine own_by (fun _ k => XS.lsub X882.here hx rfl (hb hby d6_13) rfl k) ?_
    show own_Go p e below _ T882 (mkF m 14 #[.val (.ref a1), .val (.ref b), .val (.long now), .second, .unset, .unset, .unset, .unset] [(.long (now - y))])
    refine own_by (fun _ k => XS.aloadN X882.here hx rfl (hb hby d6_14) rfl rfl k) ?_
    obtain ⟨T883, X883, e883, st883⟩ := getF X882 hx hZ hown (host := "") (Or.inl (hw _ (List.mem_of_getElem? (i := 29) rfl))) Via.refl e882 F_rereadNanos (g := (mkF m 15 #[.val (.ref a1), .val (.ref b), .val (.long now), .second, .unset, .unset, .unset, .unset] [(.ref a1), (.long (now - y))])) rfl rfl (hb hby d6_15)
    refine own_by st883 ?_
    refine own_by (fun _ k => XS.lcmp X883.here hx rfl (hb hby d6_18) rfl k) ?_
    by_cases hl0 : now - y < r
    · refine own_by (fun _ k => XS.ifYes X883.here hx rfl (pc0 := 19) (pc' := 27) rfl (hb hby d6_19) rfl ((if0 _ _).trans (tlt ((lw_lt _ _).mpr hl0 : (lcmpW (now - y) r) < (0 : Int32))).1) (by decide) (by decide) k) ?_
      exact J27 T883 _ h0 X883 e883 N0 (Keep.refl _ _) _ (by simp only [own_wake, if_neg hx0, if_pos hl0]) E1 F_resting F_restingSince F_nextToRest F_rereadNanos F_tallies
    · refine own_by (fun _ k => XS.ifNo X883.here hx rfl (hb hby d6_19) rfl ((if0 _ _).trans (flt (fun q => hl0 ((lw_lt _ _).mp q) : ¬ ((lcmpW (now - y) r) < (0 : Int32)))).1) k) ?_
      refine own_by (fun _ k => XS.aloadN X883.here hx rfl (hb hby d6_22) rfl rfl k) ?_
      refine own_by (fun _ k => XS.iconst X883.here hx rfl (hb hby d6_23) k) ?_
      obtain ⟨T884, h884, X884, e884, W884, st884⟩ := putF X883 hx hZ hown (host := "") (Or.inl (hw _ (List.mem_of_getElem? (i := 25) rfl))) Via.refl e883 F_resting E1 (Or.inl (hw _ (List.mem_of_getElem? (i := 26) rfl))) (hw _ (List.mem_of_getElem? (i := 6) rfl)) (ty := .int) (by decide) rfl rfl (g := (mkF m 24 #[.val (.ref a1), .val (.ref b), .val (.long now), .second, .unset, .unset, .unset, .unset] [(.int (-1 : Int32)), (.ref a1)])) rfl rfl (hb hby d6_24)
      refine own_by st884 ?_
      have N884 := Fr.snoc X884 N0 g1
      have fw884 := F_resting.same W884
      have K885 := K0.wr W884 (Or.inl (List.mem_of_getElem? (i := 0) rfl))
      have Z884 : n0 ≤ h884.size := Nat.le_trans Z0 (Keep.of_wr W884).1
      have f886 := (E1.wr W884)
      have f887 := (F_restingSince.other W884 (Or.inr (slot_ne (Or.inl (hw _ (List.mem_of_getElem? (i := 59) rfl))) (Or.inl (hw _ (List.mem_of_getElem? (i := 26) rfl))) (by decide) (t := .long) (t' := .int) (by decide) (by decide))))
      have f888 := (F_nextToRest.other W884 (Or.inr (slot_ne (Or.inl (hw _ (List.mem_of_getElem? (i := 28) rfl))) (Or.inl (hw _ (List.mem_of_getElem? (i := 26) rfl))) (by decide) (t := .int) (t' := .int) (by decide) (by decide))))
      have f889 := (F_rereadNanos.other W884 (Or.inr (slot_ne (Or.inr (hw _ (List.mem_of_getElem? (i := 30) rfl))) (Or.inl (hw _ (List.mem_of_getElem? (i := 26) rfl))) (by decide) (t := .long) (t' := .int) (by decide) (by decide))))
      have f890 := (F_tallies.other W884 (Or.inr (slot_ne (Or.inr (hw _ (List.mem_of_getElem? (i := 34) rfl))) (Or.inl (hw _ (List.mem_of_getElem? (i := 26) rfl))) (by decide) (t := (.array (.object "com/example/eskew/eskew/server/split/CounterValues$Tally"))) (t' := .int) (by decide) (by decide))))
      exact J27 T884 _ h884 X884 e884 N884 (Keep.of_wr W884) _ (by simp only [own_wake, if_neg hx0, if_neg hl0]) f886 fw884 f887 f888 f889 f890
theorem own_loop_late {n c : Int32} {u : Int32 → Int32} {now t0 r : Int64} (hl : now - t0 < r) : ∀ (k : Nat) (i : Int32) (s : own_St), own_loop n c u now t0 r k i s = s := by
  intro k
  induction k with
  | zero => intro i s; rfl
  | succ k ih =>
    intro i s
    by_cases h1 : s.1 = -1
    · by_cases h2 : 1 < c
      · by_cases h3 : u (1 + (s.2.2 - 1 + i) % n) = 0
        · rw [own_skip h1 h2 h3]; exact ih _ _
        · rw [own_late h1 h2 h3 hl]; exact ih _ _
      · exact own_out2 h1 h2
    · exact own_out1 h1
theorem own_same_0 (u0 u1 u2 u3 : Int32) (hb1 : own_bit u1) (hb2 : own_bit u2) (hb3 : own_bit u3) (now t0 r : Int64) (s : own_St) (hz : own_in (0 : Int32) s.2.2) : own_loop (0 : Int32) (own_count (0 : Int32) u1 u2 u3) (own_at u0 u1 u2 u3) now t0 r 0 0 s = own_model (0 : Int32) (own_count (0 : Int32) u1 u2 u3) (own_at u0 u1 u2 u3) now t0 r s ∧ own_in (0 : Int32) (own_model (0 : Int32) (own_count (0 : Int32) u1 u2 u3) (own_at u0 u1 u2 u3) now t0 r s).2.2 := by
  obtain ⟨x, y, z⟩ := s
  by_cases hx : x = -1
  · subst hx
    by_cases hc : (1 : Int32) < (own_count (0 : Int32) u1 u2 u3)
    · by_cases hl : now - t0 < r
      · have e1 : own_model (0 : Int32) (own_count (0 : Int32) u1 u2 u3) (own_at u0 u1 u2 u3) now t0 r (-1, y, z) = (-1, y, z) := by rw [own_model, if_pos rfl, if_pos hc, if_pos hl]
        rw [e1, own_loop_late hl]
        exact ⟨rfl, hz⟩
      · rcases hb1 with rfl | rfl <;> exact absurd hc (by show ¬ (1 : Int32) < ((((0 : Int32) + 0) + 0) + 0); decide)
    · have e1 : own_model (0 : Int32) (own_count (0 : Int32) u1 u2 u3) (own_at u0 u1 u2 u3) now t0 r (-1, y, z) = (-1, y, z) := by rw [own_model, if_pos rfl, if_neg hc]
      rw [e1]
      exact ⟨rfl, hz⟩
  · have e1 : own_model (0 : Int32) (own_count (0 : Int32) u1 u2 u3) (own_at u0 u1 u2 u3) now t0 r (x, y, z) = (x, y, z) := if_neg hx
    rw [e1]
    exact ⟨rfl, hz⟩
theorem own_same_1 (u0 u1 u2 u3 : Int32) (hb1 : own_bit u1) (hb2 : own_bit u2) (hb3 : own_bit u3) (now t0 r : Int64) (s : own_St) (hz : own_in (1 : Int32) s.2.2) : own_loop (1 : Int32) (own_count (1 : Int32) u1 u2 u3) (own_at u0 u1 u2 u3) now t0 r 1 0 s = own_model (1 : Int32) (own_count (1 : Int32) u1 u2 u3) (own_at u0 u1 u2 u3) now t0 r s ∧ own_in (1 : Int32) (own_model (1 : Int32) (own_count (1 : Int32) u1 u2 u3) (own_at u0 u1 u2 u3) now t0 r s).2.2 := by
  obtain ⟨x, y, z⟩ := s
  by_cases hx : x = -1
  · subst hx
    by_cases hc : (1 : Int32) < (own_count (1 : Int32) u1 u2 u3)
    · by_cases hl : now - t0 < r
      · have e1 : own_model (1 : Int32) (own_count (1 : Int32) u1 u2 u3) (own_at u0 u1 u2 u3) now t0 r (-1, y, z) = (-1, y, z) := by rw [own_model, if_pos rfl, if_pos hc, if_pos hl]
        rw [e1, own_loop_late hl]
        exact ⟨rfl, hz⟩
      · rcases hb1 with rfl | rfl
        · exact absurd hc (show ¬ (1 : Int32) < ((((0 : Int32) + 0) + 0) + 0) by decide)
        · exact absurd hc (show ¬ (1 : Int32) < ((((0 : Int32) + 1) + 0) + 0) by decide)
    · have e1 : own_model (1 : Int32) (own_count (1 : Int32) u1 u2 u3) (own_at u0 u1 u2 u3) now t0 r (-1, y, z) = (-1, y, z) := by rw [own_model, if_pos rfl, if_neg hc]
      rw [e1]
      exact ⟨own_out2 rfl hc, hz⟩
  · have e1 : own_model (1 : Int32) (own_count (1 : Int32) u1 u2 u3) (own_at u0 u1 u2 u3) now t0 r (x, y, z) = (x, y, z) := if_neg hx
    rw [e1]
    exact ⟨own_out1 hx, hz⟩
theorem own_c2_110_1 (u0 : Int32) (now t0 r y : Int64) (hl : ¬ now - t0 < r) : own_loop (2 : Int32) (own_count (2 : Int32) (1 : Int32) (1 : Int32) (0 : Int32)) (own_at u0 (1 : Int32) (1 : Int32) (0 : Int32)) now t0 r 2 0 (-1, y, (1 : Int32)) = ((1 : Int32), now, (2 : Int32)) ∧ own_model (2 : Int32) (own_count (2 : Int32) (1 : Int32) (1 : Int32) (0 : Int32)) (own_at u0 (1 : Int32) (1 : Int32) (0 : Int32)) now t0 r (-1, y, (1 : Int32)) = ((1 : Int32), now, (2 : Int32)) := by
  have hc : (1 : Int32) < (own_count (2 : Int32) (1 : Int32) (1 : Int32) (0 : Int32)) := by decide
  refine ⟨?_, ?_⟩
  · have h0 : (1 + ((1 : Int32) - 1 + (0 : Int32)) % (2 : Int32)) = (1 : Int32) := by decide
    have hn : (1 : Int32) + (1 : Int32) % (2 : Int32) = (2 : Int32) := by decide
    rw [own_take (n := (2 : Int32)) (c := (own_count (2 : Int32) (1 : Int32) (1 : Int32) (0 : Int32))) (u := (own_at u0 (1 : Int32) (1 : Int32) (0 : Int32))) (now := now) (t0 := t0) (r := r) (k := 1) (i := (0 : Int32)) (s := ((-1 : Int32), y, (1 : Int32))) rfl hc (show ¬ (own_at u0 (1 : Int32) (1 : Int32) (0 : Int32)) (1 + ((1 : Int32) - 1 + (0 : Int32)) % (2 : Int32)) = 0 by rw [h0]; exact fun h => absurd (show (1 : Int32) = 0 from h) (by decide)) hl]
    show own_loop _ _ _ _ _ _ _ _ ((1 + ((1 : Int32) - 1 + (0 : Int32)) % (2 : Int32)), now, 1 + (1 + ((1 : Int32) - 1 + (0 : Int32)) % (2 : Int32)) % (2 : Int32)) = _
    rw [h0, hn]
    exact own_out1 (n := (2 : Int32)) (c := (own_count (2 : Int32) (1 : Int32) (1 : Int32) (0 : Int32))) (u := (own_at u0 (1 : Int32) (1 : Int32) (0 : Int32))) (now := now) (t0 := t0) (r := r) (k := 0) (i := ((0 : Int32) + 1)) (s := ((1 : Int32), now, (2 : Int32))) (show ¬ (1 : Int32) = -1 by decide)
  · have w0 : own_wrap (1 : Int32) (2 : Int32) = (1 : Int32) := by decide
    have w1 : own_wrap ((1 : Int32) + 1) (2 : Int32) = (2 : Int32) := by decide
    have w2 : own_wrap ((1 : Int32) + 2) (2 : Int32) = (1 : Int32) := by decide
    have hf : own_first (2 : Int32) (own_at u0 (1 : Int32) (1 : Int32) (0 : Int32)) (1 : Int32) = (1 : Int32) := by unfold own_first; rw [w0, w1, w2]; rfl
    rw [own_model, if_pos rfl, if_pos hc, if_neg hl]
    show (own_first (2 : Int32) (own_at u0 (1 : Int32) (1 : Int32) (0 : Int32)) (1 : Int32), now, if own_first (2 : Int32) (own_at u0 (1 : Int32) (1 : Int32) (0 : Int32)) (1 : Int32) = (2 : Int32) then 1 else own_first (2 : Int32) (own_at u0 (1 : Int32) (1 : Int32) (0 : Int32)) (1 : Int32) + 1) = _
    rw [hf]
    rfl
theorem own_c2_110_2 (u0 : Int32) (now t0 r y : Int64) (hl : ¬ now - t0 < r) : own_loop (2 : Int32) (own_count (2 : Int32) (1 : Int32) (1 : Int32) (0 : Int32)) (own_at u0 (1 : Int32) (1 : Int32) (0 : Int32)) now t0 r 2 0 (-1, y, (2 : Int32)) = ((2 : Int32), now, (1 : Int32)) ∧ own_model (2 : Int32) (own_count (2 : Int32) (1 : Int32) (1 : Int32) (0 : Int32)) (own_at u0 (1 : Int32) (1 : Int32) (0 : Int32)) now t0 r (-1, y, (2 : Int32)) = ((2 : Int32), now, (1 : Int32)) := by
  have hc : (1 : Int32) < (own_count (2 : Int32) (1 : Int32) (1 : Int32) (0 : Int32)) := by decide
  refine ⟨?_, ?_⟩
  · have h0 : (1 + ((2 : Int32) - 1 + (0 : Int32)) % (2 : Int32)) = (2 : Int32) := by decide
    have hn : (1 : Int32) + (2 : Int32) % (2 : Int32) = (1 : Int32) := by decide
    rw [own_take (n := (2 : Int32)) (c := (own_count (2 : Int32) (1 : Int32) (1 : Int32) (0 : Int32))) (u := (own_at u0 (1 : Int32) (1 : Int32) (0 : Int32))) (now := now) (t0 := t0) (r := r) (k := 1) (i := (0 : Int32)) (s := ((-1 : Int32), y, (2 : Int32))) rfl hc (show ¬ (own_at u0 (1 : Int32) (1 : Int32) (0 : Int32)) (1 + ((2 : Int32) - 1 + (0 : Int32)) % (2 : Int32)) = 0 by rw [h0]; exact fun h => absurd (show (1 : Int32) = 0 from h) (by decide)) hl]
    show own_loop _ _ _ _ _ _ _ _ ((1 + ((2 : Int32) - 1 + (0 : Int32)) % (2 : Int32)), now, 1 + (1 + ((2 : Int32) - 1 + (0 : Int32)) % (2 : Int32)) % (2 : Int32)) = _
    rw [h0, hn]
    exact own_out1 (n := (2 : Int32)) (c := (own_count (2 : Int32) (1 : Int32) (1 : Int32) (0 : Int32))) (u := (own_at u0 (1 : Int32) (1 : Int32) (0 : Int32))) (now := now) (t0 := t0) (r := r) (k := 0) (i := ((0 : Int32) + 1)) (s := ((2 : Int32), now, (1 : Int32))) (show ¬ (2 : Int32) = -1 by decide)
  · have w0 : own_wrap (2 : Int32) (2 : Int32) = (2 : Int32) := by decide
    have w1 : own_wrap ((2 : Int32) + 1) (2 : Int32) = (1 : Int32) := by decide
    have w2 : own_wrap ((2 : Int32) + 2) (2 : Int32) = (2 : Int32) := by decide
    have hf : own_first (2 : Int32) (own_at u0 (1 : Int32) (1 : Int32) (0 : Int32)) (2 : Int32) = (2 : Int32) := by unfold own_first; rw [w0, w1, w2]; rfl
    rw [own_model, if_pos rfl, if_pos hc, if_neg hl]
    show (own_first (2 : Int32) (own_at u0 (1 : Int32) (1 : Int32) (0 : Int32)) (2 : Int32), now, if own_first (2 : Int32) (own_at u0 (1 : Int32) (1 : Int32) (0 : Int32)) (2 : Int32) = (2 : Int32) then 1 else own_first (2 : Int32) (own_at u0 (1 : Int32) (1 : Int32) (0 : Int32)) (2 : Int32) + 1) = _
    rw [hf]
    rfl
theorem own_c2_111_1 (u0 : Int32) (now t0 r y : Int64) (hl : ¬ now - t0 < r) : own_loop (2 : Int32) (own_count (2 : Int32) (1 : Int32) (1 : Int32) (1 : Int32)) (own_at u0 (1 : Int32) (1 : Int32) (1 : Int32)) now t0 r 2 0 (-1, y, (1 : Int32)) = ((1 : Int32), now, (2 : Int32)) ∧ own_model (2 : Int32) (own_count (2 : Int32) (1 : Int32) (1 : Int32) (1 : Int32)) (own_at u0 (1 : Int32) (1 : Int32) (1 : Int32)) now t0 r (-1, y, (1 : Int32)) = ((1 : Int32), now, (2 : Int32)) := by
  have hc : (1 : Int32) < (own_count (2 : Int32) (1 : Int32) (1 : Int32) (1 : Int32)) := by decide
  refine ⟨?_, ?_⟩
  · have h0 : (1 + ((1 : Int32) - 1 + (0 : Int32)) % (2 : Int32)) = (1 : Int32) := by decide
    have hn : (1 : Int32) + (1 : Int32) % (2 : Int32) = (2 : Int32) := by decide
    rw [own_take (n := (2 : Int32)) (c := (own_count (2 : Int32) (1 : Int32) (1 : Int32) (1 : Int32))) (u := (own_at u0 (1 : Int32) (1 : Int32) (1 : Int32))) (now := now) (t0 := t0) (r := r) (k := 1) (i := (0 : Int32)) (s := ((-1 : Int32), y, (1 : Int32))) rfl hc (show ¬ (own_at u0 (1 : Int32) (1 : Int32) (1 : Int32)) (1 + ((1 : Int32) - 1 + (0 : Int32)) % (2 : Int32)) = 0 by rw [h0]; exact fun h => absurd (show (1 : Int32) = 0 from h) (by decide)) hl]
    show own_loop _ _ _ _ _ _ _ _ ((1 + ((1 : Int32) - 1 + (0 : Int32)) % (2 : Int32)), now, 1 + (1 + ((1 : Int32) - 1 + (0 : Int32)) % (2 : Int32)) % (2 : Int32)) = _
    rw [h0, hn]
    exact own_out1 (n := (2 : Int32)) (c := (own_count (2 : Int32) (1 : Int32) (1 : Int32) (1 : Int32))) (u := (own_at u0 (1 : Int32) (1 : Int32) (1 : Int32))) (now := now) (t0 := t0) (r := r) (k := 0) (i := ((0 : Int32) + 1)) (s := ((1 : Int32), now, (2 : Int32))) (show ¬ (1 : Int32) = -1 by decide)
  · have w0 : own_wrap (1 : Int32) (2 : Int32) = (1 : Int32) := by decide
    have w1 : own_wrap ((1 : Int32) + 1) (2 : Int32) = (2 : Int32) := by decide
    have w2 : own_wrap ((1 : Int32) + 2) (2 : Int32) = (1 : Int32) := by decide
    have hf : own_first (2 : Int32) (own_at u0 (1 : Int32) (1 : Int32) (1 : Int32)) (1 : Int32) = (1 : Int32) := by unfold own_first; rw [w0, w1, w2]; rfl
    rw [own_model, if_pos rfl, if_pos hc, if_neg hl]
    show (own_first (2 : Int32) (own_at u0 (1 : Int32) (1 : Int32) (1 : Int32)) (1 : Int32), now, if own_first (2 : Int32) (own_at u0 (1 : Int32) (1 : Int32) (1 : Int32)) (1 : Int32) = (2 : Int32) then 1 else own_first (2 : Int32) (own_at u0 (1 : Int32) (1 : Int32) (1 : Int32)) (1 : Int32) + 1) = _
    rw [hf]
    rfl
theorem own_c2_111_2 (u0 : Int32) (now t0 r y : Int64) (hl : ¬ now - t0 < r) : own_loop (2 : Int32) (own_count (2 : Int32) (1 : Int32) (1 : Int32) (1 : Int32)) (own_at u0 (1 : Int32) (1 : Int32) (1 : Int32)) now t0 r 2 0 (-1, y, (2 : Int32)) = ((2 : Int32), now, (1 : Int32)) ∧ own_model (2 : Int32) (own_count (2 : Int32) (1 : Int32) (1 : Int32) (1 : Int32)) (own_at u0 (1 : Int32) (1 : Int32) (1 : Int32)) now t0 r (-1, y, (2 : Int32)) = ((2 : Int32), now, (1 : Int32)) := by
  have hc : (1 : Int32) < (own_count (2 : Int32) (1 : Int32) (1 : Int32) (1 : Int32)) := by decide
  refine ⟨?_, ?_⟩
  · have h0 : (1 + ((2 : Int32) - 1 + (0 : Int32)) % (2 : Int32)) = (2 : Int32) := by decide
    have hn : (1 : Int32) + (2 : Int32) % (2 : Int32) = (1 : Int32) := by decide
    rw [own_take (n := (2 : Int32)) (c := (own_count (2 : Int32) (1 : Int32) (1 : Int32) (1 : Int32))) (u := (own_at u0 (1 : Int32) (1 : Int32) (1 : Int32))) (now := now) (t0 := t0) (r := r) (k := 1) (i := (0 : Int32)) (s := ((-1 : Int32), y, (2 : Int32))) rfl hc (show ¬ (own_at u0 (1 : Int32) (1 : Int32) (1 : Int32)) (1 + ((2 : Int32) - 1 + (0 : Int32)) % (2 : Int32)) = 0 by rw [h0]; exact fun h => absurd (show (1 : Int32) = 0 from h) (by decide)) hl]
    show own_loop _ _ _ _ _ _ _ _ ((1 + ((2 : Int32) - 1 + (0 : Int32)) % (2 : Int32)), now, 1 + (1 + ((2 : Int32) - 1 + (0 : Int32)) % (2 : Int32)) % (2 : Int32)) = _
    rw [h0, hn]
    exact own_out1 (n := (2 : Int32)) (c := (own_count (2 : Int32) (1 : Int32) (1 : Int32) (1 : Int32))) (u := (own_at u0 (1 : Int32) (1 : Int32) (1 : Int32))) (now := now) (t0 := t0) (r := r) (k := 0) (i := ((0 : Int32) + 1)) (s := ((2 : Int32), now, (1 : Int32))) (show ¬ (2 : Int32) = -1 by decide)
  · have w0 : own_wrap (2 : Int32) (2 : Int32) = (2 : Int32) := by decide
    have w1 : own_wrap ((2 : Int32) + 1) (2 : Int32) = (1 : Int32) := by decide
    have w2 : own_wrap ((2 : Int32) + 2) (2 : Int32) = (2 : Int32) := by decide
    have hf : own_first (2 : Int32) (own_at u0 (1 : Int32) (1 : Int32) (1 : Int32)) (2 : Int32) = (2 : Int32) := by unfold own_first; rw [w0, w1, w2]; rfl
    rw [own_model, if_pos rfl, if_pos hc, if_neg hl]
    show (own_first (2 : Int32) (own_at u0 (1 : Int32) (1 : Int32) (1 : Int32)) (2 : Int32), now, if own_first (2 : Int32) (own_at u0 (1 : Int32) (1 : Int32) (1 : Int32)) (2 : Int32) = (2 : Int32) then 1 else own_first (2 : Int32) (own_at u0 (1 : Int32) (1 : Int32) (1 : Int32)) (2 : Int32) + 1) = _
    rw [hf]
    rfl
theorem own_same_2 (u0 u1 u2 u3 : Int32) (hb1 : own_bit u1) (hb2 : own_bit u2) (hb3 : own_bit u3) (now t0 r : Int64) (s : own_St) (hz : own_in (2 : Int32) s.2.2) : own_loop (2 : Int32) (own_count (2 : Int32) u1 u2 u3) (own_at u0 u1 u2 u3) now t0 r 2 0 s = own_model (2 : Int32) (own_count (2 : Int32) u1 u2 u3) (own_at u0 u1 u2 u3) now t0 r s ∧ own_in (2 : Int32) (own_model (2 : Int32) (own_count (2 : Int32) u1 u2 u3) (own_at u0 u1 u2 u3) now t0 r s).2.2 := by
  obtain ⟨x, y, z⟩ := s
  by_cases hx : x = -1
  · subst hx
    by_cases hc : (1 : Int32) < (own_count (2 : Int32) u1 u2 u3)
    · by_cases hl : now - t0 < r
      · have e1 : own_model (2 : Int32) (own_count (2 : Int32) u1 u2 u3) (own_at u0 u1 u2 u3) now t0 r (-1, y, z) = (-1, y, z) := by rw [own_model, if_pos rfl, if_pos hc, if_pos hl]
        rw [e1, own_loop_late hl]
        exact ⟨rfl, hz⟩
      · rcases hb1 with rfl | rfl <;> rcases hb2 with rfl | rfl <;> rcases hb3 with rfl | rfl
        · exact absurd hc (by decide)
        · exact absurd hc (by decide)
        · exact absurd hc (by decide)
        · exact absurd hc (by decide)
        · exact absurd hc (by decide)
        · exact absurd hc (by decide)
        · rcases hz with ⟨-, h⟩ | ⟨-, rfl | rfl⟩ | ⟨h, -⟩
          · exact absurd h (by decide)
          · obtain ⟨e1, e2⟩ := own_c2_110_1 u0 now t0 r y hl
            rw [e1, e2]
            exact ⟨rfl, by show own_in (2 : Int32) (2 : Int32); decide⟩
          · obtain ⟨e1, e2⟩ := own_c2_110_2 u0 now t0 r y hl
            rw [e1, e2]
            exact ⟨rfl, by show own_in (2 : Int32) (1 : Int32); decide⟩
          · exact absurd h (by decide)
        · rcases hz with ⟨-, h⟩ | ⟨-, rfl | rfl⟩ | ⟨h, -⟩
          · exact absurd h (by decide)
          · obtain ⟨e1, e2⟩ := own_c2_111_1 u0 now t0 r y hl
            rw [e1, e2]
            exact ⟨rfl, by show own_in (2 : Int32) (2 : Int32); decide⟩
          · obtain ⟨e1, e2⟩ := own_c2_111_2 u0 now t0 r y hl
            rw [e1, e2]
            exact ⟨rfl, by show own_in (2 : Int32) (1 : Int32); decide⟩
          · exact absurd h (by decide)
    · have e1 : own_model (2 : Int32) (own_count (2 : Int32) u1 u2 u3) (own_at u0 u1 u2 u3) now t0 r (-1, y, z) = (-1, y, z) := by rw [own_model, if_pos rfl, if_neg hc]
      rw [e1]
      exact ⟨own_out2 rfl hc, hz⟩
  · have e1 : own_model (2 : Int32) (own_count (2 : Int32) u1 u2 u3) (own_at u0 u1 u2 u3) now t0 r (x, y, z) = (x, y, z) := if_neg hx
    rw [e1]
    exact ⟨own_out1 hx, hz⟩
theorem own_c3_011_1 (u0 : Int32) (now t0 r y : Int64) (hl : ¬ now - t0 < r) : own_loop (3 : Int32) (own_count (3 : Int32) (0 : Int32) (1 : Int32) (1 : Int32)) (own_at u0 (0 : Int32) (1 : Int32) (1 : Int32)) now t0 r 3 0 (-1, y, (1 : Int32)) = ((2 : Int32), now, (3 : Int32)) ∧ own_model (3 : Int32) (own_count (3 : Int32) (0 : Int32) (1 : Int32) (1 : Int32)) (own_at u0 (0 : Int32) (1 : Int32) (1 : Int32)) now t0 r (-1, y, (1 : Int32)) = ((2 : Int32), now, (3 : Int32)) := by
  have hc : (1 : Int32) < (own_count (3 : Int32) (0 : Int32) (1 : Int32) (1 : Int32)) := by decide
  refine ⟨?_, ?_⟩
  · have h0 : (1 + ((1 : Int32) - 1 + (0 : Int32)) % (3 : Int32)) = (1 : Int32) := by decide
    rw [own_skip (n := (3 : Int32)) (c := (own_count (3 : Int32) (0 : Int32) (1 : Int32) (1 : Int32))) (u := (own_at u0 (0 : Int32) (1 : Int32) (1 : Int32))) (now := now) (t0 := t0) (r := r) (k := 2) (i := (0 : Int32)) (s := ((-1 : Int32), y, (1 : Int32))) rfl hc (show (own_at u0 (0 : Int32) (1 : Int32) (1 : Int32)) (1 + ((1 : Int32) - 1 + (0 : Int32)) % (3 : Int32)) = 0 by rw [h0]; rfl)]
    have h1 : (1 + ((1 : Int32) - 1 + ((0 : Int32) + 1)) % (3 : Int32)) = (2 : Int32) := by decide
    have hn : (1 : Int32) + (2 : Int32) % (3 : Int32) = (3 : Int32) := by decide
    rw [own_take (n := (3 : Int32)) (c := (own_count (3 : Int32) (0 : Int32) (1 : Int32) (1 : Int32))) (u := (own_at u0 (0 : Int32) (1 : Int32) (1 : Int32))) (now := now) (t0 := t0) (r := r) (k := 1) (i := ((0 : Int32) + 1)) (s := ((-1 : Int32), y, (1 : Int32))) rfl hc (show ¬ (own_at u0 (0 : Int32) (1 : Int32) (1 : Int32)) (1 + ((1 : Int32) - 1 + ((0 : Int32) + 1)) % (3 : Int32)) = 0 by rw [h1]; exact fun h => absurd (show (1 : Int32) = 0 from h) (by decide)) hl]
    show own_loop _ _ _ _ _ _ _ _ ((1 + ((1 : Int32) - 1 + ((0 : Int32) + 1)) % (3 : Int32)), now, 1 + (1 + ((1 : Int32) - 1 + ((0 : Int32) + 1)) % (3 : Int32)) % (3 : Int32)) = _
    rw [h1, hn]
    exact own_out1 (n := (3 : Int32)) (c := (own_count (3 : Int32) (0 : Int32) (1 : Int32) (1 : Int32))) (u := (own_at u0 (0 : Int32) (1 : Int32) (1 : Int32))) (now := now) (t0 := t0) (r := r) (k := 0) (i := (((0 : Int32) + 1) + 1)) (s := ((2 : Int32), now, (3 : Int32))) (show ¬ (2 : Int32) = -1 by decide)
  · have w0 : own_wrap (1 : Int32) (3 : Int32) = (1 : Int32) := by decide
    have w1 : own_wrap ((1 : Int32) + 1) (3 : Int32) = (2 : Int32) := by decide
    have w2 : own_wrap ((1 : Int32) + 2) (3 : Int32) = (3 : Int32) := by decide
    have hf : own_first (3 : Int32) (own_at u0 (0 : Int32) (1 : Int32) (1 : Int32)) (1 : Int32) = (2 : Int32) := by unfold own_first; rw [w0, w1, w2]; rfl
    rw [own_model, if_pos rfl, if_pos hc, if_neg hl]
    show (own_first (3 : Int32) (own_at u0 (0 : Int32) (1 : Int32) (1 : Int32)) (1 : Int32), now, if own_first (3 : Int32) (own_at u0 (0 : Int32) (1 : Int32) (1 : Int32)) (1 : Int32) = (3 : Int32) then 1 else own_first (3 : Int32) (own_at u0 (0 : Int32) (1 : Int32) (1 : Int32)) (1 : Int32) + 1) = _
    rw [hf]
    rfl
theorem own_c3_011_2 (u0 : Int32) (now t0 r y : Int64) (hl : ¬ now - t0 < r) : own_loop (3 : Int32) (own_count (3 : Int32) (0 : Int32) (1 : Int32) (1 : Int32)) (own_at u0 (0 : Int32) (1 : Int32) (1 : Int32)) now t0 r 3 0 (-1, y, (2 : Int32)) = ((2 : Int32), now, (3 : Int32)) ∧ own_model (3 : Int32) (own_count (3 : Int32) (0 : Int32) (1 : Int32) (1 : Int32)) (own_at u0 (0 : Int32) (1 : Int32) (1 : Int32)) now t0 r (-1, y, (2 : Int32)) = ((2 : Int32), now, (3 : Int32)) := by
  have hc : (1 : Int32) < (own_count (3 : Int32) (0 : Int32) (1 : Int32) (1 : Int32)) := by decide
  refine ⟨?_, ?_⟩
  · have h0 : (1 + ((2 : Int32) - 1 + (0 : Int32)) % (3 : Int32)) = (2 : Int32) := by decide
    have hn : (1 : Int32) + (2 : Int32) % (3 : Int32) = (3 : Int32) := by decide
    rw [own_take (n := (3 : Int32)) (c := (own_count (3 : Int32) (0 : Int32) (1 : Int32) (1 : Int32))) (u := (own_at u0 (0 : Int32) (1 : Int32) (1 : Int32))) (now := now) (t0 := t0) (r := r) (k := 2) (i := (0 : Int32)) (s := ((-1 : Int32), y, (2 : Int32))) rfl hc (show ¬ (own_at u0 (0 : Int32) (1 : Int32) (1 : Int32)) (1 + ((2 : Int32) - 1 + (0 : Int32)) % (3 : Int32)) = 0 by rw [h0]; exact fun h => absurd (show (1 : Int32) = 0 from h) (by decide)) hl]
    show own_loop _ _ _ _ _ _ _ _ ((1 + ((2 : Int32) - 1 + (0 : Int32)) % (3 : Int32)), now, 1 + (1 + ((2 : Int32) - 1 + (0 : Int32)) % (3 : Int32)) % (3 : Int32)) = _
    rw [h0, hn]
    exact own_out1 (n := (3 : Int32)) (c := (own_count (3 : Int32) (0 : Int32) (1 : Int32) (1 : Int32))) (u := (own_at u0 (0 : Int32) (1 : Int32) (1 : Int32))) (now := now) (t0 := t0) (r := r) (k := 1) (i := ((0 : Int32) + 1)) (s := ((2 : Int32), now, (3 : Int32))) (show ¬ (2 : Int32) = -1 by decide)
  · have w0 : own_wrap (2 : Int32) (3 : Int32) = (2 : Int32) := by decide
    have w1 : own_wrap ((2 : Int32) + 1) (3 : Int32) = (3 : Int32) := by decide
    have w2 : own_wrap ((2 : Int32) + 2) (3 : Int32) = (1 : Int32) := by decide
    have hf : own_first (3 : Int32) (own_at u0 (0 : Int32) (1 : Int32) (1 : Int32)) (2 : Int32) = (2 : Int32) := by unfold own_first; rw [w0, w1, w2]; rfl
    rw [own_model, if_pos rfl, if_pos hc, if_neg hl]
    show (own_first (3 : Int32) (own_at u0 (0 : Int32) (1 : Int32) (1 : Int32)) (2 : Int32), now, if own_first (3 : Int32) (own_at u0 (0 : Int32) (1 : Int32) (1 : Int32)) (2 : Int32) = (3 : Int32) then 1 else own_first (3 : Int32) (own_at u0 (0 : Int32) (1 : Int32) (1 : Int32)) (2 : Int32) + 1) = _
    rw [hf]
    rfl
theorem own_c3_011_3 (u0 : Int32) (now t0 r y : Int64) (hl : ¬ now - t0 < r) : own_loop (3 : Int32) (own_count (3 : Int32) (0 : Int32) (1 : Int32) (1 : Int32)) (own_at u0 (0 : Int32) (1 : Int32) (1 : Int32)) now t0 r 3 0 (-1, y, (3 : Int32)) = ((3 : Int32), now, (1 : Int32)) ∧ own_model (3 : Int32) (own_count (3 : Int32) (0 : Int32) (1 : Int32) (1 : Int32)) (own_at u0 (0 : Int32) (1 : Int32) (1 : Int32)) now t0 r (-1, y, (3 : Int32)) = ((3 : Int32), now, (1 : Int32)) := by
  have hc : (1 : Int32) < (own_count (3 : Int32) (0 : Int32) (1 : Int32) (1 : Int32)) := by decide
  refine ⟨?_, ?_⟩
  · have h0 : (1 + ((3 : Int32) - 1 + (0 : Int32)) % (3 : Int32)) = (3 : Int32) := by decide
    have hn : (1 : Int32) + (3 : Int32) % (3 : Int32) = (1 : Int32) := by decide
    rw [own_take (n := (3 : Int32)) (c := (own_count (3 : Int32) (0 : Int32) (1 : Int32) (1 : Int32))) (u := (own_at u0 (0 : Int32) (1 : Int32) (1 : Int32))) (now := now) (t0 := t0) (r := r) (k := 2) (i := (0 : Int32)) (s := ((-1 : Int32), y, (3 : Int32))) rfl hc (show ¬ (own_at u0 (0 : Int32) (1 : Int32) (1 : Int32)) (1 + ((3 : Int32) - 1 + (0 : Int32)) % (3 : Int32)) = 0 by rw [h0]; exact fun h => absurd (show (1 : Int32) = 0 from h) (by decide)) hl]
    show own_loop _ _ _ _ _ _ _ _ ((1 + ((3 : Int32) - 1 + (0 : Int32)) % (3 : Int32)), now, 1 + (1 + ((3 : Int32) - 1 + (0 : Int32)) % (3 : Int32)) % (3 : Int32)) = _
    rw [h0, hn]
    exact own_out1 (n := (3 : Int32)) (c := (own_count (3 : Int32) (0 : Int32) (1 : Int32) (1 : Int32))) (u := (own_at u0 (0 : Int32) (1 : Int32) (1 : Int32))) (now := now) (t0 := t0) (r := r) (k := 1) (i := ((0 : Int32) + 1)) (s := ((3 : Int32), now, (1 : Int32))) (show ¬ (3 : Int32) = -1 by decide)
  · have w0 : own_wrap (3 : Int32) (3 : Int32) = (3 : Int32) := by decide
    have w1 : own_wrap ((3 : Int32) + 1) (3 : Int32) = (1 : Int32) := by decide
    have w2 : own_wrap ((3 : Int32) + 2) (3 : Int32) = (2 : Int32) := by decide
    have hf : own_first (3 : Int32) (own_at u0 (0 : Int32) (1 : Int32) (1 : Int32)) (3 : Int32) = (3 : Int32) := by unfold own_first; rw [w0, w1, w2]; rfl
    rw [own_model, if_pos rfl, if_pos hc, if_neg hl]
    show (own_first (3 : Int32) (own_at u0 (0 : Int32) (1 : Int32) (1 : Int32)) (3 : Int32), now, if own_first (3 : Int32) (own_at u0 (0 : Int32) (1 : Int32) (1 : Int32)) (3 : Int32) = (3 : Int32) then 1 else own_first (3 : Int32) (own_at u0 (0 : Int32) (1 : Int32) (1 : Int32)) (3 : Int32) + 1) = _
    rw [hf]
    rfl
theorem own_c3_101_1 (u0 : Int32) (now t0 r y : Int64) (hl : ¬ now - t0 < r) : own_loop (3 : Int32) (own_count (3 : Int32) (1 : Int32) (0 : Int32) (1 : Int32)) (own_at u0 (1 : Int32) (0 : Int32) (1 : Int32)) now t0 r 3 0 (-1, y, (1 : Int32)) = ((1 : Int32), now, (2 : Int32)) ∧ own_model (3 : Int32) (own_count (3 : Int32) (1 : Int32) (0 : Int32) (1 : Int32)) (own_at u0 (1 : Int32) (0 : Int32) (1 : Int32)) now t0 r (-1, y, (1 : Int32)) = ((1 : Int32), now, (2 : Int32)) := by
  have hc : (1 : Int32) < (own_count (3 : Int32) (1 : Int32) (0 : Int32) (1 : Int32)) := by decide
  refine ⟨?_, ?_⟩
  · have h0 : (1 + ((1 : Int32) - 1 + (0 : Int32)) % (3 : Int32)) = (1 : Int32) := by decide
    have hn : (1 : Int32) + (1 : Int32) % (3 : Int32) = (2 : Int32) := by decide
    rw [own_take (n := (3 : Int32)) (c := (own_count (3 : Int32) (1 : Int32) (0 : Int32) (1 : Int32))) (u := (own_at u0 (1 : Int32) (0 : Int32) (1 : Int32))) (now := now) (t0 := t0) (r := r) (k := 2) (i := (0 : Int32)) (s := ((-1 : Int32), y, (1 : Int32))) rfl hc (show ¬ (own_at u0 (1 : Int32) (0 : Int32) (1 : Int32)) (1 + ((1 : Int32) - 1 + (0 : Int32)) % (3 : Int32)) = 0 by rw [h0]; exact fun h => absurd (show (1 : Int32) = 0 from h) (by decide)) hl]
    show own_loop _ _ _ _ _ _ _ _ ((1 + ((1 : Int32) - 1 + (0 : Int32)) % (3 : Int32)), now, 1 + (1 + ((1 : Int32) - 1 + (0 : Int32)) % (3 : Int32)) % (3 : Int32)) = _
    rw [h0, hn]
    exact own_out1 (n := (3 : Int32)) (c := (own_count (3 : Int32) (1 : Int32) (0 : Int32) (1 : Int32))) (u := (own_at u0 (1 : Int32) (0 : Int32) (1 : Int32))) (now := now) (t0 := t0) (r := r) (k := 1) (i := ((0 : Int32) + 1)) (s := ((1 : Int32), now, (2 : Int32))) (show ¬ (1 : Int32) = -1 by decide)
  · have w0 : own_wrap (1 : Int32) (3 : Int32) = (1 : Int32) := by decide
    have w1 : own_wrap ((1 : Int32) + 1) (3 : Int32) = (2 : Int32) := by decide
    have w2 : own_wrap ((1 : Int32) + 2) (3 : Int32) = (3 : Int32) := by decide
    have hf : own_first (3 : Int32) (own_at u0 (1 : Int32) (0 : Int32) (1 : Int32)) (1 : Int32) = (1 : Int32) := by unfold own_first; rw [w0, w1, w2]; rfl
    rw [own_model, if_pos rfl, if_pos hc, if_neg hl]
    show (own_first (3 : Int32) (own_at u0 (1 : Int32) (0 : Int32) (1 : Int32)) (1 : Int32), now, if own_first (3 : Int32) (own_at u0 (1 : Int32) (0 : Int32) (1 : Int32)) (1 : Int32) = (3 : Int32) then 1 else own_first (3 : Int32) (own_at u0 (1 : Int32) (0 : Int32) (1 : Int32)) (1 : Int32) + 1) = _
    rw [hf]
    rfl
theorem own_c3_101_2 (u0 : Int32) (now t0 r y : Int64) (hl : ¬ now - t0 < r) : own_loop (3 : Int32) (own_count (3 : Int32) (1 : Int32) (0 : Int32) (1 : Int32)) (own_at u0 (1 : Int32) (0 : Int32) (1 : Int32)) now t0 r 3 0 (-1, y, (2 : Int32)) = ((3 : Int32), now, (1 : Int32)) ∧ own_model (3 : Int32) (own_count (3 : Int32) (1 : Int32) (0 : Int32) (1 : Int32)) (own_at u0 (1 : Int32) (0 : Int32) (1 : Int32)) now t0 r (-1, y, (2 : Int32)) = ((3 : Int32), now, (1 : Int32)) := by
  have hc : (1 : Int32) < (own_count (3 : Int32) (1 : Int32) (0 : Int32) (1 : Int32)) := by decide
  refine ⟨?_, ?_⟩
  · have h0 : (1 + ((2 : Int32) - 1 + (0 : Int32)) % (3 : Int32)) = (2 : Int32) := by decide
    rw [own_skip (n := (3 : Int32)) (c := (own_count (3 : Int32) (1 : Int32) (0 : Int32) (1 : Int32))) (u := (own_at u0 (1 : Int32) (0 : Int32) (1 : Int32))) (now := now) (t0 := t0) (r := r) (k := 2) (i := (0 : Int32)) (s := ((-1 : Int32), y, (2 : Int32))) rfl hc (show (own_at u0 (1 : Int32) (0 : Int32) (1 : Int32)) (1 + ((2 : Int32) - 1 + (0 : Int32)) % (3 : Int32)) = 0 by rw [h0]; rfl)]
    have h1 : (1 + ((2 : Int32) - 1 + ((0 : Int32) + 1)) % (3 : Int32)) = (3 : Int32) := by decide
    have hn : (1 : Int32) + (3 : Int32) % (3 : Int32) = (1 : Int32) := by decide
    rw [own_take (n := (3 : Int32)) (c := (own_count (3 : Int32) (1 : Int32) (0 : Int32) (1 : Int32))) (u := (own_at u0 (1 : Int32) (0 : Int32) (1 : Int32))) (now := now) (t0 := t0) (r := r) (k := 1) (i := ((0 : Int32) + 1)) (s := ((-1 : Int32), y, (2 : Int32))) rfl hc (show ¬ (own_at u0 (1 : Int32) (0 : Int32) (1 : Int32)) (1 + ((2 : Int32) - 1 + ((0 : Int32) + 1)) % (3 : Int32)) = 0 by rw [h1]; exact fun h => absurd (show (1 : Int32) = 0 from h) (by decide)) hl]
    show own_loop _ _ _ _ _ _ _ _ ((1 + ((2 : Int32) - 1 + ((0 : Int32) + 1)) % (3 : Int32)), now, 1 + (1 + ((2 : Int32) - 1 + ((0 : Int32) + 1)) % (3 : Int32)) % (3 : Int32)) = _
    rw [h1, hn]
    exact own_out1 (n := (3 : Int32)) (c := (own_count (3 : Int32) (1 : Int32) (0 : Int32) (1 : Int32))) (u := (own_at u0 (1 : Int32) (0 : Int32) (1 : Int32))) (now := now) (t0 := t0) (r := r) (k := 0) (i := (((0 : Int32) + 1) + 1)) (s := ((3 : Int32), now, (1 : Int32))) (show ¬ (3 : Int32) = -1 by decide)
  · have w0 : own_wrap (2 : Int32) (3 : Int32) = (2 : Int32) := by decide
    have w1 : own_wrap ((2 : Int32) + 1) (3 : Int32) = (3 : Int32) := by decide
    have w2 : own_wrap ((2 : Int32) + 2) (3 : Int32) = (1 : Int32) := by decide
    have hf : own_first (3 : Int32) (own_at u0 (1 : Int32) (0 : Int32) (1 : Int32)) (2 : Int32) = (3 : Int32) := by unfold own_first; rw [w0, w1, w2]; rfl
    rw [own_model, if_pos rfl, if_pos hc, if_neg hl]
    show (own_first (3 : Int32) (own_at u0 (1 : Int32) (0 : Int32) (1 : Int32)) (2 : Int32), now, if own_first (3 : Int32) (own_at u0 (1 : Int32) (0 : Int32) (1 : Int32)) (2 : Int32) = (3 : Int32) then 1 else own_first (3 : Int32) (own_at u0 (1 : Int32) (0 : Int32) (1 : Int32)) (2 : Int32) + 1) = _
    rw [hf]
    rfl
theorem own_c3_101_3 (u0 : Int32) (now t0 r y : Int64) (hl : ¬ now - t0 < r) : own_loop (3 : Int32) (own_count (3 : Int32) (1 : Int32) (0 : Int32) (1 : Int32)) (own_at u0 (1 : Int32) (0 : Int32) (1 : Int32)) now t0 r 3 0 (-1, y, (3 : Int32)) = ((3 : Int32), now, (1 : Int32)) ∧ own_model (3 : Int32) (own_count (3 : Int32) (1 : Int32) (0 : Int32) (1 : Int32)) (own_at u0 (1 : Int32) (0 : Int32) (1 : Int32)) now t0 r (-1, y, (3 : Int32)) = ((3 : Int32), now, (1 : Int32)) := by
  have hc : (1 : Int32) < (own_count (3 : Int32) (1 : Int32) (0 : Int32) (1 : Int32)) := by decide
  refine ⟨?_, ?_⟩
  · have h0 : (1 + ((3 : Int32) - 1 + (0 : Int32)) % (3 : Int32)) = (3 : Int32) := by decide
    have hn : (1 : Int32) + (3 : Int32) % (3 : Int32) = (1 : Int32) := by decide
    rw [own_take (n := (3 : Int32)) (c := (own_count (3 : Int32) (1 : Int32) (0 : Int32) (1 : Int32))) (u := (own_at u0 (1 : Int32) (0 : Int32) (1 : Int32))) (now := now) (t0 := t0) (r := r) (k := 2) (i := (0 : Int32)) (s := ((-1 : Int32), y, (3 : Int32))) rfl hc (show ¬ (own_at u0 (1 : Int32) (0 : Int32) (1 : Int32)) (1 + ((3 : Int32) - 1 + (0 : Int32)) % (3 : Int32)) = 0 by rw [h0]; exact fun h => absurd (show (1 : Int32) = 0 from h) (by decide)) hl]
    show own_loop _ _ _ _ _ _ _ _ ((1 + ((3 : Int32) - 1 + (0 : Int32)) % (3 : Int32)), now, 1 + (1 + ((3 : Int32) - 1 + (0 : Int32)) % (3 : Int32)) % (3 : Int32)) = _
    rw [h0, hn]
    exact own_out1 (n := (3 : Int32)) (c := (own_count (3 : Int32) (1 : Int32) (0 : Int32) (1 : Int32))) (u := (own_at u0 (1 : Int32) (0 : Int32) (1 : Int32))) (now := now) (t0 := t0) (r := r) (k := 1) (i := ((0 : Int32) + 1)) (s := ((3 : Int32), now, (1 : Int32))) (show ¬ (3 : Int32) = -1 by decide)
  · have w0 : own_wrap (3 : Int32) (3 : Int32) = (3 : Int32) := by decide
    have w1 : own_wrap ((3 : Int32) + 1) (3 : Int32) = (1 : Int32) := by decide
    have w2 : own_wrap ((3 : Int32) + 2) (3 : Int32) = (2 : Int32) := by decide
    have hf : own_first (3 : Int32) (own_at u0 (1 : Int32) (0 : Int32) (1 : Int32)) (3 : Int32) = (3 : Int32) := by unfold own_first; rw [w0, w1, w2]; rfl
    rw [own_model, if_pos rfl, if_pos hc, if_neg hl]
    show (own_first (3 : Int32) (own_at u0 (1 : Int32) (0 : Int32) (1 : Int32)) (3 : Int32), now, if own_first (3 : Int32) (own_at u0 (1 : Int32) (0 : Int32) (1 : Int32)) (3 : Int32) = (3 : Int32) then 1 else own_first (3 : Int32) (own_at u0 (1 : Int32) (0 : Int32) (1 : Int32)) (3 : Int32) + 1) = _
    rw [hf]
    rfl
theorem own_c3_110_1 (u0 : Int32) (now t0 r y : Int64) (hl : ¬ now - t0 < r) : own_loop (3 : Int32) (own_count (3 : Int32) (1 : Int32) (1 : Int32) (0 : Int32)) (own_at u0 (1 : Int32) (1 : Int32) (0 : Int32)) now t0 r 3 0 (-1, y, (1 : Int32)) = ((1 : Int32), now, (2 : Int32)) ∧ own_model (3 : Int32) (own_count (3 : Int32) (1 : Int32) (1 : Int32) (0 : Int32)) (own_at u0 (1 : Int32) (1 : Int32) (0 : Int32)) now t0 r (-1, y, (1 : Int32)) = ((1 : Int32), now, (2 : Int32)) := by
  have hc : (1 : Int32) < (own_count (3 : Int32) (1 : Int32) (1 : Int32) (0 : Int32)) := by decide
  refine ⟨?_, ?_⟩
  · have h0 : (1 + ((1 : Int32) - 1 + (0 : Int32)) % (3 : Int32)) = (1 : Int32) := by decide
    have hn : (1 : Int32) + (1 : Int32) % (3 : Int32) = (2 : Int32) := by decide
    rw [own_take (n := (3 : Int32)) (c := (own_count (3 : Int32) (1 : Int32) (1 : Int32) (0 : Int32))) (u := (own_at u0 (1 : Int32) (1 : Int32) (0 : Int32))) (now := now) (t0 := t0) (r := r) (k := 2) (i := (0 : Int32)) (s := ((-1 : Int32), y, (1 : Int32))) rfl hc (show ¬ (own_at u0 (1 : Int32) (1 : Int32) (0 : Int32)) (1 + ((1 : Int32) - 1 + (0 : Int32)) % (3 : Int32)) = 0 by rw [h0]; exact fun h => absurd (show (1 : Int32) = 0 from h) (by decide)) hl]
    show own_loop _ _ _ _ _ _ _ _ ((1 + ((1 : Int32) - 1 + (0 : Int32)) % (3 : Int32)), now, 1 + (1 + ((1 : Int32) - 1 + (0 : Int32)) % (3 : Int32)) % (3 : Int32)) = _
    rw [h0, hn]
    exact own_out1 (n := (3 : Int32)) (c := (own_count (3 : Int32) (1 : Int32) (1 : Int32) (0 : Int32))) (u := (own_at u0 (1 : Int32) (1 : Int32) (0 : Int32))) (now := now) (t0 := t0) (r := r) (k := 1) (i := ((0 : Int32) + 1)) (s := ((1 : Int32), now, (2 : Int32))) (show ¬ (1 : Int32) = -1 by decide)
  · have w0 : own_wrap (1 : Int32) (3 : Int32) = (1 : Int32) := by decide
    have w1 : own_wrap ((1 : Int32) + 1) (3 : Int32) = (2 : Int32) := by decide
    have w2 : own_wrap ((1 : Int32) + 2) (3 : Int32) = (3 : Int32) := by decide
    have hf : own_first (3 : Int32) (own_at u0 (1 : Int32) (1 : Int32) (0 : Int32)) (1 : Int32) = (1 : Int32) := by unfold own_first; rw [w0, w1, w2]; rfl
    rw [own_model, if_pos rfl, if_pos hc, if_neg hl]
    show (own_first (3 : Int32) (own_at u0 (1 : Int32) (1 : Int32) (0 : Int32)) (1 : Int32), now, if own_first (3 : Int32) (own_at u0 (1 : Int32) (1 : Int32) (0 : Int32)) (1 : Int32) = (3 : Int32) then 1 else own_first (3 : Int32) (own_at u0 (1 : Int32) (1 : Int32) (0 : Int32)) (1 : Int32) + 1) = _
    rw [hf]
    rfl
theorem own_c3_110_2 (u0 : Int32) (now t0 r y : Int64) (hl : ¬ now - t0 < r) : own_loop (3 : Int32) (own_count (3 : Int32) (1 : Int32) (1 : Int32) (0 : Int32)) (own_at u0 (1 : Int32) (1 : Int32) (0 : Int32)) now t0 r 3 0 (-1, y, (2 : Int32)) = ((2 : Int32), now, (3 : Int32)) ∧ own_model (3 : Int32) (own_count (3 : Int32) (1 : Int32) (1 : Int32) (0 : Int32)) (own_at u0 (1 : Int32) (1 : Int32) (0 : Int32)) now t0 r (-1, y, (2 : Int32)) = ((2 : Int32), now, (3 : Int32)) := by
  have hc : (1 : Int32) < (own_count (3 : Int32) (1 : Int32) (1 : Int32) (0 : Int32)) := by decide
  refine ⟨?_, ?_⟩
  · have h0 : (1 + ((2 : Int32) - 1 + (0 : Int32)) % (3 : Int32)) = (2 : Int32) := by decide
    have hn : (1 : Int32) + (2 : Int32) % (3 : Int32) = (3 : Int32) := by decide
    rw [own_take (n := (3 : Int32)) (c := (own_count (3 : Int32) (1 : Int32) (1 : Int32) (0 : Int32))) (u := (own_at u0 (1 : Int32) (1 : Int32) (0 : Int32))) (now := now) (t0 := t0) (r := r) (k := 2) (i := (0 : Int32)) (s := ((-1 : Int32), y, (2 : Int32))) rfl hc (show ¬ (own_at u0 (1 : Int32) (1 : Int32) (0 : Int32)) (1 + ((2 : Int32) - 1 + (0 : Int32)) % (3 : Int32)) = 0 by rw [h0]; exact fun h => absurd (show (1 : Int32) = 0 from h) (by decide)) hl]
    show own_loop _ _ _ _ _ _ _ _ ((1 + ((2 : Int32) - 1 + (0 : Int32)) % (3 : Int32)), now, 1 + (1 + ((2 : Int32) - 1 + (0 : Int32)) % (3 : Int32)) % (3 : Int32)) = _
    rw [h0, hn]
    exact own_out1 (n := (3 : Int32)) (c := (own_count (3 : Int32) (1 : Int32) (1 : Int32) (0 : Int32))) (u := (own_at u0 (1 : Int32) (1 : Int32) (0 : Int32))) (now := now) (t0 := t0) (r := r) (k := 1) (i := ((0 : Int32) + 1)) (s := ((2 : Int32), now, (3 : Int32))) (show ¬ (2 : Int32) = -1 by decide)
  · have w0 : own_wrap (2 : Int32) (3 : Int32) = (2 : Int32) := by decide
    have w1 : own_wrap ((2 : Int32) + 1) (3 : Int32) = (3 : Int32) := by decide
    have w2 : own_wrap ((2 : Int32) + 2) (3 : Int32) = (1 : Int32) := by decide
    have hf : own_first (3 : Int32) (own_at u0 (1 : Int32) (1 : Int32) (0 : Int32)) (2 : Int32) = (2 : Int32) := by unfold own_first; rw [w0, w1, w2]; rfl
    rw [own_model, if_pos rfl, if_pos hc, if_neg hl]
    show (own_first (3 : Int32) (own_at u0 (1 : Int32) (1 : Int32) (0 : Int32)) (2 : Int32), now, if own_first (3 : Int32) (own_at u0 (1 : Int32) (1 : Int32) (0 : Int32)) (2 : Int32) = (3 : Int32) then 1 else own_first (3 : Int32) (own_at u0 (1 : Int32) (1 : Int32) (0 : Int32)) (2 : Int32) + 1) = _
    rw [hf]
    rfl
theorem own_c3_110_3 (u0 : Int32) (now t0 r y : Int64) (hl : ¬ now - t0 < r) : own_loop (3 : Int32) (own_count (3 : Int32) (1 : Int32) (1 : Int32) (0 : Int32)) (own_at u0 (1 : Int32) (1 : Int32) (0 : Int32)) now t0 r 3 0 (-1, y, (3 : Int32)) = ((1 : Int32), now, (2 : Int32)) ∧ own_model (3 : Int32) (own_count (3 : Int32) (1 : Int32) (1 : Int32) (0 : Int32)) (own_at u0 (1 : Int32) (1 : Int32) (0 : Int32)) now t0 r (-1, y, (3 : Int32)) = ((1 : Int32), now, (2 : Int32)) := by
  have hc : (1 : Int32) < (own_count (3 : Int32) (1 : Int32) (1 : Int32) (0 : Int32)) := by decide
  refine ⟨?_, ?_⟩
  · have h0 : (1 + ((3 : Int32) - 1 + (0 : Int32)) % (3 : Int32)) = (3 : Int32) := by decide
    rw [own_skip (n := (3 : Int32)) (c := (own_count (3 : Int32) (1 : Int32) (1 : Int32) (0 : Int32))) (u := (own_at u0 (1 : Int32) (1 : Int32) (0 : Int32))) (now := now) (t0 := t0) (r := r) (k := 2) (i := (0 : Int32)) (s := ((-1 : Int32), y, (3 : Int32))) rfl hc (show (own_at u0 (1 : Int32) (1 : Int32) (0 : Int32)) (1 + ((3 : Int32) - 1 + (0 : Int32)) % (3 : Int32)) = 0 by rw [h0]; rfl)]
    have h1 : (1 + ((3 : Int32) - 1 + ((0 : Int32) + 1)) % (3 : Int32)) = (1 : Int32) := by decide
    have hn : (1 : Int32) + (1 : Int32) % (3 : Int32) = (2 : Int32) := by decide
    rw [own_take (n := (3 : Int32)) (c := (own_count (3 : Int32) (1 : Int32) (1 : Int32) (0 : Int32))) (u := (own_at u0 (1 : Int32) (1 : Int32) (0 : Int32))) (now := now) (t0 := t0) (r := r) (k := 1) (i := ((0 : Int32) + 1)) (s := ((-1 : Int32), y, (3 : Int32))) rfl hc (show ¬ (own_at u0 (1 : Int32) (1 : Int32) (0 : Int32)) (1 + ((3 : Int32) - 1 + ((0 : Int32) + 1)) % (3 : Int32)) = 0 by rw [h1]; exact fun h => absurd (show (1 : Int32) = 0 from h) (by decide)) hl]
    show own_loop _ _ _ _ _ _ _ _ ((1 + ((3 : Int32) - 1 + ((0 : Int32) + 1)) % (3 : Int32)), now, 1 + (1 + ((3 : Int32) - 1 + ((0 : Int32) + 1)) % (3 : Int32)) % (3 : Int32)) = _
    rw [h1, hn]
    exact own_out1 (n := (3 : Int32)) (c := (own_count (3 : Int32) (1 : Int32) (1 : Int32) (0 : Int32))) (u := (own_at u0 (1 : Int32) (1 : Int32) (0 : Int32))) (now := now) (t0 := t0) (r := r) (k := 0) (i := (((0 : Int32) + 1) + 1)) (s := ((1 : Int32), now, (2 : Int32))) (show ¬ (1 : Int32) = -1 by decide)
  · have w0 : own_wrap (3 : Int32) (3 : Int32) = (3 : Int32) := by decide
    have w1 : own_wrap ((3 : Int32) + 1) (3 : Int32) = (1 : Int32) := by decide
    have w2 : own_wrap ((3 : Int32) + 2) (3 : Int32) = (2 : Int32) := by decide
    have hf : own_first (3 : Int32) (own_at u0 (1 : Int32) (1 : Int32) (0 : Int32)) (3 : Int32) = (1 : Int32) := by unfold own_first; rw [w0, w1, w2]; rfl
    rw [own_model, if_pos rfl, if_pos hc, if_neg hl]
    show (own_first (3 : Int32) (own_at u0 (1 : Int32) (1 : Int32) (0 : Int32)) (3 : Int32), now, if own_first (3 : Int32) (own_at u0 (1 : Int32) (1 : Int32) (0 : Int32)) (3 : Int32) = (3 : Int32) then 1 else own_first (3 : Int32) (own_at u0 (1 : Int32) (1 : Int32) (0 : Int32)) (3 : Int32) + 1) = _
    rw [hf]
    rfl
theorem own_c3_111_1 (u0 : Int32) (now t0 r y : Int64) (hl : ¬ now - t0 < r) : own_loop (3 : Int32) (own_count (3 : Int32) (1 : Int32) (1 : Int32) (1 : Int32)) (own_at u0 (1 : Int32) (1 : Int32) (1 : Int32)) now t0 r 3 0 (-1, y, (1 : Int32)) = ((1 : Int32), now, (2 : Int32)) ∧ own_model (3 : Int32) (own_count (3 : Int32) (1 : Int32) (1 : Int32) (1 : Int32)) (own_at u0 (1 : Int32) (1 : Int32) (1 : Int32)) now t0 r (-1, y, (1 : Int32)) = ((1 : Int32), now, (2 : Int32)) := by
  have hc : (1 : Int32) < (own_count (3 : Int32) (1 : Int32) (1 : Int32) (1 : Int32)) := by decide
  refine ⟨?_, ?_⟩
  · have h0 : (1 + ((1 : Int32) - 1 + (0 : Int32)) % (3 : Int32)) = (1 : Int32) := by decide
    have hn : (1 : Int32) + (1 : Int32) % (3 : Int32) = (2 : Int32) := by decide
    rw [own_take (n := (3 : Int32)) (c := (own_count (3 : Int32) (1 : Int32) (1 : Int32) (1 : Int32))) (u := (own_at u0 (1 : Int32) (1 : Int32) (1 : Int32))) (now := now) (t0 := t0) (r := r) (k := 2) (i := (0 : Int32)) (s := ((-1 : Int32), y, (1 : Int32))) rfl hc (show ¬ (own_at u0 (1 : Int32) (1 : Int32) (1 : Int32)) (1 + ((1 : Int32) - 1 + (0 : Int32)) % (3 : Int32)) = 0 by rw [h0]; exact fun h => absurd (show (1 : Int32) = 0 from h) (by decide)) hl]
    show own_loop _ _ _ _ _ _ _ _ ((1 + ((1 : Int32) - 1 + (0 : Int32)) % (3 : Int32)), now, 1 + (1 + ((1 : Int32) - 1 + (0 : Int32)) % (3 : Int32)) % (3 : Int32)) = _
    rw [h0, hn]
    exact own_out1 (n := (3 : Int32)) (c := (own_count (3 : Int32) (1 : Int32) (1 : Int32) (1 : Int32))) (u := (own_at u0 (1 : Int32) (1 : Int32) (1 : Int32))) (now := now) (t0 := t0) (r := r) (k := 1) (i := ((0 : Int32) + 1)) (s := ((1 : Int32), now, (2 : Int32))) (show ¬ (1 : Int32) = -1 by decide)
  · have w0 : own_wrap (1 : Int32) (3 : Int32) = (1 : Int32) := by decide
    have w1 : own_wrap ((1 : Int32) + 1) (3 : Int32) = (2 : Int32) := by decide
    have w2 : own_wrap ((1 : Int32) + 2) (3 : Int32) = (3 : Int32) := by decide
    have hf : own_first (3 : Int32) (own_at u0 (1 : Int32) (1 : Int32) (1 : Int32)) (1 : Int32) = (1 : Int32) := by unfold own_first; rw [w0, w1, w2]; rfl
    rw [own_model, if_pos rfl, if_pos hc, if_neg hl]
    show (own_first (3 : Int32) (own_at u0 (1 : Int32) (1 : Int32) (1 : Int32)) (1 : Int32), now, if own_first (3 : Int32) (own_at u0 (1 : Int32) (1 : Int32) (1 : Int32)) (1 : Int32) = (3 : Int32) then 1 else own_first (3 : Int32) (own_at u0 (1 : Int32) (1 : Int32) (1 : Int32)) (1 : Int32) + 1) = _
    rw [hf]
    rfl
theorem own_c3_111_2 (u0 : Int32) (now t0 r y : Int64) (hl : ¬ now - t0 < r) : own_loop (3 : Int32) (own_count (3 : Int32) (1 : Int32) (1 : Int32) (1 : Int32)) (own_at u0 (1 : Int32) (1 : Int32) (1 : Int32)) now t0 r 3 0 (-1, y, (2 : Int32)) = ((2 : Int32), now, (3 : Int32)) ∧ own_model (3 : Int32) (own_count (3 : Int32) (1 : Int32) (1 : Int32) (1 : Int32)) (own_at u0 (1 : Int32) (1 : Int32) (1 : Int32)) now t0 r (-1, y, (2 : Int32)) = ((2 : Int32), now, (3 : Int32)) := by
  have hc : (1 : Int32) < (own_count (3 : Int32) (1 : Int32) (1 : Int32) (1 : Int32)) := by decide
  refine ⟨?_, ?_⟩
  · have h0 : (1 + ((2 : Int32) - 1 + (0 : Int32)) % (3 : Int32)) = (2 : Int32) := by decide
    have hn : (1 : Int32) + (2 : Int32) % (3 : Int32) = (3 : Int32) := by decide
    rw [own_take (n := (3 : Int32)) (c := (own_count (3 : Int32) (1 : Int32) (1 : Int32) (1 : Int32))) (u := (own_at u0 (1 : Int32) (1 : Int32) (1 : Int32))) (now := now) (t0 := t0) (r := r) (k := 2) (i := (0 : Int32)) (s := ((-1 : Int32), y, (2 : Int32))) rfl hc (show ¬ (own_at u0 (1 : Int32) (1 : Int32) (1 : Int32)) (1 + ((2 : Int32) - 1 + (0 : Int32)) % (3 : Int32)) = 0 by rw [h0]; exact fun h => absurd (show (1 : Int32) = 0 from h) (by decide)) hl]
    show own_loop _ _ _ _ _ _ _ _ ((1 + ((2 : Int32) - 1 + (0 : Int32)) % (3 : Int32)), now, 1 + (1 + ((2 : Int32) - 1 + (0 : Int32)) % (3 : Int32)) % (3 : Int32)) = _
    rw [h0, hn]
    exact own_out1 (n := (3 : Int32)) (c := (own_count (3 : Int32) (1 : Int32) (1 : Int32) (1 : Int32))) (u := (own_at u0 (1 : Int32) (1 : Int32) (1 : Int32))) (now := now) (t0 := t0) (r := r) (k := 1) (i := ((0 : Int32) + 1)) (s := ((2 : Int32), now, (3 : Int32))) (show ¬ (2 : Int32) = -1 by decide)
  · have w0 : own_wrap (2 : Int32) (3 : Int32) = (2 : Int32) := by decide
    have w1 : own_wrap ((2 : Int32) + 1) (3 : Int32) = (3 : Int32) := by decide
    have w2 : own_wrap ((2 : Int32) + 2) (3 : Int32) = (1 : Int32) := by decide
    have hf : own_first (3 : Int32) (own_at u0 (1 : Int32) (1 : Int32) (1 : Int32)) (2 : Int32) = (2 : Int32) := by unfold own_first; rw [w0, w1, w2]; rfl
    rw [own_model, if_pos rfl, if_pos hc, if_neg hl]
    show (own_first (3 : Int32) (own_at u0 (1 : Int32) (1 : Int32) (1 : Int32)) (2 : Int32), now, if own_first (3 : Int32) (own_at u0 (1 : Int32) (1 : Int32) (1 : Int32)) (2 : Int32) = (3 : Int32) then 1 else own_first (3 : Int32) (own_at u0 (1 : Int32) (1 : Int32) (1 : Int32)) (2 : Int32) + 1) = _
    rw [hf]
    rfl
theorem own_c3_111_3 (u0 : Int32) (now t0 r y : Int64) (hl : ¬ now - t0 < r) : own_loop (3 : Int32) (own_count (3 : Int32) (1 : Int32) (1 : Int32) (1 : Int32)) (own_at u0 (1 : Int32) (1 : Int32) (1 : Int32)) now t0 r 3 0 (-1, y, (3 : Int32)) = ((3 : Int32), now, (1 : Int32)) ∧ own_model (3 : Int32) (own_count (3 : Int32) (1 : Int32) (1 : Int32) (1 : Int32)) (own_at u0 (1 : Int32) (1 : Int32) (1 : Int32)) now t0 r (-1, y, (3 : Int32)) = ((3 : Int32), now, (1 : Int32)) := by
  have hc : (1 : Int32) < (own_count (3 : Int32) (1 : Int32) (1 : Int32) (1 : Int32)) := by decide
  refine ⟨?_, ?_⟩
  · have h0 : (1 + ((3 : Int32) - 1 + (0 : Int32)) % (3 : Int32)) = (3 : Int32) := by decide
    have hn : (1 : Int32) + (3 : Int32) % (3 : Int32) = (1 : Int32) := by decide
    rw [own_take (n := (3 : Int32)) (c := (own_count (3 : Int32) (1 : Int32) (1 : Int32) (1 : Int32))) (u := (own_at u0 (1 : Int32) (1 : Int32) (1 : Int32))) (now := now) (t0 := t0) (r := r) (k := 2) (i := (0 : Int32)) (s := ((-1 : Int32), y, (3 : Int32))) rfl hc (show ¬ (own_at u0 (1 : Int32) (1 : Int32) (1 : Int32)) (1 + ((3 : Int32) - 1 + (0 : Int32)) % (3 : Int32)) = 0 by rw [h0]; exact fun h => absurd (show (1 : Int32) = 0 from h) (by decide)) hl]
    show own_loop _ _ _ _ _ _ _ _ ((1 + ((3 : Int32) - 1 + (0 : Int32)) % (3 : Int32)), now, 1 + (1 + ((3 : Int32) - 1 + (0 : Int32)) % (3 : Int32)) % (3 : Int32)) = _
    rw [h0, hn]
    exact own_out1 (n := (3 : Int32)) (c := (own_count (3 : Int32) (1 : Int32) (1 : Int32) (1 : Int32))) (u := (own_at u0 (1 : Int32) (1 : Int32) (1 : Int32))) (now := now) (t0 := t0) (r := r) (k := 1) (i := ((0 : Int32) + 1)) (s := ((3 : Int32), now, (1 : Int32))) (show ¬ (3 : Int32) = -1 by decide)
  · have w0 : own_wrap (3 : Int32) (3 : Int32) = (3 : Int32) := by decide
    have w1 : own_wrap ((3 : Int32) + 1) (3 : Int32) = (1 : Int32) := by decide
    have w2 : own_wrap ((3 : Int32) + 2) (3 : Int32) = (2 : Int32) := by decide
    have hf : own_first (3 : Int32) (own_at u0 (1 : Int32) (1 : Int32) (1 : Int32)) (3 : Int32) = (3 : Int32) := by unfold own_first; rw [w0, w1, w2]; rfl
    rw [own_model, if_pos rfl, if_pos hc, if_neg hl]
    show (own_first (3 : Int32) (own_at u0 (1 : Int32) (1 : Int32) (1 : Int32)) (3 : Int32), now, if own_first (3 : Int32) (own_at u0 (1 : Int32) (1 : Int32) (1 : Int32)) (3 : Int32) = (3 : Int32) then 1 else own_first (3 : Int32) (own_at u0 (1 : Int32) (1 : Int32) (1 : Int32)) (3 : Int32) + 1) = _
    rw [hf]
    rfl
theorem own_same_3 (u0 u1 u2 u3 : Int32) (hb1 : own_bit u1) (hb2 : own_bit u2) (hb3 : own_bit u3) (now t0 r : Int64) (s : own_St) (hz : own_in (3 : Int32) s.2.2) : own_loop (3 : Int32) (own_count (3 : Int32) u1 u2 u3) (own_at u0 u1 u2 u3) now t0 r 3 0 s = own_model (3 : Int32) (own_count (3 : Int32) u1 u2 u3) (own_at u0 u1 u2 u3) now t0 r s ∧ own_in (3 : Int32) (own_model (3 : Int32) (own_count (3 : Int32) u1 u2 u3) (own_at u0 u1 u2 u3) now t0 r s).2.2 := by
  obtain ⟨x, y, z⟩ := s
  by_cases hx : x = -1
  · subst hx
    by_cases hc : (1 : Int32) < (own_count (3 : Int32) u1 u2 u3)
    · by_cases hl : now - t0 < r
      · have e1 : own_model (3 : Int32) (own_count (3 : Int32) u1 u2 u3) (own_at u0 u1 u2 u3) now t0 r (-1, y, z) = (-1, y, z) := by rw [own_model, if_pos rfl, if_pos hc, if_pos hl]
        rw [e1, own_loop_late hl]
        exact ⟨rfl, hz⟩
      · rcases hb1 with rfl | rfl <;> rcases hb2 with rfl | rfl <;> rcases hb3 with rfl | rfl
        · exact absurd hc (by decide)
        · exact absurd hc (by decide)
        · exact absurd hc (by decide)
        · rcases hz with ⟨-, h⟩ | ⟨h, -⟩ | ⟨-, rfl | rfl | rfl⟩
          · exact absurd h (by decide)
          · exact absurd h (by decide)
          · obtain ⟨e1, e2⟩ := own_c3_011_1 u0 now t0 r y hl
            rw [e1, e2]
            exact ⟨rfl, by show own_in (3 : Int32) (3 : Int32); decide⟩
          · obtain ⟨e1, e2⟩ := own_c3_011_2 u0 now t0 r y hl
            rw [e1, e2]
            exact ⟨rfl, by show own_in (3 : Int32) (3 : Int32); decide⟩
          · obtain ⟨e1, e2⟩ := own_c3_011_3 u0 now t0 r y hl
            rw [e1, e2]
            exact ⟨rfl, by show own_in (3 : Int32) (1 : Int32); decide⟩
        · exact absurd hc (by decide)
        · rcases hz with ⟨-, h⟩ | ⟨h, -⟩ | ⟨-, rfl | rfl | rfl⟩
          · exact absurd h (by decide)
          · exact absurd h (by decide)
          · obtain ⟨e1, e2⟩ := own_c3_101_1 u0 now t0 r y hl
            rw [e1, e2]
            exact ⟨rfl, by show own_in (3 : Int32) (2 : Int32); decide⟩
          · obtain ⟨e1, e2⟩ := own_c3_101_2 u0 now t0 r y hl
            rw [e1, e2]
            exact ⟨rfl, by show own_in (3 : Int32) (1 : Int32); decide⟩
          · obtain ⟨e1, e2⟩ := own_c3_101_3 u0 now t0 r y hl
            rw [e1, e2]
            exact ⟨rfl, by show own_in (3 : Int32) (1 : Int32); decide⟩
        · rcases hz with ⟨-, h⟩ | ⟨h, -⟩ | ⟨-, rfl | rfl | rfl⟩
          · exact absurd h (by decide)
          · exact absurd h (by decide)
          · obtain ⟨e1, e2⟩ := own_c3_110_1 u0 now t0 r y hl
            rw [e1, e2]
            exact ⟨rfl, by show own_in (3 : Int32) (2 : Int32); decide⟩
          · obtain ⟨e1, e2⟩ := own_c3_110_2 u0 now t0 r y hl
            rw [e1, e2]
            exact ⟨rfl, by show own_in (3 : Int32) (3 : Int32); decide⟩
          · obtain ⟨e1, e2⟩ := own_c3_110_3 u0 now t0 r y hl
            rw [e1, e2]
            exact ⟨rfl, by show own_in (3 : Int32) (2 : Int32); decide⟩
        · rcases hz with ⟨-, h⟩ | ⟨h, -⟩ | ⟨-, rfl | rfl | rfl⟩
          · exact absurd h (by decide)
          · exact absurd h (by decide)
          · obtain ⟨e1, e2⟩ := own_c3_111_1 u0 now t0 r y hl
            rw [e1, e2]
            exact ⟨rfl, by show own_in (3 : Int32) (2 : Int32); decide⟩
          · obtain ⟨e1, e2⟩ := own_c3_111_2 u0 now t0 r y hl
            rw [e1, e2]
            exact ⟨rfl, by show own_in (3 : Int32) (3 : Int32); decide⟩
          · obtain ⟨e1, e2⟩ := own_c3_111_3 u0 now t0 r y hl
            rw [e1, e2]
            exact ⟨rfl, by show own_in (3 : Int32) (1 : Int32); decide⟩
    · have e1 : own_model (3 : Int32) (own_count (3 : Int32) u1 u2 u3) (own_at u0 u1 u2 u3) now t0 r (-1, y, z) = (-1, y, z) := by rw [own_model, if_pos rfl, if_neg hc]
      rw [e1]
      exact ⟨own_out2 rfl hc, hz⟩
  · have e1 : own_model (3 : Int32) (own_count (3 : Int32) u1 u2 u3) (own_at u0 u1 u2 u3) now t0 r (x, y, z) = (x, y, z) := if_neg hx
    rw [e1]
    exact ⟨own_out1 hx, hz⟩
def Q_rm0 (Z : State) (p1 : Int32) (r t0 t1 t2 t3 : Int64) (h0 : Heap) (n0 : Nat) (v : Option Value) (h : Heap) (L : List Loc) : Prop := v = some (.int 1) ∧ Fr n0 L
theorem pn_rm0 : plainFor x = true := plainFor_of_name (by first | (simp [plainName, overriddenIn, x]; done) | decide +kernel)
theorem pd_5 : parseMethodDescriptor "(I)[Z" = some ⟨[.int], some (.array .boolean)⟩ := by decide +kernel
theorem pd_6 : parseMethodDescriptor "(IJJ)V" = some ⟨[.int, .long, .long], none⟩ := by decide +kernel
theorem pd_7 : parseMethodDescriptor "([ZJ)I" = some ⟨[(.array .boolean), .long], some .int⟩ := by decide +kernel
theorem pd_8 : parseMethodDescriptor "([I[J[ZIJJJ)I" = some ⟨[(.array .int), (.array .long), (.array .boolean), .int, .long, .long, .long], some .int⟩ := by decide +kernel
set_option maxRecDepth 65536 in
set_option maxHeartbeats 40000000 in
theorem rm0 (l : Launch) (Z : State) (a0 : Array Value) (hw : ∀ d ∈ tables_1, d.before a0 Z = true) (ws : List Jvm.Cond) (p1 : Int32) (r t0 t1 t2 t3 : Int64) (h0 : Heap) (n0 : Nat) (Z0 : n0 ≤ h0.size)  :
    own_Met l Z x code maxLocals ret ws room_1 #[(.int p1), (.long r), (.long t0), (.long t1), (.long t2), (.long t3)] h0 (Q_rm0 Z p1 r t0 t1 t2 t3 h0 n0) := by
  refine own_enter (g0 := fun m => (mkF m 0 #[.val (.int p1), .val (.long r), .second, .val (.long t0), .second, .val (.long t1), .second, .val (.long t2), .second, .val (.long t3), .second, .unset, .unset, .unset, .unset, .unset, .unset, .unset, .unset, .unset, .unset, .unset, .unset, .unset] [])) pn_rm0 (fun m => by first | (simp [entryFrame, mkF, argsToLocals, Value.category, maxLocals]; done) | rfl) ?_
  intro p e s m below meth c s₁ hx hby hml hown hnm hret hlk hZ X0 e0
  have hml : c.maxLocals = 24 := hml
  have hown : s.vm.findClass "com/example/eskew/eskew/server/split/CounterValuesRestingPinLaw" = some m.cls := hown
  have N0 := Fr.nil n0
  refine own_by (fun _ k => XS.iloadN X0.here hx rfl (hb hby at_0) rfl k) ?_
  refine own_by (fun _ k => XS.iconst X0.here hx rfl (hb hby at_1) k) ?_
  refine own_by (fun _ k => XS.iand X0.here hx rfl (hb hby at_2) rfl k) ?_
  refine own_by (fun _ k => XS.istore X0.here hx rfl (hb hby at_3) rfl (l' := #[.val (.int p1), .val (.long r), .second, .val (.long t0), .second, .val (.long t1), .second, .val (.long t2), .second, .val (.long t3), .second, .val (.int (p1 &&& (3 : Int32))), .unset, .unset, .unset, .unset, .unset, .unset, .unset, .unset, .unset, .unset, .unset, .unset]) rfl k) ?_
  rcases own_four p1 with hk | hk | hk | hk
  · show own_Go p e below _ s₁ (mkF m 5 #[.val (.int p1), .val (.long r), .second, .val (.long t0), .second, .val (.long t1), .second, .val (.long t2), .second, .val (.long t3), .second, .val (.int (p1 &&& (3 : Int32))), .unset, .unset, .unset, .unset, .unset, .unset, .unset, .unset, .unset, .unset, .unset, .unset] [])
    rw [hk]
    refine own_by (fun _ k => XS.iloadN X0.here hx rfl (hb hby at_5) rfl k) ?_
    refine own_by (fun _ k => XS.iconst X0.here hx rfl (hb hby at_6) k) ?_
    refine own_by (fun _ k => XS.ishr X0.here hx rfl (hb hby at_7) rfl k) ?_
    obtain ⟨_, T891, L891, X891, ⟨ub0, kb0, u0_0, u0_1, u0_2, u0_3, rfl, N891q, Ku0, su0, hb0_0, hb0_1, hb0_2, hb0_3, Vu0⟩, st891⟩ := own_callS X0 hx hZ hown (y := (⟨"com/example/eskew/eskew/server/split/CounterValuesRestingPinLaw", "ups", "(I)[Z"⟩ : MethodName)) (hw _ (List.mem_of_getElem? (i := 0) rfl)) (hw _ (List.mem_of_getElem? (i := 1) rfl)) (hw _ (List.mem_of_getElem? (i := 2) rfl)) (hw _ (List.mem_of_getElem? (i := 3) rfl)) (by decide) (argsL := [(.int (p1 >>> ((2 : Int32) &&& 31)))]) (rest := []) e0 (rm1 l Z a0 hw [] (p1 >>> ((2 : Int32) &&& 31)) h0 n0 Z0) (g := (mkF m 8 #[.val (.int p1), .val (.long r), .second, .val (.long t0), .second, .val (.long t1), .second, .val (.long t2), .second, .val (.long t3), .second, .val (.int (0 : Int32)), .unset, .unset, .unset, .unset, .unset, .unset, .unset, .unset, .unset, .unset, .unset, .unset] [(.int (p1 >>> ((2 : Int32) &&& 31)))])) rfl (by rw [hml]; rfl) (lenOf pd_5 rfl) rfl (W := 0) (by show 2 * 0 + _ ≤ _; exact Nat.le_of_eq rfl) (hb hby at_8) (by decide) (by decide) (by decide) (by decide)
    have N891 := Fr.app N0 N891q
    refine own_by st891 ?_
    have og_ub0 : n0 ≤ ub0 := Nat.le_trans Z0 su0
    have Z891 : n0 ≤ T891.heap.size := Nat.le_trans Z0 Ku0.1
    refine own_by (fun _ k => XS.astore X891.here hx rfl (hb hby at_11) rfl rfl (l' := #[.val (.int p1), .val (.long r), .second, .val (.long t0), .second, .val (.long t1), .second, .val (.long t2), .second, .val (.long t3), .second, .val (.int (0 : Int32)), .val (.ref ub0), .unset, .unset, .unset, .unset, .unset, .unset, .unset, .unset, .unset, .unset, .unset]) rfl k) ?_
    refine own_by (fun _ k => XS.iloadN X891.here hx rfl (hb hby at_13) rfl k) ?_
    refine own_by (fun _ k => XS.bipush X891.here hx rfl (hb hby at_14) k) ?_
    refine own_by (fun _ k => XS.ishr X891.here hx rfl (hb hby at_16) rfl k) ?_
    show own_Go p e below _ T891 (mkF m 17 #[.val (.int p1), .val (.long r), .second, .val (.long t0), .second, .val (.long t1), .second, .val (.long t2), .second, .val (.long t3), .second, .val (.int (0 : Int32)), .val (.ref ub0), .unset, .unset, .unset, .unset, .unset, .unset, .unset, .unset, .unset, .unset, .unset] [(.int (p1 >>> ((6 : Int32) &&& 31)))])
    obtain ⟨_, T892, L892, X892, ⟨ub1, kb1, u1_0, u1_1, u1_2, u1_3, rfl, N892q, Ku1, su1, hb1_0, hb1_1, hb1_2, hb1_3, Vu1⟩, st892⟩ := own_callS X891 hx hZ hown (y := (⟨"com/example/eskew/eskew/server/split/CounterValuesRestingPinLaw", "ups", "(I)[Z"⟩ : MethodName)) (hw _ (List.mem_of_getElem? (i := 0) rfl)) (hw _ (List.mem_of_getElem? (i := 1) rfl)) (hw _ (List.mem_of_getElem? (i := 2) rfl)) (hw _ (List.mem_of_getElem? (i := 3) rfl)) (by decide) (argsL := [(.int (p1 >>> ((6 : Int32) &&& 31)))]) (rest := []) rfl (rm1 l Z a0 hw [] (p1 >>> ((6 : Int32) &&& 31)) T891.heap n0 Z891) (g := (mkF m 17 #[.val (.int p1), .val (.long r), .second, .val (.long t0), .second, .val (.long t1), .second, .val (.long t2), .second, .val (.long t3), .second, .val (.int (0 : Int32)), .val (.ref ub0), .unset, .unset, .unset, .unset, .unset, .unset, .unset, .unset, .unset, .unset, .unset] [(.int (p1 >>> ((6 : Int32) &&& 31)))])) rfl (by rw [hml]; rfl) (lenOf pd_5 rfl) rfl (W := 0) (by show 2 * 0 + _ ≤ _; exact Nat.le_of_eq rfl) (hb hby at_17) (by decide) (by decide) (by decide) (by decide)
    have N892 := Fr.app N891 N892q
    refine own_by st892 ?_
    have ne_ub0_ub1 : ub0 ≠ ub1 := Nat.ne_of_lt (Nat.lt_of_lt_of_le Vu0.lt su1)
    have og_ub1 : n0 ≤ ub1 := Nat.le_trans Z891 su1
    have Z892 : n0 ≤ T892.heap.size := Nat.le_trans Z891 Ku1.1
    refine own_by (fun _ k => XS.astore X892.here hx rfl (hb hby at_20) rfl rfl (l' := #[.val (.int p1), .val (.long r), .second, .val (.long t0), .second, .val (.long t1), .second, .val (.long t2), .second, .val (.long t3), .second, .val (.int (0 : Int32)), .val (.ref ub0), .val (.ref ub1), .unset, .unset, .unset, .unset, .unset, .unset, .unset, .unset, .unset, .unset]) rfl k) ?_
    refine own_by (fun _ k => XS.iloadN X892.here hx rfl (hb hby at_22) rfl k) ?_
    refine own_by (fun _ k => XS.bipush X892.here hx rfl (hb hby at_23) k) ?_
    refine own_by (fun _ k => XS.ishr X892.here hx rfl (hb hby at_25) rfl k) ?_
    have f893 := (Vu0.keep Ku1 nin0)
    obtain ⟨_, T894, L894, X894, ⟨ub2, kb2, u2_0, u2_1, u2_2, u2_3, rfl, N894q, Ku2, su2, hb2_0, hb2_1, hb2_2, hb2_3, Vu2⟩, st894⟩ := own_callS X892 hx hZ hown (y := (⟨"com/example/eskew/eskew/server/split/CounterValuesRestingPinLaw", "ups", "(I)[Z"⟩ : MethodName)) (hw _ (List.mem_of_getElem? (i := 0) rfl)) (hw _ (List.mem_of_getElem? (i := 1) rfl)) (hw _ (List.mem_of_getElem? (i := 2) rfl)) (hw _ (List.mem_of_getElem? (i := 3) rfl)) (by decide) (argsL := [(.int (p1 >>> ((10 : Int32) &&& 31)))]) (rest := []) rfl (rm1 l Z a0 hw [] (p1 >>> ((10 : Int32) &&& 31)) T892.heap n0 Z892) (g := (mkF m 26 #[.val (.int p1), .val (.long r), .second, .val (.long t0), .second, .val (.long t1), .second, .val (.long t2), .second, .val (.long t3), .second, .val (.int (0 : Int32)), .val (.ref ub0), .val (.ref ub1), .unset, .unset, .unset, .unset, .unset, .unset, .unset, .unset, .unset, .unset] [(.int (p1 >>> ((10 : Int32) &&& 31)))])) rfl (by rw [hml]; rfl) (lenOf pd_5 rfl) rfl (W := 0) (by show 2 * 0 + _ ≤ _; exact Nat.le_of_eq rfl) (hb hby at_26) (by decide) (by decide) (by decide) (by decide)
    have N894 := Fr.app N892 N894q
    refine own_by st894 ?_
    have ne_ub0_ub2 : ub0 ≠ ub2 := Nat.ne_of_lt (Nat.lt_of_lt_of_le f893.lt su2)
    have ne_ub1_ub2 : ub1 ≠ ub2 := Nat.ne_of_lt (Nat.lt_of_lt_of_le Vu1.lt su2)
    have og_ub2 : n0 ≤ ub2 := Nat.le_trans Z892 su2
    have Z894 : n0 ≤ T894.heap.size := Nat.le_trans Z892 Ku2.1
    refine own_by (fun _ k => XS.astore X894.here hx rfl (hb hby at_29) rfl rfl (l' := #[.val (.int p1), .val (.long r), .second, .val (.long t0), .second, .val (.long t1), .second, .val (.long t2), .second, .val (.long t3), .second, .val (.int (0 : Int32)), .val (.ref ub0), .val (.ref ub1), .val (.ref ub2), .unset, .unset, .unset, .unset, .unset, .unset, .unset, .unset, .unset]) rfl k) ?_
    obtain ⟨T895, h895, X895, e895, E895, A895, D895, -, st895⟩ := newO X894 hx hZ hown (hw _ (List.mem_of_getElem? (i := 5) rfl)) (hw _ (List.mem_of_getElem? (i := 6) rfl)) (hw _ (List.mem_of_getElem? (i := 7) rfl)) rfl (g := (mkF m 31 #[.val (.int p1), .val (.long r), .second, .val (.long t0), .second, .val (.long t1), .second, .val (.long t2), .second, .val (.long t3), .second, .val (.int (0 : Int32)), .val (.ref ub0), .val (.ref ub1), .val (.ref ub2), .unset, .unset, .unset, .unset, .unset, .unset, .unset, .unset, .unset] [])) rfl (hb hby at_31) (by decide) (by decide)
    obtain ⟨b895, g895⟩ : ∃ zq, zq = T894.heap.size := ⟨_, rfl⟩
    rw [← g895] at A895 D895 st895
    have f896 := (f893.keep Ku2 nin0)
    have ne_ub0_b895 : ub0 ≠ b895 := Nat.ne_of_lt (Nat.lt_of_lt_of_le f896.lt (Nat.le_of_eq g895.symm))
    have f897 := (Vu1.keep Ku2 nin0)
    have ne_ub1_b895 : ub1 ≠ b895 := Nat.ne_of_lt (Nat.lt_of_lt_of_le f897.lt (Nat.le_of_eq g895.symm))
    have ne_ub2_b895 : ub2 ≠ b895 := Nat.ne_of_lt (Nat.lt_of_lt_of_le Vu2.lt (Nat.le_of_eq g895.symm))
    have og_b895 : n0 ≤ b895 := Nat.le_trans Z894 (Nat.le_of_eq g895.symm)
    have Z895 : n0 ≤ h895.size := Nat.le_trans Z894 E895.1
    have F_rising_b895 : Fld Z h895 b895 "com/example/eskew/eskew/server/split/CounterValues" "rising" "Lcom/example/eskew/eskew/server/split/CounterValues$WideSum;" .null := D895 (Or.inr (hw _ (List.mem_of_getElem? (i := 22) rfl))) (ty := (.object "com/example/eskew/eskew/server/split/CounterValues$WideSum")) (by decide)
    have F_falling_b895 : Fld Z h895 b895 "com/example/eskew/eskew/server/split/CounterValues" "falling" "Lcom/example/eskew/eskew/server/split/CounterValues$WideSum;" .null := D895 (Or.inr (hw _ (List.mem_of_getElem? (i := 24) rfl))) (ty := (.object "com/example/eskew/eskew/server/split/CounterValues$WideSum")) (by decide)
    have F_resting_b895 : Fld Z h895 b895 "com/example/eskew/eskew/server/split/CounterValues" "resting" "I" (.int (0 : Int32)) := D895 (Or.inl (hw _ (List.mem_of_getElem? (i := 26) rfl))) (ty := .int) (by decide)
    have F_nextToRest_b895 : Fld Z h895 b895 "com/example/eskew/eskew/server/split/CounterValues" "nextToRest" "I" (.int (0 : Int32)) := D895 (Or.inl (hw _ (List.mem_of_getElem? (i := 28) rfl))) (ty := .int) (by decide)
    have F_rereadNanos_b895 : Fld Z h895 b895 "com/example/eskew/eskew/server/split/CounterValues" "rereadNanos" "J" (.long (0 : Int64)) := D895 (Or.inr (hw _ (List.mem_of_getElem? (i := 30) rfl))) (ty := .long) (by decide)
    have F_tallies_b895 : Fld Z h895 b895 "com/example/eskew/eskew/server/split/CounterValues" "tallies" "[Lcom/example/eskew/eskew/server/split/CounterValues$Tally;" .null := D895 (Or.inr (hw _ (List.mem_of_getElem? (i := 34) rfl))) (ty := (.array (.object "com/example/eskew/eskew/server/split/CounterValues$Tally"))) (by decide)
    have F_restingSince_b895 : Fld Z h895 b895 "com/example/eskew/eskew/server/split/CounterValues" "restingSince" "J" (.long (0 : Int64)) := D895 (Or.inl (hw _ (List.mem_of_getElem? (i := 59) rfl))) (ty := .long) (by decide)
    refine own_by st895 ?_
    refine own_by (fun _ k => XS.dup X895.here hx rfl (hb hby at_34) rfl rfl k) ?_
    show own_Go p e below _ T895 (mkF m 35 #[.val (.int p1), .val (.long r), .second, .val (.long t0), .second, .val (.long t1), .second, .val (.long t2), .second, .val (.long t3), .second, .val (.int (0 : Int32)), .val (.ref ub0), .val (.ref ub1), .val (.ref ub2), .unset, .unset, .unset, .unset, .unset, .unset, .unset, .unset, .unset] [(.ref b895), (.ref b895)])
    refine own_by (fun _ k => XS.iload X895.here hx rfl (hb hby at_35) rfl k) ?_
    refine own_by (fun _ k => XS.iconst X895.here hx rfl (hb hby at_37) k) ?_
    refine own_by (fun _ k => XS.iadd X895.here hx rfl (hb hby at_38) rfl k) ?_
    refine own_by (fun _ k => XS.lloadN X895.here hx rfl (hb hby at_39) rfl k) ?_
    refine own_by (fun _ k => XS.lloadN X895.here hx rfl (hb hby at_40) rfl k) ?_
    show own_Go p e below _ T895 (mkF m 41 #[.val (.int p1), .val (.long r), .second, .val (.long t0), .second, .val (.long t1), .second, .val (.long t2), .second, .val (.long t3), .second, .val (.int (0 : Int32)), .val (.ref ub0), .val (.ref ub1), .val (.ref ub2), .unset, .unset, .unset, .unset, .unset, .unset, .unset, .unset, .unset] [(.long t0), (.long r), (.int ((0 : Int32) + (1 : Int32))), (.ref b895), (.ref b895)])
    rw [show (0 : Int32) + (1 : Int32) = (1 : Int32) from by decide]
    have f898 := (f896.ext E895)
    have f899 := (f897.ext E895)
    have f900 := (Vu2.ext E895)
    obtain ⟨_, T901, L901, X901, ⟨ta, kt, t_0, rfl, N901q, Kc, Ec, Fc0, Fc1, Fc2, Fc3, Fc4, sta, Vta, st_0, Sc_0⟩, st901⟩ := own_callI X895 hx hZ hown (y := (⟨"com/example/eskew/eskew/server/split/CounterValues", "<init>", "(IJJ)V"⟩ : MethodName)) rfl (hw _ (List.mem_of_getElem? (i := 8) rfl)) (hw _ (List.mem_of_getElem? (i := 9) rfl)) (hw _ (List.mem_of_getElem? (i := 7) rfl)) (hw _ (List.mem_of_getElem? (i := 10) rfl)) (by decide) (a := b895) (argsL := [(.int (1 : Int32)), (.long r), (.long t0)]) (rest := [(.ref b895)]) e895 (rm2_0 l Z a0 hw [] b895 r t0 h895 n0 Z895 og_b895 A895 F_rising_b895 F_falling_b895 F_resting_b895 F_nextToRest_b895 F_rereadNanos_b895 F_tallies_b895 F_restingSince_b895) (g := (mkF m 41 #[.val (.int p1), .val (.long r), .second, .val (.long t0), .second, .val (.long t1), .second, .val (.long t2), .second, .val (.long t3), .second, .val (.int (0 : Int32)), .val (.ref ub0), .val (.ref ub1), .val (.ref ub2), .unset, .unset, .unset, .unset, .unset, .unset, .unset, .unset, .unset] [(.long t0), (.long r), (.int (1 : Int32)), (.ref b895), (.ref b895)])) rfl (by rw [hml]; rfl) (lenOf pd_6 rfl) rfl (W := 1) (by show 2 * 0 + _ ≤ _; exact Nat.le_of_eq rfl) (hb hby at_41) (by decide) (by decide) (by decide) (by decide)
    have N901 := Fr.app N894 N901q
    refine own_by st901 ?_
    have ne_ub0_ta : ub0 ≠ ta := Nat.ne_of_lt (Nat.lt_of_lt_of_le f898.lt sta)
    have ne_ub1_ta : ub1 ≠ ta := Nat.ne_of_lt (Nat.lt_of_lt_of_le f899.lt sta)
    have ne_ub2_ta : ub2 ≠ ta := Nat.ne_of_lt (Nat.lt_of_lt_of_le f900.lt sta)
    have ne_b895_ta : b895 ≠ ta := Nat.ne_of_lt (Nat.lt_of_lt_of_le A895.lt sta)
    have og_ta : n0 ≤ ta := Nat.le_trans Z895 sta
    have ne_ub0_t_0 : ub0 ≠ t_0 := Nat.ne_of_lt (Nat.lt_of_lt_of_le f898.lt st_0)
    have ne_ub1_t_0 : ub1 ≠ t_0 := Nat.ne_of_lt (Nat.lt_of_lt_of_le f899.lt st_0)
    have ne_ub2_t_0 : ub2 ≠ t_0 := Nat.ne_of_lt (Nat.lt_of_lt_of_le f900.lt st_0)
    have ne_b895_t_0 : b895 ≠ t_0 := Nat.ne_of_lt (Nat.lt_of_lt_of_le A895.lt st_0)
    have og_t_0 : n0 ≤ t_0 := Nat.le_trans Z895 st_0
    have Z901 : n0 ≤ T901.heap.size := Nat.le_trans Z895 Kc.1
    refine own_by (fun _ k => XS.astore X901.here hx rfl (hb hby at_44) rfl rfl (l' := #[.val (.int p1), .val (.long r), .second, .val (.long t0), .second, .val (.long t1), .second, .val (.long t2), .second, .val (.long t3), .second, .val (.int (0 : Int32)), .val (.ref ub0), .val (.ref ub1), .val (.ref ub2), .val (.ref b895), .unset, .unset, .unset, .unset, .unset, .unset, .unset, .unset]) rfl k) ?_
    refine own_by (fun _ k => XS.iconst X901.here hx rfl (hb hby at_46) k) ?_
    obtain ⟨T902, h902, k902, X902, e902, E902, A902, C902, st902⟩ := newPE X901 hx hZ (hw _ (List.mem_of_getElem? (i := 44) rfl)) rfl (g := (mkF m 47 #[.val (.int p1), .val (.long r), .second, .val (.long t0), .second, .val (.long t1), .second, .val (.long t2), .second, .val (.long t3), .second, .val (.int (0 : Int32)), .val (.ref ub0), .val (.ref ub1), .val (.ref ub2), .val (.ref b895), .unset, .unset, .unset, .unset, .unset, .unset, .unset, .unset] [(.int (2 : Int32))])) rfl (hb hby at_47) rfl (by decide) (cap := 2) (by decide) (by decide) (by decide) (by decide) (ad := "[I") (by decide)
    obtain ⟨b902, g902⟩ : ∃ zq, zq = T901.heap.size := ⟨_, rfl⟩
    rw [← g902] at A902 C902 st902
    have f903 := (f898.keep Kc (ninS ne_ub0_b895 nin0))
    have ne_ub0_b902 : ub0 ≠ b902 := Nat.ne_of_lt (Nat.lt_of_lt_of_le f903.lt (Nat.le_of_eq g902.symm))
    have f904 := (f899.keep Kc (ninS ne_ub1_b895 nin0))
    have ne_ub1_b902 : ub1 ≠ b902 := Nat.ne_of_lt (Nat.lt_of_lt_of_le f904.lt (Nat.le_of_eq g902.symm))
    have f905 := (f900.keep Kc (ninS ne_ub2_b895 nin0))
    have ne_ub2_b902 : ub2 ≠ b902 := Nat.ne_of_lt (Nat.lt_of_lt_of_le f905.lt (Nat.le_of_eq g902.symm))
    have ne_b895_b902 : b895 ≠ b902 := Nat.ne_of_lt (Nat.lt_of_lt_of_le Ec.lt (Nat.le_of_eq g902.symm))
    have ne_ta_b902 : ta ≠ b902 := Nat.ne_of_lt (Nat.lt_of_lt_of_le Vta.lt (Nat.le_of_eq g902.symm))
    have ne_t_0_b902 : t_0 ≠ b902 := Nat.ne_of_lt (Nat.lt_of_lt_of_le Sc_0.lt (Nat.le_of_eq g902.symm))
    have og_b902 : n0 ≤ b902 := Nat.le_trans Z901 (Nat.le_of_eq g902.symm)
    have Z902 : n0 ≤ h902.size := Nat.le_trans Z901 E902.1
    have V902 : Arv Z h902 b902 k902 .int (2 : Int32) [(.int (0 : Int32)), (.int (0 : Int32))] (.int (0 : Int32)) := (Arv.new A902 (by decide)).pad (pad_rep [] (.int (0 : Int32)) 2)
    refine own_by st902 ?_
    refine own_by (fun _ k => XS.dup X902.here hx rfl (hb hby at_49) rfl rfl k) ?_
    refine own_by (fun _ k => XS.iconst X902.here hx rfl (hb hby at_50) k) ?_
    refine own_by (fun _ k => XS.iconst X902.here hx rfl (hb hby at_51) k) ?_
    obtain ⟨cl906, Ar906, cq906, hin906, hat906, set906⟩ := own_arv V902 (j := (0 : Int32)) ⟨by decide, by decide⟩
    obtain ⟨T907, h907, X907, e907, W907, st907⟩ := stI X902 hx hZ e902 Ar906 (j := (0 : Int32)) hin906 (g := (mkF m 52 #[.val (.int p1), .val (.long r), .second, .val (.long t0), .second, .val (.long t1), .second, .val (.long t2), .second, .val (.long t3), .second, .val (.int (0 : Int32)), .val (.ref ub0), .val (.ref ub1), .val (.ref ub2), .val (.ref b895), .unset, .unset, .unset, .unset, .unset, .unset, .unset, .unset] [(.int (-1 : Int32)), (.int (0 : Int32)), (.ref b902), (.ref b902)])) rfl rfl (hb hby at_52)
    have V907 : Arv Z h907 b902 k902 .int (2 : Int32) [(.int (-1 : Int32)), (.int (0 : Int32))] (.int (0 : Int32)) := set906 rfl W907 0 rfl (Nat.le_of_ble_eq_true rfl)
    have N907 := Fr.snoc X907 N901 og_b902
    have Z907 : n0 ≤ h907.size := Nat.le_trans Z902 (Keep.of_wr W907).1
    refine own_by st907 ?_
    show own_Go p e below _ T907 (mkF m 53 #[.val (.int p1), .val (.long r), .second, .val (.long t0), .second, .val (.long t1), .second, .val (.long t2), .second, .val (.long t3), .second, .val (.int (0 : Int32)), .val (.ref ub0), .val (.ref ub1), .val (.ref ub2), .val (.ref b895), .unset, .unset, .unset, .unset, .unset, .unset, .unset, .unset] [(.ref b902)])
    refine own_by (fun _ k => XS.dup X907.here hx rfl (hb hby at_53) rfl rfl k) ?_
    refine own_by (fun _ k => XS.iconst X907.here hx rfl (hb hby at_54) k) ?_
    refine own_by (fun _ k => XS.iconst X907.here hx rfl (hb hby at_55) k) ?_
    obtain ⟨cl908, Ar908, cq908, hin908, hat908, set908⟩ := own_arv V907 (j := (1 : Int32)) ⟨by decide, by decide⟩
    obtain ⟨T909, h909, X909, e909, W909, st909⟩ := stI X907 hx hZ e907 Ar908 (j := (1 : Int32)) hin908 (g := (mkF m 56 #[.val (.int p1), .val (.long r), .second, .val (.long t0), .second, .val (.long t1), .second, .val (.long t2), .second, .val (.long t3), .second, .val (.int (0 : Int32)), .val (.ref ub0), .val (.ref ub1), .val (.ref ub2), .val (.ref b895), .unset, .unset, .unset, .unset, .unset, .unset, .unset, .unset] [(.int (1 : Int32)), (.int (1 : Int32)), (.ref b902), (.ref b902)])) rfl rfl (hb hby at_56)
    have V909 : Arv Z h909 b902 k902 .int (2 : Int32) [(.int (-1 : Int32)), (.int (1 : Int32))] (.int (0 : Int32)) := set908 rfl W909 1 rfl (Nat.le_of_ble_eq_true rfl)
    have N909 := Fr.snoc X909 N907 og_b902
    have Z909 : n0 ≤ h909.size := Nat.le_trans Z907 (Keep.of_wr W909).1
    refine own_by st909 ?_
    refine own_by (fun _ k => XS.astore X909.here hx rfl (hb hby at_57) rfl rfl (l' := #[.val (.int p1), .val (.long r), .second, .val (.long t0), .second, .val (.long t1), .second, .val (.long t2), .second, .val (.long t3), .second, .val (.int (0 : Int32)), .val (.ref ub0), .val (.ref ub1), .val (.ref ub2), .val (.ref b895), .val (.ref b902), .unset, .unset, .unset, .unset, .unset, .unset, .unset]) rfl k) ?_
    refine own_by (fun _ k => XS.iconst X909.here hx rfl (hb hby at_59) k) ?_
    obtain ⟨T910, h910, k910, X910, e910, E910, A910, C910, st910⟩ := newPE X909 hx hZ (hw _ (List.mem_of_getElem? (i := 45) rfl)) e909 (g := (mkF m 60 #[.val (.int p1), .val (.long r), .second, .val (.long t0), .second, .val (.long t1), .second, .val (.long t2), .second, .val (.long t3), .second, .val (.int (0 : Int32)), .val (.ref ub0), .val (.ref ub1), .val (.ref ub2), .val (.ref b895), .val (.ref b902), .unset, .unset, .unset, .unset, .unset, .unset, .unset] [(.int (1 : Int32))])) rfl (hb hby at_60) rfl (by decide) (cap := 1) (by decide) (by decide) (by decide) (by decide) (ad := "[J") (by decide)
    obtain ⟨b910, g910⟩ : ∃ zq, zq = h909.size := ⟨_, rfl⟩
    rw [← g910] at A910 C910 st910
    have f911 := (((f903.ext E902).other W907 ne_ub0_b902).other W909 ne_ub0_b902)
    have ne_ub0_b910 : ub0 ≠ b910 := Nat.ne_of_lt (Nat.lt_of_lt_of_le f911.lt (Nat.le_of_eq g910.symm))
    have f912 := (((f904.ext E902).other W907 ne_ub1_b902).other W909 ne_ub1_b902)
    have ne_ub1_b910 : ub1 ≠ b910 := Nat.ne_of_lt (Nat.lt_of_lt_of_le f912.lt (Nat.le_of_eq g910.symm))
    have f913 := (((f905.ext E902).other W907 ne_ub2_b902).other W909 ne_ub2_b902)
    have ne_ub2_b910 : ub2 ≠ b910 := Nat.ne_of_lt (Nat.lt_of_lt_of_le f913.lt (Nat.le_of_eq g910.symm))
    have f914 := (((Ec.ext E902).wr W907).wr W909)
    have ne_b895_b910 : b895 ≠ b910 := Nat.ne_of_lt (Nat.lt_of_lt_of_le f914.lt (Nat.le_of_eq g910.symm))
    have f915 := (((Vta.ext E902).other W907 ne_ta_b902).other W909 ne_ta_b902)
    have ne_ta_b910 : ta ≠ b910 := Nat.ne_of_lt (Nat.lt_of_lt_of_le f915.lt (Nat.le_of_eq g910.symm))
    have f916 := (((Sc_0.ext E902).other W907 (Or.inl ne_t_0_b902)).other W909 (Or.inl ne_t_0_b902))
    have ne_t_0_b910 : t_0 ≠ b910 := Nat.ne_of_lt (Nat.lt_of_lt_of_le f916.lt (Nat.le_of_eq g910.symm))
    have ne_b902_b910 : b902 ≠ b910 := Nat.ne_of_lt (Nat.lt_of_lt_of_le V909.lt (Nat.le_of_eq g910.symm))
    have og_b910 : n0 ≤ b910 := Nat.le_trans Z909 (Nat.le_of_eq g910.symm)
    have Z910 : n0 ≤ h910.size := Nat.le_trans Z909 E910.1
    have V910 : Arv Z h910 b910 k910 .long (1 : Int32) [(.long (0 : Int64))] (.long (0 : Int64)) := (Arv.new A910 (by decide)).pad (pad_rep [] (.long (0 : Int64)) 1)
    refine own_by st910 ?_
    refine own_by (fun _ k => XS.astore X910.here hx rfl (hb hby at_62) rfl rfl (l' := #[.val (.int p1), .val (.long r), .second, .val (.long t0), .second, .val (.long t1), .second, .val (.long t2), .second, .val (.long t3), .second, .val (.int (0 : Int32)), .val (.ref ub0), .val (.ref ub1), .val (.ref ub2), .val (.ref b895), .val (.ref b902), .val (.ref b910), .unset, .unset, .unset, .unset, .unset, .unset]) rfl k) ?_
    refine own_by (fun _ k => XS.aload X910.here hx rfl (hb hby at_64) rfl rfl k) ?_
    show own_Go p e below _ T910 (mkF m 66 #[.val (.int p1), .val (.long r), .second, .val (.long t0), .second, .val (.long t1), .second, .val (.long t2), .second, .val (.long t3), .second, .val (.int (0 : Int32)), .val (.ref ub0), .val (.ref ub1), .val (.ref ub2), .val (.ref b895), .val (.ref b902), .val (.ref b910), .unset, .unset, .unset, .unset, .unset, .unset] [(.ref b895)])
    refine own_by (fun _ k => XS.aload X910.here hx rfl (hb hby at_66) rfl rfl k) ?_
    refine own_by (fun _ k => XS.lload X910.here hx rfl (hb hby at_68) rfl k) ?_
    have hin0 : own_in (0 : Int32) (1 : Int32) := by decide
    have f917 := (f914.ext E910)
    have f918 := ((((Fc0.ext E902).other W907 (Or.inl ne_b895_b902)).other W909 (Or.inl ne_b895_b902)).ext E910)
    have f919 := ((((Fc1.ext E902).other W907 (Or.inl ne_b895_b902)).other W909 (Or.inl ne_b895_b902)).ext E910)
    have f920 := ((((Fc2.ext E902).other W907 (Or.inl ne_b895_b902)).other W909 (Or.inl ne_b895_b902)).ext E910)
    have f921 := ((((Fc3.ext E902).other W907 (Or.inl ne_b895_b902)).other W909 (Or.inl ne_b895_b902)).ext E910)
    have f922 := ((((Fc4.ext E902).other W907 (Or.inl ne_b895_b902)).other W909 (Or.inl ne_b895_b902)).ext E910)
    have f923 := (f911.ext E910)
    have f924 := (f915.ext E910)
    have f925 := (f916.ext E910)
    have f926 := (f912.ext E910)
    have f927 := (f913.ext E910)
    have f928 := (V909.ext E910)
    obtain ⟨_, T929, L929, X929, ⟨rfl, N929q, Kr0, Er0, Fr0_0, Fr0_1, Fr0_2, Fr0_3, Fr0_4⟩, st929⟩ := own_callV X910 hx hZ hown (y := (⟨"com/example/eskew/eskew/server/split/CounterValues", "resting", "([ZJ)I"⟩ : MethodName)) (C := "com/example/eskew/eskew/server/split/CounterValues") (hw _ (List.mem_of_getElem? (i := 46) rfl)) (hw _ (List.mem_of_getElem? (i := 47) rfl)) (hw _ (List.mem_of_getElem? (i := 49) rfl)) (hw _ (List.mem_of_getElem? (i := 48) rfl)) (hw _ (List.mem_of_getElem? (i := 7) rfl)) (hw _ (List.mem_of_getElem? (i := 50) rfl)) (by decide) (a := b895) f917 (argsL := [(.ref ub0), (.long t1)]) (rest := []) e910 (rm6_0 l Z a0 hw [] b895 ub0 ta t_0 kb0 kt u0_0 u0_1 u0_2 u0_3 (-1 : Int32) (1 : Int32) (0 : Int64) t1 t0 r h910 n0 Z910 og_b895 hin0 (Ne.symm ne_ub0_b895) ne_b895_ta ne_b895_t_0 f917 f918 f919 f920 f921 f922 f923 f924 f925) (g := (mkF m 70 #[.val (.int p1), .val (.long r), .second, .val (.long t0), .second, .val (.long t1), .second, .val (.long t2), .second, .val (.long t3), .second, .val (.int (0 : Int32)), .val (.ref ub0), .val (.ref ub1), .val (.ref ub2), .val (.ref b895), .val (.ref b902), .val (.ref b910), .unset, .unset, .unset, .unset, .unset, .unset] [(.long t1), (.ref ub0), (.ref b895)])) rfl (by rw [hml]; rfl) (lenOf pd_7 rfl) rfl (W := 0) (by show 2 * 0 + _ ≤ _; exact Nat.le_of_eq rfl) (hb hby at_70) (by decide) (by decide) (by decide) (by decide)
    have N929 := Fr.app N909 N929q
    refine own_by st929 ?_
    have Z929 : n0 ≤ T929.heap.size := Nat.le_trans Z910 Kr0.1
    have hw0 : own_in (0 : Int32) (own_wake t1 r ((-1 : Int32), (0 : Int64), (1 : Int32))).2.2 := by unfold own_wake; split <;> first | exact hin0 | (split <;> exact hin0)
    have hq0 := own_same_0 u0_0 u0_1 u0_2 u0_3 hb0_1 hb0_2 hb0_3 t1 t0 r (own_wake t1 r ((-1 : Int32), (0 : Int64), (1 : Int32))) hw0
    have hs0 : (own_rest (0 : Int32) (own_count (0 : Int32) u0_1 u0_2 u0_3) (own_at u0_0 u0_1 u0_2 u0_3) t1 t0 r 0 (-1 : Int32) (0 : Int64) (1 : Int32)) = (own_model (0 : Int32) (own_count (0 : Int32) u0_1 u0_2 u0_3) (own_at u0_0 u0_1 u0_2 u0_3) t1 t0 r (own_wake t1 r ((-1 : Int32), (0 : Int64), (1 : Int32)))) := hq0.1
    have hi0 := hq0.2
    obtain ⟨⟨x0, y0, z0⟩, hm0⟩ : ∃ zq, zq = (own_model (0 : Int32) (own_count (0 : Int32) u0_1 u0_2 u0_3) (own_at u0_0 u0_1 u0_2 u0_3) t1 t0 r (own_wake t1 r ((-1 : Int32), (0 : Int64), (1 : Int32)))) := ⟨_, rfl⟩
    rw [← hm0] at hs0 hi0
    rw [hs0] at Fr0_0 Fr0_1 Fr0_2
    show own_Go p e below _ T929 (mkF m 73 #[.val (.int p1), .val (.long r), .second, .val (.long t0), .second, .val (.long t1), .second, .val (.long t2), .second, .val (.long t3), .second, .val (.int (0 : Int32)), .val (.ref ub0), .val (.ref ub1), .val (.ref ub2), .val (.ref b895), .val (.ref b902), .val (.ref b910), .unset, .unset, .unset, .unset, .unset, .unset] [(.int (own_rest (0 : Int32) (own_count (0 : Int32) u0_1 u0_2 u0_3) (own_at u0_0 u0_1 u0_2 u0_3) t1 t0 r 0 (-1 : Int32) (0 : Int64) (1 : Int32)).1)])
    rw [hs0]
    dsimp only at Fr0_0 Fr0_1 Fr0_2 hi0
    refine own_by (fun _ k => XS.istore X929.here hx rfl (hb hby at_73) rfl (l' := #[.val (.int p1), .val (.long r), .second, .val (.long t0), .second, .val (.long t1), .second, .val (.long t2), .second, .val (.long t3), .second, .val (.int (0 : Int32)), .val (.ref ub0), .val (.ref ub1), .val (.ref ub2), .val (.ref b895), .val (.ref b902), .val (.ref b910), .val (.int x0), .unset, .unset, .unset, .unset, .unset]) rfl k) ?_
    refine own_by (fun _ k => XS.aload X929.here hx rfl (hb hby at_75) rfl rfl k) ?_
    refine own_by (fun _ k => XS.aload X929.here hx rfl (hb hby at_77) rfl rfl k) ?_
    refine own_by (fun _ k => XS.aload X929.here hx rfl (hb hby at_79) rfl rfl k) ?_
    refine own_by (fun _ k => XS.iload X929.here hx rfl (hb hby at_81) rfl k) ?_
    refine own_by (fun _ k => XS.lload X929.here hx rfl (hb hby at_83) rfl k) ?_
    refine own_by (fun _ k => XS.lloadN X929.here hx rfl (hb hby at_85) rfl k) ?_
    refine own_by (fun _ k => XS.lloadN X929.here hx rfl (hb hby at_86) rfl k) ?_
    show own_Go p e below _ T929 (mkF m 87 #[.val (.int p1), .val (.long r), .second, .val (.long t0), .second, .val (.long t1), .second, .val (.long t2), .second, .val (.long t3), .second, .val (.int (0 : Int32)), .val (.ref ub0), .val (.ref ub1), .val (.ref ub2), .val (.ref b895), .val (.ref b902), .val (.ref b910), .val (.int x0), .unset, .unset, .unset, .unset, .unset] [(.long r), (.long t0), (.long t1), (.int (0 : Int32)), (.ref ub0), (.ref b910), (.ref b902)])
    have f930 := (f923.keep Kr0 (ninS ne_ub0_b895 nin0))
    have f931 := (f928.keep Kr0 (ninS (Ne.symm ne_b895_b902) nin0))
    have f932 := (V910.keep Kr0 (ninS (Ne.symm ne_b895_b910) nin0))
    have f933 := (f926.keep Kr0 (ninS ne_ub1_b895 nin0))
    have f934 := (f927.keep Kr0 (ninS ne_ub2_b895 nin0))
    have f935 := (f924.keep Kr0 (ninS (Ne.symm ne_b895_ta) nin0))
    have f936 := (f925.keep Kr0 (ninS (Ne.symm ne_b895_t_0) nin0))
    obtain ⟨_, T937, L937, X937, ⟨rfl, N937q, Km0, Va0, Vs0⟩, st937⟩ := own_callS X929 hx hZ hown (y := (⟨"com/example/eskew/eskew/server/split/CounterValuesRestingPinLaw", "model", "([I[J[ZIJJJ)I"⟩ : MethodName)) (hw _ (List.mem_of_getElem? (i := 51) rfl)) (hw _ (List.mem_of_getElem? (i := 52) rfl)) (hw _ (List.mem_of_getElem? (i := 2) rfl)) (hw _ (List.mem_of_getElem? (i := 53) rfl)) (by decide) (argsL := [(.ref b902), (.ref b910), (.ref ub0), (.int (0 : Int32)), (.long t1), (.long t0), (.long r)]) (rest := []) rfl (rm7_0 l Z a0 hw [] b902 b910 ub0 k902 k910 kb0 u0_0 u0_1 u0_2 u0_3 (-1 : Int32) (1 : Int32) (0 : Int64) t1 t0 r T929.heap n0 Z929 og_b902 og_b910 ne_b902_b910 (Ne.symm ne_ub0_b902) (Ne.symm ne_ub0_b910) hin0 f930 f931 f932) (g := (mkF m 87 #[.val (.int p1), .val (.long r), .second, .val (.long t0), .second, .val (.long t1), .second, .val (.long t2), .second, .val (.long t3), .second, .val (.int (0 : Int32)), .val (.ref ub0), .val (.ref ub1), .val (.ref ub2), .val (.ref b895), .val (.ref b902), .val (.ref b910), .val (.int x0), .unset, .unset, .unset, .unset, .unset] [(.long r), (.long t0), (.long t1), (.int (0 : Int32)), (.ref ub0), (.ref b910), (.ref b902)])) rfl (by rw [hml]; rfl) (lenOf pd_8 rfl) rfl (W := 0) (by show 2 * 0 + _ ≤ _; exact Nat.le_of_eq rfl) (hb hby at_87) (by decide) (by decide) (by decide) (by decide)
    have N937 := Fr.app N929 N937q
    refine own_by st937 ?_
    have Z937 : n0 ≤ T937.heap.size := Nat.le_trans Z929 Km0.1
    rw [← hm0] at Va0 Vs0
    show own_Go p e below _ T937 (mkF m 90 #[.val (.int p1), .val (.long r), .second, .val (.long t0), .second, .val (.long t1), .second, .val (.long t2), .second, .val (.long t3), .second, .val (.int (0 : Int32)), .val (.ref ub0), .val (.ref ub1), .val (.ref ub2), .val (.ref b895), .val (.ref b902), .val (.ref b910), .val (.int x0), .unset, .unset, .unset, .unset, .unset] [(.int (own_model (0 : Int32) (own_count (0 : Int32) u0_1 u0_2 u0_3) (own_at u0_0 u0_1 u0_2 u0_3) t1 t0 r (own_wake t1 r ((-1 : Int32), (0 : Int64), (1 : Int32)))).1)])
    rw [← hm0]
    dsimp only at Va0 Vs0
    refine own_by (fun _ k => XS.istore X937.here hx rfl (hb hby at_90) rfl (l' := #[.val (.int p1), .val (.long r), .second, .val (.long t0), .second, .val (.long t1), .second, .val (.long t2), .second, .val (.long t3), .second, .val (.int (0 : Int32)), .val (.ref ub0), .val (.ref ub1), .val (.ref ub2), .val (.ref b895), .val (.ref b902), .val (.ref b910), .val (.int x0), .val (.int x0), .unset, .unset, .unset, .unset]) rfl k) ?_
    refine own_by (fun _ k => XS.aload X937.here hx rfl (hb hby at_92) rfl rfl k) ?_
    refine own_by (fun _ k => XS.aload X937.here hx rfl (hb hby at_94) rfl rfl k) ?_
    refine own_by (fun _ k => XS.lload X937.here hx rfl (hb hby at_96) rfl k) ?_
    have f938 := (Er0.keep Km0)
    have f939 := (Fr0_0.keep Km0 (ninS ne_b895_b902 (ninS ne_b895_b910 nin0)))
    have f940 := (Fr0_1.keep Km0 (ninS ne_b895_b902 (ninS ne_b895_b910 nin0)))
    have f941 := (Fr0_2.keep Km0 (ninS ne_b895_b902 (ninS ne_b895_b910 nin0)))
    have f942 := (Fr0_3.keep Km0 (ninS ne_b895_b902 (ninS ne_b895_b910 nin0)))
    have f943 := (Fr0_4.keep Km0 (ninS ne_b895_b902 (ninS ne_b895_b910 nin0)))
    have f944 := (f933.keep Km0 (ninS ne_ub1_b902 (ninS ne_ub1_b910 nin0)))
    have f945 := (f935.keep Km0 (ninS ne_ta_b902 (ninS ne_ta_b910 nin0)))
    have f946 := (f936.keep Km0 (ninS ne_t_0_b902 (ninS ne_t_0_b910 nin0)))
    have f947 := (f930.keep Km0 (ninS ne_ub0_b902 (ninS ne_ub0_b910 nin0)))
    have f948 := (f934.keep Km0 (ninS ne_ub2_b902 (ninS ne_ub2_b910 nin0)))
    obtain ⟨_, T949, L949, X949, ⟨rfl, N949q, Kr1, Er1, Fr1_0, Fr1_1, Fr1_2, Fr1_3, Fr1_4⟩, st949⟩ := own_callV X937 hx hZ hown (y := (⟨"com/example/eskew/eskew/server/split/CounterValues", "resting", "([ZJ)I"⟩ : MethodName)) (C := "com/example/eskew/eskew/server/split/CounterValues") (hw _ (List.mem_of_getElem? (i := 46) rfl)) (hw _ (List.mem_of_getElem? (i := 47) rfl)) (hw _ (List.mem_of_getElem? (i := 49) rfl)) (hw _ (List.mem_of_getElem? (i := 48) rfl)) (hw _ (List.mem_of_getElem? (i := 7) rfl)) (hw _ (List.mem_of_getElem? (i := 50) rfl)) (by decide) (a := b895) f938 (argsL := [(.ref ub1), (.long t2)]) (rest := []) rfl (rm6_0 l Z a0 hw [] b895 ub1 ta t_0 kb1 kt u1_0 u1_1 u1_2 u1_3 x0 z0 y0 t2 t0 r T937.heap n0 Z937 og_b895 hi0 (Ne.symm ne_ub1_b895) ne_b895_ta ne_b895_t_0 f938 f939 f940 f941 f942 f943 f944 f945 f946) (g := (mkF m 98 #[.val (.int p1), .val (.long r), .second, .val (.long t0), .second, .val (.long t1), .second, .val (.long t2), .second, .val (.long t3), .second, .val (.int (0 : Int32)), .val (.ref ub0), .val (.ref ub1), .val (.ref ub2), .val (.ref b895), .val (.ref b902), .val (.ref b910), .val (.int x0), .val (.int x0), .unset, .unset, .unset, .unset] [(.long t2), (.ref ub1), (.ref b895)])) rfl (by rw [hml]; rfl) (lenOf pd_7 rfl) rfl (W := 0) (by show 2 * 0 + _ ≤ _; exact Nat.le_of_eq rfl) (hb hby at_98) (by decide) (by decide) (by decide) (by decide)
    have N949 := Fr.app N937 N949q
    refine own_by st949 ?_
    have Z949 : n0 ≤ T949.heap.size := Nat.le_trans Z937 Kr1.1
    have hw1 : own_in (0 : Int32) (own_wake t2 r (x0, y0, z0)).2.2 := by unfold own_wake; split <;> first | exact hi0 | (split <;> exact hi0)
    have hq1 := own_same_0 u1_0 u1_1 u1_2 u1_3 hb1_1 hb1_2 hb1_3 t2 t0 r (own_wake t2 r (x0, y0, z0)) hw1
    have hs1 : (own_rest (0 : Int32) (own_count (0 : Int32) u1_1 u1_2 u1_3) (own_at u1_0 u1_1 u1_2 u1_3) t2 t0 r 0 x0 y0 z0) = (own_model (0 : Int32) (own_count (0 : Int32) u1_1 u1_2 u1_3) (own_at u1_0 u1_1 u1_2 u1_3) t2 t0 r (own_wake t2 r (x0, y0, z0))) := hq1.1
    have hi1 := hq1.2
    obtain ⟨⟨x1, y1, z1⟩, hm1⟩ : ∃ zq, zq = (own_model (0 : Int32) (own_count (0 : Int32) u1_1 u1_2 u1_3) (own_at u1_0 u1_1 u1_2 u1_3) t2 t0 r (own_wake t2 r (x0, y0, z0))) := ⟨_, rfl⟩
    rw [← hm1] at hs1 hi1
    rw [hs1] at Fr1_0 Fr1_1 Fr1_2
    show own_Go p e below _ T949 (mkF m 101 #[.val (.int p1), .val (.long r), .second, .val (.long t0), .second, .val (.long t1), .second, .val (.long t2), .second, .val (.long t3), .second, .val (.int (0 : Int32)), .val (.ref ub0), .val (.ref ub1), .val (.ref ub2), .val (.ref b895), .val (.ref b902), .val (.ref b910), .val (.int x0), .val (.int x0), .unset, .unset, .unset, .unset] [(.int (own_rest (0 : Int32) (own_count (0 : Int32) u1_1 u1_2 u1_3) (own_at u1_0 u1_1 u1_2 u1_3) t2 t0 r 0 x0 y0 z0).1)])
    rw [hs1]
    dsimp only at Fr1_0 Fr1_1 Fr1_2 hi1
    refine own_by (fun _ k => XS.istore X949.here hx rfl (hb hby at_101) rfl (l' := #[.val (.int p1), .val (.long r), .second, .val (.long t0), .second, .val (.long t1), .second, .val (.long t2), .second, .val (.long t3), .second, .val (.int (0 : Int32)), .val (.ref ub0), .val (.ref ub1), .val (.ref ub2), .val (.ref b895), .val (.ref b902), .val (.ref b910), .val (.int x0), .val (.int x0), .val (.int x1), .unset, .unset, .unset]) rfl k) ?_
    refine own_by (fun _ k => XS.aload X949.here hx rfl (hb hby at_103) rfl rfl k) ?_
    refine own_by (fun _ k => XS.aload X949.here hx rfl (hb hby at_105) rfl rfl k) ?_
    refine own_by (fun _ k => XS.aload X949.here hx rfl (hb hby at_107) rfl rfl k) ?_
    refine own_by (fun _ k => XS.iload X949.here hx rfl (hb hby at_109) rfl k) ?_
    refine own_by (fun _ k => XS.lload X949.here hx rfl (hb hby at_111) rfl k) ?_
    refine own_by (fun _ k => XS.lloadN X949.here hx rfl (hb hby at_113) rfl k) ?_
    refine own_by (fun _ k => XS.lloadN X949.here hx rfl (hb hby at_114) rfl k) ?_
    show own_Go p e below _ T949 (mkF m 115 #[.val (.int p1), .val (.long r), .second, .val (.long t0), .second, .val (.long t1), .second, .val (.long t2), .second, .val (.long t3), .second, .val (.int (0 : Int32)), .val (.ref ub0), .val (.ref ub1), .val (.ref ub2), .val (.ref b895), .val (.ref b902), .val (.ref b910), .val (.int x0), .val (.int x0), .val (.int x1), .unset, .unset, .unset] [(.long r), (.long t0), (.long t2), (.int (0 : Int32)), (.ref ub1), (.ref b910), (.ref b902)])
    have f950 := (f944.keep Kr1 (ninS ne_ub1_b895 nin0))
    have f951 := (Va0.keep Kr1 (ninS (Ne.symm ne_b895_b902) nin0))
    have f952 := (Vs0.keep Kr1 (ninS (Ne.symm ne_b895_b910) nin0))
    have f953 := (f947.keep Kr1 (ninS ne_ub0_b895 nin0))
    have f954 := (f948.keep Kr1 (ninS ne_ub2_b895 nin0))
    have f955 := (f945.keep Kr1 (ninS (Ne.symm ne_b895_ta) nin0))
    have f956 := (f946.keep Kr1 (ninS (Ne.symm ne_b895_t_0) nin0))
    obtain ⟨_, T957, L957, X957, ⟨rfl, N957q, Km1, Va1, Vs1⟩, st957⟩ := own_callS X949 hx hZ hown (y := (⟨"com/example/eskew/eskew/server/split/CounterValuesRestingPinLaw", "model", "([I[J[ZIJJJ)I"⟩ : MethodName)) (hw _ (List.mem_of_getElem? (i := 51) rfl)) (hw _ (List.mem_of_getElem? (i := 52) rfl)) (hw _ (List.mem_of_getElem? (i := 2) rfl)) (hw _ (List.mem_of_getElem? (i := 53) rfl)) (by decide) (argsL := [(.ref b902), (.ref b910), (.ref ub1), (.int (0 : Int32)), (.long t2), (.long t0), (.long r)]) (rest := []) rfl (rm7_0 l Z a0 hw [] b902 b910 ub1 k902 k910 kb1 u1_0 u1_1 u1_2 u1_3 x0 z0 y0 t2 t0 r T949.heap n0 Z949 og_b902 og_b910 ne_b902_b910 (Ne.symm ne_ub1_b902) (Ne.symm ne_ub1_b910) hi0 f950 f951 f952) (g := (mkF m 115 #[.val (.int p1), .val (.long r), .second, .val (.long t0), .second, .val (.long t1), .second, .val (.long t2), .second, .val (.long t3), .second, .val (.int (0 : Int32)), .val (.ref ub0), .val (.ref ub1), .val (.ref ub2), .val (.ref b895), .val (.ref b902), .val (.ref b910), .val (.int x0), .val (.int x0), .val (.int x1), .unset, .unset, .unset] [(.long r), (.long t0), (.long t2), (.int (0 : Int32)), (.ref ub1), (.ref b910), (.ref b902)])) rfl (by rw [hml]; rfl) (lenOf pd_8 rfl) rfl (W := 0) (by show 2 * 0 + _ ≤ _; exact Nat.le_of_eq rfl) (hb hby at_115) (by decide) (by decide) (by decide) (by decide)
    have N957 := Fr.app N949 N957q
    refine own_by st957 ?_
    have Z957 : n0 ≤ T957.heap.size := Nat.le_trans Z949 Km1.1
    rw [← hm1] at Va1 Vs1
    show own_Go p e below _ T957 (mkF m 118 #[.val (.int p1), .val (.long r), .second, .val (.long t0), .second, .val (.long t1), .second, .val (.long t2), .second, .val (.long t3), .second, .val (.int (0 : Int32)), .val (.ref ub0), .val (.ref ub1), .val (.ref ub2), .val (.ref b895), .val (.ref b902), .val (.ref b910), .val (.int x0), .val (.int x0), .val (.int x1), .unset, .unset, .unset] [(.int (own_model (0 : Int32) (own_count (0 : Int32) u1_1 u1_2 u1_3) (own_at u1_0 u1_1 u1_2 u1_3) t2 t0 r (own_wake t2 r (x0, y0, z0))).1)])
    rw [← hm1]
    dsimp only at Va1 Vs1
    refine own_by (fun _ k => XS.istore X957.here hx rfl (hb hby at_118) rfl (l' := #[.val (.int p1), .val (.long r), .second, .val (.long t0), .second, .val (.long t1), .second, .val (.long t2), .second, .val (.long t3), .second, .val (.int (0 : Int32)), .val (.ref ub0), .val (.ref ub1), .val (.ref ub2), .val (.ref b895), .val (.ref b902), .val (.ref b910), .val (.int x0), .val (.int x0), .val (.int x1), .val (.int x1), .unset, .unset]) rfl k) ?_
    refine own_by (fun _ k => XS.aload X957.here hx rfl (hb hby at_120) rfl rfl k) ?_
    refine own_by (fun _ k => XS.aload X957.here hx rfl (hb hby at_122) rfl rfl k) ?_
    refine own_by (fun _ k => XS.lload X957.here hx rfl (hb hby at_124) rfl k) ?_
    have f958 := (Er1.keep Km1)
    have f959 := (Fr1_0.keep Km1 (ninS ne_b895_b902 (ninS ne_b895_b910 nin0)))
    have f960 := (Fr1_1.keep Km1 (ninS ne_b895_b902 (ninS ne_b895_b910 nin0)))
    have f961 := (Fr1_2.keep Km1 (ninS ne_b895_b902 (ninS ne_b895_b910 nin0)))
    have f962 := (Fr1_3.keep Km1 (ninS ne_b895_b902 (ninS ne_b895_b910 nin0)))
    have f963 := (Fr1_4.keep Km1 (ninS ne_b895_b902 (ninS ne_b895_b910 nin0)))
    have f964 := (f954.keep Km1 (ninS ne_ub2_b902 (ninS ne_ub2_b910 nin0)))
    have f965 := (f955.keep Km1 (ninS ne_ta_b902 (ninS ne_ta_b910 nin0)))
    have f966 := (f956.keep Km1 (ninS ne_t_0_b902 (ninS ne_t_0_b910 nin0)))
    have f967 := (f953.keep Km1 (ninS ne_ub0_b902 (ninS ne_ub0_b910 nin0)))
    have f968 := (f950.keep Km1 (ninS ne_ub1_b902 (ninS ne_ub1_b910 nin0)))
    obtain ⟨_, T969, L969, X969, ⟨rfl, N969q, Kr2, Er2, Fr2_0, Fr2_1, Fr2_2, Fr2_3, Fr2_4⟩, st969⟩ := own_callV X957 hx hZ hown (y := (⟨"com/example/eskew/eskew/server/split/CounterValues", "resting", "([ZJ)I"⟩ : MethodName)) (C := "com/example/eskew/eskew/server/split/CounterValues") (hw _ (List.mem_of_getElem? (i := 46) rfl)) (hw _ (List.mem_of_getElem? (i := 47) rfl)) (hw _ (List.mem_of_getElem? (i := 49) rfl)) (hw _ (List.mem_of_getElem? (i := 48) rfl)) (hw _ (List.mem_of_getElem? (i := 7) rfl)) (hw _ (List.mem_of_getElem? (i := 50) rfl)) (by decide) (a := b895) f958 (argsL := [(.ref ub2), (.long t3)]) (rest := []) rfl (rm6_0 l Z a0 hw [] b895 ub2 ta t_0 kb2 kt u2_0 u2_1 u2_2 u2_3 x1 z1 y1 t3 t0 r T957.heap n0 Z957 og_b895 hi1 (Ne.symm ne_ub2_b895) ne_b895_ta ne_b895_t_0 f958 f959 f960 f961 f962 f963 f964 f965 f966) (g := (mkF m 126 #[.val (.int p1), .val (.long r), .second, .val (.long t0), .second, .val (.long t1), .second, .val (.long t2), .second, .val (.long t3), .second, .val (.int (0 : Int32)), .val (.ref ub0), .val (.ref ub1), .val (.ref ub2), .val (.ref b895), .val (.ref b902), .val (.ref b910), .val (.int x0), .val (.int x0), .val (.int x1), .val (.int x1), .unset, .unset] [(.long t3), (.ref ub2), (.ref b895)])) rfl (by rw [hml]; rfl) (lenOf pd_7 rfl) rfl (W := 0) (by show 2 * 0 + _ ≤ _; exact Nat.le_of_eq rfl) (hb hby at_126) (by decide) (by decide) (by decide) (by decide)
    have N969 := Fr.app N957 N969q
    refine own_by st969 ?_
    have Z969 : n0 ≤ T969.heap.size := Nat.le_trans Z957 Kr2.1
    have hw2 : own_in (0 : Int32) (own_wake t3 r (x1, y1, z1)).2.2 := by unfold own_wake; split <;> first | exact hi1 | (split <;> exact hi1)
    have hq2 := own_same_0 u2_0 u2_1 u2_2 u2_3 hb2_1 hb2_2 hb2_3 t3 t0 r (own_wake t3 r (x1, y1, z1)) hw2
    have hs2 : (own_rest (0 : Int32) (own_count (0 : Int32) u2_1 u2_2 u2_3) (own_at u2_0 u2_1 u2_2 u2_3) t3 t0 r 0 x1 y1 z1) = (own_model (0 : Int32) (own_count (0 : Int32) u2_1 u2_2 u2_3) (own_at u2_0 u2_1 u2_2 u2_3) t3 t0 r (own_wake t3 r (x1, y1, z1))) := hq2.1
    have hi2 := hq2.2
    obtain ⟨⟨x2, y2, z2⟩, hm2⟩ : ∃ zq, zq = (own_model (0 : Int32) (own_count (0 : Int32) u2_1 u2_2 u2_3) (own_at u2_0 u2_1 u2_2 u2_3) t3 t0 r (own_wake t3 r (x1, y1, z1))) := ⟨_, rfl⟩
    rw [← hm2] at hs2 hi2
    rw [hs2] at Fr2_0 Fr2_1 Fr2_2
    show own_Go p e below _ T969 (mkF m 129 #[.val (.int p1), .val (.long r), .second, .val (.long t0), .second, .val (.long t1), .second, .val (.long t2), .second, .val (.long t3), .second, .val (.int (0 : Int32)), .val (.ref ub0), .val (.ref ub1), .val (.ref ub2), .val (.ref b895), .val (.ref b902), .val (.ref b910), .val (.int x0), .val (.int x0), .val (.int x1), .val (.int x1), .unset, .unset] [(.int (own_rest (0 : Int32) (own_count (0 : Int32) u2_1 u2_2 u2_3) (own_at u2_0 u2_1 u2_2 u2_3) t3 t0 r 0 x1 y1 z1).1)])
    rw [hs2]
    dsimp only at Fr2_0 Fr2_1 Fr2_2 hi2
    refine own_by (fun _ k => XS.istore X969.here hx rfl (hb hby at_129) rfl (l' := #[.val (.int p1), .val (.long r), .second, .val (.long t0), .second, .val (.long t1), .second, .val (.long t2), .second, .val (.long t3), .second, .val (.int (0 : Int32)), .val (.ref ub0), .val (.ref ub1), .val (.ref ub2), .val (.ref b895), .val (.ref b902), .val (.ref b910), .val (.int x0), .val (.int x0), .val (.int x1), .val (.int x1), .val (.int x2), .unset]) rfl k) ?_
    refine own_by (fun _ k => XS.aload X969.here hx rfl (hb hby at_131) rfl rfl k) ?_
    refine own_by (fun _ k => XS.aload X969.here hx rfl (hb hby at_133) rfl rfl k) ?_
    refine own_by (fun _ k => XS.aload X969.here hx rfl (hb hby at_135) rfl rfl k) ?_
    refine own_by (fun _ k => XS.iload X969.here hx rfl (hb hby at_137) rfl k) ?_
    refine own_by (fun _ k => XS.lload X969.here hx rfl (hb hby at_139) rfl k) ?_
    refine own_by (fun _ k => XS.lloadN X969.here hx rfl (hb hby at_141) rfl k) ?_
    refine own_by (fun _ k => XS.lloadN X969.here hx rfl (hb hby at_142) rfl k) ?_
    show own_Go p e below _ T969 (mkF m 143 #[.val (.int p1), .val (.long r), .second, .val (.long t0), .second, .val (.long t1), .second, .val (.long t2), .second, .val (.long t3), .second, .val (.int (0 : Int32)), .val (.ref ub0), .val (.ref ub1), .val (.ref ub2), .val (.ref b895), .val (.ref b902), .val (.ref b910), .val (.int x0), .val (.int x0), .val (.int x1), .val (.int x1), .val (.int x2), .unset] [(.long r), (.long t0), (.long t3), (.int (0 : Int32)), (.ref ub2), (.ref b910), (.ref b902)])
    have f970 := (f964.keep Kr2 (ninS ne_ub2_b895 nin0))
    have f971 := (Va1.keep Kr2 (ninS (Ne.symm ne_b895_b902) nin0))
    have f972 := (Vs1.keep Kr2 (ninS (Ne.symm ne_b895_b910) nin0))
    have f973 := (f967.keep Kr2 (ninS ne_ub0_b895 nin0))
    have f974 := (f968.keep Kr2 (ninS ne_ub1_b895 nin0))
    have f975 := (f965.keep Kr2 (ninS (Ne.symm ne_b895_ta) nin0))
    have f976 := (f966.keep Kr2 (ninS (Ne.symm ne_b895_t_0) nin0))
    obtain ⟨_, T977, L977, X977, ⟨rfl, N977q, Km2, Va2, Vs2⟩, st977⟩ := own_callS X969 hx hZ hown (y := (⟨"com/example/eskew/eskew/server/split/CounterValuesRestingPinLaw", "model", "([I[J[ZIJJJ)I"⟩ : MethodName)) (hw _ (List.mem_of_getElem? (i := 51) rfl)) (hw _ (List.mem_of_getElem? (i := 52) rfl)) (hw _ (List.mem_of_getElem? (i := 2) rfl)) (hw _ (List.mem_of_getElem? (i := 53) rfl)) (by decide) (argsL := [(.ref b902), (.ref b910), (.ref ub2), (.int (0 : Int32)), (.long t3), (.long t0), (.long r)]) (rest := []) rfl (rm7_0 l Z a0 hw [] b902 b910 ub2 k902 k910 kb2 u2_0 u2_1 u2_2 u2_3 x1 z1 y1 t3 t0 r T969.heap n0 Z969 og_b902 og_b910 ne_b902_b910 (Ne.symm ne_ub2_b902) (Ne.symm ne_ub2_b910) hi1 f970 f971 f972) (g := (mkF m 143 #[.val (.int p1), .val (.long r), .second, .val (.long t0), .second, .val (.long t1), .second, .val (.long t2), .second, .val (.long t3), .second, .val (.int (0 : Int32)), .val (.ref ub0), .val (.ref ub1), .val (.ref ub2), .val (.ref b895), .val (.ref b902), .val (.ref b910), .val (.int x0), .val (.int x0), .val (.int x1), .val (.int x1), .val (.int x2), .unset] [(.long r), (.long t0), (.long t3), (.int (0 : Int32)), (.ref ub2), (.ref b910), (.ref b902)])) rfl (by rw [hml]; rfl) (lenOf pd_8 rfl) rfl (W := 0) (by show 2 * 0 + _ ≤ _; exact Nat.le_of_eq rfl) (hb hby at_143) (by decide) (by decide) (by decide) (by decide)
    have N977 := Fr.app N969 N977q
    refine own_by st977 ?_
    have Z977 : n0 ≤ T977.heap.size := Nat.le_trans Z969 Km2.1
    rw [← hm2] at Va2 Vs2
    show own_Go p e below _ T977 (mkF m 146 #[.val (.int p1), .val (.long r), .second, .val (.long t0), .second, .val (.long t1), .second, .val (.long t2), .second, .val (.long t3), .second, .val (.int (0 : Int32)), .val (.ref ub0), .val (.ref ub1), .val (.ref ub2), .val (.ref b895), .val (.ref b902), .val (.ref b910), .val (.int x0), .val (.int x0), .val (.int x1), .val (.int x1), .val (.int x2), .unset] [(.int (own_model (0 : Int32) (own_count (0 : Int32) u2_1 u2_2 u2_3) (own_at u2_0 u2_1 u2_2 u2_3) t3 t0 r (own_wake t3 r (x1, y1, z1))).1)])
    rw [← hm2]
    dsimp only at Va2 Vs2
    refine own_by (fun _ k => XS.istore X977.here hx rfl (hb hby at_146) rfl (l' := #[.val (.int p1), .val (.long r), .second, .val (.long t0), .second, .val (.long t1), .second, .val (.long t2), .second, .val (.long t3), .second, .val (.int (0 : Int32)), .val (.ref ub0), .val (.ref ub1), .val (.ref ub2), .val (.ref b895), .val (.ref b902), .val (.ref b910), .val (.int x0), .val (.int x0), .val (.int x1), .val (.int x1), .val (.int x2), .val (.int x2)]) rfl k) ?_
    refine own_by (fun _ k => XS.iload X977.here hx rfl (hb hby at_148) rfl k) ?_
    refine own_by (fun _ k => XS.iload X977.here hx rfl (hb hby at_150) rfl k) ?_
    refine own_by (fun _ k => XS.icmpNo X977.here hx rfl (hb hby at_152) rfl (teq (rfl : x0 = x0)).2 k) ?_
    refine own_by (fun _ k => XS.iload X977.here hx rfl (hb hby at_155) rfl k) ?_
    refine own_by (fun _ k => XS.iload X977.here hx rfl (hb hby at_157) rfl k) ?_
    refine own_by (fun _ k => XS.icmpNo X977.here hx rfl (hb hby at_159) rfl (teq (rfl : x1 = x1)).2 k) ?_
    refine own_by (fun _ k => XS.iload X977.here hx rfl (hb hby at_162) rfl k) ?_
    show own_Go p e below _ T977 (mkF m 164 #[.val (.int p1), .val (.long r), .second, .val (.long t0), .second, .val (.long t1), .second, .val (.long t2), .second, .val (.long t3), .second, .val (.int (0 : Int32)), .val (.ref ub0), .val (.ref ub1), .val (.ref ub2), .val (.ref b895), .val (.ref b902), .val (.ref b910), .val (.int x0), .val (.int x0), .val (.int x1), .val (.int x1), .val (.int x2), .val (.int x2)] [(.int x2)])
    refine own_by (fun _ k => XS.iload X977.here hx rfl (hb hby at_164) rfl k) ?_
    refine own_by (fun _ k => XS.icmpNo X977.here hx rfl (hb hby at_166) rfl (teq (rfl : x2 = x2)).2 k) ?_
    refine own_by (fun _ k => XS.iconst X977.here hx rfl (hb hby at_169) k) ?_
    refine own_by (fun _ k => XS.goto X977.here hx rfl (pc0 := 170) (pc' := 174) rfl (hb hby at_170) (by decide) (by decide) k) ?_
    exact own_retN X977 hx hlk hret (by simp) rfl (hb hby at_174) ⟨rfl, N977⟩ (by decide) (by decide)
  · show own_Go p e below _ s₁ (mkF m 5 #[.val (.int p1), .val (.long r), .second, .val (.long t0), .second, .val (.long t1), .second, .val (.long t2), .second, .val (.long t3), .second, .val (.int (p1 &&& (3 : Int32))), .unset, .unset, .unset, .unset, .unset, .unset, .unset, .unset, .unset, .unset, .unset, .unset] [])
    rw [hk]
    refine own_by (fun _ k => XS.iloadN X0.here hx rfl (hb hby at_5) rfl k) ?_
    refine own_by (fun _ k => XS.iconst X0.here hx rfl (hb hby at_6) k) ?_
    refine own_by (fun _ k => XS.ishr X0.here hx rfl (hb hby at_7) rfl k) ?_
    obtain ⟨_, T978, L978, X978, ⟨ub0, kb0, u0_0, u0_1, u0_2, u0_3, rfl, N978q, Ku0, su0, hb0_0, hb0_1, hb0_2, hb0_3, Vu0⟩, st978⟩ := own_callS X0 hx hZ hown (y := (⟨"com/example/eskew/eskew/server/split/CounterValuesRestingPinLaw", "ups", "(I)[Z"⟩ : MethodName)) (hw _ (List.mem_of_getElem? (i := 0) rfl)) (hw _ (List.mem_of_getElem? (i := 1) rfl)) (hw _ (List.mem_of_getElem? (i := 2) rfl)) (hw _ (List.mem_of_getElem? (i := 3) rfl)) (by decide) (argsL := [(.int (p1 >>> ((2 : Int32) &&& 31)))]) (rest := []) e0 (rm1 l Z a0 hw [] (p1 >>> ((2 : Int32) &&& 31)) h0 n0 Z0) (g := (mkF m 8 #[.val (.int p1), .val (.long r), .second, .val (.long t0), .second, .val (.long t1), .second, .val (.long t2), .second, .val (.long t3), .second, .val (.int (1 : Int32)), .unset, .unset, .unset, .unset, .unset, .unset, .unset, .unset, .unset, .unset, .unset, .unset] [(.int (p1 >>> ((2 : Int32) &&& 31)))])) rfl (by rw [hml]; rfl) (lenOf pd_5 rfl) rfl (W := 0) (by show 2 * 0 + _ ≤ _; exact Nat.le_of_eq rfl) (hb hby at_8) (by decide) (by decide) (by decide) (by decide)
    have N978 := Fr.app N0 N978q
    refine own_by st978 ?_
    have og_ub0 : n0 ≤ ub0 := Nat.le_trans Z0 su0
    have Z978 : n0 ≤ T978.heap.size := Nat.le_trans Z0 Ku0.1
    refine own_by (fun _ k => XS.astore X978.here hx rfl (hb hby at_11) rfl rfl (l' := #[.val (.int p1), .val (.long r), .second, .val (.long t0), .second, .val (.long t1), .second, .val (.long t2), .second, .val (.long t3), .second, .val (.int (1 : Int32)), .val (.ref ub0), .unset, .unset, .unset, .unset, .unset, .unset, .unset, .unset, .unset, .unset, .unset]) rfl k) ?_
    refine own_by (fun _ k => XS.iloadN X978.here hx rfl (hb hby at_13) rfl k) ?_
    refine own_by (fun _ k => XS.bipush X978.here hx rfl (hb hby at_14) k) ?_
    refine own_by (fun _ k => XS.ishr X978.here hx rfl (hb hby at_16) rfl k) ?_
    show own_Go p e below _ T978 (mkF m 17 #[.val (.int p1), .val (.long r), .second, .val (.long t0), .second, .val (.long t1), .second, .val (.long t2), .second, .val (.long t3), .second, .val (.int (1 : Int32)), .val (.ref ub0), .unset, .unset, .unset, .unset, .unset, .unset, .unset, .unset, .unset, .unset, .unset] [(.int (p1 >>> ((6 : Int32) &&& 31)))])
    obtain ⟨_, T979, L979, X979, ⟨ub1, kb1, u1_0, u1_1, u1_2, u1_3, rfl, N979q, Ku1, su1, hb1_0, hb1_1, hb1_2, hb1_3, Vu1⟩, st979⟩ := own_callS X978 hx hZ hown (y := (⟨"com/example/eskew/eskew/server/split/CounterValuesRestingPinLaw", "ups", "(I)[Z"⟩ : MethodName)) (hw _ (List.mem_of_getElem? (i := 0) rfl)) (hw _ (List.mem_of_getElem? (i := 1) rfl)) (hw _ (List.mem_of_getElem? (i := 2) rfl)) (hw _ (List.mem_of_getElem? (i := 3) rfl)) (by decide) (argsL := [(.int (p1 >>> ((6 : Int32) &&& 31)))]) (rest := []) rfl (rm1 l Z a0 hw [] (p1 >>> ((6 : Int32) &&& 31)) T978.heap n0 Z978) (g := (mkF m 17 #[.val (.int p1), .val (.long r), .second, .val (.long t0), .second, .val (.long t1), .second, .val (.long t2), .second, .val (.long t3), .second, .val (.int (1 : Int32)), .val (.ref ub0), .unset, .unset, .unset, .unset, .unset, .unset, .unset, .unset, .unset, .unset, .unset] [(.int (p1 >>> ((6 : Int32) &&& 31)))])) rfl (by rw [hml]; rfl) (lenOf pd_5 rfl) rfl (W := 0) (by show 2 * 0 + _ ≤ _; exact Nat.le_of_eq rfl) (hb hby at_17) (by decide) (by decide) (by decide) (by decide)
    have N979 := Fr.app N978 N979q
    refine own_by st979 ?_
    have ne_ub0_ub1 : ub0 ≠ ub1 := Nat.ne_of_lt (Nat.lt_of_lt_of_le Vu0.lt su1)
    have og_ub1 : n0 ≤ ub1 := Nat.le_trans Z978 su1
    have Z979 : n0 ≤ T979.heap.size := Nat.le_trans Z978 Ku1.1
    refine own_by (fun _ k => XS.astore X979.here hx rfl (hb hby at_20) rfl rfl (l' := #[.val (.int p1), .val (.long r), .second, .val (.long t0), .second, .val (.long t1), .second, .val (.long t2), .second, .val (.long t3), .second, .val (.int (1 : Int32)), .val (.ref ub0), .val (.ref ub1), .unset, .unset, .unset, .unset, .unset, .unset, .unset, .unset, .unset, .unset]) rfl k) ?_
    refine own_by (fun _ k => XS.iloadN X979.here hx rfl (hb hby at_22) rfl k) ?_
    refine own_by (fun _ k => XS.bipush X979.here hx rfl (hb hby at_23) k) ?_
    refine own_by (fun _ k => XS.ishr X979.here hx rfl (hb hby at_25) rfl k) ?_
    have f980 := (Vu0.keep Ku1 nin0)
    obtain ⟨_, T981, L981, X981, ⟨ub2, kb2, u2_0, u2_1, u2_2, u2_3, rfl, N981q, Ku2, su2, hb2_0, hb2_1, hb2_2, hb2_3, Vu2⟩, st981⟩ := own_callS X979 hx hZ hown (y := (⟨"com/example/eskew/eskew/server/split/CounterValuesRestingPinLaw", "ups", "(I)[Z"⟩ : MethodName)) (hw _ (List.mem_of_getElem? (i := 0) rfl)) (hw _ (List.mem_of_getElem? (i := 1) rfl)) (hw _ (List.mem_of_getElem? (i := 2) rfl)) (hw _ (List.mem_of_getElem? (i := 3) rfl)) (by decide) (argsL := [(.int (p1 >>> ((10 : Int32) &&& 31)))]) (rest := []) rfl (rm1 l Z a0 hw [] (p1 >>> ((10 : Int32) &&& 31)) T979.heap n0 Z979) (g := (mkF m 26 #[.val (.int p1), .val (.long r), .second, .val (.long t0), .second, .val (.long t1), .second, .val (.long t2), .second, .val (.long t3), .second, .val (.int (1 : Int32)), .val (.ref ub0), .val (.ref ub1), .unset, .unset, .unset, .unset, .unset, .unset, .unset, .unset, .unset, .unset] [(.int (p1 >>> ((10 : Int32) &&& 31)))])) rfl (by rw [hml]; rfl) (lenOf pd_5 rfl) rfl (W := 0) (by show 2 * 0 + _ ≤ _; exact Nat.le_of_eq rfl) (hb hby at_26) (by decide) (by decide) (by decide) (by decide)
    have N981 := Fr.app N979 N981q
    refine own_by st981 ?_
    have ne_ub0_ub2 : ub0 ≠ ub2 := Nat.ne_of_lt (Nat.lt_of_lt_of_le f980.lt su2)
    have ne_ub1_ub2 : ub1 ≠ ub2 := Nat.ne_of_lt (Nat.lt_of_lt_of_le Vu1.lt su2)
    have og_ub2 : n0 ≤ ub2 := Nat.le_trans Z979 su2
    have Z981 : n0 ≤ T981.heap.size := Nat.le_trans Z979 Ku2.1
    refine own_by (fun _ k => XS.astore X981.here hx rfl (hb hby at_29) rfl rfl (l' := #[.val (.int p1), .val (.long r), .second, .val (.long t0), .second, .val (.long t1), .second, .val (.long t2), .second, .val (.long t3), .second, .val (.int (1 : Int32)), .val (.ref ub0), .val (.ref ub1), .val (.ref ub2), .unset, .unset, .unset, .unset, .unset, .unset, .unset, .unset, .unset]) rfl k) ?_
    obtain ⟨T982, h982, X982, e982, E982, A982, D982, -, st982⟩ := newO X981 hx hZ hown (hw _ (List.mem_of_getElem? (i := 5) rfl)) (hw _ (List.mem_of_getElem? (i := 6) rfl)) (hw _ (List.mem_of_getElem? (i := 7) rfl)) rfl (g := (mkF m 31 #[.val (.int p1), .val (.long r), .second, .val (.long t0), .second, .val (.long t1), .second, .val (.long t2), .second, .val (.long t3), .second, .val (.int (1 : Int32)), .val (.ref ub0), .val (.ref ub1), .val (.ref ub2), .unset, .unset, .unset, .unset, .unset, .unset, .unset, .unset, .unset] [])) rfl (hb hby at_31) (by decide) (by decide)
    obtain ⟨b982, g982⟩ : ∃ zq, zq = T981.heap.size := ⟨_, rfl⟩
    rw [← g982] at A982 D982 st982
    have f983 := (f980.keep Ku2 nin0)
    have ne_ub0_b982 : ub0 ≠ b982 := Nat.ne_of_lt (Nat.lt_of_lt_of_le f983.lt (Nat.le_of_eq g982.symm))
    have f984 := (Vu1.keep Ku2 nin0)
    have ne_ub1_b982 : ub1 ≠ b982 := Nat.ne_of_lt (Nat.lt_of_lt_of_le f984.lt (Nat.le_of_eq g982.symm))
    have ne_ub2_b982 : ub2 ≠ b982 := Nat.ne_of_lt (Nat.lt_of_lt_of_le Vu2.lt (Nat.le_of_eq g982.symm))
    have og_b982 : n0 ≤ b982 := Nat.le_trans Z981 (Nat.le_of_eq g982.symm)
    have Z982 : n0 ≤ h982.size := Nat.le_trans Z981 E982.1
    have F_rising_b982 : Fld Z h982 b982 "com/example/eskew/eskew/server/split/CounterValues" "rising" "Lcom/example/eskew/eskew/server/split/CounterValues$WideSum;" .null := D982 (Or.inr (hw _ (List.mem_of_getElem? (i := 22) rfl))) (ty := (.object "com/example/eskew/eskew/server/split/CounterValues$WideSum")) (by decide)
    have F_falling_b982 : Fld Z h982 b982 "com/example/eskew/eskew/server/split/CounterValues" "falling" "Lcom/example/eskew/eskew/server/split/CounterValues$WideSum;" .null := D982 (Or.inr (hw _ (List.mem_of_getElem? (i := 24) rfl))) (ty := (.object "com/example/eskew/eskew/server/split/CounterValues$WideSum")) (by decide)
    have F_resting_b982 : Fld Z h982 b982 "com/example/eskew/eskew/server/split/CounterValues" "resting" "I" (.int (0 : Int32)) := D982 (Or.inl (hw _ (List.mem_of_getElem? (i := 26) rfl))) (ty := .int) (by decide)
    have F_nextToRest_b982 : Fld Z h982 b982 "com/example/eskew/eskew/server/split/CounterValues" "nextToRest" "I" (.int (0 : Int32)) := D982 (Or.inl (hw _ (List.mem_of_getElem? (i := 28) rfl))) (ty := .int) (by decide)
    have F_rereadNanos_b982 : Fld Z h982 b982 "com/example/eskew/eskew/server/split/CounterValues" "rereadNanos" "J" (.long (0 : Int64)) := D982 (Or.inr (hw _ (List.mem_of_getElem? (i := 30) rfl))) (ty := .long) (by decide)
    have F_tallies_b982 : Fld Z h982 b982 "com/example/eskew/eskew/server/split/CounterValues" "tallies" "[Lcom/example/eskew/eskew/server/split/CounterValues$Tally;" .null := D982 (Or.inr (hw _ (List.mem_of_getElem? (i := 34) rfl))) (ty := (.array (.object "com/example/eskew/eskew/server/split/CounterValues$Tally"))) (by decide)
    have F_restingSince_b982 : Fld Z h982 b982 "com/example/eskew/eskew/server/split/CounterValues" "restingSince" "J" (.long (0 : Int64)) := D982 (Or.inl (hw _ (List.mem_of_getElem? (i := 59) rfl))) (ty := .long) (by decide)
    refine own_by st982 ?_
    refine own_by (fun _ k => XS.dup X982.here hx rfl (hb hby at_34) rfl rfl k) ?_
    show own_Go p e below _ T982 (mkF m 35 #[.val (.int p1), .val (.long r), .second, .val (.long t0), .second, .val (.long t1), .second, .val (.long t2), .second, .val (.long t3), .second, .val (.int (1 : Int32)), .val (.ref ub0), .val (.ref ub1), .val (.ref ub2), .unset, .unset, .unset, .unset, .unset, .unset, .unset, .unset, .unset] [(.ref b982), (.ref b982)])
    refine own_by (fun _ k => XS.iload X982.here hx rfl (hb hby at_35) rfl k) ?_
    refine own_by (fun _ k => XS.iconst X982.here hx rfl (hb hby at_37) k) ?_
    refine own_by (fun _ k => XS.iadd X982.here hx rfl (hb hby at_38) rfl k) ?_
    refine own_by (fun _ k => XS.lloadN X982.here hx rfl (hb hby at_39) rfl k) ?_
    refine own_by (fun _ k => XS.lloadN X982.here hx rfl (hb hby at_40) rfl k) ?_
    show own_Go p e below _ T982 (mkF m 41 #[.val (.int p1), .val (.long r), .second, .val (.long t0), .second, .val (.long t1), .second, .val (.long t2), .second, .val (.long t3), .second, .val (.int (1 : Int32)), .val (.ref ub0), .val (.ref ub1), .val (.ref ub2), .unset, .unset, .unset, .unset, .unset, .unset, .unset, .unset, .unset] [(.long t0), (.long r), (.int ((1 : Int32) + (1 : Int32))), (.ref b982), (.ref b982)])
    rw [show (1 : Int32) + (1 : Int32) = (2 : Int32) from by decide]
    have f985 := (f983.ext E982)
    have f986 := (f984.ext E982)
    have f987 := (Vu2.ext E982)
    obtain ⟨_, T988, L988, X988, ⟨ta, kt, t_0, t_1, rfl, N988q, Kc, Ec, Fc0, Fc1, Fc2, Fc3, Fc4, sta, Vta, st_0, st_1, Sc_0, Sc_1⟩, st988⟩ := own_callI X982 hx hZ hown (y := (⟨"com/example/eskew/eskew/server/split/CounterValues", "<init>", "(IJJ)V"⟩ : MethodName)) rfl (hw _ (List.mem_of_getElem? (i := 8) rfl)) (hw _ (List.mem_of_getElem? (i := 9) rfl)) (hw _ (List.mem_of_getElem? (i := 7) rfl)) (hw _ (List.mem_of_getElem? (i := 10) rfl)) (by decide) (a := b982) (argsL := [(.int (2 : Int32)), (.long r), (.long t0)]) (rest := [(.ref b982)]) e982 (rm2_1 l Z a0 hw [] b982 r t0 h982 n0 Z982 og_b982 A982 F_rising_b982 F_falling_b982 F_resting_b982 F_nextToRest_b982 F_rereadNanos_b982 F_tallies_b982 F_restingSince_b982) (g := (mkF m 41 #[.val (.int p1), .val (.long r), .second, .val (.long t0), .second, .val (.long t1), .second, .val (.long t2), .second, .val (.long t3), .second, .val (.int (1 : Int32)), .val (.ref ub0), .val (.ref ub1), .val (.ref ub2), .unset, .unset, .unset, .unset, .unset, .unset, .unset, .unset, .unset] [(.long t0), (.long r), (.int (2 : Int32)), (.ref b982), (.ref b982)])) rfl (by rw [hml]; rfl) (lenOf pd_6 rfl) rfl (W := 1) (by show 2 * 0 + _ ≤ _; exact Nat.le_of_eq rfl) (hb hby at_41) (by decide) (by decide) (by decide) (by decide)
    have N988 := Fr.app N981 N988q
    refine own_by st988 ?_
    have ne_ub0_ta : ub0 ≠ ta := Nat.ne_of_lt (Nat.lt_of_lt_of_le f985.lt sta)
    have ne_ub1_ta : ub1 ≠ ta := Nat.ne_of_lt (Nat.lt_of_lt_of_le f986.lt sta)
    have ne_ub2_ta : ub2 ≠ ta := Nat.ne_of_lt (Nat.lt_of_lt_of_le f987.lt sta)
    have ne_b982_ta : b982 ≠ ta := Nat.ne_of_lt (Nat.lt_of_lt_of_le A982.lt sta)
    have og_ta : n0 ≤ ta := Nat.le_trans Z982 sta
    have ne_ub0_t_0 : ub0 ≠ t_0 := Nat.ne_of_lt (Nat.lt_of_lt_of_le f985.lt st_0)
    have ne_ub1_t_0 : ub1 ≠ t_0 := Nat.ne_of_lt (Nat.lt_of_lt_of_le f986.lt st_0)
    have ne_ub2_t_0 : ub2 ≠ t_0 := Nat.ne_of_lt (Nat.lt_of_lt_of_le f987.lt st_0)
    have ne_b982_t_0 : b982 ≠ t_0 := Nat.ne_of_lt (Nat.lt_of_lt_of_le A982.lt st_0)
    have og_t_0 : n0 ≤ t_0 := Nat.le_trans Z982 st_0
    have ne_ub0_t_1 : ub0 ≠ t_1 := Nat.ne_of_lt (Nat.lt_of_lt_of_le f985.lt st_1)
    have ne_ub1_t_1 : ub1 ≠ t_1 := Nat.ne_of_lt (Nat.lt_of_lt_of_le f986.lt st_1)
    have ne_ub2_t_1 : ub2 ≠ t_1 := Nat.ne_of_lt (Nat.lt_of_lt_of_le f987.lt st_1)
    have ne_b982_t_1 : b982 ≠ t_1 := Nat.ne_of_lt (Nat.lt_of_lt_of_le A982.lt st_1)
    have og_t_1 : n0 ≤ t_1 := Nat.le_trans Z982 st_1
    have Z988 : n0 ≤ T988.heap.size := Nat.le_trans Z982 Kc.1
    refine own_by (fun _ k => XS.astore X988.here hx rfl (hb hby at_44) rfl rfl (l' := #[.val (.int p1), .val (.long r), .second, .val (.long t0), .second, .val (.long t1), .second, .val (.long t2), .second, .val (.long t3), .second, .val (.int (1 : Int32)), .val (.ref ub0), .val (.ref ub1), .val (.ref ub2), .val (.ref b982), .unset, .unset, .unset, .unset, .unset, .unset, .unset, .unset]) rfl k) ?_
    refine own_by (fun _ k => XS.iconst X988.here hx rfl (hb hby at_46) k) ?_
    obtain ⟨T989, h989, k989, X989, e989, E989, A989, C989, st989⟩ := newPE X988 hx hZ (hw _ (List.mem_of_getElem? (i := 44) rfl)) rfl (g := (mkF m 47 #[.val (.int p1), .val (.long r), .second, .val (.long t0), .second, .val (.long t1), .second, .val (.long t2), .second, .val (.long t3), .second, .val (.int (1 : Int32)), .val (.ref ub0), .val (.ref ub1), .val (.ref ub2), .val (.ref b982), .unset, .unset, .unset, .unset, .unset, .unset, .unset, .unset] [(.int (2 : Int32))])) rfl (hb hby at_47) rfl (by decide) (cap := 2) (by decide) (by decide) (by decide) (by decide) (ad := "[I") (by decide)
    obtain ⟨b989, g989⟩ : ∃ zq, zq = T988.heap.size := ⟨_, rfl⟩
    rw [← g989] at A989 C989 st989
    have f990 := (f985.keep Kc (ninS ne_ub0_b982 nin0))
    have ne_ub0_b989 : ub0 ≠ b989 := Nat.ne_of_lt (Nat.lt_of_lt_of_le f990.lt (Nat.le_of_eq g989.symm))
    have f991 := (f986.keep Kc (ninS ne_ub1_b982 nin0))
    have ne_ub1_b989 : ub1 ≠ b989 := Nat.ne_of_lt (Nat.lt_of_lt_of_le f991.lt (Nat.le_of_eq g989.symm))
    have f992 := (f987.keep Kc (ninS ne_ub2_b982 nin0))
    have ne_ub2_b989 : ub2 ≠ b989 := Nat.ne_of_lt (Nat.lt_of_lt_of_le f992.lt (Nat.le_of_eq g989.symm))
    have ne_b982_b989 : b982 ≠ b989 := Nat.ne_of_lt (Nat.lt_of_lt_of_le Ec.lt (Nat.le_of_eq g989.symm))
    have ne_ta_b989 : ta ≠ b989 := Nat.ne_of_lt (Nat.lt_of_lt_of_le Vta.lt (Nat.le_of_eq g989.symm))
    have ne_t_0_b989 : t_0 ≠ b989 := Nat.ne_of_lt (Nat.lt_of_lt_of_le Sc_0.lt (Nat.le_of_eq g989.symm))
    have ne_t_1_b989 : t_1 ≠ b989 := Nat.ne_of_lt (Nat.lt_of_lt_of_le Sc_1.lt (Nat.le_of_eq g989.symm))
    have og_b989 : n0 ≤ b989 := Nat.le_trans Z988 (Nat.le_of_eq g989.symm)
    have Z989 : n0 ≤ h989.size := Nat.le_trans Z988 E989.1
    have V989 : Arv Z h989 b989 k989 .int (2 : Int32) [(.int (0 : Int32)), (.int (0 : Int32))] (.int (0 : Int32)) := (Arv.new A989 (by decide)).pad (pad_rep [] (.int (0 : Int32)) 2)
    refine own_by st989 ?_
    refine own_by (fun _ k => XS.dup X989.here hx rfl (hb hby at_49) rfl rfl k) ?_
    refine own_by (fun _ k => XS.iconst X989.here hx rfl (hb hby at_50) k) ?_
    refine own_by (fun _ k => XS.iconst X989.here hx rfl (hb hby at_51) k) ?_
    obtain ⟨cl993, Ar993, cq993, hin993, hat993, set993⟩ := own_arv V989 (j := (0 : Int32)) ⟨by decide, by decide⟩
    obtain ⟨T994, h994, X994, e994, W994, st994⟩ := stI X989 hx hZ e989 Ar993 (j := (0 : Int32)) hin993 (g := (mkF m 52 #[.val (.int p1), .val (.long r), .second, .val (.long t0), .second, .val (.long t1), .second, .val (.long t2), .second, .val (.long t3), .second, .val (.int (1 : Int32)), .val (.ref ub0), .val (.ref ub1), .val (.ref ub2), .val (.ref b982), .unset, .unset, .unset, .unset, .unset, .unset, .unset, .unset] [(.int (-1 : Int32)), (.int (0 : Int32)), (.ref b989), (.ref b989)])) rfl rfl (hb hby at_52)
    have V994 : Arv Z h994 b989 k989 .int (2 : Int32) [(.int (-1 : Int32)), (.int (0 : Int32))] (.int (0 : Int32)) := set993 rfl W994 0 rfl (Nat.le_of_ble_eq_true rfl)
    have N994 := Fr.snoc X994 N988 og_b989
    have Z994 : n0 ≤ h994.size := Nat.le_trans Z989 (Keep.of_wr W994).1
    refine own_by st994 ?_
    show own_Go p e below _ T994 (mkF m 53 #[.val (.int p1), .val (.long r), .second, .val (.long t0), .second, .val (.long t1), .second, .val (.long t2), .second, .val (.long t3), .second, .val (.int (1 : Int32)), .val (.ref ub0), .val (.ref ub1), .val (.ref ub2), .val (.ref b982), .unset, .unset, .unset, .unset, .unset, .unset, .unset, .unset] [(.ref b989)])
    refine own_by (fun _ k => XS.dup X994.here hx rfl (hb hby at_53) rfl rfl k) ?_
    refine own_by (fun _ k => XS.iconst X994.here hx rfl (hb hby at_54) k) ?_
    refine own_by (fun _ k => XS.iconst X994.here hx rfl (hb hby at_55) k) ?_
    obtain ⟨cl995, Ar995, cq995, hin995, hat995, set995⟩ := own_arv V994 (j := (1 : Int32)) ⟨by decide, by decide⟩
    obtain ⟨T996, h996, X996, e996, W996, st996⟩ := stI X994 hx hZ e994 Ar995 (j := (1 : Int32)) hin995 (g := (mkF m 56 #[.val (.int p1), .val (.long r), .second, .val (.long t0), .second, .val (.long t1), .second, .val (.long t2), .second, .val (.long t3), .second, .val (.int (1 : Int32)), .val (.ref ub0), .val (.ref ub1), .val (.ref ub2), .val (.ref b982), .unset, .unset, .unset, .unset, .unset, .unset, .unset, .unset] [(.int (1 : Int32)), (.int (1 : Int32)), (.ref b989), (.ref b989)])) rfl rfl (hb hby at_56)
    have V996 : Arv Z h996 b989 k989 .int (2 : Int32) [(.int (-1 : Int32)), (.int (1 : Int32))] (.int (0 : Int32)) := set995 rfl W996 1 rfl (Nat.le_of_ble_eq_true rfl)
    have N996 := Fr.snoc X996 N994 og_b989
    have Z996 : n0 ≤ h996.size := Nat.le_trans Z994 (Keep.of_wr W996).1
    refine own_by st996 ?_
    refine own_by (fun _ k => XS.astore X996.here hx rfl (hb hby at_57) rfl rfl (l' := #[.val (.int p1), .val (.long r), .second, .val (.long t0), .second, .val (.long t1), .second, .val (.long t2), .second, .val (.long t3), .second, .val (.int (1 : Int32)), .val (.ref ub0), .val (.ref ub1), .val (.ref ub2), .val (.ref b982), .val (.ref b989), .unset, .unset, .unset, .unset, .unset, .unset, .unset]) rfl k) ?_
    refine own_by (fun _ k => XS.iconst X996.here hx rfl (hb hby at_59) k) ?_
    obtain ⟨T997, h997, k997, X997, e997, E997, A997, C997, st997⟩ := newPE X996 hx hZ (hw _ (List.mem_of_getElem? (i := 45) rfl)) e996 (g := (mkF m 60 #[.val (.int p1), .val (.long r), .second, .val (.long t0), .second, .val (.long t1), .second, .val (.long t2), .second, .val (.long t3), .second, .val (.int (1 : Int32)), .val (.ref ub0), .val (.ref ub1), .val (.ref ub2), .val (.ref b982), .val (.ref b989), .unset, .unset, .unset, .unset, .unset, .unset, .unset] [(.int (1 : Int32))])) rfl (hb hby at_60) rfl (by decide) (cap := 1) (by decide) (by decide) (by decide) (by decide) (ad := "[J") (by decide)
    obtain ⟨b997, g997⟩ : ∃ zq, zq = h996.size := ⟨_, rfl⟩
    rw [← g997] at A997 C997 st997
    have f998 := (((f990.ext E989).other W994 ne_ub0_b989).other W996 ne_ub0_b989)
    have ne_ub0_b997 : ub0 ≠ b997 := Nat.ne_of_lt (Nat.lt_of_lt_of_le f998.lt (Nat.le_of_eq g997.symm))
    have f999 := (((f991.ext E989).other W994 ne_ub1_b989).other W996 ne_ub1_b989)
    have ne_ub1_b997 : ub1 ≠ b997 := Nat.ne_of_lt (Nat.lt_of_lt_of_le f999.lt (Nat.le_of_eq g997.symm))
    have f1000 := (((f992.ext E989).other W994 ne_ub2_b989).other W996 ne_ub2_b989)
    have ne_ub2_b997 : ub2 ≠ b997 := Nat.ne_of_lt (Nat.lt_of_lt_of_le f1000.lt (Nat.le_of_eq g997.symm))
    have f1001 := (((Ec.ext E989).wr W994).wr W996)
    have ne_b982_b997 : b982 ≠ b997 := Nat.ne_of_lt (Nat.lt_of_lt_of_le f1001.lt (Nat.le_of_eq g997.symm))
    have f1002 := (((Vta.ext E989).other W994 ne_ta_b989).other W996 ne_ta_b989)
    have ne_ta_b997 : ta ≠ b997 := Nat.ne_of_lt (Nat.lt_of_lt_of_le f1002.lt (Nat.le_of_eq g997.symm))
    have f1003 := (((Sc_0.ext E989).other W994 (Or.inl ne_t_0_b989)).other W996 (Or.inl ne_t_0_b989))
    have ne_t_0_b997 : t_0 ≠ b997 := Nat.ne_of_lt (Nat.lt_of_lt_of_le f1003.lt (Nat.le_of_eq g997.symm))
    have f1004 := (((Sc_1.ext E989).other W994 (Or.inl ne_t_1_b989)).other W996 (Or.inl ne_t_1_b989))
    have ne_t_1_b997 : t_1 ≠ b997 := Nat.ne_of_lt (Nat.lt_of_lt_of_le f1004.lt (Nat.le_of_eq g997.symm))
    have ne_b989_b997 : b989 ≠ b997 := Nat.ne_of_lt (Nat.lt_of_lt_of_le V996.lt (Nat.le_of_eq g997.symm))
    have og_b997 : n0 ≤ b997 := Nat.le_trans Z996 (Nat.le_of_eq g997.symm)
    have Z997 : n0 ≤ h997.size := Nat.le_trans Z996 E997.1
    have V997 : Arv Z h997 b997 k997 .long (1 : Int32) [(.long (0 : Int64))] (.long (0 : Int64)) := (Arv.new A997 (by decide)).pad (pad_rep [] (.long (0 : Int64)) 1)
    refine own_by st997 ?_
    refine own_by (fun _ k => XS.astore X997.here hx rfl (hb hby at_62) rfl rfl (l' := #[.val (.int p1), .val (.long r), .second, .val (.long t0), .second, .val (.long t1), .second, .val (.long t2), .second, .val (.long t3), .second, .val (.int (1 : Int32)), .val (.ref ub0), .val (.ref ub1), .val (.ref ub2), .val (.ref b982), .val (.ref b989), .val (.ref b997), .unset, .unset, .unset, .unset, .unset, .unset]) rfl k) ?_
    refine own_by (fun _ k => XS.aload X997.here hx rfl (hb hby at_64) rfl rfl k) ?_
    show own_Go p e below _ T997 (mkF m 66 #[.val (.int p1), .val (.long r), .second, .val (.long t0), .second, .val (.long t1), .second, .val (.long t2), .second, .val (.long t3), .second, .val (.int (1 : Int32)), .val (.ref ub0), .val (.ref ub1), .val (.ref ub2), .val (.ref b982), .val (.ref b989), .val (.ref b997), .unset, .unset, .unset, .unset, .unset, .unset] [(.ref b982)])
    refine own_by (fun _ k => XS.aload X997.here hx rfl (hb hby at_66) rfl rfl k) ?_
    refine own_by (fun _ k => XS.lload X997.here hx rfl (hb hby at_68) rfl k) ?_
    have hin0 : own_in (1 : Int32) (1 : Int32) := by decide
    have f1005 := (f1001.ext E997)
    have f1006 := ((((Fc0.ext E989).other W994 (Or.inl ne_b982_b989)).other W996 (Or.inl ne_b982_b989)).ext E997)
    have f1007 := ((((Fc1.ext E989).other W994 (Or.inl ne_b982_b989)).other W996 (Or.inl ne_b982_b989)).ext E997)
    have f1008 := ((((Fc2.ext E989).other W994 (Or.inl ne_b982_b989)).other W996 (Or.inl ne_b982_b989)).ext E997)
    have f1009 := ((((Fc3.ext E989).other W994 (Or.inl ne_b982_b989)).other W996 (Or.inl ne_b982_b989)).ext E997)
    have f1010 := ((((Fc4.ext E989).other W994 (Or.inl ne_b982_b989)).other W996 (Or.inl ne_b982_b989)).ext E997)
    have f1011 := (f998.ext E997)
    have f1012 := (f1002.ext E997)
    have f1013 := (f1003.ext E997)
    have f1014 := (f1004.ext E997)
    have f1015 := (f999.ext E997)
    have f1016 := (f1000.ext E997)
    have f1017 := (V996.ext E997)
    obtain ⟨_, T1018, L1018, X1018, ⟨rfl, N1018q, Kr0, Er0, Fr0_0, Fr0_1, Fr0_2, Fr0_3, Fr0_4⟩, st1018⟩ := own_callV X997 hx hZ hown (y := (⟨"com/example/eskew/eskew/server/split/CounterValues", "resting", "([ZJ)I"⟩ : MethodName)) (C := "com/example/eskew/eskew/server/split/CounterValues") (hw _ (List.mem_of_getElem? (i := 46) rfl)) (hw _ (List.mem_of_getElem? (i := 47) rfl)) (hw _ (List.mem_of_getElem? (i := 49) rfl)) (hw _ (List.mem_of_getElem? (i := 48) rfl)) (hw _ (List.mem_of_getElem? (i := 7) rfl)) (hw _ (List.mem_of_getElem? (i := 50) rfl)) (by decide) (a := b982) f1005 (argsL := [(.ref ub0), (.long t1)]) (rest := []) e997 (rm6_1 l Z a0 hw [] b982 ub0 ta t_0 t_1 kb0 kt u0_0 u0_1 u0_2 u0_3 (-1 : Int32) (1 : Int32) (0 : Int64) t1 t0 r h997 n0 Z997 og_b982 hin0 (Ne.symm ne_ub0_b982) ne_b982_ta ne_b982_t_0 ne_b982_t_1 f1005 f1006 f1007 f1008 f1009 f1010 f1011 f1012 f1013 f1014) (g := (mkF m 70 #[.val (.int p1), .val (.long r), .second, .val (.long t0), .second, .val (.long t1), .second, .val (.long t2), .second, .val (.long t3), .second, .val (.int (1 : Int32)), .val (.ref ub0), .val (.ref ub1), .val (.ref ub2), .val (.ref b982), .val (.ref b989), .val (.ref b997), .unset, .unset, .unset, .unset, .unset, .unset] [(.long t1), (.ref ub0), (.ref b982)])) rfl (by rw [hml]; rfl) (lenOf pd_7 rfl) rfl (W := 0) (by show 2 * 0 + _ ≤ _; exact Nat.le_of_eq rfl) (hb hby at_70) (by decide) (by decide) (by decide) (by decide)
    have N1018 := Fr.app N996 N1018q
    refine own_by st1018 ?_
    have Z1018 : n0 ≤ T1018.heap.size := Nat.le_trans Z997 Kr0.1
    have hw0 : own_in (1 : Int32) (own_wake t1 r ((-1 : Int32), (0 : Int64), (1 : Int32))).2.2 := by unfold own_wake; split <;> first | exact hin0 | (split <;> exact hin0)
    have hq0 := own_same_1 u0_0 u0_1 u0_2 u0_3 hb0_1 hb0_2 hb0_3 t1 t0 r (own_wake t1 r ((-1 : Int32), (0 : Int64), (1 : Int32))) hw0
    have hs0 : (own_rest (1 : Int32) (own_count (1 : Int32) u0_1 u0_2 u0_3) (own_at u0_0 u0_1 u0_2 u0_3) t1 t0 r 1 (-1 : Int32) (0 : Int64) (1 : Int32)) = (own_model (1 : Int32) (own_count (1 : Int32) u0_1 u0_2 u0_3) (own_at u0_0 u0_1 u0_2 u0_3) t1 t0 r (own_wake t1 r ((-1 : Int32), (0 : Int64), (1 : Int32)))) := hq0.1
    have hi0 := hq0.2
    obtain ⟨⟨x0, y0, z0⟩, hm0⟩ : ∃ zq, zq = (own_model (1 : Int32) (own_count (1 : Int32) u0_1 u0_2 u0_3) (own_at u0_0 u0_1 u0_2 u0_3) t1 t0 r (own_wake t1 r ((-1 : Int32), (0 : Int64), (1 : Int32)))) := ⟨_, rfl⟩
    rw [← hm0] at hs0 hi0
    rw [hs0] at Fr0_0 Fr0_1 Fr0_2
    show own_Go p e below _ T1018 (mkF m 73 #[.val (.int p1), .val (.long r), .second, .val (.long t0), .second, .val (.long t1), .second, .val (.long t2), .second, .val (.long t3), .second, .val (.int (1 : Int32)), .val (.ref ub0), .val (.ref ub1), .val (.ref ub2), .val (.ref b982), .val (.ref b989), .val (.ref b997), .unset, .unset, .unset, .unset, .unset, .unset] [(.int (own_rest (1 : Int32) (own_count (1 : Int32) u0_1 u0_2 u0_3) (own_at u0_0 u0_1 u0_2 u0_3) t1 t0 r 1 (-1 : Int32) (0 : Int64) (1 : Int32)).1)])
    rw [hs0]
    dsimp only at Fr0_0 Fr0_1 Fr0_2 hi0
    refine own_by (fun _ k => XS.istore X1018.here hx rfl (hb hby at_73) rfl (l' := #[.val (.int p1), .val (.long r), .second, .val (.long t0), .second, .val (.long t1), .second, .val (.long t2), .second, .val (.long t3), .second, .val (.int (1 : Int32)), .val (.ref ub0), .val (.ref ub1), .val (.ref ub2), .val (.ref b982), .val (.ref b989), .val (.ref b997), .val (.int x0), .unset, .unset, .unset, .unset, .unset]) rfl k) ?_
    refine own_by (fun _ k => XS.aload X1018.here hx rfl (hb hby at_75) rfl rfl k) ?_
    refine own_by (fun _ k => XS.aload X1018.here hx rfl (hb hby at_77) rfl rfl k) ?_
    refine own_by (fun _ k => XS.aload X1018.here hx rfl (hb hby at_79) rfl rfl k) ?_
    refine own_by (fun _ k => XS.iload X1018.here hx rfl (hb hby at_81) rfl k) ?_
    refine own_by (fun _ k => XS.lload X1018.here hx rfl (hb hby at_83) rfl k) ?_
    refine own_by (fun _ k => XS.lloadN X1018.here hx rfl (hb hby at_85) rfl k) ?_
    refine own_by (fun _ k => XS.lloadN X1018.here hx rfl (hb hby at_86) rfl k) ?_
    show own_Go p e below _ T1018 (mkF m 87 #[.val (.int p1), .val (.long r), .second, .val (.long t0), .second, .val (.long t1), .second, .val (.long t2), .second, .val (.long t3), .second, .val (.int (1 : Int32)), .val (.ref ub0), .val (.ref ub1), .val (.ref ub2), .val (.ref b982), .val (.ref b989), .val (.ref b997), .val (.int x0), .unset, .unset, .unset, .unset, .unset] [(.long r), (.long t0), (.long t1), (.int (1 : Int32)), (.ref ub0), (.ref b997), (.ref b989)])
    have f1019 := (f1011.keep Kr0 (ninS ne_ub0_b982 nin0))
    have f1020 := (f1017.keep Kr0 (ninS (Ne.symm ne_b982_b989) nin0))
    have f1021 := (V997.keep Kr0 (ninS (Ne.symm ne_b982_b997) nin0))
    have f1022 := (f1015.keep Kr0 (ninS ne_ub1_b982 nin0))
    have f1023 := (f1016.keep Kr0 (ninS ne_ub2_b982 nin0))
    have f1024 := (f1012.keep Kr0 (ninS (Ne.symm ne_b982_ta) nin0))
    have f1025 := (f1013.keep Kr0 (ninS (Ne.symm ne_b982_t_0) nin0))
    have f1026 := (f1014.keep Kr0 (ninS (Ne.symm ne_b982_t_1) nin0))
    obtain ⟨_, T1027, L1027, X1027, ⟨rfl, N1027q, Km0, Va0, Vs0⟩, st1027⟩ := own_callS X1018 hx hZ hown (y := (⟨"com/example/eskew/eskew/server/split/CounterValuesRestingPinLaw", "model", "([I[J[ZIJJJ)I"⟩ : MethodName)) (hw _ (List.mem_of_getElem? (i := 51) rfl)) (hw _ (List.mem_of_getElem? (i := 52) rfl)) (hw _ (List.mem_of_getElem? (i := 2) rfl)) (hw _ (List.mem_of_getElem? (i := 53) rfl)) (by decide) (argsL := [(.ref b989), (.ref b997), (.ref ub0), (.int (1 : Int32)), (.long t1), (.long t0), (.long r)]) (rest := []) rfl (rm7_1 l Z a0 hw [] b989 b997 ub0 k989 k997 kb0 u0_0 u0_1 u0_2 u0_3 (-1 : Int32) (1 : Int32) (0 : Int64) t1 t0 r T1018.heap n0 Z1018 og_b989 og_b997 ne_b989_b997 (Ne.symm ne_ub0_b989) (Ne.symm ne_ub0_b997) hin0 f1019 f1020 f1021) (g := (mkF m 87 #[.val (.int p1), .val (.long r), .second, .val (.long t0), .second, .val (.long t1), .second, .val (.long t2), .second, .val (.long t3), .second, .val (.int (1 : Int32)), .val (.ref ub0), .val (.ref ub1), .val (.ref ub2), .val (.ref b982), .val (.ref b989), .val (.ref b997), .val (.int x0), .unset, .unset, .unset, .unset, .unset] [(.long r), (.long t0), (.long t1), (.int (1 : Int32)), (.ref ub0), (.ref b997), (.ref b989)])) rfl (by rw [hml]; rfl) (lenOf pd_8 rfl) rfl (W := 0) (by show 2 * 0 + _ ≤ _; exact Nat.le_of_eq rfl) (hb hby at_87) (by decide) (by decide) (by decide) (by decide)
    have N1027 := Fr.app N1018 N1027q
    refine own_by st1027 ?_
    have Z1027 : n0 ≤ T1027.heap.size := Nat.le_trans Z1018 Km0.1
    rw [← hm0] at Va0 Vs0
    show own_Go p e below _ T1027 (mkF m 90 #[.val (.int p1), .val (.long r), .second, .val (.long t0), .second, .val (.long t1), .second, .val (.long t2), .second, .val (.long t3), .second, .val (.int (1 : Int32)), .val (.ref ub0), .val (.ref ub1), .val (.ref ub2), .val (.ref b982), .val (.ref b989), .val (.ref b997), .val (.int x0), .unset, .unset, .unset, .unset, .unset] [(.int (own_model (1 : Int32) (own_count (1 : Int32) u0_1 u0_2 u0_3) (own_at u0_0 u0_1 u0_2 u0_3) t1 t0 r (own_wake t1 r ((-1 : Int32), (0 : Int64), (1 : Int32)))).1)])
    rw [← hm0]
    dsimp only at Va0 Vs0
    refine own_by (fun _ k => XS.istore X1027.here hx rfl (hb hby at_90) rfl (l' := #[.val (.int p1), .val (.long r), .second, .val (.long t0), .second, .val (.long t1), .second, .val (.long t2), .second, .val (.long t3), .second, .val (.int (1 : Int32)), .val (.ref ub0), .val (.ref ub1), .val (.ref ub2), .val (.ref b982), .val (.ref b989), .val (.ref b997), .val (.int x0), .val (.int x0), .unset, .unset, .unset, .unset]) rfl k) ?_
    refine own_by (fun _ k => XS.aload X1027.here hx rfl (hb hby at_92) rfl rfl k) ?_
    refine own_by (fun _ k => XS.aload X1027.here hx rfl (hb hby at_94) rfl rfl k) ?_
    refine own_by (fun _ k => XS.lload X1027.here hx rfl (hb hby at_96) rfl k) ?_
    have f1028 := (Er0.keep Km0)
    have f1029 := (Fr0_0.keep Km0 (ninS ne_b982_b989 (ninS ne_b982_b997 nin0)))
    have f1030 := (Fr0_1.keep Km0 (ninS ne_b982_b989 (ninS ne_b982_b997 nin0)))
    have f1031 := (Fr0_2.keep Km0 (ninS ne_b982_b989 (ninS ne_b982_b997 nin0)))
    have f1032 := (Fr0_3.keep Km0 (ninS ne_b982_b989 (ninS ne_b982_b997 nin0)))
    have f1033 := (Fr0_4.keep Km0 (ninS ne_b982_b989 (ninS ne_b982_b997 nin0)))
    have f1034 := (f1022.keep Km0 (ninS ne_ub1_b989 (ninS ne_ub1_b997 nin0)))
    have f1035 := (f1024.keep Km0 (ninS ne_ta_b989 (ninS ne_ta_b997 nin0)))
    have f1036 := (f1025.keep Km0 (ninS ne_t_0_b989 (ninS ne_t_0_b997 nin0)))
    have f1037 := (f1026.keep Km0 (ninS ne_t_1_b989 (ninS ne_t_1_b997 nin0)))
    have f1038 := (f1019.keep Km0 (ninS ne_ub0_b989 (ninS ne_ub0_b997 nin0)))
    have f1039 := (f1023.keep Km0 (ninS ne_ub2_b989 (ninS ne_ub2_b997 nin0)))
    obtain ⟨_, T1040, L1040, X1040, ⟨rfl, N1040q, Kr1, Er1, Fr1_0, Fr1_1, Fr1_2, Fr1_3, Fr1_4⟩, st1040⟩ := own_callV X1027 hx hZ hown (y := (⟨"com/example/eskew/eskew/server/split/CounterValues", "resting", "([ZJ)I"⟩ : MethodName)) (C := "com/example/eskew/eskew/server/split/CounterValues") (hw _ (List.mem_of_getElem? (i := 46) rfl)) (hw _ (List.mem_of_getElem? (i := 47) rfl)) (hw _ (List.mem_of_getElem? (i := 49) rfl)) (hw _ (List.mem_of_getElem? (i := 48) rfl)) (hw _ (List.mem_of_getElem? (i := 7) rfl)) (hw _ (List.mem_of_getElem? (i := 50) rfl)) (by decide) (a := b982) f1028 (argsL := [(.ref ub1), (.long t2)]) (rest := []) rfl (rm6_1 l Z a0 hw [] b982 ub1 ta t_0 t_1 kb1 kt u1_0 u1_1 u1_2 u1_3 x0 z0 y0 t2 t0 r T1027.heap n0 Z1027 og_b982 hi0 (Ne.symm ne_ub1_b982) ne_b982_ta ne_b982_t_0 ne_b982_t_1 f1028 f1029 f1030 f1031 f1032 f1033 f1034 f1035 f1036 f1037) (g := (mkF m 98 #[.val (.int p1), .val (.long r), .second, .val (.long t0), .second, .val (.long t1), .second, .val (.long t2), .second, .val (.long t3), .second, .val (.int (1 : Int32)), .val (.ref ub0), .val (.ref ub1), .val (.ref ub2), .val (.ref b982), .val (.ref b989), .val (.ref b997), .val (.int x0), .val (.int x0), .unset, .unset, .unset, .unset] [(.long t2), (.ref ub1), (.ref b982)])) rfl (by rw [hml]; rfl) (lenOf pd_7 rfl) rfl (W := 0) (by show 2 * 0 + _ ≤ _; exact Nat.le_of_eq rfl) (hb hby at_98) (by decide) (by decide) (by decide) (by decide)
    have N1040 := Fr.app N1027 N1040q
    refine own_by st1040 ?_
    have Z1040 : n0 ≤ T1040.heap.size := Nat.le_trans Z1027 Kr1.1
    have hw1 : own_in (1 : Int32) (own_wake t2 r (x0, y0, z0)).2.2 := by unfold own_wake; split <;> first | exact hi0 | (split <;> exact hi0)
    have hq1 := own_same_1 u1_0 u1_1 u1_2 u1_3 hb1_1 hb1_2 hb1_3 t2 t0 r (own_wake t2 r (x0, y0, z0)) hw1
    have hs1 : (own_rest (1 : Int32) (own_count (1 : Int32) u1_1 u1_2 u1_3) (own_at u1_0 u1_1 u1_2 u1_3) t2 t0 r 1 x0 y0 z0) = (own_model (1 : Int32) (own_count (1 : Int32) u1_1 u1_2 u1_3) (own_at u1_0 u1_1 u1_2 u1_3) t2 t0 r (own_wake t2 r (x0, y0, z0))) := hq1.1
    have hi1 := hq1.2
    obtain ⟨⟨x1, y1, z1⟩, hm1⟩ : ∃ zq, zq = (own_model (1 : Int32) (own_count (1 : Int32) u1_1 u1_2 u1_3) (own_at u1_0 u1_1 u1_2 u1_3) t2 t0 r (own_wake t2 r (x0, y0, z0))) := ⟨_, rfl⟩
    rw [← hm1] at hs1 hi1
    rw [hs1] at Fr1_0 Fr1_1 Fr1_2
    show own_Go p e below _ T1040 (mkF m 101 #[.val (.int p1), .val (.long r), .second, .val (.long t0), .second, .val (.long t1), .second, .val (.long t2), .second, .val (.long t3), .second, .val (.int (1 : Int32)), .val (.ref ub0), .val (.ref ub1), .val (.ref ub2), .val (.ref b982), .val (.ref b989), .val (.ref b997), .val (.int x0), .val (.int x0), .unset, .unset, .unset, .unset] [(.int (own_rest (1 : Int32) (own_count (1 : Int32) u1_1 u1_2 u1_3) (own_at u1_0 u1_1 u1_2 u1_3) t2 t0 r 1 x0 y0 z0).1)])
    rw [hs1]
    dsimp only at Fr1_0 Fr1_1 Fr1_2 hi1
    refine own_by (fun _ k => XS.istore X1040.here hx rfl (hb hby at_101) rfl (l' := #[.val (.int p1), .val (.long r), .second, .val (.long t0), .second, .val (.long t1), .second, .val (.long t2), .second, .val (.long t3), .second, .val (.int (1 : Int32)), .val (.ref ub0), .val (.ref ub1), .val (.ref ub2), .val (.ref b982), .val (.ref b989), .val (.ref b997), .val (.int x0), .val (.int x0), .val (.int x1), .unset, .unset, .unset]) rfl k) ?_
    refine own_by (fun _ k => XS.aload X1040.here hx rfl (hb hby at_103) rfl rfl k) ?_
    refine own_by (fun _ k => XS.aload X1040.here hx rfl (hb hby at_105) rfl rfl k) ?_
    refine own_by (fun _ k => XS.aload X1040.here hx rfl (hb hby at_107) rfl rfl k) ?_
    refine own_by (fun _ k => XS.iload X1040.here hx rfl (hb hby at_109) rfl k) ?_
    refine own_by (fun _ k => XS.lload X1040.here hx rfl (hb hby at_111) rfl k) ?_
    refine own_by (fun _ k => XS.lloadN X1040.here hx rfl (hb hby at_113) rfl k) ?_
    refine own_by (fun _ k => XS.lloadN X1040.here hx rfl (hb hby at_114) rfl k) ?_
    show own_Go p e below _ T1040 (mkF m 115 #[.val (.int p1), .val (.long r), .second, .val (.long t0), .second, .val (.long t1), .second, .val (.long t2), .second, .val (.long t3), .second, .val (.int (1 : Int32)), .val (.ref ub0), .val (.ref ub1), .val (.ref ub2), .val (.ref b982), .val (.ref b989), .val (.ref b997), .val (.int x0), .val (.int x0), .val (.int x1), .unset, .unset, .unset] [(.long r), (.long t0), (.long t2), (.int (1 : Int32)), (.ref ub1), (.ref b997), (.ref b989)])
    have f1041 := (f1034.keep Kr1 (ninS ne_ub1_b982 nin0))
    have f1042 := (Va0.keep Kr1 (ninS (Ne.symm ne_b982_b989) nin0))
    have f1043 := (Vs0.keep Kr1 (ninS (Ne.symm ne_b982_b997) nin0))
    have f1044 := (f1038.keep Kr1 (ninS ne_ub0_b982 nin0))
    have f1045 := (f1039.keep Kr1 (ninS ne_ub2_b982 nin0))
    have f1046 := (f1035.keep Kr1 (ninS (Ne.symm ne_b982_ta) nin0))
    have f1047 := (f1036.keep Kr1 (ninS (Ne.symm ne_b982_t_0) nin0))
    have f1048 := (f1037.keep Kr1 (ninS (Ne.symm ne_b982_t_1) nin0))
    obtain ⟨_, T1049, L1049, X1049, ⟨rfl, N1049q, Km1, Va1, Vs1⟩, st1049⟩ := own_callS X1040 hx hZ hown (y := (⟨"com/example/eskew/eskew/server/split/CounterValuesRestingPinLaw", "model", "([I[J[ZIJJJ)I"⟩ : MethodName)) (hw _ (List.mem_of_getElem? (i := 51) rfl)) (hw _ (List.mem_of_getElem? (i := 52) rfl)) (hw _ (List.mem_of_getElem? (i := 2) rfl)) (hw _ (List.mem_of_getElem? (i := 53) rfl)) (by decide) (argsL := [(.ref b989), (.ref b997), (.ref ub1), (.int (1 : Int32)), (.long t2), (.long t0), (.long r)]) (rest := []) rfl (rm7_1 l Z a0 hw [] b989 b997 ub1 k989 k997 kb1 u1_0 u1_1 u1_2 u1_3 x0 z0 y0 t2 t0 r T1040.heap n0 Z1040 og_b989 og_b997 ne_b989_b997 (Ne.symm ne_ub1_b989) (Ne.symm ne_ub1_b997) hi0 f1041 f1042 f1043) (g := (mkF m 115 #[.val (.int p1), .val (.long r), .second, .val (.long t0), .second, .val (.long t1), .second, .val (.long t2), .second, .val (.long t3), .second, .val (.int (1 : Int32)), .val (.ref ub0), .val (.ref ub1), .val (.ref ub2), .val (.ref b982), .val (.ref b989), .val (.ref b997), .val (.int x0), .val (.int x0), .val (.int x1), .unset, .unset, .unset] [(.long r), (.long t0), (.long t2), (.int (1 : Int32)), (.ref ub1), (.ref b997), (.ref b989)])) rfl (by rw [hml]; rfl) (lenOf pd_8 rfl) rfl (W := 0) (by show 2 * 0 + _ ≤ _; exact Nat.le_of_eq rfl) (hb hby at_115) (by decide) (by decide) (by decide) (by decide)
    have N1049 := Fr.app N1040 N1049q
    refine own_by st1049 ?_
    have Z1049 : n0 ≤ T1049.heap.size := Nat.le_trans Z1040 Km1.1
    rw [← hm1] at Va1 Vs1
    show own_Go p e below _ T1049 (mkF m 118 #[.val (.int p1), .val (.long r), .second, .val (.long t0), .second, .val (.long t1), .second, .val (.long t2), .second, .val (.long t3), .second, .val (.int (1 : Int32)), .val (.ref ub0), .val (.ref ub1), .val (.ref ub2), .val (.ref b982), .val (.ref b989), .val (.ref b997), .val (.int x0), .val (.int x0), .val (.int x1), .unset, .unset, .unset] [(.int (own_model (1 : Int32) (own_count (1 : Int32) u1_1 u1_2 u1_3) (own_at u1_0 u1_1 u1_2 u1_3) t2 t0 r (own_wake t2 r (x0, y0, z0))).1)])
    rw [← hm1]
    dsimp only at Va1 Vs1
    refine own_by (fun _ k => XS.istore X1049.here hx rfl (hb hby at_118) rfl (l' := #[.val (.int p1), .val (.long r), .second, .val (.long t0), .second, .val (.long t1), .second, .val (.long t2), .second, .val (.long t3), .second, .val (.int (1 : Int32)), .val (.ref ub0), .val (.ref ub1), .val (.ref ub2), .val (.ref b982), .val (.ref b989), .val (.ref b997), .val (.int x0), .val (.int x0), .val (.int x1), .val (.int x1), .unset, .unset]) rfl k) ?_
    refine own_by (fun _ k => XS.aload X1049.here hx rfl (hb hby at_120) rfl rfl k) ?_
    refine own_by (fun _ k => XS.aload X1049.here hx rfl (hb hby at_122) rfl rfl k) ?_
    refine own_by (fun _ k => XS.lload X1049.here hx rfl (hb hby at_124) rfl k) ?_
    have f1050 := (Er1.keep Km1)
    have f1051 := (Fr1_0.keep Km1 (ninS ne_b982_b989 (ninS ne_b982_b997 nin0)))
    have f1052 := (Fr1_1.keep Km1 (ninS ne_b982_b989 (ninS ne_b982_b997 nin0)))
    have f1053 := (Fr1_2.keep Km1 (ninS ne_b982_b989 (ninS ne_b982_b997 nin0)))
    have f1054 := (Fr1_3.keep Km1 (ninS ne_b982_b989 (ninS ne_b982_b997 nin0)))
    have f1055 := (Fr1_4.keep Km1 (ninS ne_b982_b989 (ninS ne_b982_b997 nin0)))
    have f1056 := (f1045.keep Km1 (ninS ne_ub2_b989 (ninS ne_ub2_b997 nin0)))
    have f1057 := (f1046.keep Km1 (ninS ne_ta_b989 (ninS ne_ta_b997 nin0)))
    have f1058 := (f1047.keep Km1 (ninS ne_t_0_b989 (ninS ne_t_0_b997 nin0)))
    have f1059 := (f1048.keep Km1 (ninS ne_t_1_b989 (ninS ne_t_1_b997 nin0)))
    have f1060 := (f1044.keep Km1 (ninS ne_ub0_b989 (ninS ne_ub0_b997 nin0)))
    have f1061 := (f1041.keep Km1 (ninS ne_ub1_b989 (ninS ne_ub1_b997 nin0)))
    obtain ⟨_, T1062, L1062, X1062, ⟨rfl, N1062q, Kr2, Er2, Fr2_0, Fr2_1, Fr2_2, Fr2_3, Fr2_4⟩, st1062⟩ := own_callV X1049 hx hZ hown (y := (⟨"com/example/eskew/eskew/server/split/CounterValues", "resting", "([ZJ)I"⟩ : MethodName)) (C := "com/example/eskew/eskew/server/split/CounterValues") (hw _ (List.mem_of_getElem? (i := 46) rfl)) (hw _ (List.mem_of_getElem? (i := 47) rfl)) (hw _ (List.mem_of_getElem? (i := 49) rfl)) (hw _ (List.mem_of_getElem? (i := 48) rfl)) (hw _ (List.mem_of_getElem? (i := 7) rfl)) (hw _ (List.mem_of_getElem? (i := 50) rfl)) (by decide) (a := b982) f1050 (argsL := [(.ref ub2), (.long t3)]) (rest := []) rfl (rm6_1 l Z a0 hw [] b982 ub2 ta t_0 t_1 kb2 kt u2_0 u2_1 u2_2 u2_3 x1 z1 y1 t3 t0 r T1049.heap n0 Z1049 og_b982 hi1 (Ne.symm ne_ub2_b982) ne_b982_ta ne_b982_t_0 ne_b982_t_1 f1050 f1051 f1052 f1053 f1054 f1055 f1056 f1057 f1058 f1059) (g := (mkF m 126 #[.val (.int p1), .val (.long r), .second, .val (.long t0), .second, .val (.long t1), .second, .val (.long t2), .second, .val (.long t3), .second, .val (.int (1 : Int32)), .val (.ref ub0), .val (.ref ub1), .val (.ref ub2), .val (.ref b982), .val (.ref b989), .val (.ref b997), .val (.int x0), .val (.int x0), .val (.int x1), .val (.int x1), .unset, .unset] [(.long t3), (.ref ub2), (.ref b982)])) rfl (by rw [hml]; rfl) (lenOf pd_7 rfl) rfl (W := 0) (by show 2 * 0 + _ ≤ _; exact Nat.le_of_eq rfl) (hb hby at_126) (by decide) (by decide) (by decide) (by decide)
    have N1062 := Fr.app N1049 N1062q
    refine own_by st1062 ?_
    have Z1062 : n0 ≤ T1062.heap.size := Nat.le_trans Z1049 Kr2.1
    have hw2 : own_in (1 : Int32) (own_wake t3 r (x1, y1, z1)).2.2 := by unfold own_wake; split <;> first | exact hi1 | (split <;> exact hi1)
    have hq2 := own_same_1 u2_0 u2_1 u2_2 u2_3 hb2_1 hb2_2 hb2_3 t3 t0 r (own_wake t3 r (x1, y1, z1)) hw2
    have hs2 : (own_rest (1 : Int32) (own_count (1 : Int32) u2_1 u2_2 u2_3) (own_at u2_0 u2_1 u2_2 u2_3) t3 t0 r 1 x1 y1 z1) = (own_model (1 : Int32) (own_count (1 : Int32) u2_1 u2_2 u2_3) (own_at u2_0 u2_1 u2_2 u2_3) t3 t0 r (own_wake t3 r (x1, y1, z1))) := hq2.1
    have hi2 := hq2.2
    obtain ⟨⟨x2, y2, z2⟩, hm2⟩ : ∃ zq, zq = (own_model (1 : Int32) (own_count (1 : Int32) u2_1 u2_2 u2_3) (own_at u2_0 u2_1 u2_2 u2_3) t3 t0 r (own_wake t3 r (x1, y1, z1))) := ⟨_, rfl⟩
    rw [← hm2] at hs2 hi2
    rw [hs2] at Fr2_0 Fr2_1 Fr2_2
    show own_Go p e below _ T1062 (mkF m 129 #[.val (.int p1), .val (.long r), .second, .val (.long t0), .second, .val (.long t1), .second, .val (.long t2), .second, .val (.long t3), .second, .val (.int (1 : Int32)), .val (.ref ub0), .val (.ref ub1), .val (.ref ub2), .val (.ref b982), .val (.ref b989), .val (.ref b997), .val (.int x0), .val (.int x0), .val (.int x1), .val (.int x1), .unset, .unset] [(.int (own_rest (1 : Int32) (own_count (1 : Int32) u2_1 u2_2 u2_3) (own_at u2_0 u2_1 u2_2 u2_3) t3 t0 r 1 x1 y1 z1).1)])
    rw [hs2]
    dsimp only at Fr2_0 Fr2_1 Fr2_2 hi2
    refine own_by (fun _ k => XS.istore X1062.here hx rfl (hb hby at_129) rfl (l' := #[.val (.int p1), .val (.long r), .second, .val (.long t0), .second, .val (.long t1), .second, .val (.long t2), .second, .val (.long t3), .second, .val (.int (1 : Int32)), .val (.ref ub0), .val (.ref ub1), .val (.ref ub2), .val (.ref b982), .val (.ref b989), .val (.ref b997), .val (.int x0), .val (.int x0), .val (.int x1), .val (.int x1), .val (.int x2), .unset]) rfl k) ?_
    refine own_by (fun _ k => XS.aload X1062.here hx rfl (hb hby at_131) rfl rfl k) ?_
    refine own_by (fun _ k => XS.aload X1062.here hx rfl (hb hby at_133) rfl rfl k) ?_
    refine own_by (fun _ k => XS.aload X1062.here hx rfl (hb hby at_135) rfl rfl k) ?_
    refine own_by (fun _ k => XS.iload X1062.here hx rfl (hb hby at_137) rfl k) ?_
    refine own_by (fun _ k => XS.lload X1062.here hx rfl (hb hby at_139) rfl k) ?_
    refine own_by (fun _ k => XS.lloadN X1062.here hx rfl (hb hby at_141) rfl k) ?_
    refine own_by (fun _ k => XS.lloadN X1062.here hx rfl (hb hby at_142) rfl k) ?_
    show own_Go p e below _ T1062 (mkF m 143 #[.val (.int p1), .val (.long r), .second, .val (.long t0), .second, .val (.long t1), .second, .val (.long t2), .second, .val (.long t3), .second, .val (.int (1 : Int32)), .val (.ref ub0), .val (.ref ub1), .val (.ref ub2), .val (.ref b982), .val (.ref b989), .val (.ref b997), .val (.int x0), .val (.int x0), .val (.int x1), .val (.int x1), .val (.int x2), .unset] [(.long r), (.long t0), (.long t3), (.int (1 : Int32)), (.ref ub2), (.ref b997), (.ref b989)])
    have f1063 := (f1056.keep Kr2 (ninS ne_ub2_b982 nin0))
    have f1064 := (Va1.keep Kr2 (ninS (Ne.symm ne_b982_b989) nin0))
    have f1065 := (Vs1.keep Kr2 (ninS (Ne.symm ne_b982_b997) nin0))
    have f1066 := (f1060.keep Kr2 (ninS ne_ub0_b982 nin0))
    have f1067 := (f1061.keep Kr2 (ninS ne_ub1_b982 nin0))
    have f1068 := (f1057.keep Kr2 (ninS (Ne.symm ne_b982_ta) nin0))
    have f1069 := (f1058.keep Kr2 (ninS (Ne.symm ne_b982_t_0) nin0))
    have f1070 := (f1059.keep Kr2 (ninS (Ne.symm ne_b982_t_1) nin0))
    obtain ⟨_, T1071, L1071, X1071, ⟨rfl, N1071q, Km2, Va2, Vs2⟩, st1071⟩ := own_callS X1062 hx hZ hown (y := (⟨"com/example/eskew/eskew/server/split/CounterValuesRestingPinLaw", "model", "([I[J[ZIJJJ)I"⟩ : MethodName)) (hw _ (List.mem_of_getElem? (i := 51) rfl)) (hw _ (List.mem_of_getElem? (i := 52) rfl)) (hw _ (List.mem_of_getElem? (i := 2) rfl)) (hw _ (List.mem_of_getElem? (i := 53) rfl)) (by decide) (argsL := [(.ref b989), (.ref b997), (.ref ub2), (.int (1 : Int32)), (.long t3), (.long t0), (.long r)]) (rest := []) rfl (rm7_1 l Z a0 hw [] b989 b997 ub2 k989 k997 kb2 u2_0 u2_1 u2_2 u2_3 x1 z1 y1 t3 t0 r T1062.heap n0 Z1062 og_b989 og_b997 ne_b989_b997 (Ne.symm ne_ub2_b989) (Ne.symm ne_ub2_b997) hi1 f1063 f1064 f1065) (g := (mkF m 143 #[.val (.int p1), .val (.long r), .second, .val (.long t0), .second, .val (.long t1), .second, .val (.long t2), .second, .val (.long t3), .second, .val (.int (1 : Int32)), .val (.ref ub0), .val (.ref ub1), .val (.ref ub2), .val (.ref b982), .val (.ref b989), .val (.ref b997), .val (.int x0), .val (.int x0), .val (.int x1), .val (.int x1), .val (.int x2), .unset] [(.long r), (.long t0), (.long t3), (.int (1 : Int32)), (.ref ub2), (.ref b997), (.ref b989)])) rfl (by rw [hml]; rfl) (lenOf pd_8 rfl) rfl (W := 0) (by show 2 * 0 + _ ≤ _; exact Nat.le_of_eq rfl) (hb hby at_143) (by decide) (by decide) (by decide) (by decide)
    have N1071 := Fr.app N1062 N1071q
    refine own_by st1071 ?_
    have Z1071 : n0 ≤ T1071.heap.size := Nat.le_trans Z1062 Km2.1
    rw [← hm2] at Va2 Vs2
    show own_Go p e below _ T1071 (mkF m 146 #[.val (.int p1), .val (.long r), .second, .val (.long t0), .second, .val (.long t1), .second, .val (.long t2), .second, .val (.long t3), .second, .val (.int (1 : Int32)), .val (.ref ub0), .val (.ref ub1), .val (.ref ub2), .val (.ref b982), .val (.ref b989), .val (.ref b997), .val (.int x0), .val (.int x0), .val (.int x1), .val (.int x1), .val (.int x2), .unset] [(.int (own_model (1 : Int32) (own_count (1 : Int32) u2_1 u2_2 u2_3) (own_at u2_0 u2_1 u2_2 u2_3) t3 t0 r (own_wake t3 r (x1, y1, z1))).1)])
    rw [← hm2]
    dsimp only at Va2 Vs2
    refine own_by (fun _ k => XS.istore X1071.here hx rfl (hb hby at_146) rfl (l' := #[.val (.int p1), .val (.long r), .second, .val (.long t0), .second, .val (.long t1), .second, .val (.long t2), .second, .val (.long t3), .second, .val (.int (1 : Int32)), .val (.ref ub0), .val (.ref ub1), .val (.ref ub2), .val (.ref b982), .val (.ref b989), .val (.ref b997), .val (.int x0), .val (.int x0), .val (.int x1), .val (.int x1), .val (.int x2), .val (.int x2)]) rfl k) ?_
    refine own_by (fun _ k => XS.iload X1071.here hx rfl (hb hby at_148) rfl k) ?_
    refine own_by (fun _ k => XS.iload X1071.here hx rfl (hb hby at_150) rfl k) ?_
    refine own_by (fun _ k => XS.icmpNo X1071.here hx rfl (hb hby at_152) rfl (teq (rfl : x0 = x0)).2 k) ?_
    refine own_by (fun _ k => XS.iload X1071.here hx rfl (hb hby at_155) rfl k) ?_
    refine own_by (fun _ k => XS.iload X1071.here hx rfl (hb hby at_157) rfl k) ?_
    refine own_by (fun _ k => XS.icmpNo X1071.here hx rfl (hb hby at_159) rfl (teq (rfl : x1 = x1)).2 k) ?_
    refine own_by (fun _ k => XS.iload X1071.here hx rfl (hb hby at_162) rfl k) ?_
    show own_Go p e below _ T1071 (mkF m 164 #[.val (.int p1), .val (.long r), .second, .val (.long t0), .second, .val (.long t1), .second, .val (.long t2), .second, .val (.long t3), .second, .val (.int (1 : Int32)), .val (.ref ub0), .val (.ref ub1), .val (.ref ub2), .val (.ref b982), .val (.ref b989), .val (.ref b997), .val (.int x0), .val (.int x0), .val (.int x1), .val (.int x1), .val (.int x2), .val (.int x2)] [(.int x2)])
    refine own_by (fun _ k => XS.iload X1071.here hx rfl (hb hby at_164) rfl k) ?_
    refine own_by (fun _ k => XS.icmpNo X1071.here hx rfl (hb hby at_166) rfl (teq (rfl : x2 = x2)).2 k) ?_
    refine own_by (fun _ k => XS.iconst X1071.here hx rfl (hb hby at_169) k) ?_
    refine own_by (fun _ k => XS.goto X1071.here hx rfl (pc0 := 170) (pc' := 174) rfl (hb hby at_170) (by decide) (by decide) k) ?_
    exact own_retN X1071 hx hlk hret (by simp) rfl (hb hby at_174) ⟨rfl, N1071⟩ (by decide) (by decide)
  · show own_Go p e below _ s₁ (mkF m 5 #[.val (.int p1), .val (.long r), .second, .val (.long t0), .second, .val (.long t1), .second, .val (.long t2), .second, .val (.long t3), .second, .val (.int (p1 &&& (3 : Int32))), .unset, .unset, .unset, .unset, .unset, .unset, .unset, .unset, .unset, .unset, .unset, .unset] [])
    rw [hk]
    refine own_by (fun _ k => XS.iloadN X0.here hx rfl (hb hby at_5) rfl k) ?_
    refine own_by (fun _ k => XS.iconst X0.here hx rfl (hb hby at_6) k) ?_
    refine own_by (fun _ k => XS.ishr X0.here hx rfl (hb hby at_7) rfl k) ?_
    obtain ⟨_, T1072, L1072, X1072, ⟨ub0, kb0, u0_0, u0_1, u0_2, u0_3, rfl, N1072q, Ku0, su0, hb0_0, hb0_1, hb0_2, hb0_3, Vu0⟩, st1072⟩ := own_callS X0 hx hZ hown (y := (⟨"com/example/eskew/eskew/server/split/CounterValuesRestingPinLaw", "ups", "(I)[Z"⟩ : MethodName)) (hw _ (List.mem_of_getElem? (i := 0) rfl)) (hw _ (List.mem_of_getElem? (i := 1) rfl)) (hw _ (List.mem_of_getElem? (i := 2) rfl)) (hw _ (List.mem_of_getElem? (i := 3) rfl)) (by decide) (argsL := [(.int (p1 >>> ((2 : Int32) &&& 31)))]) (rest := []) e0 (rm1 l Z a0 hw [] (p1 >>> ((2 : Int32) &&& 31)) h0 n0 Z0) (g := (mkF m 8 #[.val (.int p1), .val (.long r), .second, .val (.long t0), .second, .val (.long t1), .second, .val (.long t2), .second, .val (.long t3), .second, .val (.int (2 : Int32)), .unset, .unset, .unset, .unset, .unset, .unset, .unset, .unset, .unset, .unset, .unset, .unset] [(.int (p1 >>> ((2 : Int32) &&& 31)))])) rfl (by rw [hml]; rfl) (lenOf pd_5 rfl) rfl (W := 0) (by show 2 * 0 + _ ≤ _; exact Nat.le_of_eq rfl) (hb hby at_8) (by decide) (by decide) (by decide) (by decide)
    have N1072 := Fr.app N0 N1072q
    refine own_by st1072 ?_
    have og_ub0 : n0 ≤ ub0 := Nat.le_trans Z0 su0
    have Z1072 : n0 ≤ T1072.heap.size := Nat.le_trans Z0 Ku0.1
    refine own_by (fun _ k => XS.astore X1072.here hx rfl (hb hby at_11) rfl rfl (l' := #[.val (.int p1), .val (.long r), .second, .val (.long t0), .second, .val (.long t1), .second, .val (.long t2), .second, .val (.long t3), .second, .val (.int (2 : Int32)), .val (.ref ub0), .unset, .unset, .unset, .unset, .unset, .unset, .unset, .unset, .unset, .unset, .unset]) rfl k) ?_
    refine own_by (fun _ k => XS.iloadN X1072.here hx rfl (hb hby at_13) rfl k) ?_
    refine own_by (fun _ k => XS.bipush X1072.here hx rfl (hb hby at_14) k) ?_
    refine own_by (fun _ k => XS.ishr X1072.here hx rfl (hb hby at_16) rfl k) ?_
    show own_Go p e below _ T1072 (mkF m 17 #[.val (.int p1), .val (.long r), .second, .val (.long t0), .second, .val (.long t1), .second, .val (.long t2), .second, .val (.long t3), .second, .val (.int (2 : Int32)), .val (.ref ub0), .unset, .unset, .unset, .unset, .unset, .unset, .unset, .unset, .unset, .unset, .unset] [(.int (p1 >>> ((6 : Int32) &&& 31)))])
    obtain ⟨_, T1073, L1073, X1073, ⟨ub1, kb1, u1_0, u1_1, u1_2, u1_3, rfl, N1073q, Ku1, su1, hb1_0, hb1_1, hb1_2, hb1_3, Vu1⟩, st1073⟩ := own_callS X1072 hx hZ hown (y := (⟨"com/example/eskew/eskew/server/split/CounterValuesRestingPinLaw", "ups", "(I)[Z"⟩ : MethodName)) (hw _ (List.mem_of_getElem? (i := 0) rfl)) (hw _ (List.mem_of_getElem? (i := 1) rfl)) (hw _ (List.mem_of_getElem? (i := 2) rfl)) (hw _ (List.mem_of_getElem? (i := 3) rfl)) (by decide) (argsL := [(.int (p1 >>> ((6 : Int32) &&& 31)))]) (rest := []) rfl (rm1 l Z a0 hw [] (p1 >>> ((6 : Int32) &&& 31)) T1072.heap n0 Z1072) (g := (mkF m 17 #[.val (.int p1), .val (.long r), .second, .val (.long t0), .second, .val (.long t1), .second, .val (.long t2), .second, .val (.long t3), .second, .val (.int (2 : Int32)), .val (.ref ub0), .unset, .unset, .unset, .unset, .unset, .unset, .unset, .unset, .unset, .unset, .unset] [(.int (p1 >>> ((6 : Int32) &&& 31)))])) rfl (by rw [hml]; rfl) (lenOf pd_5 rfl) rfl (W := 0) (by show 2 * 0 + _ ≤ _; exact Nat.le_of_eq rfl) (hb hby at_17) (by decide) (by decide) (by decide) (by decide)
    have N1073 := Fr.app N1072 N1073q
    refine own_by st1073 ?_
    have ne_ub0_ub1 : ub0 ≠ ub1 := Nat.ne_of_lt (Nat.lt_of_lt_of_le Vu0.lt su1)
    have og_ub1 : n0 ≤ ub1 := Nat.le_trans Z1072 su1
    have Z1073 : n0 ≤ T1073.heap.size := Nat.le_trans Z1072 Ku1.1
    refine own_by (fun _ k => XS.astore X1073.here hx rfl (hb hby at_20) rfl rfl (l' := #[.val (.int p1), .val (.long r), .second, .val (.long t0), .second, .val (.long t1), .second, .val (.long t2), .second, .val (.long t3), .second, .val (.int (2 : Int32)), .val (.ref ub0), .val (.ref ub1), .unset, .unset, .unset, .unset, .unset, .unset, .unset, .unset, .unset, .unset]) rfl k) ?_
    refine own_by (fun _ k => XS.iloadN X1073.here hx rfl (hb hby at_22) rfl k) ?_
    refine own_by (fun _ k => XS.bipush X1073.here hx rfl (hb hby at_23) k) ?_
    refine own_by (fun _ k => XS.ishr X1073.here hx rfl (hb hby at_25) rfl k) ?_
    have f1074 := (Vu0.keep Ku1 nin0)
    obtain ⟨_, T1075, L1075, X1075, ⟨ub2, kb2, u2_0, u2_1, u2_2, u2_3, rfl, N1075q, Ku2, su2, hb2_0, hb2_1, hb2_2, hb2_3, Vu2⟩, st1075⟩ := own_callS X1073 hx hZ hown (y := (⟨"com/example/eskew/eskew/server/split/CounterValuesRestingPinLaw", "ups", "(I)[Z"⟩ : MethodName)) (hw _ (List.mem_of_getElem? (i := 0) rfl)) (hw _ (List.mem_of_getElem? (i := 1) rfl)) (hw _ (List.mem_of_getElem? (i := 2) rfl)) (hw _ (List.mem_of_getElem? (i := 3) rfl)) (by decide) (argsL := [(.int (p1 >>> ((10 : Int32) &&& 31)))]) (rest := []) rfl (rm1 l Z a0 hw [] (p1 >>> ((10 : Int32) &&& 31)) T1073.heap n0 Z1073) (g := (mkF m 26 #[.val (.int p1), .val (.long r), .second, .val (.long t0), .second, .val (.long t1), .second, .val (.long t2), .second, .val (.long t3), .second, .val (.int (2 : Int32)), .val (.ref ub0), .val (.ref ub1), .unset, .unset, .unset, .unset, .unset, .unset, .unset, .unset, .unset, .unset] [(.int (p1 >>> ((10 : Int32) &&& 31)))])) rfl (by rw [hml]; rfl) (lenOf pd_5 rfl) rfl (W := 0) (by show 2 * 0 + _ ≤ _; exact Nat.le_of_eq rfl) (hb hby at_26) (by decide) (by decide) (by decide) (by decide)
    have N1075 := Fr.app N1073 N1075q
    refine own_by st1075 ?_
    have ne_ub0_ub2 : ub0 ≠ ub2 := Nat.ne_of_lt (Nat.lt_of_lt_of_le f1074.lt su2)
    have ne_ub1_ub2 : ub1 ≠ ub2 := Nat.ne_of_lt (Nat.lt_of_lt_of_le Vu1.lt su2)
    have og_ub2 : n0 ≤ ub2 := Nat.le_trans Z1073 su2
    have Z1075 : n0 ≤ T1075.heap.size := Nat.le_trans Z1073 Ku2.1
    refine own_by (fun _ k => XS.astore X1075.here hx rfl (hb hby at_29) rfl rfl (l' := #[.val (.int p1), .val (.long r), .second, .val (.long t0), .second, .val (.long t1), .second, .val (.long t2), .second, .val (.long t3), .second, .val (.int (2 : Int32)), .val (.ref ub0), .val (.ref ub1), .val (.ref ub2), .unset, .unset, .unset, .unset, .unset, .unset, .unset, .unset, .unset]) rfl k) ?_
    obtain ⟨T1076, h1076, X1076, e1076, E1076, A1076, D1076, -, st1076⟩ := newO X1075 hx hZ hown (hw _ (List.mem_of_getElem? (i := 5) rfl)) (hw _ (List.mem_of_getElem? (i := 6) rfl)) (hw _ (List.mem_of_getElem? (i := 7) rfl)) rfl (g := (mkF m 31 #[.val (.int p1), .val (.long r), .second, .val (.long t0), .second, .val (.long t1), .second, .val (.long t2), .second, .val (.long t3), .second, .val (.int (2 : Int32)), .val (.ref ub0), .val (.ref ub1), .val (.ref ub2), .unset, .unset, .unset, .unset, .unset, .unset, .unset, .unset, .unset] [])) rfl (hb hby at_31) (by decide) (by decide)
    obtain ⟨b1076, g1076⟩ : ∃ zq, zq = T1075.heap.size := ⟨_, rfl⟩
    rw [← g1076] at A1076 D1076 st1076
    have f1077 := (f1074.keep Ku2 nin0)
    have ne_ub0_b1076 : ub0 ≠ b1076 := Nat.ne_of_lt (Nat.lt_of_lt_of_le f1077.lt (Nat.le_of_eq g1076.symm))
    have f1078 := (Vu1.keep Ku2 nin0)
    have ne_ub1_b1076 : ub1 ≠ b1076 := Nat.ne_of_lt (Nat.lt_of_lt_of_le f1078.lt (Nat.le_of_eq g1076.symm))
    have ne_ub2_b1076 : ub2 ≠ b1076 := Nat.ne_of_lt (Nat.lt_of_lt_of_le Vu2.lt (Nat.le_of_eq g1076.symm))
    have og_b1076 : n0 ≤ b1076 := Nat.le_trans Z1075 (Nat.le_of_eq g1076.symm)
    have Z1076 : n0 ≤ h1076.size := Nat.le_trans Z1075 E1076.1
    have F_rising_b1076 : Fld Z h1076 b1076 "com/example/eskew/eskew/server/split/CounterValues" "rising" "Lcom/example/eskew/eskew/server/split/CounterValues$WideSum;" .null := D1076 (Or.inr (hw _ (List.mem_of_getElem? (i := 22) rfl))) (ty := (.object "com/example/eskew/eskew/server/split/CounterValues$WideSum")) (by decide)
    have F_falling_b1076 : Fld Z h1076 b1076 "com/example/eskew/eskew/server/split/CounterValues" "falling" "Lcom/example/eskew/eskew/server/split/CounterValues$WideSum;" .null := D1076 (Or.inr (hw _ (List.mem_of_getElem? (i := 24) rfl))) (ty := (.object "com/example/eskew/eskew/server/split/CounterValues$WideSum")) (by decide)
    have F_resting_b1076 : Fld Z h1076 b1076 "com/example/eskew/eskew/server/split/CounterValues" "resting" "I" (.int (0 : Int32)) := D1076 (Or.inl (hw _ (List.mem_of_getElem? (i := 26) rfl))) (ty := .int) (by decide)
    have F_nextToRest_b1076 : Fld Z h1076 b1076 "com/example/eskew/eskew/server/split/CounterValues" "nextToRest" "I" (.int (0 : Int32)) := D1076 (Or.inl (hw _ (List.mem_of_getElem? (i := 28) rfl))) (ty := .int) (by decide)
    have F_rereadNanos_b1076 : Fld Z h1076 b1076 "com/example/eskew/eskew/server/split/CounterValues" "rereadNanos" "J" (.long (0 : Int64)) := D1076 (Or.inr (hw _ (List.mem_of_getElem? (i := 30) rfl))) (ty := .long) (by decide)
    have F_tallies_b1076 : Fld Z h1076 b1076 "com/example/eskew/eskew/server/split/CounterValues" "tallies" "[Lcom/example/eskew/eskew/server/split/CounterValues$Tally;" .null := D1076 (Or.inr (hw _ (List.mem_of_getElem? (i := 34) rfl))) (ty := (.array (.object "com/example/eskew/eskew/server/split/CounterValues$Tally"))) (by decide)
    have F_restingSince_b1076 : Fld Z h1076 b1076 "com/example/eskew/eskew/server/split/CounterValues" "restingSince" "J" (.long (0 : Int64)) := D1076 (Or.inl (hw _ (List.mem_of_getElem? (i := 59) rfl))) (ty := .long) (by decide)
    refine own_by st1076 ?_
    refine own_by (fun _ k => XS.dup X1076.here hx rfl (hb hby at_34) rfl rfl k) ?_
    show own_Go p e below _ T1076 (mkF m 35 #[.val (.int p1), .val (.long r), .second, .val (.long t0), .second, .val (.long t1), .second, .val (.long t2), .second, .val (.long t3), .second, .val (.int (2 : Int32)), .val (.ref ub0), .val (.ref ub1), .val (.ref ub2), .unset, .unset, .unset, .unset, .unset, .unset, .unset, .unset, .unset] [(.ref b1076), (.ref b1076)])
    refine own_by (fun _ k => XS.iload X1076.here hx rfl (hb hby at_35) rfl k) ?_
    refine own_by (fun _ k => XS.iconst X1076.here hx rfl (hb hby at_37) k) ?_
    refine own_by (fun _ k => XS.iadd X1076.here hx rfl (hb hby at_38) rfl k) ?_
    refine own_by (fun _ k => XS.lloadN X1076.here hx rfl (hb hby at_39) rfl k) ?_
    refine own_by (fun _ k => XS.lloadN X1076.here hx rfl (hb hby at_40) rfl k) ?_
    show own_Go p e below _ T1076 (mkF m 41 #[.val (.int p1), .val (.long r), .second, .val (.long t0), .second, .val (.long t1), .second, .val (.long t2), .second, .val (.long t3), .second, .val (.int (2 : Int32)), .val (.ref ub0), .val (.ref ub1), .val (.ref ub2), .unset, .unset, .unset, .unset, .unset, .unset, .unset, .unset, .unset] [(.long t0), (.long r), (.int ((2 : Int32) + (1 : Int32))), (.ref b1076), (.ref b1076)])
    rw [show (2 : Int32) + (1 : Int32) = (3 : Int32) from by decide]
    have f1079 := (f1077.ext E1076)
    have f1080 := (f1078.ext E1076)
    have f1081 := (Vu2.ext E1076)
    obtain ⟨_, T1082, L1082, X1082, ⟨ta, kt, t_0, t_1, t_2, rfl, N1082q, Kc, Ec, Fc0, Fc1, Fc2, Fc3, Fc4, sta, Vta, st_0, st_1, st_2, Sc_0, Sc_1, Sc_2⟩, st1082⟩ := own_callI X1076 hx hZ hown (y := (⟨"com/example/eskew/eskew/server/split/CounterValues", "<init>", "(IJJ)V"⟩ : MethodName)) rfl (hw _ (List.mem_of_getElem? (i := 8) rfl)) (hw _ (List.mem_of_getElem? (i := 9) rfl)) (hw _ (List.mem_of_getElem? (i := 7) rfl)) (hw _ (List.mem_of_getElem? (i := 10) rfl)) (by decide) (a := b1076) (argsL := [(.int (3 : Int32)), (.long r), (.long t0)]) (rest := [(.ref b1076)]) e1076 (rm2_2 l Z a0 hw [] b1076 r t0 h1076 n0 Z1076 og_b1076 A1076 F_rising_b1076 F_falling_b1076 F_resting_b1076 F_nextToRest_b1076 F_rereadNanos_b1076 F_tallies_b1076 F_restingSince_b1076) (g := (mkF m 41 #[.val (.int p1), .val (.long r), .second, .val (.long t0), .second, .val (.long t1), .second, .val (.long t2), .second, .val (.long t3), .second, .val (.int (2 : Int32)), .val (.ref ub0), .val (.ref ub1), .val (.ref ub2), .unset, .unset, .unset, .unset, .unset, .unset, .unset, .unset, .unset] [(.long t0), (.long r), (.int (3 : Int32)), (.ref b1076), (.ref b1076)])) rfl (by rw [hml]; rfl) (lenOf pd_6 rfl) rfl (W := 1) (by show 2 * 0 + _ ≤ _; exact Nat.le_of_eq rfl) (hb hby at_41) (by decide) (by decide) (by decide) (by decide)
    have N1082 := Fr.app N1075 N1082q
    refine own_by st1082 ?_
    have ne_ub0_ta : ub0 ≠ ta := Nat.ne_of_lt (Nat.lt_of_lt_of_le f1079.lt sta)
    have ne_ub1_ta : ub1 ≠ ta := Nat.ne_of_lt (Nat.lt_of_lt_of_le f1080.lt sta)
    have ne_ub2_ta : ub2 ≠ ta := Nat.ne_of_lt (Nat.lt_of_lt_of_le f1081.lt sta)
    have ne_b1076_ta : b1076 ≠ ta := Nat.ne_of_lt (Nat.lt_of_lt_of_le A1076.lt sta)
    have og_ta : n0 ≤ ta := Nat.le_trans Z1076 sta
    have ne_ub0_t_0 : ub0 ≠ t_0 := Nat.ne_of_lt (Nat.lt_of_lt_of_le f1079.lt st_0)
    have ne_ub1_t_0 : ub1 ≠ t_0 := Nat.ne_of_lt (Nat.lt_of_lt_of_le f1080.lt st_0)
    have ne_ub2_t_0 : ub2 ≠ t_0 := Nat.ne_of_lt (Nat.lt_of_lt_of_le f1081.lt st_0)
    have ne_b1076_t_0 : b1076 ≠ t_0 := Nat.ne_of_lt (Nat.lt_of_lt_of_le A1076.lt st_0)
    have og_t_0 : n0 ≤ t_0 := Nat.le_trans Z1076 st_0
    have ne_ub0_t_1 : ub0 ≠ t_1 := Nat.ne_of_lt (Nat.lt_of_lt_of_le f1079.lt st_1)
    have ne_ub1_t_1 : ub1 ≠ t_1 := Nat.ne_of_lt (Nat.lt_of_lt_of_le f1080.lt st_1)
    have ne_ub2_t_1 : ub2 ≠ t_1 := Nat.ne_of_lt (Nat.lt_of_lt_of_le f1081.lt st_1)
    have ne_b1076_t_1 : b1076 ≠ t_1 := Nat.ne_of_lt (Nat.lt_of_lt_of_le A1076.lt st_1)
    have og_t_1 : n0 ≤ t_1 := Nat.le_trans Z1076 st_1
    have ne_ub0_t_2 : ub0 ≠ t_2 := Nat.ne_of_lt (Nat.lt_of_lt_of_le f1079.lt st_2)
    have ne_ub1_t_2 : ub1 ≠ t_2 := Nat.ne_of_lt (Nat.lt_of_lt_of_le f1080.lt st_2)
    have ne_ub2_t_2 : ub2 ≠ t_2 := Nat.ne_of_lt (Nat.lt_of_lt_of_le f1081.lt st_2)
    have ne_b1076_t_2 : b1076 ≠ t_2 := Nat.ne_of_lt (Nat.lt_of_lt_of_le A1076.lt st_2)
    have og_t_2 : n0 ≤ t_2 := Nat.le_trans Z1076 st_2
    have Z1082 : n0 ≤ T1082.heap.size := Nat.le_trans Z1076 Kc.1
    refine own_by (fun _ k => XS.astore X1082.here hx rfl (hb hby at_44) rfl rfl (l' := #[.val (.int p1), .val (.long r), .second, .val (.long t0), .second, .val (.long t1), .second, .val (.long t2), .second, .val (.long t3), .second, .val (.int (2 : Int32)), .val (.ref ub0), .val (.ref ub1), .val (.ref ub2), .val (.ref b1076), .unset, .unset, .unset, .unset, .unset, .unset, .unset, .unset]) rfl k) ?_
    refine own_by (fun _ k => XS.iconst X1082.here hx rfl (hb hby at_46) k) ?_
    obtain ⟨T1083, h1083, k1083, X1083, e1083, E1083, A1083, C1083, st1083⟩ := newPE X1082 hx hZ (hw _ (List.mem_of_getElem? (i := 44) rfl)) rfl (g := (mkF m 47 #[.val (.int p1), .val (.long r), .second, .val (.long t0), .second, .val (.long t1), .second, .val (.long t2), .second, .val (.long t3), .second, .val (.int (2 : Int32)), .val (.ref ub0), .val (.ref ub1), .val (.ref ub2), .val (.ref b1076), .unset, .unset, .unset, .unset, .unset, .unset, .unset, .unset] [(.int (2 : Int32))])) rfl (hb hby at_47) rfl (by decide) (cap := 2) (by decide) (by decide) (by decide) (by decide) (ad := "[I") (by decide)
    obtain ⟨b1083, g1083⟩ : ∃ zq, zq = T1082.heap.size := ⟨_, rfl⟩
    rw [← g1083] at A1083 C1083 st1083
    have f1084 := (f1079.keep Kc (ninS ne_ub0_b1076 nin0))
    have ne_ub0_b1083 : ub0 ≠ b1083 := Nat.ne_of_lt (Nat.lt_of_lt_of_le f1084.lt (Nat.le_of_eq g1083.symm))
    have f1085 := (f1080.keep Kc (ninS ne_ub1_b1076 nin0))
    have ne_ub1_b1083 : ub1 ≠ b1083 := Nat.ne_of_lt (Nat.lt_of_lt_of_le f1085.lt (Nat.le_of_eq g1083.symm))
    have f1086 := (f1081.keep Kc (ninS ne_ub2_b1076 nin0))
    have ne_ub2_b1083 : ub2 ≠ b1083 := Nat.ne_of_lt (Nat.lt_of_lt_of_le f1086.lt (Nat.le_of_eq g1083.symm))
    have ne_b1076_b1083 : b1076 ≠ b1083 := Nat.ne_of_lt (Nat.lt_of_lt_of_le Ec.lt (Nat.le_of_eq g1083.symm))
    have ne_ta_b1083 : ta ≠ b1083 := Nat.ne_of_lt (Nat.lt_of_lt_of_le Vta.lt (Nat.le_of_eq g1083.symm))
    have ne_t_0_b1083 : t_0 ≠ b1083 := Nat.ne_of_lt (Nat.lt_of_lt_of_le Sc_0.lt (Nat.le_of_eq g1083.symm))
    have ne_t_1_b1083 : t_1 ≠ b1083 := Nat.ne_of_lt (Nat.lt_of_lt_of_le Sc_1.lt (Nat.le_of_eq g1083.symm))
    have ne_t_2_b1083 : t_2 ≠ b1083 := Nat.ne_of_lt (Nat.lt_of_lt_of_le Sc_2.lt (Nat.le_of_eq g1083.symm))
    have og_b1083 : n0 ≤ b1083 := Nat.le_trans Z1082 (Nat.le_of_eq g1083.symm)
    have Z1083 : n0 ≤ h1083.size := Nat.le_trans Z1082 E1083.1
    have V1083 : Arv Z h1083 b1083 k1083 .int (2 : Int32) [(.int (0 : Int32)), (.int (0 : Int32))] (.int (0 : Int32)) := (Arv.new A1083 (by decide)).pad (pad_rep [] (.int (0 : Int32)) 2)
    refine own_by st1083 ?_
    refine own_by (fun _ k => XS.dup X1083.here hx rfl (hb hby at_49) rfl rfl k) ?_
    refine own_by (fun _ k => XS.iconst X1083.here hx rfl (hb hby at_50) k) ?_
    refine own_by (fun _ k => XS.iconst X1083.here hx rfl (hb hby at_51) k) ?_
    obtain ⟨cl1087, Ar1087, cq1087, hin1087, hat1087, set1087⟩ := own_arv V1083 (j := (0 : Int32)) ⟨by decide, by decide⟩
    obtain ⟨T1088, h1088, X1088, e1088, W1088, st1088⟩ := stI X1083 hx hZ e1083 Ar1087 (j := (0 : Int32)) hin1087 (g := (mkF m 52 #[.val (.int p1), .val (.long r), .second, .val (.long t0), .second, .val (.long t1), .second, .val (.long t2), .second, .val (.long t3), .second, .val (.int (2 : Int32)), .val (.ref ub0), .val (.ref ub1), .val (.ref ub2), .val (.ref b1076), .unset, .unset, .unset, .unset, .unset, .unset, .unset, .unset] [(.int (-1 : Int32)), (.int (0 : Int32)), (.ref b1083), (.ref b1083)])) rfl rfl (hb hby at_52)
    have V1088 : Arv Z h1088 b1083 k1083 .int (2 : Int32) [(.int (-1 : Int32)), (.int (0 : Int32))] (.int (0 : Int32)) := set1087 rfl W1088 0 rfl (Nat.le_of_ble_eq_true rfl)
    have N1088 := Fr.snoc X1088 N1082 og_b1083
    have Z1088 : n0 ≤ h1088.size := Nat.le_trans Z1083 (Keep.of_wr W1088).1
    refine own_by st1088 ?_
    show own_Go p e below _ T1088 (mkF m 53 #[.val (.int p1), .val (.long r), .second, .val (.long t0), .second, .val (.long t1), .second, .val (.long t2), .second, .val (.long t3), .second, .val (.int (2 : Int32)), .val (.ref ub0), .val (.ref ub1), .val (.ref ub2), .val (.ref b1076), .unset, .unset, .unset, .unset, .unset, .unset, .unset, .unset] [(.ref b1083)])
    refine own_by (fun _ k => XS.dup X1088.here hx rfl (hb hby at_53) rfl rfl k) ?_
    refine own_by (fun _ k => XS.iconst X1088.here hx rfl (hb hby at_54) k) ?_
    refine own_by (fun _ k => XS.iconst X1088.here hx rfl (hb hby at_55) k) ?_
    obtain ⟨cl1089, Ar1089, cq1089, hin1089, hat1089, set1089⟩ := own_arv V1088 (j := (1 : Int32)) ⟨by decide, by decide⟩
    obtain ⟨T1090, h1090, X1090, e1090, W1090, st1090⟩ := stI X1088 hx hZ e1088 Ar1089 (j := (1 : Int32)) hin1089 (g := (mkF m 56 #[.val (.int p1), .val (.long r), .second, .val (.long t0), .second, .val (.long t1), .second, .val (.long t2), .second, .val (.long t3), .second, .val (.int (2 : Int32)), .val (.ref ub0), .val (.ref ub1), .val (.ref ub2), .val (.ref b1076), .unset, .unset, .unset, .unset, .unset, .unset, .unset, .unset] [(.int (1 : Int32)), (.int (1 : Int32)), (.ref b1083), (.ref b1083)])) rfl rfl (hb hby at_56)
    have V1090 : Arv Z h1090 b1083 k1083 .int (2 : Int32) [(.int (-1 : Int32)), (.int (1 : Int32))] (.int (0 : Int32)) := set1089 rfl W1090 1 rfl (Nat.le_of_ble_eq_true rfl)
    have N1090 := Fr.snoc X1090 N1088 og_b1083
    have Z1090 : n0 ≤ h1090.size := Nat.le_trans Z1088 (Keep.of_wr W1090).1
    refine own_by st1090 ?_
    refine own_by (fun _ k => XS.astore X1090.here hx rfl (hb hby at_57) rfl rfl (l' := #[.val (.int p1), .val (.long r), .second, .val (.long t0), .second, .val (.long t1), .second, .val (.long t2), .second, .val (.long t3), .second, .val (.int (2 : Int32)), .val (.ref ub0), .val (.ref ub1), .val (.ref ub2), .val (.ref b1076), .val (.ref b1083), .unset, .unset, .unset, .unset, .unset, .unset, .unset]) rfl k) ?_
    refine own_by (fun _ k => XS.iconst X1090.here hx rfl (hb hby at_59) k) ?_
    obtain ⟨T1091, h1091, k1091, X1091, e1091, E1091, A1091, C1091, st1091⟩ := newPE X1090 hx hZ (hw _ (List.mem_of_getElem? (i := 45) rfl)) e1090 (g := (mkF m 60 #[.val (.int p1), .val (.long r), .second, .val (.long t0), .second, .val (.long t1), .second, .val (.long t2), .second, .val (.long t3), .second, .val (.int (2 : Int32)), .val (.ref ub0), .val (.ref ub1), .val (.ref ub2), .val (.ref b1076), .val (.ref b1083), .unset, .unset, .unset, .unset, .unset, .unset, .unset] [(.int (1 : Int32))])) rfl (hb hby at_60) rfl (by decide) (cap := 1) (by decide) (by decide) (by decide) (by decide) (ad := "[J") (by decide)
    obtain ⟨b1091, g1091⟩ : ∃ zq, zq = h1090.size := ⟨_, rfl⟩
    rw [← g1091] at A1091 C1091 st1091
    have f1092 := (((f1084.ext E1083).other W1088 ne_ub0_b1083).other W1090 ne_ub0_b1083)
    have ne_ub0_b1091 : ub0 ≠ b1091 := Nat.ne_of_lt (Nat.lt_of_lt_of_le f1092.lt (Nat.le_of_eq g1091.symm))
    have f1093 := (((f1085.ext E1083).other W1088 ne_ub1_b1083).other W1090 ne_ub1_b1083)
    have ne_ub1_b1091 : ub1 ≠ b1091 := Nat.ne_of_lt (Nat.lt_of_lt_of_le f1093.lt (Nat.le_of_eq g1091.symm))
    have f1094 := (((f1086.ext E1083).other W1088 ne_ub2_b1083).other W1090 ne_ub2_b1083)
    have ne_ub2_b1091 : ub2 ≠ b1091 := Nat.ne_of_lt (Nat.lt_of_lt_of_le f1094.lt (Nat.le_of_eq g1091.symm))
    have f1095 := (((Ec.ext E1083).wr W1088).wr W1090)
    have ne_b1076_b1091 : b1076 ≠ b1091 := Nat.ne_of_lt (Nat.lt_of_lt_of_le f1095.lt (Nat.le_of_eq g1091.symm))
    have f1096 := (((Vta.ext E1083).other W1088 ne_ta_b1083).other W1090 ne_ta_b1083)
    have ne_ta_b1091 : ta ≠ b1091 := Nat.ne_of_lt (Nat.lt_of_lt_of_le f1096.lt (Nat.le_of_eq g1091.symm))
    have f1097 := (((Sc_0.ext E1083).other W1088 (Or.inl ne_t_0_b1083)).other W1090 (Or.inl ne_t_0_b1083))
    have ne_t_0_b1091 : t_0 ≠ b1091 := Nat.ne_of_lt (Nat.lt_of_lt_of_le f1097.lt (Nat.le_of_eq g1091.symm))
    have f1098 := (((Sc_1.ext E1083).other W1088 (Or.inl ne_t_1_b1083)).other W1090 (Or.inl ne_t_1_b1083))
    have ne_t_1_b1091 : t_1 ≠ b1091 := Nat.ne_of_lt (Nat.lt_of_lt_of_le f1098.lt (Nat.le_of_eq g1091.symm))
    have f1099 := (((Sc_2.ext E1083).other W1088 (Or.inl ne_t_2_b1083)).other W1090 (Or.inl ne_t_2_b1083))
    have ne_t_2_b1091 : t_2 ≠ b1091 := Nat.ne_of_lt (Nat.lt_of_lt_of_le f1099.lt (Nat.le_of_eq g1091.symm))
    have ne_b1083_b1091 : b1083 ≠ b1091 := Nat.ne_of_lt (Nat.lt_of_lt_of_le V1090.lt (Nat.le_of_eq g1091.symm))
    have og_b1091 : n0 ≤ b1091 := Nat.le_trans Z1090 (Nat.le_of_eq g1091.symm)
    have Z1091 : n0 ≤ h1091.size := Nat.le_trans Z1090 E1091.1
    have V1091 : Arv Z h1091 b1091 k1091 .long (1 : Int32) [(.long (0 : Int64))] (.long (0 : Int64)) := (Arv.new A1091 (by decide)).pad (pad_rep [] (.long (0 : Int64)) 1)
    refine own_by st1091 ?_
    refine own_by (fun _ k => XS.astore X1091.here hx rfl (hb hby at_62) rfl rfl (l' := #[.val (.int p1), .val (.long r), .second, .val (.long t0), .second, .val (.long t1), .second, .val (.long t2), .second, .val (.long t3), .second, .val (.int (2 : Int32)), .val (.ref ub0), .val (.ref ub1), .val (.ref ub2), .val (.ref b1076), .val (.ref b1083), .val (.ref b1091), .unset, .unset, .unset, .unset, .unset, .unset]) rfl k) ?_
    refine own_by (fun _ k => XS.aload X1091.here hx rfl (hb hby at_64) rfl rfl k) ?_
    show own_Go p e below _ T1091 (mkF m 66 #[.val (.int p1), .val (.long r), .second, .val (.long t0), .second, .val (.long t1), .second, .val (.long t2), .second, .val (.long t3), .second, .val (.int (2 : Int32)), .val (.ref ub0), .val (.ref ub1), .val (.ref ub2), .val (.ref b1076), .val (.ref b1083), .val (.ref b1091), .unset, .unset, .unset, .unset, .unset, .unset] [(.ref b1076)])
    refine own_by (fun _ k => XS.aload X1091.here hx rfl (hb hby at_66) rfl rfl k) ?_
    refine own_by (fun _ k => XS.lload X1091.here hx rfl (hb hby at_68) rfl k) ?_
    have hin0 : own_in (2 : Int32) (1 : Int32) := by decide
    have f1100 := (f1095.ext E1091)
    have f1101 := ((((Fc0.ext E1083).other W1088 (Or.inl ne_b1076_b1083)).other W1090 (Or.inl ne_b1076_b1083)).ext E1091)
    have f1102 := ((((Fc1.ext E1083).other W1088 (Or.inl ne_b1076_b1083)).other W1090 (Or.inl ne_b1076_b1083)).ext E1091)
    have f1103 := ((((Fc2.ext E1083).other W1088 (Or.inl ne_b1076_b1083)).other W1090 (Or.inl ne_b1076_b1083)).ext E1091)
    have f1104 := ((((Fc3.ext E1083).other W1088 (Or.inl ne_b1076_b1083)).other W1090 (Or.inl ne_b1076_b1083)).ext E1091)
    have f1105 := ((((Fc4.ext E1083).other W1088 (Or.inl ne_b1076_b1083)).other W1090 (Or.inl ne_b1076_b1083)).ext E1091)
    have f1106 := (f1092.ext E1091)
    have f1107 := (f1096.ext E1091)
    have f1108 := (f1097.ext E1091)
    have f1109 := (f1098.ext E1091)
    have f1110 := (f1099.ext E1091)
    have f1111 := (f1093.ext E1091)
    have f1112 := (f1094.ext E1091)
    have f1113 := (V1090.ext E1091)
    obtain ⟨_, T1114, L1114, X1114, ⟨rfl, N1114q, Kr0, Er0, Fr0_0, Fr0_1, Fr0_2, Fr0_3, Fr0_4⟩, st1114⟩ := own_callV X1091 hx hZ hown (y := (⟨"com/example/eskew/eskew/server/split/CounterValues", "resting", "([ZJ)I"⟩ : MethodName)) (C := "com/example/eskew/eskew/server/split/CounterValues") (hw _ (List.mem_of_getElem? (i := 46) rfl)) (hw _ (List.mem_of_getElem? (i := 47) rfl)) (hw _ (List.mem_of_getElem? (i := 49) rfl)) (hw _ (List.mem_of_getElem? (i := 48) rfl)) (hw _ (List.mem_of_getElem? (i := 7) rfl)) (hw _ (List.mem_of_getElem? (i := 50) rfl)) (by decide) (a := b1076) f1100 (argsL := [(.ref ub0), (.long t1)]) (rest := []) e1091 (rm6_2 l Z a0 hw [] b1076 ub0 ta t_0 t_1 t_2 kb0 kt u0_0 u0_1 u0_2 u0_3 (-1 : Int32) (1 : Int32) (0 : Int64) t1 t0 r h1091 n0 Z1091 og_b1076 hin0 (Ne.symm ne_ub0_b1076) ne_b1076_ta ne_b1076_t_0 ne_b1076_t_1 ne_b1076_t_2 f1100 f1101 f1102 f1103 f1104 f1105 f1106 f1107 f1108 f1109 f1110) (g := (mkF m 70 #[.val (.int p1), .val (.long r), .second, .val (.long t0), .second, .val (.long t1), .second, .val (.long t2), .second, .val (.long t3), .second, .val (.int (2 : Int32)), .val (.ref ub0), .val (.ref ub1), .val (.ref ub2), .val (.ref b1076), .val (.ref b1083), .val (.ref b1091), .unset, .unset, .unset, .unset, .unset, .unset] [(.long t1), (.ref ub0), (.ref b1076)])) rfl (by rw [hml]; rfl) (lenOf pd_7 rfl) rfl (W := 0) (by show 2 * 0 + _ ≤ _; exact Nat.le_of_eq rfl) (hb hby at_70) (by decide) (by decide) (by decide) (by decide)
    have N1114 := Fr.app N1090 N1114q
    refine own_by st1114 ?_
    have Z1114 : n0 ≤ T1114.heap.size := Nat.le_trans Z1091 Kr0.1
    have hw0 : own_in (2 : Int32) (own_wake t1 r ((-1 : Int32), (0 : Int64), (1 : Int32))).2.2 := by unfold own_wake; split <;> first | exact hin0 | (split <;> exact hin0)
    have hq0 := own_same_2 u0_0 u0_1 u0_2 u0_3 hb0_1 hb0_2 hb0_3 t1 t0 r (own_wake t1 r ((-1 : Int32), (0 : Int64), (1 : Int32))) hw0
    have hs0 : (own_rest (2 : Int32) (own_count (2 : Int32) u0_1 u0_2 u0_3) (own_at u0_0 u0_1 u0_2 u0_3) t1 t0 r 2 (-1 : Int32) (0 : Int64) (1 : Int32)) = (own_model (2 : Int32) (own_count (2 : Int32) u0_1 u0_2 u0_3) (own_at u0_0 u0_1 u0_2 u0_3) t1 t0 r (own_wake t1 r ((-1 : Int32), (0 : Int64), (1 : Int32)))) := hq0.1
    have hi0 := hq0.2
    obtain ⟨⟨x0, y0, z0⟩, hm0⟩ : ∃ zq, zq = (own_model (2 : Int32) (own_count (2 : Int32) u0_1 u0_2 u0_3) (own_at u0_0 u0_1 u0_2 u0_3) t1 t0 r (own_wake t1 r ((-1 : Int32), (0 : Int64), (1 : Int32)))) := ⟨_, rfl⟩
    rw [← hm0] at hs0 hi0
    rw [hs0] at Fr0_0 Fr0_1 Fr0_2
    show own_Go p e below _ T1114 (mkF m 73 #[.val (.int p1), .val (.long r), .second, .val (.long t0), .second, .val (.long t1), .second, .val (.long t2), .second, .val (.long t3), .second, .val (.int (2 : Int32)), .val (.ref ub0), .val (.ref ub1), .val (.ref ub2), .val (.ref b1076), .val (.ref b1083), .val (.ref b1091), .unset, .unset, .unset, .unset, .unset, .unset] [(.int (own_rest (2 : Int32) (own_count (2 : Int32) u0_1 u0_2 u0_3) (own_at u0_0 u0_1 u0_2 u0_3) t1 t0 r 2 (-1 : Int32) (0 : Int64) (1 : Int32)).1)])
    rw [hs0]
    dsimp only at Fr0_0 Fr0_1 Fr0_2 hi0
    refine own_by (fun _ k => XS.istore X1114.here hx rfl (hb hby at_73) rfl (l' := #[.val (.int p1), .val (.long r), .second, .val (.long t0), .second, .val (.long t1), .second, .val (.long t2), .second, .val (.long t3), .second, .val (.int (2 : Int32)), .val (.ref ub0), .val (.ref ub1), .val (.ref ub2), .val (.ref b1076), .val (.ref b1083), .val (.ref b1091), .val (.int x0), .unset, .unset, .unset, .unset, .unset]) rfl k) ?_
    refine own_by (fun _ k => XS.aload X1114.here hx rfl (hb hby at_75) rfl rfl k) ?_
    refine own_by (fun _ k => XS.aload X1114.here hx rfl (hb hby at_77) rfl rfl k) ?_
    refine own_by (fun _ k => XS.aload X1114.here hx rfl (hb hby at_79) rfl rfl k) ?_
    refine own_by (fun _ k => XS.iload X1114.here hx rfl (hb hby at_81) rfl k) ?_
    refine own_by (fun _ k => XS.lload X1114.here hx rfl (hb hby at_83) rfl k) ?_
    refine own_by (fun _ k => XS.lloadN X1114.here hx rfl (hb hby at_85) rfl k) ?_
    refine own_by (fun _ k => XS.lloadN X1114.here hx rfl (hb hby at_86) rfl k) ?_
    show own_Go p e below _ T1114 (mkF m 87 #[.val (.int p1), .val (.long r), .second, .val (.long t0), .second, .val (.long t1), .second, .val (.long t2), .second, .val (.long t3), .second, .val (.int (2 : Int32)), .val (.ref ub0), .val (.ref ub1), .val (.ref ub2), .val (.ref b1076), .val (.ref b1083), .val (.ref b1091), .val (.int x0), .unset, .unset, .unset, .unset, .unset] [(.long r), (.long t0), (.long t1), (.int (2 : Int32)), (.ref ub0), (.ref b1091), (.ref b1083)])
    have f1115 := (f1106.keep Kr0 (ninS ne_ub0_b1076 nin0))
    have f1116 := (f1113.keep Kr0 (ninS (Ne.symm ne_b1076_b1083) nin0))
    have f1117 := (V1091.keep Kr0 (ninS (Ne.symm ne_b1076_b1091) nin0))
    have f1118 := (f1111.keep Kr0 (ninS ne_ub1_b1076 nin0))
    have f1119 := (f1112.keep Kr0 (ninS ne_ub2_b1076 nin0))
    have f1120 := (f1107.keep Kr0 (ninS (Ne.symm ne_b1076_ta) nin0))
    have f1121 := (f1108.keep Kr0 (ninS (Ne.symm ne_b1076_t_0) nin0))
    have f1122 := (f1109.keep Kr0 (ninS (Ne.symm ne_b1076_t_1) nin0))
    have f1123 := (f1110.keep Kr0 (ninS (Ne.symm ne_b1076_t_2) nin0))
    obtain ⟨_, T1124, L1124, X1124, ⟨rfl, N1124q, Km0, Va0, Vs0⟩, st1124⟩ := own_callS X1114 hx hZ hown (y := (⟨"com/example/eskew/eskew/server/split/CounterValuesRestingPinLaw", "model", "([I[J[ZIJJJ)I"⟩ : MethodName)) (hw _ (List.mem_of_getElem? (i := 51) rfl)) (hw _ (List.mem_of_getElem? (i := 52) rfl)) (hw _ (List.mem_of_getElem? (i := 2) rfl)) (hw _ (List.mem_of_getElem? (i := 53) rfl)) (by decide) (argsL := [(.ref b1083), (.ref b1091), (.ref ub0), (.int (2 : Int32)), (.long t1), (.long t0), (.long r)]) (rest := []) rfl (rm7_2 l Z a0 hw [] b1083 b1091 ub0 k1083 k1091 kb0 u0_0 u0_1 u0_2 u0_3 (-1 : Int32) (1 : Int32) (0 : Int64) t1 t0 r T1114.heap n0 Z1114 og_b1083 og_b1091 ne_b1083_b1091 (Ne.symm ne_ub0_b1083) (Ne.symm ne_ub0_b1091) hin0 f1115 f1116 f1117) (g := (mkF m 87 #[.val (.int p1), .val (.long r), .second, .val (.long t0), .second, .val (.long t1), .second, .val (.long t2), .second, .val (.long t3), .second, .val (.int (2 : Int32)), .val (.ref ub0), .val (.ref ub1), .val (.ref ub2), .val (.ref b1076), .val (.ref b1083), .val (.ref b1091), .val (.int x0), .unset, .unset, .unset, .unset, .unset] [(.long r), (.long t0), (.long t1), (.int (2 : Int32)), (.ref ub0), (.ref b1091), (.ref b1083)])) rfl (by rw [hml]; rfl) (lenOf pd_8 rfl) rfl (W := 0) (by show 2 * 0 + _ ≤ _; exact Nat.le_of_eq rfl) (hb hby at_87) (by decide) (by decide) (by decide) (by decide)
    have N1124 := Fr.app N1114 N1124q
    refine own_by st1124 ?_
    have Z1124 : n0 ≤ T1124.heap.size := Nat.le_trans Z1114 Km0.1
    rw [← hm0] at Va0 Vs0
    show own_Go p e below _ T1124 (mkF m 90 #[.val (.int p1), .val (.long r), .second, .val (.long t0), .second, .val (.long t1), .second, .val (.long t2), .second, .val (.long t3), .second, .val (.int (2 : Int32)), .val (.ref ub0), .val (.ref ub1), .val (.ref ub2), .val (.ref b1076), .val (.ref b1083), .val (.ref b1091), .val (.int x0), .unset, .unset, .unset, .unset, .unset] [(.int (own_model (2 : Int32) (own_count (2 : Int32) u0_1 u0_2 u0_3) (own_at u0_0 u0_1 u0_2 u0_3) t1 t0 r (own_wake t1 r ((-1 : Int32), (0 : Int64), (1 : Int32)))).1)])
    rw [← hm0]
    dsimp only at Va0 Vs0
    refine own_by (fun _ k => XS.istore X1124.here hx rfl (hb hby at_90) rfl (l' := #[.val (.int p1), .val (.long r), .second, .val (.long t0), .second, .val (.long t1), .second, .val (.long t2), .second, .val (.long t3), .second, .val (.int (2 : Int32)), .val (.ref ub0), .val (.ref ub1), .val (.ref ub2), .val (.ref b1076), .val (.ref b1083), .val (.ref b1091), .val (.int x0), .val (.int x0), .unset, .unset, .unset, .unset]) rfl k) ?_
    refine own_by (fun _ k => XS.aload X1124.here hx rfl (hb hby at_92) rfl rfl k) ?_
    refine own_by (fun _ k => XS.aload X1124.here hx rfl (hb hby at_94) rfl rfl k) ?_
    refine own_by (fun _ k => XS.lload X1124.here hx rfl (hb hby at_96) rfl k) ?_
    have f1125 := (Er0.keep Km0)
    have f1126 := (Fr0_0.keep Km0 (ninS ne_b1076_b1083 (ninS ne_b1076_b1091 nin0)))
    have f1127 := (Fr0_1.keep Km0 (ninS ne_b1076_b1083 (ninS ne_b1076_b1091 nin0)))
    have f1128 := (Fr0_2.keep Km0 (ninS ne_b1076_b1083 (ninS ne_b1076_b1091 nin0)))
    have f1129 := (Fr0_3.keep Km0 (ninS ne_b1076_b1083 (ninS ne_b1076_b1091 nin0)))
    have f1130 := (Fr0_4.keep Km0 (ninS ne_b1076_b1083 (ninS ne_b1076_b1091 nin0)))
    have f1131 := (f1118.keep Km0 (ninS ne_ub1_b1083 (ninS ne_ub1_b1091 nin0)))
    have f1132 := (f1120.keep Km0 (ninS ne_ta_b1083 (ninS ne_ta_b1091 nin0)))
    have f1133 := (f1121.keep Km0 (ninS ne_t_0_b1083 (ninS ne_t_0_b1091 nin0)))
    have f1134 := (f1122.keep Km0 (ninS ne_t_1_b1083 (ninS ne_t_1_b1091 nin0)))
    have f1135 := (f1123.keep Km0 (ninS ne_t_2_b1083 (ninS ne_t_2_b1091 nin0)))
    have f1136 := (f1115.keep Km0 (ninS ne_ub0_b1083 (ninS ne_ub0_b1091 nin0)))
    have f1137 := (f1119.keep Km0 (ninS ne_ub2_b1083 (ninS ne_ub2_b1091 nin0)))
    obtain ⟨_, T1138, L1138, X1138, ⟨rfl, N1138q, Kr1, Er1, Fr1_0, Fr1_1, Fr1_2, Fr1_3, Fr1_4⟩, st1138⟩ := own_callV X1124 hx hZ hown (y := (⟨"com/example/eskew/eskew/server/split/CounterValues", "resting", "([ZJ)I"⟩ : MethodName)) (C := "com/example/eskew/eskew/server/split/CounterValues") (hw _ (List.mem_of_getElem? (i := 46) rfl)) (hw _ (List.mem_of_getElem? (i := 47) rfl)) (hw _ (List.mem_of_getElem? (i := 49) rfl)) (hw _ (List.mem_of_getElem? (i := 48) rfl)) (hw _ (List.mem_of_getElem? (i := 7) rfl)) (hw _ (List.mem_of_getElem? (i := 50) rfl)) (by decide) (a := b1076) f1125 (argsL := [(.ref ub1), (.long t2)]) (rest := []) rfl (rm6_2 l Z a0 hw [] b1076 ub1 ta t_0 t_1 t_2 kb1 kt u1_0 u1_1 u1_2 u1_3 x0 z0 y0 t2 t0 r T1124.heap n0 Z1124 og_b1076 hi0 (Ne.symm ne_ub1_b1076) ne_b1076_ta ne_b1076_t_0 ne_b1076_t_1 ne_b1076_t_2 f1125 f1126 f1127 f1128 f1129 f1130 f1131 f1132 f1133 f1134 f1135) (g := (mkF m 98 #[.val (.int p1), .val (.long r), .second, .val (.long t0), .second, .val (.long t1), .second, .val (.long t2), .second, .val (.long t3), .second, .val (.int (2 : Int32)), .val (.ref ub0), .val (.ref ub1), .val (.ref ub2), .val (.ref b1076), .val (.ref b1083), .val (.ref b1091), .val (.int x0), .val (.int x0), .unset, .unset, .unset, .unset] [(.long t2), (.ref ub1), (.ref b1076)])) rfl (by rw [hml]; rfl) (lenOf pd_7 rfl) rfl (W := 0) (by show 2 * 0 + _ ≤ _; exact Nat.le_of_eq rfl) (hb hby at_98) (by decide) (by decide) (by decide) (by decide)
    have N1138 := Fr.app N1124 N1138q
    refine own_by st1138 ?_
    have Z1138 : n0 ≤ T1138.heap.size := Nat.le_trans Z1124 Kr1.1
    have hw1 : own_in (2 : Int32) (own_wake t2 r (x0, y0, z0)).2.2 := by unfold own_wake; split <;> first | exact hi0 | (split <;> exact hi0)
    have hq1 := own_same_2 u1_0 u1_1 u1_2 u1_3 hb1_1 hb1_2 hb1_3 t2 t0 r (own_wake t2 r (x0, y0, z0)) hw1
    have hs1 : (own_rest (2 : Int32) (own_count (2 : Int32) u1_1 u1_2 u1_3) (own_at u1_0 u1_1 u1_2 u1_3) t2 t0 r 2 x0 y0 z0) = (own_model (2 : Int32) (own_count (2 : Int32) u1_1 u1_2 u1_3) (own_at u1_0 u1_1 u1_2 u1_3) t2 t0 r (own_wake t2 r (x0, y0, z0))) := hq1.1
    have hi1 := hq1.2
    obtain ⟨⟨x1, y1, z1⟩, hm1⟩ : ∃ zq, zq = (own_model (2 : Int32) (own_count (2 : Int32) u1_1 u1_2 u1_3) (own_at u1_0 u1_1 u1_2 u1_3) t2 t0 r (own_wake t2 r (x0, y0, z0))) := ⟨_, rfl⟩
    rw [← hm1] at hs1 hi1
    rw [hs1] at Fr1_0 Fr1_1 Fr1_2
    show own_Go p e below _ T1138 (mkF m 101 #[.val (.int p1), .val (.long r), .second, .val (.long t0), .second, .val (.long t1), .second, .val (.long t2), .second, .val (.long t3), .second, .val (.int (2 : Int32)), .val (.ref ub0), .val (.ref ub1), .val (.ref ub2), .val (.ref b1076), .val (.ref b1083), .val (.ref b1091), .val (.int x0), .val (.int x0), .unset, .unset, .unset, .unset] [(.int (own_rest (2 : Int32) (own_count (2 : Int32) u1_1 u1_2 u1_3) (own_at u1_0 u1_1 u1_2 u1_3) t2 t0 r 2 x0 y0 z0).1)])
    rw [hs1]
    dsimp only at Fr1_0 Fr1_1 Fr1_2 hi1
    refine own_by (fun _ k => XS.istore X1138.here hx rfl (hb hby at_101) rfl (l' := #[.val (.int p1), .val (.long r), .second, .val (.long t0), .second, .val (.long t1), .second, .val (.long t2), .second, .val (.long t3), .second, .val (.int (2 : Int32)), .val (.ref ub0), .val (.ref ub1), .val (.ref ub2), .val (.ref b1076), .val (.ref b1083), .val (.ref b1091), .val (.int x0), .val (.int x0), .val (.int x1), .unset, .unset, .unset]) rfl k) ?_
    refine own_by (fun _ k => XS.aload X1138.here hx rfl (hb hby at_103) rfl rfl k) ?_
    refine own_by (fun _ k => XS.aload X1138.here hx rfl (hb hby at_105) rfl rfl k) ?_
    refine own_by (fun _ k => XS.aload X1138.here hx rfl (hb hby at_107) rfl rfl k) ?_
    refine own_by (fun _ k => XS.iload X1138.here hx rfl (hb hby at_109) rfl k) ?_
    refine own_by (fun _ k => XS.lload X1138.here hx rfl (hb hby at_111) rfl k) ?_
    refine own_by (fun _ k => XS.lloadN X1138.here hx rfl (hb hby at_113) rfl k) ?_
    refine own_by (fun _ k => XS.lloadN X1138.here hx rfl (hb hby at_114) rfl k) ?_
    show own_Go p e below _ T1138 (mkF m 115 #[.val (.int p1), .val (.long r), .second, .val (.long t0), .second, .val (.long t1), .second, .val (.long t2), .second, .val (.long t3), .second, .val (.int (2 : Int32)), .val (.ref ub0), .val (.ref ub1), .val (.ref ub2), .val (.ref b1076), .val (.ref b1083), .val (.ref b1091), .val (.int x0), .val (.int x0), .val (.int x1), .unset, .unset, .unset] [(.long r), (.long t0), (.long t2), (.int (2 : Int32)), (.ref ub1), (.ref b1091), (.ref b1083)])
    have f1139 := (f1131.keep Kr1 (ninS ne_ub1_b1076 nin0))
    have f1140 := (Va0.keep Kr1 (ninS (Ne.symm ne_b1076_b1083) nin0))
    have f1141 := (Vs0.keep Kr1 (ninS (Ne.symm ne_b1076_b1091) nin0))
    have f1142 := (f1136.keep Kr1 (ninS ne_ub0_b1076 nin0))
    have f1143 := (f1137.keep Kr1 (ninS ne_ub2_b1076 nin0))
    have f1144 := (f1132.keep Kr1 (ninS (Ne.symm ne_b1076_ta) nin0))
    have f1145 := (f1133.keep Kr1 (ninS (Ne.symm ne_b1076_t_0) nin0))
    have f1146 := (f1134.keep Kr1 (ninS (Ne.symm ne_b1076_t_1) nin0))
    have f1147 := (f1135.keep Kr1 (ninS (Ne.symm ne_b1076_t_2) nin0))
    obtain ⟨_, T1148, L1148, X1148, ⟨rfl, N1148q, Km1, Va1, Vs1⟩, st1148⟩ := own_callS X1138 hx hZ hown (y := (⟨"com/example/eskew/eskew/server/split/CounterValuesRestingPinLaw", "model", "([I[J[ZIJJJ)I"⟩ : MethodName)) (hw _ (List.mem_of_getElem? (i := 51) rfl)) (hw _ (List.mem_of_getElem? (i := 52) rfl)) (hw _ (List.mem_of_getElem? (i := 2) rfl)) (hw _ (List.mem_of_getElem? (i := 53) rfl)) (by decide) (argsL := [(.ref b1083), (.ref b1091), (.ref ub1), (.int (2 : Int32)), (.long t2), (.long t0), (.long r)]) (rest := []) rfl (rm7_2 l Z a0 hw [] b1083 b1091 ub1 k1083 k1091 kb1 u1_0 u1_1 u1_2 u1_3 x0 z0 y0 t2 t0 r T1138.heap n0 Z1138 og_b1083 og_b1091 ne_b1083_b1091 (Ne.symm ne_ub1_b1083) (Ne.symm ne_ub1_b1091) hi0 f1139 f1140 f1141) (g := (mkF m 115 #[.val (.int p1), .val (.long r), .second, .val (.long t0), .second, .val (.long t1), .second, .val (.long t2), .second, .val (.long t3), .second, .val (.int (2 : Int32)), .val (.ref ub0), .val (.ref ub1), .val (.ref ub2), .val (.ref b1076), .val (.ref b1083), .val (.ref b1091), .val (.int x0), .val (.int x0), .val (.int x1), .unset, .unset, .unset] [(.long r), (.long t0), (.long t2), (.int (2 : Int32)), (.ref ub1), (.ref b1091), (.ref b1083)])) rfl (by rw [hml]; rfl) (lenOf pd_8 rfl) rfl (W := 0) (by show 2 * 0 + _ ≤ _; exact Nat.le_of_eq rfl) (hb hby at_115) (by decide) (by decide) (by decide) (by decide)
    have N1148 := Fr.app N1138 N1148q
    refine own_by st1148 ?_
    have Z1148 : n0 ≤ T1148.heap.size := Nat.le_trans Z1138 Km1.1
    rw [← hm1] at Va1 Vs1
    show own_Go p e below _ T1148 (mkF m 118 #[.val (.int p1), .val (.long r), .second, .val (.long t0), .second, .val (.long t1), .second, .val (.long t2), .second, .val (.long t3), .second, .val (.int (2 : Int32)), .val (.ref ub0), .val (.ref ub1), .val (.ref ub2), .val (.ref b1076), .val (.ref b1083), .val (.ref b1091), .val (.int x0), .val (.int x0), .val (.int x1), .unset, .unset, .unset] [(.int (own_model (2 : Int32) (own_count (2 : Int32) u1_1 u1_2 u1_3) (own_at u1_0 u1_1 u1_2 u1_3) t2 t0 r (own_wake t2 r (x0, y0, z0))).1)])
    rw [← hm1]
    dsimp only at Va1 Vs1
    refine own_by (fun _ k => XS.istore X1148.here hx rfl (hb hby at_118) rfl (l' := #[.val (.int p1), .val (.long r), .second, .val (.long t0), .second, .val (.long t1), .second, .val (.long t2), .second, .val (.long t3), .second, .val (.int (2 : Int32)), .val (.ref ub0), .val (.ref ub1), .val (.ref ub2), .val (.ref b1076), .val (.ref b1083), .val (.ref b1091), .val (.int x0), .val (.int x0), .val (.int x1), .val (.int x1), .unset, .unset]) rfl k) ?_
    refine own_by (fun _ k => XS.aload X1148.here hx rfl (hb hby at_120) rfl rfl k) ?_
    refine own_by (fun _ k => XS.aload X1148.here hx rfl (hb hby at_122) rfl rfl k) ?_
    refine own_by (fun _ k => XS.lload X1148.here hx rfl (hb hby at_124) rfl k) ?_
    have f1149 := (Er1.keep Km1)
    have f1150 := (Fr1_0.keep Km1 (ninS ne_b1076_b1083 (ninS ne_b1076_b1091 nin0)))
    have f1151 := (Fr1_1.keep Km1 (ninS ne_b1076_b1083 (ninS ne_b1076_b1091 nin0)))
    have f1152 := (Fr1_2.keep Km1 (ninS ne_b1076_b1083 (ninS ne_b1076_b1091 nin0)))
    have f1153 := (Fr1_3.keep Km1 (ninS ne_b1076_b1083 (ninS ne_b1076_b1091 nin0)))
    have f1154 := (Fr1_4.keep Km1 (ninS ne_b1076_b1083 (ninS ne_b1076_b1091 nin0)))
    have f1155 := (f1143.keep Km1 (ninS ne_ub2_b1083 (ninS ne_ub2_b1091 nin0)))
    have f1156 := (f1144.keep Km1 (ninS ne_ta_b1083 (ninS ne_ta_b1091 nin0)))
    have f1157 := (f1145.keep Km1 (ninS ne_t_0_b1083 (ninS ne_t_0_b1091 nin0)))
    have f1158 := (f1146.keep Km1 (ninS ne_t_1_b1083 (ninS ne_t_1_b1091 nin0)))
    have f1159 := (f1147.keep Km1 (ninS ne_t_2_b1083 (ninS ne_t_2_b1091 nin0)))
    have f1160 := (f1142.keep Km1 (ninS ne_ub0_b1083 (ninS ne_ub0_b1091 nin0)))
    have f1161 := (f1139.keep Km1 (ninS ne_ub1_b1083 (ninS ne_ub1_b1091 nin0)))
    obtain ⟨_, T1162, L1162, X1162, ⟨rfl, N1162q, Kr2, Er2, Fr2_0, Fr2_1, Fr2_2, Fr2_3, Fr2_4⟩, st1162⟩ := own_callV X1148 hx hZ hown (y := (⟨"com/example/eskew/eskew/server/split/CounterValues", "resting", "([ZJ)I"⟩ : MethodName)) (C := "com/example/eskew/eskew/server/split/CounterValues") (hw _ (List.mem_of_getElem? (i := 46) rfl)) (hw _ (List.mem_of_getElem? (i := 47) rfl)) (hw _ (List.mem_of_getElem? (i := 49) rfl)) (hw _ (List.mem_of_getElem? (i := 48) rfl)) (hw _ (List.mem_of_getElem? (i := 7) rfl)) (hw _ (List.mem_of_getElem? (i := 50) rfl)) (by decide) (a := b1076) f1149 (argsL := [(.ref ub2), (.long t3)]) (rest := []) rfl (rm6_2 l Z a0 hw [] b1076 ub2 ta t_0 t_1 t_2 kb2 kt u2_0 u2_1 u2_2 u2_3 x1 z1 y1 t3 t0 r T1148.heap n0 Z1148 og_b1076 hi1 (Ne.symm ne_ub2_b1076) ne_b1076_ta ne_b1076_t_0 ne_b1076_t_1 ne_b1076_t_2 f1149 f1150 f1151 f1152 f1153 f1154 f1155 f1156 f1157 f1158 f1159) (g := (mkF m 126 #[.val (.int p1), .val (.long r), .second, .val (.long t0), .second, .val (.long t1), .second, .val (.long t2), .second, .val (.long t3), .second, .val (.int (2 : Int32)), .val (.ref ub0), .val (.ref ub1), .val (.ref ub2), .val (.ref b1076), .val (.ref b1083), .val (.ref b1091), .val (.int x0), .val (.int x0), .val (.int x1), .val (.int x1), .unset, .unset] [(.long t3), (.ref ub2), (.ref b1076)])) rfl (by rw [hml]; rfl) (lenOf pd_7 rfl) rfl (W := 0) (by show 2 * 0 + _ ≤ _; exact Nat.le_of_eq rfl) (hb hby at_126) (by decide) (by decide) (by decide) (by decide)
    have N1162 := Fr.app N1148 N1162q
    refine own_by st1162 ?_
    have Z1162 : n0 ≤ T1162.heap.size := Nat.le_trans Z1148 Kr2.1
    have hw2 : own_in (2 : Int32) (own_wake t3 r (x1, y1, z1)).2.2 := by unfold own_wake; split <;> first | exact hi1 | (split <;> exact hi1)
    have hq2 := own_same_2 u2_0 u2_1 u2_2 u2_3 hb2_1 hb2_2 hb2_3 t3 t0 r (own_wake t3 r (x1, y1, z1)) hw2
    have hs2 : (own_rest (2 : Int32) (own_count (2 : Int32) u2_1 u2_2 u2_3) (own_at u2_0 u2_1 u2_2 u2_3) t3 t0 r 2 x1 y1 z1) = (own_model (2 : Int32) (own_count (2 : Int32) u2_1 u2_2 u2_3) (own_at u2_0 u2_1 u2_2 u2_3) t3 t0 r (own_wake t3 r (x1, y1, z1))) := hq2.1
    have hi2 := hq2.2
    obtain ⟨⟨x2, y2, z2⟩, hm2⟩ : ∃ zq, zq = (own_model (2 : Int32) (own_count (2 : Int32) u2_1 u2_2 u2_3) (own_at u2_0 u2_1 u2_2 u2_3) t3 t0 r (own_wake t3 r (x1, y1, z1))) := ⟨_, rfl⟩
    rw [← hm2] at hs2 hi2
    rw [hs2] at Fr2_0 Fr2_1 Fr2_2
    show own_Go p e below _ T1162 (mkF m 129 #[.val (.int p1), .val (.long r), .second, .val (.long t0), .second, .val (.long t1), .second, .val (.long t2), .second, .val (.long t3), .second, .val (.int (2 : Int32)), .val (.ref ub0), .val (.ref ub1), .val (.ref ub2), .val (.ref b1076), .val (.ref b1083), .val (.ref b1091), .val (.int x0), .val (.int x0), .val (.int x1), .val (.int x1), .unset, .unset] [(.int (own_rest (2 : Int32) (own_count (2 : Int32) u2_1 u2_2 u2_3) (own_at u2_0 u2_1 u2_2 u2_3) t3 t0 r 2 x1 y1 z1).1)])
    rw [hs2]
    dsimp only at Fr2_0 Fr2_1 Fr2_2 hi2
    refine own_by (fun _ k => XS.istore X1162.here hx rfl (hb hby at_129) rfl (l' := #[.val (.int p1), .val (.long r), .second, .val (.long t0), .second, .val (.long t1), .second, .val (.long t2), .second, .val (.long t3), .second, .val (.int (2 : Int32)), .val (.ref ub0), .val (.ref ub1), .val (.ref ub2), .val (.ref b1076), .val (.ref b1083), .val (.ref b1091), .val (.int x0), .val (.int x0), .val (.int x1), .val (.int x1), .val (.int x2), .unset]) rfl k) ?_
    refine own_by (fun _ k => XS.aload X1162.here hx rfl (hb hby at_131) rfl rfl k) ?_
    refine own_by (fun _ k => XS.aload X1162.here hx rfl (hb hby at_133) rfl rfl k) ?_
    refine own_by (fun _ k => XS.aload X1162.here hx rfl (hb hby at_135) rfl rfl k) ?_
    refine own_by (fun _ k => XS.iload X1162.here hx rfl (hb hby at_137) rfl k) ?_
    refine own_by (fun _ k => XS.lload X1162.here hx rfl (hb hby at_139) rfl k) ?_
    refine own_by (fun _ k => XS.lloadN X1162.here hx rfl (hb hby at_141) rfl k) ?_
    refine own_by (fun _ k => XS.lloadN X1162.here hx rfl (hb hby at_142) rfl k) ?_
    show own_Go p e below _ T1162 (mkF m 143 #[.val (.int p1), .val (.long r), .second, .val (.long t0), .second, .val (.long t1), .second, .val (.long t2), .second, .val (.long t3), .second, .val (.int (2 : Int32)), .val (.ref ub0), .val (.ref ub1), .val (.ref ub2), .val (.ref b1076), .val (.ref b1083), .val (.ref b1091), .val (.int x0), .val (.int x0), .val (.int x1), .val (.int x1), .val (.int x2), .unset] [(.long r), (.long t0), (.long t3), (.int (2 : Int32)), (.ref ub2), (.ref b1091), (.ref b1083)])
    have f1163 := (f1155.keep Kr2 (ninS ne_ub2_b1076 nin0))
    have f1164 := (Va1.keep Kr2 (ninS (Ne.symm ne_b1076_b1083) nin0))
    have f1165 := (Vs1.keep Kr2 (ninS (Ne.symm ne_b1076_b1091) nin0))
    have f1166 := (f1160.keep Kr2 (ninS ne_ub0_b1076 nin0))
    have f1167 := (f1161.keep Kr2 (ninS ne_ub1_b1076 nin0))
    have f1168 := (f1156.keep Kr2 (ninS (Ne.symm ne_b1076_ta) nin0))
    have f1169 := (f1157.keep Kr2 (ninS (Ne.symm ne_b1076_t_0) nin0))
    have f1170 := (f1158.keep Kr2 (ninS (Ne.symm ne_b1076_t_1) nin0))
    have f1171 := (f1159.keep Kr2 (ninS (Ne.symm ne_b1076_t_2) nin0))
    obtain ⟨_, T1172, L1172, X1172, ⟨rfl, N1172q, Km2, Va2, Vs2⟩, st1172⟩ := own_callS X1162 hx hZ hown (y := (⟨"com/example/eskew/eskew/server/split/CounterValuesRestingPinLaw", "model", "([I[J[ZIJJJ)I"⟩ : MethodName)) (hw _ (List.mem_of_getElem? (i := 51) rfl)) (hw _ (List.mem_of_getElem? (i := 52) rfl)) (hw _ (List.mem_of_getElem? (i := 2) rfl)) (hw _ (List.mem_of_getElem? (i := 53) rfl)) (by decide) (argsL := [(.ref b1083), (.ref b1091), (.ref ub2), (.int (2 : Int32)), (.long t3), (.long t0), (.long r)]) (rest := []) rfl (rm7_2 l Z a0 hw [] b1083 b1091 ub2 k1083 k1091 kb2 u2_0 u2_1 u2_2 u2_3 x1 z1 y1 t3 t0 r T1162.heap n0 Z1162 og_b1083 og_b1091 ne_b1083_b1091 (Ne.symm ne_ub2_b1083) (Ne.symm ne_ub2_b1091) hi1 f1163 f1164 f1165) (g := (mkF m 143 #[.val (.int p1), .val (.long r), .second, .val (.long t0), .second, .val (.long t1), .second, .val (.long t2), .second, .val (.long t3), .second, .val (.int (2 : Int32)), .val (.ref ub0), .val (.ref ub1), .val (.ref ub2), .val (.ref b1076), .val (.ref b1083), .val (.ref b1091), .val (.int x0), .val (.int x0), .val (.int x1), .val (.int x1), .val (.int x2), .unset] [(.long r), (.long t0), (.long t3), (.int (2 : Int32)), (.ref ub2), (.ref b1091), (.ref b1083)])) rfl (by rw [hml]; rfl) (lenOf pd_8 rfl) rfl (W := 0) (by show 2 * 0 + _ ≤ _; exact Nat.le_of_eq rfl) (hb hby at_143) (by decide) (by decide) (by decide) (by decide)
    have N1172 := Fr.app N1162 N1172q
    refine own_by st1172 ?_
    have Z1172 : n0 ≤ T1172.heap.size := Nat.le_trans Z1162 Km2.1
    rw [← hm2] at Va2 Vs2
    show own_Go p e below _ T1172 (mkF m 146 #[.val (.int p1), .val (.long r), .second, .val (.long t0), .second, .val (.long t1), .second, .val (.long t2), .second, .val (.long t3), .second, .val (.int (2 : Int32)), .val (.ref ub0), .val (.ref ub1), .val (.ref ub2), .val (.ref b1076), .val (.ref b1083), .val (.ref b1091), .val (.int x0), .val (.int x0), .val (.int x1), .val (.int x1), .val (.int x2), .unset] [(.int (own_model (2 : Int32) (own_count (2 : Int32) u2_1 u2_2 u2_3) (own_at u2_0 u2_1 u2_2 u2_3) t3 t0 r (own_wake t3 r (x1, y1, z1))).1)])
    rw [← hm2]
    dsimp only at Va2 Vs2
    refine own_by (fun _ k => XS.istore X1172.here hx rfl (hb hby at_146) rfl (l' := #[.val (.int p1), .val (.long r), .second, .val (.long t0), .second, .val (.long t1), .second, .val (.long t2), .second, .val (.long t3), .second, .val (.int (2 : Int32)), .val (.ref ub0), .val (.ref ub1), .val (.ref ub2), .val (.ref b1076), .val (.ref b1083), .val (.ref b1091), .val (.int x0), .val (.int x0), .val (.int x1), .val (.int x1), .val (.int x2), .val (.int x2)]) rfl k) ?_
    refine own_by (fun _ k => XS.iload X1172.here hx rfl (hb hby at_148) rfl k) ?_
    refine own_by (fun _ k => XS.iload X1172.here hx rfl (hb hby at_150) rfl k) ?_
    refine own_by (fun _ k => XS.icmpNo X1172.here hx rfl (hb hby at_152) rfl (teq (rfl : x0 = x0)).2 k) ?_
    refine own_by (fun _ k => XS.iload X1172.here hx rfl (hb hby at_155) rfl k) ?_
    refine own_by (fun _ k => XS.iload X1172.here hx rfl (hb hby at_157) rfl k) ?_
    refine own_by (fun _ k => XS.icmpNo X1172.here hx rfl (hb hby at_159) rfl (teq (rfl : x1 = x1)).2 k) ?_
    refine own_by (fun _ k => XS.iload X1172.here hx rfl (hb hby at_162) rfl k) ?_
    show own_Go p e below _ T1172 (mkF m 164 #[.val (.int p1), .val (.long r), .second, .val (.long t0), .second, .val (.long t1), .second, .val (.long t2), .second, .val (.long t3), .second, .val (.int (2 : Int32)), .val (.ref ub0), .val (.ref ub1), .val (.ref ub2), .val (.ref b1076), .val (.ref b1083), .val (.ref b1091), .val (.int x0), .val (.int x0), .val (.int x1), .val (.int x1), .val (.int x2), .val (.int x2)] [(.int x2)])
    refine own_by (fun _ k => XS.iload X1172.here hx rfl (hb hby at_164) rfl k) ?_
    refine own_by (fun _ k => XS.icmpNo X1172.here hx rfl (hb hby at_166) rfl (teq (rfl : x2 = x2)).2 k) ?_
    refine own_by (fun _ k => XS.iconst X1172.here hx rfl (hb hby at_169) k) ?_
    refine own_by (fun _ k => XS.goto X1172.here hx rfl (pc0 := 170) (pc' := 174) rfl (hb hby at_170) (by decide) (by decide) k) ?_
    exact own_retN X1172 hx hlk hret (by simp) rfl (hb hby at_174) ⟨rfl, N1172⟩ (by decide) (by decide)
  · show own_Go p e below _ s₁ (mkF m 5 #[.val (.int p1), .val (.long r), .second, .val (.long t0), .second, .val (.long t1), .second, .val (.long t2), .second, .val (.long t3), .second, .val (.int (p1 &&& (3 : Int32))), .unset, .unset, .unset, .unset, .unset, .unset, .unset, .unset, .unset, .unset, .unset, .unset] [])
    rw [hk]
    refine own_by (fun _ k => XS.iloadN X0.here hx rfl (hb hby at_5) rfl k) ?_
    refine own_by (fun _ k => XS.iconst X0.here hx rfl (hb hby at_6) k) ?_
    refine own_by (fun _ k => XS.ishr X0.here hx rfl (hb hby at_7) rfl k) ?_
    obtain ⟨_, T1173, L1173, X1173, ⟨ub0, kb0, u0_0, u0_1, u0_2, u0_3, rfl, N1173q, Ku0, su0, hb0_0, hb0_1, hb0_2, hb0_3, Vu0⟩, st1173⟩ := own_callS X0 hx hZ hown (y := (⟨"com/example/eskew/eskew/server/split/CounterValuesRestingPinLaw", "ups", "(I)[Z"⟩ : MethodName)) (hw _ (List.mem_of_getElem? (i := 0) rfl)) (hw _ (List.mem_of_getElem? (i := 1) rfl)) (hw _ (List.mem_of_getElem? (i := 2) rfl)) (hw _ (List.mem_of_getElem? (i := 3) rfl)) (by decide) (argsL := [(.int (p1 >>> ((2 : Int32) &&& 31)))]) (rest := []) e0 (rm1 l Z a0 hw [] (p1 >>> ((2 : Int32) &&& 31)) h0 n0 Z0) (g := (mkF m 8 #[.val (.int p1), .val (.long r), .second, .val (.long t0), .second, .val (.long t1), .second, .val (.long t2), .second, .val (.long t3), .second, .val (.int (3 : Int32)), .unset, .unset, .unset, .unset, .unset, .unset, .unset, .unset, .unset, .unset, .unset, .unset] [(.int (p1 >>> ((2 : Int32) &&& 31)))])) rfl (by rw [hml]; rfl) (lenOf pd_5 rfl) rfl (W := 0) (by show 2 * 0 + _ ≤ _; exact Nat.le_of_eq rfl) (hb hby at_8) (by decide) (by decide) (by decide) (by decide)
    have N1173 := Fr.app N0 N1173q
    refine own_by st1173 ?_
    have og_ub0 : n0 ≤ ub0 := Nat.le_trans Z0 su0
    have Z1173 : n0 ≤ T1173.heap.size := Nat.le_trans Z0 Ku0.1
    refine own_by (fun _ k => XS.astore X1173.here hx rfl (hb hby at_11) rfl rfl (l' := #[.val (.int p1), .val (.long r), .second, .val (.long t0), .second, .val (.long t1), .second, .val (.long t2), .second, .val (.long t3), .second, .val (.int (3 : Int32)), .val (.ref ub0), .unset, .unset, .unset, .unset, .unset, .unset, .unset, .unset, .unset, .unset, .unset]) rfl k) ?_
    refine own_by (fun _ k => XS.iloadN X1173.here hx rfl (hb hby at_13) rfl k) ?_
    refine own_by (fun _ k => XS.bipush X1173.here hx rfl (hb hby at_14) k) ?_
    refine own_by (fun _ k => XS.ishr X1173.here hx rfl (hb hby at_16) rfl k) ?_
    show own_Go p e below _ T1173 (mkF m 17 #[.val (.int p1), .val (.long r), .second, .val (.long t0), .second, .val (.long t1), .second, .val (.long t2), .second, .val (.long t3), .second, .val (.int (3 : Int32)), .val (.ref ub0), .unset, .unset, .unset, .unset, .unset, .unset, .unset, .unset, .unset, .unset, .unset] [(.int (p1 >>> ((6 : Int32) &&& 31)))])
    obtain ⟨_, T1174, L1174, X1174, ⟨ub1, kb1, u1_0, u1_1, u1_2, u1_3, rfl, N1174q, Ku1, su1, hb1_0, hb1_1, hb1_2, hb1_3, Vu1⟩, st1174⟩ := own_callS X1173 hx hZ hown (y := (⟨"com/example/eskew/eskew/server/split/CounterValuesRestingPinLaw", "ups", "(I)[Z"⟩ : MethodName)) (hw _ (List.mem_of_getElem? (i := 0) rfl)) (hw _ (List.mem_of_getElem? (i := 1) rfl)) (hw _ (List.mem_of_getElem? (i := 2) rfl)) (hw _ (List.mem_of_getElem? (i := 3) rfl)) (by decide) (argsL := [(.int (p1 >>> ((6 : Int32) &&& 31)))]) (rest := []) rfl (rm1 l Z a0 hw [] (p1 >>> ((6 : Int32) &&& 31)) T1173.heap n0 Z1173) (g := (mkF m 17 #[.val (.int p1), .val (.long r), .second, .val (.long t0), .second, .val (.long t1), .second, .val (.long t2), .second, .val (.long t3), .second, .val (.int (3 : Int32)), .val (.ref ub0), .unset, .unset, .unset, .unset, .unset, .unset, .unset, .unset, .unset, .unset, .unset] [(.int (p1 >>> ((6 : Int32) &&& 31)))])) rfl (by rw [hml]; rfl) (lenOf pd_5 rfl) rfl (W := 0) (by show 2 * 0 + _ ≤ _; exact Nat.le_of_eq rfl) (hb hby at_17) (by decide) (by decide) (by decide) (by decide)
    have N1174 := Fr.app N1173 N1174q
    refine own_by st1174 ?_
    have ne_ub0_ub1 : ub0 ≠ ub1 := Nat.ne_of_lt (Nat.lt_of_lt_of_le Vu0.lt su1)
    have og_ub1 : n0 ≤ ub1 := Nat.le_trans Z1173 su1
    have Z1174 : n0 ≤ T1174.heap.size := Nat.le_trans Z1173 Ku1.1
    refine own_by (fun _ k => XS.astore X1174.here hx rfl (hb hby at_20) rfl rfl (l' := #[.val (.int p1), .val (.long r), .second, .val (.long t0), .second, .val (.long t1), .second, .val (.long t2), .second, .val (.long t3), .second, .val (.int (3 : Int32)), .val (.ref ub0), .val (.ref ub1), .unset, .unset, .unset, .unset, .unset, .unset, .unset, .unset, .unset, .unset]) rfl k) ?_
    refine own_by (fun _ k => XS.iloadN X1174.here hx rfl (hb hby at_22) rfl k) ?_
    refine own_by (fun _ k => XS.bipush X1174.here hx rfl (hb hby at_23) k) ?_
    refine own_by (fun _ k => XS.ishr X1174.here hx rfl (hb hby at_25) rfl k) ?_
    have f1175 := (Vu0.keep Ku1 nin0)
    obtain ⟨_, T1176, L1176, X1176, ⟨ub2, kb2, u2_0, u2_1, u2_2, u2_3, rfl, N1176q, Ku2, su2, hb2_0, hb2_1, hb2_2, hb2_3, Vu2⟩, st1176⟩ := own_callS X1174 hx hZ hown (y := (⟨"com/example/eskew/eskew/server/split/CounterValuesRestingPinLaw", "ups", "(I)[Z"⟩ : MethodName)) (hw _ (List.mem_of_getElem? (i := 0) rfl)) (hw _ (List.mem_of_getElem? (i := 1) rfl)) (hw _ (List.mem_of_getElem? (i := 2) rfl)) (hw _ (List.mem_of_getElem? (i := 3) rfl)) (by decide) (argsL := [(.int (p1 >>> ((10 : Int32) &&& 31)))]) (rest := []) rfl (rm1 l Z a0 hw [] (p1 >>> ((10 : Int32) &&& 31)) T1174.heap n0 Z1174) (g := (mkF m 26 #[.val (.int p1), .val (.long r), .second, .val (.long t0), .second, .val (.long t1), .second, .val (.long t2), .second, .val (.long t3), .second, .val (.int (3 : Int32)), .val (.ref ub0), .val (.ref ub1), .unset, .unset, .unset, .unset, .unset, .unset, .unset, .unset, .unset, .unset] [(.int (p1 >>> ((10 : Int32) &&& 31)))])) rfl (by rw [hml]; rfl) (lenOf pd_5 rfl) rfl (W := 0) (by show 2 * 0 + _ ≤ _; exact Nat.le_of_eq rfl) (hb hby at_26) (by decide) (by decide) (by decide) (by decide)
    have N1176 := Fr.app N1174 N1176q
    refine own_by st1176 ?_
    have ne_ub0_ub2 : ub0 ≠ ub2 := Nat.ne_of_lt (Nat.lt_of_lt_of_le f1175.lt su2)
    have ne_ub1_ub2 : ub1 ≠ ub2 := Nat.ne_of_lt (Nat.lt_of_lt_of_le Vu1.lt su2)
    have og_ub2 : n0 ≤ ub2 := Nat.le_trans Z1174 su2
    have Z1176 : n0 ≤ T1176.heap.size := Nat.le_trans Z1174 Ku2.1
    refine own_by (fun _ k => XS.astore X1176.here hx rfl (hb hby at_29) rfl rfl (l' := #[.val (.int p1), .val (.long r), .second, .val (.long t0), .second, .val (.long t1), .second, .val (.long t2), .second, .val (.long t3), .second, .val (.int (3 : Int32)), .val (.ref ub0), .val (.ref ub1), .val (.ref ub2), .unset, .unset, .unset, .unset, .unset, .unset, .unset, .unset, .unset]) rfl k) ?_
    obtain ⟨T1177, h1177, X1177, e1177, E1177, A1177, D1177, -, st1177⟩ := newO X1176 hx hZ hown (hw _ (List.mem_of_getElem? (i := 5) rfl)) (hw _ (List.mem_of_getElem? (i := 6) rfl)) (hw _ (List.mem_of_getElem? (i := 7) rfl)) rfl (g := (mkF m 31 #[.val (.int p1), .val (.long r), .second, .val (.long t0), .second, .val (.long t1), .second, .val (.long t2), .second, .val (.long t3), .second, .val (.int (3 : Int32)), .val (.ref ub0), .val (.ref ub1), .val (.ref ub2), .unset, .unset, .unset, .unset, .unset, .unset, .unset, .unset, .unset] [])) rfl (hb hby at_31) (by decide) (by decide)
    obtain ⟨b1177, g1177⟩ : ∃ zq, zq = T1176.heap.size := ⟨_, rfl⟩
    rw [← g1177] at A1177 D1177 st1177
    have f1178 := (f1175.keep Ku2 nin0)
    have ne_ub0_b1177 : ub0 ≠ b1177 := Nat.ne_of_lt (Nat.lt_of_lt_of_le f1178.lt (Nat.le_of_eq g1177.symm))
    have f1179 := (Vu1.keep Ku2 nin0)
    have ne_ub1_b1177 : ub1 ≠ b1177 := Nat.ne_of_lt (Nat.lt_of_lt_of_le f1179.lt (Nat.le_of_eq g1177.symm))
    have ne_ub2_b1177 : ub2 ≠ b1177 := Nat.ne_of_lt (Nat.lt_of_lt_of_le Vu2.lt (Nat.le_of_eq g1177.symm))
    have og_b1177 : n0 ≤ b1177 := Nat.le_trans Z1176 (Nat.le_of_eq g1177.symm)
    have Z1177 : n0 ≤ h1177.size := Nat.le_trans Z1176 E1177.1
    have F_rising_b1177 : Fld Z h1177 b1177 "com/example/eskew/eskew/server/split/CounterValues" "rising" "Lcom/example/eskew/eskew/server/split/CounterValues$WideSum;" .null := D1177 (Or.inr (hw _ (List.mem_of_getElem? (i := 22) rfl))) (ty := (.object "com/example/eskew/eskew/server/split/CounterValues$WideSum")) (by decide)
    have F_falling_b1177 : Fld Z h1177 b1177 "com/example/eskew/eskew/server/split/CounterValues" "falling" "Lcom/example/eskew/eskew/server/split/CounterValues$WideSum;" .null := D1177 (Or.inr (hw _ (List.mem_of_getElem? (i := 24) rfl))) (ty := (.object "com/example/eskew/eskew/server/split/CounterValues$WideSum")) (by decide)
    have F_resting_b1177 : Fld Z h1177 b1177 "com/example/eskew/eskew/server/split/CounterValues" "resting" "I" (.int (0 : Int32)) := D1177 (Or.inl (hw _ (List.mem_of_getElem? (i := 26) rfl))) (ty := .int) (by decide)
    have F_nextToRest_b1177 : Fld Z h1177 b1177 "com/example/eskew/eskew/server/split/CounterValues" "nextToRest" "I" (.int (0 : Int32)) := D1177 (Or.inl (hw _ (List.mem_of_getElem? (i := 28) rfl))) (ty := .int) (by decide)
    have F_rereadNanos_b1177 : Fld Z h1177 b1177 "com/example/eskew/eskew/server/split/CounterValues" "rereadNanos" "J" (.long (0 : Int64)) := D1177 (Or.inr (hw _ (List.mem_of_getElem? (i := 30) rfl))) (ty := .long) (by decide)
    have F_tallies_b1177 : Fld Z h1177 b1177 "com/example/eskew/eskew/server/split/CounterValues" "tallies" "[Lcom/example/eskew/eskew/server/split/CounterValues$Tally;" .null := D1177 (Or.inr (hw _ (List.mem_of_getElem? (i := 34) rfl))) (ty := (.array (.object "com/example/eskew/eskew/server/split/CounterValues$Tally"))) (by decide)
    have F_restingSince_b1177 : Fld Z h1177 b1177 "com/example/eskew/eskew/server/split/CounterValues" "restingSince" "J" (.long (0 : Int64)) := D1177 (Or.inl (hw _ (List.mem_of_getElem? (i := 59) rfl))) (ty := .long) (by decide)
    refine own_by st1177 ?_
    refine own_by (fun _ k => XS.dup X1177.here hx rfl (hb hby at_34) rfl rfl k) ?_
    show own_Go p e below _ T1177 (mkF m 35 #[.val (.int p1), .val (.long r), .second, .val (.long t0), .second, .val (.long t1), .second, .val (.long t2), .second, .val (.long t3), .second, .val (.int (3 : Int32)), .val (.ref ub0), .val (.ref ub1), .val (.ref ub2), .unset, .unset, .unset, .unset, .unset, .unset, .unset, .unset, .unset] [(.ref b1177), (.ref b1177)])
    refine own_by (fun _ k => XS.iload X1177.here hx rfl (hb hby at_35) rfl k) ?_
    refine own_by (fun _ k => XS.iconst X1177.here hx rfl (hb hby at_37) k) ?_
    refine own_by (fun _ k => XS.iadd X1177.here hx rfl (hb hby at_38) rfl k) ?_
    refine own_by (fun _ k => XS.lloadN X1177.here hx rfl (hb hby at_39) rfl k) ?_
    refine own_by (fun _ k => XS.lloadN X1177.here hx rfl (hb hby at_40) rfl k) ?_
    show own_Go p e below _ T1177 (mkF m 41 #[.val (.int p1), .val (.long r), .second, .val (.long t0), .second, .val (.long t1), .second, .val (.long t2), .second, .val (.long t3), .second, .val (.int (3 : Int32)), .val (.ref ub0), .val (.ref ub1), .val (.ref ub2), .unset, .unset, .unset, .unset, .unset, .unset, .unset, .unset, .unset] [(.long t0), (.long r), (.int ((3 : Int32) + (1 : Int32))), (.ref b1177), (.ref b1177)])
    rw [show (3 : Int32) + (1 : Int32) = (4 : Int32) from by decide]
    have f1180 := (f1178.ext E1177)
    have f1181 := (f1179.ext E1177)
    have f1182 := (Vu2.ext E1177)
    obtain ⟨_, T1183, L1183, X1183, ⟨ta, kt, t_0, t_1, t_2, t_3, rfl, N1183q, Kc, Ec, Fc0, Fc1, Fc2, Fc3, Fc4, sta, Vta, st_0, st_1, st_2, st_3, Sc_0, Sc_1, Sc_2, Sc_3⟩, st1183⟩ := own_callI X1177 hx hZ hown (y := (⟨"com/example/eskew/eskew/server/split/CounterValues", "<init>", "(IJJ)V"⟩ : MethodName)) rfl (hw _ (List.mem_of_getElem? (i := 8) rfl)) (hw _ (List.mem_of_getElem? (i := 9) rfl)) (hw _ (List.mem_of_getElem? (i := 7) rfl)) (hw _ (List.mem_of_getElem? (i := 10) rfl)) (by decide) (a := b1177) (argsL := [(.int (4 : Int32)), (.long r), (.long t0)]) (rest := [(.ref b1177)]) e1177 (rm2_3 l Z a0 hw [] b1177 r t0 h1177 n0 Z1177 og_b1177 A1177 F_rising_b1177 F_falling_b1177 F_resting_b1177 F_nextToRest_b1177 F_rereadNanos_b1177 F_tallies_b1177 F_restingSince_b1177) (g := (mkF m 41 #[.val (.int p1), .val (.long r), .second, .val (.long t0), .second, .val (.long t1), .second, .val (.long t2), .second, .val (.long t3), .second, .val (.int (3 : Int32)), .val (.ref ub0), .val (.ref ub1), .val (.ref ub2), .unset, .unset, .unset, .unset, .unset, .unset, .unset, .unset, .unset] [(.long t0), (.long r), (.int (4 : Int32)), (.ref b1177), (.ref b1177)])) rfl (by rw [hml]; rfl) (lenOf pd_6 rfl) rfl (W := 1) (by show 2 * 0 + _ ≤ _; exact Nat.le_of_eq rfl) (hb hby at_41) (by decide) (by decide) (by decide) (by decide)
    have N1183 := Fr.app N1176 N1183q
    refine own_by st1183 ?_
    have ne_ub0_ta : ub0 ≠ ta := Nat.ne_of_lt (Nat.lt_of_lt_of_le f1180.lt sta)
    have ne_ub1_ta : ub1 ≠ ta := Nat.ne_of_lt (Nat.lt_of_lt_of_le f1181.lt sta)
    have ne_ub2_ta : ub2 ≠ ta := Nat.ne_of_lt (Nat.lt_of_lt_of_le f1182.lt sta)
    have ne_b1177_ta : b1177 ≠ ta := Nat.ne_of_lt (Nat.lt_of_lt_of_le A1177.lt sta)
    have og_ta : n0 ≤ ta := Nat.le_trans Z1177 sta
    have ne_ub0_t_0 : ub0 ≠ t_0 := Nat.ne_of_lt (Nat.lt_of_lt_of_le f1180.lt st_0)
    have ne_ub1_t_0 : ub1 ≠ t_0 := Nat.ne_of_lt (Nat.lt_of_lt_of_le f1181.lt st_0)
    have ne_ub2_t_0 : ub2 ≠ t_0 := Nat.ne_of_lt (Nat.lt_of_lt_of_le f1182.lt st_0)
    have ne_b1177_t_0 : b1177 ≠ t_0 := Nat.ne_of_lt (Nat.lt_of_lt_of_le A1177.lt st_0)
    have og_t_0 : n0 ≤ t_0 := Nat.le_trans Z1177 st_0
    have ne_ub0_t_1 : ub0 ≠ t_1 := Nat.ne_of_lt (Nat.lt_of_lt_of_le f1180.lt st_1)
    have ne_ub1_t_1 : ub1 ≠ t_1 := Nat.ne_of_lt (Nat.lt_of_lt_of_le f1181.lt st_1)
    have ne_ub2_t_1 : ub2 ≠ t_1 := Nat.ne_of_lt (Nat.lt_of_lt_of_le f1182.lt st_1)
    have ne_b1177_t_1 : b1177 ≠ t_1 := Nat.ne_of_lt (Nat.lt_of_lt_of_le A1177.lt st_1)
    have og_t_1 : n0 ≤ t_1 := Nat.le_trans Z1177 st_1
    have ne_ub0_t_2 : ub0 ≠ t_2 := Nat.ne_of_lt (Nat.lt_of_lt_of_le f1180.lt st_2)
    have ne_ub1_t_2 : ub1 ≠ t_2 := Nat.ne_of_lt (Nat.lt_of_lt_of_le f1181.lt st_2)
    have ne_ub2_t_2 : ub2 ≠ t_2 := Nat.ne_of_lt (Nat.lt_of_lt_of_le f1182.lt st_2)
    have ne_b1177_t_2 : b1177 ≠ t_2 := Nat.ne_of_lt (Nat.lt_of_lt_of_le A1177.lt st_2)
    have og_t_2 : n0 ≤ t_2 := Nat.le_trans Z1177 st_2
    have ne_ub0_t_3 : ub0 ≠ t_3 := Nat.ne_of_lt (Nat.lt_of_lt_of_le f1180.lt st_3)
    have ne_ub1_t_3 : ub1 ≠ t_3 := Nat.ne_of_lt (Nat.lt_of_lt_of_le f1181.lt st_3)
    have ne_ub2_t_3 : ub2 ≠ t_3 := Nat.ne_of_lt (Nat.lt_of_lt_of_le f1182.lt st_3)
    have ne_b1177_t_3 : b1177 ≠ t_3 := Nat.ne_of_lt (Nat.lt_of_lt_of_le A1177.lt st_3)
    have og_t_3 : n0 ≤ t_3 := Nat.le_trans Z1177 st_3
    have Z1183 : n0 ≤ T1183.heap.size := Nat.le_trans Z1177 Kc.1
    refine own_by (fun _ k => XS.astore X1183.here hx rfl (hb hby at_44) rfl rfl (l' := #[.val (.int p1), .val (.long r), .second, .val (.long t0), .second, .val (.long t1), .second, .val (.long t2), .second, .val (.long t3), .second, .val (.int (3 : Int32)), .val (.ref ub0), .val (.ref ub1), .val (.ref ub2), .val (.ref b1177), .unset, .unset, .unset, .unset, .unset, .unset, .unset, .unset]) rfl k) ?_
    refine own_by (fun _ k => XS.iconst X1183.here hx rfl (hb hby at_46) k) ?_
    obtain ⟨T1184, h1184, k1184, X1184, e1184, E1184, A1184, C1184, st1184⟩ := newPE X1183 hx hZ (hw _ (List.mem_of_getElem? (i := 44) rfl)) rfl (g := (mkF m 47 #[.val (.int p1), .val (.long r), .second, .val (.long t0), .second, .val (.long t1), .second, .val (.long t2), .second, .val (.long t3), .second, .val (.int (3 : Int32)), .val (.ref ub0), .val (.ref ub1), .val (.ref ub2), .val (.ref b1177), .unset, .unset, .unset, .unset, .unset, .unset, .unset, .unset] [(.int (2 : Int32))])) rfl (hb hby at_47) rfl (by decide) (cap := 2) (by decide) (by decide) (by decide) (by decide) (ad := "[I") (by decide)
    obtain ⟨b1184, g1184⟩ : ∃ zq, zq = T1183.heap.size := ⟨_, rfl⟩
    rw [← g1184] at A1184 C1184 st1184
    have f1185 := (f1180.keep Kc (ninS ne_ub0_b1177 nin0))
    have ne_ub0_b1184 : ub0 ≠ b1184 := Nat.ne_of_lt (Nat.lt_of_lt_of_le f1185.lt (Nat.le_of_eq g1184.symm))
    have f1186 := (f1181.keep Kc (ninS ne_ub1_b1177 nin0))
    have ne_ub1_b1184 : ub1 ≠ b1184 := Nat.ne_of_lt (Nat.lt_of_lt_of_le f1186.lt (Nat.le_of_eq g1184.symm))
    have f1187 := (f1182.keep Kc (ninS ne_ub2_b1177 nin0))
    have ne_ub2_b1184 : ub2 ≠ b1184 := Nat.ne_of_lt (Nat.lt_of_lt_of_le f1187.lt (Nat.le_of_eq g1184.symm))
    have ne_b1177_b1184 : b1177 ≠ b1184 := Nat.ne_of_lt (Nat.lt_of_lt_of_le Ec.lt (Nat.le_of_eq g1184.symm))
    have ne_ta_b1184 : ta ≠ b1184 := Nat.ne_of_lt (Nat.lt_of_lt_of_le Vta.lt (Nat.le_of_eq g1184.symm))
    have ne_t_0_b1184 : t_0 ≠ b1184 := Nat.ne_of_lt (Nat.lt_of_lt_of_le Sc_0.lt (Nat.le_of_eq g1184.symm))
    have ne_t_1_b1184 : t_1 ≠ b1184 := Nat.ne_of_lt (Nat.lt_of_lt_of_le Sc_1.lt (Nat.le_of_eq g1184.symm))
    have ne_t_2_b1184 : t_2 ≠ b1184 := Nat.ne_of_lt (Nat.lt_of_lt_of_le Sc_2.lt (Nat.le_of_eq g1184.symm))
    have ne_t_3_b1184 : t_3 ≠ b1184 := Nat.ne_of_lt (Nat.lt_of_lt_of_le Sc_3.lt (Nat.le_of_eq g1184.symm))
    have og_b1184 : n0 ≤ b1184 := Nat.le_trans Z1183 (Nat.le_of_eq g1184.symm)
    have Z1184 : n0 ≤ h1184.size := Nat.le_trans Z1183 E1184.1
    have V1184 : Arv Z h1184 b1184 k1184 .int (2 : Int32) [(.int (0 : Int32)), (.int (0 : Int32))] (.int (0 : Int32)) := (Arv.new A1184 (by decide)).pad (pad_rep [] (.int (0 : Int32)) 2)
    refine own_by st1184 ?_
    refine own_by (fun _ k => XS.dup X1184.here hx rfl (hb hby at_49) rfl rfl k) ?_
    refine own_by (fun _ k => XS.iconst X1184.here hx rfl (hb hby at_50) k) ?_
    refine own_by (fun _ k => XS.iconst X1184.here hx rfl (hb hby at_51) k) ?_
    obtain ⟨cl1188, Ar1188, cq1188, hin1188, hat1188, set1188⟩ := own_arv V1184 (j := (0 : Int32)) ⟨by decide, by decide⟩
    obtain ⟨T1189, h1189, X1189, e1189, W1189, st1189⟩ := stI X1184 hx hZ e1184 Ar1188 (j := (0 : Int32)) hin1188 (g := (mkF m 52 #[.val (.int p1), .val (.long r), .second, .val (.long t0), .second, .val (.long t1), .second, .val (.long t2), .second, .val (.long t3), .second, .val (.int (3 : Int32)), .val (.ref ub0), .val (.ref ub1), .val (.ref ub2), .val (.ref b1177), .unset, .unset, .unset, .unset, .unset, .unset, .unset, .unset] [(.int (-1 : Int32)), (.int (0 : Int32)), (.ref b1184), (.ref b1184)])) rfl rfl (hb hby at_52)
    have V1189 : Arv Z h1189 b1184 k1184 .int (2 : Int32) [(.int (-1 : Int32)), (.int (0 : Int32))] (.int (0 : Int32)) := set1188 rfl W1189 0 rfl (Nat.le_of_ble_eq_true rfl)
    have N1189 := Fr.snoc X1189 N1183 og_b1184
    have Z1189 : n0 ≤ h1189.size := Nat.le_trans Z1184 (Keep.of_wr W1189).1
    refine own_by st1189 ?_
    show own_Go p e below _ T1189 (mkF m 53 #[.val (.int p1), .val (.long r), .second, .val (.long t0), .second, .val (.long t1), .second, .val (.long t2), .second, .val (.long t3), .second, .val (.int (3 : Int32)), .val (.ref ub0), .val (.ref ub1), .val (.ref ub2), .val (.ref b1177), .unset, .unset, .unset, .unset, .unset, .unset, .unset, .unset] [(.ref b1184)])
    refine own_by (fun _ k => XS.dup X1189.here hx rfl (hb hby at_53) rfl rfl k) ?_
    refine own_by (fun _ k => XS.iconst X1189.here hx rfl (hb hby at_54) k) ?_
    refine own_by (fun _ k => XS.iconst X1189.here hx rfl (hb hby at_55) k) ?_
    obtain ⟨cl1190, Ar1190, cq1190, hin1190, hat1190, set1190⟩ := own_arv V1189 (j := (1 : Int32)) ⟨by decide, by decide⟩
    obtain ⟨T1191, h1191, X1191, e1191, W1191, st1191⟩ := stI X1189 hx hZ e1189 Ar1190 (j := (1 : Int32)) hin1190 (g := (mkF m 56 #[.val (.int p1), .val (.long r), .second, .val (.long t0), .second, .val (.long t1), .second, .val (.long t2), .second, .val (.long t3), .second, .val (.int (3 : Int32)), .val (.ref ub0), .val (.ref ub1), .val (.ref ub2), .val (.ref b1177), .unset, .unset, .unset, .unset, .unset, .unset, .unset, .unset] [(.int (1 : Int32)), (.int (1 : Int32)), (.ref b1184), (.ref b1184)])) rfl rfl (hb hby at_56)
    have V1191 : Arv Z h1191 b1184 k1184 .int (2 : Int32) [(.int (-1 : Int32)), (.int (1 : Int32))] (.int (0 : Int32)) := set1190 rfl W1191 1 rfl (Nat.le_of_ble_eq_true rfl)
    have N1191 := Fr.snoc X1191 N1189 og_b1184
    have Z1191 : n0 ≤ h1191.size := Nat.le_trans Z1189 (Keep.of_wr W1191).1
    refine own_by st1191 ?_
    refine own_by (fun _ k => XS.astore X1191.here hx rfl (hb hby at_57) rfl rfl (l' := #[.val (.int p1), .val (.long r), .second, .val (.long t0), .second, .val (.long t1), .second, .val (.long t2), .second, .val (.long t3), .second, .val (.int (3 : Int32)), .val (.ref ub0), .val (.ref ub1), .val (.ref ub2), .val (.ref b1177), .val (.ref b1184), .unset, .unset, .unset, .unset, .unset, .unset, .unset]) rfl k) ?_
    refine own_by (fun _ k => XS.iconst X1191.here hx rfl (hb hby at_59) k) ?_
    obtain ⟨T1192, h1192, k1192, X1192, e1192, E1192, A1192, C1192, st1192⟩ := newPE X1191 hx hZ (hw _ (List.mem_of_getElem? (i := 45) rfl)) e1191 (g := (mkF m 60 #[.val (.int p1), .val (.long r), .second, .val (.long t0), .second, .val (.long t1), .second, .val (.long t2), .second, .val (.long t3), .second, .val (.int (3 : Int32)), .val (.ref ub0), .val (.ref ub1), .val (.ref ub2), .val (.ref b1177), .val (.ref b1184), .unset, .unset, .unset, .unset, .unset, .unset, .unset] [(.int (1 : Int32))])) rfl (hb hby at_60) rfl (by decide) (cap := 1) (by decide) (by decide) (by decide) (by decide) (ad := "[J") (by decide)
    obtain ⟨b1192, g1192⟩ : ∃ zq, zq = h1191.size := ⟨_, rfl⟩
    rw [← g1192] at A1192 C1192 st1192
    have f1193 := (((f1185.ext E1184).other W1189 ne_ub0_b1184).other W1191 ne_ub0_b1184)
    have ne_ub0_b1192 : ub0 ≠ b1192 := Nat.ne_of_lt (Nat.lt_of_lt_of_le f1193.lt (Nat.le_of_eq g1192.symm))
    have f1194 := (((f1186.ext E1184).other W1189 ne_ub1_b1184).other W1191 ne_ub1_b1184)
    have ne_ub1_b1192 : ub1 ≠ b1192 := Nat.ne_of_lt (Nat.lt_of_lt_of_le f1194.lt (Nat.le_of_eq g1192.symm))
    have f1195 := (((f1187.ext E1184).other W1189 ne_ub2_b1184).other W1191 ne_ub2_b1184)
    have ne_ub2_b1192 : ub2 ≠ b1192 := Nat.ne_of_lt (Nat.lt_of_lt_of_le f1195.lt (Nat.le_of_eq g1192.symm))
    have f1196 := (((Ec.ext E1184).wr W1189).wr W1191)
    have ne_b1177_b1192 : b1177 ≠ b1192 := Nat.ne_of_lt (Nat.lt_of_lt_of_le f1196.lt (Nat.le_of_eq g1192.symm))
    have f1197 := (((Vta.ext E1184).other W1189 ne_ta_b1184).other W1191 ne_ta_b1184)
    have ne_ta_b1192 : ta ≠ b1192 := Nat.ne_of_lt (Nat.lt_of_lt_of_le f1197.lt (Nat.le_of_eq g1192.symm))
    have f1198 := (((Sc_0.ext E1184).other W1189 (Or.inl ne_t_0_b1184)).other W1191 (Or.inl ne_t_0_b1184))
    have ne_t_0_b1192 : t_0 ≠ b1192 := Nat.ne_of_lt (Nat.lt_of_lt_of_le f1198.lt (Nat.le_of_eq g1192.symm))
    have f1199 := (((Sc_1.ext E1184).other W1189 (Or.inl ne_t_1_b1184)).other W1191 (Or.inl ne_t_1_b1184))
    have ne_t_1_b1192 : t_1 ≠ b1192 := Nat.ne_of_lt (Nat.lt_of_lt_of_le f1199.lt (Nat.le_of_eq g1192.symm))
    have f1200 := (((Sc_2.ext E1184).other W1189 (Or.inl ne_t_2_b1184)).other W1191 (Or.inl ne_t_2_b1184))
    have ne_t_2_b1192 : t_2 ≠ b1192 := Nat.ne_of_lt (Nat.lt_of_lt_of_le f1200.lt (Nat.le_of_eq g1192.symm))
    have f1201 := (((Sc_3.ext E1184).other W1189 (Or.inl ne_t_3_b1184)).other W1191 (Or.inl ne_t_3_b1184))
    have ne_t_3_b1192 : t_3 ≠ b1192 := Nat.ne_of_lt (Nat.lt_of_lt_of_le f1201.lt (Nat.le_of_eq g1192.symm))
    have ne_b1184_b1192 : b1184 ≠ b1192 := Nat.ne_of_lt (Nat.lt_of_lt_of_le V1191.lt (Nat.le_of_eq g1192.symm))
    have og_b1192 : n0 ≤ b1192 := Nat.le_trans Z1191 (Nat.le_of_eq g1192.symm)
    have Z1192 : n0 ≤ h1192.size := Nat.le_trans Z1191 E1192.1
    have V1192 : Arv Z h1192 b1192 k1192 .long (1 : Int32) [(.long (0 : Int64))] (.long (0 : Int64)) := (Arv.new A1192 (by decide)).pad (pad_rep [] (.long (0 : Int64)) 1)
    refine own_by st1192 ?_
    refine own_by (fun _ k => XS.astore X1192.here hx rfl (hb hby at_62) rfl rfl (l' := #[.val (.int p1), .val (.long r), .second, .val (.long t0), .second, .val (.long t1), .second, .val (.long t2), .second, .val (.long t3), .second, .val (.int (3 : Int32)), .val (.ref ub0), .val (.ref ub1), .val (.ref ub2), .val (.ref b1177), .val (.ref b1184), .val (.ref b1192), .unset, .unset, .unset, .unset, .unset, .unset]) rfl k) ?_
    refine own_by (fun _ k => XS.aload X1192.here hx rfl (hb hby at_64) rfl rfl k) ?_
    show own_Go p e below _ T1192 (mkF m 66 #[.val (.int p1), .val (.long r), .second, .val (.long t0), .second, .val (.long t1), .second, .val (.long t2), .second, .val (.long t3), .second, .val (.int (3 : Int32)), .val (.ref ub0), .val (.ref ub1), .val (.ref ub2), .val (.ref b1177), .val (.ref b1184), .val (.ref b1192), .unset, .unset, .unset, .unset, .unset, .unset] [(.ref b1177)])
    refine own_by (fun _ k => XS.aload X1192.here hx rfl (hb hby at_66) rfl rfl k) ?_
    refine own_by (fun _ k => XS.lload X1192.here hx rfl (hb hby at_68) rfl k) ?_
    have hin0 : own_in (3 : Int32) (1 : Int32) := by decide
    have f1202 := (f1196.ext E1192)
    have f1203 := ((((Fc0.ext E1184).other W1189 (Or.inl ne_b1177_b1184)).other W1191 (Or.inl ne_b1177_b1184)).ext E1192)
    have f1204 := ((((Fc1.ext E1184).other W1189 (Or.inl ne_b1177_b1184)).other W1191 (Or.inl ne_b1177_b1184)).ext E1192)
    have f1205 := ((((Fc2.ext E1184).other W1189 (Or.inl ne_b1177_b1184)).other W1191 (Or.inl ne_b1177_b1184)).ext E1192)
    have f1206 := ((((Fc3.ext E1184).other W1189 (Or.inl ne_b1177_b1184)).other W1191 (Or.inl ne_b1177_b1184)).ext E1192)
    have f1207 := ((((Fc4.ext E1184).other W1189 (Or.inl ne_b1177_b1184)).other W1191 (Or.inl ne_b1177_b1184)).ext E1192)
    have f1208 := (f1193.ext E1192)
    have f1209 := (f1197.ext E1192)
    have f1210 := (f1198.ext E1192)
    have f1211 := (f1199.ext E1192)
    have f1212 := (f1200.ext E1192)
    have f1213 := (f1201.ext E1192)
    have f1214 := (f1194.ext E1192)
    have f1215 := (f1195.ext E1192)
    have f1216 := (V1191.ext E1192)
    obtain ⟨_, T1217, L1217, X1217, ⟨rfl, N1217q, Kr0, Er0, Fr0_0, Fr0_1, Fr0_2, Fr0_3, Fr0_4⟩, st1217⟩ := own_callV X1192 hx hZ hown (y := (⟨"com/example/eskew/eskew/server/split/CounterValues", "resting", "([ZJ)I"⟩ : MethodName)) (C := "com/example/eskew/eskew/server/split/CounterValues") (hw _ (List.mem_of_getElem? (i := 46) rfl)) (hw _ (List.mem_of_getElem? (i := 47) rfl)) (hw _ (List.mem_of_getElem? (i := 49) rfl)) (hw _ (List.mem_of_getElem? (i := 48) rfl)) (hw _ (List.mem_of_getElem? (i := 7) rfl)) (hw _ (List.mem_of_getElem? (i := 50) rfl)) (by decide) (a := b1177) f1202 (argsL := [(.ref ub0), (.long t1)]) (rest := []) e1192 (rm6_3 l Z a0 hw [] b1177 ub0 ta t_0 t_1 t_2 t_3 kb0 kt u0_0 u0_1 u0_2 u0_3 (-1 : Int32) (1 : Int32) (0 : Int64) t1 t0 r h1192 n0 Z1192 og_b1177 hin0 (Ne.symm ne_ub0_b1177) ne_b1177_ta ne_b1177_t_0 ne_b1177_t_1 ne_b1177_t_2 ne_b1177_t_3 f1202 f1203 f1204 f1205 f1206 f1207 f1208 f1209 f1210 f1211 f1212 f1213) (g := (mkF m 70 #[.val (.int p1), .val (.long r), .second, .val (.long t0), .second, .val (.long t1), .second, .val (.long t2), .second, .val (.long t3), .second, .val (.int (3 : Int32)), .val (.ref ub0), .val (.ref ub1), .val (.ref ub2), .val (.ref b1177), .val (.ref b1184), .val (.ref b1192), .unset, .unset, .unset, .unset, .unset, .unset] [(.long t1), (.ref ub0), (.ref b1177)])) rfl (by rw [hml]; rfl) (lenOf pd_7 rfl) rfl (W := 0) (by show 2 * 0 + _ ≤ _; exact Nat.le_of_eq rfl) (hb hby at_70) (by decide) (by decide) (by decide) (by decide)
    have N1217 := Fr.app N1191 N1217q
    refine own_by st1217 ?_
    have Z1217 : n0 ≤ T1217.heap.size := Nat.le_trans Z1192 Kr0.1
    have hw0 : own_in (3 : Int32) (own_wake t1 r ((-1 : Int32), (0 : Int64), (1 : Int32))).2.2 := by unfold own_wake; split <;> first | exact hin0 | (split <;> exact hin0)
    have hq0 := own_same_3 u0_0 u0_1 u0_2 u0_3 hb0_1 hb0_2 hb0_3 t1 t0 r (own_wake t1 r ((-1 : Int32), (0 : Int64), (1 : Int32))) hw0
    have hs0 : (own_rest (3 : Int32) (own_count (3 : Int32) u0_1 u0_2 u0_3) (own_at u0_0 u0_1 u0_2 u0_3) t1 t0 r 3 (-1 : Int32) (0 : Int64) (1 : Int32)) = (own_model (3 : Int32) (own_count (3 : Int32) u0_1 u0_2 u0_3) (own_at u0_0 u0_1 u0_2 u0_3) t1 t0 r (own_wake t1 r ((-1 : Int32), (0 : Int64), (1 : Int32)))) := hq0.1
    have hi0 := hq0.2
    obtain ⟨⟨x0, y0, z0⟩, hm0⟩ : ∃ zq, zq = (own_model (3 : Int32) (own_count (3 : Int32) u0_1 u0_2 u0_3) (own_at u0_0 u0_1 u0_2 u0_3) t1 t0 r (own_wake t1 r ((-1 : Int32), (0 : Int64), (1 : Int32)))) := ⟨_, rfl⟩
    rw [← hm0] at hs0 hi0
    rw [hs0] at Fr0_0 Fr0_1 Fr0_2
    show own_Go p e below _ T1217 (mkF m 73 #[.val (.int p1), .val (.long r), .second, .val (.long t0), .second, .val (.long t1), .second, .val (.long t2), .second, .val (.long t3), .second, .val (.int (3 : Int32)), .val (.ref ub0), .val (.ref ub1), .val (.ref ub2), .val (.ref b1177), .val (.ref b1184), .val (.ref b1192), .unset, .unset, .unset, .unset, .unset, .unset] [(.int (own_rest (3 : Int32) (own_count (3 : Int32) u0_1 u0_2 u0_3) (own_at u0_0 u0_1 u0_2 u0_3) t1 t0 r 3 (-1 : Int32) (0 : Int64) (1 : Int32)).1)])
    rw [hs0]
    dsimp only at Fr0_0 Fr0_1 Fr0_2 hi0
    refine own_by (fun _ k => XS.istore X1217.here hx rfl (hb hby at_73) rfl (l' := #[.val (.int p1), .val (.long r), .second, .val (.long t0), .second, .val (.long t1), .second, .val (.long t2), .second, .val (.long t3), .second, .val (.int (3 : Int32)), .val (.ref ub0), .val (.ref ub1), .val (.ref ub2), .val (.ref b1177), .val (.ref b1184), .val (.ref b1192), .val (.int x0), .unset, .unset, .unset, .unset, .unset]) rfl k) ?_
    refine own_by (fun _ k => XS.aload X1217.here hx rfl (hb hby at_75) rfl rfl k) ?_
    refine own_by (fun _ k => XS.aload X1217.here hx rfl (hb hby at_77) rfl rfl k) ?_
    refine own_by (fun _ k => XS.aload X1217.here hx rfl (hb hby at_79) rfl rfl k) ?_
    refine own_by (fun _ k => XS.iload X1217.here hx rfl (hb hby at_81) rfl k) ?_
    refine own_by (fun _ k => XS.lload X1217.here hx rfl (hb hby at_83) rfl k) ?_
    refine own_by (fun _ k => XS.lloadN X1217.here hx rfl (hb hby at_85) rfl k) ?_
    refine own_by (fun _ k => XS.lloadN X1217.here hx rfl (hb hby at_86) rfl k) ?_
    show own_Go p e below _ T1217 (mkF m 87 #[.val (.int p1), .val (.long r), .second, .val (.long t0), .second, .val (.long t1), .second, .val (.long t2), .second, .val (.long t3), .second, .val (.int (3 : Int32)), .val (.ref ub0), .val (.ref ub1), .val (.ref ub2), .val (.ref b1177), .val (.ref b1184), .val (.ref b1192), .val (.int x0), .unset, .unset, .unset, .unset, .unset] [(.long r), (.long t0), (.long t1), (.int (3 : Int32)), (.ref ub0), (.ref b1192), (.ref b1184)])
    have f1218 := (f1208.keep Kr0 (ninS ne_ub0_b1177 nin0))
    have f1219 := (f1216.keep Kr0 (ninS (Ne.symm ne_b1177_b1184) nin0))
    have f1220 := (V1192.keep Kr0 (ninS (Ne.symm ne_b1177_b1192) nin0))
    have f1221 := (f1214.keep Kr0 (ninS ne_ub1_b1177 nin0))
    have f1222 := (f1215.keep Kr0 (ninS ne_ub2_b1177 nin0))
    have f1223 := (f1209.keep Kr0 (ninS (Ne.symm ne_b1177_ta) nin0))
    have f1224 := (f1210.keep Kr0 (ninS (Ne.symm ne_b1177_t_0) nin0))
    have f1225 := (f1211.keep Kr0 (ninS (Ne.symm ne_b1177_t_1) nin0))
    have f1226 := (f1212.keep Kr0 (ninS (Ne.symm ne_b1177_t_2) nin0))
    have f1227 := (f1213.keep Kr0 (ninS (Ne.symm ne_b1177_t_3) nin0))
    obtain ⟨_, T1228, L1228, X1228, ⟨rfl, N1228q, Km0, Va0, Vs0⟩, st1228⟩ := own_callS X1217 hx hZ hown (y := (⟨"com/example/eskew/eskew/server/split/CounterValuesRestingPinLaw", "model", "([I[J[ZIJJJ)I"⟩ : MethodName)) (hw _ (List.mem_of_getElem? (i := 51) rfl)) (hw _ (List.mem_of_getElem? (i := 52) rfl)) (hw _ (List.mem_of_getElem? (i := 2) rfl)) (hw _ (List.mem_of_getElem? (i := 53) rfl)) (by decide) (argsL := [(.ref b1184), (.ref b1192), (.ref ub0), (.int (3 : Int32)), (.long t1), (.long t0), (.long r)]) (rest := []) rfl (rm7_3 l Z a0 hw [] b1184 b1192 ub0 k1184 k1192 kb0 u0_0 u0_1 u0_2 u0_3 (-1 : Int32) (1 : Int32) (0 : Int64) t1 t0 r T1217.heap n0 Z1217 og_b1184 og_b1192 ne_b1184_b1192 (Ne.symm ne_ub0_b1184) (Ne.symm ne_ub0_b1192) hin0 f1218 f1219 f1220) (g := (mkF m 87 #[.val (.int p1), .val (.long r), .second, .val (.long t0), .second, .val (.long t1), .second, .val (.long t2), .second, .val (.long t3), .second, .val (.int (3 : Int32)), .val (.ref ub0), .val (.ref ub1), .val (.ref ub2), .val (.ref b1177), .val (.ref b1184), .val (.ref b1192), .val (.int x0), .unset, .unset, .unset, .unset, .unset] [(.long r), (.long t0), (.long t1), (.int (3 : Int32)), (.ref ub0), (.ref b1192), (.ref b1184)])) rfl (by rw [hml]; rfl) (lenOf pd_8 rfl) rfl (W := 0) (by show 2 * 0 + _ ≤ _; exact Nat.le_of_eq rfl) (hb hby at_87) (by decide) (by decide) (by decide) (by decide)
    have N1228 := Fr.app N1217 N1228q
    refine own_by st1228 ?_
    have Z1228 : n0 ≤ T1228.heap.size := Nat.le_trans Z1217 Km0.1
    rw [← hm0] at Va0 Vs0
    show own_Go p e below _ T1228 (mkF m 90 #[.val (.int p1), .val (.long r), .second, .val (.long t0), .second, .val (.long t1), .second, .val (.long t2), .second, .val (.long t3), .second, .val (.int (3 : Int32)), .val (.ref ub0), .val (.ref ub1), .val (.ref ub2), .val (.ref b1177), .val (.ref b1184), .val (.ref b1192), .val (.int x0), .unset, .unset, .unset, .unset, .unset] [(.int (own_model (3 : Int32) (own_count (3 : Int32) u0_1 u0_2 u0_3) (own_at u0_0 u0_1 u0_2 u0_3) t1 t0 r (own_wake t1 r ((-1 : Int32), (0 : Int64), (1 : Int32)))).1)])
    rw [← hm0]
    dsimp only at Va0 Vs0
    refine own_by (fun _ k => XS.istore X1228.here hx rfl (hb hby at_90) rfl (l' := #[.val (.int p1), .val (.long r), .second, .val (.long t0), .second, .val (.long t1), .second, .val (.long t2), .second, .val (.long t3), .second, .val (.int (3 : Int32)), .val (.ref ub0), .val (.ref ub1), .val (.ref ub2), .val (.ref b1177), .val (.ref b1184), .val (.ref b1192), .val (.int x0), .val (.int x0), .unset, .unset, .unset, .unset]) rfl k) ?_
    refine own_by (fun _ k => XS.aload X1228.here hx rfl (hb hby at_92) rfl rfl k) ?_
    refine own_by (fun _ k => XS.aload X1228.here hx rfl (hb hby at_94) rfl rfl k) ?_
    refine own_by (fun _ k => XS.lload X1228.here hx rfl (hb hby at_96) rfl k) ?_
    have f1229 := (Er0.keep Km0)
    have f1230 := (Fr0_0.keep Km0 (ninS ne_b1177_b1184 (ninS ne_b1177_b1192 nin0)))
    have f1231 := (Fr0_1.keep Km0 (ninS ne_b1177_b1184 (ninS ne_b1177_b1192 nin0)))
    have f1232 := (Fr0_2.keep Km0 (ninS ne_b1177_b1184 (ninS ne_b1177_b1192 nin0)))
    have f1233 := (Fr0_3.keep Km0 (ninS ne_b1177_b1184 (ninS ne_b1177_b1192 nin0)))
    have f1234 := (Fr0_4.keep Km0 (ninS ne_b1177_b1184 (ninS ne_b1177_b1192 nin0)))
    have f1235 := (f1221.keep Km0 (ninS ne_ub1_b1184 (ninS ne_ub1_b1192 nin0)))
    have f1236 := (f1223.keep Km0 (ninS ne_ta_b1184 (ninS ne_ta_b1192 nin0)))
    have f1237 := (f1224.keep Km0 (ninS ne_t_0_b1184 (ninS ne_t_0_b1192 nin0)))
    have f1238 := (f1225.keep Km0 (ninS ne_t_1_b1184 (ninS ne_t_1_b1192 nin0)))
    have f1239 := (f1226.keep Km0 (ninS ne_t_2_b1184 (ninS ne_t_2_b1192 nin0)))
    have f1240 := (f1227.keep Km0 (ninS ne_t_3_b1184 (ninS ne_t_3_b1192 nin0)))
    have f1241 := (f1218.keep Km0 (ninS ne_ub0_b1184 (ninS ne_ub0_b1192 nin0)))
    have f1242 := (f1222.keep Km0 (ninS ne_ub2_b1184 (ninS ne_ub2_b1192 nin0)))
    obtain ⟨_, T1243, L1243, X1243, ⟨rfl, N1243q, Kr1, Er1, Fr1_0, Fr1_1, Fr1_2, Fr1_3, Fr1_4⟩, st1243⟩ := own_callV X1228 hx hZ hown (y := (⟨"com/example/eskew/eskew/server/split/CounterValues", "resting", "([ZJ)I"⟩ : MethodName)) (C := "com/example/eskew/eskew/server/split/CounterValues") (hw _ (List.mem_of_getElem? (i := 46) rfl)) (hw _ (List.mem_of_getElem? (i := 47) rfl)) (hw _ (List.mem_of_getElem? (i := 49) rfl)) (hw _ (List.mem_of_getElem? (i := 48) rfl)) (hw _ (List.mem_of_getElem? (i := 7) rfl)) (hw _ (List.mem_of_getElem? (i := 50) rfl)) (by decide) (a := b1177) f1229 (argsL := [(.ref ub1), (.long t2)]) (rest := []) rfl (rm6_3 l Z a0 hw [] b1177 ub1 ta t_0 t_1 t_2 t_3 kb1 kt u1_0 u1_1 u1_2 u1_3 x0 z0 y0 t2 t0 r T1228.heap n0 Z1228 og_b1177 hi0 (Ne.symm ne_ub1_b1177) ne_b1177_ta ne_b1177_t_0 ne_b1177_t_1 ne_b1177_t_2 ne_b1177_t_3 f1229 f1230 f1231 f1232 f1233 f1234 f1235 f1236 f1237 f1238 f1239 f1240) (g := (mkF m 98 #[.val (.int p1), .val (.long r), .second, .val (.long t0), .second, .val (.long t1), .second, .val (.long t2), .second, .val (.long t3), .second, .val (.int (3 : Int32)), .val (.ref ub0), .val (.ref ub1), .val (.ref ub2), .val (.ref b1177), .val (.ref b1184), .val (.ref b1192), .val (.int x0), .val (.int x0), .unset, .unset, .unset, .unset] [(.long t2), (.ref ub1), (.ref b1177)])) rfl (by rw [hml]; rfl) (lenOf pd_7 rfl) rfl (W := 0) (by show 2 * 0 + _ ≤ _; exact Nat.le_of_eq rfl) (hb hby at_98) (by decide) (by decide) (by decide) (by decide)
    have N1243 := Fr.app N1228 N1243q
    refine own_by st1243 ?_
    have Z1243 : n0 ≤ T1243.heap.size := Nat.le_trans Z1228 Kr1.1
    have hw1 : own_in (3 : Int32) (own_wake t2 r (x0, y0, z0)).2.2 := by unfold own_wake; split <;> first | exact hi0 | (split <;> exact hi0)
    have hq1 := own_same_3 u1_0 u1_1 u1_2 u1_3 hb1_1 hb1_2 hb1_3 t2 t0 r (own_wake t2 r (x0, y0, z0)) hw1
    have hs1 : (own_rest (3 : Int32) (own_count (3 : Int32) u1_1 u1_2 u1_3) (own_at u1_0 u1_1 u1_2 u1_3) t2 t0 r 3 x0 y0 z0) = (own_model (3 : Int32) (own_count (3 : Int32) u1_1 u1_2 u1_3) (own_at u1_0 u1_1 u1_2 u1_3) t2 t0 r (own_wake t2 r (x0, y0, z0))) := hq1.1
    have hi1 := hq1.2
    obtain ⟨⟨x1, y1, z1⟩, hm1⟩ : ∃ zq, zq = (own_model (3 : Int32) (own_count (3 : Int32) u1_1 u1_2 u1_3) (own_at u1_0 u1_1 u1_2 u1_3) t2 t0 r (own_wake t2 r (x0, y0, z0))) := ⟨_, rfl⟩
    rw [← hm1] at hs1 hi1
    rw [hs1] at Fr1_0 Fr1_1 Fr1_2
    show own_Go p e below _ T1243 (mkF m 101 #[.val (.int p1), .val (.long r), .second, .val (.long t0), .second, .val (.long t1), .second, .val (.long t2), .second, .val (.long t3), .second, .val (.int (3 : Int32)), .val (.ref ub0), .val (.ref ub1), .val (.ref ub2), .val (.ref b1177), .val (.ref b1184), .val (.ref b1192), .val (.int x0), .val (.int x0), .unset, .unset, .unset, .unset] [(.int (own_rest (3 : Int32) (own_count (3 : Int32) u1_1 u1_2 u1_3) (own_at u1_0 u1_1 u1_2 u1_3) t2 t0 r 3 x0 y0 z0).1)])
    rw [hs1]
    dsimp only at Fr1_0 Fr1_1 Fr1_2 hi1
    refine own_by (fun _ k => XS.istore X1243.here hx rfl (hb hby at_101) rfl (l' := #[.val (.int p1), .val (.long r), .second, .val (.long t0), .second, .val (.long t1), .second, .val (.long t2), .second, .val (.long t3), .second, .val (.int (3 : Int32)), .val (.ref ub0), .val (.ref ub1), .val (.ref ub2), .val (.ref b1177), .val (.ref b1184), .val (.ref b1192), .val (.int x0), .val (.int x0), .val (.int x1), .unset, .unset, .unset]) rfl k) ?_
    refine own_by (fun _ k => XS.aload X1243.here hx rfl (hb hby at_103) rfl rfl k) ?_
    refine own_by (fun _ k => XS.aload X1243.here hx rfl (hb hby at_105) rfl rfl k) ?_
    refine own_by (fun _ k => XS.aload X1243.here hx rfl (hb hby at_107) rfl rfl k) ?_
    refine own_by (fun _ k => XS.iload X1243.here hx rfl (hb hby at_109) rfl k) ?_
    refine own_by (fun _ k => XS.lload X1243.here hx rfl (hb hby at_111) rfl k) ?_
    refine own_by (fun _ k => XS.lloadN X1243.here hx rfl (hb hby at_113) rfl k) ?_
    refine own_by (fun _ k => XS.lloadN X1243.here hx rfl (hb hby at_114) rfl k) ?_
    show own_Go p e below _ T1243 (mkF m 115 #[.val (.int p1), .val (.long r), .second, .val (.long t0), .second, .val (.long t1), .second, .val (.long t2), .second, .val (.long t3), .second, .val (.int (3 : Int32)), .val (.ref ub0), .val (.ref ub1), .val (.ref ub2), .val (.ref b1177), .val (.ref b1184), .val (.ref b1192), .val (.int x0), .val (.int x0), .val (.int x1), .unset, .unset, .unset] [(.long r), (.long t0), (.long t2), (.int (3 : Int32)), (.ref ub1), (.ref b1192), (.ref b1184)])
    have f1244 := (f1235.keep Kr1 (ninS ne_ub1_b1177 nin0))
    have f1245 := (Va0.keep Kr1 (ninS (Ne.symm ne_b1177_b1184) nin0))
    have f1246 := (Vs0.keep Kr1 (ninS (Ne.symm ne_b1177_b1192) nin0))
    have f1247 := (f1241.keep Kr1 (ninS ne_ub0_b1177 nin0))
    have f1248 := (f1242.keep Kr1 (ninS ne_ub2_b1177 nin0))
    have f1249 := (f1236.keep Kr1 (ninS (Ne.symm ne_b1177_ta) nin0))
    have f1250 := (f1237.keep Kr1 (ninS (Ne.symm ne_b1177_t_0) nin0))
    have f1251 := (f1238.keep Kr1 (ninS (Ne.symm ne_b1177_t_1) nin0))
    have f1252 := (f1239.keep Kr1 (ninS (Ne.symm ne_b1177_t_2) nin0))
    have f1253 := (f1240.keep Kr1 (ninS (Ne.symm ne_b1177_t_3) nin0))
    obtain ⟨_, T1254, L1254, X1254, ⟨rfl, N1254q, Km1, Va1, Vs1⟩, st1254⟩ := own_callS X1243 hx hZ hown (y := (⟨"com/example/eskew/eskew/server/split/CounterValuesRestingPinLaw", "model", "([I[J[ZIJJJ)I"⟩ : MethodName)) (hw _ (List.mem_of_getElem? (i := 51) rfl)) (hw _ (List.mem_of_getElem? (i := 52) rfl)) (hw _ (List.mem_of_getElem? (i := 2) rfl)) (hw _ (List.mem_of_getElem? (i := 53) rfl)) (by decide) (argsL := [(.ref b1184), (.ref b1192), (.ref ub1), (.int (3 : Int32)), (.long t2), (.long t0), (.long r)]) (rest := []) rfl (rm7_3 l Z a0 hw [] b1184 b1192 ub1 k1184 k1192 kb1 u1_0 u1_1 u1_2 u1_3 x0 z0 y0 t2 t0 r T1243.heap n0 Z1243 og_b1184 og_b1192 ne_b1184_b1192 (Ne.symm ne_ub1_b1184) (Ne.symm ne_ub1_b1192) hi0 f1244 f1245 f1246) (g := (mkF m 115 #[.val (.int p1), .val (.long r), .second, .val (.long t0), .second, .val (.long t1), .second, .val (.long t2), .second, .val (.long t3), .second, .val (.int (3 : Int32)), .val (.ref ub0), .val (.ref ub1), .val (.ref ub2), .val (.ref b1177), .val (.ref b1184), .val (.ref b1192), .val (.int x0), .val (.int x0), .val (.int x1), .unset, .unset, .unset] [(.long r), (.long t0), (.long t2), (.int (3 : Int32)), (.ref ub1), (.ref b1192), (.ref b1184)])) rfl (by rw [hml]; rfl) (lenOf pd_8 rfl) rfl (W := 0) (by show 2 * 0 + _ ≤ _; exact Nat.le_of_eq rfl) (hb hby at_115) (by decide) (by decide) (by decide) (by decide)
    have N1254 := Fr.app N1243 N1254q
    refine own_by st1254 ?_
    have Z1254 : n0 ≤ T1254.heap.size := Nat.le_trans Z1243 Km1.1
    rw [← hm1] at Va1 Vs1
    show own_Go p e below _ T1254 (mkF m 118 #[.val (.int p1), .val (.long r), .second, .val (.long t0), .second, .val (.long t1), .second, .val (.long t2), .second, .val (.long t3), .second, .val (.int (3 : Int32)), .val (.ref ub0), .val (.ref ub1), .val (.ref ub2), .val (.ref b1177), .val (.ref b1184), .val (.ref b1192), .val (.int x0), .val (.int x0), .val (.int x1), .unset, .unset, .unset] [(.int (own_model (3 : Int32) (own_count (3 : Int32) u1_1 u1_2 u1_3) (own_at u1_0 u1_1 u1_2 u1_3) t2 t0 r (own_wake t2 r (x0, y0, z0))).1)])
    rw [← hm1]
    dsimp only at Va1 Vs1
    refine own_by (fun _ k => XS.istore X1254.here hx rfl (hb hby at_118) rfl (l' := #[.val (.int p1), .val (.long r), .second, .val (.long t0), .second, .val (.long t1), .second, .val (.long t2), .second, .val (.long t3), .second, .val (.int (3 : Int32)), .val (.ref ub0), .val (.ref ub1), .val (.ref ub2), .val (.ref b1177), .val (.ref b1184), .val (.ref b1192), .val (.int x0), .val (.int x0), .val (.int x1), .val (.int x1), .unset, .unset]) rfl k) ?_
    refine own_by (fun _ k => XS.aload X1254.here hx rfl (hb hby at_120) rfl rfl k) ?_
    refine own_by (fun _ k => XS.aload X1254.here hx rfl (hb hby at_122) rfl rfl k) ?_
    refine own_by (fun _ k => XS.lload X1254.here hx rfl (hb hby at_124) rfl k) ?_
    have f1255 := (Er1.keep Km1)
    have f1256 := (Fr1_0.keep Km1 (ninS ne_b1177_b1184 (ninS ne_b1177_b1192 nin0)))
    have f1257 := (Fr1_1.keep Km1 (ninS ne_b1177_b1184 (ninS ne_b1177_b1192 nin0)))
    have f1258 := (Fr1_2.keep Km1 (ninS ne_b1177_b1184 (ninS ne_b1177_b1192 nin0)))
    have f1259 := (Fr1_3.keep Km1 (ninS ne_b1177_b1184 (ninS ne_b1177_b1192 nin0)))
    have f1260 := (Fr1_4.keep Km1 (ninS ne_b1177_b1184 (ninS ne_b1177_b1192 nin0)))
    have f1261 := (f1248.keep Km1 (ninS ne_ub2_b1184 (ninS ne_ub2_b1192 nin0)))
    have f1262 := (f1249.keep Km1 (ninS ne_ta_b1184 (ninS ne_ta_b1192 nin0)))
    have f1263 := (f1250.keep Km1 (ninS ne_t_0_b1184 (ninS ne_t_0_b1192 nin0)))
    have f1264 := (f1251.keep Km1 (ninS ne_t_1_b1184 (ninS ne_t_1_b1192 nin0)))
    have f1265 := (f1252.keep Km1 (ninS ne_t_2_b1184 (ninS ne_t_2_b1192 nin0)))
    have f1266 := (f1253.keep Km1 (ninS ne_t_3_b1184 (ninS ne_t_3_b1192 nin0)))
    have f1267 := (f1247.keep Km1 (ninS ne_ub0_b1184 (ninS ne_ub0_b1192 nin0)))
    have f1268 := (f1244.keep Km1 (ninS ne_ub1_b1184 (ninS ne_ub1_b1192 nin0)))
    obtain ⟨_, T1269, L1269, X1269, ⟨rfl, N1269q, Kr2, Er2, Fr2_0, Fr2_1, Fr2_2, Fr2_3, Fr2_4⟩, st1269⟩ := own_callV X1254 hx hZ hown (y := (⟨"com/example/eskew/eskew/server/split/CounterValues", "resting", "([ZJ)I"⟩ : MethodName)) (C := "com/example/eskew/eskew/server/split/CounterValues") (hw _ (List.mem_of_getElem? (i := 46) rfl)) (hw _ (List.mem_of_getElem? (i := 47) rfl)) (hw _ (List.mem_of_getElem? (i := 49) rfl)) (hw _ (List.mem_of_getElem? (i := 48) rfl)) (hw _ (List.mem_of_getElem? (i := 7) rfl)) (hw _ (List.mem_of_getElem? (i := 50) rfl)) (by decide) (a := b1177) f1255 (argsL := [(.ref ub2), (.long t3)]) (rest := []) rfl (rm6_3 l Z a0 hw [] b1177 ub2 ta t_0 t_1 t_2 t_3 kb2 kt u2_0 u2_1 u2_2 u2_3 x1 z1 y1 t3 t0 r T1254.heap n0 Z1254 og_b1177 hi1 (Ne.symm ne_ub2_b1177) ne_b1177_ta ne_b1177_t_0 ne_b1177_t_1 ne_b1177_t_2 ne_b1177_t_3 f1255 f1256 f1257 f1258 f1259 f1260 f1261 f1262 f1263 f1264 f1265 f1266) (g := (mkF m 126 #[.val (.int p1), .val (.long r), .second, .val (.long t0), .second, .val (.long t1), .second, .val (.long t2), .second, .val (.long t3), .second, .val (.int (3 : Int32)), .val (.ref ub0), .val (.ref ub1), .val (.ref ub2), .val (.ref b1177), .val (.ref b1184), .val (.ref b1192), .val (.int x0), .val (.int x0), .val (.int x1), .val (.int x1), .unset, .unset] [(.long t3), (.ref ub2), (.ref b1177)])) rfl (by rw [hml]; rfl) (lenOf pd_7 rfl) rfl (W := 0) (by show 2 * 0 + _ ≤ _; exact Nat.le_of_eq rfl) (hb hby at_126) (by decide) (by decide) (by decide) (by decide)
    have N1269 := Fr.app N1254 N1269q
    refine own_by st1269 ?_
    have Z1269 : n0 ≤ T1269.heap.size := Nat.le_trans Z1254 Kr2.1
    have hw2 : own_in (3 : Int32) (own_wake t3 r (x1, y1, z1)).2.2 := by unfold own_wake; split <;> first | exact hi1 | (split <;> exact hi1)
    have hq2 := own_same_3 u2_0 u2_1 u2_2 u2_3 hb2_1 hb2_2 hb2_3 t3 t0 r (own_wake t3 r (x1, y1, z1)) hw2
    have hs2 : (own_rest (3 : Int32) (own_count (3 : Int32) u2_1 u2_2 u2_3) (own_at u2_0 u2_1 u2_2 u2_3) t3 t0 r 3 x1 y1 z1) = (own_model (3 : Int32) (own_count (3 : Int32) u2_1 u2_2 u2_3) (own_at u2_0 u2_1 u2_2 u2_3) t3 t0 r (own_wake t3 r (x1, y1, z1))) := hq2.1
    have hi2 := hq2.2
    obtain ⟨⟨x2, y2, z2⟩, hm2⟩ : ∃ zq, zq = (own_model (3 : Int32) (own_count (3 : Int32) u2_1 u2_2 u2_3) (own_at u2_0 u2_1 u2_2 u2_3) t3 t0 r (own_wake t3 r (x1, y1, z1))) := ⟨_, rfl⟩
    rw [← hm2] at hs2 hi2
    rw [hs2] at Fr2_0 Fr2_1 Fr2_2
    show own_Go p e below _ T1269 (mkF m 129 #[.val (.int p1), .val (.long r), .second, .val (.long t0), .second, .val (.long t1), .second, .val (.long t2), .second, .val (.long t3), .second, .val (.int (3 : Int32)), .val (.ref ub0), .val (.ref ub1), .val (.ref ub2), .val (.ref b1177), .val (.ref b1184), .val (.ref b1192), .val (.int x0), .val (.int x0), .val (.int x1), .val (.int x1), .unset, .unset] [(.int (own_rest (3 : Int32) (own_count (3 : Int32) u2_1 u2_2 u2_3) (own_at u2_0 u2_1 u2_2 u2_3) t3 t0 r 3 x1 y1 z1).1)])
    rw [hs2]
    dsimp only at Fr2_0 Fr2_1 Fr2_2 hi2
    refine own_by (fun _ k => XS.istore X1269.here hx rfl (hb hby at_129) rfl (l' := #[.val (.int p1), .val (.long r), .second, .val (.long t0), .second, .val (.long t1), .second, .val (.long t2), .second, .val (.long t3), .second, .val (.int (3 : Int32)), .val (.ref ub0), .val (.ref ub1), .val (.ref ub2), .val (.ref b1177), .val (.ref b1184), .val (.ref b1192), .val (.int x0), .val (.int x0), .val (.int x1), .val (.int x1), .val (.int x2), .unset]) rfl k) ?_
    refine own_by (fun _ k => XS.aload X1269.here hx rfl (hb hby at_131) rfl rfl k) ?_
    refine own_by (fun _ k => XS.aload X1269.here hx rfl (hb hby at_133) rfl rfl k) ?_
    refine own_by (fun _ k => XS.aload X1269.here hx rfl (hb hby at_135) rfl rfl k) ?_
    refine own_by (fun _ k => XS.iload X1269.here hx rfl (hb hby at_137) rfl k) ?_
    refine own_by (fun _ k => XS.lload X1269.here hx rfl (hb hby at_139) rfl k) ?_
    refine own_by (fun _ k => XS.lloadN X1269.here hx rfl (hb hby at_141) rfl k) ?_
    refine own_by (fun _ k => XS.lloadN X1269.here hx rfl (hb hby at_142) rfl k) ?_
    show own_Go p e below _ T1269 (mkF m 143 #[.val (.int p1), .val (.long r), .second, .val (.long t0), .second, .val (.long t1), .second, .val (.long t2), .second, .val (.long t3), .second, .val (.int (3 : Int32)), .val (.ref ub0), .val (.ref ub1), .val (.ref ub2), .val (.ref b1177), .val (.ref b1184), .val (.ref b1192), .val (.int x0), .val (.int x0), .val (.int x1), .val (.int x1), .val (.int x2), .unset] [(.long r), (.long t0), (.long t3), (.int (3 : Int32)), (.ref ub2), (.ref b1192), (.ref b1184)])
    have f1270 := (f1261.keep Kr2 (ninS ne_ub2_b1177 nin0))
    have f1271 := (Va1.keep Kr2 (ninS (Ne.symm ne_b1177_b1184) nin0))
    have f1272 := (Vs1.keep Kr2 (ninS (Ne.symm ne_b1177_b1192) nin0))
    have f1273 := (f1267.keep Kr2 (ninS ne_ub0_b1177 nin0))
    have f1274 := (f1268.keep Kr2 (ninS ne_ub1_b1177 nin0))
    have f1275 := (f1262.keep Kr2 (ninS (Ne.symm ne_b1177_ta) nin0))
    have f1276 := (f1263.keep Kr2 (ninS (Ne.symm ne_b1177_t_0) nin0))
    have f1277 := (f1264.keep Kr2 (ninS (Ne.symm ne_b1177_t_1) nin0))
    have f1278 := (f1265.keep Kr2 (ninS (Ne.symm ne_b1177_t_2) nin0))
    have f1279 := (f1266.keep Kr2 (ninS (Ne.symm ne_b1177_t_3) nin0))
    obtain ⟨_, T1280, L1280, X1280, ⟨rfl, N1280q, Km2, Va2, Vs2⟩, st1280⟩ := own_callS X1269 hx hZ hown (y := (⟨"com/example/eskew/eskew/server/split/CounterValuesRestingPinLaw", "model", "([I[J[ZIJJJ)I"⟩ : MethodName)) (hw _ (List.mem_of_getElem? (i := 51) rfl)) (hw _ (List.mem_of_getElem? (i := 52) rfl)) (hw _ (List.mem_of_getElem? (i := 2) rfl)) (hw _ (List.mem_of_getElem? (i := 53) rfl)) (by decide) (argsL := [(.ref b1184), (.ref b1192), (.ref ub2), (.int (3 : Int32)), (.long t3), (.long t0), (.long r)]) (rest := []) rfl (rm7_3 l Z a0 hw [] b1184 b1192 ub2 k1184 k1192 kb2 u2_0 u2_1 u2_2 u2_3 x1 z1 y1 t3 t0 r T1269.heap n0 Z1269 og_b1184 og_b1192 ne_b1184_b1192 (Ne.symm ne_ub2_b1184) (Ne.symm ne_ub2_b1192) hi1 f1270 f1271 f1272) (g := (mkF m 143 #[.val (.int p1), .val (.long r), .second, .val (.long t0), .second, .val (.long t1), .second, .val (.long t2), .second, .val (.long t3), .second, .val (.int (3 : Int32)), .val (.ref ub0), .val (.ref ub1), .val (.ref ub2), .val (.ref b1177), .val (.ref b1184), .val (.ref b1192), .val (.int x0), .val (.int x0), .val (.int x1), .val (.int x1), .val (.int x2), .unset] [(.long r), (.long t0), (.long t3), (.int (3 : Int32)), (.ref ub2), (.ref b1192), (.ref b1184)])) rfl (by rw [hml]; rfl) (lenOf pd_8 rfl) rfl (W := 0) (by show 2 * 0 + _ ≤ _; exact Nat.le_of_eq rfl) (hb hby at_143) (by decide) (by decide) (by decide) (by decide)
    have N1280 := Fr.app N1269 N1280q
    refine own_by st1280 ?_
    have Z1280 : n0 ≤ T1280.heap.size := Nat.le_trans Z1269 Km2.1
    rw [← hm2] at Va2 Vs2
    show own_Go p e below _ T1280 (mkF m 146 #[.val (.int p1), .val (.long r), .second, .val (.long t0), .second, .val (.long t1), .second, .val (.long t2), .second, .val (.long t3), .second, .val (.int (3 : Int32)), .val (.ref ub0), .val (.ref ub1), .val (.ref ub2), .val (.ref b1177), .val (.ref b1184), .val (.ref b1192), .val (.int x0), .val (.int x0), .val (.int x1), .val (.int x1), .val (.int x2), .unset] [(.int (own_model (3 : Int32) (own_count (3 : Int32) u2_1 u2_2 u2_3) (own_at u2_0 u2_1 u2_2 u2_3) t3 t0 r (own_wake t3 r (x1, y1, z1))).1)])
    rw [← hm2]
    dsimp only at Va2 Vs2
    refine own_by (fun _ k => XS.istore X1280.here hx rfl (hb hby at_146) rfl (l' := #[.val (.int p1), .val (.long r), .second, .val (.long t0), .second, .val (.long t1), .second, .val (.long t2), .second, .val (.long t3), .second, .val (.int (3 : Int32)), .val (.ref ub0), .val (.ref ub1), .val (.ref ub2), .val (.ref b1177), .val (.ref b1184), .val (.ref b1192), .val (.int x0), .val (.int x0), .val (.int x1), .val (.int x1), .val (.int x2), .val (.int x2)]) rfl k) ?_
    refine own_by (fun _ k => XS.iload X1280.here hx rfl (hb hby at_148) rfl k) ?_
    refine own_by (fun _ k => XS.iload X1280.here hx rfl (hb hby at_150) rfl k) ?_
    refine own_by (fun _ k => XS.icmpNo X1280.here hx rfl (hb hby at_152) rfl (teq (rfl : x0 = x0)).2 k) ?_
    refine own_by (fun _ k => XS.iload X1280.here hx rfl (hb hby at_155) rfl k) ?_
    refine own_by (fun _ k => XS.iload X1280.here hx rfl (hb hby at_157) rfl k) ?_
    refine own_by (fun _ k => XS.icmpNo X1280.here hx rfl (hb hby at_159) rfl (teq (rfl : x1 = x1)).2 k) ?_
    refine own_by (fun _ k => XS.iload X1280.here hx rfl (hb hby at_162) rfl k) ?_
    show own_Go p e below _ T1280 (mkF m 164 #[.val (.int p1), .val (.long r), .second, .val (.long t0), .second, .val (.long t1), .second, .val (.long t2), .second, .val (.long t3), .second, .val (.int (3 : Int32)), .val (.ref ub0), .val (.ref ub1), .val (.ref ub2), .val (.ref b1177), .val (.ref b1184), .val (.ref b1192), .val (.int x0), .val (.int x0), .val (.int x1), .val (.int x1), .val (.int x2), .val (.int x2)] [(.int x2)])
    refine own_by (fun _ k => XS.iload X1280.here hx rfl (hb hby at_164) rfl k) ?_
    refine own_by (fun _ k => XS.icmpNo X1280.here hx rfl (hb hby at_166) rfl (teq (rfl : x2 = x2)).2 k) ?_
    refine own_by (fun _ k => XS.iconst X1280.here hx rfl (hb hby at_169) k) ?_
    refine own_by (fun _ k => XS.goto X1280.here hx rfl (pc0 := 170) (pc' := 174) rfl (hb hby at_170) (by decide) (by decide) k) ?_
    exact own_retN X1280 hx hlk hret (by simp) rfl (hb hby at_174) ⟨rfl, N1280⟩ (by decide) (by decide)
set_option maxRecDepth 65536 in
set_option maxHeartbeats 40000000 in
theorem comes_1 {Post : Tables → Env → Array Value → State → Outcome → State → Prop} (hpost : ∀ tb e args s v u, (limb_1_1.after args s (.returned v) u = true ∧ limb_1_2.after args s (.returned v) u = true ∧ True) → FrameEnd s (.returned v) u (Jvm.fieldLocs frame_1_writes args s ++ Jvm.arrayLocs frame_1_arrays args s ++ Jvm.staticLocs frame_1_statics s) 40 256 → Post tb e args s (.returned v) u) :
    ArmFor flags0 classFile x code maxLocals ret World_1 tables_1 room_1 Calls_1 rest_1 Pre_1 Post := by
  intro l hfl _ _ p e ha hc hk s m args below hf hA hF happ hP
  obtain ⟨hcalls, hrest, hpre⟩ := hP
  obtain ⟨-, -, -, hnamed, -, -, -, hat⟩ := (Spec.applies_iff hf).mp happ
  obtain ⟨hg, hn⟩ := and_e (Cond.before_iff.mp (show (Jvm.Cond.and given_1 narrow_1).before args s = true from hpre))
  obtain ⟨g1, g2⟩ := and_e hg
  obtain ⟨g3, g4⟩ := and_e g2
  obtain ⟨g5, g6⟩ := and_e g4
  obtain ⟨g7, g8⟩ := and_e g6
  obtain ⟨g9, g10⟩ := and_e g8
  obtain ⟨g11, g12⟩ := and_e g10
  obtain ⟨w0, w1, w2, w3, w4, w5, rfl⟩ : ∃ w0 w1 w2 w3 w4 w5 : Value, args = #[w0, w1, w2, w3, w4, w5] := by
    have hs : args.size = 6 := by simpa [Cond.value, given_1] using g1
    obtain ⟨L⟩ := args
    match L, hs with
    | [w0, w1, w2, w3, w4, w5], _ => exact ⟨w0, w1, w2, w3, w4, w5, rfl⟩
  have hw := fun d (hd : d ∈ tables_1) => atoms_spec (ws := Jvm.Cond.code x code maxLocals ret :: tables_1) hat d (List.mem_cons_of_mem _ hd)
  have hfit : Fit s := fun {y c} hc i hi => by
    obtain ⟨ha, rfl⟩ := Array.getElem?_eq_some_iff.mp hc
    have q := List.all_eq_true.mp ((Array.all_eq_true_iff_forall_mem.mp hF) _ (Array.getElem_mem ha)) i (List.mem_range.mpr hi)
    simpa [Array.getElem?_eq_getElem hi] using q
  obtain ⟨i0, ei0⟩ := is_v g3
  obtain rfl : w0 = (.int i0) := Option.some.inj ei0
  obtain ⟨i1, ei1⟩ := isL_v g5
  obtain rfl : w1 = (.long i1) := Option.some.inj ei1
  obtain ⟨i2, ei2⟩ := isL_v g7
  obtain rfl : w2 = (.long i2) := Option.some.inj ei2
  obtain ⟨i3, ei3⟩ := isL_v g9
  obtain rfl : w3 = (.long i3) := Option.some.inj ei3
  obtain ⟨i4, ei4⟩ := isL_v g11
  obtain rfl : w4 = (.long i4) := Option.some.inj ei4
  obtain ⟨i5, ei5⟩ := isL_v g12
  obtain rfl : w5 = (.long i5) := Option.some.inj ei5
  obtain ⟨n, o, h1, h2, h3, _, L, rfl, ⟨rfl, N⟩, hq⟩ := rm0 l s _ hw tables_1 i0 i1 i2 i3 i4 i5 s.heap s.heap.size (Nat.le_refl _)  p e ha hc hk s m _ below hf ((Spec.applies_iff_loose hf).mp happ).1 ⟨rfl, State.Warmed39.refl s, rfl⟩ trivial
  refine ⟨n, _, h1, h2, h3, hpost _ _ _ _ _ _ ⟨Cond.after_iff.mpr rfl, Cond.after_iff.mpr (eq_i res_at (Term.int_eval (1)) rfl), trivial⟩ ⟨hq.1, hq.2.1, (hq.2.2.sift fun y hy => Or.inr (N y hy)).mono (by decide) (by decide)⟩⟩
theorem main_1_1 : Claimed_1_1 := comes_1 fun _ _ _ _ _ _ h hF => ⟨h.1, hF⟩
theorem main_1_2 : Claimed_1_2 := comes_1 fun _ _ _ _ _ _ h hF => ⟨h.2.1, hF⟩
end Jvm.Pilot.@@N@@
namespace Jvm.Pilot.@@N@@
open Jvm Jvm.ClassFile Sem Op Lib Jvm.Free Jvm.Stand Jvm.Pilot.@@N@@.Jvm.D
/-! MADE BY PROGRAM (witnessworld.py) out of the Statement's table words and the real class files: 16 classes; the members and pool entries that the words name. The judged class is class 1, her method 1. -/
namespace start1
open Jvm.ClassFile
def u (s : String) : CpInfo := .utf8 (stringToUtf16 s)
/-- a pool by its gaps: so many unusable entries, then the entry; so many at the end -/
def gap : Nat → List CpInfo → List CpInfo
  | 0, r => r
  | n + 1, r => .unusable :: gap n r
def poolList (es : List (Nat × CpInfo)) (last : Nat) : List CpInfo := es.foldr (fun e r => gap e.1 (e.2 :: r)) (gap last [])
def pool (es : List (Nat × CpInfo)) (last : Nat) : Array CpInfo := ⟨poolList es last⟩
def fileOf (pool : Array CpInfo) (this : Nat) (attrs : Array Attribute := #[]) (ms : Array MethodInfo := #[]) (fl : Nat := 33) (sup : Nat := 0) (ifs : Array Nat := #[]) (fds : Array FieldInfo := #[]) : ClassFile where
  minorVersion := 0
  majorVersion := 65
  constantPool := pool
  accessFlags := fl
  thisClass := this
  superClass := sup
  interfaces := ifs
  fields := fds
  methods := ms
  attributes := attrs
def plain (name : String) (sup : Option ClassId) : Class where
  name := name
  kind := .ordinary
  loader := none
  accessFlags := 33
  super := sup
  interfaces := #[]
  cf := none
  fields := #[]
  methods := #[]
  instanceTypes := #[]
  staticTypes := #[]
  resolved := #[]
  callSites := []
  init := .initialized
  statics := none
  mirror := none

def pool0 : Array CpInfo := pool [(5, u "<init>"), (0, u "()V"), (1, .class_ 10), (1, u "java/lang/Object")] 113

def k0c0 : Code := { maxStack := 0, maxLocals := 1, code := object_method_1_code, exceptionTable := #[], attributes := #[] }
def k0m0 : Method := { name := "<init>", desc := "()V", sig := { parameters := [], returnType := none }, accessFlags := 1, code := some k0c0 }
/-- java/lang/Object -/
def k0 : Class := { plain "java/lang/Object" none with
  accessFlags := 33
  interfaces := #[]
  cf := some (fileOf pool0 8 #[] #[{ accessFlags := 1, nameIndex := 5, descriptorIndex := 6, attributes := #[] }] 33 0 #[] #[])
  fields := #[]
  methods := #[k0m0]
  instanceTypes := #[]
  staticTypes := #[]
  resolved := Array.replicate 124 none
  statics := none }

def pool1 : Array CpInfo := pool [(2, .class_ 4), (1, u "java/lang/Object"), (0, u "<init>"), (0, u "()V"), (0, .methodref 8 9), (0, .class_ 10), (0, .nameAndType 11 12), (0, u "com/example/eskew/eskew/server/split/CounterValuesRestingPinLaw"), (0, u "ups"), (0, u "(I)[Z"), (0, .class_ 14), (0, u "com/example/eskew/eskew/server/split/CounterValues"), (0, .methodref 13 16), (0, .nameAndType 5 17), (0, u "(IJJ)V"), (0, .methodref 13 19), (0, .nameAndType 20 21), (0, u "resting"), (0, u "([ZJ)I"), (0, .methodref 8 23), (0, .nameAndType 24 25), (0, u "model"), (0, u "([I[J[ZIJJJ)I"), (0, .methodref 8 27), (0, .nameAndType 28 29), (0, u "wrap"), (0, u "(II)I"), (0, .methodref 8 31), (0, .nameAndType 32 33), (0, u "count"), (0, u "([ZI)I"), (0, .methodref 8 35), (0, .nameAndType 36 37), (0, u "first"), (0, u "([ZII)I"), (2, u "law"), (0, u "(IJJJJJ)Z")] 9

def k1m0 : Method := { name := "<init>", desc := "()V", sig := { parameters := [], returnType := none }, accessFlags := 1, code := none }
def k1c1 : Code := { maxStack := 10, maxLocals := 24, code := code, exceptionTable := #[], attributes := #[] }
def k1m1 : Method := { name := "law", desc := "(IJJJJJ)Z", sig := { parameters := [.int, .long, .long, .long, .long, .long], returnType := some .boolean }, accessFlags := 9, code := some k1c1 }
def k1c2 : Code := { maxStack := 4, maxLocals := 2, code := method_3_code, exceptionTable := #[], attributes := #[] }
def k1m2 : Method := { name := "ups", desc := "(I)[Z", sig := { parameters := [.int], returnType := some (.array .boolean) }, accessFlags := 10, code := some k1c2 }
def k1c3 : Code := { maxStack := 2, maxLocals := 3, code := method_4_code, exceptionTable := #[], attributes := #[] }
def k1m3 : Method := { name := "count", desc := "([ZI)I", sig := { parameters := [(.array .boolean), .int], returnType := some .int }, accessFlags := 10, code := some k1c3 }
def k1c4 : Code := { maxStack := 2, maxLocals := 2, code := method_5_code, exceptionTable := #[], attributes := #[] }
def k1m4 : Method := { name := "wrap", desc := "(II)I", sig := { parameters := [.int, .int], returnType := some .int }, accessFlags := 10, code := some k1c4 }
def k1c5 : Code := { maxStack := 3, maxLocals := 3, code := method_6_code, exceptionTable := #[], attributes := #[] }
def k1m5 : Method := { name := "first", desc := "([ZII)I", sig := { parameters := [(.array .boolean), .int, .int], returnType := some .int }, accessFlags := 10, code := some k1c5 }
def k1c6 : Code := { maxStack := 4, maxLocals := 11, code := method_7_code, exceptionTable := #[], attributes := #[] }
def k1m6 : Method := { name := "model", desc := "([I[J[ZIJJJ)I", sig := { parameters := [(.array .int), (.array .long), (.array .boolean), .int, .long, .long, .long], returnType := some .int }, accessFlags := 10, code := some k1c6 }
/-- com/example/eskew/eskew/server/split/CounterValuesRestingPinLaw -/
def k1 : Class := { plain "com/example/eskew/eskew/server/split/CounterValuesRestingPinLaw" (some 0) with
  accessFlags := 49
  interfaces := #[]
  cf := some (fileOf pool1 8 #[] #[{ accessFlags := 1, nameIndex := 5, descriptorIndex := 6, attributes := #[] }, { accessFlags := 9, nameIndex := 40, descriptorIndex := 41, attributes := #[] }, { accessFlags := 10, nameIndex := 11, descriptorIndex := 12, attributes := #[] }, { accessFlags := 10, nameIndex := 32, descriptorIndex := 33, attributes := #[] }, { accessFlags := 10, nameIndex := 28, descriptorIndex := 29, attributes := #[] }, { accessFlags := 10, nameIndex := 36, descriptorIndex := 37, attributes := #[] }, { accessFlags := 10, nameIndex := 24, descriptorIndex := 25, attributes := #[] }] 49 2 #[] #[])
  fields := #[]
  methods := #[k1m0, k1m1, k1m2, k1m3, k1m4, k1m5, k1m6]
  instanceTypes := #[]
  staticTypes := #[]
  resolved := Array.replicate 51 none
  statics := none }

def pool2 : Array CpInfo := pool [(1, .methodref 2 3), (0, .class_ 4), (0, .nameAndType 5 6), (0, u "java/lang/Object"), (0, u "<init>"), (0, u "()V"), (0, .class_ 8), (0, u "com/example/eskew/eskew/server/split/CounterValues$WideSum"), (0, .methodref 7 3), (0, .fieldref 11 12), (0, .class_ 13), (0, .nameAndType 14 15), (0, u "com/example/eskew/eskew/server/split/CounterValues"), (0, u "rising"), (0, u "Lcom/example/eskew/eskew/server/split/CounterValues$WideSum;"), (0, .fieldref 11 17), (0, .nameAndType 18 15), (0, u "falling"), (0, .fieldref 11 20), (0, .nameAndType 21 22), (0, u "resting"), (0, u "I"), (0, .fieldref 11 24), (0, .nameAndType 25 22), (0, u "nextToRest"), (0, .fieldref 11 27), (0, .nameAndType 28 29), (0, u "rereadNanos"), (0, u "J"), (0, .class_ 31), (0, u "com/example/eskew/eskew/server/split/CounterValues$Tally"), (0, .fieldref 11 33), (0, .nameAndType 34 35), (0, u "tallies"), (0, u "[Lcom/example/eskew/eskew/server/split/CounterValues$Tally;"), (0, .methodref 30 37), (0, .nameAndType 5 38), (0, u "(J)V"), (21, .class_ 61), (0, u "com/example/eskew/eskew/server/split/CounterValues$Placing"), (45, u "(IJJ)V"), (29, .fieldref 11 138), (0, .nameAndType 139 29), (0, u "restingSince"), (0, .fieldref 30 141), (0, .nameAndType 142 29), (0, u "since"), (57, u "NONE"), (2, u "UNSURE"), (20, u "([ZJ)I")] 16

def k2c0 : Code := { maxStack := 6, maxLocals := 7, code := prog_33_method_1_code, exceptionTable := #[], attributes := #[] }
def k2m0 : Method := { name := "<init>", desc := "(IJJ)V", sig := { parameters := [.int, .long, .long], returnType := none }, accessFlags := 0, code := some k2c0 }
def k2c1 : Code := { maxStack := 4, maxLocals := 8, code := prog_33_method_14_code, exceptionTable := #[], attributes := #[] }
def k2m1 : Method := { name := "resting", desc := "([ZJ)I", sig := { parameters := [(.array .boolean), .long], returnType := some .int }, accessFlags := 0, code := some k2c1 }
/-- com/example/eskew/eskew/server/split/CounterValues -/
def k2 : Class := { plain "com/example/eskew/eskew/server/split/CounterValues" (some 0) with
  accessFlags := 48
  interfaces := #[]
  cf := some (fileOf pool2 11 #[.nestMembers #[7, 60, 30]] #[{ accessFlags := 0, nameIndex := 5, descriptorIndex := 107, attributes := #[] }, { accessFlags := 0, nameIndex := 21, descriptorIndex := 224, attributes := #[] }] 48 2 #[] #[{ accessFlags := 24, nameIndex := 200, descriptorIndex := 22, attributes := #[] }, { accessFlags := 26, nameIndex := 203, descriptorIndex := 29, attributes := #[] }, { accessFlags := 18, nameIndex := 28, descriptorIndex := 29, attributes := #[] }, { accessFlags := 18, nameIndex := 34, descriptorIndex := 35, attributes := #[] }, { accessFlags := 18, nameIndex := 14, descriptorIndex := 15, attributes := #[] }, { accessFlags := 18, nameIndex := 18, descriptorIndex := 15, attributes := #[] }, { accessFlags := 2, nameIndex := 21, descriptorIndex := 22, attributes := #[] }, { accessFlags := 2, nameIndex := 139, descriptorIndex := 29, attributes := #[] }, { accessFlags := 2, nameIndex := 25, descriptorIndex := 22, attributes := #[] }])
  fields := #[{ name := "NONE", type := .int, accessFlags := 24, slot := 0, constantValue := 0 }, { name := "UNSURE", type := .long, accessFlags := 26, slot := 1, constantValue := 0 }, { name := "rereadNanos", type := .long, accessFlags := 18, slot := 0, constantValue := 0 }, { name := "tallies", type := (.array (.object "com/example/eskew/eskew/server/split/CounterValues$Tally")), accessFlags := 18, slot := 1, constantValue := 0 }, { name := "rising", type := (.object "com/example/eskew/eskew/server/split/CounterValues$WideSum"), accessFlags := 18, slot := 2, constantValue := 0 }, { name := "falling", type := (.object "com/example/eskew/eskew/server/split/CounterValues$WideSum"), accessFlags := 18, slot := 3, constantValue := 0 }, { name := "resting", type := .int, accessFlags := 2, slot := 4, constantValue := 0 }, { name := "restingSince", type := .long, accessFlags := 2, slot := 5, constantValue := 0 }, { name := "nextToRest", type := .int, accessFlags := 2, slot := 6, constantValue := 0 }]
  methods := #[k2m0, k2m1]
  instanceTypes := #[.long, (.array (.object "com/example/eskew/eskew/server/split/CounterValues$Tally")), (.object "com/example/eskew/eskew/server/split/CounterValues$WideSum"), (.object "com/example/eskew/eskew/server/split/CounterValues$WideSum"), .int, .long, .int]
  staticTypes := #[.int, .long]
  resolved := ((((((Array.replicate 241 none).set! 7 (some (.cls 3))).set! 9 (some (.method ⟨3, 0⟩))).set! 30 (some (.cls 4))).set! 36 (some (.method ⟨4, 0⟩))).set! 140 (some (.field 4 7)))
  statics := none }

def pool3 : Array CpInfo := pool [(1, .methodref 2 3), (0, .class_ 4), (0, .nameAndType 5 6), (0, u "java/lang/Object"), (0, u "<init>"), (0, u "()V"), (1, .class_ 10), (1, u "com/example/eskew/eskew/server/split/CounterValues$WideSum"), (0, u "low"), (0, u "J"), (2, u "high"), (23, .class_ 40), (0, u "com/example/eskew/eskew/server/split/CounterValues")] 2

def k3c0 : Code := { maxStack := 1, maxLocals := 1, code := prog_36_method_1_code, exceptionTable := #[], attributes := #[] }
def k3m0 : Method := { name := "<init>", desc := "()V", sig := { parameters := [], returnType := none }, accessFlags := 2, code := some k3c0 }
/-- com/example/eskew/eskew/server/split/CounterValues$WideSum -/
def k3 : Class := { plain "com/example/eskew/eskew/server/split/CounterValues$WideSum" (some 0) with
  accessFlags := 48
  interfaces := #[]
  cf := some (fileOf pool3 8 #[.nestHost 39] #[{ accessFlags := 2, nameIndex := 5, descriptorIndex := 6, attributes := #[] }] 48 2 #[] #[{ accessFlags := 2, nameIndex := 11, descriptorIndex := 12, attributes := #[] }, { accessFlags := 2, nameIndex := 15, descriptorIndex := 12, attributes := #[] }])
  fields := #[{ name := "low", type := .long, accessFlags := 2, slot := 0, constantValue := 0 }, { name := "high", type := .long, accessFlags := 2, slot := 1, constantValue := 0 }]
  methods := #[k3m0]
  instanceTypes := #[.long, .long]
  staticTypes := #[]
  resolved := Array.replicate 43 none
  statics := none }

def pool4 : Array CpInfo := pool [(1, .methodref 2 3), (0, .class_ 4), (0, .nameAndType 5 6), (0, u "java/lang/Object"), (0, u "<init>"), (0, u "()V"), (0, .fieldref 8 9), (0, .class_ 10), (0, .nameAndType 11 12), (0, u "com/example/eskew/eskew/server/split/CounterValues$Tally"), (0, u "since"), (0, u "J"), (0, u "value"), (0, u "writes"), (0, u "I"), (0, u "writesSent"), (0, u "aloneSent"), (0, u "reads"), (0, u "known"), (0, u "Z"), (0, u "settled"), (0, u "placing"), (0, u "Lcom/example/eskew/eskew/server/split/CounterValues$Placing;"), (0, u "(J)V"), (5, .class_ 31), (0, u "com/example/eskew/eskew/server/split/CounterValues")] 5

def k4c0 : Code := { maxStack := 3, maxLocals := 3, code := prog_35_method_1_code, exceptionTable := #[], attributes := #[] }
def k4m0 : Method := { name := "<init>", desc := "(J)V", sig := { parameters := [.long], returnType := none }, accessFlags := 2, code := some k4c0 }
/-- com/example/eskew/eskew/server/split/CounterValues$Tally -/
def k4 : Class := { plain "com/example/eskew/eskew/server/split/CounterValues$Tally" (some 0) with
  accessFlags := 48
  interfaces := #[]
  cf := some (fileOf pool4 8 #[.nestHost 30] #[{ accessFlags := 2, nameIndex := 5, descriptorIndex := 24, attributes := #[] }] 48 2 #[] #[{ accessFlags := 2, nameIndex := 13, descriptorIndex := 12, attributes := #[] }, { accessFlags := 2, nameIndex := 14, descriptorIndex := 15, attributes := #[] }, { accessFlags := 2, nameIndex := 16, descriptorIndex := 12, attributes := #[] }, { accessFlags := 2, nameIndex := 17, descriptorIndex := 12, attributes := #[] }, { accessFlags := 2, nameIndex := 18, descriptorIndex := 15, attributes := #[] }, { accessFlags := 2, nameIndex := 19, descriptorIndex := 20, attributes := #[] }, { accessFlags := 2, nameIndex := 21, descriptorIndex := 20, attributes := #[] }, { accessFlags := 2, nameIndex := 11, descriptorIndex := 12, attributes := #[] }, { accessFlags := 2, nameIndex := 22, descriptorIndex := 23, attributes := #[] }])
  fields := #[{ name := "value", type := .long, accessFlags := 2, slot := 0, constantValue := 0 }, { name := "writes", type := .int, accessFlags := 2, slot := 1, constantValue := 0 }, { name := "writesSent", type := .long, accessFlags := 2, slot := 2, constantValue := 0 }, { name := "aloneSent", type := .long, accessFlags := 2, slot := 3, constantValue := 0 }, { name := "reads", type := .int, accessFlags := 2, slot := 4, constantValue := 0 }, { name := "known", type := .boolean, accessFlags := 2, slot := 5, constantValue := 0 }, { name := "settled", type := .boolean, accessFlags := 2, slot := 6, constantValue := 0 }, { name := "since", type := .long, accessFlags := 2, slot := 7, constantValue := 0 }, { name := "placing", type := (.object "com/example/eskew/eskew/server/split/CounterValues$Placing"), accessFlags := 2, slot := 8, constantValue := 0 }]
  methods := #[k4m0]
  instanceTypes := #[.long, .int, .long, .long, .int, .boolean, .boolean, .long, (.object "com/example/eskew/eskew/server/split/CounterValues$Placing")]
  staticTypes := #[]
  resolved := Array.replicate 37 none
  statics := none }

def pool5 : Array CpInfo := pool [(1, u "java/lang/Cloneable"), (0, .class_ 1), (0, u "java/lang/Object"), (0, .class_ 3)] 3

/-- java/lang/Cloneable -/
def k5 : Class := { plain "java/lang/Cloneable" (some 0) with
  accessFlags := 1537
  interfaces := #[]
  cf := some (fileOf pool5 2 #[] #[] 1537 4 #[] #[])
  fields := #[]
  methods := #[]
  instanceTypes := #[]
  staticTypes := #[]
  resolved := Array.replicate 8 none
  statics := none }

def pool6 : Array CpInfo := pool [(1, u "java/io/Serializable"), (0, .class_ 1), (0, u "java/lang/Object"), (0, .class_ 3)] 3

/-- java/io/Serializable -/
def k6 : Class := { plain "java/io/Serializable" (some 0) with
  accessFlags := 1537
  interfaces := #[]
  cf := some (fileOf pool6 2 #[] #[] 1537 4 #[] #[])
  fields := #[]
  methods := #[]
  instanceTypes := #[]
  staticTypes := #[]
  resolved := Array.replicate 8 none
  statics := none }

/-- the primitive boolean -/
def k7 : Class := { plain "boolean" none with kind := .primitive 'Z', accessFlags := 0x411 }
/-- [Z -/
def k8 : Class := { plain "[Z" (some 0) with kind := .array 7 .boolean, interfaces := #[5, 6], accessFlags := 1041 }

/-- the primitive byte -/
def k9 : Class := { plain "byte" none with kind := .primitive 'B', accessFlags := 0x411 }
/-- [B -/
def k10 : Class := { plain "[B" (some 0) with kind := .array 9 .byte, interfaces := #[5, 6], accessFlags := 1041 }

/-- the primitive int -/
def k11 : Class := { plain "int" none with kind := .primitive 'I', accessFlags := 0x411 }
/-- [I -/
def k12 : Class := { plain "[I" (some 0) with kind := .array 11 .int, interfaces := #[5, 6], accessFlags := 1041 }

/-- the primitive long -/
def k13 : Class := { plain "long" none with kind := .primitive 'J', accessFlags := 0x411 }
/-- [J -/
def k14 : Class := { plain "[J" (some 0) with kind := .array 13 .long, interfaces := #[5, 6], accessFlags := 1041 }

/-- [Lcom/example/eskew/eskew/server/split/CounterValues$Tally; -/
def k15 : Class := { plain "[Lcom/example/eskew/eskew/server/split/CounterValues$Tally;" (some 0) with kind := .array 4 (.object "com/example/eskew/eskew/server/split/CounterValues$Tally"), interfaces := #[5, 6], accessFlags := 1041 }

def heap : Heap := #[]
def classes : Array Class := #[k0, k1, k2, k3, k4, k5, k6, k7, k8, k9, k10, k11, k12, k13, k14, k15]
def interned : List (Array UInt16 × Addr) := []
def slotsUsed : Nat := 0
def theMethod : MethodId := ⟨1, 1⟩
def args0 : Array Value := #[.int 1, .long 2, .long 3, .long 4, .long 5, .long 6]
def aboutOver (below : List Frame) : State where
  vm := { classes := classes, interned := interned.toArray }
  heap := heap
  slotsUsed := slotsUsed
  threads := #[{ frames := .invoking theMethod args0 :: below }]
def below0 : List Frame := [.native { method := ⟨0, 0⟩, args := #[] }]
def about1 : State := aboutOver below0
def p0 : Program := .bare "" "" ""
def e0 : Env := launch0.env 0 0 0
theorem w_frames : about1.frames = Frame.invoking theMethod args0 :: below0 := rfl
set_option maxRecDepth 65536 in
theorem w_args : argsFit about1.vm theMethod args0 = true := by decide +kernel
set_option maxRecDepth 65536 in
theorem w_heap : heapFits about1 = true := by decide +kernel
set_option maxRecDepth 65536 in
theorem w_runnable : about1.curStatus? = some .runnable := by decide +kernel
set_option maxRecDepth 65536 in
theorem w_alone : about1.alone = true := by decide +kernel
set_option maxRecDepth 65536 in
theorem w_named : about1.methodNamed? x = some theMethod := by decide +kernel
set_option maxRecDepth 65536 in
theorem w_hears : about1.hears theMethod below0 = true := by decide +kernel
set_option maxRecDepth 65536 in
theorem w_ripe : about1.ripe theMethod args0 below0 = true := by decide +kernel
theorem w_running : about1.status = .running := rfl
set_option maxRecDepth 65536 in
theorem w_room : about1.hasRoom e0.platform room_1 = true :=
  launch0.hasRoom_least _ room_1 (by decide +kernel) (by decide +kernel) (by decide +kernel) (by decide +kernel) (by decide +kernel) (by decide +kernel)
theorem allAtoms_all (ts : List Jvm.Cond) (a : Array Jvm.Value) (st : Jvm.State) : (allAtoms ts).before a st = ts.all (fun c => c.before a st) := by
  induction ts with
  | nil => rfl
  | cons c t ih =>
    show (Jvm.Cond.and c (allAtoms t)).before a st = _
    rw [Jvm.Cond.before_and, ih, List.all_cons]
def words1 : List Jvm.Cond := Jvm.Cond.code x code maxLocals ret :: tables_1
/-- a 'code' word, met by the world's own term for the bytes: nothing is compared byte by byte -/
theorem code_word {y : MethodName} {bytes : ByteArray} {mx : Nat} {rt : Option FieldType} {a : Array Value} {s : State} {m : MethodId} {meth : Method} {c : Code} (h1 : s.methodNamed? y = some m) (h2 : s.vm.method? m = some meth) (h3 : meth.code = some c) (h4 : c.code = bytes)
    (h5 : (c.maxLocals == mx && c.exceptionTable.isEmpty && decide (c.maxStack ≤ mostOperands) && decide (meth.sig.returnType = rt) && !meth.locks && decide (parseMethodDescriptor y.desc = some meth.sig)) = true) : (Jvm.Cond.code y bytes mx rt).before a s = true := by
  simp only [Bool.and_eq_true, beq_iff_eq, Bool.not_eq_true', decide_eq_true_eq] at h5
  obtain ⟨⟨⟨⟨⟨g1, g2⟩, g3⟩, g4⟩, g5⟩, g6⟩ := h5
  simp [Cond.before, Cond.holds, Cond.value, h1, h2, h3, h4, g1, g2, g3, g4, g5, g6]
def isCode : Jvm.Cond → Bool
  | .code _ _ _ _ => true
  | _ => false
theorem all_split {L : List Jvm.Cond} {P : Jvm.Cond → Bool} (h1 : L.all (fun c => isCode c || P c) = true) (h2 : ∀ c ∈ L.filter isCode, P c = true) : L.all P = true := by
  refine List.all_eq_true.mpr fun c hc => ?_
  have h := List.all_eq_true.mp h1 c hc
  rcases Bool.eq_false_or_eq_true (isCode c) with hi | hi
  · exact h2 c (List.mem_filter.mpr ⟨hc, hi⟩)
  · simpa [hi] using h
set_option maxRecDepth 65536 in
theorem w_c0 : (Jvm.Cond.code x code maxLocals ret).before args0 about1 = true := code_word (m := ⟨1, 1⟩) (meth := k1m1) (c := k1c1) (by decide +kernel) rfl rfl rfl (by decide +kernel)
set_option maxRecDepth 65536 in
theorem w_c1 : (Jvm.Cond.code ({ cls := "com/example/eskew/eskew/server/split/CounterValuesRestingPinLaw", name := "ups", desc := "(I)[Z" } : Jvm.MethodName) method_3_code (2 : Nat) (Option.some (Jvm.ClassFile.FieldType.array Jvm.ClassFile.FieldType.boolean))).before args0 about1 = true := code_word (m := ⟨1, 2⟩) (meth := k1m2) (c := k1c2) (by decide +kernel) rfl rfl rfl (by decide +kernel)
set_option maxRecDepth 65536 in
theorem w_c2 : (Jvm.Cond.code ({ cls := "com/example/eskew/eskew/server/split/CounterValues", name := "<init>", desc := "(IJJ)V" } : Jvm.MethodName) prog_33_method_1_code (7 : Nat) (Option.none : Option Jvm.ClassFile.FieldType)).before args0 about1 = true := code_word (m := ⟨2, 0⟩) (meth := k2m0) (c := k2c0) (by decide +kernel) rfl rfl rfl (by decide +kernel)
set_option maxRecDepth 65536 in
theorem w_c3 : (Jvm.Cond.code ({ cls := "java/lang/Object", name := "<init>", desc := "()V" } : Jvm.MethodName) object_method_1_code (1 : Nat) (Option.none : Option Jvm.ClassFile.FieldType)).before args0 about1 = true := code_word (m := ⟨0, 0⟩) (meth := k0m0) (c := k0c0) (by decide +kernel) rfl rfl rfl (by decide +kernel)
set_option maxRecDepth 65536 in
theorem w_c4 : (Jvm.Cond.code ({ cls := "com/example/eskew/eskew/server/split/CounterValues$WideSum", name := "<init>", desc := "()V" } : Jvm.MethodName) prog_36_method_1_code (1 : Nat) (Option.none : Option Jvm.ClassFile.FieldType)).before args0 about1 = true := code_word (m := ⟨3, 0⟩) (meth := k3m0) (c := k3c0) (by decide +kernel) rfl rfl rfl (by decide +kernel)
set_option maxRecDepth 65536 in
theorem w_c5 : (Jvm.Cond.code ({ cls := "com/example/eskew/eskew/server/split/CounterValues$Tally", name := "<init>", desc := "(J)V" } : Jvm.MethodName) prog_35_method_1_code (3 : Nat) (Option.none : Option Jvm.ClassFile.FieldType)).before args0 about1 = true := code_word (m := ⟨4, 0⟩) (meth := k4m0) (c := k4c0) (by decide +kernel) rfl rfl rfl (by decide +kernel)
set_option maxRecDepth 65536 in
theorem w_c6 : (Jvm.Cond.code ({ cls := "com/example/eskew/eskew/server/split/CounterValues", name := "resting", desc := "([ZJ)I" } : Jvm.MethodName) prog_33_method_14_code (8 : Nat) (Option.some Jvm.ClassFile.FieldType.int)).before args0 about1 = true := code_word (m := ⟨2, 1⟩) (meth := k2m1) (c := k2c1) (by decide +kernel) rfl rfl rfl (by decide +kernel)
set_option maxRecDepth 65536 in
theorem w_c7 : (Jvm.Cond.code ({ cls := "com/example/eskew/eskew/server/split/CounterValuesRestingPinLaw", name := "model", desc := "([I[J[ZIJJJ)I" } : Jvm.MethodName) method_7_code (11 : Nat) (Option.some Jvm.ClassFile.FieldType.int)).before args0 about1 = true := code_word (m := ⟨1, 6⟩) (meth := k1m6) (c := k1c6) (by decide +kernel) rfl rfl rfl (by decide +kernel)
set_option maxRecDepth 65536 in
theorem w_c8 : (Jvm.Cond.code ({ cls := "com/example/eskew/eskew/server/split/CounterValuesRestingPinLaw", name := "count", desc := "([ZI)I" } : Jvm.MethodName) method_4_code (3 : Nat) (Option.some Jvm.ClassFile.FieldType.int)).before args0 about1 = true := code_word (m := ⟨1, 3⟩) (meth := k1m3) (c := k1c3) (by decide +kernel) rfl rfl rfl (by decide +kernel)
set_option maxRecDepth 65536 in
theorem w_c9 : (Jvm.Cond.code ({ cls := "com/example/eskew/eskew/server/split/CounterValuesRestingPinLaw", name := "first", desc := "([ZII)I" } : Jvm.MethodName) method_6_code (3 : Nat) (Option.some Jvm.ClassFile.FieldType.int)).before args0 about1 = true := code_word (m := ⟨1, 5⟩) (meth := k1m5) (c := k1c5) (by decide +kernel) rfl rfl rfl (by decide +kernel)
set_option maxRecDepth 65536 in
theorem w_c10 : (Jvm.Cond.code ({ cls := "com/example/eskew/eskew/server/split/CounterValuesRestingPinLaw", name := "wrap", desc := "(II)I" } : Jvm.MethodName) method_5_code (2 : Nat) (Option.some Jvm.ClassFile.FieldType.int)).before args0 about1 = true := code_word (m := ⟨1, 4⟩) (meth := k1m4) (c := k1c4) (by decide +kernel) rfl rfl rfl (by decide +kernel)
def codes1 : List Jvm.Cond := [Jvm.Cond.code x code maxLocals ret, Jvm.Cond.code ({ cls := "com/example/eskew/eskew/server/split/CounterValuesRestingPinLaw", name := "ups", desc := "(I)[Z" } : Jvm.MethodName) method_3_code (2 : Nat) (Option.some (Jvm.ClassFile.FieldType.array Jvm.ClassFile.FieldType.boolean)), Jvm.Cond.code ({ cls := "com/example/eskew/eskew/server/split/CounterValues", name := "<init>", desc := "(IJJ)V" } : Jvm.MethodName) prog_33_method_1_code (7 : Nat) (Option.none : Option Jvm.ClassFile.FieldType), Jvm.Cond.code ({ cls := "java/lang/Object", name := "<init>", desc := "()V" } : Jvm.MethodName) object_method_1_code (1 : Nat) (Option.none : Option Jvm.ClassFile.FieldType), Jvm.Cond.code ({ cls := "com/example/eskew/eskew/server/split/CounterValues$WideSum", name := "<init>", desc := "()V" } : Jvm.MethodName) prog_36_method_1_code (1 : Nat) (Option.none : Option Jvm.ClassFile.FieldType), Jvm.Cond.code ({ cls := "com/example/eskew/eskew/server/split/CounterValues$Tally", name := "<init>", desc := "(J)V" } : Jvm.MethodName) prog_35_method_1_code (3 : Nat) (Option.none : Option Jvm.ClassFile.FieldType), Jvm.Cond.code ({ cls := "com/example/eskew/eskew/server/split/CounterValues", name := "resting", desc := "([ZJ)I" } : Jvm.MethodName) prog_33_method_14_code (8 : Nat) (Option.some Jvm.ClassFile.FieldType.int), Jvm.Cond.code ({ cls := "com/example/eskew/eskew/server/split/CounterValuesRestingPinLaw", name := "model", desc := "([I[J[ZIJJJ)I" } : Jvm.MethodName) method_7_code (11 : Nat) (Option.some Jvm.ClassFile.FieldType.int), Jvm.Cond.code ({ cls := "com/example/eskew/eskew/server/split/CounterValuesRestingPinLaw", name := "count", desc := "([ZI)I" } : Jvm.MethodName) method_4_code (3 : Nat) (Option.some Jvm.ClassFile.FieldType.int), Jvm.Cond.code ({ cls := "com/example/eskew/eskew/server/split/CounterValuesRestingPinLaw", name := "first", desc := "([ZII)I" } : Jvm.MethodName) method_6_code (3 : Nat) (Option.some Jvm.ClassFile.FieldType.int), Jvm.Cond.code ({ cls := "com/example/eskew/eskew/server/split/CounterValuesRestingPinLaw", name := "wrap", desc := "(II)I" } : Jvm.MethodName) method_5_code (2 : Nat) (Option.some Jvm.ClassFile.FieldType.int)]
set_option maxRecDepth 65536 in
theorem codes_eq : words1.filter isCode = codes1 := rfl
theorem w_codes : ∀ c ∈ words1.filter isCode, c.before args0 about1 = true := by
  rw [codes_eq]
  intro c hc
  simp only [codes1, List.mem_cons, List.not_mem_nil, or_false] at hc
  rcases hc with rfl | rfl | rfl | rfl | rfl | rfl | rfl | rfl | rfl | rfl | rfl
  · exact w_c0
  · exact w_c1
  · exact w_c2
  · exact w_c3
  · exact w_c4
  · exact w_c5
  · exact w_c6
  · exact w_c7
  · exact w_c8
  · exact w_c9
  · exact w_c10
set_option maxRecDepth 65536 in
theorem w_t1 : (words1.take 24).all (fun c => isCode c || c.before args0 about1) = true := by decide +kernel
set_option maxRecDepth 65536 in
theorem w_t2 : ((words1.drop 24).take 24).all (fun c => isCode c || c.before args0 about1) = true := by decide +kernel
set_option maxRecDepth 65536 in
theorem w_t3 : ((words1.drop 24).drop 24).all (fun c => isCode c || c.before args0 about1) = true := by decide +kernel
theorem w_tables : (allAtoms (Jvm.Cond.code x code maxLocals ret :: tables_1)).before args0 about1 = true := by
  rw [allAtoms_all]
  show words1.all (fun c => c.before args0 about1) = true
  refine all_split ?_ w_codes
  rw [← List.take_append_drop 24 words1, List.all_append, w_t1, ← List.take_append_drop 24 (words1.drop 24), List.all_append, w_t2, w_t3]
  rfl
set_option maxRecDepth 65536 in
theorem w_case : (Jvm.Cond.and given_1 narrow_1).before args0 about1 = true := by decide +kernel
theorem w_applies : (headSpec (Jvm.Cond.code x code maxLocals ret :: tables_1) room_1).applies x e0.platform about1 = true :=
  (Spec.applies_iff w_frames).mpr ⟨w_running, w_runnable, w_alone, w_named, w_hears, w_ripe, w_room, w_tables⟩
theorem atStart : AtStart classFile x code maxLocals ret World_1 tables_1 room_1 Calls_1 rest_1 Pre_1 launch0 p0 e0 about1 theMethod args0 below0 :=
  ⟨lists_1, trivial, launch0.admits_env _ _ _, launch0.least_env, fairChoices_fair.cas, fairChoices_fair.clock, w_frames, w_args, w_heap, w_applies, trivial, trivial, w_case⟩
end start1
theorem witness_1 : WitnessClaimed_1 := ⟨start1.p0, start1.e0, start1.about1, start1.theMethod, start1.args0, start1.below0, start1.atStart⟩
end Jvm.Pilot.@@N@@
