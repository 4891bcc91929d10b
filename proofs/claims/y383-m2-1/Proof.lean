import JvmDerived
import JvmDerived.Pilot.@@N@@Statement
import JvmDerived.Pilot.@@N@@Code
set_option linter.unusedVariables false
set_option linter.unusedSimpArgs false
namespace Jvm.Pilot.@@N@@
open Jvm Jvm.ClassFile Sem Op Lib Jvm.Free Jvm.Stand Jvm.LawKit Jvm.RoadKit Bundle Jvm.Pilot.@@N@@.Jvm.D
section OwnKit
variable {p : Program} {l : Launch} {e : Env} {R : Room} {s : State} {m : MethodId} {args : Array Value} {below : List Frame} {meth : Method} {c : Code} {T T' : State} {locs : List Loc} {cells slots : Nat} {Z : State} {a0 : Array Value} {h : Heap}
/-- from here the run comes to an end of which E speaks -/
def own_Go (p : Program) (e : Env) (below : List Frame) (E : State → Outcome → Prop) (T : State) (g : JFrame) : Prop :=
  ∃ t o, Steps p.tables e below (T.setTop g) t ∧ t.status = .running ∧ Ended t below o ∧ E t o
def own_End (s : State) (k n : Nat) (Q : Option Value → Heap → List Loc → Prop) (t : State) (o : Outcome) : Prop :=
  ∃ v L, o = .returned v ∧ Q v t.heap L ∧ FrameEnd s o t L k n
theorem own_by {E : State → Outcome → Prop} {g g' : JFrame} (st : ∀ target, Steps p.tables e below (T'.setTop g') target → Steps p.tables e below (T.setTop g) target) (k : own_Go p e below E T' g') : own_Go p e below E T g := by
  obtain ⟨t, o, h1, r⟩ := k
  exact ⟨t, o, st t h1, r⟩
theorem own_retW (X : Stand p l e R s m args below meth c T locs cells slots) (hx : p.tables.exec = Jvm.exec) (hlk : meth.locks = false) {pc : Nat} {Ls : Array Slot} {w : Value} {t : FieldType} {i : Instr} {rest : List Value} (hret : meth.sig.returnType = some t) (hn : narrow t w = w)
    (hi : (i = .ireturn ∧ (t = .int ∨ t = .boolean ∨ t = .byte ∨ t = .char ∨ t = .short) ∧ ∃ z, w = .int z) ∨ (i = .lreturn ∧ t = .long ∧ ∃ z, w = .long z) ∨ (i = .dreturn ∧ t = .double ∧ ∃ z, w = .double z) ∨ (i = .freturn ∧ t = .float ∧ ∃ z, w = .float z) ∨ (i = .areturn ∧ t.isReference = true ∧ w.isRef = true))
    (hd : decode c.code pc = .ok (i, 1)) {Q : Option Value → Heap → List Loc → Prop} {k n : Nat} (hQ : Q (some w) T.heap locs) (hk : cells ≤ k) (hs : slots ≤ n) : own_Go p e below (own_End s k n Q) T (mkF m pc Ls (w :: rest)) := by
  obtain ⟨fs, hr, hrun, hended, hW, hsame⟩ := X.leave (v := some w) (fun h => by rw [hret] at h; cases h) hlk
  exact ⟨_, _, retOut X hx hret hn hi hd hr, hrun, hended, _, _, rfl, hQ, ⟨_, rfl⟩, hW, hsame.mono hk hs⟩
theorem own_retI (X : Stand p l e R s m args below meth c T locs cells slots) (hx : p.tables.exec = Jvm.exec) (hlk : meth.locks = false) {pc : Nat} {Ls : Array Slot} {z : Int32} {rest : List Value} (hret : meth.sig.returnType = some .int) (hd : decode c.code pc = .ok (.ireturn, 1)) {Q : Option Value → Heap → List Loc → Prop} {k n : Nat} (hQ : Q (some (.int z)) T.heap locs) (hk : cells ≤ k) (hs : slots ≤ n) : own_Go p e below (own_End s k n Q) T (mkF m pc Ls (.int z :: rest)) :=
  own_retW X hx hlk hret rfl (Or.inl ⟨rfl, Or.inl rfl, z, rfl⟩) hd hQ hk hs
theorem own_retJ (X : Stand p l e R s m args below meth c T locs cells slots) (hx : p.tables.exec = Jvm.exec) (hlk : meth.locks = false) {pc : Nat} {Ls : Array Slot} {z : Int64} {rest : List Value} (hret : meth.sig.returnType = some .long) (hd : decode c.code pc = .ok (.lreturn, 1)) {Q : Option Value → Heap → List Loc → Prop} {k n : Nat} (hQ : Q (some (.long z)) T.heap locs) (hk : cells ≤ k) (hs : slots ≤ n) : own_Go p e below (own_End s k n Q) T (mkF m pc Ls (.long z :: rest)) :=
  own_retW X hx hlk hret rfl (Or.inr (Or.inl ⟨rfl, rfl, z, rfl⟩)) hd hQ hk hs
theorem own_retA (X : Stand p l e R s m args below meth c T locs cells slots) (hx : p.tables.exec = Jvm.exec) (hlk : meth.locks = false) {pc : Nat} {Ls : Array Slot} {w : Value} {t : FieldType} {rest : List Value} (hret : meth.sig.returnType = some t) (ht : t.isReference = true) (hw : w.isRef = true) (hd : decode c.code pc = .ok (.areturn, 1)) {Q : Option Value → Heap → List Loc → Prop} {k n : Nat} (hQ : Q (some w) T.heap locs) (hk : cells ≤ k) (hs : slots ≤ n) : own_Go p e below (own_End s k n Q) T (mkF m pc Ls (w :: rest)) :=
  own_retW X hx hlk hret (by cases t <;> first | (cases ht; done) | (cases w <;> first | rfl | (cases hw; done))) (Or.inr (Or.inr (Or.inr (Or.inr ⟨rfl, ht, hw⟩)))) hd hQ hk hs
theorem own_retN (X : Stand p l e R s m args below meth c T locs cells slots) (hx : p.tables.exec = Jvm.exec) (hlk : meth.locks = false) {pc : Nat} {Ls : Array Slot} {z : Int32} {t : FieldType} {rest : List Value} (hret : meth.sig.returnType = some t) (ht : t = .boolean ∨ t = .byte ∨ t = .char ∨ t = .short) (hn : nar t z = z) (hd : decode c.code pc = .ok (.ireturn, 1)) {Q : Option Value → Heap → List Loc → Prop} {k n : Nat} (hQ : Q (some (.int z)) T.heap locs) (hk : cells ≤ k) (hs : slots ≤ n) : own_Go p e below (own_End s k n Q) T (mkF m pc Ls (.int z :: rest)) :=
  own_retW X hx hlk hret (by rcases ht with rfl | rfl | rfl | rfl <;> exact congrArg Value.int hn) (Or.inl ⟨rfl, Or.inr ht, z, rfl⟩) hd hQ hk hs
theorem own_ret0 (X : Stand p l e R s m args below meth c T locs cells slots) (hx : p.tables.exec = Jvm.exec) (hlk : meth.locks = false) {pc : Nat} {Ls : Array Slot} (hret : meth.sig.returnType = none) (hd : decode c.code pc = .ok (.return_, 1)) {Q : Option Value → Heap → List Loc → Prop} {k n : Nat} (hQ : Q none T.heap locs) (hk : cells ≤ k) (hs : slots ≤ n) : own_Go p e below (own_End s k n Q) T (mkF m pc Ls []) := by
  obtain ⟨fs, hr, hrun, hended, hW, hsame⟩ := X.leave (v := none) (fun _ => rfl) hlk
  exact ⟨_, _, X.returnOut hx hret hd hr, hrun, hended, _, _, rfl, hQ, ⟨_, rfl⟩, hW, hsame.mono hk hs⟩
theorem own_lrem {g : JFrame} {target : State} (X : Stand p l e R s m args below meth c T locs cells slots) (hx : p.tables.exec = Jvm.exec) (hg : g.method = m) {x y : Int64} {rest : List Value} (hd : decode c.code g.pc = .ok (.lrem, 1)) (hs : g.stack = .long y :: .long x :: rest) (hy : y ≠ 0)
    (hr : Steps p.tables e below (T.setTop { g with pc := g.pc + 1, stack := .long (x % y) :: rest }) target) : Steps p.tables e below (T.setTop g) target :=
  XS.lrem X.here hx hg hd hs hy (by rw [lrem_mod]; exact hr)
/-- a body's contract: called with as' at the heap h it returns, and Q speaks of what it returns, the heap that it leaves and the places that it wrote -/
abbrev own_Met (l : Launch) (Z : State) (y : MethodName) (bytes : ByteArray) (maxL : Nat) (rt : Option FieldType) (ws : List Jvm.Cond) (rm : Room) (as' : Array Value) (h : Heap) (Q : Option Value → Heap → List Loc → Prop) : Prop :=
  MetFree l y (head1 (Jvm.Cond.code y bytes maxL rt :: ws) rm) (fun a U => a = as' ∧ Z.Warmed39 U.vm ∧ U.heap = h) (fun _ _ _ _ _ => True) (fun _ U o U' => ∃ v L, o = .returned v ∧ Q v U'.heap L ∧ FrameEnd U o U' L rm.cells rm.slots)
theorem own_enter {y : MethodName} {bytes : ByteArray} {maxL : Nat} {rt : Option FieldType} {ws : List Jvm.Cond} {rm : Room} {as' : Array Value} {Q : Option Value → Heap → List Loc → Prop} (hy : plainFor y = true) {g0 : MethodId → JFrame} (hg0 : ∀ m, entryFrame m as' maxL = g0 m)
    (body : ∀ (p : Program) (e : Env) (s : State) (m : MethodId) (below : List Frame) (meth : Method) (c : Code) (s₁ : State), p.tables.exec = Jvm.exec → c.code = bytes → c.maxLocals = maxL → s.vm.findClass y.cls = some m.cls → meth.name = y.name → meth.sig.returnType = rt → meth.locks = false → Z.Warmed39 s.vm → Stand p l e rm s m as' below meth c s₁ [] 0 0 → s₁.heap = h → own_Go p e below (own_End s rm.cells rm.slots Q) s₁ (g0 m)) :
    own_Met l Z y bytes maxL rt ws rm as' h Q := by
  refine MetFree.of_bodySF hy hisR ?_
  intro p e s m args below meth c s₁ Bd hml0 hP hK
  obtain ⟨rfl, hZ, hh⟩ := hP
  obtain ⟨t, o, h1, h2, h3, h4⟩ := body p e s m below meth c s₁ Bd.exec Bd.bytes hml0 (findClass_of_methodNamed Bd.named) (name_of_methodNamed Bd.named Bd.method).1 Bd.returns (BodyLoose.notSynchronized Bd) hZ (Stand.of_body Bd) (by rw [← hh, Bd.state]; rfl)
  exact ⟨t, o, castTop (hg0 m) h1, h2, h3, h4⟩
theorem own_callS (X : Stand p l e R s m args below meth c T locs cells slots) (hx : p.tables.exec = Jvm.exec) (hZ : Z.Warmed39 s.vm) {own : String} (hown : s.vm.findClass own = some m.cls) {index : Nat} {y : MethodName} {bytes : ByteArray} {maxL : Nat} {rt : Option FieldType}
    (w1 : (Jvm.Cond.methodLink own index y).before a0 Z = true) (w2 : (Jvm.Cond.static y).before a0 Z = true) (w3 : (Jvm.Cond.initialized y.cls).before a0 Z = true) (w4 : (Jvm.Cond.code y bytes maxL rt).before a0 Z = true)
    (hy : y.cls ≠ "java/lang/invoke/MethodHandle" ∧ y.cls ≠ "java/lang/invoke/VarHandle") {rm : Room} {argsL rest : List Value} {Q : Option Value → Heap → List Loc → Prop} (eT : T.heap = h) (hM : own_Met l Z y bytes maxL rt [] rm argsL.toArray h Q)
    {g : JFrame} (hg : g.method = m) (hsize : g.locals.size = c.maxLocals) (hlen : ∀ sig, parseMethodDescriptor y.desc = some sig → argsL.length = sig.parameters.length) (hstack : g.stack = argsL.reverse ++ rest) {W : Nat} (hW : 2 * g.monitorRoom + (rest.map fun v => v.category).sum ≤ W) (hd : decode c.code g.pc = .ok (.invokestatic index, 3))
    (hf : rm.frames + 1 ≤ R.frames) (hl : W + (maxL + 11) + rm.locals ≤ R.locals) (hc : cells + rm.cells ≤ R.cells) (hs : slots + rm.slots ≤ R.slots) :
    ∃ v T' L, Stand p l e R s m args below meth c T' (locs ++ L) (cells + rm.cells) (slots + rm.slots) ∧ Q v T'.heap L ∧ ∀ target, Steps p.tables e below (T'.setTop { g with pc := g.pc + 3, stack := v.toList ++ rest }) target → Steps p.tables e below (T.setTop g) target := by
  obtain ⟨v, _, ⟨T1, L1, k1, n1⟩, -, X1, ⟨Lc, hQ, l1, y1, z1⟩, st⟩ := Jvm.LawKit.callS X hx (y := y) hown (mvT hZ w1) (mvT hZ w2) (mvT hZ w3) (mvT hZ w4) hy (backOf (W := W) hM hZ w4 w3 hf hl) (g := g) hg hsize (argsL := argsL) (rest := rest) hlen hstack hW hd (fun _ _ => ⟨rfl, eT, hc, hs⟩)
  dsimp only [Pt.U, Pt.locs, Pt.cells, Pt.slots] at X1 l1 y1 z1 st hQ
  subst l1 y1 z1
  exact ⟨v, T1, Lc, X1, hQ, st⟩
theorem own_callI (X : Stand p l e R s m args below meth c T locs cells slots) (hx : p.tables.exec = Jvm.exec) (hZ : Z.Warmed39 s.vm) {own : String} (hown : s.vm.findClass own = some m.cls) {index : Nat} {y : MethodName} {bytes : ByteArray} {maxL : Nat} (hy1 : y.name = "<init>")
    (w1 : (Jvm.Cond.methodLink own index y).before a0 Z = true) (w2 : (Jvm.Cond.instanceMethod y).before a0 Z = true) (w3 : (Jvm.Cond.initialized y.cls).before a0 Z = true) (w4 : (Jvm.Cond.code y bytes maxL none).before a0 Z = true)
    (hy : y.cls ≠ "java/lang/invoke/MethodHandle" ∧ y.cls ≠ "java/lang/invoke/VarHandle") {rm : Room} {a : Addr} {argsL rest : List Value} {Q : Option Value → Heap → List Loc → Prop} (eT : T.heap = h) (hM : own_Met l Z y bytes maxL none [] rm (.ref a :: argsL).toArray h Q)
    {g : JFrame} (hg : g.method = m) (hsize : g.locals.size = c.maxLocals) (hlen : ∀ sig, parseMethodDescriptor y.desc = some sig → argsL.length = sig.parameters.length) (hstack : g.stack = argsL.reverse ++ .ref a :: rest) {W : Nat} (hW : 2 * g.monitorRoom + (rest.map fun v => v.category).sum ≤ W) (hd : decode c.code g.pc = .ok (.invokespecial index, 3))
    (hf : rm.frames + 1 ≤ R.frames) (hl : W + (maxL + 11) + rm.locals ≤ R.locals) (hc : cells + rm.cells ≤ R.cells) (hs : slots + rm.slots ≤ R.slots) :
    ∃ v T' L, Stand p l e R s m args below meth c T' (locs ++ L) (cells + rm.cells) (slots + rm.slots) ∧ Q v T'.heap L ∧ ∀ target, Steps p.tables e below (T'.setTop { g with pc := g.pc + 3, stack := v.toList ++ rest }) target → Steps p.tables e below (T.setTop g) target := by
  obtain ⟨v, _, ⟨T1, L1, k1, n1⟩, -, X1, ⟨Lc, hQ, l1, y1, z1⟩, st⟩ := X.specialBack hx (y := y) hy1 hown (mvT hZ w1) (mvT hZ w2) (mvT hZ w4) hy (backOf (W := W) hM hZ w4 w3 hf hl) (g := g) hg hsize (Steps.refl _) (a := a) (argsL := argsL) (rest := rest) hlen hstack hW hd (fun _ _ => ⟨rfl, eT, hc, hs⟩)
  dsimp only [Pt.U, Pt.locs, Pt.cells, Pt.slots] at X1 l1 y1 z1 st hQ
  subst l1 y1 z1
  exact ⟨v, T1, Lc, X1, hQ, fun _ k => st.trans k⟩
theorem own_callV (X : Stand p l e R s m args below meth c T locs cells slots) (hx : p.tables.exec = Jvm.exec) (hZ : Z.Warmed39 s.vm) {own C : String} (hown : s.vm.findClass own = some m.cls) {index : Nat} {y : MethodName} {bytes : ByteArray} {maxL : Nat} {rt : Option FieldType}
    (w1 : (Jvm.Cond.methodLink own index y).before a0 Z = true) (w2 : (Jvm.Cond.declares y).before a0 Z = true) (w5 : (Jvm.Cond.selects C y y).before a0 Z = true) (w6 : (Jvm.Cond.instanceMethod y).before a0 Z = true) (w3 : (Jvm.Cond.initialized y.cls).before a0 Z = true) (w4 : (Jvm.Cond.code y bytes maxL rt).before a0 Z = true)
    (hy : y.cls ≠ "java/lang/invoke/MethodHandle" ∧ y.cls ≠ "java/lang/invoke/VarHandle") {rm : Room} {a : Addr} {argsL rest : List Value} {Q : Option Value → Heap → List Loc → Prop} (hE : Exa Z h a C) (eT : T.heap = h) (hM : own_Met l Z y bytes maxL rt [] rm (.ref a :: argsL).toArray h Q)
    {g : JFrame} (hg : g.method = m) (hsize : g.locals.size = c.maxLocals) (hlen : ∀ sig, parseMethodDescriptor y.desc = some sig → argsL.length = sig.parameters.length) (hstack : g.stack = argsL.reverse ++ .ref a :: rest) {W : Nat} (hW : 2 * g.monitorRoom + (rest.map fun v => v.category).sum ≤ W) (hd : decode c.code g.pc = .ok (.invokevirtual index, 3))
    (hf : rm.frames + 1 ≤ R.frames) (hl : W + (maxL + 11) + rm.locals ≤ R.locals) (hc : cells + rm.cells ≤ R.cells) (hs : slots + rm.slots ≤ R.slots) (hC : C = y.cls := by rfl) :
    ∃ v T' L, Stand p l e R s m args below meth c T' (locs ++ L) (cells + rm.cells) (slots + rm.slots) ∧ Q v T'.heap L ∧ ∀ target, Steps p.tables e below (T'.setTop { g with pc := g.pc + 3, stack := v.toList ++ rest }) target → Steps p.tables e below (T.setTop g) target := by
  subst hC
  obtain ⟨_, _, qa, -, qc⟩ := isOf hZ eT hE
  obtain ⟨v, _, ⟨T1, L1, k1, n1⟩, -, X1, ⟨Lc, hQ, l1, y1, z1⟩, st⟩ := X.virtualBack hx (y := y) (z := y) hown (mvT hZ w1) (mvT hZ w2) (notFace_of_selects (args := #[]) (mvT hZ w5)) (mvT hZ w5) (mvT hZ w6) hy (backOf (W := W) hM hZ w4 w3 hf hl) qa qc (g := g) hg hsize (Steps.refl _) (argsL := argsL) (rest := rest) hlen hstack hW hd (fun _ _ => ⟨rfl, eT, hc, hs⟩)
  dsimp only [Pt.U, Pt.locs, Pt.cells, Pt.slots] at X1 l1 y1 z1 st hQ
  subst l1 y1 z1
  exact ⟨v, T1, Lc, X1, hQ, fun _ k => st.trans k⟩
theorem own_callU (X : Stand p l e R s m args below meth c T locs cells slots) (hx : p.tables.exec = Jvm.exec) (hZ : Z.Warmed39 s.vm) {own C owner : String} (hown : s.vm.findClass own = some m.cls) {index : Nat} {x y : MethodName} {bytes : ByteArray} {maxL : Nat} {rt : Option FieldType}
    (w1 : (Jvm.Cond.methodLink own index x).before a0 Z = true) (w7 : (Jvm.Cond.sameMethod x.cls owner x.name x.desc).before a0 Z = true) (w2 : (Jvm.Cond.declares ⟨owner, x.name, x.desc⟩).before a0 Z = true) (hy : owner ≠ "java/lang/invoke/MethodHandle" ∧ owner ≠ "java/lang/invoke/VarHandle") (w5 : (Jvm.Cond.selects C x y).before a0 Z = true) (w6 : (Jvm.Cond.instanceMethod y).before a0 Z = true) (w3 : (Jvm.Cond.initialized y.cls).before a0 Z = true) (w4 : (Jvm.Cond.code y bytes maxL rt).before a0 Z = true)
    {rm : Room} {a : Addr} {argsL rest : List Value} {Q : Option Value → Heap → List Loc → Prop} (hE : Exa Z h a C) (eT : T.heap = h) (hM : own_Met l Z y bytes maxL rt [] rm (.ref a :: argsL).toArray h Q)
    {g : JFrame} (hg : g.method = m) (hsize : g.locals.size = c.maxLocals) (hlen : ∀ sig, parseMethodDescriptor x.desc = some sig → argsL.length = sig.parameters.length) (hstack : g.stack = argsL.reverse ++ .ref a :: rest) {W : Nat} (hW : 2 * g.monitorRoom + (rest.map fun v => v.category).sum ≤ W) (hd : decode c.code g.pc = .ok (.invokevirtual index, 3))
    (hf : rm.frames + 1 ≤ R.frames) (hl : W + (maxL + 11) + rm.locals ≤ R.locals) (hc : cells + rm.cells ≤ R.cells) (hs : slots + rm.slots ≤ R.slots) :
    ∃ v T' L, Stand p l e R s m args below meth c T' (locs ++ L) (cells + rm.cells) (slots + rm.slots) ∧ Q v T'.heap L ∧ ∀ target, Steps p.tables e below (T'.setTop { g with pc := g.pc + 3, stack := v.toList ++ rest }) target → Steps p.tables e below (T.setTop g) target := by
  obtain ⟨_, _, qa, -, qc⟩ := isOf hZ eT hE
  obtain ⟨v, _, ⟨T1, L1, k1, n1⟩, -, X1, ⟨Lc, hQ, l1, y1, z1⟩, st⟩ := X.virtualBackUp hx (x := x) (y := y) hown (mvT hZ w1) (mvT hZ w7) (mvT hZ w2) hy (mvT hZ w5) (mvT hZ w6) (backOf (W := W) hM hZ w4 w3 hf hl) qa qc (g := g) hg hsize (Steps.refl _) (argsL := argsL) (rest := rest) hlen hstack hW hd (fun _ _ => ⟨rfl, eT, hc, hs⟩)
  dsimp only [Pt.U, Pt.locs, Pt.cells, Pt.slots] at X1 l1 y1 z1 st hQ
  subst l1 y1 z1
  exact ⟨v, T1, Lc, X1, hQ, fun _ k => st.trans k⟩
theorem own_arv {a : Addr} {k : ClassId} {ty : FieldType} {z : Int32} {vs : List Value} {dv : Value} (V : Arv Z h a k ty z vs dv) {j : Int32} (q : ¬ j < 0 ∧ j < z) :
    ∃ cl : Cell, Arr Z h a cl ty ∧ cl.cls = k ∧ ¬ (j < 0 ∨ cl.slots.size ≤ j.toNatClampNeg) ∧ cl.slots[j.toNatClampNeg]? = some (vs.getD j.toNatClampNeg dv) ∧ ∀ {h' : Heap} {v : Value}, fits ty v = true → Wr h h' a j.toNatClampNeg v → ∀ i, j.toNatClampNeg = i → i < vs.length → Arv Z h' a k ty z (vs.set i v) dv := by
  obtain ⟨cl, A, q1, S, q3, H, G⟩ := V
  have hin := inb_of S q
  exact ⟨cl, A, q1, hin, Has.at H hin rfl, fun hf W i hj hi => Arv.set A q1 S q3 H G hf W i hj hi⟩
theorem own_len {a : Addr} {k : ClassId} {ty : FieldType} {z : Int32} {vs : List Value} {dv : Value} (V : Arv Z h a k ty z vs dv) : ∃ cl : Cell, Arr Z h a cl ty ∧ cl.slots.size.toInt32 = z := by
  obtain ⟨cl, A, q1, S, q3, -⟩ := V
  exact ⟨cl, A, len_of S q3⟩
theorem own_sta {C f d K : String} (hx : (Jvm.Cond.exactly (.static C f d) K).value args s none s [] = some true) (w1 : (Jvm.Cond.initialized C).before args s = true) (w2 : (Jvm.Cond.laysStatic C f d).before args s = true) :
    ∃ a, (Term.static C f d).eval args s none [] s = some (.ref a) ∧ Sta s s.heap C f d (.ref a) ∧ Exa s s.heap a K := by
  obtain ⟨a, ev⟩ := exa_v hx
  exact ⟨a, ev, Sta.start ev (Or.inr ⟨w1, w2⟩), Exa.start ev hx⟩
theorem own_fldI {t : Term} {C f d : String} {a : Addr} {k : Int32} (ev : t.eval args s none [] s = some (.ref a)) (hx : (Jvm.Cond.eq (.field t C f d) (.int k)).value args s none s [] = some true) : Fld s s.heap a C f d (.int k) := by
  obtain ⟨v, w, e1, e2, k1, k2⟩ := cmp_v (Or.inl hx)
  obtain rfl : w = .int k := Option.some.inj (e2.symm.trans (Term.int_eval k))
  obtain ⟨z, rfl⟩ : ∃ z, v = .int z := k2
  have q : z = k := by simpa [Cond.value, e1, e2] using hx
  subst q
  exact Fld.start (by rw [← fld_at ev]; exact e1)
theorem own_neS {t u : Term} {a b : Addr} (ea : t.eval args s none [] s = some (.ref a)) (eb : u.eval args s none [] s = some (.ref b)) (hx : (Jvm.Cond.not (.eq t u)).value args s none s [] = some true) : a ≠ b := fun q =>
  gotF (eq_R ea eb rfl rfl) (not_v hx) (congrArg Value.ref q)
theorem own_staK {C f d : String} {v : Value} {h' : Heap} {ws : List Addr} (S : Sta Z h C f d v) (K : Keep h h' ws) (q : ∀ x ∈ ws, ∀ cell : Cell, h[x]? = some cell → cell.vm.isStatics = false) : Sta Z h' C f d v := by
  obtain ⟨cf, i, k, fl, st, cell, h1, h2, h3, h4, h5, h6, h7⟩ := S
  refine ⟨cf, i, k, fl, st, cell, h1, h2, h3, h4, K.2.1 st cell h5 (fun hm => ?_), h6, h7⟩
  have := q st hm cell h5
  rw [h6] at this
  cases this
end OwnKit
section OwnRef
variable {p : Program} {l : Launch} {e : Env} {R : Room} {s : State} {m : MethodId} {args : Array Value} {below : List Frame} {meth : Method} {c : Code} {T T' : State} {locs : List Loc} {cells slots : Nat} {Z : State} {a0 : Array Value} {h : Heap}
/-- a call of a constructor whose pool entry is resolved already (the word 'methodRef') -/
theorem own_callR (X : Stand p l e R s m args below meth c T locs cells slots) (hx : p.tables.exec = Jvm.exec) (hZ : Z.Warmed39 s.vm) {own : String} (hown : s.vm.findClass own = some m.cls) {index : Nat} {y : MethodName} {bytes : ByteArray} {maxL : Nat} (hy1 : y.name = "<init>")
    (w1 : (Jvm.Cond.methodRef own index y).before a0 Z = true) (w2 : (Jvm.Cond.instanceMethod y).before a0 Z = true) (w3 : (Jvm.Cond.initialized y.cls).before a0 Z = true) (w4 : (Jvm.Cond.code y bytes maxL none).before a0 Z = true)
    (hy : y.cls ≠ "java/lang/invoke/MethodHandle" ∧ y.cls ≠ "java/lang/invoke/VarHandle") {rm : Room} {a : Addr} {argsL rest : List Value} {Q : Option Value → Heap → List Loc → Prop} (eT : T.heap = h) (hM : own_Met l Z y bytes maxL none [] rm (.ref a :: argsL).toArray h Q)
    {g : JFrame} (hg : g.method = m) (hsize : g.locals.size = c.maxLocals) (hlen : ∀ sig, parseMethodDescriptor y.desc = some sig → argsL.length = sig.parameters.length) (hstack : g.stack = argsL.reverse ++ .ref a :: rest) {W : Nat} (hW : 2 * g.monitorRoom + (rest.map fun v => v.category).sum ≤ W) (hd : decode c.code g.pc = .ok (.invokespecial index, 3))
    (hf : rm.frames + 1 ≤ R.frames) (hl : W + (maxL + 11) + rm.locals ≤ R.locals) (hc : cells + rm.cells ≤ R.cells) (hs : slots + rm.slots ≤ R.slots) :
    ∃ v T' L, Stand p l e R s m args below meth c T' (locs ++ L) (cells + rm.cells) (slots + rm.slots) ∧ Q v T'.heap L ∧ ∀ target, Steps p.tables e below (T'.setTop { g with pc := g.pc + 3, stack := v.toList ++ rest }) target → Steps p.tables e below (T.setTop g) target := by
  have hready : ∀ (U : State) (r : MethodId), s.WarmedH U.vm → s.methodNamed? y = some r → namesResolved U.vm m.cls index r.cls ∧ U.vm.methodReady m.cls index r := by
    intro U r hU hr
    obtain ⟨r0, _, hn0, -⟩ := Cond.instanceMethod_spec w2
    have q1 : (Jvm.Cond.methodRef own index y).before a0 (Z.setVm s.vm) = true := Cond.methodRef_warmed39 hZ hn0 hy w1
    have q2 : (Jvm.Cond.methodRef own index y).before a0 s = true := q1
    have q3 : (Jvm.Cond.methodRef own index y).before a0 (s.setVm U.vm) = true := Cond.methodRef_warmed hU hr hy q2
    obtain ⟨m', c', e1, e2, e3, e4⟩ := Cond.methodRef_named (s := s.setVm U.vm) e (cur := m.cls) (by rw [State.vm_setVm, hU.alike.findClass]; exact hown) q3
    rw [State.methodFound?_setVm_of_named hU.alike hr hy] at e1
    cases (State.methodFound?_of_named hr hy).symm.trans e1
    have e5 : s.vm.findClass y.cls = some r.cls := findClass_of_methodNamed hr
    rw [State.vm_setVm, hU.alike.findClass] at e3
    cases e5.symm.trans e3
    exact ⟨e4, e2⟩
  obtain ⟨v, _, ⟨T1, L1, k1, n1⟩, -, X1, ⟨Lc, hQ, l1, y1, z1⟩, st⟩ := SCall.of_ready (y := y) (bytes := bytes) (maxL := maxL) hx hy1 (mvT hZ w2) (mvT hZ w4) hready X (backOf (W := W) hM hZ w4 w3 hf hl) (g := g) hg hsize (Steps.refl _) (a := a) (argsL := argsL) (rest := rest) hlen hstack hW hd (fun _ _ => ⟨rfl, eT, hc, hs⟩)
  dsimp only [Pt.U, Pt.locs, Pt.cells, Pt.slots] at X1 l1 y1 z1 st hQ
  subst l1 y1 z1
  exact ⟨v, T1, Lc, X1, hQ, fun _ k => st.trans k⟩
/-- getfield by an entry that is resolved already (the word 'fieldRef') -/
theorem own_getR (X : Stand p l e R s m args below meth c T locs cells slots) (hx : p.tables.exec = Jvm.exec) (hZ : Z.Warmed39 s.vm) {own O n d : String} (hown : s.vm.findClass own = some m.cls) {index : Nat} (w : (Jvm.Cond.fieldRef own index O n d).before a0 Z = true)
    (eT : T.heap = h) {a : Addr} {v : Value} (F : Fld Z h a O n d v) {g : JFrame} (hg : g.method = m) {rest : List Value} (hs : g.stack = .ref a :: rest) (hd : decode c.code g.pc = .ok (.getfield index, 3)) :
    ∃ T', Stand p l e R s m args below meth c T' locs cells slots ∧ T'.heap = h ∧ ∀ target, Steps p.tables e below (T'.setTop { g with pc := g.pc + 3, stack := v :: rest }) target → Steps p.tables e below (T.setTop g) target := by
  obtain ⟨cell, cf, k, i, f, h1, h2, h3, h4, -, -, h7⟩ := F
  have q1 : (Jvm.Cond.fieldRef own index O n d).before a0 (Z.setVm s.vm) = true := Cond.fieldRef_warmed39 hZ w
  have q2 : (Jvm.Cond.fieldRef own index O n d).before a0 s = true := q1
  have q3 : (Jvm.Cond.fieldRef own index O n d).before a0 (s.setVm T.vm) = true := Cond.fieldRef_warmed X.warmed q2
  obtain ⟨cf', k', i', f', e1, e2⟩ := Cond.fieldRef_spec (s := s.setVm T.vm) (cur := m.cls) (by rw [State.vm_setVm, X.warmed.alike.findClass]; exact hown) q3
  obtain ⟨k1, hi1, -⟩ := State.fieldFound?_setVm (s := Z) hZ.alike h2
  have hi1' : s.fieldFound? O n d = some (cf, k1, i, f) := hi1
  obtain ⟨k2, hi2, -⟩ := State.fieldFound?_setVm (s := s) X.warmed.alike hi1'
  cases hi2.symm.trans e1
  refine ⟨T, X, eT, fun target hrest => ?_⟩
  subst hg
  jvm_step X.here [hx, hd, getfield.wp_ready (e := e) (s := T) (f := g) X.here.top e2 h3 hs (by rw [eT]; exact h1) h4 h7]
  exact hrest
/-- putfield by an entry that is resolved already -/
theorem own_putR (X : Stand p l e R s m args below meth c T locs cells slots) (hx : p.tables.exec = Jvm.exec) (hZ : Z.Warmed39 s.vm) {own O n d C : String} {kk : Nat} {ty : FieldType} (hown : s.vm.findClass own = some m.cls) {index : Nat} (w : (Jvm.Cond.fieldRef own index O n d).before a0 Z = true)
    (eT : T.heap = h) {a : Addr} {v old : Value} (F : Fld Z h a O n d old) (E : Exa Z h a C) (L : (Jvm.Cond.lays C O n d).before a0 Z = true) (wi : (Jvm.Cond.instantiable C kk).before a0 Z = true) (hty : parseFieldDescriptor d = some ty) (hn : narrow ty v = v) (hf : fits ty v = true)
    {g : JFrame} (hg : g.method = m) {rest : List Value} (hs : g.stack = v :: .ref a :: rest) (hd : decode c.code g.pc = .ok (.putfield index, 3)) :
    ∃ T' h', Stand p l e R s m args below meth c T' (locs ++ [⟨a, Jvm.RoadKit.slotOf Z O n d⟩]) cells slots ∧ T'.heap = h' ∧ Wr h h' a (Jvm.RoadKit.slotOf Z O n d) v ∧ ∀ target, Steps p.tables e below (T'.setTop { g with pc := g.pc + 3, stack := rest }) target → Steps p.tables e below (T.setTop g) target := by
  obtain ⟨cell, cf, k, i, f, h1, h2, h3, h4, h5, -, h7⟩ := F
  obtain ⟨cell', kc, e1, e2, e3, -⟩ := E
  cases h1.symm.trans e1
  obtain ⟨c1, k1, cf1, kf1, i1, f1, a1, a2, a3, -, -, a6, -⟩ := Laid.spec (Or.inl L)
  cases h2.symm.trans a3
  cases e2.symm.trans a1
  obtain ⟨c2, k2, j1, j2, j3, -⟩ := Cond.instantiable_spec wi
  cases e2.symm.trans j1
  cases a2.symm.trans j2
  have ht := (State.fieldFound?_type h2 hty).2
  have q : Z.slotType? cell.cls cell.vm f.slot = some ty := by
    simp only [State.slotType?, a2, Option.bind_eq_bind, Option.bind_some, j3]
    cases hq : cell.vm <;> first | (rw [hq] at h5; exact Bool.noConfusion h5) | (rw [a6, ht])
  have hfit : Z.fitsSlot cell.cls cell.vm f.slot v = true := by simp [State.fitsSlot, q, hf]
  have hfit1 : s.fitsSlot cell.cls cell.vm f.slot v = true := by rw [← State.fitsSlot_setVm hZ.alike] at hfit; exact hfit
  have hfit2 : T.fitsSlot cell.cls cell.vm f.slot v = true := by rw [← State.fitsSlot_setVm X.warmed.alike] at hfit1; exact hfit1
  have hfin : hasFlag f.accessFlags Acc.final = false := by
    obtain ⟨_, _, _, _, _, _, -, -, b3, -, b5, -⟩ := Cond.lays_spec L
    cases h2.symm.trans b3
    exact b5
  have q1 : (Jvm.Cond.fieldRef own index O n d).before a0 (Z.setVm s.vm) = true := Cond.fieldRef_warmed39 hZ w
  have q2 : (Jvm.Cond.fieldRef own index O n d).before a0 s = true := q1
  have q3 : (Jvm.Cond.fieldRef own index O n d).before a0 (s.setVm T.vm) = true := Cond.fieldRef_warmed X.warmed q2
  obtain ⟨cf', k', i', f', g1, g2⟩ := Cond.fieldRef_spec (s := s.setVm T.vm) (cur := m.cls) (by rw [State.vm_setVm, X.warmed.alike.findClass]; exact hown) q3
  obtain ⟨kx, hi1, -⟩ := State.fieldFound?_setVm (s := Z) hZ.alike h2
  have hi1' : s.fieldFound? O n d = some (cf, kx, i, f) := hi1
  obtain ⟨ky, hi2, -⟩ := State.fieldFound?_setVm (s := s) X.warmed.alike hi1'
  cases hi2.symm.trans g1
  have hlt := (Array.getElem?_eq_some_iff.mp h7).1
  have es : Jvm.RoadKit.slotOf Z O n d = f.slot := by simp [Jvm.RoadKit.slotOf, h2]
  rw [es]
  obtain ⟨X', st⟩ := X.putfieldReady hx g2 h3 (Or.inl hfin) (by rw [eT]; exact h1) h4 hlt (by rw [ht]; exact hn) hfit2 hg hs hd
  exact ⟨_, _, X', rfl, ⟨cell, h1, h5, hlt, by rw [← eT]; rfl⟩, st⟩
theorem own_selp {y : MethodName} {n : Nat} (hy : y.cls ≠ "java/lang/invoke/MethodHandle" ∧ y.cls ≠ "java/lang/invoke/VarHandle") (hins : (Jvm.Cond.instantiable y.cls n).before args s = true) (hpriv : (Jvm.Cond.privateMethod y).before args s = true) (hinst : (Jvm.Cond.instanceMethod y).before args s = true) :
    (Jvm.Cond.selects y.cls y y).before args s = true := by
  obtain ⟨cc, k, hc, hk, -, hniab, -, -⟩ := Cond.instantiable_spec hins
  have hni : k.isInterface = false := (Bool.or_eq_false_iff.mp hniab).1
  obtain ⟨mk, methM, hnamed, hmethM, -, -⟩ := Cond.instanceMethod_spec hinst
  have hfound : s.methodFound? y.cls y.name y.desc = some mk := State.methodFound?_of_named hnamed hy
  have hcls : mk.cls = cc := Option.some.inj ((findClass_of_methodNamed hnamed).symm.trans hc)
  have hsel : selectMethod {} s.vm cc mk = .method mk := selectMethod_private hmethM (Cond.privateMethod_at hpriv mk methM hnamed hmethM)
  subst hcls
  simp [Cond.before, Cond.holds, Cond.value, hc, hfound, hnamed, hsel, hk, hni]
/-- an instance method that is private, by invokevirtual -/
theorem own_callP (X : Stand p l e R s m args below meth c T locs cells slots) (hx : p.tables.exec = Jvm.exec) (hZ : Z.Warmed39 s.vm) {own : String} {kk : Nat} (hown : s.vm.findClass own = some m.cls) {index : Nat} {y : MethodName} {bytes : ByteArray} {maxL : Nat} {rt : Option FieldType}
    (w1 : (Jvm.Cond.methodLink own index y).before a0 Z = true) (w2 : (Jvm.Cond.instanceMethod y).before a0 Z = true) (w5 : (Jvm.Cond.instantiable y.cls kk).before a0 Z = true) (w6 : (Jvm.Cond.privateMethod y).before a0 Z = true) (w3 : (Jvm.Cond.initialized y.cls).before a0 Z = true) (w4 : (Jvm.Cond.code y bytes maxL rt).before a0 Z = true)
    (hy : y.cls ≠ "java/lang/invoke/MethodHandle" ∧ y.cls ≠ "java/lang/invoke/VarHandle") {rm : Room} {a : Addr} {argsL rest : List Value} {Q : Option Value → Heap → List Loc → Prop} (hE : Exa Z h a y.cls) (eT : T.heap = h) (hM : own_Met l Z y bytes maxL rt [] rm (.ref a :: argsL).toArray h Q)
    {g : JFrame} (hg : g.method = m) (hsize : g.locals.size = c.maxLocals) (hlen : ∀ sig, parseMethodDescriptor y.desc = some sig → argsL.length = sig.parameters.length) (hstack : g.stack = argsL.reverse ++ .ref a :: rest) {W : Nat} (hW : 2 * g.monitorRoom + (rest.map fun v => v.category).sum ≤ W) (hd : decode c.code g.pc = .ok (.invokevirtual index, 3))
    (hf : rm.frames + 1 ≤ R.frames) (hl : W + (maxL + 11) + rm.locals ≤ R.locals) (hc : cells + rm.cells ≤ R.cells) (hs : slots + rm.slots ≤ R.slots) :
    ∃ v T' L, Stand p l e R s m args below meth c T' (locs ++ L) (cells + rm.cells) (slots + rm.slots) ∧ Q v T'.heap L ∧ ∀ target, Steps p.tables e below (T'.setTop { g with pc := g.pc + 3, stack := v.toList ++ rest }) target → Steps p.tables e below (T.setTop g) target := by
  obtain ⟨cq, hq1, hq2⟩ := hE.cell
  have hsel : (Jvm.Cond.selects y.cls y y).before args s = true := own_selp hy (mvT hZ w5) (mvP hZ w6) (mvT hZ w2)
  obtain ⟨v, _, ⟨T1, L1, k1, n1⟩, -, X1, ⟨Lc, hQ, l1, y1, z1⟩, st⟩ := X.privateBack hx (y := y) hown (mvT hZ w1) (mvT hZ w2) hsel (Cond.privateMethod_at (mvP hZ w6 (args := #[]))) (mvT hZ w4) hy (backOf (W := W) hM hZ w4 w3 hf hl) (g := g) hg hsize (Steps.refl _) (a := a) (by rw [eT]; exact hq1) hq2 (argsL := argsL) (rest := rest) hlen hstack hW hd (fun _ _ => ⟨rfl, eT, hc, hs⟩)
  dsimp only [Pt.U, Pt.locs, Pt.cells, Pt.slots] at X1 l1 y1 z1 st hQ
  subst l1 y1 z1
  exact ⟨v, T1, Lc, X1, hQ, fun _ k => st.trans k⟩
end OwnRef
def own_Tal (Z : State) (h : Heap) (t : Addr) (sn wn : Int64) (wr : Int32) (al vl : Int64) (kn se rd : Int32) : Prop := Exa Z h t "com/example/eskew/eskew/server/split/CounterValues$Tally" ∧ Fld Z h t "com/example/eskew/eskew/server/split/CounterValues$Tally" "since" "J" (.long sn) ∧ Fld Z h t "com/example/eskew/eskew/server/split/CounterValues$Tally" "writesSent" "J" (.long wn) ∧ Fld Z h t "com/example/eskew/eskew/server/split/CounterValues$Tally" "writes" "I" (.int wr) ∧ Fld Z h t "com/example/eskew/eskew/server/split/CounterValues$Tally" "aloneSent" "J" (.long al) ∧ Fld Z h t "com/example/eskew/eskew/server/split/CounterValues$Tally" "value" "J" (.long vl) ∧ Fld Z h t "com/example/eskew/eskew/server/split/CounterValues$Tally" "known" "Z" (.int kn) ∧ Fld Z h t "com/example/eskew/eskew/server/split/CounterValues$Tally" "settled" "Z" (.int se) ∧ Fld Z h t "com/example/eskew/eskew/server/split/CounterValues$Tally" "placing" "Lcom/example/eskew/eskew/server/split/CounterValues$Placing;" .null ∧ Fld Z h t "com/example/eskew/eskew/server/split/CounterValues$Tally" "reads" "I" (.int rd)
theorem own_TalK {Z : State} {h h' : Heap} {t : Addr} {sn wn : Int64} {wr : Int32} {al vl : Int64} {kn se rd : Int32} {l : List Addr} (H : own_Tal Z h t sn wn wr al vl kn se rd) (K : Keep h h' l) (q : t ∉ l) : own_Tal Z h' t sn wn wr al vl kn se rd := by
  obtain ⟨E, T1, T2, T3, T4, T5, T6, T7, T8, T9⟩ := H
  exact ⟨E.keep K, T1.keep K q, T2.keep K q, T3.keep K q, T4.keep K q, T5.keep K q, T6.keep K q, T7.keep K q, T8.keep K q, T9.keep K q⟩
theorem own_TalE {Z : State} {h h' : Heap} {t : Addr} {sn wn : Int64} {wr : Int32} {al vl : Int64} {kn se rd : Int32} (H : own_Tal Z h t sn wn wr al vl kn se rd) (K : Ext h h') : own_Tal Z h' t sn wn wr al vl kn se rd := by
  obtain ⟨E, T1, T2, T3, T4, T5, T6, T7, T8, T9⟩ := H
  exact ⟨E.ext K, T1.ext K, T2.ext K, T3.ext K, T4.ext K, T5.ext K, T6.ext K, T7.ext K, T8.ext K, T9.ext K⟩
theorem own_TalW {Z : State} {h h' : Heap} {t a : Addr} {sl : Nat} {v : Value} {sn wn : Int64} {wr : Int32} {al vl : Int64} {kn se rd : Int32} (H : own_Tal Z h t sn wn wr al vl kn se rd) (K : Wr h h' a sl v) (q : t ≠ a) : own_Tal Z h' t sn wn wr al vl kn se rd := by
  obtain ⟨E, T1, T2, T3, T4, T5, T6, T7, T8, T9⟩ := H
  exact ⟨E.wr K, T1.other K (Or.inl q), T2.other K (Or.inl q), T3.other K (Or.inl q), T4.other K (Or.inl q), T5.other K (Or.inl q), T6.other K (Or.inl q), T7.other K (Or.inl q), T8.other K (Or.inl q), T9.other K (Or.inl q)⟩
/-- every tally as the maker leaves it; they are unlike one another -/
def own_All (Z : State) (h : Heap) (b : Nat) (ta : Addr) (vs : List Value) (nk : Int32) (t0 : Int64) : Prop := ∀ j : Int32, ¬ j < 0 → j < nk → ∃ t, vs.getD j.toNatClampNeg .null = .ref t ∧ b ≤ t ∧ ta ≠ t ∧ own_Tal Z h t t0 0 0 0 0 0 0 0
def own_Inj (vs : List Value) (nk : Int32) : Prop := ∀ i j : Int32, ¬ i < 0 → i < nk → ¬ j < 0 → j < nk → i ≠ j → vs.getD i.toNatClampNeg .null ≠ vs.getD j.toNatClampNeg .null
theorem own_rng_2 (j : Int32) (h1 : ¬ j < 0) (h2 : j < (2 : Int32)) : j = (0 : Int32) ∨ j = (1 : Int32) := by
  have g1 : 0 ≤ j.toInt := by rw [Int32.lt_iff_toInt_lt] at h1; exact Int.not_lt.mp h1
  have g2 : j.toInt < 2 := by rw [Int32.lt_iff_toInt_lt] at h2; exact h2
  have e : ∀ q : Int32, j.toInt = q.toInt → j = q := fun q z => Int32.toInt_inj.mp z
  have c : j.toInt = 0 ∨ j.toInt = 1 := by omega
  rcases c with c | c
  · exact Or.inl (e (0 : Int32) c)
  · exact Or.inr ((e (1 : Int32) c))
theorem own_rng_3 (j : Int32) (h1 : ¬ j < 0) (h2 : j < (3 : Int32)) : j = (0 : Int32) ∨ j = (1 : Int32) ∨ j = (2 : Int32) := by
  have g1 : 0 ≤ j.toInt := by rw [Int32.lt_iff_toInt_lt] at h1; exact Int.not_lt.mp h1
  have g2 : j.toInt < 3 := by rw [Int32.lt_iff_toInt_lt] at h2; exact h2
  have e : ∀ q : Int32, j.toInt = q.toInt → j = q := fun q z => Int32.toInt_inj.mp z
  have c : j.toInt = 0 ∨ j.toInt = 1 ∨ j.toInt = 2 := by omega
  rcases c with c | c | c
  · exact Or.inl (e (0 : Int32) c)
  · exact Or.inr (Or.inl (e (1 : Int32) c))
  · exact Or.inr (Or.inr ((e (2 : Int32) c)))
theorem own_rng_4 (j : Int32) (h1 : ¬ j < 0) (h2 : j < (4 : Int32)) : j = (0 : Int32) ∨ j = (1 : Int32) ∨ j = (2 : Int32) ∨ j = (3 : Int32) := by
  have g1 : 0 ≤ j.toInt := by rw [Int32.lt_iff_toInt_lt] at h1; exact Int.not_lt.mp h1
  have g2 : j.toInt < 4 := by rw [Int32.lt_iff_toInt_lt] at h2; exact h2
  have e : ∀ q : Int32, j.toInt = q.toInt → j = q := fun q z => Int32.toInt_inj.mp z
  have c : j.toInt = 0 ∨ j.toInt = 1 ∨ j.toInt = 2 ∨ j.toInt = 3 := by omega
  rcases c with c | c | c | c
  · exact Or.inl (e (0 : Int32) c)
  · exact Or.inr (Or.inl (e (1 : Int32) c))
  · exact Or.inr (Or.inr (Or.inl (e (2 : Int32) c)))
  · exact Or.inr (Or.inr (Or.inr ((e (3 : Int32) c))))
theorem own_rng_5 (j : Int32) (h1 : ¬ j < 0) (h2 : j < (5 : Int32)) : j = (0 : Int32) ∨ j = (1 : Int32) ∨ j = (2 : Int32) ∨ j = (3 : Int32) ∨ j = (4 : Int32) := by
  have g1 : 0 ≤ j.toInt := by rw [Int32.lt_iff_toInt_lt] at h1; exact Int.not_lt.mp h1
  have g2 : j.toInt < 5 := by rw [Int32.lt_iff_toInt_lt] at h2; exact h2
  have e : ∀ q : Int32, j.toInt = q.toInt → j = q := fun q z => Int32.toInt_inj.mp z
  have c : j.toInt = 0 ∨ j.toInt = 1 ∨ j.toInt = 2 ∨ j.toInt = 3 ∨ j.toInt = 4 := by omega
  rcases c with c | c | c | c | c
  · exact Or.inl (e (0 : Int32) c)
  · exact Or.inr (Or.inl (e (1 : Int32) c))
  · exact Or.inr (Or.inr (Or.inl (e (2 : Int32) c)))
  · exact Or.inr (Or.inr (Or.inr (Or.inl (e (3 : Int32) c))))
  · exact Or.inr (Or.inr (Or.inr (Or.inr ((e (4 : Int32) c)))))
def Q_rm3 (Z : State) (a1 : Addr) (h0 : Heap) (n0 : Nat) (v : Option Value) (h : Heap) (L : List Loc) : Prop := v = none ∧ Fr n0 L ∧ h = h0
theorem pn_rm3 : plainFor (⟨"com/example/eskew/eskew/server/split/CounterValues$WideSum", "<init>", "()V"⟩ : MethodName) = true := plainFor_of_name (by first | (simp [plainName, overriddenIn, x]; done) | decide +kernel)
theorem d3_0 : decode prog_36_method_1_code 0 = .ok (.aload_n 0, 1) := by decide +kernel
theorem d3_1 : decode prog_36_method_1_code 1 = .ok (.invokespecial 1, 3) := by decide +kernel
theorem d3_4 : decode prog_36_method_1_code 4 = .ok (.return_, 1) := by decide +kernel
set_option maxRecDepth 65536 in
set_option maxHeartbeats 40000000 in
theorem rm3 (l : Launch) (Z : State) (a0 : Array Value) (hw : ∀ d ∈ tables_1, d.before a0 Z = true) (ws : List Jvm.Cond) (a1 : Addr) (h0 : Heap) (n0 : Nat) (Z0 : n0 ≤ h0.size)  :
    own_Met l Z (⟨"com/example/eskew/eskew/server/split/CounterValues$WideSum", "<init>", "()V"⟩ : MethodName) prog_36_method_1_code 1 none ws ({ frames := 1, cells := 0, slots := 0, locals := 12 } : Room) #[(.ref a1)] h0 (Q_rm3 Z a1 h0 n0) := by
  refine own_enter (g0 := fun m => (mkF m 0 #[.val (.ref a1)] [])) pn_rm3 (fun m => by first | (simp [entryFrame, mkF, argsToLocals, Value.category, maxLocals]; done) | rfl) ?_
  intro p e s m below meth c s₁ hx hby hml hown hnm hret hlk hZ X0 e0
  have hml : c.maxLocals = 1 := hml
  have hown : s.vm.findClass "com/example/eskew/eskew/server/split/CounterValues$WideSum" = some m.cls := hown
  have N0 := Fr.nil n0
  refine own_by (fun _ k => XS.aloadN X0.here hx rfl (hb hby d3_0) rfl rfl k) ?_
  obtain ⟨T101, X101, e101, st101⟩ := initO X0 hx hZ hown (hw _ (List.mem_of_getElem? (i := 17) rfl)) (hw _ (List.mem_of_getElem? (i := 9) rfl)) (hw _ (List.mem_of_getElem? (i := 10) rfl)) e0 (g := (mkF m 1 #[.val (.ref a1)] [(.ref a1)])) rfl (by rw [hml]; rfl) rfl (hb hby d3_1) (by decide) (W := 0) (by show 2 * 0 + _ ≤ _; exact Nat.le_of_eq rfl) (by decide)
  refine own_by st101 ?_
  show own_Go p e below _ T101 (mkF m 4 #[.val (.ref a1)] [])
  exact own_ret0 X101 hx hlk hret (hb hby d3_4) (by first | exact ⟨rfl, N0, rfl⟩ | (rw [e101]; exact ⟨rfl, N0, rfl⟩)) (by decide) (by decide)
def Q_rm4 (Z : State) (a1 : Addr) (q2 : Int64) (h0 : Heap) (n0 : Nat) (v : Option Value) (h : Heap) (L : List Loc) : Prop := v = none ∧ Fr n0 L ∧ Keep h0 h [a1] ∧ own_Tal Z h a1 q2 (0 : Int64) (0 : Int32) (0 : Int64) (0 : Int64) (0 : Int32) (0 : Int32) (0 : Int32)
theorem pn_rm4 : plainFor (⟨"com/example/eskew/eskew/server/split/CounterValues$Tally", "<init>", "(J)V"⟩ : MethodName) = true := plainFor_of_name (by first | (simp [plainName, overriddenIn, x]; done) | decide +kernel)
theorem d4_0 : decode prog_35_method_1_code 0 = .ok (.aload_n 0, 1) := by decide +kernel
theorem d4_1 : decode prog_35_method_1_code 1 = .ok (.invokespecial 1, 3) := by decide +kernel
theorem d4_4 : decode prog_35_method_1_code 4 = .ok (.aload_n 0, 1) := by decide +kernel
theorem d4_5 : decode prog_35_method_1_code 5 = .ok (.lload_n 1, 1) := by decide +kernel
theorem d4_6 : decode prog_35_method_1_code 6 = .ok (.putfield 7, 3) := by decide +kernel
theorem d4_9 : decode prog_35_method_1_code 9 = .ok (.return_, 1) := by decide +kernel
set_option maxRecDepth 65536 in
set_option maxHeartbeats 40000000 in
theorem rm4 (l : Launch) (Z : State) (a0 : Array Value) (hw : ∀ d ∈ tables_1, d.before a0 Z = true) (ws : List Jvm.Cond) (a1 : Addr) (q2 : Int64) (h0 : Heap) (n0 : Nat) (Z0 : n0 ≤ h0.size) (g1 : n0 ≤ a1) (HT : own_Tal Z h0 a1 (0 : Int64) (0 : Int64) (0 : Int32) (0 : Int64) (0 : Int64) (0 : Int32) (0 : Int32) (0 : Int32)) :
    own_Met l Z (⟨"com/example/eskew/eskew/server/split/CounterValues$Tally", "<init>", "(J)V"⟩ : MethodName) prog_35_method_1_code 3 none ws ({ frames := 1, cells := 0, slots := 0, locals := 12 } : Room) #[(.ref a1), (.long q2)] h0 (Q_rm4 Z a1 q2 h0 n0) := by
  refine own_enter (g0 := fun m => (mkF m 0 #[.val (.ref a1), .val (.long q2), .second] [])) pn_rm4 (fun m => by first | (simp [entryFrame, mkF, argsToLocals, Value.category, maxLocals]; done) | rfl) ?_
  intro p e s m below meth c s₁ hx hby hml hown hnm hret hlk hZ X0 e0
  have hml : c.maxLocals = 3 := hml
  have hown : s.vm.findClass "com/example/eskew/eskew/server/split/CounterValues$Tally" = some m.cls := hown
  have N0 := Fr.nil n0
  obtain ⟨ET, T1, T2, T3, T4, T5, T6, T7, T8, T9⟩ := HT
  have K0 := Keep.refl h0 [a1]
  refine own_by (fun _ k => XS.aloadN X0.here hx rfl (hb hby d4_0) rfl rfl k) ?_
  obtain ⟨T102, X102, e102, st102⟩ := initO X0 hx hZ hown (hw _ (List.mem_of_getElem? (i := 37) rfl)) (hw _ (List.mem_of_getElem? (i := 9) rfl)) (hw _ (List.mem_of_getElem? (i := 10) rfl)) e0 (g := (mkF m 1 #[.val (.ref a1), .val (.long q2), .second] [(.ref a1)])) rfl (by rw [hml]; rfl) rfl (hb hby d4_1) (by decide) (W := 0) (by show 2 * 0 + _ ≤ _; exact Nat.le_of_eq rfl) (by decide)
  refine own_by st102 ?_
  show own_Go p e below _ T102 (mkF m 4 #[.val (.ref a1), .val (.long q2), .second] [])
  refine own_by (fun _ k => XS.aloadN X102.here hx rfl (hb hby d4_4) rfl rfl k) ?_
  refine own_by (fun _ k => XS.lloadN X102.here hx rfl (hb hby d4_5) rfl k) ?_
  obtain ⟨T103, h103, X103, e103, W103, st103⟩ := putF X102 hx hZ hown (host := "") (Or.inl (hw _ (List.mem_of_getElem? (i := 38) rfl))) Via.refl e102 T1 ET (Or.inl (hw _ (List.mem_of_getElem? (i := 39) rfl))) (hw _ (List.mem_of_getElem? (i := 32) rfl)) (ty := .long) (by decide) rfl rfl (g := (mkF m 6 #[.val (.ref a1), .val (.long q2), .second] [(.long q2), (.ref a1)])) rfl rfl (hb hby d4_6)
  refine own_by st103 ?_
  have N103 := Fr.snoc X103 N0 g1
  have fw103 := T1.same W103
  have K104 := K0.wr W103 (Or.inl (List.mem_of_getElem? (i := 0) rfl))
  have Z103 : n0 ≤ h103.size := Nat.le_trans Z0 (Keep.of_wr W103).1
  show own_Go p e below _ T103 (mkF m 9 #[.val (.ref a1), .val (.long q2), .second] [])
  have f105 := (ET.wr W103)
  have f106 := (T2.other W103 (Or.inr (slot_ne (Or.inl (hw _ (List.mem_of_getElem? (i := 47) rfl))) (Or.inl (hw _ (List.mem_of_getElem? (i := 39) rfl))) (by decide) (t := .long) (t' := .long) (by decide) (by decide))))
  have f107 := (T3.other W103 (Or.inr (slot_ne (Or.inl (hw _ (List.mem_of_getElem? (i := 49) rfl))) (Or.inl (hw _ (List.mem_of_getElem? (i := 39) rfl))) (by decide) (t := .int) (t' := .long) (by decide) (by decide))))
  have f108 := (T4.other W103 (Or.inr (slot_ne (Or.inl (hw _ (List.mem_of_getElem? (i := 51) rfl))) (Or.inl (hw _ (List.mem_of_getElem? (i := 39) rfl))) (by decide) (t := .long) (t' := .long) (by decide) (by decide))))
  have f109 := (T5.other W103 (Or.inr (slot_ne (Or.inl (hw _ (List.mem_of_getElem? (i := 69) rfl))) (Or.inl (hw _ (List.mem_of_getElem? (i := 39) rfl))) (by decide) (t := .long) (t' := .long) (by decide) (by decide))))
  have f110 := (T6.other W103 (Or.inr (slot_ne (Or.inl (hw _ (List.mem_of_getElem? (i := 71) rfl))) (Or.inl (hw _ (List.mem_of_getElem? (i := 39) rfl))) (by decide) (t := .boolean) (t' := .long) (by decide) (by decide))))
  have f111 := (T7.other W103 (Or.inr (slot_ne (Or.inl (hw _ (List.mem_of_getElem? (i := 73) rfl))) (Or.inl (hw _ (List.mem_of_getElem? (i := 39) rfl))) (by decide) (t := .boolean) (t' := .long) (by decide) (by decide))))
  have f112 := (T8.other W103 (Or.inr (slot_ne (Or.inl (hw _ (List.mem_of_getElem? (i := 76) rfl))) (Or.inl (hw _ (List.mem_of_getElem? (i := 39) rfl))) (by decide) (t := (.object "com/example/eskew/eskew/server/split/CounterValues$Placing")) (t' := .long) (by decide) (by decide))))
  have f113 := (T9.other W103 (Or.inr (slot_ne (Or.inl (hw _ (List.mem_of_getElem? (i := 84) rfl))) (Or.inl (hw _ (List.mem_of_getElem? (i := 39) rfl))) (by decide) (t := .int) (t' := .long) (by decide) (by decide))))
  exact own_ret0 X103 hx hlk hret (hb hby d4_9) (by first | exact ⟨rfl, N103, K104, ⟨f105, fw103, f106, f107, f108, f109, f110, f111, f112, f113⟩⟩ | (rw [e103]; exact ⟨rfl, N103, K104, ⟨f105, fw103, f106, f107, f108, f109, f110, f111, f112, f113⟩⟩)) (by decide) (by decide)
def Q_rm1 (Z : State) (a1 : Addr) (nk : Int32) (q3 q4 : Int64) (h0 : Heap) (n0 : Nat) (v : Option Value) (h : Heap) (L : List Loc) : Prop := ∃ ta kt vs, v = none ∧ Fr n0 L ∧ Keep h0 h [a1] ∧ Exa Z h a1 "com/example/eskew/eskew/server/split/CounterValues" ∧ Fld Z h a1 "com/example/eskew/eskew/server/split/CounterValues" "resting" "I" (.int (-1 : Int32)) ∧ Fld Z h a1 "com/example/eskew/eskew/server/split/CounterValues" "rereadNanos" "J" (.long q3) ∧ Fld Z h a1 "com/example/eskew/eskew/server/split/CounterValues" "tallies" "[Lcom/example/eskew/eskew/server/split/CounterValues$Tally;" (.ref ta) ∧ h0.size ≤ ta ∧ Arv Z h ta kt (.object "com/example/eskew/eskew/server/split/CounterValues$Tally") nk vs .null ∧ own_All Z h h0.size ta vs nk q4 ∧ own_Inj vs nk
theorem pn_rm1_2 : plainFor (⟨"com/example/eskew/eskew/server/split/CounterValues", "<init>", "(IJJ)V"⟩ : MethodName) = true := plainFor_of_name (by first | (simp [plainName, overriddenIn, x]; done) | decide +kernel)
theorem d1_0 : decode prog_33_method_1_code 0 = .ok (.aload_n 0, 1) := by decide +kernel
theorem d1_1 : decode prog_33_method_1_code 1 = .ok (.invokespecial 1, 3) := by decide +kernel
theorem d1_4 : decode prog_33_method_1_code 4 = .ok (.aload_n 0, 1) := by decide +kernel
theorem d1_5 : decode prog_33_method_1_code 5 = .ok (.new 7, 3) := by decide +kernel
theorem d1_8 : decode prog_33_method_1_code 8 = .ok (.dup, 1) := by decide +kernel
theorem pd_0 : parseMethodDescriptor "()V" = some ⟨[], none⟩ := by decide +kernel
theorem d1_9 : decode prog_33_method_1_code 9 = .ok (.invokespecial 9, 3) := by decide +kernel
theorem d1_12 : decode prog_33_method_1_code 12 = .ok (.putfield 10, 3) := by decide +kernel
theorem d1_15 : decode prog_33_method_1_code 15 = .ok (.aload_n 0, 1) := by decide +kernel
theorem d1_16 : decode prog_33_method_1_code 16 = .ok (.new 7, 3) := by decide +kernel
theorem d1_19 : decode prog_33_method_1_code 19 = .ok (.dup, 1) := by decide +kernel
theorem d1_20 : decode prog_33_method_1_code 20 = .ok (.invokespecial 9, 3) := by decide +kernel
theorem d1_23 : decode prog_33_method_1_code 23 = .ok (.putfield 16, 3) := by decide +kernel
theorem d1_26 : decode prog_33_method_1_code 26 = .ok (.aload_n 0, 1) := by decide +kernel
theorem d1_27 : decode prog_33_method_1_code 27 = .ok (.iconst (-1), 1) := by decide +kernel
theorem d1_28 : decode prog_33_method_1_code 28 = .ok (.putfield 19, 3) := by decide +kernel
theorem d1_31 : decode prog_33_method_1_code 31 = .ok (.aload_n 0, 1) := by decide +kernel
theorem d1_32 : decode prog_33_method_1_code 32 = .ok (.iconst 1, 1) := by decide +kernel
theorem d1_33 : decode prog_33_method_1_code 33 = .ok (.putfield 23, 3) := by decide +kernel
theorem d1_36 : decode prog_33_method_1_code 36 = .ok (.aload_n 0, 1) := by decide +kernel
theorem d1_37 : decode prog_33_method_1_code 37 = .ok (.lload_n 2, 1) := by decide +kernel
theorem d1_38 : decode prog_33_method_1_code 38 = .ok (.putfield 26, 3) := by decide +kernel
theorem d1_41 : decode prog_33_method_1_code 41 = .ok (.aload_n 0, 1) := by decide +kernel
theorem d1_42 : decode prog_33_method_1_code 42 = .ok (.iload_n 1, 1) := by decide +kernel
theorem d1_43 : decode prog_33_method_1_code 43 = .ok (.anewarray 30, 3) := by decide +kernel
theorem d1_46 : decode prog_33_method_1_code 46 = .ok (.putfield 32, 3) := by decide +kernel
theorem d1_49 : decode prog_33_method_1_code 49 = .ok (.iconst 0, 1) := by decide +kernel
theorem d1_50 : decode prog_33_method_1_code 50 = .ok (.istore 6, 2) := by decide +kernel
theorem d1_52 : decode prog_33_method_1_code 52 = .ok (.iload 6, 2) := by decide +kernel
theorem d1_54 : decode prog_33_method_1_code 54 = .ok (.iload_n 1, 1) := by decide +kernel
theorem d1_55 : decode prog_33_method_1_code 55 = .ok (.if_icmp .ge 25, 3) := by decide +kernel
theorem d1_58 : decode prog_33_method_1_code 58 = .ok (.aload_n 0, 1) := by decide +kernel
theorem d1_59 : decode prog_33_method_1_code 59 = .ok (.getfield 32, 3) := by decide +kernel
theorem d1_62 : decode prog_33_method_1_code 62 = .ok (.iload 6, 2) := by decide +kernel
theorem d1_64 : decode prog_33_method_1_code 64 = .ok (.new 30, 3) := by decide +kernel
theorem d1_67 : decode prog_33_method_1_code 67 = .ok (.dup, 1) := by decide +kernel
theorem d1_68 : decode prog_33_method_1_code 68 = .ok (.lload 4, 2) := by decide +kernel
theorem pd_1 : parseMethodDescriptor "(J)V" = some ⟨[.long], none⟩ := by decide +kernel
theorem d1_70 : decode prog_33_method_1_code 70 = .ok (.invokespecial 36, 3) := by decide +kernel
theorem d1_73 : decode prog_33_method_1_code 73 = .ok (.aastore, 1) := by decide +kernel
theorem d1_74 : decode prog_33_method_1_code 74 = .ok (.iinc 6 1, 3) := by decide +kernel
theorem d1_77 : decode prog_33_method_1_code 77 = .ok (.goto (-25), 3) := by decide +kernel
theorem d1_80 : decode prog_33_method_1_code 80 = .ok (.return_, 1) := by decide +kernel
set_option maxRecDepth 65536 in
set_option maxHeartbeats 40000000 in
theorem rm1_2 (l : Launch) (Z : State) (a0 : Array Value) (hw : ∀ d ∈ tables_1, d.before a0 Z = true) (ws : List Jvm.Cond) (a1 : Addr) (q3 q4 : Int64) (h0 : Heap) (n0 : Nat) (Z0 : n0 ≤ h0.size) (g1 : n0 ≤ a1) (E1 : Exa Z h0 a1 "com/example/eskew/eskew/server/split/CounterValues") (F_rising : Fld Z h0 a1 "com/example/eskew/eskew/server/split/CounterValues" "rising" "Lcom/example/eskew/eskew/server/split/CounterValues$WideSum;" .null) (F_falling : Fld Z h0 a1 "com/example/eskew/eskew/server/split/CounterValues" "falling" "Lcom/example/eskew/eskew/server/split/CounterValues$WideSum;" .null) (F_resting : Fld Z h0 a1 "com/example/eskew/eskew/server/split/CounterValues" "resting" "I" (.int (0 : Int32))) (F_nextToRest : Fld Z h0 a1 "com/example/eskew/eskew/server/split/CounterValues" "nextToRest" "I" (.int (0 : Int32))) (F_rereadNanos : Fld Z h0 a1 "com/example/eskew/eskew/server/split/CounterValues" "rereadNanos" "J" (.long (0 : Int64))) (F_tallies : Fld Z h0 a1 "com/example/eskew/eskew/server/split/CounterValues" "tallies" "[Lcom/example/eskew/eskew/server/split/CounterValues$Tally;" .null) :
    own_Met l Z (⟨"com/example/eskew/eskew/server/split/CounterValues", "<init>", "(IJJ)V"⟩ : MethodName) prog_33_method_1_code 7 none ws ({ frames := 2, cells := 8, slots := 54, locals := 48 } : Room) #[(.ref a1), (.int (2 : Int32)), (.long q3), (.long q4)] h0 (Q_rm1 Z a1 (2 : Int32) q3 q4 h0 n0) := by
  refine own_enter (g0 := fun m => (mkF m 0 #[.val (.ref a1), .val (.int (2 : Int32)), .val (.long q3), .second, .val (.long q4), .second, .unset] [])) pn_rm1_2 (fun m => by first | (simp [entryFrame, mkF, argsToLocals, Value.category, maxLocals]; done) | rfl) ?_
  intro p e s m below meth c s₁ hx hby hml hown hnm hret hlk hZ X0 e0
  have hml : c.maxLocals = 7 := hml
  have hown : s.vm.findClass "com/example/eskew/eskew/server/split/CounterValues" = some m.cls := hown
  have N0 := Fr.nil n0
  have K0 := Keep.refl h0 [a1]
  refine own_by (fun _ k => XS.aloadN X0.here hx rfl (hb hby d1_0) rfl rfl k) ?_
  obtain ⟨T114, X114, e114, st114⟩ := initO X0 hx hZ hown (hw _ (List.mem_of_getElem? (i := 8) rfl)) (hw _ (List.mem_of_getElem? (i := 9) rfl)) (hw _ (List.mem_of_getElem? (i := 10) rfl)) e0 (g := (mkF m 1 #[.val (.ref a1), .val (.int (2 : Int32)), .val (.long q3), .second, .val (.long q4), .second, .unset] [(.ref a1)])) rfl (by rw [hml]; rfl) rfl (hb hby d1_1) (by decide) (W := 0) (by show 2 * 0 + _ ≤ _; exact Nat.le_of_eq rfl) (by decide)
  refine own_by st114 ?_
  show own_Go p e below _ T114 (mkF m 4 #[.val (.ref a1), .val (.int (2 : Int32)), .val (.long q3), .second, .val (.long q4), .second, .unset] [])
  refine own_by (fun _ k => XS.aloadN X114.here hx rfl (hb hby d1_4) rfl rfl k) ?_
  obtain ⟨T115, h115, X115, e115, E115, A115, D115, -, st115⟩ := newO X114 hx hZ hown (hw _ (List.mem_of_getElem? (i := 11) rfl)) (hw _ (List.mem_of_getElem? (i := 12) rfl)) (hw _ (List.mem_of_getElem? (i := 13) rfl)) e114 (g := (mkF m 5 #[.val (.ref a1), .val (.int (2 : Int32)), .val (.long q3), .second, .val (.long q4), .second, .unset] [(.ref a1)])) rfl (hb hby d1_5) (by decide) (by decide)
  obtain ⟨b115, g115⟩ : ∃ zq, zq = h0.size := ⟨_, rfl⟩
  rw [← g115] at A115 D115 st115
  have ne_a1_b115 : a1 ≠ b115 := Nat.ne_of_lt (Nat.lt_of_lt_of_le F_rising.lt (Nat.le_of_eq g115.symm))
  have og_b115 : n0 ≤ b115 := Nat.le_trans Z0 (Nat.le_of_eq g115.symm)
  have sz_b115 : h0.size ≤ b115 := Nat.le_trans K0.1 (Nat.le_of_eq g115.symm)
  have Z115 : n0 ≤ h115.size := Nat.le_trans Z0 E115.1
  have K116 := K0.ext E115
  have F_low_b115 : Fld Z h115 b115 "com/example/eskew/eskew/server/split/CounterValues$WideSum" "low" "J" (.long (0 : Int64)) := D115 (Or.inl (hw _ (List.mem_of_getElem? (i := 102) rfl))) (ty := .long) (by decide)
  have F_high_b115 : Fld Z h115 b115 "com/example/eskew/eskew/server/split/CounterValues$WideSum" "high" "J" (.long (0 : Int64)) := D115 (Or.inl (hw _ (List.mem_of_getElem? (i := 109) rfl))) (ty := .long) (by decide)
  refine own_by st115 ?_
  refine own_by (fun _ k => XS.dup X115.here hx rfl (hb hby d1_8) rfl rfl k) ?_
  show own_Go p e below _ T115 (mkF m 9 #[.val (.ref a1), .val (.int (2 : Int32)), .val (.long q3), .second, .val (.long q4), .second, .unset] [(.ref b115), (.ref b115), (.ref a1)])
  obtain ⟨_, T117, L117, X117, ⟨rfl, N117q, e117⟩, st117⟩ := own_callR X115 hx hZ hown (y := (⟨"com/example/eskew/eskew/server/split/CounterValues$WideSum", "<init>", "()V"⟩ : MethodName)) rfl (hw _ (List.mem_of_getElem? (i := 14) rfl)) (hw _ (List.mem_of_getElem? (i := 15) rfl)) (hw _ (List.mem_of_getElem? (i := 13) rfl)) (hw _ (List.mem_of_getElem? (i := 16) rfl)) (by decide) (a := b115) (argsL := []) (rest := [(.ref b115), (.ref a1)]) e115 (rm3 l Z a0 hw [] b115 h115 n0 Z115) (g := (mkF m 9 #[.val (.ref a1), .val (.int (2 : Int32)), .val (.long q3), .second, .val (.long q4), .second, .unset] [(.ref b115), (.ref b115), (.ref a1)])) rfl (by rw [hml]; rfl) (lenOf pd_0 rfl) rfl (W := 2) (by show 2 * 0 + _ ≤ _; exact Nat.le_of_eq rfl) (hb hby d1_9) (by decide) (by decide) (by decide) (by decide)
  have N117 := Fr.app N0 N117q
  refine own_by st117 ?_
  have f119 := (F_rising.ext E115)
  have f120 := (E1.ext E115)
  obtain ⟨T118, h118, X118, e118, W118, st118⟩ := putF X117 hx hZ hown (host := "") (Or.inl (hw _ (List.mem_of_getElem? (i := 18) rfl))) Via.refl e117 f119 f120 (Or.inr ⟨(hw _ (List.mem_of_getElem? (i := 19) rfl)), rfl, hnm⟩) (hw _ (List.mem_of_getElem? (i := 2) rfl)) (ty := (.object "com/example/eskew/eskew/server/split/CounterValues$WideSum")) (by decide) rfl rfl (g := (mkF m 12 #[.val (.ref a1), .val (.int (2 : Int32)), .val (.long q3), .second, .val (.long q4), .second, .unset] [(.ref b115), (.ref a1)])) rfl rfl (hb hby d1_12)
  refine own_by st118 ?_
  have N118 := Fr.snoc X118 N117 g1
  have fw118 := f119.same W118
  have K121 := K116.wr W118 (Or.inl (List.mem_of_getElem? (i := 0) rfl))
  have Z118 : n0 ≤ h118.size := Nat.le_trans Z115 (Keep.of_wr W118).1
  refine own_by (fun _ k => XS.aloadN X118.here hx rfl (hb hby d1_15) rfl rfl k) ?_
  show own_Go p e below _ T118 (mkF m 16 #[.val (.ref a1), .val (.int (2 : Int32)), .val (.long q3), .second, .val (.long q4), .second, .unset] [(.ref a1)])
  obtain ⟨T122, h122, X122, e122, E122, A122, D122, -, st122⟩ := newO X118 hx hZ hown (hw _ (List.mem_of_getElem? (i := 11) rfl)) (hw _ (List.mem_of_getElem? (i := 12) rfl)) (hw _ (List.mem_of_getElem? (i := 13) rfl)) e118 (g := (mkF m 16 #[.val (.ref a1), .val (.int (2 : Int32)), .val (.long q3), .second, .val (.long q4), .second, .unset] [(.ref a1)])) rfl (hb hby d1_16) (by decide) (by decide)
  obtain ⟨b122, g122⟩ : ∃ zq, zq = h118.size := ⟨_, rfl⟩
  rw [← g122] at A122 D122 st122
  have ne_a1_b122 : a1 ≠ b122 := Nat.ne_of_lt (Nat.lt_of_lt_of_le fw118.lt (Nat.le_of_eq g122.symm))
  have f123 := (A115.wr W118)
  have ne_b115_b122 : b115 ≠ b122 := Nat.ne_of_lt (Nat.lt_of_lt_of_le f123.lt (Nat.le_of_eq g122.symm))
  have og_b122 : n0 ≤ b122 := Nat.le_trans Z118 (Nat.le_of_eq g122.symm)
  have sz_b122 : h0.size ≤ b122 := Nat.le_trans K121.1 (Nat.le_of_eq g122.symm)
  have Z122 : n0 ≤ h122.size := Nat.le_trans Z118 E122.1
  have K124 := K121.ext E122
  have F_low_b122 : Fld Z h122 b122 "com/example/eskew/eskew/server/split/CounterValues$WideSum" "low" "J" (.long (0 : Int64)) := D122 (Or.inl (hw _ (List.mem_of_getElem? (i := 102) rfl))) (ty := .long) (by decide)
  have F_high_b122 : Fld Z h122 b122 "com/example/eskew/eskew/server/split/CounterValues$WideSum" "high" "J" (.long (0 : Int64)) := D122 (Or.inl (hw _ (List.mem_of_getElem? (i := 109) rfl))) (ty := .long) (by decide)
  refine own_by st122 ?_
  refine own_by (fun _ k => XS.dup X122.here hx rfl (hb hby d1_19) rfl rfl k) ?_
  obtain ⟨_, T125, L125, X125, ⟨rfl, N125q, e125⟩, st125⟩ := own_callR X122 hx hZ hown (y := (⟨"com/example/eskew/eskew/server/split/CounterValues$WideSum", "<init>", "()V"⟩ : MethodName)) rfl (hw _ (List.mem_of_getElem? (i := 14) rfl)) (hw _ (List.mem_of_getElem? (i := 15) rfl)) (hw _ (List.mem_of_getElem? (i := 13) rfl)) (hw _ (List.mem_of_getElem? (i := 16) rfl)) (by decide) (a := b122) (argsL := []) (rest := [(.ref b122), (.ref a1)]) e122 (rm3 l Z a0 hw [] b122 h122 n0 Z122) (g := (mkF m 20 #[.val (.ref a1), .val (.int (2 : Int32)), .val (.long q3), .second, .val (.long q4), .second, .unset] [(.ref b122), (.ref b122), (.ref a1)])) rfl (by rw [hml]; rfl) (lenOf pd_0 rfl) rfl (W := 2) (by show 2 * 0 + _ ≤ _; exact Nat.le_of_eq rfl) (hb hby d1_20) (by decide) (by decide) (by decide) (by decide)
  have N125 := Fr.app N118 N125q
  refine own_by st125 ?_
  show own_Go p e below _ T125 (mkF m 23 #[.val (.ref a1), .val (.int (2 : Int32)), .val (.long q3), .second, .val (.long q4), .second, .unset] [(.ref b122), (.ref a1)])
  have f127 := (((F_falling.ext E115).other W118 (Or.inr (slot_ne (Or.inr (hw _ (List.mem_of_getElem? (i := 21) rfl))) (Or.inr (hw _ (List.mem_of_getElem? (i := 19) rfl))) (by decide) (t := (.object "com/example/eskew/eskew/server/split/CounterValues$WideSum")) (t' := (.object "com/example/eskew/eskew/server/split/CounterValues$WideSum")) (by decide) (by decide)))).ext E122)
  have f128 := ((f120.wr W118).ext E122)
  obtain ⟨T126, h126, X126, e126, W126, st126⟩ := putF X125 hx hZ hown (host := "") (Or.inl (hw _ (List.mem_of_getElem? (i := 20) rfl))) Via.refl e125 f127 f128 (Or.inr ⟨(hw _ (List.mem_of_getElem? (i := 21) rfl)), rfl, hnm⟩) (hw _ (List.mem_of_getElem? (i := 2) rfl)) (ty := (.object "com/example/eskew/eskew/server/split/CounterValues$WideSum")) (by decide) rfl rfl (g := (mkF m 23 #[.val (.ref a1), .val (.int (2 : Int32)), .val (.long q3), .second, .val (.long q4), .second, .unset] [(.ref b122), (.ref a1)])) rfl rfl (hb hby d1_23)
  refine own_by st126 ?_
  have N126 := Fr.snoc X126 N125 g1
  have fw126 := f127.same W126
  have K129 := K124.wr W126 (Or.inl (List.mem_of_getElem? (i := 0) rfl))
  have Z126 : n0 ≤ h126.size := Nat.le_trans Z122 (Keep.of_wr W126).1
  refine own_by (fun _ k => XS.aloadN X126.here hx rfl (hb hby d1_26) rfl rfl k) ?_
  refine own_by (fun _ k => XS.iconst X126.here hx rfl (hb hby d1_27) k) ?_
  show own_Go p e below _ T126 (mkF m 28 #[.val (.ref a1), .val (.int (2 : Int32)), .val (.long q3), .second, .val (.long q4), .second, .unset] [(.int (-1 : Int32)), (.ref a1)])
  have f131 := ((((F_resting.ext E115).other W118 (Or.inr (slot_ne (Or.inl (hw _ (List.mem_of_getElem? (i := 23) rfl))) (Or.inr (hw _ (List.mem_of_getElem? (i := 19) rfl))) (by decide) (t := .int) (t' := (.object "com/example/eskew/eskew/server/split/CounterValues$WideSum")) (by decide) (by decide)))).ext E122).other W126 (Or.inr (slot_ne (Or.inl (hw _ (List.mem_of_getElem? (i := 23) rfl))) (Or.inr (hw _ (List.mem_of_getElem? (i := 21) rfl))) (by decide) (t := .int) (t' := (.object "com/example/eskew/eskew/server/split/CounterValues$WideSum")) (by decide) (by decide))))
  have f132 := (f128.wr W126)
  obtain ⟨T130, h130, X130, e130, W130, st130⟩ := putF X126 hx hZ hown (host := "") (Or.inl (hw _ (List.mem_of_getElem? (i := 22) rfl))) Via.refl e126 f131 f132 (Or.inl (hw _ (List.mem_of_getElem? (i := 23) rfl))) (hw _ (List.mem_of_getElem? (i := 2) rfl)) (ty := .int) (by decide) rfl rfl (g := (mkF m 28 #[.val (.ref a1), .val (.int (2 : Int32)), .val (.long q3), .second, .val (.long q4), .second, .unset] [(.int (-1 : Int32)), (.ref a1)])) rfl rfl (hb hby d1_28)
  refine own_by st130 ?_
  have N130 := Fr.snoc X130 N126 g1
  have fw130 := f131.same W130
  have K133 := K129.wr W130 (Or.inl (List.mem_of_getElem? (i := 0) rfl))
  have Z130 : n0 ≤ h130.size := Nat.le_trans Z126 (Keep.of_wr W130).1
  refine own_by (fun _ k => XS.aloadN X130.here hx rfl (hb hby d1_31) rfl rfl k) ?_
  refine own_by (fun _ k => XS.iconst X130.here hx rfl (hb hby d1_32) k) ?_
  show own_Go p e below _ T130 (mkF m 33 #[.val (.ref a1), .val (.int (2 : Int32)), .val (.long q3), .second, .val (.long q4), .second, .unset] [(.int (1 : Int32)), (.ref a1)])
  have f135 := (((((F_nextToRest.ext E115).other W118 (Or.inr (slot_ne (Or.inl (hw _ (List.mem_of_getElem? (i := 25) rfl))) (Or.inr (hw _ (List.mem_of_getElem? (i := 19) rfl))) (by decide) (t := .int) (t' := (.object "com/example/eskew/eskew/server/split/CounterValues$WideSum")) (by decide) (by decide)))).ext E122).other W126 (Or.inr (slot_ne (Or.inl (hw _ (List.mem_of_getElem? (i := 25) rfl))) (Or.inr (hw _ (List.mem_of_getElem? (i := 21) rfl))) (by decide) (t := .int) (t' := (.object "com/example/eskew/eskew/server/split/CounterValues$WideSum")) (by decide) (by decide)))).other W130 (Or.inr (slot_ne (Or.inl (hw _ (List.mem_of_getElem? (i := 25) rfl))) (Or.inl (hw _ (List.mem_of_getElem? (i := 23) rfl))) (by decide) (t := .int) (t' := .int) (by decide) (by decide))))
  have f136 := (f132.wr W130)
  obtain ⟨T134, h134, X134, e134, W134, st134⟩ := putF X130 hx hZ hown (host := "") (Or.inl (hw _ (List.mem_of_getElem? (i := 24) rfl))) Via.refl e130 f135 f136 (Or.inl (hw _ (List.mem_of_getElem? (i := 25) rfl))) (hw _ (List.mem_of_getElem? (i := 2) rfl)) (ty := .int) (by decide) rfl rfl (g := (mkF m 33 #[.val (.ref a1), .val (.int (2 : Int32)), .val (.long q3), .second, .val (.long q4), .second, .unset] [(.int (1 : Int32)), (.ref a1)])) rfl rfl (hb hby d1_33)
  refine own_by st134 ?_
  have N134 := Fr.snoc X134 N130 g1
  have fw134 := f135.same W134
  have K137 := K133.wr W134 (Or.inl (List.mem_of_getElem? (i := 0) rfl))
  have Z134 : n0 ≤ h134.size := Nat.le_trans Z130 (Keep.of_wr W134).1
  refine own_by (fun _ k => XS.aloadN X134.here hx rfl (hb hby d1_36) rfl rfl k) ?_
  refine own_by (fun _ k => XS.lloadN X134.here hx rfl (hb hby d1_37) rfl k) ?_
  show own_Go p e below _ T134 (mkF m 38 #[.val (.ref a1), .val (.int (2 : Int32)), .val (.long q3), .second, .val (.long q4), .second, .unset] [(.long q3), (.ref a1)])
  have f139 := ((((((F_rereadNanos.ext E115).other W118 (Or.inr (slot_ne (Or.inr (hw _ (List.mem_of_getElem? (i := 27) rfl))) (Or.inr (hw _ (List.mem_of_getElem? (i := 19) rfl))) (by decide) (t := .long) (t' := (.object "com/example/eskew/eskew/server/split/CounterValues$WideSum")) (by decide) (by decide)))).ext E122).other W126 (Or.inr (slot_ne (Or.inr (hw _ (List.mem_of_getElem? (i := 27) rfl))) (Or.inr (hw _ (List.mem_of_getElem? (i := 21) rfl))) (by decide) (t := .long) (t' := (.object "com/example/eskew/eskew/server/split/CounterValues$WideSum")) (by decide) (by decide)))).other W130 (Or.inr (slot_ne (Or.inr (hw _ (List.mem_of_getElem? (i := 27) rfl))) (Or.inl (hw _ (List.mem_of_getElem? (i := 23) rfl))) (by decide) (t := .long) (t' := .int) (by decide) (by decide)))).other W134 (Or.inr (slot_ne (Or.inr (hw _ (List.mem_of_getElem? (i := 27) rfl))) (Or.inl (hw _ (List.mem_of_getElem? (i := 25) rfl))) (by decide) (t := .long) (t' := .int) (by decide) (by decide))))
  have f140 := (f136.wr W134)
  obtain ⟨T138, h138, X138, e138, W138, st138⟩ := putF X134 hx hZ hown (host := "") (Or.inl (hw _ (List.mem_of_getElem? (i := 26) rfl))) Via.refl e134 f139 f140 (Or.inr ⟨(hw _ (List.mem_of_getElem? (i := 27) rfl)), rfl, hnm⟩) (hw _ (List.mem_of_getElem? (i := 2) rfl)) (ty := .long) (by decide) rfl rfl (g := (mkF m 38 #[.val (.ref a1), .val (.int (2 : Int32)), .val (.long q3), .second, .val (.long q4), .second, .unset] [(.long q3), (.ref a1)])) rfl rfl (hb hby d1_38)
  refine own_by st138 ?_
  have N138 := Fr.snoc X138 N134 g1
  have fw138 := f139.same W138
  have K141 := K137.wr W138 (Or.inl (List.mem_of_getElem? (i := 0) rfl))
  have Z138 : n0 ≤ h138.size := Nat.le_trans Z134 (Keep.of_wr W138).1
  refine own_by (fun _ k => XS.aloadN X138.here hx rfl (hb hby d1_41) rfl rfl k) ?_
  refine own_by (fun _ k => XS.iloadN X138.here hx rfl (hb hby d1_42) rfl k) ?_
  show own_Go p e below _ T138 (mkF m 43 #[.val (.ref a1), .val (.int (2 : Int32)), .val (.long q3), .second, .val (.long q4), .second, .unset] [(.int (2 : Int32)), (.ref a1)])
  obtain ⟨T142, h142, k142, X142, e142, E142, A142, O142, st142⟩ := newR X138 hx hZ hown (hw _ (List.mem_of_getElem? (i := 28) rfl)) (hw _ (List.mem_of_getElem? (i := 29) rfl)) e138 (g := (mkF m 43 #[.val (.ref a1), .val (.int (2 : Int32)), .val (.long q3), .second, .val (.long q4), .second, .unset] [(.int (2 : Int32)), (.ref a1)])) rfl (hb hby d1_43) rfl (by decide) (cap := 2) (by decide) (by decide) (by decide) (by decide)
  obtain ⟨b142, g142⟩ : ∃ zq, zq = h138.size := ⟨_, rfl⟩
  rw [← g142] at A142 st142
  have f143 := (((((fw118.ext E122).other W126 (Or.inr (slot_ne (Or.inr (hw _ (List.mem_of_getElem? (i := 19) rfl))) (Or.inr (hw _ (List.mem_of_getElem? (i := 21) rfl))) (by decide) (t := (.object "com/example/eskew/eskew/server/split/CounterValues$WideSum")) (t' := (.object "com/example/eskew/eskew/server/split/CounterValues$WideSum")) (by decide) (by decide)))).other W130 (Or.inr (slot_ne (Or.inr (hw _ (List.mem_of_getElem? (i := 19) rfl))) (Or.inl (hw _ (List.mem_of_getElem? (i := 23) rfl))) (by decide) (t := (.object "com/example/eskew/eskew/server/split/CounterValues$WideSum")) (t' := .int) (by decide) (by decide)))).other W134 (Or.inr (slot_ne (Or.inr (hw _ (List.mem_of_getElem? (i := 19) rfl))) (Or.inl (hw _ (List.mem_of_getElem? (i := 25) rfl))) (by decide) (t := (.object "com/example/eskew/eskew/server/split/CounterValues$WideSum")) (t' := .int) (by decide) (by decide)))).other W138 (Or.inr (slot_ne (Or.inr (hw _ (List.mem_of_getElem? (i := 19) rfl))) (Or.inr (hw _ (List.mem_of_getElem? (i := 27) rfl))) (by decide) (t := (.object "com/example/eskew/eskew/server/split/CounterValues$WideSum")) (t' := .long) (by decide) (by decide))))
  have ne_a1_b142 : a1 ≠ b142 := Nat.ne_of_lt (Nat.lt_of_lt_of_le f143.lt (Nat.le_of_eq g142.symm))
  have f144 := (((((f123.ext E122).wr W126).wr W130).wr W134).wr W138)
  have ne_b115_b142 : b115 ≠ b142 := Nat.ne_of_lt (Nat.lt_of_lt_of_le f144.lt (Nat.le_of_eq g142.symm))
  have f145 := ((((A122.wr W126).wr W130).wr W134).wr W138)
  have ne_b122_b142 : b122 ≠ b142 := Nat.ne_of_lt (Nat.lt_of_lt_of_le f145.lt (Nat.le_of_eq g142.symm))
  have og_b142 : n0 ≤ b142 := Nat.le_trans Z138 (Nat.le_of_eq g142.symm)
  have sz_b142 : h0.size ≤ b142 := Nat.le_trans K141.1 (Nat.le_of_eq g142.symm)
  have Z142 : n0 ≤ h142.size := Nat.le_trans Z138 E142.1
  have K146 := K141.ext E142
  have V142 : Arv Z h142 b142 k142 (.object "com/example/eskew/eskew/server/split/CounterValues$Tally") (2 : Int32) [.null, .null] .null := (Arv.new A142 (by decide)).pad (pad_rep [] .null 2)
  refine own_by st142 ?_
  have f148 := ((((((((F_tallies.ext E115).other W118 (Or.inr (slot_ne (Or.inr (hw _ (List.mem_of_getElem? (i := 31) rfl))) (Or.inr (hw _ (List.mem_of_getElem? (i := 19) rfl))) (by decide) (t := (.array (.object "com/example/eskew/eskew/server/split/CounterValues$Tally"))) (t' := (.object "com/example/eskew/eskew/server/split/CounterValues$WideSum")) (by decide) (by decide)))).ext E122).other W126 (Or.inr (slot_ne (Or.inr (hw _ (List.mem_of_getElem? (i := 31) rfl))) (Or.inr (hw _ (List.mem_of_getElem? (i := 21) rfl))) (by decide) (t := (.array (.object "com/example/eskew/eskew/server/split/CounterValues$Tally"))) (t' := (.object "com/example/eskew/eskew/server/split/CounterValues$WideSum")) (by decide) (by decide)))).other W130 (Or.inr (slot_ne (Or.inr (hw _ (List.mem_of_getElem? (i := 31) rfl))) (Or.inl (hw _ (List.mem_of_getElem? (i := 23) rfl))) (by decide) (t := (.array (.object "com/example/eskew/eskew/server/split/CounterValues$Tally"))) (t' := .int) (by decide) (by decide)))).other W134 (Or.inr (slot_ne (Or.inr (hw _ (List.mem_of_getElem? (i := 31) rfl))) (Or.inl (hw _ (List.mem_of_getElem? (i := 25) rfl))) (by decide) (t := (.array (.object "com/example/eskew/eskew/server/split/CounterValues$Tally"))) (t' := .int) (by decide) (by decide)))).other W138 (Or.inr (slot_ne (Or.inr (hw _ (List.mem_of_getElem? (i := 31) rfl))) (Or.inr (hw _ (List.mem_of_getElem? (i := 27) rfl))) (by decide) (t := (.array (.object "com/example/eskew/eskew/server/split/CounterValues$Tally"))) (t' := .long) (by decide) (by decide)))).ext E142)
  have f149 := ((f140.wr W138).ext E142)
  obtain ⟨T147, h147, X147, e147, W147, st147⟩ := putF X142 hx hZ hown (host := "") (Or.inl (hw _ (List.mem_of_getElem? (i := 30) rfl))) Via.refl e142 f148 f149 (Or.inr ⟨(hw _ (List.mem_of_getElem? (i := 31) rfl)), rfl, hnm⟩) (hw _ (List.mem_of_getElem? (i := 2) rfl)) (ty := (.array (.object "com/example/eskew/eskew/server/split/CounterValues$Tally"))) (by decide) rfl rfl (g := (mkF m 46 #[.val (.ref a1), .val (.int (2 : Int32)), .val (.long q3), .second, .val (.long q4), .second, .unset] [(.ref b142), (.ref a1)])) rfl rfl (hb hby d1_46)
  refine own_by st147 ?_
  have N147 := Fr.snoc X147 N138 g1
  have fw147 := f148.same W147
  have K150 := K146.wr W147 (Or.inl (List.mem_of_getElem? (i := 0) rfl))
  have Z147 : n0 ≤ h147.size := Nat.le_trans Z142 (Keep.of_wr W147).1
  refine own_by (fun _ k => XS.iconst X147.here hx rfl (hb hby d1_49) k) ?_
  show own_Go p e below _ T147 (mkF m 50 #[.val (.ref a1), .val (.int (2 : Int32)), .val (.long q3), .second, .val (.long q4), .second, .unset] [(.int (0 : Int32))])
  refine own_by (fun _ k => XS.istore X147.here hx rfl (hb hby d1_50) rfl (l' := #[.val (.ref a1), .val (.int (2 : Int32)), .val (.long q3), .second, .val (.long q4), .second, .val (.int (0 : Int32))]) rfl k) ?_
  refine own_by (fun _ k => XS.iload X147.here hx rfl (hb hby d1_52) rfl k) ?_
  refine own_by (fun _ k => XS.iloadN X147.here hx rfl (hb hby d1_54) rfl k) ?_
  show own_Go p e below _ T147 (mkF m 55 #[.val (.ref a1), .val (.int (2 : Int32)), .val (.long q3), .second, .val (.long q4), .second, .val (.int (0 : Int32))] [(.int (2 : Int32)), (.int (0 : Int32))])
  refine own_by (fun _ k => XS.icmpNo X147.here hx rfl (hb hby d1_55) rfl (tlt (by decide : (0 : Int32) < (2 : Int32))).2.1 k) ?_
  refine own_by (fun _ k => XS.aloadN X147.here hx rfl (hb hby d1_58) rfl rfl k) ?_
  obtain ⟨T151, X151, e151, st151⟩ := getF X147 hx hZ hown (host := "") (Or.inl (hw _ (List.mem_of_getElem? (i := 30) rfl))) Via.refl e147 fw147 (g := (mkF m 59 #[.val (.ref a1), .val (.int (2 : Int32)), .val (.long q3), .second, .val (.long q4), .second, .val (.int (0 : Int32))] [(.ref a1)])) rfl rfl (hb hby d1_59)
  refine own_by st151 ?_
  show own_Go p e below _ T151 (mkF m 62 #[.val (.ref a1), .val (.int (2 : Int32)), .val (.long q3), .second, .val (.long q4), .second, .val (.int (0 : Int32))] [(.ref b142)])
  refine own_by (fun _ k => XS.iload X151.here hx rfl (hb hby d1_62) rfl k) ?_
  obtain ⟨T152, h152, X152, e152, E152, A152, D152, -, st152⟩ := newO X151 hx hZ hown (hw _ (List.mem_of_getElem? (i := 28) rfl)) (hw _ (List.mem_of_getElem? (i := 32) rfl)) (hw _ (List.mem_of_getElem? (i := 33) rfl)) e151 (g := (mkF m 64 #[.val (.ref a1), .val (.int (2 : Int32)), .val (.long q3), .second, .val (.long q4), .second, .val (.int (0 : Int32))] [(.int (0 : Int32)), (.ref b142)])) rfl (hb hby d1_64) (by decide) (by decide)
  obtain ⟨b152, g152⟩ : ∃ zq, zq = h147.size := ⟨_, rfl⟩
  rw [← g152] at A152 D152 st152
  have f153 := ((f143.ext E142).other W147 (Or.inr (slot_ne (Or.inr (hw _ (List.mem_of_getElem? (i := 19) rfl))) (Or.inr (hw _ (List.mem_of_getElem? (i := 31) rfl))) (by decide) (t := (.object "com/example/eskew/eskew/server/split/CounterValues$WideSum")) (t' := (.array (.object "com/example/eskew/eskew/server/split/CounterValues$Tally"))) (by decide) (by decide))))
  have ne_a1_b152 : a1 ≠ b152 := Nat.ne_of_lt (Nat.lt_of_lt_of_le f153.lt (Nat.le_of_eq g152.symm))
  have f154 := ((f144.ext E142).wr W147)
  have ne_b115_b152 : b115 ≠ b152 := Nat.ne_of_lt (Nat.lt_of_lt_of_le f154.lt (Nat.le_of_eq g152.symm))
  have f155 := ((f145.ext E142).wr W147)
  have ne_b122_b152 : b122 ≠ b152 := Nat.ne_of_lt (Nat.lt_of_lt_of_le f155.lt (Nat.le_of_eq g152.symm))
  have f156 := (V142.other W147 (Ne.symm ne_a1_b142))
  have ne_b142_b152 : b142 ≠ b152 := Nat.ne_of_lt (Nat.lt_of_lt_of_le f156.lt (Nat.le_of_eq g152.symm))
  have og_b152 : n0 ≤ b152 := Nat.le_trans Z147 (Nat.le_of_eq g152.symm)
  have sz_b152 : h0.size ≤ b152 := Nat.le_trans K150.1 (Nat.le_of_eq g152.symm)
  have Z152 : n0 ≤ h152.size := Nat.le_trans Z147 E152.1
  have K157 := K150.ext E152
  have F_since_b152 : Fld Z h152 b152 "com/example/eskew/eskew/server/split/CounterValues$Tally" "since" "J" (.long (0 : Int64)) := D152 (Or.inl (hw _ (List.mem_of_getElem? (i := 39) rfl))) (ty := .long) (by decide)
  have F_writesSent_b152 : Fld Z h152 b152 "com/example/eskew/eskew/server/split/CounterValues$Tally" "writesSent" "J" (.long (0 : Int64)) := D152 (Or.inl (hw _ (List.mem_of_getElem? (i := 47) rfl))) (ty := .long) (by decide)
  have F_writes_b152 : Fld Z h152 b152 "com/example/eskew/eskew/server/split/CounterValues$Tally" "writes" "I" (.int (0 : Int32)) := D152 (Or.inl (hw _ (List.mem_of_getElem? (i := 49) rfl))) (ty := .int) (by decide)
  have F_aloneSent_b152 : Fld Z h152 b152 "com/example/eskew/eskew/server/split/CounterValues$Tally" "aloneSent" "J" (.long (0 : Int64)) := D152 (Or.inl (hw _ (List.mem_of_getElem? (i := 51) rfl))) (ty := .long) (by decide)
  have F_value_b152 : Fld Z h152 b152 "com/example/eskew/eskew/server/split/CounterValues$Tally" "value" "J" (.long (0 : Int64)) := D152 (Or.inl (hw _ (List.mem_of_getElem? (i := 69) rfl))) (ty := .long) (by decide)
  have F_known_b152 : Fld Z h152 b152 "com/example/eskew/eskew/server/split/CounterValues$Tally" "known" "Z" (.int (0 : Int32)) := D152 (Or.inl (hw _ (List.mem_of_getElem? (i := 71) rfl))) (ty := .boolean) (by decide)
  have F_settled_b152 : Fld Z h152 b152 "com/example/eskew/eskew/server/split/CounterValues$Tally" "settled" "Z" (.int (0 : Int32)) := D152 (Or.inl (hw _ (List.mem_of_getElem? (i := 73) rfl))) (ty := .boolean) (by decide)
  have F_placing_b152 : Fld Z h152 b152 "com/example/eskew/eskew/server/split/CounterValues$Tally" "placing" "Lcom/example/eskew/eskew/server/split/CounterValues$Placing;" .null := D152 (Or.inl (hw _ (List.mem_of_getElem? (i := 76) rfl))) (ty := (.object "com/example/eskew/eskew/server/split/CounterValues$Placing")) (by decide)
  have F_reads_b152 : Fld Z h152 b152 "com/example/eskew/eskew/server/split/CounterValues$Tally" "reads" "I" (.int (0 : Int32)) := D152 (Or.inl (hw _ (List.mem_of_getElem? (i := 84) rfl))) (ty := .int) (by decide)
  refine own_by st152 ?_
  refine own_by (fun _ k => XS.dup X152.here hx rfl (hb hby d1_67) rfl rfl k) ?_
  show own_Go p e below _ T152 (mkF m 68 #[.val (.ref a1), .val (.int (2 : Int32)), .val (.long q3), .second, .val (.long q4), .second, .val (.int (0 : Int32))] [(.ref b152), (.ref b152), (.int (0 : Int32)), (.ref b142)])
  refine own_by (fun _ k => XS.lload X152.here hx rfl (hb hby d1_68) rfl k) ?_
  have f158 := (f153.ext E152)
  have f159 := (f154.ext E152)
  have f160 := (f155.ext E152)
  have f161 := (f156.ext E152)
  obtain ⟨_, T162, L162, X162, ⟨rfl, N162q, K0', H0'⟩, st162⟩ := own_callR X152 hx hZ hown (y := (⟨"com/example/eskew/eskew/server/split/CounterValues$Tally", "<init>", "(J)V"⟩ : MethodName)) rfl (hw _ (List.mem_of_getElem? (i := 34) rfl)) (hw _ (List.mem_of_getElem? (i := 35) rfl)) (hw _ (List.mem_of_getElem? (i := 33) rfl)) (hw _ (List.mem_of_getElem? (i := 36) rfl)) (by decide) (a := b152) (argsL := [(.long q4)]) (rest := [(.ref b152), (.int (0 : Int32)), (.ref b142)]) e152 (rm4 l Z a0 hw [] b152 q4 h152 n0 Z152 og_b152 ⟨A152, F_since_b152, F_writesSent_b152, F_writes_b152, F_aloneSent_b152, F_value_b152, F_known_b152, F_settled_b152, F_placing_b152, F_reads_b152⟩) (g := (mkF m 70 #[.val (.ref a1), .val (.int (2 : Int32)), .val (.long q3), .second, .val (.long q4), .second, .val (.int (0 : Int32))] [(.long q4), (.ref b152), (.ref b152), (.int (0 : Int32)), (.ref b142)])) rfl (by rw [hml]; rfl) (lenOf pd_1 rfl) rfl (W := 3) (by show 2 * 0 + _ ≤ _; exact Nat.le_of_eq rfl) (hb hby d1_70) (by decide) (by decide) (by decide) (by decide)
  have N162 := Fr.app N147 N162q
  refine own_by st162 ?_
  have Z162 : n0 ≤ T162.heap.size := Nat.le_trans Z152 K0'.1
  have K162c := K157.trans K0' (allS (Or.inr sz_b152) all0)
  have E0' := H0'.1
  have f164 := (f161.keep K0' (ninS ne_b142_b152 nin0))
  obtain ⟨cl163, Ar163, cq163, hin163, hat163, set163⟩ := own_arv f164 (j := (0 : Int32)) ⟨by decide, by decide⟩
  obtain ⟨T165, h165, X165, e165, W165, st165⟩ := stR X162 hx hZ rfl Ar163 (j := (0 : Int32)) hin163 rfl (Sto.ofV Ar163 cq163 O142 (Ins.self E0')) (g := (mkF m 73 #[.val (.ref a1), .val (.int (2 : Int32)), .val (.long q3), .second, .val (.long q4), .second, .val (.int (0 : Int32))] [(.ref b152), (.int (0 : Int32)), (.ref b142)])) rfl rfl (hb hby d1_73)
  have V165 : Arv Z h165 b142 k142 (.object "com/example/eskew/eskew/server/split/CounterValues$Tally") (2 : Int32) [(.ref b152), .null] .null := set163 rfl W165 0 rfl (Nat.le_of_ble_eq_true rfl)
  have N165 := Fr.snoc X165 N162 og_b142
  have K166 := K162c.wr W165 (Or.inr sz_b142)
  have Z165 : n0 ≤ h165.size := Nat.le_trans Z162 (Keep.of_wr W165).1
  refine own_by st165 ?_
  show own_Go p e below _ T165 (mkF m 74 #[.val (.ref a1), .val (.int (2 : Int32)), .val (.long q3), .second, .val (.long q4), .second, .val (.int (0 : Int32))] [])
  refine own_by (fun _ k => XS.iinc X165.here hx rfl (hb hby d1_74) rfl (l' := #[.val (.ref a1), .val (.int (2 : Int32)), .val (.long q3), .second, .val (.long q4), .second, .val (.int ((0 : Int32) + (1 : Int32)))]) rfl k) ?_
  show own_Go p e below _ T165 (mkF m 77 #[.val (.ref a1), .val (.int (2 : Int32)), .val (.long q3), .second, .val (.long q4), .second, .val (.int ((0 : Int32) + (1 : Int32)))] [])
  rw [show (0 : Int32) + (1 : Int32) = (1 : Int32) from by decide]
  refine own_by (fun _ k => XS.goto X165.here hx rfl (pc0 := 77) (pc' := 52) rfl (hb hby d1_77) (by decide) (by decide) k) ?_
  refine own_by (fun _ k => XS.iload X165.here hx rfl (hb hby d1_52) rfl k) ?_
  show own_Go p e below _ T165 (mkF m 54 #[.val (.ref a1), .val (.int (2 : Int32)), .val (.long q3), .second, .val (.long q4), .second, .val (.int (1 : Int32))] [(.int (1 : Int32))])
  refine own_by (fun _ k => XS.iloadN X165.here hx rfl (hb hby d1_54) rfl k) ?_
  refine own_by (fun _ k => XS.icmpNo X165.here hx rfl (hb hby d1_55) rfl (tlt (by decide : (1 : Int32) < (2 : Int32))).2.1 k) ?_
  refine own_by (fun _ k => XS.aloadN X165.here hx rfl (hb hby d1_58) rfl rfl k) ?_
  show own_Go p e below _ T165 (mkF m 59 #[.val (.ref a1), .val (.int (2 : Int32)), .val (.long q3), .second, .val (.long q4), .second, .val (.int (1 : Int32))] [(.ref a1)])
  have f168 := (((fw147.ext E152).keep K0' (ninS ne_a1_b152 nin0)).other W165 (Or.inl ne_a1_b142))
  obtain ⟨T167, X167, e167, st167⟩ := getF X165 hx hZ hown (host := "") (Or.inl (hw _ (List.mem_of_getElem? (i := 30) rfl))) Via.refl e165 f168 (g := (mkF m 59 #[.val (.ref a1), .val (.int (2 : Int32)), .val (.long q3), .second, .val (.long q4), .second, .val (.int (1 : Int32))] [(.ref a1)])) rfl rfl (hb hby d1_59)
  refine own_by st167 ?_
  refine own_by (fun _ k => XS.iload X167.here hx rfl (hb hby d1_62) rfl k) ?_
  obtain ⟨T169, h169, X169, e169, E169, A169, D169, -, st169⟩ := newO X167 hx hZ hown (hw _ (List.mem_of_getElem? (i := 28) rfl)) (hw _ (List.mem_of_getElem? (i := 32) rfl)) (hw _ (List.mem_of_getElem? (i := 33) rfl)) e167 (g := (mkF m 64 #[.val (.ref a1), .val (.int (2 : Int32)), .val (.long q3), .second, .val (.long q4), .second, .val (.int (1 : Int32))] [(.int (1 : Int32)), (.ref b142)])) rfl (hb hby d1_64) (by decide) (by decide)
  obtain ⟨b169, g169⟩ : ∃ zq, zq = h165.size := ⟨_, rfl⟩
  rw [← g169] at A169 D169 st169
  have f170 := ((f158.keep K0' (ninS ne_a1_b152 nin0)).other W165 (Or.inl ne_a1_b142))
  have ne_a1_b169 : a1 ≠ b169 := Nat.ne_of_lt (Nat.lt_of_lt_of_le f170.lt (Nat.le_of_eq g169.symm))
  have f171 := ((f159.keep K0').wr W165)
  have ne_b115_b169 : b115 ≠ b169 := Nat.ne_of_lt (Nat.lt_of_lt_of_le f171.lt (Nat.le_of_eq g169.symm))
  have f172 := ((f160.keep K0').wr W165)
  have ne_b122_b169 : b122 ≠ b169 := Nat.ne_of_lt (Nat.lt_of_lt_of_le f172.lt (Nat.le_of_eq g169.symm))
  have ne_b142_b169 : b142 ≠ b169 := Nat.ne_of_lt (Nat.lt_of_lt_of_le V165.lt (Nat.le_of_eq g169.symm))
  have f173 := (E0'.wr W165)
  have ne_b152_b169 : b152 ≠ b169 := Nat.ne_of_lt (Nat.lt_of_lt_of_le f173.lt (Nat.le_of_eq g169.symm))
  have og_b169 : n0 ≤ b169 := Nat.le_trans Z165 (Nat.le_of_eq g169.symm)
  have sz_b169 : h0.size ≤ b169 := Nat.le_trans K166.1 (Nat.le_of_eq g169.symm)
  have Z169 : n0 ≤ h169.size := Nat.le_trans Z165 E169.1
  have K174 := K166.ext E169
  have F_since_b169 : Fld Z h169 b169 "com/example/eskew/eskew/server/split/CounterValues$Tally" "since" "J" (.long (0 : Int64)) := D169 (Or.inl (hw _ (List.mem_of_getElem? (i := 39) rfl))) (ty := .long) (by decide)
  have F_writesSent_b169 : Fld Z h169 b169 "com/example/eskew/eskew/server/split/CounterValues$Tally" "writesSent" "J" (.long (0 : Int64)) := D169 (Or.inl (hw _ (List.mem_of_getElem? (i := 47) rfl))) (ty := .long) (by decide)
  have F_writes_b169 : Fld Z h169 b169 "com/example/eskew/eskew/server/split/CounterValues$Tally" "writes" "I" (.int (0 : Int32)) := D169 (Or.inl (hw _ (List.mem_of_getElem? (i := 49) rfl))) (ty := .int) (by decide)
  have F_aloneSent_b169 : Fld Z h169 b169 "com/example/eskew/eskew/server/split/CounterValues$Tally" "aloneSent" "J" (.long (0 : Int64)) := D169 (Or.inl (hw _ (List.mem_of_getElem? (i := 51) rfl))) (ty := .long) (by decide)
  have F_value_b169 : Fld Z h169 b169 "com/example/eskew/eskew/server/split/CounterValues$Tally" "value" "J" (.long (0 : Int64)) := D169 (Or.inl (hw _ (List.mem_of_getElem? (i := 69) rfl))) (ty := .long) (by decide)
  have F_known_b169 : Fld Z h169 b169 "com/example/eskew/eskew/server/split/CounterValues$Tally" "known" "Z" (.int (0 : Int32)) := D169 (Or.inl (hw _ (List.mem_of_getElem? (i := 71) rfl))) (ty := .boolean) (by decide)
  have F_settled_b169 : Fld Z h169 b169 "com/example/eskew/eskew/server/split/CounterValues$Tally" "settled" "Z" (.int (0 : Int32)) := D169 (Or.inl (hw _ (List.mem_of_getElem? (i := 73) rfl))) (ty := .boolean) (by decide)
  have F_placing_b169 : Fld Z h169 b169 "com/example/eskew/eskew/server/split/CounterValues$Tally" "placing" "Lcom/example/eskew/eskew/server/split/CounterValues$Placing;" .null := D169 (Or.inl (hw _ (List.mem_of_getElem? (i := 76) rfl))) (ty := (.object "com/example/eskew/eskew/server/split/CounterValues$Placing")) (by decide)
  have F_reads_b169 : Fld Z h169 b169 "com/example/eskew/eskew/server/split/CounterValues$Tally" "reads" "I" (.int (0 : Int32)) := D169 (Or.inl (hw _ (List.mem_of_getElem? (i := 84) rfl))) (ty := .int) (by decide)
  refine own_by st169 ?_
  show own_Go p e below _ T169 (mkF m 67 #[.val (.ref a1), .val (.int (2 : Int32)), .val (.long q3), .second, .val (.long q4), .second, .val (.int (1 : Int32))] [(.ref b169), (.int (1 : Int32)), (.ref b142)])
  refine own_by (fun _ k => XS.dup X169.here hx rfl (hb hby d1_67) rfl rfl k) ?_
  refine own_by (fun _ k => XS.lload X169.here hx rfl (hb hby d1_68) rfl k) ?_
  have f175 := (f170.ext E169)
  have f176 := (f171.ext E169)
  have f177 := (f172.ext E169)
  have f178 := (V165.ext E169)
  have f179 := (f173.ext E169)
  obtain ⟨_, T180, L180, X180, ⟨rfl, N180q, K1', H1'⟩, st180⟩ := own_callR X169 hx hZ hown (y := (⟨"com/example/eskew/eskew/server/split/CounterValues$Tally", "<init>", "(J)V"⟩ : MethodName)) rfl (hw _ (List.mem_of_getElem? (i := 34) rfl)) (hw _ (List.mem_of_getElem? (i := 35) rfl)) (hw _ (List.mem_of_getElem? (i := 33) rfl)) (hw _ (List.mem_of_getElem? (i := 36) rfl)) (by decide) (a := b169) (argsL := [(.long q4)]) (rest := [(.ref b169), (.int (1 : Int32)), (.ref b142)]) e169 (rm4 l Z a0 hw [] b169 q4 h169 n0 Z169 og_b169 ⟨A169, F_since_b169, F_writesSent_b169, F_writes_b169, F_aloneSent_b169, F_value_b169, F_known_b169, F_settled_b169, F_placing_b169, F_reads_b169⟩) (g := (mkF m 70 #[.val (.ref a1), .val (.int (2 : Int32)), .val (.long q3), .second, .val (.long q4), .second, .val (.int (1 : Int32))] [(.long q4), (.ref b169), (.ref b169), (.int (1 : Int32)), (.ref b142)])) rfl (by rw [hml]; rfl) (lenOf pd_1 rfl) rfl (W := 3) (by show 2 * 0 + _ ≤ _; exact Nat.le_of_eq rfl) (hb hby d1_70) (by decide) (by decide) (by decide) (by decide)
  have N180 := Fr.app N165 N180q
  refine own_by st180 ?_
  show own_Go p e below _ T180 (mkF m 73 #[.val (.ref a1), .val (.int (2 : Int32)), .val (.long q3), .second, .val (.long q4), .second, .val (.int (1 : Int32))] [(.ref b169), (.int (1 : Int32)), (.ref b142)])
  have Z180 : n0 ≤ T180.heap.size := Nat.le_trans Z169 K1'.1
  have K180c := K174.trans K1' (allS (Or.inr sz_b169) all0)
  have E1' := H1'.1
  have f182 := (f178.keep K1' (ninS ne_b142_b169 nin0))
  obtain ⟨cl181, Ar181, cq181, hin181, hat181, set181⟩ := own_arv f182 (j := (1 : Int32)) ⟨by decide, by decide⟩
  obtain ⟨T183, h183, X183, e183, W183, st183⟩ := stR X180 hx hZ rfl Ar181 (j := (1 : Int32)) hin181 rfl (Sto.ofV Ar181 cq181 O142 (Ins.self E1')) (g := (mkF m 73 #[.val (.ref a1), .val (.int (2 : Int32)), .val (.long q3), .second, .val (.long q4), .second, .val (.int (1 : Int32))] [(.ref b169), (.int (1 : Int32)), (.ref b142)])) rfl rfl (hb hby d1_73)
  have V183 : Arv Z h183 b142 k142 (.object "com/example/eskew/eskew/server/split/CounterValues$Tally") (2 : Int32) [(.ref b152), (.ref b169)] .null := set181 rfl W183 1 rfl (Nat.le_of_ble_eq_true rfl)
  have N183 := Fr.snoc X183 N180 og_b142
  have K184 := K180c.wr W183 (Or.inr sz_b142)
  have Z183 : n0 ≤ h183.size := Nat.le_trans Z180 (Keep.of_wr W183).1
  refine own_by st183 ?_
  refine own_by (fun _ k => XS.iinc X183.here hx rfl (hb hby d1_74) rfl (l' := #[.val (.ref a1), .val (.int (2 : Int32)), .val (.long q3), .second, .val (.long q4), .second, .val (.int ((1 : Int32) + (1 : Int32)))]) rfl k) ?_
  show own_Go p e below _ T183 (mkF m 77 #[.val (.ref a1), .val (.int (2 : Int32)), .val (.long q3), .second, .val (.long q4), .second, .val (.int ((1 : Int32) + (1 : Int32)))] [])
  rw [show (1 : Int32) + (1 : Int32) = (2 : Int32) from by decide]
  refine own_by (fun _ k => XS.goto X183.here hx rfl (pc0 := 77) (pc' := 52) rfl (hb hby d1_77) (by decide) (by decide) k) ?_
  refine own_by (fun _ k => XS.iload X183.here hx rfl (hb hby d1_52) rfl k) ?_
  show own_Go p e below _ T183 (mkF m 54 #[.val (.ref a1), .val (.int (2 : Int32)), .val (.long q3), .second, .val (.long q4), .second, .val (.int (2 : Int32))] [(.int (2 : Int32))])
  refine own_by (fun _ k => XS.iloadN X183.here hx rfl (hb hby d1_54) rfl k) ?_
  refine own_by (fun _ k => XS.icmpYes X183.here hx rfl (pc0 := 55) (pc' := 80) rfl (hb hby d1_55) rfl (flt (by decide : ¬ ((2 : Int32) < (2 : Int32)))).2.1 (by decide) (by decide) k) ?_
  have f185 := (own_TalW (own_TalK (own_TalE (own_TalW H0' W165 (Ne.symm ne_b142_b152)) E169) K1' (ninS ne_b152_b169 nin0)) W183 (Ne.symm ne_b142_b152))
  have f186 := (own_TalW H1' W183 (Ne.symm ne_b142_b169))
  have hall : own_All Z h183 h0.size b142 [(.ref b152), (.ref b169)] (2 : Int32) q4 := by
    intro j h1 h2
    rcases own_rng_2 j h1 h2 with rfl | rfl
    · exact ⟨b152, rfl, sz_b152, ne_b142_b152, f185⟩
    · exact ⟨b169, rfl, sz_b169, ne_b142_b169, f186⟩
  have hinj : own_Inj [(.ref b152), (.ref b169)] (2 : Int32) := by
    intro i j h1 h2 h3 h4 hij
    rcases own_rng_2 i h1 h2 with rfl | rfl <;> rcases own_rng_2 j h3 h4 with rfl | rfl
    · exact absurd rfl hij
    · exact fun q => ne_b152_b169 (Value.ref.inj q)
    · exact fun q => (Ne.symm ne_b152_b169) (Value.ref.inj q)
    · exact absurd rfl hij
  have f187 := (((((((f149.wr W147).ext E152).keep K0').wr W165).ext E169).keep K1').wr W183)
  have f188 := ((((((((((fw130.other W134 (Or.inr (slot_ne (Or.inl (hw _ (List.mem_of_getElem? (i := 23) rfl))) (Or.inl (hw _ (List.mem_of_getElem? (i := 25) rfl))) (by decide) (t := .int) (t' := .int) (by decide) (by decide)))).other W138 (Or.inr (slot_ne (Or.inl (hw _ (List.mem_of_getElem? (i := 23) rfl))) (Or.inr (hw _ (List.mem_of_getElem? (i := 27) rfl))) (by decide) (t := .int) (t' := .long) (by decide) (by decide)))).ext E142).other W147 (Or.inr (slot_ne (Or.inl (hw _ (List.mem_of_getElem? (i := 23) rfl))) (Or.inr (hw _ (List.mem_of_getElem? (i := 31) rfl))) (by decide) (t := .int) (t' := (.array (.object "com/example/eskew/eskew/server/split/CounterValues$Tally"))) (by decide) (by decide)))).ext E152).keep K0' (ninS ne_a1_b152 nin0)).other W165 (Or.inl ne_a1_b142)).ext E169).keep K1' (ninS ne_a1_b169 nin0)).other W183 (Or.inl ne_a1_b142))
  have f189 := ((((((((fw138.ext E142).other W147 (Or.inr (slot_ne (Or.inr (hw _ (List.mem_of_getElem? (i := 27) rfl))) (Or.inr (hw _ (List.mem_of_getElem? (i := 31) rfl))) (by decide) (t := .long) (t' := (.array (.object "com/example/eskew/eskew/server/split/CounterValues$Tally"))) (by decide) (by decide)))).ext E152).keep K0' (ninS ne_a1_b152 nin0)).other W165 (Or.inl ne_a1_b142)).ext E169).keep K1' (ninS ne_a1_b169 nin0)).other W183 (Or.inl ne_a1_b142))
  have f190 := (((f168.ext E169).keep K1' (ninS ne_a1_b169 nin0)).other W183 (Or.inl ne_a1_b142))
  exact own_ret0 X183 hx hlk hret (hb hby d1_80) (by first | exact ⟨b142, k142, [(.ref b152), (.ref b169)], rfl, N183, K184, f187, f188, f189, f190, sz_b142, V183, hall, hinj⟩ | (rw [e183]; exact ⟨b142, k142, [(.ref b152), (.ref b169)], rfl, N183, K184, f187, f188, f189, f190, sz_b142, V183, hall, hinj⟩)) (by decide) (by decide)
theorem pn_rm1_3 : plainFor (⟨"com/example/eskew/eskew/server/split/CounterValues", "<init>", "(IJJ)V"⟩ : MethodName) = true := plainFor_of_name (by first | (simp [plainName, overriddenIn, x]; done) | decide +kernel)
set_option maxRecDepth 65536 in
set_option maxHeartbeats 40000000 in
theorem rm1_3 (l : Launch) (Z : State) (a0 : Array Value) (hw : ∀ d ∈ tables_1, d.before a0 Z = true) (ws : List Jvm.Cond) (a1 : Addr) (q3 q4 : Int64) (h0 : Heap) (n0 : Nat) (Z0 : n0 ≤ h0.size) (g1 : n0 ≤ a1) (E1 : Exa Z h0 a1 "com/example/eskew/eskew/server/split/CounterValues") (F_rising : Fld Z h0 a1 "com/example/eskew/eskew/server/split/CounterValues" "rising" "Lcom/example/eskew/eskew/server/split/CounterValues$WideSum;" .null) (F_falling : Fld Z h0 a1 "com/example/eskew/eskew/server/split/CounterValues" "falling" "Lcom/example/eskew/eskew/server/split/CounterValues$WideSum;" .null) (F_resting : Fld Z h0 a1 "com/example/eskew/eskew/server/split/CounterValues" "resting" "I" (.int (0 : Int32))) (F_nextToRest : Fld Z h0 a1 "com/example/eskew/eskew/server/split/CounterValues" "nextToRest" "I" (.int (0 : Int32))) (F_rereadNanos : Fld Z h0 a1 "com/example/eskew/eskew/server/split/CounterValues" "rereadNanos" "J" (.long (0 : Int64))) (F_tallies : Fld Z h0 a1 "com/example/eskew/eskew/server/split/CounterValues" "tallies" "[Lcom/example/eskew/eskew/server/split/CounterValues$Tally;" .null) :
    own_Met l Z (⟨"com/example/eskew/eskew/server/split/CounterValues", "<init>", "(IJJ)V"⟩ : MethodName) prog_33_method_1_code 7 none ws ({ frames := 2, cells := 8, slots := 54, locals := 48 } : Room) #[(.ref a1), (.int (3 : Int32)), (.long q3), (.long q4)] h0 (Q_rm1 Z a1 (3 : Int32) q3 q4 h0 n0) := by
  refine own_enter (g0 := fun m => (mkF m 0 #[.val (.ref a1), .val (.int (3 : Int32)), .val (.long q3), .second, .val (.long q4), .second, .unset] [])) pn_rm1_3 (fun m => by first | (simp [entryFrame, mkF, argsToLocals, Value.category, maxLocals]; done) | rfl) ?_
  intro p e s m below meth c s₁ hx hby hml hown hnm hret hlk hZ X0 e0
  have hml : c.maxLocals = 7 := hml
  have hown : s.vm.findClass "com/example/eskew/eskew/server/split/CounterValues" = some m.cls := hown
  have N0 := Fr.nil n0
  have K0 := Keep.refl h0 [a1]
  refine own_by (fun _ k => XS.aloadN X0.here hx rfl (hb hby d1_0) rfl rfl k) ?_
  obtain ⟨T191, X191, e191, st191⟩ := initO X0 hx hZ hown (hw _ (List.mem_of_getElem? (i := 8) rfl)) (hw _ (List.mem_of_getElem? (i := 9) rfl)) (hw _ (List.mem_of_getElem? (i := 10) rfl)) e0 (g := (mkF m 1 #[.val (.ref a1), .val (.int (3 : Int32)), .val (.long q3), .second, .val (.long q4), .second, .unset] [(.ref a1)])) rfl (by rw [hml]; rfl) rfl (hb hby d1_1) (by decide) (W := 0) (by show 2 * 0 + _ ≤ _; exact Nat.le_of_eq rfl) (by decide)
  refine own_by st191 ?_
  show own_Go p e below _ T191 (mkF m 4 #[.val (.ref a1), .val (.int (3 : Int32)), .val (.long q3), .second, .val (.long q4), .second, .unset] [])
  refine own_by (fun _ k => XS.aloadN X191.here hx rfl (hb hby d1_4) rfl rfl k) ?_
  obtain ⟨T192, h192, X192, e192, E192, A192, D192, -, st192⟩ := newO X191 hx hZ hown (hw _ (List.mem_of_getElem? (i := 11) rfl)) (hw _ (List.mem_of_getElem? (i := 12) rfl)) (hw _ (List.mem_of_getElem? (i := 13) rfl)) e191 (g := (mkF m 5 #[.val (.ref a1), .val (.int (3 : Int32)), .val (.long q3), .second, .val (.long q4), .second, .unset] [(.ref a1)])) rfl (hb hby d1_5) (by decide) (by decide)
  obtain ⟨b192, g192⟩ : ∃ zq, zq = h0.size := ⟨_, rfl⟩
  rw [← g192] at A192 D192 st192
  have ne_a1_b192 : a1 ≠ b192 := Nat.ne_of_lt (Nat.lt_of_lt_of_le F_rising.lt (Nat.le_of_eq g192.symm))
  have og_b192 : n0 ≤ b192 := Nat.le_trans Z0 (Nat.le_of_eq g192.symm)
  have sz_b192 : h0.size ≤ b192 := Nat.le_trans K0.1 (Nat.le_of_eq g192.symm)
  have Z192 : n0 ≤ h192.size := Nat.le_trans Z0 E192.1
  have K193 := K0.ext E192
  have F_low_b192 : Fld Z h192 b192 "com/example/eskew/eskew/server/split/CounterValues$WideSum" "low" "J" (.long (0 : Int64)) := D192 (Or.inl (hw _ (List.mem_of_getElem? (i := 102) rfl))) (ty := .long) (by decide)
  have F_high_b192 : Fld Z h192 b192 "com/example/eskew/eskew/server/split/CounterValues$WideSum" "high" "J" (.long (0 : Int64)) := D192 (Or.inl (hw _ (List.mem_of_getElem? (i := 109) rfl))) (ty := .long) (by decide)
  refine own_by st192 ?_
  refine own_by (fun _ k => XS.dup X192.here hx rfl (hb hby d1_8) rfl rfl k) ?_
  show own_Go p e below _ T192 (mkF m 9 #[.val (.ref a1), .val (.int (3 : Int32)), .val (.long q3), .second, .val (.long q4), .second, .unset] [(.ref b192), (.ref b192), (.ref a1)])
  obtain ⟨_, T194, L194, X194, ⟨rfl, N194q, e194⟩, st194⟩ := own_callR X192 hx hZ hown (y := (⟨"com/example/eskew/eskew/server/split/CounterValues$WideSum", "<init>", "()V"⟩ : MethodName)) rfl (hw _ (List.mem_of_getElem? (i := 14) rfl)) (hw _ (List.mem_of_getElem? (i := 15) rfl)) (hw _ (List.mem_of_getElem? (i := 13) rfl)) (hw _ (List.mem_of_getElem? (i := 16) rfl)) (by decide) (a := b192) (argsL := []) (rest := [(.ref b192), (.ref a1)]) e192 (rm3 l Z a0 hw [] b192 h192 n0 Z192) (g := (mkF m 9 #[.val (.ref a1), .val (.int (3 : Int32)), .val (.long q3), .second, .val (.long q4), .second, .unset] [(.ref b192), (.ref b192), (.ref a1)])) rfl (by rw [hml]; rfl) (lenOf pd_0 rfl) rfl (W := 2) (by show 2 * 0 + _ ≤ _; exact Nat.le_of_eq rfl) (hb hby d1_9) (by decide) (by decide) (by decide) (by decide)
  have N194 := Fr.app N0 N194q
  refine own_by st194 ?_
  have f196 := (F_rising.ext E192)
  have f197 := (E1.ext E192)
  obtain ⟨T195, h195, X195, e195, W195, st195⟩ := putF X194 hx hZ hown (host := "") (Or.inl (hw _ (List.mem_of_getElem? (i := 18) rfl))) Via.refl e194 f196 f197 (Or.inr ⟨(hw _ (List.mem_of_getElem? (i := 19) rfl)), rfl, hnm⟩) (hw _ (List.mem_of_getElem? (i := 2) rfl)) (ty := (.object "com/example/eskew/eskew/server/split/CounterValues$WideSum")) (by decide) rfl rfl (g := (mkF m 12 #[.val (.ref a1), .val (.int (3 : Int32)), .val (.long q3), .second, .val (.long q4), .second, .unset] [(.ref b192), (.ref a1)])) rfl rfl (hb hby d1_12)
  refine own_by st195 ?_
  have N195 := Fr.snoc X195 N194 g1
  have fw195 := f196.same W195
  have K198 := K193.wr W195 (Or.inl (List.mem_of_getElem? (i := 0) rfl))
  have Z195 : n0 ≤ h195.size := Nat.le_trans Z192 (Keep.of_wr W195).1
  refine own_by (fun _ k => XS.aloadN X195.here hx rfl (hb hby d1_15) rfl rfl k) ?_
  show own_Go p e below _ T195 (mkF m 16 #[.val (.ref a1), .val (.int (3 : Int32)), .val (.long q3), .second, .val (.long q4), .second, .unset] [(.ref a1)])
  obtain ⟨T199, h199, X199, e199, E199, A199, D199, -, st199⟩ := newO X195 hx hZ hown (hw _ (List.mem_of_getElem? (i := 11) rfl)) (hw _ (List.mem_of_getElem? (i := 12) rfl)) (hw _ (List.mem_of_getElem? (i := 13) rfl)) e195 (g := (mkF m 16 #[.val (.ref a1), .val (.int (3 : Int32)), .val (.long q3), .second, .val (.long q4), .second, .unset] [(.ref a1)])) rfl (hb hby d1_16) (by decide) (by decide)
  obtain ⟨b199, g199⟩ : ∃ zq, zq = h195.size := ⟨_, rfl⟩
  rw [← g199] at A199 D199 st199
  have ne_a1_b199 : a1 ≠ b199 := Nat.ne_of_lt (Nat.lt_of_lt_of_le fw195.lt (Nat.le_of_eq g199.symm))
  have f200 := (A192.wr W195)
  have ne_b192_b199 : b192 ≠ b199 := Nat.ne_of_lt (Nat.lt_of_lt_of_le f200.lt (Nat.le_of_eq g199.symm))
  have og_b199 : n0 ≤ b199 := Nat.le_trans Z195 (Nat.le_of_eq g199.symm)
  have sz_b199 : h0.size ≤ b199 := Nat.le_trans K198.1 (Nat.le_of_eq g199.symm)
  have Z199 : n0 ≤ h199.size := Nat.le_trans Z195 E199.1
  have K201 := K198.ext E199
  have F_low_b199 : Fld Z h199 b199 "com/example/eskew/eskew/server/split/CounterValues$WideSum" "low" "J" (.long (0 : Int64)) := D199 (Or.inl (hw _ (List.mem_of_getElem? (i := 102) rfl))) (ty := .long) (by decide)
  have F_high_b199 : Fld Z h199 b199 "com/example/eskew/eskew/server/split/CounterValues$WideSum" "high" "J" (.long (0 : Int64)) := D199 (Or.inl (hw _ (List.mem_of_getElem? (i := 109) rfl))) (ty := .long) (by decide)
  refine own_by st199 ?_
  refine own_by (fun _ k => XS.dup X199.here hx rfl (hb hby d1_19) rfl rfl k) ?_
  obtain ⟨_, T202, L202, X202, ⟨rfl, N202q, e202⟩, st202⟩ := own_callR X199 hx hZ hown (y := (⟨"com/example/eskew/eskew/server/split/CounterValues$WideSum", "<init>", "()V"⟩ : MethodName)) rfl (hw _ (List.mem_of_getElem? (i := 14) rfl)) (hw _ (List.mem_of_getElem? (i := 15) rfl)) (hw _ (List.mem_of_getElem? (i := 13) rfl)) (hw _ (List.mem_of_getElem? (i := 16) rfl)) (by decide) (a := b199) (argsL := []) (rest := [(.ref b199), (.ref a1)]) e199 (rm3 l Z a0 hw [] b199 h199 n0 Z199) (g := (mkF m 20 #[.val (.ref a1), .val (.int (3 : Int32)), .val (.long q3), .second, .val (.long q4), .second, .unset] [(.ref b199), (.ref b199), (.ref a1)])) rfl (by rw [hml]; rfl) (lenOf pd_0 rfl) rfl (W := 2) (by show 2 * 0 + _ ≤ _; exact Nat.le_of_eq rfl) (hb hby d1_20) (by decide) (by decide) (by decide) (by decide)
  have N202 := Fr.app N195 N202q
  refine own_by st202 ?_
  show own_Go p e below _ T202 (mkF m 23 #[.val (.ref a1), .val (.int (3 : Int32)), .val (.long q3), .second, .val (.long q4), .second, .unset] [(.ref b199), (.ref a1)])
  have f204 := (((F_falling.ext E192).other W195 (Or.inr (slot_ne (Or.inr (hw _ (List.mem_of_getElem? (i := 21) rfl))) (Or.inr (hw _ (List.mem_of_getElem? (i := 19) rfl))) (by decide) (t := (.object "com/example/eskew/eskew/server/split/CounterValues$WideSum")) (t' := (.object "com/example/eskew/eskew/server/split/CounterValues$WideSum")) (by decide) (by decide)))).ext E199)
  have f205 := ((f197.wr W195).ext E199)
  obtain ⟨T203, h203, X203, e203, W203, st203⟩ := putF X202 hx hZ hown (host := "") (Or.inl (hw _ (List.mem_of_getElem? (i := 20) rfl))) Via.refl e202 f204 f205 (Or.inr ⟨(hw _ (List.mem_of_getElem? (i := 21) rfl)), rfl, hnm⟩) (hw _ (List.mem_of_getElem? (i := 2) rfl)) (ty := (.object "com/example/eskew/eskew/server/split/CounterValues$WideSum")) (by decide) rfl rfl (g := (mkF m 23 #[.val (.ref a1), .val (.int (3 : Int32)), .val (.long q3), .second, .val (.long q4), .second, .unset] [(.ref b199), (.ref a1)])) rfl rfl (hb hby d1_23)
  refine own_by st203 ?_
  have N203 := Fr.snoc X203 N202 g1
  have fw203 := f204.same W203
  have K206 := K201.wr W203 (Or.inl (List.mem_of_getElem? (i := 0) rfl))
  have Z203 : n0 ≤ h203.size := Nat.le_trans Z199 (Keep.of_wr W203).1
  refine own_by (fun _ k => XS.aloadN X203.here hx rfl (hb hby d1_26) rfl rfl k) ?_
  refine own_by (fun _ k => XS.iconst X203.here hx rfl (hb hby d1_27) k) ?_
  show own_Go p e below _ T203 (mkF m 28 #[.val (.ref a1), .val (.int (3 : Int32)), .val (.long q3), .second, .val (.long q4), .second, .unset] [(.int (-1 : Int32)), (.ref a1)])
  have f208 := ((((F_resting.ext E192).other W195 (Or.inr (slot_ne (Or.inl (hw _ (List.mem_of_getElem? (i := 23) rfl))) (Or.inr (hw _ (List.mem_of_getElem? (i := 19) rfl))) (by decide) (t := .int) (t' := (.object "com/example/eskew/eskew/server/split/CounterValues$WideSum")) (by decide) (by decide)))).ext E199).other W203 (Or.inr (slot_ne (Or.inl (hw _ (List.mem_of_getElem? (i := 23) rfl))) (Or.inr (hw _ (List.mem_of_getElem? (i := 21) rfl))) (by decide) (t := .int) (t' := (.object "com/example/eskew/eskew/server/split/CounterValues$WideSum")) (by decide) (by decide))))
  have f209 := (f205.wr W203)
  obtain ⟨T207, h207, X207, e207, W207, st207⟩ := putF X203 hx hZ hown (host := "") (Or.inl (hw _ (List.mem_of_getElem? (i := 22) rfl))) Via.refl e203 f208 f209 (Or.inl (hw _ (List.mem_of_getElem? (i := 23) rfl))) (hw _ (List.mem_of_getElem? (i := 2) rfl)) (ty := .int) (by decide) rfl rfl (g := (mkF m 28 #[.val (.ref a1), .val (.int (3 : Int32)), .val (.long q3), .second, .val (.long q4), .second, .unset] [(.int (-1 : Int32)), (.ref a1)])) rfl rfl (hb hby d1_28)
  refine own_by st207 ?_
  have N207 := Fr.snoc X207 N203 g1
  have fw207 := f208.same W207
  have K210 := K206.wr W207 (Or.inl (List.mem_of_getElem? (i := 0) rfl))
  have Z207 : n0 ≤ h207.size := Nat.le_trans Z203 (Keep.of_wr W207).1
  refine own_by (fun _ k => XS.aloadN X207.here hx rfl (hb hby d1_31) rfl rfl k) ?_
  refine own_by (fun _ k => XS.iconst X207.here hx rfl (hb hby d1_32) k) ?_
  show own_Go p e below _ T207 (mkF m 33 #[.val (.ref a1), .val (.int (3 : Int32)), .val (.long q3), .second, .val (.long q4), .second, .unset] [(.int (1 : Int32)), (.ref a1)])
  have f212 := (((((F_nextToRest.ext E192).other W195 (Or.inr (slot_ne (Or.inl (hw _ (List.mem_of_getElem? (i := 25) rfl))) (Or.inr (hw _ (List.mem_of_getElem? (i := 19) rfl))) (by decide) (t := .int) (t' := (.object "com/example/eskew/eskew/server/split/CounterValues$WideSum")) (by decide) (by decide)))).ext E199).other W203 (Or.inr (slot_ne (Or.inl (hw _ (List.mem_of_getElem? (i := 25) rfl))) (Or.inr (hw _ (List.mem_of_getElem? (i := 21) rfl))) (by decide) (t := .int) (t' := (.object "com/example/eskew/eskew/server/split/CounterValues$WideSum")) (by decide) (by decide)))).other W207 (Or.inr (slot_ne (Or.inl (hw _ (List.mem_of_getElem? (i := 25) rfl))) (Or.inl (hw _ (List.mem_of_getElem? (i := 23) rfl))) (by decide) (t := .int) (t' := .int) (by decide) (by decide))))
  have f213 := (f209.wr W207)
  obtain ⟨T211, h211, X211, e211, W211, st211⟩ := putF X207 hx hZ hown (host := "") (Or.inl (hw _ (List.mem_of_getElem? (i := 24) rfl))) Via.refl e207 f212 f213 (Or.inl (hw _ (List.mem_of_getElem? (i := 25) rfl))) (hw _ (List.mem_of_getElem? (i := 2) rfl)) (ty := .int) (by decide) rfl rfl (g := (mkF m 33 #[.val (.ref a1), .val (.int (3 : Int32)), .val (.long q3), .second, .val (.long q4), .second, .unset] [(.int (1 : Int32)), (.ref a1)])) rfl rfl (hb hby d1_33)
  refine own_by st211 ?_
  have N211 := Fr.snoc X211 N207 g1
  have fw211 := f212.same W211
  have K214 := K210.wr W211 (Or.inl (List.mem_of_getElem? (i := 0) rfl))
  have Z211 : n0 ≤ h211.size := Nat.le_trans Z207 (Keep.of_wr W211).1
  refine own_by (fun _ k => XS.aloadN X211.here hx rfl (hb hby d1_36) rfl rfl k) ?_
  refine own_by (fun _ k => XS.lloadN X211.here hx rfl (hb hby d1_37) rfl k) ?_
  show own_Go p e below _ T211 (mkF m 38 #[.val (.ref a1), .val (.int (3 : Int32)), .val (.long q3), .second, .val (.long q4), .second, .unset] [(.long q3), (.ref a1)])
  have f216 := ((((((F_rereadNanos.ext E192).other W195 (Or.inr (slot_ne (Or.inr (hw _ (List.mem_of_getElem? (i := 27) rfl))) (Or.inr (hw _ (List.mem_of_getElem? (i := 19) rfl))) (by decide) (t := .long) (t' := (.object "com/example/eskew/eskew/server/split/CounterValues$WideSum")) (by decide) (by decide)))).ext E199).other W203 (Or.inr (slot_ne (Or.inr (hw _ (List.mem_of_getElem? (i := 27) rfl))) (Or.inr (hw _ (List.mem_of_getElem? (i := 21) rfl))) (by decide) (t := .long) (t' := (.object "com/example/eskew/eskew/server/split/CounterValues$WideSum")) (by decide) (by decide)))).other W207 (Or.inr (slot_ne (Or.inr (hw _ (List.mem_of_getElem? (i := 27) rfl))) (Or.inl (hw _ (List.mem_of_getElem? (i := 23) rfl))) (by decide) (t := .long) (t' := .int) (by decide) (by decide)))).other W211 (Or.inr (slot_ne (Or.inr (hw _ (List.mem_of_getElem? (i := 27) rfl))) (Or.inl (hw _ (List.mem_of_getElem? (i := 25) rfl))) (by decide) (t := .long) (t' := .int) (by decide) (by decide))))
  have f217 := (f213.wr W211)
  obtain ⟨T215, h215, X215, e215, W215, st215⟩ := putF X211 hx hZ hown (host := "") (Or.inl (hw _ (List.mem_of_getElem? (i := 26) rfl))) Via.refl e211 f216 f217 (Or.inr ⟨(hw _ (List.mem_of_getElem? (i := 27) rfl)), rfl, hnm⟩) (hw _ (List.mem_of_getElem? (i := 2) rfl)) (ty := .long) (by decide) rfl rfl (g := (mkF m 38 #[.val (.ref a1), .val (.int (3 : Int32)), .val (.long q3), .second, .val (.long q4), .second, .unset] [(.long q3), (.ref a1)])) rfl rfl (hb hby d1_38)
  refine own_by st215 ?_
  have N215 := Fr.snoc X215 N211 g1
  have fw215 := f216.same W215
  have K218 := K214.wr W215 (Or.inl (List.mem_of_getElem? (i := 0) rfl))
  have Z215 : n0 ≤ h215.size := Nat.le_trans Z211 (Keep.of_wr W215).1
  refine own_by (fun _ k => XS.aloadN X215.here hx rfl (hb hby d1_41) rfl rfl k) ?_
  refine own_by (fun _ k => XS.iloadN X215.here hx rfl (hb hby d1_42) rfl k) ?_
  show own_Go p e below _ T215 (mkF m 43 #[.val (.ref a1), .val (.int (3 : Int32)), .val (.long q3), .second, .val (.long q4), .second, .unset] [(.int (3 : Int32)), (.ref a1)])
  obtain ⟨T219, h219, k219, X219, e219, E219, A219, O219, st219⟩ := newR X215 hx hZ hown (hw _ (List.mem_of_getElem? (i := 28) rfl)) (hw _ (List.mem_of_getElem? (i := 29) rfl)) e215 (g := (mkF m 43 #[.val (.ref a1), .val (.int (3 : Int32)), .val (.long q3), .second, .val (.long q4), .second, .unset] [(.int (3 : Int32)), (.ref a1)])) rfl (hb hby d1_43) rfl (by decide) (cap := 3) (by decide) (by decide) (by decide) (by decide)
  obtain ⟨b219, g219⟩ : ∃ zq, zq = h215.size := ⟨_, rfl⟩
  rw [← g219] at A219 st219
  have f220 := (((((fw195.ext E199).other W203 (Or.inr (slot_ne (Or.inr (hw _ (List.mem_of_getElem? (i := 19) rfl))) (Or.inr (hw _ (List.mem_of_getElem? (i := 21) rfl))) (by decide) (t := (.object "com/example/eskew/eskew/server/split/CounterValues$WideSum")) (t' := (.object "com/example/eskew/eskew/server/split/CounterValues$WideSum")) (by decide) (by decide)))).other W207 (Or.inr (slot_ne (Or.inr (hw _ (List.mem_of_getElem? (i := 19) rfl))) (Or.inl (hw _ (List.mem_of_getElem? (i := 23) rfl))) (by decide) (t := (.object "com/example/eskew/eskew/server/split/CounterValues$WideSum")) (t' := .int) (by decide) (by decide)))).other W211 (Or.inr (slot_ne (Or.inr (hw _ (List.mem_of_getElem? (i := 19) rfl))) (Or.inl (hw _ (List.mem_of_getElem? (i := 25) rfl))) (by decide) (t := (.object "com/example/eskew/eskew/server/split/CounterValues$WideSum")) (t' := .int) (by decide) (by decide)))).other W215 (Or.inr (slot_ne (Or.inr (hw _ (List.mem_of_getElem? (i := 19) rfl))) (Or.inr (hw _ (List.mem_of_getElem? (i := 27) rfl))) (by decide) (t := (.object "com/example/eskew/eskew/server/split/CounterValues$WideSum")) (t' := .long) (by decide) (by decide))))
  have ne_a1_b219 : a1 ≠ b219 := Nat.ne_of_lt (Nat.lt_of_lt_of_le f220.lt (Nat.le_of_eq g219.symm))
  have f221 := (((((f200.ext E199).wr W203).wr W207).wr W211).wr W215)
  have ne_b192_b219 : b192 ≠ b219 := Nat.ne_of_lt (Nat.lt_of_lt_of_le f221.lt (Nat.le_of_eq g219.symm))
  have f222 := ((((A199.wr W203).wr W207).wr W211).wr W215)
  have ne_b199_b219 : b199 ≠ b219 := Nat.ne_of_lt (Nat.lt_of_lt_of_le f222.lt (Nat.le_of_eq g219.symm))
  have og_b219 : n0 ≤ b219 := Nat.le_trans Z215 (Nat.le_of_eq g219.symm)
  have sz_b219 : h0.size ≤ b219 := Nat.le_trans K218.1 (Nat.le_of_eq g219.symm)
  have Z219 : n0 ≤ h219.size := Nat.le_trans Z215 E219.1
  have K223 := K218.ext E219
  have V219 : Arv Z h219 b219 k219 (.object "com/example/eskew/eskew/server/split/CounterValues$Tally") (3 : Int32) [.null, .null, .null] .null := (Arv.new A219 (by decide)).pad (pad_rep [] .null 3)
  refine own_by st219 ?_
  have f225 := ((((((((F_tallies.ext E192).other W195 (Or.inr (slot_ne (Or.inr (hw _ (List.mem_of_getElem? (i := 31) rfl))) (Or.inr (hw _ (List.mem_of_getElem? (i := 19) rfl))) (by decide) (t := (.array (.object "com/example/eskew/eskew/server/split/CounterValues$Tally"))) (t' := (.object "com/example/eskew/eskew/server/split/CounterValues$WideSum")) (by decide) (by decide)))).ext E199).other W203 (Or.inr (slot_ne (Or.inr (hw _ (List.mem_of_getElem? (i := 31) rfl))) (Or.inr (hw _ (List.mem_of_getElem? (i := 21) rfl))) (by decide) (t := (.array (.object "com/example/eskew/eskew/server/split/CounterValues$Tally"))) (t' := (.object "com/example/eskew/eskew/server/split/CounterValues$WideSum")) (by decide) (by decide)))).other W207 (Or.inr (slot_ne (Or.inr (hw _ (List.mem_of_getElem? (i := 31) rfl))) (Or.inl (hw _ (List.mem_of_getElem? (i := 23) rfl))) (by decide) (t := (.array (.object "com/example/eskew/eskew/server/split/CounterValues$Tally"))) (t' := .int) (by decide) (by decide)))).other W211 (Or.inr (slot_ne (Or.inr (hw _ (List.mem_of_getElem? (i := 31) rfl))) (Or.inl (hw _ (List.mem_of_getElem? (i := 25) rfl))) (by decide) (t := (.array (.object "com/example/eskew/eskew/server/split/CounterValues$Tally"))) (t' := .int) (by decide) (by decide)))).other W215 (Or.inr (slot_ne (Or.inr (hw _ (List.mem_of_getElem? (i := 31) rfl))) (Or.inr (hw _ (List.mem_of_getElem? (i := 27) rfl))) (by decide) (t := (.array (.object "com/example/eskew/eskew/server/split/CounterValues$Tally"))) (t' := .long) (by decide) (by decide)))).ext E219)
  have f226 := ((f217.wr W215).ext E219)
  obtain ⟨T224, h224, X224, e224, W224, st224⟩ := putF X219 hx hZ hown (host := "") (Or.inl (hw _ (List.mem_of_getElem? (i := 30) rfl))) Via.refl e219 f225 f226 (Or.inr ⟨(hw _ (List.mem_of_getElem? (i := 31) rfl)), rfl, hnm⟩) (hw _ (List.mem_of_getElem? (i := 2) rfl)) (ty := (.array (.object "com/example/eskew/eskew/server/split/CounterValues$Tally"))) (by decide) rfl rfl (g := (mkF m 46 #[.val (.ref a1), .val (.int (3 : Int32)), .val (.long q3), .second, .val (.long q4), .second, .unset] [(.ref b219), (.ref a1)])) rfl rfl (hb hby d1_46)
  refine own_by st224 ?_
  have N224 := Fr.snoc X224 N215 g1
  have fw224 := f225.same W224
  have K227 := K223.wr W224 (Or.inl (List.mem_of_getElem? (i := 0) rfl))
  have Z224 : n0 ≤ h224.size := Nat.le_trans Z219 (Keep.of_wr W224).1
  refine own_by (fun _ k => XS.iconst X224.here hx rfl (hb hby d1_49) k) ?_
  show own_Go p e below _ T224 (mkF m 50 #[.val (.ref a1), .val (.int (3 : Int32)), .val (.long q3), .second, .val (.long q4), .second, .unset] [(.int (0 : Int32))])
  refine own_by (fun _ k => XS.istore X224.here hx rfl (hb hby d1_50) rfl (l' := #[.val (.ref a1), .val (.int (3 : Int32)), .val (.long q3), .second, .val (.long q4), .second, .val (.int (0 : Int32))]) rfl k) ?_
  refine own_by (fun _ k => XS.iload X224.here hx rfl (hb hby d1_52) rfl k) ?_
  refine own_by (fun _ k => XS.iloadN X224.here hx rfl (hb hby d1_54) rfl k) ?_
  show own_Go p e below _ T224 (mkF m 55 #[.val (.ref a1), .val (.int (3 : Int32)), .val (.long q3), .second, .val (.long q4), .second, .val (.int (0 : Int32))] [(.int (3 : Int32)), (.int (0 : Int32))])
  refine own_by (fun _ k => XS.icmpNo X224.here hx rfl (hb hby d1_55) rfl (tlt (by decide : (0 : Int32) < (3 : Int32))).2.1 k) ?_
  refine own_by (fun _ k => XS.aloadN X224.here hx rfl (hb hby d1_58) rfl rfl k) ?_
  obtain ⟨T228, X228, e228, st228⟩ := getF X224 hx hZ hown (host := "") (Or.inl (hw _ (List.mem_of_getElem? (i := 30) rfl))) Via.refl e224 fw224 (g := (mkF m 59 #[.val (.ref a1), .val (.int (3 : Int32)), .val (.long q3), .second, .val (.long q4), .second, .val (.int (0 : Int32))] [(.ref a1)])) rfl rfl (hb hby d1_59)
  refine own_by st228 ?_
  show own_Go p e below _ T228 (mkF m 62 #[.val (.ref a1), .val (.int (3 : Int32)), .val (.long q3), .second, .val (.long q4), .second, .val (.int (0 : Int32))] [(.ref b219)])
  refine own_by (fun _ k => XS.iload X228.here hx rfl (hb hby d1_62) rfl k) ?_
  obtain ⟨T229, h229, X229, e229, E229, A229, D229, -, st229⟩ := newO X228 hx hZ hown (hw _ (List.mem_of_getElem? (i := 28) rfl)) (hw _ (List.mem_of_getElem? (i := 32) rfl)) (hw _ (List.mem_of_getElem? (i := 33) rfl)) e228 (g := (mkF m 64 #[.val (.ref a1), .val (.int (3 : Int32)), .val (.long q3), .second, .val (.long q4), .second, .val (.int (0 : Int32))] [(.int (0 : Int32)), (.ref b219)])) rfl (hb hby d1_64) (by decide) (by decide)
  obtain ⟨b229, g229⟩ : ∃ zq, zq = h224.size := ⟨_, rfl⟩
  rw [← g229] at A229 D229 st229
  have f230 := ((f220.ext E219).other W224 (Or.inr (slot_ne (Or.inr (hw _ (List.mem_of_getElem? (i := 19) rfl))) (Or.inr (hw _ (List.mem_of_getElem? (i := 31) rfl))) (by decide) (t := (.object "com/example/eskew/eskew/server/split/CounterValues$WideSum")) (t' := (.array (.object "com/example/eskew/eskew/server/split/CounterValues$Tally"))) (by decide) (by decide))))
  have ne_a1_b229 : a1 ≠ b229 := Nat.ne_of_lt (Nat.lt_of_lt_of_le f230.lt (Nat.le_of_eq g229.symm))
  have f231 := ((f221.ext E219).wr W224)
  have ne_b192_b229 : b192 ≠ b229 := Nat.ne_of_lt (Nat.lt_of_lt_of_le f231.lt (Nat.le_of_eq g229.symm))
  have f232 := ((f222.ext E219).wr W224)
  have ne_b199_b229 : b199 ≠ b229 := Nat.ne_of_lt (Nat.lt_of_lt_of_le f232.lt (Nat.le_of_eq g229.symm))
  have f233 := (V219.other W224 (Ne.symm ne_a1_b219))
  have ne_b219_b229 : b219 ≠ b229 := Nat.ne_of_lt (Nat.lt_of_lt_of_le f233.lt (Nat.le_of_eq g229.symm))
  have og_b229 : n0 ≤ b229 := Nat.le_trans Z224 (Nat.le_of_eq g229.symm)
  have sz_b229 : h0.size ≤ b229 := Nat.le_trans K227.1 (Nat.le_of_eq g229.symm)
  have Z229 : n0 ≤ h229.size := Nat.le_trans Z224 E229.1
  have K234 := K227.ext E229
  have F_since_b229 : Fld Z h229 b229 "com/example/eskew/eskew/server/split/CounterValues$Tally" "since" "J" (.long (0 : Int64)) := D229 (Or.inl (hw _ (List.mem_of_getElem? (i := 39) rfl))) (ty := .long) (by decide)
  have F_writesSent_b229 : Fld Z h229 b229 "com/example/eskew/eskew/server/split/CounterValues$Tally" "writesSent" "J" (.long (0 : Int64)) := D229 (Or.inl (hw _ (List.mem_of_getElem? (i := 47) rfl))) (ty := .long) (by decide)
  have F_writes_b229 : Fld Z h229 b229 "com/example/eskew/eskew/server/split/CounterValues$Tally" "writes" "I" (.int (0 : Int32)) := D229 (Or.inl (hw _ (List.mem_of_getElem? (i := 49) rfl))) (ty := .int) (by decide)
  have F_aloneSent_b229 : Fld Z h229 b229 "com/example/eskew/eskew/server/split/CounterValues$Tally" "aloneSent" "J" (.long (0 : Int64)) := D229 (Or.inl (hw _ (List.mem_of_getElem? (i := 51) rfl))) (ty := .long) (by decide)
  have F_value_b229 : Fld Z h229 b229 "com/example/eskew/eskew/server/split/CounterValues$Tally" "value" "J" (.long (0 : Int64)) := D229 (Or.inl (hw _ (List.mem_of_getElem? (i := 69) rfl))) (ty := .long) (by decide)
  have F_known_b229 : Fld Z h229 b229 "com/example/eskew/eskew/server/split/CounterValues$Tally" "known" "Z" (.int (0 : Int32)) := D229 (Or.inl (hw _ (List.mem_of_getElem? (i := 71) rfl))) (ty := .boolean) (by decide)
  have F_settled_b229 : Fld Z h229 b229 "com/example/eskew/eskew/server/split/CounterValues$Tally" "settled" "Z" (.int (0 : Int32)) := D229 (Or.inl (hw _ (List.mem_of_getElem? (i := 73) rfl))) (ty := .boolean) (by decide)
  have F_placing_b229 : Fld Z h229 b229 "com/example/eskew/eskew/server/split/CounterValues$Tally" "placing" "Lcom/example/eskew/eskew/server/split/CounterValues$Placing;" .null := D229 (Or.inl (hw _ (List.mem_of_getElem? (i := 76) rfl))) (ty := (.object "com/example/eskew/eskew/server/split/CounterValues$Placing")) (by decide)
  have F_reads_b229 : Fld Z h229 b229 "com/example/eskew/eskew/server/split/CounterValues$Tally" "reads" "I" (.int (0 : Int32)) := D229 (Or.inl (hw _ (List.mem_of_getElem? (i := 84) rfl))) (ty := .int) (by decide)
  refine own_by st229 ?_
  refine own_by (fun _ k => XS.dup X229.here hx rfl (hb hby d1_67) rfl rfl k) ?_
  show own_Go p e below _ T229 (mkF m 68 #[.val (.ref a1), .val (.int (3 : Int32)), .val (.long q3), .second, .val (.long q4), .second, .val (.int (0 : Int32))] [(.ref b229), (.ref b229), (.int (0 : Int32)), (.ref b219)])
  refine own_by (fun _ k => XS.lload X229.here hx rfl (hb hby d1_68) rfl k) ?_
  have f235 := (f230.ext E229)
  have f236 := (f231.ext E229)
  have f237 := (f232.ext E229)
  have f238 := (f233.ext E229)
  obtain ⟨_, T239, L239, X239, ⟨rfl, N239q, K0', H0'⟩, st239⟩ := own_callR X229 hx hZ hown (y := (⟨"com/example/eskew/eskew/server/split/CounterValues$Tally", "<init>", "(J)V"⟩ : MethodName)) rfl (hw _ (List.mem_of_getElem? (i := 34) rfl)) (hw _ (List.mem_of_getElem? (i := 35) rfl)) (hw _ (List.mem_of_getElem? (i := 33) rfl)) (hw _ (List.mem_of_getElem? (i := 36) rfl)) (by decide) (a := b229) (argsL := [(.long q4)]) (rest := [(.ref b229), (.int (0 : Int32)), (.ref b219)]) e229 (rm4 l Z a0 hw [] b229 q4 h229 n0 Z229 og_b229 ⟨A229, F_since_b229, F_writesSent_b229, F_writes_b229, F_aloneSent_b229, F_value_b229, F_known_b229, F_settled_b229, F_placing_b229, F_reads_b229⟩) (g := (mkF m 70 #[.val (.ref a1), .val (.int (3 : Int32)), .val (.long q3), .second, .val (.long q4), .second, .val (.int (0 : Int32))] [(.long q4), (.ref b229), (.ref b229), (.int (0 : Int32)), (.ref b219)])) rfl (by rw [hml]; rfl) (lenOf pd_1 rfl) rfl (W := 3) (by show 2 * 0 + _ ≤ _; exact Nat.le_of_eq rfl) (hb hby d1_70) (by decide) (by decide) (by decide) (by decide)
  have N239 := Fr.app N224 N239q
  refine own_by st239 ?_
  have Z239 : n0 ≤ T239.heap.size := Nat.le_trans Z229 K0'.1
  have K239c := K234.trans K0' (allS (Or.inr sz_b229) all0)
  have E0' := H0'.1
  have f241 := (f238.keep K0' (ninS ne_b219_b229 nin0))
  obtain ⟨cl240, Ar240, cq240, hin240, hat240, set240⟩ := own_arv f241 (j := (0 : Int32)) ⟨by decide, by decide⟩
  obtain ⟨T242, h242, X242, e242, W242, st242⟩ := stR X239 hx hZ rfl Ar240 (j := (0 : Int32)) hin240 rfl (Sto.ofV Ar240 cq240 O219 (Ins.self E0')) (g := (mkF m 73 #[.val (.ref a1), .val (.int (3 : Int32)), .val (.long q3), .second, .val (.long q4), .second, .val (.int (0 : Int32))] [(.ref b229), (.int (0 : Int32)), (.ref b219)])) rfl rfl (hb hby d1_73)
  have V242 : Arv Z h242 b219 k219 (.object "com/example/eskew/eskew/server/split/CounterValues$Tally") (3 : Int32) [(.ref b229), .null, .null] .null := set240 rfl W242 0 rfl (Nat.le_of_ble_eq_true rfl)
  have N242 := Fr.snoc X242 N239 og_b219
  have K243 := K239c.wr W242 (Or.inr sz_b219)
  have Z242 : n0 ≤ h242.size := Nat.le_trans Z239 (Keep.of_wr W242).1
  refine own_by st242 ?_
  show own_Go p e below _ T242 (mkF m 74 #[.val (.ref a1), .val (.int (3 : Int32)), .val (.long q3), .second, .val (.long q4), .second, .val (.int (0 : Int32))] [])
  refine own_by (fun _ k => XS.iinc X242.here hx rfl (hb hby d1_74) rfl (l' := #[.val (.ref a1), .val (.int (3 : Int32)), .val (.long q3), .second, .val (.long q4), .second, .val (.int ((0 : Int32) + (1 : Int32)))]) rfl k) ?_
  show own_Go p e below _ T242 (mkF m 77 #[.val (.ref a1), .val (.int (3 : Int32)), .val (.long q3), .second, .val (.long q4), .second, .val (.int ((0 : Int32) + (1 : Int32)))] [])
  rw [show (0 : Int32) + (1 : Int32) = (1 : Int32) from by decide]
  refine own_by (fun _ k => XS.goto X242.here hx rfl (pc0 := 77) (pc' := 52) rfl (hb hby d1_77) (by decide) (by decide) k) ?_
  refine own_by (fun _ k => XS.iload X242.here hx rfl (hb hby d1_52) rfl k) ?_
  show own_Go p e below _ T242 (mkF m 54 #[.val (.ref a1), .val (.int (3 : Int32)), .val (.long q3), .second, .val (.long q4), .second, .val (.int (1 : Int32))] [(.int (1 : Int32))])
  refine own_by (fun _ k => XS.iloadN X242.here hx rfl (hb hby d1_54) rfl k) ?_
  refine own_by (fun _ k => XS.icmpNo X242.here hx rfl (hb hby d1_55) rfl (tlt (by decide : (1 : Int32) < (3 : Int32))).2.1 k) ?_
  refine own_by (fun _ k => XS.aloadN X242.here hx rfl (hb hby d1_58) rfl rfl k) ?_
  show own_Go p e below _ T242 (mkF m 59 #[.val (.ref a1), .val (.int (3 : Int32)), .val (.long q3), .second, .val (.long q4), .second, .val (.int (1 : Int32))] [(.ref a1)])
  have f245 := (((fw224.ext E229).keep K0' (ninS ne_a1_b229 nin0)).other W242 (Or.inl ne_a1_b219))
  obtain ⟨T244, X244, e244, st244⟩ := getF X242 hx hZ hown (host := "") (Or.inl (hw _ (List.mem_of_getElem? (i := 30) rfl))) Via.refl e242 f245 (g := (mkF m 59 #[.val (.ref a1), .val (.int (3 : Int32)), .val (.long q3), .second, .val (.long q4), .second, .val (.int (1 : Int32))] [(.ref a1)])) rfl rfl (hb hby d1_59)
  refine own_by st244 ?_
  refine own_by (fun _ k => XS.iload X244.here hx rfl (hb hby d1_62) rfl k) ?_
  obtain ⟨T246, h246, X246, e246, E246, A246, D246, -, st246⟩ := newO X244 hx hZ hown (hw _ (List.mem_of_getElem? (i := 28) rfl)) (hw _ (List.mem_of_getElem? (i := 32) rfl)) (hw _ (List.mem_of_getElem? (i := 33) rfl)) e244 (g := (mkF m 64 #[.val (.ref a1), .val (.int (3 : Int32)), .val (.long q3), .second, .val (.long q4), .second, .val (.int (1 : Int32))] [(.int (1 : Int32)), (.ref b219)])) rfl (hb hby d1_64) (by decide) (by decide)
  obtain ⟨b246, g246⟩ : ∃ zq, zq = h242.size := ⟨_, rfl⟩
  rw [← g246] at A246 D246 st246
  have f247 := ((f235.keep K0' (ninS ne_a1_b229 nin0)).other W242 (Or.inl ne_a1_b219))
  have ne_a1_b246 : a1 ≠ b246 := Nat.ne_of_lt (Nat.lt_of_lt_of_le f247.lt (Nat.le_of_eq g246.symm))
  have f248 := ((f236.keep K0').wr W242)
  have ne_b192_b246 : b192 ≠ b246 := Nat.ne_of_lt (Nat.lt_of_lt_of_le f248.lt (Nat.le_of_eq g246.symm))
  have f249 := ((f237.keep K0').wr W242)
  have ne_b199_b246 : b199 ≠ b246 := Nat.ne_of_lt (Nat.lt_of_lt_of_le f249.lt (Nat.le_of_eq g246.symm))
  have ne_b219_b246 : b219 ≠ b246 := Nat.ne_of_lt (Nat.lt_of_lt_of_le V242.lt (Nat.le_of_eq g246.symm))
  have f250 := (E0'.wr W242)
  have ne_b229_b246 : b229 ≠ b246 := Nat.ne_of_lt (Nat.lt_of_lt_of_le f250.lt (Nat.le_of_eq g246.symm))
  have og_b246 : n0 ≤ b246 := Nat.le_trans Z242 (Nat.le_of_eq g246.symm)
  have sz_b246 : h0.size ≤ b246 := Nat.le_trans K243.1 (Nat.le_of_eq g246.symm)
  have Z246 : n0 ≤ h246.size := Nat.le_trans Z242 E246.1
  have K251 := K243.ext E246
  have F_since_b246 : Fld Z h246 b246 "com/example/eskew/eskew/server/split/CounterValues$Tally" "since" "J" (.long (0 : Int64)) := D246 (Or.inl (hw _ (List.mem_of_getElem? (i := 39) rfl))) (ty := .long) (by decide)
  have F_writesSent_b246 : Fld Z h246 b246 "com/example/eskew/eskew/server/split/CounterValues$Tally" "writesSent" "J" (.long (0 : Int64)) := D246 (Or.inl (hw _ (List.mem_of_getElem? (i := 47) rfl))) (ty := .long) (by decide)
  have F_writes_b246 : Fld Z h246 b246 "com/example/eskew/eskew/server/split/CounterValues$Tally" "writes" "I" (.int (0 : Int32)) := D246 (Or.inl (hw _ (List.mem_of_getElem? (i := 49) rfl))) (ty := .int) (by decide)
  have F_aloneSent_b246 : Fld Z h246 b246 "com/example/eskew/eskew/server/split/CounterValues$Tally" "aloneSent" "J" (.long (0 : Int64)) := D246 (Or.inl (hw _ (List.mem_of_getElem? (i := 51) rfl))) (ty := .long) (by decide)
  have F_value_b246 : Fld Z h246 b246 "com/example/eskew/eskew/server/split/CounterValues$Tally" "value" "J" (.long (0 : Int64)) := D246 (Or.inl (hw _ (List.mem_of_getElem? (i := 69) rfl))) (ty := .long) (by decide)
  have F_known_b246 : Fld Z h246 b246 "com/example/eskew/eskew/server/split/CounterValues$Tally" "known" "Z" (.int (0 : Int32)) := D246 (Or.inl (hw _ (List.mem_of_getElem? (i := 71) rfl))) (ty := .boolean) (by decide)
  have F_settled_b246 : Fld Z h246 b246 "com/example/eskew/eskew/server/split/CounterValues$Tally" "settled" "Z" (.int (0 : Int32)) := D246 (Or.inl (hw _ (List.mem_of_getElem? (i := 73) rfl))) (ty := .boolean) (by decide)
  have F_placing_b246 : Fld Z h246 b246 "com/example/eskew/eskew/server/split/CounterValues$Tally" "placing" "Lcom/example/eskew/eskew/server/split/CounterValues$Placing;" .null := D246 (Or.inl (hw _ (List.mem_of_getElem? (i := 76) rfl))) (ty := (.object "com/example/eskew/eskew/server/split/CounterValues$Placing")) (by decide)
  have F_reads_b246 : Fld Z h246 b246 "com/example/eskew/eskew/server/split/CounterValues$Tally" "reads" "I" (.int (0 : Int32)) := D246 (Or.inl (hw _ (List.mem_of_getElem? (i := 84) rfl))) (ty := .int) (by decide)
  refine own_by st246 ?_
  show own_Go p e below _ T246 (mkF m 67 #[.val (.ref a1), .val (.int (3 : Int32)), .val (.long q3), .second, .val (.long q4), .second, .val (.int (1 : Int32))] [(.ref b246), (.int (1 : Int32)), (.ref b219)])
  refine own_by (fun _ k => XS.dup X246.here hx rfl (hb hby d1_67) rfl rfl k) ?_
  refine own_by (fun _ k => XS.lload X246.here hx rfl (hb hby d1_68) rfl k) ?_
  have f252 := (f247.ext E246)
  have f253 := (f248.ext E246)
  have f254 := (f249.ext E246)
  have f255 := (V242.ext E246)
  have f256 := (f250.ext E246)
  obtain ⟨_, T257, L257, X257, ⟨rfl, N257q, K1', H1'⟩, st257⟩ := own_callR X246 hx hZ hown (y := (⟨"com/example/eskew/eskew/server/split/CounterValues$Tally", "<init>", "(J)V"⟩ : MethodName)) rfl (hw _ (List.mem_of_getElem? (i := 34) rfl)) (hw _ (List.mem_of_getElem? (i := 35) rfl)) (hw _ (List.mem_of_getElem? (i := 33) rfl)) (hw _ (List.mem_of_getElem? (i := 36) rfl)) (by decide) (a := b246) (argsL := [(.long q4)]) (rest := [(.ref b246), (.int (1 : Int32)), (.ref b219)]) e246 (rm4 l Z a0 hw [] b246 q4 h246 n0 Z246 og_b246 ⟨A246, F_since_b246, F_writesSent_b246, F_writes_b246, F_aloneSent_b246, F_value_b246, F_known_b246, F_settled_b246, F_placing_b246, F_reads_b246⟩) (g := (mkF m 70 #[.val (.ref a1), .val (.int (3 : Int32)), .val (.long q3), .second, .val (.long q4), .second, .val (.int (1 : Int32))] [(.long q4), (.ref b246), (.ref b246), (.int (1 : Int32)), (.ref b219)])) rfl (by rw [hml]; rfl) (lenOf pd_1 rfl) rfl (W := 3) (by show 2 * 0 + _ ≤ _; exact Nat.le_of_eq rfl) (hb hby d1_70) (by decide) (by decide) (by decide) (by decide)
  have N257 := Fr.app N242 N257q
  refine own_by st257 ?_
  show own_Go p e below _ T257 (mkF m 73 #[.val (.ref a1), .val (.int (3 : Int32)), .val (.long q3), .second, .val (.long q4), .second, .val (.int (1 : Int32))] [(.ref b246), (.int (1 : Int32)), (.ref b219)])
  have Z257 : n0 ≤ T257.heap.size := Nat.le_trans Z246 K1'.1
  have K257c := K251.trans K1' (allS (Or.inr sz_b246) all0)
  have E1' := H1'.1
  have f259 := (f255.keep K1' (ninS ne_b219_b246 nin0))
  obtain ⟨cl258, Ar258, cq258, hin258, hat258, set258⟩ := own_arv f259 (j := (1 : Int32)) ⟨by decide, by decide⟩
  obtain ⟨T260, h260, X260, e260, W260, st260⟩ := stR X257 hx hZ rfl Ar258 (j := (1 : Int32)) hin258 rfl (Sto.ofV Ar258 cq258 O219 (Ins.self E1')) (g := (mkF m 73 #[.val (.ref a1), .val (.int (3 : Int32)), .val (.long q3), .second, .val (.long q4), .second, .val (.int (1 : Int32))] [(.ref b246), (.int (1 : Int32)), (.ref b219)])) rfl rfl (hb hby d1_73)
  have V260 : Arv Z h260 b219 k219 (.object "com/example/eskew/eskew/server/split/CounterValues$Tally") (3 : Int32) [(.ref b229), (.ref b246), .null] .null := set258 rfl W260 1 rfl (Nat.le_of_ble_eq_true rfl)
  have N260 := Fr.snoc X260 N257 og_b219
  have K261 := K257c.wr W260 (Or.inr sz_b219)
  have Z260 : n0 ≤ h260.size := Nat.le_trans Z257 (Keep.of_wr W260).1
  refine own_by st260 ?_
  refine own_by (fun _ k => XS.iinc X260.here hx rfl (hb hby d1_74) rfl (l' := #[.val (.ref a1), .val (.int (3 : Int32)), .val (.long q3), .second, .val (.long q4), .second, .val (.int ((1 : Int32) + (1 : Int32)))]) rfl k) ?_
  show own_Go p e below _ T260 (mkF m 77 #[.val (.ref a1), .val (.int (3 : Int32)), .val (.long q3), .second, .val (.long q4), .second, .val (.int ((1 : Int32) + (1 : Int32)))] [])
  rw [show (1 : Int32) + (1 : Int32) = (2 : Int32) from by decide]
  refine own_by (fun _ k => XS.goto X260.here hx rfl (pc0 := 77) (pc' := 52) rfl (hb hby d1_77) (by decide) (by decide) k) ?_
  refine own_by (fun _ k => XS.iload X260.here hx rfl (hb hby d1_52) rfl k) ?_
  show own_Go p e below _ T260 (mkF m 54 #[.val (.ref a1), .val (.int (3 : Int32)), .val (.long q3), .second, .val (.long q4), .second, .val (.int (2 : Int32))] [(.int (2 : Int32))])
  refine own_by (fun _ k => XS.iloadN X260.here hx rfl (hb hby d1_54) rfl k) ?_
  refine own_by (fun _ k => XS.icmpNo X260.here hx rfl (hb hby d1_55) rfl (tlt (by decide : (2 : Int32) < (3 : Int32))).2.1 k) ?_
  refine own_by (fun _ k => XS.aloadN X260.here hx rfl (hb hby d1_58) rfl rfl k) ?_
  show own_Go p e below _ T260 (mkF m 59 #[.val (.ref a1), .val (.int (3 : Int32)), .val (.long q3), .second, .val (.long q4), .second, .val (.int (2 : Int32))] [(.ref a1)])
  have f263 := (((f245.ext E246).keep K1' (ninS ne_a1_b246 nin0)).other W260 (Or.inl ne_a1_b219))
  obtain ⟨T262, X262, e262, st262⟩ := getF X260 hx hZ hown (host := "") (Or.inl (hw _ (List.mem_of_getElem? (i := 30) rfl))) Via.refl e260 f263 (g := (mkF m 59 #[.val (.ref a1), .val (.int (3 : Int32)), .val (.long q3), .second, .val (.long q4), .second, .val (.int (2 : Int32))] [(.ref a1)])) rfl rfl (hb hby d1_59)
  refine own_by st262 ?_
  refine own_by (fun _ k => XS.iload X262.here hx rfl (hb hby d1_62) rfl k) ?_
  obtain ⟨T264, h264, X264, e264, E264, A264, D264, -, st264⟩ := newO X262 hx hZ hown (hw _ (List.mem_of_getElem? (i := 28) rfl)) (hw _ (List.mem_of_getElem? (i := 32) rfl)) (hw _ (List.mem_of_getElem? (i := 33) rfl)) e262 (g := (mkF m 64 #[.val (.ref a1), .val (.int (3 : Int32)), .val (.long q3), .second, .val (.long q4), .second, .val (.int (2 : Int32))] [(.int (2 : Int32)), (.ref b219)])) rfl (hb hby d1_64) (by decide) (by decide)
  obtain ⟨b264, g264⟩ : ∃ zq, zq = h260.size := ⟨_, rfl⟩
  rw [← g264] at A264 D264 st264
  have f265 := ((f252.keep K1' (ninS ne_a1_b246 nin0)).other W260 (Or.inl ne_a1_b219))
  have ne_a1_b264 : a1 ≠ b264 := Nat.ne_of_lt (Nat.lt_of_lt_of_le f265.lt (Nat.le_of_eq g264.symm))
  have f266 := ((f253.keep K1').wr W260)
  have ne_b192_b264 : b192 ≠ b264 := Nat.ne_of_lt (Nat.lt_of_lt_of_le f266.lt (Nat.le_of_eq g264.symm))
  have f267 := ((f254.keep K1').wr W260)
  have ne_b199_b264 : b199 ≠ b264 := Nat.ne_of_lt (Nat.lt_of_lt_of_le f267.lt (Nat.le_of_eq g264.symm))
  have ne_b219_b264 : b219 ≠ b264 := Nat.ne_of_lt (Nat.lt_of_lt_of_le V260.lt (Nat.le_of_eq g264.symm))
  have f268 := ((f256.keep K1').wr W260)
  have ne_b229_b264 : b229 ≠ b264 := Nat.ne_of_lt (Nat.lt_of_lt_of_le f268.lt (Nat.le_of_eq g264.symm))
  have f269 := (E1'.wr W260)
  have ne_b246_b264 : b246 ≠ b264 := Nat.ne_of_lt (Nat.lt_of_lt_of_le f269.lt (Nat.le_of_eq g264.symm))
  have og_b264 : n0 ≤ b264 := Nat.le_trans Z260 (Nat.le_of_eq g264.symm)
  have sz_b264 : h0.size ≤ b264 := Nat.le_trans K261.1 (Nat.le_of_eq g264.symm)
  have Z264 : n0 ≤ h264.size := Nat.le_trans Z260 E264.1
  have K270 := K261.ext E264
  have F_since_b264 : Fld Z h264 b264 "com/example/eskew/eskew/server/split/CounterValues$Tally" "since" "J" (.long (0 : Int64)) := D264 (Or.inl (hw _ (List.mem_of_getElem? (i := 39) rfl))) (ty := .long) (by decide)
  have F_writesSent_b264 : Fld Z h264 b264 "com/example/eskew/eskew/server/split/CounterValues$Tally" "writesSent" "J" (.long (0 : Int64)) := D264 (Or.inl (hw _ (List.mem_of_getElem? (i := 47) rfl))) (ty := .long) (by decide)
  have F_writes_b264 : Fld Z h264 b264 "com/example/eskew/eskew/server/split/CounterValues$Tally" "writes" "I" (.int (0 : Int32)) := D264 (Or.inl (hw _ (List.mem_of_getElem? (i := 49) rfl))) (ty := .int) (by decide)
  have F_aloneSent_b264 : Fld Z h264 b264 "com/example/eskew/eskew/server/split/CounterValues$Tally" "aloneSent" "J" (.long (0 : Int64)) := D264 (Or.inl (hw _ (List.mem_of_getElem? (i := 51) rfl))) (ty := .long) (by decide)
  have F_value_b264 : Fld Z h264 b264 "com/example/eskew/eskew/server/split/CounterValues$Tally" "value" "J" (.long (0 : Int64)) := D264 (Or.inl (hw _ (List.mem_of_getElem? (i := 69) rfl))) (ty := .long) (by decide)
  have F_known_b264 : Fld Z h264 b264 "com/example/eskew/eskew/server/split/CounterValues$Tally" "known" "Z" (.int (0 : Int32)) := D264 (Or.inl (hw _ (List.mem_of_getElem? (i := 71) rfl))) (ty := .boolean) (by decide)
  have F_settled_b264 : Fld Z h264 b264 "com/example/eskew/eskew/server/split/CounterValues$Tally" "settled" "Z" (.int (0 : Int32)) := D264 (Or.inl (hw _ (List.mem_of_getElem? (i := 73) rfl))) (ty := .boolean) (by decide)
  have F_placing_b264 : Fld Z h264 b264 "com/example/eskew/eskew/server/split/CounterValues$Tally" "placing" "Lcom/example/eskew/eskew/server/split/CounterValues$Placing;" .null := D264 (Or.inl (hw _ (List.mem_of_getElem? (i := 76) rfl))) (ty := (.object "com/example/eskew/eskew/server/split/CounterValues$Placing")) (by decide)
  have F_reads_b264 : Fld Z h264 b264 "com/example/eskew/eskew/server/split/CounterValues$Tally" "reads" "I" (.int (0 : Int32)) := D264 (Or.inl (hw _ (List.mem_of_getElem? (i := 84) rfl))) (ty := .int) (by decide)
  refine own_by st264 ?_
  show own_Go p e below _ T264 (mkF m 67 #[.val (.ref a1), .val (.int (3 : Int32)), .val (.long q3), .second, .val (.long q4), .second, .val (.int (2 : Int32))] [(.ref b264), (.int (2 : Int32)), (.ref b219)])
  refine own_by (fun _ k => XS.dup X264.here hx rfl (hb hby d1_67) rfl rfl k) ?_
  refine own_by (fun _ k => XS.lload X264.here hx rfl (hb hby d1_68) rfl k) ?_
  have f271 := (f265.ext E264)
  have f272 := (f266.ext E264)
  have f273 := (f267.ext E264)
  have f274 := (V260.ext E264)
  have f275 := (f268.ext E264)
  have f276 := (f269.ext E264)
  obtain ⟨_, T277, L277, X277, ⟨rfl, N277q, K2', H2'⟩, st277⟩ := own_callR X264 hx hZ hown (y := (⟨"com/example/eskew/eskew/server/split/CounterValues$Tally", "<init>", "(J)V"⟩ : MethodName)) rfl (hw _ (List.mem_of_getElem? (i := 34) rfl)) (hw _ (List.mem_of_getElem? (i := 35) rfl)) (hw _ (List.mem_of_getElem? (i := 33) rfl)) (hw _ (List.mem_of_getElem? (i := 36) rfl)) (by decide) (a := b264) (argsL := [(.long q4)]) (rest := [(.ref b264), (.int (2 : Int32)), (.ref b219)]) e264 (rm4 l Z a0 hw [] b264 q4 h264 n0 Z264 og_b264 ⟨A264, F_since_b264, F_writesSent_b264, F_writes_b264, F_aloneSent_b264, F_value_b264, F_known_b264, F_settled_b264, F_placing_b264, F_reads_b264⟩) (g := (mkF m 70 #[.val (.ref a1), .val (.int (3 : Int32)), .val (.long q3), .second, .val (.long q4), .second, .val (.int (2 : Int32))] [(.long q4), (.ref b264), (.ref b264), (.int (2 : Int32)), (.ref b219)])) rfl (by rw [hml]; rfl) (lenOf pd_1 rfl) rfl (W := 3) (by show 2 * 0 + _ ≤ _; exact Nat.le_of_eq rfl) (hb hby d1_70) (by decide) (by decide) (by decide) (by decide)
  have N277 := Fr.app N260 N277q
  refine own_by st277 ?_
  show own_Go p e below _ T277 (mkF m 73 #[.val (.ref a1), .val (.int (3 : Int32)), .val (.long q3), .second, .val (.long q4), .second, .val (.int (2 : Int32))] [(.ref b264), (.int (2 : Int32)), (.ref b219)])
  have Z277 : n0 ≤ T277.heap.size := Nat.le_trans Z264 K2'.1
  have K277c := K270.trans K2' (allS (Or.inr sz_b264) all0)
  have E2' := H2'.1
  have f279 := (f274.keep K2' (ninS ne_b219_b264 nin0))
  obtain ⟨cl278, Ar278, cq278, hin278, hat278, set278⟩ := own_arv f279 (j := (2 : Int32)) ⟨by decide, by decide⟩
  obtain ⟨T280, h280, X280, e280, W280, st280⟩ := stR X277 hx hZ rfl Ar278 (j := (2 : Int32)) hin278 rfl (Sto.ofV Ar278 cq278 O219 (Ins.self E2')) (g := (mkF m 73 #[.val (.ref a1), .val (.int (3 : Int32)), .val (.long q3), .second, .val (.long q4), .second, .val (.int (2 : Int32))] [(.ref b264), (.int (2 : Int32)), (.ref b219)])) rfl rfl (hb hby d1_73)
  have V280 : Arv Z h280 b219 k219 (.object "com/example/eskew/eskew/server/split/CounterValues$Tally") (3 : Int32) [(.ref b229), (.ref b246), (.ref b264)] .null := set278 rfl W280 2 rfl (Nat.le_of_ble_eq_true rfl)
  have N280 := Fr.snoc X280 N277 og_b219
  have K281 := K277c.wr W280 (Or.inr sz_b219)
  have Z280 : n0 ≤ h280.size := Nat.le_trans Z277 (Keep.of_wr W280).1
  refine own_by st280 ?_
  refine own_by (fun _ k => XS.iinc X280.here hx rfl (hb hby d1_74) rfl (l' := #[.val (.ref a1), .val (.int (3 : Int32)), .val (.long q3), .second, .val (.long q4), .second, .val (.int ((2 : Int32) + (1 : Int32)))]) rfl k) ?_
  show own_Go p e below _ T280 (mkF m 77 #[.val (.ref a1), .val (.int (3 : Int32)), .val (.long q3), .second, .val (.long q4), .second, .val (.int ((2 : Int32) + (1 : Int32)))] [])
  rw [show (2 : Int32) + (1 : Int32) = (3 : Int32) from by decide]
  refine own_by (fun _ k => XS.goto X280.here hx rfl (pc0 := 77) (pc' := 52) rfl (hb hby d1_77) (by decide) (by decide) k) ?_
  refine own_by (fun _ k => XS.iload X280.here hx rfl (hb hby d1_52) rfl k) ?_
  show own_Go p e below _ T280 (mkF m 54 #[.val (.ref a1), .val (.int (3 : Int32)), .val (.long q3), .second, .val (.long q4), .second, .val (.int (3 : Int32))] [(.int (3 : Int32))])
  refine own_by (fun _ k => XS.iloadN X280.here hx rfl (hb hby d1_54) rfl k) ?_
  refine own_by (fun _ k => XS.icmpYes X280.here hx rfl (pc0 := 55) (pc' := 80) rfl (hb hby d1_55) rfl (flt (by decide : ¬ ((3 : Int32) < (3 : Int32)))).2.1 (by decide) (by decide) k) ?_
  have f282 := (own_TalW (own_TalK (own_TalE (own_TalW (own_TalK (own_TalE (own_TalW H0' W242 (Ne.symm ne_b219_b229)) E246) K1' (ninS ne_b229_b246 nin0)) W260 (Ne.symm ne_b219_b229)) E264) K2' (ninS ne_b229_b264 nin0)) W280 (Ne.symm ne_b219_b229))
  have f283 := (own_TalW (own_TalK (own_TalE (own_TalW H1' W260 (Ne.symm ne_b219_b246)) E264) K2' (ninS ne_b246_b264 nin0)) W280 (Ne.symm ne_b219_b246))
  have f284 := (own_TalW H2' W280 (Ne.symm ne_b219_b264))
  have hall : own_All Z h280 h0.size b219 [(.ref b229), (.ref b246), (.ref b264)] (3 : Int32) q4 := by
    intro j h1 h2
    rcases own_rng_3 j h1 h2 with rfl | rfl | rfl
    · exact ⟨b229, rfl, sz_b229, ne_b219_b229, f282⟩
    · exact ⟨b246, rfl, sz_b246, ne_b219_b246, f283⟩
    · exact ⟨b264, rfl, sz_b264, ne_b219_b264, f284⟩
  have hinj : own_Inj [(.ref b229), (.ref b246), (.ref b264)] (3 : Int32) := by
    intro i j h1 h2 h3 h4 hij
    rcases own_rng_3 i h1 h2 with rfl | rfl | rfl <;> rcases own_rng_3 j h3 h4 with rfl | rfl | rfl
    · exact absurd rfl hij
    · exact fun q => ne_b229_b246 (Value.ref.inj q)
    · exact fun q => ne_b229_b264 (Value.ref.inj q)
    · exact fun q => (Ne.symm ne_b229_b246) (Value.ref.inj q)
    · exact absurd rfl hij
    · exact fun q => ne_b246_b264 (Value.ref.inj q)
    · exact fun q => (Ne.symm ne_b229_b264) (Value.ref.inj q)
    · exact fun q => (Ne.symm ne_b246_b264) (Value.ref.inj q)
    · exact absurd rfl hij
  have f285 := ((((((((((f226.wr W224).ext E229).keep K0').wr W242).ext E246).keep K1').wr W260).ext E264).keep K2').wr W280)
  have f286 := (((((((((((((fw207.other W211 (Or.inr (slot_ne (Or.inl (hw _ (List.mem_of_getElem? (i := 23) rfl))) (Or.inl (hw _ (List.mem_of_getElem? (i := 25) rfl))) (by decide) (t := .int) (t' := .int) (by decide) (by decide)))).other W215 (Or.inr (slot_ne (Or.inl (hw _ (List.mem_of_getElem? (i := 23) rfl))) (Or.inr (hw _ (List.mem_of_getElem? (i := 27) rfl))) (by decide) (t := .int) (t' := .long) (by decide) (by decide)))).ext E219).other W224 (Or.inr (slot_ne (Or.inl (hw _ (List.mem_of_getElem? (i := 23) rfl))) (Or.inr (hw _ (List.mem_of_getElem? (i := 31) rfl))) (by decide) (t := .int) (t' := (.array (.object "com/example/eskew/eskew/server/split/CounterValues$Tally"))) (by decide) (by decide)))).ext E229).keep K0' (ninS ne_a1_b229 nin0)).other W242 (Or.inl ne_a1_b219)).ext E246).keep K1' (ninS ne_a1_b246 nin0)).other W260 (Or.inl ne_a1_b219)).ext E264).keep K2' (ninS ne_a1_b264 nin0)).other W280 (Or.inl ne_a1_b219))
  have f287 := (((((((((((fw215.ext E219).other W224 (Or.inr (slot_ne (Or.inr (hw _ (List.mem_of_getElem? (i := 27) rfl))) (Or.inr (hw _ (List.mem_of_getElem? (i := 31) rfl))) (by decide) (t := .long) (t' := (.array (.object "com/example/eskew/eskew/server/split/CounterValues$Tally"))) (by decide) (by decide)))).ext E229).keep K0' (ninS ne_a1_b229 nin0)).other W242 (Or.inl ne_a1_b219)).ext E246).keep K1' (ninS ne_a1_b246 nin0)).other W260 (Or.inl ne_a1_b219)).ext E264).keep K2' (ninS ne_a1_b264 nin0)).other W280 (Or.inl ne_a1_b219))
  have f288 := (((f263.ext E264).keep K2' (ninS ne_a1_b264 nin0)).other W280 (Or.inl ne_a1_b219))
  exact own_ret0 X280 hx hlk hret (hb hby d1_80) (by first | exact ⟨b219, k219, [(.ref b229), (.ref b246), (.ref b264)], rfl, N280, K281, f285, f286, f287, f288, sz_b219, V280, hall, hinj⟩ | (rw [e280]; exact ⟨b219, k219, [(.ref b229), (.ref b246), (.ref b264)], rfl, N280, K281, f285, f286, f287, f288, sz_b219, V280, hall, hinj⟩)) (by decide) (by decide)
theorem pn_rm1_4 : plainFor (⟨"com/example/eskew/eskew/server/split/CounterValues", "<init>", "(IJJ)V"⟩ : MethodName) = true := plainFor_of_name (by first | (simp [plainName, overriddenIn, x]; done) | decide +kernel)
set_option maxRecDepth 65536 in
set_option maxHeartbeats 40000000 in
theorem rm1_4 (l : Launch) (Z : State) (a0 : Array Value) (hw : ∀ d ∈ tables_1, d.before a0 Z = true) (ws : List Jvm.Cond) (a1 : Addr) (q3 q4 : Int64) (h0 : Heap) (n0 : Nat) (Z0 : n0 ≤ h0.size) (g1 : n0 ≤ a1) (E1 : Exa Z h0 a1 "com/example/eskew/eskew/server/split/CounterValues") (F_rising : Fld Z h0 a1 "com/example/eskew/eskew/server/split/CounterValues" "rising" "Lcom/example/eskew/eskew/server/split/CounterValues$WideSum;" .null) (F_falling : Fld Z h0 a1 "com/example/eskew/eskew/server/split/CounterValues" "falling" "Lcom/example/eskew/eskew/server/split/CounterValues$WideSum;" .null) (F_resting : Fld Z h0 a1 "com/example/eskew/eskew/server/split/CounterValues" "resting" "I" (.int (0 : Int32))) (F_nextToRest : Fld Z h0 a1 "com/example/eskew/eskew/server/split/CounterValues" "nextToRest" "I" (.int (0 : Int32))) (F_rereadNanos : Fld Z h0 a1 "com/example/eskew/eskew/server/split/CounterValues" "rereadNanos" "J" (.long (0 : Int64))) (F_tallies : Fld Z h0 a1 "com/example/eskew/eskew/server/split/CounterValues" "tallies" "[Lcom/example/eskew/eskew/server/split/CounterValues$Tally;" .null) :
    own_Met l Z (⟨"com/example/eskew/eskew/server/split/CounterValues", "<init>", "(IJJ)V"⟩ : MethodName) prog_33_method_1_code 7 none ws ({ frames := 2, cells := 8, slots := 54, locals := 48 } : Room) #[(.ref a1), (.int (4 : Int32)), (.long q3), (.long q4)] h0 (Q_rm1 Z a1 (4 : Int32) q3 q4 h0 n0) := by
  refine own_enter (g0 := fun m => (mkF m 0 #[.val (.ref a1), .val (.int (4 : Int32)), .val (.long q3), .second, .val (.long q4), .second, .unset] [])) pn_rm1_4 (fun m => by first | (simp [entryFrame, mkF, argsToLocals, Value.category, maxLocals]; done) | rfl) ?_
  intro p e s m below meth c s₁ hx hby hml hown hnm hret hlk hZ X0 e0
  have hml : c.maxLocals = 7 := hml
  have hown : s.vm.findClass "com/example/eskew/eskew/server/split/CounterValues" = some m.cls := hown
  have N0 := Fr.nil n0
  have K0 := Keep.refl h0 [a1]
  refine own_by (fun _ k => XS.aloadN X0.here hx rfl (hb hby d1_0) rfl rfl k) ?_
  obtain ⟨T289, X289, e289, st289⟩ := initO X0 hx hZ hown (hw _ (List.mem_of_getElem? (i := 8) rfl)) (hw _ (List.mem_of_getElem? (i := 9) rfl)) (hw _ (List.mem_of_getElem? (i := 10) rfl)) e0 (g := (mkF m 1 #[.val (.ref a1), .val (.int (4 : Int32)), .val (.long q3), .second, .val (.long q4), .second, .unset] [(.ref a1)])) rfl (by rw [hml]; rfl) rfl (hb hby d1_1) (by decide) (W := 0) (by show 2 * 0 + _ ≤ _; exact Nat.le_of_eq rfl) (by decide)
  refine own_by st289 ?_
  show own_Go p e below _ T289 (mkF m 4 #[.val (.ref a1), .val (.int (4 : Int32)), .val (.long q3), .second, .val (.long q4), .second, .unset] [])
  refine own_by (fun _ k => XS.aloadN X289.here hx rfl (hb hby d1_4) rfl rfl k) ?_
  obtain ⟨T290, h290, X290, e290, E290, A290, D290, -, st290⟩ := newO X289 hx hZ hown (hw _ (List.mem_of_getElem? (i := 11) rfl)) (hw _ (List.mem_of_getElem? (i := 12) rfl)) (hw _ (List.mem_of_getElem? (i := 13) rfl)) e289 (g := (mkF m 5 #[.val (.ref a1), .val (.int (4 : Int32)), .val (.long q3), .second, .val (.long q4), .second, .unset] [(.ref a1)])) rfl (hb hby d1_5) (by decide) (by decide)
  obtain ⟨b290, g290⟩ : ∃ zq, zq = h0.size := ⟨_, rfl⟩
  rw [← g290] at A290 D290 st290
  have ne_a1_b290 : a1 ≠ b290 := Nat.ne_of_lt (Nat.lt_of_lt_of_le F_rising.lt (Nat.le_of_eq g290.symm))
  have og_b290 : n0 ≤ b290 := Nat.le_trans Z0 (Nat.le_of_eq g290.symm)
  have sz_b290 : h0.size ≤ b290 := Nat.le_trans K0.1 (Nat.le_of_eq g290.symm)
  have Z290 : n0 ≤ h290.size := Nat.le_trans Z0 E290.1
  have K291 := K0.ext E290
  have F_low_b290 : Fld Z h290 b290 "com/example/eskew/eskew/server/split/CounterValues$WideSum" "low" "J" (.long (0 : Int64)) := D290 (Or.inl (hw _ (List.mem_of_getElem? (i := 102) rfl))) (ty := .long) (by decide)
  have F_high_b290 : Fld Z h290 b290 "com/example/eskew/eskew/server/split/CounterValues$WideSum" "high" "J" (.long (0 : Int64)) := D290 (Or.inl (hw _ (List.mem_of_getElem? (i := 109) rfl))) (ty := .long) (by decide)
  refine own_by st290 ?_
  refine own_by (fun _ k => XS.dup X290.here hx rfl (hb hby d1_8) rfl rfl k) ?_
  show own_Go p e below _ T290 (mkF m 9 #[.val (.ref a1), .val (.int (4 : Int32)), .val (.long q3), .second, .val (.long q4), .second, .unset] [(.ref b290), (.ref b290), (.ref a1)])
  obtain ⟨_, T292, L292, X292, ⟨rfl, N292q, e292⟩, st292⟩ := own_callR X290 hx hZ hown (y := (⟨"com/example/eskew/eskew/server/split/CounterValues$WideSum", "<init>", "()V"⟩ : MethodName)) rfl (hw _ (List.mem_of_getElem? (i := 14) rfl)) (hw _ (List.mem_of_getElem? (i := 15) rfl)) (hw _ (List.mem_of_getElem? (i := 13) rfl)) (hw _ (List.mem_of_getElem? (i := 16) rfl)) (by decide) (a := b290) (argsL := []) (rest := [(.ref b290), (.ref a1)]) e290 (rm3 l Z a0 hw [] b290 h290 n0 Z290) (g := (mkF m 9 #[.val (.ref a1), .val (.int (4 : Int32)), .val (.long q3), .second, .val (.long q4), .second, .unset] [(.ref b290), (.ref b290), (.ref a1)])) rfl (by rw [hml]; rfl) (lenOf pd_0 rfl) rfl (W := 2) (by show 2 * 0 + _ ≤ _; exact Nat.le_of_eq rfl) (hb hby d1_9) (by decide) (by decide) (by decide) (by decide)
  have N292 := Fr.app N0 N292q
  refine own_by st292 ?_
  have f294 := (F_rising.ext E290)
  have f295 := (E1.ext E290)
  obtain ⟨T293, h293, X293, e293, W293, st293⟩ := putF X292 hx hZ hown (host := "") (Or.inl (hw _ (List.mem_of_getElem? (i := 18) rfl))) Via.refl e292 f294 f295 (Or.inr ⟨(hw _ (List.mem_of_getElem? (i := 19) rfl)), rfl, hnm⟩) (hw _ (List.mem_of_getElem? (i := 2) rfl)) (ty := (.object "com/example/eskew/eskew/server/split/CounterValues$WideSum")) (by decide) rfl rfl (g := (mkF m 12 #[.val (.ref a1), .val (.int (4 : Int32)), .val (.long q3), .second, .val (.long q4), .second, .unset] [(.ref b290), (.ref a1)])) rfl rfl (hb hby d1_12)
  refine own_by st293 ?_
  have N293 := Fr.snoc X293 N292 g1
  have fw293 := f294.same W293
  have K296 := K291.wr W293 (Or.inl (List.mem_of_getElem? (i := 0) rfl))
  have Z293 : n0 ≤ h293.size := Nat.le_trans Z290 (Keep.of_wr W293).1
  refine own_by (fun _ k => XS.aloadN X293.here hx rfl (hb hby d1_15) rfl rfl k) ?_
  show own_Go p e below _ T293 (mkF m 16 #[.val (.ref a1), .val (.int (4 : Int32)), .val (.long q3), .second, .val (.long q4), .second, .unset] [(.ref a1)])
  obtain ⟨T297, h297, X297, e297, E297, A297, D297, -, st297⟩ := newO X293 hx hZ hown (hw _ (List.mem_of_getElem? (i := 11) rfl)) (hw _ (List.mem_of_getElem? (i := 12) rfl)) (hw _ (List.mem_of_getElem? (i := 13) rfl)) e293 (g := (mkF m 16 #[.val (.ref a1), .val (.int (4 : Int32)), .val (.long q3), .second, .val (.long q4), .second, .unset] [(.ref a1)])) rfl (hb hby d1_16) (by decide) (by decide)
  obtain ⟨b297, g297⟩ : ∃ zq, zq = h293.size := ⟨_, rfl⟩
  rw [← g297] at A297 D297 st297
  have ne_a1_b297 : a1 ≠ b297 := Nat.ne_of_lt (Nat.lt_of_lt_of_le fw293.lt (Nat.le_of_eq g297.symm))
  have f298 := (A290.wr W293)
  have ne_b290_b297 : b290 ≠ b297 := Nat.ne_of_lt (Nat.lt_of_lt_of_le f298.lt (Nat.le_of_eq g297.symm))
  have og_b297 : n0 ≤ b297 := Nat.le_trans Z293 (Nat.le_of_eq g297.symm)
  have sz_b297 : h0.size ≤ b297 := Nat.le_trans K296.1 (Nat.le_of_eq g297.symm)
  have Z297 : n0 ≤ h297.size := Nat.le_trans Z293 E297.1
  have K299 := K296.ext E297
  have F_low_b297 : Fld Z h297 b297 "com/example/eskew/eskew/server/split/CounterValues$WideSum" "low" "J" (.long (0 : Int64)) := D297 (Or.inl (hw _ (List.mem_of_getElem? (i := 102) rfl))) (ty := .long) (by decide)
  have F_high_b297 : Fld Z h297 b297 "com/example/eskew/eskew/server/split/CounterValues$WideSum" "high" "J" (.long (0 : Int64)) := D297 (Or.inl (hw _ (List.mem_of_getElem? (i := 109) rfl))) (ty := .long) (by decide)
  refine own_by st297 ?_
  refine own_by (fun _ k => XS.dup X297.here hx rfl (hb hby d1_19) rfl rfl k) ?_
  obtain ⟨_, T300, L300, X300, ⟨rfl, N300q, e300⟩, st300⟩ := own_callR X297 hx hZ hown (y := (⟨"com/example/eskew/eskew/server/split/CounterValues$WideSum", "<init>", "()V"⟩ : MethodName)) rfl (hw _ (List.mem_of_getElem? (i := 14) rfl)) (hw _ (List.mem_of_getElem? (i := 15) rfl)) (hw _ (List.mem_of_getElem? (i := 13) rfl)) (hw _ (List.mem_of_getElem? (i := 16) rfl)) (by decide) (a := b297) (argsL := []) (rest := [(.ref b297), (.ref a1)]) e297 (rm3 l Z a0 hw [] b297 h297 n0 Z297) (g := (mkF m 20 #[.val (.ref a1), .val (.int (4 : Int32)), .val (.long q3), .second, .val (.long q4), .second, .unset] [(.ref b297), (.ref b297), (.ref a1)])) rfl (by rw [hml]; rfl) (lenOf pd_0 rfl) rfl (W := 2) (by show 2 * 0 + _ ≤ _; exact Nat.le_of_eq rfl) (hb hby d1_20) (by decide) (by decide) (by decide) (by decide)
  have N300 := Fr.app N293 N300q
  refine own_by st300 ?_
  show own_Go p e below _ T300 (mkF m 23 #[.val (.ref a1), .val (.int (4 : Int32)), .val (.long q3), .second, .val (.long q4), .second, .unset] [(.ref b297), (.ref a1)])
  have f302 := (((F_falling.ext E290).other W293 (Or.inr (slot_ne (Or.inr (hw _ (List.mem_of_getElem? (i := 21) rfl))) (Or.inr (hw _ (List.mem_of_getElem? (i := 19) rfl))) (by decide) (t := (.object "com/example/eskew/eskew/server/split/CounterValues$WideSum")) (t' := (.object "com/example/eskew/eskew/server/split/CounterValues$WideSum")) (by decide) (by decide)))).ext E297)
  have f303 := ((f295.wr W293).ext E297)
  obtain ⟨T301, h301, X301, e301, W301, st301⟩ := putF X300 hx hZ hown (host := "") (Or.inl (hw _ (List.mem_of_getElem? (i := 20) rfl))) Via.refl e300 f302 f303 (Or.inr ⟨(hw _ (List.mem_of_getElem? (i := 21) rfl)), rfl, hnm⟩) (hw _ (List.mem_of_getElem? (i := 2) rfl)) (ty := (.object "com/example/eskew/eskew/server/split/CounterValues$WideSum")) (by decide) rfl rfl (g := (mkF m 23 #[.val (.ref a1), .val (.int (4 : Int32)), .val (.long q3), .second, .val (.long q4), .second, .unset] [(.ref b297), (.ref a1)])) rfl rfl (hb hby d1_23)
  refine own_by st301 ?_
  have N301 := Fr.snoc X301 N300 g1
  have fw301 := f302.same W301
  have K304 := K299.wr W301 (Or.inl (List.mem_of_getElem? (i := 0) rfl))
  have Z301 : n0 ≤ h301.size := Nat.le_trans Z297 (Keep.of_wr W301).1
  refine own_by (fun _ k => XS.aloadN X301.here hx rfl (hb hby d1_26) rfl rfl k) ?_
  refine own_by (fun _ k => XS.iconst X301.here hx rfl (hb hby d1_27) k) ?_
  show own_Go p e below _ T301 (mkF m 28 #[.val (.ref a1), .val (.int (4 : Int32)), .val (.long q3), .second, .val (.long q4), .second, .unset] [(.int (-1 : Int32)), (.ref a1)])
  have f306 := ((((F_resting.ext E290).other W293 (Or.inr (slot_ne (Or.inl (hw _ (List.mem_of_getElem? (i := 23) rfl))) (Or.inr (hw _ (List.mem_of_getElem? (i := 19) rfl))) (by decide) (t := .int) (t' := (.object "com/example/eskew/eskew/server/split/CounterValues$WideSum")) (by decide) (by decide)))).ext E297).other W301 (Or.inr (slot_ne (Or.inl (hw _ (List.mem_of_getElem? (i := 23) rfl))) (Or.inr (hw _ (List.mem_of_getElem? (i := 21) rfl))) (by decide) (t := .int) (t' := (.object "com/example/eskew/eskew/server/split/CounterValues$WideSum")) (by decide) (by decide))))
  have f307 := (f303.wr W301)
  obtain ⟨T305, h305, X305, e305, W305, st305⟩ := putF X301 hx hZ hown (host := "") (Or.inl (hw _ (List.mem_of_getElem? (i := 22) rfl))) Via.refl e301 f306 f307 (Or.inl (hw _ (List.mem_of_getElem? (i := 23) rfl))) (hw _ (List.mem_of_getElem? (i := 2) rfl)) (ty := .int) (by decide) rfl rfl (g := (mkF m 28 #[.val (.ref a1), .val (.int (4 : Int32)), .val (.long q3), .second, .val (.long q4), .second, .unset] [(.int (-1 : Int32)), (.ref a1)])) rfl rfl (hb hby d1_28)
  refine own_by st305 ?_
  have N305 := Fr.snoc X305 N301 g1
  have fw305 := f306.same W305
  have K308 := K304.wr W305 (Or.inl (List.mem_of_getElem? (i := 0) rfl))
  have Z305 : n0 ≤ h305.size := Nat.le_trans Z301 (Keep.of_wr W305).1
  refine own_by (fun _ k => XS.aloadN X305.here hx rfl (hb hby d1_31) rfl rfl k) ?_
  refine own_by (fun _ k => XS.iconst X305.here hx rfl (hb hby d1_32) k) ?_
  show own_Go p e below _ T305 (mkF m 33 #[.val (.ref a1), .val (.int (4 : Int32)), .val (.long q3), .second, .val (.long q4), .second, .unset] [(.int (1 : Int32)), (.ref a1)])
  have f310 := (((((F_nextToRest.ext E290).other W293 (Or.inr (slot_ne (Or.inl (hw _ (List.mem_of_getElem? (i := 25) rfl))) (Or.inr (hw _ (List.mem_of_getElem? (i := 19) rfl))) (by decide) (t := .int) (t' := (.object "com/example/eskew/eskew/server/split/CounterValues$WideSum")) (by decide) (by decide)))).ext E297).other W301 (Or.inr (slot_ne (Or.inl (hw _ (List.mem_of_getElem? (i := 25) rfl))) (Or.inr (hw _ (List.mem_of_getElem? (i := 21) rfl))) (by decide) (t := .int) (t' := (.object "com/example/eskew/eskew/server/split/CounterValues$WideSum")) (by decide) (by decide)))).other W305 (Or.inr (slot_ne (Or.inl (hw _ (List.mem_of_getElem? (i := 25) rfl))) (Or.inl (hw _ (List.mem_of_getElem? (i := 23) rfl))) (by decide) (t := .int) (t' := .int) (by decide) (by decide))))
  have f311 := (f307.wr W305)
  obtain ⟨T309, h309, X309, e309, W309, st309⟩ := putF X305 hx hZ hown (host := "") (Or.inl (hw _ (List.mem_of_getElem? (i := 24) rfl))) Via.refl e305 f310 f311 (Or.inl (hw _ (List.mem_of_getElem? (i := 25) rfl))) (hw _ (List.mem_of_getElem? (i := 2) rfl)) (ty := .int) (by decide) rfl rfl (g := (mkF m 33 #[.val (.ref a1), .val (.int (4 : Int32)), .val (.long q3), .second, .val (.long q4), .second, .unset] [(.int (1 : Int32)), (.ref a1)])) rfl rfl (hb hby d1_33)
  refine own_by st309 ?_
  have N309 := Fr.snoc X309 N305 g1
  have fw309 := f310.same W309
  have K312 := K308.wr W309 (Or.inl (List.mem_of_getElem? (i := 0) rfl))
  have Z309 : n0 ≤ h309.size := Nat.le_trans Z305 (Keep.of_wr W309).1
  refine own_by (fun _ k => XS.aloadN X309.here hx rfl (hb hby d1_36) rfl rfl k) ?_
  refine own_by (fun _ k => XS.lloadN X309.here hx rfl (hb hby d1_37) rfl k) ?_
  show own_Go p e below _ T309 (mkF m 38 #[.val (.ref a1), .val (.int (4 : Int32)), .val (.long q3), .second, .val (.long q4), .second, .unset] [(.long q3), (.ref a1)])
  have f314 := ((((((F_rereadNanos.ext E290).other W293 (Or.inr (slot_ne (Or.inr (hw _ (List.mem_of_getElem? (i := 27) rfl))) (Or.inr (hw _ (List.mem_of_getElem? (i := 19) rfl))) (by decide) (t := .long) (t' := (.object "com/example/eskew/eskew/server/split/CounterValues$WideSum")) (by decide) (by decide)))).ext E297).other W301 (Or.inr (slot_ne (Or.inr (hw _ (List.mem_of_getElem? (i := 27) rfl))) (Or.inr (hw _ (List.mem_of_getElem? (i := 21) rfl))) (by decide) (t := .long) (t' := (.object "com/example/eskew/eskew/server/split/CounterValues$WideSum")) (by decide) (by decide)))).other W305 (Or.inr (slot_ne (Or.inr (hw _ (List.mem_of_getElem? (i := 27) rfl))) (Or.inl (hw _ (List.mem_of_getElem? (i := 23) rfl))) (by decide) (t := .long) (t' := .int) (by decide) (by decide)))).other W309 (Or.inr (slot_ne (Or.inr (hw _ (List.mem_of_getElem? (i := 27) rfl))) (Or.inl (hw _ (List.mem_of_getElem? (i := 25) rfl))) (by decide) (t := .long) (t' := .int) (by decide) (by decide))))
  have f315 := (f311.wr W309)
  obtain ⟨T313, h313, X313, e313, W313, st313⟩ := putF X309 hx hZ hown (host := "") (Or.inl (hw _ (List.mem_of_getElem? (i := 26) rfl))) Via.refl e309 f314 f315 (Or.inr ⟨(hw _ (List.mem_of_getElem? (i := 27) rfl)), rfl, hnm⟩) (hw _ (List.mem_of_getElem? (i := 2) rfl)) (ty := .long) (by decide) rfl rfl (g := (mkF m 38 #[.val (.ref a1), .val (.int (4 : Int32)), .val (.long q3), .second, .val (.long q4), .second, .unset] [(.long q3), (.ref a1)])) rfl rfl (hb hby d1_38)
  refine own_by st313 ?_
  have N313 := Fr.snoc X313 N309 g1
  have fw313 := f314.same W313
  have K316 := K312.wr W313 (Or.inl (List.mem_of_getElem? (i := 0) rfl))
  have Z313 : n0 ≤ h313.size := Nat.le_trans Z309 (Keep.of_wr W313).1
  refine own_by (fun _ k => XS.aloadN X313.here hx rfl (hb hby d1_41) rfl rfl k) ?_
  refine own_by (fun _ k => XS.iloadN X313.here hx rfl (hb hby d1_42) rfl k) ?_
  show own_Go p e below _ T313 (mkF m 43 #[.val (.ref a1), .val (.int (4 : Int32)), .val (.long q3), .second, .val (.long q4), .second, .unset] [(.int (4 : Int32)), (.ref a1)])
  obtain ⟨T317, h317, k317, X317, e317, E317, A317, O317, st317⟩ := newR X313 hx hZ hown (hw _ (List.mem_of_getElem? (i := 28) rfl)) (hw _ (List.mem_of_getElem? (i := 29) rfl)) e313 (g := (mkF m 43 #[.val (.ref a1), .val (.int (4 : Int32)), .val (.long q3), .second, .val (.long q4), .second, .unset] [(.int (4 : Int32)), (.ref a1)])) rfl (hb hby d1_43) rfl (by decide) (cap := 4) (by decide) (by decide) (by decide) (by decide)
  obtain ⟨b317, g317⟩ : ∃ zq, zq = h313.size := ⟨_, rfl⟩
  rw [← g317] at A317 st317
  have f318 := (((((fw293.ext E297).other W301 (Or.inr (slot_ne (Or.inr (hw _ (List.mem_of_getElem? (i := 19) rfl))) (Or.inr (hw _ (List.mem_of_getElem? (i := 21) rfl))) (by decide) (t := (.object "com/example/eskew/eskew/server/split/CounterValues$WideSum")) (t' := (.object "com/example/eskew/eskew/server/split/CounterValues$WideSum")) (by decide) (by decide)))).other W305 (Or.inr (slot_ne (Or.inr (hw _ (List.mem_of_getElem? (i := 19) rfl))) (Or.inl (hw _ (List.mem_of_getElem? (i := 23) rfl))) (by decide) (t := (.object "com/example/eskew/eskew/server/split/CounterValues$WideSum")) (t' := .int) (by decide) (by decide)))).other W309 (Or.inr (slot_ne (Or.inr (hw _ (List.mem_of_getElem? (i := 19) rfl))) (Or.inl (hw _ (List.mem_of_getElem? (i := 25) rfl))) (by decide) (t := (.object "com/example/eskew/eskew/server/split/CounterValues$WideSum")) (t' := .int) (by decide) (by decide)))).other W313 (Or.inr (slot_ne (Or.inr (hw _ (List.mem_of_getElem? (i := 19) rfl))) (Or.inr (hw _ (List.mem_of_getElem? (i := 27) rfl))) (by decide) (t := (.object "com/example/eskew/eskew/server/split/CounterValues$WideSum")) (t' := .long) (by decide) (by decide))))
  have ne_a1_b317 : a1 ≠ b317 := Nat.ne_of_lt (Nat.lt_of_lt_of_le f318.lt (Nat.le_of_eq g317.symm))
  have f319 := (((((f298.ext E297).wr W301).wr W305).wr W309).wr W313)
  have ne_b290_b317 : b290 ≠ b317 := Nat.ne_of_lt (Nat.lt_of_lt_of_le f319.lt (Nat.le_of_eq g317.symm))
  have f320 := ((((A297.wr W301).wr W305).wr W309).wr W313)
  have ne_b297_b317 : b297 ≠ b317 := Nat.ne_of_lt (Nat.lt_of_lt_of_le f320.lt (Nat.le_of_eq g317.symm))
  have og_b317 : n0 ≤ b317 := Nat.le_trans Z313 (Nat.le_of_eq g317.symm)
  have sz_b317 : h0.size ≤ b317 := Nat.le_trans K316.1 (Nat.le_of_eq g317.symm)
  have Z317 : n0 ≤ h317.size := Nat.le_trans Z313 E317.1
  have K321 := K316.ext E317
  have V317 : Arv Z h317 b317 k317 (.object "com/example/eskew/eskew/server/split/CounterValues$Tally") (4 : Int32) [.null, .null, .null, .null] .null := (Arv.new A317 (by decide)).pad (pad_rep [] .null 4)
  refine own_by st317 ?_
  have f323 := ((((((((F_tallies.ext E290).other W293 (Or.inr (slot_ne (Or.inr (hw _ (List.mem_of_getElem? (i := 31) rfl))) (Or.inr (hw _ (List.mem_of_getElem? (i := 19) rfl))) (by decide) (t := (.array (.object "com/example/eskew/eskew/server/split/CounterValues$Tally"))) (t' := (.object "com/example/eskew/eskew/server/split/CounterValues$WideSum")) (by decide) (by decide)))).ext E297).other W301 (Or.inr (slot_ne (Or.inr (hw _ (List.mem_of_getElem? (i := 31) rfl))) (Or.inr (hw _ (List.mem_of_getElem? (i := 21) rfl))) (by decide) (t := (.array (.object "com/example/eskew/eskew/server/split/CounterValues$Tally"))) (t' := (.object "com/example/eskew/eskew/server/split/CounterValues$WideSum")) (by decide) (by decide)))).other W305 (Or.inr (slot_ne (Or.inr (hw _ (List.mem_of_getElem? (i := 31) rfl))) (Or.inl (hw _ (List.mem_of_getElem? (i := 23) rfl))) (by decide) (t := (.array (.object "com/example/eskew/eskew/server/split/CounterValues$Tally"))) (t' := .int) (by decide) (by decide)))).other W309 (Or.inr (slot_ne (Or.inr (hw _ (List.mem_of_getElem? (i := 31) rfl))) (Or.inl (hw _ (List.mem_of_getElem? (i := 25) rfl))) (by decide) (t := (.array (.object "com/example/eskew/eskew/server/split/CounterValues$Tally"))) (t' := .int) (by decide) (by decide)))).other W313 (Or.inr (slot_ne (Or.inr (hw _ (List.mem_of_getElem? (i := 31) rfl))) (Or.inr (hw _ (List.mem_of_getElem? (i := 27) rfl))) (by decide) (t := (.array (.object "com/example/eskew/eskew/server/split/CounterValues$Tally"))) (t' := .long) (by decide) (by decide)))).ext E317)
  have f324 := ((f315.wr W313).ext E317)
  obtain ⟨T322, h322, X322, e322, W322, st322⟩ := putF X317 hx hZ hown (host := "") (Or.inl (hw _ (List.mem_of_getElem? (i := 30) rfl))) Via.refl e317 f323 f324 (Or.inr ⟨(hw _ (List.mem_of_getElem? (i := 31) rfl)), rfl, hnm⟩) (hw _ (List.mem_of_getElem? (i := 2) rfl)) (ty := (.array (.object "com/example/eskew/eskew/server/split/CounterValues$Tally"))) (by decide) rfl rfl (g := (mkF m 46 #[.val (.ref a1), .val (.int (4 : Int32)), .val (.long q3), .second, .val (.long q4), .second, .unset] [(.ref b317), (.ref a1)])) rfl rfl (hb hby d1_46)
  refine own_by st322 ?_
  have N322 := Fr.snoc X322 N313 g1
  have fw322 := f323.same W322
  have K325 := K321.wr W322 (Or.inl (List.mem_of_getElem? (i := 0) rfl))
  have Z322 : n0 ≤ h322.size := Nat.le_trans Z317 (Keep.of_wr W322).1
  refine own_by (fun _ k => XS.iconst X322.here hx rfl (hb hby d1_49) k) ?_
  show own_Go p e below _ T322 (mkF m 50 #[.val (.ref a1), .val (.int (4 : Int32)), .val (.long q3), .second, .val (.long q4), .second, .unset] [(.int (0 : Int32))])
  refine own_by (fun _ k => XS.istore X322.here hx rfl (hb hby d1_50) rfl (l' := #[.val (.ref a1), .val (.int (4 : Int32)), .val (.long q3), .second, .val (.long q4), .second, .val (.int (0 : Int32))]) rfl k) ?_
  refine own_by (fun _ k => XS.iload X322.here hx rfl (hb hby d1_52) rfl k) ?_
  refine own_by (fun _ k => XS.iloadN X322.here hx rfl (hb hby d1_54) rfl k) ?_
  show own_Go p e below _ T322 (mkF m 55 #[.val (.ref a1), .val (.int (4 : Int32)), .val (.long q3), .second, .val (.long q4), .second, .val (.int (0 : Int32))] [(.int (4 : Int32)), (.int (0 : Int32))])
  refine own_by (fun _ k => XS.icmpNo X322.here hx rfl (hb hby d1_55) rfl (tlt (by decide : (0 : Int32) < (4 : Int32))).2.1 k) ?_
  refine own_by (fun _ k => XS.aloadN X322.here hx rfl (hb hby d1_58) rfl rfl k) ?_
  obtain ⟨T326, X326, e326, st326⟩ := getF X322 hx hZ hown (host := "") (Or.inl (hw _ (List.mem_of_getElem? (i := 30) rfl))) Via.refl e322 fw322 (g := (mkF m 59 #[.val (.ref a1), .val (.int (4 : Int32)), .val (.long q3), .second, .val (.long q4), .second, .val (.int (0 : Int32))] [(.ref a1)])) rfl rfl (hb hby d1_59)
  refine own_by st326 ?_
  show own_Go p e below _ T326 (mkF m 62 #[.val (.ref a1), .val (.int (4 : Int32)), .val (.long q3), .second, .val (.long q4), .second, .val (.int (0 : Int32))] [(.ref b317)])
  refine own_by (fun _ k => XS.iload X326.here hx rfl (hb hby d1_62) rfl k) ?_
  obtain ⟨T327, h327, X327, e327, E327, A327, D327, -, st327⟩ := newO X326 hx hZ hown (hw _ (List.mem_of_getElem? (i := 28) rfl)) (hw _ (List.mem_of_getElem? (i := 32) rfl)) (hw _ (List.mem_of_getElem? (i := 33) rfl)) e326 (g := (mkF m 64 #[.val (.ref a1), .val (.int (4 : Int32)), .val (.long q3), .second, .val (.long q4), .second, .val (.int (0 : Int32))] [(.int (0 : Int32)), (.ref b317)])) rfl (hb hby d1_64) (by decide) (by decide)
  obtain ⟨b327, g327⟩ : ∃ zq, zq = h322.size := ⟨_, rfl⟩
  rw [← g327] at A327 D327 st327
  have f328 := ((f318.ext E317).other W322 (Or.inr (slot_ne (Or.inr (hw _ (List.mem_of_getElem? (i := 19) rfl))) (Or.inr (hw _ (List.mem_of_getElem? (i := 31) rfl))) (by decide) (t := (.object "com/example/eskew/eskew/server/split/CounterValues$WideSum")) (t' := (.array (.object "com/example/eskew/eskew/server/split/CounterValues$Tally"))) (by decide) (by decide))))
  have ne_a1_b327 : a1 ≠ b327 := Nat.ne_of_lt (Nat.lt_of_lt_of_le f328.lt (Nat.le_of_eq g327.symm))
  have f329 := ((f319.ext E317).wr W322)
  have ne_b290_b327 : b290 ≠ b327 := Nat.ne_of_lt (Nat.lt_of_lt_of_le f329.lt (Nat.le_of_eq g327.symm))
  have f330 := ((f320.ext E317).wr W322)
  have ne_b297_b327 : b297 ≠ b327 := Nat.ne_of_lt (Nat.lt_of_lt_of_le f330.lt (Nat.le_of_eq g327.symm))
  have f331 := (V317.other W322 (Ne.symm ne_a1_b317))
  have ne_b317_b327 : b317 ≠ b327 := Nat.ne_of_lt (Nat.lt_of_lt_of_le f331.lt (Nat.le_of_eq g327.symm))
  have og_b327 : n0 ≤ b327 := Nat.le_trans Z322 (Nat.le_of_eq g327.symm)
  have sz_b327 : h0.size ≤ b327 := Nat.le_trans K325.1 (Nat.le_of_eq g327.symm)
  have Z327 : n0 ≤ h327.size := Nat.le_trans Z322 E327.1
  have K332 := K325.ext E327
  have F_since_b327 : Fld Z h327 b327 "com/example/eskew/eskew/server/split/CounterValues$Tally" "since" "J" (.long (0 : Int64)) := D327 (Or.inl (hw _ (List.mem_of_getElem? (i := 39) rfl))) (ty := .long) (by decide)
  have F_writesSent_b327 : Fld Z h327 b327 "com/example/eskew/eskew/server/split/CounterValues$Tally" "writesSent" "J" (.long (0 : Int64)) := D327 (Or.inl (hw _ (List.mem_of_getElem? (i := 47) rfl))) (ty := .long) (by decide)
  have F_writes_b327 : Fld Z h327 b327 "com/example/eskew/eskew/server/split/CounterValues$Tally" "writes" "I" (.int (0 : Int32)) := D327 (Or.inl (hw _ (List.mem_of_getElem? (i := 49) rfl))) (ty := .int) (by decide)
  have F_aloneSent_b327 : Fld Z h327 b327 "com/example/eskew/eskew/server/split/CounterValues$Tally" "aloneSent" "J" (.long (0 : Int64)) := D327 (Or.inl (hw _ (List.mem_of_getElem? (i := 51) rfl))) (ty := .long) (by decide)
  have F_value_b327 : Fld Z h327 b327 "com/example/eskew/eskew/server/split/CounterValues$Tally" "value" "J" (.long (0 : Int64)) := D327 (Or.inl (hw _ (List.mem_of_getElem? (i := 69) rfl))) (ty := .long) (by decide)
  have F_known_b327 : Fld Z h327 b327 "com/example/eskew/eskew/server/split/CounterValues$Tally" "known" "Z" (.int (0 : Int32)) := D327 (Or.inl (hw _ (List.mem_of_getElem? (i := 71) rfl))) (ty := .boolean) (by decide)
  have F_settled_b327 : Fld Z h327 b327 "com/example/eskew/eskew/server/split/CounterValues$Tally" "settled" "Z" (.int (0 : Int32)) := D327 (Or.inl (hw _ (List.mem_of_getElem? (i := 73) rfl))) (ty := .boolean) (by decide)
  have F_placing_b327 : Fld Z h327 b327 "com/example/eskew/eskew/server/split/CounterValues$Tally" "placing" "Lcom/example/eskew/eskew/server/split/CounterValues$Placing;" .null := D327 (Or.inl (hw _ (List.mem_of_getElem? (i := 76) rfl))) (ty := (.object "com/example/eskew/eskew/server/split/CounterValues$Placing")) (by decide)
  have F_reads_b327 : Fld Z h327 b327 "com/example/eskew/eskew/server/split/CounterValues$Tally" "reads" "I" (.int (0 : Int32)) := D327 (Or.inl (hw _ (List.mem_of_getElem? (i := 84) rfl))) (ty := .int) (by decide)
  refine own_by st327 ?_
  refine own_by (fun _ k => XS.dup X327.here hx rfl (hb hby d1_67) rfl rfl k) ?_
  show own_Go p e below _ T327 (mkF m 68 #[.val (.ref a1), .val (.int (4 : Int32)), .val (.long q3), .second, .val (.long q4), .second, .val (.int (0 : Int32))] [(.ref b327), (.ref b327), (.int (0 : Int32)), (.ref b317)])
  refine own_by (fun _ k => XS.lload X327.here hx rfl (hb hby d1_68) rfl k) ?_
  have f333 := (f328.ext E327)
  have f334 := (f329.ext E327)
  have f335 := (f330.ext E327)
  have f336 := (f331.ext E327)
  obtain ⟨_, T337, L337, X337, ⟨rfl, N337q, K0', H0'⟩, st337⟩ := own_callR X327 hx hZ hown (y := (⟨"com/example/eskew/eskew/server/split/CounterValues$Tally", "<init>", "(J)V"⟩ : MethodName)) rfl (hw _ (List.mem_of_getElem? (i := 34) rfl)) (hw _ (List.mem_of_getElem? (i := 35) rfl)) (hw _ (List.mem_of_getElem? (i := 33) rfl)) (hw _ (List.mem_of_getElem? (i := 36) rfl)) (by decide) (a := b327) (argsL := [(.long q4)]) (rest := [(.ref b327), (.int (0 : Int32)), (.ref b317)]) e327 (rm4 l Z a0 hw [] b327 q4 h327 n0 Z327 og_b327 ⟨A327, F_since_b327, F_writesSent_b327, F_writes_b327, F_aloneSent_b327, F_value_b327, F_known_b327, F_settled_b327, F_placing_b327, F_reads_b327⟩) (g := (mkF m 70 #[.val (.ref a1), .val (.int (4 : Int32)), .val (.long q3), .second, .val (.long q4), .second, .val (.int (0 : Int32))] [(.long q4), (.ref b327), (.ref b327), (.int (0 : Int32)), (.ref b317)])) rfl (by rw [hml]; rfl) (lenOf pd_1 rfl) rfl (W := 3) (by show 2 * 0 + _ ≤ _; exact Nat.le_of_eq rfl) (hb hby d1_70) (by decide) (by decide) (by decide) (by decide)
  have N337 := Fr.app N322 N337q
  refine own_by st337 ?_
  have Z337 : n0 ≤ T337.heap.size := Nat.le_trans Z327 K0'.1
  have K337c := K332.trans K0' (allS (Or.inr sz_b327) all0)
  have E0' := H0'.1
  have f339 := (f336.keep K0' (ninS ne_b317_b327 nin0))
  obtain ⟨cl338, Ar338, cq338, hin338, hat338, set338⟩ := own_arv f339 (j := (0 : Int32)) ⟨by decide, by decide⟩
  obtain ⟨T340, h340, X340, e340, W340, st340⟩ := stR X337 hx hZ rfl Ar338 (j := (0 : Int32)) hin338 rfl (Sto.ofV Ar338 cq338 O317 (Ins.self E0')) (g := (mkF m 73 #[.val (.ref a1), .val (.int (4 : Int32)), .val (.long q3), .second, .val (.long q4), .second, .val (.int (0 : Int32))] [(.ref b327), (.int (0 : Int32)), (.ref b317)])) rfl rfl (hb hby d1_73)
  have V340 : Arv Z h340 b317 k317 (.object "com/example/eskew/eskew/server/split/CounterValues$Tally") (4 : Int32) [(.ref b327), .null, .null, .null] .null := set338 rfl W340 0 rfl (Nat.le_of_ble_eq_true rfl)
  have N340 := Fr.snoc X340 N337 og_b317
  have K341 := K337c.wr W340 (Or.inr sz_b317)
  have Z340 : n0 ≤ h340.size := Nat.le_trans Z337 (Keep.of_wr W340).1
  refine own_by st340 ?_
  show own_Go p e below _ T340 (mkF m 74 #[.val (.ref a1), .val (.int (4 : Int32)), .val (.long q3), .second, .val (.long q4), .second, .val (.int (0 : Int32))] [])
  refine own_by (fun _ k => XS.iinc X340.here hx rfl (hb hby d1_74) rfl (l' := #[.val (.ref a1), .val (.int (4 : Int32)), .val (.long q3), .second, .val (.long q4), .second, .val (.int ((0 : Int32) + (1 : Int32)))]) rfl k) ?_
  show own_Go p e below _ T340 (mkF m 77 #[.val (.ref a1), .val (.int (4 : Int32)), .val (.long q3), .second, .val (.long q4), .second, .val (.int ((0 : Int32) + (1 : Int32)))] [])
  rw [show (0 : Int32) + (1 : Int32) = (1 : Int32) from by decide]
  refine own_by (fun _ k => XS.goto X340.here hx rfl (pc0 := 77) (pc' := 52) rfl (hb hby d1_77) (by decide) (by decide) k) ?_
  refine own_by (fun _ k => XS.iload X340.here hx rfl (hb hby d1_52) rfl k) ?_
  show own_Go p e below _ T340 (mkF m 54 #[.val (.ref a1), .val (.int (4 : Int32)), .val (.long q3), .second, .val (.long q4), .second, .val (.int (1 : Int32))] [(.int (1 : Int32))])
  refine own_by (fun _ k => XS.iloadN X340.here hx rfl (hb hby d1_54) rfl k) ?_
  refine own_by (fun _ k => XS.icmpNo X340.here hx rfl (hb hby d1_55) rfl (tlt (by decide : (1 : Int32) < (4 : Int32))).2.1 k) ?_
  refine own_by (fun _ k => XS.aloadN X340.here hx rfl (hb hby d1_58) rfl rfl k) ?_
  show own_Go p e below _ T340 (mkF m 59 #[.val (.ref a1), .val (.int (4 : Int32)), .val (.long q3), .second, .val (.long q4), .second, .val (.int (1 : Int32))] [(.ref a1)])
  have f343 := (((fw322.ext E327).keep K0' (ninS ne_a1_b327 nin0)).other W340 (Or.inl ne_a1_b317))
  obtain ⟨T342, X342, e342, st342⟩ := getF X340 hx hZ hown (host := "") (Or.inl (hw _ (List.mem_of_getElem? (i := 30) rfl))) Via.refl e340 f343 (g := (mkF m 59 #[.val (.ref a1), .val (.int (4 : Int32)), .val (.long q3), .second, .val (.long q4), .second, .val (.int (1 : Int32))] [(.ref a1)])) rfl rfl (hb hby d1_59)
  refine own_by st342 ?_
  refine own_by (fun _ k => XS.iload X342.here hx rfl (hb hby d1_62) rfl k) ?_
  obtain ⟨T344, h344, X344, e344, E344, A344, D344, -, st344⟩ := newO X342 hx hZ hown (hw _ (List.mem_of_getElem? (i := 28) rfl)) (hw _ (List.mem_of_getElem? (i := 32) rfl)) (hw _ (List.mem_of_getElem? (i := 33) rfl)) e342 (g := (mkF m 64 #[.val (.ref a1), .val (.int (4 : Int32)), .val (.long q3), .second, .val (.long q4), .second, .val (.int (1 : Int32))] [(.int (1 : Int32)), (.ref b317)])) rfl (hb hby d1_64) (by decide) (by decide)
  obtain ⟨b344, g344⟩ : ∃ zq, zq = h340.size := ⟨_, rfl⟩
  rw [← g344] at A344 D344 st344
  have f345 := ((f333.keep K0' (ninS ne_a1_b327 nin0)).other W340 (Or.inl ne_a1_b317))
  have ne_a1_b344 : a1 ≠ b344 := Nat.ne_of_lt (Nat.lt_of_lt_of_le f345.lt (Nat.le_of_eq g344.symm))
  have f346 := ((f334.keep K0').wr W340)
  have ne_b290_b344 : b290 ≠ b344 := Nat.ne_of_lt (Nat.lt_of_lt_of_le f346.lt (Nat.le_of_eq g344.symm))
  have f347 := ((f335.keep K0').wr W340)
  have ne_b297_b344 : b297 ≠ b344 := Nat.ne_of_lt (Nat.lt_of_lt_of_le f347.lt (Nat.le_of_eq g344.symm))
  have ne_b317_b344 : b317 ≠ b344 := Nat.ne_of_lt (Nat.lt_of_lt_of_le V340.lt (Nat.le_of_eq g344.symm))
  have f348 := (E0'.wr W340)
  have ne_b327_b344 : b327 ≠ b344 := Nat.ne_of_lt (Nat.lt_of_lt_of_le f348.lt (Nat.le_of_eq g344.symm))
  have og_b344 : n0 ≤ b344 := Nat.le_trans Z340 (Nat.le_of_eq g344.symm)
  have sz_b344 : h0.size ≤ b344 := Nat.le_trans K341.1 (Nat.le_of_eq g344.symm)
  have Z344 : n0 ≤ h344.size := Nat.le_trans Z340 E344.1
  have K349 := K341.ext E344
  have F_since_b344 : Fld Z h344 b344 "com/example/eskew/eskew/server/split/CounterValues$Tally" "since" "J" (.long (0 : Int64)) := D344 (Or.inl (hw _ (List.mem_of_getElem? (i := 39) rfl))) (ty := .long) (by decide)
  have F_writesSent_b344 : Fld Z h344 b344 "com/example/eskew/eskew/server/split/CounterValues$Tally" "writesSent" "J" (.long (0 : Int64)) := D344 (Or.inl (hw _ (List.mem_of_getElem? (i := 47) rfl))) (ty := .long) (by decide)
  have F_writes_b344 : Fld Z h344 b344 "com/example/eskew/eskew/server/split/CounterValues$Tally" "writes" "I" (.int (0 : Int32)) := D344 (Or.inl (hw _ (List.mem_of_getElem? (i := 49) rfl))) (ty := .int) (by decide)
  have F_aloneSent_b344 : Fld Z h344 b344 "com/example/eskew/eskew/server/split/CounterValues$Tally" "aloneSent" "J" (.long (0 : Int64)) := D344 (Or.inl (hw _ (List.mem_of_getElem? (i := 51) rfl))) (ty := .long) (by decide)
  have F_value_b344 : Fld Z h344 b344 "com/example/eskew/eskew/server/split/CounterValues$Tally" "value" "J" (.long (0 : Int64)) := D344 (Or.inl (hw _ (List.mem_of_getElem? (i := 69) rfl))) (ty := .long) (by decide)
  have F_known_b344 : Fld Z h344 b344 "com/example/eskew/eskew/server/split/CounterValues$Tally" "known" "Z" (.int (0 : Int32)) := D344 (Or.inl (hw _ (List.mem_of_getElem? (i := 71) rfl))) (ty := .boolean) (by decide)
  have F_settled_b344 : Fld Z h344 b344 "com/example/eskew/eskew/server/split/CounterValues$Tally" "settled" "Z" (.int (0 : Int32)) := D344 (Or.inl (hw _ (List.mem_of_getElem? (i := 73) rfl))) (ty := .boolean) (by decide)
  have F_placing_b344 : Fld Z h344 b344 "com/example/eskew/eskew/server/split/CounterValues$Tally" "placing" "Lcom/example/eskew/eskew/server/split/CounterValues$Placing;" .null := D344 (Or.inl (hw _ (List.mem_of_getElem? (i := 76) rfl))) (ty := (.object "com/example/eskew/eskew/server/split/CounterValues$Placing")) (by decide)
  have F_reads_b344 : Fld Z h344 b344 "com/example/eskew/eskew/server/split/CounterValues$Tally" "reads" "I" (.int (0 : Int32)) := D344 (Or.inl (hw _ (List.mem_of_getElem? (i := 84) rfl))) (ty := .int) (by decide)
  refine own_by st344 ?_
  show own_Go p e below _ T344 (mkF m 67 #[.val (.ref a1), .val (.int (4 : Int32)), .val (.long q3), .second, .val (.long q4), .second, .val (.int (1 : Int32))] [(.ref b344), (.int (1 : Int32)), (.ref b317)])
  refine own_by (fun _ k => XS.dup X344.here hx rfl (hb hby d1_67) rfl rfl k) ?_
  refine own_by (fun _ k => XS.lload X344.here hx rfl (hb hby d1_68) rfl k) ?_
  have f350 := (f345.ext E344)
  have f351 := (f346.ext E344)
  have f352 := (f347.ext E344)
  have f353 := (V340.ext E344)
  have f354 := (f348.ext E344)
  obtain ⟨_, T355, L355, X355, ⟨rfl, N355q, K1', H1'⟩, st355⟩ := own_callR X344 hx hZ hown (y := (⟨"com/example/eskew/eskew/server/split/CounterValues$Tally", "<init>", "(J)V"⟩ : MethodName)) rfl (hw _ (List.mem_of_getElem? (i := 34) rfl)) (hw _ (List.mem_of_getElem? (i := 35) rfl)) (hw _ (List.mem_of_getElem? (i := 33) rfl)) (hw _ (List.mem_of_getElem? (i := 36) rfl)) (by decide) (a := b344) (argsL := [(.long q4)]) (rest := [(.ref b344), (.int (1 : Int32)), (.ref b317)]) e344 (rm4 l Z a0 hw [] b344 q4 h344 n0 Z344 og_b344 ⟨A344, F_since_b344, F_writesSent_b344, F_writes_b344, F_aloneSent_b344, F_value_b344, F_known_b344, F_settled_b344, F_placing_b344, F_reads_b344⟩) (g := (mkF m 70 #[.val (.ref a1), .val (.int (4 : Int32)), .val (.long q3), .second, .val (.long q4), .second, .val (.int (1 : Int32))] [(.long q4), (.ref b344), (.ref b344), (.int (1 : Int32)), (.ref b317)])) rfl (by rw [hml]; rfl) (lenOf pd_1 rfl) rfl (W := 3) (by show 2 * 0 + _ ≤ _; exact Nat.le_of_eq rfl) (hb hby d1_70) (by decide) (by decide) (by decide) (by decide)
  have N355 := Fr.app N340 N355q
  refine own_by st355 ?_
  show own_Go p e below _ T355 (mkF m 73 #[.val (.ref a1), .val (.int (4 : Int32)), .val (.long q3), .second, .val (.long q4), .second, .val (.int (1 : Int32))] [(.ref b344), (.int (1 : Int32)), (.ref b317)])
  have Z355 : n0 ≤ T355.heap.size := Nat.le_trans Z344 K1'.1
  have K355c := K349.trans K1' (allS (Or.inr sz_b344) all0)
  have E1' := H1'.1
  have f357 := (f353.keep K1' (ninS ne_b317_b344 nin0))
  obtain ⟨cl356, Ar356, cq356, hin356, hat356, set356⟩ := own_arv f357 (j := (1 : Int32)) ⟨by decide, by decide⟩
  obtain ⟨T358, h358, X358, e358, W358, st358⟩ := stR X355 hx hZ rfl Ar356 (j := (1 : Int32)) hin356 rfl (Sto.ofV Ar356 cq356 O317 (Ins.self E1')) (g := (mkF m 73 #[.val (.ref a1), .val (.int (4 : Int32)), .val (.long q3), .second, .val (.long q4), .second, .val (.int (1 : Int32))] [(.ref b344), (.int (1 : Int32)), (.ref b317)])) rfl rfl (hb hby d1_73)
  have V358 : Arv Z h358 b317 k317 (.object "com/example/eskew/eskew/server/split/CounterValues$Tally") (4 : Int32) [(.ref b327), (.ref b344), .null, .null] .null := set356 rfl W358 1 rfl (Nat.le_of_ble_eq_true rfl)
  have N358 := Fr.snoc X358 N355 og_b317
  have K359 := K355c.wr W358 (Or.inr sz_b317)
  have Z358 : n0 ≤ h358.size := Nat.le_trans Z355 (Keep.of_wr W358).1
  refine own_by st358 ?_
  refine own_by (fun _ k => XS.iinc X358.here hx rfl (hb hby d1_74) rfl (l' := #[.val (.ref a1), .val (.int (4 : Int32)), .val (.long q3), .second, .val (.long q4), .second, .val (.int ((1 : Int32) + (1 : Int32)))]) rfl k) ?_
  show own_Go p e below _ T358 (mkF m 77 #[.val (.ref a1), .val (.int (4 : Int32)), .val (.long q3), .second, .val (.long q4), .second, .val (.int ((1 : Int32) + (1 : Int32)))] [])
  rw [show (1 : Int32) + (1 : Int32) = (2 : Int32) from by decide]
  refine own_by (fun _ k => XS.goto X358.here hx rfl (pc0 := 77) (pc' := 52) rfl (hb hby d1_77) (by decide) (by decide) k) ?_
  refine own_by (fun _ k => XS.iload X358.here hx rfl (hb hby d1_52) rfl k) ?_
  show own_Go p e below _ T358 (mkF m 54 #[.val (.ref a1), .val (.int (4 : Int32)), .val (.long q3), .second, .val (.long q4), .second, .val (.int (2 : Int32))] [(.int (2 : Int32))])
  refine own_by (fun _ k => XS.iloadN X358.here hx rfl (hb hby d1_54) rfl k) ?_
  refine own_by (fun _ k => XS.icmpNo X358.here hx rfl (hb hby d1_55) rfl (tlt (by decide : (2 : Int32) < (4 : Int32))).2.1 k) ?_
  refine own_by (fun _ k => XS.aloadN X358.here hx rfl (hb hby d1_58) rfl rfl k) ?_
  show own_Go p e below _ T358 (mkF m 59 #[.val (.ref a1), .val (.int (4 : Int32)), .val (.long q3), .second, .val (.long q4), .second, .val (.int (2 : Int32))] [(.ref a1)])
  have f361 := (((f343.ext E344).keep K1' (ninS ne_a1_b344 nin0)).other W358 (Or.inl ne_a1_b317))
  obtain ⟨T360, X360, e360, st360⟩ := getF X358 hx hZ hown (host := "") (Or.inl (hw _ (List.mem_of_getElem? (i := 30) rfl))) Via.refl e358 f361 (g := (mkF m 59 #[.val (.ref a1), .val (.int (4 : Int32)), .val (.long q3), .second, .val (.long q4), .second, .val (.int (2 : Int32))] [(.ref a1)])) rfl rfl (hb hby d1_59)
  refine own_by st360 ?_
  refine own_by (fun _ k => XS.iload X360.here hx rfl (hb hby d1_62) rfl k) ?_
  obtain ⟨T362, h362, X362, e362, E362, A362, D362, -, st362⟩ := newO X360 hx hZ hown (hw _ (List.mem_of_getElem? (i := 28) rfl)) (hw _ (List.mem_of_getElem? (i := 32) rfl)) (hw _ (List.mem_of_getElem? (i := 33) rfl)) e360 (g := (mkF m 64 #[.val (.ref a1), .val (.int (4 : Int32)), .val (.long q3), .second, .val (.long q4), .second, .val (.int (2 : Int32))] [(.int (2 : Int32)), (.ref b317)])) rfl (hb hby d1_64) (by decide) (by decide)
  obtain ⟨b362, g362⟩ : ∃ zq, zq = h358.size := ⟨_, rfl⟩
  rw [← g362] at A362 D362 st362
  have f363 := ((f350.keep K1' (ninS ne_a1_b344 nin0)).other W358 (Or.inl ne_a1_b317))
  have ne_a1_b362 : a1 ≠ b362 := Nat.ne_of_lt (Nat.lt_of_lt_of_le f363.lt (Nat.le_of_eq g362.symm))
  have f364 := ((f351.keep K1').wr W358)
  have ne_b290_b362 : b290 ≠ b362 := Nat.ne_of_lt (Nat.lt_of_lt_of_le f364.lt (Nat.le_of_eq g362.symm))
  have f365 := ((f352.keep K1').wr W358)
  have ne_b297_b362 : b297 ≠ b362 := Nat.ne_of_lt (Nat.lt_of_lt_of_le f365.lt (Nat.le_of_eq g362.symm))
  have ne_b317_b362 : b317 ≠ b362 := Nat.ne_of_lt (Nat.lt_of_lt_of_le V358.lt (Nat.le_of_eq g362.symm))
  have f366 := ((f354.keep K1').wr W358)
  have ne_b327_b362 : b327 ≠ b362 := Nat.ne_of_lt (Nat.lt_of_lt_of_le f366.lt (Nat.le_of_eq g362.symm))
  have f367 := (E1'.wr W358)
  have ne_b344_b362 : b344 ≠ b362 := Nat.ne_of_lt (Nat.lt_of_lt_of_le f367.lt (Nat.le_of_eq g362.symm))
  have og_b362 : n0 ≤ b362 := Nat.le_trans Z358 (Nat.le_of_eq g362.symm)
  have sz_b362 : h0.size ≤ b362 := Nat.le_trans K359.1 (Nat.le_of_eq g362.symm)
  have Z362 : n0 ≤ h362.size := Nat.le_trans Z358 E362.1
  have K368 := K359.ext E362
  have F_since_b362 : Fld Z h362 b362 "com/example/eskew/eskew/server/split/CounterValues$Tally" "since" "J" (.long (0 : Int64)) := D362 (Or.inl (hw _ (List.mem_of_getElem? (i := 39) rfl))) (ty := .long) (by decide)
  have F_writesSent_b362 : Fld Z h362 b362 "com/example/eskew/eskew/server/split/CounterValues$Tally" "writesSent" "J" (.long (0 : Int64)) := D362 (Or.inl (hw _ (List.mem_of_getElem? (i := 47) rfl))) (ty := .long) (by decide)
  have F_writes_b362 : Fld Z h362 b362 "com/example/eskew/eskew/server/split/CounterValues$Tally" "writes" "I" (.int (0 : Int32)) := D362 (Or.inl (hw _ (List.mem_of_getElem? (i := 49) rfl))) (ty := .int) (by decide)
  have F_aloneSent_b362 : Fld Z h362 b362 "com/example/eskew/eskew/server/split/CounterValues$Tally" "aloneSent" "J" (.long (0 : Int64)) := D362 (Or.inl (hw _ (List.mem_of_getElem? (i := 51) rfl))) (ty := .long) (by decide)
  have F_value_b362 : Fld Z h362 b362 "com/example/eskew/eskew/server/split/CounterValues$Tally" "value" "J" (.long (0 : Int64)) := D362 (Or.inl (hw _ (List.mem_of_getElem? (i := 69) rfl))) (ty := .long) (by decide)
  have F_known_b362 : Fld Z h362 b362 "com/example/eskew/eskew/server/split/CounterValues$Tally" "known" "Z" (.int (0 : Int32)) := D362 (Or.inl (hw _ (List.mem_of_getElem? (i := 71) rfl))) (ty := .boolean) (by decide)
  have F_settled_b362 : Fld Z h362 b362 "com/example/eskew/eskew/server/split/CounterValues$Tally" "settled" "Z" (.int (0 : Int32)) := D362 (Or.inl (hw _ (List.mem_of_getElem? (i := 73) rfl))) (ty := .boolean) (by decide)
  have F_placing_b362 : Fld Z h362 b362 "com/example/eskew/eskew/server/split/CounterValues$Tally" "placing" "Lcom/example/eskew/eskew/server/split/CounterValues$Placing;" .null := D362 (Or.inl (hw _ (List.mem_of_getElem? (i := 76) rfl))) (ty := (.object "com/example/eskew/eskew/server/split/CounterValues$Placing")) (by decide)
  have F_reads_b362 : Fld Z h362 b362 "com/example/eskew/eskew/server/split/CounterValues$Tally" "reads" "I" (.int (0 : Int32)) := D362 (Or.inl (hw _ (List.mem_of_getElem? (i := 84) rfl))) (ty := .int) (by decide)
  refine own_by st362 ?_
  show own_Go p e below _ T362 (mkF m 67 #[.val (.ref a1), .val (.int (4 : Int32)), .val (.long q3), .second, .val (.long q4), .second, .val (.int (2 : Int32))] [(.ref b362), (.int (2 : Int32)), (.ref b317)])
  refine own_by (fun _ k => XS.dup X362.here hx rfl (hb hby d1_67) rfl rfl k) ?_
  refine own_by (fun _ k => XS.lload X362.here hx rfl (hb hby d1_68) rfl k) ?_
  have f369 := (f363.ext E362)
  have f370 := (f364.ext E362)
  have f371 := (f365.ext E362)
  have f372 := (V358.ext E362)
  have f373 := (f366.ext E362)
  have f374 := (f367.ext E362)
  obtain ⟨_, T375, L375, X375, ⟨rfl, N375q, K2', H2'⟩, st375⟩ := own_callR X362 hx hZ hown (y := (⟨"com/example/eskew/eskew/server/split/CounterValues$Tally", "<init>", "(J)V"⟩ : MethodName)) rfl (hw _ (List.mem_of_getElem? (i := 34) rfl)) (hw _ (List.mem_of_getElem? (i := 35) rfl)) (hw _ (List.mem_of_getElem? (i := 33) rfl)) (hw _ (List.mem_of_getElem? (i := 36) rfl)) (by decide) (a := b362) (argsL := [(.long q4)]) (rest := [(.ref b362), (.int (2 : Int32)), (.ref b317)]) e362 (rm4 l Z a0 hw [] b362 q4 h362 n0 Z362 og_b362 ⟨A362, F_since_b362, F_writesSent_b362, F_writes_b362, F_aloneSent_b362, F_value_b362, F_known_b362, F_settled_b362, F_placing_b362, F_reads_b362⟩) (g := (mkF m 70 #[.val (.ref a1), .val (.int (4 : Int32)), .val (.long q3), .second, .val (.long q4), .second, .val (.int (2 : Int32))] [(.long q4), (.ref b362), (.ref b362), (.int (2 : Int32)), (.ref b317)])) rfl (by rw [hml]; rfl) (lenOf pd_1 rfl) rfl (W := 3) (by show 2 * 0 + _ ≤ _; exact Nat.le_of_eq rfl) (hb hby d1_70) (by decide) (by decide) (by decide) (by decide)
  have N375 := Fr.app N358 N375q
  refine own_by st375 ?_
  show own_Go p e below _ T375 (mkF m 73 #[.val (.ref a1), .val (.int (4 : Int32)), .val (.long q3), .second, .val (.long q4), .second, .val (.int (2 : Int32))] [(.ref b362), (.int (2 : Int32)), (.ref b317)])
  have Z375 : n0 ≤ T375.heap.size := Nat.le_trans Z362 K2'.1
  have K375c := K368.trans K2' (allS (Or.inr sz_b362) all0)
  have E2' := H2'.1
  have f377 := (f372.keep K2' (ninS ne_b317_b362 nin0))
  obtain ⟨cl376, Ar376, cq376, hin376, hat376, set376⟩ := own_arv f377 (j := (2 : Int32)) ⟨by decide, by decide⟩
  obtain ⟨T378, h378, X378, e378, W378, st378⟩ := stR X375 hx hZ rfl Ar376 (j := (2 : Int32)) hin376 rfl (Sto.ofV Ar376 cq376 O317 (Ins.self E2')) (g := (mkF m 73 #[.val (.ref a1), .val (.int (4 : Int32)), .val (.long q3), .second, .val (.long q4), .second, .val (.int (2 : Int32))] [(.ref b362), (.int (2 : Int32)), (.ref b317)])) rfl rfl (hb hby d1_73)
  have V378 : Arv Z h378 b317 k317 (.object "com/example/eskew/eskew/server/split/CounterValues$Tally") (4 : Int32) [(.ref b327), (.ref b344), (.ref b362), .null] .null := set376 rfl W378 2 rfl (Nat.le_of_ble_eq_true rfl)
  have N378 := Fr.snoc X378 N375 og_b317
  have K379 := K375c.wr W378 (Or.inr sz_b317)
  have Z378 : n0 ≤ h378.size := Nat.le_trans Z375 (Keep.of_wr W378).1
  refine own_by st378 ?_
  refine own_by (fun _ k => XS.iinc X378.here hx rfl (hb hby d1_74) rfl (l' := #[.val (.ref a1), .val (.int (4 : Int32)), .val (.long q3), .second, .val (.long q4), .second, .val (.int ((2 : Int32) + (1 : Int32)))]) rfl k) ?_
  show own_Go p e below _ T378 (mkF m 77 #[.val (.ref a1), .val (.int (4 : Int32)), .val (.long q3), .second, .val (.long q4), .second, .val (.int ((2 : Int32) + (1 : Int32)))] [])
  rw [show (2 : Int32) + (1 : Int32) = (3 : Int32) from by decide]
  refine own_by (fun _ k => XS.goto X378.here hx rfl (pc0 := 77) (pc' := 52) rfl (hb hby d1_77) (by decide) (by decide) k) ?_
  refine own_by (fun _ k => XS.iload X378.here hx rfl (hb hby d1_52) rfl k) ?_
  show own_Go p e below _ T378 (mkF m 54 #[.val (.ref a1), .val (.int (4 : Int32)), .val (.long q3), .second, .val (.long q4), .second, .val (.int (3 : Int32))] [(.int (3 : Int32))])
  refine own_by (fun _ k => XS.iloadN X378.here hx rfl (hb hby d1_54) rfl k) ?_
  refine own_by (fun _ k => XS.icmpNo X378.here hx rfl (hb hby d1_55) rfl (tlt (by decide : (3 : Int32) < (4 : Int32))).2.1 k) ?_
  refine own_by (fun _ k => XS.aloadN X378.here hx rfl (hb hby d1_58) rfl rfl k) ?_
  show own_Go p e below _ T378 (mkF m 59 #[.val (.ref a1), .val (.int (4 : Int32)), .val (.long q3), .second, .val (.long q4), .second, .val (.int (3 : Int32))] [(.ref a1)])
  have f381 := (((f361.ext E362).keep K2' (ninS ne_a1_b362 nin0)).other W378 (Or.inl ne_a1_b317))
  obtain ⟨T380, X380, e380, st380⟩ := getF X378 hx hZ hown (host := "") (Or.inl (hw _ (List.mem_of_getElem? (i := 30) rfl))) Via.refl e378 f381 (g := (mkF m 59 #[.val (.ref a1), .val (.int (4 : Int32)), .val (.long q3), .second, .val (.long q4), .second, .val (.int (3 : Int32))] [(.ref a1)])) rfl rfl (hb hby d1_59)
  refine own_by st380 ?_
  refine own_by (fun _ k => XS.iload X380.here hx rfl (hb hby d1_62) rfl k) ?_
  obtain ⟨T382, h382, X382, e382, E382, A382, D382, -, st382⟩ := newO X380 hx hZ hown (hw _ (List.mem_of_getElem? (i := 28) rfl)) (hw _ (List.mem_of_getElem? (i := 32) rfl)) (hw _ (List.mem_of_getElem? (i := 33) rfl)) e380 (g := (mkF m 64 #[.val (.ref a1), .val (.int (4 : Int32)), .val (.long q3), .second, .val (.long q4), .second, .val (.int (3 : Int32))] [(.int (3 : Int32)), (.ref b317)])) rfl (hb hby d1_64) (by decide) (by decide)
  obtain ⟨b382, g382⟩ : ∃ zq, zq = h378.size := ⟨_, rfl⟩
  rw [← g382] at A382 D382 st382
  have f383 := ((f369.keep K2' (ninS ne_a1_b362 nin0)).other W378 (Or.inl ne_a1_b317))
  have ne_a1_b382 : a1 ≠ b382 := Nat.ne_of_lt (Nat.lt_of_lt_of_le f383.lt (Nat.le_of_eq g382.symm))
  have f384 := ((f370.keep K2').wr W378)
  have ne_b290_b382 : b290 ≠ b382 := Nat.ne_of_lt (Nat.lt_of_lt_of_le f384.lt (Nat.le_of_eq g382.symm))
  have f385 := ((f371.keep K2').wr W378)
  have ne_b297_b382 : b297 ≠ b382 := Nat.ne_of_lt (Nat.lt_of_lt_of_le f385.lt (Nat.le_of_eq g382.symm))
  have ne_b317_b382 : b317 ≠ b382 := Nat.ne_of_lt (Nat.lt_of_lt_of_le V378.lt (Nat.le_of_eq g382.symm))
  have f386 := ((f373.keep K2').wr W378)
  have ne_b327_b382 : b327 ≠ b382 := Nat.ne_of_lt (Nat.lt_of_lt_of_le f386.lt (Nat.le_of_eq g382.symm))
  have f387 := ((f374.keep K2').wr W378)
  have ne_b344_b382 : b344 ≠ b382 := Nat.ne_of_lt (Nat.lt_of_lt_of_le f387.lt (Nat.le_of_eq g382.symm))
  have f388 := (E2'.wr W378)
  have ne_b362_b382 : b362 ≠ b382 := Nat.ne_of_lt (Nat.lt_of_lt_of_le f388.lt (Nat.le_of_eq g382.symm))
  have og_b382 : n0 ≤ b382 := Nat.le_trans Z378 (Nat.le_of_eq g382.symm)
  have sz_b382 : h0.size ≤ b382 := Nat.le_trans K379.1 (Nat.le_of_eq g382.symm)
  have Z382 : n0 ≤ h382.size := Nat.le_trans Z378 E382.1
  have K389 := K379.ext E382
  have F_since_b382 : Fld Z h382 b382 "com/example/eskew/eskew/server/split/CounterValues$Tally" "since" "J" (.long (0 : Int64)) := D382 (Or.inl (hw _ (List.mem_of_getElem? (i := 39) rfl))) (ty := .long) (by decide)
  have F_writesSent_b382 : Fld Z h382 b382 "com/example/eskew/eskew/server/split/CounterValues$Tally" "writesSent" "J" (.long (0 : Int64)) := D382 (Or.inl (hw _ (List.mem_of_getElem? (i := 47) rfl))) (ty := .long) (by decide)
  have F_writes_b382 : Fld Z h382 b382 "com/example/eskew/eskew/server/split/CounterValues$Tally" "writes" "I" (.int (0 : Int32)) := D382 (Or.inl (hw _ (List.mem_of_getElem? (i := 49) rfl))) (ty := .int) (by decide)
  have F_aloneSent_b382 : Fld Z h382 b382 "com/example/eskew/eskew/server/split/CounterValues$Tally" "aloneSent" "J" (.long (0 : Int64)) := D382 (Or.inl (hw _ (List.mem_of_getElem? (i := 51) rfl))) (ty := .long) (by decide)
  have F_value_b382 : Fld Z h382 b382 "com/example/eskew/eskew/server/split/CounterValues$Tally" "value" "J" (.long (0 : Int64)) := D382 (Or.inl (hw _ (List.mem_of_getElem? (i := 69) rfl))) (ty := .long) (by decide)
  have F_known_b382 : Fld Z h382 b382 "com/example/eskew/eskew/server/split/CounterValues$Tally" "known" "Z" (.int (0 : Int32)) := D382 (Or.inl (hw _ (List.mem_of_getElem? (i := 71) rfl))) (ty := .boolean) (by decide)
  have F_settled_b382 : Fld Z h382 b382 "com/example/eskew/eskew/server/split/CounterValues$Tally" "settled" "Z" (.int (0 : Int32)) := D382 (Or.inl (hw _ (List.mem_of_getElem? (i := 73) rfl))) (ty := .boolean) (by decide)
  have F_placing_b382 : Fld Z h382 b382 "com/example/eskew/eskew/server/split/CounterValues$Tally" "placing" "Lcom/example/eskew/eskew/server/split/CounterValues$Placing;" .null := D382 (Or.inl (hw _ (List.mem_of_getElem? (i := 76) rfl))) (ty := (.object "com/example/eskew/eskew/server/split/CounterValues$Placing")) (by decide)
  have F_reads_b382 : Fld Z h382 b382 "com/example/eskew/eskew/server/split/CounterValues$Tally" "reads" "I" (.int (0 : Int32)) := D382 (Or.inl (hw _ (List.mem_of_getElem? (i := 84) rfl))) (ty := .int) (by decide)
  refine own_by st382 ?_
  show own_Go p e below _ T382 (mkF m 67 #[.val (.ref a1), .val (.int (4 : Int32)), .val (.long q3), .second, .val (.long q4), .second, .val (.int (3 : Int32))] [(.ref b382), (.int (3 : Int32)), (.ref b317)])
  refine own_by (fun _ k => XS.dup X382.here hx rfl (hb hby d1_67) rfl rfl k) ?_
  refine own_by (fun _ k => XS.lload X382.here hx rfl (hb hby d1_68) rfl k) ?_
  have f390 := (f383.ext E382)
  have f391 := (f384.ext E382)
  have f392 := (f385.ext E382)
  have f393 := (V378.ext E382)
  have f394 := (f386.ext E382)
  have f395 := (f387.ext E382)
  have f396 := (f388.ext E382)
  obtain ⟨_, T397, L397, X397, ⟨rfl, N397q, K3', H3'⟩, st397⟩ := own_callR X382 hx hZ hown (y := (⟨"com/example/eskew/eskew/server/split/CounterValues$Tally", "<init>", "(J)V"⟩ : MethodName)) rfl (hw _ (List.mem_of_getElem? (i := 34) rfl)) (hw _ (List.mem_of_getElem? (i := 35) rfl)) (hw _ (List.mem_of_getElem? (i := 33) rfl)) (hw _ (List.mem_of_getElem? (i := 36) rfl)) (by decide) (a := b382) (argsL := [(.long q4)]) (rest := [(.ref b382), (.int (3 : Int32)), (.ref b317)]) e382 (rm4 l Z a0 hw [] b382 q4 h382 n0 Z382 og_b382 ⟨A382, F_since_b382, F_writesSent_b382, F_writes_b382, F_aloneSent_b382, F_value_b382, F_known_b382, F_settled_b382, F_placing_b382, F_reads_b382⟩) (g := (mkF m 70 #[.val (.ref a1), .val (.int (4 : Int32)), .val (.long q3), .second, .val (.long q4), .second, .val (.int (3 : Int32))] [(.long q4), (.ref b382), (.ref b382), (.int (3 : Int32)), (.ref b317)])) rfl (by rw [hml]; rfl) (lenOf pd_1 rfl) rfl (W := 3) (by show 2 * 0 + _ ≤ _; exact Nat.le_of_eq rfl) (hb hby d1_70) (by decide) (by decide) (by decide) (by decide)
  have N397 := Fr.app N378 N397q
  refine own_by st397 ?_
  show own_Go p e below _ T397 (mkF m 73 #[.val (.ref a1), .val (.int (4 : Int32)), .val (.long q3), .second, .val (.long q4), .second, .val (.int (3 : Int32))] [(.ref b382), (.int (3 : Int32)), (.ref b317)])
  have Z397 : n0 ≤ T397.heap.size := Nat.le_trans Z382 K3'.1
  have K397c := K389.trans K3' (allS (Or.inr sz_b382) all0)
  have E3' := H3'.1
  have f399 := (f393.keep K3' (ninS ne_b317_b382 nin0))
  obtain ⟨cl398, Ar398, cq398, hin398, hat398, set398⟩ := own_arv f399 (j := (3 : Int32)) ⟨by decide, by decide⟩
  obtain ⟨T400, h400, X400, e400, W400, st400⟩ := stR X397 hx hZ rfl Ar398 (j := (3 : Int32)) hin398 rfl (Sto.ofV Ar398 cq398 O317 (Ins.self E3')) (g := (mkF m 73 #[.val (.ref a1), .val (.int (4 : Int32)), .val (.long q3), .second, .val (.long q4), .second, .val (.int (3 : Int32))] [(.ref b382), (.int (3 : Int32)), (.ref b317)])) rfl rfl (hb hby d1_73)
  have V400 : Arv Z h400 b317 k317 (.object "com/example/eskew/eskew/server/split/CounterValues$Tally") (4 : Int32) [(.ref b327), (.ref b344), (.ref b362), (.ref b382)] .null := set398 rfl W400 3 rfl (Nat.le_of_ble_eq_true rfl)
  have N400 := Fr.snoc X400 N397 og_b317
  have K401 := K397c.wr W400 (Or.inr sz_b317)
  have Z400 : n0 ≤ h400.size := Nat.le_trans Z397 (Keep.of_wr W400).1
  refine own_by st400 ?_
  refine own_by (fun _ k => XS.iinc X400.here hx rfl (hb hby d1_74) rfl (l' := #[.val (.ref a1), .val (.int (4 : Int32)), .val (.long q3), .second, .val (.long q4), .second, .val (.int ((3 : Int32) + (1 : Int32)))]) rfl k) ?_
  show own_Go p e below _ T400 (mkF m 77 #[.val (.ref a1), .val (.int (4 : Int32)), .val (.long q3), .second, .val (.long q4), .second, .val (.int ((3 : Int32) + (1 : Int32)))] [])
  rw [show (3 : Int32) + (1 : Int32) = (4 : Int32) from by decide]
  refine own_by (fun _ k => XS.goto X400.here hx rfl (pc0 := 77) (pc' := 52) rfl (hb hby d1_77) (by decide) (by decide) k) ?_
  refine own_by (fun _ k => XS.iload X400.here hx rfl (hb hby d1_52) rfl k) ?_
  show own_Go p e below _ T400 (mkF m 54 #[.val (.ref a1), .val (.int (4 : Int32)), .val (.long q3), .second, .val (.long q4), .second, .val (.int (4 : Int32))] [(.int (4 : Int32))])
  refine own_by (fun _ k => XS.iloadN X400.here hx rfl (hb hby d1_54) rfl k) ?_
  refine own_by (fun _ k => XS.icmpYes X400.here hx rfl (pc0 := 55) (pc' := 80) rfl (hb hby d1_55) rfl (flt (by decide : ¬ ((4 : Int32) < (4 : Int32)))).2.1 (by decide) (by decide) k) ?_
  have f402 := (own_TalW (own_TalK (own_TalE (own_TalW (own_TalK (own_TalE (own_TalW (own_TalK (own_TalE (own_TalW H0' W340 (Ne.symm ne_b317_b327)) E344) K1' (ninS ne_b327_b344 nin0)) W358 (Ne.symm ne_b317_b327)) E362) K2' (ninS ne_b327_b362 nin0)) W378 (Ne.symm ne_b317_b327)) E382) K3' (ninS ne_b327_b382 nin0)) W400 (Ne.symm ne_b317_b327))
  have f403 := (own_TalW (own_TalK (own_TalE (own_TalW (own_TalK (own_TalE (own_TalW H1' W358 (Ne.symm ne_b317_b344)) E362) K2' (ninS ne_b344_b362 nin0)) W378 (Ne.symm ne_b317_b344)) E382) K3' (ninS ne_b344_b382 nin0)) W400 (Ne.symm ne_b317_b344))
  have f404 := (own_TalW (own_TalK (own_TalE (own_TalW H2' W378 (Ne.symm ne_b317_b362)) E382) K3' (ninS ne_b362_b382 nin0)) W400 (Ne.symm ne_b317_b362))
  have f405 := (own_TalW H3' W400 (Ne.symm ne_b317_b382))
  have hall : own_All Z h400 h0.size b317 [(.ref b327), (.ref b344), (.ref b362), (.ref b382)] (4 : Int32) q4 := by
    intro j h1 h2
    rcases own_rng_4 j h1 h2 with rfl | rfl | rfl | rfl
    · exact ⟨b327, rfl, sz_b327, ne_b317_b327, f402⟩
    · exact ⟨b344, rfl, sz_b344, ne_b317_b344, f403⟩
    · exact ⟨b362, rfl, sz_b362, ne_b317_b362, f404⟩
    · exact ⟨b382, rfl, sz_b382, ne_b317_b382, f405⟩
  have hinj : own_Inj [(.ref b327), (.ref b344), (.ref b362), (.ref b382)] (4 : Int32) := by
    intro i j h1 h2 h3 h4 hij
    rcases own_rng_4 i h1 h2 with rfl | rfl | rfl | rfl <;> rcases own_rng_4 j h3 h4 with rfl | rfl | rfl | rfl
    · exact absurd rfl hij
    · exact fun q => ne_b327_b344 (Value.ref.inj q)
    · exact fun q => ne_b327_b362 (Value.ref.inj q)
    · exact fun q => ne_b327_b382 (Value.ref.inj q)
    · exact fun q => (Ne.symm ne_b327_b344) (Value.ref.inj q)
    · exact absurd rfl hij
    · exact fun q => ne_b344_b362 (Value.ref.inj q)
    · exact fun q => ne_b344_b382 (Value.ref.inj q)
    · exact fun q => (Ne.symm ne_b327_b362) (Value.ref.inj q)
    · exact fun q => (Ne.symm ne_b344_b362) (Value.ref.inj q)
    · exact absurd rfl hij
    · exact fun q => ne_b362_b382 (Value.ref.inj q)
    · exact fun q => (Ne.symm ne_b327_b382) (Value.ref.inj q)
    · exact fun q => (Ne.symm ne_b344_b382) (Value.ref.inj q)
    · exact fun q => (Ne.symm ne_b362_b382) (Value.ref.inj q)
    · exact absurd rfl hij
  have f406 := (((((((((((((f324.wr W322).ext E327).keep K0').wr W340).ext E344).keep K1').wr W358).ext E362).keep K2').wr W378).ext E382).keep K3').wr W400)
  have f407 := ((((((((((((((((fw305.other W309 (Or.inr (slot_ne (Or.inl (hw _ (List.mem_of_getElem? (i := 23) rfl))) (Or.inl (hw _ (List.mem_of_getElem? (i := 25) rfl))) (by decide) (t := .int) (t' := .int) (by decide) (by decide)))).other W313 (Or.inr (slot_ne (Or.inl (hw _ (List.mem_of_getElem? (i := 23) rfl))) (Or.inr (hw _ (List.mem_of_getElem? (i := 27) rfl))) (by decide) (t := .int) (t' := .long) (by decide) (by decide)))).ext E317).other W322 (Or.inr (slot_ne (Or.inl (hw _ (List.mem_of_getElem? (i := 23) rfl))) (Or.inr (hw _ (List.mem_of_getElem? (i := 31) rfl))) (by decide) (t := .int) (t' := (.array (.object "com/example/eskew/eskew/server/split/CounterValues$Tally"))) (by decide) (by decide)))).ext E327).keep K0' (ninS ne_a1_b327 nin0)).other W340 (Or.inl ne_a1_b317)).ext E344).keep K1' (ninS ne_a1_b344 nin0)).other W358 (Or.inl ne_a1_b317)).ext E362).keep K2' (ninS ne_a1_b362 nin0)).other W378 (Or.inl ne_a1_b317)).ext E382).keep K3' (ninS ne_a1_b382 nin0)).other W400 (Or.inl ne_a1_b317))
  have f408 := ((((((((((((((fw313.ext E317).other W322 (Or.inr (slot_ne (Or.inr (hw _ (List.mem_of_getElem? (i := 27) rfl))) (Or.inr (hw _ (List.mem_of_getElem? (i := 31) rfl))) (by decide) (t := .long) (t' := (.array (.object "com/example/eskew/eskew/server/split/CounterValues$Tally"))) (by decide) (by decide)))).ext E327).keep K0' (ninS ne_a1_b327 nin0)).other W340 (Or.inl ne_a1_b317)).ext E344).keep K1' (ninS ne_a1_b344 nin0)).other W358 (Or.inl ne_a1_b317)).ext E362).keep K2' (ninS ne_a1_b362 nin0)).other W378 (Or.inl ne_a1_b317)).ext E382).keep K3' (ninS ne_a1_b382 nin0)).other W400 (Or.inl ne_a1_b317))
  have f409 := (((f381.ext E382).keep K3' (ninS ne_a1_b382 nin0)).other W400 (Or.inl ne_a1_b317))
  exact own_ret0 X400 hx hlk hret (hb hby d1_80) (by first | exact ⟨b317, k317, [(.ref b327), (.ref b344), (.ref b362), (.ref b382)], rfl, N400, K401, f406, f407, f408, f409, sz_b317, V400, hall, hinj⟩ | (rw [e400]; exact ⟨b317, k317, [(.ref b327), (.ref b344), (.ref b362), (.ref b382)], rfl, N400, K401, f406, f407, f408, f409, sz_b317, V400, hall, hinj⟩)) (by decide) (by decide)
theorem pn_rm1_5 : plainFor (⟨"com/example/eskew/eskew/server/split/CounterValues", "<init>", "(IJJ)V"⟩ : MethodName) = true := plainFor_of_name (by first | (simp [plainName, overriddenIn, x]; done) | decide +kernel)
set_option maxRecDepth 65536 in
set_option maxHeartbeats 40000000 in
theorem rm1_5 (l : Launch) (Z : State) (a0 : Array Value) (hw : ∀ d ∈ tables_1, d.before a0 Z = true) (ws : List Jvm.Cond) (a1 : Addr) (q3 q4 : Int64) (h0 : Heap) (n0 : Nat) (Z0 : n0 ≤ h0.size) (g1 : n0 ≤ a1) (E1 : Exa Z h0 a1 "com/example/eskew/eskew/server/split/CounterValues") (F_rising : Fld Z h0 a1 "com/example/eskew/eskew/server/split/CounterValues" "rising" "Lcom/example/eskew/eskew/server/split/CounterValues$WideSum;" .null) (F_falling : Fld Z h0 a1 "com/example/eskew/eskew/server/split/CounterValues" "falling" "Lcom/example/eskew/eskew/server/split/CounterValues$WideSum;" .null) (F_resting : Fld Z h0 a1 "com/example/eskew/eskew/server/split/CounterValues" "resting" "I" (.int (0 : Int32))) (F_nextToRest : Fld Z h0 a1 "com/example/eskew/eskew/server/split/CounterValues" "nextToRest" "I" (.int (0 : Int32))) (F_rereadNanos : Fld Z h0 a1 "com/example/eskew/eskew/server/split/CounterValues" "rereadNanos" "J" (.long (0 : Int64))) (F_tallies : Fld Z h0 a1 "com/example/eskew/eskew/server/split/CounterValues" "tallies" "[Lcom/example/eskew/eskew/server/split/CounterValues$Tally;" .null) :
    own_Met l Z (⟨"com/example/eskew/eskew/server/split/CounterValues", "<init>", "(IJJ)V"⟩ : MethodName) prog_33_method_1_code 7 none ws ({ frames := 2, cells := 8, slots := 54, locals := 48 } : Room) #[(.ref a1), (.int (5 : Int32)), (.long q3), (.long q4)] h0 (Q_rm1 Z a1 (5 : Int32) q3 q4 h0 n0) := by
  refine own_enter (g0 := fun m => (mkF m 0 #[.val (.ref a1), .val (.int (5 : Int32)), .val (.long q3), .second, .val (.long q4), .second, .unset] [])) pn_rm1_5 (fun m => by first | (simp [entryFrame, mkF, argsToLocals, Value.category, maxLocals]; done) | rfl) ?_
  intro p e s m below meth c s₁ hx hby hml hown hnm hret hlk hZ X0 e0
  have hml : c.maxLocals = 7 := hml
  have hown : s.vm.findClass "com/example/eskew/eskew/server/split/CounterValues" = some m.cls := hown
  have N0 := Fr.nil n0
  have K0 := Keep.refl h0 [a1]
  refine own_by (fun _ k => XS.aloadN X0.here hx rfl (hb hby d1_0) rfl rfl k) ?_
  obtain ⟨T410, X410, e410, st410⟩ := initO X0 hx hZ hown (hw _ (List.mem_of_getElem? (i := 8) rfl)) (hw _ (List.mem_of_getElem? (i := 9) rfl)) (hw _ (List.mem_of_getElem? (i := 10) rfl)) e0 (g := (mkF m 1 #[.val (.ref a1), .val (.int (5 : Int32)), .val (.long q3), .second, .val (.long q4), .second, .unset] [(.ref a1)])) rfl (by rw [hml]; rfl) rfl (hb hby d1_1) (by decide) (W := 0) (by show 2 * 0 + _ ≤ _; exact Nat.le_of_eq rfl) (by decide)
  refine own_by st410 ?_
  show own_Go p e below _ T410 (mkF m 4 #[.val (.ref a1), .val (.int (5 : Int32)), .val (.long q3), .second, .val (.long q4), .second, .unset] [])
  refine own_by (fun _ k => XS.aloadN X410.here hx rfl (hb hby d1_4) rfl rfl k) ?_
  obtain ⟨T411, h411, X411, e411, E411, A411, D411, -, st411⟩ := newO X410 hx hZ hown (hw _ (List.mem_of_getElem? (i := 11) rfl)) (hw _ (List.mem_of_getElem? (i := 12) rfl)) (hw _ (List.mem_of_getElem? (i := 13) rfl)) e410 (g := (mkF m 5 #[.val (.ref a1), .val (.int (5 : Int32)), .val (.long q3), .second, .val (.long q4), .second, .unset] [(.ref a1)])) rfl (hb hby d1_5) (by decide) (by decide)
  obtain ⟨b411, g411⟩ : ∃ zq, zq = h0.size := ⟨_, rfl⟩
  rw [← g411] at A411 D411 st411
  have ne_a1_b411 : a1 ≠ b411 := Nat.ne_of_lt (Nat.lt_of_lt_of_le F_rising.lt (Nat.le_of_eq g411.symm))
  have og_b411 : n0 ≤ b411 := Nat.le_trans Z0 (Nat.le_of_eq g411.symm)
  have sz_b411 : h0.size ≤ b411 := Nat.le_trans K0.1 (Nat.le_of_eq g411.symm)
  have Z411 : n0 ≤ h411.size := Nat.le_trans Z0 E411.1
  have K412 := K0.ext E411
  have F_low_b411 : Fld Z h411 b411 "com/example/eskew/eskew/server/split/CounterValues$WideSum" "low" "J" (.long (0 : Int64)) := D411 (Or.inl (hw _ (List.mem_of_getElem? (i := 102) rfl))) (ty := .long) (by decide)
  have F_high_b411 : Fld Z h411 b411 "com/example/eskew/eskew/server/split/CounterValues$WideSum" "high" "J" (.long (0 : Int64)) := D411 (Or.inl (hw _ (List.mem_of_getElem? (i := 109) rfl))) (ty := .long) (by decide)
  refine own_by st411 ?_
  refine own_by (fun _ k => XS.dup X411.here hx rfl (hb hby d1_8) rfl rfl k) ?_
  show own_Go p e below _ T411 (mkF m 9 #[.val (.ref a1), .val (.int (5 : Int32)), .val (.long q3), .second, .val (.long q4), .second, .unset] [(.ref b411), (.ref b411), (.ref a1)])
  obtain ⟨_, T413, L413, X413, ⟨rfl, N413q, e413⟩, st413⟩ := own_callR X411 hx hZ hown (y := (⟨"com/example/eskew/eskew/server/split/CounterValues$WideSum", "<init>", "()V"⟩ : MethodName)) rfl (hw _ (List.mem_of_getElem? (i := 14) rfl)) (hw _ (List.mem_of_getElem? (i := 15) rfl)) (hw _ (List.mem_of_getElem? (i := 13) rfl)) (hw _ (List.mem_of_getElem? (i := 16) rfl)) (by decide) (a := b411) (argsL := []) (rest := [(.ref b411), (.ref a1)]) e411 (rm3 l Z a0 hw [] b411 h411 n0 Z411) (g := (mkF m 9 #[.val (.ref a1), .val (.int (5 : Int32)), .val (.long q3), .second, .val (.long q4), .second, .unset] [(.ref b411), (.ref b411), (.ref a1)])) rfl (by rw [hml]; rfl) (lenOf pd_0 rfl) rfl (W := 2) (by show 2 * 0 + _ ≤ _; exact Nat.le_of_eq rfl) (hb hby d1_9) (by decide) (by decide) (by decide) (by decide)
  have N413 := Fr.app N0 N413q
  refine own_by st413 ?_
  have f415 := (F_rising.ext E411)
  have f416 := (E1.ext E411)
  obtain ⟨T414, h414, X414, e414, W414, st414⟩ := putF X413 hx hZ hown (host := "") (Or.inl (hw _ (List.mem_of_getElem? (i := 18) rfl))) Via.refl e413 f415 f416 (Or.inr ⟨(hw _ (List.mem_of_getElem? (i := 19) rfl)), rfl, hnm⟩) (hw _ (List.mem_of_getElem? (i := 2) rfl)) (ty := (.object "com/example/eskew/eskew/server/split/CounterValues$WideSum")) (by decide) rfl rfl (g := (mkF m 12 #[.val (.ref a1), .val (.int (5 : Int32)), .val (.long q3), .second, .val (.long q4), .second, .unset] [(.ref b411), (.ref a1)])) rfl rfl (hb hby d1_12)
  refine own_by st414 ?_
  have N414 := Fr.snoc X414 N413 g1
  have fw414 := f415.same W414
  have K417 := K412.wr W414 (Or.inl (List.mem_of_getElem? (i := 0) rfl))
  have Z414 : n0 ≤ h414.size := Nat.le_trans Z411 (Keep.of_wr W414).1
  refine own_by (fun _ k => XS.aloadN X414.here hx rfl (hb hby d1_15) rfl rfl k) ?_
  show own_Go p e below _ T414 (mkF m 16 #[.val (.ref a1), .val (.int (5 : Int32)), .val (.long q3), .second, .val (.long q4), .second, .unset] [(.ref a1)])
  obtain ⟨T418, h418, X418, e418, E418, A418, D418, -, st418⟩ := newO X414 hx hZ hown (hw _ (List.mem_of_getElem? (i := 11) rfl)) (hw _ (List.mem_of_getElem? (i := 12) rfl)) (hw _ (List.mem_of_getElem? (i := 13) rfl)) e414 (g := (mkF m 16 #[.val (.ref a1), .val (.int (5 : Int32)), .val (.long q3), .second, .val (.long q4), .second, .unset] [(.ref a1)])) rfl (hb hby d1_16) (by decide) (by decide)
  obtain ⟨b418, g418⟩ : ∃ zq, zq = h414.size := ⟨_, rfl⟩
  rw [← g418] at A418 D418 st418
  have ne_a1_b418 : a1 ≠ b418 := Nat.ne_of_lt (Nat.lt_of_lt_of_le fw414.lt (Nat.le_of_eq g418.symm))
  have f419 := (A411.wr W414)
  have ne_b411_b418 : b411 ≠ b418 := Nat.ne_of_lt (Nat.lt_of_lt_of_le f419.lt (Nat.le_of_eq g418.symm))
  have og_b418 : n0 ≤ b418 := Nat.le_trans Z414 (Nat.le_of_eq g418.symm)
  have sz_b418 : h0.size ≤ b418 := Nat.le_trans K417.1 (Nat.le_of_eq g418.symm)
  have Z418 : n0 ≤ h418.size := Nat.le_trans Z414 E418.1
  have K420 := K417.ext E418
  have F_low_b418 : Fld Z h418 b418 "com/example/eskew/eskew/server/split/CounterValues$WideSum" "low" "J" (.long (0 : Int64)) := D418 (Or.inl (hw _ (List.mem_of_getElem? (i := 102) rfl))) (ty := .long) (by decide)
  have F_high_b418 : Fld Z h418 b418 "com/example/eskew/eskew/server/split/CounterValues$WideSum" "high" "J" (.long (0 : Int64)) := D418 (Or.inl (hw _ (List.mem_of_getElem? (i := 109) rfl))) (ty := .long) (by decide)
  refine own_by st418 ?_
  refine own_by (fun _ k => XS.dup X418.here hx rfl (hb hby d1_19) rfl rfl k) ?_
  obtain ⟨_, T421, L421, X421, ⟨rfl, N421q, e421⟩, st421⟩ := own_callR X418 hx hZ hown (y := (⟨"com/example/eskew/eskew/server/split/CounterValues$WideSum", "<init>", "()V"⟩ : MethodName)) rfl (hw _ (List.mem_of_getElem? (i := 14) rfl)) (hw _ (List.mem_of_getElem? (i := 15) rfl)) (hw _ (List.mem_of_getElem? (i := 13) rfl)) (hw _ (List.mem_of_getElem? (i := 16) rfl)) (by decide) (a := b418) (argsL := []) (rest := [(.ref b418), (.ref a1)]) e418 (rm3 l Z a0 hw [] b418 h418 n0 Z418) (g := (mkF m 20 #[.val (.ref a1), .val (.int (5 : Int32)), .val (.long q3), .second, .val (.long q4), .second, .unset] [(.ref b418), (.ref b418), (.ref a1)])) rfl (by rw [hml]; rfl) (lenOf pd_0 rfl) rfl (W := 2) (by show 2 * 0 + _ ≤ _; exact Nat.le_of_eq rfl) (hb hby d1_20) (by decide) (by decide) (by decide) (by decide)
  have N421 := Fr.app N414 N421q
  refine own_by st421 ?_
  show own_Go p e below _ T421 (mkF m 23 #[.val (.ref a1), .val (.int (5 : Int32)), .val (.long q3), .second, .val (.long q4), .second, .unset] [(.ref b418), (.ref a1)])
  have f423 := (((F_falling.ext E411).other W414 (Or.inr (slot_ne (Or.inr (hw _ (List.mem_of_getElem? (i := 21) rfl))) (Or.inr (hw _ (List.mem_of_getElem? (i := 19) rfl))) (by decide) (t := (.object "com/example/eskew/eskew/server/split/CounterValues$WideSum")) (t' := (.object "com/example/eskew/eskew/server/split/CounterValues$WideSum")) (by decide) (by decide)))).ext E418)
  have f424 := ((f416.wr W414).ext E418)
  obtain ⟨T422, h422, X422, e422, W422, st422⟩ := putF X421 hx hZ hown (host := "") (Or.inl (hw _ (List.mem_of_getElem? (i := 20) rfl))) Via.refl e421 f423 f424 (Or.inr ⟨(hw _ (List.mem_of_getElem? (i := 21) rfl)), rfl, hnm⟩) (hw _ (List.mem_of_getElem? (i := 2) rfl)) (ty := (.object "com/example/eskew/eskew/server/split/CounterValues$WideSum")) (by decide) rfl rfl (g := (mkF m 23 #[.val (.ref a1), .val (.int (5 : Int32)), .val (.long q3), .second, .val (.long q4), .second, .unset] [(.ref b418), (.ref a1)])) rfl rfl (hb hby d1_23)
  refine own_by st422 ?_
  have N422 := Fr.snoc X422 N421 g1
  have fw422 := f423.same W422
  have K425 := K420.wr W422 (Or.inl (List.mem_of_getElem? (i := 0) rfl))
  have Z422 : n0 ≤ h422.size := Nat.le_trans Z418 (Keep.of_wr W422).1
  refine own_by (fun _ k => XS.aloadN X422.here hx rfl (hb hby d1_26) rfl rfl k) ?_
  refine own_by (fun _ k => XS.iconst X422.here hx rfl (hb hby d1_27) k) ?_
  show own_Go p e below _ T422 (mkF m 28 #[.val (.ref a1), .val (.int (5 : Int32)), .val (.long q3), .second, .val (.long q4), .second, .unset] [(.int (-1 : Int32)), (.ref a1)])
  have f427 := ((((F_resting.ext E411).other W414 (Or.inr (slot_ne (Or.inl (hw _ (List.mem_of_getElem? (i := 23) rfl))) (Or.inr (hw _ (List.mem_of_getElem? (i := 19) rfl))) (by decide) (t := .int) (t' := (.object "com/example/eskew/eskew/server/split/CounterValues$WideSum")) (by decide) (by decide)))).ext E418).other W422 (Or.inr (slot_ne (Or.inl (hw _ (List.mem_of_getElem? (i := 23) rfl))) (Or.inr (hw _ (List.mem_of_getElem? (i := 21) rfl))) (by decide) (t := .int) (t' := (.object "com/example/eskew/eskew/server/split/CounterValues$WideSum")) (by decide) (by decide))))
  have f428 := (f424.wr W422)
  obtain ⟨T426, h426, X426, e426, W426, st426⟩ := putF X422 hx hZ hown (host := "") (Or.inl (hw _ (List.mem_of_getElem? (i := 22) rfl))) Via.refl e422 f427 f428 (Or.inl (hw _ (List.mem_of_getElem? (i := 23) rfl))) (hw _ (List.mem_of_getElem? (i := 2) rfl)) (ty := .int) (by decide) rfl rfl (g := (mkF m 28 #[.val (.ref a1), .val (.int (5 : Int32)), .val (.long q3), .second, .val (.long q4), .second, .unset] [(.int (-1 : Int32)), (.ref a1)])) rfl rfl (hb hby d1_28)
  refine own_by st426 ?_
  have N426 := Fr.snoc X426 N422 g1
  have fw426 := f427.same W426
  have K429 := K425.wr W426 (Or.inl (List.mem_of_getElem? (i := 0) rfl))
  have Z426 : n0 ≤ h426.size := Nat.le_trans Z422 (Keep.of_wr W426).1
  refine own_by (fun _ k => XS.aloadN X426.here hx rfl (hb hby d1_31) rfl rfl k) ?_
  refine own_by (fun _ k => XS.iconst X426.here hx rfl (hb hby d1_32) k) ?_
  show own_Go p e below _ T426 (mkF m 33 #[.val (.ref a1), .val (.int (5 : Int32)), .val (.long q3), .second, .val (.long q4), .second, .unset] [(.int (1 : Int32)), (.ref a1)])
  have f431 := (((((F_nextToRest.ext E411).other W414 (Or.inr (slot_ne (Or.inl (hw _ (List.mem_of_getElem? (i := 25) rfl))) (Or.inr (hw _ (List.mem_of_getElem? (i := 19) rfl))) (by decide) (t := .int) (t' := (.object "com/example/eskew/eskew/server/split/CounterValues$WideSum")) (by decide) (by decide)))).ext E418).other W422 (Or.inr (slot_ne (Or.inl (hw _ (List.mem_of_getElem? (i := 25) rfl))) (Or.inr (hw _ (List.mem_of_getElem? (i := 21) rfl))) (by decide) (t := .int) (t' := (.object "com/example/eskew/eskew/server/split/CounterValues$WideSum")) (by decide) (by decide)))).other W426 (Or.inr (slot_ne (Or.inl (hw _ (List.mem_of_getElem? (i := 25) rfl))) (Or.inl (hw _ (List.mem_of_getElem? (i := 23) rfl))) (by decide) (t := .int) (t' := .int) (by decide) (by decide))))
  have f432 := (f428.wr W426)
  obtain ⟨T430, h430, X430, e430, W430, st430⟩ := putF X426 hx hZ hown (host := "") (Or.inl (hw _ (List.mem_of_getElem? (i := 24) rfl))) Via.refl e426 f431 f432 (Or.inl (hw _ (List.mem_of_getElem? (i := 25) rfl))) (hw _ (List.mem_of_getElem? (i := 2) rfl)) (ty := .int) (by decide) rfl rfl (g := (mkF m 33 #[.val (.ref a1), .val (.int (5 : Int32)), .val (.long q3), .second, .val (.long q4), .second, .unset] [(.int (1 : Int32)), (.ref a1)])) rfl rfl (hb hby d1_33)
  refine own_by st430 ?_
  have N430 := Fr.snoc X430 N426 g1
  have fw430 := f431.same W430
  have K433 := K429.wr W430 (Or.inl (List.mem_of_getElem? (i := 0) rfl))
  have Z430 : n0 ≤ h430.size := Nat.le_trans Z426 (Keep.of_wr W430).1
  refine own_by (fun _ k => XS.aloadN X430.here hx rfl (hb hby d1_36) rfl rfl k) ?_
  refine own_by (fun _ k => XS.lloadN X430.here hx rfl (hb hby d1_37) rfl k) ?_
  show own_Go p e below _ T430 (mkF m 38 #[.val (.ref a1), .val (.int (5 : Int32)), .val (.long q3), .second, .val (.long q4), .second, .unset] [(.long q3), (.ref a1)])
  have f435 := ((((((F_rereadNanos.ext E411).other W414 (Or.inr (slot_ne (Or.inr (hw _ (List.mem_of_getElem? (i := 27) rfl))) (Or.inr (hw _ (List.mem_of_getElem? (i := 19) rfl))) (by decide) (t := .long) (t' := (.object "com/example/eskew/eskew/server/split/CounterValues$WideSum")) (by decide) (by decide)))).ext E418).other W422 (Or.inr (slot_ne (Or.inr (hw _ (List.mem_of_getElem? (i := 27) rfl))) (Or.inr (hw _ (List.mem_of_getElem? (i := 21) rfl))) (by decide) (t := .long) (t' := (.object "com/example/eskew/eskew/server/split/CounterValues$WideSum")) (by decide) (by decide)))).other W426 (Or.inr (slot_ne (Or.inr (hw _ (List.mem_of_getElem? (i := 27) rfl))) (Or.inl (hw _ (List.mem_of_getElem? (i := 23) rfl))) (by decide) (t := .long) (t' := .int) (by decide) (by decide)))).other W430 (Or.inr (slot_ne (Or.inr (hw _ (List.mem_of_getElem? (i := 27) rfl))) (Or.inl (hw _ (List.mem_of_getElem? (i := 25) rfl))) (by decide) (t := .long) (t' := .int) (by decide) (by decide))))
  have f436 := (f432.wr W430)
  obtain ⟨T434, h434, X434, e434, W434, st434⟩ := putF X430 hx hZ hown (host := "") (Or.inl (hw _ (List.mem_of_getElem? (i := 26) rfl))) Via.refl e430 f435 f436 (Or.inr ⟨(hw _ (List.mem_of_getElem? (i := 27) rfl)), rfl, hnm⟩) (hw _ (List.mem_of_getElem? (i := 2) rfl)) (ty := .long) (by decide) rfl rfl (g := (mkF m 38 #[.val (.ref a1), .val (.int (5 : Int32)), .val (.long q3), .second, .val (.long q4), .second, .unset] [(.long q3), (.ref a1)])) rfl rfl (hb hby d1_38)
  refine own_by st434 ?_
  have N434 := Fr.snoc X434 N430 g1
  have fw434 := f435.same W434
  have K437 := K433.wr W434 (Or.inl (List.mem_of_getElem? (i := 0) rfl))
  have Z434 : n0 ≤ h434.size := Nat.le_trans Z430 (Keep.of_wr W434).1
  refine own_by (fun _ k => XS.aloadN X434.here hx rfl (hb hby d1_41) rfl rfl k) ?_
  refine own_by (fun _ k => XS.iloadN X434.here hx rfl (hb hby d1_42) rfl k) ?_
  show own_Go p e below _ T434 (mkF m 43 #[.val (.ref a1), .val (.int (5 : Int32)), .val (.long q3), .second, .val (.long q4), .second, .unset] [(.int (5 : Int32)), (.ref a1)])
  obtain ⟨T438, h438, k438, X438, e438, E438, A438, O438, st438⟩ := newR X434 hx hZ hown (hw _ (List.mem_of_getElem? (i := 28) rfl)) (hw _ (List.mem_of_getElem? (i := 29) rfl)) e434 (g := (mkF m 43 #[.val (.ref a1), .val (.int (5 : Int32)), .val (.long q3), .second, .val (.long q4), .second, .unset] [(.int (5 : Int32)), (.ref a1)])) rfl (hb hby d1_43) rfl (by decide) (cap := 5) (by decide) (by decide) (by decide) (by decide)
  obtain ⟨b438, g438⟩ : ∃ zq, zq = h434.size := ⟨_, rfl⟩
  rw [← g438] at A438 st438
  have f439 := (((((fw414.ext E418).other W422 (Or.inr (slot_ne (Or.inr (hw _ (List.mem_of_getElem? (i := 19) rfl))) (Or.inr (hw _ (List.mem_of_getElem? (i := 21) rfl))) (by decide) (t := (.object "com/example/eskew/eskew/server/split/CounterValues$WideSum")) (t' := (.object "com/example/eskew/eskew/server/split/CounterValues$WideSum")) (by decide) (by decide)))).other W426 (Or.inr (slot_ne (Or.inr (hw _ (List.mem_of_getElem? (i := 19) rfl))) (Or.inl (hw _ (List.mem_of_getElem? (i := 23) rfl))) (by decide) (t := (.object "com/example/eskew/eskew/server/split/CounterValues$WideSum")) (t' := .int) (by decide) (by decide)))).other W430 (Or.inr (slot_ne (Or.inr (hw _ (List.mem_of_getElem? (i := 19) rfl))) (Or.inl (hw _ (List.mem_of_getElem? (i := 25) rfl))) (by decide) (t := (.object "com/example/eskew/eskew/server/split/CounterValues$WideSum")) (t' := .int) (by decide) (by decide)))).other W434 (Or.inr (slot_ne (Or.inr (hw _ (List.mem_of_getElem? (i := 19) rfl))) (Or.inr (hw _ (List.mem_of_getElem? (i := 27) rfl))) (by decide) (t := (.object "com/example/eskew/eskew/server/split/CounterValues$WideSum")) (t' := .long) (by decide) (by decide))))
  have ne_a1_b438 : a1 ≠ b438 := Nat.ne_of_lt (Nat.lt_of_lt_of_le f439.lt (Nat.le_of_eq g438.symm))
  have f440 := (((((f419.ext E418).wr W422).wr W426).wr W430).wr W434)
  have ne_b411_b438 : b411 ≠ b438 := Nat.ne_of_lt (Nat.lt_of_lt_of_le f440.lt (Nat.le_of_eq g438.symm))
  have f441 := ((((A418.wr W422).wr W426).wr W430).wr W434)
  have ne_b418_b438 : b418 ≠ b438 := Nat.ne_of_lt (Nat.lt_of_lt_of_le f441.lt (Nat.le_of_eq g438.symm))
  have og_b438 : n0 ≤ b438 := Nat.le_trans Z434 (Nat.le_of_eq g438.symm)
  have sz_b438 : h0.size ≤ b438 := Nat.le_trans K437.1 (Nat.le_of_eq g438.symm)
  have Z438 : n0 ≤ h438.size := Nat.le_trans Z434 E438.1
  have K442 := K437.ext E438
  have V438 : Arv Z h438 b438 k438 (.object "com/example/eskew/eskew/server/split/CounterValues$Tally") (5 : Int32) [.null, .null, .null, .null, .null] .null := (Arv.new A438 (by decide)).pad (pad_rep [] .null 5)
  refine own_by st438 ?_
  have f444 := ((((((((F_tallies.ext E411).other W414 (Or.inr (slot_ne (Or.inr (hw _ (List.mem_of_getElem? (i := 31) rfl))) (Or.inr (hw _ (List.mem_of_getElem? (i := 19) rfl))) (by decide) (t := (.array (.object "com/example/eskew/eskew/server/split/CounterValues$Tally"))) (t' := (.object "com/example/eskew/eskew/server/split/CounterValues$WideSum")) (by decide) (by decide)))).ext E418).other W422 (Or.inr (slot_ne (Or.inr (hw _ (List.mem_of_getElem? (i := 31) rfl))) (Or.inr (hw _ (List.mem_of_getElem? (i := 21) rfl))) (by decide) (t := (.array (.object "com/example/eskew/eskew/server/split/CounterValues$Tally"))) (t' := (.object "com/example/eskew/eskew/server/split/CounterValues$WideSum")) (by decide) (by decide)))).other W426 (Or.inr (slot_ne (Or.inr (hw _ (List.mem_of_getElem? (i := 31) rfl))) (Or.inl (hw _ (List.mem_of_getElem? (i := 23) rfl))) (by decide) (t := (.array (.object "com/example/eskew/eskew/server/split/CounterValues$Tally"))) (t' := .int) (by decide) (by decide)))).other W430 (Or.inr (slot_ne (Or.inr (hw _ (List.mem_of_getElem? (i := 31) rfl))) (Or.inl (hw _ (List.mem_of_getElem? (i := 25) rfl))) (by decide) (t := (.array (.object "com/example/eskew/eskew/server/split/CounterValues$Tally"))) (t' := .int) (by decide) (by decide)))).other W434 (Or.inr (slot_ne (Or.inr (hw _ (List.mem_of_getElem? (i := 31) rfl))) (Or.inr (hw _ (List.mem_of_getElem? (i := 27) rfl))) (by decide) (t := (.array (.object "com/example/eskew/eskew/server/split/CounterValues$Tally"))) (t' := .long) (by decide) (by decide)))).ext E438)
  have f445 := ((f436.wr W434).ext E438)
  obtain ⟨T443, h443, X443, e443, W443, st443⟩ := putF X438 hx hZ hown (host := "") (Or.inl (hw _ (List.mem_of_getElem? (i := 30) rfl))) Via.refl e438 f444 f445 (Or.inr ⟨(hw _ (List.mem_of_getElem? (i := 31) rfl)), rfl, hnm⟩) (hw _ (List.mem_of_getElem? (i := 2) rfl)) (ty := (.array (.object "com/example/eskew/eskew/server/split/CounterValues$Tally"))) (by decide) rfl rfl (g := (mkF m 46 #[.val (.ref a1), .val (.int (5 : Int32)), .val (.long q3), .second, .val (.long q4), .second, .unset] [(.ref b438), (.ref a1)])) rfl rfl (hb hby d1_46)
  refine own_by st443 ?_
  have N443 := Fr.snoc X443 N434 g1
  have fw443 := f444.same W443
  have K446 := K442.wr W443 (Or.inl (List.mem_of_getElem? (i := 0) rfl))
  have Z443 : n0 ≤ h443.size := Nat.le_trans Z438 (Keep.of_wr W443).1
  refine own_by (fun _ k => XS.iconst X443.here hx rfl (hb hby d1_49) k) ?_
  show own_Go p e below _ T443 (mkF m 50 #[.val (.ref a1), .val (.int (5 : Int32)), .val (.long q3), .second, .val (.long q4), .second, .unset] [(.int (0 : Int32))])
  refine own_by (fun _ k => XS.istore X443.here hx rfl (hb hby d1_50) rfl (l' := #[.val (.ref a1), .val (.int (5 : Int32)), .val (.long q3), .second, .val (.long q4), .second, .val (.int (0 : Int32))]) rfl k) ?_
  refine own_by (fun _ k => XS.iload X443.here hx rfl (hb hby d1_52) rfl k) ?_
  refine own_by (fun _ k => XS.iloadN X443.here hx rfl (hb hby d1_54) rfl k) ?_
  show own_Go p e below _ T443 (mkF m 55 #[.val (.ref a1), .val (.int (5 : Int32)), .val (.long q3), .second, .val (.long q4), .second, .val (.int (0 : Int32))] [(.int (5 : Int32)), (.int (0 : Int32))])
  refine own_by (fun _ k => XS.icmpNo X443.here hx rfl (hb hby d1_55) rfl (tlt (by decide : (0 : Int32) < (5 : Int32))).2.1 k) ?_
  refine own_by (fun _ k => XS.aloadN X443.here hx rfl (hb hby d1_58) rfl rfl k) ?_
  obtain ⟨T447, X447, e447, st447⟩ := getF X443 hx hZ hown (host := "") (Or.inl (hw _ (List.mem_of_getElem? (i := 30) rfl))) Via.refl e443 fw443 (g := (mkF m 59 #[.val (.ref a1), .val (.int (5 : Int32)), .val (.long q3), .second, .val (.long q4), .second, .val (.int (0 : Int32))] [(.ref a1)])) rfl rfl (hb hby d1_59)
  refine own_by st447 ?_
  show own_Go p e below _ T447 (mkF m 62 #[.val (.ref a1), .val (.int (5 : Int32)), .val (.long q3), .second, .val (.long q4), .second, .val (.int (0 : Int32))] [(.ref b438)])
  refine own_by (fun _ k => XS.iload X447.here hx rfl (hb hby d1_62) rfl k) ?_
  obtain ⟨T448, h448, X448, e448, E448, A448, D448, -, st448⟩ := newO X447 hx hZ hown (hw _ (List.mem_of_getElem? (i := 28) rfl)) (hw _ (List.mem_of_getElem? (i := 32) rfl)) (hw _ (List.mem_of_getElem? (i := 33) rfl)) e447 (g := (mkF m 64 #[.val (.ref a1), .val (.int (5 : Int32)), .val (.long q3), .second, .val (.long q4), .second, .val (.int (0 : Int32))] [(.int (0 : Int32)), (.ref b438)])) rfl (hb hby d1_64) (by decide) (by decide)
  obtain ⟨b448, g448⟩ : ∃ zq, zq = h443.size := ⟨_, rfl⟩
  rw [← g448] at A448 D448 st448
  have f449 := ((f439.ext E438).other W443 (Or.inr (slot_ne (Or.inr (hw _ (List.mem_of_getElem? (i := 19) rfl))) (Or.inr (hw _ (List.mem_of_getElem? (i := 31) rfl))) (by decide) (t := (.object "com/example/eskew/eskew/server/split/CounterValues$WideSum")) (t' := (.array (.object "com/example/eskew/eskew/server/split/CounterValues$Tally"))) (by decide) (by decide))))
  have ne_a1_b448 : a1 ≠ b448 := Nat.ne_of_lt (Nat.lt_of_lt_of_le f449.lt (Nat.le_of_eq g448.symm))
  have f450 := ((f440.ext E438).wr W443)
  have ne_b411_b448 : b411 ≠ b448 := Nat.ne_of_lt (Nat.lt_of_lt_of_le f450.lt (Nat.le_of_eq g448.symm))
  have f451 := ((f441.ext E438).wr W443)
  have ne_b418_b448 : b418 ≠ b448 := Nat.ne_of_lt (Nat.lt_of_lt_of_le f451.lt (Nat.le_of_eq g448.symm))
  have f452 := (V438.other W443 (Ne.symm ne_a1_b438))
  have ne_b438_b448 : b438 ≠ b448 := Nat.ne_of_lt (Nat.lt_of_lt_of_le f452.lt (Nat.le_of_eq g448.symm))
  have og_b448 : n0 ≤ b448 := Nat.le_trans Z443 (Nat.le_of_eq g448.symm)
  have sz_b448 : h0.size ≤ b448 := Nat.le_trans K446.1 (Nat.le_of_eq g448.symm)
  have Z448 : n0 ≤ h448.size := Nat.le_trans Z443 E448.1
  have K453 := K446.ext E448
  have F_since_b448 : Fld Z h448 b448 "com/example/eskew/eskew/server/split/CounterValues$Tally" "since" "J" (.long (0 : Int64)) := D448 (Or.inl (hw _ (List.mem_of_getElem? (i := 39) rfl))) (ty := .long) (by decide)
  have F_writesSent_b448 : Fld Z h448 b448 "com/example/eskew/eskew/server/split/CounterValues$Tally" "writesSent" "J" (.long (0 : Int64)) := D448 (Or.inl (hw _ (List.mem_of_getElem? (i := 47) rfl))) (ty := .long) (by decide)
  have F_writes_b448 : Fld Z h448 b448 "com/example/eskew/eskew/server/split/CounterValues$Tally" "writes" "I" (.int (0 : Int32)) := D448 (Or.inl (hw _ (List.mem_of_getElem? (i := 49) rfl))) (ty := .int) (by decide)
  have F_aloneSent_b448 : Fld Z h448 b448 "com/example/eskew/eskew/server/split/CounterValues$Tally" "aloneSent" "J" (.long (0 : Int64)) := D448 (Or.inl (hw _ (List.mem_of_getElem? (i := 51) rfl))) (ty := .long) (by decide)
  have F_value_b448 : Fld Z h448 b448 "com/example/eskew/eskew/server/split/CounterValues$Tally" "value" "J" (.long (0 : Int64)) := D448 (Or.inl (hw _ (List.mem_of_getElem? (i := 69) rfl))) (ty := .long) (by decide)
  have F_known_b448 : Fld Z h448 b448 "com/example/eskew/eskew/server/split/CounterValues$Tally" "known" "Z" (.int (0 : Int32)) := D448 (Or.inl (hw _ (List.mem_of_getElem? (i := 71) rfl))) (ty := .boolean) (by decide)
  have F_settled_b448 : Fld Z h448 b448 "com/example/eskew/eskew/server/split/CounterValues$Tally" "settled" "Z" (.int (0 : Int32)) := D448 (Or.inl (hw _ (List.mem_of_getElem? (i := 73) rfl))) (ty := .boolean) (by decide)
  have F_placing_b448 : Fld Z h448 b448 "com/example/eskew/eskew/server/split/CounterValues$Tally" "placing" "Lcom/example/eskew/eskew/server/split/CounterValues$Placing;" .null := D448 (Or.inl (hw _ (List.mem_of_getElem? (i := 76) rfl))) (ty := (.object "com/example/eskew/eskew/server/split/CounterValues$Placing")) (by decide)
  have F_reads_b448 : Fld Z h448 b448 "com/example/eskew/eskew/server/split/CounterValues$Tally" "reads" "I" (.int (0 : Int32)) := D448 (Or.inl (hw _ (List.mem_of_getElem? (i := 84) rfl))) (ty := .int) (by decide)
  refine own_by st448 ?_
  refine own_by (fun _ k => XS.dup X448.here hx rfl (hb hby d1_67) rfl rfl k) ?_
  show own_Go p e below _ T448 (mkF m 68 #[.val (.ref a1), .val (.int (5 : Int32)), .val (.long q3), .second, .val (.long q4), .second, .val (.int (0 : Int32))] [(.ref b448), (.ref b448), (.int (0 : Int32)), (.ref b438)])
  refine own_by (fun _ k => XS.lload X448.here hx rfl (hb hby d1_68) rfl k) ?_
  have f454 := (f449.ext E448)
  have f455 := (f450.ext E448)
  have f456 := (f451.ext E448)
  have f457 := (f452.ext E448)
  obtain ⟨_, T458, L458, X458, ⟨rfl, N458q, K0', H0'⟩, st458⟩ := own_callR X448 hx hZ hown (y := (⟨"com/example/eskew/eskew/server/split/CounterValues$Tally", "<init>", "(J)V"⟩ : MethodName)) rfl (hw _ (List.mem_of_getElem? (i := 34) rfl)) (hw _ (List.mem_of_getElem? (i := 35) rfl)) (hw _ (List.mem_of_getElem? (i := 33) rfl)) (hw _ (List.mem_of_getElem? (i := 36) rfl)) (by decide) (a := b448) (argsL := [(.long q4)]) (rest := [(.ref b448), (.int (0 : Int32)), (.ref b438)]) e448 (rm4 l Z a0 hw [] b448 q4 h448 n0 Z448 og_b448 ⟨A448, F_since_b448, F_writesSent_b448, F_writes_b448, F_aloneSent_b448, F_value_b448, F_known_b448, F_settled_b448, F_placing_b448, F_reads_b448⟩) (g := (mkF m 70 #[.val (.ref a1), .val (.int (5 : Int32)), .val (.long q3), .second, .val (.long q4), .second, .val (.int (0 : Int32))] [(.long q4), (.ref b448), (.ref b448), (.int (0 : Int32)), (.ref b438)])) rfl (by rw [hml]; rfl) (lenOf pd_1 rfl) rfl (W := 3) (by show 2 * 0 + _ ≤ _; exact Nat.le_of_eq rfl) (hb hby d1_70) (by decide) (by decide) (by decide) (by decide)
  have N458 := Fr.app N443 N458q
  refine own_by st458 ?_
  have Z458 : n0 ≤ T458.heap.size := Nat.le_trans Z448 K0'.1
  have K458c := K453.trans K0' (allS (Or.inr sz_b448) all0)
  have E0' := H0'.1
  have f460 := (f457.keep K0' (ninS ne_b438_b448 nin0))
  obtain ⟨cl459, Ar459, cq459, hin459, hat459, set459⟩ := own_arv f460 (j := (0 : Int32)) ⟨by decide, by decide⟩
  obtain ⟨T461, h461, X461, e461, W461, st461⟩ := stR X458 hx hZ rfl Ar459 (j := (0 : Int32)) hin459 rfl (Sto.ofV Ar459 cq459 O438 (Ins.self E0')) (g := (mkF m 73 #[.val (.ref a1), .val (.int (5 : Int32)), .val (.long q3), .second, .val (.long q4), .second, .val (.int (0 : Int32))] [(.ref b448), (.int (0 : Int32)), (.ref b438)])) rfl rfl (hb hby d1_73)
  have V461 : Arv Z h461 b438 k438 (.object "com/example/eskew/eskew/server/split/CounterValues$Tally") (5 : Int32) [(.ref b448), .null, .null, .null, .null] .null := set459 rfl W461 0 rfl (Nat.le_of_ble_eq_true rfl)
  have N461 := Fr.snoc X461 N458 og_b438
  have K462 := K458c.wr W461 (Or.inr sz_b438)
  have Z461 : n0 ≤ h461.size := Nat.le_trans Z458 (Keep.of_wr W461).1
  refine own_by st461 ?_
  show own_Go p e below _ T461 (mkF m 74 #[.val (.ref a1), .val (.int (5 : Int32)), .val (.long q3), .second, .val (.long q4), .second, .val (.int (0 : Int32))] [])
  refine own_by (fun _ k => XS.iinc X461.here hx rfl (hb hby d1_74) rfl (l' := #[.val (.ref a1), .val (.int (5 : Int32)), .val (.long q3), .second, .val (.long q4), .second, .val (.int ((0 : Int32) + (1 : Int32)))]) rfl k) ?_
  show own_Go p e below _ T461 (mkF m 77 #[.val (.ref a1), .val (.int (5 : Int32)), .val (.long q3), .second, .val (.long q4), .second, .val (.int ((0 : Int32) + (1 : Int32)))] [])
  rw [show (0 : Int32) + (1 : Int32) = (1 : Int32) from by decide]
  refine own_by (fun _ k => XS.goto X461.here hx rfl (pc0 := 77) (pc' := 52) rfl (hb hby d1_77) (by decide) (by decide) k) ?_
  refine own_by (fun _ k => XS.iload X461.here hx rfl (hb hby d1_52) rfl k) ?_
  show own_Go p e below _ T461 (mkF m 54 #[.val (.ref a1), .val (.int (5 : Int32)), .val (.long q3), .second, .val (.long q4), .second, .val (.int (1 : Int32))] [(.int (1 : Int32))])
  refine own_by (fun _ k => XS.iloadN X461.here hx rfl (hb hby d1_54) rfl k) ?_
  refine own_by (fun _ k => XS.icmpNo X461.here hx rfl (hb hby d1_55) rfl (tlt (by decide : (1 : Int32) < (5 : Int32))).2.1 k) ?_
  refine own_by (fun _ k => XS.aloadN X461.here hx rfl (hb hby d1_58) rfl rfl k) ?_
  show own_Go p e below _ T461 (mkF m 59 #[.val (.ref a1), .val (.int (5 : Int32)), .val (.long q3), .second, .val (.long q4), .second, .val (.int (1 : Int32))] [(.ref a1)])
  have f464 := (((fw443.ext E448).keep K0' (ninS ne_a1_b448 nin0)).other W461 (Or.inl ne_a1_b438))
  obtain ⟨T463, X463, e463, st463⟩ := getF X461 hx hZ hown (host := "") (Or.inl (hw _ (List.mem_of_getElem? (i := 30) rfl))) Via.refl e461 f464 (g := (mkF m 59 #[.val (.ref a1), .val (.int (5 : Int32)), .val (.long q3), .second, .val (.long q4), .second, .val (.int (1 : Int32))] [(.ref a1)])) rfl rfl (hb hby d1_59)
  refine own_by st463 ?_
  refine own_by (fun _ k => XS.iload X463.here hx rfl (hb hby d1_62) rfl k) ?_
  obtain ⟨T465, h465, X465, e465, E465, A465, D465, -, st465⟩ := newO X463 hx hZ hown (hw _ (List.mem_of_getElem? (i := 28) rfl)) (hw _ (List.mem_of_getElem? (i := 32) rfl)) (hw _ (List.mem_of_getElem? (i := 33) rfl)) e463 (g := (mkF m 64 #[.val (.ref a1), .val (.int (5 : Int32)), .val (.long q3), .second, .val (.long q4), .second, .val (.int (1 : Int32))] [(.int (1 : Int32)), (.ref b438)])) rfl (hb hby d1_64) (by decide) (by decide)
  obtain ⟨b465, g465⟩ : ∃ zq, zq = h461.size := ⟨_, rfl⟩
  rw [← g465] at A465 D465 st465
  have f466 := ((f454.keep K0' (ninS ne_a1_b448 nin0)).other W461 (Or.inl ne_a1_b438))
  have ne_a1_b465 : a1 ≠ b465 := Nat.ne_of_lt (Nat.lt_of_lt_of_le f466.lt (Nat.le_of_eq g465.symm))
  have f467 := ((f455.keep K0').wr W461)
  have ne_b411_b465 : b411 ≠ b465 := Nat.ne_of_lt (Nat.lt_of_lt_of_le f467.lt (Nat.le_of_eq g465.symm))
  have f468 := ((f456.keep K0').wr W461)
  have ne_b418_b465 : b418 ≠ b465 := Nat.ne_of_lt (Nat.lt_of_lt_of_le f468.lt (Nat.le_of_eq g465.symm))
  have ne_b438_b465 : b438 ≠ b465 := Nat.ne_of_lt (Nat.lt_of_lt_of_le V461.lt (Nat.le_of_eq g465.symm))
  have f469 := (E0'.wr W461)
  have ne_b448_b465 : b448 ≠ b465 := Nat.ne_of_lt (Nat.lt_of_lt_of_le f469.lt (Nat.le_of_eq g465.symm))
  have og_b465 : n0 ≤ b465 := Nat.le_trans Z461 (Nat.le_of_eq g465.symm)
  have sz_b465 : h0.size ≤ b465 := Nat.le_trans K462.1 (Nat.le_of_eq g465.symm)
  have Z465 : n0 ≤ h465.size := Nat.le_trans Z461 E465.1
  have K470 := K462.ext E465
  have F_since_b465 : Fld Z h465 b465 "com/example/eskew/eskew/server/split/CounterValues$Tally" "since" "J" (.long (0 : Int64)) := D465 (Or.inl (hw _ (List.mem_of_getElem? (i := 39) rfl))) (ty := .long) (by decide)
  have F_writesSent_b465 : Fld Z h465 b465 "com/example/eskew/eskew/server/split/CounterValues$Tally" "writesSent" "J" (.long (0 : Int64)) := D465 (Or.inl (hw _ (List.mem_of_getElem? (i := 47) rfl))) (ty := .long) (by decide)
  have F_writes_b465 : Fld Z h465 b465 "com/example/eskew/eskew/server/split/CounterValues$Tally" "writes" "I" (.int (0 : Int32)) := D465 (Or.inl (hw _ (List.mem_of_getElem? (i := 49) rfl))) (ty := .int) (by decide)
  have F_aloneSent_b465 : Fld Z h465 b465 "com/example/eskew/eskew/server/split/CounterValues$Tally" "aloneSent" "J" (.long (0 : Int64)) := D465 (Or.inl (hw _ (List.mem_of_getElem? (i := 51) rfl))) (ty := .long) (by decide)
  have F_value_b465 : Fld Z h465 b465 "com/example/eskew/eskew/server/split/CounterValues$Tally" "value" "J" (.long (0 : Int64)) := D465 (Or.inl (hw _ (List.mem_of_getElem? (i := 69) rfl))) (ty := .long) (by decide)
  have F_known_b465 : Fld Z h465 b465 "com/example/eskew/eskew/server/split/CounterValues$Tally" "known" "Z" (.int (0 : Int32)) := D465 (Or.inl (hw _ (List.mem_of_getElem? (i := 71) rfl))) (ty := .boolean) (by decide)
  have F_settled_b465 : Fld Z h465 b465 "com/example/eskew/eskew/server/split/CounterValues$Tally" "settled" "Z" (.int (0 : Int32)) := D465 (Or.inl (hw _ (List.mem_of_getElem? (i := 73) rfl))) (ty := .boolean) (by decide)
  have F_placing_b465 : Fld Z h465 b465 "com/example/eskew/eskew/server/split/CounterValues$Tally" "placing" "Lcom/example/eskew/eskew/server/split/CounterValues$Placing;" .null := D465 (Or.inl (hw _ (List.mem_of_getElem? (i := 76) rfl))) (ty := (.object "com/example/eskew/eskew/server/split/CounterValues$Placing")) (by decide)
  have F_reads_b465 : Fld Z h465 b465 "com/example/eskew/eskew/server/split/CounterValues$Tally" "reads" "I" (.int (0 : Int32)) := D465 (Or.inl (hw _ (List.mem_of_getElem? (i := 84) rfl))) (ty := .int) (by decide)
  refine own_by st465 ?_
  show own_Go p e below _ T465 (mkF m 67 #[.val (.ref a1), .val (.int (5 : Int32)), .val (.long q3), .second, .val (.long q4), .second, .val (.int (1 : Int32))] [(.ref b465), (.int (1 : Int32)), (.ref b438)])
  refine own_by (fun _ k => XS.dup X465.here hx rfl (hb hby d1_67) rfl rfl k) ?_
  refine own_by (fun _ k => XS.lload X465.here hx rfl (hb hby d1_68) rfl k) ?_
  have f471 := (f466.ext E465)
  have f472 := (f467.ext E465)
  have f473 := (f468.ext E465)
  have f474 := (V461.ext E465)
  have f475 := (f469.ext E465)
  obtain ⟨_, T476, L476, X476, ⟨rfl, N476q, K1', H1'⟩, st476⟩ := own_callR X465 hx hZ hown (y := (⟨"com/example/eskew/eskew/server/split/CounterValues$Tally", "<init>", "(J)V"⟩ : MethodName)) rfl (hw _ (List.mem_of_getElem? (i := 34) rfl)) (hw _ (List.mem_of_getElem? (i := 35) rfl)) (hw _ (List.mem_of_getElem? (i := 33) rfl)) (hw _ (List.mem_of_getElem? (i := 36) rfl)) (by decide) (a := b465) (argsL := [(.long q4)]) (rest := [(.ref b465), (.int (1 : Int32)), (.ref b438)]) e465 (rm4 l Z a0 hw [] b465 q4 h465 n0 Z465 og_b465 ⟨A465, F_since_b465, F_writesSent_b465, F_writes_b465, F_aloneSent_b465, F_value_b465, F_known_b465, F_settled_b465, F_placing_b465, F_reads_b465⟩) (g := (mkF m 70 #[.val (.ref a1), .val (.int (5 : Int32)), .val (.long q3), .second, .val (.long q4), .second, .val (.int (1 : Int32))] [(.long q4), (.ref b465), (.ref b465), (.int (1 : Int32)), (.ref b438)])) rfl (by rw [hml]; rfl) (lenOf pd_1 rfl) rfl (W := 3) (by show 2 * 0 + _ ≤ _; exact Nat.le_of_eq rfl) (hb hby d1_70) (by decide) (by decide) (by decide) (by decide)
  have N476 := Fr.app N461 N476q
  refine own_by st476 ?_
  show own_Go p e below _ T476 (mkF m 73 #[.val (.ref a1), .val (.int (5 : Int32)), .val (.long q3), .second, .val (.long q4), .second, .val (.int (1 : Int32))] [(.ref b465), (.int (1 : Int32)), (.ref b438)])
  have Z476 : n0 ≤ T476.heap.size := Nat.le_trans Z465 K1'.1
  have K476c := K470.trans K1' (allS (Or.inr sz_b465) all0)
  have E1' := H1'.1
  have f478 := (f474.keep K1' (ninS ne_b438_b465 nin0))
  obtain ⟨cl477, Ar477, cq477, hin477, hat477, set477⟩ := own_arv f478 (j := (1 : Int32)) ⟨by decide, by decide⟩
  obtain ⟨T479, h479, X479, e479, W479, st479⟩ := stR X476 hx hZ rfl Ar477 (j := (1 : Int32)) hin477 rfl (Sto.ofV Ar477 cq477 O438 (Ins.self E1')) (g := (mkF m 73 #[.val (.ref a1), .val (.int (5 : Int32)), .val (.long q3), .second, .val (.long q4), .second, .val (.int (1 : Int32))] [(.ref b465), (.int (1 : Int32)), (.ref b438)])) rfl rfl (hb hby d1_73)
  have V479 : Arv Z h479 b438 k438 (.object "com/example/eskew/eskew/server/split/CounterValues$Tally") (5 : Int32) [(.ref b448), (.ref b465), .null, .null, .null] .null := set477 rfl W479 1 rfl (Nat.le_of_ble_eq_true rfl)
  have N479 := Fr.snoc X479 N476 og_b438
  have K480 := K476c.wr W479 (Or.inr sz_b438)
  have Z479 : n0 ≤ h479.size := Nat.le_trans Z476 (Keep.of_wr W479).1
  refine own_by st479 ?_
  refine own_by (fun _ k => XS.iinc X479.here hx rfl (hb hby d1_74) rfl (l' := #[.val (.ref a1), .val (.int (5 : Int32)), .val (.long q3), .second, .val (.long q4), .second, .val (.int ((1 : Int32) + (1 : Int32)))]) rfl k) ?_
  show own_Go p e below _ T479 (mkF m 77 #[.val (.ref a1), .val (.int (5 : Int32)), .val (.long q3), .second, .val (.long q4), .second, .val (.int ((1 : Int32) + (1 : Int32)))] [])
  rw [show (1 : Int32) + (1 : Int32) = (2 : Int32) from by decide]
  refine own_by (fun _ k => XS.goto X479.here hx rfl (pc0 := 77) (pc' := 52) rfl (hb hby d1_77) (by decide) (by decide) k) ?_
  refine own_by (fun _ k => XS.iload X479.here hx rfl (hb hby d1_52) rfl k) ?_
  show own_Go p e below _ T479 (mkF m 54 #[.val (.ref a1), .val (.int (5 : Int32)), .val (.long q3), .second, .val (.long q4), .second, .val (.int (2 : Int32))] [(.int (2 : Int32))])
  refine own_by (fun _ k => XS.iloadN X479.here hx rfl (hb hby d1_54) rfl k) ?_
  refine own_by (fun _ k => XS.icmpNo X479.here hx rfl (hb hby d1_55) rfl (tlt (by decide : (2 : Int32) < (5 : Int32))).2.1 k) ?_
  refine own_by (fun _ k => XS.aloadN X479.here hx rfl (hb hby d1_58) rfl rfl k) ?_
  show own_Go p e below _ T479 (mkF m 59 #[.val (.ref a1), .val (.int (5 : Int32)), .val (.long q3), .second, .val (.long q4), .second, .val (.int (2 : Int32))] [(.ref a1)])
  have f482 := (((f464.ext E465).keep K1' (ninS ne_a1_b465 nin0)).other W479 (Or.inl ne_a1_b438))
  obtain ⟨T481, X481, e481, st481⟩ := getF X479 hx hZ hown (host := "") (Or.inl (hw _ (List.mem_of_getElem? (i := 30) rfl))) Via.refl e479 f482 (g := (mkF m 59 #[.val (.ref a1), .val (.int (5 : Int32)), .val (.long q3), .second, .val (.long q4), .second, .val (.int (2 : Int32))] [(.ref a1)])) rfl rfl (hb hby d1_59)
  refine own_by st481 ?_
  refine own_by (fun _ k => XS.iload X481.here hx rfl (hb hby d1_62) rfl k) ?_
  obtain ⟨T483, h483, X483, e483, E483, A483, D483, -, st483⟩ := newO X481 hx hZ hown (hw _ (List.mem_of_getElem? (i := 28) rfl)) (hw _ (List.mem_of_getElem? (i := 32) rfl)) (hw _ (List.mem_of_getElem? (i := 33) rfl)) e481 (g := (mkF m 64 #[.val (.ref a1), .val (.int (5 : Int32)), .val (.long q3), .second, .val (.long q4), .second, .val (.int (2 : Int32))] [(.int (2 : Int32)), (.ref b438)])) rfl (hb hby d1_64) (by decide) (by decide)
  obtain ⟨b483, g483⟩ : ∃ zq, zq = h479.size := ⟨_, rfl⟩
  rw [← g483] at A483 D483 st483
  have f484 := ((f471.keep K1' (ninS ne_a1_b465 nin0)).other W479 (Or.inl ne_a1_b438))
  have ne_a1_b483 : a1 ≠ b483 := Nat.ne_of_lt (Nat.lt_of_lt_of_le f484.lt (Nat.le_of_eq g483.symm))
  have f485 := ((f472.keep K1').wr W479)
  have ne_b411_b483 : b411 ≠ b483 := Nat.ne_of_lt (Nat.lt_of_lt_of_le f485.lt (Nat.le_of_eq g483.symm))
  have f486 := ((f473.keep K1').wr W479)
  have ne_b418_b483 : b418 ≠ b483 := Nat.ne_of_lt (Nat.lt_of_lt_of_le f486.lt (Nat.le_of_eq g483.symm))
  have ne_b438_b483 : b438 ≠ b483 := Nat.ne_of_lt (Nat.lt_of_lt_of_le V479.lt (Nat.le_of_eq g483.symm))
  have f487 := ((f475.keep K1').wr W479)
  have ne_b448_b483 : b448 ≠ b483 := Nat.ne_of_lt (Nat.lt_of_lt_of_le f487.lt (Nat.le_of_eq g483.symm))
  have f488 := (E1'.wr W479)
  have ne_b465_b483 : b465 ≠ b483 := Nat.ne_of_lt (Nat.lt_of_lt_of_le f488.lt (Nat.le_of_eq g483.symm))
  have og_b483 : n0 ≤ b483 := Nat.le_trans Z479 (Nat.le_of_eq g483.symm)
  have sz_b483 : h0.size ≤ b483 := Nat.le_trans K480.1 (Nat.le_of_eq g483.symm)
  have Z483 : n0 ≤ h483.size := Nat.le_trans Z479 E483.1
  have K489 := K480.ext E483
  have F_since_b483 : Fld Z h483 b483 "com/example/eskew/eskew/server/split/CounterValues$Tally" "since" "J" (.long (0 : Int64)) := D483 (Or.inl (hw _ (List.mem_of_getElem? (i := 39) rfl))) (ty := .long) (by decide)
  have F_writesSent_b483 : Fld Z h483 b483 "com/example/eskew/eskew/server/split/CounterValues$Tally" "writesSent" "J" (.long (0 : Int64)) := D483 (Or.inl (hw _ (List.mem_of_getElem? (i := 47) rfl))) (ty := .long) (by decide)
  have F_writes_b483 : Fld Z h483 b483 "com/example/eskew/eskew/server/split/CounterValues$Tally" "writes" "I" (.int (0 : Int32)) := D483 (Or.inl (hw _ (List.mem_of_getElem? (i := 49) rfl))) (ty := .int) (by decide)
  have F_aloneSent_b483 : Fld Z h483 b483 "com/example/eskew/eskew/server/split/CounterValues$Tally" "aloneSent" "J" (.long (0 : Int64)) := D483 (Or.inl (hw _ (List.mem_of_getElem? (i := 51) rfl))) (ty := .long) (by decide)
  have F_value_b483 : Fld Z h483 b483 "com/example/eskew/eskew/server/split/CounterValues$Tally" "value" "J" (.long (0 : Int64)) := D483 (Or.inl (hw _ (List.mem_of_getElem? (i := 69) rfl))) (ty := .long) (by decide)
  have F_known_b483 : Fld Z h483 b483 "com/example/eskew/eskew/server/split/CounterValues$Tally" "known" "Z" (.int (0 : Int32)) := D483 (Or.inl (hw _ (List.mem_of_getElem? (i := 71) rfl))) (ty := .boolean) (by decide)
  have F_settled_b483 : Fld Z h483 b483 "com/example/eskew/eskew/server/split/CounterValues$Tally" "settled" "Z" (.int (0 : Int32)) := D483 (Or.inl (hw _ (List.mem_of_getElem? (i := 73) rfl))) (ty := .boolean) (by decide)
  have F_placing_b483 : Fld Z h483 b483 "com/example/eskew/eskew/server/split/CounterValues$Tally" "placing" "Lcom/example/eskew/eskew/server/split/CounterValues$Placing;" .null := D483 (Or.inl (hw _ (List.mem_of_getElem? (i := 76) rfl))) (ty := (.object "com/example/eskew/eskew/server/split/CounterValues$Placing")) (by decide)
  have F_reads_b483 : Fld Z h483 b483 "com/example/eskew/eskew/server/split/CounterValues$Tally" "reads" "I" (.int (0 : Int32)) := D483 (Or.inl (hw _ (List.mem_of_getElem? (i := 84) rfl))) (ty := .int) (by decide)
  refine own_by st483 ?_
  show own_Go p e below _ T483 (mkF m 67 #[.val (.ref a1), .val (.int (5 : Int32)), .val (.long q3), .second, .val (.long q4), .second, .val (.int (2 : Int32))] [(.ref b483), (.int (2 : Int32)), (.ref b438)])
  refine own_by (fun _ k => XS.dup X483.here hx rfl (hb hby d1_67) rfl rfl k) ?_
  refine own_by (fun _ k => XS.lload X483.here hx rfl (hb hby d1_68) rfl k) ?_
  have f490 := (f484.ext E483)
  have f491 := (f485.ext E483)
  have f492 := (f486.ext E483)
  have f493 := (V479.ext E483)
  have f494 := (f487.ext E483)
  have f495 := (f488.ext E483)
  obtain ⟨_, T496, L496, X496, ⟨rfl, N496q, K2', H2'⟩, st496⟩ := own_callR X483 hx hZ hown (y := (⟨"com/example/eskew/eskew/server/split/CounterValues$Tally", "<init>", "(J)V"⟩ : MethodName)) rfl (hw _ (List.mem_of_getElem? (i := 34) rfl)) (hw _ (List.mem_of_getElem? (i := 35) rfl)) (hw _ (List.mem_of_getElem? (i := 33) rfl)) (hw _ (List.mem_of_getElem? (i := 36) rfl)) (by decide) (a := b483) (argsL := [(.long q4)]) (rest := [(.ref b483), (.int (2 : Int32)), (.ref b438)]) e483 (rm4 l Z a0 hw [] b483 q4 h483 n0 Z483 og_b483 ⟨A483, F_since_b483, F_writesSent_b483, F_writes_b483, F_aloneSent_b483, F_value_b483, F_known_b483, F_settled_b483, F_placing_b483, F_reads_b483⟩) (g := (mkF m 70 #[.val (.ref a1), .val (.int (5 : Int32)), .val (.long q3), .second, .val (.long q4), .second, .val (.int (2 : Int32))] [(.long q4), (.ref b483), (.ref b483), (.int (2 : Int32)), (.ref b438)])) rfl (by rw [hml]; rfl) (lenOf pd_1 rfl) rfl (W := 3) (by show 2 * 0 + _ ≤ _; exact Nat.le_of_eq rfl) (hb hby d1_70) (by decide) (by decide) (by decide) (by decide)
  have N496 := Fr.app N479 N496q
  refine own_by st496 ?_
  show own_Go p e below _ T496 (mkF m 73 #[.val (.ref a1), .val (.int (5 : Int32)), .val (.long q3), .second, .val (.long q4), .second, .val (.int (2 : Int32))] [(.ref b483), (.int (2 : Int32)), (.ref b438)])
  have Z496 : n0 ≤ T496.heap.size := Nat.le_trans Z483 K2'.1
  have K496c := K489.trans K2' (allS (Or.inr sz_b483) all0)
  have E2' := H2'.1
  have f498 := (f493.keep K2' (ninS ne_b438_b483 nin0))
  obtain ⟨cl497, Ar497, cq497, hin497, hat497, set497⟩ := own_arv f498 (j := (2 : Int32)) ⟨by decide, by decide⟩
  obtain ⟨T499, h499, X499, e499, W499, st499⟩ := stR X496 hx hZ rfl Ar497 (j := (2 : Int32)) hin497 rfl (Sto.ofV Ar497 cq497 O438 (Ins.self E2')) (g := (mkF m 73 #[.val (.ref a1), .val (.int (5 : Int32)), .val (.long q3), .second, .val (.long q4), .second, .val (.int (2 : Int32))] [(.ref b483), (.int (2 : Int32)), (.ref b438)])) rfl rfl (hb hby d1_73)
  have V499 : Arv Z h499 b438 k438 (.object "com/example/eskew/eskew/server/split/CounterValues$Tally") (5 : Int32) [(.ref b448), (.ref b465), (.ref b483), .null, .null] .null := set497 rfl W499 2 rfl (Nat.le_of_ble_eq_true rfl)
  have N499 := Fr.snoc X499 N496 og_b438
  have K500 := K496c.wr W499 (Or.inr sz_b438)
  have Z499 : n0 ≤ h499.size := Nat.le_trans Z496 (Keep.of_wr W499).1
  refine own_by st499 ?_
  refine own_by (fun _ k => XS.iinc X499.here hx rfl (hb hby d1_74) rfl (l' := #[.val (.ref a1), .val (.int (5 : Int32)), .val (.long q3), .second, .val (.long q4), .second, .val (.int ((2 : Int32) + (1 : Int32)))]) rfl k) ?_
  show own_Go p e below _ T499 (mkF m 77 #[.val (.ref a1), .val (.int (5 : Int32)), .val (.long q3), .second, .val (.long q4), .second, .val (.int ((2 : Int32) + (1 : Int32)))] [])
  rw [show (2 : Int32) + (1 : Int32) = (3 : Int32) from by decide]
  refine own_by (fun _ k => XS.goto X499.here hx rfl (pc0 := 77) (pc' := 52) rfl (hb hby d1_77) (by decide) (by decide) k) ?_
  refine own_by (fun _ k => XS.iload X499.here hx rfl (hb hby d1_52) rfl k) ?_
  show own_Go p e below _ T499 (mkF m 54 #[.val (.ref a1), .val (.int (5 : Int32)), .val (.long q3), .second, .val (.long q4), .second, .val (.int (3 : Int32))] [(.int (3 : Int32))])
  refine own_by (fun _ k => XS.iloadN X499.here hx rfl (hb hby d1_54) rfl k) ?_
  refine own_by (fun _ k => XS.icmpNo X499.here hx rfl (hb hby d1_55) rfl (tlt (by decide : (3 : Int32) < (5 : Int32))).2.1 k) ?_
  refine own_by (fun _ k => XS.aloadN X499.here hx rfl (hb hby d1_58) rfl rfl k) ?_
  show own_Go p e below _ T499 (mkF m 59 #[.val (.ref a1), .val (.int (5 : Int32)), .val (.long q3), .second, .val (.long q4), .second, .val (.int (3 : Int32))] [(.ref a1)])
  have f502 := (((f482.ext E483).keep K2' (ninS ne_a1_b483 nin0)).other W499 (Or.inl ne_a1_b438))
  obtain ⟨T501, X501, e501, st501⟩ := getF X499 hx hZ hown (host := "") (Or.inl (hw _ (List.mem_of_getElem? (i := 30) rfl))) Via.refl e499 f502 (g := (mkF m 59 #[.val (.ref a1), .val (.int (5 : Int32)), .val (.long q3), .second, .val (.long q4), .second, .val (.int (3 : Int32))] [(.ref a1)])) rfl rfl (hb hby d1_59)
  refine own_by st501 ?_
  refine own_by (fun _ k => XS.iload X501.here hx rfl (hb hby d1_62) rfl k) ?_
  obtain ⟨T503, h503, X503, e503, E503, A503, D503, -, st503⟩ := newO X501 hx hZ hown (hw _ (List.mem_of_getElem? (i := 28) rfl)) (hw _ (List.mem_of_getElem? (i := 32) rfl)) (hw _ (List.mem_of_getElem? (i := 33) rfl)) e501 (g := (mkF m 64 #[.val (.ref a1), .val (.int (5 : Int32)), .val (.long q3), .second, .val (.long q4), .second, .val (.int (3 : Int32))] [(.int (3 : Int32)), (.ref b438)])) rfl (hb hby d1_64) (by decide) (by decide)
  obtain ⟨b503, g503⟩ : ∃ zq, zq = h499.size := ⟨_, rfl⟩
  rw [← g503] at A503 D503 st503
  have f504 := ((f490.keep K2' (ninS ne_a1_b483 nin0)).other W499 (Or.inl ne_a1_b438))
  have ne_a1_b503 : a1 ≠ b503 := Nat.ne_of_lt (Nat.lt_of_lt_of_le f504.lt (Nat.le_of_eq g503.symm))
  have f505 := ((f491.keep K2').wr W499)
  have ne_b411_b503 : b411 ≠ b503 := Nat.ne_of_lt (Nat.lt_of_lt_of_le f505.lt (Nat.le_of_eq g503.symm))
  have f506 := ((f492.keep K2').wr W499)
  have ne_b418_b503 : b418 ≠ b503 := Nat.ne_of_lt (Nat.lt_of_lt_of_le f506.lt (Nat.le_of_eq g503.symm))
  have ne_b438_b503 : b438 ≠ b503 := Nat.ne_of_lt (Nat.lt_of_lt_of_le V499.lt (Nat.le_of_eq g503.symm))
  have f507 := ((f494.keep K2').wr W499)
  have ne_b448_b503 : b448 ≠ b503 := Nat.ne_of_lt (Nat.lt_of_lt_of_le f507.lt (Nat.le_of_eq g503.symm))
  have f508 := ((f495.keep K2').wr W499)
  have ne_b465_b503 : b465 ≠ b503 := Nat.ne_of_lt (Nat.lt_of_lt_of_le f508.lt (Nat.le_of_eq g503.symm))
  have f509 := (E2'.wr W499)
  have ne_b483_b503 : b483 ≠ b503 := Nat.ne_of_lt (Nat.lt_of_lt_of_le f509.lt (Nat.le_of_eq g503.symm))
  have og_b503 : n0 ≤ b503 := Nat.le_trans Z499 (Nat.le_of_eq g503.symm)
  have sz_b503 : h0.size ≤ b503 := Nat.le_trans K500.1 (Nat.le_of_eq g503.symm)
  have Z503 : n0 ≤ h503.size := Nat.le_trans Z499 E503.1
  have K510 := K500.ext E503
  have F_since_b503 : Fld Z h503 b503 "com/example/eskew/eskew/server/split/CounterValues$Tally" "since" "J" (.long (0 : Int64)) := D503 (Or.inl (hw _ (List.mem_of_getElem? (i := 39) rfl))) (ty := .long) (by decide)
  have F_writesSent_b503 : Fld Z h503 b503 "com/example/eskew/eskew/server/split/CounterValues$Tally" "writesSent" "J" (.long (0 : Int64)) := D503 (Or.inl (hw _ (List.mem_of_getElem? (i := 47) rfl))) (ty := .long) (by decide)
  have F_writes_b503 : Fld Z h503 b503 "com/example/eskew/eskew/server/split/CounterValues$Tally" "writes" "I" (.int (0 : Int32)) := D503 (Or.inl (hw _ (List.mem_of_getElem? (i := 49) rfl))) (ty := .int) (by decide)
  have F_aloneSent_b503 : Fld Z h503 b503 "com/example/eskew/eskew/server/split/CounterValues$Tally" "aloneSent" "J" (.long (0 : Int64)) := D503 (Or.inl (hw _ (List.mem_of_getElem? (i := 51) rfl))) (ty := .long) (by decide)
  have F_value_b503 : Fld Z h503 b503 "com/example/eskew/eskew/server/split/CounterValues$Tally" "value" "J" (.long (0 : Int64)) := D503 (Or.inl (hw _ (List.mem_of_getElem? (i := 69) rfl))) (ty := .long) (by decide)
  have F_known_b503 : Fld Z h503 b503 "com/example/eskew/eskew/server/split/CounterValues$Tally" "known" "Z" (.int (0 : Int32)) := D503 (Or.inl (hw _ (List.mem_of_getElem? (i := 71) rfl))) (ty := .boolean) (by decide)
  have F_settled_b503 : Fld Z h503 b503 "com/example/eskew/eskew/server/split/CounterValues$Tally" "settled" "Z" (.int (0 : Int32)) := D503 (Or.inl (hw _ (List.mem_of_getElem? (i := 73) rfl))) (ty := .boolean) (by decide)
  have F_placing_b503 : Fld Z h503 b503 "com/example/eskew/eskew/server/split/CounterValues$Tally" "placing" "Lcom/example/eskew/eskew/server/split/CounterValues$Placing;" .null := D503 (Or.inl (hw _ (List.mem_of_getElem? (i := 76) rfl))) (ty := (.object "com/example/eskew/eskew/server/split/CounterValues$Placing")) (by decide)
  have F_reads_b503 : Fld Z h503 b503 "com/example/eskew/eskew/server/split/CounterValues$Tally" "reads" "I" (.int (0 : Int32)) := D503 (Or.inl (hw _ (List.mem_of_getElem? (i := 84) rfl))) (ty := .int) (by decide)
  refine own_by st503 ?_
  show own_Go p e below _ T503 (mkF m 67 #[.val (.ref a1), .val (.int (5 : Int32)), .val (.long q3), .second, .val (.long q4), .second, .val (.int (3 : Int32))] [(.ref b503), (.int (3 : Int32)), (.ref b438)])
  refine own_by (fun _ k => XS.dup X503.here hx rfl (hb hby d1_67) rfl rfl k) ?_
  refine own_by (fun _ k => XS.lload X503.here hx rfl (hb hby d1_68) rfl k) ?_
  have f511 := (f504.ext E503)
  have f512 := (f505.ext E503)
  have f513 := (f506.ext E503)
  have f514 := (V499.ext E503)
  have f515 := (f507.ext E503)
  have f516 := (f508.ext E503)
  have f517 := (f509.ext E503)
  obtain ⟨_, T518, L518, X518, ⟨rfl, N518q, K3', H3'⟩, st518⟩ := own_callR X503 hx hZ hown (y := (⟨"com/example/eskew/eskew/server/split/CounterValues$Tally", "<init>", "(J)V"⟩ : MethodName)) rfl (hw _ (List.mem_of_getElem? (i := 34) rfl)) (hw _ (List.mem_of_getElem? (i := 35) rfl)) (hw _ (List.mem_of_getElem? (i := 33) rfl)) (hw _ (List.mem_of_getElem? (i := 36) rfl)) (by decide) (a := b503) (argsL := [(.long q4)]) (rest := [(.ref b503), (.int (3 : Int32)), (.ref b438)]) e503 (rm4 l Z a0 hw [] b503 q4 h503 n0 Z503 og_b503 ⟨A503, F_since_b503, F_writesSent_b503, F_writes_b503, F_aloneSent_b503, F_value_b503, F_known_b503, F_settled_b503, F_placing_b503, F_reads_b503⟩) (g := (mkF m 70 #[.val (.ref a1), .val (.int (5 : Int32)), .val (.long q3), .second, .val (.long q4), .second, .val (.int (3 : Int32))] [(.long q4), (.ref b503), (.ref b503), (.int (3 : Int32)), (.ref b438)])) rfl (by rw [hml]; rfl) (lenOf pd_1 rfl) rfl (W := 3) (by show 2 * 0 + _ ≤ _; exact Nat.le_of_eq rfl) (hb hby d1_70) (by decide) (by decide) (by decide) (by decide)
  have N518 := Fr.app N499 N518q
  refine own_by st518 ?_
  show own_Go p e below _ T518 (mkF m 73 #[.val (.ref a1), .val (.int (5 : Int32)), .val (.long q3), .second, .val (.long q4), .second, .val (.int (3 : Int32))] [(.ref b503), (.int (3 : Int32)), (.ref b438)])
  have Z518 : n0 ≤ T518.heap.size := Nat.le_trans Z503 K3'.1
  have K518c := K510.trans K3' (allS (Or.inr sz_b503) all0)
  have E3' := H3'.1
  have f520 := (f514.keep K3' (ninS ne_b438_b503 nin0))
  obtain ⟨cl519, Ar519, cq519, hin519, hat519, set519⟩ := own_arv f520 (j := (3 : Int32)) ⟨by decide, by decide⟩
  obtain ⟨T521, h521, X521, e521, W521, st521⟩ := stR X518 hx hZ rfl Ar519 (j := (3 : Int32)) hin519 rfl (Sto.ofV Ar519 cq519 O438 (Ins.self E3')) (g := (mkF m 73 #[.val (.ref a1), .val (.int (5 : Int32)), .val (.long q3), .second, .val (.long q4), .second, .val (.int (3 : Int32))] [(.ref b503), (.int (3 : Int32)), (.ref b438)])) rfl rfl (hb hby d1_73)
  have V521 : Arv Z h521 b438 k438 (.object "com/example/eskew/eskew/server/split/CounterValues$Tally") (5 : Int32) [(.ref b448), (.ref b465), (.ref b483), (.ref b503), .null] .null := set519 rfl W521 3 rfl (Nat.le_of_ble_eq_true rfl)
  have N521 := Fr.snoc X521 N518 og_b438
  have K522 := K518c.wr W521 (Or.inr sz_b438)
  have Z521 : n0 ≤ h521.size := Nat.le_trans Z518 (Keep.of_wr W521).1
  refine own_by st521 ?_
  refine own_by (fun _ k => XS.iinc X521.here hx rfl (hb hby d1_74) rfl (l' := #[.val (.ref a1), .val (.int (5 : Int32)), .val (.long q3), .second, .val (.long q4), .second, .val (.int ((3 : Int32) + (1 : Int32)))]) rfl k) ?_
  show own_Go p e below _ T521 (mkF m 77 #[.val (.ref a1), .val (.int (5 : Int32)), .val (.long q3), .second, .val (.long q4), .second, .val (.int ((3 : Int32) + (1 : Int32)))] [])
  rw [show (3 : Int32) + (1 : Int32) = (4 : Int32) from by decide]
  refine own_by (fun _ k => XS.goto X521.here hx rfl (pc0 := 77) (pc' := 52) rfl (hb hby d1_77) (by decide) (by decide) k) ?_
  refine own_by (fun _ k => XS.iload X521.here hx rfl (hb hby d1_52) rfl k) ?_
  show own_Go p e below _ T521 (mkF m 54 #[.val (.ref a1), .val (.int (5 : Int32)), .val (.long q3), .second, .val (.long q4), .second, .val (.int (4 : Int32))] [(.int (4 : Int32))])
  refine own_by (fun _ k => XS.iloadN X521.here hx rfl (hb hby d1_54) rfl k) ?_
  refine own_by (fun _ k => XS.icmpNo X521.here hx rfl (hb hby d1_55) rfl (tlt (by decide : (4 : Int32) < (5 : Int32))).2.1 k) ?_
  refine own_by (fun _ k => XS.aloadN X521.here hx rfl (hb hby d1_58) rfl rfl k) ?_
  show own_Go p e below _ T521 (mkF m 59 #[.val (.ref a1), .val (.int (5 : Int32)), .val (.long q3), .second, .val (.long q4), .second, .val (.int (4 : Int32))] [(.ref a1)])
  have f524 := (((f502.ext E503).keep K3' (ninS ne_a1_b503 nin0)).other W521 (Or.inl ne_a1_b438))
  obtain ⟨T523, X523, e523, st523⟩ := getF X521 hx hZ hown (host := "") (Or.inl (hw _ (List.mem_of_getElem? (i := 30) rfl))) Via.refl e521 f524 (g := (mkF m 59 #[.val (.ref a1), .val (.int (5 : Int32)), .val (.long q3), .second, .val (.long q4), .second, .val (.int (4 : Int32))] [(.ref a1)])) rfl rfl (hb hby d1_59)
  refine own_by st523 ?_
  refine own_by (fun _ k => XS.iload X523.here hx rfl (hb hby d1_62) rfl k) ?_
  obtain ⟨T525, h525, X525, e525, E525, A525, D525, -, st525⟩ := newO X523 hx hZ hown (hw _ (List.mem_of_getElem? (i := 28) rfl)) (hw _ (List.mem_of_getElem? (i := 32) rfl)) (hw _ (List.mem_of_getElem? (i := 33) rfl)) e523 (g := (mkF m 64 #[.val (.ref a1), .val (.int (5 : Int32)), .val (.long q3), .second, .val (.long q4), .second, .val (.int (4 : Int32))] [(.int (4 : Int32)), (.ref b438)])) rfl (hb hby d1_64) (by decide) (by decide)
  obtain ⟨b525, g525⟩ : ∃ zq, zq = h521.size := ⟨_, rfl⟩
  rw [← g525] at A525 D525 st525
  have f526 := ((f511.keep K3' (ninS ne_a1_b503 nin0)).other W521 (Or.inl ne_a1_b438))
  have ne_a1_b525 : a1 ≠ b525 := Nat.ne_of_lt (Nat.lt_of_lt_of_le f526.lt (Nat.le_of_eq g525.symm))
  have f527 := ((f512.keep K3').wr W521)
  have ne_b411_b525 : b411 ≠ b525 := Nat.ne_of_lt (Nat.lt_of_lt_of_le f527.lt (Nat.le_of_eq g525.symm))
  have f528 := ((f513.keep K3').wr W521)
  have ne_b418_b525 : b418 ≠ b525 := Nat.ne_of_lt (Nat.lt_of_lt_of_le f528.lt (Nat.le_of_eq g525.symm))
  have ne_b438_b525 : b438 ≠ b525 := Nat.ne_of_lt (Nat.lt_of_lt_of_le V521.lt (Nat.le_of_eq g525.symm))
  have f529 := ((f515.keep K3').wr W521)
  have ne_b448_b525 : b448 ≠ b525 := Nat.ne_of_lt (Nat.lt_of_lt_of_le f529.lt (Nat.le_of_eq g525.symm))
  have f530 := ((f516.keep K3').wr W521)
  have ne_b465_b525 : b465 ≠ b525 := Nat.ne_of_lt (Nat.lt_of_lt_of_le f530.lt (Nat.le_of_eq g525.symm))
  have f531 := ((f517.keep K3').wr W521)
  have ne_b483_b525 : b483 ≠ b525 := Nat.ne_of_lt (Nat.lt_of_lt_of_le f531.lt (Nat.le_of_eq g525.symm))
  have f532 := (E3'.wr W521)
  have ne_b503_b525 : b503 ≠ b525 := Nat.ne_of_lt (Nat.lt_of_lt_of_le f532.lt (Nat.le_of_eq g525.symm))
  have og_b525 : n0 ≤ b525 := Nat.le_trans Z521 (Nat.le_of_eq g525.symm)
  have sz_b525 : h0.size ≤ b525 := Nat.le_trans K522.1 (Nat.le_of_eq g525.symm)
  have Z525 : n0 ≤ h525.size := Nat.le_trans Z521 E525.1
  have K533 := K522.ext E525
  have F_since_b525 : Fld Z h525 b525 "com/example/eskew/eskew/server/split/CounterValues$Tally" "since" "J" (.long (0 : Int64)) := D525 (Or.inl (hw _ (List.mem_of_getElem? (i := 39) rfl))) (ty := .long) (by decide)
  have F_writesSent_b525 : Fld Z h525 b525 "com/example/eskew/eskew/server/split/CounterValues$Tally" "writesSent" "J" (.long (0 : Int64)) := D525 (Or.inl (hw _ (List.mem_of_getElem? (i := 47) rfl))) (ty := .long) (by decide)
  have F_writes_b525 : Fld Z h525 b525 "com/example/eskew/eskew/server/split/CounterValues$Tally" "writes" "I" (.int (0 : Int32)) := D525 (Or.inl (hw _ (List.mem_of_getElem? (i := 49) rfl))) (ty := .int) (by decide)
  have F_aloneSent_b525 : Fld Z h525 b525 "com/example/eskew/eskew/server/split/CounterValues$Tally" "aloneSent" "J" (.long (0 : Int64)) := D525 (Or.inl (hw _ (List.mem_of_getElem? (i := 51) rfl))) (ty := .long) (by decide)
  have F_value_b525 : Fld Z h525 b525 "com/example/eskew/eskew/server/split/CounterValues$Tally" "value" "J" (.long (0 : Int64)) := D525 (Or.inl (hw _ (List.mem_of_getElem? (i := 69) rfl))) (ty := .long) (by decide)
  have F_known_b525 : Fld Z h525 b525 "com/example/eskew/eskew/server/split/CounterValues$Tally" "known" "Z" (.int (0 : Int32)) := D525 (Or.inl (hw _ (List.mem_of_getElem? (i := 71) rfl))) (ty := .boolean) (by decide)
  have F_settled_b525 : Fld Z h525 b525 "com/example/eskew/eskew/server/split/CounterValues$Tally" "settled" "Z" (.int (0 : Int32)) := D525 (Or.inl (hw _ (List.mem_of_getElem? (i := 73) rfl))) (ty := .boolean) (by decide)
  have F_placing_b525 : Fld Z h525 b525 "com/example/eskew/eskew/server/split/CounterValues$Tally" "placing" "Lcom/example/eskew/eskew/server/split/CounterValues$Placing;" .null := D525 (Or.inl (hw _ (List.mem_of_getElem? (i := 76) rfl))) (ty := (.object "com/example/eskew/eskew/server/split/CounterValues$Placing")) (by decide)
  have F_reads_b525 : Fld Z h525 b525 "com/example/eskew/eskew/server/split/CounterValues$Tally" "reads" "I" (.int (0 : Int32)) := D525 (Or.inl (hw _ (List.mem_of_getElem? (i := 84) rfl))) (ty := .int) (by decide)
  refine own_by st525 ?_
  show own_Go p e below _ T525 (mkF m 67 #[.val (.ref a1), .val (.int (5 : Int32)), .val (.long q3), .second, .val (.long q4), .second, .val (.int (4 : Int32))] [(.ref b525), (.int (4 : Int32)), (.ref b438)])
  refine own_by (fun _ k => XS.dup X525.here hx rfl (hb hby d1_67) rfl rfl k) ?_
  refine own_by (fun _ k => XS.lload X525.here hx rfl (hb hby d1_68) rfl k) ?_
  have f534 := (f526.ext E525)
  have f535 := (f527.ext E525)
  have f536 := (f528.ext E525)
  have f537 := (V521.ext E525)
  have f538 := (f529.ext E525)
  have f539 := (f530.ext E525)
  have f540 := (f531.ext E525)
  have f541 := (f532.ext E525)
  obtain ⟨_, T542, L542, X542, ⟨rfl, N542q, K4', H4'⟩, st542⟩ := own_callR X525 hx hZ hown (y := (⟨"com/example/eskew/eskew/server/split/CounterValues$Tally", "<init>", "(J)V"⟩ : MethodName)) rfl (hw _ (List.mem_of_getElem? (i := 34) rfl)) (hw _ (List.mem_of_getElem? (i := 35) rfl)) (hw _ (List.mem_of_getElem? (i := 33) rfl)) (hw _ (List.mem_of_getElem? (i := 36) rfl)) (by decide) (a := b525) (argsL := [(.long q4)]) (rest := [(.ref b525), (.int (4 : Int32)), (.ref b438)]) e525 (rm4 l Z a0 hw [] b525 q4 h525 n0 Z525 og_b525 ⟨A525, F_since_b525, F_writesSent_b525, F_writes_b525, F_aloneSent_b525, F_value_b525, F_known_b525, F_settled_b525, F_placing_b525, F_reads_b525⟩) (g := (mkF m 70 #[.val (.ref a1), .val (.int (5 : Int32)), .val (.long q3), .second, .val (.long q4), .second, .val (.int (4 : Int32))] [(.long q4), (.ref b525), (.ref b525), (.int (4 : Int32)), (.ref b438)])) rfl (by rw [hml]; rfl) (lenOf pd_1 rfl) rfl (W := 3) (by show 2 * 0 + _ ≤ _; exact Nat.le_of_eq rfl) (hb hby d1_70) (by decide) (by decide) (by decide) (by decide)
  have N542 := Fr.app N521 N542q
  refine own_by st542 ?_
  show own_Go p e below _ T542 (mkF m 73 #[.val (.ref a1), .val (.int (5 : Int32)), .val (.long q3), .second, .val (.long q4), .second, .val (.int (4 : Int32))] [(.ref b525), (.int (4 : Int32)), (.ref b438)])
  have Z542 : n0 ≤ T542.heap.size := Nat.le_trans Z525 K4'.1
  have K542c := K533.trans K4' (allS (Or.inr sz_b525) all0)
  have E4' := H4'.1
  have f544 := (f537.keep K4' (ninS ne_b438_b525 nin0))
  obtain ⟨cl543, Ar543, cq543, hin543, hat543, set543⟩ := own_arv f544 (j := (4 : Int32)) ⟨by decide, by decide⟩
  obtain ⟨T545, h545, X545, e545, W545, st545⟩ := stR X542 hx hZ rfl Ar543 (j := (4 : Int32)) hin543 rfl (Sto.ofV Ar543 cq543 O438 (Ins.self E4')) (g := (mkF m 73 #[.val (.ref a1), .val (.int (5 : Int32)), .val (.long q3), .second, .val (.long q4), .second, .val (.int (4 : Int32))] [(.ref b525), (.int (4 : Int32)), (.ref b438)])) rfl rfl (hb hby d1_73)
  have V545 : Arv Z h545 b438 k438 (.object "com/example/eskew/eskew/server/split/CounterValues$Tally") (5 : Int32) [(.ref b448), (.ref b465), (.ref b483), (.ref b503), (.ref b525)] .null := set543 rfl W545 4 rfl (Nat.le_of_ble_eq_true rfl)
  have N545 := Fr.snoc X545 N542 og_b438
  have K546 := K542c.wr W545 (Or.inr sz_b438)
  have Z545 : n0 ≤ h545.size := Nat.le_trans Z542 (Keep.of_wr W545).1
  refine own_by st545 ?_
  refine own_by (fun _ k => XS.iinc X545.here hx rfl (hb hby d1_74) rfl (l' := #[.val (.ref a1), .val (.int (5 : Int32)), .val (.long q3), .second, .val (.long q4), .second, .val (.int ((4 : Int32) + (1 : Int32)))]) rfl k) ?_
  show own_Go p e below _ T545 (mkF m 77 #[.val (.ref a1), .val (.int (5 : Int32)), .val (.long q3), .second, .val (.long q4), .second, .val (.int ((4 : Int32) + (1 : Int32)))] [])
  rw [show (4 : Int32) + (1 : Int32) = (5 : Int32) from by decide]
  refine own_by (fun _ k => XS.goto X545.here hx rfl (pc0 := 77) (pc' := 52) rfl (hb hby d1_77) (by decide) (by decide) k) ?_
  refine own_by (fun _ k => XS.iload X545.here hx rfl (hb hby d1_52) rfl k) ?_
  show own_Go p e below _ T545 (mkF m 54 #[.val (.ref a1), .val (.int (5 : Int32)), .val (.long q3), .second, .val (.long q4), .second, .val (.int (5 : Int32))] [(.int (5 : Int32))])
  refine own_by (fun _ k => XS.iloadN X545.here hx rfl (hb hby d1_54) rfl k) ?_
  refine own_by (fun _ k => XS.icmpYes X545.here hx rfl (pc0 := 55) (pc' := 80) rfl (hb hby d1_55) rfl (flt (by decide : ¬ ((5 : Int32) < (5 : Int32)))).2.1 (by decide) (by decide) k) ?_
  have f547 := (own_TalW (own_TalK (own_TalE (own_TalW (own_TalK (own_TalE (own_TalW (own_TalK (own_TalE (own_TalW (own_TalK (own_TalE (own_TalW H0' W461 (Ne.symm ne_b438_b448)) E465) K1' (ninS ne_b448_b465 nin0)) W479 (Ne.symm ne_b438_b448)) E483) K2' (ninS ne_b448_b483 nin0)) W499 (Ne.symm ne_b438_b448)) E503) K3' (ninS ne_b448_b503 nin0)) W521 (Ne.symm ne_b438_b448)) E525) K4' (ninS ne_b448_b525 nin0)) W545 (Ne.symm ne_b438_b448))
  have f548 := (own_TalW (own_TalK (own_TalE (own_TalW (own_TalK (own_TalE (own_TalW (own_TalK (own_TalE (own_TalW H1' W479 (Ne.symm ne_b438_b465)) E483) K2' (ninS ne_b465_b483 nin0)) W499 (Ne.symm ne_b438_b465)) E503) K3' (ninS ne_b465_b503 nin0)) W521 (Ne.symm ne_b438_b465)) E525) K4' (ninS ne_b465_b525 nin0)) W545 (Ne.symm ne_b438_b465))
  have f549 := (own_TalW (own_TalK (own_TalE (own_TalW (own_TalK (own_TalE (own_TalW H2' W499 (Ne.symm ne_b438_b483)) E503) K3' (ninS ne_b483_b503 nin0)) W521 (Ne.symm ne_b438_b483)) E525) K4' (ninS ne_b483_b525 nin0)) W545 (Ne.symm ne_b438_b483))
  have f550 := (own_TalW (own_TalK (own_TalE (own_TalW H3' W521 (Ne.symm ne_b438_b503)) E525) K4' (ninS ne_b503_b525 nin0)) W545 (Ne.symm ne_b438_b503))
  have f551 := (own_TalW H4' W545 (Ne.symm ne_b438_b525))
  have hall : own_All Z h545 h0.size b438 [(.ref b448), (.ref b465), (.ref b483), (.ref b503), (.ref b525)] (5 : Int32) q4 := by
    intro j h1 h2
    rcases own_rng_5 j h1 h2 with rfl | rfl | rfl | rfl | rfl
    · exact ⟨b448, rfl, sz_b448, ne_b438_b448, f547⟩
    · exact ⟨b465, rfl, sz_b465, ne_b438_b465, f548⟩
    · exact ⟨b483, rfl, sz_b483, ne_b438_b483, f549⟩
    · exact ⟨b503, rfl, sz_b503, ne_b438_b503, f550⟩
    · exact ⟨b525, rfl, sz_b525, ne_b438_b525, f551⟩
  have hinj : own_Inj [(.ref b448), (.ref b465), (.ref b483), (.ref b503), (.ref b525)] (5 : Int32) := by
    intro i j h1 h2 h3 h4 hij
    rcases own_rng_5 i h1 h2 with rfl | rfl | rfl | rfl | rfl <;> rcases own_rng_5 j h3 h4 with rfl | rfl | rfl | rfl | rfl
    · exact absurd rfl hij
    · exact fun q => ne_b448_b465 (Value.ref.inj q)
    · exact fun q => ne_b448_b483 (Value.ref.inj q)
    · exact fun q => ne_b448_b503 (Value.ref.inj q)
    · exact fun q => ne_b448_b525 (Value.ref.inj q)
    · exact fun q => (Ne.symm ne_b448_b465) (Value.ref.inj q)
    · exact absurd rfl hij
    · exact fun q => ne_b465_b483 (Value.ref.inj q)
    · exact fun q => ne_b465_b503 (Value.ref.inj q)
    · exact fun q => ne_b465_b525 (Value.ref.inj q)
    · exact fun q => (Ne.symm ne_b448_b483) (Value.ref.inj q)
    · exact fun q => (Ne.symm ne_b465_b483) (Value.ref.inj q)
    · exact absurd rfl hij
    · exact fun q => ne_b483_b503 (Value.ref.inj q)
    · exact fun q => ne_b483_b525 (Value.ref.inj q)
    · exact fun q => (Ne.symm ne_b448_b503) (Value.ref.inj q)
    · exact fun q => (Ne.symm ne_b465_b503) (Value.ref.inj q)
    · exact fun q => (Ne.symm ne_b483_b503) (Value.ref.inj q)
    · exact absurd rfl hij
    · exact fun q => ne_b503_b525 (Value.ref.inj q)
    · exact fun q => (Ne.symm ne_b448_b525) (Value.ref.inj q)
    · exact fun q => (Ne.symm ne_b465_b525) (Value.ref.inj q)
    · exact fun q => (Ne.symm ne_b483_b525) (Value.ref.inj q)
    · exact fun q => (Ne.symm ne_b503_b525) (Value.ref.inj q)
    · exact absurd rfl hij
  have f552 := ((((((((((((((((f445.wr W443).ext E448).keep K0').wr W461).ext E465).keep K1').wr W479).ext E483).keep K2').wr W499).ext E503).keep K3').wr W521).ext E525).keep K4').wr W545)
  have f553 := (((((((((((((((((((fw426.other W430 (Or.inr (slot_ne (Or.inl (hw _ (List.mem_of_getElem? (i := 23) rfl))) (Or.inl (hw _ (List.mem_of_getElem? (i := 25) rfl))) (by decide) (t := .int) (t' := .int) (by decide) (by decide)))).other W434 (Or.inr (slot_ne (Or.inl (hw _ (List.mem_of_getElem? (i := 23) rfl))) (Or.inr (hw _ (List.mem_of_getElem? (i := 27) rfl))) (by decide) (t := .int) (t' := .long) (by decide) (by decide)))).ext E438).other W443 (Or.inr (slot_ne (Or.inl (hw _ (List.mem_of_getElem? (i := 23) rfl))) (Or.inr (hw _ (List.mem_of_getElem? (i := 31) rfl))) (by decide) (t := .int) (t' := (.array (.object "com/example/eskew/eskew/server/split/CounterValues$Tally"))) (by decide) (by decide)))).ext E448).keep K0' (ninS ne_a1_b448 nin0)).other W461 (Or.inl ne_a1_b438)).ext E465).keep K1' (ninS ne_a1_b465 nin0)).other W479 (Or.inl ne_a1_b438)).ext E483).keep K2' (ninS ne_a1_b483 nin0)).other W499 (Or.inl ne_a1_b438)).ext E503).keep K3' (ninS ne_a1_b503 nin0)).other W521 (Or.inl ne_a1_b438)).ext E525).keep K4' (ninS ne_a1_b525 nin0)).other W545 (Or.inl ne_a1_b438))
  have f554 := (((((((((((((((((fw434.ext E438).other W443 (Or.inr (slot_ne (Or.inr (hw _ (List.mem_of_getElem? (i := 27) rfl))) (Or.inr (hw _ (List.mem_of_getElem? (i := 31) rfl))) (by decide) (t := .long) (t' := (.array (.object "com/example/eskew/eskew/server/split/CounterValues$Tally"))) (by decide) (by decide)))).ext E448).keep K0' (ninS ne_a1_b448 nin0)).other W461 (Or.inl ne_a1_b438)).ext E465).keep K1' (ninS ne_a1_b465 nin0)).other W479 (Or.inl ne_a1_b438)).ext E483).keep K2' (ninS ne_a1_b483 nin0)).other W499 (Or.inl ne_a1_b438)).ext E503).keep K3' (ninS ne_a1_b503 nin0)).other W521 (Or.inl ne_a1_b438)).ext E525).keep K4' (ninS ne_a1_b525 nin0)).other W545 (Or.inl ne_a1_b438))
  have f555 := (((f524.ext E525).keep K4' (ninS ne_a1_b525 nin0)).other W545 (Or.inl ne_a1_b438))
  exact own_ret0 X545 hx hlk hret (hb hby d1_80) (by first | exact ⟨b438, k438, [(.ref b448), (.ref b465), (.ref b483), (.ref b503), (.ref b525)], rfl, N545, K546, f552, f553, f554, f555, sz_b438, V545, hall, hinj⟩ | (rw [e545]; exact ⟨b438, k438, [(.ref b448), (.ref b465), (.ref b483), (.ref b503), (.ref b525)], rfl, N545, K546, f552, f553, f554, f555, sz_b438, V545, hall, hinj⟩)) (by decide) (by decide)
theorem rm1 (l : Launch) (Z : State) (a0 : Array Value) (hw : ∀ d ∈ tables_1, d.before a0 Z = true) (a1 : Addr) (nk : Int32) (q3 q4 : Int64) (h0 : Heap) (n0 : Nat) (Z0 : n0 ≤ h0.size) (hn : nk = 2 ∨ nk = 3 ∨ nk = 4 ∨ nk = 5) (g1 : n0 ≤ a1) (E1 : Exa Z h0 a1 "com/example/eskew/eskew/server/split/CounterValues") (F_rising : Fld Z h0 a1 "com/example/eskew/eskew/server/split/CounterValues" "rising" "Lcom/example/eskew/eskew/server/split/CounterValues$WideSum;" .null) (F_falling : Fld Z h0 a1 "com/example/eskew/eskew/server/split/CounterValues" "falling" "Lcom/example/eskew/eskew/server/split/CounterValues$WideSum;" .null) (F_resting : Fld Z h0 a1 "com/example/eskew/eskew/server/split/CounterValues" "resting" "I" (.int (0 : Int32))) (F_nextToRest : Fld Z h0 a1 "com/example/eskew/eskew/server/split/CounterValues" "nextToRest" "I" (.int (0 : Int32))) (F_rereadNanos : Fld Z h0 a1 "com/example/eskew/eskew/server/split/CounterValues" "rereadNanos" "J" (.long (0 : Int64))) (F_tallies : Fld Z h0 a1 "com/example/eskew/eskew/server/split/CounterValues" "tallies" "[Lcom/example/eskew/eskew/server/split/CounterValues$Tally;" .null) :
    own_Met l Z (⟨"com/example/eskew/eskew/server/split/CounterValues", "<init>", "(IJJ)V"⟩ : MethodName) prog_33_method_1_code 7 none [] ({ frames := 2, cells := 8, slots := 54, locals := 48 } : Room) #[(.ref a1), (.int nk), (.long q3), (.long q4)] h0 (Q_rm1 Z a1 nk q3 q4 h0 n0) := by
  rcases hn with rfl | rfl | rfl | rfl
  · exact rm1_2 l Z a0 hw [] a1 q3 q4 h0 n0 Z0 g1 E1 F_rising F_falling F_resting F_nextToRest F_rereadNanos F_tallies
  · exact rm1_3 l Z a0 hw [] a1 q3 q4 h0 n0 Z0 g1 E1 F_rising F_falling F_resting F_nextToRest F_rereadNanos F_tallies
  · exact rm1_4 l Z a0 hw [] a1 q3 q4 h0 n0 Z0 g1 E1 F_rising F_falling F_resting F_nextToRest F_rereadNanos F_tallies
  · exact rm1_5 l Z a0 hw [] a1 q3 q4 h0 n0 Z0 g1 E1 F_rising F_falling F_resting F_nextToRest F_rereadNanos F_tallies
def Q_rm5 (Z : State) (a1 ta t : Addr) (kt : ClassId) (vs : List Value) (nk ky : Int32) (sn wn : Int64) (wr : Int32) (al vl : Int64) (kn se rd : Int32) (h0 : Heap) (n0 : Nat) (v : Option Value) (h : Heap) (L : List Loc) : Prop := v = some (.long (wn + 1)) ∧ Fr n0 L ∧ Keep h0 h [t] ∧ own_Tal Z h t sn (wn + 1) (wr + 1) (if wr = 0 then wn + 1 else al) vl kn se rd
theorem pn_rm5 : plainFor (⟨"com/example/eskew/eskew/server/split/CounterValues", "writing", "(I)J"⟩ : MethodName) = true := plainFor_of_name (by first | (simp [plainName, overriddenIn, x]; done) | decide +kernel)
theorem d5_0 : decode prog_33_method_2_code 0 = .ok (.aload_n 0, 1) := by decide +kernel
theorem d5_1 : decode prog_33_method_2_code 1 = .ok (.getfield 32, 3) := by decide +kernel
theorem d5_4 : decode prog_33_method_2_code 4 = .ok (.iload_n 1, 1) := by decide +kernel
theorem d5_5 : decode prog_33_method_2_code 5 = .ok (.aaload, 1) := by decide +kernel
theorem d5_6 : decode prog_33_method_2_code 6 = .ok (.astore_n 2, 1) := by decide +kernel
theorem d5_7 : decode prog_33_method_2_code 7 = .ok (.aload_n 2, 1) := by decide +kernel
theorem d5_8 : decode prog_33_method_2_code 8 = .ok (.dup, 1) := by decide +kernel
theorem d5_9 : decode prog_33_method_2_code 9 = .ok (.getfield 39, 3) := by decide +kernel
theorem d5_12 : decode prog_33_method_2_code 12 = .ok (.lconst 1, 1) := by decide +kernel
theorem d5_13 : decode prog_33_method_2_code 13 = .ok (.ladd, 1) := by decide +kernel
theorem d5_14 : decode prog_33_method_2_code 14 = .ok (.putfield 39, 3) := by decide +kernel
theorem d5_17 : decode prog_33_method_2_code 17 = .ok (.aload_n 2, 1) := by decide +kernel
theorem d5_18 : decode prog_33_method_2_code 18 = .ok (.getfield 42, 3) := by decide +kernel
theorem d5_21 : decode prog_33_method_2_code 21 = .ok (.ifCond .ne 11, 3) := by decide +kernel
theorem d5_24 : decode prog_33_method_2_code 24 = .ok (.aload_n 2, 1) := by decide +kernel
theorem d5_25 : decode prog_33_method_2_code 25 = .ok (.aload_n 2, 1) := by decide +kernel
theorem d5_26 : decode prog_33_method_2_code 26 = .ok (.getfield 39, 3) := by decide +kernel
theorem d5_29 : decode prog_33_method_2_code 29 = .ok (.putfield 45, 3) := by decide +kernel
theorem d5_32 : decode prog_33_method_2_code 32 = .ok (.aload_n 2, 1) := by decide +kernel
theorem d5_33 : decode prog_33_method_2_code 33 = .ok (.dup, 1) := by decide +kernel
theorem d5_34 : decode prog_33_method_2_code 34 = .ok (.getfield 42, 3) := by decide +kernel
theorem d5_37 : decode prog_33_method_2_code 37 = .ok (.iconst 1, 1) := by decide +kernel
theorem d5_38 : decode prog_33_method_2_code 38 = .ok (.iadd, 1) := by decide +kernel
theorem d5_39 : decode prog_33_method_2_code 39 = .ok (.putfield 42, 3) := by decide +kernel
theorem d5_42 : decode prog_33_method_2_code 42 = .ok (.aload_n 2, 1) := by decide +kernel
theorem d5_43 : decode prog_33_method_2_code 43 = .ok (.getfield 39, 3) := by decide +kernel
theorem d5_46 : decode prog_33_method_2_code 46 = .ok (.lreturn, 1) := by decide +kernel
set_option maxRecDepth 65536 in
set_option maxHeartbeats 40000000 in
theorem rm5 (l : Launch) (Z : State) (a0 : Array Value) (hw : ∀ d ∈ tables_1, d.before a0 Z = true) (ws : List Jvm.Cond) (a1 ta t : Addr) (kt : ClassId) (vs : List Value) (nk ky : Int32) (sn wn : Int64) (wr : Int32) (al vl : Int64) (kn se rd : Int32) (h0 : Heap) (n0 : Nat) (Z0 : n0 ≤ h0.size) (g1 : n0 ≤ t) (hk : ¬ ky < 0 ∧ ky < nk) (hv : vs.getD ky.toNatClampNeg .null = .ref t) (nat : a1 ≠ t) (ntt : ta ≠ t) (Fa : Fld Z h0 a1 "com/example/eskew/eskew/server/split/CounterValues" "tallies" "[Lcom/example/eskew/eskew/server/split/CounterValues$Tally;" (.ref ta)) (Va : Arv Z h0 ta kt (.object "com/example/eskew/eskew/server/split/CounterValues$Tally") nk vs .null) (HT : own_Tal Z h0 t sn wn wr al vl kn se rd) :
    own_Met l Z (⟨"com/example/eskew/eskew/server/split/CounterValues", "writing", "(I)J"⟩ : MethodName) prog_33_method_2_code 3 (some .long) ws ({ frames := 0, cells := 0, slots := 0, locals := 0 } : Room) #[(.ref a1), (.int ky)] h0 (Q_rm5 Z a1 ta t kt vs nk ky sn wn wr al vl kn se rd h0 n0) := by
  refine own_enter (g0 := fun m => (mkF m 0 #[.val (.ref a1), .val (.int ky), .unset] [])) pn_rm5 (fun m => by first | (simp [entryFrame, mkF, argsToLocals, Value.category, maxLocals]; done) | rfl) ?_
  intro p e s m below meth c s₁ hx hby hml hown hnm hret hlk hZ X0 e0
  have hml : c.maxLocals = 3 := hml
  have hown : s.vm.findClass "com/example/eskew/eskew/server/split/CounterValues" = some m.cls := hown
  have N0 := Fr.nil n0
  obtain ⟨ET, T1, T2, T3, T4, T5, T6, T7, T8, T9⟩ := HT
  have K0 := Keep.refl h0 [t]
  refine own_by (fun _ k => XS.aloadN X0.here hx rfl (hb hby d5_0) rfl rfl k) ?_
  obtain ⟨T556, X556, e556, st556⟩ := getF X0 hx hZ hown (host := "") (Or.inl (hw _ (List.mem_of_getElem? (i := 30) rfl))) Via.refl e0 Fa (g := (mkF m 1 #[.val (.ref a1), .val (.int ky), .unset] [(.ref a1)])) rfl rfl (hb hby d5_1)
  refine own_by st556 ?_
  show own_Go p e below _ T556 (mkF m 4 #[.val (.ref a1), .val (.int ky), .unset] [(.ref ta)])
  refine own_by (fun _ k => XS.iloadN X556.here hx rfl (hb hby d5_4) rfl k) ?_
  obtain ⟨cl557, Ar557, cq557, hin557, hat557, set557⟩ := own_arv Va (j := ky) hk
  refine own_by (fun _ k => X556.aaload hx (j := ky) (v := (.ref t)) (by rw [e556]; exact Ar557.1) (State.isArrayOf_alike hZ.alike Ar557.2.1) rfl Ar557.2.2 hin557 (by rw [hat557]; exact congrArg some hv) (g := (mkF m 5 #[.val (.ref a1), .val (.int ky), .unset] [(.int ky), (.ref ta)])) rfl rfl (hb hby d5_5) _ k) ?_
  refine own_by (fun _ k => XS.astoreN X556.here hx rfl (hb hby d5_6) rfl rfl (l' := #[.val (.ref a1), .val (.int ky), .val (.ref t)]) rfl k) ?_
  show own_Go p e below _ T556 (mkF m 7 #[.val (.ref a1), .val (.int ky), .val (.ref t)] [])
  refine own_by (fun _ k => XS.aloadN X556.here hx rfl (hb hby d5_7) rfl rfl k) ?_
  refine own_by (fun _ k => XS.dup X556.here hx rfl (hb hby d5_8) rfl rfl k) ?_
  obtain ⟨T558, X558, e558, st558⟩ := own_getR X556 hx hZ hown (hw _ (List.mem_of_getElem? (i := 46) rfl)) e556 T2 (g := (mkF m 9 #[.val (.ref a1), .val (.int ky), .val (.ref t)] [(.ref t), (.ref t)])) rfl rfl (hb hby d5_9)
  refine own_by st558 ?_
  show own_Go p e below _ T558 (mkF m 12 #[.val (.ref a1), .val (.int ky), .val (.ref t)] [(.long wn), (.ref t)])
  refine own_by (fun _ k => XS.lconst X558.here hx rfl (hb hby d5_12) k) ?_
  refine own_by (fun _ k => XS.ladd X558.here hx rfl (hb hby d5_13) rfl k) ?_
  obtain ⟨T559, h559, X559, e559, W559, st559⟩ := own_putR X558 hx hZ hown (hw _ (List.mem_of_getElem? (i := 46) rfl)) e558 T2 ET (hw _ (List.mem_of_getElem? (i := 47) rfl)) (hw _ (List.mem_of_getElem? (i := 32) rfl)) (ty := .long) (by decide) rfl rfl (g := (mkF m 14 #[.val (.ref a1), .val (.int ky), .val (.ref t)] [(.long (wn + (1 : Int64))), (.ref t)])) rfl rfl (hb hby d5_14)
  refine own_by st559 ?_
  have N559 := Fr.snoc X559 N0 g1
  have fw559 := T2.same W559
  have K560 := K0.wr W559 (Or.inl (List.mem_of_getElem? (i := 0) rfl))
  have Z559 : n0 ≤ h559.size := Nat.le_trans Z0 (Keep.of_wr W559).1
  show own_Go p e below _ T559 (mkF m 17 #[.val (.ref a1), .val (.int ky), .val (.ref t)] [])
  refine own_by (fun _ k => XS.aloadN X559.here hx rfl (hb hby d5_17) rfl rfl k) ?_
  have f562 := (T3.other W559 (Or.inr (slot_ne (Or.inl (hw _ (List.mem_of_getElem? (i := 49) rfl))) (Or.inl (hw _ (List.mem_of_getElem? (i := 47) rfl))) (by decide) (t := .int) (t' := .long) (by decide) (by decide))))
  obtain ⟨T561, X561, e561, st561⟩ := own_getR X559 hx hZ hown (hw _ (List.mem_of_getElem? (i := 48) rfl)) e559 f562 (g := (mkF m 18 #[.val (.ref a1), .val (.int ky), .val (.ref t)] [(.ref t)])) rfl rfl (hb hby d5_18)
  refine own_by st561 ?_
  by_cases hz : wr = (0 : Int32)
  · refine own_by (fun _ k => XS.ifNo X561.here hx rfl (hb hby d5_21) rfl ((if0 _ _).trans (teq (hz : wr = (0 : Int32))).2) k) ?_
    show own_Go p e below _ T561 (mkF m 24 #[.val (.ref a1), .val (.int ky), .val (.ref t)] [])
    refine own_by (fun _ k => XS.aloadN X561.here hx rfl (hb hby d5_24) rfl rfl k) ?_
    refine own_by (fun _ k => XS.aloadN X561.here hx rfl (hb hby d5_25) rfl rfl k) ?_
    obtain ⟨T563, X563, e563, st563⟩ := own_getR X561 hx hZ hown (hw _ (List.mem_of_getElem? (i := 46) rfl)) e561 fw559 (g := (mkF m 26 #[.val (.ref a1), .val (.int ky), .val (.ref t)] [(.ref t), (.ref t)])) rfl rfl (hb hby d5_26)
    refine own_by st563 ?_
    show own_Go p e below _ T563 (mkF m 29 #[.val (.ref a1), .val (.int ky), .val (.ref t)] [(.long (wn + (1 : Int64))), (.ref t)])
    have f565 := (T4.other W559 (Or.inr (slot_ne (Or.inl (hw _ (List.mem_of_getElem? (i := 51) rfl))) (Or.inl (hw _ (List.mem_of_getElem? (i := 47) rfl))) (by decide) (t := .long) (t' := .long) (by decide) (by decide))))
    have f566 := (ET.wr W559)
    obtain ⟨T564, h564, X564, e564, W564, st564⟩ := own_putR X563 hx hZ hown (hw _ (List.mem_of_getElem? (i := 50) rfl)) e563 f565 f566 (hw _ (List.mem_of_getElem? (i := 51) rfl)) (hw _ (List.mem_of_getElem? (i := 32) rfl)) (ty := .long) (by decide) rfl rfl (g := (mkF m 29 #[.val (.ref a1), .val (.int ky), .val (.ref t)] [(.long (wn + (1 : Int64))), (.ref t)])) rfl rfl (hb hby d5_29)
    refine own_by st564 ?_
    have N564 := Fr.snoc X564 N559 g1
    have fw564 := f565.same W564
    have K567 := K560.wr W564 (Or.inl (List.mem_of_getElem? (i := 0) rfl))
    have Z564 : n0 ≤ h564.size := Nat.le_trans Z559 (Keep.of_wr W564).1
    refine own_by (fun _ k => XS.aloadN X564.here hx rfl (hb hby d5_32) rfl rfl k) ?_
    refine own_by (fun _ k => XS.dup X564.here hx rfl (hb hby d5_33) rfl rfl k) ?_
    show own_Go p e below _ T564 (mkF m 34 #[.val (.ref a1), .val (.int ky), .val (.ref t)] [(.ref t), (.ref t)])
    have f569 := (f562.other W564 (Or.inr (slot_ne (Or.inl (hw _ (List.mem_of_getElem? (i := 49) rfl))) (Or.inl (hw _ (List.mem_of_getElem? (i := 51) rfl))) (by decide) (t := .int) (t' := .long) (by decide) (by decide))))
    obtain ⟨T568, X568, e568, st568⟩ := own_getR X564 hx hZ hown (hw _ (List.mem_of_getElem? (i := 48) rfl)) e564 f569 (g := (mkF m 34 #[.val (.ref a1), .val (.int ky), .val (.ref t)] [(.ref t), (.ref t)])) rfl rfl (hb hby d5_34)
    refine own_by st568 ?_
    refine own_by (fun _ k => XS.iconst X568.here hx rfl (hb hby d5_37) k) ?_
    refine own_by (fun _ k => XS.iadd X568.here hx rfl (hb hby d5_38) rfl k) ?_
    show own_Go p e below _ T568 (mkF m 39 #[.val (.ref a1), .val (.int ky), .val (.ref t)] [(.int (wr + (1 : Int32))), (.ref t)])
    have f571 := (f566.wr W564)
    obtain ⟨T570, h570, X570, e570, W570, st570⟩ := own_putR X568 hx hZ hown (hw _ (List.mem_of_getElem? (i := 48) rfl)) e568 f569 f571 (hw _ (List.mem_of_getElem? (i := 49) rfl)) (hw _ (List.mem_of_getElem? (i := 32) rfl)) (ty := .int) (by decide) rfl rfl (g := (mkF m 39 #[.val (.ref a1), .val (.int ky), .val (.ref t)] [(.int (wr + (1 : Int32))), (.ref t)])) rfl rfl (hb hby d5_39)
    refine own_by st570 ?_
    have N570 := Fr.snoc X570 N564 g1
    have fw570 := f569.same W570
    have K572 := K567.wr W570 (Or.inl (List.mem_of_getElem? (i := 0) rfl))
    have Z570 : n0 ≤ h570.size := Nat.le_trans Z564 (Keep.of_wr W570).1
    refine own_by (fun _ k => XS.aloadN X570.here hx rfl (hb hby d5_42) rfl rfl k) ?_
    have f574 := ((fw559.other W564 (Or.inr (slot_ne (Or.inl (hw _ (List.mem_of_getElem? (i := 47) rfl))) (Or.inl (hw _ (List.mem_of_getElem? (i := 51) rfl))) (by decide) (t := .long) (t' := .long) (by decide) (by decide)))).other W570 (Or.inr (slot_ne (Or.inl (hw _ (List.mem_of_getElem? (i := 47) rfl))) (Or.inl (hw _ (List.mem_of_getElem? (i := 49) rfl))) (by decide) (t := .long) (t' := .int) (by decide) (by decide))))
    obtain ⟨T573, X573, e573, st573⟩ := own_getR X570 hx hZ hown (hw _ (List.mem_of_getElem? (i := 46) rfl)) e570 f574 (g := (mkF m 43 #[.val (.ref a1), .val (.int ky), .val (.ref t)] [(.ref t)])) rfl rfl (hb hby d5_43)
    refine own_by st573 ?_
    show own_Go p e below _ T573 (mkF m 46 #[.val (.ref a1), .val (.int ky), .val (.ref t)] [(.long (wn + (1 : Int64)))])
    have hq : (if wr = 0 then wn + 1 else al) = (wn + 1) := if_pos hz
    have f575 := (f571.wr W570)
    have f576 := (((T1.other W559 (Or.inr (slot_ne (Or.inl (hw _ (List.mem_of_getElem? (i := 39) rfl))) (Or.inl (hw _ (List.mem_of_getElem? (i := 47) rfl))) (by decide) (t := .long) (t' := .long) (by decide) (by decide)))).other W564 (Or.inr (slot_ne (Or.inl (hw _ (List.mem_of_getElem? (i := 39) rfl))) (Or.inl (hw _ (List.mem_of_getElem? (i := 51) rfl))) (by decide) (t := .long) (t' := .long) (by decide) (by decide)))).other W570 (Or.inr (slot_ne (Or.inl (hw _ (List.mem_of_getElem? (i := 39) rfl))) (Or.inl (hw _ (List.mem_of_getElem? (i := 49) rfl))) (by decide) (t := .long) (t' := .int) (by decide) (by decide))))
    have f577 := (fw564.other W570 (Or.inr (slot_ne (Or.inl (hw _ (List.mem_of_getElem? (i := 51) rfl))) (Or.inl (hw _ (List.mem_of_getElem? (i := 49) rfl))) (by decide) (t := .long) (t' := .int) (by decide) (by decide))))
    have f578 := (((T5.other W559 (Or.inr (slot_ne (Or.inl (hw _ (List.mem_of_getElem? (i := 69) rfl))) (Or.inl (hw _ (List.mem_of_getElem? (i := 47) rfl))) (by decide) (t := .long) (t' := .long) (by decide) (by decide)))).other W564 (Or.inr (slot_ne (Or.inl (hw _ (List.mem_of_getElem? (i := 69) rfl))) (Or.inl (hw _ (List.mem_of_getElem? (i := 51) rfl))) (by decide) (t := .long) (t' := .long) (by decide) (by decide)))).other W570 (Or.inr (slot_ne (Or.inl (hw _ (List.mem_of_getElem? (i := 69) rfl))) (Or.inl (hw _ (List.mem_of_getElem? (i := 49) rfl))) (by decide) (t := .long) (t' := .int) (by decide) (by decide))))
    have f579 := (((T6.other W559 (Or.inr (slot_ne (Or.inl (hw _ (List.mem_of_getElem? (i := 71) rfl))) (Or.inl (hw _ (List.mem_of_getElem? (i := 47) rfl))) (by decide) (t := .boolean) (t' := .long) (by decide) (by decide)))).other W564 (Or.inr (slot_ne (Or.inl (hw _ (List.mem_of_getElem? (i := 71) rfl))) (Or.inl (hw _ (List.mem_of_getElem? (i := 51) rfl))) (by decide) (t := .boolean) (t' := .long) (by decide) (by decide)))).other W570 (Or.inr (slot_ne (Or.inl (hw _ (List.mem_of_getElem? (i := 71) rfl))) (Or.inl (hw _ (List.mem_of_getElem? (i := 49) rfl))) (by decide) (t := .boolean) (t' := .int) (by decide) (by decide))))
    have f580 := (((T7.other W559 (Or.inr (slot_ne (Or.inl (hw _ (List.mem_of_getElem? (i := 73) rfl))) (Or.inl (hw _ (List.mem_of_getElem? (i := 47) rfl))) (by decide) (t := .boolean) (t' := .long) (by decide) (by decide)))).other W564 (Or.inr (slot_ne (Or.inl (hw _ (List.mem_of_getElem? (i := 73) rfl))) (Or.inl (hw _ (List.mem_of_getElem? (i := 51) rfl))) (by decide) (t := .boolean) (t' := .long) (by decide) (by decide)))).other W570 (Or.inr (slot_ne (Or.inl (hw _ (List.mem_of_getElem? (i := 73) rfl))) (Or.inl (hw _ (List.mem_of_getElem? (i := 49) rfl))) (by decide) (t := .boolean) (t' := .int) (by decide) (by decide))))
    have f581 := (((T8.other W559 (Or.inr (slot_ne (Or.inl (hw _ (List.mem_of_getElem? (i := 76) rfl))) (Or.inl (hw _ (List.mem_of_getElem? (i := 47) rfl))) (by decide) (t := (.object "com/example/eskew/eskew/server/split/CounterValues$Placing")) (t' := .long) (by decide) (by decide)))).other W564 (Or.inr (slot_ne (Or.inl (hw _ (List.mem_of_getElem? (i := 76) rfl))) (Or.inl (hw _ (List.mem_of_getElem? (i := 51) rfl))) (by decide) (t := (.object "com/example/eskew/eskew/server/split/CounterValues$Placing")) (t' := .long) (by decide) (by decide)))).other W570 (Or.inr (slot_ne (Or.inl (hw _ (List.mem_of_getElem? (i := 76) rfl))) (Or.inl (hw _ (List.mem_of_getElem? (i := 49) rfl))) (by decide) (t := (.object "com/example/eskew/eskew/server/split/CounterValues$Placing")) (t' := .int) (by decide) (by decide))))
    have f582 := (((T9.other W559 (Or.inr (slot_ne (Or.inl (hw _ (List.mem_of_getElem? (i := 84) rfl))) (Or.inl (hw _ (List.mem_of_getElem? (i := 47) rfl))) (by decide) (t := .int) (t' := .long) (by decide) (by decide)))).other W564 (Or.inr (slot_ne (Or.inl (hw _ (List.mem_of_getElem? (i := 84) rfl))) (Or.inl (hw _ (List.mem_of_getElem? (i := 51) rfl))) (by decide) (t := .int) (t' := .long) (by decide) (by decide)))).other W570 (Or.inr (slot_ne (Or.inl (hw _ (List.mem_of_getElem? (i := 84) rfl))) (Or.inl (hw _ (List.mem_of_getElem? (i := 49) rfl))) (by decide) (t := .int) (t' := .int) (by decide) (by decide))))
    exact own_retJ X573 hx hlk hret  (hb hby d5_46) (by first | exact ⟨rfl, N570, K572, by rw [hq]; exact ⟨f575, f576, f574, fw570, f577, f578, f579, f580, f581, f582⟩⟩ | (rw [e573]; exact ⟨rfl, N570, K572, by rw [hq]; exact ⟨f575, f576, f574, fw570, f577, f578, f579, f580, f581, f582⟩⟩)) (by decide) (by decide)
  · refine own_by (fun _ k => XS.ifYes X561.here hx rfl (pc0 := 21) (pc' := 32) rfl (hb hby d5_21) rfl ((if0 _ _).trans (feq (hz : ¬ (wr = (0 : Int32)))).2) (by decide) (by decide) k) ?_
    show own_Go p e below _ T561 (mkF m 32 #[.val (.ref a1), .val (.int ky), .val (.ref t)] [])
    refine own_by (fun _ k => XS.aloadN X561.here hx rfl (hb hby d5_32) rfl rfl k) ?_
    refine own_by (fun _ k => XS.dup X561.here hx rfl (hb hby d5_33) rfl rfl k) ?_
    obtain ⟨T583, X583, e583, st583⟩ := own_getR X561 hx hZ hown (hw _ (List.mem_of_getElem? (i := 48) rfl)) e561 f562 (g := (mkF m 34 #[.val (.ref a1), .val (.int ky), .val (.ref t)] [(.ref t), (.ref t)])) rfl rfl (hb hby d5_34)
    refine own_by st583 ?_
    show own_Go p e below _ T583 (mkF m 37 #[.val (.ref a1), .val (.int ky), .val (.ref t)] [(.int wr), (.ref t)])
    refine own_by (fun _ k => XS.iconst X583.here hx rfl (hb hby d5_37) k) ?_
    refine own_by (fun _ k => XS.iadd X583.here hx rfl (hb hby d5_38) rfl k) ?_
    have f585 := (ET.wr W559)
    obtain ⟨T584, h584, X584, e584, W584, st584⟩ := own_putR X583 hx hZ hown (hw _ (List.mem_of_getElem? (i := 48) rfl)) e583 f562 f585 (hw _ (List.mem_of_getElem? (i := 49) rfl)) (hw _ (List.mem_of_getElem? (i := 32) rfl)) (ty := .int) (by decide) rfl rfl (g := (mkF m 39 #[.val (.ref a1), .val (.int ky), .val (.ref t)] [(.int (wr + (1 : Int32))), (.ref t)])) rfl rfl (hb hby d5_39)
    refine own_by st584 ?_
    have N584 := Fr.snoc X584 N559 g1
    have fw584 := f562.same W584
    have K586 := K560.wr W584 (Or.inl (List.mem_of_getElem? (i := 0) rfl))
    have Z584 : n0 ≤ h584.size := Nat.le_trans Z559 (Keep.of_wr W584).1
    show own_Go p e below _ T584 (mkF m 42 #[.val (.ref a1), .val (.int ky), .val (.ref t)] [])
    refine own_by (fun _ k => XS.aloadN X584.here hx rfl (hb hby d5_42) rfl rfl k) ?_
    have f588 := (fw559.other W584 (Or.inr (slot_ne (Or.inl (hw _ (List.mem_of_getElem? (i := 47) rfl))) (Or.inl (hw _ (List.mem_of_getElem? (i := 49) rfl))) (by decide) (t := .long) (t' := .int) (by decide) (by decide))))
    obtain ⟨T587, X587, e587, st587⟩ := own_getR X584 hx hZ hown (hw _ (List.mem_of_getElem? (i := 46) rfl)) e584 f588 (g := (mkF m 43 #[.val (.ref a1), .val (.int ky), .val (.ref t)] [(.ref t)])) rfl rfl (hb hby d5_43)
    refine own_by st587 ?_
    have hq : (if wr = 0 then wn + 1 else al) = al := if_neg hz
    have f589 := (f585.wr W584)
    have f590 := ((T1.other W559 (Or.inr (slot_ne (Or.inl (hw _ (List.mem_of_getElem? (i := 39) rfl))) (Or.inl (hw _ (List.mem_of_getElem? (i := 47) rfl))) (by decide) (t := .long) (t' := .long) (by decide) (by decide)))).other W584 (Or.inr (slot_ne (Or.inl (hw _ (List.mem_of_getElem? (i := 39) rfl))) (Or.inl (hw _ (List.mem_of_getElem? (i := 49) rfl))) (by decide) (t := .long) (t' := .int) (by decide) (by decide))))
    have f591 := ((T4.other W559 (Or.inr (slot_ne (Or.inl (hw _ (List.mem_of_getElem? (i := 51) rfl))) (Or.inl (hw _ (List.mem_of_getElem? (i := 47) rfl))) (by decide) (t := .long) (t' := .long) (by decide) (by decide)))).other W584 (Or.inr (slot_ne (Or.inl (hw _ (List.mem_of_getElem? (i := 51) rfl))) (Or.inl (hw _ (List.mem_of_getElem? (i := 49) rfl))) (by decide) (t := .long) (t' := .int) (by decide) (by decide))))
    have f592 := ((T5.other W559 (Or.inr (slot_ne (Or.inl (hw _ (List.mem_of_getElem? (i := 69) rfl))) (Or.inl (hw _ (List.mem_of_getElem? (i := 47) rfl))) (by decide) (t := .long) (t' := .long) (by decide) (by decide)))).other W584 (Or.inr (slot_ne (Or.inl (hw _ (List.mem_of_getElem? (i := 69) rfl))) (Or.inl (hw _ (List.mem_of_getElem? (i := 49) rfl))) (by decide) (t := .long) (t' := .int) (by decide) (by decide))))
    have f593 := ((T6.other W559 (Or.inr (slot_ne (Or.inl (hw _ (List.mem_of_getElem? (i := 71) rfl))) (Or.inl (hw _ (List.mem_of_getElem? (i := 47) rfl))) (by decide) (t := .boolean) (t' := .long) (by decide) (by decide)))).other W584 (Or.inr (slot_ne (Or.inl (hw _ (List.mem_of_getElem? (i := 71) rfl))) (Or.inl (hw _ (List.mem_of_getElem? (i := 49) rfl))) (by decide) (t := .boolean) (t' := .int) (by decide) (by decide))))
    have f594 := ((T7.other W559 (Or.inr (slot_ne (Or.inl (hw _ (List.mem_of_getElem? (i := 73) rfl))) (Or.inl (hw _ (List.mem_of_getElem? (i := 47) rfl))) (by decide) (t := .boolean) (t' := .long) (by decide) (by decide)))).other W584 (Or.inr (slot_ne (Or.inl (hw _ (List.mem_of_getElem? (i := 73) rfl))) (Or.inl (hw _ (List.mem_of_getElem? (i := 49) rfl))) (by decide) (t := .boolean) (t' := .int) (by decide) (by decide))))
    have f595 := ((T8.other W559 (Or.inr (slot_ne (Or.inl (hw _ (List.mem_of_getElem? (i := 76) rfl))) (Or.inl (hw _ (List.mem_of_getElem? (i := 47) rfl))) (by decide) (t := (.object "com/example/eskew/eskew/server/split/CounterValues$Placing")) (t' := .long) (by decide) (by decide)))).other W584 (Or.inr (slot_ne (Or.inl (hw _ (List.mem_of_getElem? (i := 76) rfl))) (Or.inl (hw _ (List.mem_of_getElem? (i := 49) rfl))) (by decide) (t := (.object "com/example/eskew/eskew/server/split/CounterValues$Placing")) (t' := .int) (by decide) (by decide))))
    have f596 := ((T9.other W559 (Or.inr (slot_ne (Or.inl (hw _ (List.mem_of_getElem? (i := 84) rfl))) (Or.inl (hw _ (List.mem_of_getElem? (i := 47) rfl))) (by decide) (t := .int) (t' := .long) (by decide) (by decide)))).other W584 (Or.inr (slot_ne (Or.inl (hw _ (List.mem_of_getElem? (i := 84) rfl))) (Or.inl (hw _ (List.mem_of_getElem? (i := 49) rfl))) (by decide) (t := .int) (t' := .int) (by decide) (by decide))))
    exact own_retJ X587 hx hlk hret  (hb hby d5_46) (by first | exact ⟨rfl, N584, K586, by rw [hq]; exact ⟨f589, f590, f588, fw584, f591, f592, f593, f594, f595, f596⟩⟩ | (rw [e587]; exact ⟨rfl, N584, K586, by rw [hq]; exact ⟨f589, f590, f588, fw584, f591, f592, f593, f594, f595, f596⟩⟩)) (by decide) (by decide)
def Q_rm7 (Z : State) (a1 ta t : Addr) (kt : ClassId) (vs : List Value) (nk ky : Int32) (sn wn : Int64) (wr : Int32) (al vl : Int64) (kn se rd : Int32) (h0 : Heap) (n0 : Nat) (v : Option Value) (h : Heap) (L : List Loc) : Prop := v = some (.ref t) ∧ Fr n0 L ∧ Keep h0 h [t] ∧ own_Tal Z h t sn wn (wr - 1) al vl kn se rd
theorem pn_rm7 : plainFor (⟨"com/example/eskew/eskew/server/split/CounterValues", "takeBack", "(I)Lcom/example/eskew/eskew/server/split/CounterValues$Tally;"⟩ : MethodName) = true := plainFor_of_name (by first | (simp [plainName, overriddenIn, x]; done) | decide +kernel)
theorem d7_0 : decode prog_33_method_20_code 0 = .ok (.aload_n 0, 1) := by decide +kernel
theorem d7_1 : decode prog_33_method_20_code 1 = .ok (.getfield 32, 3) := by decide +kernel
theorem d7_4 : decode prog_33_method_20_code 4 = .ok (.iload_n 1, 1) := by decide +kernel
theorem d7_5 : decode prog_33_method_20_code 5 = .ok (.aaload, 1) := by decide +kernel
theorem d7_6 : decode prog_33_method_20_code 6 = .ok (.astore_n 2, 1) := by decide +kernel
theorem d7_7 : decode prog_33_method_20_code 7 = .ok (.aload_n 2, 1) := by decide +kernel
theorem d7_8 : decode prog_33_method_20_code 8 = .ok (.dup, 1) := by decide +kernel
theorem d7_9 : decode prog_33_method_20_code 9 = .ok (.getfield 42, 3) := by decide +kernel
theorem d7_12 : decode prog_33_method_20_code 12 = .ok (.iconst 1, 1) := by decide +kernel
theorem d7_13 : decode prog_33_method_20_code 13 = .ok (.isub, 1) := by decide +kernel
theorem d7_14 : decode prog_33_method_20_code 14 = .ok (.putfield 42, 3) := by decide +kernel
theorem d7_17 : decode prog_33_method_20_code 17 = .ok (.aload_n 2, 1) := by decide +kernel
theorem d7_18 : decode prog_33_method_20_code 18 = .ok (.areturn, 1) := by decide +kernel
set_option maxRecDepth 65536 in
set_option maxHeartbeats 40000000 in
theorem rm7 (l : Launch) (Z : State) (a0 : Array Value) (hw : ∀ d ∈ tables_1, d.before a0 Z = true) (ws : List Jvm.Cond) (a1 ta t : Addr) (kt : ClassId) (vs : List Value) (nk ky : Int32) (sn wn : Int64) (wr : Int32) (al vl : Int64) (kn se rd : Int32) (h0 : Heap) (n0 : Nat) (Z0 : n0 ≤ h0.size) (g1 : n0 ≤ t) (hk : ¬ ky < 0 ∧ ky < nk) (hv : vs.getD ky.toNatClampNeg .null = .ref t) (nat : a1 ≠ t) (ntt : ta ≠ t) (Fa : Fld Z h0 a1 "com/example/eskew/eskew/server/split/CounterValues" "tallies" "[Lcom/example/eskew/eskew/server/split/CounterValues$Tally;" (.ref ta)) (Va : Arv Z h0 ta kt (.object "com/example/eskew/eskew/server/split/CounterValues$Tally") nk vs .null) (HT : own_Tal Z h0 t sn wn wr al vl kn se rd) :
    own_Met l Z (⟨"com/example/eskew/eskew/server/split/CounterValues", "takeBack", "(I)Lcom/example/eskew/eskew/server/split/CounterValues$Tally;"⟩ : MethodName) prog_33_method_20_code 3 (some (.object "com/example/eskew/eskew/server/split/CounterValues$Tally")) ws ({ frames := 0, cells := 0, slots := 0, locals := 0 } : Room) #[(.ref a1), (.int ky)] h0 (Q_rm7 Z a1 ta t kt vs nk ky sn wn wr al vl kn se rd h0 n0) := by
  refine own_enter (g0 := fun m => (mkF m 0 #[.val (.ref a1), .val (.int ky), .unset] [])) pn_rm7 (fun m => by first | (simp [entryFrame, mkF, argsToLocals, Value.category, maxLocals]; done) | rfl) ?_
  intro p e s m below meth c s₁ hx hby hml hown hnm hret hlk hZ X0 e0
  have hml : c.maxLocals = 3 := hml
  have hown : s.vm.findClass "com/example/eskew/eskew/server/split/CounterValues" = some m.cls := hown
  have N0 := Fr.nil n0
  obtain ⟨ET, T1, T2, T3, T4, T5, T6, T7, T8, T9⟩ := HT
  have K0 := Keep.refl h0 [t]
  refine own_by (fun _ k => XS.aloadN X0.here hx rfl (hb hby d7_0) rfl rfl k) ?_
  obtain ⟨T597, X597, e597, st597⟩ := getF X0 hx hZ hown (host := "") (Or.inl (hw _ (List.mem_of_getElem? (i := 30) rfl))) Via.refl e0 Fa (g := (mkF m 1 #[.val (.ref a1), .val (.int ky), .unset] [(.ref a1)])) rfl rfl (hb hby d7_1)
  refine own_by st597 ?_
  show own_Go p e below _ T597 (mkF m 4 #[.val (.ref a1), .val (.int ky), .unset] [(.ref ta)])
  refine own_by (fun _ k => XS.iloadN X597.here hx rfl (hb hby d7_4) rfl k) ?_
  obtain ⟨cl598, Ar598, cq598, hin598, hat598, set598⟩ := own_arv Va (j := ky) hk
  refine own_by (fun _ k => X597.aaload hx (j := ky) (v := (.ref t)) (by rw [e597]; exact Ar598.1) (State.isArrayOf_alike hZ.alike Ar598.2.1) rfl Ar598.2.2 hin598 (by rw [hat598]; exact congrArg some hv) (g := (mkF m 5 #[.val (.ref a1), .val (.int ky), .unset] [(.int ky), (.ref ta)])) rfl rfl (hb hby d7_5) _ k) ?_
  refine own_by (fun _ k => XS.astoreN X597.here hx rfl (hb hby d7_6) rfl rfl (l' := #[.val (.ref a1), .val (.int ky), .val (.ref t)]) rfl k) ?_
  show own_Go p e below _ T597 (mkF m 7 #[.val (.ref a1), .val (.int ky), .val (.ref t)] [])
  refine own_by (fun _ k => XS.aloadN X597.here hx rfl (hb hby d7_7) rfl rfl k) ?_
  refine own_by (fun _ k => XS.dup X597.here hx rfl (hb hby d7_8) rfl rfl k) ?_
  obtain ⟨T599, X599, e599, st599⟩ := own_getR X597 hx hZ hown (hw _ (List.mem_of_getElem? (i := 48) rfl)) e597 T3 (g := (mkF m 9 #[.val (.ref a1), .val (.int ky), .val (.ref t)] [(.ref t), (.ref t)])) rfl rfl (hb hby d7_9)
  refine own_by st599 ?_
  show own_Go p e below _ T599 (mkF m 12 #[.val (.ref a1), .val (.int ky), .val (.ref t)] [(.int wr), (.ref t)])
  refine own_by (fun _ k => XS.iconst X599.here hx rfl (hb hby d7_12) k) ?_
  refine own_by (fun _ k => XS.isub X599.here hx rfl (hb hby d7_13) rfl k) ?_
  obtain ⟨T600, h600, X600, e600, W600, st600⟩ := own_putR X599 hx hZ hown (hw _ (List.mem_of_getElem? (i := 48) rfl)) e599 T3 ET (hw _ (List.mem_of_getElem? (i := 49) rfl)) (hw _ (List.mem_of_getElem? (i := 32) rfl)) (ty := .int) (by decide) rfl rfl (g := (mkF m 14 #[.val (.ref a1), .val (.int ky), .val (.ref t)] [(.int (wr - (1 : Int32))), (.ref t)])) rfl rfl (hb hby d7_14)
  refine own_by st600 ?_
  have N600 := Fr.snoc X600 N0 g1
  have fw600 := T3.same W600
  have K601 := K0.wr W600 (Or.inl (List.mem_of_getElem? (i := 0) rfl))
  have Z600 : n0 ≤ h600.size := Nat.le_trans Z0 (Keep.of_wr W600).1
  show own_Go p e below _ T600 (mkF m 17 #[.val (.ref a1), .val (.int ky), .val (.ref t)] [])
  refine own_by (fun _ k => XS.aloadN X600.here hx rfl (hb hby d7_17) rfl rfl k) ?_
  have f602 := (ET.wr W600)
  have f603 := (T1.other W600 (Or.inr (slot_ne (Or.inl (hw _ (List.mem_of_getElem? (i := 39) rfl))) (Or.inl (hw _ (List.mem_of_getElem? (i := 49) rfl))) (by decide) (t := .long) (t' := .int) (by decide) (by decide))))
  have f604 := (T2.other W600 (Or.inr (slot_ne (Or.inl (hw _ (List.mem_of_getElem? (i := 47) rfl))) (Or.inl (hw _ (List.mem_of_getElem? (i := 49) rfl))) (by decide) (t := .long) (t' := .int) (by decide) (by decide))))
  have f605 := (T4.other W600 (Or.inr (slot_ne (Or.inl (hw _ (List.mem_of_getElem? (i := 51) rfl))) (Or.inl (hw _ (List.mem_of_getElem? (i := 49) rfl))) (by decide) (t := .long) (t' := .int) (by decide) (by decide))))
  have f606 := (T5.other W600 (Or.inr (slot_ne (Or.inl (hw _ (List.mem_of_getElem? (i := 69) rfl))) (Or.inl (hw _ (List.mem_of_getElem? (i := 49) rfl))) (by decide) (t := .long) (t' := .int) (by decide) (by decide))))
  have f607 := (T6.other W600 (Or.inr (slot_ne (Or.inl (hw _ (List.mem_of_getElem? (i := 71) rfl))) (Or.inl (hw _ (List.mem_of_getElem? (i := 49) rfl))) (by decide) (t := .boolean) (t' := .int) (by decide) (by decide))))
  have f608 := (T7.other W600 (Or.inr (slot_ne (Or.inl (hw _ (List.mem_of_getElem? (i := 73) rfl))) (Or.inl (hw _ (List.mem_of_getElem? (i := 49) rfl))) (by decide) (t := .boolean) (t' := .int) (by decide) (by decide))))
  have f609 := (T8.other W600 (Or.inr (slot_ne (Or.inl (hw _ (List.mem_of_getElem? (i := 76) rfl))) (Or.inl (hw _ (List.mem_of_getElem? (i := 49) rfl))) (by decide) (t := (.object "com/example/eskew/eskew/server/split/CounterValues$Placing")) (t' := .int) (by decide) (by decide))))
  have f610 := (T9.other W600 (Or.inr (slot_ne (Or.inl (hw _ (List.mem_of_getElem? (i := 84) rfl))) (Or.inl (hw _ (List.mem_of_getElem? (i := 49) rfl))) (by decide) (t := .int) (t' := .int) (by decide) (by decide))))
  exact own_retA X600 hx hlk hret rfl rfl (hb hby d7_18) (by first | exact ⟨rfl, N600, K601, ⟨f602, f603, f604, fw600, f605, f606, f607, f608, f609, f610⟩⟩ | (rw [e600]; exact ⟨rfl, N600, K601, ⟨f602, f603, f604, fw600, f605, f606, f607, f608, f609, f610⟩⟩)) (by decide) (by decide)
def Q_rm8 (Z : State) (t : Addr) (q2 : Int64) (sn wn : Int64) (wr : Int32) (al vl : Int64) (kn se rd : Int32) (h0 : Heap) (n0 : Nat) (v : Option Value) (h : Heap) (L : List Loc) : Prop := v = some (.int (if q2 = wn ∧ q2 = al then (1 : Int32) else 0)) ∧ Fr n0 L ∧ h = h0
theorem pn_rm8 : plainFor (⟨"com/example/eskew/eskew/server/split/CounterValues", "alone", "(Lcom/example/eskew/eskew/server/split/CounterValues$Tally;J)Z"⟩ : MethodName) = true := plainFor_of_name (by first | (simp [plainName, overriddenIn, x]; done) | decide +kernel)
theorem d8_0 : decode prog_33_method_21_code 0 = .ok (.lload_n 1, 1) := by decide +kernel
theorem d8_1 : decode prog_33_method_21_code 1 = .ok (.aload_n 0, 1) := by decide +kernel
theorem d8_2 : decode prog_33_method_21_code 2 = .ok (.getfield 39, 3) := by decide +kernel
theorem d8_5 : decode prog_33_method_21_code 5 = .ok (.lcmp, 1) := by decide +kernel
theorem d8_6 : decode prog_33_method_21_code 6 = .ok (.ifCond .ne 16, 3) := by decide +kernel
theorem d8_9 : decode prog_33_method_21_code 9 = .ok (.lload_n 1, 1) := by decide +kernel
theorem d8_10 : decode prog_33_method_21_code 10 = .ok (.aload_n 0, 1) := by decide +kernel
theorem d8_11 : decode prog_33_method_21_code 11 = .ok (.getfield 45, 3) := by decide +kernel
theorem d8_14 : decode prog_33_method_21_code 14 = .ok (.lcmp, 1) := by decide +kernel
theorem d8_15 : decode prog_33_method_21_code 15 = .ok (.ifCond .ne 7, 3) := by decide +kernel
theorem d8_18 : decode prog_33_method_21_code 18 = .ok (.iconst 1, 1) := by decide +kernel
theorem d8_19 : decode prog_33_method_21_code 19 = .ok (.goto 4, 3) := by decide +kernel
theorem d8_23 : decode prog_33_method_21_code 23 = .ok (.ireturn, 1) := by decide +kernel
theorem d8_22 : decode prog_33_method_21_code 22 = .ok (.iconst 0, 1) := by decide +kernel
set_option maxRecDepth 65536 in
set_option maxHeartbeats 40000000 in
theorem rm8 (l : Launch) (Z : State) (a0 : Array Value) (hw : ∀ d ∈ tables_1, d.before a0 Z = true) (ws : List Jvm.Cond) (t : Addr) (q2 : Int64) (sn wn : Int64) (wr : Int32) (al vl : Int64) (kn se rd : Int32) (h0 : Heap) (n0 : Nat) (Z0 : n0 ≤ h0.size) (HT : own_Tal Z h0 t sn wn wr al vl kn se rd) :
    own_Met l Z (⟨"com/example/eskew/eskew/server/split/CounterValues", "alone", "(Lcom/example/eskew/eskew/server/split/CounterValues$Tally;J)Z"⟩ : MethodName) prog_33_method_21_code 3 (some .boolean) ws ({ frames := 0, cells := 0, slots := 0, locals := 0 } : Room) #[(.ref t), (.long q2)] h0 (Q_rm8 Z t q2 sn wn wr al vl kn se rd h0 n0) := by
  refine own_enter (g0 := fun m => (mkF m 0 #[.val (.ref t), .val (.long q2), .second] [])) pn_rm8 (fun m => by first | (simp [entryFrame, mkF, argsToLocals, Value.category, maxLocals]; done) | rfl) ?_
  intro p e s m below meth c s₁ hx hby hml hown hnm hret hlk hZ X0 e0
  have hml : c.maxLocals = 3 := hml
  have hown : s.vm.findClass "com/example/eskew/eskew/server/split/CounterValues" = some m.cls := hown
  have N0 := Fr.nil n0
  obtain ⟨ET, T1, T2, T3, T4, T5, T6, T7, T8, T9⟩ := HT
  refine own_by (fun _ k => XS.lloadN X0.here hx rfl (hb hby d8_0) rfl k) ?_
  refine own_by (fun _ k => XS.aloadN X0.here hx rfl (hb hby d8_1) rfl rfl k) ?_
  show own_Go p e below _ s₁ (mkF m 2 #[.val (.ref t), .val (.long q2), .second] [(.ref t), (.long q2)])
  obtain ⟨T611, X611, e611, st611⟩ := own_getR X0 hx hZ hown (hw _ (List.mem_of_getElem? (i := 46) rfl)) e0 T2 (g := (mkF m 2 #[.val (.ref t), .val (.long q2), .second] [(.ref t), (.long q2)])) rfl rfl (hb hby d8_2)
  refine own_by st611 ?_
  refine own_by (fun _ k => XS.lcmp X611.here hx rfl (hb hby d8_5) rfl k) ?_
  by_cases h1 : q2 = wn
  · refine own_by (fun _ k => XS.ifNo X611.here hx rfl (hb hby d8_6) rfl ((if0 _ _).trans (teq ((lw_eq _ _).mpr h1 : (lcmpW q2 wn) = (0 : Int32))).2) k) ?_
    show own_Go p e below _ T611 (mkF m 9 #[.val (.ref t), .val (.long q2), .second] [])
    refine own_by (fun _ k => XS.lloadN X611.here hx rfl (hb hby d8_9) rfl k) ?_
    refine own_by (fun _ k => XS.aloadN X611.here hx rfl (hb hby d8_10) rfl rfl k) ?_
    obtain ⟨T612, X612, e612, st612⟩ := own_getR X611 hx hZ hown (hw _ (List.mem_of_getElem? (i := 50) rfl)) e611 T4 (g := (mkF m 11 #[.val (.ref t), .val (.long q2), .second] [(.ref t), (.long q2)])) rfl rfl (hb hby d8_11)
    refine own_by st612 ?_
    show own_Go p e below _ T612 (mkF m 14 #[.val (.ref t), .val (.long q2), .second] [(.long al), (.long q2)])
    refine own_by (fun _ k => XS.lcmp X612.here hx rfl (hb hby d8_14) rfl k) ?_
    by_cases h2 : q2 = al
    · refine own_by (fun _ k => XS.ifNo X612.here hx rfl (hb hby d8_15) rfl ((if0 _ _).trans (teq ((lw_eq _ _).mpr h2 : (lcmpW q2 al) = (0 : Int32))).2) k) ?_
      refine own_by (fun _ k => XS.iconst X612.here hx rfl (hb hby d8_18) k) ?_
      show own_Go p e below _ T612 (mkF m 19 #[.val (.ref t), .val (.long q2), .second] [(.int (1 : Int32))])
      refine own_by (fun _ k => XS.goto X612.here hx rfl (pc0 := 19) (pc' := 23) rfl (hb hby d8_19) (by decide) (by decide) k) ?_
      exact own_retN X612 hx hlk hret (by simp) rfl (hb hby d8_23) (by first | exact ⟨congrArg (fun z : Int32 => some (Value.int z)) (if_pos ⟨h1, h2⟩).symm, N0, rfl⟩ | (rw [e612]; exact ⟨congrArg (fun z : Int32 => some (Value.int z)) (if_pos ⟨h1, h2⟩).symm, N0, rfl⟩)) (by decide) (by decide)
    · refine own_by (fun _ k => XS.ifYes X612.here hx rfl (pc0 := 15) (pc' := 22) rfl (hb hby d8_15) rfl ((if0 _ _).trans (feq (fun q => h2 ((lw_eq _ _).mp q) : ¬ ((lcmpW q2 al) = (0 : Int32)))).2) (by decide) (by decide) k) ?_
      refine own_by (fun _ k => XS.iconst X612.here hx rfl (hb hby d8_22) k) ?_
      show own_Go p e below _ T612 (mkF m 23 #[.val (.ref t), .val (.long q2), .second] [(.int (0 : Int32))])
      exact own_retN X612 hx hlk hret (by simp) rfl (hb hby d8_23) (by first | exact ⟨congrArg (fun z : Int32 => some (Value.int z)) (if_neg (fun q => h2 q.2)).symm, N0, rfl⟩ | (rw [e612]; exact ⟨congrArg (fun z : Int32 => some (Value.int z)) (if_neg (fun q => h2 q.2)).symm, N0, rfl⟩)) (by decide) (by decide)
  · refine own_by (fun _ k => XS.ifYes X611.here hx rfl (pc0 := 6) (pc' := 22) rfl (hb hby d8_6) rfl ((if0 _ _).trans (feq (fun q => h1 ((lw_eq _ _).mp q) : ¬ ((lcmpW q2 wn) = (0 : Int32)))).2) (by decide) (by decide) k) ?_
    show own_Go p e below _ T611 (mkF m 22 #[.val (.ref t), .val (.long q2), .second] [])
    refine own_by (fun _ k => XS.iconst X611.here hx rfl (hb hby d8_22) k) ?_
    exact own_retN X611 hx hlk hret (by simp) rfl (hb hby d8_23) (by first | exact ⟨congrArg (fun z : Int32 => some (Value.int z)) (if_neg (fun q => h1 q.1)).symm, N0, rfl⟩ | (rw [e611]; exact ⟨congrArg (fun z : Int32 => some (Value.int z)) (if_neg (fun q => h1 q.1)).symm, N0, rfl⟩)) (by decide) (by decide)
def Q_rm9 (Z : State) (a1 ta t : Addr) (kt : ClassId) (vs : List Value) (nk ky : Int32) (q2 q3 : Int64) (sn wn : Int64) (wr : Int32) (al vl : Int64) (kn se rd : Int32) (h0 : Heap) (n0 : Nat) (v : Option Value) (h : Heap) (L : List Loc) : Prop := v = none ∧ Fr n0 L ∧ Keep h0 h [t] ∧ own_Tal Z h t q3 wn wr al q2 1 1 rd
theorem pn_rm9 : plainFor (⟨"com/example/eskew/eskew/server/split/CounterValues", "settle", "(IJJ)V"⟩ : MethodName) = true := plainFor_of_name (by first | (simp [plainName, overriddenIn, x]; done) | decide +kernel)
theorem d9_0 : decode prog_33_method_26_code 0 = .ok (.aload_n 0, 1) := by decide +kernel
theorem d9_1 : decode prog_33_method_26_code 1 = .ok (.getfield 32, 3) := by decide +kernel
theorem d9_4 : decode prog_33_method_26_code 4 = .ok (.iload_n 1, 1) := by decide +kernel
theorem d9_5 : decode prog_33_method_26_code 5 = .ok (.aaload, 1) := by decide +kernel
theorem d9_6 : decode prog_33_method_26_code 6 = .ok (.astore 6, 2) := by decide +kernel
theorem d9_8 : decode prog_33_method_26_code 8 = .ok (.aload 6, 2) := by decide +kernel
theorem d9_10 : decode prog_33_method_26_code 10 = .ok (.lload_n 2, 1) := by decide +kernel
theorem d9_11 : decode prog_33_method_26_code 11 = .ok (.putfield 62, 3) := by decide +kernel
theorem d9_14 : decode prog_33_method_26_code 14 = .ok (.aload 6, 2) := by decide +kernel
theorem d9_16 : decode prog_33_method_26_code 16 = .ok (.iconst 1, 1) := by decide +kernel
theorem d9_17 : decode prog_33_method_26_code 17 = .ok (.putfield 133, 3) := by decide +kernel
theorem d9_20 : decode prog_33_method_26_code 20 = .ok (.aload 6, 2) := by decide +kernel
theorem d9_22 : decode prog_33_method_26_code 22 = .ok (.iconst 1, 1) := by decide +kernel
theorem d9_23 : decode prog_33_method_26_code 23 = .ok (.putfield 143, 3) := by decide +kernel
theorem d9_26 : decode prog_33_method_26_code 26 = .ok (.aload 6, 2) := by decide +kernel
theorem d9_28 : decode prog_33_method_26_code 28 = .ok (.lload 4, 2) := by decide +kernel
theorem d9_30 : decode prog_33_method_26_code 30 = .ok (.putfield 140, 3) := by decide +kernel
theorem d9_33 : decode prog_33_method_26_code 33 = .ok (.aload 6, 2) := by decide +kernel
theorem d9_35 : decode prog_33_method_26_code 35 = .ok (.aconst_null, 1) := by decide +kernel
theorem d9_36 : decode prog_33_method_26_code 36 = .ok (.putfield 68, 3) := by decide +kernel
theorem d9_39 : decode prog_33_method_26_code 39 = .ok (.iload_n 1, 1) := by decide +kernel
theorem d9_40 : decode prog_33_method_26_code 40 = .ok (.aload_n 0, 1) := by decide +kernel
theorem d9_41 : decode prog_33_method_26_code 41 = .ok (.getfield 19, 3) := by decide +kernel
theorem d9_44 : decode prog_33_method_26_code 44 = .ok (.if_icmp .ne 8, 3) := by decide +kernel
theorem d9_52 : decode prog_33_method_26_code 52 = .ok (.return_, 1) := by decide +kernel
set_option maxRecDepth 65536 in
set_option maxHeartbeats 40000000 in
theorem rm9 (l : Launch) (Z : State) (a0 : Array Value) (hw : ∀ d ∈ tables_1, d.before a0 Z = true) (ws : List Jvm.Cond) (a1 ta t : Addr) (kt : ClassId) (vs : List Value) (nk ky : Int32) (q2 q3 : Int64) (sn wn : Int64) (wr : Int32) (al vl : Int64) (kn se rd : Int32) (h0 : Heap) (n0 : Nat) (Z0 : n0 ≤ h0.size) (g1 : n0 ≤ t) (hk : ¬ ky < 0 ∧ ky < nk) (hv : vs.getD ky.toNatClampNeg .null = .ref t) (nat : a1 ≠ t) (ntt : ta ≠ t) (Fa : Fld Z h0 a1 "com/example/eskew/eskew/server/split/CounterValues" "tallies" "[Lcom/example/eskew/eskew/server/split/CounterValues$Tally;" (.ref ta)) (Va : Arv Z h0 ta kt (.object "com/example/eskew/eskew/server/split/CounterValues$Tally") nk vs .null) (HT : own_Tal Z h0 t sn wn wr al vl kn se rd) (Fr0 : Fld Z h0 a1 "com/example/eskew/eskew/server/split/CounterValues" "resting" "I" (.int (-1 : Int32))) :
    own_Met l Z (⟨"com/example/eskew/eskew/server/split/CounterValues", "settle", "(IJJ)V"⟩ : MethodName) prog_33_method_26_code 7 none ws ({ frames := 0, cells := 0, slots := 0, locals := 0 } : Room) #[(.ref a1), (.int ky), (.long q2), (.long q3)] h0 (Q_rm9 Z a1 ta t kt vs nk ky q2 q3 sn wn wr al vl kn se rd h0 n0) := by
  refine own_enter (g0 := fun m => (mkF m 0 #[.val (.ref a1), .val (.int ky), .val (.long q2), .second, .val (.long q3), .second, .unset] [])) pn_rm9 (fun m => by first | (simp [entryFrame, mkF, argsToLocals, Value.category, maxLocals]; done) | rfl) ?_
  intro p e s m below meth c s₁ hx hby hml hown hnm hret hlk hZ X0 e0
  have hml : c.maxLocals = 7 := hml
  have hown : s.vm.findClass "com/example/eskew/eskew/server/split/CounterValues" = some m.cls := hown
  have N0 := Fr.nil n0
  obtain ⟨ET, T1, T2, T3, T4, T5, T6, T7, T8, T9⟩ := HT
  have K0 := Keep.refl h0 [t]
  refine own_by (fun _ k => XS.aloadN X0.here hx rfl (hb hby d9_0) rfl rfl k) ?_
  obtain ⟨T613, X613, e613, st613⟩ := getF X0 hx hZ hown (host := "") (Or.inl (hw _ (List.mem_of_getElem? (i := 30) rfl))) Via.refl e0 Fa (g := (mkF m 1 #[.val (.ref a1), .val (.int ky), .val (.long q2), .second, .val (.long q3), .second, .unset] [(.ref a1)])) rfl rfl (hb hby d9_1)
  refine own_by st613 ?_
  show own_Go p e below _ T613 (mkF m 4 #[.val (.ref a1), .val (.int ky), .val (.long q2), .second, .val (.long q3), .second, .unset] [(.ref ta)])
  refine own_by (fun _ k => XS.iloadN X613.here hx rfl (hb hby d9_4) rfl k) ?_
  obtain ⟨cl614, Ar614, cq614, hin614, hat614, set614⟩ := own_arv Va (j := ky) hk
  refine own_by (fun _ k => X613.aaload hx (j := ky) (v := (.ref t)) (by rw [e613]; exact Ar614.1) (State.isArrayOf_alike hZ.alike Ar614.2.1) rfl Ar614.2.2 hin614 (by rw [hat614]; exact congrArg some hv) (g := (mkF m 5 #[.val (.ref a1), .val (.int ky), .val (.long q2), .second, .val (.long q3), .second, .unset] [(.int ky), (.ref ta)])) rfl rfl (hb hby d9_5) _ k) ?_
  refine own_by (fun _ k => XS.astore X613.here hx rfl (hb hby d9_6) rfl rfl (l' := #[.val (.ref a1), .val (.int ky), .val (.long q2), .second, .val (.long q3), .second, .val (.ref t)]) rfl k) ?_
  show own_Go p e below _ T613 (mkF m 8 #[.val (.ref a1), .val (.int ky), .val (.long q2), .second, .val (.long q3), .second, .val (.ref t)] [])
  refine own_by (fun _ k => XS.aload X613.here hx rfl (hb hby d9_8) rfl rfl k) ?_
  refine own_by (fun _ k => XS.lloadN X613.here hx rfl (hb hby d9_10) rfl k) ?_
  obtain ⟨T615, h615, X615, e615, W615, st615⟩ := own_putR X613 hx hZ hown (hw _ (List.mem_of_getElem? (i := 68) rfl)) e613 T5 ET (hw _ (List.mem_of_getElem? (i := 69) rfl)) (hw _ (List.mem_of_getElem? (i := 32) rfl)) (ty := .long) (by decide) rfl rfl (g := (mkF m 11 #[.val (.ref a1), .val (.int ky), .val (.long q2), .second, .val (.long q3), .second, .val (.ref t)] [(.long q2), (.ref t)])) rfl rfl (hb hby d9_11)
  refine own_by st615 ?_
  have N615 := Fr.snoc X615 N0 g1
  have fw615 := T5.same W615
  have K616 := K0.wr W615 (Or.inl (List.mem_of_getElem? (i := 0) rfl))
  have Z615 : n0 ≤ h615.size := Nat.le_trans Z0 (Keep.of_wr W615).1
  show own_Go p e below _ T615 (mkF m 14 #[.val (.ref a1), .val (.int ky), .val (.long q2), .second, .val (.long q3), .second, .val (.ref t)] [])
  refine own_by (fun _ k => XS.aload X615.here hx rfl (hb hby d9_14) rfl rfl k) ?_
  refine own_by (fun _ k => XS.iconst X615.here hx rfl (hb hby d9_16) k) ?_
  have f618 := (T6.other W615 (Or.inr (slot_ne (Or.inl (hw _ (List.mem_of_getElem? (i := 71) rfl))) (Or.inl (hw _ (List.mem_of_getElem? (i := 69) rfl))) (by decide) (t := .boolean) (t' := .long) (by decide) (by decide))))
  have f619 := (ET.wr W615)
  obtain ⟨T617, h617, X617, e617, W617, st617⟩ := own_putR X615 hx hZ hown (hw _ (List.mem_of_getElem? (i := 70) rfl)) e615 f618 f619 (hw _ (List.mem_of_getElem? (i := 71) rfl)) (hw _ (List.mem_of_getElem? (i := 32) rfl)) (ty := .boolean) (by decide) rfl rfl (g := (mkF m 17 #[.val (.ref a1), .val (.int ky), .val (.long q2), .second, .val (.long q3), .second, .val (.ref t)] [(.int (1 : Int32)), (.ref t)])) rfl rfl (hb hby d9_17)
  refine own_by st617 ?_
  have N617 := Fr.snoc X617 N615 g1
  have fw617 := f618.same W617
  have K620 := K616.wr W617 (Or.inl (List.mem_of_getElem? (i := 0) rfl))
  have Z617 : n0 ≤ h617.size := Nat.le_trans Z615 (Keep.of_wr W617).1
  show own_Go p e below _ T617 (mkF m 20 #[.val (.ref a1), .val (.int ky), .val (.long q2), .second, .val (.long q3), .second, .val (.ref t)] [])
  refine own_by (fun _ k => XS.aload X617.here hx rfl (hb hby d9_20) rfl rfl k) ?_
  refine own_by (fun _ k => XS.iconst X617.here hx rfl (hb hby d9_22) k) ?_
  have f622 := ((T7.other W615 (Or.inr (slot_ne (Or.inl (hw _ (List.mem_of_getElem? (i := 73) rfl))) (Or.inl (hw _ (List.mem_of_getElem? (i := 69) rfl))) (by decide) (t := .boolean) (t' := .long) (by decide) (by decide)))).other W617 (Or.inr (slot_ne (Or.inl (hw _ (List.mem_of_getElem? (i := 73) rfl))) (Or.inl (hw _ (List.mem_of_getElem? (i := 71) rfl))) (by decide) (t := .boolean) (t' := .boolean) (by decide) (by decide))))
  have f623 := (f619.wr W617)
  obtain ⟨T621, h621, X621, e621, W621, st621⟩ := own_putR X617 hx hZ hown (hw _ (List.mem_of_getElem? (i := 72) rfl)) e617 f622 f623 (hw _ (List.mem_of_getElem? (i := 73) rfl)) (hw _ (List.mem_of_getElem? (i := 32) rfl)) (ty := .boolean) (by decide) rfl rfl (g := (mkF m 23 #[.val (.ref a1), .val (.int ky), .val (.long q2), .second, .val (.long q3), .second, .val (.ref t)] [(.int (1 : Int32)), (.ref t)])) rfl rfl (hb hby d9_23)
  refine own_by st621 ?_
  have N621 := Fr.snoc X621 N617 g1
  have fw621 := f622.same W621
  have K624 := K620.wr W621 (Or.inl (List.mem_of_getElem? (i := 0) rfl))
  have Z621 : n0 ≤ h621.size := Nat.le_trans Z617 (Keep.of_wr W621).1
  show own_Go p e below _ T621 (mkF m 26 #[.val (.ref a1), .val (.int ky), .val (.long q2), .second, .val (.long q3), .second, .val (.ref t)] [])
  refine own_by (fun _ k => XS.aload X621.here hx rfl (hb hby d9_26) rfl rfl k) ?_
  refine own_by (fun _ k => XS.lload X621.here hx rfl (hb hby d9_28) rfl k) ?_
  have f626 := (((T1.other W615 (Or.inr (slot_ne (Or.inl (hw _ (List.mem_of_getElem? (i := 39) rfl))) (Or.inl (hw _ (List.mem_of_getElem? (i := 69) rfl))) (by decide) (t := .long) (t' := .long) (by decide) (by decide)))).other W617 (Or.inr (slot_ne (Or.inl (hw _ (List.mem_of_getElem? (i := 39) rfl))) (Or.inl (hw _ (List.mem_of_getElem? (i := 71) rfl))) (by decide) (t := .long) (t' := .boolean) (by decide) (by decide)))).other W621 (Or.inr (slot_ne (Or.inl (hw _ (List.mem_of_getElem? (i := 39) rfl))) (Or.inl (hw _ (List.mem_of_getElem? (i := 73) rfl))) (by decide) (t := .long) (t' := .boolean) (by decide) (by decide))))
  have f627 := (f623.wr W621)
  obtain ⟨T625, h625, X625, e625, W625, st625⟩ := own_putR X621 hx hZ hown (hw _ (List.mem_of_getElem? (i := 74) rfl)) e621 f626 f627 (hw _ (List.mem_of_getElem? (i := 39) rfl)) (hw _ (List.mem_of_getElem? (i := 32) rfl)) (ty := .long) (by decide) rfl rfl (g := (mkF m 30 #[.val (.ref a1), .val (.int ky), .val (.long q2), .second, .val (.long q3), .second, .val (.ref t)] [(.long q3), (.ref t)])) rfl rfl (hb hby d9_30)
  refine own_by st625 ?_
  have N625 := Fr.snoc X625 N621 g1
  have fw625 := f626.same W625
  have K628 := K624.wr W625 (Or.inl (List.mem_of_getElem? (i := 0) rfl))
  have Z625 : n0 ≤ h625.size := Nat.le_trans Z621 (Keep.of_wr W625).1
  show own_Go p e below _ T625 (mkF m 33 #[.val (.ref a1), .val (.int ky), .val (.long q2), .second, .val (.long q3), .second, .val (.ref t)] [])
  refine own_by (fun _ k => XS.aload X625.here hx rfl (hb hby d9_33) rfl rfl k) ?_
  refine own_by (fun _ k => XS.aconstNull X625.here hx rfl (hb hby d9_35) k) ?_
  have f630 := ((((T8.other W615 (Or.inr (slot_ne (Or.inl (hw _ (List.mem_of_getElem? (i := 76) rfl))) (Or.inl (hw _ (List.mem_of_getElem? (i := 69) rfl))) (by decide) (t := (.object "com/example/eskew/eskew/server/split/CounterValues$Placing")) (t' := .long) (by decide) (by decide)))).other W617 (Or.inr (slot_ne (Or.inl (hw _ (List.mem_of_getElem? (i := 76) rfl))) (Or.inl (hw _ (List.mem_of_getElem? (i := 71) rfl))) (by decide) (t := (.object "com/example/eskew/eskew/server/split/CounterValues$Placing")) (t' := .boolean) (by decide) (by decide)))).other W621 (Or.inr (slot_ne (Or.inl (hw _ (List.mem_of_getElem? (i := 76) rfl))) (Or.inl (hw _ (List.mem_of_getElem? (i := 73) rfl))) (by decide) (t := (.object "com/example/eskew/eskew/server/split/CounterValues$Placing")) (t' := .boolean) (by decide) (by decide)))).other W625 (Or.inr (slot_ne (Or.inl (hw _ (List.mem_of_getElem? (i := 76) rfl))) (Or.inl (hw _ (List.mem_of_getElem? (i := 39) rfl))) (by decide) (t := (.object "com/example/eskew/eskew/server/split/CounterValues$Placing")) (t' := .long) (by decide) (by decide))))
  have f631 := (f627.wr W625)
  obtain ⟨T629, h629, X629, e629, W629, st629⟩ := own_putR X625 hx hZ hown (hw _ (List.mem_of_getElem? (i := 75) rfl)) e625 f630 f631 (hw _ (List.mem_of_getElem? (i := 76) rfl)) (hw _ (List.mem_of_getElem? (i := 32) rfl)) (ty := (.object "com/example/eskew/eskew/server/split/CounterValues$Placing")) (by decide) rfl rfl (g := (mkF m 36 #[.val (.ref a1), .val (.int ky), .val (.long q2), .second, .val (.long q3), .second, .val (.ref t)] [.null, (.ref t)])) rfl rfl (hb hby d9_36)
  refine own_by st629 ?_
  have N629 := Fr.snoc X629 N625 g1
  have fw629 := f630.same W629
  have K632 := K628.wr W629 (Or.inl (List.mem_of_getElem? (i := 0) rfl))
  have Z629 : n0 ≤ h629.size := Nat.le_trans Z625 (Keep.of_wr W629).1
  show own_Go p e below _ T629 (mkF m 39 #[.val (.ref a1), .val (.int ky), .val (.long q2), .second, .val (.long q3), .second, .val (.ref t)] [])
  refine own_by (fun _ k => XS.iloadN X629.here hx rfl (hb hby d9_39) rfl k) ?_
  refine own_by (fun _ k => XS.aloadN X629.here hx rfl (hb hby d9_40) rfl rfl k) ?_
  have f634 := (((((Fr0.other W615 (Or.inl nat)).other W617 (Or.inl nat)).other W621 (Or.inl nat)).other W625 (Or.inl nat)).other W629 (Or.inl nat))
  obtain ⟨T633, X633, e633, st633⟩ := getF X629 hx hZ hown (host := "") (Or.inl (hw _ (List.mem_of_getElem? (i := 22) rfl))) Via.refl e629 f634 (g := (mkF m 41 #[.val (.ref a1), .val (.int ky), .val (.long q2), .second, .val (.long q3), .second, .val (.ref t)] [(.ref a1), (.int ky)])) rfl rfl (hb hby d9_41)
  refine own_by st633 ?_
  show own_Go p e below _ T633 (mkF m 44 #[.val (.ref a1), .val (.int ky), .val (.long q2), .second, .val (.long q3), .second, .val (.ref t)] [(.int (-1 : Int32)), (.int ky)])
  refine own_by (fun _ k => XS.icmpYes X633.here hx rfl (pc0 := 44) (pc' := 52) rfl (hb hby d9_44) rfl (feq (fun q => hk.1 (by rw [q]; decide) : ¬ (ky = (-1 : Int32)))).2 (by decide) (by decide) k) ?_
  have f635 := (f631.wr W629)
  have f636 := (fw625.other W629 (Or.inr (slot_ne (Or.inl (hw _ (List.mem_of_getElem? (i := 39) rfl))) (Or.inl (hw _ (List.mem_of_getElem? (i := 76) rfl))) (by decide) (t := .long) (t' := (.object "com/example/eskew/eskew/server/split/CounterValues$Placing")) (by decide) (by decide))))
  have f637 := (((((T2.other W615 (Or.inr (slot_ne (Or.inl (hw _ (List.mem_of_getElem? (i := 47) rfl))) (Or.inl (hw _ (List.mem_of_getElem? (i := 69) rfl))) (by decide) (t := .long) (t' := .long) (by decide) (by decide)))).other W617 (Or.inr (slot_ne (Or.inl (hw _ (List.mem_of_getElem? (i := 47) rfl))) (Or.inl (hw _ (List.mem_of_getElem? (i := 71) rfl))) (by decide) (t := .long) (t' := .boolean) (by decide) (by decide)))).other W621 (Or.inr (slot_ne (Or.inl (hw _ (List.mem_of_getElem? (i := 47) rfl))) (Or.inl (hw _ (List.mem_of_getElem? (i := 73) rfl))) (by decide) (t := .long) (t' := .boolean) (by decide) (by decide)))).other W625 (Or.inr (slot_ne (Or.inl (hw _ (List.mem_of_getElem? (i := 47) rfl))) (Or.inl (hw _ (List.mem_of_getElem? (i := 39) rfl))) (by decide) (t := .long) (t' := .long) (by decide) (by decide)))).other W629 (Or.inr (slot_ne (Or.inl (hw _ (List.mem_of_getElem? (i := 47) rfl))) (Or.inl (hw _ (List.mem_of_getElem? (i := 76) rfl))) (by decide) (t := .long) (t' := (.object "com/example/eskew/eskew/server/split/CounterValues$Placing")) (by decide) (by decide))))
  have f638 := (((((T3.other W615 (Or.inr (slot_ne (Or.inl (hw _ (List.mem_of_getElem? (i := 49) rfl))) (Or.inl (hw _ (List.mem_of_getElem? (i := 69) rfl))) (by decide) (t := .int) (t' := .long) (by decide) (by decide)))).other W617 (Or.inr (slot_ne (Or.inl (hw _ (List.mem_of_getElem? (i := 49) rfl))) (Or.inl (hw _ (List.mem_of_getElem? (i := 71) rfl))) (by decide) (t := .int) (t' := .boolean) (by decide) (by decide)))).other W621 (Or.inr (slot_ne (Or.inl (hw _ (List.mem_of_getElem? (i := 49) rfl))) (Or.inl (hw _ (List.mem_of_getElem? (i := 73) rfl))) (by decide) (t := .int) (t' := .boolean) (by decide) (by decide)))).other W625 (Or.inr (slot_ne (Or.inl (hw _ (List.mem_of_getElem? (i := 49) rfl))) (Or.inl (hw _ (List.mem_of_getElem? (i := 39) rfl))) (by decide) (t := .int) (t' := .long) (by decide) (by decide)))).other W629 (Or.inr (slot_ne (Or.inl (hw _ (List.mem_of_getElem? (i := 49) rfl))) (Or.inl (hw _ (List.mem_of_getElem? (i := 76) rfl))) (by decide) (t := .int) (t' := (.object "com/example/eskew/eskew/server/split/CounterValues$Placing")) (by decide) (by decide))))
  have f639 := (((((T4.other W615 (Or.inr (slot_ne (Or.inl (hw _ (List.mem_of_getElem? (i := 51) rfl))) (Or.inl (hw _ (List.mem_of_getElem? (i := 69) rfl))) (by decide) (t := .long) (t' := .long) (by decide) (by decide)))).other W617 (Or.inr (slot_ne (Or.inl (hw _ (List.mem_of_getElem? (i := 51) rfl))) (Or.inl (hw _ (List.mem_of_getElem? (i := 71) rfl))) (by decide) (t := .long) (t' := .boolean) (by decide) (by decide)))).other W621 (Or.inr (slot_ne (Or.inl (hw _ (List.mem_of_getElem? (i := 51) rfl))) (Or.inl (hw _ (List.mem_of_getElem? (i := 73) rfl))) (by decide) (t := .long) (t' := .boolean) (by decide) (by decide)))).other W625 (Or.inr (slot_ne (Or.inl (hw _ (List.mem_of_getElem? (i := 51) rfl))) (Or.inl (hw _ (List.mem_of_getElem? (i := 39) rfl))) (by decide) (t := .long) (t' := .long) (by decide) (by decide)))).other W629 (Or.inr (slot_ne (Or.inl (hw _ (List.mem_of_getElem? (i := 51) rfl))) (Or.inl (hw _ (List.mem_of_getElem? (i := 76) rfl))) (by decide) (t := .long) (t' := (.object "com/example/eskew/eskew/server/split/CounterValues$Placing")) (by decide) (by decide))))
  have f640 := ((((fw615.other W617 (Or.inr (slot_ne (Or.inl (hw _ (List.mem_of_getElem? (i := 69) rfl))) (Or.inl (hw _ (List.mem_of_getElem? (i := 71) rfl))) (by decide) (t := .long) (t' := .boolean) (by decide) (by decide)))).other W621 (Or.inr (slot_ne (Or.inl (hw _ (List.mem_of_getElem? (i := 69) rfl))) (Or.inl (hw _ (List.mem_of_getElem? (i := 73) rfl))) (by decide) (t := .long) (t' := .boolean) (by decide) (by decide)))).other W625 (Or.inr (slot_ne (Or.inl (hw _ (List.mem_of_getElem? (i := 69) rfl))) (Or.inl (hw _ (List.mem_of_getElem? (i := 39) rfl))) (by decide) (t := .long) (t' := .long) (by decide) (by decide)))).other W629 (Or.inr (slot_ne (Or.inl (hw _ (List.mem_of_getElem? (i := 69) rfl))) (Or.inl (hw _ (List.mem_of_getElem? (i := 76) rfl))) (by decide) (t := .long) (t' := (.object "com/example/eskew/eskew/server/split/CounterValues$Placing")) (by decide) (by decide))))
  have f641 := (((fw617.other W621 (Or.inr (slot_ne (Or.inl (hw _ (List.mem_of_getElem? (i := 71) rfl))) (Or.inl (hw _ (List.mem_of_getElem? (i := 73) rfl))) (by decide) (t := .boolean) (t' := .boolean) (by decide) (by decide)))).other W625 (Or.inr (slot_ne (Or.inl (hw _ (List.mem_of_getElem? (i := 71) rfl))) (Or.inl (hw _ (List.mem_of_getElem? (i := 39) rfl))) (by decide) (t := .boolean) (t' := .long) (by decide) (by decide)))).other W629 (Or.inr (slot_ne (Or.inl (hw _ (List.mem_of_getElem? (i := 71) rfl))) (Or.inl (hw _ (List.mem_of_getElem? (i := 76) rfl))) (by decide) (t := .boolean) (t' := (.object "com/example/eskew/eskew/server/split/CounterValues$Placing")) (by decide) (by decide))))
  have f642 := ((fw621.other W625 (Or.inr (slot_ne (Or.inl (hw _ (List.mem_of_getElem? (i := 73) rfl))) (Or.inl (hw _ (List.mem_of_getElem? (i := 39) rfl))) (by decide) (t := .boolean) (t' := .long) (by decide) (by decide)))).other W629 (Or.inr (slot_ne (Or.inl (hw _ (List.mem_of_getElem? (i := 73) rfl))) (Or.inl (hw _ (List.mem_of_getElem? (i := 76) rfl))) (by decide) (t := .boolean) (t' := (.object "com/example/eskew/eskew/server/split/CounterValues$Placing")) (by decide) (by decide))))
  have f643 := (((((T9.other W615 (Or.inr (slot_ne (Or.inl (hw _ (List.mem_of_getElem? (i := 84) rfl))) (Or.inl (hw _ (List.mem_of_getElem? (i := 69) rfl))) (by decide) (t := .int) (t' := .long) (by decide) (by decide)))).other W617 (Or.inr (slot_ne (Or.inl (hw _ (List.mem_of_getElem? (i := 84) rfl))) (Or.inl (hw _ (List.mem_of_getElem? (i := 71) rfl))) (by decide) (t := .int) (t' := .boolean) (by decide) (by decide)))).other W621 (Or.inr (slot_ne (Or.inl (hw _ (List.mem_of_getElem? (i := 84) rfl))) (Or.inl (hw _ (List.mem_of_getElem? (i := 73) rfl))) (by decide) (t := .int) (t' := .boolean) (by decide) (by decide)))).other W625 (Or.inr (slot_ne (Or.inl (hw _ (List.mem_of_getElem? (i := 84) rfl))) (Or.inl (hw _ (List.mem_of_getElem? (i := 39) rfl))) (by decide) (t := .int) (t' := .long) (by decide) (by decide)))).other W629 (Or.inr (slot_ne (Or.inl (hw _ (List.mem_of_getElem? (i := 84) rfl))) (Or.inl (hw _ (List.mem_of_getElem? (i := 76) rfl))) (by decide) (t := .int) (t' := (.object "com/example/eskew/eskew/server/split/CounterValues$Placing")) (by decide) (by decide))))
  exact own_ret0 X633 hx hlk hret (hb hby d9_52) (by first | exact ⟨rfl, N629, K632, ⟨f635, f636, f637, f638, f639, f640, f641, f642, fw629, f643⟩⟩ | (rw [e633]; exact ⟨rfl, N629, K632, ⟨f635, f636, f637, f638, f639, f640, f641, f642, fw629, f643⟩⟩)) (by decide) (by decide)
def Q_rm21 (Z : State) (t : Addr) (sn wn : Int64) (wr : Int32) (al vl : Int64) (kn se rd : Int32) (h0 : Heap) (n0 : Nat) (v : Option Value) (h : Heap) (L : List Loc) : Prop := v = none ∧ Fr n0 L ∧ Keep h0 h [t] ∧ own_Tal Z h t sn wn wr al vl kn 0 rd
theorem pn_rm21 : plainFor (⟨"com/example/eskew/eskew/server/split/CounterValues", "unsettle", "(Lcom/example/eskew/eskew/server/split/CounterValues$Tally;)V"⟩ : MethodName) = true := plainFor_of_name (by first | (simp [plainName, overriddenIn, x]; done) | decide +kernel)
theorem d21_0 : decode prog_33_method_27_code 0 = .ok (.aload_n 0, 1) := by decide +kernel
theorem d21_1 : decode prog_33_method_27_code 1 = .ok (.iconst 0, 1) := by decide +kernel
theorem d21_2 : decode prog_33_method_27_code 2 = .ok (.putfield 143, 3) := by decide +kernel
theorem d21_5 : decode prog_33_method_27_code 5 = .ok (.aload_n 0, 1) := by decide +kernel
theorem d21_6 : decode prog_33_method_27_code 6 = .ok (.aconst_null, 1) := by decide +kernel
theorem d21_7 : decode prog_33_method_27_code 7 = .ok (.putfield 68, 3) := by decide +kernel
theorem d21_10 : decode prog_33_method_27_code 10 = .ok (.return_, 1) := by decide +kernel
set_option maxRecDepth 65536 in
set_option maxHeartbeats 40000000 in
theorem rm21 (l : Launch) (Z : State) (a0 : Array Value) (hw : ∀ d ∈ tables_1, d.before a0 Z = true) (ws : List Jvm.Cond) (t : Addr) (sn wn : Int64) (wr : Int32) (al vl : Int64) (kn se rd : Int32) (h0 : Heap) (n0 : Nat) (Z0 : n0 ≤ h0.size) (g1 : n0 ≤ t) (HT : own_Tal Z h0 t sn wn wr al vl kn se rd) :
    own_Met l Z (⟨"com/example/eskew/eskew/server/split/CounterValues", "unsettle", "(Lcom/example/eskew/eskew/server/split/CounterValues$Tally;)V"⟩ : MethodName) prog_33_method_27_code 1 none ws ({ frames := 0, cells := 0, slots := 0, locals := 0 } : Room) #[(.ref t)] h0 (Q_rm21 Z t sn wn wr al vl kn se rd h0 n0) := by
  refine own_enter (g0 := fun m => (mkF m 0 #[.val (.ref t)] [])) pn_rm21 (fun m => by first | (simp [entryFrame, mkF, argsToLocals, Value.category, maxLocals]; done) | rfl) ?_
  intro p e s m below meth c s₁ hx hby hml hown hnm hret hlk hZ X0 e0
  have hml : c.maxLocals = 1 := hml
  have hown : s.vm.findClass "com/example/eskew/eskew/server/split/CounterValues" = some m.cls := hown
  have N0 := Fr.nil n0
  obtain ⟨ET, T1, T2, T3, T4, T5, T6, T7, T8, T9⟩ := HT
  have K0 := Keep.refl h0 [t]
  refine own_by (fun _ k => XS.aloadN X0.here hx rfl (hb hby d21_0) rfl rfl k) ?_
  refine own_by (fun _ k => XS.iconst X0.here hx rfl (hb hby d21_1) k) ?_
  show own_Go p e below _ s₁ (mkF m 2 #[.val (.ref t)] [(.int (0 : Int32)), (.ref t)])
  obtain ⟨T644, h644, X644, e644, W644, st644⟩ := own_putR X0 hx hZ hown (hw _ (List.mem_of_getElem? (i := 72) rfl)) e0 T7 ET (hw _ (List.mem_of_getElem? (i := 73) rfl)) (hw _ (List.mem_of_getElem? (i := 32) rfl)) (ty := .boolean) (by decide) rfl rfl (g := (mkF m 2 #[.val (.ref t)] [(.int (0 : Int32)), (.ref t)])) rfl rfl (hb hby d21_2)
  refine own_by st644 ?_
  have N644 := Fr.snoc X644 N0 g1
  have fw644 := T7.same W644
  have K645 := K0.wr W644 (Or.inl (List.mem_of_getElem? (i := 0) rfl))
  have Z644 : n0 ≤ h644.size := Nat.le_trans Z0 (Keep.of_wr W644).1
  refine own_by (fun _ k => XS.aloadN X644.here hx rfl (hb hby d21_5) rfl rfl k) ?_
  refine own_by (fun _ k => XS.aconstNull X644.here hx rfl (hb hby d21_6) k) ?_
  show own_Go p e below _ T644 (mkF m 7 #[.val (.ref t)] [.null, (.ref t)])
  have f647 := (T8.other W644 (Or.inr (slot_ne (Or.inl (hw _ (List.mem_of_getElem? (i := 76) rfl))) (Or.inl (hw _ (List.mem_of_getElem? (i := 73) rfl))) (by decide) (t := (.object "com/example/eskew/eskew/server/split/CounterValues$Placing")) (t' := .boolean) (by decide) (by decide))))
  have f648 := (ET.wr W644)
  obtain ⟨T646, h646, X646, e646, W646, st646⟩ := own_putR X644 hx hZ hown (hw _ (List.mem_of_getElem? (i := 75) rfl)) e644 f647 f648 (hw _ (List.mem_of_getElem? (i := 76) rfl)) (hw _ (List.mem_of_getElem? (i := 32) rfl)) (ty := (.object "com/example/eskew/eskew/server/split/CounterValues$Placing")) (by decide) rfl rfl (g := (mkF m 7 #[.val (.ref t)] [.null, (.ref t)])) rfl rfl (hb hby d21_7)
  refine own_by st646 ?_
  have N646 := Fr.snoc X646 N644 g1
  have fw646 := f647.same W646
  have K649 := K645.wr W646 (Or.inl (List.mem_of_getElem? (i := 0) rfl))
  have Z646 : n0 ≤ h646.size := Nat.le_trans Z644 (Keep.of_wr W646).1
  have f650 := (f648.wr W646)
  have f651 := ((T1.other W644 (Or.inr (slot_ne (Or.inl (hw _ (List.mem_of_getElem? (i := 39) rfl))) (Or.inl (hw _ (List.mem_of_getElem? (i := 73) rfl))) (by decide) (t := .long) (t' := .boolean) (by decide) (by decide)))).other W646 (Or.inr (slot_ne (Or.inl (hw _ (List.mem_of_getElem? (i := 39) rfl))) (Or.inl (hw _ (List.mem_of_getElem? (i := 76) rfl))) (by decide) (t := .long) (t' := (.object "com/example/eskew/eskew/server/split/CounterValues$Placing")) (by decide) (by decide))))
  have f652 := ((T2.other W644 (Or.inr (slot_ne (Or.inl (hw _ (List.mem_of_getElem? (i := 47) rfl))) (Or.inl (hw _ (List.mem_of_getElem? (i := 73) rfl))) (by decide) (t := .long) (t' := .boolean) (by decide) (by decide)))).other W646 (Or.inr (slot_ne (Or.inl (hw _ (List.mem_of_getElem? (i := 47) rfl))) (Or.inl (hw _ (List.mem_of_getElem? (i := 76) rfl))) (by decide) (t := .long) (t' := (.object "com/example/eskew/eskew/server/split/CounterValues$Placing")) (by decide) (by decide))))
  have f653 := ((T3.other W644 (Or.inr (slot_ne (Or.inl (hw _ (List.mem_of_getElem? (i := 49) rfl))) (Or.inl (hw _ (List.mem_of_getElem? (i := 73) rfl))) (by decide) (t := .int) (t' := .boolean) (by decide) (by decide)))).other W646 (Or.inr (slot_ne (Or.inl (hw _ (List.mem_of_getElem? (i := 49) rfl))) (Or.inl (hw _ (List.mem_of_getElem? (i := 76) rfl))) (by decide) (t := .int) (t' := (.object "com/example/eskew/eskew/server/split/CounterValues$Placing")) (by decide) (by decide))))
  have f654 := ((T4.other W644 (Or.inr (slot_ne (Or.inl (hw _ (List.mem_of_getElem? (i := 51) rfl))) (Or.inl (hw _ (List.mem_of_getElem? (i := 73) rfl))) (by decide) (t := .long) (t' := .boolean) (by decide) (by decide)))).other W646 (Or.inr (slot_ne (Or.inl (hw _ (List.mem_of_getElem? (i := 51) rfl))) (Or.inl (hw _ (List.mem_of_getElem? (i := 76) rfl))) (by decide) (t := .long) (t' := (.object "com/example/eskew/eskew/server/split/CounterValues$Placing")) (by decide) (by decide))))
  have f655 := ((T5.other W644 (Or.inr (slot_ne (Or.inl (hw _ (List.mem_of_getElem? (i := 69) rfl))) (Or.inl (hw _ (List.mem_of_getElem? (i := 73) rfl))) (by decide) (t := .long) (t' := .boolean) (by decide) (by decide)))).other W646 (Or.inr (slot_ne (Or.inl (hw _ (List.mem_of_getElem? (i := 69) rfl))) (Or.inl (hw _ (List.mem_of_getElem? (i := 76) rfl))) (by decide) (t := .long) (t' := (.object "com/example/eskew/eskew/server/split/CounterValues$Placing")) (by decide) (by decide))))
  have f656 := ((T6.other W644 (Or.inr (slot_ne (Or.inl (hw _ (List.mem_of_getElem? (i := 71) rfl))) (Or.inl (hw _ (List.mem_of_getElem? (i := 73) rfl))) (by decide) (t := .boolean) (t' := .boolean) (by decide) (by decide)))).other W646 (Or.inr (slot_ne (Or.inl (hw _ (List.mem_of_getElem? (i := 71) rfl))) (Or.inl (hw _ (List.mem_of_getElem? (i := 76) rfl))) (by decide) (t := .boolean) (t' := (.object "com/example/eskew/eskew/server/split/CounterValues$Placing")) (by decide) (by decide))))
  have f657 := (fw644.other W646 (Or.inr (slot_ne (Or.inl (hw _ (List.mem_of_getElem? (i := 73) rfl))) (Or.inl (hw _ (List.mem_of_getElem? (i := 76) rfl))) (by decide) (t := .boolean) (t' := (.object "com/example/eskew/eskew/server/split/CounterValues$Placing")) (by decide) (by decide))))
  have f658 := ((T9.other W644 (Or.inr (slot_ne (Or.inl (hw _ (List.mem_of_getElem? (i := 84) rfl))) (Or.inl (hw _ (List.mem_of_getElem? (i := 73) rfl))) (by decide) (t := .int) (t' := .boolean) (by decide) (by decide)))).other W646 (Or.inr (slot_ne (Or.inl (hw _ (List.mem_of_getElem? (i := 84) rfl))) (Or.inl (hw _ (List.mem_of_getElem? (i := 76) rfl))) (by decide) (t := .int) (t' := (.object "com/example/eskew/eskew/server/split/CounterValues$Placing")) (by decide) (by decide))))
  exact own_ret0 X646 hx hlk hret (hb hby d21_10) (by first | exact ⟨rfl, N646, K649, ⟨f650, f651, f652, f653, f654, f655, f656, f657, fw646, f658⟩⟩ | (rw [e646]; exact ⟨rfl, N646, K649, ⟨f650, f651, f652, f653, f654, f655, f656, f657, fw646, f658⟩⟩)) (by decide) (by decide)
def Q_rm6a (Z : State) (a1 ta t : Addr) (kt : ClassId) (vs : List Value) (nk ky : Int32) (q2 q3 q4 : Int64) (sn wn : Int64) (wr : Int32) (al vl : Int64) (kn se rd : Int32) (h0 : Heap) (n0 : Nat) (v : Option Value) (h : Heap) (L : List Loc) : Prop := v = none ∧ Fr n0 L ∧ Keep h0 h [t] ∧ own_Tal Z h t q4 wn (wr - 1) al q3 1 1 rd
theorem pn_rm6a : plainFor (⟨"com/example/eskew/eskew/server/split/CounterValues", "wrote", "(IJJJ)V"⟩ : MethodName) = true := plainFor_of_name (by first | (simp [plainName, overriddenIn, x]; done) | decide +kernel)
theorem d6_0 : decode prog_33_method_8_code 0 = .ok (.aload_n 0, 1) := by decide +kernel
theorem d6_1 : decode prog_33_method_8_code 1 = .ok (.iload_n 1, 1) := by decide +kernel
theorem pd_2 : parseMethodDescriptor "(I)Lcom/example/eskew/eskew/server/split/CounterValues$Tally;" = some ⟨[.int], some (.object "com/example/eskew/eskew/server/split/CounterValues$Tally")⟩ := by decide +kernel
theorem d6_2 : decode prog_33_method_8_code 2 = .ok (.invokevirtual 97, 3) := by decide +kernel
theorem d6_5 : decode prog_33_method_8_code 5 = .ok (.astore 8, 2) := by decide +kernel
theorem d6_7 : decode prog_33_method_8_code 7 = .ok (.aload 8, 2) := by decide +kernel
theorem d6_9 : decode prog_33_method_8_code 9 = .ok (.lload_n 2, 1) := by decide +kernel
theorem pd_3 : parseMethodDescriptor "(Lcom/example/eskew/eskew/server/split/CounterValues$Tally;J)Z" = some ⟨[(.object "com/example/eskew/eskew/server/split/CounterValues$Tally"), .long], some .boolean⟩ := by decide +kernel
theorem d6_10 : decode prog_33_method_8_code 10 = .ok (.invokestatic 101, 3) := by decide +kernel
theorem d6_13 : decode prog_33_method_8_code 13 = .ok (.ifCond .eq 15, 3) := by decide +kernel
theorem d6_16 : decode prog_33_method_8_code 16 = .ok (.aload_n 0, 1) := by decide +kernel
theorem d6_17 : decode prog_33_method_8_code 17 = .ok (.iload_n 1, 1) := by decide +kernel
theorem d6_18 : decode prog_33_method_8_code 18 = .ok (.lload 4, 2) := by decide +kernel
theorem d6_20 : decode prog_33_method_8_code 20 = .ok (.lload 6, 2) := by decide +kernel
theorem pd_4 : parseMethodDescriptor "(IJJ)V" = some ⟨[.int, .long, .long], none⟩ := by decide +kernel
theorem d6_22 : decode prog_33_method_8_code 22 = .ok (.invokevirtual 104, 3) := by decide +kernel
theorem d6_25 : decode prog_33_method_8_code 25 = .ok (.goto 15, 3) := by decide +kernel
theorem d6_40 : decode prog_33_method_8_code 40 = .ok (.return_, 1) := by decide +kernel
set_option maxRecDepth 65536 in
set_option maxHeartbeats 40000000 in
theorem rm6a (l : Launch) (Z : State) (a0 : Array Value) (hw : ∀ d ∈ tables_1, d.before a0 Z = true) (ws : List Jvm.Cond) (a1 ta t : Addr) (kt : ClassId) (vs : List Value) (nk ky : Int32) (q2 q3 q4 : Int64) (sn wn : Int64) (wr : Int32) (al vl : Int64) (kn se rd : Int32) (h0 : Heap) (n0 : Nat) (Z0 : n0 ≤ h0.size) (g1 : n0 ≤ t) (hk : ¬ ky < 0 ∧ ky < nk) (hv : vs.getD ky.toNatClampNeg .null = .ref t) (nat : a1 ≠ t) (ntt : ta ≠ t) (Fa : Fld Z h0 a1 "com/example/eskew/eskew/server/split/CounterValues" "tallies" "[Lcom/example/eskew/eskew/server/split/CounterValues$Tally;" (.ref ta)) (Va : Arv Z h0 ta kt (.object "com/example/eskew/eskew/server/split/CounterValues$Tally") nk vs .null) (HT : own_Tal Z h0 t sn wn wr al vl kn se rd) (E1 : Exa Z h0 a1 "com/example/eskew/eskew/server/split/CounterValues") (Fr0 : Fld Z h0 a1 "com/example/eskew/eskew/server/split/CounterValues" "resting" "I" (.int (-1 : Int32))) (hq : q2 = wn ∧ q2 = al) :
    own_Met l Z (⟨"com/example/eskew/eskew/server/split/CounterValues", "wrote", "(IJJJ)V"⟩ : MethodName) prog_33_method_8_code 9 none ws ({ frames := 2, cells := 0, slots := 0, locals := 48 } : Room) #[(.ref a1), (.int ky), (.long q2), (.long q3), (.long q4)] h0 (Q_rm6a Z a1 ta t kt vs nk ky q2 q3 q4 sn wn wr al vl kn se rd h0 n0) := by
  refine own_enter (g0 := fun m => (mkF m 0 #[.val (.ref a1), .val (.int ky), .val (.long q2), .second, .val (.long q3), .second, .val (.long q4), .second, .unset] [])) pn_rm6a (fun m => by first | (simp [entryFrame, mkF, argsToLocals, Value.category, maxLocals]; done) | rfl) ?_
  intro p e s m below meth c s₁ hx hby hml hown hnm hret hlk hZ X0 e0
  have hml : c.maxLocals = 9 := hml
  have hown : s.vm.findClass "com/example/eskew/eskew/server/split/CounterValues" = some m.cls := hown
  have N0 := Fr.nil n0
  have K0 := Keep.refl h0 [t]
  refine own_by (fun _ k => XS.aloadN X0.here hx rfl (hb hby d6_0) rfl rfl k) ?_
  refine own_by (fun _ k => XS.iloadN X0.here hx rfl (hb hby d6_1) rfl k) ?_
  show own_Go p e below _ s₁ (mkF m 2 #[.val (.ref a1), .val (.int ky), .val (.long q2), .second, .val (.long q3), .second, .val (.long q4), .second, .unset] [(.int ky), (.ref a1)])
  obtain ⟨_, T659, L659, X659, ⟨rfl, N659q, K1', H1'⟩, st659⟩ := own_callP X0 hx hZ hown (y := (⟨"com/example/eskew/eskew/server/split/CounterValues", "takeBack", "(I)Lcom/example/eskew/eskew/server/split/CounterValues$Tally;"⟩ : MethodName)) (hw _ (List.mem_of_getElem? (i := 57) rfl)) (hw _ (List.mem_of_getElem? (i := 58) rfl)) (hw _ (List.mem_of_getElem? (i := 2) rfl)) (hw _ (List.mem_of_getElem? (i := 59) rfl)) (hw _ (List.mem_of_getElem? (i := 3) rfl)) (hw _ (List.mem_of_getElem? (i := 60) rfl)) (by decide) (a := a1) (argsL := [(.int ky)]) (rest := []) E1 e0 (rm7 l Z a0 hw [] a1 ta t kt vs nk ky sn wn wr al vl kn se rd h0 n0 Z0 g1 hk hv nat ntt Fa Va HT) (g := (mkF m 2 #[.val (.ref a1), .val (.int ky), .val (.long q2), .second, .val (.long q3), .second, .val (.long q4), .second, .unset] [(.int ky), (.ref a1)])) rfl (by rw [hml]; rfl) (lenOf pd_2 rfl) rfl (W := 0) (by show 2 * 0 + _ ≤ _; exact Nat.le_of_eq rfl) (hb hby d6_2) (by decide) (by decide) (by decide) (by decide)
  have N659 := Fr.app N0 N659q
  refine own_by st659 ?_
  have Z659 : n0 ≤ T659.heap.size := Nat.le_trans Z0 K1'.1
  have K659c := K0.trans K1' (allS (Or.inl (List.mem_of_getElem? (i := 0) rfl)) all0)
  refine own_by (fun _ k => XS.astore X659.here hx rfl (hb hby d6_5) rfl rfl (l' := #[.val (.ref a1), .val (.int ky), .val (.long q2), .second, .val (.long q3), .second, .val (.long q4), .second, .val (.ref t)]) rfl k) ?_
  refine own_by (fun _ k => XS.aload X659.here hx rfl (hb hby d6_7) rfl rfl k) ?_
  show own_Go p e below _ T659 (mkF m 9 #[.val (.ref a1), .val (.int ky), .val (.long q2), .second, .val (.long q3), .second, .val (.long q4), .second, .val (.ref t)] [(.ref t)])
  refine own_by (fun _ k => XS.lloadN X659.here hx rfl (hb hby d6_9) rfl k) ?_
  obtain ⟨_, T660, L660, X660, ⟨rfl, N660q, e660⟩, st660⟩ := own_callS X659 hx hZ hown (y := (⟨"com/example/eskew/eskew/server/split/CounterValues", "alone", "(Lcom/example/eskew/eskew/server/split/CounterValues$Tally;J)Z"⟩ : MethodName)) (hw _ (List.mem_of_getElem? (i := 61) rfl)) (hw _ (List.mem_of_getElem? (i := 62) rfl)) (hw _ (List.mem_of_getElem? (i := 3) rfl)) (hw _ (List.mem_of_getElem? (i := 63) rfl)) (by decide) (argsL := [(.ref t), (.long q2)]) (rest := []) rfl (rm8 l Z a0 hw [] t q2 sn wn (wr - 1) al vl kn se rd T659.heap n0 Z659 H1') (g := (mkF m 10 #[.val (.ref a1), .val (.int ky), .val (.long q2), .second, .val (.long q3), .second, .val (.long q4), .second, .val (.ref t)] [(.long q2), (.ref t)])) rfl (by rw [hml]; rfl) (lenOf pd_3 rfl) rfl (W := 0) (by show 2 * 0 + _ ≤ _; exact Nat.le_of_eq rfl) (hb hby d6_10) (by decide) (by decide) (by decide) (by decide)
  have N660 := Fr.app N659 N660q
  refine own_by st660 ?_
  show own_Go p e below _ T660 (mkF m 13 #[.val (.ref a1), .val (.int ky), .val (.long q2), .second, .val (.long q3), .second, .val (.long q4), .second, .val (.ref t)] [(.int (if q2 = wn ∧ q2 = al then (1 : Int32) else 0))])
  rw [show (if q2 = wn ∧ q2 = al then (1 : Int32) else 0) = (1 : Int32) from if_pos hq]
  refine own_by (fun _ k => XS.ifNo X660.here hx rfl (hb hby d6_13) rfl ((if0 _ _).trans (feq (by decide : ¬ ((1 : Int32) = (0 : Int32)))).1) k) ?_
  refine own_by (fun _ k => XS.aloadN X660.here hx rfl (hb hby d6_16) rfl rfl k) ?_
  show own_Go p e below _ T660 (mkF m 17 #[.val (.ref a1), .val (.int ky), .val (.long q2), .second, .val (.long q3), .second, .val (.long q4), .second, .val (.ref t)] [(.ref a1)])
  refine own_by (fun _ k => XS.iloadN X660.here hx rfl (hb hby d6_17) rfl k) ?_
  refine own_by (fun _ k => XS.lload X660.here hx rfl (hb hby d6_18) rfl k) ?_
  refine own_by (fun _ k => XS.lload X660.here hx rfl (hb hby d6_20) rfl k) ?_
  show own_Go p e below _ T660 (mkF m 22 #[.val (.ref a1), .val (.int ky), .val (.long q2), .second, .val (.long q3), .second, .val (.long q4), .second, .val (.ref t)] [(.long q4), (.long q3), (.int ky), (.ref a1)])
  have f661 := (Fa.keep K1' (ninS nat nin0))
  have f662 := (Va.keep K1' (ninS ntt nin0))
  have f663 := (Fr0.keep K1' (ninS nat nin0))
  have f665 := (E1.keep K1')
  obtain ⟨_, T664, L664, X664, ⟨rfl, N664q, K2', H2'⟩, st664⟩ := own_callP X660 hx hZ hown (y := (⟨"com/example/eskew/eskew/server/split/CounterValues", "settle", "(IJJ)V"⟩ : MethodName)) (hw _ (List.mem_of_getElem? (i := 64) rfl)) (hw _ (List.mem_of_getElem? (i := 65) rfl)) (hw _ (List.mem_of_getElem? (i := 2) rfl)) (hw _ (List.mem_of_getElem? (i := 66) rfl)) (hw _ (List.mem_of_getElem? (i := 3) rfl)) (hw _ (List.mem_of_getElem? (i := 67) rfl)) (by decide) (a := a1) (argsL := [(.int ky), (.long q3), (.long q4)]) (rest := []) f665 e660 (rm9 l Z a0 hw [] a1 ta t kt vs nk ky q3 q4 sn wn (wr - 1) al vl kn se rd T659.heap n0 Z659 g1 hk hv nat ntt f661 f662 H1' f663) (g := (mkF m 22 #[.val (.ref a1), .val (.int ky), .val (.long q2), .second, .val (.long q3), .second, .val (.long q4), .second, .val (.ref t)] [(.long q4), (.long q3), (.int ky), (.ref a1)])) rfl (by rw [hml]; rfl) (lenOf pd_4 rfl) rfl (W := 0) (by show 2 * 0 + _ ≤ _; exact Nat.le_of_eq rfl) (hb hby d6_22) (by decide) (by decide) (by decide) (by decide)
  have N664 := Fr.app N660 N664q
  refine own_by st664 ?_
  have Z664 : n0 ≤ T664.heap.size := Nat.le_trans Z659 K2'.1
  have K664c := K659c.trans K2' (allS (Or.inl (List.mem_of_getElem? (i := 0) rfl)) all0)
  refine own_by (fun _ k => XS.goto X664.here hx rfl (pc0 := 25) (pc' := 40) rfl (hb hby d6_25) (by decide) (by decide) k) ?_
  exact own_ret0 X664 hx hlk hret (hb hby d6_40) ⟨rfl, N664, K664c, H2'⟩ (by decide) (by decide)
def Q_rm6b (Z : State) (a1 ta t : Addr) (kt : ClassId) (vs : List Value) (nk ky : Int32) (q2 q3 q4 : Int64) (sn wn : Int64) (wr : Int32) (al vl : Int64) (kn se rd : Int32) (h0 : Heap) (n0 : Nat) (v : Option Value) (h : Heap) (L : List Loc) : Prop := v = none ∧ Fr n0 L ∧ Keep h0 h [t] ∧ own_Tal Z h t sn wn (wr - 1) al q3 kn 0 rd
theorem pn_rm6b : plainFor (⟨"com/example/eskew/eskew/server/split/CounterValues", "wrote", "(IJJJ)V"⟩ : MethodName) = true := plainFor_of_name (by first | (simp [plainName, overriddenIn, x]; done) | decide +kernel)
theorem d6_28 : decode prog_33_method_8_code 28 = .ok (.aload 8, 2) := by decide +kernel
theorem d6_30 : decode prog_33_method_8_code 30 = .ok (.lload 4, 2) := by decide +kernel
theorem d6_32 : decode prog_33_method_8_code 32 = .ok (.putfield 62, 3) := by decide +kernel
theorem d6_35 : decode prog_33_method_8_code 35 = .ok (.aload 8, 2) := by decide +kernel
theorem pd_5 : parseMethodDescriptor "(Lcom/example/eskew/eskew/server/split/CounterValues$Tally;)V" = some ⟨[(.object "com/example/eskew/eskew/server/split/CounterValues$Tally")], none⟩ := by decide +kernel
theorem d6_37 : decode prog_33_method_8_code 37 = .ok (.invokestatic 120, 3) := by decide +kernel
set_option maxRecDepth 65536 in
set_option maxHeartbeats 40000000 in
theorem rm6b (l : Launch) (Z : State) (a0 : Array Value) (hw : ∀ d ∈ tables_1, d.before a0 Z = true) (ws : List Jvm.Cond) (a1 ta t : Addr) (kt : ClassId) (vs : List Value) (nk ky : Int32) (q2 q3 q4 : Int64) (sn wn : Int64) (wr : Int32) (al vl : Int64) (kn se rd : Int32) (h0 : Heap) (n0 : Nat) (Z0 : n0 ≤ h0.size) (g1 : n0 ≤ t) (hk : ¬ ky < 0 ∧ ky < nk) (hv : vs.getD ky.toNatClampNeg .null = .ref t) (nat : a1 ≠ t) (ntt : ta ≠ t) (Fa : Fld Z h0 a1 "com/example/eskew/eskew/server/split/CounterValues" "tallies" "[Lcom/example/eskew/eskew/server/split/CounterValues$Tally;" (.ref ta)) (Va : Arv Z h0 ta kt (.object "com/example/eskew/eskew/server/split/CounterValues$Tally") nk vs .null) (HT : own_Tal Z h0 t sn wn wr al vl kn se rd) (E1 : Exa Z h0 a1 "com/example/eskew/eskew/server/split/CounterValues") (Fr0 : Fld Z h0 a1 "com/example/eskew/eskew/server/split/CounterValues" "resting" "I" (.int (-1 : Int32))) (hq : ¬ (q2 = wn ∧ q2 = al)) :
    own_Met l Z (⟨"com/example/eskew/eskew/server/split/CounterValues", "wrote", "(IJJJ)V"⟩ : MethodName) prog_33_method_8_code 9 none ws ({ frames := 2, cells := 0, slots := 0, locals := 48 } : Room) #[(.ref a1), (.int ky), (.long q2), (.long q3), (.long q4)] h0 (Q_rm6b Z a1 ta t kt vs nk ky q2 q3 q4 sn wn wr al vl kn se rd h0 n0) := by
  refine own_enter (g0 := fun m => (mkF m 0 #[.val (.ref a1), .val (.int ky), .val (.long q2), .second, .val (.long q3), .second, .val (.long q4), .second, .unset] [])) pn_rm6b (fun m => by first | (simp [entryFrame, mkF, argsToLocals, Value.category, maxLocals]; done) | rfl) ?_
  intro p e s m below meth c s₁ hx hby hml hown hnm hret hlk hZ X0 e0
  have hml : c.maxLocals = 9 := hml
  have hown : s.vm.findClass "com/example/eskew/eskew/server/split/CounterValues" = some m.cls := hown
  have N0 := Fr.nil n0
  have K0 := Keep.refl h0 [t]
  refine own_by (fun _ k => XS.aloadN X0.here hx rfl (hb hby d6_0) rfl rfl k) ?_
  refine own_by (fun _ k => XS.iloadN X0.here hx rfl (hb hby d6_1) rfl k) ?_
  show own_Go p e below _ s₁ (mkF m 2 #[.val (.ref a1), .val (.int ky), .val (.long q2), .second, .val (.long q3), .second, .val (.long q4), .second, .unset] [(.int ky), (.ref a1)])
  obtain ⟨_, T666, L666, X666, ⟨rfl, N666q, K1', H1'⟩, st666⟩ := own_callP X0 hx hZ hown (y := (⟨"com/example/eskew/eskew/server/split/CounterValues", "takeBack", "(I)Lcom/example/eskew/eskew/server/split/CounterValues$Tally;"⟩ : MethodName)) (hw _ (List.mem_of_getElem? (i := 57) rfl)) (hw _ (List.mem_of_getElem? (i := 58) rfl)) (hw _ (List.mem_of_getElem? (i := 2) rfl)) (hw _ (List.mem_of_getElem? (i := 59) rfl)) (hw _ (List.mem_of_getElem? (i := 3) rfl)) (hw _ (List.mem_of_getElem? (i := 60) rfl)) (by decide) (a := a1) (argsL := [(.int ky)]) (rest := []) E1 e0 (rm7 l Z a0 hw [] a1 ta t kt vs nk ky sn wn wr al vl kn se rd h0 n0 Z0 g1 hk hv nat ntt Fa Va HT) (g := (mkF m 2 #[.val (.ref a1), .val (.int ky), .val (.long q2), .second, .val (.long q3), .second, .val (.long q4), .second, .unset] [(.int ky), (.ref a1)])) rfl (by rw [hml]; rfl) (lenOf pd_2 rfl) rfl (W := 0) (by show 2 * 0 + _ ≤ _; exact Nat.le_of_eq rfl) (hb hby d6_2) (by decide) (by decide) (by decide) (by decide)
  have N666 := Fr.app N0 N666q
  refine own_by st666 ?_
  have Z666 : n0 ≤ T666.heap.size := Nat.le_trans Z0 K1'.1
  have K666c := K0.trans K1' (allS (Or.inl (List.mem_of_getElem? (i := 0) rfl)) all0)
  refine own_by (fun _ k => XS.astore X666.here hx rfl (hb hby d6_5) rfl rfl (l' := #[.val (.ref a1), .val (.int ky), .val (.long q2), .second, .val (.long q3), .second, .val (.long q4), .second, .val (.ref t)]) rfl k) ?_
  refine own_by (fun _ k => XS.aload X666.here hx rfl (hb hby d6_7) rfl rfl k) ?_
  show own_Go p e below _ T666 (mkF m 9 #[.val (.ref a1), .val (.int ky), .val (.long q2), .second, .val (.long q3), .second, .val (.long q4), .second, .val (.ref t)] [(.ref t)])
  refine own_by (fun _ k => XS.lloadN X666.here hx rfl (hb hby d6_9) rfl k) ?_
  obtain ⟨_, T667, L667, X667, ⟨rfl, N667q, e667⟩, st667⟩ := own_callS X666 hx hZ hown (y := (⟨"com/example/eskew/eskew/server/split/CounterValues", "alone", "(Lcom/example/eskew/eskew/server/split/CounterValues$Tally;J)Z"⟩ : MethodName)) (hw _ (List.mem_of_getElem? (i := 61) rfl)) (hw _ (List.mem_of_getElem? (i := 62) rfl)) (hw _ (List.mem_of_getElem? (i := 3) rfl)) (hw _ (List.mem_of_getElem? (i := 63) rfl)) (by decide) (argsL := [(.ref t), (.long q2)]) (rest := []) rfl (rm8 l Z a0 hw [] t q2 sn wn (wr - 1) al vl kn se rd T666.heap n0 Z666 H1') (g := (mkF m 10 #[.val (.ref a1), .val (.int ky), .val (.long q2), .second, .val (.long q3), .second, .val (.long q4), .second, .val (.ref t)] [(.long q2), (.ref t)])) rfl (by rw [hml]; rfl) (lenOf pd_3 rfl) rfl (W := 0) (by show 2 * 0 + _ ≤ _; exact Nat.le_of_eq rfl) (hb hby d6_10) (by decide) (by decide) (by decide) (by decide)
  have N667 := Fr.app N666 N667q
  refine own_by st667 ?_
  show own_Go p e below _ T667 (mkF m 13 #[.val (.ref a1), .val (.int ky), .val (.long q2), .second, .val (.long q3), .second, .val (.long q4), .second, .val (.ref t)] [(.int (if q2 = wn ∧ q2 = al then (1 : Int32) else 0))])
  rw [show (if q2 = wn ∧ q2 = al then (1 : Int32) else 0) = (0 : Int32) from if_neg hq]
  refine own_by (fun _ k => XS.ifYes X667.here hx rfl (pc0 := 13) (pc' := 28) rfl (hb hby d6_13) rfl ((if0 _ _).trans (teq (by decide : (0 : Int32) = (0 : Int32))).1) (by decide) (by decide) k) ?_
  refine own_by (fun _ k => XS.aload X667.here hx rfl (hb hby d6_28) rfl rfl k) ?_
  show own_Go p e below _ T667 (mkF m 30 #[.val (.ref a1), .val (.int ky), .val (.long q2), .second, .val (.long q3), .second, .val (.long q4), .second, .val (.ref t)] [(.ref t)])
  refine own_by (fun _ k => XS.lload X667.here hx rfl (hb hby d6_30) rfl k) ?_
  obtain ⟨ET, T1, T2, T3, T4, T5, T6, T7, T8, T9⟩ := H1'
  obtain ⟨T668, h668, X668, e668, W668, st668⟩ := own_putR X667 hx hZ hown (hw _ (List.mem_of_getElem? (i := 68) rfl)) e667 T5 ET (hw _ (List.mem_of_getElem? (i := 69) rfl)) (hw _ (List.mem_of_getElem? (i := 32) rfl)) (ty := .long) (by decide) rfl rfl (g := (mkF m 32 #[.val (.ref a1), .val (.int ky), .val (.long q2), .second, .val (.long q3), .second, .val (.long q4), .second, .val (.ref t)] [(.long q3), (.ref t)])) rfl rfl (hb hby d6_32)
  refine own_by st668 ?_
  have N668 := Fr.snoc X668 N667 g1
  have fw668 := T5.same W668
  have K669 := K666c.wr W668 (Or.inl (List.mem_of_getElem? (i := 0) rfl))
  have Z668 : n0 ≤ h668.size := Nat.le_trans Z666 (Keep.of_wr W668).1
  refine own_by (fun _ k => XS.aload X668.here hx rfl (hb hby d6_35) rfl rfl k) ?_
  show own_Go p e below _ T668 (mkF m 37 #[.val (.ref a1), .val (.int ky), .val (.long q2), .second, .val (.long q3), .second, .val (.long q4), .second, .val (.ref t)] [(.ref t)])
  have f670 := (ET.wr W668)
  have f671 := (T1.other W668 (Or.inr (slot_ne (Or.inl (hw _ (List.mem_of_getElem? (i := 39) rfl))) (Or.inl (hw _ (List.mem_of_getElem? (i := 69) rfl))) (by decide) (t := .long) (t' := .long) (by decide) (by decide))))
  have f672 := (T2.other W668 (Or.inr (slot_ne (Or.inl (hw _ (List.mem_of_getElem? (i := 47) rfl))) (Or.inl (hw _ (List.mem_of_getElem? (i := 69) rfl))) (by decide) (t := .long) (t' := .long) (by decide) (by decide))))
  have f673 := (T3.other W668 (Or.inr (slot_ne (Or.inl (hw _ (List.mem_of_getElem? (i := 49) rfl))) (Or.inl (hw _ (List.mem_of_getElem? (i := 69) rfl))) (by decide) (t := .int) (t' := .long) (by decide) (by decide))))
  have f674 := (T4.other W668 (Or.inr (slot_ne (Or.inl (hw _ (List.mem_of_getElem? (i := 51) rfl))) (Or.inl (hw _ (List.mem_of_getElem? (i := 69) rfl))) (by decide) (t := .long) (t' := .long) (by decide) (by decide))))
  have f675 := (T6.other W668 (Or.inr (slot_ne (Or.inl (hw _ (List.mem_of_getElem? (i := 71) rfl))) (Or.inl (hw _ (List.mem_of_getElem? (i := 69) rfl))) (by decide) (t := .boolean) (t' := .long) (by decide) (by decide))))
  have f676 := (T7.other W668 (Or.inr (slot_ne (Or.inl (hw _ (List.mem_of_getElem? (i := 73) rfl))) (Or.inl (hw _ (List.mem_of_getElem? (i := 69) rfl))) (by decide) (t := .boolean) (t' := .long) (by decide) (by decide))))
  have f677 := (T8.other W668 (Or.inr (slot_ne (Or.inl (hw _ (List.mem_of_getElem? (i := 76) rfl))) (Or.inl (hw _ (List.mem_of_getElem? (i := 69) rfl))) (by decide) (t := (.object "com/example/eskew/eskew/server/split/CounterValues$Placing")) (t' := .long) (by decide) (by decide))))
  have f678 := (T9.other W668 (Or.inr (slot_ne (Or.inl (hw _ (List.mem_of_getElem? (i := 84) rfl))) (Or.inl (hw _ (List.mem_of_getElem? (i := 69) rfl))) (by decide) (t := .int) (t' := .long) (by decide) (by decide))))
  have f679 := ((Fa.keep K1' (ninS nat nin0)).other W668 (Or.inl nat))
  have f680 := ((Va.keep K1' (ninS ntt nin0)).other W668 ntt)
  obtain ⟨_, T681, L681, X681, ⟨rfl, N681q, K2', H2'⟩, st681⟩ := own_callS X668 hx hZ hown (y := (⟨"com/example/eskew/eskew/server/split/CounterValues", "unsettle", "(Lcom/example/eskew/eskew/server/split/CounterValues$Tally;)V"⟩ : MethodName)) (hw _ (List.mem_of_getElem? (i := 145) rfl)) (hw _ (List.mem_of_getElem? (i := 146) rfl)) (hw _ (List.mem_of_getElem? (i := 3) rfl)) (hw _ (List.mem_of_getElem? (i := 147) rfl)) (by decide) (argsL := [(.ref t)]) (rest := []) e668 (rm21 l Z a0 hw [] t sn wn (wr - 1) al q3 kn se rd h668 n0 Z668 g1 ⟨f670, f671, f672, f673, f674, fw668, f675, f676, f677, f678⟩) (g := (mkF m 37 #[.val (.ref a1), .val (.int ky), .val (.long q2), .second, .val (.long q3), .second, .val (.long q4), .second, .val (.ref t)] [(.ref t)])) rfl (by rw [hml]; rfl) (lenOf pd_5 rfl) rfl (W := 0) (by show 2 * 0 + _ ≤ _; exact Nat.le_of_eq rfl) (hb hby d6_37) (by decide) (by decide) (by decide) (by decide)
  have N681 := Fr.app N668 N681q
  refine own_by st681 ?_
  have Z681 : n0 ≤ T681.heap.size := Nat.le_trans Z668 K2'.1
  have K681c := K669.trans K2' (allS (Or.inl (List.mem_of_getElem? (i := 0) rfl)) all0)
  exact own_ret0 X681 hx hlk hret (hb hby d6_40) ⟨rfl, N681, K681c, H2'⟩ (by decide) (by decide)
def Q_rm10 (Z : State) (a1 ta t : Addr) (kt : ClassId) (vs : List Value) (nk ky : Int32) (sn wn : Int64) (wr : Int32) (al vl : Int64) (kn se rd : Int32) (h0 : Heap) (n0 : Nat) (v : Option Value) (h : Heap) (L : List Loc) : Prop := v = some (.long (if wr = 0 then wn else -1)) ∧ Fr n0 L ∧ Keep h0 h [t] ∧ own_Tal Z h t sn wn wr al vl kn se (rd + 1)
theorem pn_rm10 : plainFor (⟨"com/example/eskew/eskew/server/split/CounterValues", "reading", "(I)J"⟩ : MethodName) = true := plainFor_of_name (by first | (simp [plainName, overriddenIn, x]; done) | decide +kernel)
theorem d10_0 : decode prog_33_method_6_code 0 = .ok (.aload_n 0, 1) := by decide +kernel
theorem d10_1 : decode prog_33_method_6_code 1 = .ok (.getfield 32, 3) := by decide +kernel
theorem d10_4 : decode prog_33_method_6_code 4 = .ok (.iload_n 1, 1) := by decide +kernel
theorem d10_5 : decode prog_33_method_6_code 5 = .ok (.aaload, 1) := by decide +kernel
theorem d10_6 : decode prog_33_method_6_code 6 = .ok (.astore_n 2, 1) := by decide +kernel
theorem d10_7 : decode prog_33_method_6_code 7 = .ok (.aload_n 2, 1) := by decide +kernel
theorem d10_8 : decode prog_33_method_6_code 8 = .ok (.dup, 1) := by decide +kernel
theorem d10_9 : decode prog_33_method_6_code 9 = .ok (.getfield 92, 3) := by decide +kernel
theorem d10_12 : decode prog_33_method_6_code 12 = .ok (.iconst 1, 1) := by decide +kernel
theorem d10_13 : decode prog_33_method_6_code 13 = .ok (.iadd, 1) := by decide +kernel
theorem d10_14 : decode prog_33_method_6_code 14 = .ok (.putfield 92, 3) := by decide +kernel
theorem d10_17 : decode prog_33_method_6_code 17 = .ok (.aload_n 2, 1) := by decide +kernel
theorem d10_18 : decode prog_33_method_6_code 18 = .ok (.getfield 42, 3) := by decide +kernel
theorem d10_21 : decode prog_33_method_6_code 21 = .ok (.ifCond .ne 10, 3) := by decide +kernel
theorem d10_24 : decode prog_33_method_6_code 24 = .ok (.aload_n 2, 1) := by decide +kernel
theorem d10_25 : decode prog_33_method_6_code 25 = .ok (.getfield 39, 3) := by decide +kernel
theorem d10_28 : decode prog_33_method_6_code 28 = .ok (.goto 6, 3) := by decide +kernel
theorem d10_34 : decode prog_33_method_6_code 34 = .ok (.lreturn, 1) := by decide +kernel
theorem d10_31 : decode prog_33_method_6_code 31 = .ok (.ldc2_w 95, 3) := by decide +kernel
set_option maxRecDepth 65536 in
set_option maxHeartbeats 40000000 in
theorem rm10 (l : Launch) (Z : State) (a0 : Array Value) (hw : ∀ d ∈ tables_1, d.before a0 Z = true) (ws : List Jvm.Cond) (a1 ta t : Addr) (kt : ClassId) (vs : List Value) (nk ky : Int32) (sn wn : Int64) (wr : Int32) (al vl : Int64) (kn se rd : Int32) (h0 : Heap) (n0 : Nat) (Z0 : n0 ≤ h0.size) (g1 : n0 ≤ t) (hk : ¬ ky < 0 ∧ ky < nk) (hv : vs.getD ky.toNatClampNeg .null = .ref t) (nat : a1 ≠ t) (ntt : ta ≠ t) (Fa : Fld Z h0 a1 "com/example/eskew/eskew/server/split/CounterValues" "tallies" "[Lcom/example/eskew/eskew/server/split/CounterValues$Tally;" (.ref ta)) (Va : Arv Z h0 ta kt (.object "com/example/eskew/eskew/server/split/CounterValues$Tally") nk vs .null) (HT : own_Tal Z h0 t sn wn wr al vl kn se rd) :
    own_Met l Z (⟨"com/example/eskew/eskew/server/split/CounterValues", "reading", "(I)J"⟩ : MethodName) prog_33_method_6_code 3 (some .long) ws ({ frames := 0, cells := 0, slots := 0, locals := 0 } : Room) #[(.ref a1), (.int ky)] h0 (Q_rm10 Z a1 ta t kt vs nk ky sn wn wr al vl kn se rd h0 n0) := by
  refine own_enter (g0 := fun m => (mkF m 0 #[.val (.ref a1), .val (.int ky), .unset] [])) pn_rm10 (fun m => by first | (simp [entryFrame, mkF, argsToLocals, Value.category, maxLocals]; done) | rfl) ?_
  intro p e s m below meth c s₁ hx hby hml hown hnm hret hlk hZ X0 e0
  have hml : c.maxLocals = 3 := hml
  have hown : s.vm.findClass "com/example/eskew/eskew/server/split/CounterValues" = some m.cls := hown
  have N0 := Fr.nil n0
  obtain ⟨ET, T1, T2, T3, T4, T5, T6, T7, T8, T9⟩ := HT
  have K0 := Keep.refl h0 [t]
  refine own_by (fun _ k => XS.aloadN X0.here hx rfl (hb hby d10_0) rfl rfl k) ?_
  obtain ⟨T682, X682, e682, st682⟩ := getF X0 hx hZ hown (host := "") (Or.inl (hw _ (List.mem_of_getElem? (i := 30) rfl))) Via.refl e0 Fa (g := (mkF m 1 #[.val (.ref a1), .val (.int ky), .unset] [(.ref a1)])) rfl rfl (hb hby d10_1)
  refine own_by st682 ?_
  show own_Go p e below _ T682 (mkF m 4 #[.val (.ref a1), .val (.int ky), .unset] [(.ref ta)])
  refine own_by (fun _ k => XS.iloadN X682.here hx rfl (hb hby d10_4) rfl k) ?_
  obtain ⟨cl683, Ar683, cq683, hin683, hat683, set683⟩ := own_arv Va (j := ky) hk
  refine own_by (fun _ k => X682.aaload hx (j := ky) (v := (.ref t)) (by rw [e682]; exact Ar683.1) (State.isArrayOf_alike hZ.alike Ar683.2.1) rfl Ar683.2.2 hin683 (by rw [hat683]; exact congrArg some hv) (g := (mkF m 5 #[.val (.ref a1), .val (.int ky), .unset] [(.int ky), (.ref ta)])) rfl rfl (hb hby d10_5) _ k) ?_
  refine own_by (fun _ k => XS.astoreN X682.here hx rfl (hb hby d10_6) rfl rfl (l' := #[.val (.ref a1), .val (.int ky), .val (.ref t)]) rfl k) ?_
  show own_Go p e below _ T682 (mkF m 7 #[.val (.ref a1), .val (.int ky), .val (.ref t)] [])
  refine own_by (fun _ k => XS.aloadN X682.here hx rfl (hb hby d10_7) rfl rfl k) ?_
  refine own_by (fun _ k => XS.dup X682.here hx rfl (hb hby d10_8) rfl rfl k) ?_
  obtain ⟨T684, X684, e684, st684⟩ := own_getR X682 hx hZ hown (hw _ (List.mem_of_getElem? (i := 83) rfl)) e682 T9 (g := (mkF m 9 #[.val (.ref a1), .val (.int ky), .val (.ref t)] [(.ref t), (.ref t)])) rfl rfl (hb hby d10_9)
  refine own_by st684 ?_
  show own_Go p e below _ T684 (mkF m 12 #[.val (.ref a1), .val (.int ky), .val (.ref t)] [(.int rd), (.ref t)])
  refine own_by (fun _ k => XS.iconst X684.here hx rfl (hb hby d10_12) k) ?_
  refine own_by (fun _ k => XS.iadd X684.here hx rfl (hb hby d10_13) rfl k) ?_
  obtain ⟨T685, h685, X685, e685, W685, st685⟩ := own_putR X684 hx hZ hown (hw _ (List.mem_of_getElem? (i := 83) rfl)) e684 T9 ET (hw _ (List.mem_of_getElem? (i := 84) rfl)) (hw _ (List.mem_of_getElem? (i := 32) rfl)) (ty := .int) (by decide) rfl rfl (g := (mkF m 14 #[.val (.ref a1), .val (.int ky), .val (.ref t)] [(.int (rd + (1 : Int32))), (.ref t)])) rfl rfl (hb hby d10_14)
  refine own_by st685 ?_
  have N685 := Fr.snoc X685 N0 g1
  have fw685 := T9.same W685
  have K686 := K0.wr W685 (Or.inl (List.mem_of_getElem? (i := 0) rfl))
  have Z685 : n0 ≤ h685.size := Nat.le_trans Z0 (Keep.of_wr W685).1
  show own_Go p e below _ T685 (mkF m 17 #[.val (.ref a1), .val (.int ky), .val (.ref t)] [])
  refine own_by (fun _ k => XS.aloadN X685.here hx rfl (hb hby d10_17) rfl rfl k) ?_
  have f688 := (T3.other W685 (Or.inr (slot_ne (Or.inl (hw _ (List.mem_of_getElem? (i := 49) rfl))) (Or.inl (hw _ (List.mem_of_getElem? (i := 84) rfl))) (by decide) (t := .int) (t' := .int) (by decide) (by decide))))
  obtain ⟨T687, X687, e687, st687⟩ := own_getR X685 hx hZ hown (hw _ (List.mem_of_getElem? (i := 48) rfl)) e685 f688 (g := (mkF m 18 #[.val (.ref a1), .val (.int ky), .val (.ref t)] [(.ref t)])) rfl rfl (hb hby d10_18)
  refine own_by st687 ?_
  by_cases hz : wr = (0 : Int32)
  · refine own_by (fun _ k => XS.ifNo X687.here hx rfl (hb hby d10_21) rfl ((if0 _ _).trans (teq (hz : wr = (0 : Int32))).2) k) ?_
    show own_Go p e below _ T687 (mkF m 24 #[.val (.ref a1), .val (.int ky), .val (.ref t)] [])
    refine own_by (fun _ k => XS.aloadN X687.here hx rfl (hb hby d10_24) rfl rfl k) ?_
    have f690 := (T2.other W685 (Or.inr (slot_ne (Or.inl (hw _ (List.mem_of_getElem? (i := 47) rfl))) (Or.inl (hw _ (List.mem_of_getElem? (i := 84) rfl))) (by decide) (t := .long) (t' := .int) (by decide) (by decide))))
    obtain ⟨T689, X689, e689, st689⟩ := own_getR X687 hx hZ hown (hw _ (List.mem_of_getElem? (i := 46) rfl)) e687 f690 (g := (mkF m 25 #[.val (.ref a1), .val (.int ky), .val (.ref t)] [(.ref t)])) rfl rfl (hb hby d10_25)
    refine own_by st689 ?_
    refine own_by (fun _ k => XS.goto X689.here hx rfl (pc0 := 28) (pc' := 34) rfl (hb hby d10_28) (by decide) (by decide) k) ?_
    show own_Go p e below _ T689 (mkF m 34 #[.val (.ref a1), .val (.int ky), .val (.ref t)] [(.long wn)])
    have f691 := (ET.wr W685)
    have f692 := (T1.other W685 (Or.inr (slot_ne (Or.inl (hw _ (List.mem_of_getElem? (i := 39) rfl))) (Or.inl (hw _ (List.mem_of_getElem? (i := 84) rfl))) (by decide) (t := .long) (t' := .int) (by decide) (by decide))))
    have f693 := (T4.other W685 (Or.inr (slot_ne (Or.inl (hw _ (List.mem_of_getElem? (i := 51) rfl))) (Or.inl (hw _ (List.mem_of_getElem? (i := 84) rfl))) (by decide) (t := .long) (t' := .int) (by decide) (by decide))))
    have f694 := (T5.other W685 (Or.inr (slot_ne (Or.inl (hw _ (List.mem_of_getElem? (i := 69) rfl))) (Or.inl (hw _ (List.mem_of_getElem? (i := 84) rfl))) (by decide) (t := .long) (t' := .int) (by decide) (by decide))))
    have f695 := (T6.other W685 (Or.inr (slot_ne (Or.inl (hw _ (List.mem_of_getElem? (i := 71) rfl))) (Or.inl (hw _ (List.mem_of_getElem? (i := 84) rfl))) (by decide) (t := .boolean) (t' := .int) (by decide) (by decide))))
    have f696 := (T7.other W685 (Or.inr (slot_ne (Or.inl (hw _ (List.mem_of_getElem? (i := 73) rfl))) (Or.inl (hw _ (List.mem_of_getElem? (i := 84) rfl))) (by decide) (t := .boolean) (t' := .int) (by decide) (by decide))))
    have f697 := (T8.other W685 (Or.inr (slot_ne (Or.inl (hw _ (List.mem_of_getElem? (i := 76) rfl))) (Or.inl (hw _ (List.mem_of_getElem? (i := 84) rfl))) (by decide) (t := (.object "com/example/eskew/eskew/server/split/CounterValues$Placing")) (t' := .int) (by decide) (by decide))))
    exact own_retJ X689 hx hlk hret  (hb hby d10_34) (by first | exact ⟨by rw [if_pos hz], N685, K686, ⟨f691, f692, f690, f688, f693, f694, f695, f696, f697, fw685⟩⟩ | (rw [e689]; exact ⟨by rw [if_pos hz], N685, K686, ⟨f691, f692, f690, f688, f693, f694, f695, f696, f697, fw685⟩⟩)) (by decide) (by decide)
  · refine own_by (fun _ k => XS.ifYes X687.here hx rfl (pc0 := 21) (pc' := 31) rfl (hb hby d10_21) rfl ((if0 _ _).trans (feq (hz : ¬ (wr = (0 : Int32)))).2) (by decide) (by decide) k) ?_
    show own_Go p e below _ T687 (mkF m 31 #[.val (.ref a1), .val (.int ky), .val (.ref t)] [])
    refine own_by (fun _ k => Stand.ldc2J X687 hx hown (mvT hZ (hw _ (List.mem_of_getElem? (i := 85) rfl))) rfl (hb hby d10_31) k) ?_
    have f698 := (ET.wr W685)
    have f699 := (T1.other W685 (Or.inr (slot_ne (Or.inl (hw _ (List.mem_of_getElem? (i := 39) rfl))) (Or.inl (hw _ (List.mem_of_getElem? (i := 84) rfl))) (by decide) (t := .long) (t' := .int) (by decide) (by decide))))
    have f700 := (T2.other W685 (Or.inr (slot_ne (Or.inl (hw _ (List.mem_of_getElem? (i := 47) rfl))) (Or.inl (hw _ (List.mem_of_getElem? (i := 84) rfl))) (by decide) (t := .long) (t' := .int) (by decide) (by decide))))
    have f701 := (T4.other W685 (Or.inr (slot_ne (Or.inl (hw _ (List.mem_of_getElem? (i := 51) rfl))) (Or.inl (hw _ (List.mem_of_getElem? (i := 84) rfl))) (by decide) (t := .long) (t' := .int) (by decide) (by decide))))
    have f702 := (T5.other W685 (Or.inr (slot_ne (Or.inl (hw _ (List.mem_of_getElem? (i := 69) rfl))) (Or.inl (hw _ (List.mem_of_getElem? (i := 84) rfl))) (by decide) (t := .long) (t' := .int) (by decide) (by decide))))
    have f703 := (T6.other W685 (Or.inr (slot_ne (Or.inl (hw _ (List.mem_of_getElem? (i := 71) rfl))) (Or.inl (hw _ (List.mem_of_getElem? (i := 84) rfl))) (by decide) (t := .boolean) (t' := .int) (by decide) (by decide))))
    have f704 := (T7.other W685 (Or.inr (slot_ne (Or.inl (hw _ (List.mem_of_getElem? (i := 73) rfl))) (Or.inl (hw _ (List.mem_of_getElem? (i := 84) rfl))) (by decide) (t := .boolean) (t' := .int) (by decide) (by decide))))
    have f705 := (T8.other W685 (Or.inr (slot_ne (Or.inl (hw _ (List.mem_of_getElem? (i := 76) rfl))) (Or.inl (hw _ (List.mem_of_getElem? (i := 84) rfl))) (by decide) (t := (.object "com/example/eskew/eskew/server/split/CounterValues$Placing")) (t' := .int) (by decide) (by decide))))
    exact own_retJ X687 hx hlk hret  (hb hby d10_34) (by first | exact ⟨by rw [if_neg hz], N685, K686, ⟨f698, f699, f700, f688, f701, f702, f703, f704, f705, fw685⟩⟩ | (rw [e687]; exact ⟨by rw [if_neg hz], N685, K686, ⟨f698, f699, f700, f688, f701, f702, f703, f704, f705, fw685⟩⟩)) (by decide) (by decide)
def Q_rm20 (Z : State) (a1 t : Addr) (q2 rn : Int64) (sn wn : Int64) (wr : Int32) (al vl : Int64) (kn se rd : Int32) (h0 : Heap) (n0 : Nat) (v : Option Value) (h : Heap) (L : List Loc) : Prop := v = some (.int (if se = 0 ∨ ¬ (q2 - sn < rn / 2) then (1 : Int32) else 0)) ∧ Fr n0 L ∧ h = h0
theorem pn_rm20 : plainFor (⟨"com/example/eskew/eskew/server/split/CounterValues", "due", "(Lcom/example/eskew/eskew/server/split/CounterValues$Tally;J)Z"⟩ : MethodName) = true := plainFor_of_name (by first | (simp [plainName, overriddenIn, x]; done) | decide +kernel)
theorem d20_0 : decode prog_33_method_22_code 0 = .ok (.aload_n 1, 1) := by decide +kernel
theorem d20_1 : decode prog_33_method_22_code 1 = .ok (.getfield 143, 3) := by decide +kernel
theorem d20_4 : decode prog_33_method_22_code 4 = .ok (.ifCond .eq 21, 3) := by decide +kernel
theorem d20_25 : decode prog_33_method_22_code 25 = .ok (.iconst 1, 1) := by decide +kernel
theorem d20_26 : decode prog_33_method_22_code 26 = .ok (.goto 4, 3) := by decide +kernel
theorem d20_30 : decode prog_33_method_22_code 30 = .ok (.ireturn, 1) := by decide +kernel
theorem d20_7 : decode prog_33_method_22_code 7 = .ok (.lload_n 2, 1) := by decide +kernel
theorem d20_8 : decode prog_33_method_22_code 8 = .ok (.aload_n 1, 1) := by decide +kernel
theorem d20_9 : decode prog_33_method_22_code 9 = .ok (.getfield 140, 3) := by decide +kernel
theorem d20_12 : decode prog_33_method_22_code 12 = .ok (.lsub, 1) := by decide +kernel
theorem d20_13 : decode prog_33_method_22_code 13 = .ok (.aload_n 0, 1) := by decide +kernel
theorem d20_14 : decode prog_33_method_22_code 14 = .ok (.getfield 26, 3) := by decide +kernel
theorem d20_17 : decode prog_33_method_22_code 17 = .ok (.ldc2_w 146, 3) := by decide +kernel
theorem d20_20 : decode prog_33_method_22_code 20 = .ok (.ldiv, 1) := by decide +kernel
theorem d20_21 : decode prog_33_method_22_code 21 = .ok (.lcmp, 1) := by decide +kernel
theorem d20_22 : decode prog_33_method_22_code 22 = .ok (.ifCond .lt 7, 3) := by decide +kernel
theorem d20_29 : decode prog_33_method_22_code 29 = .ok (.iconst 0, 1) := by decide +kernel
set_option maxRecDepth 65536 in
set_option maxHeartbeats 40000000 in
theorem rm20 (l : Launch) (Z : State) (a0 : Array Value) (hw : ∀ d ∈ tables_1, d.before a0 Z = true) (ws : List Jvm.Cond) (a1 t : Addr) (q2 rn : Int64) (sn wn : Int64) (wr : Int32) (al vl : Int64) (kn se rd : Int32) (h0 : Heap) (n0 : Nat) (Z0 : n0 ≤ h0.size) (Fq : Fld Z h0 a1 "com/example/eskew/eskew/server/split/CounterValues" "rereadNanos" "J" (.long rn)) (HT : own_Tal Z h0 t sn wn wr al vl kn se rd) :
    own_Met l Z (⟨"com/example/eskew/eskew/server/split/CounterValues", "due", "(Lcom/example/eskew/eskew/server/split/CounterValues$Tally;J)Z"⟩ : MethodName) prog_33_method_22_code 4 (some .boolean) ws ({ frames := 0, cells := 0, slots := 0, locals := 0 } : Room) #[(.ref a1), (.ref t), (.long q2)] h0 (Q_rm20 Z a1 t q2 rn sn wn wr al vl kn se rd h0 n0) := by
  refine own_enter (g0 := fun m => (mkF m 0 #[.val (.ref a1), .val (.ref t), .val (.long q2), .second] [])) pn_rm20 (fun m => by first | (simp [entryFrame, mkF, argsToLocals, Value.category, maxLocals]; done) | rfl) ?_
  intro p e s m below meth c s₁ hx hby hml hown hnm hret hlk hZ X0 e0
  have hml : c.maxLocals = 4 := hml
  have hown : s.vm.findClass "com/example/eskew/eskew/server/split/CounterValues" = some m.cls := hown
  have N0 := Fr.nil n0
  obtain ⟨ET, T1, T2, T3, T4, T5, T6, T7, T8, T9⟩ := HT
  refine own_by (fun _ k => XS.aloadN X0.here hx rfl (hb hby d20_0) rfl rfl k) ?_
  obtain ⟨T706, X706, e706, st706⟩ := own_getR X0 hx hZ hown (hw _ (List.mem_of_getElem? (i := 72) rfl)) e0 T7 (g := (mkF m 1 #[.val (.ref a1), .val (.ref t), .val (.long q2), .second] [(.ref t)])) rfl rfl (hb hby d20_1)
  refine own_by st706 ?_
  show own_Go p e below _ T706 (mkF m 4 #[.val (.ref a1), .val (.ref t), .val (.long q2), .second] [(.int se)])
  by_cases hz : se = (0 : Int32)
  · refine own_by (fun _ k => XS.ifYes X706.here hx rfl (pc0 := 4) (pc' := 25) rfl (hb hby d20_4) rfl ((if0 _ _).trans (teq (hz : se = (0 : Int32))).1) (by decide) (by decide) k) ?_
    refine own_by (fun _ k => XS.iconst X706.here hx rfl (hb hby d20_25) k) ?_
    refine own_by (fun _ k => XS.goto X706.here hx rfl (pc0 := 26) (pc' := 30) rfl (hb hby d20_26) (by decide) (by decide) k) ?_
    show own_Go p e below _ T706 (mkF m 30 #[.val (.ref a1), .val (.ref t), .val (.long q2), .second] [(.int (1 : Int32))])
    exact own_retN X706 hx hlk hret (by simp) rfl (hb hby d20_30) (by first | exact ⟨congrArg (fun z : Int32 => some (Value.int z)) (if_pos (Or.inl hz)).symm, N0, rfl⟩ | (rw [e706]; exact ⟨congrArg (fun z : Int32 => some (Value.int z)) (if_pos (Or.inl hz)).symm, N0, rfl⟩)) (by decide) (by decide)
  · refine own_by (fun _ k => XS.ifNo X706.here hx rfl (hb hby d20_4) rfl ((if0 _ _).trans (feq (hz : ¬ (se = (0 : Int32)))).1) k) ?_
    refine own_by (fun _ k => XS.lloadN X706.here hx rfl (hb hby d20_7) rfl k) ?_
    refine own_by (fun _ k => XS.aloadN X706.here hx rfl (hb hby d20_8) rfl rfl k) ?_
    show own_Go p e below _ T706 (mkF m 9 #[.val (.ref a1), .val (.ref t), .val (.long q2), .second] [(.ref t), (.long q2)])
    obtain ⟨T707, X707, e707, st707⟩ := own_getR X706 hx hZ hown (hw _ (List.mem_of_getElem? (i := 74) rfl)) e706 T1 (g := (mkF m 9 #[.val (.ref a1), .val (.ref t), .val (.long q2), .second] [(.ref t), (.long q2)])) rfl rfl (hb hby d20_9)
    refine own_by st707 ?_
    refine own_by (fun _ k => XS.lsub X707.here hx rfl (hb hby d20_12) rfl k) ?_
    refine own_by (fun _ k => XS.aloadN X707.here hx rfl (hb hby d20_13) rfl rfl k) ?_
    show own_Go p e below _ T707 (mkF m 14 #[.val (.ref a1), .val (.ref t), .val (.long q2), .second] [(.ref a1), (.long (q2 - sn))])
    obtain ⟨T708, X708, e708, st708⟩ := getF X707 hx hZ hown (host := "") (Or.inl (hw _ (List.mem_of_getElem? (i := 26) rfl))) Via.refl e707 Fq (g := (mkF m 14 #[.val (.ref a1), .val (.ref t), .val (.long q2), .second] [(.ref a1), (.long (q2 - sn))])) rfl rfl (hb hby d20_14)
    refine own_by st708 ?_
    refine own_by (fun _ k => Stand.ldc2J X708 hx hown (mvT hZ (hw _ (List.mem_of_getElem? (i := 144) rfl))) rfl (hb hby d20_17) k) ?_
    refine own_by (fun _ k => XS.ldiv X708.here hx rfl (hb hby d20_20) rfl (by decide) k) ?_
    show own_Go p e below _ T708 (mkF m 21 #[.val (.ref a1), .val (.ref t), .val (.long q2), .second] [(.long (rn / (2 : Int64))), (.long (q2 - sn))])
    refine own_by (fun _ k => XS.lcmp X708.here hx rfl (hb hby d20_21) rfl k) ?_
    by_cases hl : q2 - sn < rn / 2
    · refine own_by (fun _ k => XS.ifYes X708.here hx rfl (pc0 := 22) (pc' := 29) rfl (hb hby d20_22) rfl ((if0 _ _).trans (tlt ((lw_lt _ _).mpr hl : (lcmpW (q2 - sn) (rn / (2 : Int64))) < (0 : Int32))).1) (by decide) (by decide) k) ?_
      refine own_by (fun _ k => XS.iconst X708.here hx rfl (hb hby d20_29) k) ?_
      show own_Go p e below _ T708 (mkF m 30 #[.val (.ref a1), .val (.ref t), .val (.long q2), .second] [(.int (0 : Int32))])
      exact own_retN X708 hx hlk hret (by simp) rfl (hb hby d20_30) (by first | exact ⟨congrArg (fun z : Int32 => some (Value.int z)) (if_neg (fun q => q.elim hz (fun r => r hl))).symm, N0, rfl⟩ | (rw [e708]; exact ⟨congrArg (fun z : Int32 => some (Value.int z)) (if_neg (fun q => q.elim hz (fun r => r hl))).symm, N0, rfl⟩)) (by decide) (by decide)
    · refine own_by (fun _ k => XS.ifNo X708.here hx rfl (hb hby d20_22) rfl ((if0 _ _).trans (flt (fun q => hl ((lw_lt _ _).mp q) : ¬ ((lcmpW (q2 - sn) (rn / (2 : Int64))) < (0 : Int32)))).1) k) ?_
      refine own_by (fun _ k => XS.iconst X708.here hx rfl (hb hby d20_25) k) ?_
      show own_Go p e below _ T708 (mkF m 26 #[.val (.ref a1), .val (.ref t), .val (.long q2), .second] [(.int (1 : Int32))])
      refine own_by (fun _ k => XS.goto X708.here hx rfl (pc0 := 26) (pc' := 30) rfl (hb hby d20_26) (by decide) (by decide) k) ?_
      exact own_retN X708 hx hlk hret (by simp) rfl (hb hby d20_30) (by first | exact ⟨congrArg (fun z : Int32 => some (Value.int z)) (if_pos (Or.inr hl)).symm, N0, rfl⟩ | (rw [e708]; exact ⟨congrArg (fun z : Int32 => some (Value.int z)) (if_pos (Or.inr hl)).symm, N0, rfl⟩)) (by decide) (by decide)
def Q_rm19a (Z : State) (a1 ta t : Addr) (kt : ClassId) (vs : List Value) (nk ky : Int32) (q2 rn : Int64) (sn wn : Int64) (wr : Int32) (al vl : Int64) (kn se rd : Int32) (h0 : Heap) (n0 : Nat) (v : Option Value) (h : Heap) (L : List Loc) : Prop := v = some (.int 1) ∧ Fr n0 L ∧ h = h0
theorem pn_rm19a : plainFor (⟨"com/example/eskew/eskew/server/split/CounterValues", "wanted", "(IJ)Z"⟩ : MethodName) = true := plainFor_of_name (by first | (simp [plainName, overriddenIn, x]; done) | decide +kernel)
theorem d19_0 : decode prog_33_method_13_code 0 = .ok (.aload_n 0, 1) := by decide +kernel
theorem d19_1 : decode prog_33_method_13_code 1 = .ok (.getfield 32, 3) := by decide +kernel
theorem d19_4 : decode prog_33_method_13_code 4 = .ok (.iload_n 1, 1) := by decide +kernel
theorem d19_5 : decode prog_33_method_13_code 5 = .ok (.aaload, 1) := by decide +kernel
theorem d19_6 : decode prog_33_method_13_code 6 = .ok (.astore 4, 2) := by decide +kernel
theorem d19_8 : decode prog_33_method_13_code 8 = .ok (.aload_n 0, 1) := by decide +kernel
theorem d19_9 : decode prog_33_method_13_code 9 = .ok (.aload 4, 2) := by decide +kernel
theorem d19_11 : decode prog_33_method_13_code 11 = .ok (.lload_n 2, 1) := by decide +kernel
theorem d19_12 : decode prog_33_method_13_code 12 = .ok (.invokevirtual 52, 3) := by decide +kernel
theorem d19_15 : decode prog_33_method_13_code 15 = .ok (.ifCond .eq 31, 3) := by decide +kernel
theorem d19_18 : decode prog_33_method_13_code 18 = .ok (.aload 4, 2) := by decide +kernel
theorem d19_20 : decode prog_33_method_13_code 20 = .ok (.getfield 42, 3) := by decide +kernel
theorem d19_23 : decode prog_33_method_13_code 23 = .ok (.ifCond .ne 23, 3) := by decide +kernel
theorem d19_26 : decode prog_33_method_13_code 26 = .ok (.aload 4, 2) := by decide +kernel
theorem d19_28 : decode prog_33_method_13_code 28 = .ok (.getfield 92, 3) := by decide +kernel
theorem d19_31 : decode prog_33_method_13_code 31 = .ok (.ifCond .eq 11, 3) := by decide +kernel
theorem d19_42 : decode prog_33_method_13_code 42 = .ok (.iconst 1, 1) := by decide +kernel
theorem d19_43 : decode prog_33_method_13_code 43 = .ok (.goto 4, 3) := by decide +kernel
theorem d19_47 : decode prog_33_method_13_code 47 = .ok (.ireturn, 1) := by decide +kernel
theorem d19_34 : decode prog_33_method_13_code 34 = .ok (.aload 4, 2) := by decide +kernel
theorem d19_36 : decode prog_33_method_13_code 36 = .ok (.getfield 133, 3) := by decide +kernel
theorem d19_39 : decode prog_33_method_13_code 39 = .ok (.ifCond .ne 7, 3) := by decide +kernel
set_option maxRecDepth 65536 in
set_option maxHeartbeats 40000000 in
theorem rm19a (l : Launch) (Z : State) (a0 : Array Value) (hw : ∀ d ∈ tables_1, d.before a0 Z = true) (ws : List Jvm.Cond) (a1 ta t : Addr) (kt : ClassId) (vs : List Value) (nk ky : Int32) (q2 rn : Int64) (sn wn : Int64) (wr : Int32) (al vl : Int64) (kn se rd : Int32) (h0 : Heap) (n0 : Nat) (Z0 : n0 ≤ h0.size) (g1 : n0 ≤ t) (hk : ¬ ky < 0 ∧ ky < nk) (hv : vs.getD ky.toNatClampNeg .null = .ref t) (nat : a1 ≠ t) (ntt : ta ≠ t) (Fa : Fld Z h0 a1 "com/example/eskew/eskew/server/split/CounterValues" "tallies" "[Lcom/example/eskew/eskew/server/split/CounterValues$Tally;" (.ref ta)) (Va : Arv Z h0 ta kt (.object "com/example/eskew/eskew/server/split/CounterValues$Tally") nk vs .null) (HT : own_Tal Z h0 t sn wn wr al vl kn se rd) (E1 : Exa Z h0 a1 "com/example/eskew/eskew/server/split/CounterValues") (Fq : Fld Z h0 a1 "com/example/eskew/eskew/server/split/CounterValues" "rereadNanos" "J" (.long rn)) (hs : se = 0) (hwr : wr = 0) (hkn : kn = 0) :
    own_Met l Z (⟨"com/example/eskew/eskew/server/split/CounterValues", "wanted", "(IJ)Z"⟩ : MethodName) prog_33_method_13_code 5 (some .boolean) ws ({ frames := 1, cells := 0, slots := 0, locals := 24 } : Room) #[(.ref a1), (.int ky), (.long q2)] h0 (Q_rm19a Z a1 ta t kt vs nk ky q2 rn sn wn wr al vl kn se rd h0 n0) := by
  refine own_enter (g0 := fun m => (mkF m 0 #[.val (.ref a1), .val (.int ky), .val (.long q2), .second, .unset] [])) pn_rm19a (fun m => by first | (simp [entryFrame, mkF, argsToLocals, Value.category, maxLocals]; done) | rfl) ?_
  intro p e s m below meth c s₁ hx hby hml hown hnm hret hlk hZ X0 e0
  have hml : c.maxLocals = 5 := hml
  have hown : s.vm.findClass "com/example/eskew/eskew/server/split/CounterValues" = some m.cls := hown
  have N0 := Fr.nil n0
  obtain ⟨ET, T1, T2, T3, T4, T5, T6, T7, T8, T9⟩ := HT
  have K0 := Keep.refl h0 [t]
  refine own_by (fun _ k => XS.aloadN X0.here hx rfl (hb hby d19_0) rfl rfl k) ?_
  obtain ⟨T709, X709, e709, st709⟩ := getF X0 hx hZ hown (host := "") (Or.inl (hw _ (List.mem_of_getElem? (i := 30) rfl))) Via.refl e0 Fa (g := (mkF m 1 #[.val (.ref a1), .val (.int ky), .val (.long q2), .second, .unset] [(.ref a1)])) rfl rfl (hb hby d19_1)
  refine own_by st709 ?_
  show own_Go p e below _ T709 (mkF m 4 #[.val (.ref a1), .val (.int ky), .val (.long q2), .second, .unset] [(.ref ta)])
  refine own_by (fun _ k => XS.iloadN X709.here hx rfl (hb hby d19_4) rfl k) ?_
  obtain ⟨cl710, Ar710, cq710, hin710, hat710, set710⟩ := own_arv Va (j := ky) hk
  refine own_by (fun _ k => X709.aaload hx (j := ky) (v := (.ref t)) (by rw [e709]; exact Ar710.1) (State.isArrayOf_alike hZ.alike Ar710.2.1) rfl Ar710.2.2 hin710 (by rw [hat710]; exact congrArg some hv) (g := (mkF m 5 #[.val (.ref a1), .val (.int ky), .val (.long q2), .second, .unset] [(.int ky), (.ref ta)])) rfl rfl (hb hby d19_5) _ k) ?_
  refine own_by (fun _ k => XS.astore X709.here hx rfl (hb hby d19_6) rfl rfl (l' := #[.val (.ref a1), .val (.int ky), .val (.long q2), .second, .val (.ref t)]) rfl k) ?_
  show own_Go p e below _ T709 (mkF m 8 #[.val (.ref a1), .val (.int ky), .val (.long q2), .second, .val (.ref t)] [])
  refine own_by (fun _ k => XS.aloadN X709.here hx rfl (hb hby d19_8) rfl rfl k) ?_
  refine own_by (fun _ k => XS.aload X709.here hx rfl (hb hby d19_9) rfl rfl k) ?_
  refine own_by (fun _ k => XS.lloadN X709.here hx rfl (hb hby d19_11) rfl k) ?_
  show own_Go p e below _ T709 (mkF m 12 #[.val (.ref a1), .val (.int ky), .val (.long q2), .second, .val (.ref t)] [(.long q2), (.ref t), (.ref a1)])
  obtain ⟨_, T711, L711, X711, ⟨rfl, N711q, e711⟩, st711⟩ := own_callP X709 hx hZ hown (y := (⟨"com/example/eskew/eskew/server/split/CounterValues", "due", "(Lcom/example/eskew/eskew/server/split/CounterValues$Tally;J)Z"⟩ : MethodName)) (hw _ (List.mem_of_getElem? (i := 140) rfl)) (hw _ (List.mem_of_getElem? (i := 141) rfl)) (hw _ (List.mem_of_getElem? (i := 2) rfl)) (hw _ (List.mem_of_getElem? (i := 142) rfl)) (hw _ (List.mem_of_getElem? (i := 3) rfl)) (hw _ (List.mem_of_getElem? (i := 143) rfl)) (by decide) (a := a1) (argsL := [(.ref t), (.long q2)]) (rest := []) E1 e709 (rm20 l Z a0 hw [] a1 t q2 rn sn wn wr al vl kn se rd h0 n0 Z0 Fq ⟨ET, T1, T2, T3, T4, T5, T6, T7, T8, T9⟩) (g := (mkF m 12 #[.val (.ref a1), .val (.int ky), .val (.long q2), .second, .val (.ref t)] [(.long q2), (.ref t), (.ref a1)])) rfl (by rw [hml]; rfl) (lenOf pd_3 rfl) rfl (W := 0) (by show 2 * 0 + _ ≤ _; exact Nat.le_of_eq rfl) (hb hby d19_12) (by decide) (by decide) (by decide) (by decide)
  have N711 := Fr.app N0 N711q
  refine own_by st711 ?_
  show own_Go p e below _ T711 (mkF m 15 #[.val (.ref a1), .val (.int ky), .val (.long q2), .second, .val (.ref t)] [(.int (if se = 0 ∨ ¬ (q2 - sn < rn / 2) then (1 : Int32) else 0))])
  rw [show (if se = 0 ∨ ¬ (q2 - sn < rn / 2) then (1 : Int32) else 0) = (1 : Int32) from if_pos (Or.inl hs)]
  refine own_by (fun _ k => XS.ifNo X711.here hx rfl (hb hby d19_15) rfl ((if0 _ _).trans (feq (by decide : ¬ ((1 : Int32) = (0 : Int32)))).1) k) ?_
  refine own_by (fun _ k => XS.aload X711.here hx rfl (hb hby d19_18) rfl rfl k) ?_
  show own_Go p e below _ T711 (mkF m 20 #[.val (.ref a1), .val (.int ky), .val (.long q2), .second, .val (.ref t)] [(.ref t)])
  obtain ⟨T712, X712, e712, st712⟩ := own_getR X711 hx hZ hown (hw _ (List.mem_of_getElem? (i := 48) rfl)) e711 T3 (g := (mkF m 20 #[.val (.ref a1), .val (.int ky), .val (.long q2), .second, .val (.ref t)] [(.ref t)])) rfl rfl (hb hby d19_20)
  refine own_by st712 ?_
  refine own_by (fun _ k => XS.ifNo X712.here hx rfl (hb hby d19_23) rfl ((if0 _ _).trans (teq (hwr : wr = (0 : Int32))).2) k) ?_
  refine own_by (fun _ k => XS.aload X712.here hx rfl (hb hby d19_26) rfl rfl k) ?_
  show own_Go p e below _ T712 (mkF m 28 #[.val (.ref a1), .val (.int ky), .val (.long q2), .second, .val (.ref t)] [(.ref t)])
  obtain ⟨T713, X713, e713, st713⟩ := own_getR X712 hx hZ hown (hw _ (List.mem_of_getElem? (i := 83) rfl)) e712 T9 (g := (mkF m 28 #[.val (.ref a1), .val (.int ky), .val (.long q2), .second, .val (.ref t)] [(.ref t)])) rfl rfl (hb hby d19_28)
  refine own_by st713 ?_
  by_cases hz : rd = (0 : Int32)
  · refine own_by (fun _ k => XS.ifYes X713.here hx rfl (pc0 := 31) (pc' := 42) rfl (hb hby d19_31) rfl ((if0 _ _).trans (teq (hz : rd = (0 : Int32))).1) (by decide) (by decide) k) ?_
    refine own_by (fun _ k => XS.iconst X713.here hx rfl (hb hby d19_42) k) ?_
    show own_Go p e below _ T713 (mkF m 43 #[.val (.ref a1), .val (.int ky), .val (.long q2), .second, .val (.ref t)] [(.int (1 : Int32))])
    refine own_by (fun _ k => XS.goto X713.here hx rfl (pc0 := 43) (pc' := 47) rfl (hb hby d19_43) (by decide) (by decide) k) ?_
    exact own_retN X713 hx hlk hret (by simp) rfl (hb hby d19_47) (by first | exact ⟨rfl, N711, rfl⟩ | (rw [e713]; exact ⟨rfl, N711, rfl⟩)) (by decide) (by decide)
  · refine own_by (fun _ k => XS.ifNo X713.here hx rfl (hb hby d19_31) rfl ((if0 _ _).trans (feq (hz : ¬ (rd = (0 : Int32)))).1) k) ?_
    refine own_by (fun _ k => XS.aload X713.here hx rfl (hb hby d19_34) rfl rfl k) ?_
    show own_Go p e below _ T713 (mkF m 36 #[.val (.ref a1), .val (.int ky), .val (.long q2), .second, .val (.ref t)] [(.ref t)])
    obtain ⟨T714, X714, e714, st714⟩ := own_getR X713 hx hZ hown (hw _ (List.mem_of_getElem? (i := 70) rfl)) e713 T6 (g := (mkF m 36 #[.val (.ref a1), .val (.int ky), .val (.long q2), .second, .val (.ref t)] [(.ref t)])) rfl rfl (hb hby d19_36)
    refine own_by st714 ?_
    refine own_by (fun _ k => XS.ifNo X714.here hx rfl (hb hby d19_39) rfl ((if0 _ _).trans (teq (hkn : kn = (0 : Int32))).2) k) ?_
    refine own_by (fun _ k => XS.iconst X714.here hx rfl (hb hby d19_42) k) ?_
    show own_Go p e below _ T714 (mkF m 43 #[.val (.ref a1), .val (.int ky), .val (.long q2), .second, .val (.ref t)] [(.int (1 : Int32))])
    refine own_by (fun _ k => XS.goto X714.here hx rfl (pc0 := 43) (pc' := 47) rfl (hb hby d19_43) (by decide) (by decide) k) ?_
    exact own_retN X714 hx hlk hret (by simp) rfl (hb hby d19_47) (by first | exact ⟨rfl, N711, rfl⟩ | (rw [e714]; exact ⟨rfl, N711, rfl⟩)) (by decide) (by decide)
def Q_rm19b (Z : State) (a1 ta t : Addr) (kt : ClassId) (vs : List Value) (nk ky : Int32) (q2 rn : Int64) (sn wn : Int64) (wr : Int32) (al vl : Int64) (kn se rd : Int32) (h0 : Heap) (n0 : Nat) (v : Option Value) (h : Heap) (L : List Loc) : Prop := v = some (.int 0) ∧ Fr n0 L ∧ h = h0
theorem pn_rm19b : plainFor (⟨"com/example/eskew/eskew/server/split/CounterValues", "wanted", "(IJ)Z"⟩ : MethodName) = true := plainFor_of_name (by first | (simp [plainName, overriddenIn, x]; done) | decide +kernel)
theorem d19_46 : decode prog_33_method_13_code 46 = .ok (.iconst 0, 1) := by decide +kernel
set_option maxRecDepth 65536 in
set_option maxHeartbeats 40000000 in
theorem rm19b (l : Launch) (Z : State) (a0 : Array Value) (hw : ∀ d ∈ tables_1, d.before a0 Z = true) (ws : List Jvm.Cond) (a1 ta t : Addr) (kt : ClassId) (vs : List Value) (nk ky : Int32) (q2 rn : Int64) (sn wn : Int64) (wr : Int32) (al vl : Int64) (kn se rd : Int32) (h0 : Heap) (n0 : Nat) (Z0 : n0 ≤ h0.size) (g1 : n0 ≤ t) (hk : ¬ ky < 0 ∧ ky < nk) (hv : vs.getD ky.toNatClampNeg .null = .ref t) (nat : a1 ≠ t) (ntt : ta ≠ t) (Fa : Fld Z h0 a1 "com/example/eskew/eskew/server/split/CounterValues" "tallies" "[Lcom/example/eskew/eskew/server/split/CounterValues$Tally;" (.ref ta)) (Va : Arv Z h0 ta kt (.object "com/example/eskew/eskew/server/split/CounterValues$Tally") nk vs .null) (HT : own_Tal Z h0 t sn wn wr al vl kn se rd) (E1 : Exa Z h0 a1 "com/example/eskew/eskew/server/split/CounterValues") (Fq : Fld Z h0 a1 "com/example/eskew/eskew/server/split/CounterValues" "rereadNanos" "J" (.long rn)) (hs : ¬ se = 0) (hl : q2 - sn < rn / 2) :
    own_Met l Z (⟨"com/example/eskew/eskew/server/split/CounterValues", "wanted", "(IJ)Z"⟩ : MethodName) prog_33_method_13_code 5 (some .boolean) ws ({ frames := 1, cells := 0, slots := 0, locals := 24 } : Room) #[(.ref a1), (.int ky), (.long q2)] h0 (Q_rm19b Z a1 ta t kt vs nk ky q2 rn sn wn wr al vl kn se rd h0 n0) := by
  refine own_enter (g0 := fun m => (mkF m 0 #[.val (.ref a1), .val (.int ky), .val (.long q2), .second, .unset] [])) pn_rm19b (fun m => by first | (simp [entryFrame, mkF, argsToLocals, Value.category, maxLocals]; done) | rfl) ?_
  intro p e s m below meth c s₁ hx hby hml hown hnm hret hlk hZ X0 e0
  have hml : c.maxLocals = 5 := hml
  have hown : s.vm.findClass "com/example/eskew/eskew/server/split/CounterValues" = some m.cls := hown
  have N0 := Fr.nil n0
  obtain ⟨ET, T1, T2, T3, T4, T5, T6, T7, T8, T9⟩ := HT
  have K0 := Keep.refl h0 [t]
  refine own_by (fun _ k => XS.aloadN X0.here hx rfl (hb hby d19_0) rfl rfl k) ?_
  obtain ⟨T715, X715, e715, st715⟩ := getF X0 hx hZ hown (host := "") (Or.inl (hw _ (List.mem_of_getElem? (i := 30) rfl))) Via.refl e0 Fa (g := (mkF m 1 #[.val (.ref a1), .val (.int ky), .val (.long q2), .second, .unset] [(.ref a1)])) rfl rfl (hb hby d19_1)
  refine own_by st715 ?_
  show own_Go p e below _ T715 (mkF m 4 #[.val (.ref a1), .val (.int ky), .val (.long q2), .second, .unset] [(.ref ta)])
  refine own_by (fun _ k => XS.iloadN X715.here hx rfl (hb hby d19_4) rfl k) ?_
  obtain ⟨cl716, Ar716, cq716, hin716, hat716, set716⟩ := own_arv Va (j := ky) hk
  refine own_by (fun _ k => X715.aaload hx (j := ky) (v := (.ref t)) (by rw [e715]; exact Ar716.1) (State.isArrayOf_alike hZ.alike Ar716.2.1) rfl Ar716.2.2 hin716 (by rw [hat716]; exact congrArg some hv) (g := (mkF m 5 #[.val (.ref a1), .val (.int ky), .val (.long q2), .second, .unset] [(.int ky), (.ref ta)])) rfl rfl (hb hby d19_5) _ k) ?_
  refine own_by (fun _ k => XS.astore X715.here hx rfl (hb hby d19_6) rfl rfl (l' := #[.val (.ref a1), .val (.int ky), .val (.long q2), .second, .val (.ref t)]) rfl k) ?_
  show own_Go p e below _ T715 (mkF m 8 #[.val (.ref a1), .val (.int ky), .val (.long q2), .second, .val (.ref t)] [])
  refine own_by (fun _ k => XS.aloadN X715.here hx rfl (hb hby d19_8) rfl rfl k) ?_
  refine own_by (fun _ k => XS.aload X715.here hx rfl (hb hby d19_9) rfl rfl k) ?_
  refine own_by (fun _ k => XS.lloadN X715.here hx rfl (hb hby d19_11) rfl k) ?_
  show own_Go p e below _ T715 (mkF m 12 #[.val (.ref a1), .val (.int ky), .val (.long q2), .second, .val (.ref t)] [(.long q2), (.ref t), (.ref a1)])
  obtain ⟨_, T717, L717, X717, ⟨rfl, N717q, e717⟩, st717⟩ := own_callP X715 hx hZ hown (y := (⟨"com/example/eskew/eskew/server/split/CounterValues", "due", "(Lcom/example/eskew/eskew/server/split/CounterValues$Tally;J)Z"⟩ : MethodName)) (hw _ (List.mem_of_getElem? (i := 140) rfl)) (hw _ (List.mem_of_getElem? (i := 141) rfl)) (hw _ (List.mem_of_getElem? (i := 2) rfl)) (hw _ (List.mem_of_getElem? (i := 142) rfl)) (hw _ (List.mem_of_getElem? (i := 3) rfl)) (hw _ (List.mem_of_getElem? (i := 143) rfl)) (by decide) (a := a1) (argsL := [(.ref t), (.long q2)]) (rest := []) E1 e715 (rm20 l Z a0 hw [] a1 t q2 rn sn wn wr al vl kn se rd h0 n0 Z0 Fq ⟨ET, T1, T2, T3, T4, T5, T6, T7, T8, T9⟩) (g := (mkF m 12 #[.val (.ref a1), .val (.int ky), .val (.long q2), .second, .val (.ref t)] [(.long q2), (.ref t), (.ref a1)])) rfl (by rw [hml]; rfl) (lenOf pd_3 rfl) rfl (W := 0) (by show 2 * 0 + _ ≤ _; exact Nat.le_of_eq rfl) (hb hby d19_12) (by decide) (by decide) (by decide) (by decide)
  have N717 := Fr.app N0 N717q
  refine own_by st717 ?_
  show own_Go p e below _ T717 (mkF m 15 #[.val (.ref a1), .val (.int ky), .val (.long q2), .second, .val (.ref t)] [(.int (if se = 0 ∨ ¬ (q2 - sn < rn / 2) then (1 : Int32) else 0))])
  rw [show (if se = 0 ∨ ¬ (q2 - sn < rn / 2) then (1 : Int32) else 0) = (0 : Int32) from if_neg (fun q => q.elim hs (fun r => r hl))]
  refine own_by (fun _ k => XS.ifYes X717.here hx rfl (pc0 := 15) (pc' := 46) rfl (hb hby d19_15) rfl ((if0 _ _).trans (teq (by decide : (0 : Int32) = (0 : Int32))).1) (by decide) (by decide) k) ?_
  refine own_by (fun _ k => XS.iconst X717.here hx rfl (hb hby d19_46) k) ?_
  show own_Go p e below _ T717 (mkF m 47 #[.val (.ref a1), .val (.int ky), .val (.long q2), .second, .val (.ref t)] [(.int (0 : Int32))])
  exact own_retN X717 hx hlk hret (by simp) rfl (hb hby d19_47) (by first | exact ⟨rfl, N717, rfl⟩ | (rw [e717]; exact ⟨rfl, N717, rfl⟩)) (by decide) (by decide)
def Q_rm13 (Z : State) (a1 : Addr) (lo q2 : Int64) (h0 : Heap) (n0 : Nat) (v : Option Value) (h : Heap) (L : List Loc) : Prop := v = some (.ref a1) ∧ Fr n0 L ∧ Keep h0 h [a1] ∧ Fld Z h a1 "com/example/eskew/eskew/server/split/CounterValues$WideSum" "low" "J" (.long (lo + q2)) ∧ Fld Z h a1 "com/example/eskew/eskew/server/split/CounterValues$WideSum" "high" "J" (.long 0)
theorem pn_rm13 : plainFor (⟨"com/example/eskew/eskew/server/split/CounterValues$WideSum", "add", "(J)Lcom/example/eskew/eskew/server/split/CounterValues$WideSum;"⟩ : MethodName) = true := plainFor_of_name (by first | (simp [plainName, overriddenIn, x]; done) | decide +kernel)
theorem d13_0 : decode prog_36_method_2_code 0 = .ok (.aload_n 0, 1) := by decide +kernel
theorem d13_1 : decode prog_36_method_2_code 1 = .ok (.getfield 7, 3) := by decide +kernel
theorem d13_4 : decode prog_36_method_2_code 4 = .ok (.lload_n 1, 1) := by decide +kernel
theorem d13_5 : decode prog_36_method_2_code 5 = .ok (.ladd, 1) := by decide +kernel
theorem d13_6 : decode prog_36_method_2_code 6 = .ok (.lstore_n 3, 1) := by decide +kernel
theorem d13_7 : decode prog_36_method_2_code 7 = .ok (.aload_n 0, 1) := by decide +kernel
theorem d13_8 : decode prog_36_method_2_code 8 = .ok (.getfield 7, 3) := by decide +kernel
theorem d13_11 : decode prog_36_method_2_code 11 = .ok (.lload_n 3, 1) := by decide +kernel
theorem d13_12 : decode prog_36_method_2_code 12 = .ok (.lxor, 1) := by decide +kernel
theorem d13_13 : decode prog_36_method_2_code 13 = .ok (.lload_n 1, 1) := by decide +kernel
theorem d13_14 : decode prog_36_method_2_code 14 = .ok (.lload_n 3, 1) := by decide +kernel
theorem d13_15 : decode prog_36_method_2_code 15 = .ok (.lxor, 1) := by decide +kernel
theorem d13_16 : decode prog_36_method_2_code 16 = .ok (.land, 1) := by decide +kernel
theorem d13_17 : decode prog_36_method_2_code 17 = .ok (.lconst 0, 1) := by decide +kernel
theorem d13_18 : decode prog_36_method_2_code 18 = .ok (.lcmp, 1) := by decide +kernel
theorem d13_19 : decode prog_36_method_2_code 19 = .ok (.ifCond .ge 25, 3) := by decide +kernel
theorem d13_44 : decode prog_36_method_2_code 44 = .ok (.aload_n 0, 1) := by decide +kernel
theorem d13_45 : decode prog_36_method_2_code 45 = .ok (.lload_n 3, 1) := by decide +kernel
theorem d13_46 : decode prog_36_method_2_code 46 = .ok (.putfield 7, 3) := by decide +kernel
theorem d13_49 : decode prog_36_method_2_code 49 = .ok (.aload_n 0, 1) := by decide +kernel
theorem d13_50 : decode prog_36_method_2_code 50 = .ok (.areturn, 1) := by decide +kernel
set_option maxRecDepth 65536 in
set_option maxHeartbeats 40000000 in
theorem rm13 (l : Launch) (Z : State) (a0 : Array Value) (hw : ∀ d ∈ tables_1, d.before a0 Z = true) (ws : List Jvm.Cond) (a1 : Addr) (lo q2 : Int64) (h0 : Heap) (n0 : Nat) (Z0 : n0 ≤ h0.size) (g1 : n0 ≤ a1) (E1 : Exa Z h0 a1 "com/example/eskew/eskew/server/split/CounterValues$WideSum") (Fl : Fld Z h0 a1 "com/example/eskew/eskew/server/split/CounterValues$WideSum" "low" "J" (.long lo)) (Fh : Fld Z h0 a1 "com/example/eskew/eskew/server/split/CounterValues$WideSum" "high" "J" (.long 0)) (hov : ((lo ^^^ (lo + q2)) &&& (q2 ^^^ (lo + q2))) = 0) :
    own_Met l Z (⟨"com/example/eskew/eskew/server/split/CounterValues$WideSum", "add", "(J)Lcom/example/eskew/eskew/server/split/CounterValues$WideSum;"⟩ : MethodName) prog_36_method_2_code 5 (some (.object "com/example/eskew/eskew/server/split/CounterValues$WideSum")) ws ({ frames := 0, cells := 0, slots := 0, locals := 0 } : Room) #[(.ref a1), (.long q2)] h0 (Q_rm13 Z a1 lo q2 h0 n0) := by
  refine own_enter (g0 := fun m => (mkF m 0 #[.val (.ref a1), .val (.long q2), .second, .unset, .unset] [])) pn_rm13 (fun m => by first | (simp [entryFrame, mkF, argsToLocals, Value.category, maxLocals]; done) | rfl) ?_
  intro p e s m below meth c s₁ hx hby hml hown hnm hret hlk hZ X0 e0
  have hml : c.maxLocals = 5 := hml
  have hown : s.vm.findClass "com/example/eskew/eskew/server/split/CounterValues$WideSum" = some m.cls := hown
  have N0 := Fr.nil n0
  have K0 := Keep.refl h0 [a1]
  refine own_by (fun _ k => XS.aloadN X0.here hx rfl (hb hby d13_0) rfl rfl k) ?_
  obtain ⟨T718, X718, e718, st718⟩ := getF X0 hx hZ hown (host := "") (Or.inl (hw _ (List.mem_of_getElem? (i := 101) rfl))) Via.refl e0 Fl (g := (mkF m 1 #[.val (.ref a1), .val (.long q2), .second, .unset, .unset] [(.ref a1)])) rfl rfl (hb hby d13_1)
  refine own_by st718 ?_
  show own_Go p e below _ T718 (mkF m 4 #[.val (.ref a1), .val (.long q2), .second, .unset, .unset] [(.long lo)])
  refine own_by (fun _ k => XS.lloadN X718.here hx rfl (hb hby d13_4) rfl k) ?_
  refine own_by (fun _ k => XS.ladd X718.here hx rfl (hb hby d13_5) rfl k) ?_
  refine own_by (fun _ k => XS.lstoreN X718.here hx rfl (hb hby d13_6) rfl (l' := #[.val (.ref a1), .val (.long q2), .second, .val (.long (lo + q2)), .second]) rfl k) ?_
  show own_Go p e below _ T718 (mkF m 7 #[.val (.ref a1), .val (.long q2), .second, .val (.long (lo + q2)), .second] [])
  refine own_by (fun _ k => XS.aloadN X718.here hx rfl (hb hby d13_7) rfl rfl k) ?_
  obtain ⟨T719, X719, e719, st719⟩ := getF X718 hx hZ hown (host := "") (Or.inl (hw _ (List.mem_of_getElem? (i := 101) rfl))) Via.refl e718 Fl (g := (mkF m 8 #[.val (.ref a1), .val (.long q2), .second, .val (.long (lo + q2)), .second] [(.ref a1)])) rfl rfl (hb hby d13_8)
  refine own_by st719 ?_
  refine own_by (fun _ k => XS.lloadN X719.here hx rfl (hb hby d13_11) rfl k) ?_
  show own_Go p e below _ T719 (mkF m 12 #[.val (.ref a1), .val (.long q2), .second, .val (.long (lo + q2)), .second] [(.long (lo + q2)), (.long lo)])
  refine own_by (fun _ k => XS.lxor X719.here hx rfl (hb hby d13_12) rfl k) ?_
  refine own_by (fun _ k => XS.lloadN X719.here hx rfl (hb hby d13_13) rfl k) ?_
  refine own_by (fun _ k => XS.lloadN X719.here hx rfl (hb hby d13_14) rfl k) ?_
  show own_Go p e below _ T719 (mkF m 15 #[.val (.ref a1), .val (.long q2), .second, .val (.long (lo + q2)), .second] [(.long (lo + q2)), (.long q2), (.long (lo ^^^ (lo + q2)))])
  refine own_by (fun _ k => XS.lxor X719.here hx rfl (hb hby d13_15) rfl k) ?_
  refine own_by (fun _ k => XS.land X719.here hx rfl (hb hby d13_16) rfl k) ?_
  refine own_by (fun _ k => XS.lconst X719.here hx rfl (hb hby d13_17) k) ?_
  show own_Go p e below _ T719 (mkF m 18 #[.val (.ref a1), .val (.long q2), .second, .val (.long (lo + q2)), .second] [(.long (0 : Int64)), (.long ((lo ^^^ (lo + q2)) &&& (q2 ^^^ (lo + q2))))])
  refine own_by (fun _ k => XS.lcmp X719.here hx rfl (hb hby d13_18) rfl k) ?_
  refine own_by (fun _ k => XS.ifYes X719.here hx rfl (pc0 := 19) (pc' := 44) rfl (hb hby d13_19) rfl ((if0 _ _).trans (flt (fun q => absurd ((lw_lt _ _).mp q) (by rw [hov]; decide) : ¬ ((lcmpW ((lo ^^^ (lo + q2)) &&& (q2 ^^^ (lo + q2))) (0 : Int64)) < (0 : Int32)))).2.1) (by decide) (by decide) k) ?_
  refine own_by (fun _ k => XS.aloadN X719.here hx rfl (hb hby d13_44) rfl rfl k) ?_
  show own_Go p e below _ T719 (mkF m 45 #[.val (.ref a1), .val (.long q2), .second, .val (.long (lo + q2)), .second] [(.ref a1)])
  refine own_by (fun _ k => XS.lloadN X719.here hx rfl (hb hby d13_45) rfl k) ?_
  obtain ⟨T720, h720, X720, e720, W720, st720⟩ := putF X719 hx hZ hown (host := "") (Or.inl (hw _ (List.mem_of_getElem? (i := 101) rfl))) Via.refl e719 Fl E1 (Or.inl (hw _ (List.mem_of_getElem? (i := 102) rfl))) (hw _ (List.mem_of_getElem? (i := 12) rfl)) (ty := .long) (by decide) rfl rfl (g := (mkF m 46 #[.val (.ref a1), .val (.long q2), .second, .val (.long (lo + q2)), .second] [(.long (lo + q2)), (.ref a1)])) rfl rfl (hb hby d13_46)
  refine own_by st720 ?_
  have N720 := Fr.snoc X720 N0 g1
  have fw720 := Fl.same W720
  have K721 := K0.wr W720 (Or.inl (List.mem_of_getElem? (i := 0) rfl))
  have Z720 : n0 ≤ h720.size := Nat.le_trans Z0 (Keep.of_wr W720).1
  refine own_by (fun _ k => XS.aloadN X720.here hx rfl (hb hby d13_49) rfl rfl k) ?_
  show own_Go p e below _ T720 (mkF m 50 #[.val (.ref a1), .val (.long q2), .second, .val (.long (lo + q2)), .second] [(.ref a1)])
  have f722 := (Fh.other W720 (Or.inr (slot_ne (Or.inl (hw _ (List.mem_of_getElem? (i := 109) rfl))) (Or.inl (hw _ (List.mem_of_getElem? (i := 102) rfl))) (by decide) (t := .long) (t' := .long) (by decide) (by decide))))
  exact own_retA X720 hx hlk hret rfl rfl (hb hby d13_50) (by first | exact ⟨rfl, N720, K721, fw720, f722⟩ | (rw [e720]; exact ⟨rfl, N720, K721, fw720, f722⟩)) (by decide) (by decide)
def own_u (j ky : Int32) (V : Int64) : Int64 := if j = ky then V else 0
def own_s (i ky : Int32) (V : Int64) : Int64 := if ky < i then V else 0
def own_Vals (Z : State) (h : Heap) (vs : List Value) (nk ky : Int32) (V : Int64) : Prop := ∀ j : Int32, ¬ j < 0 → j < nk → ∃ t, vs.getD j.toNatClampNeg .null = .ref t ∧ Fld Z h t "com/example/eskew/eskew/server/split/CounterValues$Tally" "value" "J" (.long (own_u j ky V))
theorem own_ov0 (q : Int64) : ((0 ^^^ (0 + q)) &&& (q ^^^ (0 + q))) = 0 := by rw [Int64.zero_add, Int64.xor_self, Int64.and_zero]
theorem own_ov1 (q : Int64) : ((q ^^^ (q + 0)) &&& (0 ^^^ (q + 0))) = 0 := by rw [Int64.add_zero, Int64.xor_self, Int64.zero_and]
theorem own_cs (i ky : Int32) (V : Int64) : own_s i ky V = 0 ∨ own_u i ky V = 0 := by
  by_cases h : ky < i
  · right; have : ¬ i = ky := fun q => by rw [q] at h; exact absurd h (by rw [Int32.lt_iff_toInt_lt]; exact Int.lt_irrefl _)
    simp only [own_u, if_neg this]
  · left; simp only [own_s, if_neg h]
theorem own_ov (i ky : Int32) (V : Int64) : ((own_s i ky V ^^^ (own_s i ky V + own_u i ky V)) &&& (own_u i ky V ^^^ (own_s i ky V + own_u i ky V))) = 0 := by
  rcases own_cs i ky V with h | h
  · rw [h]; exact own_ov0 _
  · rw [h]; exact own_ov1 _
theorem own_st (i i' ky : Int32) (V : Int64) (h : i'.toInt = i.toInt + 1) : own_s i ky V + own_u i ky V = own_s i' ky V := by
  have e1 : ky < i ↔ ky.toInt < i.toInt := Int32.lt_iff_toInt_lt
  have e2 : ky < i' ↔ ky.toInt < i'.toInt := Int32.lt_iff_toInt_lt
  have e3 : i = ky ↔ i.toInt = ky.toInt := Int32.toInt_inj.symm
  unfold own_s own_u
  by_cases h1 : ky < i
  · rw [if_pos h1, if_neg (fun q => by rw [e3] at q; rw [e1] at h1; omega), if_pos (by rw [e2]; rw [e1] at h1; omega), Int64.add_zero]
  · by_cases h2 : i = ky
    · rw [if_neg h1, if_pos h2, if_pos (by rw [e2]; rw [e3] at h2; omega), Int64.zero_add]
    · rw [if_neg h1, if_neg h2, if_neg (by rw [e2]; rw [e3] at h2; rw [e1] at h1; omega), Int64.zero_add]
def Q_rm12_2 (Z : State) (a1 ta : Addr) (kt : ClassId) (vs : List Value) (ky : Int32) (V : Int64) (h0 : Heap) (n0 : Nat) (v : Option Value) (h : Heap) (L : List Loc) : Prop := ∃ b, v = some (.ref b) ∧ Fr n0 L ∧ Keep h0 h [] ∧ h0.size ≤ b ∧ Exa Z h b "com/example/eskew/eskew/server/split/CounterValues$WideSum" ∧ Fld Z h b "com/example/eskew/eskew/server/split/CounterValues$WideSum" "low" "J" (.long V) ∧ Fld Z h b "com/example/eskew/eskew/server/split/CounterValues$WideSum" "high" "J" (.long 0)
theorem pn_rm12_2 : plainFor (⟨"com/example/eskew/eskew/server/split/CounterValues", "wideTotal", "()Lcom/example/eskew/eskew/server/split/CounterValues$WideSum;"⟩ : MethodName) = true := plainFor_of_name (by first | (simp [plainName, overriddenIn, x]; done) | decide +kernel)
theorem d12_0 : decode prog_33_method_18_code 0 = .ok (.new 7, 3) := by decide +kernel
theorem d12_3 : decode prog_33_method_18_code 3 = .ok (.dup, 1) := by decide +kernel
theorem d12_4 : decode prog_33_method_18_code 4 = .ok (.invokespecial 9, 3) := by decide +kernel
theorem d12_7 : decode prog_33_method_18_code 7 = .ok (.astore_n 1, 1) := by decide +kernel
theorem d12_8 : decode prog_33_method_18_code 8 = .ok (.aload_n 0, 1) := by decide +kernel
theorem d12_9 : decode prog_33_method_18_code 9 = .ok (.getfield 32, 3) := by decide +kernel
theorem d12_12 : decode prog_33_method_18_code 12 = .ok (.astore_n 2, 1) := by decide +kernel
theorem d12_13 : decode prog_33_method_18_code 13 = .ok (.aload_n 2, 1) := by decide +kernel
theorem d12_14 : decode prog_33_method_18_code 14 = .ok (.arraylength, 1) := by decide +kernel
theorem d12_15 : decode prog_33_method_18_code 15 = .ok (.istore_n 3, 1) := by decide +kernel
theorem d12_16 : decode prog_33_method_18_code 16 = .ok (.iconst 0, 1) := by decide +kernel
theorem d12_17 : decode prog_33_method_18_code 17 = .ok (.istore 4, 2) := by decide +kernel
theorem d12_19 : decode prog_33_method_18_code 19 = .ok (.iload 4, 2) := by decide +kernel
theorem d12_21 : decode prog_33_method_18_code 21 = .ok (.iload_n 3, 1) := by decide +kernel
theorem d12_22 : decode prog_33_method_18_code 22 = .ok (.if_icmp .ge 25, 3) := by decide +kernel
theorem d12_25 : decode prog_33_method_18_code 25 = .ok (.aload_n 2, 1) := by decide +kernel
theorem d12_26 : decode prog_33_method_18_code 26 = .ok (.iload 4, 2) := by decide +kernel
theorem d12_28 : decode prog_33_method_18_code 28 = .ok (.aaload, 1) := by decide +kernel
theorem d12_29 : decode prog_33_method_18_code 29 = .ok (.astore 5, 2) := by decide +kernel
theorem d12_31 : decode prog_33_method_18_code 31 = .ok (.aload_n 1, 1) := by decide +kernel
theorem d12_32 : decode prog_33_method_18_code 32 = .ok (.aload 5, 2) := by decide +kernel
theorem d12_34 : decode prog_33_method_18_code 34 = .ok (.getfield 62, 3) := by decide +kernel
theorem pd_6 : parseMethodDescriptor "(J)Lcom/example/eskew/eskew/server/split/CounterValues$WideSum;" = some ⟨[.long], some (.object "com/example/eskew/eskew/server/split/CounterValues$WideSum")⟩ := by decide +kernel
theorem d12_37 : decode prog_33_method_18_code 37 = .ok (.invokevirtual 76, 3) := by decide +kernel
theorem d12_40 : decode prog_33_method_18_code 40 = .ok (.pop, 1) := by decide +kernel
theorem d12_41 : decode prog_33_method_18_code 41 = .ok (.iinc 4 1, 3) := by decide +kernel
theorem d12_44 : decode prog_33_method_18_code 44 = .ok (.goto (-25), 3) := by decide +kernel
theorem d12_47 : decode prog_33_method_18_code 47 = .ok (.aload_n 1, 1) := by decide +kernel
theorem d12_48 : decode prog_33_method_18_code 48 = .ok (.areturn, 1) := by decide +kernel
set_option maxRecDepth 65536 in
set_option maxHeartbeats 40000000 in
theorem rm12_2 (l : Launch) (Z : State) (a0 : Array Value) (hw : ∀ d ∈ tables_1, d.before a0 Z = true) (ws : List Jvm.Cond) (a1 ta : Addr) (kt : ClassId) (vs : List Value) (ky : Int32) (V : Int64) (h0 : Heap) (n0 : Nat) (Z0 : n0 ≤ h0.size) (hk : ¬ ky < 0 ∧ ky < (2 : Int32)) (Fa : Fld Z h0 a1 "com/example/eskew/eskew/server/split/CounterValues" "tallies" "[Lcom/example/eskew/eskew/server/split/CounterValues$Tally;" (.ref ta)) (Va : Arv Z h0 ta kt (.object "com/example/eskew/eskew/server/split/CounterValues$Tally") (2 : Int32) vs .null) (HV : own_Vals Z h0 vs (2 : Int32) ky V) :
    own_Met l Z (⟨"com/example/eskew/eskew/server/split/CounterValues", "wideTotal", "()Lcom/example/eskew/eskew/server/split/CounterValues$WideSum;"⟩ : MethodName) prog_33_method_18_code 6 (some (.object "com/example/eskew/eskew/server/split/CounterValues$WideSum")) ws ({ frames := 2, cells := 1, slots := 2, locals := 48 } : Room) #[(.ref a1)] h0 (Q_rm12_2 Z a1 ta kt vs ky V h0 n0) := by
  refine own_enter (g0 := fun m => (mkF m 0 #[.val (.ref a1), .unset, .unset, .unset, .unset, .unset] [])) pn_rm12_2 (fun m => by first | (simp [entryFrame, mkF, argsToLocals, Value.category, maxLocals]; done) | rfl) ?_
  intro p e s m below meth c s₁ hx hby hml hown hnm hret hlk hZ X0 e0
  have hml : c.maxLocals = 6 := hml
  have hown : s.vm.findClass "com/example/eskew/eskew/server/split/CounterValues" = some m.cls := hown
  have N0 := Fr.nil n0
  have K0 := Keep.refl h0 []
  obtain ⟨t0', gv0, Fv0⟩ := HV (0 : Int32) (by decide) (by decide)
  obtain ⟨t1', gv1, Fv1⟩ := HV (1 : Int32) (by decide) (by decide)
  obtain ⟨T723, h723, X723, e723, E723, A723, D723, -, st723⟩ := newO X0 hx hZ hown (hw _ (List.mem_of_getElem? (i := 11) rfl)) (hw _ (List.mem_of_getElem? (i := 12) rfl)) (hw _ (List.mem_of_getElem? (i := 13) rfl)) e0 (g := (mkF m 0 #[.val (.ref a1), .unset, .unset, .unset, .unset, .unset] [])) rfl (hb hby d12_0) (by decide) (by decide)
  obtain ⟨b723, g723⟩ : ∃ zq, zq = h0.size := ⟨_, rfl⟩
  rw [← g723] at A723 D723 st723
  have ne_a1_b723 : a1 ≠ b723 := Nat.ne_of_lt (Nat.lt_of_lt_of_le Fa.lt (Nat.le_of_eq g723.symm))
  have ne_ta_b723 : ta ≠ b723 := Nat.ne_of_lt (Nat.lt_of_lt_of_le Va.lt (Nat.le_of_eq g723.symm))
  have ne_t0__b723 : t0' ≠ b723 := Nat.ne_of_lt (Nat.lt_of_lt_of_le Fv0.lt (Nat.le_of_eq g723.symm))
  have ne_t1__b723 : t1' ≠ b723 := Nat.ne_of_lt (Nat.lt_of_lt_of_le Fv1.lt (Nat.le_of_eq g723.symm))
  have og_b723 : n0 ≤ b723 := Nat.le_trans Z0 (Nat.le_of_eq g723.symm)
  have sz_b723 : h0.size ≤ b723 := Nat.le_trans K0.1 (Nat.le_of_eq g723.symm)
  have Z723 : n0 ≤ h723.size := Nat.le_trans Z0 E723.1
  have K724 := K0.ext E723
  have F_low_b723 : Fld Z h723 b723 "com/example/eskew/eskew/server/split/CounterValues$WideSum" "low" "J" (.long (0 : Int64)) := D723 (Or.inl (hw _ (List.mem_of_getElem? (i := 102) rfl))) (ty := .long) (by decide)
  have F_high_b723 : Fld Z h723 b723 "com/example/eskew/eskew/server/split/CounterValues$WideSum" "high" "J" (.long (0 : Int64)) := D723 (Or.inl (hw _ (List.mem_of_getElem? (i := 109) rfl))) (ty := .long) (by decide)
  refine own_by st723 ?_
  refine own_by (fun _ k => XS.dup X723.here hx rfl (hb hby d12_3) rfl rfl k) ?_
  show own_Go p e below _ T723 (mkF m 4 #[.val (.ref a1), .unset, .unset, .unset, .unset, .unset] [(.ref b723), (.ref b723)])
  obtain ⟨_, T725, L725, X725, ⟨rfl, N725q, e725⟩, st725⟩ := own_callR X723 hx hZ hown (y := (⟨"com/example/eskew/eskew/server/split/CounterValues$WideSum", "<init>", "()V"⟩ : MethodName)) rfl (hw _ (List.mem_of_getElem? (i := 14) rfl)) (hw _ (List.mem_of_getElem? (i := 15) rfl)) (hw _ (List.mem_of_getElem? (i := 13) rfl)) (hw _ (List.mem_of_getElem? (i := 16) rfl)) (by decide) (a := b723) (argsL := []) (rest := [(.ref b723)]) e723 (rm3 l Z a0 hw [] b723 h723 n0 Z723) (g := (mkF m 4 #[.val (.ref a1), .unset, .unset, .unset, .unset, .unset] [(.ref b723), (.ref b723)])) rfl (by rw [hml]; rfl) (lenOf pd_0 rfl) rfl (W := 1) (by show 2 * 0 + _ ≤ _; exact Nat.le_of_eq rfl) (hb hby d12_4) (by decide) (by decide) (by decide) (by decide)
  have N725 := Fr.app N0 N725q
  refine own_by st725 ?_
  refine own_by (fun _ k => XS.astoreN X725.here hx rfl (hb hby d12_7) rfl rfl (l' := #[.val (.ref a1), .val (.ref b723), .unset, .unset, .unset, .unset]) rfl k) ?_
  refine own_by (fun _ k => XS.aloadN X725.here hx rfl (hb hby d12_8) rfl rfl k) ?_
  show own_Go p e below _ T725 (mkF m 9 #[.val (.ref a1), .val (.ref b723), .unset, .unset, .unset, .unset] [(.ref a1)])
  have f727 := (Fa.ext E723)
  obtain ⟨T726, X726, e726, st726⟩ := getF X725 hx hZ hown (host := "") (Or.inl (hw _ (List.mem_of_getElem? (i := 30) rfl))) Via.refl e725 f727 (g := (mkF m 9 #[.val (.ref a1), .val (.ref b723), .unset, .unset, .unset, .unset] [(.ref a1)])) rfl rfl (hb hby d12_9)
  refine own_by st726 ?_
  refine own_by (fun _ k => XS.astoreN X726.here hx rfl (hb hby d12_12) rfl rfl (l' := #[.val (.ref a1), .val (.ref b723), .val (.ref ta), .unset, .unset, .unset]) rfl k) ?_
  refine own_by (fun _ k => XS.aloadN X726.here hx rfl (hb hby d12_13) rfl rfl k) ?_
  show own_Go p e below _ T726 (mkF m 14 #[.val (.ref a1), .val (.ref b723), .val (.ref ta), .unset, .unset, .unset] [(.ref ta)])
  have f729 := (Va.ext E723)
  obtain ⟨cl728, Ar728, len728⟩ := own_len f729
  refine own_by (T' := T726) (g' := (mkF m 15 #[.val (.ref a1), .val (.ref b723), .val (.ref ta), .unset, .unset, .unset] [(.int (2 : Int32))])) (fun _ k => X726.arraylength hx (by rw [e726]; exact Ar728.1) (State.isArrayOf_alike hZ.alike Ar728.2.1) (g := (mkF m 14 #[.val (.ref a1), .val (.ref b723), .val (.ref ta), .unset, .unset, .unset] [(.ref ta)])) rfl rfl (hb hby d12_14) _ (by rw [len728]; exact k)) ?_
  refine own_by (fun _ k => XS.istoreN X726.here hx rfl (hb hby d12_15) rfl (l' := #[.val (.ref a1), .val (.ref b723), .val (.ref ta), .val (.int (2 : Int32)), .unset, .unset]) rfl k) ?_
  refine own_by (fun _ k => XS.iconst X726.here hx rfl (hb hby d12_16) k) ?_
  refine own_by (fun _ k => XS.istore X726.here hx rfl (hb hby d12_17) rfl (l' := #[.val (.ref a1), .val (.ref b723), .val (.ref ta), .val (.int (2 : Int32)), .val (.int (0 : Int32)), .unset]) rfl k) ?_
  show own_Go p e below _ T726 (mkF m 19 #[.val (.ref a1), .val (.ref b723), .val (.ref ta), .val (.int (2 : Int32)), .val (.int (0 : Int32)), .unset] [])
  refine own_by (fun _ k => XS.iload X726.here hx rfl (hb hby d12_19) rfl k) ?_
  refine own_by (fun _ k => XS.iloadN X726.here hx rfl (hb hby d12_21) rfl k) ?_
  have fl0 : Fld Z h723 b723 "com/example/eskew/eskew/server/split/CounterValues$WideSum" "low" "J" (.long (own_s (0 : Int32) ky V)) := by rw [show own_s (0 : Int32) ky V = 0 from if_neg hk.1]; exact F_low_b723
  refine own_by (fun _ k => XS.icmpNo X726.here hx rfl (hb hby d12_22) rfl (tlt (by decide : (0 : Int32) < (2 : Int32))).2.1 k) ?_
  show own_Go p e below _ T726 (mkF m 25 #[.val (.ref a1), .val (.ref b723), .val (.ref ta), .val (.int (2 : Int32)), .val (.int (0 : Int32)), .unset] [])
  refine own_by (fun _ k => XS.aloadN X726.here hx rfl (hb hby d12_25) rfl rfl k) ?_
  refine own_by (fun _ k => XS.iload X726.here hx rfl (hb hby d12_26) rfl k) ?_
  obtain ⟨cl730, Ar730, cq730, hin730, hat730, set730⟩ := own_arv f729 (j := (0 : Int32)) ⟨by decide, by decide⟩
  refine own_by (fun _ k => X726.aaload hx (j := (0 : Int32)) (v := (.ref t0')) (by rw [e726]; exact Ar730.1) (State.isArrayOf_alike hZ.alike Ar730.2.1) rfl Ar730.2.2 hin730 (by rw [hat730]; exact congrArg some gv0) (g := (mkF m 28 #[.val (.ref a1), .val (.ref b723), .val (.ref ta), .val (.int (2 : Int32)), .val (.int (0 : Int32)), .unset] [(.int (0 : Int32)), (.ref ta)])) rfl rfl (hb hby d12_28) _ k) ?_
  show own_Go p e below _ T726 (mkF m 29 #[.val (.ref a1), .val (.ref b723), .val (.ref ta), .val (.int (2 : Int32)), .val (.int (0 : Int32)), .unset] [(.ref t0')])
  refine own_by (fun _ k => XS.astore X726.here hx rfl (hb hby d12_29) rfl rfl (l' := #[.val (.ref a1), .val (.ref b723), .val (.ref ta), .val (.int (2 : Int32)), .val (.int (0 : Int32)), .val (.ref t0')]) rfl k) ?_
  refine own_by (fun _ k => XS.aloadN X726.here hx rfl (hb hby d12_31) rfl rfl k) ?_
  refine own_by (fun _ k => XS.aload X726.here hx rfl (hb hby d12_32) rfl rfl k) ?_
  show own_Go p e below _ T726 (mkF m 34 #[.val (.ref a1), .val (.ref b723), .val (.ref ta), .val (.int (2 : Int32)), .val (.int (0 : Int32)), .val (.ref t0')] [(.ref t0'), (.ref b723)])
  have f732 := (Fv0.ext E723)
  obtain ⟨T731, X731, e731, st731⟩ := own_getR X726 hx hZ hown (hw _ (List.mem_of_getElem? (i := 68) rfl)) e726 f732 (g := (mkF m 34 #[.val (.ref a1), .val (.ref b723), .val (.ref ta), .val (.int (2 : Int32)), .val (.int (0 : Int32)), .val (.ref t0')] [(.ref t0'), (.ref b723)])) rfl rfl (hb hby d12_34)
  refine own_by st731 ?_
  have f733 := (Fv1.ext E723)
  obtain ⟨_, T734, L734, X734, ⟨rfl, N734q, K0', L0', G0'⟩, st734⟩ := own_callV X731 hx hZ hown (y := (⟨"com/example/eskew/eskew/server/split/CounterValues$WideSum", "add", "(J)Lcom/example/eskew/eskew/server/split/CounterValues$WideSum;"⟩ : MethodName)) (C := "com/example/eskew/eskew/server/split/CounterValues$WideSum") (hw _ (List.mem_of_getElem? (i := 96) rfl)) (hw _ (List.mem_of_getElem? (i := 97) rfl)) (hw _ (List.mem_of_getElem? (i := 99) rfl)) (hw _ (List.mem_of_getElem? (i := 98) rfl)) (hw _ (List.mem_of_getElem? (i := 13) rfl)) (hw _ (List.mem_of_getElem? (i := 100) rfl)) (by decide) (a := b723) A723 (argsL := [(.long (own_u (0 : Int32) ky V))]) (rest := []) e731 (rm13 l Z a0 hw [] b723 (own_s (0 : Int32) ky V) (own_u (0 : Int32) ky V) h723 n0 Z723 og_b723 A723 fl0 F_high_b723 (own_ov _ _ _)) (g := (mkF m 37 #[.val (.ref a1), .val (.ref b723), .val (.ref ta), .val (.int (2 : Int32)), .val (.int (0 : Int32)), .val (.ref t0')] [(.long (own_u (0 : Int32) ky V)), (.ref b723)])) rfl (by rw [hml]; rfl) (lenOf pd_6 rfl) rfl (W := 0) (by show 2 * 0 + _ ≤ _; exact Nat.le_of_eq rfl) (hb hby d12_37) (by decide) (by decide) (by decide) (by decide)
  have N734 := Fr.app N725 N734q
  refine own_by st734 ?_
  have Z734 : n0 ≤ T734.heap.size := Nat.le_trans Z723 K0'.1
  have K734c := K724.trans K0' (allS (Or.inr sz_b723) all0)
  rw [own_st (0 : Int32) (1 : Int32) ky V (by decide)] at L0'
  refine own_by (fun _ k => XS.pop X734.here hx rfl (hb hby d12_40) rfl rfl k) ?_
  show own_Go p e below _ T734 (mkF m 41 #[.val (.ref a1), .val (.ref b723), .val (.ref ta), .val (.int (2 : Int32)), .val (.int (0 : Int32)), .val (.ref t0')] [])
  refine own_by (fun _ k => XS.iinc X734.here hx rfl (hb hby d12_41) rfl (l' := #[.val (.ref a1), .val (.ref b723), .val (.ref ta), .val (.int (2 : Int32)), .val (.int ((0 : Int32) + (1 : Int32))), .val (.ref t0')]) rfl k) ?_
  show own_Go p e below _ T734 (mkF m 44 #[.val (.ref a1), .val (.ref b723), .val (.ref ta), .val (.int (2 : Int32)), .val (.int ((0 : Int32) + (1 : Int32))), .val (.ref t0')] [])
  rw [show (0 : Int32) + (1 : Int32) = (1 : Int32) from by decide]
  refine own_by (fun _ k => XS.goto X734.here hx rfl (pc0 := 44) (pc' := 19) rfl (hb hby d12_44) (by decide) (by decide) k) ?_
  refine own_by (fun _ k => XS.iload X734.here hx rfl (hb hby d12_19) rfl k) ?_
  show own_Go p e below _ T734 (mkF m 21 #[.val (.ref a1), .val (.ref b723), .val (.ref ta), .val (.int (2 : Int32)), .val (.int (1 : Int32)), .val (.ref t0')] [(.int (1 : Int32))])
  refine own_by (fun _ k => XS.iloadN X734.here hx rfl (hb hby d12_21) rfl k) ?_
  refine own_by (fun _ k => XS.icmpNo X734.here hx rfl (hb hby d12_22) rfl (tlt (by decide : (1 : Int32) < (2 : Int32))).2.1 k) ?_
  refine own_by (fun _ k => XS.aloadN X734.here hx rfl (hb hby d12_25) rfl rfl k) ?_
  show own_Go p e below _ T734 (mkF m 26 #[.val (.ref a1), .val (.ref b723), .val (.ref ta), .val (.int (2 : Int32)), .val (.int (1 : Int32)), .val (.ref t0')] [(.ref ta)])
  refine own_by (fun _ k => XS.iload X734.here hx rfl (hb hby d12_26) rfl k) ?_
  have f736 := (f729.keep K0' (ninS ne_ta_b723 nin0))
  obtain ⟨cl735, Ar735, cq735, hin735, hat735, set735⟩ := own_arv f736 (j := (1 : Int32)) ⟨by decide, by decide⟩
  refine own_by (fun _ k => X734.aaload hx (j := (1 : Int32)) (v := (.ref t1')) Ar735.1 (State.isArrayOf_alike hZ.alike Ar735.2.1) rfl Ar735.2.2 hin735 (by rw [hat735]; exact congrArg some gv1) (g := (mkF m 28 #[.val (.ref a1), .val (.ref b723), .val (.ref ta), .val (.int (2 : Int32)), .val (.int (1 : Int32)), .val (.ref t0')] [(.int (1 : Int32)), (.ref ta)])) rfl rfl (hb hby d12_28) _ k) ?_
  refine own_by (fun _ k => XS.astore X734.here hx rfl (hb hby d12_29) rfl rfl (l' := #[.val (.ref a1), .val (.ref b723), .val (.ref ta), .val (.int (2 : Int32)), .val (.int (1 : Int32)), .val (.ref t1')]) rfl k) ?_
  show own_Go p e below _ T734 (mkF m 31 #[.val (.ref a1), .val (.ref b723), .val (.ref ta), .val (.int (2 : Int32)), .val (.int (1 : Int32)), .val (.ref t1')] [])
  refine own_by (fun _ k => XS.aloadN X734.here hx rfl (hb hby d12_31) rfl rfl k) ?_
  refine own_by (fun _ k => XS.aload X734.here hx rfl (hb hby d12_32) rfl rfl k) ?_
  have f738 := (f733.keep K0' (ninS ne_t1__b723 nin0))
  obtain ⟨T737, X737, e737, st737⟩ := own_getR X734 hx hZ hown (hw _ (List.mem_of_getElem? (i := 68) rfl)) rfl f738 (g := (mkF m 34 #[.val (.ref a1), .val (.ref b723), .val (.ref ta), .val (.int (2 : Int32)), .val (.int (1 : Int32)), .val (.ref t1')] [(.ref t1'), (.ref b723)])) rfl rfl (hb hby d12_34)
  refine own_by st737 ?_
  show own_Go p e below _ T737 (mkF m 37 #[.val (.ref a1), .val (.ref b723), .val (.ref ta), .val (.int (2 : Int32)), .val (.int (1 : Int32)), .val (.ref t1')] [(.long (own_u (1 : Int32) ky V)), (.ref b723)])
  have f739 := (A723.keep K0')
  have f740 := (f727.keep K0' (ninS ne_a1_b723 nin0))
  have f741 := (f732.keep K0' (ninS ne_t0__b723 nin0))
  obtain ⟨_, T742, L742, X742, ⟨rfl, N742q, K1', L1', G1'⟩, st742⟩ := own_callV X737 hx hZ hown (y := (⟨"com/example/eskew/eskew/server/split/CounterValues$WideSum", "add", "(J)Lcom/example/eskew/eskew/server/split/CounterValues$WideSum;"⟩ : MethodName)) (C := "com/example/eskew/eskew/server/split/CounterValues$WideSum") (hw _ (List.mem_of_getElem? (i := 96) rfl)) (hw _ (List.mem_of_getElem? (i := 97) rfl)) (hw _ (List.mem_of_getElem? (i := 99) rfl)) (hw _ (List.mem_of_getElem? (i := 98) rfl)) (hw _ (List.mem_of_getElem? (i := 13) rfl)) (hw _ (List.mem_of_getElem? (i := 100) rfl)) (by decide) (a := b723) f739 (argsL := [(.long (own_u (1 : Int32) ky V))]) (rest := []) e737 (rm13 l Z a0 hw [] b723 (own_s (1 : Int32) ky V) (own_u (1 : Int32) ky V) T734.heap n0 Z734 og_b723 f739 L0' G0' (own_ov _ _ _)) (g := (mkF m 37 #[.val (.ref a1), .val (.ref b723), .val (.ref ta), .val (.int (2 : Int32)), .val (.int (1 : Int32)), .val (.ref t1')] [(.long (own_u (1 : Int32) ky V)), (.ref b723)])) rfl (by rw [hml]; rfl) (lenOf pd_6 rfl) rfl (W := 0) (by show 2 * 0 + _ ≤ _; exact Nat.le_of_eq rfl) (hb hby d12_37) (by decide) (by decide) (by decide) (by decide)
  have N742 := Fr.app N734 N742q
  refine own_by st742 ?_
  have Z742 : n0 ≤ T742.heap.size := Nat.le_trans Z734 K1'.1
  have K742c := K734c.trans K1' (allS (Or.inr sz_b723) all0)
  rw [own_st (1 : Int32) (2 : Int32) ky V (by decide)] at L1'
  refine own_by (fun _ k => XS.pop X742.here hx rfl (hb hby d12_40) rfl rfl k) ?_
  refine own_by (fun _ k => XS.iinc X742.here hx rfl (hb hby d12_41) rfl (l' := #[.val (.ref a1), .val (.ref b723), .val (.ref ta), .val (.int (2 : Int32)), .val (.int ((1 : Int32) + (1 : Int32))), .val (.ref t1')]) rfl k) ?_
  show own_Go p e below _ T742 (mkF m 44 #[.val (.ref a1), .val (.ref b723), .val (.ref ta), .val (.int (2 : Int32)), .val (.int ((1 : Int32) + (1 : Int32))), .val (.ref t1')] [])
  rw [show (1 : Int32) + (1 : Int32) = (2 : Int32) from by decide]
  refine own_by (fun _ k => XS.goto X742.here hx rfl (pc0 := 44) (pc' := 19) rfl (hb hby d12_44) (by decide) (by decide) k) ?_
  refine own_by (fun _ k => XS.iload X742.here hx rfl (hb hby d12_19) rfl k) ?_
  show own_Go p e below _ T742 (mkF m 21 #[.val (.ref a1), .val (.ref b723), .val (.ref ta), .val (.int (2 : Int32)), .val (.int (2 : Int32)), .val (.ref t1')] [(.int (2 : Int32))])
  refine own_by (fun _ k => XS.iloadN X742.here hx rfl (hb hby d12_21) rfl k) ?_
  refine own_by (fun _ k => XS.icmpYes X742.here hx rfl (pc0 := 22) (pc' := 47) rfl (hb hby d12_22) rfl (flt (by decide : ¬ ((2 : Int32) < (2 : Int32)))).2.1 (by decide) (by decide) k) ?_
  refine own_by (fun _ k => XS.aloadN X742.here hx rfl (hb hby d12_47) rfl rfl k) ?_
  show own_Go p e below _ T742 (mkF m 48 #[.val (.ref a1), .val (.ref b723), .val (.ref ta), .val (.int (2 : Int32)), .val (.int (2 : Int32)), .val (.ref t1')] [(.ref b723)])
  have f743 := (f739.keep K1')
  exact own_retA X742 hx hlk hret rfl rfl (hb hby d12_48) ⟨b723, rfl, N742, K742c, sz_b723, f743, by rw [show V = own_s (2 : Int32) ky V from (if_pos hk.2).symm]; exact L1', G1'⟩ (by decide) (by decide)
def Q_rm12_3 (Z : State) (a1 ta : Addr) (kt : ClassId) (vs : List Value) (ky : Int32) (V : Int64) (h0 : Heap) (n0 : Nat) (v : Option Value) (h : Heap) (L : List Loc) : Prop := ∃ b, v = some (.ref b) ∧ Fr n0 L ∧ Keep h0 h [] ∧ h0.size ≤ b ∧ Exa Z h b "com/example/eskew/eskew/server/split/CounterValues$WideSum" ∧ Fld Z h b "com/example/eskew/eskew/server/split/CounterValues$WideSum" "low" "J" (.long V) ∧ Fld Z h b "com/example/eskew/eskew/server/split/CounterValues$WideSum" "high" "J" (.long 0)
theorem pn_rm12_3 : plainFor (⟨"com/example/eskew/eskew/server/split/CounterValues", "wideTotal", "()Lcom/example/eskew/eskew/server/split/CounterValues$WideSum;"⟩ : MethodName) = true := plainFor_of_name (by first | (simp [plainName, overriddenIn, x]; done) | decide +kernel)
set_option maxRecDepth 65536 in
set_option maxHeartbeats 40000000 in
theorem rm12_3 (l : Launch) (Z : State) (a0 : Array Value) (hw : ∀ d ∈ tables_1, d.before a0 Z = true) (ws : List Jvm.Cond) (a1 ta : Addr) (kt : ClassId) (vs : List Value) (ky : Int32) (V : Int64) (h0 : Heap) (n0 : Nat) (Z0 : n0 ≤ h0.size) (hk : ¬ ky < 0 ∧ ky < (3 : Int32)) (Fa : Fld Z h0 a1 "com/example/eskew/eskew/server/split/CounterValues" "tallies" "[Lcom/example/eskew/eskew/server/split/CounterValues$Tally;" (.ref ta)) (Va : Arv Z h0 ta kt (.object "com/example/eskew/eskew/server/split/CounterValues$Tally") (3 : Int32) vs .null) (HV : own_Vals Z h0 vs (3 : Int32) ky V) :
    own_Met l Z (⟨"com/example/eskew/eskew/server/split/CounterValues", "wideTotal", "()Lcom/example/eskew/eskew/server/split/CounterValues$WideSum;"⟩ : MethodName) prog_33_method_18_code 6 (some (.object "com/example/eskew/eskew/server/split/CounterValues$WideSum")) ws ({ frames := 2, cells := 1, slots := 2, locals := 48 } : Room) #[(.ref a1)] h0 (Q_rm12_3 Z a1 ta kt vs ky V h0 n0) := by
  refine own_enter (g0 := fun m => (mkF m 0 #[.val (.ref a1), .unset, .unset, .unset, .unset, .unset] [])) pn_rm12_3 (fun m => by first | (simp [entryFrame, mkF, argsToLocals, Value.category, maxLocals]; done) | rfl) ?_
  intro p e s m below meth c s₁ hx hby hml hown hnm hret hlk hZ X0 e0
  have hml : c.maxLocals = 6 := hml
  have hown : s.vm.findClass "com/example/eskew/eskew/server/split/CounterValues" = some m.cls := hown
  have N0 := Fr.nil n0
  have K0 := Keep.refl h0 []
  obtain ⟨t0', gv0, Fv0⟩ := HV (0 : Int32) (by decide) (by decide)
  obtain ⟨t1', gv1, Fv1⟩ := HV (1 : Int32) (by decide) (by decide)
  obtain ⟨t2', gv2, Fv2⟩ := HV (2 : Int32) (by decide) (by decide)
  obtain ⟨T744, h744, X744, e744, E744, A744, D744, -, st744⟩ := newO X0 hx hZ hown (hw _ (List.mem_of_getElem? (i := 11) rfl)) (hw _ (List.mem_of_getElem? (i := 12) rfl)) (hw _ (List.mem_of_getElem? (i := 13) rfl)) e0 (g := (mkF m 0 #[.val (.ref a1), .unset, .unset, .unset, .unset, .unset] [])) rfl (hb hby d12_0) (by decide) (by decide)
  obtain ⟨b744, g744⟩ : ∃ zq, zq = h0.size := ⟨_, rfl⟩
  rw [← g744] at A744 D744 st744
  have ne_a1_b744 : a1 ≠ b744 := Nat.ne_of_lt (Nat.lt_of_lt_of_le Fa.lt (Nat.le_of_eq g744.symm))
  have ne_ta_b744 : ta ≠ b744 := Nat.ne_of_lt (Nat.lt_of_lt_of_le Va.lt (Nat.le_of_eq g744.symm))
  have ne_t0__b744 : t0' ≠ b744 := Nat.ne_of_lt (Nat.lt_of_lt_of_le Fv0.lt (Nat.le_of_eq g744.symm))
  have ne_t1__b744 : t1' ≠ b744 := Nat.ne_of_lt (Nat.lt_of_lt_of_le Fv1.lt (Nat.le_of_eq g744.symm))
  have ne_t2__b744 : t2' ≠ b744 := Nat.ne_of_lt (Nat.lt_of_lt_of_le Fv2.lt (Nat.le_of_eq g744.symm))
  have og_b744 : n0 ≤ b744 := Nat.le_trans Z0 (Nat.le_of_eq g744.symm)
  have sz_b744 : h0.size ≤ b744 := Nat.le_trans K0.1 (Nat.le_of_eq g744.symm)
  have Z744 : n0 ≤ h744.size := Nat.le_trans Z0 E744.1
  have K745 := K0.ext E744
  have F_low_b744 : Fld Z h744 b744 "com/example/eskew/eskew/server/split/CounterValues$WideSum" "low" "J" (.long (0 : Int64)) := D744 (Or.inl (hw _ (List.mem_of_getElem? (i := 102) rfl))) (ty := .long) (by decide)
  have F_high_b744 : Fld Z h744 b744 "com/example/eskew/eskew/server/split/CounterValues$WideSum" "high" "J" (.long (0 : Int64)) := D744 (Or.inl (hw _ (List.mem_of_getElem? (i := 109) rfl))) (ty := .long) (by decide)
  refine own_by st744 ?_
  refine own_by (fun _ k => XS.dup X744.here hx rfl (hb hby d12_3) rfl rfl k) ?_
  show own_Go p e below _ T744 (mkF m 4 #[.val (.ref a1), .unset, .unset, .unset, .unset, .unset] [(.ref b744), (.ref b744)])
  obtain ⟨_, T746, L746, X746, ⟨rfl, N746q, e746⟩, st746⟩ := own_callR X744 hx hZ hown (y := (⟨"com/example/eskew/eskew/server/split/CounterValues$WideSum", "<init>", "()V"⟩ : MethodName)) rfl (hw _ (List.mem_of_getElem? (i := 14) rfl)) (hw _ (List.mem_of_getElem? (i := 15) rfl)) (hw _ (List.mem_of_getElem? (i := 13) rfl)) (hw _ (List.mem_of_getElem? (i := 16) rfl)) (by decide) (a := b744) (argsL := []) (rest := [(.ref b744)]) e744 (rm3 l Z a0 hw [] b744 h744 n0 Z744) (g := (mkF m 4 #[.val (.ref a1), .unset, .unset, .unset, .unset, .unset] [(.ref b744), (.ref b744)])) rfl (by rw [hml]; rfl) (lenOf pd_0 rfl) rfl (W := 1) (by show 2 * 0 + _ ≤ _; exact Nat.le_of_eq rfl) (hb hby d12_4) (by decide) (by decide) (by decide) (by decide)
  have N746 := Fr.app N0 N746q
  refine own_by st746 ?_
  refine own_by (fun _ k => XS.astoreN X746.here hx rfl (hb hby d12_7) rfl rfl (l' := #[.val (.ref a1), .val (.ref b744), .unset, .unset, .unset, .unset]) rfl k) ?_
  refine own_by (fun _ k => XS.aloadN X746.here hx rfl (hb hby d12_8) rfl rfl k) ?_
  show own_Go p e below _ T746 (mkF m 9 #[.val (.ref a1), .val (.ref b744), .unset, .unset, .unset, .unset] [(.ref a1)])
  have f748 := (Fa.ext E744)
  obtain ⟨T747, X747, e747, st747⟩ := getF X746 hx hZ hown (host := "") (Or.inl (hw _ (List.mem_of_getElem? (i := 30) rfl))) Via.refl e746 f748 (g := (mkF m 9 #[.val (.ref a1), .val (.ref b744), .unset, .unset, .unset, .unset] [(.ref a1)])) rfl rfl (hb hby d12_9)
  refine own_by st747 ?_
  refine own_by (fun _ k => XS.astoreN X747.here hx rfl (hb hby d12_12) rfl rfl (l' := #[.val (.ref a1), .val (.ref b744), .val (.ref ta), .unset, .unset, .unset]) rfl k) ?_
  refine own_by (fun _ k => XS.aloadN X747.here hx rfl (hb hby d12_13) rfl rfl k) ?_
  show own_Go p e below _ T747 (mkF m 14 #[.val (.ref a1), .val (.ref b744), .val (.ref ta), .unset, .unset, .unset] [(.ref ta)])
  have f750 := (Va.ext E744)
  obtain ⟨cl749, Ar749, len749⟩ := own_len f750
  refine own_by (T' := T747) (g' := (mkF m 15 #[.val (.ref a1), .val (.ref b744), .val (.ref ta), .unset, .unset, .unset] [(.int (3 : Int32))])) (fun _ k => X747.arraylength hx (by rw [e747]; exact Ar749.1) (State.isArrayOf_alike hZ.alike Ar749.2.1) (g := (mkF m 14 #[.val (.ref a1), .val (.ref b744), .val (.ref ta), .unset, .unset, .unset] [(.ref ta)])) rfl rfl (hb hby d12_14) _ (by rw [len749]; exact k)) ?_
  refine own_by (fun _ k => XS.istoreN X747.here hx rfl (hb hby d12_15) rfl (l' := #[.val (.ref a1), .val (.ref b744), .val (.ref ta), .val (.int (3 : Int32)), .unset, .unset]) rfl k) ?_
  refine own_by (fun _ k => XS.iconst X747.here hx rfl (hb hby d12_16) k) ?_
  refine own_by (fun _ k => XS.istore X747.here hx rfl (hb hby d12_17) rfl (l' := #[.val (.ref a1), .val (.ref b744), .val (.ref ta), .val (.int (3 : Int32)), .val (.int (0 : Int32)), .unset]) rfl k) ?_
  show own_Go p e below _ T747 (mkF m 19 #[.val (.ref a1), .val (.ref b744), .val (.ref ta), .val (.int (3 : Int32)), .val (.int (0 : Int32)), .unset] [])
  refine own_by (fun _ k => XS.iload X747.here hx rfl (hb hby d12_19) rfl k) ?_
  refine own_by (fun _ k => XS.iloadN X747.here hx rfl (hb hby d12_21) rfl k) ?_
  have fl0 : Fld Z h744 b744 "com/example/eskew/eskew/server/split/CounterValues$WideSum" "low" "J" (.long (own_s (0 : Int32) ky V)) := by rw [show own_s (0 : Int32) ky V = 0 from if_neg hk.1]; exact F_low_b744
  refine own_by (fun _ k => XS.icmpNo X747.here hx rfl (hb hby d12_22) rfl (tlt (by decide : (0 : Int32) < (3 : Int32))).2.1 k) ?_
  show own_Go p e below _ T747 (mkF m 25 #[.val (.ref a1), .val (.ref b744), .val (.ref ta), .val (.int (3 : Int32)), .val (.int (0 : Int32)), .unset] [])
  refine own_by (fun _ k => XS.aloadN X747.here hx rfl (hb hby d12_25) rfl rfl k) ?_
  refine own_by (fun _ k => XS.iload X747.here hx rfl (hb hby d12_26) rfl k) ?_
  obtain ⟨cl751, Ar751, cq751, hin751, hat751, set751⟩ := own_arv f750 (j := (0 : Int32)) ⟨by decide, by decide⟩
  refine own_by (fun _ k => X747.aaload hx (j := (0 : Int32)) (v := (.ref t0')) (by rw [e747]; exact Ar751.1) (State.isArrayOf_alike hZ.alike Ar751.2.1) rfl Ar751.2.2 hin751 (by rw [hat751]; exact congrArg some gv0) (g := (mkF m 28 #[.val (.ref a1), .val (.ref b744), .val (.ref ta), .val (.int (3 : Int32)), .val (.int (0 : Int32)), .unset] [(.int (0 : Int32)), (.ref ta)])) rfl rfl (hb hby d12_28) _ k) ?_
  show own_Go p e below _ T747 (mkF m 29 #[.val (.ref a1), .val (.ref b744), .val (.ref ta), .val (.int (3 : Int32)), .val (.int (0 : Int32)), .unset] [(.ref t0')])
  refine own_by (fun _ k => XS.astore X747.here hx rfl (hb hby d12_29) rfl rfl (l' := #[.val (.ref a1), .val (.ref b744), .val (.ref ta), .val (.int (3 : Int32)), .val (.int (0 : Int32)), .val (.ref t0')]) rfl k) ?_
  refine own_by (fun _ k => XS.aloadN X747.here hx rfl (hb hby d12_31) rfl rfl k) ?_
  refine own_by (fun _ k => XS.aload X747.here hx rfl (hb hby d12_32) rfl rfl k) ?_
  show own_Go p e below _ T747 (mkF m 34 #[.val (.ref a1), .val (.ref b744), .val (.ref ta), .val (.int (3 : Int32)), .val (.int (0 : Int32)), .val (.ref t0')] [(.ref t0'), (.ref b744)])
  have f753 := (Fv0.ext E744)
  obtain ⟨T752, X752, e752, st752⟩ := own_getR X747 hx hZ hown (hw _ (List.mem_of_getElem? (i := 68) rfl)) e747 f753 (g := (mkF m 34 #[.val (.ref a1), .val (.ref b744), .val (.ref ta), .val (.int (3 : Int32)), .val (.int (0 : Int32)), .val (.ref t0')] [(.ref t0'), (.ref b744)])) rfl rfl (hb hby d12_34)
  refine own_by st752 ?_
  have f754 := (Fv1.ext E744)
  have f755 := (Fv2.ext E744)
  obtain ⟨_, T756, L756, X756, ⟨rfl, N756q, K0', L0', G0'⟩, st756⟩ := own_callV X752 hx hZ hown (y := (⟨"com/example/eskew/eskew/server/split/CounterValues$WideSum", "add", "(J)Lcom/example/eskew/eskew/server/split/CounterValues$WideSum;"⟩ : MethodName)) (C := "com/example/eskew/eskew/server/split/CounterValues$WideSum") (hw _ (List.mem_of_getElem? (i := 96) rfl)) (hw _ (List.mem_of_getElem? (i := 97) rfl)) (hw _ (List.mem_of_getElem? (i := 99) rfl)) (hw _ (List.mem_of_getElem? (i := 98) rfl)) (hw _ (List.mem_of_getElem? (i := 13) rfl)) (hw _ (List.mem_of_getElem? (i := 100) rfl)) (by decide) (a := b744) A744 (argsL := [(.long (own_u (0 : Int32) ky V))]) (rest := []) e752 (rm13 l Z a0 hw [] b744 (own_s (0 : Int32) ky V) (own_u (0 : Int32) ky V) h744 n0 Z744 og_b744 A744 fl0 F_high_b744 (own_ov _ _ _)) (g := (mkF m 37 #[.val (.ref a1), .val (.ref b744), .val (.ref ta), .val (.int (3 : Int32)), .val (.int (0 : Int32)), .val (.ref t0')] [(.long (own_u (0 : Int32) ky V)), (.ref b744)])) rfl (by rw [hml]; rfl) (lenOf pd_6 rfl) rfl (W := 0) (by show 2 * 0 + _ ≤ _; exact Nat.le_of_eq rfl) (hb hby d12_37) (by decide) (by decide) (by decide) (by decide)
  have N756 := Fr.app N746 N756q
  refine own_by st756 ?_
  have Z756 : n0 ≤ T756.heap.size := Nat.le_trans Z744 K0'.1
  have K756c := K745.trans K0' (allS (Or.inr sz_b744) all0)
  rw [own_st (0 : Int32) (1 : Int32) ky V (by decide)] at L0'
  refine own_by (fun _ k => XS.pop X756.here hx rfl (hb hby d12_40) rfl rfl k) ?_
  show own_Go p e below _ T756 (mkF m 41 #[.val (.ref a1), .val (.ref b744), .val (.ref ta), .val (.int (3 : Int32)), .val (.int (0 : Int32)), .val (.ref t0')] [])
  refine own_by (fun _ k => XS.iinc X756.here hx rfl (hb hby d12_41) rfl (l' := #[.val (.ref a1), .val (.ref b744), .val (.ref ta), .val (.int (3 : Int32)), .val (.int ((0 : Int32) + (1 : Int32))), .val (.ref t0')]) rfl k) ?_
  show own_Go p e below _ T756 (mkF m 44 #[.val (.ref a1), .val (.ref b744), .val (.ref ta), .val (.int (3 : Int32)), .val (.int ((0 : Int32) + (1 : Int32))), .val (.ref t0')] [])
  rw [show (0 : Int32) + (1 : Int32) = (1 : Int32) from by decide]
  refine own_by (fun _ k => XS.goto X756.here hx rfl (pc0 := 44) (pc' := 19) rfl (hb hby d12_44) (by decide) (by decide) k) ?_
  refine own_by (fun _ k => XS.iload X756.here hx rfl (hb hby d12_19) rfl k) ?_
  show own_Go p e below _ T756 (mkF m 21 #[.val (.ref a1), .val (.ref b744), .val (.ref ta), .val (.int (3 : Int32)), .val (.int (1 : Int32)), .val (.ref t0')] [(.int (1 : Int32))])
  refine own_by (fun _ k => XS.iloadN X756.here hx rfl (hb hby d12_21) rfl k) ?_
  refine own_by (fun _ k => XS.icmpNo X756.here hx rfl (hb hby d12_22) rfl (tlt (by decide : (1 : Int32) < (3 : Int32))).2.1 k) ?_
  refine own_by (fun _ k => XS.aloadN X756.here hx rfl (hb hby d12_25) rfl rfl k) ?_
  show own_Go p e below _ T756 (mkF m 26 #[.val (.ref a1), .val (.ref b744), .val (.ref ta), .val (.int (3 : Int32)), .val (.int (1 : Int32)), .val (.ref t0')] [(.ref ta)])
  refine own_by (fun _ k => XS.iload X756.here hx rfl (hb hby d12_26) rfl k) ?_
  have f758 := (f750.keep K0' (ninS ne_ta_b744 nin0))
  obtain ⟨cl757, Ar757, cq757, hin757, hat757, set757⟩ := own_arv f758 (j := (1 : Int32)) ⟨by decide, by decide⟩
  refine own_by (fun _ k => X756.aaload hx (j := (1 : Int32)) (v := (.ref t1')) Ar757.1 (State.isArrayOf_alike hZ.alike Ar757.2.1) rfl Ar757.2.2 hin757 (by rw [hat757]; exact congrArg some gv1) (g := (mkF m 28 #[.val (.ref a1), .val (.ref b744), .val (.ref ta), .val (.int (3 : Int32)), .val (.int (1 : Int32)), .val (.ref t0')] [(.int (1 : Int32)), (.ref ta)])) rfl rfl (hb hby d12_28) _ k) ?_
  refine own_by (fun _ k => XS.astore X756.here hx rfl (hb hby d12_29) rfl rfl (l' := #[.val (.ref a1), .val (.ref b744), .val (.ref ta), .val (.int (3 : Int32)), .val (.int (1 : Int32)), .val (.ref t1')]) rfl k) ?_
  show own_Go p e below _ T756 (mkF m 31 #[.val (.ref a1), .val (.ref b744), .val (.ref ta), .val (.int (3 : Int32)), .val (.int (1 : Int32)), .val (.ref t1')] [])
  refine own_by (fun _ k => XS.aloadN X756.here hx rfl (hb hby d12_31) rfl rfl k) ?_
  refine own_by (fun _ k => XS.aload X756.here hx rfl (hb hby d12_32) rfl rfl k) ?_
  have f760 := (f754.keep K0' (ninS ne_t1__b744 nin0))
  obtain ⟨T759, X759, e759, st759⟩ := own_getR X756 hx hZ hown (hw _ (List.mem_of_getElem? (i := 68) rfl)) rfl f760 (g := (mkF m 34 #[.val (.ref a1), .val (.ref b744), .val (.ref ta), .val (.int (3 : Int32)), .val (.int (1 : Int32)), .val (.ref t1')] [(.ref t1'), (.ref b744)])) rfl rfl (hb hby d12_34)
  refine own_by st759 ?_
  show own_Go p e below _ T759 (mkF m 37 #[.val (.ref a1), .val (.ref b744), .val (.ref ta), .val (.int (3 : Int32)), .val (.int (1 : Int32)), .val (.ref t1')] [(.long (own_u (1 : Int32) ky V)), (.ref b744)])
  have f761 := (A744.keep K0')
  have f762 := (f748.keep K0' (ninS ne_a1_b744 nin0))
  have f763 := (f753.keep K0' (ninS ne_t0__b744 nin0))
  have f764 := (f755.keep K0' (ninS ne_t2__b744 nin0))
  obtain ⟨_, T765, L765, X765, ⟨rfl, N765q, K1', L1', G1'⟩, st765⟩ := own_callV X759 hx hZ hown (y := (⟨"com/example/eskew/eskew/server/split/CounterValues$WideSum", "add", "(J)Lcom/example/eskew/eskew/server/split/CounterValues$WideSum;"⟩ : MethodName)) (C := "com/example/eskew/eskew/server/split/CounterValues$WideSum") (hw _ (List.mem_of_getElem? (i := 96) rfl)) (hw _ (List.mem_of_getElem? (i := 97) rfl)) (hw _ (List.mem_of_getElem? (i := 99) rfl)) (hw _ (List.mem_of_getElem? (i := 98) rfl)) (hw _ (List.mem_of_getElem? (i := 13) rfl)) (hw _ (List.mem_of_getElem? (i := 100) rfl)) (by decide) (a := b744) f761 (argsL := [(.long (own_u (1 : Int32) ky V))]) (rest := []) e759 (rm13 l Z a0 hw [] b744 (own_s (1 : Int32) ky V) (own_u (1 : Int32) ky V) T756.heap n0 Z756 og_b744 f761 L0' G0' (own_ov _ _ _)) (g := (mkF m 37 #[.val (.ref a1), .val (.ref b744), .val (.ref ta), .val (.int (3 : Int32)), .val (.int (1 : Int32)), .val (.ref t1')] [(.long (own_u (1 : Int32) ky V)), (.ref b744)])) rfl (by rw [hml]; rfl) (lenOf pd_6 rfl) rfl (W := 0) (by show 2 * 0 + _ ≤ _; exact Nat.le_of_eq rfl) (hb hby d12_37) (by decide) (by decide) (by decide) (by decide)
  have N765 := Fr.app N756 N765q
  refine own_by st765 ?_
  have Z765 : n0 ≤ T765.heap.size := Nat.le_trans Z756 K1'.1
  have K765c := K756c.trans K1' (allS (Or.inr sz_b744) all0)
  rw [own_st (1 : Int32) (2 : Int32) ky V (by decide)] at L1'
  refine own_by (fun _ k => XS.pop X765.here hx rfl (hb hby d12_40) rfl rfl k) ?_
  refine own_by (fun _ k => XS.iinc X765.here hx rfl (hb hby d12_41) rfl (l' := #[.val (.ref a1), .val (.ref b744), .val (.ref ta), .val (.int (3 : Int32)), .val (.int ((1 : Int32) + (1 : Int32))), .val (.ref t1')]) rfl k) ?_
  show own_Go p e below _ T765 (mkF m 44 #[.val (.ref a1), .val (.ref b744), .val (.ref ta), .val (.int (3 : Int32)), .val (.int ((1 : Int32) + (1 : Int32))), .val (.ref t1')] [])
  rw [show (1 : Int32) + (1 : Int32) = (2 : Int32) from by decide]
  refine own_by (fun _ k => XS.goto X765.here hx rfl (pc0 := 44) (pc' := 19) rfl (hb hby d12_44) (by decide) (by decide) k) ?_
  refine own_by (fun _ k => XS.iload X765.here hx rfl (hb hby d12_19) rfl k) ?_
  show own_Go p e below _ T765 (mkF m 21 #[.val (.ref a1), .val (.ref b744), .val (.ref ta), .val (.int (3 : Int32)), .val (.int (2 : Int32)), .val (.ref t1')] [(.int (2 : Int32))])
  refine own_by (fun _ k => XS.iloadN X765.here hx rfl (hb hby d12_21) rfl k) ?_
  refine own_by (fun _ k => XS.icmpNo X765.here hx rfl (hb hby d12_22) rfl (tlt (by decide : (2 : Int32) < (3 : Int32))).2.1 k) ?_
  refine own_by (fun _ k => XS.aloadN X765.here hx rfl (hb hby d12_25) rfl rfl k) ?_
  show own_Go p e below _ T765 (mkF m 26 #[.val (.ref a1), .val (.ref b744), .val (.ref ta), .val (.int (3 : Int32)), .val (.int (2 : Int32)), .val (.ref t1')] [(.ref ta)])
  refine own_by (fun _ k => XS.iload X765.here hx rfl (hb hby d12_26) rfl k) ?_
  have f767 := (f758.keep K1' (ninS ne_ta_b744 nin0))
  obtain ⟨cl766, Ar766, cq766, hin766, hat766, set766⟩ := own_arv f767 (j := (2 : Int32)) ⟨by decide, by decide⟩
  refine own_by (fun _ k => X765.aaload hx (j := (2 : Int32)) (v := (.ref t2')) Ar766.1 (State.isArrayOf_alike hZ.alike Ar766.2.1) rfl Ar766.2.2 hin766 (by rw [hat766]; exact congrArg some gv2) (g := (mkF m 28 #[.val (.ref a1), .val (.ref b744), .val (.ref ta), .val (.int (3 : Int32)), .val (.int (2 : Int32)), .val (.ref t1')] [(.int (2 : Int32)), (.ref ta)])) rfl rfl (hb hby d12_28) _ k) ?_
  refine own_by (fun _ k => XS.astore X765.here hx rfl (hb hby d12_29) rfl rfl (l' := #[.val (.ref a1), .val (.ref b744), .val (.ref ta), .val (.int (3 : Int32)), .val (.int (2 : Int32)), .val (.ref t2')]) rfl k) ?_
  show own_Go p e below _ T765 (mkF m 31 #[.val (.ref a1), .val (.ref b744), .val (.ref ta), .val (.int (3 : Int32)), .val (.int (2 : Int32)), .val (.ref t2')] [])
  refine own_by (fun _ k => XS.aloadN X765.here hx rfl (hb hby d12_31) rfl rfl k) ?_
  refine own_by (fun _ k => XS.aload X765.here hx rfl (hb hby d12_32) rfl rfl k) ?_
  have f769 := (f764.keep K1' (ninS ne_t2__b744 nin0))
  obtain ⟨T768, X768, e768, st768⟩ := own_getR X765 hx hZ hown (hw _ (List.mem_of_getElem? (i := 68) rfl)) rfl f769 (g := (mkF m 34 #[.val (.ref a1), .val (.ref b744), .val (.ref ta), .val (.int (3 : Int32)), .val (.int (2 : Int32)), .val (.ref t2')] [(.ref t2'), (.ref b744)])) rfl rfl (hb hby d12_34)
  refine own_by st768 ?_
  show own_Go p e below _ T768 (mkF m 37 #[.val (.ref a1), .val (.ref b744), .val (.ref ta), .val (.int (3 : Int32)), .val (.int (2 : Int32)), .val (.ref t2')] [(.long (own_u (2 : Int32) ky V)), (.ref b744)])
  have f770 := (f761.keep K1')
  have f771 := (f762.keep K1' (ninS ne_a1_b744 nin0))
  have f772 := (f763.keep K1' (ninS ne_t0__b744 nin0))
  have f773 := (f760.keep K1' (ninS ne_t1__b744 nin0))
  obtain ⟨_, T774, L774, X774, ⟨rfl, N774q, K2', L2', G2'⟩, st774⟩ := own_callV X768 hx hZ hown (y := (⟨"com/example/eskew/eskew/server/split/CounterValues$WideSum", "add", "(J)Lcom/example/eskew/eskew/server/split/CounterValues$WideSum;"⟩ : MethodName)) (C := "com/example/eskew/eskew/server/split/CounterValues$WideSum") (hw _ (List.mem_of_getElem? (i := 96) rfl)) (hw _ (List.mem_of_getElem? (i := 97) rfl)) (hw _ (List.mem_of_getElem? (i := 99) rfl)) (hw _ (List.mem_of_getElem? (i := 98) rfl)) (hw _ (List.mem_of_getElem? (i := 13) rfl)) (hw _ (List.mem_of_getElem? (i := 100) rfl)) (by decide) (a := b744) f770 (argsL := [(.long (own_u (2 : Int32) ky V))]) (rest := []) e768 (rm13 l Z a0 hw [] b744 (own_s (2 : Int32) ky V) (own_u (2 : Int32) ky V) T765.heap n0 Z765 og_b744 f770 L1' G1' (own_ov _ _ _)) (g := (mkF m 37 #[.val (.ref a1), .val (.ref b744), .val (.ref ta), .val (.int (3 : Int32)), .val (.int (2 : Int32)), .val (.ref t2')] [(.long (own_u (2 : Int32) ky V)), (.ref b744)])) rfl (by rw [hml]; rfl) (lenOf pd_6 rfl) rfl (W := 0) (by show 2 * 0 + _ ≤ _; exact Nat.le_of_eq rfl) (hb hby d12_37) (by decide) (by decide) (by decide) (by decide)
  have N774 := Fr.app N765 N774q
  refine own_by st774 ?_
  have Z774 : n0 ≤ T774.heap.size := Nat.le_trans Z765 K2'.1
  have K774c := K765c.trans K2' (allS (Or.inr sz_b744) all0)
  rw [own_st (2 : Int32) (3 : Int32) ky V (by decide)] at L2'
  refine own_by (fun _ k => XS.pop X774.here hx rfl (hb hby d12_40) rfl rfl k) ?_
  refine own_by (fun _ k => XS.iinc X774.here hx rfl (hb hby d12_41) rfl (l' := #[.val (.ref a1), .val (.ref b744), .val (.ref ta), .val (.int (3 : Int32)), .val (.int ((2 : Int32) + (1 : Int32))), .val (.ref t2')]) rfl k) ?_
  show own_Go p e below _ T774 (mkF m 44 #[.val (.ref a1), .val (.ref b744), .val (.ref ta), .val (.int (3 : Int32)), .val (.int ((2 : Int32) + (1 : Int32))), .val (.ref t2')] [])
  rw [show (2 : Int32) + (1 : Int32) = (3 : Int32) from by decide]
  refine own_by (fun _ k => XS.goto X774.here hx rfl (pc0 := 44) (pc' := 19) rfl (hb hby d12_44) (by decide) (by decide) k) ?_
  refine own_by (fun _ k => XS.iload X774.here hx rfl (hb hby d12_19) rfl k) ?_
  show own_Go p e below _ T774 (mkF m 21 #[.val (.ref a1), .val (.ref b744), .val (.ref ta), .val (.int (3 : Int32)), .val (.int (3 : Int32)), .val (.ref t2')] [(.int (3 : Int32))])
  refine own_by (fun _ k => XS.iloadN X774.here hx rfl (hb hby d12_21) rfl k) ?_
  refine own_by (fun _ k => XS.icmpYes X774.here hx rfl (pc0 := 22) (pc' := 47) rfl (hb hby d12_22) rfl (flt (by decide : ¬ ((3 : Int32) < (3 : Int32)))).2.1 (by decide) (by decide) k) ?_
  refine own_by (fun _ k => XS.aloadN X774.here hx rfl (hb hby d12_47) rfl rfl k) ?_
  show own_Go p e below _ T774 (mkF m 48 #[.val (.ref a1), .val (.ref b744), .val (.ref ta), .val (.int (3 : Int32)), .val (.int (3 : Int32)), .val (.ref t2')] [(.ref b744)])
  have f775 := (f770.keep K2')
  exact own_retA X774 hx hlk hret rfl rfl (hb hby d12_48) ⟨b744, rfl, N774, K774c, sz_b744, f775, by rw [show V = own_s (3 : Int32) ky V from (if_pos hk.2).symm]; exact L2', G2'⟩ (by decide) (by decide)
def Q_rm12_4 (Z : State) (a1 ta : Addr) (kt : ClassId) (vs : List Value) (ky : Int32) (V : Int64) (h0 : Heap) (n0 : Nat) (v : Option Value) (h : Heap) (L : List Loc) : Prop := ∃ b, v = some (.ref b) ∧ Fr n0 L ∧ Keep h0 h [] ∧ h0.size ≤ b ∧ Exa Z h b "com/example/eskew/eskew/server/split/CounterValues$WideSum" ∧ Fld Z h b "com/example/eskew/eskew/server/split/CounterValues$WideSum" "low" "J" (.long V) ∧ Fld Z h b "com/example/eskew/eskew/server/split/CounterValues$WideSum" "high" "J" (.long 0)
theorem pn_rm12_4 : plainFor (⟨"com/example/eskew/eskew/server/split/CounterValues", "wideTotal", "()Lcom/example/eskew/eskew/server/split/CounterValues$WideSum;"⟩ : MethodName) = true := plainFor_of_name (by first | (simp [plainName, overriddenIn, x]; done) | decide +kernel)
set_option maxRecDepth 65536 in
set_option maxHeartbeats 40000000 in
theorem rm12_4 (l : Launch) (Z : State) (a0 : Array Value) (hw : ∀ d ∈ tables_1, d.before a0 Z = true) (ws : List Jvm.Cond) (a1 ta : Addr) (kt : ClassId) (vs : List Value) (ky : Int32) (V : Int64) (h0 : Heap) (n0 : Nat) (Z0 : n0 ≤ h0.size) (hk : ¬ ky < 0 ∧ ky < (4 : Int32)) (Fa : Fld Z h0 a1 "com/example/eskew/eskew/server/split/CounterValues" "tallies" "[Lcom/example/eskew/eskew/server/split/CounterValues$Tally;" (.ref ta)) (Va : Arv Z h0 ta kt (.object "com/example/eskew/eskew/server/split/CounterValues$Tally") (4 : Int32) vs .null) (HV : own_Vals Z h0 vs (4 : Int32) ky V) :
    own_Met l Z (⟨"com/example/eskew/eskew/server/split/CounterValues", "wideTotal", "()Lcom/example/eskew/eskew/server/split/CounterValues$WideSum;"⟩ : MethodName) prog_33_method_18_code 6 (some (.object "com/example/eskew/eskew/server/split/CounterValues$WideSum")) ws ({ frames := 2, cells := 1, slots := 2, locals := 48 } : Room) #[(.ref a1)] h0 (Q_rm12_4 Z a1 ta kt vs ky V h0 n0) := by
  refine own_enter (g0 := fun m => (mkF m 0 #[.val (.ref a1), .unset, .unset, .unset, .unset, .unset] [])) pn_rm12_4 (fun m => by first | (simp [entryFrame, mkF, argsToLocals, Value.category, maxLocals]; done) | rfl) ?_
  intro p e s m below meth c s₁ hx hby hml hown hnm hret hlk hZ X0 e0
  have hml : c.maxLocals = 6 := hml
  have hown : s.vm.findClass "com/example/eskew/eskew/server/split/CounterValues" = some m.cls := hown
  have N0 := Fr.nil n0
  have K0 := Keep.refl h0 []
  obtain ⟨t0', gv0, Fv0⟩ := HV (0 : Int32) (by decide) (by decide)
  obtain ⟨t1', gv1, Fv1⟩ := HV (1 : Int32) (by decide) (by decide)
  obtain ⟨t2', gv2, Fv2⟩ := HV (2 : Int32) (by decide) (by decide)
  obtain ⟨t3', gv3, Fv3⟩ := HV (3 : Int32) (by decide) (by decide)
  obtain ⟨T776, h776, X776, e776, E776, A776, D776, -, st776⟩ := newO X0 hx hZ hown (hw _ (List.mem_of_getElem? (i := 11) rfl)) (hw _ (List.mem_of_getElem? (i := 12) rfl)) (hw _ (List.mem_of_getElem? (i := 13) rfl)) e0 (g := (mkF m 0 #[.val (.ref a1), .unset, .unset, .unset, .unset, .unset] [])) rfl (hb hby d12_0) (by decide) (by decide)
  obtain ⟨b776, g776⟩ : ∃ zq, zq = h0.size := ⟨_, rfl⟩
  rw [← g776] at A776 D776 st776
  have ne_a1_b776 : a1 ≠ b776 := Nat.ne_of_lt (Nat.lt_of_lt_of_le Fa.lt (Nat.le_of_eq g776.symm))
  have ne_ta_b776 : ta ≠ b776 := Nat.ne_of_lt (Nat.lt_of_lt_of_le Va.lt (Nat.le_of_eq g776.symm))
  have ne_t0__b776 : t0' ≠ b776 := Nat.ne_of_lt (Nat.lt_of_lt_of_le Fv0.lt (Nat.le_of_eq g776.symm))
  have ne_t1__b776 : t1' ≠ b776 := Nat.ne_of_lt (Nat.lt_of_lt_of_le Fv1.lt (Nat.le_of_eq g776.symm))
  have ne_t2__b776 : t2' ≠ b776 := Nat.ne_of_lt (Nat.lt_of_lt_of_le Fv2.lt (Nat.le_of_eq g776.symm))
  have ne_t3__b776 : t3' ≠ b776 := Nat.ne_of_lt (Nat.lt_of_lt_of_le Fv3.lt (Nat.le_of_eq g776.symm))
  have og_b776 : n0 ≤ b776 := Nat.le_trans Z0 (Nat.le_of_eq g776.symm)
  have sz_b776 : h0.size ≤ b776 := Nat.le_trans K0.1 (Nat.le_of_eq g776.symm)
  have Z776 : n0 ≤ h776.size := Nat.le_trans Z0 E776.1
  have K777 := K0.ext E776
  have F_low_b776 : Fld Z h776 b776 "com/example/eskew/eskew/server/split/CounterValues$WideSum" "low" "J" (.long (0 : Int64)) := D776 (Or.inl (hw _ (List.mem_of_getElem? (i := 102) rfl))) (ty := .long) (by decide)
  have F_high_b776 : Fld Z h776 b776 "com/example/eskew/eskew/server/split/CounterValues$WideSum" "high" "J" (.long (0 : Int64)) := D776 (Or.inl (hw _ (List.mem_of_getElem? (i := 109) rfl))) (ty := .long) (by decide)
  refine own_by st776 ?_
  refine own_by (fun _ k => XS.dup X776.here hx rfl (hb hby d12_3) rfl rfl k) ?_
  show own_Go p e below _ T776 (mkF m 4 #[.val (.ref a1), .unset, .unset, .unset, .unset, .unset] [(.ref b776), (.ref b776)])
  obtain ⟨_, T778, L778, X778, ⟨rfl, N778q, e778⟩, st778⟩ := own_callR X776 hx hZ hown (y := (⟨"com/example/eskew/eskew/server/split/CounterValues$WideSum", "<init>", "()V"⟩ : MethodName)) rfl (hw _ (List.mem_of_getElem? (i := 14) rfl)) (hw _ (List.mem_of_getElem? (i := 15) rfl)) (hw _ (List.mem_of_getElem? (i := 13) rfl)) (hw _ (List.mem_of_getElem? (i := 16) rfl)) (by decide) (a := b776) (argsL := []) (rest := [(.ref b776)]) e776 (rm3 l Z a0 hw [] b776 h776 n0 Z776) (g := (mkF m 4 #[.val (.ref a1), .unset, .unset, .unset, .unset, .unset] [(.ref b776), (.ref b776)])) rfl (by rw [hml]; rfl) (lenOf pd_0 rfl) rfl (W := 1) (by show 2 * 0 + _ ≤ _; exact Nat.le_of_eq rfl) (hb hby d12_4) (by decide) (by decide) (by decide) (by decide)
  have N778 := Fr.app N0 N778q
  refine own_by st778 ?_
  refine own_by (fun _ k => XS.astoreN X778.here hx rfl (hb hby d12_7) rfl rfl (l' := #[.val (.ref a1), .val (.ref b776), .unset, .unset, .unset, .unset]) rfl k) ?_
  refine own_by (fun _ k => XS.aloadN X778.here hx rfl (hb hby d12_8) rfl rfl k) ?_
  show own_Go p e below _ T778 (mkF m 9 #[.val (.ref a1), .val (.ref b776), .unset, .unset, .unset, .unset] [(.ref a1)])
  have f780 := (Fa.ext E776)
  obtain ⟨T779, X779, e779, st779⟩ := getF X778 hx hZ hown (host := "") (Or.inl (hw _ (List.mem_of_getElem? (i := 30) rfl))) Via.refl e778 f780 (g := (mkF m 9 #[.val (.ref a1), .val (.ref b776), .unset, .unset, .unset, .unset] [(.ref a1)])) rfl rfl (hb hby d12_9)
  refine own_by st779 ?_
  refine own_by (fun _ k => XS.astoreN X779.here hx rfl (hb hby d12_12) rfl rfl (l' := #[.val (.ref a1), .val (.ref b776), .val (.ref ta), .unset, .unset, .unset]) rfl k) ?_
  refine own_by (fun _ k => XS.aloadN X779.here hx rfl (hb hby d12_13) rfl rfl k) ?_
  show own_Go p e below _ T779 (mkF m 14 #[.val (.ref a1), .val (.ref b776), .val (.ref ta), .unset, .unset, .unset] [(.ref ta)])
  have f782 := (Va.ext E776)
  obtain ⟨cl781, Ar781, len781⟩ := own_len f782
  refine own_by (T' := T779) (g' := (mkF m 15 #[.val (.ref a1), .val (.ref b776), .val (.ref ta), .unset, .unset, .unset] [(.int (4 : Int32))])) (fun _ k => X779.arraylength hx (by rw [e779]; exact Ar781.1) (State.isArrayOf_alike hZ.alike Ar781.2.1) (g := (mkF m 14 #[.val (.ref a1), .val (.ref b776), .val (.ref ta), .unset, .unset, .unset] [(.ref ta)])) rfl rfl (hb hby d12_14) _ (by rw [len781]; exact k)) ?_
  refine own_by (fun _ k => XS.istoreN X779.here hx rfl (hb hby d12_15) rfl (l' := #[.val (.ref a1), .val (.ref b776), .val (.ref ta), .val (.int (4 : Int32)), .unset, .unset]) rfl k) ?_
  refine own_by (fun _ k => XS.iconst X779.here hx rfl (hb hby d12_16) k) ?_
  refine own_by (fun _ k => XS.istore X779.here hx rfl (hb hby d12_17) rfl (l' := #[.val (.ref a1), .val (.ref b776), .val (.ref ta), .val (.int (4 : Int32)), .val (.int (0 : Int32)), .unset]) rfl k) ?_
  show own_Go p e below _ T779 (mkF m 19 #[.val (.ref a1), .val (.ref b776), .val (.ref ta), .val (.int (4 : Int32)), .val (.int (0 : Int32)), .unset] [])
  refine own_by (fun _ k => XS.iload X779.here hx rfl (hb hby d12_19) rfl k) ?_
  refine own_by (fun _ k => XS.iloadN X779.here hx rfl (hb hby d12_21) rfl k) ?_
  have fl0 : Fld Z h776 b776 "com/example/eskew/eskew/server/split/CounterValues$WideSum" "low" "J" (.long (own_s (0 : Int32) ky V)) := by rw [show own_s (0 : Int32) ky V = 0 from if_neg hk.1]; exact F_low_b776
  refine own_by (fun _ k => XS.icmpNo X779.here hx rfl (hb hby d12_22) rfl (tlt (by decide : (0 : Int32) < (4 : Int32))).2.1 k) ?_
  show own_Go p e below _ T779 (mkF m 25 #[.val (.ref a1), .val (.ref b776), .val (.ref ta), .val (.int (4 : Int32)), .val (.int (0 : Int32)), .unset] [])
  refine own_by (fun _ k => XS.aloadN X779.here hx rfl (hb hby d12_25) rfl rfl k) ?_
  refine own_by (fun _ k => XS.iload X779.here hx rfl (hb hby d12_26) rfl k) ?_
  obtain ⟨cl783, Ar783, cq783, hin783, hat783, set783⟩ := own_arv f782 (j := (0 : Int32)) ⟨by decide, by decide⟩
  refine own_by (fun _ k => X779.aaload hx (j := (0 : Int32)) (v := (.ref t0')) (by rw [e779]; exact Ar783.1) (State.isArrayOf_alike hZ.alike Ar783.2.1) rfl Ar783.2.2 hin783 (by rw [hat783]; exact congrArg some gv0) (g := (mkF m 28 #[.val (.ref a1), .val (.ref b776), .val (.ref ta), .val (.int (4 : Int32)), .val (.int (0 : Int32)), .unset] [(.int (0 : Int32)), (.ref ta)])) rfl rfl (hb hby d12_28) _ k) ?_
  show own_Go p e below _ T779 (mkF m 29 #[.val (.ref a1), .val (.ref b776), .val (.ref ta), .val (.int (4 : Int32)), .val (.int (0 : Int32)), .unset] [(.ref t0')])
  refine own_by (fun _ k => XS.astore X779.here hx rfl (hb hby d12_29) rfl rfl (l' := #[.val (.ref a1), .val (.ref b776), .val (.ref ta), .val (.int (4 : Int32)), .val (.int (0 : Int32)), .val (.ref t0')]) rfl k) ?_
  refine own_by (fun _ k => XS.aloadN X779.here hx rfl (hb hby d12_31) rfl rfl k) ?_
  refine own_by (fun _ k => XS.aload X779.here hx rfl (hb hby d12_32) rfl rfl k) ?_
  show own_Go p e below _ T779 (mkF m 34 #[.val (.ref a1), .val (.ref b776), .val (.ref ta), .val (.int (4 : Int32)), .val (.int (0 : Int32)), .val (.ref t0')] [(.ref t0'), (.ref b776)])
  have f785 := (Fv0.ext E776)
  obtain ⟨T784, X784, e784, st784⟩ := own_getR X779 hx hZ hown (hw _ (List.mem_of_getElem? (i := 68) rfl)) e779 f785 (g := (mkF m 34 #[.val (.ref a1), .val (.ref b776), .val (.ref ta), .val (.int (4 : Int32)), .val (.int (0 : Int32)), .val (.ref t0')] [(.ref t0'), (.ref b776)])) rfl rfl (hb hby d12_34)
  refine own_by st784 ?_
  have f786 := (Fv1.ext E776)
  have f787 := (Fv2.ext E776)
  have f788 := (Fv3.ext E776)
  obtain ⟨_, T789, L789, X789, ⟨rfl, N789q, K0', L0', G0'⟩, st789⟩ := own_callV X784 hx hZ hown (y := (⟨"com/example/eskew/eskew/server/split/CounterValues$WideSum", "add", "(J)Lcom/example/eskew/eskew/server/split/CounterValues$WideSum;"⟩ : MethodName)) (C := "com/example/eskew/eskew/server/split/CounterValues$WideSum") (hw _ (List.mem_of_getElem? (i := 96) rfl)) (hw _ (List.mem_of_getElem? (i := 97) rfl)) (hw _ (List.mem_of_getElem? (i := 99) rfl)) (hw _ (List.mem_of_getElem? (i := 98) rfl)) (hw _ (List.mem_of_getElem? (i := 13) rfl)) (hw _ (List.mem_of_getElem? (i := 100) rfl)) (by decide) (a := b776) A776 (argsL := [(.long (own_u (0 : Int32) ky V))]) (rest := []) e784 (rm13 l Z a0 hw [] b776 (own_s (0 : Int32) ky V) (own_u (0 : Int32) ky V) h776 n0 Z776 og_b776 A776 fl0 F_high_b776 (own_ov _ _ _)) (g := (mkF m 37 #[.val (.ref a1), .val (.ref b776), .val (.ref ta), .val (.int (4 : Int32)), .val (.int (0 : Int32)), .val (.ref t0')] [(.long (own_u (0 : Int32) ky V)), (.ref b776)])) rfl (by rw [hml]; rfl) (lenOf pd_6 rfl) rfl (W := 0) (by show 2 * 0 + _ ≤ _; exact Nat.le_of_eq rfl) (hb hby d12_37) (by decide) (by decide) (by decide) (by decide)
  have N789 := Fr.app N778 N789q
  refine own_by st789 ?_
  have Z789 : n0 ≤ T789.heap.size := Nat.le_trans Z776 K0'.1
  have K789c := K777.trans K0' (allS (Or.inr sz_b776) all0)
  rw [own_st (0 : Int32) (1 : Int32) ky V (by decide)] at L0'
  refine own_by (fun _ k => XS.pop X789.here hx rfl (hb hby d12_40) rfl rfl k) ?_
  show own_Go p e below _ T789 (mkF m 41 #[.val (.ref a1), .val (.ref b776), .val (.ref ta), .val (.int (4 : Int32)), .val (.int (0 : Int32)), .val (.ref t0')] [])
  refine own_by (fun _ k => XS.iinc X789.here hx rfl (hb hby d12_41) rfl (l' := #[.val (.ref a1), .val (.ref b776), .val (.ref ta), .val (.int (4 : Int32)), .val (.int ((0 : Int32) + (1 : Int32))), .val (.ref t0')]) rfl k) ?_
  show own_Go p e below _ T789 (mkF m 44 #[.val (.ref a1), .val (.ref b776), .val (.ref ta), .val (.int (4 : Int32)), .val (.int ((0 : Int32) + (1 : Int32))), .val (.ref t0')] [])
  rw [show (0 : Int32) + (1 : Int32) = (1 : Int32) from by decide]
  refine own_by (fun _ k => XS.goto X789.here hx rfl (pc0 := 44) (pc' := 19) rfl (hb hby d12_44) (by decide) (by decide) k) ?_
  refine own_by (fun _ k => XS.iload X789.here hx rfl (hb hby d12_19) rfl k) ?_
  show own_Go p e below _ T789 (mkF m 21 #[.val (.ref a1), .val (.ref b776), .val (.ref ta), .val (.int (4 : Int32)), .val (.int (1 : Int32)), .val (.ref t0')] [(.int (1 : Int32))])
  refine own_by (fun _ k => XS.iloadN X789.here hx rfl (hb hby d12_21) rfl k) ?_
  refine own_by (fun _ k => XS.icmpNo X789.here hx rfl (hb hby d12_22) rfl (tlt (by decide : (1 : Int32) < (4 : Int32))).2.1 k) ?_
  refine own_by (fun _ k => XS.aloadN X789.here hx rfl (hb hby d12_25) rfl rfl k) ?_
  show own_Go p e below _ T789 (mkF m 26 #[.val (.ref a1), .val (.ref b776), .val (.ref ta), .val (.int (4 : Int32)), .val (.int (1 : Int32)), .val (.ref t0')] [(.ref ta)])
  refine own_by (fun _ k => XS.iload X789.here hx rfl (hb hby d12_26) rfl k) ?_
  have f791 := (f782.keep K0' (ninS ne_ta_b776 nin0))
  obtain ⟨cl790, Ar790, cq790, hin790, hat790, set790⟩ := own_arv f791 (j := (1 : Int32)) ⟨by decide, by decide⟩
  refine own_by (fun _ k => X789.aaload hx (j := (1 : Int32)) (v := (.ref t1')) Ar790.1 (State.isArrayOf_alike hZ.alike Ar790.2.1) rfl Ar790.2.2 hin790 (by rw [hat790]; exact congrArg some gv1) (g := (mkF m 28 #[.val (.ref a1), .val (.ref b776), .val (.ref ta), .val (.int (4 : Int32)), .val (.int (1 : Int32)), .val (.ref t0')] [(.int (1 : Int32)), (.ref ta)])) rfl rfl (hb hby d12_28) _ k) ?_
  refine own_by (fun _ k => XS.astore X789.here hx rfl (hb hby d12_29) rfl rfl (l' := #[.val (.ref a1), .val (.ref b776), .val (.ref ta), .val (.int (4 : Int32)), .val (.int (1 : Int32)), .val (.ref t1')]) rfl k) ?_
  show own_Go p e below _ T789 (mkF m 31 #[.val (.ref a1), .val (.ref b776), .val (.ref ta), .val (.int (4 : Int32)), .val (.int (1 : Int32)), .val (.ref t1')] [])
  refine own_by (fun _ k => XS.aloadN X789.here hx rfl (hb hby d12_31) rfl rfl k) ?_
  refine own_by (fun _ k => XS.aload X789.here hx rfl (hb hby d12_32) rfl rfl k) ?_
  have f793 := (f786.keep K0' (ninS ne_t1__b776 nin0))
  obtain ⟨T792, X792, e792, st792⟩ := own_getR X789 hx hZ hown (hw _ (List.mem_of_getElem? (i := 68) rfl)) rfl f793 (g := (mkF m 34 #[.val (.ref a1), .val (.ref b776), .val (.ref ta), .val (.int (4 : Int32)), .val (.int (1 : Int32)), .val (.ref t1')] [(.ref t1'), (.ref b776)])) rfl rfl (hb hby d12_34)
  refine own_by st792 ?_
  show own_Go p e below _ T792 (mkF m 37 #[.val (.ref a1), .val (.ref b776), .val (.ref ta), .val (.int (4 : Int32)), .val (.int (1 : Int32)), .val (.ref t1')] [(.long (own_u (1 : Int32) ky V)), (.ref b776)])
  have f794 := (A776.keep K0')
  have f795 := (f780.keep K0' (ninS ne_a1_b776 nin0))
  have f796 := (f785.keep K0' (ninS ne_t0__b776 nin0))
  have f797 := (f787.keep K0' (ninS ne_t2__b776 nin0))
  have f798 := (f788.keep K0' (ninS ne_t3__b776 nin0))
  obtain ⟨_, T799, L799, X799, ⟨rfl, N799q, K1', L1', G1'⟩, st799⟩ := own_callV X792 hx hZ hown (y := (⟨"com/example/eskew/eskew/server/split/CounterValues$WideSum", "add", "(J)Lcom/example/eskew/eskew/server/split/CounterValues$WideSum;"⟩ : MethodName)) (C := "com/example/eskew/eskew/server/split/CounterValues$WideSum") (hw _ (List.mem_of_getElem? (i := 96) rfl)) (hw _ (List.mem_of_getElem? (i := 97) rfl)) (hw _ (List.mem_of_getElem? (i := 99) rfl)) (hw _ (List.mem_of_getElem? (i := 98) rfl)) (hw _ (List.mem_of_getElem? (i := 13) rfl)) (hw _ (List.mem_of_getElem? (i := 100) rfl)) (by decide) (a := b776) f794 (argsL := [(.long (own_u (1 : Int32) ky V))]) (rest := []) e792 (rm13 l Z a0 hw [] b776 (own_s (1 : Int32) ky V) (own_u (1 : Int32) ky V) T789.heap n0 Z789 og_b776 f794 L0' G0' (own_ov _ _ _)) (g := (mkF m 37 #[.val (.ref a1), .val (.ref b776), .val (.ref ta), .val (.int (4 : Int32)), .val (.int (1 : Int32)), .val (.ref t1')] [(.long (own_u (1 : Int32) ky V)), (.ref b776)])) rfl (by rw [hml]; rfl) (lenOf pd_6 rfl) rfl (W := 0) (by show 2 * 0 + _ ≤ _; exact Nat.le_of_eq rfl) (hb hby d12_37) (by decide) (by decide) (by decide) (by decide)
  have N799 := Fr.app N789 N799q
  refine own_by st799 ?_
  have Z799 : n0 ≤ T799.heap.size := Nat.le_trans Z789 K1'.1
  have K799c := K789c.trans K1' (allS (Or.inr sz_b776) all0)
  rw [own_st (1 : Int32) (2 : Int32) ky V (by decide)] at L1'
  refine own_by (fun _ k => XS.pop X799.here hx rfl (hb hby d12_40) rfl rfl k) ?_
  refine own_by (fun _ k => XS.iinc X799.here hx rfl (hb hby d12_41) rfl (l' := #[.val (.ref a1), .val (.ref b776), .val (.ref ta), .val (.int (4 : Int32)), .val (.int ((1 : Int32) + (1 : Int32))), .val (.ref t1')]) rfl k) ?_
  show own_Go p e below _ T799 (mkF m 44 #[.val (.ref a1), .val (.ref b776), .val (.ref ta), .val (.int (4 : Int32)), .val (.int ((1 : Int32) + (1 : Int32))), .val (.ref t1')] [])
  rw [show (1 : Int32) + (1 : Int32) = (2 : Int32) from by decide]
  refine own_by (fun _ k => XS.goto X799.here hx rfl (pc0 := 44) (pc' := 19) rfl (hb hby d12_44) (by decide) (by decide) k) ?_
  refine own_by (fun _ k => XS.iload X799.here hx rfl (hb hby d12_19) rfl k) ?_
  show own_Go p e below _ T799 (mkF m 21 #[.val (.ref a1), .val (.ref b776), .val (.ref ta), .val (.int (4 : Int32)), .val (.int (2 : Int32)), .val (.ref t1')] [(.int (2 : Int32))])
  refine own_by (fun _ k => XS.iloadN X799.here hx rfl (hb hby d12_21) rfl k) ?_
  refine own_by (fun _ k => XS.icmpNo X799.here hx rfl (hb hby d12_22) rfl (tlt (by decide : (2 : Int32) < (4 : Int32))).2.1 k) ?_
  refine own_by (fun _ k => XS.aloadN X799.here hx rfl (hb hby d12_25) rfl rfl k) ?_
  show own_Go p e below _ T799 (mkF m 26 #[.val (.ref a1), .val (.ref b776), .val (.ref ta), .val (.int (4 : Int32)), .val (.int (2 : Int32)), .val (.ref t1')] [(.ref ta)])
  refine own_by (fun _ k => XS.iload X799.here hx rfl (hb hby d12_26) rfl k) ?_
  have f801 := (f791.keep K1' (ninS ne_ta_b776 nin0))
  obtain ⟨cl800, Ar800, cq800, hin800, hat800, set800⟩ := own_arv f801 (j := (2 : Int32)) ⟨by decide, by decide⟩
  refine own_by (fun _ k => X799.aaload hx (j := (2 : Int32)) (v := (.ref t2')) Ar800.1 (State.isArrayOf_alike hZ.alike Ar800.2.1) rfl Ar800.2.2 hin800 (by rw [hat800]; exact congrArg some gv2) (g := (mkF m 28 #[.val (.ref a1), .val (.ref b776), .val (.ref ta), .val (.int (4 : Int32)), .val (.int (2 : Int32)), .val (.ref t1')] [(.int (2 : Int32)), (.ref ta)])) rfl rfl (hb hby d12_28) _ k) ?_
  refine own_by (fun _ k => XS.astore X799.here hx rfl (hb hby d12_29) rfl rfl (l' := #[.val (.ref a1), .val (.ref b776), .val (.ref ta), .val (.int (4 : Int32)), .val (.int (2 : Int32)), .val (.ref t2')]) rfl k) ?_
  show own_Go p e below _ T799 (mkF m 31 #[.val (.ref a1), .val (.ref b776), .val (.ref ta), .val (.int (4 : Int32)), .val (.int (2 : Int32)), .val (.ref t2')] [])
  refine own_by (fun _ k => XS.aloadN X799.here hx rfl (hb hby d12_31) rfl rfl k) ?_
  refine own_by (fun _ k => XS.aload X799.here hx rfl (hb hby d12_32) rfl rfl k) ?_
  have f803 := (f797.keep K1' (ninS ne_t2__b776 nin0))
  obtain ⟨T802, X802, e802, st802⟩ := own_getR X799 hx hZ hown (hw _ (List.mem_of_getElem? (i := 68) rfl)) rfl f803 (g := (mkF m 34 #[.val (.ref a1), .val (.ref b776), .val (.ref ta), .val (.int (4 : Int32)), .val (.int (2 : Int32)), .val (.ref t2')] [(.ref t2'), (.ref b776)])) rfl rfl (hb hby d12_34)
  refine own_by st802 ?_
  show own_Go p e below _ T802 (mkF m 37 #[.val (.ref a1), .val (.ref b776), .val (.ref ta), .val (.int (4 : Int32)), .val (.int (2 : Int32)), .val (.ref t2')] [(.long (own_u (2 : Int32) ky V)), (.ref b776)])
  have f804 := (f794.keep K1')
  have f805 := (f795.keep K1' (ninS ne_a1_b776 nin0))
  have f806 := (f796.keep K1' (ninS ne_t0__b776 nin0))
  have f807 := (f793.keep K1' (ninS ne_t1__b776 nin0))
  have f808 := (f798.keep K1' (ninS ne_t3__b776 nin0))
  obtain ⟨_, T809, L809, X809, ⟨rfl, N809q, K2', L2', G2'⟩, st809⟩ := own_callV X802 hx hZ hown (y := (⟨"com/example/eskew/eskew/server/split/CounterValues$WideSum", "add", "(J)Lcom/example/eskew/eskew/server/split/CounterValues$WideSum;"⟩ : MethodName)) (C := "com/example/eskew/eskew/server/split/CounterValues$WideSum") (hw _ (List.mem_of_getElem? (i := 96) rfl)) (hw _ (List.mem_of_getElem? (i := 97) rfl)) (hw _ (List.mem_of_getElem? (i := 99) rfl)) (hw _ (List.mem_of_getElem? (i := 98) rfl)) (hw _ (List.mem_of_getElem? (i := 13) rfl)) (hw _ (List.mem_of_getElem? (i := 100) rfl)) (by decide) (a := b776) f804 (argsL := [(.long (own_u (2 : Int32) ky V))]) (rest := []) e802 (rm13 l Z a0 hw [] b776 (own_s (2 : Int32) ky V) (own_u (2 : Int32) ky V) T799.heap n0 Z799 og_b776 f804 L1' G1' (own_ov _ _ _)) (g := (mkF m 37 #[.val (.ref a1), .val (.ref b776), .val (.ref ta), .val (.int (4 : Int32)), .val (.int (2 : Int32)), .val (.ref t2')] [(.long (own_u (2 : Int32) ky V)), (.ref b776)])) rfl (by rw [hml]; rfl) (lenOf pd_6 rfl) rfl (W := 0) (by show 2 * 0 + _ ≤ _; exact Nat.le_of_eq rfl) (hb hby d12_37) (by decide) (by decide) (by decide) (by decide)
  have N809 := Fr.app N799 N809q
  refine own_by st809 ?_
  have Z809 : n0 ≤ T809.heap.size := Nat.le_trans Z799 K2'.1
  have K809c := K799c.trans K2' (allS (Or.inr sz_b776) all0)
  rw [own_st (2 : Int32) (3 : Int32) ky V (by decide)] at L2'
  refine own_by (fun _ k => XS.pop X809.here hx rfl (hb hby d12_40) rfl rfl k) ?_
  refine own_by (fun _ k => XS.iinc X809.here hx rfl (hb hby d12_41) rfl (l' := #[.val (.ref a1), .val (.ref b776), .val (.ref ta), .val (.int (4 : Int32)), .val (.int ((2 : Int32) + (1 : Int32))), .val (.ref t2')]) rfl k) ?_
  show own_Go p e below _ T809 (mkF m 44 #[.val (.ref a1), .val (.ref b776), .val (.ref ta), .val (.int (4 : Int32)), .val (.int ((2 : Int32) + (1 : Int32))), .val (.ref t2')] [])
  rw [show (2 : Int32) + (1 : Int32) = (3 : Int32) from by decide]
  refine own_by (fun _ k => XS.goto X809.here hx rfl (pc0 := 44) (pc' := 19) rfl (hb hby d12_44) (by decide) (by decide) k) ?_
  refine own_by (fun _ k => XS.iload X809.here hx rfl (hb hby d12_19) rfl k) ?_
  show own_Go p e below _ T809 (mkF m 21 #[.val (.ref a1), .val (.ref b776), .val (.ref ta), .val (.int (4 : Int32)), .val (.int (3 : Int32)), .val (.ref t2')] [(.int (3 : Int32))])
  refine own_by (fun _ k => XS.iloadN X809.here hx rfl (hb hby d12_21) rfl k) ?_
  refine own_by (fun _ k => XS.icmpNo X809.here hx rfl (hb hby d12_22) rfl (tlt (by decide : (3 : Int32) < (4 : Int32))).2.1 k) ?_
  refine own_by (fun _ k => XS.aloadN X809.here hx rfl (hb hby d12_25) rfl rfl k) ?_
  show own_Go p e below _ T809 (mkF m 26 #[.val (.ref a1), .val (.ref b776), .val (.ref ta), .val (.int (4 : Int32)), .val (.int (3 : Int32)), .val (.ref t2')] [(.ref ta)])
  refine own_by (fun _ k => XS.iload X809.here hx rfl (hb hby d12_26) rfl k) ?_
  have f811 := (f801.keep K2' (ninS ne_ta_b776 nin0))
  obtain ⟨cl810, Ar810, cq810, hin810, hat810, set810⟩ := own_arv f811 (j := (3 : Int32)) ⟨by decide, by decide⟩
  refine own_by (fun _ k => X809.aaload hx (j := (3 : Int32)) (v := (.ref t3')) Ar810.1 (State.isArrayOf_alike hZ.alike Ar810.2.1) rfl Ar810.2.2 hin810 (by rw [hat810]; exact congrArg some gv3) (g := (mkF m 28 #[.val (.ref a1), .val (.ref b776), .val (.ref ta), .val (.int (4 : Int32)), .val (.int (3 : Int32)), .val (.ref t2')] [(.int (3 : Int32)), (.ref ta)])) rfl rfl (hb hby d12_28) _ k) ?_
  refine own_by (fun _ k => XS.astore X809.here hx rfl (hb hby d12_29) rfl rfl (l' := #[.val (.ref a1), .val (.ref b776), .val (.ref ta), .val (.int (4 : Int32)), .val (.int (3 : Int32)), .val (.ref t3')]) rfl k) ?_
  show own_Go p e below _ T809 (mkF m 31 #[.val (.ref a1), .val (.ref b776), .val (.ref ta), .val (.int (4 : Int32)), .val (.int (3 : Int32)), .val (.ref t3')] [])
  refine own_by (fun _ k => XS.aloadN X809.here hx rfl (hb hby d12_31) rfl rfl k) ?_
  refine own_by (fun _ k => XS.aload X809.here hx rfl (hb hby d12_32) rfl rfl k) ?_
  have f813 := (f808.keep K2' (ninS ne_t3__b776 nin0))
  obtain ⟨T812, X812, e812, st812⟩ := own_getR X809 hx hZ hown (hw _ (List.mem_of_getElem? (i := 68) rfl)) rfl f813 (g := (mkF m 34 #[.val (.ref a1), .val (.ref b776), .val (.ref ta), .val (.int (4 : Int32)), .val (.int (3 : Int32)), .val (.ref t3')] [(.ref t3'), (.ref b776)])) rfl rfl (hb hby d12_34)
  refine own_by st812 ?_
  show own_Go p e below _ T812 (mkF m 37 #[.val (.ref a1), .val (.ref b776), .val (.ref ta), .val (.int (4 : Int32)), .val (.int (3 : Int32)), .val (.ref t3')] [(.long (own_u (3 : Int32) ky V)), (.ref b776)])
  have f814 := (f804.keep K2')
  have f815 := (f805.keep K2' (ninS ne_a1_b776 nin0))
  have f816 := (f806.keep K2' (ninS ne_t0__b776 nin0))
  have f817 := (f807.keep K2' (ninS ne_t1__b776 nin0))
  have f818 := (f803.keep K2' (ninS ne_t2__b776 nin0))
  obtain ⟨_, T819, L819, X819, ⟨rfl, N819q, K3', L3', G3'⟩, st819⟩ := own_callV X812 hx hZ hown (y := (⟨"com/example/eskew/eskew/server/split/CounterValues$WideSum", "add", "(J)Lcom/example/eskew/eskew/server/split/CounterValues$WideSum;"⟩ : MethodName)) (C := "com/example/eskew/eskew/server/split/CounterValues$WideSum") (hw _ (List.mem_of_getElem? (i := 96) rfl)) (hw _ (List.mem_of_getElem? (i := 97) rfl)) (hw _ (List.mem_of_getElem? (i := 99) rfl)) (hw _ (List.mem_of_getElem? (i := 98) rfl)) (hw _ (List.mem_of_getElem? (i := 13) rfl)) (hw _ (List.mem_of_getElem? (i := 100) rfl)) (by decide) (a := b776) f814 (argsL := [(.long (own_u (3 : Int32) ky V))]) (rest := []) e812 (rm13 l Z a0 hw [] b776 (own_s (3 : Int32) ky V) (own_u (3 : Int32) ky V) T809.heap n0 Z809 og_b776 f814 L2' G2' (own_ov _ _ _)) (g := (mkF m 37 #[.val (.ref a1), .val (.ref b776), .val (.ref ta), .val (.int (4 : Int32)), .val (.int (3 : Int32)), .val (.ref t3')] [(.long (own_u (3 : Int32) ky V)), (.ref b776)])) rfl (by rw [hml]; rfl) (lenOf pd_6 rfl) rfl (W := 0) (by show 2 * 0 + _ ≤ _; exact Nat.le_of_eq rfl) (hb hby d12_37) (by decide) (by decide) (by decide) (by decide)
  have N819 := Fr.app N809 N819q
  refine own_by st819 ?_
  have Z819 : n0 ≤ T819.heap.size := Nat.le_trans Z809 K3'.1
  have K819c := K809c.trans K3' (allS (Or.inr sz_b776) all0)
  rw [own_st (3 : Int32) (4 : Int32) ky V (by decide)] at L3'
  refine own_by (fun _ k => XS.pop X819.here hx rfl (hb hby d12_40) rfl rfl k) ?_
  refine own_by (fun _ k => XS.iinc X819.here hx rfl (hb hby d12_41) rfl (l' := #[.val (.ref a1), .val (.ref b776), .val (.ref ta), .val (.int (4 : Int32)), .val (.int ((3 : Int32) + (1 : Int32))), .val (.ref t3')]) rfl k) ?_
  show own_Go p e below _ T819 (mkF m 44 #[.val (.ref a1), .val (.ref b776), .val (.ref ta), .val (.int (4 : Int32)), .val (.int ((3 : Int32) + (1 : Int32))), .val (.ref t3')] [])
  rw [show (3 : Int32) + (1 : Int32) = (4 : Int32) from by decide]
  refine own_by (fun _ k => XS.goto X819.here hx rfl (pc0 := 44) (pc' := 19) rfl (hb hby d12_44) (by decide) (by decide) k) ?_
  refine own_by (fun _ k => XS.iload X819.here hx rfl (hb hby d12_19) rfl k) ?_
  show own_Go p e below _ T819 (mkF m 21 #[.val (.ref a1), .val (.ref b776), .val (.ref ta), .val (.int (4 : Int32)), .val (.int (4 : Int32)), .val (.ref t3')] [(.int (4 : Int32))])
  refine own_by (fun _ k => XS.iloadN X819.here hx rfl (hb hby d12_21) rfl k) ?_
  refine own_by (fun _ k => XS.icmpYes X819.here hx rfl (pc0 := 22) (pc' := 47) rfl (hb hby d12_22) rfl (flt (by decide : ¬ ((4 : Int32) < (4 : Int32)))).2.1 (by decide) (by decide) k) ?_
  refine own_by (fun _ k => XS.aloadN X819.here hx rfl (hb hby d12_47) rfl rfl k) ?_
  show own_Go p e below _ T819 (mkF m 48 #[.val (.ref a1), .val (.ref b776), .val (.ref ta), .val (.int (4 : Int32)), .val (.int (4 : Int32)), .val (.ref t3')] [(.ref b776)])
  have f820 := (f814.keep K3')
  exact own_retA X819 hx hlk hret rfl rfl (hb hby d12_48) ⟨b776, rfl, N819, K819c, sz_b776, f820, by rw [show V = own_s (4 : Int32) ky V from (if_pos hk.2).symm]; exact L3', G3'⟩ (by decide) (by decide)
def Q_rm12_5 (Z : State) (a1 ta : Addr) (kt : ClassId) (vs : List Value) (ky : Int32) (V : Int64) (h0 : Heap) (n0 : Nat) (v : Option Value) (h : Heap) (L : List Loc) : Prop := ∃ b, v = some (.ref b) ∧ Fr n0 L ∧ Keep h0 h [] ∧ h0.size ≤ b ∧ Exa Z h b "com/example/eskew/eskew/server/split/CounterValues$WideSum" ∧ Fld Z h b "com/example/eskew/eskew/server/split/CounterValues$WideSum" "low" "J" (.long V) ∧ Fld Z h b "com/example/eskew/eskew/server/split/CounterValues$WideSum" "high" "J" (.long 0)
theorem pn_rm12_5 : plainFor (⟨"com/example/eskew/eskew/server/split/CounterValues", "wideTotal", "()Lcom/example/eskew/eskew/server/split/CounterValues$WideSum;"⟩ : MethodName) = true := plainFor_of_name (by first | (simp [plainName, overriddenIn, x]; done) | decide +kernel)
set_option maxRecDepth 65536 in
set_option maxHeartbeats 40000000 in
theorem rm12_5 (l : Launch) (Z : State) (a0 : Array Value) (hw : ∀ d ∈ tables_1, d.before a0 Z = true) (ws : List Jvm.Cond) (a1 ta : Addr) (kt : ClassId) (vs : List Value) (ky : Int32) (V : Int64) (h0 : Heap) (n0 : Nat) (Z0 : n0 ≤ h0.size) (hk : ¬ ky < 0 ∧ ky < (5 : Int32)) (Fa : Fld Z h0 a1 "com/example/eskew/eskew/server/split/CounterValues" "tallies" "[Lcom/example/eskew/eskew/server/split/CounterValues$Tally;" (.ref ta)) (Va : Arv Z h0 ta kt (.object "com/example/eskew/eskew/server/split/CounterValues$Tally") (5 : Int32) vs .null) (HV : own_Vals Z h0 vs (5 : Int32) ky V) :
    own_Met l Z (⟨"com/example/eskew/eskew/server/split/CounterValues", "wideTotal", "()Lcom/example/eskew/eskew/server/split/CounterValues$WideSum;"⟩ : MethodName) prog_33_method_18_code 6 (some (.object "com/example/eskew/eskew/server/split/CounterValues$WideSum")) ws ({ frames := 2, cells := 1, slots := 2, locals := 48 } : Room) #[(.ref a1)] h0 (Q_rm12_5 Z a1 ta kt vs ky V h0 n0) := by
  refine own_enter (g0 := fun m => (mkF m 0 #[.val (.ref a1), .unset, .unset, .unset, .unset, .unset] [])) pn_rm12_5 (fun m => by first | (simp [entryFrame, mkF, argsToLocals, Value.category, maxLocals]; done) | rfl) ?_
  intro p e s m below meth c s₁ hx hby hml hown hnm hret hlk hZ X0 e0
  have hml : c.maxLocals = 6 := hml
  have hown : s.vm.findClass "com/example/eskew/eskew/server/split/CounterValues" = some m.cls := hown
  have N0 := Fr.nil n0
  have K0 := Keep.refl h0 []
  obtain ⟨t0', gv0, Fv0⟩ := HV (0 : Int32) (by decide) (by decide)
  obtain ⟨t1', gv1, Fv1⟩ := HV (1 : Int32) (by decide) (by decide)
  obtain ⟨t2', gv2, Fv2⟩ := HV (2 : Int32) (by decide) (by decide)
  obtain ⟨t3', gv3, Fv3⟩ := HV (3 : Int32) (by decide) (by decide)
  obtain ⟨t4', gv4, Fv4⟩ := HV (4 : Int32) (by decide) (by decide)
  obtain ⟨T821, h821, X821, e821, E821, A821, D821, -, st821⟩ := newO X0 hx hZ hown (hw _ (List.mem_of_getElem? (i := 11) rfl)) (hw _ (List.mem_of_getElem? (i := 12) rfl)) (hw _ (List.mem_of_getElem? (i := 13) rfl)) e0 (g := (mkF m 0 #[.val (.ref a1), .unset, .unset, .unset, .unset, .unset] [])) rfl (hb hby d12_0) (by decide) (by decide)
  obtain ⟨b821, g821⟩ : ∃ zq, zq = h0.size := ⟨_, rfl⟩
  rw [← g821] at A821 D821 st821
  have ne_a1_b821 : a1 ≠ b821 := Nat.ne_of_lt (Nat.lt_of_lt_of_le Fa.lt (Nat.le_of_eq g821.symm))
  have ne_ta_b821 : ta ≠ b821 := Nat.ne_of_lt (Nat.lt_of_lt_of_le Va.lt (Nat.le_of_eq g821.symm))
  have ne_t0__b821 : t0' ≠ b821 := Nat.ne_of_lt (Nat.lt_of_lt_of_le Fv0.lt (Nat.le_of_eq g821.symm))
  have ne_t1__b821 : t1' ≠ b821 := Nat.ne_of_lt (Nat.lt_of_lt_of_le Fv1.lt (Nat.le_of_eq g821.symm))
  have ne_t2__b821 : t2' ≠ b821 := Nat.ne_of_lt (Nat.lt_of_lt_of_le Fv2.lt (Nat.le_of_eq g821.symm))
  have ne_t3__b821 : t3' ≠ b821 := Nat.ne_of_lt (Nat.lt_of_lt_of_le Fv3.lt (Nat.le_of_eq g821.symm))
  have ne_t4__b821 : t4' ≠ b821 := Nat.ne_of_lt (Nat.lt_of_lt_of_le Fv4.lt (Nat.le_of_eq g821.symm))
  have og_b821 : n0 ≤ b821 := Nat.le_trans Z0 (Nat.le_of_eq g821.symm)
  have sz_b821 : h0.size ≤ b821 := Nat.le_trans K0.1 (Nat.le_of_eq g821.symm)
  have Z821 : n0 ≤ h821.size := Nat.le_trans Z0 E821.1
  have K822 := K0.ext E821
  have F_low_b821 : Fld Z h821 b821 "com/example/eskew/eskew/server/split/CounterValues$WideSum" "low" "J" (.long (0 : Int64)) := D821 (Or.inl (hw _ (List.mem_of_getElem? (i := 102) rfl))) (ty := .long) (by decide)
  have F_high_b821 : Fld Z h821 b821 "com/example/eskew/eskew/server/split/CounterValues$WideSum" "high" "J" (.long (0 : Int64)) := D821 (Or.inl (hw _ (List.mem_of_getElem? (i := 109) rfl))) (ty := .long) (by decide)
  refine own_by st821 ?_
  refine own_by (fun _ k => XS.dup X821.here hx rfl (hb hby d12_3) rfl rfl k) ?_
  show own_Go p e below _ T821 (mkF m 4 #[.val (.ref a1), .unset, .unset, .unset, .unset, .unset] [(.ref b821), (.ref b821)])
  obtain ⟨_, T823, L823, X823, ⟨rfl, N823q, e823⟩, st823⟩ := own_callR X821 hx hZ hown (y := (⟨"com/example/eskew/eskew/server/split/CounterValues$WideSum", "<init>", "()V"⟩ : MethodName)) rfl (hw _ (List.mem_of_getElem? (i := 14) rfl)) (hw _ (List.mem_of_getElem? (i := 15) rfl)) (hw _ (List.mem_of_getElem? (i := 13) rfl)) (hw _ (List.mem_of_getElem? (i := 16) rfl)) (by decide) (a := b821) (argsL := []) (rest := [(.ref b821)]) e821 (rm3 l Z a0 hw [] b821 h821 n0 Z821) (g := (mkF m 4 #[.val (.ref a1), .unset, .unset, .unset, .unset, .unset] [(.ref b821), (.ref b821)])) rfl (by rw [hml]; rfl) (lenOf pd_0 rfl) rfl (W := 1) (by show 2 * 0 + _ ≤ _; exact Nat.le_of_eq rfl) (hb hby d12_4) (by decide) (by decide) (by decide) (by decide)
  have N823 := Fr.app N0 N823q
  refine own_by st823 ?_
  refine own_by (fun _ k => XS.astoreN X823.here hx rfl (hb hby d12_7) rfl rfl (l' := #[.val (.ref a1), .val (.ref b821), .unset, .unset, .unset, .unset]) rfl k) ?_
  refine own_by (fun _ k => XS.aloadN X823.here hx rfl (hb hby d12_8) rfl rfl k) ?_
  show own_Go p e below _ T823 (mkF m 9 #[.val (.ref a1), .val (.ref b821), .unset, .unset, .unset, .unset] [(.ref a1)])
  have f825 := (Fa.ext E821)
  obtain ⟨T824, X824, e824, st824⟩ := getF X823 hx hZ hown (host := "") (Or.inl (hw _ (List.mem_of_getElem? (i := 30) rfl))) Via.refl e823 f825 (g := (mkF m 9 #[.val (.ref a1), .val (.ref b821), .unset, .unset, .unset, .unset] [(.ref a1)])) rfl rfl (hb hby d12_9)
  refine own_by st824 ?_
  refine own_by (fun _ k => XS.astoreN X824.here hx rfl (hb hby d12_12) rfl rfl (l' := #[.val (.ref a1), .val (.ref b821), .val (.ref ta), .unset, .unset, .unset]) rfl k) ?_
  refine own_by (fun _ k => XS.aloadN X824.here hx rfl (hb hby d12_13) rfl rfl k) ?_
  show own_Go p e below _ T824 (mkF m 14 #[.val (.ref a1), .val (.ref b821), .val (.ref ta), .unset, .unset, .unset] [(.ref ta)])
  have f827 := (Va.ext E821)
  obtain ⟨cl826, Ar826, len826⟩ := own_len f827
  refine own_by (T' := T824) (g' := (mkF m 15 #[.val (.ref a1), .val (.ref b821), .val (.ref ta), .unset, .unset, .unset] [(.int (5 : Int32))])) (fun _ k => X824.arraylength hx (by rw [e824]; exact Ar826.1) (State.isArrayOf_alike hZ.alike Ar826.2.1) (g := (mkF m 14 #[.val (.ref a1), .val (.ref b821), .val (.ref ta), .unset, .unset, .unset] [(.ref ta)])) rfl rfl (hb hby d12_14) _ (by rw [len826]; exact k)) ?_
  refine own_by (fun _ k => XS.istoreN X824.here hx rfl (hb hby d12_15) rfl (l' := #[.val (.ref a1), .val (.ref b821), .val (.ref ta), .val (.int (5 : Int32)), .unset, .unset]) rfl k) ?_
  refine own_by (fun _ k => XS.iconst X824.here hx rfl (hb hby d12_16) k) ?_
  refine own_by (fun _ k => XS.istore X824.here hx rfl (hb hby d12_17) rfl (l' := #[.val (.ref a1), .val (.ref b821), .val (.ref ta), .val (.int (5 : Int32)), .val (.int (0 : Int32)), .unset]) rfl k) ?_
  show own_Go p e below _ T824 (mkF m 19 #[.val (.ref a1), .val (.ref b821), .val (.ref ta), .val (.int (5 : Int32)), .val (.int (0 : Int32)), .unset] [])
  refine own_by (fun _ k => XS.iload X824.here hx rfl (hb hby d12_19) rfl k) ?_
  refine own_by (fun _ k => XS.iloadN X824.here hx rfl (hb hby d12_21) rfl k) ?_
  have fl0 : Fld Z h821 b821 "com/example/eskew/eskew/server/split/CounterValues$WideSum" "low" "J" (.long (own_s (0 : Int32) ky V)) := by rw [show own_s (0 : Int32) ky V = 0 from if_neg hk.1]; exact F_low_b821
  refine own_by (fun _ k => XS.icmpNo X824.here hx rfl (hb hby d12_22) rfl (tlt (by decide : (0 : Int32) < (5 : Int32))).2.1 k) ?_
  show own_Go p e below _ T824 (mkF m 25 #[.val (.ref a1), .val (.ref b821), .val (.ref ta), .val (.int (5 : Int32)), .val (.int (0 : Int32)), .unset] [])
  refine own_by (fun _ k => XS.aloadN X824.here hx rfl (hb hby d12_25) rfl rfl k) ?_
  refine own_by (fun _ k => XS.iload X824.here hx rfl (hb hby d12_26) rfl k) ?_
  obtain ⟨cl828, Ar828, cq828, hin828, hat828, set828⟩ := own_arv f827 (j := (0 : Int32)) ⟨by decide, by decide⟩
  refine own_by (fun _ k => X824.aaload hx (j := (0 : Int32)) (v := (.ref t0')) (by rw [e824]; exact Ar828.1) (State.isArrayOf_alike hZ.alike Ar828.2.1) rfl Ar828.2.2 hin828 (by rw [hat828]; exact congrArg some gv0) (g := (mkF m 28 #[.val (.ref a1), .val (.ref b821), .val (.ref ta), .val (.int (5 : Int32)), .val (.int (0 : Int32)), .unset] [(.int (0 : Int32)), (.ref ta)])) rfl rfl (hb hby d12_28) _ k) ?_
  show own_Go p e below _ T824 (mkF m 29 #[.val (.ref a1), .val (.ref b821), .val (.ref ta), .val (.int (5 : Int32)), .val (.int (0 : Int32)), .unset] [(.ref t0')])
  refine own_by (fun _ k => XS.astore X824.here hx rfl (hb hby d12_29) rfl rfl (l' := #[.val (.ref a1), .val (.ref b821), .val (.ref ta), .val (.int (5 : Int32)), .val (.int (0 : Int32)), .val (.ref t0')]) rfl k) ?_
  refine own_by (fun _ k => XS.aloadN X824.here hx rfl (hb hby d12_31) rfl rfl k) ?_
  refine own_by (fun _ k => XS.aload X824.here hx rfl (hb hby d12_32) rfl rfl k) ?_
  show own_Go p e below _ T824 (mkF m 34 #[.val (.ref a1), .val (.ref b821), .val (.ref ta), .val (.int (5 : Int32)), .val (.int (0 : Int32)), .val (.ref t0')] [(.ref t0'), (.ref b821)])
  have f830 := (Fv0.ext E821)
  obtain ⟨T829, X829, e829, st829⟩ := own_getR X824 hx hZ hown (hw _ (List.mem_of_getElem? (i := 68) rfl)) e824 f830 (g := (mkF m 34 #[.val (.ref a1), .val (.ref b821), .val (.ref ta), .val (.int (5 : Int32)), .val (.int (0 : Int32)), .val (.ref t0')] [(.ref t0'), (.ref b821)])) rfl rfl (hb hby d12_34)
  refine own_by st829 ?_
  have f831 := (Fv1.ext E821)
  have f832 := (Fv2.ext E821)
  have f833 := (Fv3.ext E821)
  have f834 := (Fv4.ext E821)
  obtain ⟨_, T835, L835, X835, ⟨rfl, N835q, K0', L0', G0'⟩, st835⟩ := own_callV X829 hx hZ hown (y := (⟨"com/example/eskew/eskew/server/split/CounterValues$WideSum", "add", "(J)Lcom/example/eskew/eskew/server/split/CounterValues$WideSum;"⟩ : MethodName)) (C := "com/example/eskew/eskew/server/split/CounterValues$WideSum") (hw _ (List.mem_of_getElem? (i := 96) rfl)) (hw _ (List.mem_of_getElem? (i := 97) rfl)) (hw _ (List.mem_of_getElem? (i := 99) rfl)) (hw _ (List.mem_of_getElem? (i := 98) rfl)) (hw _ (List.mem_of_getElem? (i := 13) rfl)) (hw _ (List.mem_of_getElem? (i := 100) rfl)) (by decide) (a := b821) A821 (argsL := [(.long (own_u (0 : Int32) ky V))]) (rest := []) e829 (rm13 l Z a0 hw [] b821 (own_s (0 : Int32) ky V) (own_u (0 : Int32) ky V) h821 n0 Z821 og_b821 A821 fl0 F_high_b821 (own_ov _ _ _)) (g := (mkF m 37 #[.val (.ref a1), .val (.ref b821), .val (.ref ta), .val (.int (5 : Int32)), .val (.int (0 : Int32)), .val (.ref t0')] [(.long (own_u (0 : Int32) ky V)), (.ref b821)])) rfl (by rw [hml]; rfl) (lenOf pd_6 rfl) rfl (W := 0) (by show 2 * 0 + _ ≤ _; exact Nat.le_of_eq rfl) (hb hby d12_37) (by decide) (by decide) (by decide) (by decide)
  have N835 := Fr.app N823 N835q
  refine own_by st835 ?_
  have Z835 : n0 ≤ T835.heap.size := Nat.le_trans Z821 K0'.1
  have K835c := K822.trans K0' (allS (Or.inr sz_b821) all0)
  rw [own_st (0 : Int32) (1 : Int32) ky V (by decide)] at L0'
  refine own_by (fun _ k => XS.pop X835.here hx rfl (hb hby d12_40) rfl rfl k) ?_
  show own_Go p e below _ T835 (mkF m 41 #[.val (.ref a1), .val (.ref b821), .val (.ref ta), .val (.int (5 : Int32)), .val (.int (0 : Int32)), .val (.ref t0')] [])
  refine own_by (fun _ k => XS.iinc X835.here hx rfl (hb hby d12_41) rfl (l' := #[.val (.ref a1), .val (.ref b821), .val (.ref ta), .val (.int (5 : Int32)), .val (.int ((0 : Int32) + (1 : Int32))), .val (.ref t0')]) rfl k) ?_
  show own_Go p e below _ T835 (mkF m 44 #[.val (.ref a1), .val (.ref b821), .val (.ref ta), .val (.int (5 : Int32)), .val (.int ((0 : Int32) + (1 : Int32))), .val (.ref t0')] [])
  rw [show (0 : Int32) + (1 : Int32) = (1 : Int32) from by decide]
  refine own_by (fun _ k => XS.goto X835.here hx rfl (pc0 := 44) (pc' := 19) rfl (hb hby d12_44) (by decide) (by decide) k) ?_
  refine own_by (fun _ k => XS.iload X835.here hx rfl (hb hby d12_19) rfl k) ?_
  show own_Go p e below _ T835 (mkF m 21 #[.val (.ref a1), .val (.ref b821), .val (.ref ta), .val (.int (5 : Int32)), .val (.int (1 : Int32)), .val (.ref t0')] [(.int (1 : Int32))])
  refine own_by (fun _ k => XS.iloadN X835.here hx rfl (hb hby d12_21) rfl k) ?_
  refine own_by (fun _ k => XS.icmpNo X835.here hx rfl (hb hby d12_22) rfl (tlt (by decide : (1 : Int32) < (5 : Int32))).2.1 k) ?_
  refine own_by (fun _ k => XS.aloadN X835.here hx rfl (hb hby d12_25) rfl rfl k) ?_
  show own_Go p e below _ T835 (mkF m 26 #[.val (.ref a1), .val (.ref b821), .val (.ref ta), .val (.int (5 : Int32)), .val (.int (1 : Int32)), .val (.ref t0')] [(.ref ta)])
  refine own_by (fun _ k => XS.iload X835.here hx rfl (hb hby d12_26) rfl k) ?_
  have f837 := (f827.keep K0' (ninS ne_ta_b821 nin0))
  obtain ⟨cl836, Ar836, cq836, hin836, hat836, set836⟩ := own_arv f837 (j := (1 : Int32)) ⟨by decide, by decide⟩
  refine own_by (fun _ k => X835.aaload hx (j := (1 : Int32)) (v := (.ref t1')) Ar836.1 (State.isArrayOf_alike hZ.alike Ar836.2.1) rfl Ar836.2.2 hin836 (by rw [hat836]; exact congrArg some gv1) (g := (mkF m 28 #[.val (.ref a1), .val (.ref b821), .val (.ref ta), .val (.int (5 : Int32)), .val (.int (1 : Int32)), .val (.ref t0')] [(.int (1 : Int32)), (.ref ta)])) rfl rfl (hb hby d12_28) _ k) ?_
  refine own_by (fun _ k => XS.astore X835.here hx rfl (hb hby d12_29) rfl rfl (l' := #[.val (.ref a1), .val (.ref b821), .val (.ref ta), .val (.int (5 : Int32)), .val (.int (1 : Int32)), .val (.ref t1')]) rfl k) ?_
  show own_Go p e below _ T835 (mkF m 31 #[.val (.ref a1), .val (.ref b821), .val (.ref ta), .val (.int (5 : Int32)), .val (.int (1 : Int32)), .val (.ref t1')] [])
  refine own_by (fun _ k => XS.aloadN X835.here hx rfl (hb hby d12_31) rfl rfl k) ?_
  refine own_by (fun _ k => XS.aload X835.here hx rfl (hb hby d12_32) rfl rfl k) ?_
  have f839 := (f831.keep K0' (ninS ne_t1__b821 nin0))
  obtain ⟨T838, X838, e838, st838⟩ := own_getR X835 hx hZ hown (hw _ (List.mem_of_getElem? (i := 68) rfl)) rfl f839 (g := (mkF m 34 #[.val (.ref a1), .val (.ref b821), .val (.ref ta), .val (.int (5 : Int32)), .val (.int (1 : Int32)), .val (.ref t1')] [(.ref t1'), (.ref b821)])) rfl rfl (hb hby d12_34)
  refine own_by st838 ?_
  show own_Go p e below _ T838 (mkF m 37 #[.val (.ref a1), .val (.ref b821), .val (.ref ta), .val (.int (5 : Int32)), .val (.int (1 : Int32)), .val (.ref t1')] [(.long (own_u (1 : Int32) ky V)), (.ref b821)])
  have f840 := (A821.keep K0')
  have f841 := (f825.keep K0' (ninS ne_a1_b821 nin0))
  have f842 := (f830.keep K0' (ninS ne_t0__b821 nin0))
  have f843 := (f832.keep K0' (ninS ne_t2__b821 nin0))
  have f844 := (f833.keep K0' (ninS ne_t3__b821 nin0))
  have f845 := (f834.keep K0' (ninS ne_t4__b821 nin0))
  obtain ⟨_, T846, L846, X846, ⟨rfl, N846q, K1', L1', G1'⟩, st846⟩ := own_callV X838 hx hZ hown (y := (⟨"com/example/eskew/eskew/server/split/CounterValues$WideSum", "add", "(J)Lcom/example/eskew/eskew/server/split/CounterValues$WideSum;"⟩ : MethodName)) (C := "com/example/eskew/eskew/server/split/CounterValues$WideSum") (hw _ (List.mem_of_getElem? (i := 96) rfl)) (hw _ (List.mem_of_getElem? (i := 97) rfl)) (hw _ (List.mem_of_getElem? (i := 99) rfl)) (hw _ (List.mem_of_getElem? (i := 98) rfl)) (hw _ (List.mem_of_getElem? (i := 13) rfl)) (hw _ (List.mem_of_getElem? (i := 100) rfl)) (by decide) (a := b821) f840 (argsL := [(.long (own_u (1 : Int32) ky V))]) (rest := []) e838 (rm13 l Z a0 hw [] b821 (own_s (1 : Int32) ky V) (own_u (1 : Int32) ky V) T835.heap n0 Z835 og_b821 f840 L0' G0' (own_ov _ _ _)) (g := (mkF m 37 #[.val (.ref a1), .val (.ref b821), .val (.ref ta), .val (.int (5 : Int32)), .val (.int (1 : Int32)), .val (.ref t1')] [(.long (own_u (1 : Int32) ky V)), (.ref b821)])) rfl (by rw [hml]; rfl) (lenOf pd_6 rfl) rfl (W := 0) (by show 2 * 0 + _ ≤ _; exact Nat.le_of_eq rfl) (hb hby d12_37) (by decide) (by decide) (by decide) (by decide)
  have N846 := Fr.app N835 N846q
  refine own_by st846 ?_
  have Z846 : n0 ≤ T846.heap.size := Nat.le_trans Z835 K1'.1
  have K846c := K835c.trans K1' (allS (Or.inr sz_b821) all0)
  rw [own_st (1 : Int32) (2 : Int32) ky V (by decide)] at L1'
  refine own_by (fun _ k => XS.pop X846.here hx rfl (hb hby d12_40) rfl rfl k) ?_
  refine own_by (fun _ k => XS.iinc X846.here hx rfl (hb hby d12_41) rfl (l' := #[.val (.ref a1), .val (.ref b821), .val (.ref ta), .val (.int (5 : Int32)), .val (.int ((1 : Int32) + (1 : Int32))), .val (.ref t1')]) rfl k) ?_
  show own_Go p e below _ T846 (mkF m 44 #[.val (.ref a1), .val (.ref b821), .val (.ref ta), .val (.int (5 : Int32)), .val (.int ((1 : Int32) + (1 : Int32))), .val (.ref t1')] [])
  rw [show (1 : Int32) + (1 : Int32) = (2 : Int32) from by decide]
  refine own_by (fun _ k => XS.goto X846.here hx rfl (pc0 := 44) (pc' := 19) rfl (hb hby d12_44) (by decide) (by decide) k) ?_
  refine own_by (fun _ k => XS.iload X846.here hx rfl (hb hby d12_19) rfl k) ?_
  show own_Go p e below _ T846 (mkF m 21 #[.val (.ref a1), .val (.ref b821), .val (.ref ta), .val (.int (5 : Int32)), .val (.int (2 : Int32)), .val (.ref t1')] [(.int (2 : Int32))])
  refine own_by (fun _ k => XS.iloadN X846.here hx rfl (hb hby d12_21) rfl k) ?_
  refine own_by (fun _ k => XS.icmpNo X846.here hx rfl (hb hby d12_22) rfl (tlt (by decide : (2 : Int32) < (5 : Int32))).2.1 k) ?_
  refine own_by (fun _ k => XS.aloadN X846.here hx rfl (hb hby d12_25) rfl rfl k) ?_
  show own_Go p e below _ T846 (mkF m 26 #[.val (.ref a1), .val (.ref b821), .val (.ref ta), .val (.int (5 : Int32)), .val (.int (2 : Int32)), .val (.ref t1')] [(.ref ta)])
  refine own_by (fun _ k => XS.iload X846.here hx rfl (hb hby d12_26) rfl k) ?_
  have f848 := (f837.keep K1' (ninS ne_ta_b821 nin0))
  obtain ⟨cl847, Ar847, cq847, hin847, hat847, set847⟩ := own_arv f848 (j := (2 : Int32)) ⟨by decide, by decide⟩
  refine own_by (fun _ k => X846.aaload hx (j := (2 : Int32)) (v := (.ref t2')) Ar847.1 (State.isArrayOf_alike hZ.alike Ar847.2.1) rfl Ar847.2.2 hin847 (by rw [hat847]; exact congrArg some gv2) (g := (mkF m 28 #[.val (.ref a1), .val (.ref b821), .val (.ref ta), .val (.int (5 : Int32)), .val (.int (2 : Int32)), .val (.ref t1')] [(.int (2 : Int32)), (.ref ta)])) rfl rfl (hb hby d12_28) _ k) ?_
  refine own_by (fun _ k => XS.astore X846.here hx rfl (hb hby d12_29) rfl rfl (l' := #[.val (.ref a1), .val (.ref b821), .val (.ref ta), .val (.int (5 : Int32)), .val (.int (2 : Int32)), .val (.ref t2')]) rfl k) ?_
  show own_Go p e below _ T846 (mkF m 31 #[.val (.ref a1), .val (.ref b821), .val (.ref ta), .val (.int (5 : Int32)), .val (.int (2 : Int32)), .val (.ref t2')] [])
  refine own_by (fun _ k => XS.aloadN X846.here hx rfl (hb hby d12_31) rfl rfl k) ?_
  refine own_by (fun _ k => XS.aload X846.here hx rfl (hb hby d12_32) rfl rfl k) ?_
  have f850 := (f843.keep K1' (ninS ne_t2__b821 nin0))
  obtain ⟨T849, X849, e849, st849⟩ := own_getR X846 hx hZ hown (hw _ (List.mem_of_getElem? (i := 68) rfl)) rfl f850 (g := (mkF m 34 #[.val (.ref a1), .val (.ref b821), .val (.ref ta), .val (.int (5 : Int32)), .val (.int (2 : Int32)), .val (.ref t2')] [(.ref t2'), (.ref b821)])) rfl rfl (hb hby d12_34)
  refine own_by st849 ?_
  show own_Go p e below _ T849 (mkF m 37 #[.val (.ref a1), .val (.ref b821), .val (.ref ta), .val (.int (5 : Int32)), .val (.int (2 : Int32)), .val (.ref t2')] [(.long (own_u (2 : Int32) ky V)), (.ref b821)])
  have f851 := (f840.keep K1')
  have f852 := (f841.keep K1' (ninS ne_a1_b821 nin0))
  have f853 := (f842.keep K1' (ninS ne_t0__b821 nin0))
  have f854 := (f839.keep K1' (ninS ne_t1__b821 nin0))
  have f855 := (f844.keep K1' (ninS ne_t3__b821 nin0))
  have f856 := (f845.keep K1' (ninS ne_t4__b821 nin0))
  obtain ⟨_, T857, L857, X857, ⟨rfl, N857q, K2', L2', G2'⟩, st857⟩ := own_callV X849 hx hZ hown (y := (⟨"com/example/eskew/eskew/server/split/CounterValues$WideSum", "add", "(J)Lcom/example/eskew/eskew/server/split/CounterValues$WideSum;"⟩ : MethodName)) (C := "com/example/eskew/eskew/server/split/CounterValues$WideSum") (hw _ (List.mem_of_getElem? (i := 96) rfl)) (hw _ (List.mem_of_getElem? (i := 97) rfl)) (hw _ (List.mem_of_getElem? (i := 99) rfl)) (hw _ (List.mem_of_getElem? (i := 98) rfl)) (hw _ (List.mem_of_getElem? (i := 13) rfl)) (hw _ (List.mem_of_getElem? (i := 100) rfl)) (by decide) (a := b821) f851 (argsL := [(.long (own_u (2 : Int32) ky V))]) (rest := []) e849 (rm13 l Z a0 hw [] b821 (own_s (2 : Int32) ky V) (own_u (2 : Int32) ky V) T846.heap n0 Z846 og_b821 f851 L1' G1' (own_ov _ _ _)) (g := (mkF m 37 #[.val (.ref a1), .val (.ref b821), .val (.ref ta), .val (.int (5 : Int32)), .val (.int (2 : Int32)), .val (.ref t2')] [(.long (own_u (2 : Int32) ky V)), (.ref b821)])) rfl (by rw [hml]; rfl) (lenOf pd_6 rfl) rfl (W := 0) (by show 2 * 0 + _ ≤ _; exact Nat.le_of_eq rfl) (hb hby d12_37) (by decide) (by decide) (by decide) (by decide)
  have N857 := Fr.app N846 N857q
  refine own_by st857 ?_
  have Z857 : n0 ≤ T857.heap.size := Nat.le_trans Z846 K2'.1
  have K857c := K846c.trans K2' (allS (Or.inr sz_b821) all0)
  rw [own_st (2 : Int32) (3 : Int32) ky V (by decide)] at L2'
  refine own_by (fun _ k => XS.pop X857.here hx rfl (hb hby d12_40) rfl rfl k) ?_
  refine own_by (fun _ k => XS.iinc X857.here hx rfl (hb hby d12_41) rfl (l' := #[.val (.ref a1), .val (.ref b821), .val (.ref ta), .val (.int (5 : Int32)), .val (.int ((2 : Int32) + (1 : Int32))), .val (.ref t2')]) rfl k) ?_
  show own_Go p e below _ T857 (mkF m 44 #[.val (.ref a1), .val (.ref b821), .val (.ref ta), .val (.int (5 : Int32)), .val (.int ((2 : Int32) + (1 : Int32))), .val (.ref t2')] [])
  rw [show (2 : Int32) + (1 : Int32) = (3 : Int32) from by decide]
  refine own_by (fun _ k => XS.goto X857.here hx rfl (pc0 := 44) (pc' := 19) rfl (hb hby d12_44) (by decide) (by decide) k) ?_
  refine own_by (fun _ k => XS.iload X857.here hx rfl (hb hby d12_19) rfl k) ?_
  show own_Go p e below _ T857 (mkF m 21 #[.val (.ref a1), .val (.ref b821), .val (.ref ta), .val (.int (5 : Int32)), .val (.int (3 : Int32)), .val (.ref t2')] [(.int (3 : Int32))])
  refine own_by (fun _ k => XS.iloadN X857.here hx rfl (hb hby d12_21) rfl k) ?_
  refine own_by (fun _ k => XS.icmpNo X857.here hx rfl (hb hby d12_22) rfl (tlt (by decide : (3 : Int32) < (5 : Int32))).2.1 k) ?_
  refine own_by (fun _ k => XS.aloadN X857.here hx rfl (hb hby d12_25) rfl rfl k) ?_
  show own_Go p e below _ T857 (mkF m 26 #[.val (.ref a1), .val (.ref b821), .val (.ref ta), .val (.int (5 : Int32)), .val (.int (3 : Int32)), .val (.ref t2')] [(.ref ta)])
  refine own_by (fun _ k => XS.iload X857.here hx rfl (hb hby d12_26) rfl k) ?_
  have f859 := (f848.keep K2' (ninS ne_ta_b821 nin0))
  obtain ⟨cl858, Ar858, cq858, hin858, hat858, set858⟩ := own_arv f859 (j := (3 : Int32)) ⟨by decide, by decide⟩
  refine own_by (fun _ k => X857.aaload hx (j := (3 : Int32)) (v := (.ref t3')) Ar858.1 (State.isArrayOf_alike hZ.alike Ar858.2.1) rfl Ar858.2.2 hin858 (by rw [hat858]; exact congrArg some gv3) (g := (mkF m 28 #[.val (.ref a1), .val (.ref b821), .val (.ref ta), .val (.int (5 : Int32)), .val (.int (3 : Int32)), .val (.ref t2')] [(.int (3 : Int32)), (.ref ta)])) rfl rfl (hb hby d12_28) _ k) ?_
  refine own_by (fun _ k => XS.astore X857.here hx rfl (hb hby d12_29) rfl rfl (l' := #[.val (.ref a1), .val (.ref b821), .val (.ref ta), .val (.int (5 : Int32)), .val (.int (3 : Int32)), .val (.ref t3')]) rfl k) ?_
  show own_Go p e below _ T857 (mkF m 31 #[.val (.ref a1), .val (.ref b821), .val (.ref ta), .val (.int (5 : Int32)), .val (.int (3 : Int32)), .val (.ref t3')] [])
  refine own_by (fun _ k => XS.aloadN X857.here hx rfl (hb hby d12_31) rfl rfl k) ?_
  refine own_by (fun _ k => XS.aload X857.here hx rfl (hb hby d12_32) rfl rfl k) ?_
  have f861 := (f855.keep K2' (ninS ne_t3__b821 nin0))
  obtain ⟨T860, X860, e860, st860⟩ := own_getR X857 hx hZ hown (hw _ (List.mem_of_getElem? (i := 68) rfl)) rfl f861 (g := (mkF m 34 #[.val (.ref a1), .val (.ref b821), .val (.ref ta), .val (.int (5 : Int32)), .val (.int (3 : Int32)), .val (.ref t3')] [(.ref t3'), (.ref b821)])) rfl rfl (hb hby d12_34)
  refine own_by st860 ?_
  show own_Go p e below _ T860 (mkF m 37 #[.val (.ref a1), .val (.ref b821), .val (.ref ta), .val (.int (5 : Int32)), .val (.int (3 : Int32)), .val (.ref t3')] [(.long (own_u (3 : Int32) ky V)), (.ref b821)])
  have f862 := (f851.keep K2')
  have f863 := (f852.keep K2' (ninS ne_a1_b821 nin0))
  have f864 := (f853.keep K2' (ninS ne_t0__b821 nin0))
  have f865 := (f854.keep K2' (ninS ne_t1__b821 nin0))
  have f866 := (f850.keep K2' (ninS ne_t2__b821 nin0))
  have f867 := (f856.keep K2' (ninS ne_t4__b821 nin0))
  obtain ⟨_, T868, L868, X868, ⟨rfl, N868q, K3', L3', G3'⟩, st868⟩ := own_callV X860 hx hZ hown (y := (⟨"com/example/eskew/eskew/server/split/CounterValues$WideSum", "add", "(J)Lcom/example/eskew/eskew/server/split/CounterValues$WideSum;"⟩ : MethodName)) (C := "com/example/eskew/eskew/server/split/CounterValues$WideSum") (hw _ (List.mem_of_getElem? (i := 96) rfl)) (hw _ (List.mem_of_getElem? (i := 97) rfl)) (hw _ (List.mem_of_getElem? (i := 99) rfl)) (hw _ (List.mem_of_getElem? (i := 98) rfl)) (hw _ (List.mem_of_getElem? (i := 13) rfl)) (hw _ (List.mem_of_getElem? (i := 100) rfl)) (by decide) (a := b821) f862 (argsL := [(.long (own_u (3 : Int32) ky V))]) (rest := []) e860 (rm13 l Z a0 hw [] b821 (own_s (3 : Int32) ky V) (own_u (3 : Int32) ky V) T857.heap n0 Z857 og_b821 f862 L2' G2' (own_ov _ _ _)) (g := (mkF m 37 #[.val (.ref a1), .val (.ref b821), .val (.ref ta), .val (.int (5 : Int32)), .val (.int (3 : Int32)), .val (.ref t3')] [(.long (own_u (3 : Int32) ky V)), (.ref b821)])) rfl (by rw [hml]; rfl) (lenOf pd_6 rfl) rfl (W := 0) (by show 2 * 0 + _ ≤ _; exact Nat.le_of_eq rfl) (hb hby d12_37) (by decide) (by decide) (by decide) (by decide)
  have N868 := Fr.app N857 N868q
  refine own_by st868 ?_
  have Z868 : n0 ≤ T868.heap.size := Nat.le_trans Z857 K3'.1
  have K868c := K857c.trans K3' (allS (Or.inr sz_b821) all0)
  rw [own_st (3 : Int32) (4 : Int32) ky V (by decide)] at L3'
  refine own_by (fun _ k => XS.pop X868.here hx rfl (hb hby d12_40) rfl rfl k) ?_
  refine own_by (fun _ k => XS.iinc X868.here hx rfl (hb hby d12_41) rfl (l' := #[.val (.ref a1), .val (.ref b821), .val (.ref ta), .val (.int (5 : Int32)), .val (.int ((3 : Int32) + (1 : Int32))), .val (.ref t3')]) rfl k) ?_
  show own_Go p e below _ T868 (mkF m 44 #[.val (.ref a1), .val (.ref b821), .val (.ref ta), .val (.int (5 : Int32)), .val (.int ((3 : Int32) + (1 : Int32))), .val (.ref t3')] [])
  rw [show (3 : Int32) + (1 : Int32) = (4 : Int32) from by decide]
  refine own_by (fun _ k => XS.goto X868.here hx rfl (pc0 := 44) (pc' := 19) rfl (hb hby d12_44) (by decide) (by decide) k) ?_
  refine own_by (fun _ k => XS.iload X868.here hx rfl (hb hby d12_19) rfl k) ?_
  show own_Go p e below _ T868 (mkF m 21 #[.val (.ref a1), .val (.ref b821), .val (.ref ta), .val (.int (5 : Int32)), .val (.int (4 : Int32)), .val (.ref t3')] [(.int (4 : Int32))])
  refine own_by (fun _ k => XS.iloadN X868.here hx rfl (hb hby d12_21) rfl k) ?_
  refine own_by (fun _ k => XS.icmpNo X868.here hx rfl (hb hby d12_22) rfl (tlt (by decide : (4 : Int32) < (5 : Int32))).2.1 k) ?_
  refine own_by (fun _ k => XS.aloadN X868.here hx rfl (hb hby d12_25) rfl rfl k) ?_
  show own_Go p e below _ T868 (mkF m 26 #[.val (.ref a1), .val (.ref b821), .val (.ref ta), .val (.int (5 : Int32)), .val (.int (4 : Int32)), .val (.ref t3')] [(.ref ta)])
  refine own_by (fun _ k => XS.iload X868.here hx rfl (hb hby d12_26) rfl k) ?_
  have f870 := (f859.keep K3' (ninS ne_ta_b821 nin0))
  obtain ⟨cl869, Ar869, cq869, hin869, hat869, set869⟩ := own_arv f870 (j := (4 : Int32)) ⟨by decide, by decide⟩
  refine own_by (fun _ k => X868.aaload hx (j := (4 : Int32)) (v := (.ref t4')) Ar869.1 (State.isArrayOf_alike hZ.alike Ar869.2.1) rfl Ar869.2.2 hin869 (by rw [hat869]; exact congrArg some gv4) (g := (mkF m 28 #[.val (.ref a1), .val (.ref b821), .val (.ref ta), .val (.int (5 : Int32)), .val (.int (4 : Int32)), .val (.ref t3')] [(.int (4 : Int32)), (.ref ta)])) rfl rfl (hb hby d12_28) _ k) ?_
  refine own_by (fun _ k => XS.astore X868.here hx rfl (hb hby d12_29) rfl rfl (l' := #[.val (.ref a1), .val (.ref b821), .val (.ref ta), .val (.int (5 : Int32)), .val (.int (4 : Int32)), .val (.ref t4')]) rfl k) ?_
  show own_Go p e below _ T868 (mkF m 31 #[.val (.ref a1), .val (.ref b821), .val (.ref ta), .val (.int (5 : Int32)), .val (.int (4 : Int32)), .val (.ref t4')] [])
  refine own_by (fun _ k => XS.aloadN X868.here hx rfl (hb hby d12_31) rfl rfl k) ?_
  refine own_by (fun _ k => XS.aload X868.here hx rfl (hb hby d12_32) rfl rfl k) ?_
  have f872 := (f867.keep K3' (ninS ne_t4__b821 nin0))
  obtain ⟨T871, X871, e871, st871⟩ := own_getR X868 hx hZ hown (hw _ (List.mem_of_getElem? (i := 68) rfl)) rfl f872 (g := (mkF m 34 #[.val (.ref a1), .val (.ref b821), .val (.ref ta), .val (.int (5 : Int32)), .val (.int (4 : Int32)), .val (.ref t4')] [(.ref t4'), (.ref b821)])) rfl rfl (hb hby d12_34)
  refine own_by st871 ?_
  show own_Go p e below _ T871 (mkF m 37 #[.val (.ref a1), .val (.ref b821), .val (.ref ta), .val (.int (5 : Int32)), .val (.int (4 : Int32)), .val (.ref t4')] [(.long (own_u (4 : Int32) ky V)), (.ref b821)])
  have f873 := (f862.keep K3')
  have f874 := (f863.keep K3' (ninS ne_a1_b821 nin0))
  have f875 := (f864.keep K3' (ninS ne_t0__b821 nin0))
  have f876 := (f865.keep K3' (ninS ne_t1__b821 nin0))
  have f877 := (f866.keep K3' (ninS ne_t2__b821 nin0))
  have f878 := (f861.keep K3' (ninS ne_t3__b821 nin0))
  obtain ⟨_, T879, L879, X879, ⟨rfl, N879q, K4', L4', G4'⟩, st879⟩ := own_callV X871 hx hZ hown (y := (⟨"com/example/eskew/eskew/server/split/CounterValues$WideSum", "add", "(J)Lcom/example/eskew/eskew/server/split/CounterValues$WideSum;"⟩ : MethodName)) (C := "com/example/eskew/eskew/server/split/CounterValues$WideSum") (hw _ (List.mem_of_getElem? (i := 96) rfl)) (hw _ (List.mem_of_getElem? (i := 97) rfl)) (hw _ (List.mem_of_getElem? (i := 99) rfl)) (hw _ (List.mem_of_getElem? (i := 98) rfl)) (hw _ (List.mem_of_getElem? (i := 13) rfl)) (hw _ (List.mem_of_getElem? (i := 100) rfl)) (by decide) (a := b821) f873 (argsL := [(.long (own_u (4 : Int32) ky V))]) (rest := []) e871 (rm13 l Z a0 hw [] b821 (own_s (4 : Int32) ky V) (own_u (4 : Int32) ky V) T868.heap n0 Z868 og_b821 f873 L3' G3' (own_ov _ _ _)) (g := (mkF m 37 #[.val (.ref a1), .val (.ref b821), .val (.ref ta), .val (.int (5 : Int32)), .val (.int (4 : Int32)), .val (.ref t4')] [(.long (own_u (4 : Int32) ky V)), (.ref b821)])) rfl (by rw [hml]; rfl) (lenOf pd_6 rfl) rfl (W := 0) (by show 2 * 0 + _ ≤ _; exact Nat.le_of_eq rfl) (hb hby d12_37) (by decide) (by decide) (by decide) (by decide)
  have N879 := Fr.app N868 N879q
  refine own_by st879 ?_
  have Z879 : n0 ≤ T879.heap.size := Nat.le_trans Z868 K4'.1
  have K879c := K868c.trans K4' (allS (Or.inr sz_b821) all0)
  rw [own_st (4 : Int32) (5 : Int32) ky V (by decide)] at L4'
  refine own_by (fun _ k => XS.pop X879.here hx rfl (hb hby d12_40) rfl rfl k) ?_
  refine own_by (fun _ k => XS.iinc X879.here hx rfl (hb hby d12_41) rfl (l' := #[.val (.ref a1), .val (.ref b821), .val (.ref ta), .val (.int (5 : Int32)), .val (.int ((4 : Int32) + (1 : Int32))), .val (.ref t4')]) rfl k) ?_
  show own_Go p e below _ T879 (mkF m 44 #[.val (.ref a1), .val (.ref b821), .val (.ref ta), .val (.int (5 : Int32)), .val (.int ((4 : Int32) + (1 : Int32))), .val (.ref t4')] [])
  rw [show (4 : Int32) + (1 : Int32) = (5 : Int32) from by decide]
  refine own_by (fun _ k => XS.goto X879.here hx rfl (pc0 := 44) (pc' := 19) rfl (hb hby d12_44) (by decide) (by decide) k) ?_
  refine own_by (fun _ k => XS.iload X879.here hx rfl (hb hby d12_19) rfl k) ?_
  show own_Go p e below _ T879 (mkF m 21 #[.val (.ref a1), .val (.ref b821), .val (.ref ta), .val (.int (5 : Int32)), .val (.int (5 : Int32)), .val (.ref t4')] [(.int (5 : Int32))])
  refine own_by (fun _ k => XS.iloadN X879.here hx rfl (hb hby d12_21) rfl k) ?_
  refine own_by (fun _ k => XS.icmpYes X879.here hx rfl (pc0 := 22) (pc' := 47) rfl (hb hby d12_22) rfl (flt (by decide : ¬ ((5 : Int32) < (5 : Int32)))).2.1 (by decide) (by decide) k) ?_
  refine own_by (fun _ k => XS.aloadN X879.here hx rfl (hb hby d12_47) rfl rfl k) ?_
  show own_Go p e below _ T879 (mkF m 48 #[.val (.ref a1), .val (.ref b821), .val (.ref ta), .val (.int (5 : Int32)), .val (.int (5 : Int32)), .val (.ref t4')] [(.ref b821)])
  have f880 := (f873.keep K4')
  exact own_retA X879 hx hlk hret rfl rfl (hb hby d12_48) ⟨b821, rfl, N879, K879c, sz_b821, f880, by rw [show V = own_s (5 : Int32) ky V from (if_pos hk.2).symm]; exact L4', G4'⟩ (by decide) (by decide)
def Q_rm17 (Z : State) (a1 : Addr) (h0 : Heap) (n0 : Nat) (v : Option Value) (h : Heap) (L : List Loc) : Prop := v = none ∧ Fr n0 L ∧ h = h0
theorem pn_rm17 : plainFor (⟨"java/lang/Number", "<init>", "()V"⟩ : MethodName) = true := plainFor_of_name (by first | (simp [plainName, overriddenIn, x]; done) | decide +kernel)
theorem d17_0 : decode jdk_18_method_1_code 0 = .ok (.aload_n 0, 1) := by decide +kernel
theorem d17_1 : decode jdk_18_method_1_code 1 = .ok (.invokespecial 1, 3) := by decide +kernel
theorem d17_4 : decode jdk_18_method_1_code 4 = .ok (.return_, 1) := by decide +kernel
set_option maxRecDepth 65536 in
set_option maxHeartbeats 40000000 in
theorem rm17 (l : Launch) (Z : State) (a0 : Array Value) (hw : ∀ d ∈ tables_1, d.before a0 Z = true) (ws : List Jvm.Cond) (a1 : Addr) (h0 : Heap) (n0 : Nat) (Z0 : n0 ≤ h0.size)  :
    own_Met l Z (⟨"java/lang/Number", "<init>", "()V"⟩ : MethodName) jdk_18_method_1_code 1 none ws ({ frames := 1, cells := 0, slots := 0, locals := 12 } : Room) #[(.ref a1)] h0 (Q_rm17 Z a1 h0 n0) := by
  refine own_enter (g0 := fun m => (mkF m 0 #[.val (.ref a1)] [])) pn_rm17 (fun m => by first | (simp [entryFrame, mkF, argsToLocals, Value.category, maxLocals]; done) | rfl) ?_
  intro p e s m below meth c s₁ hx hby hml hown hnm hret hlk hZ X0 e0
  have hml : c.maxLocals = 1 := hml
  have hown : s.vm.findClass "java/lang/Number" = some m.cls := hown
  have N0 := Fr.nil n0
  refine own_by (fun _ k => XS.aloadN X0.here hx rfl (hb hby d17_0) rfl rfl k) ?_
  obtain ⟨T881, X881, e881, st881⟩ := initO X0 hx hZ hown (hw _ (List.mem_of_getElem? (i := 127) rfl)) (hw _ (List.mem_of_getElem? (i := 9) rfl)) (hw _ (List.mem_of_getElem? (i := 10) rfl)) e0 (g := (mkF m 1 #[.val (.ref a1)] [(.ref a1)])) rfl (by rw [hml]; rfl) rfl (hb hby d17_1) (by decide) (W := 0) (by show 2 * 0 + _ ≤ _; exact Nat.le_of_eq rfl) (by decide)
  refine own_by st881 ?_
  show own_Go p e below _ T881 (mkF m 4 #[.val (.ref a1)] [])
  exact own_ret0 X881 hx hlk hret (hb hby d17_4) (by first | exact ⟨rfl, N0, rfl⟩ | (rw [e881]; exact ⟨rfl, N0, rfl⟩)) (by decide) (by decide)
def Q_rm16 (Z : State) (a1 : Addr) (q2 : Int64) (h0 : Heap) (n0 : Nat) (v : Option Value) (h : Heap) (L : List Loc) : Prop := v = none ∧ Fr n0 L ∧ Keep h0 h [a1] ∧ Fld Z h a1 "java/lang/Long" "value" "J" (.long q2)
theorem pn_rm16 : plainFor (⟨"java/lang/Long", "<init>", "(J)V"⟩ : MethodName) = true := plainFor_of_name (by first | (simp [plainName, overriddenIn, x]; done) | decide +kernel)
theorem d16_0 : decode jdk_35_method_26_code 0 = .ok (.aload_n 0, 1) := by decide +kernel
theorem d16_1 : decode jdk_35_method_26_code 1 = .ok (.invokespecial 270, 3) := by decide +kernel
theorem d16_4 : decode jdk_35_method_26_code 4 = .ok (.aload_n 0, 1) := by decide +kernel
theorem d16_5 : decode jdk_35_method_26_code 5 = .ok (.lload_n 1, 1) := by decide +kernel
theorem d16_6 : decode jdk_35_method_26_code 6 = .ok (.putfield 273, 3) := by decide +kernel
theorem d16_9 : decode jdk_35_method_26_code 9 = .ok (.return_, 1) := by decide +kernel
set_option maxRecDepth 65536 in
set_option maxHeartbeats 40000000 in
theorem rm16 (l : Launch) (Z : State) (a0 : Array Value) (hw : ∀ d ∈ tables_1, d.before a0 Z = true) (ws : List Jvm.Cond) (a1 : Addr) (q2 : Int64) (h0 : Heap) (n0 : Nat) (Z0 : n0 ≤ h0.size) (g1 : n0 ≤ a1) (E1 : Exa Z h0 a1 "java/lang/Long") (F1 : Fld Z h0 a1 "java/lang/Long" "value" "J" (.long 0)) :
    own_Met l Z (⟨"java/lang/Long", "<init>", "(J)V"⟩ : MethodName) jdk_35_method_26_code 3 none ws ({ frames := 2, cells := 0, slots := 0, locals := 24 } : Room) #[(.ref a1), (.long q2)] h0 (Q_rm16 Z a1 q2 h0 n0) := by
  refine own_enter (g0 := fun m => (mkF m 0 #[.val (.ref a1), .val (.long q2), .second] [])) pn_rm16 (fun m => by first | (simp [entryFrame, mkF, argsToLocals, Value.category, maxLocals]; done) | rfl) ?_
  intro p e s m below meth c s₁ hx hby hml hown hnm hret hlk hZ X0 e0
  have hml : c.maxLocals = 3 := hml
  have hown : s.vm.findClass "java/lang/Long" = some m.cls := hown
  have N0 := Fr.nil n0
  have K0 := Keep.refl h0 [a1]
  refine own_by (fun _ k => XS.aloadN X0.here hx rfl (hb hby d16_0) rfl rfl k) ?_
  obtain ⟨_, T882, L882, X882, ⟨rfl, N882q, e882⟩, st882⟩ := own_callI X0 hx hZ hown (y := (⟨"java/lang/Number", "<init>", "()V"⟩ : MethodName)) rfl (hw _ (List.mem_of_getElem? (i := 121) rfl)) (hw _ (List.mem_of_getElem? (i := 122) rfl)) (hw _ (List.mem_of_getElem? (i := 125) rfl)) (hw _ (List.mem_of_getElem? (i := 126) rfl)) (by decide) (a := a1) (argsL := []) (rest := []) e0 (rm17 l Z a0 hw [] a1 h0 n0 Z0) (g := (mkF m 1 #[.val (.ref a1), .val (.long q2), .second] [(.ref a1)])) rfl (by rw [hml]; rfl) (lenOf pd_0 rfl) rfl (W := 0) (by show 2 * 0 + _ ≤ _; exact Nat.le_of_eq rfl) (hb hby d16_1) (by decide) (by decide) (by decide) (by decide)
  have N882 := Fr.app N0 N882q
  refine own_by st882 ?_
  show own_Go p e below _ T882 (mkF m 4 #[.val (.ref a1), .val (.long q2), .second] [])
  refine own_by (fun _ k => XS.aloadN X882.here hx rfl (hb hby d16_4) rfl rfl k) ?_
  refine own_by (fun _ k => XS.lloadN X882.here hx rfl (hb hby d16_5) rfl k) ?_
  obtain ⟨T883, h883, X883, e883, W883, st883⟩ := putF X882 hx hZ hown (host := "") (Or.inl (hw _ (List.mem_of_getElem? (i := 128) rfl))) Via.refl e882 F1 E1 (Or.inr ⟨(hw _ (List.mem_of_getElem? (i := 129) rfl)), rfl, hnm⟩) (hw _ (List.mem_of_getElem? (i := 116) rfl)) (ty := .long) (by decide) rfl rfl (g := (mkF m 6 #[.val (.ref a1), .val (.long q2), .second] [(.long q2), (.ref a1)])) rfl rfl (hb hby d16_6)
  refine own_by st883 ?_
  have N883 := Fr.snoc X883 N882 g1
  have fw883 := F1.same W883
  have K884 := K0.wr W883 (Or.inl (List.mem_of_getElem? (i := 0) rfl))
  have Z883 : n0 ≤ h883.size := Nat.le_trans Z0 (Keep.of_wr W883).1
  show own_Go p e below _ T883 (mkF m 9 #[.val (.ref a1), .val (.long q2), .second] [])
  exact own_ret0 X883 hx hlk hret (hb hby d16_9) (by first | exact ⟨rfl, N883, K884, fw883⟩ | (rw [e883]; exact ⟨rfl, N883, K884, fw883⟩)) (by decide) (by decide)
theorem own_small (w : Int64) (h1 : ¬ w < -128) (h2 : ¬ 127 < w) : w.toInt32.toInt64 = w := by
  have g1 : -128 ≤ w.toInt := by rw [Int64.lt_iff_toInt_lt] at h1; exact Int.not_lt.mp h1
  have g2 : w.toInt ≤ 127 := by rw [Int64.lt_iff_toInt_lt] at h2; exact Int.not_lt.mp h2
  apply Int64.toInt_inj.mp
  rw [Int32.toInt_toInt64, Int64.toInt_toInt32]
  simp [Int.bmod]
  omega
def own_bx (j : Int32) : Value := .long (j - 128).toInt64
theorem own_bxv (w : Int64) (h1 : ¬ w < -128) (h2 : ¬ 127 < w) : own_bx (w.toInt32 + 128) = .long w := by
  unfold own_bx; rw [Int32.add_sub_cancel, own_small w h1 h2]
def Q_rm15 (Z : State) (ca : Addr) (cc : Cell) (q1 : Int64) (h0 : Heap) (n0 : Nat) (v : Option Value) (h : Heap) (L : List Loc) : Prop := ∃ r, v = some (.ref r) ∧ Fr n0 L ∧ Keep h0 h [] ∧ Exa Z h r "java/lang/Long" ∧ Fld Z h r "java/lang/Long" "value" "J" (.long q1)
theorem pn_rm15 : plainFor (⟨"java/lang/Long", "valueOf", "(J)Ljava/lang/Long;"⟩ : MethodName) = true := plainFor_of_name (by first | (simp [plainName, overriddenIn, x]; done) | decide +kernel)
theorem d15_0 : decode jdk_35_method_24_code 0 = .ok (.sipush 128, 3) := by decide +kernel
theorem d15_3 : decode jdk_35_method_24_code 3 = .ok (.istore_n 2, 1) := by decide +kernel
theorem d15_4 : decode jdk_35_method_24_code 4 = .ok (.lload_n 0, 1) := by decide +kernel
theorem d15_5 : decode jdk_35_method_24_code 5 = .ok (.ldc2_w 230, 3) := by decide +kernel
theorem d15_8 : decode jdk_35_method_24_code 8 = .ok (.lcmp, 1) := by decide +kernel
theorem d15_9 : decode jdk_35_method_24_code 9 = .ok (.ifCond .lt 22, 3) := by decide +kernel
theorem d15_31 : decode jdk_35_method_24_code 31 = .ok (.new 1, 3) := by decide +kernel
theorem d15_34 : decode jdk_35_method_24_code 34 = .ok (.dup, 1) := by decide +kernel
theorem d15_35 : decode jdk_35_method_24_code 35 = .ok (.lload_n 0, 1) := by decide +kernel
theorem d15_36 : decode jdk_35_method_24_code 36 = .ok (.invokespecial 240, 3) := by decide +kernel
theorem d15_39 : decode jdk_35_method_24_code 39 = .ok (.areturn, 1) := by decide +kernel
theorem d15_12 : decode jdk_35_method_24_code 12 = .ok (.lload_n 0, 1) := by decide +kernel
theorem d15_13 : decode jdk_35_method_24_code 13 = .ok (.ldc2_w 232, 3) := by decide +kernel
theorem d15_16 : decode jdk_35_method_24_code 16 = .ok (.lcmp, 1) := by decide +kernel
theorem d15_17 : decode jdk_35_method_24_code 17 = .ok (.ifCond .gt 14, 3) := by decide +kernel
theorem d15_20 : decode jdk_35_method_24_code 20 = .ok (.getstatic 234, 3) := by decide +kernel
theorem d15_23 : decode jdk_35_method_24_code 23 = .ok (.lload_n 0, 1) := by decide +kernel
theorem d15_24 : decode jdk_35_method_24_code 24 = .ok (.l2i, 1) := by decide +kernel
theorem d15_25 : decode jdk_35_method_24_code 25 = .ok (.sipush 128, 3) := by decide +kernel
theorem d15_28 : decode jdk_35_method_24_code 28 = .ok (.iadd, 1) := by decide +kernel
theorem d15_29 : decode jdk_35_method_24_code 29 = .ok (.aaload, 1) := by decide +kernel
theorem d15_30 : decode jdk_35_method_24_code 30 = .ok (.areturn, 1) := by decide +kernel
set_option maxRecDepth 65536 in
set_option maxHeartbeats 40000000 in
theorem rm15 (l : Launch) (Z : State) (a0 : Array Value) (hw : ∀ d ∈ tables_1, d.before a0 Z = true) (ws : List Jvm.Cond) (ca : Addr) (cc : Cell) (q1 : Int64) (h0 : Heap) (n0 : Nat) (Z0 : n0 ≤ h0.size) (HB : Bxs Z ca cc "java/lang/Long" "J" (256 : Int32) own_bx) (HS : Sta Z Z.heap "java/lang/Long$LongCache" "cache" "[Ljava/lang/Long;" (.ref ca)) (HO : Old Z n0 h0) :
    own_Met l Z (⟨"java/lang/Long", "valueOf", "(J)Ljava/lang/Long;"⟩ : MethodName) jdk_35_method_24_code 3 (some (.object "java/lang/Long")) ws ({ frames := 3, cells := 1, slots := 1, locals := 40 } : Room) #[(.long q1)] h0 (Q_rm15 Z ca cc q1 h0 n0) := by
  refine own_enter (g0 := fun m => (mkF m 0 #[.val (.long q1), .second, .unset] [])) pn_rm15 (fun m => by first | (simp [entryFrame, mkF, argsToLocals, Value.category, maxLocals]; done) | rfl) ?_
  intro p e s m below meth c s₁ hx hby hml hown hnm hret hlk hZ X0 e0
  have hml : c.maxLocals = 3 := hml
  have hown : s.vm.findClass "java/lang/Long" = some m.cls := hown
  have N0 := Fr.nil n0
  have K0 := Keep.refl h0 []
  refine own_by (fun _ k => XS.sipush X0.here hx rfl (hb hby d15_0) k) ?_
  refine own_by (fun _ k => XS.istoreN X0.here hx rfl (hb hby d15_3) rfl (l' := #[.val (.long q1), .second, .val (.int (128 : Int32))]) rfl k) ?_
  show own_Go p e below _ s₁ (mkF m 4 #[.val (.long q1), .second, .val (.int (128 : Int32))] [])
  refine own_by (fun _ k => XS.lloadN X0.here hx rfl (hb hby d15_4) rfl k) ?_
  refine own_by (fun _ k => Stand.ldc2J X0 hx hown (mvT hZ (hw _ (List.mem_of_getElem? (i := 114) rfl))) rfl (hb hby d15_5) k) ?_
  refine own_by (fun _ k => XS.lcmp X0.here hx rfl (hb hby d15_8) rfl k) ?_
  show own_Go p e below _ s₁ (mkF m 9 #[.val (.long q1), .second, .val (.int (128 : Int32))] [(.int (lcmpW q1 (-128 : Int64)))])
  by_cases h1 : q1 < -128
  · refine own_by (fun _ k => XS.ifYes X0.here hx rfl (pc0 := 9) (pc' := 31) rfl (hb hby d15_9) rfl ((if0 _ _).trans (tlt ((lw_lt _ _).mpr h1 : (lcmpW q1 (-128 : Int64)) < (0 : Int32))).1) (by decide) (by decide) k) ?_
    obtain ⟨T885, h885, X885, e885, E885, A885, D885, -, st885⟩ := newO X0 hx hZ hown (hw _ (List.mem_of_getElem? (i := 115) rfl)) (hw _ (List.mem_of_getElem? (i := 116) rfl)) (hw _ (List.mem_of_getElem? (i := 112) rfl)) e0 (g := (mkF m 31 #[.val (.long q1), .second, .val (.int (128 : Int32))] [])) rfl (hb hby d15_31) (by decide) (by decide)
    obtain ⟨b885, g885⟩ : ∃ zq, zq = h0.size := ⟨_, rfl⟩
    rw [← g885] at A885 D885 st885
    have og_b885 : n0 ≤ b885 := Nat.le_trans Z0 (Nat.le_of_eq g885.symm)
    have sz_b885 : h0.size ≤ b885 := Nat.le_trans K0.1 (Nat.le_of_eq g885.symm)
    have Z885 : n0 ≤ h885.size := Nat.le_trans Z0 E885.1
    have K886 := K0.ext E885
    have F_value_b885 : Fld Z h885 b885 "java/lang/Long" "value" "J" (.long (0 : Int64)) := D885 (Or.inr (hw _ (List.mem_of_getElem? (i := 129) rfl))) (ty := .long) (by decide)
    refine own_by st885 ?_
    refine own_by (fun _ k => XS.dup X885.here hx rfl (hb hby d15_34) rfl rfl k) ?_
    show own_Go p e below _ T885 (mkF m 35 #[.val (.long q1), .second, .val (.int (128 : Int32))] [(.ref b885), (.ref b885)])
    refine own_by (fun _ k => XS.lloadN X885.here hx rfl (hb hby d15_35) rfl k) ?_
    obtain ⟨_, T887, L887, X887, ⟨rfl, N887q, K1', F1'⟩, st887⟩ := own_callI X885 hx hZ hown (y := (⟨"java/lang/Long", "<init>", "(J)V"⟩ : MethodName)) rfl (hw _ (List.mem_of_getElem? (i := 117) rfl)) (hw _ (List.mem_of_getElem? (i := 118) rfl)) (hw _ (List.mem_of_getElem? (i := 112) rfl)) (hw _ (List.mem_of_getElem? (i := 120) rfl)) (by decide) (a := b885) (argsL := [(.long q1)]) (rest := [(.ref b885)]) e885 (rm16 l Z a0 hw [] b885 q1 h885 n0 Z885 og_b885 A885 F_value_b885) (g := (mkF m 36 #[.val (.long q1), .second, .val (.int (128 : Int32))] [(.long q1), (.ref b885), (.ref b885)])) rfl (by rw [hml]; rfl) (lenOf pd_1 rfl) rfl (W := 1) (by show 2 * 0 + _ ≤ _; exact Nat.le_of_eq rfl) (hb hby d15_36) (by decide) (by decide) (by decide) (by decide)
    have N887 := Fr.app N0 N887q
    refine own_by st887 ?_
    have Z887 : n0 ≤ T887.heap.size := Nat.le_trans Z885 K1'.1
    have K887c := K886.trans K1' (allS (Or.inr sz_b885) all0)
    have f888 := (A885.keep K1')
    exact own_retA X887 hx hlk hret rfl rfl (hb hby d15_39) ⟨b885, rfl, N887, K887c, f888, F1'⟩ (by decide) (by decide)
  · refine own_by (fun _ k => XS.ifNo X0.here hx rfl (hb hby d15_9) rfl ((if0 _ _).trans (flt (fun q => h1 ((lw_lt _ _).mp q) : ¬ ((lcmpW q1 (-128 : Int64)) < (0 : Int32)))).1) k) ?_
    refine own_by (fun _ k => XS.lloadN X0.here hx rfl (hb hby d15_12) rfl k) ?_
    refine own_by (fun _ k => Stand.ldc2J X0 hx hown (mvT hZ (hw _ (List.mem_of_getElem? (i := 148) rfl))) rfl (hb hby d15_13) k) ?_
    show own_Go p e below _ s₁ (mkF m 16 #[.val (.long q1), .second, .val (.int (128 : Int32))] [(.long (127 : Int64)), (.long q1)])
    refine own_by (fun _ k => XS.lcmp X0.here hx rfl (hb hby d15_16) rfl k) ?_
    by_cases h2 : 127 < q1
    · refine own_by (fun _ k => XS.ifYes X0.here hx rfl (pc0 := 17) (pc' := 31) rfl (hb hby d15_17) rfl ((if0 _ _).trans (tlt ((lw_gt _ _).mpr h2 : (0 : Int32) < (lcmpW q1 (127 : Int64)))).2.2.1) (by decide) (by decide) k) ?_
      obtain ⟨T889, h889, X889, e889, E889, A889, D889, -, st889⟩ := newO X0 hx hZ hown (hw _ (List.mem_of_getElem? (i := 115) rfl)) (hw _ (List.mem_of_getElem? (i := 116) rfl)) (hw _ (List.mem_of_getElem? (i := 112) rfl)) e0 (g := (mkF m 31 #[.val (.long q1), .second, .val (.int (128 : Int32))] [])) rfl (hb hby d15_31) (by decide) (by decide)
      obtain ⟨b889, g889⟩ : ∃ zq, zq = h0.size := ⟨_, rfl⟩
      rw [← g889] at A889 D889 st889
      have og_b889 : n0 ≤ b889 := Nat.le_trans Z0 (Nat.le_of_eq g889.symm)
      have sz_b889 : h0.size ≤ b889 := Nat.le_trans K0.1 (Nat.le_of_eq g889.symm)
      have Z889 : n0 ≤ h889.size := Nat.le_trans Z0 E889.1
      have K890 := K0.ext E889
      have F_value_b889 : Fld Z h889 b889 "java/lang/Long" "value" "J" (.long (0 : Int64)) := D889 (Or.inr (hw _ (List.mem_of_getElem? (i := 129) rfl))) (ty := .long) (by decide)
      refine own_by st889 ?_
      show own_Go p e below _ T889 (mkF m 34 #[.val (.long q1), .second, .val (.int (128 : Int32))] [(.ref b889)])
      refine own_by (fun _ k => XS.dup X889.here hx rfl (hb hby d15_34) rfl rfl k) ?_
      refine own_by (fun _ k => XS.lloadN X889.here hx rfl (hb hby d15_35) rfl k) ?_
      obtain ⟨_, T891, L891, X891, ⟨rfl, N891q, K1', F1'⟩, st891⟩ := own_callI X889 hx hZ hown (y := (⟨"java/lang/Long", "<init>", "(J)V"⟩ : MethodName)) rfl (hw _ (List.mem_of_getElem? (i := 117) rfl)) (hw _ (List.mem_of_getElem? (i := 118) rfl)) (hw _ (List.mem_of_getElem? (i := 112) rfl)) (hw _ (List.mem_of_getElem? (i := 120) rfl)) (by decide) (a := b889) (argsL := [(.long q1)]) (rest := [(.ref b889)]) e889 (rm16 l Z a0 hw [] b889 q1 h889 n0 Z889 og_b889 A889 F_value_b889) (g := (mkF m 36 #[.val (.long q1), .second, .val (.int (128 : Int32))] [(.long q1), (.ref b889), (.ref b889)])) rfl (by rw [hml]; rfl) (lenOf pd_1 rfl) rfl (W := 1) (by show 2 * 0 + _ ≤ _; exact Nat.le_of_eq rfl) (hb hby d15_36) (by decide) (by decide) (by decide) (by decide)
      have N891 := Fr.app N0 N891q
      refine own_by st891 ?_
      show own_Go p e below _ T891 (mkF m 39 #[.val (.long q1), .second, .val (.int (128 : Int32))] [(.ref b889)])
      have Z891 : n0 ≤ T891.heap.size := Nat.le_trans Z889 K1'.1
      have K891c := K890.trans K1' (allS (Or.inr sz_b889) all0)
      have f892 := (A889.keep K1')
      exact own_retA X891 hx hlk hret rfl rfl (hb hby d15_39) ⟨b889, rfl, N891, K891c, f892, F1'⟩ (by decide) (by decide)
    · refine own_by (fun _ k => XS.ifNo X0.here hx rfl (hb hby d15_17) rfl ((if0 _ _).trans (flt (fun q => h2 ((lw_gt _ _).mp q) : ¬ ((0 : Int32) < (lcmpW q1 (127 : Int64))))).2.2.1) k) ?_
      have HS1 := HS.ext HO.2
      obtain ⟨T893, X893, e893, st893⟩ := getS2 X0 hx hZ hown (host := "") (Or.inl (hw _ (List.mem_of_getElem? (i := 149) rfl))) Via.refl e0 HS1 (g := (mkF m 20 #[.val (.long q1), .second, .val (.int (128 : Int32))] [])) rfl (hb hby d15_20)
      refine own_by st893 ?_
      show own_Go p e below _ T893 (mkF m 23 #[.val (.long q1), .second, .val (.int (128 : Int32))] [(.ref ca)])
      refine own_by (fun _ k => XS.lloadN X893.here hx rfl (hb hby d15_23) rfl k) ?_
      refine own_by (fun _ k => XS.l2i X893.here hx rfl (hb hby d15_24) rfl k) ?_
      refine own_by (fun _ k => XS.sipush X893.here hx rfl (hb hby d15_25) k) ?_
      show own_Go p e below _ T893 (mkF m 28 #[.val (.long q1), .second, .val (.int (128 : Int32))] [(.int (128 : Int32)), (.int (q1.toInt32)), (.ref ca)])
      refine own_by (fun _ k => XS.iadd X893.here hx rfl (hb hby d15_28) rfl k) ?_
      have AR := HB.1.ext HO.2
      have hin : ¬ ((q1.toInt32 + (128 : Int32)) < 0 ∨ cc.slots.size ≤ (q1.toInt32 + (128 : Int32)).toNatClampNeg) := by rw [HB.2.1]; exact (Jvm.Free.LongBox.place_okL q1 h1 h2).1
      obtain ⟨b0, hat0, E0', F0'⟩ := HB.2.2.2 _ hin
      rw [own_bxv q1 h1 h2] at F0'
      refine own_by (fun _ k => X893.aaload hx (j := ((q1.toInt32) + (128 : Int32))) (v := .ref b0) (by rw [e893]; exact AR.1) (State.isArrayOf_alike hZ.alike AR.2.1) rfl AR.2.2 hin hat0 (g := (mkF m 29 #[.val (.long q1), .second, .val (.int (128 : Int32))] [(.int ((q1.toInt32) + (128 : Int32))), (.ref ca)])) rfl rfl (hb hby d15_29) _ k) ?_
      exact own_retA X893 hx hlk hret rfl rfl (hb hby d15_30) (by first | exact ⟨b0, rfl, N0, K0, E0'.ext HO.2, F0'.ext HO.2⟩ | (rw [e893]; exact ⟨b0, rfl, N0, K0, E0'.ext HO.2, F0'.ext HO.2⟩)) (by decide) (by decide)
def Q_rm18 (Z : State) (a1 : Addr) (q2 : Int64) (h0 : Heap) (n0 : Nat) (v : Option Value) (h : Heap) (L : List Loc) : Prop := v = some (.long q2) ∧ Fr n0 L ∧ h = h0
theorem pn_rm18 : plainFor (⟨"java/lang/Long", "longValue", "()J"⟩ : MethodName) = true := plainFor_of_name (by first | (simp [plainName, overriddenIn, x]; done) | decide +kernel)
theorem d18_0 : decode jdk_35_method_31_code 0 = .ok (.aload_n 0, 1) := by decide +kernel
theorem d18_1 : decode jdk_35_method_31_code 1 = .ok (.getfield 273, 3) := by decide +kernel
theorem d18_4 : decode jdk_35_method_31_code 4 = .ok (.lreturn, 1) := by decide +kernel
set_option maxRecDepth 65536 in
set_option maxHeartbeats 40000000 in
theorem rm18 (l : Launch) (Z : State) (a0 : Array Value) (hw : ∀ d ∈ tables_1, d.before a0 Z = true) (ws : List Jvm.Cond) (a1 : Addr) (q2 : Int64) (h0 : Heap) (n0 : Nat) (Z0 : n0 ≤ h0.size) (F1 : Fld Z h0 a1 "java/lang/Long" "value" "J" (.long q2)) :
    own_Met l Z (⟨"java/lang/Long", "longValue", "()J"⟩ : MethodName) jdk_35_method_31_code 1 (some .long) ws ({ frames := 0, cells := 0, slots := 0, locals := 0 } : Room) #[(.ref a1)] h0 (Q_rm18 Z a1 q2 h0 n0) := by
  refine own_enter (g0 := fun m => (mkF m 0 #[.val (.ref a1)] [])) pn_rm18 (fun m => by first | (simp [entryFrame, mkF, argsToLocals, Value.category, maxLocals]; done) | rfl) ?_
  intro p e s m below meth c s₁ hx hby hml hown hnm hret hlk hZ X0 e0
  have hml : c.maxLocals = 1 := hml
  have hown : s.vm.findClass "java/lang/Long" = some m.cls := hown
  have N0 := Fr.nil n0
  refine own_by (fun _ k => XS.aloadN X0.here hx rfl (hb hby d18_0) rfl rfl k) ?_
  obtain ⟨T894, X894, e894, st894⟩ := getF X0 hx hZ hown (host := "") (Or.inl (hw _ (List.mem_of_getElem? (i := 128) rfl))) Via.refl e0 F1 (g := (mkF m 1 #[.val (.ref a1)] [(.ref a1)])) rfl rfl (hb hby d18_1)
  refine own_by st894 ?_
  show own_Go p e below _ T894 (mkF m 4 #[.val (.ref a1)] [(.long q2)])
  exact own_retJ X894 hx hlk hret  (hb hby d18_4) (by first | exact ⟨rfl, N0, rfl⟩ | (rw [e894]; exact ⟨rfl, N0, rfl⟩)) (by decide) (by decide)
def Q_rm14 (Z : State) (ca : Addr) (cc : Cell) (a1 : Addr) (V : Int64) (h0 : Heap) (n0 : Nat) (v : Option Value) (h : Heap) (L : List Loc) : Prop := ∃ r, v = some (.ref r) ∧ Fr n0 L ∧ Keep h0 h [] ∧ Exa Z h r "java/lang/Long" ∧ Fld Z h r "java/lang/Long" "value" "J" (.long V)
theorem pn_rm14 : plainFor (⟨"com/example/eskew/eskew/server/split/CounterValues$WideSum", "value", "()Ljava/lang/Long;"⟩ : MethodName) = true := plainFor_of_name (by first | (simp [plainName, overriddenIn, x]; done) | decide +kernel)
theorem d14_0 : decode prog_36_method_5_code 0 = .ok (.aload_n 0, 1) := by decide +kernel
theorem d14_1 : decode prog_36_method_5_code 1 = .ok (.getfield 13, 3) := by decide +kernel
theorem d14_4 : decode prog_36_method_5_code 4 = .ok (.lconst 0, 1) := by decide +kernel
theorem d14_5 : decode prog_36_method_5_code 5 = .ok (.lcmp, 1) := by decide +kernel
theorem d14_6 : decode prog_36_method_5_code 6 = .ok (.ifCond .ne 13, 3) := by decide +kernel
theorem d14_9 : decode prog_36_method_5_code 9 = .ok (.aload_n 0, 1) := by decide +kernel
theorem d14_10 : decode prog_36_method_5_code 10 = .ok (.getfield 7, 3) := by decide +kernel
theorem pd_7 : parseMethodDescriptor "(J)Ljava/lang/Long;" = some ⟨[.long], some (.object "java/lang/Long")⟩ := by decide +kernel
theorem d14_13 : decode prog_36_method_5_code 13 = .ok (.invokestatic 22, 3) := by decide +kernel
theorem d14_16 : decode prog_36_method_5_code 16 = .ok (.goto 4, 3) := by decide +kernel
theorem d14_20 : decode prog_36_method_5_code 20 = .ok (.areturn, 1) := by decide +kernel
set_option maxRecDepth 65536 in
set_option maxHeartbeats 40000000 in
theorem rm14 (l : Launch) (Z : State) (a0 : Array Value) (hw : ∀ d ∈ tables_1, d.before a0 Z = true) (ws : List Jvm.Cond) (ca : Addr) (cc : Cell) (a1 : Addr) (V : Int64) (h0 : Heap) (n0 : Nat) (Z0 : n0 ≤ h0.size) (HB : Bxs Z ca cc "java/lang/Long" "J" (256 : Int32) own_bx) (HS : Sta Z Z.heap "java/lang/Long$LongCache" "cache" "[Ljava/lang/Long;" (.ref ca)) (HO : Old Z n0 h0) (Fl : Fld Z h0 a1 "com/example/eskew/eskew/server/split/CounterValues$WideSum" "low" "J" (.long V)) (Fh : Fld Z h0 a1 "com/example/eskew/eskew/server/split/CounterValues$WideSum" "high" "J" (.long 0)) :
    own_Met l Z (⟨"com/example/eskew/eskew/server/split/CounterValues$WideSum", "value", "()Ljava/lang/Long;"⟩ : MethodName) prog_36_method_5_code 1 (some (.object "java/lang/Long")) ws ({ frames := 4, cells := 1, slots := 1, locals := 56 } : Room) #[(.ref a1)] h0 (Q_rm14 Z ca cc a1 V h0 n0) := by
  refine own_enter (g0 := fun m => (mkF m 0 #[.val (.ref a1)] [])) pn_rm14 (fun m => by first | (simp [entryFrame, mkF, argsToLocals, Value.category, maxLocals]; done) | rfl) ?_
  intro p e s m below meth c s₁ hx hby hml hown hnm hret hlk hZ X0 e0
  have hml : c.maxLocals = 1 := hml
  have hown : s.vm.findClass "com/example/eskew/eskew/server/split/CounterValues$WideSum" = some m.cls := hown
  have N0 := Fr.nil n0
  have K0 := Keep.refl h0 []
  refine own_by (fun _ k => XS.aloadN X0.here hx rfl (hb hby d14_0) rfl rfl k) ?_
  obtain ⟨T895, X895, e895, st895⟩ := getF X0 hx hZ hown (host := "") (Or.inl (hw _ (List.mem_of_getElem? (i := 108) rfl))) Via.refl e0 Fh (g := (mkF m 1 #[.val (.ref a1)] [(.ref a1)])) rfl rfl (hb hby d14_1)
  refine own_by st895 ?_
  show own_Go p e below _ T895 (mkF m 4 #[.val (.ref a1)] [(.long (0 : Int64))])
  refine own_by (fun _ k => XS.lconst X895.here hx rfl (hb hby d14_4) k) ?_
  refine own_by (fun _ k => XS.lcmp X895.here hx rfl (hb hby d14_5) rfl k) ?_
  refine own_by (fun _ k => XS.ifNo X895.here hx rfl (hb hby d14_6) rfl ((if0 _ _).trans (teq ((lw_eq _ _).mpr rfl : (lcmpW (0 : Int64) (0 : Int64)) = (0 : Int32))).2) k) ?_
  show own_Go p e below _ T895 (mkF m 9 #[.val (.ref a1)] [])
  refine own_by (fun _ k => XS.aloadN X895.here hx rfl (hb hby d14_9) rfl rfl k) ?_
  obtain ⟨T896, X896, e896, st896⟩ := getF X895 hx hZ hown (host := "") (Or.inl (hw _ (List.mem_of_getElem? (i := 101) rfl))) Via.refl e895 Fl (g := (mkF m 10 #[.val (.ref a1)] [(.ref a1)])) rfl rfl (hb hby d14_10)
  refine own_by st896 ?_
  obtain ⟨_, T897, L897, X897, ⟨r', rfl, N897q, K1', E1', F1'⟩, st897⟩ := own_callS X896 hx hZ hown (y := (⟨"java/lang/Long", "valueOf", "(J)Ljava/lang/Long;"⟩ : MethodName)) (hw _ (List.mem_of_getElem? (i := 110) rfl)) (hw _ (List.mem_of_getElem? (i := 111) rfl)) (hw _ (List.mem_of_getElem? (i := 112) rfl)) (hw _ (List.mem_of_getElem? (i := 113) rfl)) (by decide) (argsL := [(.long V)]) (rest := []) e896 (rm15 l Z a0 hw [] ca cc V h0 n0 Z0 HB HS HO) (g := (mkF m 13 #[.val (.ref a1)] [(.long V)])) rfl (by rw [hml]; rfl) (lenOf pd_7 rfl) rfl (W := 0) (by show 2 * 0 + _ ≤ _; exact Nat.le_of_eq rfl) (hb hby d14_13) (by decide) (by decide) (by decide) (by decide)
  have N897 := Fr.app N0 N897q
  refine own_by st897 ?_
  show own_Go p e below _ T897 (mkF m 16 #[.val (.ref a1)] [(.ref r')])
  have Z897 : n0 ≤ T897.heap.size := Nat.le_trans Z0 K1'.1
  have K897c := K0.trans K1' all0
  refine own_by (fun _ k => XS.goto X897.here hx rfl (pc0 := 16) (pc' := 20) rfl (hb hby d14_16) (by decide) (by decide) k) ?_
  exact own_retA X897 hx hlk hret rfl rfl (hb hby d14_20) ⟨r', rfl, N897, K897c, E1', F1'⟩ (by decide) (by decide)
def Q_rm11_2 (Z : State) (ca : Addr) (cc : Cell) (a1 ta : Addr) (kt : ClassId) (vs : List Value) (ky : Int32) (V : Int64) (h0 : Heap) (n0 : Nat) (v : Option Value) (h : Heap) (L : List Loc) : Prop := ∃ r, v = some (.ref r) ∧ Fr n0 L ∧ Keep h0 h [] ∧ Exa Z h r "java/lang/Long" ∧ Fld Z h r "java/lang/Long" "value" "J" (.long V)
theorem pn_rm11_2 : plainFor (⟨"com/example/eskew/eskew/server/split/CounterValues", "total", "()Ljava/lang/Long;"⟩ : MethodName) = true := plainFor_of_name (by first | (simp [plainName, overriddenIn, x]; done) | decide +kernel)
theorem d11_0 : decode prog_33_method_16_code 0 = .ok (.aload_n 0, 1) := by decide +kernel
theorem pd_8 : parseMethodDescriptor "()Lcom/example/eskew/eskew/server/split/CounterValues$WideSum;" = some ⟨[], some (.object "com/example/eskew/eskew/server/split/CounterValues$WideSum")⟩ := by decide +kernel
theorem d11_1 : decode prog_33_method_16_code 1 = .ok (.invokevirtual 72, 3) := by decide +kernel
theorem pd_9 : parseMethodDescriptor "()Ljava/lang/Long;" = some ⟨[], some (.object "java/lang/Long")⟩ := by decide +kernel
theorem d11_4 : decode prog_33_method_16_code 4 = .ok (.invokevirtual 86, 3) := by decide +kernel
theorem d11_7 : decode prog_33_method_16_code 7 = .ok (.areturn, 1) := by decide +kernel
set_option maxRecDepth 65536 in
set_option maxHeartbeats 40000000 in
theorem rm11_2 (l : Launch) (Z : State) (a0 : Array Value) (hw : ∀ d ∈ tables_1, d.before a0 Z = true) (ws : List Jvm.Cond) (ca : Addr) (cc : Cell) (a1 ta : Addr) (kt : ClassId) (vs : List Value) (ky : Int32) (V : Int64) (h0 : Heap) (n0 : Nat) (Z0 : n0 ≤ h0.size) (HB : Bxs Z ca cc "java/lang/Long" "J" (256 : Int32) own_bx) (HS : Sta Z Z.heap "java/lang/Long$LongCache" "cache" "[Ljava/lang/Long;" (.ref ca)) (HO : Old Z n0 h0) (E1 : Exa Z h0 a1 "com/example/eskew/eskew/server/split/CounterValues") (hk : ¬ ky < 0 ∧ ky < (2 : Int32)) (Fa : Fld Z h0 a1 "com/example/eskew/eskew/server/split/CounterValues" "tallies" "[Lcom/example/eskew/eskew/server/split/CounterValues$Tally;" (.ref ta)) (Va : Arv Z h0 ta kt (.object "com/example/eskew/eskew/server/split/CounterValues$Tally") (2 : Int32) vs .null) (HV : own_Vals Z h0 vs (2 : Int32) ky V) :
    own_Met l Z (⟨"com/example/eskew/eskew/server/split/CounterValues", "total", "()Ljava/lang/Long;"⟩ : MethodName) prog_33_method_16_code 1 (some (.object "java/lang/Long")) ws ({ frames := 5, cells := 2, slots := 3, locals := 80 } : Room) #[(.ref a1)] h0 (Q_rm11_2 Z ca cc a1 ta kt vs ky V h0 n0) := by
  refine own_enter (g0 := fun m => (mkF m 0 #[.val (.ref a1)] [])) pn_rm11_2 (fun m => by first | (simp [entryFrame, mkF, argsToLocals, Value.category, maxLocals]; done) | rfl) ?_
  intro p e s m below meth c s₁ hx hby hml hown hnm hret hlk hZ X0 e0
  have hml : c.maxLocals = 1 := hml
  have hown : s.vm.findClass "com/example/eskew/eskew/server/split/CounterValues" = some m.cls := hown
  have N0 := Fr.nil n0
  have K0 := Keep.refl h0 []
  refine own_by (fun _ k => XS.aloadN X0.here hx rfl (hb hby d11_0) rfl rfl k) ?_
  obtain ⟨_, T898, L898, X898, ⟨b', rfl, N898q, K1', gb', Eb', Fl', Fh'⟩, st898⟩ := own_callP X0 hx hZ hown (y := (⟨"com/example/eskew/eskew/server/split/CounterValues", "wideTotal", "()Lcom/example/eskew/eskew/server/split/CounterValues$WideSum;"⟩ : MethodName)) (hw _ (List.mem_of_getElem? (i := 92) rfl)) (hw _ (List.mem_of_getElem? (i := 93) rfl)) (hw _ (List.mem_of_getElem? (i := 2) rfl)) (hw _ (List.mem_of_getElem? (i := 94) rfl)) (hw _ (List.mem_of_getElem? (i := 3) rfl)) (hw _ (List.mem_of_getElem? (i := 95) rfl)) (by decide) (a := a1) (argsL := []) (rest := []) E1 e0 (rm12_2 l Z a0 hw [] a1 ta kt vs ky V h0 n0 Z0 hk Fa Va HV) (g := (mkF m 1 #[.val (.ref a1)] [(.ref a1)])) rfl (by rw [hml]; rfl) (lenOf pd_8 rfl) rfl (W := 0) (by show 2 * 0 + _ ≤ _; exact Nat.le_of_eq rfl) (hb hby d11_1) (by decide) (by decide) (by decide) (by decide)
  have N898 := Fr.app N0 N898q
  refine own_by st898 ?_
  show own_Go p e below _ T898 (mkF m 4 #[.val (.ref a1)] [(.ref b')])
  have Z898 : n0 ≤ T898.heap.size := Nat.le_trans Z0 K1'.1
  have K898c := K0.trans K1' all0
  have HO' := HO.keep K1' all0
  have f899 := (E1.keep K1')
  obtain ⟨_, T900, L900, X900, ⟨r', rfl, N900q, K2', E2', F2'⟩, st900⟩ := own_callV X898 hx hZ hown (y := (⟨"com/example/eskew/eskew/server/split/CounterValues$WideSum", "value", "()Ljava/lang/Long;"⟩ : MethodName)) (C := "com/example/eskew/eskew/server/split/CounterValues$WideSum") (hw _ (List.mem_of_getElem? (i := 103) rfl)) (hw _ (List.mem_of_getElem? (i := 104) rfl)) (hw _ (List.mem_of_getElem? (i := 106) rfl)) (hw _ (List.mem_of_getElem? (i := 105) rfl)) (hw _ (List.mem_of_getElem? (i := 13) rfl)) (hw _ (List.mem_of_getElem? (i := 107) rfl)) (by decide) (a := b') Eb' (argsL := []) (rest := []) rfl (rm14 l Z a0 hw [] ca cc b' V T898.heap n0 Z898 HB HS HO' Fl' Fh') (g := (mkF m 4 #[.val (.ref a1)] [(.ref b')])) rfl (by rw [hml]; rfl) (lenOf pd_9 rfl) rfl (W := 0) (by show 2 * 0 + _ ≤ _; exact Nat.le_of_eq rfl) (hb hby d11_4) (by decide) (by decide) (by decide) (by decide)
  have N900 := Fr.app N898 N900q
  refine own_by st900 ?_
  have Z900 : n0 ≤ T900.heap.size := Nat.le_trans Z898 K2'.1
  have K900c := K898c.trans K2' all0
  exact own_retA X900 hx hlk hret rfl rfl (hb hby d11_7) ⟨r', rfl, N900, K900c, E2', F2'⟩ (by decide) (by decide)
def Q_rm11_3 (Z : State) (ca : Addr) (cc : Cell) (a1 ta : Addr) (kt : ClassId) (vs : List Value) (ky : Int32) (V : Int64) (h0 : Heap) (n0 : Nat) (v : Option Value) (h : Heap) (L : List Loc) : Prop := ∃ r, v = some (.ref r) ∧ Fr n0 L ∧ Keep h0 h [] ∧ Exa Z h r "java/lang/Long" ∧ Fld Z h r "java/lang/Long" "value" "J" (.long V)
theorem pn_rm11_3 : plainFor (⟨"com/example/eskew/eskew/server/split/CounterValues", "total", "()Ljava/lang/Long;"⟩ : MethodName) = true := plainFor_of_name (by first | (simp [plainName, overriddenIn, x]; done) | decide +kernel)
set_option maxRecDepth 65536 in
set_option maxHeartbeats 40000000 in
theorem rm11_3 (l : Launch) (Z : State) (a0 : Array Value) (hw : ∀ d ∈ tables_1, d.before a0 Z = true) (ws : List Jvm.Cond) (ca : Addr) (cc : Cell) (a1 ta : Addr) (kt : ClassId) (vs : List Value) (ky : Int32) (V : Int64) (h0 : Heap) (n0 : Nat) (Z0 : n0 ≤ h0.size) (HB : Bxs Z ca cc "java/lang/Long" "J" (256 : Int32) own_bx) (HS : Sta Z Z.heap "java/lang/Long$LongCache" "cache" "[Ljava/lang/Long;" (.ref ca)) (HO : Old Z n0 h0) (E1 : Exa Z h0 a1 "com/example/eskew/eskew/server/split/CounterValues") (hk : ¬ ky < 0 ∧ ky < (3 : Int32)) (Fa : Fld Z h0 a1 "com/example/eskew/eskew/server/split/CounterValues" "tallies" "[Lcom/example/eskew/eskew/server/split/CounterValues$Tally;" (.ref ta)) (Va : Arv Z h0 ta kt (.object "com/example/eskew/eskew/server/split/CounterValues$Tally") (3 : Int32) vs .null) (HV : own_Vals Z h0 vs (3 : Int32) ky V) :
    own_Met l Z (⟨"com/example/eskew/eskew/server/split/CounterValues", "total", "()Ljava/lang/Long;"⟩ : MethodName) prog_33_method_16_code 1 (some (.object "java/lang/Long")) ws ({ frames := 5, cells := 2, slots := 3, locals := 80 } : Room) #[(.ref a1)] h0 (Q_rm11_3 Z ca cc a1 ta kt vs ky V h0 n0) := by
  refine own_enter (g0 := fun m => (mkF m 0 #[.val (.ref a1)] [])) pn_rm11_3 (fun m => by first | (simp [entryFrame, mkF, argsToLocals, Value.category, maxLocals]; done) | rfl) ?_
  intro p e s m below meth c s₁ hx hby hml hown hnm hret hlk hZ X0 e0
  have hml : c.maxLocals = 1 := hml
  have hown : s.vm.findClass "com/example/eskew/eskew/server/split/CounterValues" = some m.cls := hown
  have N0 := Fr.nil n0
  have K0 := Keep.refl h0 []
  refine own_by (fun _ k => XS.aloadN X0.here hx rfl (hb hby d11_0) rfl rfl k) ?_
  obtain ⟨_, T901, L901, X901, ⟨b', rfl, N901q, K1', gb', Eb', Fl', Fh'⟩, st901⟩ := own_callP X0 hx hZ hown (y := (⟨"com/example/eskew/eskew/server/split/CounterValues", "wideTotal", "()Lcom/example/eskew/eskew/server/split/CounterValues$WideSum;"⟩ : MethodName)) (hw _ (List.mem_of_getElem? (i := 92) rfl)) (hw _ (List.mem_of_getElem? (i := 93) rfl)) (hw _ (List.mem_of_getElem? (i := 2) rfl)) (hw _ (List.mem_of_getElem? (i := 94) rfl)) (hw _ (List.mem_of_getElem? (i := 3) rfl)) (hw _ (List.mem_of_getElem? (i := 95) rfl)) (by decide) (a := a1) (argsL := []) (rest := []) E1 e0 (rm12_3 l Z a0 hw [] a1 ta kt vs ky V h0 n0 Z0 hk Fa Va HV) (g := (mkF m 1 #[.val (.ref a1)] [(.ref a1)])) rfl (by rw [hml]; rfl) (lenOf pd_8 rfl) rfl (W := 0) (by show 2 * 0 + _ ≤ _; exact Nat.le_of_eq rfl) (hb hby d11_1) (by decide) (by decide) (by decide) (by decide)
  have N901 := Fr.app N0 N901q
  refine own_by st901 ?_
  show own_Go p e below _ T901 (mkF m 4 #[.val (.ref a1)] [(.ref b')])
  have Z901 : n0 ≤ T901.heap.size := Nat.le_trans Z0 K1'.1
  have K901c := K0.trans K1' all0
  have HO' := HO.keep K1' all0
  have f902 := (E1.keep K1')
  obtain ⟨_, T903, L903, X903, ⟨r', rfl, N903q, K2', E2', F2'⟩, st903⟩ := own_callV X901 hx hZ hown (y := (⟨"com/example/eskew/eskew/server/split/CounterValues$WideSum", "value", "()Ljava/lang/Long;"⟩ : MethodName)) (C := "com/example/eskew/eskew/server/split/CounterValues$WideSum") (hw _ (List.mem_of_getElem? (i := 103) rfl)) (hw _ (List.mem_of_getElem? (i := 104) rfl)) (hw _ (List.mem_of_getElem? (i := 106) rfl)) (hw _ (List.mem_of_getElem? (i := 105) rfl)) (hw _ (List.mem_of_getElem? (i := 13) rfl)) (hw _ (List.mem_of_getElem? (i := 107) rfl)) (by decide) (a := b') Eb' (argsL := []) (rest := []) rfl (rm14 l Z a0 hw [] ca cc b' V T901.heap n0 Z901 HB HS HO' Fl' Fh') (g := (mkF m 4 #[.val (.ref a1)] [(.ref b')])) rfl (by rw [hml]; rfl) (lenOf pd_9 rfl) rfl (W := 0) (by show 2 * 0 + _ ≤ _; exact Nat.le_of_eq rfl) (hb hby d11_4) (by decide) (by decide) (by decide) (by decide)
  have N903 := Fr.app N901 N903q
  refine own_by st903 ?_
  have Z903 : n0 ≤ T903.heap.size := Nat.le_trans Z901 K2'.1
  have K903c := K901c.trans K2' all0
  exact own_retA X903 hx hlk hret rfl rfl (hb hby d11_7) ⟨r', rfl, N903, K903c, E2', F2'⟩ (by decide) (by decide)
def Q_rm11_4 (Z : State) (ca : Addr) (cc : Cell) (a1 ta : Addr) (kt : ClassId) (vs : List Value) (ky : Int32) (V : Int64) (h0 : Heap) (n0 : Nat) (v : Option Value) (h : Heap) (L : List Loc) : Prop := ∃ r, v = some (.ref r) ∧ Fr n0 L ∧ Keep h0 h [] ∧ Exa Z h r "java/lang/Long" ∧ Fld Z h r "java/lang/Long" "value" "J" (.long V)
theorem pn_rm11_4 : plainFor (⟨"com/example/eskew/eskew/server/split/CounterValues", "total", "()Ljava/lang/Long;"⟩ : MethodName) = true := plainFor_of_name (by first | (simp [plainName, overriddenIn, x]; done) | decide +kernel)
set_option maxRecDepth 65536 in
set_option maxHeartbeats 40000000 in
theorem rm11_4 (l : Launch) (Z : State) (a0 : Array Value) (hw : ∀ d ∈ tables_1, d.before a0 Z = true) (ws : List Jvm.Cond) (ca : Addr) (cc : Cell) (a1 ta : Addr) (kt : ClassId) (vs : List Value) (ky : Int32) (V : Int64) (h0 : Heap) (n0 : Nat) (Z0 : n0 ≤ h0.size) (HB : Bxs Z ca cc "java/lang/Long" "J" (256 : Int32) own_bx) (HS : Sta Z Z.heap "java/lang/Long$LongCache" "cache" "[Ljava/lang/Long;" (.ref ca)) (HO : Old Z n0 h0) (E1 : Exa Z h0 a1 "com/example/eskew/eskew/server/split/CounterValues") (hk : ¬ ky < 0 ∧ ky < (4 : Int32)) (Fa : Fld Z h0 a1 "com/example/eskew/eskew/server/split/CounterValues" "tallies" "[Lcom/example/eskew/eskew/server/split/CounterValues$Tally;" (.ref ta)) (Va : Arv Z h0 ta kt (.object "com/example/eskew/eskew/server/split/CounterValues$Tally") (4 : Int32) vs .null) (HV : own_Vals Z h0 vs (4 : Int32) ky V) :
    own_Met l Z (⟨"com/example/eskew/eskew/server/split/CounterValues", "total", "()Ljava/lang/Long;"⟩ : MethodName) prog_33_method_16_code 1 (some (.object "java/lang/Long")) ws ({ frames := 5, cells := 2, slots := 3, locals := 80 } : Room) #[(.ref a1)] h0 (Q_rm11_4 Z ca cc a1 ta kt vs ky V h0 n0) := by
  refine own_enter (g0 := fun m => (mkF m 0 #[.val (.ref a1)] [])) pn_rm11_4 (fun m => by first | (simp [entryFrame, mkF, argsToLocals, Value.category, maxLocals]; done) | rfl) ?_
  intro p e s m below meth c s₁ hx hby hml hown hnm hret hlk hZ X0 e0
  have hml : c.maxLocals = 1 := hml
  have hown : s.vm.findClass "com/example/eskew/eskew/server/split/CounterValues" = some m.cls := hown
  have N0 := Fr.nil n0
  have K0 := Keep.refl h0 []
  refine own_by (fun _ k => XS.aloadN X0.here hx rfl (hb hby d11_0) rfl rfl k) ?_
  obtain ⟨_, T904, L904, X904, ⟨b', rfl, N904q, K1', gb', Eb', Fl', Fh'⟩, st904⟩ := own_callP X0 hx hZ hown (y := (⟨"com/example/eskew/eskew/server/split/CounterValues", "wideTotal", "()Lcom/example/eskew/eskew/server/split/CounterValues$WideSum;"⟩ : MethodName)) (hw _ (List.mem_of_getElem? (i := 92) rfl)) (hw _ (List.mem_of_getElem? (i := 93) rfl)) (hw _ (List.mem_of_getElem? (i := 2) rfl)) (hw _ (List.mem_of_getElem? (i := 94) rfl)) (hw _ (List.mem_of_getElem? (i := 3) rfl)) (hw _ (List.mem_of_getElem? (i := 95) rfl)) (by decide) (a := a1) (argsL := []) (rest := []) E1 e0 (rm12_4 l Z a0 hw [] a1 ta kt vs ky V h0 n0 Z0 hk Fa Va HV) (g := (mkF m 1 #[.val (.ref a1)] [(.ref a1)])) rfl (by rw [hml]; rfl) (lenOf pd_8 rfl) rfl (W := 0) (by show 2 * 0 + _ ≤ _; exact Nat.le_of_eq rfl) (hb hby d11_1) (by decide) (by decide) (by decide) (by decide)
  have N904 := Fr.app N0 N904q
  refine own_by st904 ?_
  show own_Go p e below _ T904 (mkF m 4 #[.val (.ref a1)] [(.ref b')])
  have Z904 : n0 ≤ T904.heap.size := Nat.le_trans Z0 K1'.1
  have K904c := K0.trans K1' all0
  have HO' := HO.keep K1' all0
  have f905 := (E1.keep K1')
  obtain ⟨_, T906, L906, X906, ⟨r', rfl, N906q, K2', E2', F2'⟩, st906⟩ := own_callV X904 hx hZ hown (y := (⟨"com/example/eskew/eskew/server/split/CounterValues$WideSum", "value", "()Ljava/lang/Long;"⟩ : MethodName)) (C := "com/example/eskew/eskew/server/split/CounterValues$WideSum") (hw _ (List.mem_of_getElem? (i := 103) rfl)) (hw _ (List.mem_of_getElem? (i := 104) rfl)) (hw _ (List.mem_of_getElem? (i := 106) rfl)) (hw _ (List.mem_of_getElem? (i := 105) rfl)) (hw _ (List.mem_of_getElem? (i := 13) rfl)) (hw _ (List.mem_of_getElem? (i := 107) rfl)) (by decide) (a := b') Eb' (argsL := []) (rest := []) rfl (rm14 l Z a0 hw [] ca cc b' V T904.heap n0 Z904 HB HS HO' Fl' Fh') (g := (mkF m 4 #[.val (.ref a1)] [(.ref b')])) rfl (by rw [hml]; rfl) (lenOf pd_9 rfl) rfl (W := 0) (by show 2 * 0 + _ ≤ _; exact Nat.le_of_eq rfl) (hb hby d11_4) (by decide) (by decide) (by decide) (by decide)
  have N906 := Fr.app N904 N906q
  refine own_by st906 ?_
  have Z906 : n0 ≤ T906.heap.size := Nat.le_trans Z904 K2'.1
  have K906c := K904c.trans K2' all0
  exact own_retA X906 hx hlk hret rfl rfl (hb hby d11_7) ⟨r', rfl, N906, K906c, E2', F2'⟩ (by decide) (by decide)
def Q_rm11_5 (Z : State) (ca : Addr) (cc : Cell) (a1 ta : Addr) (kt : ClassId) (vs : List Value) (ky : Int32) (V : Int64) (h0 : Heap) (n0 : Nat) (v : Option Value) (h : Heap) (L : List Loc) : Prop := ∃ r, v = some (.ref r) ∧ Fr n0 L ∧ Keep h0 h [] ∧ Exa Z h r "java/lang/Long" ∧ Fld Z h r "java/lang/Long" "value" "J" (.long V)
theorem pn_rm11_5 : plainFor (⟨"com/example/eskew/eskew/server/split/CounterValues", "total", "()Ljava/lang/Long;"⟩ : MethodName) = true := plainFor_of_name (by first | (simp [plainName, overriddenIn, x]; done) | decide +kernel)
set_option maxRecDepth 65536 in
set_option maxHeartbeats 40000000 in
theorem rm11_5 (l : Launch) (Z : State) (a0 : Array Value) (hw : ∀ d ∈ tables_1, d.before a0 Z = true) (ws : List Jvm.Cond) (ca : Addr) (cc : Cell) (a1 ta : Addr) (kt : ClassId) (vs : List Value) (ky : Int32) (V : Int64) (h0 : Heap) (n0 : Nat) (Z0 : n0 ≤ h0.size) (HB : Bxs Z ca cc "java/lang/Long" "J" (256 : Int32) own_bx) (HS : Sta Z Z.heap "java/lang/Long$LongCache" "cache" "[Ljava/lang/Long;" (.ref ca)) (HO : Old Z n0 h0) (E1 : Exa Z h0 a1 "com/example/eskew/eskew/server/split/CounterValues") (hk : ¬ ky < 0 ∧ ky < (5 : Int32)) (Fa : Fld Z h0 a1 "com/example/eskew/eskew/server/split/CounterValues" "tallies" "[Lcom/example/eskew/eskew/server/split/CounterValues$Tally;" (.ref ta)) (Va : Arv Z h0 ta kt (.object "com/example/eskew/eskew/server/split/CounterValues$Tally") (5 : Int32) vs .null) (HV : own_Vals Z h0 vs (5 : Int32) ky V) :
    own_Met l Z (⟨"com/example/eskew/eskew/server/split/CounterValues", "total", "()Ljava/lang/Long;"⟩ : MethodName) prog_33_method_16_code 1 (some (.object "java/lang/Long")) ws ({ frames := 5, cells := 2, slots := 3, locals := 80 } : Room) #[(.ref a1)] h0 (Q_rm11_5 Z ca cc a1 ta kt vs ky V h0 n0) := by
  refine own_enter (g0 := fun m => (mkF m 0 #[.val (.ref a1)] [])) pn_rm11_5 (fun m => by first | (simp [entryFrame, mkF, argsToLocals, Value.category, maxLocals]; done) | rfl) ?_
  intro p e s m below meth c s₁ hx hby hml hown hnm hret hlk hZ X0 e0
  have hml : c.maxLocals = 1 := hml
  have hown : s.vm.findClass "com/example/eskew/eskew/server/split/CounterValues" = some m.cls := hown
  have N0 := Fr.nil n0
  have K0 := Keep.refl h0 []
  refine own_by (fun _ k => XS.aloadN X0.here hx rfl (hb hby d11_0) rfl rfl k) ?_
  obtain ⟨_, T907, L907, X907, ⟨b', rfl, N907q, K1', gb', Eb', Fl', Fh'⟩, st907⟩ := own_callP X0 hx hZ hown (y := (⟨"com/example/eskew/eskew/server/split/CounterValues", "wideTotal", "()Lcom/example/eskew/eskew/server/split/CounterValues$WideSum;"⟩ : MethodName)) (hw _ (List.mem_of_getElem? (i := 92) rfl)) (hw _ (List.mem_of_getElem? (i := 93) rfl)) (hw _ (List.mem_of_getElem? (i := 2) rfl)) (hw _ (List.mem_of_getElem? (i := 94) rfl)) (hw _ (List.mem_of_getElem? (i := 3) rfl)) (hw _ (List.mem_of_getElem? (i := 95) rfl)) (by decide) (a := a1) (argsL := []) (rest := []) E1 e0 (rm12_5 l Z a0 hw [] a1 ta kt vs ky V h0 n0 Z0 hk Fa Va HV) (g := (mkF m 1 #[.val (.ref a1)] [(.ref a1)])) rfl (by rw [hml]; rfl) (lenOf pd_8 rfl) rfl (W := 0) (by show 2 * 0 + _ ≤ _; exact Nat.le_of_eq rfl) (hb hby d11_1) (by decide) (by decide) (by decide) (by decide)
  have N907 := Fr.app N0 N907q
  refine own_by st907 ?_
  show own_Go p e below _ T907 (mkF m 4 #[.val (.ref a1)] [(.ref b')])
  have Z907 : n0 ≤ T907.heap.size := Nat.le_trans Z0 K1'.1
  have K907c := K0.trans K1' all0
  have HO' := HO.keep K1' all0
  have f908 := (E1.keep K1')
  obtain ⟨_, T909, L909, X909, ⟨r', rfl, N909q, K2', E2', F2'⟩, st909⟩ := own_callV X907 hx hZ hown (y := (⟨"com/example/eskew/eskew/server/split/CounterValues$WideSum", "value", "()Ljava/lang/Long;"⟩ : MethodName)) (C := "com/example/eskew/eskew/server/split/CounterValues$WideSum") (hw _ (List.mem_of_getElem? (i := 103) rfl)) (hw _ (List.mem_of_getElem? (i := 104) rfl)) (hw _ (List.mem_of_getElem? (i := 106) rfl)) (hw _ (List.mem_of_getElem? (i := 105) rfl)) (hw _ (List.mem_of_getElem? (i := 13) rfl)) (hw _ (List.mem_of_getElem? (i := 107) rfl)) (by decide) (a := b') Eb' (argsL := []) (rest := []) rfl (rm14 l Z a0 hw [] ca cc b' V T907.heap n0 Z907 HB HS HO' Fl' Fh') (g := (mkF m 4 #[.val (.ref a1)] [(.ref b')])) rfl (by rw [hml]; rfl) (lenOf pd_9 rfl) rfl (W := 0) (by show 2 * 0 + _ ≤ _; exact Nat.le_of_eq rfl) (hb hby d11_4) (by decide) (by decide) (by decide) (by decide)
  have N909 := Fr.app N907 N909q
  refine own_by st909 ?_
  have Z909 : n0 ≤ T909.heap.size := Nat.le_trans Z907 K2'.1
  have K909c := K907c.trans K2' all0
  exact own_retA X909 hx hlk hret rfl rfl (hb hby d11_7) ⟨r', rfl, N909, K909c, E2', F2'⟩ (by decide) (by decide)
/-- total at any number of keys -/
theorem rm11 (l : Launch) (Z : State) (a0 : Array Value) (hw : ∀ d ∈ tables_1, d.before a0 Z = true) (ca : Addr) (cc : Cell) (a1 ta : Addr) (kt : ClassId) (vs : List Value) (nk ky : Int32) (V : Int64) (h0 : Heap) (n0 : Nat) (Z0 : n0 ≤ h0.size) (HB : Bxs Z ca cc "java/lang/Long" "J" (256 : Int32) own_bx) (HS : Sta Z Z.heap "java/lang/Long$LongCache" "cache" "[Ljava/lang/Long;" (.ref ca)) (HO : Old Z n0 h0) (hn : nk = 2 ∨ nk = 3 ∨ nk = 4 ∨ nk = 5) (E1 : Exa Z h0 a1 "com/example/eskew/eskew/server/split/CounterValues") (hk : ¬ ky < 0 ∧ ky < nk) (Fa : Fld Z h0 a1 "com/example/eskew/eskew/server/split/CounterValues" "tallies" "[Lcom/example/eskew/eskew/server/split/CounterValues$Tally;" (.ref ta)) (Va : Arv Z h0 ta kt (.object "com/example/eskew/eskew/server/split/CounterValues$Tally") nk vs .null) (HV : own_Vals Z h0 vs nk ky V) :
    own_Met l Z (⟨"com/example/eskew/eskew/server/split/CounterValues", "total", "()Ljava/lang/Long;"⟩ : MethodName) prog_33_method_16_code 1 (some (.object "java/lang/Long")) [] ({ frames := 5, cells := 2, slots := 3, locals := 80 } : Room) #[(.ref a1)] h0 (Q_rm11_2 Z ca cc a1 ta kt vs ky V h0 n0) := by
  rcases hn with rfl | rfl | rfl | rfl
  · exact rm11_2 l Z a0 hw [] ca cc a1 ta kt vs ky V h0 n0 Z0 HB HS HO E1 hk Fa Va HV
  · exact rm11_3 l Z a0 hw [] ca cc a1 ta kt vs ky V h0 n0 Z0 HB HS HO E1 hk Fa Va HV
  · exact rm11_4 l Z a0 hw [] ca cc a1 ta kt vs ky V h0 n0 Z0 HB HS HO E1 hk Fa Va HV
  · exact rm11_5 l Z a0 hw [] ca cc a1 ta kt vs ky V h0 n0 Z0 HB HS HO E1 hk Fa Va HV
theorem own_TalC {Z : State} {h : Heap} {t : Addr} {sn sn' wn wn' : Int64} {wr wr' : Int32} {al al' vl vl' : Int64} {kn kn' se se' rd rd' : Int32} (H : own_Tal Z h t sn wn wr al vl kn se rd) (e1 : sn = sn') (e2 : wn = wn') (e3 : wr = wr') (e4 : al = al') (e5 : vl = vl') (e6 : kn = kn') (e7 : se = se') (e8 : rd = rd') : own_Tal Z h t sn' wn' wr' al' vl' kn' se' rd' := by
  subst e1 e2 e3 e4 e5 e6 e7 e8; exact H
/-- the tallies but two: their value is 0 -/
def own_Vo (Z : State) (h : Heap) (vs : List Value) (nk ky ko : Int32) (t t2 : Addr) : Prop := ∀ j : Int32, ¬ j < 0 → j < nk → j ≠ ky → j ≠ ko → ∃ u, vs.getD j.toNatClampNeg .null = .ref u ∧ u ≠ t ∧ u ≠ t2 ∧ Fld Z h u "com/example/eskew/eskew/server/split/CounterValues$Tally" "value" "J" (.long 0)
theorem own_VoK {Z : State} {h h' : Heap} {vs : List Value} {nk ky ko : Int32} {t t2 : Addr} {l : List Addr} (H : own_Vo Z h vs nk ky ko t t2) (K : Keep h h' l) (q : ∀ x ∈ l, x = t ∨ x = t2) : own_Vo Z h' vs nk ky ko t t2 := fun j h1 h2 h3 h4 => by
  obtain ⟨u, g1, g2, g3, g4⟩ := H j h1 h2 h3 h4
  exact ⟨u, g1, g2, g3, g4.keep K (fun hm => (q u hm).elim g2 g3)⟩
theorem own_Vo0 {Z : State} {h : Heap} {b : Nat} {ta : Addr} {vs : List Value} {nk ky ko : Int32} {t0 : Int64} {t t2 : Addr} (H : own_All Z h b ta vs nk t0) (I : own_Inj vs nk) (hk : ¬ ky < 0 ∧ ky < nk) (hk2 : ¬ ko < 0 ∧ ko < nk) (hv : vs.getD ky.toNatClampNeg .null = .ref t) (hv2 : vs.getD ko.toNatClampNeg .null = .ref t2) : own_Vo Z h vs nk ky ko t t2 := fun j h1 h2 h3 h4 => by
  obtain ⟨u, g1, g2, g3, g4⟩ := H j h1 h2
  exact ⟨u, g1, fun q => I j ky h1 h2 hk.1 hk.2 h3 (by rw [g1, hv, q]), fun q => I j ko h1 h2 hk2.1 hk2.2 h4 (by rw [g1, hv2, q]), g4.2.2.2.2.2.1⟩
theorem own_mkV {Z : State} {h : Heap} {vs : List Value} {nk ky ko : Int32} {t t2 : Addr} {V : Int64} (H : own_Vo Z h vs nk ky ko t t2) (hn : ky ≠ ko) (hv : vs.getD ky.toNatClampNeg .null = .ref t) (hv2 : vs.getD ko.toNatClampNeg .null = .ref t2) (F : Fld Z h t "com/example/eskew/eskew/server/split/CounterValues$Tally" "value" "J" (.long V)) (F2 : Fld Z h t2 "com/example/eskew/eskew/server/split/CounterValues$Tally" "value" "J" (.long 0)) : own_Vals Z h vs nk ky V := fun j h1 h2 => by
  by_cases e : j = ky
  · subst e; exact ⟨t, hv, by rw [show own_u j j V = V from if_pos rfl]; exact F⟩
  · have z : own_u j ky V = 0 := if_neg e
    by_cases e2 : j = ko
    · subst e2; exact ⟨t2, hv2, by rw [z]; exact F2⟩
    · obtain ⟨u, g1, -, -, g4⟩ := H j h1 h2 e e2
      exact ⟨u, g1, by rw [z]; exact g4⟩
theorem own_rg (x y : Int32) (d : Int) (hy : y.toInt = d) (hd : 0 < d) : 0 ≤ ((x &&& 2147483647) % y).toInt ∧ ((x &&& 2147483647) % y).toInt < d := by
  have h := c_mask x 2147483647 31 (by decide) (by decide)
  have h0 : 0 ≤ (x &&& 2147483647).toInt := by rw [h]; omega
  rw [(c_irem (x &&& 2147483647) y d hy).1 h0]
  exact ⟨Int.emod_nonneg _ (by omega), Int.emod_lt_of_pos _ hd⟩
theorem own_nk (x : Int32) : (2 : Int32) + (x &&& 3) = 2 ∨ (2 : Int32) + (x &&& 3) = 3 ∨ (2 : Int32) + (x &&& 3) = 4 ∨ (2 : Int32) + (x &&& 3) = 5 := by
  have h := c_mask x 3 2 (by decide) (by decide)
  have e : ∀ k : Int32, (x &&& 3).toInt = k.toInt → x &&& 3 = k := fun k q => Int32.toInt_inj.mp q
  have c : (x &&& 3).toInt = 0 ∨ (x &&& 3).toInt = 1 ∨ (x &&& 3).toInt = 2 ∨ (x &&& 3).toInt = 3 := by rw [h]; omega
  rcases c with c | c | c | c
  · rw [e 0 c]; decide
  · rw [e 1 c]; decide
  · rw [e 2 c]; decide
  · rw [e 3 c]; decide
theorem own_n0 {n : Int32} (h : n = 2 ∨ n = 3 ∨ n = 4 ∨ n = 5) : n ≠ 0 := by rcases h with rfl | rfl | rfl | rfl <;> decide
theorem own_ix (q n : Int32) (h : n = 2 ∨ n = 3 ∨ n = 4 ∨ n = 5) : ¬ ((q &&& 2147483647) % n) < 0 ∧ ((q &&& 2147483647) % n) < n := by
  rw [Int32.lt_iff_toInt_lt, Int32.lt_iff_toInt_lt, Int.not_lt]
  rcases h with rfl | rfl | rfl | rfl
  · exact own_rg q 2 2 rfl (by decide)
  · exact own_rg q 3 3 rfl (by decide)
  · exact own_rg q 4 4 rfl (by decide)
  · exact own_rg q 5 5 rfl (by decide)
theorem own_ox (k n : Int32) (h : n = 2 ∨ n = 3 ∨ n = 4 ∨ n = 5) (hk : ¬ k < 0 ∧ k < n) : (¬ ((k + 1) % n) < 0 ∧ ((k + 1) % n) < n) ∧ k ≠ (k + 1) % n := by
  rcases h with rfl | rfl | rfl | rfl
  · rcases own_rng_2 k hk.1 hk.2 with rfl | rfl <;> decide
  · rcases own_rng_3 k hk.1 hk.2 with rfl | rfl | rfl <;> decide
  · rcases own_rng_4 k hk.1 hk.2 with rfl | rfl | rfl | rfl <;> decide
  · rcases own_rng_5 k hk.1 hk.2 with rfl | rfl | rfl | rfl | rfl <;> decide
theorem own_three (x : Int32) : (x &&& 2147483647) % 3 = 0 ∨ (x &&& 2147483647) % 3 = 1 ∨ (x &&& 2147483647) % 3 = 2 := by
  have h := own_rg x 3 3 rfl (by decide)
  exact own_rng_3 _ (by rw [Int32.lt_iff_toInt_lt, Int.not_lt]; exact h.1) (by rw [Int32.lt_iff_toInt_lt]; exact h.2)
def Q_rm0 (Z : State) (ca : Addr) (cc : Cell) (p1 p2 p3 : Int32) (p4 p5 p6 : Int64) (h0 : Heap) (n0 : Nat) (v : Option Value) (h : Heap) (L : List Loc) : Prop := v = some (.int 1) ∧ Fr n0 L
theorem pn_rm0 : plainFor x = true := plainFor_of_name (by first | (simp [plainName, overriddenIn, x]; done) | decide +kernel)
theorem pd_10 : parseMethodDescriptor "(I)J" = some ⟨[.int], some .long⟩ := by decide +kernel
theorem pd_11 : parseMethodDescriptor "(IJJJ)V" = some ⟨[.int, .long, .long, .long], none⟩ := by decide +kernel
theorem pd_12 : parseMethodDescriptor "()J" = some ⟨[], some .long⟩ := by decide +kernel
theorem pd_13 : parseMethodDescriptor "(IJ)Z" = some ⟨[.int, .long], some .boolean⟩ := by decide +kernel
set_option maxRecDepth 65536 in
set_option maxHeartbeats 40000000 in
theorem rm0 (l : Launch) (Z : State) (a0 : Array Value) (hw : ∀ d ∈ tables_1, d.before a0 Z = true) (ws : List Jvm.Cond) (ca : Addr) (cc : Cell) (p1 p2 p3 : Int32) (p4 p5 p6 : Int64) (h0 : Heap) (n0 : Nat) (Z0 : n0 ≤ h0.size) (HB : Bxs Z ca cc "java/lang/Long" "J" (256 : Int32) own_bx) (HS : Sta Z Z.heap "java/lang/Long$LongCache" "cache" "[Ljava/lang/Long;" (.ref ca)) (HO : Old Z n0 h0) :
    own_Met l Z x code maxLocals ret ws room_1 #[(.int p1), (.int p2), (.int p3), (.long p4), (.long p5), (.long p6)] h0 (Q_rm0 Z ca cc p1 p2 p3 p4 p5 p6 h0 n0) := by
  refine own_enter (g0 := fun m => (mkF m 0 #[.val (.int p1), .val (.int p2), .val (.int p3), .val (.long p4), .second, .val (.long p5), .second, .val (.long p6), .second, .unset, .unset, .unset, .unset, .unset, .unset, .unset, .unset, .unset, .unset, .unset, .unset, .unset, .unset] [])) pn_rm0 (fun m => by first | (simp [entryFrame, mkF, argsToLocals, Value.category, maxLocals]; done) | rfl) ?_
  intro p e s m below meth c s₁ hx hby hml hown hnm hret hlk hZ X0 e0
  have hml : c.maxLocals = 23 := hml
  have hown : s.vm.findClass "com/example/eskew/eskew/server/split/CounterValuesWritingPinLaw" = some m.cls := hown
  have N0 := Fr.nil n0
  have K0 := Keep.refl h0 []
  refine own_by (fun _ k => XS.iconst X0.here hx rfl (hb hby at_0) k) ?_
  refine own_by (fun _ k => XS.iloadN X0.here hx rfl (hb hby at_1) rfl k) ?_
  show own_Go p e below _ s₁ (mkF m 2 #[.val (.int p1), .val (.int p2), .val (.int p3), .val (.long p4), .second, .val (.long p5), .second, .val (.long p6), .second, .unset, .unset, .unset, .unset, .unset, .unset, .unset, .unset, .unset, .unset, .unset, .unset, .unset, .unset] [(.int p1), (.int (2 : Int32))])
  refine own_by (fun _ k => XS.iconst X0.here hx rfl (hb hby at_2) k) ?_
  refine own_by (fun _ k => XS.iand X0.here hx rfl (hb hby at_3) rfl k) ?_
  refine own_by (fun _ k => XS.iadd X0.here hx rfl (hb hby at_4) rfl k) ?_
  show own_Go p e below _ s₁ (mkF m 5 #[.val (.int p1), .val (.int p2), .val (.int p3), .val (.long p4), .second, .val (.long p5), .second, .val (.long p6), .second, .unset, .unset, .unset, .unset, .unset, .unset, .unset, .unset, .unset, .unset, .unset, .unset, .unset, .unset] [(.int ((2 : Int32) + (p1 &&& (3 : Int32))))])
  refine own_by (fun _ k => XS.istore X0.here hx rfl (hb hby at_5) rfl (l' := #[.val (.int p1), .val (.int p2), .val (.int p3), .val (.long p4), .second, .val (.long p5), .second, .val (.long p6), .second, .val (.int ((2 : Int32) + (p1 &&& (3 : Int32)))), .unset, .unset, .unset, .unset, .unset, .unset, .unset, .unset, .unset, .unset, .unset, .unset, .unset]) rfl k) ?_
  refine own_by (fun _ k => XS.iloadN X0.here hx rfl (hb hby at_7) rfl k) ?_
  refine own_by (fun _ k => Stand.ldcI X0 hx hown (mvT hZ (hw _ (List.mem_of_getElem? (i := 0) rfl))) rfl (hb hby at_8) k) ?_
  show own_Go p e below _ s₁ (mkF m 10 #[.val (.int p1), .val (.int p2), .val (.int p3), .val (.long p4), .second, .val (.long p5), .second, .val (.long p6), .second, .val (.int ((2 : Int32) + (p1 &&& (3 : Int32)))), .unset, .unset, .unset, .unset, .unset, .unset, .unset, .unset, .unset, .unset, .unset, .unset, .unset] [(.int (2147483647 : Int32)), (.int p2)])
  refine own_by (fun _ k => XS.iand X0.here hx rfl (hb hby at_10) rfl k) ?_
  refine own_by (fun _ k => XS.iload X0.here hx rfl (hb hby at_11) rfl k) ?_
  obtain ⟨nk, hnk⟩ : ∃ zq, zq = ((2 : Int32) + (p1 &&& (3 : Int32))) := ⟨_, rfl⟩
  show own_Go p e below _ s₁ (mkF m 13 #[.val (.int p1), .val (.int p2), .val (.int p3), .val (.long p4), .second, .val (.long p5), .second, .val (.long p6), .second, .val (.int ((2 : Int32) + (p1 &&& (3 : Int32)))), .unset, .unset, .unset, .unset, .unset, .unset, .unset, .unset, .unset, .unset, .unset, .unset, .unset] [(.int ((2 : Int32) + (p1 &&& (3 : Int32)))), (.int (p2 &&& (2147483647 : Int32)))])
  rw [← hnk]
  have hn : nk = 2 ∨ nk = 3 ∨ nk = 4 ∨ nk = 5 := by rw [hnk]; exact own_nk p1
  have hn0 := own_n0 hn
  refine own_by (fun _ k => iremM X0 hx rfl (hb hby at_13) rfl hn0 k) ?_
  refine own_by (fun _ k => XS.istore X0.here hx rfl (hb hby at_14) rfl (l' := #[.val (.int p1), .val (.int p2), .val (.int p3), .val (.long p4), .second, .val (.long p5), .second, .val (.long p6), .second, .val (.int nk), .val (.int ((p2 &&& (2147483647 : Int32)) % nk)), .unset, .unset, .unset, .unset, .unset, .unset, .unset, .unset, .unset, .unset, .unset, .unset]) rfl k) ?_
  show own_Go p e below _ s₁ (mkF m 16 #[.val (.int p1), .val (.int p2), .val (.int p3), .val (.long p4), .second, .val (.long p5), .second, .val (.long p6), .second, .val (.int nk), .val (.int ((p2 &&& (2147483647 : Int32)) % nk)), .unset, .unset, .unset, .unset, .unset, .unset, .unset, .unset, .unset, .unset, .unset, .unset] [])
  obtain ⟨ky, hky⟩ : ∃ zq, zq = ((p2 &&& (2147483647 : Int32)) % nk) := ⟨_, rfl⟩
  rw [← hky]
  have hk : ¬ ky < 0 ∧ ky < nk := by rw [hky]; exact own_ix p2 nk hn
  refine own_by (fun _ k => XS.iload X0.here hx rfl (hb hby at_16) rfl k) ?_
  refine own_by (fun _ k => XS.iconst X0.here hx rfl (hb hby at_18) k) ?_
  show own_Go p e below _ s₁ (mkF m 19 #[.val (.int p1), .val (.int p2), .val (.int p3), .val (.long p4), .second, .val (.long p5), .second, .val (.long p6), .second, .val (.int nk), .val (.int ky), .unset, .unset, .unset, .unset, .unset, .unset, .unset, .unset, .unset, .unset, .unset, .unset] [(.int (1 : Int32)), (.int ky)])
  refine own_by (fun _ k => XS.iadd X0.here hx rfl (hb hby at_19) rfl k) ?_
  refine own_by (fun _ k => XS.iload X0.here hx rfl (hb hby at_20) rfl k) ?_
  refine own_by (fun _ k => iremM X0 hx rfl (hb hby at_22) rfl hn0 k) ?_
  show own_Go p e below _ s₁ (mkF m 23 #[.val (.int p1), .val (.int p2), .val (.int p3), .val (.long p4), .second, .val (.long p5), .second, .val (.long p6), .second, .val (.int nk), .val (.int ky), .unset, .unset, .unset, .unset, .unset, .unset, .unset, .unset, .unset, .unset, .unset, .unset] [(.int ((ky + (1 : Int32)) % nk))])
  refine own_by (fun _ k => XS.istore X0.here hx rfl (hb hby at_23) rfl (l' := #[.val (.int p1), .val (.int p2), .val (.int p3), .val (.long p4), .second, .val (.long p5), .second, .val (.long p6), .second, .val (.int nk), .val (.int ky), .val (.int ((ky + (1 : Int32)) % nk)), .unset, .unset, .unset, .unset, .unset, .unset, .unset, .unset, .unset, .unset, .unset]) rfl k) ?_
  obtain ⟨ko, hko⟩ : ∃ zq, zq = ((ky + (1 : Int32)) % nk) := ⟨_, rfl⟩
  show own_Go p e below _ s₁ (mkF m 25 #[.val (.int p1), .val (.int p2), .val (.int p3), .val (.long p4), .second, .val (.long p5), .second, .val (.long p6), .second, .val (.int nk), .val (.int ky), .val (.int ((ky + (1 : Int32)) % nk)), .unset, .unset, .unset, .unset, .unset, .unset, .unset, .unset, .unset, .unset, .unset] [])
  rw [← hko]
  have hk2 : ¬ ko < 0 ∧ ko < nk := by rw [hko]; exact (own_ox ky nk hn hk).1
  have hkk : ky ≠ ko := by rw [hko]; exact (own_ox ky nk hn hk).2
  refine own_by (fun _ k => XS.iloadN X0.here hx rfl (hb hby at_25) rfl k) ?_
  refine own_by (fun _ k => Stand.ldcI X0 hx hown (mvT hZ (hw _ (List.mem_of_getElem? (i := 0) rfl))) rfl (hb hby at_26) k) ?_
  show own_Go p e below _ s₁ (mkF m 28 #[.val (.int p1), .val (.int p2), .val (.int p3), .val (.long p4), .second, .val (.long p5), .second, .val (.long p6), .second, .val (.int nk), .val (.int ky), .val (.int ko), .unset, .unset, .unset, .unset, .unset, .unset, .unset, .unset, .unset, .unset, .unset] [(.int (2147483647 : Int32)), (.int p3)])
  refine own_by (fun _ k => XS.iand X0.here hx rfl (hb hby at_28) rfl k) ?_
  refine own_by (fun _ k => XS.iconst X0.here hx rfl (hb hby at_29) k) ?_
  refine own_by (fun _ k => iremM X0 hx rfl (hb hby at_30) rfl (by decide) k) ?_
  show own_Go p e below _ s₁ (mkF m 31 #[.val (.int p1), .val (.int p2), .val (.int p3), .val (.long p4), .second, .val (.long p5), .second, .val (.long p6), .second, .val (.int nk), .val (.int ky), .val (.int ko), .unset, .unset, .unset, .unset, .unset, .unset, .unset, .unset, .unset, .unset, .unset] [(.int ((p3 &&& (2147483647 : Int32)) % (3 : Int32)))])
  refine own_by (fun _ k => XS.istore X0.here hx rfl (hb hby at_31) rfl (l' := #[.val (.int p1), .val (.int p2), .val (.int p3), .val (.long p4), .second, .val (.long p5), .second, .val (.long p6), .second, .val (.int nk), .val (.int ky), .val (.int ko), .val (.int ((p3 &&& (2147483647 : Int32)) % (3 : Int32))), .unset, .unset, .unset, .unset, .unset, .unset, .unset, .unset, .unset, .unset]) rfl k) ?_
  obtain ⟨md, hmd⟩ : ∃ zq, zq = ((p3 &&& (2147483647 : Int32)) % (3 : Int32)) := ⟨_, rfl⟩
  show own_Go p e below _ s₁ (mkF m 33 #[.val (.int p1), .val (.int p2), .val (.int p3), .val (.long p4), .second, .val (.long p5), .second, .val (.long p6), .second, .val (.int nk), .val (.int ky), .val (.int ko), .val (.int ((p3 &&& (2147483647 : Int32)) % (3 : Int32))), .unset, .unset, .unset, .unset, .unset, .unset, .unset, .unset, .unset, .unset] [])
  rw [← hmd]
  have hm : md = 0 ∨ md = 1 ∨ md = 2 := by rw [hmd]; exact own_three p3
  obtain ⟨T910, h910, X910, e910, E910, A910, D910, -, st910⟩ := newO X0 hx hZ hown (hw _ (List.mem_of_getElem? (i := 1) rfl)) (hw _ (List.mem_of_getElem? (i := 2) rfl)) (hw _ (List.mem_of_getElem? (i := 3) rfl)) e0 (g := (mkF m 33 #[.val (.int p1), .val (.int p2), .val (.int p3), .val (.long p4), .second, .val (.long p5), .second, .val (.long p6), .second, .val (.int nk), .val (.int ky), .val (.int ko), .val (.int md), .unset, .unset, .unset, .unset, .unset, .unset, .unset, .unset, .unset, .unset] [])) rfl (hb hby at_33) (by decide) (by decide)
  obtain ⟨b910, g910⟩ : ∃ zq, zq = h0.size := ⟨_, rfl⟩
  rw [← g910] at A910 D910 st910
  have og_b910 : n0 ≤ b910 := Nat.le_trans Z0 (Nat.le_of_eq g910.symm)
  have sz_b910 : h0.size ≤ b910 := Nat.le_trans K0.1 (Nat.le_of_eq g910.symm)
  have Z910 : n0 ≤ h910.size := Nat.le_trans Z0 E910.1
  have K911 := K0.ext E910
  have F_rising_b910 : Fld Z h910 b910 "com/example/eskew/eskew/server/split/CounterValues" "rising" "Lcom/example/eskew/eskew/server/split/CounterValues$WideSum;" .null := D910 (Or.inr (hw _ (List.mem_of_getElem? (i := 19) rfl))) (ty := (.object "com/example/eskew/eskew/server/split/CounterValues$WideSum")) (by decide)
  have F_falling_b910 : Fld Z h910 b910 "com/example/eskew/eskew/server/split/CounterValues" "falling" "Lcom/example/eskew/eskew/server/split/CounterValues$WideSum;" .null := D910 (Or.inr (hw _ (List.mem_of_getElem? (i := 21) rfl))) (ty := (.object "com/example/eskew/eskew/server/split/CounterValues$WideSum")) (by decide)
  have F_resting_b910 : Fld Z h910 b910 "com/example/eskew/eskew/server/split/CounterValues" "resting" "I" (.int (0 : Int32)) := D910 (Or.inl (hw _ (List.mem_of_getElem? (i := 23) rfl))) (ty := .int) (by decide)
  have F_nextToRest_b910 : Fld Z h910 b910 "com/example/eskew/eskew/server/split/CounterValues" "nextToRest" "I" (.int (0 : Int32)) := D910 (Or.inl (hw _ (List.mem_of_getElem? (i := 25) rfl))) (ty := .int) (by decide)
  have F_rereadNanos_b910 : Fld Z h910 b910 "com/example/eskew/eskew/server/split/CounterValues" "rereadNanos" "J" (.long (0 : Int64)) := D910 (Or.inr (hw _ (List.mem_of_getElem? (i := 27) rfl))) (ty := .long) (by decide)
  have F_tallies_b910 : Fld Z h910 b910 "com/example/eskew/eskew/server/split/CounterValues" "tallies" "[Lcom/example/eskew/eskew/server/split/CounterValues$Tally;" .null := D910 (Or.inr (hw _ (List.mem_of_getElem? (i := 31) rfl))) (ty := (.array (.object "com/example/eskew/eskew/server/split/CounterValues$Tally"))) (by decide)
  refine own_by st910 ?_
  refine own_by (fun _ k => XS.dup X910.here hx rfl (hb hby at_36) rfl rfl k) ?_
  show own_Go p e below _ T910 (mkF m 37 #[.val (.int p1), .val (.int p2), .val (.int p3), .val (.long p4), .second, .val (.long p5), .second, .val (.long p6), .second, .val (.int nk), .val (.int ky), .val (.int ko), .val (.int md), .unset, .unset, .unset, .unset, .unset, .unset, .unset, .unset, .unset, .unset] [(.ref b910), (.ref b910)])
  refine own_by (fun _ k => XS.iload X910.here hx rfl (hb hby at_37) rfl k) ?_
  refine own_by (fun _ k => Stand.ldc2J X910 hx hown (mvT hZ (hw _ (List.mem_of_getElem? (i := 4) rfl))) rfl (hb hby at_39) k) ?_
  refine own_by (fun _ k => XS.lload X910.here hx rfl (hb hby at_42) rfl k) ?_
  show own_Go p e below _ T910 (mkF m 44 #[.val (.int p1), .val (.int p2), .val (.int p3), .val (.long p4), .second, .val (.long p5), .second, .val (.long p6), .second, .val (.int nk), .val (.int ky), .val (.int ko), .val (.int md), .unset, .unset, .unset, .unset, .unset, .unset, .unset, .unset, .unset, .unset] [(.long p6), (.long (1000 : Int64)), (.int nk), (.ref b910), (.ref b910)])
  obtain ⟨_, T912, L912, X912, ⟨ta, kt, vs, rfl, N912q, K1', E1', R1', Q1', A1', gta, V1', All', Inj'⟩, st912⟩ := own_callI X910 hx hZ hown (y := (⟨"com/example/eskew/eskew/server/split/CounterValues", "<init>", "(IJJ)V"⟩ : MethodName)) rfl (hw _ (List.mem_of_getElem? (i := 5) rfl)) (hw _ (List.mem_of_getElem? (i := 6) rfl)) (hw _ (List.mem_of_getElem? (i := 3) rfl)) (hw _ (List.mem_of_getElem? (i := 7) rfl)) (by decide) (a := b910) (argsL := [(.int nk), (.long (1000 : Int64)), (.long p6)]) (rest := [(.ref b910)]) e910 (rm1 l Z a0 hw b910 nk (1000 : Int64) p6 h910 n0 Z910 hn og_b910 A910 F_rising_b910 F_falling_b910 F_resting_b910 F_nextToRest_b910 F_rereadNanos_b910 F_tallies_b910) (g := (mkF m 44 #[.val (.int p1), .val (.int p2), .val (.int p3), .val (.long p4), .second, .val (.long p5), .second, .val (.long p6), .second, .val (.int nk), .val (.int ky), .val (.int ko), .val (.int md), .unset, .unset, .unset, .unset, .unset, .unset, .unset, .unset, .unset, .unset] [(.long p6), (.long (1000 : Int64)), (.int nk), (.ref b910), (.ref b910)])) rfl (by rw [hml]; rfl) (lenOf pd_4 rfl) rfl (W := 1) (by show 2 * 0 + _ ≤ _; exact Nat.le_of_eq rfl) (hb hby at_44) (by decide) (by decide) (by decide) (by decide)
  have N912 := Fr.app N0 N912q
  refine own_by st912 ?_
  have ne_b910_ta : b910 ≠ ta := Nat.ne_of_lt (Nat.lt_of_lt_of_le A910.lt gta)
  have og_ta : n0 ≤ ta := Nat.le_trans Z910 gta
  have sz_ta : h0.size ≤ ta := Nat.le_trans K911.1 gta
  obtain ⟨t, hv, gt, nt, HT⟩ := All' ky hk.1 hk.2
  have ne_b910_t : b910 ≠ t := Nat.ne_of_lt (Nat.lt_of_lt_of_le A910.lt gt)
  have og_t : n0 ≤ t := Nat.le_trans Z910 gt
  have sz_t : h0.size ≤ t := Nat.le_trans K911.1 gt
  obtain ⟨t2, hv2, gt2, nt2, HT2⟩ := All' ko hk2.1 hk2.2
  have ne_b910_t2 : b910 ≠ t2 := Nat.ne_of_lt (Nat.lt_of_lt_of_le A910.lt gt2)
  have og_t2 : n0 ≤ t2 := Nat.le_trans Z910 gt2
  have sz_t2 : h0.size ≤ t2 := Nat.le_trans K911.1 gt2
  have ntt : t ≠ t2 := fun q => Inj' ky ko hk.1 hk.2 hk2.1 hk2.2 hkk (by rw [hv, hv2, q])
  have Vo := own_Vo0 All' Inj' hk hk2 hv hv2
  have Z912 : n0 ≤ T912.heap.size := Nat.le_trans Z910 K1'.1
  have K912c := K911.trans K1' (allS (Or.inr sz_b910) all0)
  rcases hm with rfl | rfl | rfl
  · show own_Go p e below _ T912 (mkF m 47 #[.val (.int p1), .val (.int p2), .val (.int p3), .val (.long p4), .second, .val (.long p5), .second, .val (.long p6), .second, .val (.int nk), .val (.int ky), .val (.int ko), .val (.int (0 : Int32)), .unset, .unset, .unset, .unset, .unset, .unset, .unset, .unset, .unset, .unset] [(.ref b910)])
    refine own_by (fun _ k => XS.astore X912.here hx rfl (hb hby at_47) rfl rfl (l' := #[.val (.int p1), .val (.int p2), .val (.int p3), .val (.long p4), .second, .val (.long p5), .second, .val (.long p6), .second, .val (.int nk), .val (.int ky), .val (.int ko), .val (.int (0 : Int32)), .val (.ref b910), .unset, .unset, .unset, .unset, .unset, .unset, .unset, .unset, .unset]) rfl k) ?_
    refine own_by (fun _ k => XS.iconst X912.here hx rfl (hb hby at_49) k) ?_
    refine own_by (fun _ k => XS.istore X912.here hx rfl (hb hby at_50) rfl (l' := #[.val (.int p1), .val (.int p2), .val (.int p3), .val (.long p4), .second, .val (.long p5), .second, .val (.long p6), .second, .val (.int nk), .val (.int ky), .val (.int ko), .val (.int (0 : Int32)), .val (.ref b910), .val (.int (1 : Int32)), .unset, .unset, .unset, .unset, .unset, .unset, .unset, .unset]) rfl k) ?_
    show own_Go p e below _ T912 (mkF m 52 #[.val (.int p1), .val (.int p2), .val (.int p3), .val (.long p4), .second, .val (.long p5), .second, .val (.long p6), .second, .val (.int nk), .val (.int ky), .val (.int ko), .val (.int (0 : Int32)), .val (.ref b910), .val (.int (1 : Int32)), .unset, .unset, .unset, .unset, .unset, .unset, .unset, .unset] [])
    refine own_by (fun _ k => XS.aload X912.here hx rfl (hb hby at_52) rfl rfl k) ?_
    refine own_by (fun _ k => XS.iload X912.here hx rfl (hb hby at_54) rfl k) ?_
    obtain ⟨_, T913, L913, X913, ⟨rfl, N913q, Kc913, Hc913⟩, st913⟩ := own_callV X912 hx hZ hown (y := (⟨"com/example/eskew/eskew/server/split/CounterValues", "writing", "(I)J"⟩ : MethodName)) (C := "com/example/eskew/eskew/server/split/CounterValues") (hw _ (List.mem_of_getElem? (i := 41) rfl)) (hw _ (List.mem_of_getElem? (i := 42) rfl)) (hw _ (List.mem_of_getElem? (i := 44) rfl)) (hw _ (List.mem_of_getElem? (i := 43) rfl)) (hw _ (List.mem_of_getElem? (i := 3) rfl)) (hw _ (List.mem_of_getElem? (i := 45) rfl)) (by decide) (a := b910) E1' (argsL := [(.int ky)]) (rest := []) rfl (rm5 l Z a0 hw [] b910 ta t kt vs nk ky p6 (0 : Int64) (0 : Int32) (0 : Int64) (0 : Int64) (0 : Int32) (0 : Int32) (0 : Int32) T912.heap n0 Z912 og_t hk hv ne_b910_t nt A1' V1' HT ) (g := (mkF m 56 #[.val (.int p1), .val (.int p2), .val (.int p3), .val (.long p4), .second, .val (.long p5), .second, .val (.long p6), .second, .val (.int nk), .val (.int ky), .val (.int ko), .val (.int (0 : Int32)), .val (.ref b910), .val (.int (1 : Int32)), .unset, .unset, .unset, .unset, .unset, .unset, .unset, .unset] [(.int ky), (.ref b910)])) rfl (by rw [hml]; rfl) (lenOf pd_10 rfl) rfl (W := 0) (by show 2 * 0 + _ ≤ _; exact Nat.le_of_eq rfl) (hb hby at_56) (by decide) (by decide) (by decide) (by decide)
    have N913 := Fr.app N912 N913q
    refine own_by st913 ?_
    show own_Go p e below _ T913 (mkF m 59 #[.val (.int p1), .val (.int p2), .val (.int p3), .val (.long p4), .second, .val (.long p5), .second, .val (.long p6), .second, .val (.int nk), .val (.int ky), .val (.int ko), .val (.int (0 : Int32)), .val (.ref b910), .val (.int (1 : Int32)), .unset, .unset, .unset, .unset, .unset, .unset, .unset, .unset] [(.long ((0 : Int64) + 1))])
    have Z913 : n0 ≤ T913.heap.size := Nat.le_trans Z912 Kc913.1
    have K913c := K912c.trans Kc913 (allS (Or.inr sz_t) all0)
    have Hd913 : own_Tal Z T913.heap t p6 (1 : Int64) (1 : Int32) (1 : Int64) (0 : Int64) (0 : Int32) (0 : Int32) (0 : Int32) := own_TalC Hc913 (by first | decide | rfl) (by first | decide | rfl) (by first | decide | rfl) (by first | decide | rfl) (by first | decide | rfl) (by first | decide | rfl) (by first | decide | rfl) (by first | decide | rfl)
    rw [show ((0 : Int64) + 1) = (1 : Int64) from by decide]
    refine own_by (fun _ k => XS.lstore X913.here hx rfl (hb hby at_59) rfl (l' := #[.val (.int p1), .val (.int p2), .val (.int p3), .val (.long p4), .second, .val (.long p5), .second, .val (.long p6), .second, .val (.int nk), .val (.int ky), .val (.int ko), .val (.int (0 : Int32)), .val (.ref b910), .val (.int (1 : Int32)), .val (.long (1 : Int64)), .second, .unset, .unset, .unset, .unset, .unset, .unset]) rfl k) ?_
    refine own_by (fun _ k => XS.iload X913.here hx rfl (hb hby at_61) rfl k) ?_
    show own_Go p e below _ T913 (mkF m 63 #[.val (.int p1), .val (.int p2), .val (.int p3), .val (.long p4), .second, .val (.long p5), .second, .val (.long p6), .second, .val (.int nk), .val (.int ky), .val (.int ko), .val (.int (0 : Int32)), .val (.ref b910), .val (.int (1 : Int32)), .val (.long (1 : Int64)), .second, .unset, .unset, .unset, .unset, .unset, .unset] [(.int (1 : Int32))])
    refine own_by (fun _ k => XS.lload X913.here hx rfl (hb hby at_63) rfl k) ?_
    refine own_by (fun _ k => XS.lconst X913.here hx rfl (hb hby at_65) k) ?_
    refine own_by (fun _ k => XS.lcmp X913.here hx rfl (hb hby at_66) rfl k) ?_
    show own_Go p e below _ T913 (mkF m 67 #[.val (.int p1), .val (.int p2), .val (.int p3), .val (.long p4), .second, .val (.long p5), .second, .val (.long p6), .second, .val (.int nk), .val (.int ky), .val (.int ko), .val (.int (0 : Int32)), .val (.ref b910), .val (.int (1 : Int32)), .val (.long (1 : Int64)), .second, .unset, .unset, .unset, .unset, .unset, .unset] [(.int (lcmpW (1 : Int64) (1 : Int64))), (.int (1 : Int32))])
    refine own_by (fun _ k => XS.ifNo X913.here hx rfl (hb hby at_67) rfl ((if0 _ _).trans (teq (by decide : (lcmpW (1 : Int64) (1 : Int64)) = (0 : Int32))).2) k) ?_
    refine own_by (fun _ k => XS.iconst X913.here hx rfl (hb hby at_70) k) ?_
    refine own_by (fun _ k => XS.goto X913.here hx rfl (pc0 := 71) (pc' := 75) rfl (hb hby at_71) (by decide) (by decide) k) ?_
    show own_Go p e below _ T913 (mkF m 75 #[.val (.int p1), .val (.int p2), .val (.int p3), .val (.long p4), .second, .val (.long p5), .second, .val (.long p6), .second, .val (.int nk), .val (.int ky), .val (.int ko), .val (.int (0 : Int32)), .val (.ref b910), .val (.int (1 : Int32)), .val (.long (1 : Int64)), .second, .unset, .unset, .unset, .unset, .unset, .unset] [(.int (1 : Int32)), (.int (1 : Int32))])
    refine own_by (fun _ k => XS.iand X913.here hx rfl (hb hby at_75) rfl k) ?_
    refine own_by (fun _ k => XS.istore X913.here hx rfl (hb hby at_76) rfl (l' := #[.val (.int p1), .val (.int p2), .val (.int p3), .val (.long p4), .second, .val (.long p5), .second, .val (.long p6), .second, .val (.int nk), .val (.int ky), .val (.int ko), .val (.int (0 : Int32)), .val (.ref b910), .val (.int ((1 : Int32) &&& (1 : Int32))), .val (.long (1 : Int64)), .second, .unset, .unset, .unset, .unset, .unset, .unset]) rfl k) ?_
    show own_Go p e below _ T913 (mkF m 78 #[.val (.int p1), .val (.int p2), .val (.int p3), .val (.long p4), .second, .val (.long p5), .second, .val (.long p6), .second, .val (.int nk), .val (.int ky), .val (.int ko), .val (.int (0 : Int32)), .val (.ref b910), .val (.int ((1 : Int32) &&& (1 : Int32))), .val (.long (1 : Int64)), .second, .unset, .unset, .unset, .unset, .unset, .unset] [])
    rw [show ((1 : Int32) &&& (1 : Int32)) = (1 : Int32) from by decide]
    refine own_by (fun _ k => XS.lconst X913.here hx rfl (hb hby at_78) k) ?_
    refine own_by (fun _ k => XS.lstore X913.here hx rfl (hb hby at_79) rfl (l' := #[.val (.int p1), .val (.int p2), .val (.int p3), .val (.long p4), .second, .val (.long p5), .second, .val (.long p6), .second, .val (.int nk), .val (.int ky), .val (.int ko), .val (.int (0 : Int32)), .val (.ref b910), .val (.int (1 : Int32)), .val (.long (1 : Int64)), .second, .val (.long (1 : Int64)), .second, .unset, .unset, .unset, .unset]) rfl k) ?_
    show own_Go p e below _ T913 (mkF m 81 #[.val (.int p1), .val (.int p2), .val (.int p3), .val (.long p4), .second, .val (.long p5), .second, .val (.long p6), .second, .val (.int nk), .val (.int ky), .val (.int ko), .val (.int (0 : Int32)), .val (.ref b910), .val (.int (1 : Int32)), .val (.long (1 : Int64)), .second, .val (.long (1 : Int64)), .second, .unset, .unset, .unset, .unset] [])
    refine own_by (fun _ k => XS.iload X913.here hx rfl (hb hby at_81) rfl k) ?_
    refine own_by (fun _ k => XS.iconst X913.here hx rfl (hb hby at_83) k) ?_
    refine own_by (fun _ k => XS.icmpYes X913.here hx rfl (pc0 := 84) (pc' := 123) rfl (hb hby at_84) rfl (feq (by decide : ¬ ((0 : Int32) = (1 : Int32)))).2 (by decide) (by decide) k) ?_
    show own_Go p e below _ T913 (mkF m 123 #[.val (.int p1), .val (.int p2), .val (.int p3), .val (.long p4), .second, .val (.long p5), .second, .val (.long p6), .second, .val (.int nk), .val (.int ky), .val (.int ko), .val (.int (0 : Int32)), .val (.ref b910), .val (.int (1 : Int32)), .val (.long (1 : Int64)), .second, .val (.long (1 : Int64)), .second, .unset, .unset, .unset, .unset] [])
    refine own_by (fun _ k => XS.iload X913.here hx rfl (hb hby at_123) rfl k) ?_
    refine own_by (fun _ k => XS.iconst X913.here hx rfl (hb hby at_125) k) ?_
    refine own_by (fun _ k => XS.icmpYes X913.here hx rfl (pc0 := 126) (pc' := 175) rfl (hb hby at_126) rfl (feq (by decide : ¬ ((0 : Int32) = (2 : Int32)))).2 (by decide) (by decide) k) ?_
    show own_Go p e below _ T913 (mkF m 175 #[.val (.int p1), .val (.int p2), .val (.int p3), .val (.long p4), .second, .val (.long p5), .second, .val (.long p6), .second, .val (.int nk), .val (.int ky), .val (.int ko), .val (.int (0 : Int32)), .val (.ref b910), .val (.int (1 : Int32)), .val (.long (1 : Int64)), .second, .val (.long (1 : Int64)), .second, .unset, .unset, .unset, .unset] [])
    refine own_by (fun _ k => XS.iload X913.here hx rfl (hb hby at_175) rfl k) ?_
    refine own_by (fun _ k => XS.aload X913.here hx rfl (hb hby at_177) rfl rfl k) ?_
    refine own_by (fun _ k => XS.iload X913.here hx rfl (hb hby at_179) rfl k) ?_
    show own_Go p e below _ T913 (mkF m 181 #[.val (.int p1), .val (.int p2), .val (.int p3), .val (.long p4), .second, .val (.long p5), .second, .val (.long p6), .second, .val (.int nk), .val (.int ky), .val (.int ko), .val (.int (0 : Int32)), .val (.ref b910), .val (.int (1 : Int32)), .val (.long (1 : Int64)), .second, .val (.long (1 : Int64)), .second, .unset, .unset, .unset, .unset] [(.int ko), (.ref b910), (.int (1 : Int32))])
    have f914 := (A1'.keep Kc913 (ninS ne_b910_t nin0))
    have f915 := (V1'.keep Kc913 (ninS nt nin0))
    have f916 := (own_TalK HT2 Kc913 (ninS (Ne.symm ntt) nin0))
    have f917 := (E1'.keep Kc913)
    obtain ⟨_, T918, L918, X918, ⟨rfl, N918q, Kc914, Hc914⟩, st918⟩ := own_callV X913 hx hZ hown (y := (⟨"com/example/eskew/eskew/server/split/CounterValues", "reading", "(I)J"⟩ : MethodName)) (C := "com/example/eskew/eskew/server/split/CounterValues") (hw _ (List.mem_of_getElem? (i := 78) rfl)) (hw _ (List.mem_of_getElem? (i := 79) rfl)) (hw _ (List.mem_of_getElem? (i := 81) rfl)) (hw _ (List.mem_of_getElem? (i := 80) rfl)) (hw _ (List.mem_of_getElem? (i := 3) rfl)) (hw _ (List.mem_of_getElem? (i := 82) rfl)) (by decide) (a := b910) f917 (argsL := [(.int ko)]) (rest := [(.int (1 : Int32))]) rfl (rm10 l Z a0 hw [] b910 ta t2 kt vs nk ko p6 (0 : Int64) (0 : Int32) (0 : Int64) (0 : Int64) (0 : Int32) (0 : Int32) (0 : Int32) T913.heap n0 Z913 og_t2 hk2 hv2 ne_b910_t2 nt2 f914 f915 f916 ) (g := (mkF m 181 #[.val (.int p1), .val (.int p2), .val (.int p3), .val (.long p4), .second, .val (.long p5), .second, .val (.long p6), .second, .val (.int nk), .val (.int ky), .val (.int ko), .val (.int (0 : Int32)), .val (.ref b910), .val (.int (1 : Int32)), .val (.long (1 : Int64)), .second, .val (.long (1 : Int64)), .second, .unset, .unset, .unset, .unset] [(.int ko), (.ref b910), (.int (1 : Int32))])) rfl (by rw [hml]; rfl) (lenOf pd_10 rfl) rfl (W := 1) (by show 2 * 0 + _ ≤ _; exact Nat.le_of_eq rfl) (hb hby at_181) (by decide) (by decide) (by decide) (by decide)
    have N918 := Fr.app N913 N918q
    refine own_by st918 ?_
    have Z918 : n0 ≤ T918.heap.size := Nat.le_trans Z913 Kc914.1
    have K918c := K913c.trans Kc914 (allS (Or.inr sz_t2) all0)
    have Hd914 : own_Tal Z T918.heap t2 p6 (0 : Int64) (0 : Int32) (0 : Int64) (0 : Int64) (0 : Int32) (0 : Int32) (1 : Int32) := own_TalC Hc914 (by first | decide | rfl) (by first | decide | rfl) (by first | decide | rfl) (by first | decide | rfl) (by first | decide | rfl) (by first | decide | rfl) (by first | decide | rfl) (by first | decide | rfl)
    show own_Go p e below _ T918 (mkF m 184 #[.val (.int p1), .val (.int p2), .val (.int p3), .val (.long p4), .second, .val (.long p5), .second, .val (.long p6), .second, .val (.int nk), .val (.int ky), .val (.int ko), .val (.int (0 : Int32)), .val (.ref b910), .val (.int (1 : Int32)), .val (.long (1 : Int64)), .second, .val (.long (1 : Int64)), .second, .unset, .unset, .unset, .unset] [(.long (if (0 : Int32) = 0 then (0 : Int64) else -1)), (.int (1 : Int32))])
    rw [show (if (0 : Int32) = 0 then (0 : Int64) else -1) = (0 : Int64) from by decide]
    refine own_by (fun _ k => XS.lconst X918.here hx rfl (hb hby at_184) k) ?_
    refine own_by (fun _ k => XS.lcmp X918.here hx rfl (hb hby at_185) rfl k) ?_
    show own_Go p e below _ T918 (mkF m 186 #[.val (.int p1), .val (.int p2), .val (.int p3), .val (.long p4), .second, .val (.long p5), .second, .val (.long p6), .second, .val (.int nk), .val (.int ky), .val (.int ko), .val (.int (0 : Int32)), .val (.ref b910), .val (.int (1 : Int32)), .val (.long (1 : Int64)), .second, .val (.long (1 : Int64)), .second, .unset, .unset, .unset, .unset] [(.int (lcmpW (0 : Int64) (0 : Int64))), (.int (1 : Int32))])
    refine own_by (fun _ k => XS.ifNo X918.here hx rfl (hb hby at_186) rfl ((if0 _ _).trans (teq (by decide : (lcmpW (0 : Int64) (0 : Int64)) = (0 : Int32))).2) k) ?_
    refine own_by (fun _ k => XS.iconst X918.here hx rfl (hb hby at_189) k) ?_
    refine own_by (fun _ k => XS.goto X918.here hx rfl (pc0 := 190) (pc' := 194) rfl (hb hby at_190) (by decide) (by decide) k) ?_
    show own_Go p e below _ T918 (mkF m 194 #[.val (.int p1), .val (.int p2), .val (.int p3), .val (.long p4), .second, .val (.long p5), .second, .val (.long p6), .second, .val (.int nk), .val (.int ky), .val (.int ko), .val (.int (0 : Int32)), .val (.ref b910), .val (.int (1 : Int32)), .val (.long (1 : Int64)), .second, .val (.long (1 : Int64)), .second, .unset, .unset, .unset, .unset] [(.int (1 : Int32)), (.int (1 : Int32))])
    refine own_by (fun _ k => XS.iand X918.here hx rfl (hb hby at_194) rfl k) ?_
    refine own_by (fun _ k => XS.istore X918.here hx rfl (hb hby at_195) rfl (l' := #[.val (.int p1), .val (.int p2), .val (.int p3), .val (.long p4), .second, .val (.long p5), .second, .val (.long p6), .second, .val (.int nk), .val (.int ky), .val (.int ko), .val (.int (0 : Int32)), .val (.ref b910), .val (.int ((1 : Int32) &&& (1 : Int32))), .val (.long (1 : Int64)), .second, .val (.long (1 : Int64)), .second, .unset, .unset, .unset, .unset]) rfl k) ?_
    show own_Go p e below _ T918 (mkF m 197 #[.val (.int p1), .val (.int p2), .val (.int p3), .val (.long p4), .second, .val (.long p5), .second, .val (.long p6), .second, .val (.int nk), .val (.int ky), .val (.int ko), .val (.int (0 : Int32)), .val (.ref b910), .val (.int ((1 : Int32) &&& (1 : Int32))), .val (.long (1 : Int64)), .second, .val (.long (1 : Int64)), .second, .unset, .unset, .unset, .unset] [])
    rw [show ((1 : Int32) &&& (1 : Int32)) = (1 : Int32) from by decide]
    refine own_by (fun _ k => XS.iload X918.here hx rfl (hb hby at_197) rfl k) ?_
    refine own_by (fun _ k => XS.aload X918.here hx rfl (hb hby at_199) rfl rfl k) ?_
    show own_Go p e below _ T918 (mkF m 201 #[.val (.int p1), .val (.int p2), .val (.int p3), .val (.long p4), .second, .val (.long p5), .second, .val (.long p6), .second, .val (.int nk), .val (.int ky), .val (.int ko), .val (.int (0 : Int32)), .val (.ref b910), .val (.int (1 : Int32)), .val (.long (1 : Int64)), .second, .val (.long (1 : Int64)), .second, .unset, .unset, .unset, .unset] [(.ref b910), (.int (1 : Int32))])
    refine own_by (fun _ k => XS.iload X918.here hx rfl (hb hby at_201) rfl k) ?_
    have f919 := (f914.keep Kc914 (ninS ne_b910_t2 nin0))
    have f920 := (f915.keep Kc914 (ninS nt2 nin0))
    have f921 := (own_TalK Hd913 Kc914 (ninS ntt nin0))
    have f922 := (f917.keep Kc914)
    obtain ⟨_, T923, L923, X923, ⟨rfl, N923q, Kc919, Hc919⟩, st923⟩ := own_callV X918 hx hZ hown (y := (⟨"com/example/eskew/eskew/server/split/CounterValues", "reading", "(I)J"⟩ : MethodName)) (C := "com/example/eskew/eskew/server/split/CounterValues") (hw _ (List.mem_of_getElem? (i := 78) rfl)) (hw _ (List.mem_of_getElem? (i := 79) rfl)) (hw _ (List.mem_of_getElem? (i := 81) rfl)) (hw _ (List.mem_of_getElem? (i := 80) rfl)) (hw _ (List.mem_of_getElem? (i := 3) rfl)) (hw _ (List.mem_of_getElem? (i := 82) rfl)) (by decide) (a := b910) f922 (argsL := [(.int ky)]) (rest := [(.int (1 : Int32))]) rfl (rm10 l Z a0 hw [] b910 ta t kt vs nk ky p6 (1 : Int64) (1 : Int32) (1 : Int64) (0 : Int64) (0 : Int32) (0 : Int32) (0 : Int32) T918.heap n0 Z918 og_t hk hv ne_b910_t nt f919 f920 f921 ) (g := (mkF m 203 #[.val (.int p1), .val (.int p2), .val (.int p3), .val (.long p4), .second, .val (.long p5), .second, .val (.long p6), .second, .val (.int nk), .val (.int ky), .val (.int ko), .val (.int (0 : Int32)), .val (.ref b910), .val (.int (1 : Int32)), .val (.long (1 : Int64)), .second, .val (.long (1 : Int64)), .second, .unset, .unset, .unset, .unset] [(.int ky), (.ref b910), (.int (1 : Int32))])) rfl (by rw [hml]; rfl) (lenOf pd_10 rfl) rfl (W := 1) (by show 2 * 0 + _ ≤ _; exact Nat.le_of_eq rfl) (hb hby at_203) (by decide) (by decide) (by decide) (by decide)
    have N923 := Fr.app N918 N923q
    refine own_by st923 ?_
    have Z923 : n0 ≤ T923.heap.size := Nat.le_trans Z918 Kc919.1
    have K923c := K918c.trans Kc919 (allS (Or.inr sz_t) all0)
    have Hd919 : own_Tal Z T923.heap t p6 (1 : Int64) (1 : Int32) (1 : Int64) (0 : Int64) (0 : Int32) (0 : Int32) (1 : Int32) := own_TalC Hc919 (by first | decide | rfl) (by first | decide | rfl) (by first | decide | rfl) (by first | decide | rfl) (by first | decide | rfl) (by first | decide | rfl) (by first | decide | rfl) (by first | decide | rfl)
    show own_Go p e below _ T923 (mkF m 206 #[.val (.int p1), .val (.int p2), .val (.int p3), .val (.long p4), .second, .val (.long p5), .second, .val (.long p6), .second, .val (.int nk), .val (.int ky), .val (.int ko), .val (.int (0 : Int32)), .val (.ref b910), .val (.int (1 : Int32)), .val (.long (1 : Int64)), .second, .val (.long (1 : Int64)), .second, .unset, .unset, .unset, .unset] [(.long (if (1 : Int32) = 0 then (1 : Int64) else -1)), (.int (1 : Int32))])
    rw [show (if (1 : Int32) = 0 then (1 : Int64) else -1) = (-1 : Int64) from by decide]
    refine own_by (fun _ k => Stand.ldc2J X923 hx hown (mvT hZ (hw _ (List.mem_of_getElem? (i := 86) rfl))) rfl (hb hby at_206) k) ?_
    refine own_by (fun _ k => XS.lcmp X923.here hx rfl (hb hby at_209) rfl k) ?_
    show own_Go p e below _ T923 (mkF m 210 #[.val (.int p1), .val (.int p2), .val (.int p3), .val (.long p4), .second, .val (.long p5), .second, .val (.long p6), .second, .val (.int nk), .val (.int ky), .val (.int ko), .val (.int (0 : Int32)), .val (.ref b910), .val (.int (1 : Int32)), .val (.long (1 : Int64)), .second, .val (.long (1 : Int64)), .second, .unset, .unset, .unset, .unset] [(.int (lcmpW (-1 : Int64) (-1 : Int64))), (.int (1 : Int32))])
    refine own_by (fun _ k => XS.ifNo X923.here hx rfl (hb hby at_210) rfl ((if0 _ _).trans (teq (by decide : (lcmpW (-1 : Int64) (-1 : Int64)) = (0 : Int32))).2) k) ?_
    refine own_by (fun _ k => XS.iconst X923.here hx rfl (hb hby at_213) k) ?_
    refine own_by (fun _ k => XS.goto X923.here hx rfl (pc0 := 214) (pc' := 218) rfl (hb hby at_214) (by decide) (by decide) k) ?_
    show own_Go p e below _ T923 (mkF m 218 #[.val (.int p1), .val (.int p2), .val (.int p3), .val (.long p4), .second, .val (.long p5), .second, .val (.long p6), .second, .val (.int nk), .val (.int ky), .val (.int ko), .val (.int (0 : Int32)), .val (.ref b910), .val (.int (1 : Int32)), .val (.long (1 : Int64)), .second, .val (.long (1 : Int64)), .second, .unset, .unset, .unset, .unset] [(.int (1 : Int32)), (.int (1 : Int32))])
    refine own_by (fun _ k => XS.iand X923.here hx rfl (hb hby at_218) rfl k) ?_
    refine own_by (fun _ k => XS.istore X923.here hx rfl (hb hby at_219) rfl (l' := #[.val (.int p1), .val (.int p2), .val (.int p3), .val (.long p4), .second, .val (.long p5), .second, .val (.long p6), .second, .val (.int nk), .val (.int ky), .val (.int ko), .val (.int (0 : Int32)), .val (.ref b910), .val (.int ((1 : Int32) &&& (1 : Int32))), .val (.long (1 : Int64)), .second, .val (.long (1 : Int64)), .second, .unset, .unset, .unset, .unset]) rfl k) ?_
    show own_Go p e below _ T923 (mkF m 221 #[.val (.int p1), .val (.int p2), .val (.int p3), .val (.long p4), .second, .val (.long p5), .second, .val (.long p6), .second, .val (.int nk), .val (.int ky), .val (.int ko), .val (.int (0 : Int32)), .val (.ref b910), .val (.int ((1 : Int32) &&& (1 : Int32))), .val (.long (1 : Int64)), .second, .val (.long (1 : Int64)), .second, .unset, .unset, .unset, .unset] [])
    rw [show ((1 : Int32) &&& (1 : Int32)) = (1 : Int32) from by decide]
    refine own_by (fun _ k => XS.aload X923.here hx rfl (hb hby at_221) rfl rfl k) ?_
    refine own_by (fun _ k => XS.iload X923.here hx rfl (hb hby at_223) rfl k) ?_
    show own_Go p e below _ T923 (mkF m 225 #[.val (.int p1), .val (.int p2), .val (.int p3), .val (.long p4), .second, .val (.long p5), .second, .val (.long p6), .second, .val (.int nk), .val (.int ky), .val (.int ko), .val (.int (0 : Int32)), .val (.ref b910), .val (.int (1 : Int32)), .val (.long (1 : Int64)), .second, .val (.long (1 : Int64)), .second, .unset, .unset, .unset, .unset] [(.int ky), (.ref b910)])
    refine own_by (fun _ k => XS.lload X923.here hx rfl (hb hby at_225) rfl k) ?_
    refine own_by (fun _ k => XS.lloadN X923.here hx rfl (hb hby at_227) rfl k) ?_
    refine own_by (fun _ k => XS.lload X923.here hx rfl (hb hby at_228) rfl k) ?_
    show own_Go p e below _ T923 (mkF m 230 #[.val (.int p1), .val (.int p2), .val (.int p3), .val (.long p4), .second, .val (.long p5), .second, .val (.long p6), .second, .val (.int nk), .val (.int ky), .val (.int ko), .val (.int (0 : Int32)), .val (.ref b910), .val (.int (1 : Int32)), .val (.long (1 : Int64)), .second, .val (.long (1 : Int64)), .second, .unset, .unset, .unset, .unset] [(.long p6), (.long p4), (.long (1 : Int64)), (.int ky), (.ref b910)])
    have f924 := (f922.keep Kc919)
    have f925 := (((R1'.keep Kc913 (ninS ne_b910_t nin0)).keep Kc914 (ninS ne_b910_t2 nin0)).keep Kc919 (ninS ne_b910_t nin0))
    have f926 := (f919.keep Kc919 (ninS ne_b910_t nin0))
    have f927 := (f920.keep Kc919 (ninS nt nin0))
    obtain ⟨_, T928, L928, X928, ⟨rfl, N928q, Kc926, Hc926⟩, st928⟩ := own_callV X923 hx hZ hown (y := (⟨"com/example/eskew/eskew/server/split/CounterValues", "wrote", "(IJJJ)V"⟩ : MethodName)) (C := "com/example/eskew/eskew/server/split/CounterValues") (hw _ (List.mem_of_getElem? (i := 52) rfl)) (hw _ (List.mem_of_getElem? (i := 53) rfl)) (hw _ (List.mem_of_getElem? (i := 55) rfl)) (hw _ (List.mem_of_getElem? (i := 54) rfl)) (hw _ (List.mem_of_getElem? (i := 3) rfl)) (hw _ (List.mem_of_getElem? (i := 56) rfl)) (by decide) (a := b910) f924 (argsL := [(.int ky), (.long (1 : Int64)), (.long p4), (.long p6)]) (rest := []) rfl (rm6a l Z a0 hw [] b910 ta t kt vs nk ky (1 : Int64) p4 p6 p6 (1 : Int64) (1 : Int32) (1 : Int64) (0 : Int64) (0 : Int32) (0 : Int32) (1 : Int32) T923.heap n0 Z923 og_t hk hv ne_b910_t nt f926 f927 Hd919 f924 f925 (by decide)) (g := (mkF m 230 #[.val (.int p1), .val (.int p2), .val (.int p3), .val (.long p4), .second, .val (.long p5), .second, .val (.long p6), .second, .val (.int nk), .val (.int ky), .val (.int ko), .val (.int (0 : Int32)), .val (.ref b910), .val (.int (1 : Int32)), .val (.long (1 : Int64)), .second, .val (.long (1 : Int64)), .second, .unset, .unset, .unset, .unset] [(.long p6), (.long p4), (.long (1 : Int64)), (.int ky), (.ref b910)])) rfl (by rw [hml]; rfl) (lenOf pd_11 rfl) rfl (W := 0) (by show 2 * 0 + _ ≤ _; exact Nat.le_of_eq rfl) (hb hby at_230) (by decide) (by decide) (by decide) (by decide)
    have N928 := Fr.app N923 N928q
    refine own_by st928 ?_
    have Z928 : n0 ≤ T928.heap.size := Nat.le_trans Z923 Kc926.1
    have K928c := K923c.trans Kc926 (allS (Or.inr sz_t) all0)
    have Hd926 : own_Tal Z T928.heap t p6 (1 : Int64) (0 : Int32) (1 : Int64) p4 (1 : Int32) (1 : Int32) (1 : Int32) := own_TalC Hc926 (by first | decide | rfl) (by first | decide | rfl) (by first | decide | rfl) (by first | decide | rfl) (by first | decide | rfl) (by first | decide | rfl) (by first | decide | rfl) (by first | decide | rfl)
    refine own_by (fun _ k => XS.iload X928.here hx rfl (hb hby at_233) rfl k) ?_
    refine own_by (fun _ k => XS.iconst X928.here hx rfl (hb hby at_235) k) ?_
    show own_Go p e below _ T928 (mkF m 236 #[.val (.int p1), .val (.int p2), .val (.int p3), .val (.long p4), .second, .val (.long p5), .second, .val (.long p6), .second, .val (.int nk), .val (.int ky), .val (.int ko), .val (.int (0 : Int32)), .val (.ref b910), .val (.int (1 : Int32)), .val (.long (1 : Int64)), .second, .val (.long (1 : Int64)), .second, .unset, .unset, .unset, .unset] [(.int (1 : Int32)), (.int (0 : Int32))])
    refine own_by (fun _ k => XS.icmpYes X928.here hx rfl (pc0 := 236) (pc' := 251) rfl (hb hby at_236) rfl (feq (by decide : ¬ ((0 : Int32) = (1 : Int32)))).2 (by decide) (by decide) k) ?_
    refine own_by (fun _ k => XS.aload X928.here hx rfl (hb hby at_251) rfl rfl k) ?_
    have HO1 := HO.keep K928c all0
    have f929 := (own_TalK (own_TalK Hd914 Kc919 (ninS (Ne.symm ntt) nin0)) Kc926 (ninS (Ne.symm ntt) nin0))
    have f930 := (own_VoK (own_VoK (own_VoK (own_VoK Vo Kc913 (allS (P := fun x => x = t ∨ x = t2) (Or.inl rfl) all0)) Kc914 (allS (P := fun x => x = t ∨ x = t2) (Or.inr rfl) all0)) Kc919 (allS (P := fun x => x = t ∨ x = t2) (Or.inl rfl) all0)) Kc926 (allS (P := fun x => x = t ∨ x = t2) (Or.inl rfl) all0))
    have HV : own_Vals Z T928.heap vs nk ky p4 := own_mkV f930 hkk hv hv2 Hd926.2.2.2.2.2.1 f929.2.2.2.2.2.1
    have f931 := (f924.keep Kc926)
    have f932 := (f926.keep Kc926 (ninS ne_b910_t nin0))
    have f933 := (f927.keep Kc926 (ninS nt nin0))
    obtain ⟨_, T934, L934, X934, ⟨r', rfl, N934q, Kt', Er', Fr'⟩, st934⟩ := own_callV X928 hx hZ hown (y := (⟨"com/example/eskew/eskew/server/split/CounterValues", "total", "()Ljava/lang/Long;"⟩ : MethodName)) (C := "com/example/eskew/eskew/server/split/CounterValues") (hw _ (List.mem_of_getElem? (i := 87) rfl)) (hw _ (List.mem_of_getElem? (i := 88) rfl)) (hw _ (List.mem_of_getElem? (i := 90) rfl)) (hw _ (List.mem_of_getElem? (i := 89) rfl)) (hw _ (List.mem_of_getElem? (i := 3) rfl)) (hw _ (List.mem_of_getElem? (i := 91) rfl)) (by decide) (a := b910) f931 (argsL := []) (rest := []) rfl (rm11 l Z a0 hw ca cc b910 ta kt vs nk ky p4 T928.heap n0 Z928 HB HS HO1 hn f931 hk f932 f933 HV) (g := (mkF m 253 #[.val (.int p1), .val (.int p2), .val (.int p3), .val (.long p4), .second, .val (.long p5), .second, .val (.long p6), .second, .val (.int nk), .val (.int ky), .val (.int ko), .val (.int (0 : Int32)), .val (.ref b910), .val (.int (1 : Int32)), .val (.long (1 : Int64)), .second, .val (.long (1 : Int64)), .second, .unset, .unset, .unset, .unset] [(.ref b910)])) rfl (by rw [hml]; rfl) (lenOf pd_9 rfl) rfl (W := 0) (by show 2 * 0 + _ ≤ _; exact Nat.le_of_eq rfl) (hb hby at_253) (by decide) (by decide) (by decide) (by decide)
    have N934 := Fr.app N928 N934q
    refine own_by st934 ?_
    show own_Go p e below _ T934 (mkF m 256 #[.val (.int p1), .val (.int p2), .val (.int p3), .val (.long p4), .second, .val (.long p5), .second, .val (.long p6), .second, .val (.int nk), .val (.int ky), .val (.int ko), .val (.int (0 : Int32)), .val (.ref b910), .val (.int (1 : Int32)), .val (.long (1 : Int64)), .second, .val (.long (1 : Int64)), .second, .unset, .unset, .unset, .unset] [(.ref r')])
    have Z934 : n0 ≤ T934.heap.size := Nat.le_trans Z928 Kt'.1
    have K934c := K928c.trans Kt' all0
    refine own_by (fun _ k => XS.astore X934.here hx rfl (hb hby at_256) rfl rfl (l' := #[.val (.int p1), .val (.int p2), .val (.int p3), .val (.long p4), .second, .val (.long p5), .second, .val (.long p6), .second, .val (.int nk), .val (.int ky), .val (.int ko), .val (.int (0 : Int32)), .val (.ref b910), .val (.int (1 : Int32)), .val (.long (1 : Int64)), .second, .val (.long (1 : Int64)), .second, .val (.ref r'), .unset, .unset, .unset]) rfl k) ?_
    refine own_by (fun _ k => XS.iload X934.here hx rfl (hb hby at_258) rfl k) ?_
    refine own_by (fun _ k => XS.iconst X934.here hx rfl (hb hby at_260) k) ?_
    show own_Go p e below _ T934 (mkF m 261 #[.val (.int p1), .val (.int p2), .val (.int p3), .val (.long p4), .second, .val (.long p5), .second, .val (.long p6), .second, .val (.int nk), .val (.int ky), .val (.int ko), .val (.int (0 : Int32)), .val (.ref b910), .val (.int (1 : Int32)), .val (.long (1 : Int64)), .second, .val (.long (1 : Int64)), .second, .val (.ref r'), .unset, .unset, .unset] [(.int (1 : Int32)), (.int (0 : Int32))])
    refine own_by (fun _ k => XS.icmpYes X934.here hx rfl (pc0 := 261) (pc' := 269) rfl (hb hby at_261) rfl (feq (by decide : ¬ ((0 : Int32) = (1 : Int32)))).2 (by decide) (by decide) k) ?_
    refine own_by (fun _ k => XS.lloadN X934.here hx rfl (hb hby at_269) rfl k) ?_
    refine own_by (fun _ k => XS.lstore X934.here hx rfl (hb hby at_270) rfl (l' := #[.val (.int p1), .val (.int p2), .val (.int p3), .val (.long p4), .second, .val (.long p5), .second, .val (.long p6), .second, .val (.int nk), .val (.int ky), .val (.int ko), .val (.int (0 : Int32)), .val (.ref b910), .val (.int (1 : Int32)), .val (.long (1 : Int64)), .second, .val (.long (1 : Int64)), .second, .val (.ref r'), .val (.long p4), .second, .unset]) rfl k) ?_
    show own_Go p e below _ T934 (mkF m 272 #[.val (.int p1), .val (.int p2), .val (.int p3), .val (.long p4), .second, .val (.long p5), .second, .val (.long p6), .second, .val (.int nk), .val (.int ky), .val (.int ko), .val (.int (0 : Int32)), .val (.ref b910), .val (.int (1 : Int32)), .val (.long (1 : Int64)), .second, .val (.long (1 : Int64)), .second, .val (.ref r'), .val (.long p4), .second, .unset] [])
    refine own_by (fun _ k => XS.iload X934.here hx rfl (hb hby at_272) rfl k) ?_
    refine own_by (fun _ k => XS.aload X934.here hx rfl (hb hby at_274) rfl rfl k) ?_
    refine own_by (fun _ k => XS.ifnullNo X934.here hx rfl (hb hby at_276) rfl k) ?_
    show own_Go p e below _ T934 (mkF m 279 #[.val (.int p1), .val (.int p2), .val (.int p3), .val (.long p4), .second, .val (.long p5), .second, .val (.long p6), .second, .val (.int nk), .val (.int ky), .val (.int ko), .val (.int (0 : Int32)), .val (.ref b910), .val (.int (1 : Int32)), .val (.long (1 : Int64)), .second, .val (.long (1 : Int64)), .second, .val (.ref r'), .val (.long p4), .second, .unset] [(.int (1 : Int32))])
    refine own_by (fun _ k => XS.aload X934.here hx rfl (hb hby at_279) rfl rfl k) ?_
    obtain ⟨_, T935, L935, X935, ⟨rfl, N935q, e935⟩, st935⟩ := own_callV X934 hx hZ hown (y := (⟨"java/lang/Long", "longValue", "()J"⟩ : MethodName)) (C := "java/lang/Long") (hw _ (List.mem_of_getElem? (i := 130) rfl)) (hw _ (List.mem_of_getElem? (i := 131) rfl)) (hw _ (List.mem_of_getElem? (i := 133) rfl)) (hw _ (List.mem_of_getElem? (i := 132) rfl)) (hw _ (List.mem_of_getElem? (i := 112) rfl)) (hw _ (List.mem_of_getElem? (i := 134) rfl)) (by decide) (a := r') Er' (argsL := []) (rest := [(.int (1 : Int32))]) rfl (rm18 l Z a0 hw [] r' p4 T934.heap n0 Z934 Fr') (g := (mkF m 281 #[.val (.int p1), .val (.int p2), .val (.int p3), .val (.long p4), .second, .val (.long p5), .second, .val (.long p6), .second, .val (.int nk), .val (.int ky), .val (.int ko), .val (.int (0 : Int32)), .val (.ref b910), .val (.int (1 : Int32)), .val (.long (1 : Int64)), .second, .val (.long (1 : Int64)), .second, .val (.ref r'), .val (.long p4), .second, .unset] [(.ref r'), (.int (1 : Int32))])) rfl (by rw [hml]; rfl) (lenOf pd_12 rfl) rfl (W := 1) (by show 2 * 0 + _ ≤ _; exact Nat.le_of_eq rfl) (hb hby at_281) (by decide) (by decide) (by decide) (by decide)
    have N935 := Fr.app N934 N935q
    refine own_by st935 ?_
    refine own_by (fun _ k => XS.lload X935.here hx rfl (hb hby at_284) rfl k) ?_
    show own_Go p e below _ T935 (mkF m 286 #[.val (.int p1), .val (.int p2), .val (.int p3), .val (.long p4), .second, .val (.long p5), .second, .val (.long p6), .second, .val (.int nk), .val (.int ky), .val (.int ko), .val (.int (0 : Int32)), .val (.ref b910), .val (.int (1 : Int32)), .val (.long (1 : Int64)), .second, .val (.long (1 : Int64)), .second, .val (.ref r'), .val (.long p4), .second, .unset] [(.long p4), (.long p4), (.int (1 : Int32))])
    refine own_by (fun _ k => XS.lcmp X935.here hx rfl (hb hby at_286) rfl k) ?_
    refine own_by (fun _ k => XS.ifNo X935.here hx rfl (hb hby at_287) rfl ((if0 _ _).trans (teq ((lw_eq _ _).mpr rfl : (lcmpW p4 p4) = (0 : Int32))).2) k) ?_
    refine own_by (fun _ k => XS.iconst X935.here hx rfl (hb hby at_290) k) ?_
    show own_Go p e below _ T935 (mkF m 291 #[.val (.int p1), .val (.int p2), .val (.int p3), .val (.long p4), .second, .val (.long p5), .second, .val (.long p6), .second, .val (.int nk), .val (.int ky), .val (.int ko), .val (.int (0 : Int32)), .val (.ref b910), .val (.int (1 : Int32)), .val (.long (1 : Int64)), .second, .val (.long (1 : Int64)), .second, .val (.ref r'), .val (.long p4), .second, .unset] [(.int (1 : Int32)), (.int (1 : Int32))])
    refine own_by (fun _ k => XS.goto X935.here hx rfl (pc0 := 291) (pc' := 295) rfl (hb hby at_291) (by decide) (by decide) k) ?_
    refine own_by (fun _ k => XS.iand X935.here hx rfl (hb hby at_295) rfl k) ?_
    refine own_by (fun _ k => XS.istore X935.here hx rfl (hb hby at_296) rfl (l' := #[.val (.int p1), .val (.int p2), .val (.int p3), .val (.long p4), .second, .val (.long p5), .second, .val (.long p6), .second, .val (.int nk), .val (.int ky), .val (.int ko), .val (.int (0 : Int32)), .val (.ref b910), .val (.int ((1 : Int32) &&& (1 : Int32))), .val (.long (1 : Int64)), .second, .val (.long (1 : Int64)), .second, .val (.ref r'), .val (.long p4), .second, .unset]) rfl k) ?_
    show own_Go p e below _ T935 (mkF m 298 #[.val (.int p1), .val (.int p2), .val (.int p3), .val (.long p4), .second, .val (.long p5), .second, .val (.long p6), .second, .val (.int nk), .val (.int ky), .val (.int ko), .val (.int (0 : Int32)), .val (.ref b910), .val (.int ((1 : Int32) &&& (1 : Int32))), .val (.long (1 : Int64)), .second, .val (.long (1 : Int64)), .second, .val (.ref r'), .val (.long p4), .second, .unset] [])
    rw [show ((1 : Int32) &&& (1 : Int32)) = (1 : Int32) from by decide]
    refine own_by (fun _ k => XS.aload X935.here hx rfl (hb hby at_298) rfl rfl k) ?_
    refine own_by (fun _ k => XS.iload X935.here hx rfl (hb hby at_300) rfl k) ?_
    show own_Go p e below _ T935 (mkF m 302 #[.val (.int p1), .val (.int p2), .val (.int p3), .val (.long p4), .second, .val (.long p5), .second, .val (.long p6), .second, .val (.int nk), .val (.int ky), .val (.int ko), .val (.int (0 : Int32)), .val (.ref b910), .val (.int (1 : Int32)), .val (.long (1 : Int64)), .second, .val (.long (1 : Int64)), .second, .val (.ref r'), .val (.long p4), .second, .unset] [(.int ky), (.ref b910)])
    refine own_by (fun _ k => XS.lload X935.here hx rfl (hb hby at_302) rfl k) ?_
    have f936 := (f932.keep Kt' nin0)
    have f937 := (f933.keep Kt' nin0)
    have f938 := (own_TalK Hd926 Kt' nin0)
    have f939 := (f931.keep Kt')
    have f940 := (((((Q1'.keep Kc913 (ninS ne_b910_t nin0)).keep Kc914 (ninS ne_b910_t2 nin0)).keep Kc919 (ninS ne_b910_t nin0)).keep Kc926 (ninS ne_b910_t nin0)).keep Kt' nin0)
    obtain ⟨_, T941, L941, X941, ⟨rfl, N941q, e941⟩, st941⟩ := own_callV X935 hx hZ hown (y := (⟨"com/example/eskew/eskew/server/split/CounterValues", "wanted", "(IJ)Z"⟩ : MethodName)) (C := "com/example/eskew/eskew/server/split/CounterValues") (hw _ (List.mem_of_getElem? (i := 135) rfl)) (hw _ (List.mem_of_getElem? (i := 136) rfl)) (hw _ (List.mem_of_getElem? (i := 138) rfl)) (hw _ (List.mem_of_getElem? (i := 137) rfl)) (hw _ (List.mem_of_getElem? (i := 3) rfl)) (hw _ (List.mem_of_getElem? (i := 139) rfl)) (by decide) (a := b910) f939 (argsL := [(.int ky), (.long p6)]) (rest := []) e935 (rm19b l Z a0 hw [] b910 ta t kt vs nk ky p6 (1000 : Int64) p6 (1 : Int64) (0 : Int32) (1 : Int64) p4 (1 : Int32) (1 : Int32) (1 : Int32) T934.heap n0 Z934 og_t hk hv ne_b910_t nt f936 f937 f938 f939 f940 (by decide) (by rw [Int64.sub_self]; decide)) (g := (mkF m 304 #[.val (.int p1), .val (.int p2), .val (.int p3), .val (.long p4), .second, .val (.long p5), .second, .val (.long p6), .second, .val (.int nk), .val (.int ky), .val (.int ko), .val (.int (0 : Int32)), .val (.ref b910), .val (.int (1 : Int32)), .val (.long (1 : Int64)), .second, .val (.long (1 : Int64)), .second, .val (.ref r'), .val (.long p4), .second, .unset] [(.long p6), (.int ky), (.ref b910)])) rfl (by rw [hml]; rfl) (lenOf pd_13 rfl) rfl (W := 0) (by show 2 * 0 + _ ≤ _; exact Nat.le_of_eq rfl) (hb hby at_304) (by decide) (by decide) (by decide) (by decide)
    have N941 := Fr.app N935 N941q
    refine own_by st941 ?_
    refine own_by (fun _ k => XS.istore X941.here hx rfl (hb hby at_307) rfl (l' := #[.val (.int p1), .val (.int p2), .val (.int p3), .val (.long p4), .second, .val (.long p5), .second, .val (.long p6), .second, .val (.int nk), .val (.int ky), .val (.int ko), .val (.int (0 : Int32)), .val (.ref b910), .val (.int (1 : Int32)), .val (.long (1 : Int64)), .second, .val (.long (1 : Int64)), .second, .val (.ref r'), .val (.long p4), .second, .val (.int (0 : Int32))]) rfl k) ?_
    show own_Go p e below _ T941 (mkF m 309 #[.val (.int p1), .val (.int p2), .val (.int p3), .val (.long p4), .second, .val (.long p5), .second, .val (.long p6), .second, .val (.int nk), .val (.int ky), .val (.int ko), .val (.int (0 : Int32)), .val (.ref b910), .val (.int (1 : Int32)), .val (.long (1 : Int64)), .second, .val (.long (1 : Int64)), .second, .val (.ref r'), .val (.long p4), .second, .val (.int (0 : Int32))] [])
    refine own_by (fun _ k => XS.iload X941.here hx rfl (hb hby at_309) rfl k) ?_
    refine own_by (fun _ k => XS.iload X941.here hx rfl (hb hby at_311) rfl k) ?_
    refine own_by (fun _ k => XS.iload X941.here hx rfl (hb hby at_313) rfl k) ?_
    show own_Go p e below _ T941 (mkF m 315 #[.val (.int p1), .val (.int p2), .val (.int p3), .val (.long p4), .second, .val (.long p5), .second, .val (.long p6), .second, .val (.int nk), .val (.int ky), .val (.int ko), .val (.int (0 : Int32)), .val (.ref b910), .val (.int (1 : Int32)), .val (.long (1 : Int64)), .second, .val (.long (1 : Int64)), .second, .val (.ref r'), .val (.long p4), .second, .val (.int (0 : Int32))] [(.int (0 : Int32)), (.int (0 : Int32)), (.int (1 : Int32))])
    refine own_by (fun _ k => XS.iconst X941.here hx rfl (hb hby at_315) k) ?_
    refine own_by (fun _ k => XS.icmpYes X941.here hx rfl (pc0 := 316) (pc' := 323) rfl (hb hby at_316) rfl (feq (by decide : ¬ ((0 : Int32) = (1 : Int32)))).2 (by decide) (by decide) k) ?_
    refine own_by (fun _ k => XS.iconst X941.here hx rfl (hb hby at_323) k) ?_
    show own_Go p e below _ T941 (mkF m 324 #[.val (.int p1), .val (.int p2), .val (.int p3), .val (.long p4), .second, .val (.long p5), .second, .val (.long p6), .second, .val (.int nk), .val (.int ky), .val (.int ko), .val (.int (0 : Int32)), .val (.ref b910), .val (.int (1 : Int32)), .val (.long (1 : Int64)), .second, .val (.long (1 : Int64)), .second, .val (.ref r'), .val (.long p4), .second, .val (.int (0 : Int32))] [(.int (0 : Int32)), (.int (0 : Int32)), (.int (1 : Int32))])
    refine own_by (fun _ k => XS.icmpNo X941.here hx rfl (hb hby at_324) rfl (teq (by decide : (0 : Int32) = (0 : Int32))).2 k) ?_
    refine own_by (fun _ k => XS.iconst X941.here hx rfl (hb hby at_327) k) ?_
    refine own_by (fun _ k => XS.goto X941.here hx rfl (pc0 := 328) (pc' := 332) rfl (hb hby at_328) (by decide) (by decide) k) ?_
    show own_Go p e below _ T941 (mkF m 332 #[.val (.int p1), .val (.int p2), .val (.int p3), .val (.long p4), .second, .val (.long p5), .second, .val (.long p6), .second, .val (.int nk), .val (.int ky), .val (.int ko), .val (.int (0 : Int32)), .val (.ref b910), .val (.int (1 : Int32)), .val (.long (1 : Int64)), .second, .val (.long (1 : Int64)), .second, .val (.ref r'), .val (.long p4), .second, .val (.int (0 : Int32))] [(.int (1 : Int32)), (.int (1 : Int32))])
    refine own_by (fun _ k => XS.iand X941.here hx rfl (hb hby at_332) rfl k) ?_
    refine own_by (fun _ k => XS.istore X941.here hx rfl (hb hby at_333) rfl (l' := #[.val (.int p1), .val (.int p2), .val (.int p3), .val (.long p4), .second, .val (.long p5), .second, .val (.long p6), .second, .val (.int nk), .val (.int ky), .val (.int ko), .val (.int (0 : Int32)), .val (.ref b910), .val (.int ((1 : Int32) &&& (1 : Int32))), .val (.long (1 : Int64)), .second, .val (.long (1 : Int64)), .second, .val (.ref r'), .val (.long p4), .second, .val (.int (0 : Int32))]) rfl k) ?_
    show own_Go p e below _ T941 (mkF m 335 #[.val (.int p1), .val (.int p2), .val (.int p3), .val (.long p4), .second, .val (.long p5), .second, .val (.long p6), .second, .val (.int nk), .val (.int ky), .val (.int ko), .val (.int (0 : Int32)), .val (.ref b910), .val (.int ((1 : Int32) &&& (1 : Int32))), .val (.long (1 : Int64)), .second, .val (.long (1 : Int64)), .second, .val (.ref r'), .val (.long p4), .second, .val (.int (0 : Int32))] [])
    rw [show ((1 : Int32) &&& (1 : Int32)) = (1 : Int32) from by decide]
    refine own_by (fun _ k => XS.iload X941.here hx rfl (hb hby at_335) rfl k) ?_
    refine own_by (fun _ k => XS.aload X941.here hx rfl (hb hby at_337) rfl rfl k) ?_
    show own_Go p e below _ T941 (mkF m 339 #[.val (.int p1), .val (.int p2), .val (.int p3), .val (.long p4), .second, .val (.long p5), .second, .val (.long p6), .second, .val (.int nk), .val (.int ky), .val (.int ko), .val (.int (0 : Int32)), .val (.ref b910), .val (.int (1 : Int32)), .val (.long (1 : Int64)), .second, .val (.long (1 : Int64)), .second, .val (.ref r'), .val (.long p4), .second, .val (.int (0 : Int32))] [(.ref b910), (.int (1 : Int32))])
    refine own_by (fun _ k => XS.iload X941.here hx rfl (hb hby at_339) rfl k) ?_
    obtain ⟨_, T942, L942, X942, ⟨rfl, N942q, Kc942, Hc942⟩, st942⟩ := own_callV X941 hx hZ hown (y := (⟨"com/example/eskew/eskew/server/split/CounterValues", "reading", "(I)J"⟩ : MethodName)) (C := "com/example/eskew/eskew/server/split/CounterValues") (hw _ (List.mem_of_getElem? (i := 78) rfl)) (hw _ (List.mem_of_getElem? (i := 79) rfl)) (hw _ (List.mem_of_getElem? (i := 81) rfl)) (hw _ (List.mem_of_getElem? (i := 80) rfl)) (hw _ (List.mem_of_getElem? (i := 3) rfl)) (hw _ (List.mem_of_getElem? (i := 82) rfl)) (by decide) (a := b910) f939 (argsL := [(.int ky)]) (rest := [(.int (1 : Int32))]) e941 (rm10 l Z a0 hw [] b910 ta t kt vs nk ky p6 (1 : Int64) (0 : Int32) (1 : Int64) p4 (1 : Int32) (1 : Int32) (1 : Int32) T934.heap n0 Z934 og_t hk hv ne_b910_t nt f936 f937 f938 ) (g := (mkF m 341 #[.val (.int p1), .val (.int p2), .val (.int p3), .val (.long p4), .second, .val (.long p5), .second, .val (.long p6), .second, .val (.int nk), .val (.int ky), .val (.int ko), .val (.int (0 : Int32)), .val (.ref b910), .val (.int (1 : Int32)), .val (.long (1 : Int64)), .second, .val (.long (1 : Int64)), .second, .val (.ref r'), .val (.long p4), .second, .val (.int (0 : Int32))] [(.int ky), (.ref b910), (.int (1 : Int32))])) rfl (by rw [hml]; rfl) (lenOf pd_10 rfl) rfl (W := 1) (by show 2 * 0 + _ ≤ _; exact Nat.le_of_eq rfl) (hb hby at_341) (by decide) (by decide) (by decide) (by decide)
    have N942 := Fr.app N941 N942q
    refine own_by st942 ?_
    have Z942 : n0 ≤ T942.heap.size := Nat.le_trans Z934 Kc942.1
    have K942c := K934c.trans Kc942 (allS (Or.inr sz_t) all0)
    have Hd942 : own_Tal Z T942.heap t p6 (1 : Int64) (0 : Int32) (1 : Int64) p4 (1 : Int32) (1 : Int32) (2 : Int32) := own_TalC Hc942 (by first | decide | rfl) (by first | decide | rfl) (by first | decide | rfl) (by first | decide | rfl) (by first | decide | rfl) (by first | decide | rfl) (by first | decide | rfl) (by first | decide | rfl)
    show own_Go p e below _ T942 (mkF m 344 #[.val (.int p1), .val (.int p2), .val (.int p3), .val (.long p4), .second, .val (.long p5), .second, .val (.long p6), .second, .val (.int nk), .val (.int ky), .val (.int ko), .val (.int (0 : Int32)), .val (.ref b910), .val (.int (1 : Int32)), .val (.long (1 : Int64)), .second, .val (.long (1 : Int64)), .second, .val (.ref r'), .val (.long p4), .second, .val (.int (0 : Int32))] [(.long (if (0 : Int32) = 0 then (1 : Int64) else -1)), (.int (1 : Int32))])
    rw [show (if (0 : Int32) = 0 then (1 : Int64) else -1) = (1 : Int64) from by decide]
    refine own_by (fun _ k => XS.lload X942.here hx rfl (hb hby at_344) rfl k) ?_
    refine own_by (fun _ k => XS.lcmp X942.here hx rfl (hb hby at_346) rfl k) ?_
    show own_Go p e below _ T942 (mkF m 347 #[.val (.int p1), .val (.int p2), .val (.int p3), .val (.long p4), .second, .val (.long p5), .second, .val (.long p6), .second, .val (.int nk), .val (.int ky), .val (.int ko), .val (.int (0 : Int32)), .val (.ref b910), .val (.int (1 : Int32)), .val (.long (1 : Int64)), .second, .val (.long (1 : Int64)), .second, .val (.ref r'), .val (.long p4), .second, .val (.int (0 : Int32))] [(.int (lcmpW (1 : Int64) (1 : Int64))), (.int (1 : Int32))])
    refine own_by (fun _ k => XS.ifNo X942.here hx rfl (hb hby at_347) rfl ((if0 _ _).trans (teq (by decide : (lcmpW (1 : Int64) (1 : Int64)) = (0 : Int32))).2) k) ?_
    refine own_by (fun _ k => XS.iconst X942.here hx rfl (hb hby at_350) k) ?_
    refine own_by (fun _ k => XS.goto X942.here hx rfl (pc0 := 351) (pc' := 355) rfl (hb hby at_351) (by decide) (by decide) k) ?_
    show own_Go p e below _ T942 (mkF m 355 #[.val (.int p1), .val (.int p2), .val (.int p3), .val (.long p4), .second, .val (.long p5), .second, .val (.long p6), .second, .val (.int nk), .val (.int ky), .val (.int ko), .val (.int (0 : Int32)), .val (.ref b910), .val (.int (1 : Int32)), .val (.long (1 : Int64)), .second, .val (.long (1 : Int64)), .second, .val (.ref r'), .val (.long p4), .second, .val (.int (0 : Int32))] [(.int (1 : Int32)), (.int (1 : Int32))])
    refine own_by (fun _ k => XS.iand X942.here hx rfl (hb hby at_355) rfl k) ?_
    refine own_by (fun _ k => XS.istore X942.here hx rfl (hb hby at_356) rfl (l' := #[.val (.int p1), .val (.int p2), .val (.int p3), .val (.long p4), .second, .val (.long p5), .second, .val (.long p6), .second, .val (.int nk), .val (.int ky), .val (.int ko), .val (.int (0 : Int32)), .val (.ref b910), .val (.int ((1 : Int32) &&& (1 : Int32))), .val (.long (1 : Int64)), .second, .val (.long (1 : Int64)), .second, .val (.ref r'), .val (.long p4), .second, .val (.int (0 : Int32))]) rfl k) ?_
    show own_Go p e below _ T942 (mkF m 358 #[.val (.int p1), .val (.int p2), .val (.int p3), .val (.long p4), .second, .val (.long p5), .second, .val (.long p6), .second, .val (.int nk), .val (.int ky), .val (.int ko), .val (.int (0 : Int32)), .val (.ref b910), .val (.int ((1 : Int32) &&& (1 : Int32))), .val (.long (1 : Int64)), .second, .val (.long (1 : Int64)), .second, .val (.ref r'), .val (.long p4), .second, .val (.int (0 : Int32))] [])
    rw [show ((1 : Int32) &&& (1 : Int32)) = (1 : Int32) from by decide]
    refine own_by (fun _ k => XS.iload X942.here hx rfl (hb hby at_358) rfl k) ?_
    exact own_retN X942 hx hlk hret (by simp) rfl (hb hby at_360) ⟨rfl, N942⟩ (by decide) (by decide)
  · show own_Go p e below _ T912 (mkF m 47 #[.val (.int p1), .val (.int p2), .val (.int p3), .val (.long p4), .second, .val (.long p5), .second, .val (.long p6), .second, .val (.int nk), .val (.int ky), .val (.int ko), .val (.int (1 : Int32)), .unset, .unset, .unset, .unset, .unset, .unset, .unset, .unset, .unset, .unset] [(.ref b910)])
    refine own_by (fun _ k => XS.astore X912.here hx rfl (hb hby at_47) rfl rfl (l' := #[.val (.int p1), .val (.int p2), .val (.int p3), .val (.long p4), .second, .val (.long p5), .second, .val (.long p6), .second, .val (.int nk), .val (.int ky), .val (.int ko), .val (.int (1 : Int32)), .val (.ref b910), .unset, .unset, .unset, .unset, .unset, .unset, .unset, .unset, .unset]) rfl k) ?_
    refine own_by (fun _ k => XS.iconst X912.here hx rfl (hb hby at_49) k) ?_
    refine own_by (fun _ k => XS.istore X912.here hx rfl (hb hby at_50) rfl (l' := #[.val (.int p1), .val (.int p2), .val (.int p3), .val (.long p4), .second, .val (.long p5), .second, .val (.long p6), .second, .val (.int nk), .val (.int ky), .val (.int ko), .val (.int (1 : Int32)), .val (.ref b910), .val (.int (1 : Int32)), .unset, .unset, .unset, .unset, .unset, .unset, .unset, .unset]) rfl k) ?_
    show own_Go p e below _ T912 (mkF m 52 #[.val (.int p1), .val (.int p2), .val (.int p3), .val (.long p4), .second, .val (.long p5), .second, .val (.long p6), .second, .val (.int nk), .val (.int ky), .val (.int ko), .val (.int (1 : Int32)), .val (.ref b910), .val (.int (1 : Int32)), .unset, .unset, .unset, .unset, .unset, .unset, .unset, .unset] [])
    refine own_by (fun _ k => XS.aload X912.here hx rfl (hb hby at_52) rfl rfl k) ?_
    refine own_by (fun _ k => XS.iload X912.here hx rfl (hb hby at_54) rfl k) ?_
    obtain ⟨_, T943, L943, X943, ⟨rfl, N943q, Kc943, Hc943⟩, st943⟩ := own_callV X912 hx hZ hown (y := (⟨"com/example/eskew/eskew/server/split/CounterValues", "writing", "(I)J"⟩ : MethodName)) (C := "com/example/eskew/eskew/server/split/CounterValues") (hw _ (List.mem_of_getElem? (i := 41) rfl)) (hw _ (List.mem_of_getElem? (i := 42) rfl)) (hw _ (List.mem_of_getElem? (i := 44) rfl)) (hw _ (List.mem_of_getElem? (i := 43) rfl)) (hw _ (List.mem_of_getElem? (i := 3) rfl)) (hw _ (List.mem_of_getElem? (i := 45) rfl)) (by decide) (a := b910) E1' (argsL := [(.int ky)]) (rest := []) rfl (rm5 l Z a0 hw [] b910 ta t kt vs nk ky p6 (0 : Int64) (0 : Int32) (0 : Int64) (0 : Int64) (0 : Int32) (0 : Int32) (0 : Int32) T912.heap n0 Z912 og_t hk hv ne_b910_t nt A1' V1' HT ) (g := (mkF m 56 #[.val (.int p1), .val (.int p2), .val (.int p3), .val (.long p4), .second, .val (.long p5), .second, .val (.long p6), .second, .val (.int nk), .val (.int ky), .val (.int ko), .val (.int (1 : Int32)), .val (.ref b910), .val (.int (1 : Int32)), .unset, .unset, .unset, .unset, .unset, .unset, .unset, .unset] [(.int ky), (.ref b910)])) rfl (by rw [hml]; rfl) (lenOf pd_10 rfl) rfl (W := 0) (by show 2 * 0 + _ ≤ _; exact Nat.le_of_eq rfl) (hb hby at_56) (by decide) (by decide) (by decide) (by decide)
    have N943 := Fr.app N912 N943q
    refine own_by st943 ?_
    show own_Go p e below _ T943 (mkF m 59 #[.val (.int p1), .val (.int p2), .val (.int p3), .val (.long p4), .second, .val (.long p5), .second, .val (.long p6), .second, .val (.int nk), .val (.int ky), .val (.int ko), .val (.int (1 : Int32)), .val (.ref b910), .val (.int (1 : Int32)), .unset, .unset, .unset, .unset, .unset, .unset, .unset, .unset] [(.long ((0 : Int64) + 1))])
    have Z943 : n0 ≤ T943.heap.size := Nat.le_trans Z912 Kc943.1
    have K943c := K912c.trans Kc943 (allS (Or.inr sz_t) all0)
    have Hd943 : own_Tal Z T943.heap t p6 (1 : Int64) (1 : Int32) (1 : Int64) (0 : Int64) (0 : Int32) (0 : Int32) (0 : Int32) := own_TalC Hc943 (by first | decide | rfl) (by first | decide | rfl) (by first | decide | rfl) (by first | decide | rfl) (by first | decide | rfl) (by first | decide | rfl) (by first | decide | rfl) (by first | decide | rfl)
    rw [show ((0 : Int64) + 1) = (1 : Int64) from by decide]
    refine own_by (fun _ k => XS.lstore X943.here hx rfl (hb hby at_59) rfl (l' := #[.val (.int p1), .val (.int p2), .val (.int p3), .val (.long p4), .second, .val (.long p5), .second, .val (.long p6), .second, .val (.int nk), .val (.int ky), .val (.int ko), .val (.int (1 : Int32)), .val (.ref b910), .val (.int (1 : Int32)), .val (.long (1 : Int64)), .second, .unset, .unset, .unset, .unset, .unset, .unset]) rfl k) ?_
    refine own_by (fun _ k => XS.iload X943.here hx rfl (hb hby at_61) rfl k) ?_
    show own_Go p e below _ T943 (mkF m 63 #[.val (.int p1), .val (.int p2), .val (.int p3), .val (.long p4), .second, .val (.long p5), .second, .val (.long p6), .second, .val (.int nk), .val (.int ky), .val (.int ko), .val (.int (1 : Int32)), .val (.ref b910), .val (.int (1 : Int32)), .val (.long (1 : Int64)), .second, .unset, .unset, .unset, .unset, .unset, .unset] [(.int (1 : Int32))])
    refine own_by (fun _ k => XS.lload X943.here hx rfl (hb hby at_63) rfl k) ?_
    refine own_by (fun _ k => XS.lconst X943.here hx rfl (hb hby at_65) k) ?_
    refine own_by (fun _ k => XS.lcmp X943.here hx rfl (hb hby at_66) rfl k) ?_
    show own_Go p e below _ T943 (mkF m 67 #[.val (.int p1), .val (.int p2), .val (.int p3), .val (.long p4), .second, .val (.long p5), .second, .val (.long p6), .second, .val (.int nk), .val (.int ky), .val (.int ko), .val (.int (1 : Int32)), .val (.ref b910), .val (.int (1 : Int32)), .val (.long (1 : Int64)), .second, .unset, .unset, .unset, .unset, .unset, .unset] [(.int (lcmpW (1 : Int64) (1 : Int64))), (.int (1 : Int32))])
    refine own_by (fun _ k => XS.ifNo X943.here hx rfl (hb hby at_67) rfl ((if0 _ _).trans (teq (by decide : (lcmpW (1 : Int64) (1 : Int64)) = (0 : Int32))).2) k) ?_
    refine own_by (fun _ k => XS.iconst X943.here hx rfl (hb hby at_70) k) ?_
    refine own_by (fun _ k => XS.goto X943.here hx rfl (pc0 := 71) (pc' := 75) rfl (hb hby at_71) (by decide) (by decide) k) ?_
    show own_Go p e below _ T943 (mkF m 75 #[.val (.int p1), .val (.int p2), .val (.int p3), .val (.long p4), .second, .val (.long p5), .second, .val (.long p6), .second, .val (.int nk), .val (.int ky), .val (.int ko), .val (.int (1 : Int32)), .val (.ref b910), .val (.int (1 : Int32)), .val (.long (1 : Int64)), .second, .unset, .unset, .unset, .unset, .unset, .unset] [(.int (1 : Int32)), (.int (1 : Int32))])
    refine own_by (fun _ k => XS.iand X943.here hx rfl (hb hby at_75) rfl k) ?_
    refine own_by (fun _ k => XS.istore X943.here hx rfl (hb hby at_76) rfl (l' := #[.val (.int p1), .val (.int p2), .val (.int p3), .val (.long p4), .second, .val (.long p5), .second, .val (.long p6), .second, .val (.int nk), .val (.int ky), .val (.int ko), .val (.int (1 : Int32)), .val (.ref b910), .val (.int ((1 : Int32) &&& (1 : Int32))), .val (.long (1 : Int64)), .second, .unset, .unset, .unset, .unset, .unset, .unset]) rfl k) ?_
    show own_Go p e below _ T943 (mkF m 78 #[.val (.int p1), .val (.int p2), .val (.int p3), .val (.long p4), .second, .val (.long p5), .second, .val (.long p6), .second, .val (.int nk), .val (.int ky), .val (.int ko), .val (.int (1 : Int32)), .val (.ref b910), .val (.int ((1 : Int32) &&& (1 : Int32))), .val (.long (1 : Int64)), .second, .unset, .unset, .unset, .unset, .unset, .unset] [])
    rw [show ((1 : Int32) &&& (1 : Int32)) = (1 : Int32) from by decide]
    refine own_by (fun _ k => XS.lconst X943.here hx rfl (hb hby at_78) k) ?_
    refine own_by (fun _ k => XS.lstore X943.here hx rfl (hb hby at_79) rfl (l' := #[.val (.int p1), .val (.int p2), .val (.int p3), .val (.long p4), .second, .val (.long p5), .second, .val (.long p6), .second, .val (.int nk), .val (.int ky), .val (.int ko), .val (.int (1 : Int32)), .val (.ref b910), .val (.int (1 : Int32)), .val (.long (1 : Int64)), .second, .val (.long (1 : Int64)), .second, .unset, .unset, .unset, .unset]) rfl k) ?_
    show own_Go p e below _ T943 (mkF m 81 #[.val (.int p1), .val (.int p2), .val (.int p3), .val (.long p4), .second, .val (.long p5), .second, .val (.long p6), .second, .val (.int nk), .val (.int ky), .val (.int ko), .val (.int (1 : Int32)), .val (.ref b910), .val (.int (1 : Int32)), .val (.long (1 : Int64)), .second, .val (.long (1 : Int64)), .second, .unset, .unset, .unset, .unset] [])
    refine own_by (fun _ k => XS.iload X943.here hx rfl (hb hby at_81) rfl k) ?_
    refine own_by (fun _ k => XS.iconst X943.here hx rfl (hb hby at_83) k) ?_
    refine own_by (fun _ k => XS.icmpNo X943.here hx rfl (hb hby at_84) rfl (teq (by decide : (1 : Int32) = (1 : Int32))).2 k) ?_
    show own_Go p e below _ T943 (mkF m 87 #[.val (.int p1), .val (.int p2), .val (.int p3), .val (.long p4), .second, .val (.long p5), .second, .val (.long p6), .second, .val (.int nk), .val (.int ky), .val (.int ko), .val (.int (1 : Int32)), .val (.ref b910), .val (.int (1 : Int32)), .val (.long (1 : Int64)), .second, .val (.long (1 : Int64)), .second, .unset, .unset, .unset, .unset] [])
    refine own_by (fun _ k => XS.aload X943.here hx rfl (hb hby at_87) rfl rfl k) ?_
    refine own_by (fun _ k => XS.iload X943.here hx rfl (hb hby at_89) rfl k) ?_
    have f944 := (A1'.keep Kc943 (ninS ne_b910_t nin0))
    have f945 := (V1'.keep Kc943 (ninS nt nin0))
    have f946 := (E1'.keep Kc943)
    obtain ⟨_, T947, L947, X947, ⟨rfl, N947q, Kc944, Hc944⟩, st947⟩ := own_callV X943 hx hZ hown (y := (⟨"com/example/eskew/eskew/server/split/CounterValues", "writing", "(I)J"⟩ : MethodName)) (C := "com/example/eskew/eskew/server/split/CounterValues") (hw _ (List.mem_of_getElem? (i := 41) rfl)) (hw _ (List.mem_of_getElem? (i := 42) rfl)) (hw _ (List.mem_of_getElem? (i := 44) rfl)) (hw _ (List.mem_of_getElem? (i := 43) rfl)) (hw _ (List.mem_of_getElem? (i := 3) rfl)) (hw _ (List.mem_of_getElem? (i := 45) rfl)) (by decide) (a := b910) f946 (argsL := [(.int ky)]) (rest := []) rfl (rm5 l Z a0 hw [] b910 ta t kt vs nk ky p6 (1 : Int64) (1 : Int32) (1 : Int64) (0 : Int64) (0 : Int32) (0 : Int32) (0 : Int32) T943.heap n0 Z943 og_t hk hv ne_b910_t nt f944 f945 Hd943 ) (g := (mkF m 91 #[.val (.int p1), .val (.int p2), .val (.int p3), .val (.long p4), .second, .val (.long p5), .second, .val (.long p6), .second, .val (.int nk), .val (.int ky), .val (.int ko), .val (.int (1 : Int32)), .val (.ref b910), .val (.int (1 : Int32)), .val (.long (1 : Int64)), .second, .val (.long (1 : Int64)), .second, .unset, .unset, .unset, .unset] [(.int ky), (.ref b910)])) rfl (by rw [hml]; rfl) (lenOf pd_10 rfl) rfl (W := 0) (by show 2 * 0 + _ ≤ _; exact Nat.le_of_eq rfl) (hb hby at_91) (by decide) (by decide) (by decide) (by decide)
    have N947 := Fr.app N943 N947q
    refine own_by st947 ?_
    show own_Go p e below _ T947 (mkF m 94 #[.val (.int p1), .val (.int p2), .val (.int p3), .val (.long p4), .second, .val (.long p5), .second, .val (.long p6), .second, .val (.int nk), .val (.int ky), .val (.int ko), .val (.int (1 : Int32)), .val (.ref b910), .val (.int (1 : Int32)), .val (.long (1 : Int64)), .second, .val (.long (1 : Int64)), .second, .unset, .unset, .unset, .unset] [(.long ((1 : Int64) + 1))])
    have Z947 : n0 ≤ T947.heap.size := Nat.le_trans Z943 Kc944.1
    have K947c := K943c.trans Kc944 (allS (Or.inr sz_t) all0)
    have Hd944 : own_Tal Z T947.heap t p6 (2 : Int64) (2 : Int32) (1 : Int64) (0 : Int64) (0 : Int32) (0 : Int32) (0 : Int32) := own_TalC Hc944 (by first | decide | rfl) (by first | decide | rfl) (by first | decide | rfl) (by first | decide | rfl) (by first | decide | rfl) (by first | decide | rfl) (by first | decide | rfl) (by first | decide | rfl)
    rw [show ((1 : Int64) + 1) = (2 : Int64) from by decide]
    refine own_by (fun _ k => XS.lstore X947.here hx rfl (hb hby at_94) rfl (l' := #[.val (.int p1), .val (.int p2), .val (.int p3), .val (.long p4), .second, .val (.long p5), .second, .val (.long p6), .second, .val (.int nk), .val (.int ky), .val (.int ko), .val (.int (1 : Int32)), .val (.ref b910), .val (.int (1 : Int32)), .val (.long (1 : Int64)), .second, .val (.long (1 : Int64)), .second, .val (.long (2 : Int64)), .second, .unset, .unset]) rfl k) ?_
    refine own_by (fun _ k => XS.iload X947.here hx rfl (hb hby at_96) rfl k) ?_
    show own_Go p e below _ T947 (mkF m 98 #[.val (.int p1), .val (.int p2), .val (.int p3), .val (.long p4), .second, .val (.long p5), .second, .val (.long p6), .second, .val (.int nk), .val (.int ky), .val (.int ko), .val (.int (1 : Int32)), .val (.ref b910), .val (.int (1 : Int32)), .val (.long (1 : Int64)), .second, .val (.long (1 : Int64)), .second, .val (.long (2 : Int64)), .second, .unset, .unset] [(.int (1 : Int32))])
    refine own_by (fun _ k => XS.lload X947.here hx rfl (hb hby at_98) rfl k) ?_
    refine own_by (fun _ k => Stand.ldc2J X947 hx hown (mvT hZ (hw _ (List.mem_of_getElem? (i := 77) rfl))) rfl (hb hby at_100) k) ?_
    refine own_by (fun _ k => XS.lcmp X947.here hx rfl (hb hby at_103) rfl k) ?_
    show own_Go p e below _ T947 (mkF m 104 #[.val (.int p1), .val (.int p2), .val (.int p3), .val (.long p4), .second, .val (.long p5), .second, .val (.long p6), .second, .val (.int nk), .val (.int ky), .val (.int ko), .val (.int (1 : Int32)), .val (.ref b910), .val (.int (1 : Int32)), .val (.long (1 : Int64)), .second, .val (.long (1 : Int64)), .second, .val (.long (2 : Int64)), .second, .unset, .unset] [(.int (lcmpW (2 : Int64) (2 : Int64))), (.int (1 : Int32))])
    refine own_by (fun _ k => XS.ifNo X947.here hx rfl (hb hby at_104) rfl ((if0 _ _).trans (teq (by decide : (lcmpW (2 : Int64) (2 : Int64)) = (0 : Int32))).2) k) ?_
    refine own_by (fun _ k => XS.iconst X947.here hx rfl (hb hby at_107) k) ?_
    refine own_by (fun _ k => XS.goto X947.here hx rfl (pc0 := 108) (pc' := 112) rfl (hb hby at_108) (by decide) (by decide) k) ?_
    show own_Go p e below _ T947 (mkF m 112 #[.val (.int p1), .val (.int p2), .val (.int p3), .val (.long p4), .second, .val (.long p5), .second, .val (.long p6), .second, .val (.int nk), .val (.int ky), .val (.int ko), .val (.int (1 : Int32)), .val (.ref b910), .val (.int (1 : Int32)), .val (.long (1 : Int64)), .second, .val (.long (1 : Int64)), .second, .val (.long (2 : Int64)), .second, .unset, .unset] [(.int (1 : Int32)), (.int (1 : Int32))])
    refine own_by (fun _ k => XS.iand X947.here hx rfl (hb hby at_112) rfl k) ?_
    refine own_by (fun _ k => XS.istore X947.here hx rfl (hb hby at_113) rfl (l' := #[.val (.int p1), .val (.int p2), .val (.int p3), .val (.long p4), .second, .val (.long p5), .second, .val (.long p6), .second, .val (.int nk), .val (.int ky), .val (.int ko), .val (.int (1 : Int32)), .val (.ref b910), .val (.int ((1 : Int32) &&& (1 : Int32))), .val (.long (1 : Int64)), .second, .val (.long (1 : Int64)), .second, .val (.long (2 : Int64)), .second, .unset, .unset]) rfl k) ?_
    show own_Go p e below _ T947 (mkF m 115 #[.val (.int p1), .val (.int p2), .val (.int p3), .val (.long p4), .second, .val (.long p5), .second, .val (.long p6), .second, .val (.int nk), .val (.int ky), .val (.int ko), .val (.int (1 : Int32)), .val (.ref b910), .val (.int ((1 : Int32) &&& (1 : Int32))), .val (.long (1 : Int64)), .second, .val (.long (1 : Int64)), .second, .val (.long (2 : Int64)), .second, .unset, .unset] [])
    rw [show ((1 : Int32) &&& (1 : Int32)) = (1 : Int32) from by decide]
    refine own_by (fun _ k => Stand.ldc2J X947 hx hown (mvT hZ (hw _ (List.mem_of_getElem? (i := 77) rfl))) rfl (hb hby at_115) k) ?_
    refine own_by (fun _ k => XS.lstore X947.here hx rfl (hb hby at_118) rfl (l' := #[.val (.int p1), .val (.int p2), .val (.int p3), .val (.long p4), .second, .val (.long p5), .second, .val (.long p6), .second, .val (.int nk), .val (.int ky), .val (.int ko), .val (.int (1 : Int32)), .val (.ref b910), .val (.int (1 : Int32)), .val (.long (1 : Int64)), .second, .val (.long (2 : Int64)), .second, .val (.long (2 : Int64)), .second, .unset, .unset]) rfl k) ?_
    show own_Go p e below _ T947 (mkF m 120 #[.val (.int p1), .val (.int p2), .val (.int p3), .val (.long p4), .second, .val (.long p5), .second, .val (.long p6), .second, .val (.int nk), .val (.int ky), .val (.int ko), .val (.int (1 : Int32)), .val (.ref b910), .val (.int (1 : Int32)), .val (.long (1 : Int64)), .second, .val (.long (2 : Int64)), .second, .val (.long (2 : Int64)), .second, .unset, .unset] [])
    refine own_by (fun _ k => XS.goto X947.here hx rfl (pc0 := 120) (pc' := 175) rfl (hb hby at_120) (by decide) (by decide) k) ?_
    refine own_by (fun _ k => XS.iload X947.here hx rfl (hb hby at_175) rfl k) ?_
    refine own_by (fun _ k => XS.aload X947.here hx rfl (hb hby at_177) rfl rfl k) ?_
    show own_Go p e below _ T947 (mkF m 179 #[.val (.int p1), .val (.int p2), .val (.int p3), .val (.long p4), .second, .val (.long p5), .second, .val (.long p6), .second, .val (.int nk), .val (.int ky), .val (.int ko), .val (.int (1 : Int32)), .val (.ref b910), .val (.int (1 : Int32)), .val (.long (1 : Int64)), .second, .val (.long (2 : Int64)), .second, .val (.long (2 : Int64)), .second, .unset, .unset] [(.ref b910), (.int (1 : Int32))])
    refine own_by (fun _ k => XS.iload X947.here hx rfl (hb hby at_179) rfl k) ?_
    have f948 := (f944.keep Kc944 (ninS ne_b910_t nin0))
    have f949 := (f945.keep Kc944 (ninS nt nin0))
    have f950 := (own_TalK (own_TalK HT2 Kc943 (ninS (Ne.symm ntt) nin0)) Kc944 (ninS (Ne.symm ntt) nin0))
    have f951 := (f946.keep Kc944)
    obtain ⟨_, T952, L952, X952, ⟨rfl, N952q, Kc948, Hc948⟩, st952⟩ := own_callV X947 hx hZ hown (y := (⟨"com/example/eskew/eskew/server/split/CounterValues", "reading", "(I)J"⟩ : MethodName)) (C := "com/example/eskew/eskew/server/split/CounterValues") (hw _ (List.mem_of_getElem? (i := 78) rfl)) (hw _ (List.mem_of_getElem? (i := 79) rfl)) (hw _ (List.mem_of_getElem? (i := 81) rfl)) (hw _ (List.mem_of_getElem? (i := 80) rfl)) (hw _ (List.mem_of_getElem? (i := 3) rfl)) (hw _ (List.mem_of_getElem? (i := 82) rfl)) (by decide) (a := b910) f951 (argsL := [(.int ko)]) (rest := [(.int (1 : Int32))]) rfl (rm10 l Z a0 hw [] b910 ta t2 kt vs nk ko p6 (0 : Int64) (0 : Int32) (0 : Int64) (0 : Int64) (0 : Int32) (0 : Int32) (0 : Int32) T947.heap n0 Z947 og_t2 hk2 hv2 ne_b910_t2 nt2 f948 f949 f950 ) (g := (mkF m 181 #[.val (.int p1), .val (.int p2), .val (.int p3), .val (.long p4), .second, .val (.long p5), .second, .val (.long p6), .second, .val (.int nk), .val (.int ky), .val (.int ko), .val (.int (1 : Int32)), .val (.ref b910), .val (.int (1 : Int32)), .val (.long (1 : Int64)), .second, .val (.long (2 : Int64)), .second, .val (.long (2 : Int64)), .second, .unset, .unset] [(.int ko), (.ref b910), (.int (1 : Int32))])) rfl (by rw [hml]; rfl) (lenOf pd_10 rfl) rfl (W := 1) (by show 2 * 0 + _ ≤ _; exact Nat.le_of_eq rfl) (hb hby at_181) (by decide) (by decide) (by decide) (by decide)
    have N952 := Fr.app N947 N952q
    refine own_by st952 ?_
    have Z952 : n0 ≤ T952.heap.size := Nat.le_trans Z947 Kc948.1
    have K952c := K947c.trans Kc948 (allS (Or.inr sz_t2) all0)
    have Hd948 : own_Tal Z T952.heap t2 p6 (0 : Int64) (0 : Int32) (0 : Int64) (0 : Int64) (0 : Int32) (0 : Int32) (1 : Int32) := own_TalC Hc948 (by first | decide | rfl) (by first | decide | rfl) (by first | decide | rfl) (by first | decide | rfl) (by first | decide | rfl) (by first | decide | rfl) (by first | decide | rfl) (by first | decide | rfl)
    show own_Go p e below _ T952 (mkF m 184 #[.val (.int p1), .val (.int p2), .val (.int p3), .val (.long p4), .second, .val (.long p5), .second, .val (.long p6), .second, .val (.int nk), .val (.int ky), .val (.int ko), .val (.int (1 : Int32)), .val (.ref b910), .val (.int (1 : Int32)), .val (.long (1 : Int64)), .second, .val (.long (2 : Int64)), .second, .val (.long (2 : Int64)), .second, .unset, .unset] [(.long (if (0 : Int32) = 0 then (0 : Int64) else -1)), (.int (1 : Int32))])
    rw [show (if (0 : Int32) = 0 then (0 : Int64) else -1) = (0 : Int64) from by decide]
    refine own_by (fun _ k => XS.lconst X952.here hx rfl (hb hby at_184) k) ?_
    refine own_by (fun _ k => XS.lcmp X952.here hx rfl (hb hby at_185) rfl k) ?_
    show own_Go p e below _ T952 (mkF m 186 #[.val (.int p1), .val (.int p2), .val (.int p3), .val (.long p4), .second, .val (.long p5), .second, .val (.long p6), .second, .val (.int nk), .val (.int ky), .val (.int ko), .val (.int (1 : Int32)), .val (.ref b910), .val (.int (1 : Int32)), .val (.long (1 : Int64)), .second, .val (.long (2 : Int64)), .second, .val (.long (2 : Int64)), .second, .unset, .unset] [(.int (lcmpW (0 : Int64) (0 : Int64))), (.int (1 : Int32))])
    refine own_by (fun _ k => XS.ifNo X952.here hx rfl (hb hby at_186) rfl ((if0 _ _).trans (teq (by decide : (lcmpW (0 : Int64) (0 : Int64)) = (0 : Int32))).2) k) ?_
    refine own_by (fun _ k => XS.iconst X952.here hx rfl (hb hby at_189) k) ?_
    refine own_by (fun _ k => XS.goto X952.here hx rfl (pc0 := 190) (pc' := 194) rfl (hb hby at_190) (by decide) (by decide) k) ?_
    show own_Go p e below _ T952 (mkF m 194 #[.val (.int p1), .val (.int p2), .val (.int p3), .val (.long p4), .second, .val (.long p5), .second, .val (.long p6), .second, .val (.int nk), .val (.int ky), .val (.int ko), .val (.int (1 : Int32)), .val (.ref b910), .val (.int (1 : Int32)), .val (.long (1 : Int64)), .second, .val (.long (2 : Int64)), .second, .val (.long (2 : Int64)), .second, .unset, .unset] [(.int (1 : Int32)), (.int (1 : Int32))])
    refine own_by (fun _ k => XS.iand X952.here hx rfl (hb hby at_194) rfl k) ?_
    refine own_by (fun _ k => XS.istore X952.here hx rfl (hb hby at_195) rfl (l' := #[.val (.int p1), .val (.int p2), .val (.int p3), .val (.long p4), .second, .val (.long p5), .second, .val (.long p6), .second, .val (.int nk), .val (.int ky), .val (.int ko), .val (.int (1 : Int32)), .val (.ref b910), .val (.int ((1 : Int32) &&& (1 : Int32))), .val (.long (1 : Int64)), .second, .val (.long (2 : Int64)), .second, .val (.long (2 : Int64)), .second, .unset, .unset]) rfl k) ?_
    show own_Go p e below _ T952 (mkF m 197 #[.val (.int p1), .val (.int p2), .val (.int p3), .val (.long p4), .second, .val (.long p5), .second, .val (.long p6), .second, .val (.int nk), .val (.int ky), .val (.int ko), .val (.int (1 : Int32)), .val (.ref b910), .val (.int ((1 : Int32) &&& (1 : Int32))), .val (.long (1 : Int64)), .second, .val (.long (2 : Int64)), .second, .val (.long (2 : Int64)), .second, .unset, .unset] [])
    rw [show ((1 : Int32) &&& (1 : Int32)) = (1 : Int32) from by decide]
    refine own_by (fun _ k => XS.iload X952.here hx rfl (hb hby at_197) rfl k) ?_
    refine own_by (fun _ k => XS.aload X952.here hx rfl (hb hby at_199) rfl rfl k) ?_
    show own_Go p e below _ T952 (mkF m 201 #[.val (.int p1), .val (.int p2), .val (.int p3), .val (.long p4), .second, .val (.long p5), .second, .val (.long p6), .second, .val (.int nk), .val (.int ky), .val (.int ko), .val (.int (1 : Int32)), .val (.ref b910), .val (.int (1 : Int32)), .val (.long (1 : Int64)), .second, .val (.long (2 : Int64)), .second, .val (.long (2 : Int64)), .second, .unset, .unset] [(.ref b910), (.int (1 : Int32))])
    refine own_by (fun _ k => XS.iload X952.here hx rfl (hb hby at_201) rfl k) ?_
    have f953 := (f948.keep Kc948 (ninS ne_b910_t2 nin0))
    have f954 := (f949.keep Kc948 (ninS nt2 nin0))
    have f955 := (own_TalK Hd944 Kc948 (ninS ntt nin0))
    have f956 := (f951.keep Kc948)
    obtain ⟨_, T957, L957, X957, ⟨rfl, N957q, Kc953, Hc953⟩, st957⟩ := own_callV X952 hx hZ hown (y := (⟨"com/example/eskew/eskew/server/split/CounterValues", "reading", "(I)J"⟩ : MethodName)) (C := "com/example/eskew/eskew/server/split/CounterValues") (hw _ (List.mem_of_getElem? (i := 78) rfl)) (hw _ (List.mem_of_getElem? (i := 79) rfl)) (hw _ (List.mem_of_getElem? (i := 81) rfl)) (hw _ (List.mem_of_getElem? (i := 80) rfl)) (hw _ (List.mem_of_getElem? (i := 3) rfl)) (hw _ (List.mem_of_getElem? (i := 82) rfl)) (by decide) (a := b910) f956 (argsL := [(.int ky)]) (rest := [(.int (1 : Int32))]) rfl (rm10 l Z a0 hw [] b910 ta t kt vs nk ky p6 (2 : Int64) (2 : Int32) (1 : Int64) (0 : Int64) (0 : Int32) (0 : Int32) (0 : Int32) T952.heap n0 Z952 og_t hk hv ne_b910_t nt f953 f954 f955 ) (g := (mkF m 203 #[.val (.int p1), .val (.int p2), .val (.int p3), .val (.long p4), .second, .val (.long p5), .second, .val (.long p6), .second, .val (.int nk), .val (.int ky), .val (.int ko), .val (.int (1 : Int32)), .val (.ref b910), .val (.int (1 : Int32)), .val (.long (1 : Int64)), .second, .val (.long (2 : Int64)), .second, .val (.long (2 : Int64)), .second, .unset, .unset] [(.int ky), (.ref b910), (.int (1 : Int32))])) rfl (by rw [hml]; rfl) (lenOf pd_10 rfl) rfl (W := 1) (by show 2 * 0 + _ ≤ _; exact Nat.le_of_eq rfl) (hb hby at_203) (by decide) (by decide) (by decide) (by decide)
    have N957 := Fr.app N952 N957q
    refine own_by st957 ?_
    have Z957 : n0 ≤ T957.heap.size := Nat.le_trans Z952 Kc953.1
    have K957c := K952c.trans Kc953 (allS (Or.inr sz_t) all0)
    have Hd953 : own_Tal Z T957.heap t p6 (2 : Int64) (2 : Int32) (1 : Int64) (0 : Int64) (0 : Int32) (0 : Int32) (1 : Int32) := own_TalC Hc953 (by first | decide | rfl) (by first | decide | rfl) (by first | decide | rfl) (by first | decide | rfl) (by first | decide | rfl) (by first | decide | rfl) (by first | decide | rfl) (by first | decide | rfl)
    show own_Go p e below _ T957 (mkF m 206 #[.val (.int p1), .val (.int p2), .val (.int p3), .val (.long p4), .second, .val (.long p5), .second, .val (.long p6), .second, .val (.int nk), .val (.int ky), .val (.int ko), .val (.int (1 : Int32)), .val (.ref b910), .val (.int (1 : Int32)), .val (.long (1 : Int64)), .second, .val (.long (2 : Int64)), .second, .val (.long (2 : Int64)), .second, .unset, .unset] [(.long (if (2 : Int32) = 0 then (2 : Int64) else -1)), (.int (1 : Int32))])
    rw [show (if (2 : Int32) = 0 then (2 : Int64) else -1) = (-1 : Int64) from by decide]
    refine own_by (fun _ k => Stand.ldc2J X957 hx hown (mvT hZ (hw _ (List.mem_of_getElem? (i := 86) rfl))) rfl (hb hby at_206) k) ?_
    refine own_by (fun _ k => XS.lcmp X957.here hx rfl (hb hby at_209) rfl k) ?_
    show own_Go p e below _ T957 (mkF m 210 #[.val (.int p1), .val (.int p2), .val (.int p3), .val (.long p4), .second, .val (.long p5), .second, .val (.long p6), .second, .val (.int nk), .val (.int ky), .val (.int ko), .val (.int (1 : Int32)), .val (.ref b910), .val (.int (1 : Int32)), .val (.long (1 : Int64)), .second, .val (.long (2 : Int64)), .second, .val (.long (2 : Int64)), .second, .unset, .unset] [(.int (lcmpW (-1 : Int64) (-1 : Int64))), (.int (1 : Int32))])
    refine own_by (fun _ k => XS.ifNo X957.here hx rfl (hb hby at_210) rfl ((if0 _ _).trans (teq (by decide : (lcmpW (-1 : Int64) (-1 : Int64)) = (0 : Int32))).2) k) ?_
    refine own_by (fun _ k => XS.iconst X957.here hx rfl (hb hby at_213) k) ?_
    refine own_by (fun _ k => XS.goto X957.here hx rfl (pc0 := 214) (pc' := 218) rfl (hb hby at_214) (by decide) (by decide) k) ?_
    show own_Go p e below _ T957 (mkF m 218 #[.val (.int p1), .val (.int p2), .val (.int p3), .val (.long p4), .second, .val (.long p5), .second, .val (.long p6), .second, .val (.int nk), .val (.int ky), .val (.int ko), .val (.int (1 : Int32)), .val (.ref b910), .val (.int (1 : Int32)), .val (.long (1 : Int64)), .second, .val (.long (2 : Int64)), .second, .val (.long (2 : Int64)), .second, .unset, .unset] [(.int (1 : Int32)), (.int (1 : Int32))])
    refine own_by (fun _ k => XS.iand X957.here hx rfl (hb hby at_218) rfl k) ?_
    refine own_by (fun _ k => XS.istore X957.here hx rfl (hb hby at_219) rfl (l' := #[.val (.int p1), .val (.int p2), .val (.int p3), .val (.long p4), .second, .val (.long p5), .second, .val (.long p6), .second, .val (.int nk), .val (.int ky), .val (.int ko), .val (.int (1 : Int32)), .val (.ref b910), .val (.int ((1 : Int32) &&& (1 : Int32))), .val (.long (1 : Int64)), .second, .val (.long (2 : Int64)), .second, .val (.long (2 : Int64)), .second, .unset, .unset]) rfl k) ?_
    show own_Go p e below _ T957 (mkF m 221 #[.val (.int p1), .val (.int p2), .val (.int p3), .val (.long p4), .second, .val (.long p5), .second, .val (.long p6), .second, .val (.int nk), .val (.int ky), .val (.int ko), .val (.int (1 : Int32)), .val (.ref b910), .val (.int ((1 : Int32) &&& (1 : Int32))), .val (.long (1 : Int64)), .second, .val (.long (2 : Int64)), .second, .val (.long (2 : Int64)), .second, .unset, .unset] [])
    rw [show ((1 : Int32) &&& (1 : Int32)) = (1 : Int32) from by decide]
    refine own_by (fun _ k => XS.aload X957.here hx rfl (hb hby at_221) rfl rfl k) ?_
    refine own_by (fun _ k => XS.iload X957.here hx rfl (hb hby at_223) rfl k) ?_
    show own_Go p e below _ T957 (mkF m 225 #[.val (.int p1), .val (.int p2), .val (.int p3), .val (.long p4), .second, .val (.long p5), .second, .val (.long p6), .second, .val (.int nk), .val (.int ky), .val (.int ko), .val (.int (1 : Int32)), .val (.ref b910), .val (.int (1 : Int32)), .val (.long (1 : Int64)), .second, .val (.long (2 : Int64)), .second, .val (.long (2 : Int64)), .second, .unset, .unset] [(.int ky), (.ref b910)])
    refine own_by (fun _ k => XS.lload X957.here hx rfl (hb hby at_225) rfl k) ?_
    refine own_by (fun _ k => XS.lloadN X957.here hx rfl (hb hby at_227) rfl k) ?_
    refine own_by (fun _ k => XS.lload X957.here hx rfl (hb hby at_228) rfl k) ?_
    show own_Go p e below _ T957 (mkF m 230 #[.val (.int p1), .val (.int p2), .val (.int p3), .val (.long p4), .second, .val (.long p5), .second, .val (.long p6), .second, .val (.int nk), .val (.int ky), .val (.int ko), .val (.int (1 : Int32)), .val (.ref b910), .val (.int (1 : Int32)), .val (.long (1 : Int64)), .second, .val (.long (2 : Int64)), .second, .val (.long (2 : Int64)), .second, .unset, .unset] [(.long p6), (.long p4), (.long (2 : Int64)), (.int ky), (.ref b910)])
    have f958 := (f956.keep Kc953)
    have f959 := ((((R1'.keep Kc943 (ninS ne_b910_t nin0)).keep Kc944 (ninS ne_b910_t nin0)).keep Kc948 (ninS ne_b910_t2 nin0)).keep Kc953 (ninS ne_b910_t nin0))
    have f960 := (f953.keep Kc953 (ninS ne_b910_t nin0))
    have f961 := (f954.keep Kc953 (ninS nt nin0))
    obtain ⟨_, T962, L962, X962, ⟨rfl, N962q, Kc960, Hc960⟩, st962⟩ := own_callV X957 hx hZ hown (y := (⟨"com/example/eskew/eskew/server/split/CounterValues", "wrote", "(IJJJ)V"⟩ : MethodName)) (C := "com/example/eskew/eskew/server/split/CounterValues") (hw _ (List.mem_of_getElem? (i := 52) rfl)) (hw _ (List.mem_of_getElem? (i := 53) rfl)) (hw _ (List.mem_of_getElem? (i := 55) rfl)) (hw _ (List.mem_of_getElem? (i := 54) rfl)) (hw _ (List.mem_of_getElem? (i := 3) rfl)) (hw _ (List.mem_of_getElem? (i := 56) rfl)) (by decide) (a := b910) f958 (argsL := [(.int ky), (.long (2 : Int64)), (.long p4), (.long p6)]) (rest := []) rfl (rm6b l Z a0 hw [] b910 ta t kt vs nk ky (2 : Int64) p4 p6 p6 (2 : Int64) (2 : Int32) (1 : Int64) (0 : Int64) (0 : Int32) (0 : Int32) (1 : Int32) T957.heap n0 Z957 og_t hk hv ne_b910_t nt f960 f961 Hd953 f958 f959 (by decide)) (g := (mkF m 230 #[.val (.int p1), .val (.int p2), .val (.int p3), .val (.long p4), .second, .val (.long p5), .second, .val (.long p6), .second, .val (.int nk), .val (.int ky), .val (.int ko), .val (.int (1 : Int32)), .val (.ref b910), .val (.int (1 : Int32)), .val (.long (1 : Int64)), .second, .val (.long (2 : Int64)), .second, .val (.long (2 : Int64)), .second, .unset, .unset] [(.long p6), (.long p4), (.long (2 : Int64)), (.int ky), (.ref b910)])) rfl (by rw [hml]; rfl) (lenOf pd_11 rfl) rfl (W := 0) (by show 2 * 0 + _ ≤ _; exact Nat.le_of_eq rfl) (hb hby at_230) (by decide) (by decide) (by decide) (by decide)
    have N962 := Fr.app N957 N962q
    refine own_by st962 ?_
    have Z962 : n0 ≤ T962.heap.size := Nat.le_trans Z957 Kc960.1
    have K962c := K957c.trans Kc960 (allS (Or.inr sz_t) all0)
    have Hd960 : own_Tal Z T962.heap t p6 (2 : Int64) (1 : Int32) (1 : Int64) p4 (0 : Int32) (0 : Int32) (1 : Int32) := own_TalC Hc960 (by first | decide | rfl) (by first | decide | rfl) (by first | decide | rfl) (by first | decide | rfl) (by first | decide | rfl) (by first | decide | rfl) (by first | decide | rfl) (by first | decide | rfl)
    refine own_by (fun _ k => XS.iload X962.here hx rfl (hb hby at_233) rfl k) ?_
    refine own_by (fun _ k => XS.iconst X962.here hx rfl (hb hby at_235) k) ?_
    show own_Go p e below _ T962 (mkF m 236 #[.val (.int p1), .val (.int p2), .val (.int p3), .val (.long p4), .second, .val (.long p5), .second, .val (.long p6), .second, .val (.int nk), .val (.int ky), .val (.int ko), .val (.int (1 : Int32)), .val (.ref b910), .val (.int (1 : Int32)), .val (.long (1 : Int64)), .second, .val (.long (2 : Int64)), .second, .val (.long (2 : Int64)), .second, .unset, .unset] [(.int (1 : Int32)), (.int (1 : Int32))])
    refine own_by (fun _ k => XS.icmpNo X962.here hx rfl (hb hby at_236) rfl (teq (by decide : (1 : Int32) = (1 : Int32))).2 k) ?_
    refine own_by (fun _ k => XS.aload X962.here hx rfl (hb hby at_239) rfl rfl k) ?_
    refine own_by (fun _ k => XS.iload X962.here hx rfl (hb hby at_241) rfl k) ?_
    show own_Go p e below _ T962 (mkF m 243 #[.val (.int p1), .val (.int p2), .val (.int p3), .val (.long p4), .second, .val (.long p5), .second, .val (.long p6), .second, .val (.int nk), .val (.int ky), .val (.int ko), .val (.int (1 : Int32)), .val (.ref b910), .val (.int (1 : Int32)), .val (.long (1 : Int64)), .second, .val (.long (2 : Int64)), .second, .val (.long (2 : Int64)), .second, .unset, .unset] [(.int ky), (.ref b910)])
    refine own_by (fun _ k => XS.lconst X962.here hx rfl (hb hby at_243) k) ?_
    refine own_by (fun _ k => XS.lload X962.here hx rfl (hb hby at_244) rfl k) ?_
    refine own_by (fun _ k => XS.lload X962.here hx rfl (hb hby at_246) rfl k) ?_
    show own_Go p e below _ T962 (mkF m 248 #[.val (.int p1), .val (.int p2), .val (.int p3), .val (.long p4), .second, .val (.long p5), .second, .val (.long p6), .second, .val (.int nk), .val (.int ky), .val (.int ko), .val (.int (1 : Int32)), .val (.ref b910), .val (.int (1 : Int32)), .val (.long (1 : Int64)), .second, .val (.long (2 : Int64)), .second, .val (.long (2 : Int64)), .second, .unset, .unset] [(.long p6), (.long p5), (.long (1 : Int64)), (.int ky), (.ref b910)])
    have f963 := (f958.keep Kc960)
    have f964 := (f959.keep Kc960 (ninS ne_b910_t nin0))
    have f965 := (f960.keep Kc960 (ninS ne_b910_t nin0))
    have f966 := (f961.keep Kc960 (ninS nt nin0))
    obtain ⟨_, T967, L967, X967, ⟨rfl, N967q, Kc965, Hc965⟩, st967⟩ := own_callV X962 hx hZ hown (y := (⟨"com/example/eskew/eskew/server/split/CounterValues", "wrote", "(IJJJ)V"⟩ : MethodName)) (C := "com/example/eskew/eskew/server/split/CounterValues") (hw _ (List.mem_of_getElem? (i := 52) rfl)) (hw _ (List.mem_of_getElem? (i := 53) rfl)) (hw _ (List.mem_of_getElem? (i := 55) rfl)) (hw _ (List.mem_of_getElem? (i := 54) rfl)) (hw _ (List.mem_of_getElem? (i := 3) rfl)) (hw _ (List.mem_of_getElem? (i := 56) rfl)) (by decide) (a := b910) f963 (argsL := [(.int ky), (.long (1 : Int64)), (.long p5), (.long p6)]) (rest := []) rfl (rm6b l Z a0 hw [] b910 ta t kt vs nk ky (1 : Int64) p5 p6 p6 (2 : Int64) (1 : Int32) (1 : Int64) p4 (0 : Int32) (0 : Int32) (1 : Int32) T962.heap n0 Z962 og_t hk hv ne_b910_t nt f965 f966 Hd960 f963 f964 (by decide)) (g := (mkF m 248 #[.val (.int p1), .val (.int p2), .val (.int p3), .val (.long p4), .second, .val (.long p5), .second, .val (.long p6), .second, .val (.int nk), .val (.int ky), .val (.int ko), .val (.int (1 : Int32)), .val (.ref b910), .val (.int (1 : Int32)), .val (.long (1 : Int64)), .second, .val (.long (2 : Int64)), .second, .val (.long (2 : Int64)), .second, .unset, .unset] [(.long p6), (.long p5), (.long (1 : Int64)), (.int ky), (.ref b910)])) rfl (by rw [hml]; rfl) (lenOf pd_11 rfl) rfl (W := 0) (by show 2 * 0 + _ ≤ _; exact Nat.le_of_eq rfl) (hb hby at_248) (by decide) (by decide) (by decide) (by decide)
    have N967 := Fr.app N962 N967q
    refine own_by st967 ?_
    have Z967 : n0 ≤ T967.heap.size := Nat.le_trans Z962 Kc965.1
    have K967c := K962c.trans Kc965 (allS (Or.inr sz_t) all0)
    have Hd965 : own_Tal Z T967.heap t p6 (2 : Int64) (0 : Int32) (1 : Int64) p5 (0 : Int32) (0 : Int32) (1 : Int32) := own_TalC Hc965 (by first | decide | rfl) (by first | decide | rfl) (by first | decide | rfl) (by first | decide | rfl) (by first | decide | rfl) (by first | decide | rfl) (by first | decide | rfl) (by first | decide | rfl)
    refine own_by (fun _ k => XS.aload X967.here hx rfl (hb hby at_251) rfl rfl k) ?_
    have HO1 := HO.keep K967c all0
    have f968 := (own_TalK (own_TalK (own_TalK Hd948 Kc953 (ninS (Ne.symm ntt) nin0)) Kc960 (ninS (Ne.symm ntt) nin0)) Kc965 (ninS (Ne.symm ntt) nin0))
    have f969 := (own_VoK (own_VoK (own_VoK (own_VoK (own_VoK (own_VoK Vo Kc943 (allS (P := fun x => x = t ∨ x = t2) (Or.inl rfl) all0)) Kc944 (allS (P := fun x => x = t ∨ x = t2) (Or.inl rfl) all0)) Kc948 (allS (P := fun x => x = t ∨ x = t2) (Or.inr rfl) all0)) Kc953 (allS (P := fun x => x = t ∨ x = t2) (Or.inl rfl) all0)) Kc960 (allS (P := fun x => x = t ∨ x = t2) (Or.inl rfl) all0)) Kc965 (allS (P := fun x => x = t ∨ x = t2) (Or.inl rfl) all0))
    have HV : own_Vals Z T967.heap vs nk ky p5 := own_mkV f969 hkk hv hv2 Hd965.2.2.2.2.2.1 f968.2.2.2.2.2.1
    have f970 := (f963.keep Kc965)
    have f971 := (f965.keep Kc965 (ninS ne_b910_t nin0))
    have f972 := (f966.keep Kc965 (ninS nt nin0))
    obtain ⟨_, T973, L973, X973, ⟨r', rfl, N973q, Kt', Er', Fr'⟩, st973⟩ := own_callV X967 hx hZ hown (y := (⟨"com/example/eskew/eskew/server/split/CounterValues", "total", "()Ljava/lang/Long;"⟩ : MethodName)) (C := "com/example/eskew/eskew/server/split/CounterValues") (hw _ (List.mem_of_getElem? (i := 87) rfl)) (hw _ (List.mem_of_getElem? (i := 88) rfl)) (hw _ (List.mem_of_getElem? (i := 90) rfl)) (hw _ (List.mem_of_getElem? (i := 89) rfl)) (hw _ (List.mem_of_getElem? (i := 3) rfl)) (hw _ (List.mem_of_getElem? (i := 91) rfl)) (by decide) (a := b910) f970 (argsL := []) (rest := []) rfl (rm11 l Z a0 hw ca cc b910 ta kt vs nk ky p5 T967.heap n0 Z967 HB HS HO1 hn f970 hk f971 f972 HV) (g := (mkF m 253 #[.val (.int p1), .val (.int p2), .val (.int p3), .val (.long p4), .second, .val (.long p5), .second, .val (.long p6), .second, .val (.int nk), .val (.int ky), .val (.int ko), .val (.int (1 : Int32)), .val (.ref b910), .val (.int (1 : Int32)), .val (.long (1 : Int64)), .second, .val (.long (2 : Int64)), .second, .val (.long (2 : Int64)), .second, .unset, .unset] [(.ref b910)])) rfl (by rw [hml]; rfl) (lenOf pd_9 rfl) rfl (W := 0) (by show 2 * 0 + _ ≤ _; exact Nat.le_of_eq rfl) (hb hby at_253) (by decide) (by decide) (by decide) (by decide)
    have N973 := Fr.app N967 N973q
    refine own_by st973 ?_
    show own_Go p e below _ T973 (mkF m 256 #[.val (.int p1), .val (.int p2), .val (.int p3), .val (.long p4), .second, .val (.long p5), .second, .val (.long p6), .second, .val (.int nk), .val (.int ky), .val (.int ko), .val (.int (1 : Int32)), .val (.ref b910), .val (.int (1 : Int32)), .val (.long (1 : Int64)), .second, .val (.long (2 : Int64)), .second, .val (.long (2 : Int64)), .second, .unset, .unset] [(.ref r')])
    have Z973 : n0 ≤ T973.heap.size := Nat.le_trans Z967 Kt'.1
    have K973c := K967c.trans Kt' all0
    refine own_by (fun _ k => XS.astore X973.here hx rfl (hb hby at_256) rfl rfl (l' := #[.val (.int p1), .val (.int p2), .val (.int p3), .val (.long p4), .second, .val (.long p5), .second, .val (.long p6), .second, .val (.int nk), .val (.int ky), .val (.int ko), .val (.int (1 : Int32)), .val (.ref b910), .val (.int (1 : Int32)), .val (.long (1 : Int64)), .second, .val (.long (2 : Int64)), .second, .val (.ref r'), .unset, .unset, .unset]) rfl k) ?_
    refine own_by (fun _ k => XS.iload X973.here hx rfl (hb hby at_258) rfl k) ?_
    refine own_by (fun _ k => XS.iconst X973.here hx rfl (hb hby at_260) k) ?_
    show own_Go p e below _ T973 (mkF m 261 #[.val (.int p1), .val (.int p2), .val (.int p3), .val (.long p4), .second, .val (.long p5), .second, .val (.long p6), .second, .val (.int nk), .val (.int ky), .val (.int ko), .val (.int (1 : Int32)), .val (.ref b910), .val (.int (1 : Int32)), .val (.long (1 : Int64)), .second, .val (.long (2 : Int64)), .second, .val (.ref r'), .unset, .unset, .unset] [(.int (1 : Int32)), (.int (1 : Int32))])
    refine own_by (fun _ k => XS.icmpNo X973.here hx rfl (hb hby at_261) rfl (teq (by decide : (1 : Int32) = (1 : Int32))).2 k) ?_
    refine own_by (fun _ k => XS.lload X973.here hx rfl (hb hby at_264) rfl k) ?_
    refine own_by (fun _ k => XS.goto X973.here hx rfl (pc0 := 266) (pc' := 270) rfl (hb hby at_266) (by decide) (by decide) k) ?_
    show own_Go p e below _ T973 (mkF m 270 #[.val (.int p1), .val (.int p2), .val (.int p3), .val (.long p4), .second, .val (.long p5), .second, .val (.long p6), .second, .val (.int nk), .val (.int ky), .val (.int ko), .val (.int (1 : Int32)), .val (.ref b910), .val (.int (1 : Int32)), .val (.long (1 : Int64)), .second, .val (.long (2 : Int64)), .second, .val (.ref r'), .unset, .unset, .unset] [(.long p5)])
    refine own_by (fun _ k => XS.lstore X973.here hx rfl (hb hby at_270) rfl (l' := #[.val (.int p1), .val (.int p2), .val (.int p3), .val (.long p4), .second, .val (.long p5), .second, .val (.long p6), .second, .val (.int nk), .val (.int ky), .val (.int ko), .val (.int (1 : Int32)), .val (.ref b910), .val (.int (1 : Int32)), .val (.long (1 : Int64)), .second, .val (.long (2 : Int64)), .second, .val (.ref r'), .val (.long p5), .second, .unset]) rfl k) ?_
    refine own_by (fun _ k => XS.iload X973.here hx rfl (hb hby at_272) rfl k) ?_
    refine own_by (fun _ k => XS.aload X973.here hx rfl (hb hby at_274) rfl rfl k) ?_
    show own_Go p e below _ T973 (mkF m 276 #[.val (.int p1), .val (.int p2), .val (.int p3), .val (.long p4), .second, .val (.long p5), .second, .val (.long p6), .second, .val (.int nk), .val (.int ky), .val (.int ko), .val (.int (1 : Int32)), .val (.ref b910), .val (.int (1 : Int32)), .val (.long (1 : Int64)), .second, .val (.long (2 : Int64)), .second, .val (.ref r'), .val (.long p5), .second, .unset] [(.ref r'), (.int (1 : Int32))])
    refine own_by (fun _ k => XS.ifnullNo X973.here hx rfl (hb hby at_276) rfl k) ?_
    refine own_by (fun _ k => XS.aload X973.here hx rfl (hb hby at_279) rfl rfl k) ?_
    obtain ⟨_, T974, L974, X974, ⟨rfl, N974q, e974⟩, st974⟩ := own_callV X973 hx hZ hown (y := (⟨"java/lang/Long", "longValue", "()J"⟩ : MethodName)) (C := "java/lang/Long") (hw _ (List.mem_of_getElem? (i := 130) rfl)) (hw _ (List.mem_of_getElem? (i := 131) rfl)) (hw _ (List.mem_of_getElem? (i := 133) rfl)) (hw _ (List.mem_of_getElem? (i := 132) rfl)) (hw _ (List.mem_of_getElem? (i := 112) rfl)) (hw _ (List.mem_of_getElem? (i := 134) rfl)) (by decide) (a := r') Er' (argsL := []) (rest := [(.int (1 : Int32))]) rfl (rm18 l Z a0 hw [] r' p5 T973.heap n0 Z973 Fr') (g := (mkF m 281 #[.val (.int p1), .val (.int p2), .val (.int p3), .val (.long p4), .second, .val (.long p5), .second, .val (.long p6), .second, .val (.int nk), .val (.int ky), .val (.int ko), .val (.int (1 : Int32)), .val (.ref b910), .val (.int (1 : Int32)), .val (.long (1 : Int64)), .second, .val (.long (2 : Int64)), .second, .val (.ref r'), .val (.long p5), .second, .unset] [(.ref r'), (.int (1 : Int32))])) rfl (by rw [hml]; rfl) (lenOf pd_12 rfl) rfl (W := 1) (by show 2 * 0 + _ ≤ _; exact Nat.le_of_eq rfl) (hb hby at_281) (by decide) (by decide) (by decide) (by decide)
    have N974 := Fr.app N973 N974q
    refine own_by st974 ?_
    show own_Go p e below _ T974 (mkF m 284 #[.val (.int p1), .val (.int p2), .val (.int p3), .val (.long p4), .second, .val (.long p5), .second, .val (.long p6), .second, .val (.int nk), .val (.int ky), .val (.int ko), .val (.int (1 : Int32)), .val (.ref b910), .val (.int (1 : Int32)), .val (.long (1 : Int64)), .second, .val (.long (2 : Int64)), .second, .val (.ref r'), .val (.long p5), .second, .unset] [(.long p5), (.int (1 : Int32))])
    refine own_by (fun _ k => XS.lload X974.here hx rfl (hb hby at_284) rfl k) ?_
    refine own_by (fun _ k => XS.lcmp X974.here hx rfl (hb hby at_286) rfl k) ?_
    refine own_by (fun _ k => XS.ifNo X974.here hx rfl (hb hby at_287) rfl ((if0 _ _).trans (teq ((lw_eq _ _).mpr rfl : (lcmpW p5 p5) = (0 : Int32))).2) k) ?_
    show own_Go p e below _ T974 (mkF m 290 #[.val (.int p1), .val (.int p2), .val (.int p3), .val (.long p4), .second, .val (.long p5), .second, .val (.long p6), .second, .val (.int nk), .val (.int ky), .val (.int ko), .val (.int (1 : Int32)), .val (.ref b910), .val (.int (1 : Int32)), .val (.long (1 : Int64)), .second, .val (.long (2 : Int64)), .second, .val (.ref r'), .val (.long p5), .second, .unset] [(.int (1 : Int32))])
    refine own_by (fun _ k => XS.iconst X974.here hx rfl (hb hby at_290) k) ?_
    refine own_by (fun _ k => XS.goto X974.here hx rfl (pc0 := 291) (pc' := 295) rfl (hb hby at_291) (by decide) (by decide) k) ?_
    refine own_by (fun _ k => XS.iand X974.here hx rfl (hb hby at_295) rfl k) ?_
    show own_Go p e below _ T974 (mkF m 296 #[.val (.int p1), .val (.int p2), .val (.int p3), .val (.long p4), .second, .val (.long p5), .second, .val (.long p6), .second, .val (.int nk), .val (.int ky), .val (.int ko), .val (.int (1 : Int32)), .val (.ref b910), .val (.int (1 : Int32)), .val (.long (1 : Int64)), .second, .val (.long (2 : Int64)), .second, .val (.ref r'), .val (.long p5), .second, .unset] [(.int ((1 : Int32) &&& (1 : Int32)))])
    refine own_by (fun _ k => XS.istore X974.here hx rfl (hb hby at_296) rfl (l' := #[.val (.int p1), .val (.int p2), .val (.int p3), .val (.long p4), .second, .val (.long p5), .second, .val (.long p6), .second, .val (.int nk), .val (.int ky), .val (.int ko), .val (.int (1 : Int32)), .val (.ref b910), .val (.int ((1 : Int32) &&& (1 : Int32))), .val (.long (1 : Int64)), .second, .val (.long (2 : Int64)), .second, .val (.ref r'), .val (.long p5), .second, .unset]) rfl k) ?_
    show own_Go p e below _ T974 (mkF m 298 #[.val (.int p1), .val (.int p2), .val (.int p3), .val (.long p4), .second, .val (.long p5), .second, .val (.long p6), .second, .val (.int nk), .val (.int ky), .val (.int ko), .val (.int (1 : Int32)), .val (.ref b910), .val (.int ((1 : Int32) &&& (1 : Int32))), .val (.long (1 : Int64)), .second, .val (.long (2 : Int64)), .second, .val (.ref r'), .val (.long p5), .second, .unset] [])
    rw [show ((1 : Int32) &&& (1 : Int32)) = (1 : Int32) from by decide]
    refine own_by (fun _ k => XS.aload X974.here hx rfl (hb hby at_298) rfl rfl k) ?_
    refine own_by (fun _ k => XS.iload X974.here hx rfl (hb hby at_300) rfl k) ?_
    show own_Go p e below _ T974 (mkF m 302 #[.val (.int p1), .val (.int p2), .val (.int p3), .val (.long p4), .second, .val (.long p5), .second, .val (.long p6), .second, .val (.int nk), .val (.int ky), .val (.int ko), .val (.int (1 : Int32)), .val (.ref b910), .val (.int (1 : Int32)), .val (.long (1 : Int64)), .second, .val (.long (2 : Int64)), .second, .val (.ref r'), .val (.long p5), .second, .unset] [(.int ky), (.ref b910)])
    refine own_by (fun _ k => XS.lload X974.here hx rfl (hb hby at_302) rfl k) ?_
    have f975 := (f971.keep Kt' nin0)
    have f976 := (f972.keep Kt' nin0)
    have f977 := (own_TalK Hd965 Kt' nin0)
    have f978 := (f970.keep Kt')
    have f979 := (((((((Q1'.keep Kc943 (ninS ne_b910_t nin0)).keep Kc944 (ninS ne_b910_t nin0)).keep Kc948 (ninS ne_b910_t2 nin0)).keep Kc953 (ninS ne_b910_t nin0)).keep Kc960 (ninS ne_b910_t nin0)).keep Kc965 (ninS ne_b910_t nin0)).keep Kt' nin0)
    obtain ⟨_, T980, L980, X980, ⟨rfl, N980q, e980⟩, st980⟩ := own_callV X974 hx hZ hown (y := (⟨"com/example/eskew/eskew/server/split/CounterValues", "wanted", "(IJ)Z"⟩ : MethodName)) (C := "com/example/eskew/eskew/server/split/CounterValues") (hw _ (List.mem_of_getElem? (i := 135) rfl)) (hw _ (List.mem_of_getElem? (i := 136) rfl)) (hw _ (List.mem_of_getElem? (i := 138) rfl)) (hw _ (List.mem_of_getElem? (i := 137) rfl)) (hw _ (List.mem_of_getElem? (i := 3) rfl)) (hw _ (List.mem_of_getElem? (i := 139) rfl)) (by decide) (a := b910) f978 (argsL := [(.int ky), (.long p6)]) (rest := []) e974 (rm19a l Z a0 hw [] b910 ta t kt vs nk ky p6 (1000 : Int64) p6 (2 : Int64) (0 : Int32) (1 : Int64) p5 (0 : Int32) (0 : Int32) (1 : Int32) T973.heap n0 Z973 og_t hk hv ne_b910_t nt f975 f976 f977 f978 f979 rfl rfl rfl) (g := (mkF m 304 #[.val (.int p1), .val (.int p2), .val (.int p3), .val (.long p4), .second, .val (.long p5), .second, .val (.long p6), .second, .val (.int nk), .val (.int ky), .val (.int ko), .val (.int (1 : Int32)), .val (.ref b910), .val (.int (1 : Int32)), .val (.long (1 : Int64)), .second, .val (.long (2 : Int64)), .second, .val (.ref r'), .val (.long p5), .second, .unset] [(.long p6), (.int ky), (.ref b910)])) rfl (by rw [hml]; rfl) (lenOf pd_13 rfl) rfl (W := 0) (by show 2 * 0 + _ ≤ _; exact Nat.le_of_eq rfl) (hb hby at_304) (by decide) (by decide) (by decide) (by decide)
    have N980 := Fr.app N974 N980q
    refine own_by st980 ?_
    refine own_by (fun _ k => XS.istore X980.here hx rfl (hb hby at_307) rfl (l' := #[.val (.int p1), .val (.int p2), .val (.int p3), .val (.long p4), .second, .val (.long p5), .second, .val (.long p6), .second, .val (.int nk), .val (.int ky), .val (.int ko), .val (.int (1 : Int32)), .val (.ref b910), .val (.int (1 : Int32)), .val (.long (1 : Int64)), .second, .val (.long (2 : Int64)), .second, .val (.ref r'), .val (.long p5), .second, .val (.int (1 : Int32))]) rfl k) ?_
    show own_Go p e below _ T980 (mkF m 309 #[.val (.int p1), .val (.int p2), .val (.int p3), .val (.long p4), .second, .val (.long p5), .second, .val (.long p6), .second, .val (.int nk), .val (.int ky), .val (.int ko), .val (.int (1 : Int32)), .val (.ref b910), .val (.int (1 : Int32)), .val (.long (1 : Int64)), .second, .val (.long (2 : Int64)), .second, .val (.ref r'), .val (.long p5), .second, .val (.int (1 : Int32))] [])
    refine own_by (fun _ k => XS.iload X980.here hx rfl (hb hby at_309) rfl k) ?_
    refine own_by (fun _ k => XS.iload X980.here hx rfl (hb hby at_311) rfl k) ?_
    refine own_by (fun _ k => XS.iload X980.here hx rfl (hb hby at_313) rfl k) ?_
    show own_Go p e below _ T980 (mkF m 315 #[.val (.int p1), .val (.int p2), .val (.int p3), .val (.long p4), .second, .val (.long p5), .second, .val (.long p6), .second, .val (.int nk), .val (.int ky), .val (.int ko), .val (.int (1 : Int32)), .val (.ref b910), .val (.int (1 : Int32)), .val (.long (1 : Int64)), .second, .val (.long (2 : Int64)), .second, .val (.ref r'), .val (.long p5), .second, .val (.int (1 : Int32))] [(.int (1 : Int32)), (.int (1 : Int32)), (.int (1 : Int32))])
    refine own_by (fun _ k => XS.iconst X980.here hx rfl (hb hby at_315) k) ?_
    refine own_by (fun _ k => XS.icmpNo X980.here hx rfl (hb hby at_316) rfl (teq (by decide : (1 : Int32) = (1 : Int32))).2 k) ?_
    refine own_by (fun _ k => XS.iconst X980.here hx rfl (hb hby at_319) k) ?_
    show own_Go p e below _ T980 (mkF m 320 #[.val (.int p1), .val (.int p2), .val (.int p3), .val (.long p4), .second, .val (.long p5), .second, .val (.long p6), .second, .val (.int nk), .val (.int ky), .val (.int ko), .val (.int (1 : Int32)), .val (.ref b910), .val (.int (1 : Int32)), .val (.long (1 : Int64)), .second, .val (.long (2 : Int64)), .second, .val (.ref r'), .val (.long p5), .second, .val (.int (1 : Int32))] [(.int (1 : Int32)), (.int (1 : Int32)), (.int (1 : Int32))])
    refine own_by (fun _ k => XS.goto X980.here hx rfl (pc0 := 320) (pc' := 324) rfl (hb hby at_320) (by decide) (by decide) k) ?_
    refine own_by (fun _ k => XS.icmpNo X980.here hx rfl (hb hby at_324) rfl (teq (by decide : (1 : Int32) = (1 : Int32))).2 k) ?_
    refine own_by (fun _ k => XS.iconst X980.here hx rfl (hb hby at_327) k) ?_
    show own_Go p e below _ T980 (mkF m 328 #[.val (.int p1), .val (.int p2), .val (.int p3), .val (.long p4), .second, .val (.long p5), .second, .val (.long p6), .second, .val (.int nk), .val (.int ky), .val (.int ko), .val (.int (1 : Int32)), .val (.ref b910), .val (.int (1 : Int32)), .val (.long (1 : Int64)), .second, .val (.long (2 : Int64)), .second, .val (.ref r'), .val (.long p5), .second, .val (.int (1 : Int32))] [(.int (1 : Int32)), (.int (1 : Int32))])
    refine own_by (fun _ k => XS.goto X980.here hx rfl (pc0 := 328) (pc' := 332) rfl (hb hby at_328) (by decide) (by decide) k) ?_
    refine own_by (fun _ k => XS.iand X980.here hx rfl (hb hby at_332) rfl k) ?_
    refine own_by (fun _ k => XS.istore X980.here hx rfl (hb hby at_333) rfl (l' := #[.val (.int p1), .val (.int p2), .val (.int p3), .val (.long p4), .second, .val (.long p5), .second, .val (.long p6), .second, .val (.int nk), .val (.int ky), .val (.int ko), .val (.int (1 : Int32)), .val (.ref b910), .val (.int ((1 : Int32) &&& (1 : Int32))), .val (.long (1 : Int64)), .second, .val (.long (2 : Int64)), .second, .val (.ref r'), .val (.long p5), .second, .val (.int (1 : Int32))]) rfl k) ?_
    show own_Go p e below _ T980 (mkF m 335 #[.val (.int p1), .val (.int p2), .val (.int p3), .val (.long p4), .second, .val (.long p5), .second, .val (.long p6), .second, .val (.int nk), .val (.int ky), .val (.int ko), .val (.int (1 : Int32)), .val (.ref b910), .val (.int ((1 : Int32) &&& (1 : Int32))), .val (.long (1 : Int64)), .second, .val (.long (2 : Int64)), .second, .val (.ref r'), .val (.long p5), .second, .val (.int (1 : Int32))] [])
    rw [show ((1 : Int32) &&& (1 : Int32)) = (1 : Int32) from by decide]
    refine own_by (fun _ k => XS.iload X980.here hx rfl (hb hby at_335) rfl k) ?_
    refine own_by (fun _ k => XS.aload X980.here hx rfl (hb hby at_337) rfl rfl k) ?_
    show own_Go p e below _ T980 (mkF m 339 #[.val (.int p1), .val (.int p2), .val (.int p3), .val (.long p4), .second, .val (.long p5), .second, .val (.long p6), .second, .val (.int nk), .val (.int ky), .val (.int ko), .val (.int (1 : Int32)), .val (.ref b910), .val (.int (1 : Int32)), .val (.long (1 : Int64)), .second, .val (.long (2 : Int64)), .second, .val (.ref r'), .val (.long p5), .second, .val (.int (1 : Int32))] [(.ref b910), (.int (1 : Int32))])
    refine own_by (fun _ k => XS.iload X980.here hx rfl (hb hby at_339) rfl k) ?_
    obtain ⟨_, T981, L981, X981, ⟨rfl, N981q, Kc981, Hc981⟩, st981⟩ := own_callV X980 hx hZ hown (y := (⟨"com/example/eskew/eskew/server/split/CounterValues", "reading", "(I)J"⟩ : MethodName)) (C := "com/example/eskew/eskew/server/split/CounterValues") (hw _ (List.mem_of_getElem? (i := 78) rfl)) (hw _ (List.mem_of_getElem? (i := 79) rfl)) (hw _ (List.mem_of_getElem? (i := 81) rfl)) (hw _ (List.mem_of_getElem? (i := 80) rfl)) (hw _ (List.mem_of_getElem? (i := 3) rfl)) (hw _ (List.mem_of_getElem? (i := 82) rfl)) (by decide) (a := b910) f978 (argsL := [(.int ky)]) (rest := [(.int (1 : Int32))]) e980 (rm10 l Z a0 hw [] b910 ta t kt vs nk ky p6 (2 : Int64) (0 : Int32) (1 : Int64) p5 (0 : Int32) (0 : Int32) (1 : Int32) T973.heap n0 Z973 og_t hk hv ne_b910_t nt f975 f976 f977 ) (g := (mkF m 341 #[.val (.int p1), .val (.int p2), .val (.int p3), .val (.long p4), .second, .val (.long p5), .second, .val (.long p6), .second, .val (.int nk), .val (.int ky), .val (.int ko), .val (.int (1 : Int32)), .val (.ref b910), .val (.int (1 : Int32)), .val (.long (1 : Int64)), .second, .val (.long (2 : Int64)), .second, .val (.ref r'), .val (.long p5), .second, .val (.int (1 : Int32))] [(.int ky), (.ref b910), (.int (1 : Int32))])) rfl (by rw [hml]; rfl) (lenOf pd_10 rfl) rfl (W := 1) (by show 2 * 0 + _ ≤ _; exact Nat.le_of_eq rfl) (hb hby at_341) (by decide) (by decide) (by decide) (by decide)
    have N981 := Fr.app N980 N981q
    refine own_by st981 ?_
    have Z981 : n0 ≤ T981.heap.size := Nat.le_trans Z973 Kc981.1
    have K981c := K973c.trans Kc981 (allS (Or.inr sz_t) all0)
    have Hd981 : own_Tal Z T981.heap t p6 (2 : Int64) (0 : Int32) (1 : Int64) p5 (0 : Int32) (0 : Int32) (2 : Int32) := own_TalC Hc981 (by first | decide | rfl) (by first | decide | rfl) (by first | decide | rfl) (by first | decide | rfl) (by first | decide | rfl) (by first | decide | rfl) (by first | decide | rfl) (by first | decide | rfl)
    show own_Go p e below _ T981 (mkF m 344 #[.val (.int p1), .val (.int p2), .val (.int p3), .val (.long p4), .second, .val (.long p5), .second, .val (.long p6), .second, .val (.int nk), .val (.int ky), .val (.int ko), .val (.int (1 : Int32)), .val (.ref b910), .val (.int (1 : Int32)), .val (.long (1 : Int64)), .second, .val (.long (2 : Int64)), .second, .val (.ref r'), .val (.long p5), .second, .val (.int (1 : Int32))] [(.long (if (0 : Int32) = 0 then (2 : Int64) else -1)), (.int (1 : Int32))])
    rw [show (if (0 : Int32) = 0 then (2 : Int64) else -1) = (2 : Int64) from by decide]
    refine own_by (fun _ k => XS.lload X981.here hx rfl (hb hby at_344) rfl k) ?_
    refine own_by (fun _ k => XS.lcmp X981.here hx rfl (hb hby at_346) rfl k) ?_
    show own_Go p e below _ T981 (mkF m 347 #[.val (.int p1), .val (.int p2), .val (.int p3), .val (.long p4), .second, .val (.long p5), .second, .val (.long p6), .second, .val (.int nk), .val (.int ky), .val (.int ko), .val (.int (1 : Int32)), .val (.ref b910), .val (.int (1 : Int32)), .val (.long (1 : Int64)), .second, .val (.long (2 : Int64)), .second, .val (.ref r'), .val (.long p5), .second, .val (.int (1 : Int32))] [(.int (lcmpW (2 : Int64) (2 : Int64))), (.int (1 : Int32))])
    refine own_by (fun _ k => XS.ifNo X981.here hx rfl (hb hby at_347) rfl ((if0 _ _).trans (teq (by decide : (lcmpW (2 : Int64) (2 : Int64)) = (0 : Int32))).2) k) ?_
    refine own_by (fun _ k => XS.iconst X981.here hx rfl (hb hby at_350) k) ?_
    refine own_by (fun _ k => XS.goto X981.here hx rfl (pc0 := 351) (pc' := 355) rfl (hb hby at_351) (by decide) (by decide) k) ?_
    show own_Go p e below _ T981 (mkF m 355 #[.val (.int p1), .val (.int p2), .val (.int p3), .val (.long p4), .second, .val (.long p5), .second, .val (.long p6), .second, .val (.int nk), .val (.int ky), .val (.int ko), .val (.int (1 : Int32)), .val (.ref b910), .val (.int (1 : Int32)), .val (.long (1 : Int64)), .second, .val (.long (2 : Int64)), .second, .val (.ref r'), .val (.long p5), .second, .val (.int (1 : Int32))] [(.int (1 : Int32)), (.int (1 : Int32))])
    refine own_by (fun _ k => XS.iand X981.here hx rfl (hb hby at_355) rfl k) ?_
    refine own_by (fun _ k => XS.istore X981.here hx rfl (hb hby at_356) rfl (l' := #[.val (.int p1), .val (.int p2), .val (.int p3), .val (.long p4), .second, .val (.long p5), .second, .val (.long p6), .second, .val (.int nk), .val (.int ky), .val (.int ko), .val (.int (1 : Int32)), .val (.ref b910), .val (.int ((1 : Int32) &&& (1 : Int32))), .val (.long (1 : Int64)), .second, .val (.long (2 : Int64)), .second, .val (.ref r'), .val (.long p5), .second, .val (.int (1 : Int32))]) rfl k) ?_
    show own_Go p e below _ T981 (mkF m 358 #[.val (.int p1), .val (.int p2), .val (.int p3), .val (.long p4), .second, .val (.long p5), .second, .val (.long p6), .second, .val (.int nk), .val (.int ky), .val (.int ko), .val (.int (1 : Int32)), .val (.ref b910), .val (.int ((1 : Int32) &&& (1 : Int32))), .val (.long (1 : Int64)), .second, .val (.long (2 : Int64)), .second, .val (.ref r'), .val (.long p5), .second, .val (.int (1 : Int32))] [])
    rw [show ((1 : Int32) &&& (1 : Int32)) = (1 : Int32) from by decide]
    refine own_by (fun _ k => XS.iload X981.here hx rfl (hb hby at_358) rfl k) ?_
    exact own_retN X981 hx hlk hret (by simp) rfl (hb hby at_360) ⟨rfl, N981⟩ (by decide) (by decide)
  · show own_Go p e below _ T912 (mkF m 47 #[.val (.int p1), .val (.int p2), .val (.int p3), .val (.long p4), .second, .val (.long p5), .second, .val (.long p6), .second, .val (.int nk), .val (.int ky), .val (.int ko), .val (.int (2 : Int32)), .unset, .unset, .unset, .unset, .unset, .unset, .unset, .unset, .unset, .unset] [(.ref b910)])
    refine own_by (fun _ k => XS.astore X912.here hx rfl (hb hby at_47) rfl rfl (l' := #[.val (.int p1), .val (.int p2), .val (.int p3), .val (.long p4), .second, .val (.long p5), .second, .val (.long p6), .second, .val (.int nk), .val (.int ky), .val (.int ko), .val (.int (2 : Int32)), .val (.ref b910), .unset, .unset, .unset, .unset, .unset, .unset, .unset, .unset, .unset]) rfl k) ?_
    refine own_by (fun _ k => XS.iconst X912.here hx rfl (hb hby at_49) k) ?_
    refine own_by (fun _ k => XS.istore X912.here hx rfl (hb hby at_50) rfl (l' := #[.val (.int p1), .val (.int p2), .val (.int p3), .val (.long p4), .second, .val (.long p5), .second, .val (.long p6), .second, .val (.int nk), .val (.int ky), .val (.int ko), .val (.int (2 : Int32)), .val (.ref b910), .val (.int (1 : Int32)), .unset, .unset, .unset, .unset, .unset, .unset, .unset, .unset]) rfl k) ?_
    show own_Go p e below _ T912 (mkF m 52 #[.val (.int p1), .val (.int p2), .val (.int p3), .val (.long p4), .second, .val (.long p5), .second, .val (.long p6), .second, .val (.int nk), .val (.int ky), .val (.int ko), .val (.int (2 : Int32)), .val (.ref b910), .val (.int (1 : Int32)), .unset, .unset, .unset, .unset, .unset, .unset, .unset, .unset] [])
    refine own_by (fun _ k => XS.aload X912.here hx rfl (hb hby at_52) rfl rfl k) ?_
    refine own_by (fun _ k => XS.iload X912.here hx rfl (hb hby at_54) rfl k) ?_
    obtain ⟨_, T982, L982, X982, ⟨rfl, N982q, Kc982, Hc982⟩, st982⟩ := own_callV X912 hx hZ hown (y := (⟨"com/example/eskew/eskew/server/split/CounterValues", "writing", "(I)J"⟩ : MethodName)) (C := "com/example/eskew/eskew/server/split/CounterValues") (hw _ (List.mem_of_getElem? (i := 41) rfl)) (hw _ (List.mem_of_getElem? (i := 42) rfl)) (hw _ (List.mem_of_getElem? (i := 44) rfl)) (hw _ (List.mem_of_getElem? (i := 43) rfl)) (hw _ (List.mem_of_getElem? (i := 3) rfl)) (hw _ (List.mem_of_getElem? (i := 45) rfl)) (by decide) (a := b910) E1' (argsL := [(.int ky)]) (rest := []) rfl (rm5 l Z a0 hw [] b910 ta t kt vs nk ky p6 (0 : Int64) (0 : Int32) (0 : Int64) (0 : Int64) (0 : Int32) (0 : Int32) (0 : Int32) T912.heap n0 Z912 og_t hk hv ne_b910_t nt A1' V1' HT ) (g := (mkF m 56 #[.val (.int p1), .val (.int p2), .val (.int p3), .val (.long p4), .second, .val (.long p5), .second, .val (.long p6), .second, .val (.int nk), .val (.int ky), .val (.int ko), .val (.int (2 : Int32)), .val (.ref b910), .val (.int (1 : Int32)), .unset, .unset, .unset, .unset, .unset, .unset, .unset, .unset] [(.int ky), (.ref b910)])) rfl (by rw [hml]; rfl) (lenOf pd_10 rfl) rfl (W := 0) (by show 2 * 0 + _ ≤ _; exact Nat.le_of_eq rfl) (hb hby at_56) (by decide) (by decide) (by decide) (by decide)
    have N982 := Fr.app N912 N982q
    refine own_by st982 ?_
    show own_Go p e below _ T982 (mkF m 59 #[.val (.int p1), .val (.int p2), .val (.int p3), .val (.long p4), .second, .val (.long p5), .second, .val (.long p6), .second, .val (.int nk), .val (.int ky), .val (.int ko), .val (.int (2 : Int32)), .val (.ref b910), .val (.int (1 : Int32)), .unset, .unset, .unset, .unset, .unset, .unset, .unset, .unset] [(.long ((0 : Int64) + 1))])
    have Z982 : n0 ≤ T982.heap.size := Nat.le_trans Z912 Kc982.1
    have K982c := K912c.trans Kc982 (allS (Or.inr sz_t) all0)
    have Hd982 : own_Tal Z T982.heap t p6 (1 : Int64) (1 : Int32) (1 : Int64) (0 : Int64) (0 : Int32) (0 : Int32) (0 : Int32) := own_TalC Hc982 (by first | decide | rfl) (by first | decide | rfl) (by first | decide | rfl) (by first | decide | rfl) (by first | decide | rfl) (by first | decide | rfl) (by first | decide | rfl) (by first | decide | rfl)
    rw [show ((0 : Int64) + 1) = (1 : Int64) from by decide]
    refine own_by (fun _ k => XS.lstore X982.here hx rfl (hb hby at_59) rfl (l' := #[.val (.int p1), .val (.int p2), .val (.int p3), .val (.long p4), .second, .val (.long p5), .second, .val (.long p6), .second, .val (.int nk), .val (.int ky), .val (.int ko), .val (.int (2 : Int32)), .val (.ref b910), .val (.int (1 : Int32)), .val (.long (1 : Int64)), .second, .unset, .unset, .unset, .unset, .unset, .unset]) rfl k) ?_
    refine own_by (fun _ k => XS.iload X982.here hx rfl (hb hby at_61) rfl k) ?_
    show own_Go p e below _ T982 (mkF m 63 #[.val (.int p1), .val (.int p2), .val (.int p3), .val (.long p4), .second, .val (.long p5), .second, .val (.long p6), .second, .val (.int nk), .val (.int ky), .val (.int ko), .val (.int (2 : Int32)), .val (.ref b910), .val (.int (1 : Int32)), .val (.long (1 : Int64)), .second, .unset, .unset, .unset, .unset, .unset, .unset] [(.int (1 : Int32))])
    refine own_by (fun _ k => XS.lload X982.here hx rfl (hb hby at_63) rfl k) ?_
    refine own_by (fun _ k => XS.lconst X982.here hx rfl (hb hby at_65) k) ?_
    refine own_by (fun _ k => XS.lcmp X982.here hx rfl (hb hby at_66) rfl k) ?_
    show own_Go p e below _ T982 (mkF m 67 #[.val (.int p1), .val (.int p2), .val (.int p3), .val (.long p4), .second, .val (.long p5), .second, .val (.long p6), .second, .val (.int nk), .val (.int ky), .val (.int ko), .val (.int (2 : Int32)), .val (.ref b910), .val (.int (1 : Int32)), .val (.long (1 : Int64)), .second, .unset, .unset, .unset, .unset, .unset, .unset] [(.int (lcmpW (1 : Int64) (1 : Int64))), (.int (1 : Int32))])
    refine own_by (fun _ k => XS.ifNo X982.here hx rfl (hb hby at_67) rfl ((if0 _ _).trans (teq (by decide : (lcmpW (1 : Int64) (1 : Int64)) = (0 : Int32))).2) k) ?_
    refine own_by (fun _ k => XS.iconst X982.here hx rfl (hb hby at_70) k) ?_
    refine own_by (fun _ k => XS.goto X982.here hx rfl (pc0 := 71) (pc' := 75) rfl (hb hby at_71) (by decide) (by decide) k) ?_
    show own_Go p e below _ T982 (mkF m 75 #[.val (.int p1), .val (.int p2), .val (.int p3), .val (.long p4), .second, .val (.long p5), .second, .val (.long p6), .second, .val (.int nk), .val (.int ky), .val (.int ko), .val (.int (2 : Int32)), .val (.ref b910), .val (.int (1 : Int32)), .val (.long (1 : Int64)), .second, .unset, .unset, .unset, .unset, .unset, .unset] [(.int (1 : Int32)), (.int (1 : Int32))])
    refine own_by (fun _ k => XS.iand X982.here hx rfl (hb hby at_75) rfl k) ?_
    refine own_by (fun _ k => XS.istore X982.here hx rfl (hb hby at_76) rfl (l' := #[.val (.int p1), .val (.int p2), .val (.int p3), .val (.long p4), .second, .val (.long p5), .second, .val (.long p6), .second, .val (.int nk), .val (.int ky), .val (.int ko), .val (.int (2 : Int32)), .val (.ref b910), .val (.int ((1 : Int32) &&& (1 : Int32))), .val (.long (1 : Int64)), .second, .unset, .unset, .unset, .unset, .unset, .unset]) rfl k) ?_
    show own_Go p e below _ T982 (mkF m 78 #[.val (.int p1), .val (.int p2), .val (.int p3), .val (.long p4), .second, .val (.long p5), .second, .val (.long p6), .second, .val (.int nk), .val (.int ky), .val (.int ko), .val (.int (2 : Int32)), .val (.ref b910), .val (.int ((1 : Int32) &&& (1 : Int32))), .val (.long (1 : Int64)), .second, .unset, .unset, .unset, .unset, .unset, .unset] [])
    rw [show ((1 : Int32) &&& (1 : Int32)) = (1 : Int32) from by decide]
    refine own_by (fun _ k => XS.lconst X982.here hx rfl (hb hby at_78) k) ?_
    refine own_by (fun _ k => XS.lstore X982.here hx rfl (hb hby at_79) rfl (l' := #[.val (.int p1), .val (.int p2), .val (.int p3), .val (.long p4), .second, .val (.long p5), .second, .val (.long p6), .second, .val (.int nk), .val (.int ky), .val (.int ko), .val (.int (2 : Int32)), .val (.ref b910), .val (.int (1 : Int32)), .val (.long (1 : Int64)), .second, .val (.long (1 : Int64)), .second, .unset, .unset, .unset, .unset]) rfl k) ?_
    show own_Go p e below _ T982 (mkF m 81 #[.val (.int p1), .val (.int p2), .val (.int p3), .val (.long p4), .second, .val (.long p5), .second, .val (.long p6), .second, .val (.int nk), .val (.int ky), .val (.int ko), .val (.int (2 : Int32)), .val (.ref b910), .val (.int (1 : Int32)), .val (.long (1 : Int64)), .second, .val (.long (1 : Int64)), .second, .unset, .unset, .unset, .unset] [])
    refine own_by (fun _ k => XS.iload X982.here hx rfl (hb hby at_81) rfl k) ?_
    refine own_by (fun _ k => XS.iconst X982.here hx rfl (hb hby at_83) k) ?_
    refine own_by (fun _ k => XS.icmpYes X982.here hx rfl (pc0 := 84) (pc' := 123) rfl (hb hby at_84) rfl (feq (by decide : ¬ ((2 : Int32) = (1 : Int32)))).2 (by decide) (by decide) k) ?_
    show own_Go p e below _ T982 (mkF m 123 #[.val (.int p1), .val (.int p2), .val (.int p3), .val (.long p4), .second, .val (.long p5), .second, .val (.long p6), .second, .val (.int nk), .val (.int ky), .val (.int ko), .val (.int (2 : Int32)), .val (.ref b910), .val (.int (1 : Int32)), .val (.long (1 : Int64)), .second, .val (.long (1 : Int64)), .second, .unset, .unset, .unset, .unset] [])
    refine own_by (fun _ k => XS.iload X982.here hx rfl (hb hby at_123) rfl k) ?_
    refine own_by (fun _ k => XS.iconst X982.here hx rfl (hb hby at_125) k) ?_
    refine own_by (fun _ k => XS.icmpNo X982.here hx rfl (hb hby at_126) rfl (teq (by decide : (2 : Int32) = (2 : Int32))).2 k) ?_
    show own_Go p e below _ T982 (mkF m 129 #[.val (.int p1), .val (.int p2), .val (.int p3), .val (.long p4), .second, .val (.long p5), .second, .val (.long p6), .second, .val (.int nk), .val (.int ky), .val (.int ko), .val (.int (2 : Int32)), .val (.ref b910), .val (.int (1 : Int32)), .val (.long (1 : Int64)), .second, .val (.long (1 : Int64)), .second, .unset, .unset, .unset, .unset] [])
    refine own_by (fun _ k => XS.aload X982.here hx rfl (hb hby at_129) rfl rfl k) ?_
    refine own_by (fun _ k => XS.iload X982.here hx rfl (hb hby at_131) rfl k) ?_
    refine own_by (fun _ k => XS.lload X982.here hx rfl (hb hby at_133) rfl k) ?_
    show own_Go p e below _ T982 (mkF m 135 #[.val (.int p1), .val (.int p2), .val (.int p3), .val (.long p4), .second, .val (.long p5), .second, .val (.long p6), .second, .val (.int nk), .val (.int ky), .val (.int ko), .val (.int (2 : Int32)), .val (.ref b910), .val (.int (1 : Int32)), .val (.long (1 : Int64)), .second, .val (.long (1 : Int64)), .second, .unset, .unset, .unset, .unset] [(.long (1 : Int64)), (.int ky), (.ref b910)])
    refine own_by (fun _ k => XS.lload X982.here hx rfl (hb hby at_135) rfl k) ?_
    refine own_by (fun _ k => XS.lload X982.here hx rfl (hb hby at_137) rfl k) ?_
    have f983 := (E1'.keep Kc982)
    have f984 := (R1'.keep Kc982 (ninS ne_b910_t nin0))
    have f985 := (A1'.keep Kc982 (ninS ne_b910_t nin0))
    have f986 := (V1'.keep Kc982 (ninS nt nin0))
    obtain ⟨_, T987, L987, X987, ⟨rfl, N987q, Kc985, Hc985⟩, st987⟩ := own_callV X982 hx hZ hown (y := (⟨"com/example/eskew/eskew/server/split/CounterValues", "wrote", "(IJJJ)V"⟩ : MethodName)) (C := "com/example/eskew/eskew/server/split/CounterValues") (hw _ (List.mem_of_getElem? (i := 52) rfl)) (hw _ (List.mem_of_getElem? (i := 53) rfl)) (hw _ (List.mem_of_getElem? (i := 55) rfl)) (hw _ (List.mem_of_getElem? (i := 54) rfl)) (hw _ (List.mem_of_getElem? (i := 3) rfl)) (hw _ (List.mem_of_getElem? (i := 56) rfl)) (by decide) (a := b910) f983 (argsL := [(.int ky), (.long (1 : Int64)), (.long p5), (.long p6)]) (rest := []) rfl (rm6a l Z a0 hw [] b910 ta t kt vs nk ky (1 : Int64) p5 p6 p6 (1 : Int64) (1 : Int32) (1 : Int64) (0 : Int64) (0 : Int32) (0 : Int32) (0 : Int32) T982.heap n0 Z982 og_t hk hv ne_b910_t nt f985 f986 Hd982 f983 f984 (by decide)) (g := (mkF m 139 #[.val (.int p1), .val (.int p2), .val (.int p3), .val (.long p4), .second, .val (.long p5), .second, .val (.long p6), .second, .val (.int nk), .val (.int ky), .val (.int ko), .val (.int (2 : Int32)), .val (.ref b910), .val (.int (1 : Int32)), .val (.long (1 : Int64)), .second, .val (.long (1 : Int64)), .second, .unset, .unset, .unset, .unset] [(.long p6), (.long p5), (.long (1 : Int64)), (.int ky), (.ref b910)])) rfl (by rw [hml]; rfl) (lenOf pd_11 rfl) rfl (W := 0) (by show 2 * 0 + _ ≤ _; exact Nat.le_of_eq rfl) (hb hby at_139) (by decide) (by decide) (by decide) (by decide)
    have N987 := Fr.app N982 N987q
    refine own_by st987 ?_
    show own_Go p e below _ T987 (mkF m 142 #[.val (.int p1), .val (.int p2), .val (.int p3), .val (.long p4), .second, .val (.long p5), .second, .val (.long p6), .second, .val (.int nk), .val (.int ky), .val (.int ko), .val (.int (2 : Int32)), .val (.ref b910), .val (.int (1 : Int32)), .val (.long (1 : Int64)), .second, .val (.long (1 : Int64)), .second, .unset, .unset, .unset, .unset] [])
    have Z987 : n0 ≤ T987.heap.size := Nat.le_trans Z982 Kc985.1
    have K987c := K982c.trans Kc985 (allS (Or.inr sz_t) all0)
    have Hd985 : own_Tal Z T987.heap t p6 (1 : Int64) (0 : Int32) (1 : Int64) p5 (1 : Int32) (1 : Int32) (0 : Int32) := own_TalC Hc985 (by first | decide | rfl) (by first | decide | rfl) (by first | decide | rfl) (by first | decide | rfl) (by first | decide | rfl) (by first | decide | rfl) (by first | decide | rfl) (by first | decide | rfl)
    refine own_by (fun _ k => XS.aload X987.here hx rfl (hb hby at_142) rfl rfl k) ?_
    refine own_by (fun _ k => XS.iload X987.here hx rfl (hb hby at_144) rfl k) ?_
    have f988 := (f985.keep Kc985 (ninS ne_b910_t nin0))
    have f989 := (f986.keep Kc985 (ninS nt nin0))
    have f990 := (f983.keep Kc985)
    obtain ⟨_, T991, L991, X991, ⟨rfl, N991q, Kc988, Hc988⟩, st991⟩ := own_callV X987 hx hZ hown (y := (⟨"com/example/eskew/eskew/server/split/CounterValues", "writing", "(I)J"⟩ : MethodName)) (C := "com/example/eskew/eskew/server/split/CounterValues") (hw _ (List.mem_of_getElem? (i := 41) rfl)) (hw _ (List.mem_of_getElem? (i := 42) rfl)) (hw _ (List.mem_of_getElem? (i := 44) rfl)) (hw _ (List.mem_of_getElem? (i := 43) rfl)) (hw _ (List.mem_of_getElem? (i := 3) rfl)) (hw _ (List.mem_of_getElem? (i := 45) rfl)) (by decide) (a := b910) f990 (argsL := [(.int ky)]) (rest := []) rfl (rm5 l Z a0 hw [] b910 ta t kt vs nk ky p6 (1 : Int64) (0 : Int32) (1 : Int64) p5 (1 : Int32) (1 : Int32) (0 : Int32) T987.heap n0 Z987 og_t hk hv ne_b910_t nt f988 f989 Hd985 ) (g := (mkF m 146 #[.val (.int p1), .val (.int p2), .val (.int p3), .val (.long p4), .second, .val (.long p5), .second, .val (.long p6), .second, .val (.int nk), .val (.int ky), .val (.int ko), .val (.int (2 : Int32)), .val (.ref b910), .val (.int (1 : Int32)), .val (.long (1 : Int64)), .second, .val (.long (1 : Int64)), .second, .unset, .unset, .unset, .unset] [(.int ky), (.ref b910)])) rfl (by rw [hml]; rfl) (lenOf pd_10 rfl) rfl (W := 0) (by show 2 * 0 + _ ≤ _; exact Nat.le_of_eq rfl) (hb hby at_146) (by decide) (by decide) (by decide) (by decide)
    have N991 := Fr.app N987 N991q
    refine own_by st991 ?_
    show own_Go p e below _ T991 (mkF m 149 #[.val (.int p1), .val (.int p2), .val (.int p3), .val (.long p4), .second, .val (.long p5), .second, .val (.long p6), .second, .val (.int nk), .val (.int ky), .val (.int ko), .val (.int (2 : Int32)), .val (.ref b910), .val (.int (1 : Int32)), .val (.long (1 : Int64)), .second, .val (.long (1 : Int64)), .second, .unset, .unset, .unset, .unset] [(.long ((1 : Int64) + 1))])
    have Z991 : n0 ≤ T991.heap.size := Nat.le_trans Z987 Kc988.1
    have K991c := K987c.trans Kc988 (allS (Or.inr sz_t) all0)
    have Hd988 : own_Tal Z T991.heap t p6 (2 : Int64) (1 : Int32) (2 : Int64) p5 (1 : Int32) (1 : Int32) (0 : Int32) := own_TalC Hc988 (by first | decide | rfl) (by first | decide | rfl) (by first | decide | rfl) (by first | decide | rfl) (by first | decide | rfl) (by first | decide | rfl) (by first | decide | rfl) (by first | decide | rfl)
    rw [show ((1 : Int64) + 1) = (2 : Int64) from by decide]
    refine own_by (fun _ k => XS.lstore X991.here hx rfl (hb hby at_149) rfl (l' := #[.val (.int p1), .val (.int p2), .val (.int p3), .val (.long p4), .second, .val (.long p5), .second, .val (.long p6), .second, .val (.int nk), .val (.int ky), .val (.int ko), .val (.int (2 : Int32)), .val (.ref b910), .val (.int (1 : Int32)), .val (.long (1 : Int64)), .second, .val (.long (1 : Int64)), .second, .val (.long (2 : Int64)), .second, .unset, .unset]) rfl k) ?_
    refine own_by (fun _ k => XS.iload X991.here hx rfl (hb hby at_151) rfl k) ?_
    show own_Go p e below _ T991 (mkF m 153 #[.val (.int p1), .val (.int p2), .val (.int p3), .val (.long p4), .second, .val (.long p5), .second, .val (.long p6), .second, .val (.int nk), .val (.int ky), .val (.int ko), .val (.int (2 : Int32)), .val (.ref b910), .val (.int (1 : Int32)), .val (.long (1 : Int64)), .second, .val (.long (1 : Int64)), .second, .val (.long (2 : Int64)), .second, .unset, .unset] [(.int (1 : Int32))])
    refine own_by (fun _ k => XS.lload X991.here hx rfl (hb hby at_153) rfl k) ?_
    refine own_by (fun _ k => Stand.ldc2J X991 hx hown (mvT hZ (hw _ (List.mem_of_getElem? (i := 77) rfl))) rfl (hb hby at_155) k) ?_
    refine own_by (fun _ k => XS.lcmp X991.here hx rfl (hb hby at_158) rfl k) ?_
    show own_Go p e below _ T991 (mkF m 159 #[.val (.int p1), .val (.int p2), .val (.int p3), .val (.long p4), .second, .val (.long p5), .second, .val (.long p6), .second, .val (.int nk), .val (.int ky), .val (.int ko), .val (.int (2 : Int32)), .val (.ref b910), .val (.int (1 : Int32)), .val (.long (1 : Int64)), .second, .val (.long (1 : Int64)), .second, .val (.long (2 : Int64)), .second, .unset, .unset] [(.int (lcmpW (2 : Int64) (2 : Int64))), (.int (1 : Int32))])
    refine own_by (fun _ k => XS.ifNo X991.here hx rfl (hb hby at_159) rfl ((if0 _ _).trans (teq (by decide : (lcmpW (2 : Int64) (2 : Int64)) = (0 : Int32))).2) k) ?_
    refine own_by (fun _ k => XS.iconst X991.here hx rfl (hb hby at_162) k) ?_
    refine own_by (fun _ k => XS.goto X991.here hx rfl (pc0 := 163) (pc' := 167) rfl (hb hby at_163) (by decide) (by decide) k) ?_
    show own_Go p e below _ T991 (mkF m 167 #[.val (.int p1), .val (.int p2), .val (.int p3), .val (.long p4), .second, .val (.long p5), .second, .val (.long p6), .second, .val (.int nk), .val (.int ky), .val (.int ko), .val (.int (2 : Int32)), .val (.ref b910), .val (.int (1 : Int32)), .val (.long (1 : Int64)), .second, .val (.long (1 : Int64)), .second, .val (.long (2 : Int64)), .second, .unset, .unset] [(.int (1 : Int32)), (.int (1 : Int32))])
    refine own_by (fun _ k => XS.iand X991.here hx rfl (hb hby at_167) rfl k) ?_
    refine own_by (fun _ k => XS.istore X991.here hx rfl (hb hby at_168) rfl (l' := #[.val (.int p1), .val (.int p2), .val (.int p3), .val (.long p4), .second, .val (.long p5), .second, .val (.long p6), .second, .val (.int nk), .val (.int ky), .val (.int ko), .val (.int (2 : Int32)), .val (.ref b910), .val (.int ((1 : Int32) &&& (1 : Int32))), .val (.long (1 : Int64)), .second, .val (.long (1 : Int64)), .second, .val (.long (2 : Int64)), .second, .unset, .unset]) rfl k) ?_
    show own_Go p e below _ T991 (mkF m 170 #[.val (.int p1), .val (.int p2), .val (.int p3), .val (.long p4), .second, .val (.long p5), .second, .val (.long p6), .second, .val (.int nk), .val (.int ky), .val (.int ko), .val (.int (2 : Int32)), .val (.ref b910), .val (.int ((1 : Int32) &&& (1 : Int32))), .val (.long (1 : Int64)), .second, .val (.long (1 : Int64)), .second, .val (.long (2 : Int64)), .second, .unset, .unset] [])
    rw [show ((1 : Int32) &&& (1 : Int32)) = (1 : Int32) from by decide]
    refine own_by (fun _ k => Stand.ldc2J X991 hx hown (mvT hZ (hw _ (List.mem_of_getElem? (i := 77) rfl))) rfl (hb hby at_170) k) ?_
    refine own_by (fun _ k => XS.lstore X991.here hx rfl (hb hby at_173) rfl (l' := #[.val (.int p1), .val (.int p2), .val (.int p3), .val (.long p4), .second, .val (.long p5), .second, .val (.long p6), .second, .val (.int nk), .val (.int ky), .val (.int ko), .val (.int (2 : Int32)), .val (.ref b910), .val (.int (1 : Int32)), .val (.long (1 : Int64)), .second, .val (.long (2 : Int64)), .second, .val (.long (2 : Int64)), .second, .unset, .unset]) rfl k) ?_
    show own_Go p e below _ T991 (mkF m 175 #[.val (.int p1), .val (.int p2), .val (.int p3), .val (.long p4), .second, .val (.long p5), .second, .val (.long p6), .second, .val (.int nk), .val (.int ky), .val (.int ko), .val (.int (2 : Int32)), .val (.ref b910), .val (.int (1 : Int32)), .val (.long (1 : Int64)), .second, .val (.long (2 : Int64)), .second, .val (.long (2 : Int64)), .second, .unset, .unset] [])
    refine own_by (fun _ k => XS.iload X991.here hx rfl (hb hby at_175) rfl k) ?_
    refine own_by (fun _ k => XS.aload X991.here hx rfl (hb hby at_177) rfl rfl k) ?_
    refine own_by (fun _ k => XS.iload X991.here hx rfl (hb hby at_179) rfl k) ?_
    show own_Go p e below _ T991 (mkF m 181 #[.val (.int p1), .val (.int p2), .val (.int p3), .val (.long p4), .second, .val (.long p5), .second, .val (.long p6), .second, .val (.int nk), .val (.int ky), .val (.int ko), .val (.int (2 : Int32)), .val (.ref b910), .val (.int (1 : Int32)), .val (.long (1 : Int64)), .second, .val (.long (2 : Int64)), .second, .val (.long (2 : Int64)), .second, .unset, .unset] [(.int ko), (.ref b910), (.int (1 : Int32))])
    have f992 := (f988.keep Kc988 (ninS ne_b910_t nin0))
    have f993 := (f989.keep Kc988 (ninS nt nin0))
    have f994 := (own_TalK (own_TalK (own_TalK HT2 Kc982 (ninS (Ne.symm ntt) nin0)) Kc985 (ninS (Ne.symm ntt) nin0)) Kc988 (ninS (Ne.symm ntt) nin0))
    have f995 := (f990.keep Kc988)
    obtain ⟨_, T996, L996, X996, ⟨rfl, N996q, Kc992, Hc992⟩, st996⟩ := own_callV X991 hx hZ hown (y := (⟨"com/example/eskew/eskew/server/split/CounterValues", "reading", "(I)J"⟩ : MethodName)) (C := "com/example/eskew/eskew/server/split/CounterValues") (hw _ (List.mem_of_getElem? (i := 78) rfl)) (hw _ (List.mem_of_getElem? (i := 79) rfl)) (hw _ (List.mem_of_getElem? (i := 81) rfl)) (hw _ (List.mem_of_getElem? (i := 80) rfl)) (hw _ (List.mem_of_getElem? (i := 3) rfl)) (hw _ (List.mem_of_getElem? (i := 82) rfl)) (by decide) (a := b910) f995 (argsL := [(.int ko)]) (rest := [(.int (1 : Int32))]) rfl (rm10 l Z a0 hw [] b910 ta t2 kt vs nk ko p6 (0 : Int64) (0 : Int32) (0 : Int64) (0 : Int64) (0 : Int32) (0 : Int32) (0 : Int32) T991.heap n0 Z991 og_t2 hk2 hv2 ne_b910_t2 nt2 f992 f993 f994 ) (g := (mkF m 181 #[.val (.int p1), .val (.int p2), .val (.int p3), .val (.long p4), .second, .val (.long p5), .second, .val (.long p6), .second, .val (.int nk), .val (.int ky), .val (.int ko), .val (.int (2 : Int32)), .val (.ref b910), .val (.int (1 : Int32)), .val (.long (1 : Int64)), .second, .val (.long (2 : Int64)), .second, .val (.long (2 : Int64)), .second, .unset, .unset] [(.int ko), (.ref b910), (.int (1 : Int32))])) rfl (by rw [hml]; rfl) (lenOf pd_10 rfl) rfl (W := 1) (by show 2 * 0 + _ ≤ _; exact Nat.le_of_eq rfl) (hb hby at_181) (by decide) (by decide) (by decide) (by decide)
    have N996 := Fr.app N991 N996q
    refine own_by st996 ?_
    have Z996 : n0 ≤ T996.heap.size := Nat.le_trans Z991 Kc992.1
    have K996c := K991c.trans Kc992 (allS (Or.inr sz_t2) all0)
    have Hd992 : own_Tal Z T996.heap t2 p6 (0 : Int64) (0 : Int32) (0 : Int64) (0 : Int64) (0 : Int32) (0 : Int32) (1 : Int32) := own_TalC Hc992 (by first | decide | rfl) (by first | decide | rfl) (by first | decide | rfl) (by first | decide | rfl) (by first | decide | rfl) (by first | decide | rfl) (by first | decide | rfl) (by first | decide | rfl)
    show own_Go p e below _ T996 (mkF m 184 #[.val (.int p1), .val (.int p2), .val (.int p3), .val (.long p4), .second, .val (.long p5), .second, .val (.long p6), .second, .val (.int nk), .val (.int ky), .val (.int ko), .val (.int (2 : Int32)), .val (.ref b910), .val (.int (1 : Int32)), .val (.long (1 : Int64)), .second, .val (.long (2 : Int64)), .second, .val (.long (2 : Int64)), .second, .unset, .unset] [(.long (if (0 : Int32) = 0 then (0 : Int64) else -1)), (.int (1 : Int32))])
    rw [show (if (0 : Int32) = 0 then (0 : Int64) else -1) = (0 : Int64) from by decide]
    refine own_by (fun _ k => XS.lconst X996.here hx rfl (hb hby at_184) k) ?_
    refine own_by (fun _ k => XS.lcmp X996.here hx rfl (hb hby at_185) rfl k) ?_
    show own_Go p e below _ T996 (mkF m 186 #[.val (.int p1), .val (.int p2), .val (.int p3), .val (.long p4), .second, .val (.long p5), .second, .val (.long p6), .second, .val (.int nk), .val (.int ky), .val (.int ko), .val (.int (2 : Int32)), .val (.ref b910), .val (.int (1 : Int32)), .val (.long (1 : Int64)), .second, .val (.long (2 : Int64)), .second, .val (.long (2 : Int64)), .second, .unset, .unset] [(.int (lcmpW (0 : Int64) (0 : Int64))), (.int (1 : Int32))])
    refine own_by (fun _ k => XS.ifNo X996.here hx rfl (hb hby at_186) rfl ((if0 _ _).trans (teq (by decide : (lcmpW (0 : Int64) (0 : Int64)) = (0 : Int32))).2) k) ?_
    refine own_by (fun _ k => XS.iconst X996.here hx rfl (hb hby at_189) k) ?_
    refine own_by (fun _ k => XS.goto X996.here hx rfl (pc0 := 190) (pc' := 194) rfl (hb hby at_190) (by decide) (by decide) k) ?_
    show own_Go p e below _ T996 (mkF m 194 #[.val (.int p1), .val (.int p2), .val (.int p3), .val (.long p4), .second, .val (.long p5), .second, .val (.long p6), .second, .val (.int nk), .val (.int ky), .val (.int ko), .val (.int (2 : Int32)), .val (.ref b910), .val (.int (1 : Int32)), .val (.long (1 : Int64)), .second, .val (.long (2 : Int64)), .second, .val (.long (2 : Int64)), .second, .unset, .unset] [(.int (1 : Int32)), (.int (1 : Int32))])
    refine own_by (fun _ k => XS.iand X996.here hx rfl (hb hby at_194) rfl k) ?_
    refine own_by (fun _ k => XS.istore X996.here hx rfl (hb hby at_195) rfl (l' := #[.val (.int p1), .val (.int p2), .val (.int p3), .val (.long p4), .second, .val (.long p5), .second, .val (.long p6), .second, .val (.int nk), .val (.int ky), .val (.int ko), .val (.int (2 : Int32)), .val (.ref b910), .val (.int ((1 : Int32) &&& (1 : Int32))), .val (.long (1 : Int64)), .second, .val (.long (2 : Int64)), .second, .val (.long (2 : Int64)), .second, .unset, .unset]) rfl k) ?_
    show own_Go p e below _ T996 (mkF m 197 #[.val (.int p1), .val (.int p2), .val (.int p3), .val (.long p4), .second, .val (.long p5), .second, .val (.long p6), .second, .val (.int nk), .val (.int ky), .val (.int ko), .val (.int (2 : Int32)), .val (.ref b910), .val (.int ((1 : Int32) &&& (1 : Int32))), .val (.long (1 : Int64)), .second, .val (.long (2 : Int64)), .second, .val (.long (2 : Int64)), .second, .unset, .unset] [])
    rw [show ((1 : Int32) &&& (1 : Int32)) = (1 : Int32) from by decide]
    refine own_by (fun _ k => XS.iload X996.here hx rfl (hb hby at_197) rfl k) ?_
    refine own_by (fun _ k => XS.aload X996.here hx rfl (hb hby at_199) rfl rfl k) ?_
    show own_Go p e below _ T996 (mkF m 201 #[.val (.int p1), .val (.int p2), .val (.int p3), .val (.long p4), .second, .val (.long p5), .second, .val (.long p6), .second, .val (.int nk), .val (.int ky), .val (.int ko), .val (.int (2 : Int32)), .val (.ref b910), .val (.int (1 : Int32)), .val (.long (1 : Int64)), .second, .val (.long (2 : Int64)), .second, .val (.long (2 : Int64)), .second, .unset, .unset] [(.ref b910), (.int (1 : Int32))])
    refine own_by (fun _ k => XS.iload X996.here hx rfl (hb hby at_201) rfl k) ?_
    have f997 := (f992.keep Kc992 (ninS ne_b910_t2 nin0))
    have f998 := (f993.keep Kc992 (ninS nt2 nin0))
    have f999 := (own_TalK Hd988 Kc992 (ninS ntt nin0))
    have f1000 := (f995.keep Kc992)
    obtain ⟨_, T1001, L1001, X1001, ⟨rfl, N1001q, Kc997, Hc997⟩, st1001⟩ := own_callV X996 hx hZ hown (y := (⟨"com/example/eskew/eskew/server/split/CounterValues", "reading", "(I)J"⟩ : MethodName)) (C := "com/example/eskew/eskew/server/split/CounterValues") (hw _ (List.mem_of_getElem? (i := 78) rfl)) (hw _ (List.mem_of_getElem? (i := 79) rfl)) (hw _ (List.mem_of_getElem? (i := 81) rfl)) (hw _ (List.mem_of_getElem? (i := 80) rfl)) (hw _ (List.mem_of_getElem? (i := 3) rfl)) (hw _ (List.mem_of_getElem? (i := 82) rfl)) (by decide) (a := b910) f1000 (argsL := [(.int ky)]) (rest := [(.int (1 : Int32))]) rfl (rm10 l Z a0 hw [] b910 ta t kt vs nk ky p6 (2 : Int64) (1 : Int32) (2 : Int64) p5 (1 : Int32) (1 : Int32) (0 : Int32) T996.heap n0 Z996 og_t hk hv ne_b910_t nt f997 f998 f999 ) (g := (mkF m 203 #[.val (.int p1), .val (.int p2), .val (.int p3), .val (.long p4), .second, .val (.long p5), .second, .val (.long p6), .second, .val (.int nk), .val (.int ky), .val (.int ko), .val (.int (2 : Int32)), .val (.ref b910), .val (.int (1 : Int32)), .val (.long (1 : Int64)), .second, .val (.long (2 : Int64)), .second, .val (.long (2 : Int64)), .second, .unset, .unset] [(.int ky), (.ref b910), (.int (1 : Int32))])) rfl (by rw [hml]; rfl) (lenOf pd_10 rfl) rfl (W := 1) (by show 2 * 0 + _ ≤ _; exact Nat.le_of_eq rfl) (hb hby at_203) (by decide) (by decide) (by decide) (by decide)
    have N1001 := Fr.app N996 N1001q
    refine own_by st1001 ?_
    have Z1001 : n0 ≤ T1001.heap.size := Nat.le_trans Z996 Kc997.1
    have K1001c := K996c.trans Kc997 (allS (Or.inr sz_t) all0)
    have Hd997 : own_Tal Z T1001.heap t p6 (2 : Int64) (1 : Int32) (2 : Int64) p5 (1 : Int32) (1 : Int32) (1 : Int32) := own_TalC Hc997 (by first | decide | rfl) (by first | decide | rfl) (by first | decide | rfl) (by first | decide | rfl) (by first | decide | rfl) (by first | decide | rfl) (by first | decide | rfl) (by first | decide | rfl)
    show own_Go p e below _ T1001 (mkF m 206 #[.val (.int p1), .val (.int p2), .val (.int p3), .val (.long p4), .second, .val (.long p5), .second, .val (.long p6), .second, .val (.int nk), .val (.int ky), .val (.int ko), .val (.int (2 : Int32)), .val (.ref b910), .val (.int (1 : Int32)), .val (.long (1 : Int64)), .second, .val (.long (2 : Int64)), .second, .val (.long (2 : Int64)), .second, .unset, .unset] [(.long (if (1 : Int32) = 0 then (2 : Int64) else -1)), (.int (1 : Int32))])
    rw [show (if (1 : Int32) = 0 then (2 : Int64) else -1) = (-1 : Int64) from by decide]
    refine own_by (fun _ k => Stand.ldc2J X1001 hx hown (mvT hZ (hw _ (List.mem_of_getElem? (i := 86) rfl))) rfl (hb hby at_206) k) ?_
    refine own_by (fun _ k => XS.lcmp X1001.here hx rfl (hb hby at_209) rfl k) ?_
    show own_Go p e below _ T1001 (mkF m 210 #[.val (.int p1), .val (.int p2), .val (.int p3), .val (.long p4), .second, .val (.long p5), .second, .val (.long p6), .second, .val (.int nk), .val (.int ky), .val (.int ko), .val (.int (2 : Int32)), .val (.ref b910), .val (.int (1 : Int32)), .val (.long (1 : Int64)), .second, .val (.long (2 : Int64)), .second, .val (.long (2 : Int64)), .second, .unset, .unset] [(.int (lcmpW (-1 : Int64) (-1 : Int64))), (.int (1 : Int32))])
    refine own_by (fun _ k => XS.ifNo X1001.here hx rfl (hb hby at_210) rfl ((if0 _ _).trans (teq (by decide : (lcmpW (-1 : Int64) (-1 : Int64)) = (0 : Int32))).2) k) ?_
    refine own_by (fun _ k => XS.iconst X1001.here hx rfl (hb hby at_213) k) ?_
    refine own_by (fun _ k => XS.goto X1001.here hx rfl (pc0 := 214) (pc' := 218) rfl (hb hby at_214) (by decide) (by decide) k) ?_
    show own_Go p e below _ T1001 (mkF m 218 #[.val (.int p1), .val (.int p2), .val (.int p3), .val (.long p4), .second, .val (.long p5), .second, .val (.long p6), .second, .val (.int nk), .val (.int ky), .val (.int ko), .val (.int (2 : Int32)), .val (.ref b910), .val (.int (1 : Int32)), .val (.long (1 : Int64)), .second, .val (.long (2 : Int64)), .second, .val (.long (2 : Int64)), .second, .unset, .unset] [(.int (1 : Int32)), (.int (1 : Int32))])
    refine own_by (fun _ k => XS.iand X1001.here hx rfl (hb hby at_218) rfl k) ?_
    refine own_by (fun _ k => XS.istore X1001.here hx rfl (hb hby at_219) rfl (l' := #[.val (.int p1), .val (.int p2), .val (.int p3), .val (.long p4), .second, .val (.long p5), .second, .val (.long p6), .second, .val (.int nk), .val (.int ky), .val (.int ko), .val (.int (2 : Int32)), .val (.ref b910), .val (.int ((1 : Int32) &&& (1 : Int32))), .val (.long (1 : Int64)), .second, .val (.long (2 : Int64)), .second, .val (.long (2 : Int64)), .second, .unset, .unset]) rfl k) ?_
    show own_Go p e below _ T1001 (mkF m 221 #[.val (.int p1), .val (.int p2), .val (.int p3), .val (.long p4), .second, .val (.long p5), .second, .val (.long p6), .second, .val (.int nk), .val (.int ky), .val (.int ko), .val (.int (2 : Int32)), .val (.ref b910), .val (.int ((1 : Int32) &&& (1 : Int32))), .val (.long (1 : Int64)), .second, .val (.long (2 : Int64)), .second, .val (.long (2 : Int64)), .second, .unset, .unset] [])
    rw [show ((1 : Int32) &&& (1 : Int32)) = (1 : Int32) from by decide]
    refine own_by (fun _ k => XS.aload X1001.here hx rfl (hb hby at_221) rfl rfl k) ?_
    refine own_by (fun _ k => XS.iload X1001.here hx rfl (hb hby at_223) rfl k) ?_
    show own_Go p e below _ T1001 (mkF m 225 #[.val (.int p1), .val (.int p2), .val (.int p3), .val (.long p4), .second, .val (.long p5), .second, .val (.long p6), .second, .val (.int nk), .val (.int ky), .val (.int ko), .val (.int (2 : Int32)), .val (.ref b910), .val (.int (1 : Int32)), .val (.long (1 : Int64)), .second, .val (.long (2 : Int64)), .second, .val (.long (2 : Int64)), .second, .unset, .unset] [(.int ky), (.ref b910)])
    refine own_by (fun _ k => XS.lload X1001.here hx rfl (hb hby at_225) rfl k) ?_
    refine own_by (fun _ k => XS.lloadN X1001.here hx rfl (hb hby at_227) rfl k) ?_
    refine own_by (fun _ k => XS.lload X1001.here hx rfl (hb hby at_228) rfl k) ?_
    show own_Go p e below _ T1001 (mkF m 230 #[.val (.int p1), .val (.int p2), .val (.int p3), .val (.long p4), .second, .val (.long p5), .second, .val (.long p6), .second, .val (.int nk), .val (.int ky), .val (.int ko), .val (.int (2 : Int32)), .val (.ref b910), .val (.int (1 : Int32)), .val (.long (1 : Int64)), .second, .val (.long (2 : Int64)), .second, .val (.long (2 : Int64)), .second, .unset, .unset] [(.long p6), (.long p4), (.long (2 : Int64)), (.int ky), (.ref b910)])
    have f1002 := (f1000.keep Kc997)
    have f1003 := ((((f984.keep Kc985 (ninS ne_b910_t nin0)).keep Kc988 (ninS ne_b910_t nin0)).keep Kc992 (ninS ne_b910_t2 nin0)).keep Kc997 (ninS ne_b910_t nin0))
    have f1004 := (f997.keep Kc997 (ninS ne_b910_t nin0))
    have f1005 := (f998.keep Kc997 (ninS nt nin0))
    obtain ⟨_, T1006, L1006, X1006, ⟨rfl, N1006q, Kc1004, Hc1004⟩, st1006⟩ := own_callV X1001 hx hZ hown (y := (⟨"com/example/eskew/eskew/server/split/CounterValues", "wrote", "(IJJJ)V"⟩ : MethodName)) (C := "com/example/eskew/eskew/server/split/CounterValues") (hw _ (List.mem_of_getElem? (i := 52) rfl)) (hw _ (List.mem_of_getElem? (i := 53) rfl)) (hw _ (List.mem_of_getElem? (i := 55) rfl)) (hw _ (List.mem_of_getElem? (i := 54) rfl)) (hw _ (List.mem_of_getElem? (i := 3) rfl)) (hw _ (List.mem_of_getElem? (i := 56) rfl)) (by decide) (a := b910) f1002 (argsL := [(.int ky), (.long (2 : Int64)), (.long p4), (.long p6)]) (rest := []) rfl (rm6a l Z a0 hw [] b910 ta t kt vs nk ky (2 : Int64) p4 p6 p6 (2 : Int64) (1 : Int32) (2 : Int64) p5 (1 : Int32) (1 : Int32) (1 : Int32) T1001.heap n0 Z1001 og_t hk hv ne_b910_t nt f1004 f1005 Hd997 f1002 f1003 (by decide)) (g := (mkF m 230 #[.val (.int p1), .val (.int p2), .val (.int p3), .val (.long p4), .second, .val (.long p5), .second, .val (.long p6), .second, .val (.int nk), .val (.int ky), .val (.int ko), .val (.int (2 : Int32)), .val (.ref b910), .val (.int (1 : Int32)), .val (.long (1 : Int64)), .second, .val (.long (2 : Int64)), .second, .val (.long (2 : Int64)), .second, .unset, .unset] [(.long p6), (.long p4), (.long (2 : Int64)), (.int ky), (.ref b910)])) rfl (by rw [hml]; rfl) (lenOf pd_11 rfl) rfl (W := 0) (by show 2 * 0 + _ ≤ _; exact Nat.le_of_eq rfl) (hb hby at_230) (by decide) (by decide) (by decide) (by decide)
    have N1006 := Fr.app N1001 N1006q
    refine own_by st1006 ?_
    have Z1006 : n0 ≤ T1006.heap.size := Nat.le_trans Z1001 Kc1004.1
    have K1006c := K1001c.trans Kc1004 (allS (Or.inr sz_t) all0)
    have Hd1004 : own_Tal Z T1006.heap t p6 (2 : Int64) (0 : Int32) (2 : Int64) p4 (1 : Int32) (1 : Int32) (1 : Int32) := own_TalC Hc1004 (by first | decide | rfl) (by first | decide | rfl) (by first | decide | rfl) (by first | decide | rfl) (by first | decide | rfl) (by first | decide | rfl) (by first | decide | rfl) (by first | decide | rfl)
    refine own_by (fun _ k => XS.iload X1006.here hx rfl (hb hby at_233) rfl k) ?_
    refine own_by (fun _ k => XS.iconst X1006.here hx rfl (hb hby at_235) k) ?_
    show own_Go p e below _ T1006 (mkF m 236 #[.val (.int p1), .val (.int p2), .val (.int p3), .val (.long p4), .second, .val (.long p5), .second, .val (.long p6), .second, .val (.int nk), .val (.int ky), .val (.int ko), .val (.int (2 : Int32)), .val (.ref b910), .val (.int (1 : Int32)), .val (.long (1 : Int64)), .second, .val (.long (2 : Int64)), .second, .val (.long (2 : Int64)), .second, .unset, .unset] [(.int (1 : Int32)), (.int (2 : Int32))])
    refine own_by (fun _ k => XS.icmpYes X1006.here hx rfl (pc0 := 236) (pc' := 251) rfl (hb hby at_236) rfl (feq (by decide : ¬ ((2 : Int32) = (1 : Int32)))).2 (by decide) (by decide) k) ?_
    refine own_by (fun _ k => XS.aload X1006.here hx rfl (hb hby at_251) rfl rfl k) ?_
    have HO1 := HO.keep K1006c all0
    have f1007 := (own_TalK (own_TalK Hd992 Kc997 (ninS (Ne.symm ntt) nin0)) Kc1004 (ninS (Ne.symm ntt) nin0))
    have f1008 := (own_VoK (own_VoK (own_VoK (own_VoK (own_VoK (own_VoK Vo Kc982 (allS (P := fun x => x = t ∨ x = t2) (Or.inl rfl) all0)) Kc985 (allS (P := fun x => x = t ∨ x = t2) (Or.inl rfl) all0)) Kc988 (allS (P := fun x => x = t ∨ x = t2) (Or.inl rfl) all0)) Kc992 (allS (P := fun x => x = t ∨ x = t2) (Or.inr rfl) all0)) Kc997 (allS (P := fun x => x = t ∨ x = t2) (Or.inl rfl) all0)) Kc1004 (allS (P := fun x => x = t ∨ x = t2) (Or.inl rfl) all0))
    have HV : own_Vals Z T1006.heap vs nk ky p4 := own_mkV f1008 hkk hv hv2 Hd1004.2.2.2.2.2.1 f1007.2.2.2.2.2.1
    have f1009 := (f1002.keep Kc1004)
    have f1010 := (f1004.keep Kc1004 (ninS ne_b910_t nin0))
    have f1011 := (f1005.keep Kc1004 (ninS nt nin0))
    obtain ⟨_, T1012, L1012, X1012, ⟨r', rfl, N1012q, Kt', Er', Fr'⟩, st1012⟩ := own_callV X1006 hx hZ hown (y := (⟨"com/example/eskew/eskew/server/split/CounterValues", "total", "()Ljava/lang/Long;"⟩ : MethodName)) (C := "com/example/eskew/eskew/server/split/CounterValues") (hw _ (List.mem_of_getElem? (i := 87) rfl)) (hw _ (List.mem_of_getElem? (i := 88) rfl)) (hw _ (List.mem_of_getElem? (i := 90) rfl)) (hw _ (List.mem_of_getElem? (i := 89) rfl)) (hw _ (List.mem_of_getElem? (i := 3) rfl)) (hw _ (List.mem_of_getElem? (i := 91) rfl)) (by decide) (a := b910) f1009 (argsL := []) (rest := []) rfl (rm11 l Z a0 hw ca cc b910 ta kt vs nk ky p4 T1006.heap n0 Z1006 HB HS HO1 hn f1009 hk f1010 f1011 HV) (g := (mkF m 253 #[.val (.int p1), .val (.int p2), .val (.int p3), .val (.long p4), .second, .val (.long p5), .second, .val (.long p6), .second, .val (.int nk), .val (.int ky), .val (.int ko), .val (.int (2 : Int32)), .val (.ref b910), .val (.int (1 : Int32)), .val (.long (1 : Int64)), .second, .val (.long (2 : Int64)), .second, .val (.long (2 : Int64)), .second, .unset, .unset] [(.ref b910)])) rfl (by rw [hml]; rfl) (lenOf pd_9 rfl) rfl (W := 0) (by show 2 * 0 + _ ≤ _; exact Nat.le_of_eq rfl) (hb hby at_253) (by decide) (by decide) (by decide) (by decide)
    have N1012 := Fr.app N1006 N1012q
    refine own_by st1012 ?_
    show own_Go p e below _ T1012 (mkF m 256 #[.val (.int p1), .val (.int p2), .val (.int p3), .val (.long p4), .second, .val (.long p5), .second, .val (.long p6), .second, .val (.int nk), .val (.int ky), .val (.int ko), .val (.int (2 : Int32)), .val (.ref b910), .val (.int (1 : Int32)), .val (.long (1 : Int64)), .second, .val (.long (2 : Int64)), .second, .val (.long (2 : Int64)), .second, .unset, .unset] [(.ref r')])
    have Z1012 : n0 ≤ T1012.heap.size := Nat.le_trans Z1006 Kt'.1
    have K1012c := K1006c.trans Kt' all0
    refine own_by (fun _ k => XS.astore X1012.here hx rfl (hb hby at_256) rfl rfl (l' := #[.val (.int p1), .val (.int p2), .val (.int p3), .val (.long p4), .second, .val (.long p5), .second, .val (.long p6), .second, .val (.int nk), .val (.int ky), .val (.int ko), .val (.int (2 : Int32)), .val (.ref b910), .val (.int (1 : Int32)), .val (.long (1 : Int64)), .second, .val (.long (2 : Int64)), .second, .val (.ref r'), .unset, .unset, .unset]) rfl k) ?_
    refine own_by (fun _ k => XS.iload X1012.here hx rfl (hb hby at_258) rfl k) ?_
    refine own_by (fun _ k => XS.iconst X1012.here hx rfl (hb hby at_260) k) ?_
    show own_Go p e below _ T1012 (mkF m 261 #[.val (.int p1), .val (.int p2), .val (.int p3), .val (.long p4), .second, .val (.long p5), .second, .val (.long p6), .second, .val (.int nk), .val (.int ky), .val (.int ko), .val (.int (2 : Int32)), .val (.ref b910), .val (.int (1 : Int32)), .val (.long (1 : Int64)), .second, .val (.long (2 : Int64)), .second, .val (.ref r'), .unset, .unset, .unset] [(.int (1 : Int32)), (.int (2 : Int32))])
    refine own_by (fun _ k => XS.icmpYes X1012.here hx rfl (pc0 := 261) (pc' := 269) rfl (hb hby at_261) rfl (feq (by decide : ¬ ((2 : Int32) = (1 : Int32)))).2 (by decide) (by decide) k) ?_
    refine own_by (fun _ k => XS.lloadN X1012.here hx rfl (hb hby at_269) rfl k) ?_
    refine own_by (fun _ k => XS.lstore X1012.here hx rfl (hb hby at_270) rfl (l' := #[.val (.int p1), .val (.int p2), .val (.int p3), .val (.long p4), .second, .val (.long p5), .second, .val (.long p6), .second, .val (.int nk), .val (.int ky), .val (.int ko), .val (.int (2 : Int32)), .val (.ref b910), .val (.int (1 : Int32)), .val (.long (1 : Int64)), .second, .val (.long (2 : Int64)), .second, .val (.ref r'), .val (.long p4), .second, .unset]) rfl k) ?_
    show own_Go p e below _ T1012 (mkF m 272 #[.val (.int p1), .val (.int p2), .val (.int p3), .val (.long p4), .second, .val (.long p5), .second, .val (.long p6), .second, .val (.int nk), .val (.int ky), .val (.int ko), .val (.int (2 : Int32)), .val (.ref b910), .val (.int (1 : Int32)), .val (.long (1 : Int64)), .second, .val (.long (2 : Int64)), .second, .val (.ref r'), .val (.long p4), .second, .unset] [])
    refine own_by (fun _ k => XS.iload X1012.here hx rfl (hb hby at_272) rfl k) ?_
    refine own_by (fun _ k => XS.aload X1012.here hx rfl (hb hby at_274) rfl rfl k) ?_
    refine own_by (fun _ k => XS.ifnullNo X1012.here hx rfl (hb hby at_276) rfl k) ?_
    show own_Go p e below _ T1012 (mkF m 279 #[.val (.int p1), .val (.int p2), .val (.int p3), .val (.long p4), .second, .val (.long p5), .second, .val (.long p6), .second, .val (.int nk), .val (.int ky), .val (.int ko), .val (.int (2 : Int32)), .val (.ref b910), .val (.int (1 : Int32)), .val (.long (1 : Int64)), .second, .val (.long (2 : Int64)), .second, .val (.ref r'), .val (.long p4), .second, .unset] [(.int (1 : Int32))])
    refine own_by (fun _ k => XS.aload X1012.here hx rfl (hb hby at_279) rfl rfl k) ?_
    obtain ⟨_, T1013, L1013, X1013, ⟨rfl, N1013q, e1013⟩, st1013⟩ := own_callV X1012 hx hZ hown (y := (⟨"java/lang/Long", "longValue", "()J"⟩ : MethodName)) (C := "java/lang/Long") (hw _ (List.mem_of_getElem? (i := 130) rfl)) (hw _ (List.mem_of_getElem? (i := 131) rfl)) (hw _ (List.mem_of_getElem? (i := 133) rfl)) (hw _ (List.mem_of_getElem? (i := 132) rfl)) (hw _ (List.mem_of_getElem? (i := 112) rfl)) (hw _ (List.mem_of_getElem? (i := 134) rfl)) (by decide) (a := r') Er' (argsL := []) (rest := [(.int (1 : Int32))]) rfl (rm18 l Z a0 hw [] r' p4 T1012.heap n0 Z1012 Fr') (g := (mkF m 281 #[.val (.int p1), .val (.int p2), .val (.int p3), .val (.long p4), .second, .val (.long p5), .second, .val (.long p6), .second, .val (.int nk), .val (.int ky), .val (.int ko), .val (.int (2 : Int32)), .val (.ref b910), .val (.int (1 : Int32)), .val (.long (1 : Int64)), .second, .val (.long (2 : Int64)), .second, .val (.ref r'), .val (.long p4), .second, .unset] [(.ref r'), (.int (1 : Int32))])) rfl (by rw [hml]; rfl) (lenOf pd_12 rfl) rfl (W := 1) (by show 2 * 0 + _ ≤ _; exact Nat.le_of_eq rfl) (hb hby at_281) (by decide) (by decide) (by decide) (by decide)
    have N1013 := Fr.app N1012 N1013q
    refine own_by st1013 ?_
    refine own_by (fun _ k => XS.lload X1013.here hx rfl (hb hby at_284) rfl k) ?_
    show own_Go p e below _ T1013 (mkF m 286 #[.val (.int p1), .val (.int p2), .val (.int p3), .val (.long p4), .second, .val (.long p5), .second, .val (.long p6), .second, .val (.int nk), .val (.int ky), .val (.int ko), .val (.int (2 : Int32)), .val (.ref b910), .val (.int (1 : Int32)), .val (.long (1 : Int64)), .second, .val (.long (2 : Int64)), .second, .val (.ref r'), .val (.long p4), .second, .unset] [(.long p4), (.long p4), (.int (1 : Int32))])
    refine own_by (fun _ k => XS.lcmp X1013.here hx rfl (hb hby at_286) rfl k) ?_
    refine own_by (fun _ k => XS.ifNo X1013.here hx rfl (hb hby at_287) rfl ((if0 _ _).trans (teq ((lw_eq _ _).mpr rfl : (lcmpW p4 p4) = (0 : Int32))).2) k) ?_
    refine own_by (fun _ k => XS.iconst X1013.here hx rfl (hb hby at_290) k) ?_
    show own_Go p e below _ T1013 (mkF m 291 #[.val (.int p1), .val (.int p2), .val (.int p3), .val (.long p4), .second, .val (.long p5), .second, .val (.long p6), .second, .val (.int nk), .val (.int ky), .val (.int ko), .val (.int (2 : Int32)), .val (.ref b910), .val (.int (1 : Int32)), .val (.long (1 : Int64)), .second, .val (.long (2 : Int64)), .second, .val (.ref r'), .val (.long p4), .second, .unset] [(.int (1 : Int32)), (.int (1 : Int32))])
    refine own_by (fun _ k => XS.goto X1013.here hx rfl (pc0 := 291) (pc' := 295) rfl (hb hby at_291) (by decide) (by decide) k) ?_
    refine own_by (fun _ k => XS.iand X1013.here hx rfl (hb hby at_295) rfl k) ?_
    refine own_by (fun _ k => XS.istore X1013.here hx rfl (hb hby at_296) rfl (l' := #[.val (.int p1), .val (.int p2), .val (.int p3), .val (.long p4), .second, .val (.long p5), .second, .val (.long p6), .second, .val (.int nk), .val (.int ky), .val (.int ko), .val (.int (2 : Int32)), .val (.ref b910), .val (.int ((1 : Int32) &&& (1 : Int32))), .val (.long (1 : Int64)), .second, .val (.long (2 : Int64)), .second, .val (.ref r'), .val (.long p4), .second, .unset]) rfl k) ?_
    show own_Go p e below _ T1013 (mkF m 298 #[.val (.int p1), .val (.int p2), .val (.int p3), .val (.long p4), .second, .val (.long p5), .second, .val (.long p6), .second, .val (.int nk), .val (.int ky), .val (.int ko), .val (.int (2 : Int32)), .val (.ref b910), .val (.int ((1 : Int32) &&& (1 : Int32))), .val (.long (1 : Int64)), .second, .val (.long (2 : Int64)), .second, .val (.ref r'), .val (.long p4), .second, .unset] [])
    rw [show ((1 : Int32) &&& (1 : Int32)) = (1 : Int32) from by decide]
    refine own_by (fun _ k => XS.aload X1013.here hx rfl (hb hby at_298) rfl rfl k) ?_
    refine own_by (fun _ k => XS.iload X1013.here hx rfl (hb hby at_300) rfl k) ?_
    show own_Go p e below _ T1013 (mkF m 302 #[.val (.int p1), .val (.int p2), .val (.int p3), .val (.long p4), .second, .val (.long p5), .second, .val (.long p6), .second, .val (.int nk), .val (.int ky), .val (.int ko), .val (.int (2 : Int32)), .val (.ref b910), .val (.int (1 : Int32)), .val (.long (1 : Int64)), .second, .val (.long (2 : Int64)), .second, .val (.ref r'), .val (.long p4), .second, .unset] [(.int ky), (.ref b910)])
    refine own_by (fun _ k => XS.lload X1013.here hx rfl (hb hby at_302) rfl k) ?_
    have f1014 := (f1010.keep Kt' nin0)
    have f1015 := (f1011.keep Kt' nin0)
    have f1016 := (own_TalK Hd1004 Kt' nin0)
    have f1017 := (f1009.keep Kt')
    have f1018 := (((((((Q1'.keep Kc982 (ninS ne_b910_t nin0)).keep Kc985 (ninS ne_b910_t nin0)).keep Kc988 (ninS ne_b910_t nin0)).keep Kc992 (ninS ne_b910_t2 nin0)).keep Kc997 (ninS ne_b910_t nin0)).keep Kc1004 (ninS ne_b910_t nin0)).keep Kt' nin0)
    obtain ⟨_, T1019, L1019, X1019, ⟨rfl, N1019q, e1019⟩, st1019⟩ := own_callV X1013 hx hZ hown (y := (⟨"com/example/eskew/eskew/server/split/CounterValues", "wanted", "(IJ)Z"⟩ : MethodName)) (C := "com/example/eskew/eskew/server/split/CounterValues") (hw _ (List.mem_of_getElem? (i := 135) rfl)) (hw _ (List.mem_of_getElem? (i := 136) rfl)) (hw _ (List.mem_of_getElem? (i := 138) rfl)) (hw _ (List.mem_of_getElem? (i := 137) rfl)) (hw _ (List.mem_of_getElem? (i := 3) rfl)) (hw _ (List.mem_of_getElem? (i := 139) rfl)) (by decide) (a := b910) f1017 (argsL := [(.int ky), (.long p6)]) (rest := []) e1013 (rm19b l Z a0 hw [] b910 ta t kt vs nk ky p6 (1000 : Int64) p6 (2 : Int64) (0 : Int32) (2 : Int64) p4 (1 : Int32) (1 : Int32) (1 : Int32) T1012.heap n0 Z1012 og_t hk hv ne_b910_t nt f1014 f1015 f1016 f1017 f1018 (by decide) (by rw [Int64.sub_self]; decide)) (g := (mkF m 304 #[.val (.int p1), .val (.int p2), .val (.int p3), .val (.long p4), .second, .val (.long p5), .second, .val (.long p6), .second, .val (.int nk), .val (.int ky), .val (.int ko), .val (.int (2 : Int32)), .val (.ref b910), .val (.int (1 : Int32)), .val (.long (1 : Int64)), .second, .val (.long (2 : Int64)), .second, .val (.ref r'), .val (.long p4), .second, .unset] [(.long p6), (.int ky), (.ref b910)])) rfl (by rw [hml]; rfl) (lenOf pd_13 rfl) rfl (W := 0) (by show 2 * 0 + _ ≤ _; exact Nat.le_of_eq rfl) (hb hby at_304) (by decide) (by decide) (by decide) (by decide)
    have N1019 := Fr.app N1013 N1019q
    refine own_by st1019 ?_
    refine own_by (fun _ k => XS.istore X1019.here hx rfl (hb hby at_307) rfl (l' := #[.val (.int p1), .val (.int p2), .val (.int p3), .val (.long p4), .second, .val (.long p5), .second, .val (.long p6), .second, .val (.int nk), .val (.int ky), .val (.int ko), .val (.int (2 : Int32)), .val (.ref b910), .val (.int (1 : Int32)), .val (.long (1 : Int64)), .second, .val (.long (2 : Int64)), .second, .val (.ref r'), .val (.long p4), .second, .val (.int (0 : Int32))]) rfl k) ?_
    show own_Go p e below _ T1019 (mkF m 309 #[.val (.int p1), .val (.int p2), .val (.int p3), .val (.long p4), .second, .val (.long p5), .second, .val (.long p6), .second, .val (.int nk), .val (.int ky), .val (.int ko), .val (.int (2 : Int32)), .val (.ref b910), .val (.int (1 : Int32)), .val (.long (1 : Int64)), .second, .val (.long (2 : Int64)), .second, .val (.ref r'), .val (.long p4), .second, .val (.int (0 : Int32))] [])
    refine own_by (fun _ k => XS.iload X1019.here hx rfl (hb hby at_309) rfl k) ?_
    refine own_by (fun _ k => XS.iload X1019.here hx rfl (hb hby at_311) rfl k) ?_
    refine own_by (fun _ k => XS.iload X1019.here hx rfl (hb hby at_313) rfl k) ?_
    show own_Go p e below _ T1019 (mkF m 315 #[.val (.int p1), .val (.int p2), .val (.int p3), .val (.long p4), .second, .val (.long p5), .second, .val (.long p6), .second, .val (.int nk), .val (.int ky), .val (.int ko), .val (.int (2 : Int32)), .val (.ref b910), .val (.int (1 : Int32)), .val (.long (1 : Int64)), .second, .val (.long (2 : Int64)), .second, .val (.ref r'), .val (.long p4), .second, .val (.int (0 : Int32))] [(.int (2 : Int32)), (.int (0 : Int32)), (.int (1 : Int32))])
    refine own_by (fun _ k => XS.iconst X1019.here hx rfl (hb hby at_315) k) ?_
    refine own_by (fun _ k => XS.icmpYes X1019.here hx rfl (pc0 := 316) (pc' := 323) rfl (hb hby at_316) rfl (feq (by decide : ¬ ((2 : Int32) = (1 : Int32)))).2 (by decide) (by decide) k) ?_
    refine own_by (fun _ k => XS.iconst X1019.here hx rfl (hb hby at_323) k) ?_
    show own_Go p e below _ T1019 (mkF m 324 #[.val (.int p1), .val (.int p2), .val (.int p3), .val (.long p4), .second, .val (.long p5), .second, .val (.long p6), .second, .val (.int nk), .val (.int ky), .val (.int ko), .val (.int (2 : Int32)), .val (.ref b910), .val (.int (1 : Int32)), .val (.long (1 : Int64)), .second, .val (.long (2 : Int64)), .second, .val (.ref r'), .val (.long p4), .second, .val (.int (0 : Int32))] [(.int (0 : Int32)), (.int (0 : Int32)), (.int (1 : Int32))])
    refine own_by (fun _ k => XS.icmpNo X1019.here hx rfl (hb hby at_324) rfl (teq (by decide : (0 : Int32) = (0 : Int32))).2 k) ?_
    refine own_by (fun _ k => XS.iconst X1019.here hx rfl (hb hby at_327) k) ?_
    refine own_by (fun _ k => XS.goto X1019.here hx rfl (pc0 := 328) (pc' := 332) rfl (hb hby at_328) (by decide) (by decide) k) ?_
    show own_Go p e below _ T1019 (mkF m 332 #[.val (.int p1), .val (.int p2), .val (.int p3), .val (.long p4), .second, .val (.long p5), .second, .val (.long p6), .second, .val (.int nk), .val (.int ky), .val (.int ko), .val (.int (2 : Int32)), .val (.ref b910), .val (.int (1 : Int32)), .val (.long (1 : Int64)), .second, .val (.long (2 : Int64)), .second, .val (.ref r'), .val (.long p4), .second, .val (.int (0 : Int32))] [(.int (1 : Int32)), (.int (1 : Int32))])
    refine own_by (fun _ k => XS.iand X1019.here hx rfl (hb hby at_332) rfl k) ?_
    refine own_by (fun _ k => XS.istore X1019.here hx rfl (hb hby at_333) rfl (l' := #[.val (.int p1), .val (.int p2), .val (.int p3), .val (.long p4), .second, .val (.long p5), .second, .val (.long p6), .second, .val (.int nk), .val (.int ky), .val (.int ko), .val (.int (2 : Int32)), .val (.ref b910), .val (.int ((1 : Int32) &&& (1 : Int32))), .val (.long (1 : Int64)), .second, .val (.long (2 : Int64)), .second, .val (.ref r'), .val (.long p4), .second, .val (.int (0 : Int32))]) rfl k) ?_
    show own_Go p e below _ T1019 (mkF m 335 #[.val (.int p1), .val (.int p2), .val (.int p3), .val (.long p4), .second, .val (.long p5), .second, .val (.long p6), .second, .val (.int nk), .val (.int ky), .val (.int ko), .val (.int (2 : Int32)), .val (.ref b910), .val (.int ((1 : Int32) &&& (1 : Int32))), .val (.long (1 : Int64)), .second, .val (.long (2 : Int64)), .second, .val (.ref r'), .val (.long p4), .second, .val (.int (0 : Int32))] [])
    rw [show ((1 : Int32) &&& (1 : Int32)) = (1 : Int32) from by decide]
    refine own_by (fun _ k => XS.iload X1019.here hx rfl (hb hby at_335) rfl k) ?_
    refine own_by (fun _ k => XS.aload X1019.here hx rfl (hb hby at_337) rfl rfl k) ?_
    show own_Go p e below _ T1019 (mkF m 339 #[.val (.int p1), .val (.int p2), .val (.int p3), .val (.long p4), .second, .val (.long p5), .second, .val (.long p6), .second, .val (.int nk), .val (.int ky), .val (.int ko), .val (.int (2 : Int32)), .val (.ref b910), .val (.int (1 : Int32)), .val (.long (1 : Int64)), .second, .val (.long (2 : Int64)), .second, .val (.ref r'), .val (.long p4), .second, .val (.int (0 : Int32))] [(.ref b910), (.int (1 : Int32))])
    refine own_by (fun _ k => XS.iload X1019.here hx rfl (hb hby at_339) rfl k) ?_
    obtain ⟨_, T1020, L1020, X1020, ⟨rfl, N1020q, Kc1020, Hc1020⟩, st1020⟩ := own_callV X1019 hx hZ hown (y := (⟨"com/example/eskew/eskew/server/split/CounterValues", "reading", "(I)J"⟩ : MethodName)) (C := "com/example/eskew/eskew/server/split/CounterValues") (hw _ (List.mem_of_getElem? (i := 78) rfl)) (hw _ (List.mem_of_getElem? (i := 79) rfl)) (hw _ (List.mem_of_getElem? (i := 81) rfl)) (hw _ (List.mem_of_getElem? (i := 80) rfl)) (hw _ (List.mem_of_getElem? (i := 3) rfl)) (hw _ (List.mem_of_getElem? (i := 82) rfl)) (by decide) (a := b910) f1017 (argsL := [(.int ky)]) (rest := [(.int (1 : Int32))]) e1019 (rm10 l Z a0 hw [] b910 ta t kt vs nk ky p6 (2 : Int64) (0 : Int32) (2 : Int64) p4 (1 : Int32) (1 : Int32) (1 : Int32) T1012.heap n0 Z1012 og_t hk hv ne_b910_t nt f1014 f1015 f1016 ) (g := (mkF m 341 #[.val (.int p1), .val (.int p2), .val (.int p3), .val (.long p4), .second, .val (.long p5), .second, .val (.long p6), .second, .val (.int nk), .val (.int ky), .val (.int ko), .val (.int (2 : Int32)), .val (.ref b910), .val (.int (1 : Int32)), .val (.long (1 : Int64)), .second, .val (.long (2 : Int64)), .second, .val (.ref r'), .val (.long p4), .second, .val (.int (0 : Int32))] [(.int ky), (.ref b910), (.int (1 : Int32))])) rfl (by rw [hml]; rfl) (lenOf pd_10 rfl) rfl (W := 1) (by show 2 * 0 + _ ≤ _; exact Nat.le_of_eq rfl) (hb hby at_341) (by decide) (by decide) (by decide) (by decide)
    have N1020 := Fr.app N1019 N1020q
    refine own_by st1020 ?_
    have Z1020 : n0 ≤ T1020.heap.size := Nat.le_trans Z1012 Kc1020.1
    have K1020c := K1012c.trans Kc1020 (allS (Or.inr sz_t) all0)
    have Hd1020 : own_Tal Z T1020.heap t p6 (2 : Int64) (0 : Int32) (2 : Int64) p4 (1 : Int32) (1 : Int32) (2 : Int32) := own_TalC Hc1020 (by first | decide | rfl) (by first | decide | rfl) (by first | decide | rfl) (by first | decide | rfl) (by first | decide | rfl) (by first | decide | rfl) (by first | decide | rfl) (by first | decide | rfl)
    show own_Go p e below _ T1020 (mkF m 344 #[.val (.int p1), .val (.int p2), .val (.int p3), .val (.long p4), .second, .val (.long p5), .second, .val (.long p6), .second, .val (.int nk), .val (.int ky), .val (.int ko), .val (.int (2 : Int32)), .val (.ref b910), .val (.int (1 : Int32)), .val (.long (1 : Int64)), .second, .val (.long (2 : Int64)), .second, .val (.ref r'), .val (.long p4), .second, .val (.int (0 : Int32))] [(.long (if (0 : Int32) = 0 then (2 : Int64) else -1)), (.int (1 : Int32))])
    rw [show (if (0 : Int32) = 0 then (2 : Int64) else -1) = (2 : Int64) from by decide]
    refine own_by (fun _ k => XS.lload X1020.here hx rfl (hb hby at_344) rfl k) ?_
    refine own_by (fun _ k => XS.lcmp X1020.here hx rfl (hb hby at_346) rfl k) ?_
    show own_Go p e below _ T1020 (mkF m 347 #[.val (.int p1), .val (.int p2), .val (.int p3), .val (.long p4), .second, .val (.long p5), .second, .val (.long p6), .second, .val (.int nk), .val (.int ky), .val (.int ko), .val (.int (2 : Int32)), .val (.ref b910), .val (.int (1 : Int32)), .val (.long (1 : Int64)), .second, .val (.long (2 : Int64)), .second, .val (.ref r'), .val (.long p4), .second, .val (.int (0 : Int32))] [(.int (lcmpW (2 : Int64) (2 : Int64))), (.int (1 : Int32))])
    refine own_by (fun _ k => XS.ifNo X1020.here hx rfl (hb hby at_347) rfl ((if0 _ _).trans (teq (by decide : (lcmpW (2 : Int64) (2 : Int64)) = (0 : Int32))).2) k) ?_
    refine own_by (fun _ k => XS.iconst X1020.here hx rfl (hb hby at_350) k) ?_
    refine own_by (fun _ k => XS.goto X1020.here hx rfl (pc0 := 351) (pc' := 355) rfl (hb hby at_351) (by decide) (by decide) k) ?_
    show own_Go p e below _ T1020 (mkF m 355 #[.val (.int p1), .val (.int p2), .val (.int p3), .val (.long p4), .second, .val (.long p5), .second, .val (.long p6), .second, .val (.int nk), .val (.int ky), .val (.int ko), .val (.int (2 : Int32)), .val (.ref b910), .val (.int (1 : Int32)), .val (.long (1 : Int64)), .second, .val (.long (2 : Int64)), .second, .val (.ref r'), .val (.long p4), .second, .val (.int (0 : Int32))] [(.int (1 : Int32)), (.int (1 : Int32))])
    refine own_by (fun _ k => XS.iand X1020.here hx rfl (hb hby at_355) rfl k) ?_
    refine own_by (fun _ k => XS.istore X1020.here hx rfl (hb hby at_356) rfl (l' := #[.val (.int p1), .val (.int p2), .val (.int p3), .val (.long p4), .second, .val (.long p5), .second, .val (.long p6), .second, .val (.int nk), .val (.int ky), .val (.int ko), .val (.int (2 : Int32)), .val (.ref b910), .val (.int ((1 : Int32) &&& (1 : Int32))), .val (.long (1 : Int64)), .second, .val (.long (2 : Int64)), .second, .val (.ref r'), .val (.long p4), .second, .val (.int (0 : Int32))]) rfl k) ?_
    show own_Go p e below _ T1020 (mkF m 358 #[.val (.int p1), .val (.int p2), .val (.int p3), .val (.long p4), .second, .val (.long p5), .second, .val (.long p6), .second, .val (.int nk), .val (.int ky), .val (.int ko), .val (.int (2 : Int32)), .val (.ref b910), .val (.int ((1 : Int32) &&& (1 : Int32))), .val (.long (1 : Int64)), .second, .val (.long (2 : Int64)), .second, .val (.ref r'), .val (.long p4), .second, .val (.int (0 : Int32))] [])
    rw [show ((1 : Int32) &&& (1 : Int32)) = (1 : Int32) from by decide]
    refine own_by (fun _ k => XS.iload X1020.here hx rfl (hb hby at_358) rfl k) ?_
    exact own_retN X1020 hx hlk hret (by simp) rfl (hb hby at_360) ⟨rfl, N1020⟩ (by decide) (by decide)
theorem own_cache {args : Array Value} {s : State} (w0 : (Jvm.Cond.laysStatic "java/lang/Long$LongCache" "cache" "[Ljava/lang/Long;").before args s = true) (w1 : (Jvm.Cond.initializedFor "java/lang/Long$LongCache" "cache" "[Ljava/lang/Long;").before args s = true) (w2 : (Jvm.Cond.arrayOf (Jvm.Term.static "java/lang/Long$LongCache" "cache" "[Ljava/lang/Long;") (Jvm.ClassFile.FieldType.object "java/lang/Long")).value args s none s [] = some true) (w3 : (Jvm.Cond.exactly (Jvm.Term.static "java/lang/Long$LongCache" "cache" "[Ljava/lang/Long;") "[Ljava/lang/Long;").value args s none s [] = some true) (w4 : (Jvm.Cond.eq (Jvm.Term.length (Jvm.Term.static "java/lang/Long$LongCache" "cache" "[Ljava/lang/Long;")) (Jvm.Term.int (256 : Int32))).value args s none s [] = some true)
    (w5 : (Jvm.Cond.all (Jvm.Term.static "java/lang/Long$LongCache" "cache" "[Ljava/lang/Long;") (Jvm.Cond.and (Jvm.Cond.exactly (Jvm.Term.elem (Jvm.Term.static "java/lang/Long$LongCache" "cache" "[Ljava/lang/Long;") (Jvm.Term.index (0 : Nat))) "java/lang/Long") (Jvm.Cond.eq (Jvm.Term.field (Jvm.Term.elem (Jvm.Term.static "java/lang/Long$LongCache" "cache" "[Ljava/lang/Long;") (Jvm.Term.index (0 : Nat))) "java/lang/Long" "value" "J") (Jvm.Term.op1 Jvm.Unary.i2l (Jvm.Term.sub (Jvm.Term.index (0 : Nat)) (Jvm.Term.int (128 : Int32))))))).value args s none s [] = some true) :
    ∃ ca cc, Sta s s.heap "java/lang/Long$LongCache" "cache" "[Ljava/lang/Long;" (.ref ca) ∧ Bxs s ca cc "java/lang/Long" "J" (256 : Int32) own_bx := by
  obtain ⟨a, ev⟩ := exa_v w3
  obtain ⟨cl, A⟩ := Arr.start ev w2
  have hz := Jvm.Free.IntBox.length_fwd (Cond.before_iff.mpr w4) ev A.1 A.2.1 A.2.2
  refine ⟨a, cl, Sta.start ev (Or.inl w1), Bxs.start (fun idx => ?_) A hz.1 hz.2 (by decide) w5 (fun X j nn q => ?_)⟩
  · rw [← ev]; simp only [Term.eval]
  · refine eqv_l ?_ q
    refine i2l_at ?_
    have e := idx_at (args := args) (first := s) (s := s) (o := none) nn
    simp [Term.eval] at e ⊢
    simp [e]
set_option maxRecDepth 65536 in
set_option maxHeartbeats 40000000 in
theorem comes_1 {Post : Tables → Env → Array Value → State → Outcome → State → Prop} (hpost : ∀ tb e args s v u, (limb_1_1.after args s (.returned v) u = true ∧ limb_1_2.after args s (.returned v) u = true ∧ True) → FrameEnd s (.returned v) u (Jvm.fieldLocs frame_1_writes args s ++ Jvm.arrayLocs frame_1_arrays args s ++ Jvm.staticLocs frame_1_statics s) 32 192 → Post tb e args s (.returned v) u) :
    ArmFor flags0 classFile x code maxLocals ret World_1 tables_1 room_1 Calls_1 rest_1 Pre_1 Post := by
  intro l hfl _ _ p e ha hc hk s m args below hf hA hF happ hP
  obtain ⟨hcalls, hrest, hpre⟩ := hP
  obtain ⟨-, -, -, hnamed, -, -, -, hat⟩ := (Spec.applies_iff hf).mp happ
  obtain ⟨hg, hn⟩ := and_e (Cond.before_iff.mp (show (Jvm.Cond.and given_1 narrow_1).before args s = true from hpre))
  obtain ⟨g1, g2⟩ := and_e hg
  obtain ⟨g3, g4⟩ := and_e g2
  obtain ⟨g5, g6⟩ := and_e g4
  obtain ⟨g7, g8⟩ := and_e g6
  obtain ⟨g9, g10⟩ := and_e g8
  obtain ⟨g11, g12⟩ := and_e g10
  obtain ⟨w0, w1, w2, w3, w4, w5, rfl⟩ : ∃ w0 w1 w2 w3 w4 w5 : Value, args = #[w0, w1, w2, w3, w4, w5] := by
    have hs : args.size = 6 := by simpa [Cond.value, given_1] using g1
    obtain ⟨L⟩ := args
    match L, hs with
    | [w0, w1, w2, w3, w4, w5], _ => exact ⟨w0, w1, w2, w3, w4, w5, rfl⟩
  have hw := fun d (hd : d ∈ tables_1) => atoms_spec (ws := Jvm.Cond.code x code maxLocals ret :: tables_1) hat d (List.mem_cons_of_mem _ hd)
  have hfit : Fit s := fun {y c} hc i hi => by
    obtain ⟨ha, rfl⟩ := Array.getElem?_eq_some_iff.mp hc
    have q := List.all_eq_true.mp ((Array.all_eq_true_iff_forall_mem.mp hF) _ (Array.getElem_mem ha)) i (List.mem_range.mpr hi)
    simpa [Array.getElem?_eq_getElem hi] using q
  obtain ⟨hsets, hown0⟩ := atoms_of _ (rest_1_c_eq ▸ (show rest_1_c.before _ s = true from hrest))
  have hr0 := Cond.before_iff.mp hown0
  obtain ⟨i0, ei0⟩ := is_v g3
  obtain rfl : w0 = (.int i0) := Option.some.inj ei0
  obtain ⟨i1, ei1⟩ := is_v g5
  obtain rfl : w1 = (.int i1) := Option.some.inj ei1
  obtain ⟨i2, ei2⟩ := is_v g7
  obtain rfl : w2 = (.int i2) := Option.some.inj ei2
  obtain ⟨i3, ei3⟩ := isL_v g9
  obtain rfl : w3 = (.long i3) := Option.some.inj ei3
  obtain ⟨i4, ei4⟩ := isL_v g11
  obtain rfl : w4 = (.long i4) := Option.some.inj ei4
  obtain ⟨i5, ei5⟩ := isL_v g12
  obtain rfl : w5 = (.long i5) := Option.some.inj ei5
  have hj : ∀ (i : Nat) (c : Jvm.Cond), jdkStatics_1[i]? = some c → c.before _ s = true := fun i c q => hsets c (List.mem_of_getElem? q)
  have w0 := hj 0 _ rfl
  have w1 := hj 1 _ rfl
  have w2 := Cond.before_iff.mp (hj 2 _ rfl)
  have w3 := Cond.before_iff.mp (hj 3 _ rfl)
  have w4 := Cond.before_iff.mp (hj 4 _ rfl)
  have w5 := Cond.before_iff.mp (hj 5 _ rfl)
  obtain ⟨ca, cc, HS, HB⟩ := own_cache w0 w1 w2 w3 w4 w5
  obtain ⟨n, o, h1, h2, h3, _, L, rfl, ⟨rfl, N⟩, hq⟩ := rm0 l s _ hw tables_1 ca cc i0 i1 i2 i3 i4 i5 s.heap s.heap.size (Nat.le_refl _) HB HS (Old.start s) p e ha hc hk s m _ below hf ((Spec.applies_iff_loose hf).mp happ).1 ⟨rfl, State.Warmed39.refl s, rfl⟩ trivial
  refine ⟨n, _, h1, h2, h3, hpost _ _ _ _ _ _ ⟨Cond.after_iff.mpr rfl, Cond.after_iff.mpr (eq_i res_at (Term.int_eval (1)) rfl), trivial⟩ ⟨hq.1, hq.2.1, (hq.2.2.sift fun y hy => Or.inr (N y hy)).mono (by decide) (by decide)⟩⟩
theorem main_1_1 : Claimed_1_1 := comes_1 fun _ _ _ _ _ _ h hF => ⟨h.1, hF⟩
theorem main_1_2 : Claimed_1_2 := comes_1 fun _ _ _ _ _ _ h hF => ⟨h.2.1, hF⟩
end Jvm.Pilot.@@N@@
namespace Jvm.Pilot.@@N@@
open Jvm Jvm.ClassFile Sem Op Lib Jvm.Free Jvm.Stand Jvm.Pilot.@@N@@.Jvm.D
/-! MADE BY PROGRAM (witnessworld.py) out of the Statement's table words and the real class files: 19 classes; the members and pool entries that the words name. The judged class is class 1, her method 1. -/
namespace start1
open Jvm.ClassFile
def u (s : String) : CpInfo := .utf8 (stringToUtf16 s)
/-- a pool by its gaps: so many unusable entries, then the entry; so many at the end -/
def gap : Nat → List CpInfo → List CpInfo
  | 0, r => r
  | n + 1, r => .unusable :: gap n r
def poolList (es : List (Nat × CpInfo)) (last : Nat) : List CpInfo := es.foldr (fun e r => gap e.1 (e.2 :: r)) (gap last [])
def pool (es : List (Nat × CpInfo)) (last : Nat) : Array CpInfo := ⟨poolList es last⟩
def fileOf (pool : Array CpInfo) (this : Nat) (attrs : Array Attribute := #[]) (ms : Array MethodInfo := #[]) (fl : Nat := 33) (sup : Nat := 0) (ifs : Array Nat := #[]) (fds : Array FieldInfo := #[]) : ClassFile where
  minorVersion := 0
  majorVersion := 65
  constantPool := pool
  accessFlags := fl
  thisClass := this
  superClass := sup
  interfaces := ifs
  fields := fds
  methods := ms
  attributes := attrs
def plain (name : String) (sup : Option ClassId) : Class where
  name := name
  kind := .ordinary
  loader := none
  accessFlags := 33
  super := sup
  interfaces := #[]
  cf := none
  fields := #[]
  methods := #[]
  instanceTypes := #[]
  staticTypes := #[]
  resolved := #[]
  callSites := []
  init := .initialized
  statics := none
  mirror := none

def pool0 : Array CpInfo := pool [(5, u "<init>"), (0, u "()V"), (1, .class_ 10), (1, u "java/lang/Object")] 113

def k0c0 : Code := { maxStack := 0, maxLocals := 1, code := object_method_1_code, exceptionTable := #[], attributes := #[] }
def k0m0 : Method := { name := "<init>", desc := "()V", sig := { parameters := [], returnType := none }, accessFlags := 1, code := some k0c0 }
/-- java/lang/Object -/
def k0 : Class := { plain "java/lang/Object" none with
  accessFlags := 33
  interfaces := #[]
  cf := some (fileOf pool0 8 #[] #[{ accessFlags := 1, nameIndex := 5, descriptorIndex := 6, attributes := #[] }] 33 0 #[] #[])
  fields := #[]
  methods := #[k0m0]
  instanceTypes := #[]
  staticTypes := #[]
  resolved := Array.replicate 124 none
  statics := none }

def pool1 : Array CpInfo := pool [(2, .class_ 4), (1, u "java/lang/Object"), (0, u "<init>"), (0, u "()V"), (0, .integer 2147483647), (0, .class_ 9), (0, u "com/example/eskew/eskew/server/split/CounterValues"), (0, .long 1000), (1, .methodref 8 13), (0, .nameAndType 5 14), (0, u "(IJJ)V"), (0, .methodref 8 16), (0, .nameAndType 17 18), (0, u "writing"), (0, u "(I)J"), (0, .long 2), (1, .methodref 8 22), (0, .nameAndType 23 24), (0, u "wrote"), (0, u "(IJJJ)V"), (0, .methodref 8 26), (0, .nameAndType 27 18), (0, u "reading"), (0, .long 18446744073709551615), (1, .methodref 8 31), (0, .nameAndType 32 33), (0, u "total"), (0, u "()Ljava/lang/Long;"), (0, .methodref 35 36), (0, .class_ 37), (0, .nameAndType 38 39), (0, u "java/lang/Long"), (0, u "longValue"), (0, u "()J"), (0, .methodref 8 41), (0, .nameAndType 42 43), (0, u "wanted"), (0, u "(IJ)Z"), (0, .class_ 45), (0, u "com/example/eskew/eskew/server/split/CounterValuesWritingPinLaw"), (2, u "law"), (0, u "(IIIJJJ)Z")] 3

def k1m0 : Method := { name := "<init>", desc := "()V", sig := { parameters := [], returnType := none }, accessFlags := 1, code := none }
def k1c1 : Code := { maxStack := 8, maxLocals := 23, code := code, exceptionTable := #[], attributes := #[] }
def k1m1 : Method := { name := "law", desc := "(IIIJJJ)Z", sig := { parameters := [.int, .int, .int, .long, .long, .long], returnType := some .boolean }, accessFlags := 9, code := some k1c1 }
/-- com/example/eskew/eskew/server/split/CounterValuesWritingPinLaw -/
def k1 : Class := { plain "com/example/eskew/eskew/server/split/CounterValuesWritingPinLaw" (some 0) with
  accessFlags := 49
  interfaces := #[]
  cf := some (fileOf pool1 44 #[] #[{ accessFlags := 1, nameIndex := 5, descriptorIndex := 6, attributes := #[] }, { accessFlags := 9, nameIndex := 48, descriptorIndex := 49, attributes := #[] }] 49 2 #[] #[])
  fields := #[]
  methods := #[k1m0, k1m1]
  instanceTypes := #[]
  staticTypes := #[]
  resolved := Array.replicate 53 none
  statics := none }

def pool2 : Array CpInfo := pool [(1, .methodref 2 3), (0, .class_ 4), (0, .nameAndType 5 6), (0, u "java/lang/Object"), (0, u "<init>"), (0, u "()V"), (0, .class_ 8), (0, u "com/example/eskew/eskew/server/split/CounterValues$WideSum"), (0, .methodref 7 3), (0, .fieldref 11 12), (0, .class_ 13), (0, .nameAndType 14 15), (0, u "com/example/eskew/eskew/server/split/CounterValues"), (0, u "rising"), (0, u "Lcom/example/eskew/eskew/server/split/CounterValues$WideSum;"), (0, .fieldref 11 17), (0, .nameAndType 18 15), (0, u "falling"), (0, .fieldref 11 20), (0, .nameAndType 21 22), (0, u "resting"), (0, u "I"), (0, .fieldref 11 24), (0, .nameAndType 25 22), (0, u "nextToRest"), (0, .fieldref 11 27), (0, .nameAndType 28 29), (0, u "rereadNanos"), (0, u "J"), (0, .class_ 31), (0, u "com/example/eskew/eskew/server/split/CounterValues$Tally"), (0, .fieldref 11 33), (0, .nameAndType 34 35), (0, u "tallies"), (0, u "[Lcom/example/eskew/eskew/server/split/CounterValues$Tally;"), (0, .methodref 30 37), (0, .nameAndType 5 38), (0, u "(J)V"), (0, .fieldref 30 40), (0, .nameAndType 41 29), (0, u "writesSent"), (0, .fieldref 30 43), (0, .nameAndType 44 22), (0, u "writes"), (0, .fieldref 30 46), (0, .nameAndType 47 29), (0, u "aloneSent"), (2, u "writing"), (0, u "(I)J"), (0, .methodref 11 53), (0, .nameAndType 54 55), (0, u "due"), (0, u "(Lcom/example/eskew/eskew/server/split/CounterValues$Tally;J)Z"), (4, .class_ 61), (0, u "com/example/eskew/eskew/server/split/CounterValues$Placing"), (0, .fieldref 30 63), (0, .nameAndType 64 29), (0, u "value"), (3, .fieldref 30 69), (0, .nameAndType 70 71), (0, u "placing"), (0, u "Lcom/example/eskew/eskew/server/split/CounterValues$Placing;"), (0, .methodref 11 73), (0, .nameAndType 74 75), (0, u "wideTotal"), (0, u "()Lcom/example/eskew/eskew/server/split/CounterValues$WideSum;"), (0, .methodref 7 77), (0, .nameAndType 78 79), (0, u "add"), (0, u "(J)Lcom/example/eskew/eskew/server/split/CounterValues$WideSum;"), (6, .methodref 7 87), (0, .nameAndType 64 88), (0, u "()Ljava/lang/Long;"), (3, .fieldref 30 93), (0, .nameAndType 94 22), (0, u "reads"), (0, .long 18446744073709551615), (1, .methodref 11 98), (0, .nameAndType 99 100), (0, u "takeBack"), (0, u "(I)Lcom/example/eskew/eskew/server/split/CounterValues$Tally;"), (0, .methodref 11 102), (0, .nameAndType 103 55), (0, u "alone"), (0, .methodref 11 105), (0, .nameAndType 106 107), (0, u "settle"), (0, u "(IJJ)V"), (12, .methodref 11 121), (0, .nameAndType 122 123), (0, u "unsettle"), (0, u "(Lcom/example/eskew/eskew/server/split/CounterValues$Tally;)V"), (9, .fieldref 30 134), (0, .nameAndType 135 136), (0, u "known"), (0, u "Z"), (2, u "restingSince"), (0, .fieldref 30 141), (0, .nameAndType 142 29), (0, u "since"), (0, .fieldref 30 144), (0, .nameAndType 145 136), (0, u "settled"), (0, .long 2), (53, u "NONE"), (2, u "UNSURE"), (8, u "reading"), (1, u "wrote"), (0, u "(IJJJ)V"), (6, u "wanted"), (0, u "(IJ)Z"), (4, u "total")] 12

def k2c0 : Code := { maxStack := 6, maxLocals := 7, code := prog_33_method_1_code, exceptionTable := #[], attributes := #[] }
def k2m0 : Method := { name := "<init>", desc := "(IJJ)V", sig := { parameters := [.int, .long, .long], returnType := none }, accessFlags := 0, code := some k2c0 }
def k2c1 : Code := { maxStack := 5, maxLocals := 3, code := prog_33_method_2_code, exceptionTable := #[], attributes := #[] }
def k2m1 : Method := { name := "writing", desc := "(I)J", sig := { parameters := [.int], returnType := some .long }, accessFlags := 0, code := some k2c1 }
def k2c2 : Code := { maxStack := 3, maxLocals := 3, code := prog_33_method_6_code, exceptionTable := #[], attributes := #[] }
def k2m2 : Method := { name := "reading", desc := "(I)J", sig := { parameters := [.int], returnType := some .long }, accessFlags := 0, code := some k2c2 }
def k2c3 : Code := { maxStack := 6, maxLocals := 9, code := prog_33_method_8_code, exceptionTable := #[], attributes := #[] }
def k2m3 : Method := { name := "wrote", desc := "(IJJJ)V", sig := { parameters := [.int, .long, .long, .long], returnType := none }, accessFlags := 0, code := some k2c3 }
def k2c4 : Code := { maxStack := 4, maxLocals := 5, code := prog_33_method_13_code, exceptionTable := #[], attributes := #[] }
def k2m4 : Method := { name := "wanted", desc := "(IJ)Z", sig := { parameters := [.int, .long], returnType := some .boolean }, accessFlags := 0, code := some k2c4 }
def k2c5 : Code := { maxStack := 1, maxLocals := 1, code := prog_33_method_16_code, exceptionTable := #[], attributes := #[] }
def k2m5 : Method := { name := "total", desc := "()Ljava/lang/Long;", sig := { parameters := [], returnType := some (.object "java/lang/Long") }, accessFlags := 0, code := some k2c5 }
def k2c6 : Code := { maxStack := 3, maxLocals := 6, code := prog_33_method_18_code, exceptionTable := #[], attributes := #[] }
def k2m6 : Method := { name := "wideTotal", desc := "()Lcom/example/eskew/eskew/server/split/CounterValues$WideSum;", sig := { parameters := [], returnType := some (.object "com/example/eskew/eskew/server/split/CounterValues$WideSum") }, accessFlags := 2, code := some k2c6 }
def k2c7 : Code := { maxStack := 3, maxLocals := 3, code := prog_33_method_20_code, exceptionTable := #[], attributes := #[] }
def k2m7 : Method := { name := "takeBack", desc := "(I)Lcom/example/eskew/eskew/server/split/CounterValues$Tally;", sig := { parameters := [.int], returnType := some (.object "com/example/eskew/eskew/server/split/CounterValues$Tally") }, accessFlags := 2, code := some k2c7 }
def k2c8 : Code := { maxStack := 4, maxLocals := 3, code := prog_33_method_21_code, exceptionTable := #[], attributes := #[] }
def k2m8 : Method := { name := "alone", desc := "(Lcom/example/eskew/eskew/server/split/CounterValues$Tally;J)Z", sig := { parameters := [(.object "com/example/eskew/eskew/server/split/CounterValues$Tally"), .long], returnType := some .boolean }, accessFlags := 10, code := some k2c8 }
def k2c9 : Code := { maxStack := 6, maxLocals := 4, code := prog_33_method_22_code, exceptionTable := #[], attributes := #[] }
def k2m9 : Method := { name := "due", desc := "(Lcom/example/eskew/eskew/server/split/CounterValues$Tally;J)Z", sig := { parameters := [(.object "com/example/eskew/eskew/server/split/CounterValues$Tally"), .long], returnType := some .boolean }, accessFlags := 2, code := some k2c9 }
def k2c10 : Code := { maxStack := 3, maxLocals := 7, code := prog_33_method_26_code, exceptionTable := #[], attributes := #[] }
def k2m10 : Method := { name := "settle", desc := "(IJJ)V", sig := { parameters := [.int, .long, .long], returnType := none }, accessFlags := 2, code := some k2c10 }
def k2c11 : Code := { maxStack := 2, maxLocals := 1, code := prog_33_method_27_code, exceptionTable := #[], attributes := #[] }
def k2m11 : Method := { name := "unsettle", desc := "(Lcom/example/eskew/eskew/server/split/CounterValues$Tally;)V", sig := { parameters := [(.object "com/example/eskew/eskew/server/split/CounterValues$Tally")], returnType := none }, accessFlags := 10, code := some k2c11 }
/-- com/example/eskew/eskew/server/split/CounterValues -/
def k2 : Class := { plain "com/example/eskew/eskew/server/split/CounterValues" (some 0) with
  accessFlags := 48
  interfaces := #[]
  cf := some (fileOf pool2 11 #[.nestMembers #[7, 60, 30]] #[{ accessFlags := 0, nameIndex := 5, descriptorIndex := 107, attributes := #[] }, { accessFlags := 0, nameIndex := 50, descriptorIndex := 51, attributes := #[] }, { accessFlags := 0, nameIndex := 212, descriptorIndex := 51, attributes := #[] }, { accessFlags := 0, nameIndex := 214, descriptorIndex := 215, attributes := #[] }, { accessFlags := 0, nameIndex := 222, descriptorIndex := 223, attributes := #[] }, { accessFlags := 0, nameIndex := 228, descriptorIndex := 88, attributes := #[] }, { accessFlags := 2, nameIndex := 74, descriptorIndex := 75, attributes := #[] }, { accessFlags := 2, nameIndex := 99, descriptorIndex := 100, attributes := #[] }, { accessFlags := 10, nameIndex := 103, descriptorIndex := 55, attributes := #[] }, { accessFlags := 2, nameIndex := 54, descriptorIndex := 55, attributes := #[] }, { accessFlags := 2, nameIndex := 106, descriptorIndex := 107, attributes := #[] }, { accessFlags := 10, nameIndex := 122, descriptorIndex := 123, attributes := #[] }] 48 2 #[] #[{ accessFlags := 24, nameIndex := 200, descriptorIndex := 22, attributes := #[] }, { accessFlags := 26, nameIndex := 203, descriptorIndex := 29, attributes := #[] }, { accessFlags := 18, nameIndex := 28, descriptorIndex := 29, attributes := #[] }, { accessFlags := 18, nameIndex := 34, descriptorIndex := 35, attributes := #[] }, { accessFlags := 18, nameIndex := 14, descriptorIndex := 15, attributes := #[] }, { accessFlags := 18, nameIndex := 18, descriptorIndex := 15, attributes := #[] }, { accessFlags := 2, nameIndex := 21, descriptorIndex := 22, attributes := #[] }, { accessFlags := 2, nameIndex := 139, descriptorIndex := 29, attributes := #[] }, { accessFlags := 2, nameIndex := 25, descriptorIndex := 22, attributes := #[] }])
  fields := #[{ name := "NONE", type := .int, accessFlags := 24, slot := 0, constantValue := 0 }, { name := "UNSURE", type := .long, accessFlags := 26, slot := 1, constantValue := 0 }, { name := "rereadNanos", type := .long, accessFlags := 18, slot := 0, constantValue := 0 }, { name := "tallies", type := (.array (.object "com/example/eskew/eskew/server/split/CounterValues$Tally")), accessFlags := 18, slot := 1, constantValue := 0 }, { name := "rising", type := (.object "com/example/eskew/eskew/server/split/CounterValues$WideSum"), accessFlags := 18, slot := 2, constantValue := 0 }, { name := "falling", type := (.object "com/example/eskew/eskew/server/split/CounterValues$WideSum"), accessFlags := 18, slot := 3, constantValue := 0 }, { name := "resting", type := .int, accessFlags := 2, slot := 4, constantValue := 0 }, { name := "restingSince", type := .long, accessFlags := 2, slot := 5, constantValue := 0 }, { name := "nextToRest", type := .int, accessFlags := 2, slot := 6, constantValue := 0 }]
  methods := #[k2m0, k2m1, k2m2, k2m3, k2m4, k2m5, k2m6, k2m7, k2m8, k2m9, k2m10, k2m11]
  instanceTypes := #[.long, (.array (.object "com/example/eskew/eskew/server/split/CounterValues$Tally")), (.object "com/example/eskew/eskew/server/split/CounterValues$WideSum"), (.object "com/example/eskew/eskew/server/split/CounterValues$WideSum"), .int, .long, .int]
  staticTypes := #[.int, .long]
  resolved := ((((((((((((((Array.replicate 241 none).set! 7 (some (.cls 3))).set! 9 (some (.method ⟨3, 0⟩))).set! 30 (some (.cls 4))).set! 36 (some (.method ⟨4, 0⟩))).set! 39 (some (.field 4 2))).set! 42 (some (.field 4 1))).set! 45 (some (.field 4 3))).set! 62 (some (.field 4 0))).set! 68 (some (.field 4 8))).set! 92 (some (.field 4 4))).set! 133 (some (.field 4 5))).set! 140 (some (.field 4 7))).set! 143 (some (.field 4 6)))
  statics := none }

def pool3 : Array CpInfo := pool [(1, .methodref 2 3), (0, .class_ 4), (0, .nameAndType 5 6), (0, u "java/lang/Object"), (0, u "<init>"), (0, u "()V"), (0, .fieldref 8 9), (0, .class_ 10), (0, .nameAndType 11 12), (0, u "com/example/eskew/eskew/server/split/CounterValues$WideSum"), (0, u "low"), (0, u "J"), (0, .fieldref 8 14), (0, .nameAndType 15 12), (0, u "high"), (0, .long 18446744073709551615), (3, u "add"), (0, u "(J)Lcom/example/eskew/eskew/server/split/CounterValues$WideSum;"), (0, .methodref 23 24), (0, .class_ 25), (0, .nameAndType 26 27), (0, u "java/lang/Long"), (0, u "valueOf"), (0, u "(J)Ljava/lang/Long;"), (6, u "value"), (0, u "()Ljava/lang/Long;"), (3, .class_ 40), (0, u "com/example/eskew/eskew/server/split/CounterValues")] 2

def k3c0 : Code := { maxStack := 1, maxLocals := 1, code := prog_36_method_1_code, exceptionTable := #[], attributes := #[] }
def k3m0 : Method := { name := "<init>", desc := "()V", sig := { parameters := [], returnType := none }, accessFlags := 2, code := some k3c0 }
def k3c1 : Code := { maxStack := 7, maxLocals := 5, code := prog_36_method_2_code, exceptionTable := #[], attributes := #[] }
def k3m1 : Method := { name := "add", desc := "(J)Lcom/example/eskew/eskew/server/split/CounterValues$WideSum;", sig := { parameters := [.long], returnType := some (.object "com/example/eskew/eskew/server/split/CounterValues$WideSum") }, accessFlags := 0, code := some k3c1 }
def k3c2 : Code := { maxStack := 4, maxLocals := 1, code := prog_36_method_5_code, exceptionTable := #[], attributes := #[] }
def k3m2 : Method := { name := "value", desc := "()Ljava/lang/Long;", sig := { parameters := [], returnType := some (.object "java/lang/Long") }, accessFlags := 0, code := some k3c2 }
/-- com/example/eskew/eskew/server/split/CounterValues$WideSum -/
def k3 : Class := { plain "com/example/eskew/eskew/server/split/CounterValues$WideSum" (some 0) with
  accessFlags := 48
  interfaces := #[]
  cf := some (fileOf pool3 8 #[.nestHost 39] #[{ accessFlags := 2, nameIndex := 5, descriptorIndex := 6, attributes := #[] }, { accessFlags := 0, nameIndex := 20, descriptorIndex := 21, attributes := #[] }, { accessFlags := 0, nameIndex := 34, descriptorIndex := 35, attributes := #[] }] 48 2 #[] #[{ accessFlags := 2, nameIndex := 11, descriptorIndex := 12, attributes := #[] }, { accessFlags := 2, nameIndex := 15, descriptorIndex := 12, attributes := #[] }])
  fields := #[{ name := "low", type := .long, accessFlags := 2, slot := 0, constantValue := 0 }, { name := "high", type := .long, accessFlags := 2, slot := 1, constantValue := 0 }]
  methods := #[k3m0, k3m1, k3m2]
  instanceTypes := #[.long, .long]
  staticTypes := #[]
  resolved := Array.replicate 43 none
  statics := none }

def pool4 : Array CpInfo := pool [(1, .methodref 2 3), (0, .class_ 4), (0, .nameAndType 5 6), (0, u "java/lang/Object"), (0, u "<init>"), (0, u "()V"), (0, .fieldref 8 9), (0, .class_ 10), (0, .nameAndType 11 12), (0, u "com/example/eskew/eskew/server/split/CounterValues$Tally"), (0, u "since"), (0, u "J"), (0, u "value"), (0, u "writes"), (0, u "I"), (0, u "writesSent"), (0, u "aloneSent"), (0, u "reads"), (0, u "known"), (0, u "Z"), (0, u "settled"), (0, u "placing"), (0, u "Lcom/example/eskew/eskew/server/split/CounterValues$Placing;"), (0, u "(J)V"), (5, .class_ 31), (0, u "com/example/eskew/eskew/server/split/CounterValues")] 5

def k4c0 : Code := { maxStack := 3, maxLocals := 3, code := prog_35_method_1_code, exceptionTable := #[], attributes := #[] }
def k4m0 : Method := { name := "<init>", desc := "(J)V", sig := { parameters := [.long], returnType := none }, accessFlags := 2, code := some k4c0 }
/-- com/example/eskew/eskew/server/split/CounterValues$Tally -/
def k4 : Class := { plain "com/example/eskew/eskew/server/split/CounterValues$Tally" (some 0) with
  accessFlags := 48
  interfaces := #[]
  cf := some (fileOf pool4 8 #[.nestHost 30] #[{ accessFlags := 2, nameIndex := 5, descriptorIndex := 24, attributes := #[] }] 48 2 #[] #[{ accessFlags := 2, nameIndex := 13, descriptorIndex := 12, attributes := #[] }, { accessFlags := 2, nameIndex := 14, descriptorIndex := 15, attributes := #[] }, { accessFlags := 2, nameIndex := 16, descriptorIndex := 12, attributes := #[] }, { accessFlags := 2, nameIndex := 17, descriptorIndex := 12, attributes := #[] }, { accessFlags := 2, nameIndex := 18, descriptorIndex := 15, attributes := #[] }, { accessFlags := 2, nameIndex := 19, descriptorIndex := 20, attributes := #[] }, { accessFlags := 2, nameIndex := 21, descriptorIndex := 20, attributes := #[] }, { accessFlags := 2, nameIndex := 11, descriptorIndex := 12, attributes := #[] }, { accessFlags := 2, nameIndex := 22, descriptorIndex := 23, attributes := #[] }])
  fields := #[{ name := "value", type := .long, accessFlags := 2, slot := 0, constantValue := 0 }, { name := "writes", type := .int, accessFlags := 2, slot := 1, constantValue := 0 }, { name := "writesSent", type := .long, accessFlags := 2, slot := 2, constantValue := 0 }, { name := "aloneSent", type := .long, accessFlags := 2, slot := 3, constantValue := 0 }, { name := "reads", type := .int, accessFlags := 2, slot := 4, constantValue := 0 }, { name := "known", type := .boolean, accessFlags := 2, slot := 5, constantValue := 0 }, { name := "settled", type := .boolean, accessFlags := 2, slot := 6, constantValue := 0 }, { name := "since", type := .long, accessFlags := 2, slot := 7, constantValue := 0 }, { name := "placing", type := (.object "com/example/eskew/eskew/server/split/CounterValues$Placing"), accessFlags := 2, slot := 8, constantValue := 0 }]
  methods := #[k4m0]
  instanceTypes := #[.long, .int, .long, .long, .int, .boolean, .boolean, .long, (.object "com/example/eskew/eskew/server/split/CounterValues$Placing")]
  staticTypes := #[]
  resolved := Array.replicate 37 none
  statics := none }

def pool5 : Array CpInfo := pool [(1, .class_ 2), (0, u "java/io/Serializable"), (0, .class_ 4), (0, u "java/lang/Object")] 2

/-- java/io/Serializable -/
def k5 : Class := { plain "java/io/Serializable" (some 0) with
  accessFlags := 1537
  interfaces := #[]
  cf := some (fileOf pool5 1 #[] #[] 1537 3 #[] #[])
  fields := #[]
  methods := #[]
  instanceTypes := #[]
  staticTypes := #[]
  resolved := Array.replicate 7 none
  statics := none }

def pool6 : Array CpInfo := pool [(1, .methodref 2 3), (0, .class_ 4), (0, .nameAndType 5 6), (0, u "java/lang/Object"), (0, u "<init>"), (0, u "()V"), (1, .class_ 10), (1, u "java/lang/Number"), (2, .class_ 14), (0, u "java/io/Serializable"), (0, u "serialVersionUID"), (0, u "J")] 20

def k6c0 : Code := { maxStack := 1, maxLocals := 1, code := jdk_18_method_1_code, exceptionTable := #[], attributes := #[] }
def k6m0 : Method := { name := "<init>", desc := "()V", sig := { parameters := [], returnType := none }, accessFlags := 1, code := some k6c0 }
/-- java/lang/Number -/
def k6 : Class := { plain "java/lang/Number" (some 0) with
  accessFlags := 1057
  interfaces := #[5]
  cf := some (fileOf pool6 8 #[] #[{ accessFlags := 1, nameIndex := 5, descriptorIndex := 6, attributes := #[] }] 1057 2 #[13] #[{ accessFlags := 26, nameIndex := 15, descriptorIndex := 16, attributes := #[] }])
  fields := #[{ name := "serialVersionUID", type := .long, accessFlags := 26, slot := 0, constantValue := 0 }]
  methods := #[k6m0]
  instanceTypes := #[]
  staticTypes := #[.long]
  resolved := Array.replicate 37 none
  statics := none }

def pool7 : Array CpInfo := pool [(1, .class_ 2), (0, u "java/lang/Comparable"), (0, .class_ 4), (0, u "java/lang/Object")] 7

/-- java/lang/Comparable -/
def k7 : Class := { plain "java/lang/Comparable" (some 0) with
  accessFlags := 1537
  interfaces := #[]
  cf := some (fileOf pool7 1 #[] #[] 1537 3 #[] #[])
  fields := #[]
  methods := #[]
  instanceTypes := #[]
  staticTypes := #[]
  resolved := Array.replicate 12 none
  statics := none }

def pool8 : Array CpInfo := pool [(1, .class_ 2), (0, u "java/lang/constant/Constable"), (0, .class_ 4), (0, u "java/lang/Object")] 6

/-- java/lang/constant/Constable -/
def k8 : Class := { plain "java/lang/constant/Constable" (some 0) with
  accessFlags := 1537
  interfaces := #[]
  cf := some (fileOf pool8 1 #[] #[] 1537 3 #[] #[])
  fields := #[]
  methods := #[]
  instanceTypes := #[]
  staticTypes := #[]
  resolved := Array.replicate 11 none
  statics := none }

def pool9 : Array CpInfo := pool [(1, .class_ 2), (0, u "java/lang/constant/ConstantDesc"), (0, .class_ 4), (0, u "java/lang/Object")] 32

/-- java/lang/constant/ConstantDesc -/
def k9 : Class := { plain "java/lang/constant/ConstantDesc" (some 0) with
  accessFlags := 1537
  interfaces := #[]
  cf := some (fileOf pool9 1 #[] #[] 1537 3 #[] #[])
  fields := #[]
  methods := #[]
  instanceTypes := #[]
  staticTypes := #[]
  resolved := Array.replicate 37 none
  statics := none }

def pool10 : Array CpInfo := pool [(1, .class_ 2), (0, u "java/lang/Long"), (55, .nameAndType 59 60), (0, u "<init>"), (0, u "()V"), (24, u "valueOf"), (143, u "(J)Ljava/lang/Long;"), (0, .long 18446744073709551488), (1, .long 127), (1, .fieldref 235 236), (0, .class_ 237), (0, .nameAndType 238 239), (0, u "java/lang/Long$LongCache"), (0, u "cache"), (0, u "[Ljava/lang/Long;"), (0, .methodref 1 241), (0, .nameAndType 59 242), (0, u "(J)V"), (27, .methodref 271 58), (0, .class_ 272), (0, u "java/lang/Number"), (0, .fieldref 1 274), (0, .nameAndType 275 276), (0, u "value"), (0, u "J"), (5, u "longValue"), (0, u "()J"), (77, u "TYPE"), (0, u "Ljava/lang/Class;"), (0, .class_ 364), (0, u "java/lang/Comparable"), (0, .class_ 366), (0, u "java/lang/constant/Constable"), (0, .class_ 368), (0, u "java/lang/constant/ConstantDesc"), (0, u "MIN_VALUE"), (1, u "MAX_VALUE"), (4, u "SIZE"), (0, u "I"), (1, u "BYTES"), (1, u "serialVersionUID")] 142

def k10c0 : Code := { maxStack := 4, maxLocals := 3, code := jdk_35_method_24_code, exceptionTable := #[], attributes := #[] }
def k10m0 : Method := { name := "valueOf", desc := "(J)Ljava/lang/Long;", sig := { parameters := [.long], returnType := some (.object "java/lang/Long") }, accessFlags := 9, code := some k10c0 }
def k10c1 : Code := { maxStack := 3, maxLocals := 3, code := jdk_35_method_26_code, exceptionTable := #[], attributes := #[] }
def k10m1 : Method := { name := "<init>", desc := "(J)V", sig := { parameters := [.long], returnType := none }, accessFlags := 1, code := some k10c1 }
def k10c2 : Code := { maxStack := 2, maxLocals := 1, code := jdk_35_method_31_code, exceptionTable := #[], attributes := #[] }
def k10m2 : Method := { name := "longValue", desc := "()J", sig := { parameters := [], returnType := some .long }, accessFlags := 1, code := some k10c2 }
/-- java/lang/Long -/
def k10 : Class := { plain "java/lang/Long" (some 6) with
  accessFlags := 49
  interfaces := #[7, 8, 9]
  cf := some (fileOf pool10 1 #[.nestMembers #[235]] #[{ accessFlags := 9, nameIndex := 85, descriptorIndex := 229, attributes := #[] }, { accessFlags := 1, nameIndex := 59, descriptorIndex := 242, attributes := #[] }, { accessFlags := 1, nameIndex := 282, descriptorIndex := 283, attributes := #[] }] 49 271 #[363, 365, 367] #[{ accessFlags := 25, nameIndex := 369, descriptorIndex := 276, attributes := #[] }, { accessFlags := 25, nameIndex := 371, descriptorIndex := 276, attributes := #[] }, { accessFlags := 25, nameIndex := 361, descriptorIndex := 362, attributes := #[] }, { accessFlags := 18, nameIndex := 275, descriptorIndex := 276, attributes := #[] }, { accessFlags := 25, nameIndex := 376, descriptorIndex := 377, attributes := #[] }, { accessFlags := 25, nameIndex := 379, descriptorIndex := 377, attributes := #[] }, { accessFlags := 26, nameIndex := 381, descriptorIndex := 276, attributes := #[] }])
  fields := #[{ name := "MIN_VALUE", type := .long, accessFlags := 25, slot := 0, constantValue := 0 }, { name := "MAX_VALUE", type := .long, accessFlags := 25, slot := 1, constantValue := 0 }, { name := "TYPE", type := (.object "java/lang/Class"), accessFlags := 25, slot := 2, constantValue := 0 }, { name := "value", type := .long, accessFlags := 18, slot := 0, constantValue := 0 }, { name := "SIZE", type := .int, accessFlags := 25, slot := 3, constantValue := 0 }, { name := "BYTES", type := .int, accessFlags := 25, slot := 4, constantValue := 0 }, { name := "serialVersionUID", type := .long, accessFlags := 26, slot := 5, constantValue := 0 }]
  methods := #[k10m0, k10m1, k10m2]
  instanceTypes := #[.long]
  staticTypes := #[.long, .long, (.object "java/lang/Class"), .int, .int, .long]
  resolved := Array.replicate 524 none
  statics := none }

def pool11 : Array CpInfo := pool [(2, .class_ 4), (1, u "java/lang/Object"), (0, u "<init>"), (0, u "()V"), (0, .class_ 8), (0, u "java/lang/Long"), (7, .class_ 18), (1, u "java/lang/Long$LongCache"), (0, u "$assertionsDisabled"), (0, u "Z"), (8, u "archivedCache"), (0, u "[Ljava/lang/Long;"), (7, u "cache")] 24

def k11m0 : Method := { name := "<init>", desc := "()V", sig := { parameters := [], returnType := none }, accessFlags := 2, code := none }
/-- java/lang/Long$LongCache -/
def k11 : Class := { plain "java/lang/Long$LongCache" (some 0) with
  accessFlags := 48
  interfaces := #[]
  cf := some (fileOf pool11 16 #[.nestHost 7] #[{ accessFlags := 2, nameIndex := 5, descriptorIndex := 6, attributes := #[] }] 48 2 #[] #[{ accessFlags := 24, nameIndex := 38, descriptorIndex := 30, attributes := #[] }, { accessFlags := 8, nameIndex := 29, descriptorIndex := 30, attributes := #[] }, { accessFlags := 4120, nameIndex := 19, descriptorIndex := 20, attributes := #[] }])
  fields := #[{ name := "cache", type := (.array (.object "java/lang/Long")), accessFlags := 24, slot := 0, constantValue := 0 }, { name := "archivedCache", type := (.array (.object "java/lang/Long")), accessFlags := 8, slot := 1, constantValue := 0 }, { name := "$assertionsDisabled", type := .boolean, accessFlags := 4120, slot := 2, constantValue := 0 }]
  methods := #[k11m0]
  instanceTypes := #[]
  staticTypes := #[(.array (.object "java/lang/Long")), (.array (.object "java/lang/Long")), .boolean]
  resolved := Array.replicate 63 none
  statics := some 0 }

def pool12 : Array CpInfo := pool [(1, u "java/lang/Cloneable"), (0, .class_ 1), (0, u "java/lang/Object"), (0, .class_ 3)] 3

/-- java/lang/Cloneable -/
def k12 : Class := { plain "java/lang/Cloneable" (some 0) with
  accessFlags := 1537
  interfaces := #[]
  cf := some (fileOf pool12 2 #[] #[] 1537 4 #[] #[])
  fields := #[]
  methods := #[]
  instanceTypes := #[]
  staticTypes := #[]
  resolved := Array.replicate 8 none
  statics := none }

/-- the primitive byte -/
def k13 : Class := { plain "byte" none with kind := .primitive 'B', accessFlags := 0x411 }
/-- [B -/
def k14 : Class := { plain "[B" (some 0) with kind := .array 13 .byte, interfaces := #[12, 5], accessFlags := 1041 }

/-- the primitive int -/
def k15 : Class := { plain "int" none with kind := .primitive 'I', accessFlags := 0x411 }
/-- [I -/
def k16 : Class := { plain "[I" (some 0) with kind := .array 15 .int, interfaces := #[12, 5], accessFlags := 1041 }

/-- [Lcom/example/eskew/eskew/server/split/CounterValues$Tally; -/
def k17 : Class := { plain "[Lcom/example/eskew/eskew/server/split/CounterValues$Tally;" (some 0) with kind := .array 4 (.object "com/example/eskew/eskew/server/split/CounterValues$Tally"), interfaces := #[12, 5], accessFlags := 1041 }

/-- [Ljava/lang/Long; -/
def k18 : Class := { plain "[Ljava/lang/Long;" (some 0) with kind := .array 10 (.object "java/lang/Long"), interfaces := #[12, 5], accessFlags := 1041 }

def heap : Heap := #[{ cls := 11, slots := #[.ref 1, .null, .int 0], vm := .statics 11 },
  { cls := 18, slots := #[.ref 2, .ref 3, .ref 4, .ref 5, .ref 6, .ref 7, .ref 8, .ref 9, .ref 10, .ref 11, .ref 12, .ref 13, .ref 14, .ref 15, .ref 16, .ref 17, .ref 18, .ref 19, .ref 20, .ref 21, .ref 22, .ref 23, .ref 24, .ref 25, .ref 26, .ref 27, .ref 28, .ref 29, .ref 30, .ref 31, .ref 32, .ref 33, .ref 34, .ref 35, .ref 36, .ref 37, .ref 38, .ref 39, .ref 40, .ref 41, .ref 42, .ref 43, .ref 44, .ref 45, .ref 46, .ref 47, .ref 48, .ref 49, .ref 50, .ref 51, .ref 52, .ref 53, .ref 54, .ref 55, .ref 56, .ref 57, .ref 58, .ref 59, .ref 60, .ref 61, .ref 62, .ref 63, .ref 64, .ref 65, .ref 66, .ref 67, .ref 68, .ref 69, .ref 70, .ref 71, .ref 72, .ref 73, .ref 74, .ref 75, .ref 76, .ref 77, .ref 78, .ref 79, .ref 80, .ref 81, .ref 82, .ref 83, .ref 84, .ref 85, .ref 86, .ref 87, .ref 88, .ref 89, .ref 90, .ref 91, .ref 92, .ref 93, .ref 94, .ref 95, .ref 96, .ref 97, .ref 98, .ref 99, .ref 100, .ref 101, .ref 102, .ref 103, .ref 104, .ref 105, .ref 106, .ref 107, .ref 108, .ref 109, .ref 110, .ref 111, .ref 112, .ref 113, .ref 114, .ref 115, .ref 116, .ref 117, .ref 118, .ref 119, .ref 120, .ref 121, .ref 122, .ref 123, .ref 124, .ref 125, .ref 126, .ref 127, .ref 128, .ref 129, .ref 130, .ref 131, .ref 132, .ref 133, .ref 134, .ref 135, .ref 136, .ref 137, .ref 138, .ref 139, .ref 140, .ref 141, .ref 142, .ref 143, .ref 144, .ref 145, .ref 146, .ref 147, .ref 148, .ref 149, .ref 150, .ref 151, .ref 152, .ref 153, .ref 154, .ref 155, .ref 156, .ref 157, .ref 158, .ref 159, .ref 160, .ref 161, .ref 162, .ref 163, .ref 164, .ref 165, .ref 166, .ref 167, .ref 168, .ref 169, .ref 170, .ref 171, .ref 172, .ref 173, .ref 174, .ref 175, .ref 176, .ref 177, .ref 178, .ref 179, .ref 180, .ref 181, .ref 182, .ref 183, .ref 184, .ref 185, .ref 186, .ref 187, .ref 188, .ref 189, .ref 190, .ref 191, .ref 192, .ref 193, .ref 194, .ref 195, .ref 196, .ref 197, .ref 198, .ref 199, .ref 200, .ref 201, .ref 202, .ref 203, .ref 204, .ref 205, .ref 206, .ref 207, .ref 208, .ref 209, .ref 210, .ref 211, .ref 212, .ref 213, .ref 214, .ref 215, .ref 216, .ref 217, .ref 218, .ref 219, .ref 220, .ref 221, .ref 222, .ref 223, .ref 224, .ref 225, .ref 226, .ref 227, .ref 228, .ref 229, .ref 230, .ref 231, .ref 232, .ref 233, .ref 234, .ref 235, .ref 236, .ref 237, .ref 238, .ref 239, .ref 240, .ref 241, .ref 242, .ref 243, .ref 244, .ref 245, .ref 246, .ref 247, .ref 248, .ref 249, .ref 250, .ref 251, .ref 252, .ref 253, .ref 254, .ref 255, .ref 256, .ref 257], vm := .none },
  { cls := 10, slots := #[.long (-128)] },
  { cls := 10, slots := #[.long (-127)] },
  { cls := 10, slots := #[.long (-126)] },
  { cls := 10, slots := #[.long (-125)] },
  { cls := 10, slots := #[.long (-124)] },
  { cls := 10, slots := #[.long (-123)] },
  { cls := 10, slots := #[.long (-122)] },
  { cls := 10, slots := #[.long (-121)] },
  { cls := 10, slots := #[.long (-120)] },
  { cls := 10, slots := #[.long (-119)] },
  { cls := 10, slots := #[.long (-118)] },
  { cls := 10, slots := #[.long (-117)] },
  { cls := 10, slots := #[.long (-116)] },
  { cls := 10, slots := #[.long (-115)] },
  { cls := 10, slots := #[.long (-114)] },
  { cls := 10, slots := #[.long (-113)] },
  { cls := 10, slots := #[.long (-112)] },
  { cls := 10, slots := #[.long (-111)] },
  { cls := 10, slots := #[.long (-110)] },
  { cls := 10, slots := #[.long (-109)] },
  { cls := 10, slots := #[.long (-108)] },
  { cls := 10, slots := #[.long (-107)] },
  { cls := 10, slots := #[.long (-106)] },
  { cls := 10, slots := #[.long (-105)] },
  { cls := 10, slots := #[.long (-104)] },
  { cls := 10, slots := #[.long (-103)] },
  { cls := 10, slots := #[.long (-102)] },
  { cls := 10, slots := #[.long (-101)] },
  { cls := 10, slots := #[.long (-100)] },
  { cls := 10, slots := #[.long (-99)] },
  { cls := 10, slots := #[.long (-98)] },
  { cls := 10, slots := #[.long (-97)] },
  { cls := 10, slots := #[.long (-96)] },
  { cls := 10, slots := #[.long (-95)] },
  { cls := 10, slots := #[.long (-94)] },
  { cls := 10, slots := #[.long (-93)] },
  { cls := 10, slots := #[.long (-92)] },
  { cls := 10, slots := #[.long (-91)] },
  { cls := 10, slots := #[.long (-90)] },
  { cls := 10, slots := #[.long (-89)] },
  { cls := 10, slots := #[.long (-88)] },
  { cls := 10, slots := #[.long (-87)] },
  { cls := 10, slots := #[.long (-86)] },
  { cls := 10, slots := #[.long (-85)] },
  { cls := 10, slots := #[.long (-84)] },
  { cls := 10, slots := #[.long (-83)] },
  { cls := 10, slots := #[.long (-82)] },
  { cls := 10, slots := #[.long (-81)] },
  { cls := 10, slots := #[.long (-80)] },
  { cls := 10, slots := #[.long (-79)] },
  { cls := 10, slots := #[.long (-78)] },
  { cls := 10, slots := #[.long (-77)] },
  { cls := 10, slots := #[.long (-76)] },
  { cls := 10, slots := #[.long (-75)] },
  { cls := 10, slots := #[.long (-74)] },
  { cls := 10, slots := #[.long (-73)] },
  { cls := 10, slots := #[.long (-72)] },
  { cls := 10, slots := #[.long (-71)] },
  { cls := 10, slots := #[.long (-70)] },
  { cls := 10, slots := #[.long (-69)] },
  { cls := 10, slots := #[.long (-68)] },
  { cls := 10, slots := #[.long (-67)] },
  { cls := 10, slots := #[.long (-66)] },
  { cls := 10, slots := #[.long (-65)] },
  { cls := 10, slots := #[.long (-64)] },
  { cls := 10, slots := #[.long (-63)] },
  { cls := 10, slots := #[.long (-62)] },
  { cls := 10, slots := #[.long (-61)] },
  { cls := 10, slots := #[.long (-60)] },
  { cls := 10, slots := #[.long (-59)] },
  { cls := 10, slots := #[.long (-58)] },
  { cls := 10, slots := #[.long (-57)] },
  { cls := 10, slots := #[.long (-56)] },
  { cls := 10, slots := #[.long (-55)] },
  { cls := 10, slots := #[.long (-54)] },
  { cls := 10, slots := #[.long (-53)] },
  { cls := 10, slots := #[.long (-52)] },
  { cls := 10, slots := #[.long (-51)] },
  { cls := 10, slots := #[.long (-50)] },
  { cls := 10, slots := #[.long (-49)] },
  { cls := 10, slots := #[.long (-48)] },
  { cls := 10, slots := #[.long (-47)] },
  { cls := 10, slots := #[.long (-46)] },
  { cls := 10, slots := #[.long (-45)] },
  { cls := 10, slots := #[.long (-44)] },
  { cls := 10, slots := #[.long (-43)] },
  { cls := 10, slots := #[.long (-42)] },
  { cls := 10, slots := #[.long (-41)] },
  { cls := 10, slots := #[.long (-40)] },
  { cls := 10, slots := #[.long (-39)] },
  { cls := 10, slots := #[.long (-38)] },
  { cls := 10, slots := #[.long (-37)] },
  { cls := 10, slots := #[.long (-36)] },
  { cls := 10, slots := #[.long (-35)] },
  { cls := 10, slots := #[.long (-34)] },
  { cls := 10, slots := #[.long (-33)] },
  { cls := 10, slots := #[.long (-32)] },
  { cls := 10, slots := #[.long (-31)] },
  { cls := 10, slots := #[.long (-30)] },
  { cls := 10, slots := #[.long (-29)] },
  { cls := 10, slots := #[.long (-28)] },
  { cls := 10, slots := #[.long (-27)] },
  { cls := 10, slots := #[.long (-26)] },
  { cls := 10, slots := #[.long (-25)] },
  { cls := 10, slots := #[.long (-24)] },
  { cls := 10, slots := #[.long (-23)] },
  { cls := 10, slots := #[.long (-22)] },
  { cls := 10, slots := #[.long (-21)] },
  { cls := 10, slots := #[.long (-20)] },
  { cls := 10, slots := #[.long (-19)] },
  { cls := 10, slots := #[.long (-18)] },
  { cls := 10, slots := #[.long (-17)] },
  { cls := 10, slots := #[.long (-16)] },
  { cls := 10, slots := #[.long (-15)] },
  { cls := 10, slots := #[.long (-14)] },
  { cls := 10, slots := #[.long (-13)] },
  { cls := 10, slots := #[.long (-12)] },
  { cls := 10, slots := #[.long (-11)] },
  { cls := 10, slots := #[.long (-10)] },
  { cls := 10, slots := #[.long (-9)] },
  { cls := 10, slots := #[.long (-8)] },
  { cls := 10, slots := #[.long (-7)] },
  { cls := 10, slots := #[.long (-6)] },
  { cls := 10, slots := #[.long (-5)] },
  { cls := 10, slots := #[.long (-4)] },
  { cls := 10, slots := #[.long (-3)] },
  { cls := 10, slots := #[.long (-2)] },
  { cls := 10, slots := #[.long (-1)] },
  { cls := 10, slots := #[.long (0)] },
  { cls := 10, slots := #[.long (1)] },
  { cls := 10, slots := #[.long (2)] },
  { cls := 10, slots := #[.long (3)] },
  { cls := 10, slots := #[.long (4)] },
  { cls := 10, slots := #[.long (5)] },
  { cls := 10, slots := #[.long (6)] },
  { cls := 10, slots := #[.long (7)] },
  { cls := 10, slots := #[.long (8)] },
  { cls := 10, slots := #[.long (9)] },
  { cls := 10, slots := #[.long (10)] },
  { cls := 10, slots := #[.long (11)] },
  { cls := 10, slots := #[.long (12)] },
  { cls := 10, slots := #[.long (13)] },
  { cls := 10, slots := #[.long (14)] },
  { cls := 10, slots := #[.long (15)] },
  { cls := 10, slots := #[.long (16)] },
  { cls := 10, slots := #[.long (17)] },
  { cls := 10, slots := #[.long (18)] },
  { cls := 10, slots := #[.long (19)] },
  { cls := 10, slots := #[.long (20)] },
  { cls := 10, slots := #[.long (21)] },
  { cls := 10, slots := #[.long (22)] },
  { cls := 10, slots := #[.long (23)] },
  { cls := 10, slots := #[.long (24)] },
  { cls := 10, slots := #[.long (25)] },
  { cls := 10, slots := #[.long (26)] },
  { cls := 10, slots := #[.long (27)] },
  { cls := 10, slots := #[.long (28)] },
  { cls := 10, slots := #[.long (29)] },
  { cls := 10, slots := #[.long (30)] },
  { cls := 10, slots := #[.long (31)] },
  { cls := 10, slots := #[.long (32)] },
  { cls := 10, slots := #[.long (33)] },
  { cls := 10, slots := #[.long (34)] },
  { cls := 10, slots := #[.long (35)] },
  { cls := 10, slots := #[.long (36)] },
  { cls := 10, slots := #[.long (37)] },
  { cls := 10, slots := #[.long (38)] },
  { cls := 10, slots := #[.long (39)] },
  { cls := 10, slots := #[.long (40)] },
  { cls := 10, slots := #[.long (41)] },
  { cls := 10, slots := #[.long (42)] },
  { cls := 10, slots := #[.long (43)] },
  { cls := 10, slots := #[.long (44)] },
  { cls := 10, slots := #[.long (45)] },
  { cls := 10, slots := #[.long (46)] },
  { cls := 10, slots := #[.long (47)] },
  { cls := 10, slots := #[.long (48)] },
  { cls := 10, slots := #[.long (49)] },
  { cls := 10, slots := #[.long (50)] },
  { cls := 10, slots := #[.long (51)] },
  { cls := 10, slots := #[.long (52)] },
  { cls := 10, slots := #[.long (53)] },
  { cls := 10, slots := #[.long (54)] },
  { cls := 10, slots := #[.long (55)] },
  { cls := 10, slots := #[.long (56)] },
  { cls := 10, slots := #[.long (57)] },
  { cls := 10, slots := #[.long (58)] },
  { cls := 10, slots := #[.long (59)] },
  { cls := 10, slots := #[.long (60)] },
  { cls := 10, slots := #[.long (61)] },
  { cls := 10, slots := #[.long (62)] },
  { cls := 10, slots := #[.long (63)] },
  { cls := 10, slots := #[.long (64)] },
  { cls := 10, slots := #[.long (65)] },
  { cls := 10, slots := #[.long (66)] },
  { cls := 10, slots := #[.long (67)] },
  { cls := 10, slots := #[.long (68)] },
  { cls := 10, slots := #[.long (69)] },
  { cls := 10, slots := #[.long (70)] },
  { cls := 10, slots := #[.long (71)] },
  { cls := 10, slots := #[.long (72)] },
  { cls := 10, slots := #[.long (73)] },
  { cls := 10, slots := #[.long (74)] },
  { cls := 10, slots := #[.long (75)] },
  { cls := 10, slots := #[.long (76)] },
  { cls := 10, slots := #[.long (77)] },
  { cls := 10, slots := #[.long (78)] },
  { cls := 10, slots := #[.long (79)] },
  { cls := 10, slots := #[.long (80)] },
  { cls := 10, slots := #[.long (81)] },
  { cls := 10, slots := #[.long (82)] },
  { cls := 10, slots := #[.long (83)] },
  { cls := 10, slots := #[.long (84)] },
  { cls := 10, slots := #[.long (85)] },
  { cls := 10, slots := #[.long (86)] },
  { cls := 10, slots := #[.long (87)] },
  { cls := 10, slots := #[.long (88)] },
  { cls := 10, slots := #[.long (89)] },
  { cls := 10, slots := #[.long (90)] },
  { cls := 10, slots := #[.long (91)] },
  { cls := 10, slots := #[.long (92)] },
  { cls := 10, slots := #[.long (93)] },
  { cls := 10, slots := #[.long (94)] },
  { cls := 10, slots := #[.long (95)] },
  { cls := 10, slots := #[.long (96)] },
  { cls := 10, slots := #[.long (97)] },
  { cls := 10, slots := #[.long (98)] },
  { cls := 10, slots := #[.long (99)] },
  { cls := 10, slots := #[.long (100)] },
  { cls := 10, slots := #[.long (101)] },
  { cls := 10, slots := #[.long (102)] },
  { cls := 10, slots := #[.long (103)] },
  { cls := 10, slots := #[.long (104)] },
  { cls := 10, slots := #[.long (105)] },
  { cls := 10, slots := #[.long (106)] },
  { cls := 10, slots := #[.long (107)] },
  { cls := 10, slots := #[.long (108)] },
  { cls := 10, slots := #[.long (109)] },
  { cls := 10, slots := #[.long (110)] },
  { cls := 10, slots := #[.long (111)] },
  { cls := 10, slots := #[.long (112)] },
  { cls := 10, slots := #[.long (113)] },
  { cls := 10, slots := #[.long (114)] },
  { cls := 10, slots := #[.long (115)] },
  { cls := 10, slots := #[.long (116)] },
  { cls := 10, slots := #[.long (117)] },
  { cls := 10, slots := #[.long (118)] },
  { cls := 10, slots := #[.long (119)] },
  { cls := 10, slots := #[.long (120)] },
  { cls := 10, slots := #[.long (121)] },
  { cls := 10, slots := #[.long (122)] },
  { cls := 10, slots := #[.long (123)] },
  { cls := 10, slots := #[.long (124)] },
  { cls := 10, slots := #[.long (125)] },
  { cls := 10, slots := #[.long (126)] },
  { cls := 10, slots := #[.long (127)] }]
def classes : Array Class := #[k0, k1, k2, k3, k4, k5, k6, k7, k8, k9, k10, k11, k12, k13, k14, k15, k16, k17, k18]
def interned : List (Array UInt16 × Addr) := []
def slotsUsed : Nat := 515
def theMethod : MethodId := ⟨1, 1⟩
def args0 : Array Value := #[.int 1, .int 2, .int 3, .long 4, .long 5, .long 6]
def aboutOver (below : List Frame) : State where
  vm := { classes := classes, interned := interned.toArray }
  heap := heap
  slotsUsed := slotsUsed
  threads := #[{ frames := .invoking theMethod args0 :: below }]
def below0 : List Frame := [.native { method := ⟨0, 0⟩, args := #[] }]
def about1 : State := aboutOver below0
def p0 : Program := .bare "" "" ""
def e0 : Env := launch0.env 0 0 0
theorem w_frames : about1.frames = Frame.invoking theMethod args0 :: below0 := rfl
set_option maxRecDepth 65536 in
theorem w_args : argsFit about1.vm theMethod args0 = true := by decide +kernel
set_option maxRecDepth 65536 in
theorem w_heap : heapFits about1 = true := by decide +kernel
set_option maxRecDepth 65536 in
theorem w_runnable : about1.curStatus? = some .runnable := by decide +kernel
set_option maxRecDepth 65536 in
theorem w_alone : about1.alone = true := by decide +kernel
set_option maxRecDepth 65536 in
theorem w_named : about1.methodNamed? x = some theMethod := by decide +kernel
set_option maxRecDepth 65536 in
theorem w_hears : about1.hears theMethod below0 = true := by decide +kernel
set_option maxRecDepth 65536 in
theorem w_ripe : about1.ripe theMethod args0 below0 = true := by decide +kernel
theorem w_running : about1.status = .running := rfl
set_option maxRecDepth 65536 in
theorem w_room : about1.hasRoom e0.platform room_1 = true :=
  launch0.hasRoom_least _ room_1 (by decide +kernel) (by decide +kernel) (by decide +kernel) (by decide +kernel) (by decide +kernel) (by decide +kernel)
theorem allAtoms_all (ts : List Jvm.Cond) (a : Array Jvm.Value) (st : Jvm.State) : (allAtoms ts).before a st = ts.all (fun c => c.before a st) := by
  induction ts with
  | nil => rfl
  | cons c t ih =>
    show (Jvm.Cond.and c (allAtoms t)).before a st = _
    rw [Jvm.Cond.before_and, ih, List.all_cons]
def words1 : List Jvm.Cond := Jvm.Cond.code x code maxLocals ret :: tables_1
/-- a 'code' word, met by the world's own term for the bytes: nothing is compared byte by byte -/
theorem code_word {y : MethodName} {bytes : ByteArray} {mx : Nat} {rt : Option FieldType} {a : Array Value} {s : State} {m : MethodId} {meth : Method} {c : Code} (h1 : s.methodNamed? y = some m) (h2 : s.vm.method? m = some meth) (h3 : meth.code = some c) (h4 : c.code = bytes)
    (h5 : (c.maxLocals == mx && c.exceptionTable.isEmpty && decide (c.maxStack ≤ mostOperands) && decide (meth.sig.returnType = rt) && !meth.locks && decide (parseMethodDescriptor y.desc = some meth.sig)) = true) : (Jvm.Cond.code y bytes mx rt).before a s = true := by
  simp only [Bool.and_eq_true, beq_iff_eq, Bool.not_eq_true', decide_eq_true_eq] at h5
  obtain ⟨⟨⟨⟨⟨g1, g2⟩, g3⟩, g4⟩, g5⟩, g6⟩ := h5
  simp [Cond.before, Cond.holds, Cond.value, h1, h2, h3, h4, g1, g2, g3, g4, g5, g6]
def isCode : Jvm.Cond → Bool
  | .code _ _ _ _ => true
  | _ => false
theorem all_split {L : List Jvm.Cond} {P : Jvm.Cond → Bool} (h1 : L.all (fun c => isCode c || P c) = true) (h2 : ∀ c ∈ L.filter isCode, P c = true) : L.all P = true := by
  refine List.all_eq_true.mpr fun c hc => ?_
  have h := List.all_eq_true.mp h1 c hc
  rcases Bool.eq_false_or_eq_true (isCode c) with hi | hi
  · exact h2 c (List.mem_filter.mpr ⟨hc, hi⟩)
  · simpa [hi] using h
set_option maxRecDepth 65536 in
theorem w_c0 : (Jvm.Cond.code x code maxLocals ret).before args0 about1 = true := code_word (m := ⟨1, 1⟩) (meth := k1m1) (c := k1c1) (by decide +kernel) rfl rfl rfl (by decide +kernel)
set_option maxRecDepth 65536 in
theorem w_c1 : (Jvm.Cond.code ({ cls := "com/example/eskew/eskew/server/split/CounterValues", name := "<init>", desc := "(IJJ)V" } : Jvm.MethodName) prog_33_method_1_code (7 : Nat) (Option.none : Option Jvm.ClassFile.FieldType)).before args0 about1 = true := code_word (m := ⟨2, 0⟩) (meth := k2m0) (c := k2c0) (by decide +kernel) rfl rfl rfl (by decide +kernel)
set_option maxRecDepth 65536 in
theorem w_c2 : (Jvm.Cond.code ({ cls := "java/lang/Object", name := "<init>", desc := "()V" } : Jvm.MethodName) object_method_1_code (1 : Nat) (Option.none : Option Jvm.ClassFile.FieldType)).before args0 about1 = true := code_word (m := ⟨0, 0⟩) (meth := k0m0) (c := k0c0) (by decide +kernel) rfl rfl rfl (by decide +kernel)
set_option maxRecDepth 65536 in
theorem w_c3 : (Jvm.Cond.code ({ cls := "com/example/eskew/eskew/server/split/CounterValues$WideSum", name := "<init>", desc := "()V" } : Jvm.MethodName) prog_36_method_1_code (1 : Nat) (Option.none : Option Jvm.ClassFile.FieldType)).before args0 about1 = true := code_word (m := ⟨3, 0⟩) (meth := k3m0) (c := k3c0) (by decide +kernel) rfl rfl rfl (by decide +kernel)
set_option maxRecDepth 65536 in
theorem w_c4 : (Jvm.Cond.code ({ cls := "com/example/eskew/eskew/server/split/CounterValues$Tally", name := "<init>", desc := "(J)V" } : Jvm.MethodName) prog_35_method_1_code (3 : Nat) (Option.none : Option Jvm.ClassFile.FieldType)).before args0 about1 = true := code_word (m := ⟨4, 0⟩) (meth := k4m0) (c := k4c0) (by decide +kernel) rfl rfl rfl (by decide +kernel)
set_option maxRecDepth 65536 in
theorem w_c5 : (Jvm.Cond.code ({ cls := "com/example/eskew/eskew/server/split/CounterValues", name := "writing", desc := "(I)J" } : Jvm.MethodName) prog_33_method_2_code (3 : Nat) (Option.some Jvm.ClassFile.FieldType.long)).before args0 about1 = true := code_word (m := ⟨2, 1⟩) (meth := k2m1) (c := k2c1) (by decide +kernel) rfl rfl rfl (by decide +kernel)
set_option maxRecDepth 65536 in
theorem w_c6 : (Jvm.Cond.code ({ cls := "com/example/eskew/eskew/server/split/CounterValues", name := "wrote", desc := "(IJJJ)V" } : Jvm.MethodName) prog_33_method_8_code (9 : Nat) (Option.none : Option Jvm.ClassFile.FieldType)).before args0 about1 = true := code_word (m := ⟨2, 3⟩) (meth := k2m3) (c := k2c3) (by decide +kernel) rfl rfl rfl (by decide +kernel)
set_option maxRecDepth 65536 in
theorem w_c7 : (Jvm.Cond.code ({ cls := "com/example/eskew/eskew/server/split/CounterValues", name := "takeBack", desc := "(I)Lcom/example/eskew/eskew/server/split/CounterValues$Tally;" } : Jvm.MethodName) prog_33_method_20_code (3 : Nat) (Option.some (Jvm.ClassFile.FieldType.object "com/example/eskew/eskew/server/split/CounterValues$Tally"))).before args0 about1 = true := code_word (m := ⟨2, 7⟩) (meth := k2m7) (c := k2c7) (by decide +kernel) rfl rfl rfl (by decide +kernel)
set_option maxRecDepth 65536 in
theorem w_c8 : (Jvm.Cond.code ({ cls := "com/example/eskew/eskew/server/split/CounterValues", name := "alone", desc := "(Lcom/example/eskew/eskew/server/split/CounterValues$Tally;J)Z" } : Jvm.MethodName) prog_33_method_21_code (3 : Nat) (Option.some Jvm.ClassFile.FieldType.boolean)).before args0 about1 = true := code_word (m := ⟨2, 8⟩) (meth := k2m8) (c := k2c8) (by decide +kernel) rfl rfl rfl (by decide +kernel)
set_option maxRecDepth 65536 in
theorem w_c9 : (Jvm.Cond.code ({ cls := "com/example/eskew/eskew/server/split/CounterValues", name := "settle", desc := "(IJJ)V" } : Jvm.MethodName) prog_33_method_26_code (7 : Nat) (Option.none : Option Jvm.ClassFile.FieldType)).before args0 about1 = true := code_word (m := ⟨2, 10⟩) (meth := k2m10) (c := k2c10) (by decide +kernel) rfl rfl rfl (by decide +kernel)
set_option maxRecDepth 65536 in
theorem w_c10 : (Jvm.Cond.code ({ cls := "com/example/eskew/eskew/server/split/CounterValues", name := "reading", desc := "(I)J" } : Jvm.MethodName) prog_33_method_6_code (3 : Nat) (Option.some Jvm.ClassFile.FieldType.long)).before args0 about1 = true := code_word (m := ⟨2, 2⟩) (meth := k2m2) (c := k2c2) (by decide +kernel) rfl rfl rfl (by decide +kernel)
set_option maxRecDepth 65536 in
theorem w_c11 : (Jvm.Cond.code ({ cls := "com/example/eskew/eskew/server/split/CounterValues", name := "total", desc := "()Ljava/lang/Long;" } : Jvm.MethodName) prog_33_method_16_code (1 : Nat) (Option.some (Jvm.ClassFile.FieldType.object "java/lang/Long"))).before args0 about1 = true := code_word (m := ⟨2, 5⟩) (meth := k2m5) (c := k2c5) (by decide +kernel) rfl rfl rfl (by decide +kernel)
set_option maxRecDepth 65536 in
theorem w_c12 : (Jvm.Cond.code ({ cls := "com/example/eskew/eskew/server/split/CounterValues", name := "wideTotal", desc := "()Lcom/example/eskew/eskew/server/split/CounterValues$WideSum;" } : Jvm.MethodName) prog_33_method_18_code (6 : Nat) (Option.some (Jvm.ClassFile.FieldType.object "com/example/eskew/eskew/server/split/CounterValues$WideSum"))).before args0 about1 = true := code_word (m := ⟨2, 6⟩) (meth := k2m6) (c := k2c6) (by decide +kernel) rfl rfl rfl (by decide +kernel)
set_option maxRecDepth 65536 in
theorem w_c13 : (Jvm.Cond.code ({ cls := "com/example/eskew/eskew/server/split/CounterValues$WideSum", name := "add", desc := "(J)Lcom/example/eskew/eskew/server/split/CounterValues$WideSum;" } : Jvm.MethodName) prog_36_method_2_code (5 : Nat) (Option.some (Jvm.ClassFile.FieldType.object "com/example/eskew/eskew/server/split/CounterValues$WideSum"))).before args0 about1 = true := code_word (m := ⟨3, 1⟩) (meth := k3m1) (c := k3c1) (by decide +kernel) rfl rfl rfl (by decide +kernel)
set_option maxRecDepth 65536 in
theorem w_c14 : (Jvm.Cond.code ({ cls := "com/example/eskew/eskew/server/split/CounterValues$WideSum", name := "value", desc := "()Ljava/lang/Long;" } : Jvm.MethodName) prog_36_method_5_code (1 : Nat) (Option.some (Jvm.ClassFile.FieldType.object "java/lang/Long"))).before args0 about1 = true := code_word (m := ⟨3, 2⟩) (meth := k3m2) (c := k3c2) (by decide +kernel) rfl rfl rfl (by decide +kernel)
set_option maxRecDepth 65536 in
theorem w_c15 : (Jvm.Cond.code ({ cls := "java/lang/Long", name := "valueOf", desc := "(J)Ljava/lang/Long;" } : Jvm.MethodName) jdk_35_method_24_code (3 : Nat) (Option.some (Jvm.ClassFile.FieldType.object "java/lang/Long"))).before args0 about1 = true := code_word (m := ⟨10, 0⟩) (meth := k10m0) (c := k10c0) (by decide +kernel) rfl rfl rfl (by decide +kernel)
set_option maxRecDepth 65536 in
theorem w_c16 : (Jvm.Cond.code ({ cls := "java/lang/Long", name := "<init>", desc := "(J)V" } : Jvm.MethodName) jdk_35_method_26_code (3 : Nat) (Option.none : Option Jvm.ClassFile.FieldType)).before args0 about1 = true := code_word (m := ⟨10, 1⟩) (meth := k10m1) (c := k10c1) (by decide +kernel) rfl rfl rfl (by decide +kernel)
set_option maxRecDepth 65536 in
theorem w_c17 : (Jvm.Cond.code ({ cls := "java/lang/Number", name := "<init>", desc := "()V" } : Jvm.MethodName) jdk_18_method_1_code (1 : Nat) (Option.none : Option Jvm.ClassFile.FieldType)).before args0 about1 = true := code_word (m := ⟨6, 0⟩) (meth := k6m0) (c := k6c0) (by decide +kernel) rfl rfl rfl (by decide +kernel)
set_option maxRecDepth 65536 in
theorem w_c18 : (Jvm.Cond.code ({ cls := "java/lang/Long", name := "longValue", desc := "()J" } : Jvm.MethodName) jdk_35_method_31_code (1 : Nat) (Option.some Jvm.ClassFile.FieldType.long)).before args0 about1 = true := code_word (m := ⟨10, 2⟩) (meth := k10m2) (c := k10c2) (by decide +kernel) rfl rfl rfl (by decide +kernel)
set_option maxRecDepth 65536 in
theorem w_c19 : (Jvm.Cond.code ({ cls := "com/example/eskew/eskew/server/split/CounterValues", name := "wanted", desc := "(IJ)Z" } : Jvm.MethodName) prog_33_method_13_code (5 : Nat) (Option.some Jvm.ClassFile.FieldType.boolean)).before args0 about1 = true := code_word (m := ⟨2, 4⟩) (meth := k2m4) (c := k2c4) (by decide +kernel) rfl rfl rfl (by decide +kernel)
set_option maxRecDepth 65536 in
theorem w_c20 : (Jvm.Cond.code ({ cls := "com/example/eskew/eskew/server/split/CounterValues", name := "due", desc := "(Lcom/example/eskew/eskew/server/split/CounterValues$Tally;J)Z" } : Jvm.MethodName) prog_33_method_22_code (4 : Nat) (Option.some Jvm.ClassFile.FieldType.boolean)).before args0 about1 = true := code_word (m := ⟨2, 9⟩) (meth := k2m9) (c := k2c9) (by decide +kernel) rfl rfl rfl (by decide +kernel)
set_option maxRecDepth 65536 in
theorem w_c21 : (Jvm.Cond.code ({ cls := "com/example/eskew/eskew/server/split/CounterValues", name := "unsettle", desc := "(Lcom/example/eskew/eskew/server/split/CounterValues$Tally;)V" } : Jvm.MethodName) prog_33_method_27_code (1 : Nat) (Option.none : Option Jvm.ClassFile.FieldType)).before args0 about1 = true := code_word (m := ⟨2, 11⟩) (meth := k2m11) (c := k2c11) (by decide +kernel) rfl rfl rfl (by decide +kernel)
def codes1 : List Jvm.Cond := [Jvm.Cond.code x code maxLocals ret, Jvm.Cond.code ({ cls := "com/example/eskew/eskew/server/split/CounterValues", name := "<init>", desc := "(IJJ)V" } : Jvm.MethodName) prog_33_method_1_code (7 : Nat) (Option.none : Option Jvm.ClassFile.FieldType), Jvm.Cond.code ({ cls := "java/lang/Object", name := "<init>", desc := "()V" } : Jvm.MethodName) object_method_1_code (1 : Nat) (Option.none : Option Jvm.ClassFile.FieldType), Jvm.Cond.code ({ cls := "com/example/eskew/eskew/server/split/CounterValues$WideSum", name := "<init>", desc := "()V" } : Jvm.MethodName) prog_36_method_1_code (1 : Nat) (Option.none : Option Jvm.ClassFile.FieldType), Jvm.Cond.code ({ cls := "com/example/eskew/eskew/server/split/CounterValues$Tally", name := "<init>", desc := "(J)V" } : Jvm.MethodName) prog_35_method_1_code (3 : Nat) (Option.none : Option Jvm.ClassFile.FieldType), Jvm.Cond.code ({ cls := "com/example/eskew/eskew/server/split/CounterValues", name := "writing", desc := "(I)J" } : Jvm.MethodName) prog_33_method_2_code (3 : Nat) (Option.some Jvm.ClassFile.FieldType.long), Jvm.Cond.code ({ cls := "com/example/eskew/eskew/server/split/CounterValues", name := "wrote", desc := "(IJJJ)V" } : Jvm.MethodName) prog_33_method_8_code (9 : Nat) (Option.none : Option Jvm.ClassFile.FieldType), Jvm.Cond.code ({ cls := "com/example/eskew/eskew/server/split/CounterValues", name := "takeBack", desc := "(I)Lcom/example/eskew/eskew/server/split/CounterValues$Tally;" } : Jvm.MethodName) prog_33_method_20_code (3 : Nat) (Option.some (Jvm.ClassFile.FieldType.object "com/example/eskew/eskew/server/split/CounterValues$Tally")), Jvm.Cond.code ({ cls := "com/example/eskew/eskew/server/split/CounterValues", name := "alone", desc := "(Lcom/example/eskew/eskew/server/split/CounterValues$Tally;J)Z" } : Jvm.MethodName) prog_33_method_21_code (3 : Nat) (Option.some Jvm.ClassFile.FieldType.boolean), Jvm.Cond.code ({ cls := "com/example/eskew/eskew/server/split/CounterValues", name := "settle", desc := "(IJJ)V" } : Jvm.MethodName) prog_33_method_26_code (7 : Nat) (Option.none : Option Jvm.ClassFile.FieldType), Jvm.Cond.code ({ cls := "com/example/eskew/eskew/server/split/CounterValues", name := "reading", desc := "(I)J" } : Jvm.MethodName) prog_33_method_6_code (3 : Nat) (Option.some Jvm.ClassFile.FieldType.long), Jvm.Cond.code ({ cls := "com/example/eskew/eskew/server/split/CounterValues", name := "total", desc := "()Ljava/lang/Long;" } : Jvm.MethodName) prog_33_method_16_code (1 : Nat) (Option.some (Jvm.ClassFile.FieldType.object "java/lang/Long")), Jvm.Cond.code ({ cls := "com/example/eskew/eskew/server/split/CounterValues", name := "wideTotal", desc := "()Lcom/example/eskew/eskew/server/split/CounterValues$WideSum;" } : Jvm.MethodName) prog_33_method_18_code (6 : Nat) (Option.some (Jvm.ClassFile.FieldType.object "com/example/eskew/eskew/server/split/CounterValues$WideSum")), Jvm.Cond.code ({ cls := "com/example/eskew/eskew/server/split/CounterValues$WideSum", name := "add", desc := "(J)Lcom/example/eskew/eskew/server/split/CounterValues$WideSum;" } : Jvm.MethodName) prog_36_method_2_code (5 : Nat) (Option.some (Jvm.ClassFile.FieldType.object "com/example/eskew/eskew/server/split/CounterValues$WideSum")), Jvm.Cond.code ({ cls := "com/example/eskew/eskew/server/split/CounterValues$WideSum", name := "value", desc := "()Ljava/lang/Long;" } : Jvm.MethodName) prog_36_method_5_code (1 : Nat) (Option.some (Jvm.ClassFile.FieldType.object "java/lang/Long")), Jvm.Cond.code ({ cls := "java/lang/Long", name := "valueOf", desc := "(J)Ljava/lang/Long;" } : Jvm.MethodName) jdk_35_method_24_code (3 : Nat) (Option.some (Jvm.ClassFile.FieldType.object "java/lang/Long")), Jvm.Cond.code ({ cls := "java/lang/Long", name := "<init>", desc := "(J)V" } : Jvm.MethodName) jdk_35_method_26_code (3 : Nat) (Option.none : Option Jvm.ClassFile.FieldType), Jvm.Cond.code ({ cls := "java/lang/Number", name := "<init>", desc := "()V" } : Jvm.MethodName) jdk_18_method_1_code (1 : Nat) (Option.none : Option Jvm.ClassFile.FieldType), Jvm.Cond.code ({ cls := "java/lang/Long", name := "longValue", desc := "()J" } : Jvm.MethodName) jdk_35_method_31_code (1 : Nat) (Option.some Jvm.ClassFile.FieldType.long), Jvm.Cond.code ({ cls := "com/example/eskew/eskew/server/split/CounterValues", name := "wanted", desc := "(IJ)Z" } : Jvm.MethodName) prog_33_method_13_code (5 : Nat) (Option.some Jvm.ClassFile.FieldType.boolean), Jvm.Cond.code ({ cls := "com/example/eskew/eskew/server/split/CounterValues", name := "due", desc := "(Lcom/example/eskew/eskew/server/split/CounterValues$Tally;J)Z" } : Jvm.MethodName) prog_33_method_22_code (4 : Nat) (Option.some Jvm.ClassFile.FieldType.boolean), Jvm.Cond.code ({ cls := "com/example/eskew/eskew/server/split/CounterValues", name := "unsettle", desc := "(Lcom/example/eskew/eskew/server/split/CounterValues$Tally;)V" } : Jvm.MethodName) prog_33_method_27_code (1 : Nat) (Option.none : Option Jvm.ClassFile.FieldType)]
set_option maxRecDepth 65536 in
theorem codes_eq : words1.filter isCode = codes1 := rfl
theorem w_codes : ∀ c ∈ words1.filter isCode, c.before args0 about1 = true := by
  rw [codes_eq]
  intro c hc
  simp only [codes1, List.mem_cons, List.not_mem_nil, or_false] at hc
  rcases hc with rfl | rfl | rfl | rfl | rfl | rfl | rfl | rfl | rfl | rfl | rfl | rfl | rfl | rfl | rfl | rfl | rfl | rfl | rfl | rfl | rfl | rfl
  · exact w_c0
  · exact w_c1
  · exact w_c2
  · exact w_c3
  · exact w_c4
  · exact w_c5
  · exact w_c6
  · exact w_c7
  · exact w_c8
  · exact w_c9
  · exact w_c10
  · exact w_c11
  · exact w_c12
  · exact w_c13
  · exact w_c14
  · exact w_c15
  · exact w_c16
  · exact w_c17
  · exact w_c18
  · exact w_c19
  · exact w_c20
  · exact w_c21
set_option maxRecDepth 65536 in
theorem w_t1 : (words1.take 24).all (fun c => isCode c || c.before args0 about1) = true := by decide +kernel
set_option maxRecDepth 65536 in
theorem w_t2 : ((words1.drop 24).take 24).all (fun c => isCode c || c.before args0 about1) = true := by decide +kernel
set_option maxRecDepth 65536 in
theorem w_t3 : (((words1.drop 24).drop 24).take 24).all (fun c => isCode c || c.before args0 about1) = true := by decide +kernel
set_option maxRecDepth 65536 in
theorem w_t4 : ((((words1.drop 24).drop 24).drop 24).take 24).all (fun c => isCode c || c.before args0 about1) = true := by decide +kernel
set_option maxRecDepth 65536 in
theorem w_t5 : (((((words1.drop 24).drop 24).drop 24).drop 24).take 24).all (fun c => isCode c || c.before args0 about1) = true := by decide +kernel
set_option maxRecDepth 65536 in
theorem w_t6 : ((((((words1.drop 24).drop 24).drop 24).drop 24).drop 24).take 24).all (fun c => isCode c || c.before args0 about1) = true := by decide +kernel
set_option maxRecDepth 65536 in
theorem w_t7 : ((((((words1.drop 24).drop 24).drop 24).drop 24).drop 24).drop 24).all (fun c => isCode c || c.before args0 about1) = true := by decide +kernel
theorem w_tables : (allAtoms (Jvm.Cond.code x code maxLocals ret :: tables_1)).before args0 about1 = true := by
  rw [allAtoms_all]
  show words1.all (fun c => c.before args0 about1) = true
  refine all_split ?_ w_codes
  rw [← List.take_append_drop 24 words1, List.all_append, w_t1, ← List.take_append_drop 24 (words1.drop 24), List.all_append, w_t2, ← List.take_append_drop 24 ((words1.drop 24).drop 24), List.all_append, w_t3, ← List.take_append_drop 24 (((words1.drop 24).drop 24).drop 24), List.all_append, w_t4, ← List.take_append_drop 24 ((((words1.drop 24).drop 24).drop 24).drop 24), List.all_append, w_t5, ← List.take_append_drop 24 (((((words1.drop 24).drop 24).drop 24).drop 24).drop 24), List.all_append, w_t6, w_t7]
  rfl
set_option maxRecDepth 65536 in
theorem w_rest : rest_1_c.before args0 about1 = true := by decide +kernel
set_option maxRecDepth 65536 in
theorem w_case : (Jvm.Cond.and given_1 narrow_1).before args0 about1 = true := by decide +kernel
theorem w_applies : (headSpec (Jvm.Cond.code x code maxLocals ret :: tables_1) room_1).applies x e0.platform about1 = true :=
  (Spec.applies_iff w_frames).mpr ⟨w_running, w_runnable, w_alone, w_named, w_hears, w_ripe, w_room, w_tables⟩
theorem atStart : AtStart classFile x code maxLocals ret World_1 tables_1 room_1 Calls_1 rest_1 Pre_1 launch0 p0 e0 about1 theMethod args0 below0 :=
  ⟨lists_1, trivial, launch0.admits_env _ _ _, launch0.least_env, fairChoices_fair.cas, fairChoices_fair.clock, w_frames, w_args, w_heap, w_applies, trivial, w_rest, w_case⟩
end start1
theorem witness_1 : WitnessClaimed_1 := ⟨start1.p0, start1.e0, start1.about1, start1.theMethod, start1.args0, start1.below0, start1.atStart⟩
end Jvm.Pilot.@@N@@
