import JvmDerived
import JvmDerived.Pilot.@@N@@Statement
import JvmDerived.Pilot.@@N@@Code
set_option linter.unusedVariables false
set_option linter.unusedSimpArgs false
namespace Jvm.Pilot.@@N@@
open Jvm Jvm.ClassFile Sem Op Lib Jvm.Free Jvm.Stand Jvm.LawKit Jvm.RoadKit Bundle Jvm.Pilot.@@N@@.Jvm.D
section OwnKit
variable {p : Program} {l : Launch} {e : Env} {R : Room} {s : State} {m : MethodId} {args : Array Value} {below : List Frame} {meth : Method} {c : Code} {T T' : State} {locs : List Loc} {cells slots : Nat} {Z : State} {a0 : Array Value} {h : Heap}
/-- from here the run comes to an end of which E speaks -/
def own_Go (p : Program) (e : Env) (below : List Frame) (E : State → Outcome → Prop) (T : State) (g : JFrame) : Prop :=
  ∃ t o, Steps p.tables e below (T.setTop g) t ∧ t.status = .running ∧ Ended t below o ∧ E t o
def own_End (s : State) (k n : Nat) (Q : Option Value → Heap → List Loc → Prop) (t : State) (o : Outcome) : Prop :=
  ∃ v L, o = .returned v ∧ Q v t.heap L ∧ FrameEnd s o t L k n
theorem own_by {E : State → Outcome → Prop} {g g' : JFrame} (st : ∀ target, Steps p.tables e below (T'.setTop g') target → Steps p.tables e below (T.setTop g) target) (k : own_Go p e below E T' g') : own_Go p e below E T g := by
  obtain ⟨t, o, h1, r⟩ := k
  exact ⟨t, o, st t h1, r⟩
theorem own_retW (X : Stand p l e R s m args below meth c T locs cells slots) (hx : p.tables.exec = Jvm.exec) (hlk : meth.locks = false) {pc : Nat} {Ls : Array Slot} {w : Value} {t : FieldType} {i : Instr} {rest : List Value} (hret : meth.sig.returnType = some t) (hn : narrow t w = w)
    (hi : (i = .ireturn ∧ (t = .int ∨ t = .boolean ∨ t = .byte ∨ t = .char ∨ t = .short) ∧ ∃ z, w = .int z) ∨ (i = .lreturn ∧ t = .long ∧ ∃ z, w = .long z) ∨ (i = .dreturn ∧ t = .double ∧ ∃ z, w = .double z) ∨ (i = .freturn ∧ t = .float ∧ ∃ z, w = .float z) ∨ (i = .areturn ∧ t.isReference = true ∧ w.isRef = true))
    (hd : decode c.code pc = .ok (i, 1)) {Q : Option Value → Heap → List Loc → Prop} {k n : Nat} (hQ : Q (some w) T.heap locs) (hk : cells ≤ k) (hs : slots ≤ n) : own_Go p e below (own_End s k n Q) T (mkF m pc Ls (w :: rest)) := by
  obtain ⟨fs, hr, hrun, hended, hW, hsame⟩ := X.leave (v := some w) (fun h => by rw [hret] at h; cases h) hlk
  exact ⟨_, _, retOut X hx hret hn hi hd hr, hrun, hended, _, _, rfl, hQ, ⟨_, rfl⟩, hW, hsame.mono hk hs⟩
theorem own_retI (X : Stand p l e R s m args below meth c T locs cells slots) (hx : p.tables.exec = Jvm.exec) (hlk : meth.locks = false) {pc : Nat} {Ls : Array Slot} {z : Int32} {rest : List Value} (hret : meth.sig.returnType = some .int) (hd : decode c.code pc = .ok (.ireturn, 1)) {Q : Option Value → Heap → List Loc → Prop} {k n : Nat} (hQ : Q (some (.int z)) T.heap locs) (hk : cells ≤ k) (hs : slots ≤ n) : own_Go p e below (own_End s k n Q) T (mkF m pc Ls (.int z :: rest)) :=
  own_retW X hx hlk hret rfl (Or.inl ⟨rfl, Or.inl rfl, z, rfl⟩) hd hQ hk hs
theorem own_retJ (X : Stand p l e R s m args below meth c T locs cells slots) (hx : p.tables.exec = Jvm.exec) (hlk : meth.locks = false) {pc : Nat} {Ls : Array Slot} {z : Int64} {rest : List Value} (hret : meth.sig.returnType = some .long) (hd : decode c.code pc = .ok (.lreturn, 1)) {Q : Option Value → Heap → List Loc → Prop} {k n : Nat} (hQ : Q (some (.long z)) T.heap locs) (hk : cells ≤ k) (hs : slots ≤ n) : own_Go p e below (own_End s k n Q) T (mkF m pc Ls (.long z :: rest)) :=
  own_retW X hx hlk hret rfl (Or.inr (Or.inl ⟨rfl, rfl, z, rfl⟩)) hd hQ hk hs
theorem own_retA (X : Stand p l e R s m args below meth c T locs cells slots) (hx : p.tables.exec = Jvm.exec) (hlk : meth.locks = false) {pc : Nat} {Ls : Array Slot} {w : Value} {t : FieldType} {rest : List Value} (hret : meth.sig.returnType = some t) (ht : t.isReference = true) (hw : w.isRef = true) (hd : decode c.code pc = .ok (.areturn, 1)) {Q : Option Value → Heap → List Loc → Prop} {k n : Nat} (hQ : Q (some w) T.heap locs) (hk : cells ≤ k) (hs : slots ≤ n) : own_Go p e below (own_End s k n Q) T (mkF m pc Ls (w :: rest)) :=
  own_retW X hx hlk hret (by cases t <;> first | (cases ht; done) | (cases w <;> first | rfl | (cases hw; done))) (Or.inr (Or.inr (Or.inr (Or.inr ⟨rfl, ht, hw⟩)))) hd hQ hk hs
theorem own_retN (X : Stand p l e R s m args below meth c T locs cells slots) (hx : p.tables.exec = Jvm.exec) (hlk : meth.locks = false) {pc : Nat} {Ls : Array Slot} {z : Int32} {t : FieldType} {rest : List Value} (hret : meth.sig.returnType = some t) (ht : t = .boolean ∨ t = .byte ∨ t = .char ∨ t = .short) (hn : nar t z = z) (hd : decode c.code pc = .ok (.ireturn, 1)) {Q : Option Value → Heap → List Loc → Prop} {k n : Nat} (hQ : Q (some (.int z)) T.heap locs) (hk : cells ≤ k) (hs : slots ≤ n) : own_Go p e below (own_End s k n Q) T (mkF m pc Ls (.int z :: rest)) :=
  own_retW X hx hlk hret (by rcases ht with rfl | rfl | rfl | rfl <;> exact congrArg Value.int hn) (Or.inl ⟨rfl, Or.inr ht, z, rfl⟩) hd hQ hk hs
theorem own_ret0 (X : Stand p l e R s m args below meth c T locs cells slots) (hx : p.tables.exec = Jvm.exec) (hlk : meth.locks = false) {pc : Nat} {Ls : Array Slot} (hret : meth.sig.returnType = none) (hd : decode c.code pc = .ok (.return_, 1)) {Q : Option Value → Heap → List Loc → Prop} {k n : Nat} (hQ : Q none T.heap locs) (hk : cells ≤ k) (hs : slots ≤ n) : own_Go p e below (own_End s k n Q) T (mkF m pc Ls []) := by
  obtain ⟨fs, hr, hrun, hended, hW, hsame⟩ := X.leave (v := none) (fun _ => rfl) hlk
  exact ⟨_, _, X.returnOut hx hret hd hr, hrun, hended, _, _, rfl, hQ, ⟨_, rfl⟩, hW, hsame.mono hk hs⟩
theorem own_lrem {g : JFrame} {target : State} (X : Stand p l e R s m args below meth c T locs cells slots) (hx : p.tables.exec = Jvm.exec) (hg : g.method = m) {x y : Int64} {rest : List Value} (hd : decode c.code g.pc = .ok (.lrem, 1)) (hs : g.stack = .long y :: .long x :: rest) (hy : y ≠ 0)
    (hr : Steps p.tables e below (T.setTop { g with pc := g.pc + 1, stack := .long (x % y) :: rest }) target) : Steps p.tables e below (T.setTop g) target :=
  XS.lrem X.here hx hg hd hs hy (by rw [lrem_mod]; exact hr)
/-- a body's contract: called with as' at the heap h it returns, and Q speaks of what it returns, the heap that it leaves and the places that it wrote -/
abbrev own_Met (l : Launch) (Z : State) (y : MethodName) (bytes : ByteArray) (maxL : Nat) (rt : Option FieldType) (ws : List Jvm.Cond) (rm : Room) (as' : Array Value) (h : Heap) (Q : Option Value → Heap → List Loc → Prop) : Prop :=
  MetFree l y (head1 (Jvm.Cond.code y bytes maxL rt :: ws) rm) (fun a U => a = as' ∧ Z.Warmed39 U.vm ∧ U.heap = h) (fun _ _ _ _ _ => True) (fun _ U o U' => ∃ v L, o = .returned v ∧ Q v U'.heap L ∧ FrameEnd U o U' L rm.cells rm.slots)
theorem own_enter {y : MethodName} {bytes : ByteArray} {maxL : Nat} {rt : Option FieldType} {ws : List Jvm.Cond} {rm : Room} {as' : Array Value} {Q : Option Value → Heap → List Loc → Prop} (hy : plainFor y = true) {g0 : MethodId → JFrame} (hg0 : ∀ m, entryFrame m as' maxL = g0 m)
    (body : ∀ (p : Program) (e : Env) (s : State) (m : MethodId) (below : List Frame) (meth : Method) (c : Code) (s₁ : State), p.tables.exec = Jvm.exec → c.code = bytes → c.maxLocals = maxL → s.vm.findClass y.cls = some m.cls → meth.name = y.name → meth.sig.returnType = rt → meth.locks = false → Z.Warmed39 s.vm → Stand p l e rm s m as' below meth c s₁ [] 0 0 → s₁.heap = h → own_Go p e below (own_End s rm.cells rm.slots Q) s₁ (g0 m)) :
    own_Met l Z y bytes maxL rt ws rm as' h Q := by
  refine MetFree.of_bodySF hy hisR ?_
  intro p e s m args below meth c s₁ Bd hml0 hP hK
  obtain ⟨rfl, hZ, hh⟩ := hP
  obtain ⟨t, o, h1, h2, h3, h4⟩ := body p e s m below meth c s₁ Bd.exec Bd.bytes hml0 (findClass_of_methodNamed Bd.named) (name_of_methodNamed Bd.named Bd.method).1 Bd.returns (BodyLoose.notSynchronized Bd) hZ (Stand.of_body Bd) (by rw [← hh, Bd.state]; rfl)
  exact ⟨t, o, castTop (hg0 m) h1, h2, h3, h4⟩
theorem own_callS (X : Stand p l e R s m args below meth c T locs cells slots) (hx : p.tables.exec = Jvm.exec) (hZ : Z.Warmed39 s.vm) {own : String} (hown : s.vm.findClass own = some m.cls) {index : Nat} {y : MethodName} {bytes : ByteArray} {maxL : Nat} {rt : Option FieldType}
    (w1 : (Jvm.Cond.methodLink own index y).before a0 Z = true) (w2 : (Jvm.Cond.static y).before a0 Z = true) (w3 : (Jvm.Cond.initialized y.cls).before a0 Z = true) (w4 : (Jvm.Cond.code y bytes maxL rt).before a0 Z = true)
    (hy : y.cls ≠ "java/lang/invoke/MethodHandle" ∧ y.cls ≠ "java/lang/invoke/VarHandle") {rm : Room} {argsL rest : List Value} {Q : Option Value → Heap → List Loc → Prop} (eT : T.heap = h) (hM : own_Met l Z y bytes maxL rt [] rm argsL.toArray h Q)
    {g : JFrame} (hg : g.method = m) (hsize : g.locals.size = c.maxLocals) (hlen : ∀ sig, parseMethodDescriptor y.desc = some sig → argsL.length = sig.parameters.length) (hstack : g.stack = argsL.reverse ++ rest) {W : Nat} (hW : 2 * g.monitorRoom + (rest.map fun v => v.category).sum ≤ W) (hd : decode c.code g.pc = .ok (.invokestatic index, 3))
    (hf : rm.frames + 1 ≤ R.frames) (hl : W + (maxL + 11) + rm.locals ≤ R.locals) (hc : cells + rm.cells ≤ R.cells) (hs : slots + rm.slots ≤ R.slots) :
    ∃ v T' L, Stand p l e R s m args below meth c T' (locs ++ L) (cells + rm.cells) (slots + rm.slots) ∧ Q v T'.heap L ∧ ∀ target, Steps p.tables e below (T'.setTop { g with pc := g.pc + 3, stack := v.toList ++ rest }) target → Steps p.tables e below (T.setTop g) target := by
  obtain ⟨v, _, ⟨T1, L1, k1, n1⟩, -, X1, ⟨Lc, hQ, l1, y1, z1⟩, st⟩ := Jvm.LawKit.callS X hx (y := y) hown (mvT hZ w1) (mvT hZ w2) (mvT hZ w3) (mvT hZ w4) hy (backOf (W := W) hM hZ w4 w3 hf hl) (g := g) hg hsize (argsL := argsL) (rest := rest) hlen hstack hW hd (fun _ _ => ⟨rfl, eT, hc, hs⟩)
  dsimp only [Pt.U, Pt.locs, Pt.cells, Pt.slots] at X1 l1 y1 z1 st hQ
  subst l1 y1 z1
  exact ⟨v, T1, Lc, X1, hQ, st⟩
theorem own_callI (X : Stand p l e R s m args below meth c T locs cells slots) (hx : p.tables.exec = Jvm.exec) (hZ : Z.Warmed39 s.vm) {own : String} (hown : s.vm.findClass own = some m.cls) {index : Nat} {y : MethodName} {bytes : ByteArray} {maxL : Nat} (hy1 : y.name = "<init>")
    (w1 : (Jvm.Cond.methodLink own index y).before a0 Z = true) (w2 : (Jvm.Cond.instanceMethod y).before a0 Z = true) (w3 : (Jvm.Cond.initialized y.cls).before a0 Z = true) (w4 : (Jvm.Cond.code y bytes maxL none).before a0 Z = true)
    (hy : y.cls ≠ "java/lang/invoke/MethodHandle" ∧ y.cls ≠ "java/lang/invoke/VarHandle") {rm : Room} {a : Addr} {argsL rest : List Value} {Q : Option Value → Heap → List Loc → Prop} (eT : T.heap = h) (hM : own_Met l Z y bytes maxL none [] rm (.ref a :: argsL).toArray h Q)
    {g : JFrame} (hg : g.method = m) (hsize : g.locals.size = c.maxLocals) (hlen : ∀ sig, parseMethodDescriptor y.desc = some sig → argsL.length = sig.parameters.length) (hstack : g.stack = argsL.reverse ++ .ref a :: rest) {W : Nat} (hW : 2 * g.monitorRoom + (rest.map fun v => v.category).sum ≤ W) (hd : decode c.code g.pc = .ok (.invokespecial index, 3))
    (hf : rm.frames + 1 ≤ R.frames) (hl : W + (maxL + 11) + rm.locals ≤ R.locals) (hc : cells + rm.cells ≤ R.cells) (hs : slots + rm.slots ≤ R.slots) :
    ∃ v T' L, Stand p l e R s m args below meth c T' (locs ++ L) (cells + rm.cells) (slots + rm.slots) ∧ Q v T'.heap L ∧ ∀ target, Steps p.tables e below (T'.setTop { g with pc := g.pc + 3, stack := v.toList ++ rest }) target → Steps p.tables e below (T.setTop g) target := by
  obtain ⟨v, _, ⟨T1, L1, k1, n1⟩, -, X1, ⟨Lc, hQ, l1, y1, z1⟩, st⟩ := X.specialBack hx (y := y) hy1 hown (mvT hZ w1) (mvT hZ w2) (mvT hZ w4) hy (backOf (W := W) hM hZ w4 w3 hf hl) (g := g) hg hsize (Steps.refl _) (a := a) (argsL := argsL) (rest := rest) hlen hstack hW hd (fun _ _ => ⟨rfl, eT, hc, hs⟩)
  dsimp only [Pt.U, Pt.locs, Pt.cells, Pt.slots] at X1 l1 y1 z1 st hQ
  subst l1 y1 z1
  exact ⟨v, T1, Lc, X1, hQ, fun _ k => st.trans k⟩
theorem own_callV (X : Stand p l e R s m args below meth c T locs cells slots) (hx : p.tables.exec = Jvm.exec) (hZ : Z.Warmed39 s.vm) {own C : String} (hown : s.vm.findClass own = some m.cls) {index : Nat} {y : MethodName} {bytes : ByteArray} {maxL : Nat} {rt : Option FieldType}
    (w1 : (Jvm.Cond.methodLink own index y).before a0 Z = true) (w2 : (Jvm.Cond.declares y).before a0 Z = true) (w5 : (Jvm.Cond.selects C y y).before a0 Z = true) (w6 : (Jvm.Cond.instanceMethod y).before a0 Z = true) (w3 : (Jvm.Cond.initialized y.cls).before a0 Z = true) (w4 : (Jvm.Cond.code y bytes maxL rt).before a0 Z = true)
    (hy : y.cls ≠ "java/lang/invoke/MethodHandle" ∧ y.cls ≠ "java/lang/invoke/VarHandle") {rm : Room} {a : Addr} {argsL rest : List Value} {Q : Option Value → Heap → List Loc → Prop} (hE : Exa Z h a C) (eT : T.heap = h) (hM : own_Met l Z y bytes maxL rt [] rm (.ref a :: argsL).toArray h Q)
    {g : JFrame} (hg : g.method = m) (hsize : g.locals.size = c.maxLocals) (hlen : ∀ sig, parseMethodDescriptor y.desc = some sig → argsL.length = sig.parameters.length) (hstack : g.stack = argsL.reverse ++ .ref a :: rest) {W : Nat} (hW : 2 * g.monitorRoom + (rest.map fun v => v.category).sum ≤ W) (hd : decode c.code g.pc = .ok (.invokevirtual index, 3))
    (hf : rm.frames + 1 ≤ R.frames) (hl : W + (maxL + 11) + rm.locals ≤ R.locals) (hc : cells + rm.cells ≤ R.cells) (hs : slots + rm.slots ≤ R.slots) (hC : C = y.cls := by rfl) :
    ∃ v T' L, Stand p l e R s m args below meth c T' (locs ++ L) (cells + rm.cells) (slots + rm.slots) ∧ Q v T'.heap L ∧ ∀ target, Steps p.tables e below (T'.setTop { g with pc := g.pc + 3, stack := v.toList ++ rest }) target → Steps p.tables e below (T.setTop g) target := by
  subst hC
  obtain ⟨_, _, qa, -, qc⟩ := isOf hZ eT hE
  obtain ⟨v, _, ⟨T1, L1, k1, n1⟩, -, X1, ⟨Lc, hQ, l1, y1, z1⟩, st⟩ := X.virtualBack hx (y := y) (z := y) hown (mvT hZ w1) (mvT hZ w2) (notFace_of_selects (args := #[]) (mvT hZ w5)) (mvT hZ w5) (mvT hZ w6) hy (backOf (W := W) hM hZ w4 w3 hf hl) qa qc (g := g) hg hsize (Steps.refl _) (argsL := argsL) (rest := rest) hlen hstack hW hd (fun _ _ => ⟨rfl, eT, hc, hs⟩)
  dsimp only [Pt.U, Pt.locs, Pt.cells, Pt.slots] at X1 l1 y1 z1 st hQ
  subst l1 y1 z1
  exact ⟨v, T1, Lc, X1, hQ, fun _ k => st.trans k⟩
theorem own_callU (X : Stand p l e R s m args below meth c T locs cells slots) (hx : p.tables.exec = Jvm.exec) (hZ : Z.Warmed39 s.vm) {own C owner : String} (hown : s.vm.findClass own = some m.cls) {index : Nat} {x y : MethodName} {bytes : ByteArray} {maxL : Nat} {rt : Option FieldType}
    (w1 : (Jvm.Cond.methodLink own index x).before a0 Z = true) (w7 : (Jvm.Cond.sameMethod x.cls owner x.name x.desc).before a0 Z = true) (w2 : (Jvm.Cond.declares ⟨owner, x.name, x.desc⟩).before a0 Z = true) (hy : owner ≠ "java/lang/invoke/MethodHandle" ∧ owner ≠ "java/lang/invoke/VarHandle") (w5 : (Jvm.Cond.selects C x y).before a0 Z = true) (w6 : (Jvm.Cond.instanceMethod y).before a0 Z = true) (w3 : (Jvm.Cond.initialized y.cls).before a0 Z = true) (w4 : (Jvm.Cond.code y bytes maxL rt).before a0 Z = true)
    {rm : Room} {a : Addr} {argsL rest : List Value} {Q : Option Value → Heap → List Loc → Prop} (hE : Exa Z h a C) (eT : T.heap = h) (hM : own_Met l Z y bytes maxL rt [] rm (.ref a :: argsL).toArray h Q)
    {g : JFrame} (hg : g.method = m) (hsize : g.locals.size = c.maxLocals) (hlen : ∀ sig, parseMethodDescriptor x.desc = some sig → argsL.length = sig.parameters.length) (hstack : g.stack = argsL.reverse ++ .ref a :: rest) {W : Nat} (hW : 2 * g.monitorRoom + (rest.map fun v => v.category).sum ≤ W) (hd : decode c.code g.pc = .ok (.invokevirtual index, 3))
    (hf : rm.frames + 1 ≤ R.frames) (hl : W + (maxL + 11) + rm.locals ≤ R.locals) (hc : cells + rm.cells ≤ R.cells) (hs : slots + rm.slots ≤ R.slots) :
    ∃ v T' L, Stand p l e R s m args below meth c T' (locs ++ L) (cells + rm.cells) (slots + rm.slots) ∧ Q v T'.heap L ∧ ∀ target, Steps p.tables e below (T'.setTop { g with pc := g.pc + 3, stack := v.toList ++ rest }) target → Steps p.tables e below (T.setTop g) target := by
  obtain ⟨_, _, qa, -, qc⟩ := isOf hZ eT hE
  obtain ⟨v, _, ⟨T1, L1, k1, n1⟩, -, X1, ⟨Lc, hQ, l1, y1, z1⟩, st⟩ := X.virtualBackUp hx (x := x) (y := y) hown (mvT hZ w1) (mvT hZ w7) (mvT hZ w2) hy (mvT hZ w5) (mvT hZ w6) (backOf (W := W) hM hZ w4 w3 hf hl) qa qc (g := g) hg hsize (Steps.refl _) (argsL := argsL) (rest := rest) hlen hstack hW hd (fun _ _ => ⟨rfl, eT, hc, hs⟩)
  dsimp only [Pt.U, Pt.locs, Pt.cells, Pt.slots] at X1 l1 y1 z1 st hQ
  subst l1 y1 z1
  exact ⟨v, T1, Lc, X1, hQ, fun _ k => st.trans k⟩
theorem own_arv {a : Addr} {k : ClassId} {ty : FieldType} {z : Int32} {vs : List Value} {dv : Value} (V : Arv Z h a k ty z vs dv) {j : Int32} (q : ¬ j < 0 ∧ j < z) :
    ∃ cl : Cell, Arr Z h a cl ty ∧ cl.cls = k ∧ ¬ (j < 0 ∨ cl.slots.size ≤ j.toNatClampNeg) ∧ cl.slots[j.toNatClampNeg]? = some (vs.getD j.toNatClampNeg dv) ∧ ∀ {h' : Heap} {v : Value}, fits ty v = true → Wr h h' a j.toNatClampNeg v → ∀ i, j.toNatClampNeg = i → i < vs.length → Arv Z h' a k ty z (vs.set i v) dv := by
  obtain ⟨cl, A, q1, S, q3, H, G⟩ := V
  have hin := inb_of S q
  exact ⟨cl, A, q1, hin, Has.at H hin rfl, fun hf W i hj hi => Arv.set A q1 S q3 H G hf W i hj hi⟩
theorem own_len {a : Addr} {k : ClassId} {ty : FieldType} {z : Int32} {vs : List Value} {dv : Value} (V : Arv Z h a k ty z vs dv) : ∃ cl : Cell, Arr Z h a cl ty ∧ cl.slots.size.toInt32 = z := by
  obtain ⟨cl, A, q1, S, q3, -⟩ := V
  exact ⟨cl, A, len_of S q3⟩
theorem own_sta {C f d K : String} (hx : (Jvm.Cond.exactly (.static C f d) K).value args s none s [] = some true) (w1 : (Jvm.Cond.initialized C).before args s = true) (w2 : (Jvm.Cond.laysStatic C f d).before args s = true) :
    ∃ a, (Term.static C f d).eval args s none [] s = some (.ref a) ∧ Sta s s.heap C f d (.ref a) ∧ Exa s s.heap a K := by
  obtain ⟨a, ev⟩ := exa_v hx
  exact ⟨a, ev, Sta.start ev (Or.inr ⟨w1, w2⟩), Exa.start ev hx⟩
theorem own_fldI {t : Term} {C f d : String} {a : Addr} {k : Int32} (ev : t.eval args s none [] s = some (.ref a)) (hx : (Jvm.Cond.eq (.field t C f d) (.int k)).value args s none s [] = some true) : Fld s s.heap a C f d (.int k) := by
  obtain ⟨v, w, e1, e2, k1, k2⟩ := cmp_v (Or.inl hx)
  obtain rfl : w = .int k := Option.some.inj (e2.symm.trans (Term.int_eval k))
  obtain ⟨z, rfl⟩ : ∃ z, v = .int z := k2
  have q : z = k := by simpa [Cond.value, e1, e2] using hx
  subst q
  exact Fld.start (by rw [← fld_at ev]; exact e1)
theorem own_neS {t u : Term} {a b : Addr} (ea : t.eval args s none [] s = some (.ref a)) (eb : u.eval args s none [] s = some (.ref b)) (hx : (Jvm.Cond.not (.eq t u)).value args s none s [] = some true) : a ≠ b := fun q =>
  gotF (eq_R ea eb rfl rfl) (not_v hx) (congrArg Value.ref q)
theorem own_staK {C f d : String} {v : Value} {h' : Heap} {ws : List Addr} (S : Sta Z h C f d v) (K : Keep h h' ws) (q : ∀ x ∈ ws, ∀ cell : Cell, h[x]? = some cell → cell.vm.isStatics = false) : Sta Z h' C f d v := by
  obtain ⟨cf, i, k, fl, st, cell, h1, h2, h3, h4, h5, h6, h7⟩ := S
  refine ⟨cf, i, k, fl, st, cell, h1, h2, h3, h4, K.2.1 st cell h5 (fun hm => ?_), h6, h7⟩
  have := q st hm cell h5
  rw [h6] at this
  cases this
end OwnKit
def own_sp (w a : Int64) : Int32 := if w < a then 0 else 1
def own_lf (w a : Int64) : Int64 := if w < a then w else w - a
def own_near (b x : Int64) : Int64 :=
  if (x &&& 7) - 4 < 0 then (if b + ((x &&& 7) - 4) < 0 then 0 else b + ((x &&& 7) - 4))
  else (if 9223372036854775807 - ((x &&& 7) - 4) < b then 9223372036854775807 else b + ((x &&& 7) - 4))
theorem own_mx (x : Int64) : ¬ (x &&& 9223372036854775807) < 0 := by
  have h := c_maskL x 9223372036854775807 63 (by decide) (by decide)
  rw [Int64.lt_iff_toInt_lt, h]
  show ¬ _ < (0 : Int)
  omega
theorem own_sm (k a : Int) (h : (k - a) % 18446744073709551616 = 0) (h1 : -9223372036854775808 ≤ k ∧ k < 9223372036854775808) (h2 : -9223372036854775808 ≤ a ∧ a < 9223372036854775808) : k = a := by omega
theorem own_near_nn (b x : Int64) (hb : ¬ b < 0) : ¬ own_near b x < 0 := by
  have h : (x &&& 7).toInt = x.toInt % (2 ^ 3 : Nat) := c_maskL x 7 3 (by decide) (by decide)
  have e4 : (4 : Int64).toInt = 4 := rfl
  have e0 : (0 : Int64).toInt = 0 := rfl
  have eM : (9223372036854775807 : Int64).toInt = 9223372036854775807 := rfl
  obtain ⟨d, hd⟩ : ∃ d, d = (x &&& 7) - 4 := ⟨_, rfl⟩
  have hs : d.toInt = (x &&& 7).toInt - 4 := by rw [hd]; exact own_sm _ _ (c_lsub (x &&& 7) 4) (rng64 _) (by rw [h]; omega)
  have hr : -4 ≤ d.toInt ∧ d.toInt ≤ 3 := by rw [hs, h]; omega
  have r2 := rng64 b
  unfold own_near
  rw [← hd]
  rw [Int64.lt_iff_toInt_lt, e0] at hb
  split
  · split
    · decide
    · rename_i q2; exact q2
  · rename_i q
    rw [Int64.lt_iff_toInt_lt, e0] at q
    split
    · decide
    · rename_i q2
      rw [Int64.lt_iff_toInt_lt] at q2
      have hm : (9223372036854775807 - d).toInt = 9223372036854775807 - d.toInt := own_sm _ _ (c_lsub 9223372036854775807 d) (rng64 _) (by omega)
      rw [hm] at q2
      have ha : (b + d).toInt = b.toInt + d.toInt := own_sm _ _ (c_ladd b d) (rng64 _) (by omega)
      rw [Int64.lt_iff_toInt_lt, e0, ha]
      omega
theorem own_lf_nn (w a : Int64) (hw : ¬ w < 0) (ha : ¬ a < 0) : ¬ own_lf w a < 0 := by
  have r2 := rng64 w
  have r3 := rng64 a
  have e0 : (0 : Int64).toInt = 0 := rfl
  unfold own_lf
  split
  · exact hw
  · rename_i q
    rw [Int64.lt_iff_toInt_lt] at q hw ha ⊢
    rw [e0] at hw ha ⊢
    have hs : (w - a).toInt = w.toInt - a.toInt := own_sm _ _ (c_lsub w a) (rng64 _) (by omega)
    rw [hs]
    omega
theorem own_over (w : Int64) (h : ¬ w = 9223372036854775807) : w < w + 1 := by
  have r2 := rng64 w
  have e1 : (1 : Int64).toInt = 1 := rfl
  have hn : w.toInt ≠ 9223372036854775807 := fun q => h (Int64.toInt_inj.mp q)
  have hs : (w + 1).toInt = w.toInt + 1 := own_sm _ _ (c_ladd w 1) (rng64 _) (by omega)
  rw [Int64.lt_iff_toInt_lt, hs]
  omega
def Q_rm1 (Z : State) (a1 : Addr) (q2 : Int64) (h0 : Heap) (n0 : Nat) (v : Option Value) (h : Heap) (L : List Loc) : Prop := v = none ∧ Fr n0 L ∧ Keep h0 h [a1] ∧ Exa Z h a1 "com/example/nomos/nomos/Budget" ∧ Fld Z h a1 "com/example/nomos/nomos/Budget" "limit" "J" (.long q2) ∧ Fld Z h a1 "com/example/nomos/nomos/Budget" "left" "J" (.long q2)
theorem pn_rm1 : plainFor (⟨"com/example/nomos/nomos/Budget", "<init>", "(J)V"⟩ : MethodName) = true := plainFor_of_name (by first | (simp [plainName, overriddenIn, x]; done) | decide +kernel)
theorem d1_0 : decode prog_9_method_1_code 0 = .ok (.aload_n 0, 1) := by decide +kernel
theorem d1_1 : decode prog_9_method_1_code 1 = .ok (.invokespecial 1, 3) := by decide +kernel
theorem d1_4 : decode prog_9_method_1_code 4 = .ok (.aload_n 0, 1) := by decide +kernel
theorem d1_5 : decode prog_9_method_1_code 5 = .ok (.lload_n 1, 1) := by decide +kernel
theorem d1_6 : decode prog_9_method_1_code 6 = .ok (.putfield 7, 3) := by decide +kernel
theorem d1_9 : decode prog_9_method_1_code 9 = .ok (.aload_n 0, 1) := by decide +kernel
theorem d1_10 : decode prog_9_method_1_code 10 = .ok (.lload_n 1, 1) := by decide +kernel
theorem d1_11 : decode prog_9_method_1_code 11 = .ok (.putfield 13, 3) := by decide +kernel
theorem d1_14 : decode prog_9_method_1_code 14 = .ok (.return_, 1) := by decide +kernel
set_option maxRecDepth 65536 in
set_option maxHeartbeats 40000000 in
theorem rm1 (l : Launch) (Z : State) (a0 : Array Value) (hw : ∀ d ∈ tables_1, d.before a0 Z = true) (ws : List Jvm.Cond) (a1 : Addr) (q2 : Int64) (h0 : Heap) (n0 : Nat) (Z0 : n0 ≤ h0.size) (g1 : n0 ≤ a1) (E1 : Exa Z h0 a1 "com/example/nomos/nomos/Budget") (F1 : Fld Z h0 a1 "com/example/nomos/nomos/Budget" "limit" "J" (.long (0 : Int64))) (F2 : Fld Z h0 a1 "com/example/nomos/nomos/Budget" "left" "J" (.long (0 : Int64))) :
    own_Met l Z (⟨"com/example/nomos/nomos/Budget", "<init>", "(J)V"⟩ : MethodName) prog_9_method_1_code 3 none ws ({ frames := 1, cells := 0, slots := 0, locals := 12 } : Room) #[(.ref a1), (.long q2)] h0 (Q_rm1 Z a1 q2 h0 n0) := by
  refine own_enter (g0 := fun m => (mkF m 0 #[.val (.ref a1), .val (.long q2), .second] [])) pn_rm1 (fun m => by first | (simp [entryFrame, mkF, argsToLocals, Value.category, maxLocals]; done) | rfl) ?_
  intro p e s m below meth c s₁ hx hby hml hown hnm hret hlk hZ X0 e0
  have hml : c.maxLocals = 3 := hml
  have hown : s.vm.findClass "com/example/nomos/nomos/Budget" = some m.cls := hown
  have N0 := Fr.nil n0
  show own_Go p e below _ s₁ (mkF m 0 #[.val (.ref a1), .val (.long q2), .second] [])
  have K0 := Keep.refl h0 [a1]
  refine own_by (fun _ k => XS.aloadN X0.here hx rfl (hb hby d1_0) rfl rfl k) ?_
  show own_Go p e below _ s₁ (mkF m 1 #[.val (.ref a1), .val (.long q2), .second] [(.ref a1)])
  obtain ⟨T101, X101, e101, st101⟩ := initO X0 hx hZ hown (hw _ (List.mem_of_getElem? (i := 7) rfl)) (hw _ (List.mem_of_getElem? (i := 8) rfl)) (hw _ (List.mem_of_getElem? (i := 9) rfl)) e0 (g := (mkF m 1 #[.val (.ref a1), .val (.long q2), .second] [(.ref a1)])) rfl (by rw [hml]; rfl) rfl (hb hby d1_1) (by decide) (W := 0) (by show 2 * 0 + _ ≤ _; exact Nat.le_of_eq rfl) (by decide)
  refine own_by st101 ?_
  show own_Go p e below _ T101 (mkF m 4 #[.val (.ref a1), .val (.long q2), .second] [])
  refine own_by (fun _ k => XS.aloadN X101.here hx rfl (hb hby d1_4) rfl rfl k) ?_
  show own_Go p e below _ T101 (mkF m 5 #[.val (.ref a1), .val (.long q2), .second] [(.ref a1)])
  refine own_by (fun _ k => XS.lloadN X101.here hx rfl (hb hby d1_5) rfl k) ?_
  show own_Go p e below _ T101 (mkF m 6 #[.val (.ref a1), .val (.long q2), .second] [(.long q2), (.ref a1)])
  obtain ⟨T102, h102, X102, e102, W102, st102⟩ := putF X101 hx hZ hown (host := "") (Or.inl (hw _ (List.mem_of_getElem? (i := 10) rfl))) Via.refl e101 F1 E1 (Or.inr ⟨(hw _ (List.mem_of_getElem? (i := 11) rfl)), rfl, hnm⟩) (hw _ (List.mem_of_getElem? (i := 2) rfl)) (ty := .long) (by decide) rfl rfl (g := (mkF m 6 #[.val (.ref a1), .val (.long q2), .second] [(.long q2), (.ref a1)])) rfl rfl (hb hby d1_6)
  refine own_by st102 ?_
  have N102 := Fr.snoc X102 N0 g1
  have fw102 := F1.same W102
  have K103 := K0.wr W102 (Or.inl (List.mem_of_getElem? (i := 0) rfl))
  have Z102 : n0 ≤ h102.size := Nat.le_trans Z0 (Keep.of_wr W102).1
  show own_Go p e below _ T102 (mkF m 9 #[.val (.ref a1), .val (.long q2), .second] [])
  refine own_by (fun _ k => XS.aloadN X102.here hx rfl (hb hby d1_9) rfl rfl k) ?_
  show own_Go p e below _ T102 (mkF m 10 #[.val (.ref a1), .val (.long q2), .second] [(.ref a1)])
  refine own_by (fun _ k => XS.lloadN X102.here hx rfl (hb hby d1_10) rfl k) ?_
  show own_Go p e below _ T102 (mkF m 11 #[.val (.ref a1), .val (.long q2), .second] [(.long q2), (.ref a1)])
  have f105 := (F2.other W102 (Or.inr (slot_ne (Or.inl (hw _ (List.mem_of_getElem? (i := 13) rfl))) (Or.inr (hw _ (List.mem_of_getElem? (i := 11) rfl))) (by decide) (t := .long) (t' := .long) (by decide) (by decide))))
  have f106 := (E1.wr W102)
  obtain ⟨T104, h104, X104, e104, W104, st104⟩ := putF X102 hx hZ hown (host := "") (Or.inl (hw _ (List.mem_of_getElem? (i := 12) rfl))) Via.refl e102 f105 f106 (Or.inl (hw _ (List.mem_of_getElem? (i := 13) rfl))) (hw _ (List.mem_of_getElem? (i := 2) rfl)) (ty := .long) (by decide) rfl rfl (g := (mkF m 11 #[.val (.ref a1), .val (.long q2), .second] [(.long q2), (.ref a1)])) rfl rfl (hb hby d1_11)
  refine own_by st104 ?_
  have N104 := Fr.snoc X104 N102 g1
  have fw104 := f105.same W104
  have K107 := K103.wr W104 (Or.inl (List.mem_of_getElem? (i := 0) rfl))
  have Z104 : n0 ≤ h104.size := Nat.le_trans Z102 (Keep.of_wr W104).1
  show own_Go p e below _ T104 (mkF m 14 #[.val (.ref a1), .val (.long q2), .second] [])
  have f108 := (f106.wr W104)
  have f109 := (fw102.other W104 (Or.inr (slot_ne (Or.inr (hw _ (List.mem_of_getElem? (i := 11) rfl))) (Or.inl (hw _ (List.mem_of_getElem? (i := 13) rfl))) (by decide) (t := .long) (t' := .long) (by decide) (by decide))))
  exact own_ret0 X104 hx hlk hret (hb hby d1_14) (by first | exact ⟨rfl, N104, K107, f108, f109, fw104⟩ | (rw [e104]; exact ⟨rfl, N104, K107, f108, f109, fw104⟩)) (by decide) (by decide)
def Q_rm3 (Z : State) (a1 : Addr) (q2 w1 w2 : Int64) (h0 : Heap) (n0 : Nat) (v : Option Value) (h : Heap) (L : List Loc) : Prop := v = some (.int (own_sp w2 q2)) ∧ Fr n0 L ∧ Keep h0 h [a1] ∧ Exa Z h a1 "com/example/nomos/nomos/Budget" ∧ Fld Z h a1 "com/example/nomos/nomos/Budget" "limit" "J" (.long w1) ∧ Fld Z h a1 "com/example/nomos/nomos/Budget" "left" "J" (.long (own_lf w2 q2))
theorem pn_rm3 : plainFor (⟨"com/example/nomos/nomos/Budget", "spend", "(J)Z"⟩ : MethodName) = true := plainFor_of_name (by first | (simp [plainName, overriddenIn, x]; done) | decide +kernel)
theorem d3_0 : decode prog_9_method_3_code 0 = .ok (.lload_n 1, 1) := by decide +kernel
theorem d3_1 : decode prog_9_method_3_code 1 = .ok (.aload_n 0, 1) := by decide +kernel
theorem d3_2 : decode prog_9_method_3_code 2 = .ok (.getfield 13, 3) := by decide +kernel
theorem d3_5 : decode prog_9_method_3_code 5 = .ok (.lcmp, 1) := by decide +kernel
theorem d3_6 : decode prog_9_method_3_code 6 = .ok (.ifCond .le 5, 3) := by decide +kernel
theorem d3_9 : decode prog_9_method_3_code 9 = .ok (.iconst 0, 1) := by decide +kernel
theorem d3_10 : decode prog_9_method_3_code 10 = .ok (.ireturn, 1) := by decide +kernel
theorem d3_11 : decode prog_9_method_3_code 11 = .ok (.aload_n 0, 1) := by decide +kernel
theorem d3_12 : decode prog_9_method_3_code 12 = .ok (.dup, 1) := by decide +kernel
theorem d3_13 : decode prog_9_method_3_code 13 = .ok (.getfield 13, 3) := by decide +kernel
theorem d3_16 : decode prog_9_method_3_code 16 = .ok (.lload_n 1, 1) := by decide +kernel
theorem d3_17 : decode prog_9_method_3_code 17 = .ok (.lsub, 1) := by decide +kernel
theorem d3_18 : decode prog_9_method_3_code 18 = .ok (.putfield 13, 3) := by decide +kernel
theorem d3_21 : decode prog_9_method_3_code 21 = .ok (.iconst 1, 1) := by decide +kernel
theorem d3_22 : decode prog_9_method_3_code 22 = .ok (.ireturn, 1) := by decide +kernel
set_option maxRecDepth 65536 in
set_option maxHeartbeats 40000000 in
theorem rm3 (l : Launch) (Z : State) (a0 : Array Value) (hw : ∀ d ∈ tables_1, d.before a0 Z = true) (ws : List Jvm.Cond) (a1 : Addr) (q2 w1 w2 : Int64) (h0 : Heap) (n0 : Nat) (Z0 : n0 ≤ h0.size) (g1 : n0 ≤ a1) (E1 : Exa Z h0 a1 "com/example/nomos/nomos/Budget") (F1 : Fld Z h0 a1 "com/example/nomos/nomos/Budget" "limit" "J" (.long w1)) (F2 : Fld Z h0 a1 "com/example/nomos/nomos/Budget" "left" "J" (.long w2)) :
    own_Met l Z (⟨"com/example/nomos/nomos/Budget", "spend", "(J)Z"⟩ : MethodName) prog_9_method_3_code 3 (some .boolean) ws ({ frames := 0, cells := 0, slots := 0, locals := 0 } : Room) #[(.ref a1), (.long q2)] h0 (Q_rm3 Z a1 q2 w1 w2 h0 n0) := by
  refine own_enter (g0 := fun m => (mkF m 0 #[.val (.ref a1), .val (.long q2), .second] [])) pn_rm3 (fun m => by first | (simp [entryFrame, mkF, argsToLocals, Value.category, maxLocals]; done) | rfl) ?_
  intro p e s m below meth c s₁ hx hby hml hown hnm hret hlk hZ X0 e0
  have hml : c.maxLocals = 3 := hml
  have hown : s.vm.findClass "com/example/nomos/nomos/Budget" = some m.cls := hown
  have N0 := Fr.nil n0
  show own_Go p e below _ s₁ (mkF m 0 #[.val (.ref a1), .val (.long q2), .second] [])
  have K0 := Keep.refl h0 [a1]
  refine own_by (fun _ k => XS.lloadN X0.here hx rfl (hb hby d3_0) rfl k) ?_
  show own_Go p e below _ s₁ (mkF m 1 #[.val (.ref a1), .val (.long q2), .second] [(.long q2)])
  refine own_by (fun _ k => XS.aloadN X0.here hx rfl (hb hby d3_1) rfl rfl k) ?_
  show own_Go p e below _ s₁ (mkF m 2 #[.val (.ref a1), .val (.long q2), .second] [(.ref a1), (.long q2)])
  obtain ⟨T110, X110, e110, st110⟩ := getF X0 hx hZ hown (host := "") (Or.inl (hw _ (List.mem_of_getElem? (i := 12) rfl))) Via.refl e0 F2 (g := (mkF m 2 #[.val (.ref a1), .val (.long q2), .second] [(.ref a1), (.long q2)])) rfl rfl (hb hby d3_2)
  refine own_by st110 ?_
  show own_Go p e below _ T110 (mkF m 5 #[.val (.ref a1), .val (.long q2), .second] [(.long w2), (.long q2)])
  refine own_by (fun _ k => XS.lcmp X110.here hx rfl (hb hby d3_5) rfl k) ?_
  show own_Go p e below _ T110 (mkF m 6 #[.val (.ref a1), .val (.long q2), .second] [(.int (lcmpW q2 w2))])
  by_cases hq : w2 < q2
  · refine own_by (fun _ k => XS.ifNo X110.here hx rfl (hb hby d3_6) rfl ((if0 _ _).trans (tlt ((lw_gt _ _).mpr hq : (0 : Int32) < (lcmpW q2 w2))).2.2.2) k) ?_
    show own_Go p e below _ T110 (mkF m 9 #[.val (.ref a1), .val (.long q2), .second] [])
    refine own_by (fun _ k => XS.iconst X110.here hx rfl (hb hby d3_9) k) ?_
    show own_Go p e below _ T110 (mkF m 10 #[.val (.ref a1), .val (.long q2), .second] [(.int (0 : Int32))])
    have h1 : own_sp w2 q2 = 0 := if_pos hq
    have h2 : own_lf w2 q2 = w2 := if_pos hq
    exact own_retN X110 hx hlk hret (by simp) rfl (hb hby d3_10) (by first | exact ⟨by rw [h1], N0, K0, E1, F1, by rw [h2]; exact F2⟩ | (rw [e110]; exact ⟨by rw [h1], N0, K0, E1, F1, by rw [h2]; exact F2⟩)) (by decide) (by decide)
  · refine own_by (fun _ k => XS.ifYes X110.here hx rfl (pc0 := 6) (pc' := 11) rfl (hb hby d3_6) rfl ((if0 _ _).trans (flt (fun q => hq ((lw_gt _ _).mp q) : ¬ ((0 : Int32) < (lcmpW q2 w2)))).2.2.2) (by decide) (by decide) k) ?_
    show own_Go p e below _ T110 (mkF m 11 #[.val (.ref a1), .val (.long q2), .second] [])
    refine own_by (fun _ k => XS.aloadN X110.here hx rfl (hb hby d3_11) rfl rfl k) ?_
    show own_Go p e below _ T110 (mkF m 12 #[.val (.ref a1), .val (.long q2), .second] [(.ref a1)])
    refine own_by (fun _ k => XS.dup X110.here hx rfl (hb hby d3_12) rfl rfl k) ?_
    show own_Go p e below _ T110 (mkF m 13 #[.val (.ref a1), .val (.long q2), .second] [(.ref a1), (.ref a1)])
    obtain ⟨T111, X111, e111, st111⟩ := getF X110 hx hZ hown (host := "") (Or.inl (hw _ (List.mem_of_getElem? (i := 12) rfl))) Via.refl e110 F2 (g := (mkF m 13 #[.val (.ref a1), .val (.long q2), .second] [(.ref a1), (.ref a1)])) rfl rfl (hb hby d3_13)
    refine own_by st111 ?_
    show own_Go p e below _ T111 (mkF m 16 #[.val (.ref a1), .val (.long q2), .second] [(.long w2), (.ref a1)])
    refine own_by (fun _ k => XS.lloadN X111.here hx rfl (hb hby d3_16) rfl k) ?_
    show own_Go p e below _ T111 (mkF m 17 #[.val (.ref a1), .val (.long q2), .second] [(.long q2), (.long w2), (.ref a1)])
    refine own_by (fun _ k => XS.lsub X111.here hx rfl (hb hby d3_17) rfl k) ?_
    show own_Go p e below _ T111 (mkF m 18 #[.val (.ref a1), .val (.long q2), .second] [(.long (w2 - q2)), (.ref a1)])
    obtain ⟨T112, h112, X112, e112, W112, st112⟩ := putF X111 hx hZ hown (host := "") (Or.inl (hw _ (List.mem_of_getElem? (i := 12) rfl))) Via.refl e111 F2 E1 (Or.inl (hw _ (List.mem_of_getElem? (i := 13) rfl))) (hw _ (List.mem_of_getElem? (i := 2) rfl)) (ty := .long) (by decide) rfl rfl (g := (mkF m 18 #[.val (.ref a1), .val (.long q2), .second] [(.long (w2 - q2)), (.ref a1)])) rfl rfl (hb hby d3_18)
    refine own_by st112 ?_
    have N112 := Fr.snoc X112 N0 g1
    have fw112 := F2.same W112
    have K113 := K0.wr W112 (Or.inl (List.mem_of_getElem? (i := 0) rfl))
    have Z112 : n0 ≤ h112.size := Nat.le_trans Z0 (Keep.of_wr W112).1
    show own_Go p e below _ T112 (mkF m 21 #[.val (.ref a1), .val (.long q2), .second] [])
    refine own_by (fun _ k => XS.iconst X112.here hx rfl (hb hby d3_21) k) ?_
    show own_Go p e below _ T112 (mkF m 22 #[.val (.ref a1), .val (.long q2), .second] [(.int (1 : Int32))])
    have h1 : own_sp w2 q2 = 1 := if_neg hq
    have h2 : own_lf w2 q2 = w2 - q2 := if_neg hq
    have f114 := (E1.wr W112)
    have f115 := (F1.other W112 (Or.inr (slot_ne (Or.inr (hw _ (List.mem_of_getElem? (i := 11) rfl))) (Or.inl (hw _ (List.mem_of_getElem? (i := 13) rfl))) (by decide) (t := .long) (t' := .long) (by decide) (by decide))))
    exact own_retN X112 hx hlk hret (by simp) rfl (hb hby d3_22) (by first | exact ⟨by rw [h1], N112, K113, f114, f115, by rw [h2]; exact fw112⟩ | (rw [e112]; exact ⟨by rw [h1], N112, K113, f114, f115, by rw [h2]; exact fw112⟩)) (by decide) (by decide)
def Q_rm4 (Z : State) (q1 q2 : Int64) (h0 : Heap) (n0 : Nat) (v : Option Value) (h : Heap) (L : List Loc) : Prop := v = some (.long (own_near q1 q2)) ∧ Fr n0 L ∧ h = h0
theorem pn_rm4 : plainFor (⟨"com/example/nomos/nomos/BudgetSpendPinLaw", "near", "(JJ)J"⟩ : MethodName) = true := plainFor_of_name (by first | (simp [plainName, overriddenIn, x]; done) | decide +kernel)
theorem d4_0 : decode method_2_code 0 = .ok (.lload_n 2, 1) := by decide +kernel
theorem d4_1 : decode method_2_code 1 = .ok (.ldc2_w 7, 3) := by decide +kernel
theorem d4_4 : decode method_2_code 4 = .ok (.land, 1) := by decide +kernel
theorem d4_5 : decode method_2_code 5 = .ok (.ldc2_w 9, 3) := by decide +kernel
theorem d4_8 : decode method_2_code 8 = .ok (.lsub, 1) := by decide +kernel
theorem d4_9 : decode method_2_code 9 = .ok (.lstore 4, 2) := by decide +kernel
theorem d4_11 : decode method_2_code 11 = .ok (.lload 4, 2) := by decide +kernel
theorem d4_13 : decode method_2_code 13 = .ok (.lconst 0, 1) := by decide +kernel
theorem d4_14 : decode method_2_code 14 = .ok (.lcmp, 1) := by decide +kernel
theorem d4_15 : decode method_2_code 15 = .ok (.ifCond .lt 25, 3) := by decide +kernel
theorem d4_40 : decode method_2_code 40 = .ok (.lload_n 0, 1) := by decide +kernel
theorem d4_41 : decode method_2_code 41 = .ok (.lload 4, 2) := by decide +kernel
theorem d4_43 : decode method_2_code 43 = .ok (.ladd, 1) := by decide +kernel
theorem d4_44 : decode method_2_code 44 = .ok (.lstore 6, 2) := by decide +kernel
theorem d4_46 : decode method_2_code 46 = .ok (.lload 6, 2) := by decide +kernel
theorem d4_48 : decode method_2_code 48 = .ok (.lconst 0, 1) := by decide +kernel
theorem d4_49 : decode method_2_code 49 = .ok (.lcmp, 1) := by decide +kernel
theorem d4_50 : decode method_2_code 50 = .ok (.ifCond .ge 7, 3) := by decide +kernel
theorem d4_53 : decode method_2_code 53 = .ok (.lconst 0, 1) := by decide +kernel
theorem d4_54 : decode method_2_code 54 = .ok (.goto 5, 3) := by decide +kernel
theorem d4_59 : decode method_2_code 59 = .ok (.lreturn, 1) := by decide +kernel
theorem d4_57 : decode method_2_code 57 = .ok (.lload 6, 2) := by decide +kernel
theorem d4_18 : decode method_2_code 18 = .ok (.lload_n 0, 1) := by decide +kernel
theorem d4_19 : decode method_2_code 19 = .ok (.ldc2_w 13, 3) := by decide +kernel
theorem d4_22 : decode method_2_code 22 = .ok (.lload 4, 2) := by decide +kernel
theorem d4_24 : decode method_2_code 24 = .ok (.lsub, 1) := by decide +kernel
theorem d4_25 : decode method_2_code 25 = .ok (.lcmp, 1) := by decide +kernel
theorem d4_26 : decode method_2_code 26 = .ok (.ifCond .le 9, 3) := by decide +kernel
theorem d4_29 : decode method_2_code 29 = .ok (.ldc2_w 13, 3) := by decide +kernel
theorem d4_32 : decode method_2_code 32 = .ok (.goto 7, 3) := by decide +kernel
theorem d4_39 : decode method_2_code 39 = .ok (.lreturn, 1) := by decide +kernel
theorem d4_35 : decode method_2_code 35 = .ok (.lload_n 0, 1) := by decide +kernel
theorem d4_36 : decode method_2_code 36 = .ok (.lload 4, 2) := by decide +kernel
theorem d4_38 : decode method_2_code 38 = .ok (.ladd, 1) := by decide +kernel
set_option maxRecDepth 65536 in
set_option maxHeartbeats 40000000 in
theorem rm4 (l : Launch) (Z : State) (a0 : Array Value) (hw : ∀ d ∈ tables_1, d.before a0 Z = true) (ws : List Jvm.Cond) (q1 q2 : Int64) (h0 : Heap) (n0 : Nat) (Z0 : n0 ≤ h0.size)  :
    own_Met l Z (⟨"com/example/nomos/nomos/BudgetSpendPinLaw", "near", "(JJ)J"⟩ : MethodName) method_2_code 8 (some .long) ws ({ frames := 0, cells := 0, slots := 0, locals := 0 } : Room) #[(.long q1), (.long q2)] h0 (Q_rm4 Z q1 q2 h0 n0) := by
  refine own_enter (g0 := fun m => (mkF m 0 #[.val (.long q1), .second, .val (.long q2), .second, .unset, .unset, .unset, .unset] [])) pn_rm4 (fun m => by first | (simp [entryFrame, mkF, argsToLocals, Value.category, maxLocals]; done) | rfl) ?_
  intro p e s m below meth c s₁ hx hby hml hown hnm hret hlk hZ X0 e0
  have hml : c.maxLocals = 8 := hml
  have hown : s.vm.findClass "com/example/nomos/nomos/BudgetSpendPinLaw" = some m.cls := hown
  have N0 := Fr.nil n0
  show own_Go p e below _ s₁ (mkF m 0 #[.val (.long q1), .second, .val (.long q2), .second, .unset, .unset, .unset, .unset] [])
  refine own_by (fun _ k => XS.lloadN X0.here hx rfl (hb hby d4_0) rfl k) ?_
  show own_Go p e below _ s₁ (mkF m 1 #[.val (.long q1), .second, .val (.long q2), .second, .unset, .unset, .unset, .unset] [(.long q2)])
  refine own_by (fun _ k => Stand.ldc2J X0 hx hown (mvT hZ (hw _ (List.mem_of_getElem? (i := 23) rfl))) rfl (hb hby d4_1) k) ?_
  show own_Go p e below _ s₁ (mkF m 4 #[.val (.long q1), .second, .val (.long q2), .second, .unset, .unset, .unset, .unset] [(.long (7 : Int64)), (.long q2)])
  refine own_by (fun _ k => XS.land X0.here hx rfl (hb hby d4_4) rfl k) ?_
  show own_Go p e below _ s₁ (mkF m 5 #[.val (.long q1), .second, .val (.long q2), .second, .unset, .unset, .unset, .unset] [(.long (q2 &&& (7 : Int64)))])
  refine own_by (fun _ k => Stand.ldc2J X0 hx hown (mvT hZ (hw _ (List.mem_of_getElem? (i := 24) rfl))) rfl (hb hby d4_5) k) ?_
  show own_Go p e below _ s₁ (mkF m 8 #[.val (.long q1), .second, .val (.long q2), .second, .unset, .unset, .unset, .unset] [(.long (4 : Int64)), (.long (q2 &&& (7 : Int64)))])
  refine own_by (fun _ k => XS.lsub X0.here hx rfl (hb hby d4_8) rfl k) ?_
  show own_Go p e below _ s₁ (mkF m 9 #[.val (.long q1), .second, .val (.long q2), .second, .unset, .unset, .unset, .unset] [(.long ((q2 &&& (7 : Int64)) - (4 : Int64)))])
  refine own_by (fun _ k => XS.lstore X0.here hx rfl (hb hby d4_9) rfl (l' := #[.val (.long q1), .second, .val (.long q2), .second, .val (.long ((q2 &&& (7 : Int64)) - (4 : Int64))), .second, .unset, .unset]) rfl k) ?_
  show own_Go p e below _ s₁ (mkF m 11 #[.val (.long q1), .second, .val (.long q2), .second, .val (.long ((q2 &&& (7 : Int64)) - (4 : Int64))), .second, .unset, .unset] [])
  refine own_by (fun _ k => XS.lload X0.here hx rfl (hb hby d4_11) rfl k) ?_
  show own_Go p e below _ s₁ (mkF m 13 #[.val (.long q1), .second, .val (.long q2), .second, .val (.long ((q2 &&& (7 : Int64)) - (4 : Int64))), .second, .unset, .unset] [(.long ((q2 &&& (7 : Int64)) - (4 : Int64)))])
  refine own_by (fun _ k => XS.lconst X0.here hx rfl (hb hby d4_13) k) ?_
  show own_Go p e below _ s₁ (mkF m 14 #[.val (.long q1), .second, .val (.long q2), .second, .val (.long ((q2 &&& (7 : Int64)) - (4 : Int64))), .second, .unset, .unset] [(.long (0 : Int64)), (.long ((q2 &&& (7 : Int64)) - (4 : Int64)))])
  refine own_by (fun _ k => XS.lcmp X0.here hx rfl (hb hby d4_14) rfl k) ?_
  show own_Go p e below _ s₁ (mkF m 15 #[.val (.long q1), .second, .val (.long q2), .second, .val (.long ((q2 &&& (7 : Int64)) - (4 : Int64))), .second, .unset, .unset] [(.int (lcmpW ((q2 &&& (7 : Int64)) - (4 : Int64)) (0 : Int64)))])
  by_cases h1 : ((q2 &&& (7 : Int64)) - (4 : Int64)) < 0
  · refine own_by (fun _ k => XS.ifYes X0.here hx rfl (pc0 := 15) (pc' := 40) rfl (hb hby d4_15) rfl ((if0 _ _).trans (tlt ((lw_lt _ _).mpr h1 : (lcmpW ((q2 &&& (7 : Int64)) - (4 : Int64)) (0 : Int64)) < (0 : Int32))).1) (by decide) (by decide) k) ?_
    show own_Go p e below _ s₁ (mkF m 40 #[.val (.long q1), .second, .val (.long q2), .second, .val (.long ((q2 &&& (7 : Int64)) - (4 : Int64))), .second, .unset, .unset] [])
    refine own_by (fun _ k => XS.lloadN X0.here hx rfl (hb hby d4_40) rfl k) ?_
    show own_Go p e below _ s₁ (mkF m 41 #[.val (.long q1), .second, .val (.long q2), .second, .val (.long ((q2 &&& (7 : Int64)) - (4 : Int64))), .second, .unset, .unset] [(.long q1)])
    refine own_by (fun _ k => XS.lload X0.here hx rfl (hb hby d4_41) rfl k) ?_
    show own_Go p e below _ s₁ (mkF m 43 #[.val (.long q1), .second, .val (.long q2), .second, .val (.long ((q2 &&& (7 : Int64)) - (4 : Int64))), .second, .unset, .unset] [(.long ((q2 &&& (7 : Int64)) - (4 : Int64))), (.long q1)])
    refine own_by (fun _ k => XS.ladd X0.here hx rfl (hb hby d4_43) rfl k) ?_
    show own_Go p e below _ s₁ (mkF m 44 #[.val (.long q1), .second, .val (.long q2), .second, .val (.long ((q2 &&& (7 : Int64)) - (4 : Int64))), .second, .unset, .unset] [(.long (q1 + ((q2 &&& (7 : Int64)) - (4 : Int64))))])
    refine own_by (fun _ k => XS.lstore X0.here hx rfl (hb hby d4_44) rfl (l' := #[.val (.long q1), .second, .val (.long q2), .second, .val (.long ((q2 &&& (7 : Int64)) - (4 : Int64))), .second, .val (.long (q1 + ((q2 &&& (7 : Int64)) - (4 : Int64)))), .second]) rfl k) ?_
    show own_Go p e below _ s₁ (mkF m 46 #[.val (.long q1), .second, .val (.long q2), .second, .val (.long ((q2 &&& (7 : Int64)) - (4 : Int64))), .second, .val (.long (q1 + ((q2 &&& (7 : Int64)) - (4 : Int64)))), .second] [])
    refine own_by (fun _ k => XS.lload X0.here hx rfl (hb hby d4_46) rfl k) ?_
    show own_Go p e below _ s₁ (mkF m 48 #[.val (.long q1), .second, .val (.long q2), .second, .val (.long ((q2 &&& (7 : Int64)) - (4 : Int64))), .second, .val (.long (q1 + ((q2 &&& (7 : Int64)) - (4 : Int64)))), .second] [(.long (q1 + ((q2 &&& (7 : Int64)) - (4 : Int64))))])
    refine own_by (fun _ k => XS.lconst X0.here hx rfl (hb hby d4_48) k) ?_
    show own_Go p e below _ s₁ (mkF m 49 #[.val (.long q1), .second, .val (.long q2), .second, .val (.long ((q2 &&& (7 : Int64)) - (4 : Int64))), .second, .val (.long (q1 + ((q2 &&& (7 : Int64)) - (4 : Int64)))), .second] [(.long (0 : Int64)), (.long (q1 + ((q2 &&& (7 : Int64)) - (4 : Int64))))])
    refine own_by (fun _ k => XS.lcmp X0.here hx rfl (hb hby d4_49) rfl k) ?_
    show own_Go p e below _ s₁ (mkF m 50 #[.val (.long q1), .second, .val (.long q2), .second, .val (.long ((q2 &&& (7 : Int64)) - (4 : Int64))), .second, .val (.long (q1 + ((q2 &&& (7 : Int64)) - (4 : Int64)))), .second] [(.int (lcmpW (q1 + ((q2 &&& (7 : Int64)) - (4 : Int64))) (0 : Int64)))])
    by_cases h2 : q1 + ((q2 &&& (7 : Int64)) - (4 : Int64)) < 0
    · refine own_by (fun _ k => XS.ifNo X0.here hx rfl (hb hby d4_50) rfl ((if0 _ _).trans (tlt ((lw_lt _ _).mpr h2 : (lcmpW (q1 + ((q2 &&& (7 : Int64)) - (4 : Int64))) (0 : Int64)) < (0 : Int32))).2.1) k) ?_
      show own_Go p e below _ s₁ (mkF m 53 #[.val (.long q1), .second, .val (.long q2), .second, .val (.long ((q2 &&& (7 : Int64)) - (4 : Int64))), .second, .val (.long (q1 + ((q2 &&& (7 : Int64)) - (4 : Int64)))), .second] [])
      refine own_by (fun _ k => XS.lconst X0.here hx rfl (hb hby d4_53) k) ?_
      show own_Go p e below _ s₁ (mkF m 54 #[.val (.long q1), .second, .val (.long q2), .second, .val (.long ((q2 &&& (7 : Int64)) - (4 : Int64))), .second, .val (.long (q1 + ((q2 &&& (7 : Int64)) - (4 : Int64)))), .second] [(.long (0 : Int64))])
      refine own_by (fun _ k => XS.goto X0.here hx rfl (pc0 := 54) (pc' := 59) rfl (hb hby d4_54) (by decide) (by decide) k) ?_
      show own_Go p e below _ s₁ (mkF m 59 #[.val (.long q1), .second, .val (.long q2), .second, .val (.long ((q2 &&& (7 : Int64)) - (4 : Int64))), .second, .val (.long (q1 + ((q2 &&& (7 : Int64)) - (4 : Int64)))), .second] [(.long (0 : Int64))])
      exact own_retJ X0 hx hlk hret  (hb hby d4_59) (by first | exact ⟨by simp only [own_near, if_pos h1, if_pos h2], N0, rfl⟩ | (rw [e0]; exact ⟨by simp only [own_near, if_pos h1, if_pos h2], N0, rfl⟩)) (by decide) (by decide)
    · refine own_by (fun _ k => XS.ifYes X0.here hx rfl (pc0 := 50) (pc' := 57) rfl (hb hby d4_50) rfl ((if0 _ _).trans (flt (fun q => h2 ((lw_lt _ _).mp q) : ¬ ((lcmpW (q1 + ((q2 &&& (7 : Int64)) - (4 : Int64))) (0 : Int64)) < (0 : Int32)))).2.1) (by decide) (by decide) k) ?_
      show own_Go p e below _ s₁ (mkF m 57 #[.val (.long q1), .second, .val (.long q2), .second, .val (.long ((q2 &&& (7 : Int64)) - (4 : Int64))), .second, .val (.long (q1 + ((q2 &&& (7 : Int64)) - (4 : Int64)))), .second] [])
      refine own_by (fun _ k => XS.lload X0.here hx rfl (hb hby d4_57) rfl k) ?_
      show own_Go p e below _ s₁ (mkF m 59 #[.val (.long q1), .second, .val (.long q2), .second, .val (.long ((q2 &&& (7 : Int64)) - (4 : Int64))), .second, .val (.long (q1 + ((q2 &&& (7 : Int64)) - (4 : Int64)))), .second] [(.long (q1 + ((q2 &&& (7 : Int64)) - (4 : Int64))))])
      exact own_retJ X0 hx hlk hret  (hb hby d4_59) (by first | exact ⟨by simp only [own_near, if_pos h1, if_neg h2], N0, rfl⟩ | (rw [e0]; exact ⟨by simp only [own_near, if_pos h1, if_neg h2], N0, rfl⟩)) (by decide) (by decide)
  · refine own_by (fun _ k => XS.ifNo X0.here hx rfl (hb hby d4_15) rfl ((if0 _ _).trans (flt (fun q => h1 ((lw_lt _ _).mp q) : ¬ ((lcmpW ((q2 &&& (7 : Int64)) - (4 : Int64)) (0 : Int64)) < (0 : Int32)))).1) k) ?_
    show own_Go p e below _ s₁ (mkF m 18 #[.val (.long q1), .second, .val (.long q2), .second, .val (.long ((q2 &&& (7 : Int64)) - (4 : Int64))), .second, .unset, .unset] [])
    refine own_by (fun _ k => XS.lloadN X0.here hx rfl (hb hby d4_18) rfl k) ?_
    show own_Go p e below _ s₁ (mkF m 19 #[.val (.long q1), .second, .val (.long q2), .second, .val (.long ((q2 &&& (7 : Int64)) - (4 : Int64))), .second, .unset, .unset] [(.long q1)])
    refine own_by (fun _ k => Stand.ldc2J X0 hx hown (mvT hZ (hw _ (List.mem_of_getElem? (i := 0) rfl))) rfl (hb hby d4_19) k) ?_
    show own_Go p e below _ s₁ (mkF m 22 #[.val (.long q1), .second, .val (.long q2), .second, .val (.long ((q2 &&& (7 : Int64)) - (4 : Int64))), .second, .unset, .unset] [(.long (9223372036854775807 : Int64)), (.long q1)])
    refine own_by (fun _ k => XS.lload X0.here hx rfl (hb hby d4_22) rfl k) ?_
    show own_Go p e below _ s₁ (mkF m 24 #[.val (.long q1), .second, .val (.long q2), .second, .val (.long ((q2 &&& (7 : Int64)) - (4 : Int64))), .second, .unset, .unset] [(.long ((q2 &&& (7 : Int64)) - (4 : Int64))), (.long (9223372036854775807 : Int64)), (.long q1)])
    refine own_by (fun _ k => XS.lsub X0.here hx rfl (hb hby d4_24) rfl k) ?_
    show own_Go p e below _ s₁ (mkF m 25 #[.val (.long q1), .second, .val (.long q2), .second, .val (.long ((q2 &&& (7 : Int64)) - (4 : Int64))), .second, .unset, .unset] [(.long ((9223372036854775807 : Int64) - ((q2 &&& (7 : Int64)) - (4 : Int64)))), (.long q1)])
    refine own_by (fun _ k => XS.lcmp X0.here hx rfl (hb hby d4_25) rfl k) ?_
    show own_Go p e below _ s₁ (mkF m 26 #[.val (.long q1), .second, .val (.long q2), .second, .val (.long ((q2 &&& (7 : Int64)) - (4 : Int64))), .second, .unset, .unset] [(.int (lcmpW q1 ((9223372036854775807 : Int64) - ((q2 &&& (7 : Int64)) - (4 : Int64)))))])
    by_cases h2 : 9223372036854775807 - ((q2 &&& (7 : Int64)) - (4 : Int64)) < q1
    · refine own_by (fun _ k => XS.ifNo X0.here hx rfl (hb hby d4_26) rfl ((if0 _ _).trans (tlt ((lw_gt _ _).mpr h2 : (0 : Int32) < (lcmpW q1 ((9223372036854775807 : Int64) - ((q2 &&& (7 : Int64)) - (4 : Int64)))))).2.2.2) k) ?_
      show own_Go p e below _ s₁ (mkF m 29 #[.val (.long q1), .second, .val (.long q2), .second, .val (.long ((q2 &&& (7 : Int64)) - (4 : Int64))), .second, .unset, .unset] [])
      refine own_by (fun _ k => Stand.ldc2J X0 hx hown (mvT hZ (hw _ (List.mem_of_getElem? (i := 0) rfl))) rfl (hb hby d4_29) k) ?_
      show own_Go p e below _ s₁ (mkF m 32 #[.val (.long q1), .second, .val (.long q2), .second, .val (.long ((q2 &&& (7 : Int64)) - (4 : Int64))), .second, .unset, .unset] [(.long (9223372036854775807 : Int64))])
      refine own_by (fun _ k => XS.goto X0.here hx rfl (pc0 := 32) (pc' := 39) rfl (hb hby d4_32) (by decide) (by decide) k) ?_
      show own_Go p e below _ s₁ (mkF m 39 #[.val (.long q1), .second, .val (.long q2), .second, .val (.long ((q2 &&& (7 : Int64)) - (4 : Int64))), .second, .unset, .unset] [(.long (9223372036854775807 : Int64))])
      exact own_retJ X0 hx hlk hret  (hb hby d4_39) (by first | exact ⟨by simp only [own_near, if_neg h1, if_pos h2], N0, rfl⟩ | (rw [e0]; exact ⟨by simp only [own_near, if_neg h1, if_pos h2], N0, rfl⟩)) (by decide) (by decide)
    · refine own_by (fun _ k => XS.ifYes X0.here hx rfl (pc0 := 26) (pc' := 35) rfl (hb hby d4_26) rfl ((if0 _ _).trans (flt (fun q => h2 ((lw_gt _ _).mp q) : ¬ ((0 : Int32) < (lcmpW q1 ((9223372036854775807 : Int64) - ((q2 &&& (7 : Int64)) - (4 : Int64))))))).2.2.2) (by decide) (by decide) k) ?_
      show own_Go p e below _ s₁ (mkF m 35 #[.val (.long q1), .second, .val (.long q2), .second, .val (.long ((q2 &&& (7 : Int64)) - (4 : Int64))), .second, .unset, .unset] [])
      refine own_by (fun _ k => XS.lloadN X0.here hx rfl (hb hby d4_35) rfl k) ?_
      show own_Go p e below _ s₁ (mkF m 36 #[.val (.long q1), .second, .val (.long q2), .second, .val (.long ((q2 &&& (7 : Int64)) - (4 : Int64))), .second, .unset, .unset] [(.long q1)])
      refine own_by (fun _ k => XS.lload X0.here hx rfl (hb hby d4_36) rfl k) ?_
      show own_Go p e below _ s₁ (mkF m 38 #[.val (.long q1), .second, .val (.long q2), .second, .val (.long ((q2 &&& (7 : Int64)) - (4 : Int64))), .second, .unset, .unset] [(.long ((q2 &&& (7 : Int64)) - (4 : Int64))), (.long q1)])
      refine own_by (fun _ k => XS.ladd X0.here hx rfl (hb hby d4_38) rfl k) ?_
      show own_Go p e below _ s₁ (mkF m 39 #[.val (.long q1), .second, .val (.long q2), .second, .val (.long ((q2 &&& (7 : Int64)) - (4 : Int64))), .second, .unset, .unset] [(.long (q1 + ((q2 &&& (7 : Int64)) - (4 : Int64))))])
      exact own_retJ X0 hx hlk hret  (hb hby d4_39) (by first | exact ⟨by simp only [own_near, if_neg h1, if_neg h2], N0, rfl⟩ | (rw [e0]; exact ⟨by simp only [own_near, if_neg h1, if_neg h2], N0, rfl⟩)) (by decide) (by decide)
def Q_rm5 (Z : State) (a1 : Addr) (w1 : Int64) (h0 : Heap) (n0 : Nat) (v : Option Value) (h : Heap) (L : List Loc) : Prop := v = some (.long w1) ∧ Fr n0 L ∧ h = h0
theorem pn_rm5 : plainFor (⟨"com/example/nomos/nomos/Budget", "limit", "()J"⟩ : MethodName) = true := plainFor_of_name (by first | (simp [plainName, overriddenIn, x]; done) | decide +kernel)
theorem d5_0 : decode prog_9_method_2_code 0 = .ok (.aload_n 0, 1) := by decide +kernel
theorem d5_1 : decode prog_9_method_2_code 1 = .ok (.getfield 7, 3) := by decide +kernel
theorem d5_4 : decode prog_9_method_2_code 4 = .ok (.lreturn, 1) := by decide +kernel
set_option maxRecDepth 65536 in
set_option maxHeartbeats 40000000 in
theorem rm5 (l : Launch) (Z : State) (a0 : Array Value) (hw : ∀ d ∈ tables_1, d.before a0 Z = true) (ws : List Jvm.Cond) (a1 : Addr) (w1 : Int64) (h0 : Heap) (n0 : Nat) (Z0 : n0 ≤ h0.size) (F1 : Fld Z h0 a1 "com/example/nomos/nomos/Budget" "limit" "J" (.long w1)) :
    own_Met l Z (⟨"com/example/nomos/nomos/Budget", "limit", "()J"⟩ : MethodName) prog_9_method_2_code 1 (some .long) ws ({ frames := 0, cells := 0, slots := 0, locals := 0 } : Room) #[(.ref a1)] h0 (Q_rm5 Z a1 w1 h0 n0) := by
  refine own_enter (g0 := fun m => (mkF m 0 #[.val (.ref a1)] [])) pn_rm5 (fun m => by first | (simp [entryFrame, mkF, argsToLocals, Value.category, maxLocals]; done) | rfl) ?_
  intro p e s m below meth c s₁ hx hby hml hown hnm hret hlk hZ X0 e0
  have hml : c.maxLocals = 1 := hml
  have hown : s.vm.findClass "com/example/nomos/nomos/Budget" = some m.cls := hown
  have N0 := Fr.nil n0
  show own_Go p e below _ s₁ (mkF m 0 #[.val (.ref a1)] [])
  refine own_by (fun _ k => XS.aloadN X0.here hx rfl (hb hby d5_0) rfl rfl k) ?_
  show own_Go p e below _ s₁ (mkF m 1 #[.val (.ref a1)] [(.ref a1)])
  obtain ⟨T116, X116, e116, st116⟩ := getF X0 hx hZ hown (host := "") (Or.inl (hw _ (List.mem_of_getElem? (i := 10) rfl))) Via.refl e0 F1 (g := (mkF m 1 #[.val (.ref a1)] [(.ref a1)])) rfl rfl (hb hby d5_1)
  refine own_by st116 ?_
  show own_Go p e below _ T116 (mkF m 4 #[.val (.ref a1)] [(.long w1)])
  exact own_retJ X116 hx hlk hret  (hb hby d5_4) (by first | exact ⟨rfl, N0, rfl⟩ | (rw [e116]; exact ⟨rfl, N0, rfl⟩)) (by decide) (by decide)
def Q_rm0 (Z : State) (p1 p2 p3 : Int64) (p4 : Int32) (h0 : Heap) (n0 : Nat) (v : Option Value) (h : Heap) (L : List Loc) : Prop := v = some (.int 1) ∧ Fr n0 L
theorem pn_rm0 : plainFor x = true := plainFor_of_name (by first | (simp [plainName, overriddenIn, x]; done) | decide +kernel)
theorem pd_0 : parseMethodDescriptor "(J)V" = some ⟨[.long], none⟩ := by decide +kernel
theorem pd_1 : parseMethodDescriptor "(J)Z" = some ⟨[.long], some .boolean⟩ := by decide +kernel
theorem pd_2 : parseMethodDescriptor "()J" = some ⟨[], some .long⟩ := by decide +kernel
theorem pd_3 : parseMethodDescriptor "(JJ)J" = some ⟨[.long, .long], some .long⟩ := by decide +kernel
set_option maxRecDepth 65536 in
set_option maxHeartbeats 40000000 in
theorem rm0 (l : Launch) (Z : State) (a0 : Array Value) (hw : ∀ d ∈ tables_1, d.before a0 Z = true) (ws : List Jvm.Cond) (p1 p2 p3 : Int64) (p4 : Int32) (h0 : Heap) (n0 : Nat) (Z0 : n0 ≤ h0.size)  :
    own_Met l Z x code maxLocals ret ws room_1 #[(.long p1), (.long p2), (.long p3), (.int p4)] h0 (Q_rm0 Z p1 p2 p3 p4 h0 n0) := by
  refine own_enter (g0 := fun m => (mkF m 0 #[.val (.long p1), .second, .val (.long p2), .second, .val (.long p3), .second, .val (.int p4), .unset, .unset, .unset, .unset, .unset, .unset, .unset, .unset, .unset, .unset, .unset, .unset, .unset, .unset, .unset] [])) pn_rm0 (fun m => by first | (simp [entryFrame, mkF, argsToLocals, Value.category, maxLocals]; done) | rfl) ?_
  intro p e s m below meth c s₁ hx hby hml hown hnm hret hlk hZ X0 e0
  have hml : c.maxLocals = 22 := hml
  have hown : s.vm.findClass "com/example/nomos/nomos/BudgetSpendPinLaw" = some m.cls := hown
  have N0 := Fr.nil n0
  show own_Go p e below _ s₁ (mkF m 0 #[.val (.long p1), .second, .val (.long p2), .second, .val (.long p3), .second, .val (.int p4), .unset, .unset, .unset, .unset, .unset, .unset, .unset, .unset, .unset, .unset, .unset, .unset, .unset, .unset, .unset] [])
  refine own_by (fun _ k => XS.lloadN X0.here hx rfl (hb hby at_0) rfl k) ?_
  show own_Go p e below _ s₁ (mkF m 1 #[.val (.long p1), .second, .val (.long p2), .second, .val (.long p3), .second, .val (.int p4), .unset, .unset, .unset, .unset, .unset, .unset, .unset, .unset, .unset, .unset, .unset, .unset, .unset, .unset, .unset] [(.long p1)])
  refine own_by (fun _ k => Stand.ldc2J X0 hx hown (mvT hZ (hw _ (List.mem_of_getElem? (i := 0) rfl))) rfl (hb hby at_1) k) ?_
  show own_Go p e below _ s₁ (mkF m 4 #[.val (.long p1), .second, .val (.long p2), .second, .val (.long p3), .second, .val (.int p4), .unset, .unset, .unset, .unset, .unset, .unset, .unset, .unset, .unset, .unset, .unset, .unset, .unset, .unset, .unset] [(.long (9223372036854775807 : Int64)), (.long p1)])
  refine own_by (fun _ k => XS.land X0.here hx rfl (hb hby at_4) rfl k) ?_
  show own_Go p e below _ s₁ (mkF m 5 #[.val (.long p1), .second, .val (.long p2), .second, .val (.long p3), .second, .val (.int p4), .unset, .unset, .unset, .unset, .unset, .unset, .unset, .unset, .unset, .unset, .unset, .unset, .unset, .unset, .unset] [(.long (p1 &&& (9223372036854775807 : Int64)))])
  refine own_by (fun _ k => XS.lstore X0.here hx rfl (hb hby at_5) rfl (l' := #[.val (.long p1), .second, .val (.long p2), .second, .val (.long p3), .second, .val (.int p4), .val (.long (p1 &&& (9223372036854775807 : Int64))), .second, .unset, .unset, .unset, .unset, .unset, .unset, .unset, .unset, .unset, .unset, .unset, .unset, .unset]) rfl k) ?_
  show own_Go p e below _ s₁ (mkF m 7 #[.val (.long p1), .second, .val (.long p2), .second, .val (.long p3), .second, .val (.int p4), .val (.long (p1 &&& (9223372036854775807 : Int64))), .second, .unset, .unset, .unset, .unset, .unset, .unset, .unset, .unset, .unset, .unset, .unset, .unset, .unset] [])
  obtain ⟨l0, hl0⟩ : ∃ z, z = (p1 &&& (9223372036854775807 : Int64)) := ⟨_, rfl⟩
  rw [← hl0]
  show own_Go p e below _ s₁ (mkF m 7 #[.val (.long p1), .second, .val (.long p2), .second, .val (.long p3), .second, .val (.int p4), .val (.long l0), .second, .unset, .unset, .unset, .unset, .unset, .unset, .unset, .unset, .unset, .unset, .unset, .unset, .unset] [])
  have nl : ¬ l0 < 0 := by rw [hl0]; exact own_mx _
  have J28 : ∀ (T117 : State) (L117 : List Loc) (X117 : Stand p l e room_1 s m #[(.long p1), (.long p2), (.long p3), (.int p4)] below meth c T117 L117 0 0) (e117 : T117.heap = h0) (N117 : Fr n0 L117) (a : Int64) (na : ¬ a < 0), own_Go p e below (own_End s room_1.cells room_1.slots (Q_rm0 Z p1 p2 p3 p4 h0 n0)) T117 (mkF m 28 #[.val (.long p1), .second, .val (.long p2), .second, .val (.long p3), .second, .val (.int p4), .val (.long l0), .second, .unset, .unset, .unset, .unset, .unset, .unset, .unset, .unset, .unset, .unset, .unset, .unset, .unset] [(.long a)]) := by
    intro T117 L117 X117 e117 N117 a na
    show own_Go p e below _ T117 (mkF m 28 #[.val (.long p1), .second, .val (.long p2), .second, .val (.long p3), .second, .val (.int p4), .val (.long l0), .second, .unset, .unset, .unset, .unset, .unset, .unset, .unset, .unset, .unset, .unset, .unset, .unset, .unset] [(.long a)])
    refine own_by (fun _ k => XS.lstore X117.here hx rfl (hb hby at_28) rfl (l' := #[.val (.long p1), .second, .val (.long p2), .second, .val (.long p3), .second, .val (.int p4), .val (.long l0), .second, .val (.long a), .second, .unset, .unset, .unset, .unset, .unset, .unset, .unset, .unset, .unset, .unset, .unset]) rfl k) ?_
    show own_Go p e below _ T117 (mkF m 30 #[.val (.long p1), .second, .val (.long p2), .second, .val (.long p3), .second, .val (.int p4), .val (.long l0), .second, .val (.long a), .second, .unset, .unset, .unset, .unset, .unset, .unset, .unset, .unset, .unset, .unset, .unset] [])
    obtain ⟨T118, h118, X118, e118, E118, A118, D118, -, st118⟩ := newO X117 hx hZ hown (hw _ (List.mem_of_getElem? (i := 1) rfl)) (hw _ (List.mem_of_getElem? (i := 2) rfl)) (hw _ (List.mem_of_getElem? (i := 3) rfl)) e117 (g := (mkF m 30 #[.val (.long p1), .second, .val (.long p2), .second, .val (.long p3), .second, .val (.int p4), .val (.long l0), .second, .val (.long a), .second, .unset, .unset, .unset, .unset, .unset, .unset, .unset, .unset, .unset, .unset, .unset] [])) rfl (hb hby at_30) (by decide) (by decide)
    obtain ⟨b118, g118⟩ : ∃ z, z = h0.size := ⟨_, rfl⟩
    rw [← g118] at A118 D118 st118
    have og_b118 : n0 ≤ b118 := Nat.le_trans Z0 (Nat.le_of_eq g118.symm)
    have Z118 : n0 ≤ h118.size := Nat.le_trans Z0 E118.1
    have F_limit_b118 : Fld Z h118 b118 "com/example/nomos/nomos/Budget" "limit" "J" (.long (0 : Int64)) := D118 (Or.inr (hw _ (List.mem_of_getElem? (i := 11) rfl))) (ty := .long) (by decide)
    have F_left_b118 : Fld Z h118 b118 "com/example/nomos/nomos/Budget" "left" "J" (.long (0 : Int64)) := D118 (Or.inl (hw _ (List.mem_of_getElem? (i := 13) rfl))) (ty := .long) (by decide)
    refine own_by st118 ?_
    show own_Go p e below _ T118 (mkF m 33 #[.val (.long p1), .second, .val (.long p2), .second, .val (.long p3), .second, .val (.int p4), .val (.long l0), .second, .val (.long a), .second, .unset, .unset, .unset, .unset, .unset, .unset, .unset, .unset, .unset, .unset, .unset] [(.ref b118)])
    refine own_by (fun _ k => XS.dup X118.here hx rfl (hb hby at_33) rfl rfl k) ?_
    show own_Go p e below _ T118 (mkF m 34 #[.val (.long p1), .second, .val (.long p2), .second, .val (.long p3), .second, .val (.int p4), .val (.long l0), .second, .val (.long a), .second, .unset, .unset, .unset, .unset, .unset, .unset, .unset, .unset, .unset, .unset, .unset] [(.ref b118), (.ref b118)])
    refine own_by (fun _ k => XS.lload X118.here hx rfl (hb hby at_34) rfl k) ?_
    show own_Go p e below _ T118 (mkF m 36 #[.val (.long p1), .second, .val (.long p2), .second, .val (.long p3), .second, .val (.int p4), .val (.long l0), .second, .val (.long a), .second, .unset, .unset, .unset, .unset, .unset, .unset, .unset, .unset, .unset, .unset, .unset] [(.long l0), (.ref b118), (.ref b118)])
    obtain ⟨_, T119, L119, X119, ⟨rfl, N119q, Ki, Ei, Pi, Mi⟩, st119⟩ := own_callI X118 hx hZ hown (y := (⟨"com/example/nomos/nomos/Budget", "<init>", "(J)V"⟩ : MethodName)) rfl (hw _ (List.mem_of_getElem? (i := 4) rfl)) (hw _ (List.mem_of_getElem? (i := 5) rfl)) (hw _ (List.mem_of_getElem? (i := 3) rfl)) (hw _ (List.mem_of_getElem? (i := 6) rfl)) (by decide) (a := b118) (argsL := [(.long l0)]) (rest := [(.ref b118)]) e118 (rm1 l Z a0 hw [] b118 l0 h118 n0 Z118 og_b118 A118 F_limit_b118 F_left_b118) (g := (mkF m 36 #[.val (.long p1), .second, .val (.long p2), .second, .val (.long p3), .second, .val (.int p4), .val (.long l0), .second, .val (.long a), .second, .unset, .unset, .unset, .unset, .unset, .unset, .unset, .unset, .unset, .unset, .unset] [(.long l0), (.ref b118), (.ref b118)])) rfl (by rw [hml]; rfl) (lenOf pd_0 rfl) rfl (W := 1) (by show 2 * 0 + _ ≤ _; exact Nat.le_of_eq rfl) (hb hby at_36) (by decide) (by decide) (by decide) (by decide)
    have N119 := Fr.app N117 N119q
    refine own_by st119 ?_
    show own_Go p e below _ T119 (mkF m 39 #[.val (.long p1), .second, .val (.long p2), .second, .val (.long p3), .second, .val (.int p4), .val (.long l0), .second, .val (.long a), .second, .unset, .unset, .unset, .unset, .unset, .unset, .unset, .unset, .unset, .unset, .unset] [(.ref b118)])
    have Z119 : n0 ≤ T119.heap.size := Nat.le_trans Z118 Ki.1
    refine own_by (fun _ k => XS.astore X119.here hx rfl (hb hby at_39) rfl rfl (l' := #[.val (.long p1), .second, .val (.long p2), .second, .val (.long p3), .second, .val (.int p4), .val (.long l0), .second, .val (.long a), .second, .val (.ref b118), .unset, .unset, .unset, .unset, .unset, .unset, .unset, .unset, .unset, .unset]) rfl k) ?_
    show own_Go p e below _ T119 (mkF m 41 #[.val (.long p1), .second, .val (.long p2), .second, .val (.long p3), .second, .val (.int p4), .val (.long l0), .second, .val (.long a), .second, .val (.ref b118), .unset, .unset, .unset, .unset, .unset, .unset, .unset, .unset, .unset, .unset] [])
    refine own_by (fun _ k => XS.aload X119.here hx rfl (hb hby at_41) rfl rfl k) ?_
    show own_Go p e below _ T119 (mkF m 43 #[.val (.long p1), .second, .val (.long p2), .second, .val (.long p3), .second, .val (.int p4), .val (.long l0), .second, .val (.long a), .second, .val (.ref b118), .unset, .unset, .unset, .unset, .unset, .unset, .unset, .unset, .unset, .unset] [(.ref b118)])
    refine own_by (fun _ k => XS.lload X119.here hx rfl (hb hby at_43) rfl k) ?_
    show own_Go p e below _ T119 (mkF m 45 #[.val (.long p1), .second, .val (.long p2), .second, .val (.long p3), .second, .val (.int p4), .val (.long l0), .second, .val (.long a), .second, .val (.ref b118), .unset, .unset, .unset, .unset, .unset, .unset, .unset, .unset, .unset, .unset] [(.long a), (.ref b118)])
    obtain ⟨_, T120, L120, X120, ⟨rfl, N120q, K120', E120', P120', M120'⟩, st120⟩ := own_callV X119 hx hZ hown (y := (⟨"com/example/nomos/nomos/Budget", "spend", "(J)Z"⟩ : MethodName)) (C := "com/example/nomos/nomos/Budget") (hw _ (List.mem_of_getElem? (i := 14) rfl)) (hw _ (List.mem_of_getElem? (i := 15) rfl)) (hw _ (List.mem_of_getElem? (i := 17) rfl)) (hw _ (List.mem_of_getElem? (i := 16) rfl)) (hw _ (List.mem_of_getElem? (i := 3) rfl)) (hw _ (List.mem_of_getElem? (i := 18) rfl)) (by decide) (a := b118) Ei (argsL := [(.long a)]) (rest := []) rfl (rm3 l Z a0 hw [] b118 a l0 l0 T119.heap n0 Z119 og_b118 Ei Pi Mi) (g := (mkF m 45 #[.val (.long p1), .second, .val (.long p2), .second, .val (.long p3), .second, .val (.int p4), .val (.long l0), .second, .val (.long a), .second, .val (.ref b118), .unset, .unset, .unset, .unset, .unset, .unset, .unset, .unset, .unset, .unset] [(.long a), (.ref b118)])) rfl (by rw [hml]; rfl) (lenOf pd_1 rfl) rfl (W := 0) (by show 2 * 0 + _ ≤ _; exact Nat.le_of_eq rfl) (hb hby at_45) (by decide) (by decide) (by decide) (by decide)
    have N120 := Fr.app N119 N120q
    refine own_by st120 ?_
    show own_Go p e below _ T120 (mkF m 48 #[.val (.long p1), .second, .val (.long p2), .second, .val (.long p3), .second, .val (.int p4), .val (.long l0), .second, .val (.long a), .second, .val (.ref b118), .unset, .unset, .unset, .unset, .unset, .unset, .unset, .unset, .unset, .unset] [(.int (own_sp l0 a))])
    have Z120 : n0 ≤ T120.heap.size := Nat.le_trans Z119 K120'.1
    refine own_by (fun _ k => XS.istore X120.here hx rfl (hb hby at_48) rfl (l' := #[.val (.long p1), .second, .val (.long p2), .second, .val (.long p3), .second, .val (.int p4), .val (.long l0), .second, .val (.long a), .second, .val (.ref b118), .val (.int (own_sp l0 a)), .unset, .unset, .unset, .unset, .unset, .unset, .unset, .unset, .unset]) rfl k) ?_
    show own_Go p e below _ T120 (mkF m 50 #[.val (.long p1), .second, .val (.long p2), .second, .val (.long p3), .second, .val (.int p4), .val (.long l0), .second, .val (.long a), .second, .val (.ref b118), .val (.int (own_sp l0 a)), .unset, .unset, .unset, .unset, .unset, .unset, .unset, .unset, .unset] [])
    refine own_by (fun _ k => XS.lload X120.here hx rfl (hb hby at_50) rfl k) ?_
    show own_Go p e below _ T120 (mkF m 52 #[.val (.long p1), .second, .val (.long p2), .second, .val (.long p3), .second, .val (.int p4), .val (.long l0), .second, .val (.long a), .second, .val (.ref b118), .val (.int (own_sp l0 a)), .unset, .unset, .unset, .unset, .unset, .unset, .unset, .unset, .unset] [(.long a)])
    refine own_by (fun _ k => XS.lload X120.here hx rfl (hb hby at_52) rfl k) ?_
    show own_Go p e below _ T120 (mkF m 54 #[.val (.long p1), .second, .val (.long p2), .second, .val (.long p3), .second, .val (.int p4), .val (.long l0), .second, .val (.long a), .second, .val (.ref b118), .val (.int (own_sp l0 a)), .unset, .unset, .unset, .unset, .unset, .unset, .unset, .unset, .unset] [(.long l0), (.long a)])
    refine own_by (fun _ k => XS.lcmp X120.here hx rfl (hb hby at_54) rfl k) ?_
    show own_Go p e below _ T120 (mkF m 55 #[.val (.long p1), .second, .val (.long p2), .second, .val (.long p3), .second, .val (.int p4), .val (.long l0), .second, .val (.long a), .second, .val (.ref b118), .val (.int (own_sp l0 a)), .unset, .unset, .unset, .unset, .unset, .unset, .unset, .unset, .unset] [(.int (lcmpW a l0))])
    have J80 : ∀ (e1 : Int32) (f1 : Int64) (he1 : e1 = own_sp l0 a) (hf1 : f1 = own_lf l0 a), own_Go p e below (own_End s room_1.cells room_1.slots (Q_rm0 Z p1 p2 p3 p4 h0 n0)) T120 (mkF m 80 #[.val (.long p1), .second, .val (.long p2), .second, .val (.long p3), .second, .val (.int p4), .val (.long l0), .second, .val (.long a), .second, .val (.ref b118), .val (.int (own_sp l0 a)), .val (.int e1), .unset, .unset, .unset, .unset, .unset, .unset, .unset, .unset] [(.long f1)]) := by
      intro e1 f1 he1 hf1
      show own_Go p e below _ T120 (mkF m 80 #[.val (.long p1), .second, .val (.long p2), .second, .val (.long p3), .second, .val (.int p4), .val (.long l0), .second, .val (.long a), .second, .val (.ref b118), .val (.int (own_sp l0 a)), .val (.int e1), .unset, .unset, .unset, .unset, .unset, .unset, .unset, .unset] [(.long f1)])
      have nf1 : ¬ f1 < 0 := by rw [hf1]; exact own_lf_nn _ _ nl na
      rw [← hf1] at M120'
      rw [← he1]
      show own_Go p e below _ T120 (mkF m 80 #[.val (.long p1), .second, .val (.long p2), .second, .val (.long p3), .second, .val (.int p4), .val (.long l0), .second, .val (.long a), .second, .val (.ref b118), .val (.int e1), .val (.int e1), .unset, .unset, .unset, .unset, .unset, .unset, .unset, .unset] [(.long f1)])
      refine own_by (fun _ k => XS.lstore X120.here hx rfl (hb hby at_80) rfl (l' := #[.val (.long p1), .second, .val (.long p2), .second, .val (.long p3), .second, .val (.int p4), .val (.long l0), .second, .val (.long a), .second, .val (.ref b118), .val (.int e1), .val (.int e1), .val (.long f1), .second, .unset, .unset, .unset, .unset, .unset, .unset]) rfl k) ?_
      show own_Go p e below _ T120 (mkF m 82 #[.val (.long p1), .second, .val (.long p2), .second, .val (.long p3), .second, .val (.int p4), .val (.long l0), .second, .val (.long a), .second, .val (.ref b118), .val (.int e1), .val (.int e1), .val (.long f1), .second, .unset, .unset, .unset, .unset, .unset, .unset] [])
      refine own_by (fun _ k => XS.iload X120.here hx rfl (hb hby at_82) rfl k) ?_
      show own_Go p e below _ T120 (mkF m 84 #[.val (.long p1), .second, .val (.long p2), .second, .val (.long p3), .second, .val (.int p4), .val (.long l0), .second, .val (.long a), .second, .val (.ref b118), .val (.int e1), .val (.int e1), .val (.long f1), .second, .unset, .unset, .unset, .unset, .unset, .unset] [(.int p4)])
      refine own_by (fun _ k => XS.iconst X120.here hx rfl (hb hby at_84) k) ?_
      show own_Go p e below _ T120 (mkF m 85 #[.val (.long p1), .second, .val (.long p2), .second, .val (.long p3), .second, .val (.int p4), .val (.long l0), .second, .val (.long a), .second, .val (.ref b118), .val (.int e1), .val (.int e1), .val (.long f1), .second, .unset, .unset, .unset, .unset, .unset, .unset] [(.int (2 : Int32)), (.int p4)])
      refine own_by (fun _ k => XS.iand X120.here hx rfl (hb hby at_85) rfl k) ?_
      show own_Go p e below _ T120 (mkF m 86 #[.val (.long p1), .second, .val (.long p2), .second, .val (.long p3), .second, .val (.int p4), .val (.long l0), .second, .val (.long a), .second, .val (.ref b118), .val (.int e1), .val (.int e1), .val (.long f1), .second, .unset, .unset, .unset, .unset, .unset, .unset] [(.int (p4 &&& (2 : Int32)))])
      have J105 : ∀ (T121 : State) (L121 : List Loc) (X121 : Stand p l e room_1 s m #[(.long p1), (.long p2), (.long p3), (.int p4)] below meth c T121 L121 1 2) (e121 : T121.heap = T120.heap) (N121 : Fr n0 L121) (c2 : Int64) (nc : ¬ c2 < 0), own_Go p e below (own_End s room_1.cells room_1.slots (Q_rm0 Z p1 p2 p3 p4 h0 n0)) T121 (mkF m 105 #[.val (.long p1), .second, .val (.long p2), .second, .val (.long p3), .second, .val (.int p4), .val (.long l0), .second, .val (.long a), .second, .val (.ref b118), .val (.int e1), .val (.int e1), .val (.long f1), .second, .unset, .unset, .unset, .unset, .unset, .unset] [(.long c2)]) := by
        intro T121 L121 X121 e121 N121 c2 nc
        show own_Go p e below _ T121 (mkF m 105 #[.val (.long p1), .second, .val (.long p2), .second, .val (.long p3), .second, .val (.int p4), .val (.long l0), .second, .val (.long a), .second, .val (.ref b118), .val (.int e1), .val (.int e1), .val (.long f1), .second, .unset, .unset, .unset, .unset, .unset, .unset] [(.long c2)])
        refine own_by (fun _ k => XS.lstore X121.here hx rfl (hb hby at_105) rfl (l' := #[.val (.long p1), .second, .val (.long p2), .second, .val (.long p3), .second, .val (.int p4), .val (.long l0), .second, .val (.long a), .second, .val (.ref b118), .val (.int e1), .val (.int e1), .val (.long f1), .second, .val (.long c2), .second, .unset, .unset, .unset, .unset]) rfl k) ?_
        show own_Go p e below _ T121 (mkF m 107 #[.val (.long p1), .second, .val (.long p2), .second, .val (.long p3), .second, .val (.int p4), .val (.long l0), .second, .val (.long a), .second, .val (.ref b118), .val (.int e1), .val (.int e1), .val (.long f1), .second, .val (.long c2), .second, .unset, .unset, .unset, .unset] [])
        refine own_by (fun _ k => XS.aload X121.here hx rfl (hb hby at_107) rfl rfl k) ?_
        show own_Go p e below _ T121 (mkF m 109 #[.val (.long p1), .second, .val (.long p2), .second, .val (.long p3), .second, .val (.int p4), .val (.long l0), .second, .val (.long a), .second, .val (.ref b118), .val (.int e1), .val (.int e1), .val (.long f1), .second, .val (.long c2), .second, .unset, .unset, .unset, .unset] [(.ref b118)])
        refine own_by (fun _ k => XS.lload X121.here hx rfl (hb hby at_109) rfl k) ?_
        show own_Go p e below _ T121 (mkF m 111 #[.val (.long p1), .second, .val (.long p2), .second, .val (.long p3), .second, .val (.int p4), .val (.long l0), .second, .val (.long a), .second, .val (.ref b118), .val (.int e1), .val (.int e1), .val (.long f1), .second, .val (.long c2), .second, .unset, .unset, .unset, .unset] [(.long c2), (.ref b118)])
        obtain ⟨_, T122, L122, X122, ⟨rfl, N122q, K122', E122', P122', M122'⟩, st122⟩ := own_callV X121 hx hZ hown (y := (⟨"com/example/nomos/nomos/Budget", "spend", "(J)Z"⟩ : MethodName)) (C := "com/example/nomos/nomos/Budget") (hw _ (List.mem_of_getElem? (i := 14) rfl)) (hw _ (List.mem_of_getElem? (i := 15) rfl)) (hw _ (List.mem_of_getElem? (i := 17) rfl)) (hw _ (List.mem_of_getElem? (i := 16) rfl)) (hw _ (List.mem_of_getElem? (i := 3) rfl)) (hw _ (List.mem_of_getElem? (i := 18) rfl)) (by decide) (a := b118) E120' (argsL := [(.long c2)]) (rest := []) e121 (rm3 l Z a0 hw [] b118 c2 l0 f1 T120.heap n0 Z120 og_b118 E120' P120' M120') (g := (mkF m 111 #[.val (.long p1), .second, .val (.long p2), .second, .val (.long p3), .second, .val (.int p4), .val (.long l0), .second, .val (.long a), .second, .val (.ref b118), .val (.int e1), .val (.int e1), .val (.long f1), .second, .val (.long c2), .second, .unset, .unset, .unset, .unset] [(.long c2), (.ref b118)])) rfl (by rw [hml]; rfl) (lenOf pd_1 rfl) rfl (W := 0) (by show 2 * 0 + _ ≤ _; exact Nat.le_of_eq rfl) (hb hby at_111) (by decide) (by decide) (by decide) (by decide)
        have N122 := Fr.app N121 N122q
        refine own_by st122 ?_
        show own_Go p e below _ T122 (mkF m 114 #[.val (.long p1), .second, .val (.long p2), .second, .val (.long p3), .second, .val (.int p4), .val (.long l0), .second, .val (.long a), .second, .val (.ref b118), .val (.int e1), .val (.int e1), .val (.long f1), .second, .val (.long c2), .second, .unset, .unset, .unset, .unset] [(.int (own_sp f1 c2))])
        have Z122 : n0 ≤ T122.heap.size := Nat.le_trans Z120 K122'.1
        refine own_by (fun _ k => XS.istore X122.here hx rfl (hb hby at_114) rfl (l' := #[.val (.long p1), .second, .val (.long p2), .second, .val (.long p3), .second, .val (.int p4), .val (.long l0), .second, .val (.long a), .second, .val (.ref b118), .val (.int e1), .val (.int e1), .val (.long f1), .second, .val (.long c2), .second, .val (.int (own_sp f1 c2)), .unset, .unset, .unset]) rfl k) ?_
        show own_Go p e below _ T122 (mkF m 116 #[.val (.long p1), .second, .val (.long p2), .second, .val (.long p3), .second, .val (.int p4), .val (.long l0), .second, .val (.long a), .second, .val (.ref b118), .val (.int e1), .val (.int e1), .val (.long f1), .second, .val (.long c2), .second, .val (.int (own_sp f1 c2)), .unset, .unset, .unset] [])
        refine own_by (fun _ k => XS.lload X122.here hx rfl (hb hby at_116) rfl k) ?_
        show own_Go p e below _ T122 (mkF m 118 #[.val (.long p1), .second, .val (.long p2), .second, .val (.long p3), .second, .val (.int p4), .val (.long l0), .second, .val (.long a), .second, .val (.ref b118), .val (.int e1), .val (.int e1), .val (.long f1), .second, .val (.long c2), .second, .val (.int (own_sp f1 c2)), .unset, .unset, .unset] [(.long c2)])
        refine own_by (fun _ k => XS.lload X122.here hx rfl (hb hby at_118) rfl k) ?_
        show own_Go p e below _ T122 (mkF m 120 #[.val (.long p1), .second, .val (.long p2), .second, .val (.long p3), .second, .val (.int p4), .val (.long l0), .second, .val (.long a), .second, .val (.ref b118), .val (.int e1), .val (.int e1), .val (.long f1), .second, .val (.long c2), .second, .val (.int (own_sp f1 c2)), .unset, .unset, .unset] [(.long f1), (.long c2)])
        refine own_by (fun _ k => XS.lcmp X122.here hx rfl (hb hby at_120) rfl k) ?_
        show own_Go p e below _ T122 (mkF m 121 #[.val (.long p1), .second, .val (.long p2), .second, .val (.long p3), .second, .val (.int p4), .val (.long l0), .second, .val (.long a), .second, .val (.ref b118), .val (.int e1), .val (.int e1), .val (.long f1), .second, .val (.long c2), .second, .val (.int (own_sp f1 c2)), .unset, .unset, .unset] [(.int (lcmpW c2 f1))])
        have J146 : ∀ (e2 : Int32) (f2 : Int64) (he2 : e2 = own_sp f1 c2) (hf2 : f2 = own_lf f1 c2), own_Go p e below (own_End s room_1.cells room_1.slots (Q_rm0 Z p1 p2 p3 p4 h0 n0)) T122 (mkF m 146 #[.val (.long p1), .second, .val (.long p2), .second, .val (.long p3), .second, .val (.int p4), .val (.long l0), .second, .val (.long a), .second, .val (.ref b118), .val (.int e1), .val (.int e1), .val (.long f1), .second, .val (.long c2), .second, .val (.int (own_sp f1 c2)), .val (.int e2), .unset, .unset] [(.long f2)]) := by
          intro e2 f2 he2 hf2
          show own_Go p e below _ T122 (mkF m 146 #[.val (.long p1), .second, .val (.long p2), .second, .val (.long p3), .second, .val (.int p4), .val (.long l0), .second, .val (.long a), .second, .val (.ref b118), .val (.int e1), .val (.int e1), .val (.long f1), .second, .val (.long c2), .second, .val (.int (own_sp f1 c2)), .val (.int e2), .unset, .unset] [(.long f2)])
          have nf2 : ¬ f2 < 0 := by rw [hf2]; exact own_lf_nn _ _ nf1 nc
          rw [← hf2] at M122'
          rw [← he2]
          show own_Go p e below _ T122 (mkF m 146 #[.val (.long p1), .second, .val (.long p2), .second, .val (.long p3), .second, .val (.int p4), .val (.long l0), .second, .val (.long a), .second, .val (.ref b118), .val (.int e1), .val (.int e1), .val (.long f1), .second, .val (.long c2), .second, .val (.int e2), .val (.int e2), .unset, .unset] [(.long f2)])
          refine own_by (fun _ k => XS.lstore X122.here hx rfl (hb hby at_146) rfl (l' := #[.val (.long p1), .second, .val (.long p2), .second, .val (.long p3), .second, .val (.int p4), .val (.long l0), .second, .val (.long a), .second, .val (.ref b118), .val (.int e1), .val (.int e1), .val (.long f1), .second, .val (.long c2), .second, .val (.int e2), .val (.int e2), .val (.long f2), .second]) rfl k) ?_
          show own_Go p e below _ T122 (mkF m 148 #[.val (.long p1), .second, .val (.long p2), .second, .val (.long p3), .second, .val (.int p4), .val (.long l0), .second, .val (.long a), .second, .val (.ref b118), .val (.int e1), .val (.int e1), .val (.long f1), .second, .val (.long c2), .second, .val (.int e2), .val (.int e2), .val (.long f2), .second] [])
          refine own_by (fun _ k => XS.iload X122.here hx rfl (hb hby at_148) rfl k) ?_
          show own_Go p e below _ T122 (mkF m 150 #[.val (.long p1), .second, .val (.long p2), .second, .val (.long p3), .second, .val (.int p4), .val (.long l0), .second, .val (.long a), .second, .val (.ref b118), .val (.int e1), .val (.int e1), .val (.long f1), .second, .val (.long c2), .second, .val (.int e2), .val (.int e2), .val (.long f2), .second] [(.int e1)])
          refine own_by (fun _ k => XS.iload X122.here hx rfl (hb hby at_150) rfl k) ?_
          show own_Go p e below _ T122 (mkF m 152 #[.val (.long p1), .second, .val (.long p2), .second, .val (.long p3), .second, .val (.int p4), .val (.long l0), .second, .val (.long a), .second, .val (.ref b118), .val (.int e1), .val (.int e1), .val (.long f1), .second, .val (.long c2), .second, .val (.int e2), .val (.int e2), .val (.long f2), .second] [(.int e1), (.int e1)])
          refine own_by (fun _ k => XS.icmpNo X122.here hx rfl (hb hby at_152) rfl (teq (rfl : e1 = e1)).2 k) ?_
          show own_Go p e below _ T122 (mkF m 155 #[.val (.long p1), .second, .val (.long p2), .second, .val (.long p3), .second, .val (.int p4), .val (.long l0), .second, .val (.long a), .second, .val (.ref b118), .val (.int e1), .val (.int e1), .val (.long f1), .second, .val (.long c2), .second, .val (.int e2), .val (.int e2), .val (.long f2), .second] [])
          refine own_by (fun _ k => XS.iload X122.here hx rfl (hb hby at_155) rfl k) ?_
          show own_Go p e below _ T122 (mkF m 157 #[.val (.long p1), .second, .val (.long p2), .second, .val (.long p3), .second, .val (.int p4), .val (.long l0), .second, .val (.long a), .second, .val (.ref b118), .val (.int e1), .val (.int e1), .val (.long f1), .second, .val (.long c2), .second, .val (.int e2), .val (.int e2), .val (.long f2), .second] [(.int e2)])
          refine own_by (fun _ k => XS.iload X122.here hx rfl (hb hby at_157) rfl k) ?_
          show own_Go p e below _ T122 (mkF m 159 #[.val (.long p1), .second, .val (.long p2), .second, .val (.long p3), .second, .val (.int p4), .val (.long l0), .second, .val (.long a), .second, .val (.ref b118), .val (.int e1), .val (.int e1), .val (.long f1), .second, .val (.long c2), .second, .val (.int e2), .val (.int e2), .val (.long f2), .second] [(.int e2), (.int e2)])
          refine own_by (fun _ k => XS.icmpYes X122.here hx rfl (pc0 := 159) (pc' := 164) rfl (hb hby at_159) rfl (teq (rfl : e2 = e2)).1 (by decide) (by decide) k) ?_
          show own_Go p e below _ T122 (mkF m 164 #[.val (.long p1), .second, .val (.long p2), .second, .val (.long p3), .second, .val (.int p4), .val (.long l0), .second, .val (.long a), .second, .val (.ref b118), .val (.int e1), .val (.int e1), .val (.long f1), .second, .val (.long c2), .second, .val (.int e2), .val (.int e2), .val (.long f2), .second] [])
          refine own_by (fun _ k => XS.aload X122.here hx rfl (hb hby at_164) rfl rfl k) ?_
          show own_Go p e below _ T122 (mkF m 166 #[.val (.long p1), .second, .val (.long p2), .second, .val (.long p3), .second, .val (.int p4), .val (.long l0), .second, .val (.long a), .second, .val (.ref b118), .val (.int e1), .val (.int e1), .val (.long f1), .second, .val (.long c2), .second, .val (.int e2), .val (.int e2), .val (.long f2), .second] [(.ref b118)])
          obtain ⟨_, T123, L123, X123, ⟨rfl, N123q, e123⟩, st123⟩ := own_callV X122 hx hZ hown (y := (⟨"com/example/nomos/nomos/Budget", "limit", "()J"⟩ : MethodName)) (C := "com/example/nomos/nomos/Budget") (hw _ (List.mem_of_getElem? (i := 25) rfl)) (hw _ (List.mem_of_getElem? (i := 26) rfl)) (hw _ (List.mem_of_getElem? (i := 28) rfl)) (hw _ (List.mem_of_getElem? (i := 27) rfl)) (hw _ (List.mem_of_getElem? (i := 3) rfl)) (hw _ (List.mem_of_getElem? (i := 29) rfl)) (by decide) (a := b118) E122' (argsL := []) (rest := []) rfl (rm5 l Z a0 hw [] b118 l0 T122.heap n0 Z122 P122') (g := (mkF m 166 #[.val (.long p1), .second, .val (.long p2), .second, .val (.long p3), .second, .val (.int p4), .val (.long l0), .second, .val (.long a), .second, .val (.ref b118), .val (.int e1), .val (.int e1), .val (.long f1), .second, .val (.long c2), .second, .val (.int e2), .val (.int e2), .val (.long f2), .second] [(.ref b118)])) rfl (by rw [hml]; rfl) (lenOf pd_2 rfl) rfl (W := 0) (by show 2 * 0 + _ ≤ _; exact Nat.le_of_eq rfl) (hb hby at_166) (by decide) (by decide) (by decide) (by decide)
          have N123 := Fr.app N122 N123q
          refine own_by st123 ?_
          show own_Go p e below _ T123 (mkF m 169 #[.val (.long p1), .second, .val (.long p2), .second, .val (.long p3), .second, .val (.int p4), .val (.long l0), .second, .val (.long a), .second, .val (.ref b118), .val (.int e1), .val (.int e1), .val (.long f1), .second, .val (.long c2), .second, .val (.int e2), .val (.int e2), .val (.long f2), .second] [(.long l0)])
          refine own_by (fun _ k => XS.lload X123.here hx rfl (hb hby at_169) rfl k) ?_
          show own_Go p e below _ T123 (mkF m 171 #[.val (.long p1), .second, .val (.long p2), .second, .val (.long p3), .second, .val (.int p4), .val (.long l0), .second, .val (.long a), .second, .val (.ref b118), .val (.int e1), .val (.int e1), .val (.long f1), .second, .val (.long c2), .second, .val (.int e2), .val (.int e2), .val (.long f2), .second] [(.long l0), (.long l0)])
          refine own_by (fun _ k => XS.lcmp X123.here hx rfl (hb hby at_171) rfl k) ?_
          show own_Go p e below _ T123 (mkF m 172 #[.val (.long p1), .second, .val (.long p2), .second, .val (.long p3), .second, .val (.int p4), .val (.long l0), .second, .val (.long a), .second, .val (.ref b118), .val (.int e1), .val (.int e1), .val (.long f1), .second, .val (.long c2), .second, .val (.int e2), .val (.int e2), .val (.long f2), .second] [(.int (lcmpW l0 l0))])
          refine own_by (fun _ k => XS.ifYes X123.here hx rfl (pc0 := 172) (pc' := 177) rfl (hb hby at_172) rfl ((if0 _ _).trans (teq ((lw_eq _ _).mpr rfl : (lcmpW l0 l0) = (0 : Int32))).1) (by decide) (by decide) k) ?_
          show own_Go p e below _ T123 (mkF m 177 #[.val (.long p1), .second, .val (.long p2), .second, .val (.long p3), .second, .val (.int p4), .val (.long l0), .second, .val (.long a), .second, .val (.ref b118), .val (.int e1), .val (.int e1), .val (.long f1), .second, .val (.long c2), .second, .val (.int e2), .val (.int e2), .val (.long f2), .second] [])
          refine own_by (fun _ k => XS.lload X123.here hx rfl (hb hby at_177) rfl k) ?_
          show own_Go p e below _ T123 (mkF m 179 #[.val (.long p1), .second, .val (.long p2), .second, .val (.long p3), .second, .val (.int p4), .val (.long l0), .second, .val (.long a), .second, .val (.ref b118), .val (.int e1), .val (.int e1), .val (.long f1), .second, .val (.long c2), .second, .val (.int e2), .val (.int e2), .val (.long f2), .second] [(.long f2)])
          refine own_by (fun _ k => Stand.ldc2J X123 hx hown (mvT hZ (hw _ (List.mem_of_getElem? (i := 0) rfl))) rfl (hb hby at_179) k) ?_
          show own_Go p e below _ T123 (mkF m 182 #[.val (.long p1), .second, .val (.long p2), .second, .val (.long p3), .second, .val (.int p4), .val (.long l0), .second, .val (.long a), .second, .val (.ref b118), .val (.int e1), .val (.int e1), .val (.long f1), .second, .val (.long c2), .second, .val (.int e2), .val (.int e2), .val (.long f2), .second] [(.long (9223372036854775807 : Int64)), (.long f2)])
          refine own_by (fun _ k => XS.lcmp X123.here hx rfl (hb hby at_182) rfl k) ?_
          show own_Go p e below _ T123 (mkF m 183 #[.val (.long p1), .second, .val (.long p2), .second, .val (.long p3), .second, .val (.int p4), .val (.long l0), .second, .val (.long a), .second, .val (.ref b118), .val (.int e1), .val (.int e1), .val (.long f1), .second, .val (.long c2), .second, .val (.int e2), .val (.int e2), .val (.long f2), .second] [(.int (lcmpW f2 (9223372036854775807 : Int64)))])
          by_cases hM : f2 = 9223372036854775807
          · refine own_by (fun _ k => XS.ifYes X123.here hx rfl (pc0 := 183) (pc' := 200) rfl (hb hby at_183) rfl ((if0 _ _).trans (teq ((lw_eq _ _).mpr hM : (lcmpW f2 (9223372036854775807 : Int64)) = (0 : Int32))).1) (by decide) (by decide) k) ?_
            show own_Go p e below _ T123 (mkF m 200 #[.val (.long p1), .second, .val (.long p2), .second, .val (.long p3), .second, .val (.int p4), .val (.long l0), .second, .val (.long a), .second, .val (.ref b118), .val (.int e1), .val (.int e1), .val (.long f1), .second, .val (.long c2), .second, .val (.int e2), .val (.int e2), .val (.long f2), .second] [])
            refine own_by (fun _ k => XS.aload X123.here hx rfl (hb hby at_200) rfl rfl k) ?_
            show own_Go p e below _ T123 (mkF m 202 #[.val (.long p1), .second, .val (.long p2), .second, .val (.long p3), .second, .val (.int p4), .val (.long l0), .second, .val (.long a), .second, .val (.ref b118), .val (.int e1), .val (.int e1), .val (.long f1), .second, .val (.long c2), .second, .val (.int e2), .val (.int e2), .val (.long f2), .second] [(.ref b118)])
            refine own_by (fun _ k => XS.lload X123.here hx rfl (hb hby at_202) rfl k) ?_
            show own_Go p e below _ T123 (mkF m 204 #[.val (.long p1), .second, .val (.long p2), .second, .val (.long p3), .second, .val (.int p4), .val (.long l0), .second, .val (.long a), .second, .val (.ref b118), .val (.int e1), .val (.int e1), .val (.long f1), .second, .val (.long c2), .second, .val (.int e2), .val (.int e2), .val (.long f2), .second] [(.long f2), (.ref b118)])
            obtain ⟨_, T124, L124, X124, ⟨rfl, N124q, K124', E124', P124', M124'⟩, st124⟩ := own_callV X123 hx hZ hown (y := (⟨"com/example/nomos/nomos/Budget", "spend", "(J)Z"⟩ : MethodName)) (C := "com/example/nomos/nomos/Budget") (hw _ (List.mem_of_getElem? (i := 14) rfl)) (hw _ (List.mem_of_getElem? (i := 15) rfl)) (hw _ (List.mem_of_getElem? (i := 17) rfl)) (hw _ (List.mem_of_getElem? (i := 16) rfl)) (hw _ (List.mem_of_getElem? (i := 3) rfl)) (hw _ (List.mem_of_getElem? (i := 18) rfl)) (by decide) (a := b118) E122' (argsL := [(.long f2)]) (rest := []) e123 (rm3 l Z a0 hw [] b118 f2 l0 f2 T122.heap n0 Z122 og_b118 E122' P122' M122') (g := (mkF m 204 #[.val (.long p1), .second, .val (.long p2), .second, .val (.long p3), .second, .val (.int p4), .val (.long l0), .second, .val (.long a), .second, .val (.ref b118), .val (.int e1), .val (.int e1), .val (.long f1), .second, .val (.long c2), .second, .val (.int e2), .val (.int e2), .val (.long f2), .second] [(.long f2), (.ref b118)])) rfl (by rw [hml]; rfl) (lenOf pd_1 rfl) rfl (W := 0) (by show 2 * 0 + _ ≤ _; exact Nat.le_of_eq rfl) (hb hby at_204) (by decide) (by decide) (by decide) (by decide)
            have N124 := Fr.app N123 N124q
            refine own_by st124 ?_
            show own_Go p e below _ T124 (mkF m 207 #[.val (.long p1), .second, .val (.long p2), .second, .val (.long p3), .second, .val (.int p4), .val (.long l0), .second, .val (.long a), .second, .val (.ref b118), .val (.int e1), .val (.int e1), .val (.long f1), .second, .val (.long c2), .second, .val (.int e2), .val (.int e2), .val (.long f2), .second] [(.int (own_sp f2 f2))])
            have Z124 : n0 ≤ T124.heap.size := Nat.le_trans Z122 K124'.1
            rw [show own_lf f2 f2 = 0 from (if_neg Int64.lt_irrefl).trans (Int64.sub_self _)] at M124'
            refine own_by (fun _ k => XS.ifYes X124.here hx rfl (pc0 := 207) (pc' := 212) rfl (hb hby at_207) rfl ((if0 _ _).trans (feq (by rw [show own_sp f2 f2 = 1 from if_neg Int64.lt_irrefl]; decide : ¬ ((own_sp f2 f2) = (0 : Int32)))).2) (by decide) (by decide) k) ?_
            show own_Go p e below _ T124 (mkF m 212 #[.val (.long p1), .second, .val (.long p2), .second, .val (.long p3), .second, .val (.int p4), .val (.long l0), .second, .val (.long a), .second, .val (.ref b118), .val (.int e1), .val (.int e1), .val (.long f1), .second, .val (.long c2), .second, .val (.int e2), .val (.int e2), .val (.long f2), .second] [])
            refine own_by (fun _ k => XS.aload X124.here hx rfl (hb hby at_212) rfl rfl k) ?_
            show own_Go p e below _ T124 (mkF m 214 #[.val (.long p1), .second, .val (.long p2), .second, .val (.long p3), .second, .val (.int p4), .val (.long l0), .second, .val (.long a), .second, .val (.ref b118), .val (.int e1), .val (.int e1), .val (.long f1), .second, .val (.long c2), .second, .val (.int e2), .val (.int e2), .val (.long f2), .second] [(.ref b118)])
            refine own_by (fun _ k => XS.lconst X124.here hx rfl (hb hby at_214) k) ?_
            show own_Go p e below _ T124 (mkF m 215 #[.val (.long p1), .second, .val (.long p2), .second, .val (.long p3), .second, .val (.int p4), .val (.long l0), .second, .val (.long a), .second, .val (.ref b118), .val (.int e1), .val (.int e1), .val (.long f1), .second, .val (.long c2), .second, .val (.int e2), .val (.int e2), .val (.long f2), .second] [(.long (1 : Int64)), (.ref b118)])
            obtain ⟨_, T125, L125, X125, ⟨rfl, N125q, K125', E125', P125', M125'⟩, st125⟩ := own_callV X124 hx hZ hown (y := (⟨"com/example/nomos/nomos/Budget", "spend", "(J)Z"⟩ : MethodName)) (C := "com/example/nomos/nomos/Budget") (hw _ (List.mem_of_getElem? (i := 14) rfl)) (hw _ (List.mem_of_getElem? (i := 15) rfl)) (hw _ (List.mem_of_getElem? (i := 17) rfl)) (hw _ (List.mem_of_getElem? (i := 16) rfl)) (hw _ (List.mem_of_getElem? (i := 3) rfl)) (hw _ (List.mem_of_getElem? (i := 18) rfl)) (by decide) (a := b118) E124' (argsL := [(.long (1 : Int64))]) (rest := []) rfl (rm3 l Z a0 hw [] b118 (1 : Int64) l0 (0 : Int64) T124.heap n0 Z124 og_b118 E124' P124' M124') (g := (mkF m 215 #[.val (.long p1), .second, .val (.long p2), .second, .val (.long p3), .second, .val (.int p4), .val (.long l0), .second, .val (.long a), .second, .val (.ref b118), .val (.int e1), .val (.int e1), .val (.long f1), .second, .val (.long c2), .second, .val (.int e2), .val (.int e2), .val (.long f2), .second] [(.long (1 : Int64)), (.ref b118)])) rfl (by rw [hml]; rfl) (lenOf pd_1 rfl) rfl (W := 0) (by show 2 * 0 + _ ≤ _; exact Nat.le_of_eq rfl) (hb hby at_215) (by decide) (by decide) (by decide) (by decide)
            have N125 := Fr.app N124 N125q
            refine own_by st125 ?_
            show own_Go p e below _ T125 (mkF m 218 #[.val (.long p1), .second, .val (.long p2), .second, .val (.long p3), .second, .val (.int p4), .val (.long l0), .second, .val (.long a), .second, .val (.ref b118), .val (.int e1), .val (.int e1), .val (.long f1), .second, .val (.long c2), .second, .val (.int e2), .val (.int e2), .val (.long f2), .second] [(.int (own_sp (0 : Int64) (1 : Int64)))])
            have Z125 : n0 ≤ T125.heap.size := Nat.le_trans Z124 K125'.1
            rw [show own_lf (0 : Int64) 1 = 0 from by decide] at M125'
            refine own_by (fun _ k => XS.ifYes X125.here hx rfl (pc0 := 218) (pc' := 223) rfl (hb hby at_218) rfl ((if0 _ _).trans (teq (by decide : (own_sp (0 : Int64) (1 : Int64)) = (0 : Int32))).1) (by decide) (by decide) k) ?_
            show own_Go p e below _ T125 (mkF m 223 #[.val (.long p1), .second, .val (.long p2), .second, .val (.long p3), .second, .val (.int p4), .val (.long l0), .second, .val (.long a), .second, .val (.ref b118), .val (.int e1), .val (.int e1), .val (.long f1), .second, .val (.long c2), .second, .val (.int e2), .val (.int e2), .val (.long f2), .second] [])
            refine own_by (fun _ k => XS.aload X125.here hx rfl (hb hby at_223) rfl rfl k) ?_
            show own_Go p e below _ T125 (mkF m 225 #[.val (.long p1), .second, .val (.long p2), .second, .val (.long p3), .second, .val (.int p4), .val (.long l0), .second, .val (.long a), .second, .val (.ref b118), .val (.int e1), .val (.int e1), .val (.long f1), .second, .val (.long c2), .second, .val (.int e2), .val (.int e2), .val (.long f2), .second] [(.ref b118)])
            refine own_by (fun _ k => XS.lconst X125.here hx rfl (hb hby at_225) k) ?_
            show own_Go p e below _ T125 (mkF m 226 #[.val (.long p1), .second, .val (.long p2), .second, .val (.long p3), .second, .val (.int p4), .val (.long l0), .second, .val (.long a), .second, .val (.ref b118), .val (.int e1), .val (.int e1), .val (.long f1), .second, .val (.long c2), .second, .val (.int e2), .val (.int e2), .val (.long f2), .second] [(.long (0 : Int64)), (.ref b118)])
            obtain ⟨_, T126, L126, X126, ⟨rfl, N126q, K126', E126', P126', M126'⟩, st126⟩ := own_callV X125 hx hZ hown (y := (⟨"com/example/nomos/nomos/Budget", "spend", "(J)Z"⟩ : MethodName)) (C := "com/example/nomos/nomos/Budget") (hw _ (List.mem_of_getElem? (i := 14) rfl)) (hw _ (List.mem_of_getElem? (i := 15) rfl)) (hw _ (List.mem_of_getElem? (i := 17) rfl)) (hw _ (List.mem_of_getElem? (i := 16) rfl)) (hw _ (List.mem_of_getElem? (i := 3) rfl)) (hw _ (List.mem_of_getElem? (i := 18) rfl)) (by decide) (a := b118) E125' (argsL := [(.long (0 : Int64))]) (rest := []) rfl (rm3 l Z a0 hw [] b118 (0 : Int64) l0 (0 : Int64) T125.heap n0 Z125 og_b118 E125' P125' M125') (g := (mkF m 226 #[.val (.long p1), .second, .val (.long p2), .second, .val (.long p3), .second, .val (.int p4), .val (.long l0), .second, .val (.long a), .second, .val (.ref b118), .val (.int e1), .val (.int e1), .val (.long f1), .second, .val (.long c2), .second, .val (.int e2), .val (.int e2), .val (.long f2), .second] [(.long (0 : Int64)), (.ref b118)])) rfl (by rw [hml]; rfl) (lenOf pd_1 rfl) rfl (W := 0) (by show 2 * 0 + _ ≤ _; exact Nat.le_of_eq rfl) (hb hby at_226) (by decide) (by decide) (by decide) (by decide)
            have N126 := Fr.app N125 N126q
            refine own_by st126 ?_
            show own_Go p e below _ T126 (mkF m 229 #[.val (.long p1), .second, .val (.long p2), .second, .val (.long p3), .second, .val (.int p4), .val (.long l0), .second, .val (.long a), .second, .val (.ref b118), .val (.int e1), .val (.int e1), .val (.long f1), .second, .val (.long c2), .second, .val (.int e2), .val (.int e2), .val (.long f2), .second] [(.int (own_sp (0 : Int64) (0 : Int64)))])
            have Z126 : n0 ≤ T126.heap.size := Nat.le_trans Z125 K126'.1
            rw [show own_sp (0 : Int64) 0 = 1 from by decide]
            show own_Go p e below _ T126 (mkF m 229 #[.val (.long p1), .second, .val (.long p2), .second, .val (.long p3), .second, .val (.int p4), .val (.long l0), .second, .val (.long a), .second, .val (.ref b118), .val (.int e1), .val (.int e1), .val (.long f1), .second, .val (.long c2), .second, .val (.int e2), .val (.int e2), .val (.long f2), .second] [(.int (1 : Int32))])
            exact own_retN X126 hx hlk hret (by simp) rfl (hb hby at_229) ⟨rfl, N126⟩ (by decide) (by decide)
          · refine own_by (fun _ k => XS.ifNo X123.here hx rfl (hb hby at_183) rfl ((if0 _ _).trans (feq (fun q => hM ((lw_eq _ _).mp q) : ¬ ((lcmpW f2 (9223372036854775807 : Int64)) = (0 : Int32)))).1) k) ?_
            show own_Go p e below _ T123 (mkF m 186 #[.val (.long p1), .second, .val (.long p2), .second, .val (.long p3), .second, .val (.int p4), .val (.long l0), .second, .val (.long a), .second, .val (.ref b118), .val (.int e1), .val (.int e1), .val (.long f1), .second, .val (.long c2), .second, .val (.int e2), .val (.int e2), .val (.long f2), .second] [])
            refine own_by (fun _ k => XS.aload X123.here hx rfl (hb hby at_186) rfl rfl k) ?_
            show own_Go p e below _ T123 (mkF m 188 #[.val (.long p1), .second, .val (.long p2), .second, .val (.long p3), .second, .val (.int p4), .val (.long l0), .second, .val (.long a), .second, .val (.ref b118), .val (.int e1), .val (.int e1), .val (.long f1), .second, .val (.long c2), .second, .val (.int e2), .val (.int e2), .val (.long f2), .second] [(.ref b118)])
            refine own_by (fun _ k => XS.lload X123.here hx rfl (hb hby at_188) rfl k) ?_
            show own_Go p e below _ T123 (mkF m 190 #[.val (.long p1), .second, .val (.long p2), .second, .val (.long p3), .second, .val (.int p4), .val (.long l0), .second, .val (.long a), .second, .val (.ref b118), .val (.int e1), .val (.int e1), .val (.long f1), .second, .val (.long c2), .second, .val (.int e2), .val (.int e2), .val (.long f2), .second] [(.long f2), (.ref b118)])
            refine own_by (fun _ k => XS.lconst X123.here hx rfl (hb hby at_190) k) ?_
            show own_Go p e below _ T123 (mkF m 191 #[.val (.long p1), .second, .val (.long p2), .second, .val (.long p3), .second, .val (.int p4), .val (.long l0), .second, .val (.long a), .second, .val (.ref b118), .val (.int e1), .val (.int e1), .val (.long f1), .second, .val (.long c2), .second, .val (.int e2), .val (.int e2), .val (.long f2), .second] [(.long (1 : Int64)), (.long f2), (.ref b118)])
            refine own_by (fun _ k => XS.ladd X123.here hx rfl (hb hby at_191) rfl k) ?_
            show own_Go p e below _ T123 (mkF m 192 #[.val (.long p1), .second, .val (.long p2), .second, .val (.long p3), .second, .val (.int p4), .val (.long l0), .second, .val (.long a), .second, .val (.ref b118), .val (.int e1), .val (.int e1), .val (.long f1), .second, .val (.long c2), .second, .val (.int e2), .val (.int e2), .val (.long f2), .second] [(.long (f2 + (1 : Int64))), (.ref b118)])
            obtain ⟨_, T127, L127, X127, ⟨rfl, N127q, K127', E127', P127', M127'⟩, st127⟩ := own_callV X123 hx hZ hown (y := (⟨"com/example/nomos/nomos/Budget", "spend", "(J)Z"⟩ : MethodName)) (C := "com/example/nomos/nomos/Budget") (hw _ (List.mem_of_getElem? (i := 14) rfl)) (hw _ (List.mem_of_getElem? (i := 15) rfl)) (hw _ (List.mem_of_getElem? (i := 17) rfl)) (hw _ (List.mem_of_getElem? (i := 16) rfl)) (hw _ (List.mem_of_getElem? (i := 3) rfl)) (hw _ (List.mem_of_getElem? (i := 18) rfl)) (by decide) (a := b118) E122' (argsL := [(.long (f2 + (1 : Int64)))]) (rest := []) e123 (rm3 l Z a0 hw [] b118 (f2 + (1 : Int64)) l0 f2 T122.heap n0 Z122 og_b118 E122' P122' M122') (g := (mkF m 192 #[.val (.long p1), .second, .val (.long p2), .second, .val (.long p3), .second, .val (.int p4), .val (.long l0), .second, .val (.long a), .second, .val (.ref b118), .val (.int e1), .val (.int e1), .val (.long f1), .second, .val (.long c2), .second, .val (.int e2), .val (.int e2), .val (.long f2), .second] [(.long (f2 + (1 : Int64))), (.ref b118)])) rfl (by rw [hml]; rfl) (lenOf pd_1 rfl) rfl (W := 0) (by show 2 * 0 + _ ≤ _; exact Nat.le_of_eq rfl) (hb hby at_192) (by decide) (by decide) (by decide) (by decide)
            have N127 := Fr.app N123 N127q
            refine own_by st127 ?_
            show own_Go p e below _ T127 (mkF m 195 #[.val (.long p1), .second, .val (.long p2), .second, .val (.long p3), .second, .val (.int p4), .val (.long l0), .second, .val (.long a), .second, .val (.ref b118), .val (.int e1), .val (.int e1), .val (.long f1), .second, .val (.long c2), .second, .val (.int e2), .val (.int e2), .val (.long f2), .second] [(.int (own_sp f2 (f2 + (1 : Int64))))])
            have Z127 : n0 ≤ T127.heap.size := Nat.le_trans Z122 K127'.1
            have ho := own_over f2 hM
            rw [show own_lf f2 (f2 + (1 : Int64)) = f2 from if_pos ho] at M127'
            refine own_by (fun _ k => XS.ifYes X127.here hx rfl (pc0 := 195) (pc' := 200) rfl (hb hby at_195) rfl ((if0 _ _).trans (teq (if_pos ho : (own_sp f2 (f2 + (1 : Int64))) = (0 : Int32))).1) (by decide) (by decide) k) ?_
            show own_Go p e below _ T127 (mkF m 200 #[.val (.long p1), .second, .val (.long p2), .second, .val (.long p3), .second, .val (.int p4), .val (.long l0), .second, .val (.long a), .second, .val (.ref b118), .val (.int e1), .val (.int e1), .val (.long f1), .second, .val (.long c2), .second, .val (.int e2), .val (.int e2), .val (.long f2), .second] [])
            refine own_by (fun _ k => XS.aload X127.here hx rfl (hb hby at_200) rfl rfl k) ?_
            show own_Go p e below _ T127 (mkF m 202 #[.val (.long p1), .second, .val (.long p2), .second, .val (.long p3), .second, .val (.int p4), .val (.long l0), .second, .val (.long a), .second, .val (.ref b118), .val (.int e1), .val (.int e1), .val (.long f1), .second, .val (.long c2), .second, .val (.int e2), .val (.int e2), .val (.long f2), .second] [(.ref b118)])
            refine own_by (fun _ k => XS.lload X127.here hx rfl (hb hby at_202) rfl k) ?_
            show own_Go p e below _ T127 (mkF m 204 #[.val (.long p1), .second, .val (.long p2), .second, .val (.long p3), .second, .val (.int p4), .val (.long l0), .second, .val (.long a), .second, .val (.ref b118), .val (.int e1), .val (.int e1), .val (.long f1), .second, .val (.long c2), .second, .val (.int e2), .val (.int e2), .val (.long f2), .second] [(.long f2), (.ref b118)])
            obtain ⟨_, T128, L128, X128, ⟨rfl, N128q, K128', E128', P128', M128'⟩, st128⟩ := own_callV X127 hx hZ hown (y := (⟨"com/example/nomos/nomos/Budget", "spend", "(J)Z"⟩ : MethodName)) (C := "com/example/nomos/nomos/Budget") (hw _ (List.mem_of_getElem? (i := 14) rfl)) (hw _ (List.mem_of_getElem? (i := 15) rfl)) (hw _ (List.mem_of_getElem? (i := 17) rfl)) (hw _ (List.mem_of_getElem? (i := 16) rfl)) (hw _ (List.mem_of_getElem? (i := 3) rfl)) (hw _ (List.mem_of_getElem? (i := 18) rfl)) (by decide) (a := b118) E127' (argsL := [(.long f2)]) (rest := []) rfl (rm3 l Z a0 hw [] b118 f2 l0 f2 T127.heap n0 Z127 og_b118 E127' P127' M127') (g := (mkF m 204 #[.val (.long p1), .second, .val (.long p2), .second, .val (.long p3), .second, .val (.int p4), .val (.long l0), .second, .val (.long a), .second, .val (.ref b118), .val (.int e1), .val (.int e1), .val (.long f1), .second, .val (.long c2), .second, .val (.int e2), .val (.int e2), .val (.long f2), .second] [(.long f2), (.ref b118)])) rfl (by rw [hml]; rfl) (lenOf pd_1 rfl) rfl (W := 0) (by show 2 * 0 + _ ≤ _; exact Nat.le_of_eq rfl) (hb hby at_204) (by decide) (by decide) (by decide) (by decide)
            have N128 := Fr.app N127 N128q
            refine own_by st128 ?_
            show own_Go p e below _ T128 (mkF m 207 #[.val (.long p1), .second, .val (.long p2), .second, .val (.long p3), .second, .val (.int p4), .val (.long l0), .second, .val (.long a), .second, .val (.ref b118), .val (.int e1), .val (.int e1), .val (.long f1), .second, .val (.long c2), .second, .val (.int e2), .val (.int e2), .val (.long f2), .second] [(.int (own_sp f2 f2))])
            have Z128 : n0 ≤ T128.heap.size := Nat.le_trans Z127 K128'.1
            rw [show own_lf f2 f2 = 0 from (if_neg Int64.lt_irrefl).trans (Int64.sub_self _)] at M128'
            refine own_by (fun _ k => XS.ifYes X128.here hx rfl (pc0 := 207) (pc' := 212) rfl (hb hby at_207) rfl ((if0 _ _).trans (feq (by rw [show own_sp f2 f2 = 1 from if_neg Int64.lt_irrefl]; decide : ¬ ((own_sp f2 f2) = (0 : Int32)))).2) (by decide) (by decide) k) ?_
            show own_Go p e below _ T128 (mkF m 212 #[.val (.long p1), .second, .val (.long p2), .second, .val (.long p3), .second, .val (.int p4), .val (.long l0), .second, .val (.long a), .second, .val (.ref b118), .val (.int e1), .val (.int e1), .val (.long f1), .second, .val (.long c2), .second, .val (.int e2), .val (.int e2), .val (.long f2), .second] [])
            refine own_by (fun _ k => XS.aload X128.here hx rfl (hb hby at_212) rfl rfl k) ?_
            show own_Go p e below _ T128 (mkF m 214 #[.val (.long p1), .second, .val (.long p2), .second, .val (.long p3), .second, .val (.int p4), .val (.long l0), .second, .val (.long a), .second, .val (.ref b118), .val (.int e1), .val (.int e1), .val (.long f1), .second, .val (.long c2), .second, .val (.int e2), .val (.int e2), .val (.long f2), .second] [(.ref b118)])
            refine own_by (fun _ k => XS.lconst X128.here hx rfl (hb hby at_214) k) ?_
            show own_Go p e below _ T128 (mkF m 215 #[.val (.long p1), .second, .val (.long p2), .second, .val (.long p3), .second, .val (.int p4), .val (.long l0), .second, .val (.long a), .second, .val (.ref b118), .val (.int e1), .val (.int e1), .val (.long f1), .second, .val (.long c2), .second, .val (.int e2), .val (.int e2), .val (.long f2), .second] [(.long (1 : Int64)), (.ref b118)])
            obtain ⟨_, T129, L129, X129, ⟨rfl, N129q, K129', E129', P129', M129'⟩, st129⟩ := own_callV X128 hx hZ hown (y := (⟨"com/example/nomos/nomos/Budget", "spend", "(J)Z"⟩ : MethodName)) (C := "com/example/nomos/nomos/Budget") (hw _ (List.mem_of_getElem? (i := 14) rfl)) (hw _ (List.mem_of_getElem? (i := 15) rfl)) (hw _ (List.mem_of_getElem? (i := 17) rfl)) (hw _ (List.mem_of_getElem? (i := 16) rfl)) (hw _ (List.mem_of_getElem? (i := 3) rfl)) (hw _ (List.mem_of_getElem? (i := 18) rfl)) (by decide) (a := b118) E128' (argsL := [(.long (1 : Int64))]) (rest := []) rfl (rm3 l Z a0 hw [] b118 (1 : Int64) l0 (0 : Int64) T128.heap n0 Z128 og_b118 E128' P128' M128') (g := (mkF m 215 #[.val (.long p1), .second, .val (.long p2), .second, .val (.long p3), .second, .val (.int p4), .val (.long l0), .second, .val (.long a), .second, .val (.ref b118), .val (.int e1), .val (.int e1), .val (.long f1), .second, .val (.long c2), .second, .val (.int e2), .val (.int e2), .val (.long f2), .second] [(.long (1 : Int64)), (.ref b118)])) rfl (by rw [hml]; rfl) (lenOf pd_1 rfl) rfl (W := 0) (by show 2 * 0 + _ ≤ _; exact Nat.le_of_eq rfl) (hb hby at_215) (by decide) (by decide) (by decide) (by decide)
            have N129 := Fr.app N128 N129q
            refine own_by st129 ?_
            show own_Go p e below _ T129 (mkF m 218 #[.val (.long p1), .second, .val (.long p2), .second, .val (.long p3), .second, .val (.int p4), .val (.long l0), .second, .val (.long a), .second, .val (.ref b118), .val (.int e1), .val (.int e1), .val (.long f1), .second, .val (.long c2), .second, .val (.int e2), .val (.int e2), .val (.long f2), .second] [(.int (own_sp (0 : Int64) (1 : Int64)))])
            have Z129 : n0 ≤ T129.heap.size := Nat.le_trans Z128 K129'.1
            rw [show own_lf (0 : Int64) 1 = 0 from by decide] at M129'
            refine own_by (fun _ k => XS.ifYes X129.here hx rfl (pc0 := 218) (pc' := 223) rfl (hb hby at_218) rfl ((if0 _ _).trans (teq (by decide : (own_sp (0 : Int64) (1 : Int64)) = (0 : Int32))).1) (by decide) (by decide) k) ?_
            show own_Go p e below _ T129 (mkF m 223 #[.val (.long p1), .second, .val (.long p2), .second, .val (.long p3), .second, .val (.int p4), .val (.long l0), .second, .val (.long a), .second, .val (.ref b118), .val (.int e1), .val (.int e1), .val (.long f1), .second, .val (.long c2), .second, .val (.int e2), .val (.int e2), .val (.long f2), .second] [])
            refine own_by (fun _ k => XS.aload X129.here hx rfl (hb hby at_223) rfl rfl k) ?_
            show own_Go p e below _ T129 (mkF m 225 #[.val (.long p1), .second, .val (.long p2), .second, .val (.long p3), .second, .val (.int p4), .val (.long l0), .second, .val (.long a), .second, .val (.ref b118), .val (.int e1), .val (.int e1), .val (.long f1), .second, .val (.long c2), .second, .val (.int e2), .val (.int e2), .val (.long f2), .second] [(.ref b118)])
            refine own_by (fun _ k => XS.lconst X129.here hx rfl (hb hby at_225) k) ?_
            show own_Go p e below _ T129 (mkF m 226 #[.val (.long p1), .second, .val (.long p2), .second, .val (.long p3), .second, .val (.int p4), .val (.long l0), .second, .val (.long a), .second, .val (.ref b118), .val (.int e1), .val (.int e1), .val (.long f1), .second, .val (.long c2), .second, .val (.int e2), .val (.int e2), .val (.long f2), .second] [(.long (0 : Int64)), (.ref b118)])
            obtain ⟨_, T130, L130, X130, ⟨rfl, N130q, K130', E130', P130', M130'⟩, st130⟩ := own_callV X129 hx hZ hown (y := (⟨"com/example/nomos/nomos/Budget", "spend", "(J)Z"⟩ : MethodName)) (C := "com/example/nomos/nomos/Budget") (hw _ (List.mem_of_getElem? (i := 14) rfl)) (hw _ (List.mem_of_getElem? (i := 15) rfl)) (hw _ (List.mem_of_getElem? (i := 17) rfl)) (hw _ (List.mem_of_getElem? (i := 16) rfl)) (hw _ (List.mem_of_getElem? (i := 3) rfl)) (hw _ (List.mem_of_getElem? (i := 18) rfl)) (by decide) (a := b118) E129' (argsL := [(.long (0 : Int64))]) (rest := []) rfl (rm3 l Z a0 hw [] b118 (0 : Int64) l0 (0 : Int64) T129.heap n0 Z129 og_b118 E129' P129' M129') (g := (mkF m 226 #[.val (.long p1), .second, .val (.long p2), .second, .val (.long p3), .second, .val (.int p4), .val (.long l0), .second, .val (.long a), .second, .val (.ref b118), .val (.int e1), .val (.int e1), .val (.long f1), .second, .val (.long c2), .second, .val (.int e2), .val (.int e2), .val (.long f2), .second] [(.long (0 : Int64)), (.ref b118)])) rfl (by rw [hml]; rfl) (lenOf pd_1 rfl) rfl (W := 0) (by show 2 * 0 + _ ≤ _; exact Nat.le_of_eq rfl) (hb hby at_226) (by decide) (by decide) (by decide) (by decide)
            have N130 := Fr.app N129 N130q
            refine own_by st130 ?_
            show own_Go p e below _ T130 (mkF m 229 #[.val (.long p1), .second, .val (.long p2), .second, .val (.long p3), .second, .val (.int p4), .val (.long l0), .second, .val (.long a), .second, .val (.ref b118), .val (.int e1), .val (.int e1), .val (.long f1), .second, .val (.long c2), .second, .val (.int e2), .val (.int e2), .val (.long f2), .second] [(.int (own_sp (0 : Int64) (0 : Int64)))])
            have Z130 : n0 ≤ T130.heap.size := Nat.le_trans Z129 K130'.1
            rw [show own_sp (0 : Int64) 0 = 1 from by decide]
            show own_Go p e below _ T130 (mkF m 229 #[.val (.long p1), .second, .val (.long p2), .second, .val (.long p3), .second, .val (.int p4), .val (.long l0), .second, .val (.long a), .second, .val (.ref b118), .val (.int e1), .val (.int e1), .val (.long f1), .second, .val (.long c2), .second, .val (.int e2), .val (.int e2), .val (.long f2), .second] [(.int (1 : Int32))])
            exact own_retN X130 hx hlk hret (by simp) rfl (hb hby at_229) ⟨rfl, N130⟩ (by decide) (by decide)
        by_cases hq : f1 < c2
        · refine own_by (fun _ k => XS.ifYes X122.here hx rfl (pc0 := 121) (pc' := 128) rfl (hb hby at_121) rfl ((if0 _ _).trans (tlt ((lw_gt _ _).mpr hq : (0 : Int32) < (lcmpW c2 f1))).2.2.1) (by decide) (by decide) k) ?_
          show own_Go p e below _ T122 (mkF m 128 #[.val (.long p1), .second, .val (.long p2), .second, .val (.long p3), .second, .val (.int p4), .val (.long l0), .second, .val (.long a), .second, .val (.ref b118), .val (.int e1), .val (.int e1), .val (.long f1), .second, .val (.long c2), .second, .val (.int (own_sp f1 c2)), .unset, .unset, .unset] [])
          refine own_by (fun _ k => XS.iconst X122.here hx rfl (hb hby at_128) k) ?_
          show own_Go p e below _ T122 (mkF m 129 #[.val (.long p1), .second, .val (.long p2), .second, .val (.long p3), .second, .val (.int p4), .val (.long l0), .second, .val (.long a), .second, .val (.ref b118), .val (.int e1), .val (.int e1), .val (.long f1), .second, .val (.long c2), .second, .val (.int (own_sp f1 c2)), .unset, .unset, .unset] [(.int (0 : Int32))])
          refine own_by (fun _ k => XS.istore X122.here hx rfl (hb hby at_129) rfl (l' := #[.val (.long p1), .second, .val (.long p2), .second, .val (.long p3), .second, .val (.int p4), .val (.long l0), .second, .val (.long a), .second, .val (.ref b118), .val (.int e1), .val (.int e1), .val (.long f1), .second, .val (.long c2), .second, .val (.int (own_sp f1 c2)), .val (.int (0 : Int32)), .unset, .unset]) rfl k) ?_
          show own_Go p e below _ T122 (mkF m 131 #[.val (.long p1), .second, .val (.long p2), .second, .val (.long p3), .second, .val (.int p4), .val (.long l0), .second, .val (.long a), .second, .val (.ref b118), .val (.int e1), .val (.int e1), .val (.long f1), .second, .val (.long c2), .second, .val (.int (own_sp f1 c2)), .val (.int (0 : Int32)), .unset, .unset] [])
          refine own_by (fun _ k => XS.iload X122.here hx rfl (hb hby at_131) rfl k) ?_
          show own_Go p e below _ T122 (mkF m 133 #[.val (.long p1), .second, .val (.long p2), .second, .val (.long p3), .second, .val (.int p4), .val (.long l0), .second, .val (.long a), .second, .val (.ref b118), .val (.int e1), .val (.int e1), .val (.long f1), .second, .val (.long c2), .second, .val (.int (own_sp f1 c2)), .val (.int (0 : Int32)), .unset, .unset] [(.int (0 : Int32))])
          refine own_by (fun _ k => XS.ifYes X122.here hx rfl (pc0 := 133) (pc' := 144) rfl (hb hby at_133) rfl ((if0 _ _).trans (teq (by decide : (0 : Int32) = (0 : Int32))).1) (by decide) (by decide) k) ?_
          show own_Go p e below _ T122 (mkF m 144 #[.val (.long p1), .second, .val (.long p2), .second, .val (.long p3), .second, .val (.int p4), .val (.long l0), .second, .val (.long a), .second, .val (.ref b118), .val (.int e1), .val (.int e1), .val (.long f1), .second, .val (.long c2), .second, .val (.int (own_sp f1 c2)), .val (.int (0 : Int32)), .unset, .unset] [])
          refine own_by (fun _ k => XS.lload X122.here hx rfl (hb hby at_144) rfl k) ?_
          show own_Go p e below _ T122 (mkF m 146 #[.val (.long p1), .second, .val (.long p2), .second, .val (.long p3), .second, .val (.int p4), .val (.long l0), .second, .val (.long a), .second, .val (.ref b118), .val (.int e1), .val (.int e1), .val (.long f1), .second, .val (.long c2), .second, .val (.int (own_sp f1 c2)), .val (.int (0 : Int32)), .unset, .unset] [(.long f1)])
          exact J146 _ _ (if_pos hq).symm (if_pos hq).symm
        · refine own_by (fun _ k => XS.ifNo X122.here hx rfl (hb hby at_121) rfl ((if0 _ _).trans (flt (fun q => hq ((lw_gt _ _).mp q) : ¬ ((0 : Int32) < (lcmpW c2 f1)))).2.2.1) k) ?_
          show own_Go p e below _ T122 (mkF m 124 #[.val (.long p1), .second, .val (.long p2), .second, .val (.long p3), .second, .val (.int p4), .val (.long l0), .second, .val (.long a), .second, .val (.ref b118), .val (.int e1), .val (.int e1), .val (.long f1), .second, .val (.long c2), .second, .val (.int (own_sp f1 c2)), .unset, .unset, .unset] [])
          refine own_by (fun _ k => XS.iconst X122.here hx rfl (hb hby at_124) k) ?_
          show own_Go p e below _ T122 (mkF m 125 #[.val (.long p1), .second, .val (.long p2), .second, .val (.long p3), .second, .val (.int p4), .val (.long l0), .second, .val (.long a), .second, .val (.ref b118), .val (.int e1), .val (.int e1), .val (.long f1), .second, .val (.long c2), .second, .val (.int (own_sp f1 c2)), .unset, .unset, .unset] [(.int (1 : Int32))])
          refine own_by (fun _ k => XS.goto X122.here hx rfl (pc0 := 125) (pc' := 129) rfl (hb hby at_125) (by decide) (by decide) k) ?_
          show own_Go p e below _ T122 (mkF m 129 #[.val (.long p1), .second, .val (.long p2), .second, .val (.long p3), .second, .val (.int p4), .val (.long l0), .second, .val (.long a), .second, .val (.ref b118), .val (.int e1), .val (.int e1), .val (.long f1), .second, .val (.long c2), .second, .val (.int (own_sp f1 c2)), .unset, .unset, .unset] [(.int (1 : Int32))])
          refine own_by (fun _ k => XS.istore X122.here hx rfl (hb hby at_129) rfl (l' := #[.val (.long p1), .second, .val (.long p2), .second, .val (.long p3), .second, .val (.int p4), .val (.long l0), .second, .val (.long a), .second, .val (.ref b118), .val (.int e1), .val (.int e1), .val (.long f1), .second, .val (.long c2), .second, .val (.int (own_sp f1 c2)), .val (.int (1 : Int32)), .unset, .unset]) rfl k) ?_
          show own_Go p e below _ T122 (mkF m 131 #[.val (.long p1), .second, .val (.long p2), .second, .val (.long p3), .second, .val (.int p4), .val (.long l0), .second, .val (.long a), .second, .val (.ref b118), .val (.int e1), .val (.int e1), .val (.long f1), .second, .val (.long c2), .second, .val (.int (own_sp f1 c2)), .val (.int (1 : Int32)), .unset, .unset] [])
          refine own_by (fun _ k => XS.iload X122.here hx rfl (hb hby at_131) rfl k) ?_
          show own_Go p e below _ T122 (mkF m 133 #[.val (.long p1), .second, .val (.long p2), .second, .val (.long p3), .second, .val (.int p4), .val (.long l0), .second, .val (.long a), .second, .val (.ref b118), .val (.int e1), .val (.int e1), .val (.long f1), .second, .val (.long c2), .second, .val (.int (own_sp f1 c2)), .val (.int (1 : Int32)), .unset, .unset] [(.int (1 : Int32))])
          refine own_by (fun _ k => XS.ifNo X122.here hx rfl (hb hby at_133) rfl ((if0 _ _).trans (feq (by decide : ¬ ((1 : Int32) = (0 : Int32)))).1) k) ?_
          show own_Go p e below _ T122 (mkF m 136 #[.val (.long p1), .second, .val (.long p2), .second, .val (.long p3), .second, .val (.int p4), .val (.long l0), .second, .val (.long a), .second, .val (.ref b118), .val (.int e1), .val (.int e1), .val (.long f1), .second, .val (.long c2), .second, .val (.int (own_sp f1 c2)), .val (.int (1 : Int32)), .unset, .unset] [])
          refine own_by (fun _ k => XS.lload X122.here hx rfl (hb hby at_136) rfl k) ?_
          show own_Go p e below _ T122 (mkF m 138 #[.val (.long p1), .second, .val (.long p2), .second, .val (.long p3), .second, .val (.int p4), .val (.long l0), .second, .val (.long a), .second, .val (.ref b118), .val (.int e1), .val (.int e1), .val (.long f1), .second, .val (.long c2), .second, .val (.int (own_sp f1 c2)), .val (.int (1 : Int32)), .unset, .unset] [(.long f1)])
          refine own_by (fun _ k => XS.lload X122.here hx rfl (hb hby at_138) rfl k) ?_
          show own_Go p e below _ T122 (mkF m 140 #[.val (.long p1), .second, .val (.long p2), .second, .val (.long p3), .second, .val (.int p4), .val (.long l0), .second, .val (.long a), .second, .val (.ref b118), .val (.int e1), .val (.int e1), .val (.long f1), .second, .val (.long c2), .second, .val (.int (own_sp f1 c2)), .val (.int (1 : Int32)), .unset, .unset] [(.long c2), (.long f1)])
          refine own_by (fun _ k => XS.lsub X122.here hx rfl (hb hby at_140) rfl k) ?_
          show own_Go p e below _ T122 (mkF m 141 #[.val (.long p1), .second, .val (.long p2), .second, .val (.long p3), .second, .val (.int p4), .val (.long l0), .second, .val (.long a), .second, .val (.ref b118), .val (.int e1), .val (.int e1), .val (.long f1), .second, .val (.long c2), .second, .val (.int (own_sp f1 c2)), .val (.int (1 : Int32)), .unset, .unset] [(.long (f1 - c2))])
          refine own_by (fun _ k => XS.goto X122.here hx rfl (pc0 := 141) (pc' := 146) rfl (hb hby at_141) (by decide) (by decide) k) ?_
          show own_Go p e below _ T122 (mkF m 146 #[.val (.long p1), .second, .val (.long p2), .second, .val (.long p3), .second, .val (.int p4), .val (.long l0), .second, .val (.long a), .second, .val (.ref b118), .val (.int e1), .val (.int e1), .val (.long f1), .second, .val (.long c2), .second, .val (.int (own_sp f1 c2)), .val (.int (1 : Int32)), .unset, .unset] [(.long (f1 - c2))])
          exact J146 _ _ (if_neg hq).symm (if_neg hq).symm
      by_cases hm2 : (p4 &&& (2 : Int32)) = (0 : Int32)
      · refine own_by (fun _ k => XS.ifYes X120.here hx rfl (pc0 := 86) (pc' := 99) rfl (hb hby at_86) rfl ((if0 _ _).trans (teq (hm2 : (p4 &&& (2 : Int32)) = (0 : Int32))).1) (by decide) (by decide) k) ?_
        show own_Go p e below _ T120 (mkF m 99 #[.val (.long p1), .second, .val (.long p2), .second, .val (.long p3), .second, .val (.int p4), .val (.long l0), .second, .val (.long a), .second, .val (.ref b118), .val (.int e1), .val (.int e1), .val (.long f1), .second, .unset, .unset, .unset, .unset, .unset, .unset] [])
        refine own_by (fun _ k => XS.lload X120.here hx rfl (hb hby at_99) rfl k) ?_
        show own_Go p e below _ T120 (mkF m 101 #[.val (.long p1), .second, .val (.long p2), .second, .val (.long p3), .second, .val (.int p4), .val (.long l0), .second, .val (.long a), .second, .val (.ref b118), .val (.int e1), .val (.int e1), .val (.long f1), .second, .unset, .unset, .unset, .unset, .unset, .unset] [(.long p3)])
        refine own_by (fun _ k => Stand.ldc2J X120 hx hown (mvT hZ (hw _ (List.mem_of_getElem? (i := 0) rfl))) rfl (hb hby at_101) k) ?_
        show own_Go p e below _ T120 (mkF m 104 #[.val (.long p1), .second, .val (.long p2), .second, .val (.long p3), .second, .val (.int p4), .val (.long l0), .second, .val (.long a), .second, .val (.ref b118), .val (.int e1), .val (.int e1), .val (.long f1), .second, .unset, .unset, .unset, .unset, .unset, .unset] [(.long (9223372036854775807 : Int64)), (.long p3)])
        refine own_by (fun _ k => XS.land X120.here hx rfl (hb hby at_104) rfl k) ?_
        show own_Go p e below _ T120 (mkF m 105 #[.val (.long p1), .second, .val (.long p2), .second, .val (.long p3), .second, .val (.int p4), .val (.long l0), .second, .val (.long a), .second, .val (.ref b118), .val (.int e1), .val (.int e1), .val (.long f1), .second, .unset, .unset, .unset, .unset, .unset, .unset] [(.long (p3 &&& (9223372036854775807 : Int64)))])
        exact J105 T120 _ X120 rfl N120 _ (own_mx _)
      · refine own_by (fun _ k => XS.ifNo X120.here hx rfl (hb hby at_86) rfl ((if0 _ _).trans (feq (hm2 : ¬ ((p4 &&& (2 : Int32)) = (0 : Int32)))).1) k) ?_
        show own_Go p e below _ T120 (mkF m 89 #[.val (.long p1), .second, .val (.long p2), .second, .val (.long p3), .second, .val (.int p4), .val (.long l0), .second, .val (.long a), .second, .val (.ref b118), .val (.int e1), .val (.int e1), .val (.long f1), .second, .unset, .unset, .unset, .unset, .unset, .unset] [])
        refine own_by (fun _ k => XS.lload X120.here hx rfl (hb hby at_89) rfl k) ?_
        show own_Go p e below _ T120 (mkF m 91 #[.val (.long p1), .second, .val (.long p2), .second, .val (.long p3), .second, .val (.int p4), .val (.long l0), .second, .val (.long a), .second, .val (.ref b118), .val (.int e1), .val (.int e1), .val (.long f1), .second, .unset, .unset, .unset, .unset, .unset, .unset] [(.long f1)])
        refine own_by (fun _ k => XS.lload X120.here hx rfl (hb hby at_91) rfl k) ?_
        show own_Go p e below _ T120 (mkF m 93 #[.val (.long p1), .second, .val (.long p2), .second, .val (.long p3), .second, .val (.int p4), .val (.long l0), .second, .val (.long a), .second, .val (.ref b118), .val (.int e1), .val (.int e1), .val (.long f1), .second, .unset, .unset, .unset, .unset, .unset, .unset] [(.long p3), (.long f1)])
        obtain ⟨_, T131, L131, X131, ⟨rfl, N131q, e131⟩, st131⟩ := own_callS X120 hx hZ hown (y := (⟨"com/example/nomos/nomos/BudgetSpendPinLaw", "near", "(JJ)J"⟩ : MethodName)) (hw _ (List.mem_of_getElem? (i := 19) rfl)) (hw _ (List.mem_of_getElem? (i := 20) rfl)) (hw _ (List.mem_of_getElem? (i := 21) rfl)) (hw _ (List.mem_of_getElem? (i := 22) rfl)) (by decide) (argsL := [(.long f1), (.long p3)]) (rest := []) rfl (rm4 l Z a0 hw [] f1 p3 T120.heap n0 Z120) (g := (mkF m 93 #[.val (.long p1), .second, .val (.long p2), .second, .val (.long p3), .second, .val (.int p4), .val (.long l0), .second, .val (.long a), .second, .val (.ref b118), .val (.int e1), .val (.int e1), .val (.long f1), .second, .unset, .unset, .unset, .unset, .unset, .unset] [(.long p3), (.long f1)])) rfl (by rw [hml]; rfl) (lenOf pd_3 rfl) rfl (W := 0) (by show 2 * 0 + _ ≤ _; exact Nat.le_of_eq rfl) (hb hby at_93) (by decide) (by decide) (by decide) (by decide)
        have N131 := Fr.app N120 N131q
        refine own_by st131 ?_
        show own_Go p e below _ T131 (mkF m 96 #[.val (.long p1), .second, .val (.long p2), .second, .val (.long p3), .second, .val (.int p4), .val (.long l0), .second, .val (.long a), .second, .val (.ref b118), .val (.int e1), .val (.int e1), .val (.long f1), .second, .unset, .unset, .unset, .unset, .unset, .unset] [(.long (own_near f1 p3))])
        refine own_by (fun _ k => XS.goto X131.here hx rfl (pc0 := 96) (pc' := 105) rfl (hb hby at_96) (by decide) (by decide) k) ?_
        show own_Go p e below _ T131 (mkF m 105 #[.val (.long p1), .second, .val (.long p2), .second, .val (.long p3), .second, .val (.int p4), .val (.long l0), .second, .val (.long a), .second, .val (.ref b118), .val (.int e1), .val (.int e1), .val (.long f1), .second, .unset, .unset, .unset, .unset, .unset, .unset] [(.long (own_near f1 p3))])
        exact J105 T131 _ X131 e131 N131 _ (own_near_nn _ _ nf1)
    by_cases hq : l0 < a
    · refine own_by (fun _ k => XS.ifYes X120.here hx rfl (pc0 := 55) (pc' := 62) rfl (hb hby at_55) rfl ((if0 _ _).trans (tlt ((lw_gt _ _).mpr hq : (0 : Int32) < (lcmpW a l0))).2.2.1) (by decide) (by decide) k) ?_
      show own_Go p e below _ T120 (mkF m 62 #[.val (.long p1), .second, .val (.long p2), .second, .val (.long p3), .second, .val (.int p4), .val (.long l0), .second, .val (.long a), .second, .val (.ref b118), .val (.int (own_sp l0 a)), .unset, .unset, .unset, .unset, .unset, .unset, .unset, .unset, .unset] [])
      refine own_by (fun _ k => XS.iconst X120.here hx rfl (hb hby at_62) k) ?_
      show own_Go p e below _ T120 (mkF m 63 #[.val (.long p1), .second, .val (.long p2), .second, .val (.long p3), .second, .val (.int p4), .val (.long l0), .second, .val (.long a), .second, .val (.ref b118), .val (.int (own_sp l0 a)), .unset, .unset, .unset, .unset, .unset, .unset, .unset, .unset, .unset] [(.int (0 : Int32))])
      refine own_by (fun _ k => XS.istore X120.here hx rfl (hb hby at_63) rfl (l' := #[.val (.long p1), .second, .val (.long p2), .second, .val (.long p3), .second, .val (.int p4), .val (.long l0), .second, .val (.long a), .second, .val (.ref b118), .val (.int (own_sp l0 a)), .val (.int (0 : Int32)), .unset, .unset, .unset, .unset, .unset, .unset, .unset, .unset]) rfl k) ?_
      show own_Go p e below _ T120 (mkF m 65 #[.val (.long p1), .second, .val (.long p2), .second, .val (.long p3), .second, .val (.int p4), .val (.long l0), .second, .val (.long a), .second, .val (.ref b118), .val (.int (own_sp l0 a)), .val (.int (0 : Int32)), .unset, .unset, .unset, .unset, .unset, .unset, .unset, .unset] [])
      refine own_by (fun _ k => XS.iload X120.here hx rfl (hb hby at_65) rfl k) ?_
      show own_Go p e below _ T120 (mkF m 67 #[.val (.long p1), .second, .val (.long p2), .second, .val (.long p3), .second, .val (.int p4), .val (.long l0), .second, .val (.long a), .second, .val (.ref b118), .val (.int (own_sp l0 a)), .val (.int (0 : Int32)), .unset, .unset, .unset, .unset, .unset, .unset, .unset, .unset] [(.int (0 : Int32))])
      refine own_by (fun _ k => XS.ifYes X120.here hx rfl (pc0 := 67) (pc' := 78) rfl (hb hby at_67) rfl ((if0 _ _).trans (teq (by decide : (0 : Int32) = (0 : Int32))).1) (by decide) (by decide) k) ?_
      show own_Go p e below _ T120 (mkF m 78 #[.val (.long p1), .second, .val (.long p2), .second, .val (.long p3), .second, .val (.int p4), .val (.long l0), .second, .val (.long a), .second, .val (.ref b118), .val (.int (own_sp l0 a)), .val (.int (0 : Int32)), .unset, .unset, .unset, .unset, .unset, .unset, .unset, .unset] [])
      refine own_by (fun _ k => XS.lload X120.here hx rfl (hb hby at_78) rfl k) ?_
      show own_Go p e below _ T120 (mkF m 80 #[.val (.long p1), .second, .val (.long p2), .second, .val (.long p3), .second, .val (.int p4), .val (.long l0), .second, .val (.long a), .second, .val (.ref b118), .val (.int (own_sp l0 a)), .val (.int (0 : Int32)), .unset, .unset, .unset, .unset, .unset, .unset, .unset, .unset] [(.long l0)])
      exact J80 _ _ (if_pos hq).symm (if_pos hq).symm
    · refine own_by (fun _ k => XS.ifNo X120.here hx rfl (hb hby at_55) rfl ((if0 _ _).trans (flt (fun q => hq ((lw_gt _ _).mp q) : ¬ ((0 : Int32) < (lcmpW a l0)))).2.2.1) k) ?_
      show own_Go p e below _ T120 (mkF m 58 #[.val (.long p1), .second, .val (.long p2), .second, .val (.long p3), .second, .val (.int p4), .val (.long l0), .second, .val (.long a), .second, .val (.ref b118), .val (.int (own_sp l0 a)), .unset, .unset, .unset, .unset, .unset, .unset, .unset, .unset, .unset] [])
      refine own_by (fun _ k => XS.iconst X120.here hx rfl (hb hby at_58) k) ?_
      show own_Go p e below _ T120 (mkF m 59 #[.val (.long p1), .second, .val (.long p2), .second, .val (.long p3), .second, .val (.int p4), .val (.long l0), .second, .val (.long a), .second, .val (.ref b118), .val (.int (own_sp l0 a)), .unset, .unset, .unset, .unset, .unset, .unset, .unset, .unset, .unset] [(.int (1 : Int32))])
      refine own_by (fun _ k => XS.goto X120.here hx rfl (pc0 := 59) (pc' := 63) rfl (hb hby at_59) (by decide) (by decide) k) ?_
      show own_Go p e below _ T120 (mkF m 63 #[.val (.long p1), .second, .val (.long p2), .second, .val (.long p3), .second, .val (.int p4), .val (.long l0), .second, .val (.long a), .second, .val (.ref b118), .val (.int (own_sp l0 a)), .unset, .unset, .unset, .unset, .unset, .unset, .unset, .unset, .unset] [(.int (1 : Int32))])
      refine own_by (fun _ k => XS.istore X120.here hx rfl (hb hby at_63) rfl (l' := #[.val (.long p1), .second, .val (.long p2), .second, .val (.long p3), .second, .val (.int p4), .val (.long l0), .second, .val (.long a), .second, .val (.ref b118), .val (.int (own_sp l0 a)), .val (.int (1 : Int32)), .unset, .unset, .unset, .unset, .unset, .unset, .unset, .unset]) rfl k) ?_
      show own_Go p e below _ T120 (mkF m 65 #[.val (.long p1), .second, .val (.long p2), .second, .val (.long p3), .second, .val (.int p4), .val (.long l0), .second, .val (.long a), .second, .val (.ref b118), .val (.int (own_sp l0 a)), .val (.int (1 : Int32)), .unset, .unset, .unset, .unset, .unset, .unset, .unset, .unset] [])
      refine own_by (fun _ k => XS.iload X120.here hx rfl (hb hby at_65) rfl k) ?_
      show own_Go p e below _ T120 (mkF m 67 #[.val (.long p1), .second, .val (.long p2), .second, .val (.long p3), .second, .val (.int p4), .val (.long l0), .second, .val (.long a), .second, .val (.ref b118), .val (.int (own_sp l0 a)), .val (.int (1 : Int32)), .unset, .unset, .unset, .unset, .unset, .unset, .unset, .unset] [(.int (1 : Int32))])
      refine own_by (fun _ k => XS.ifNo X120.here hx rfl (hb hby at_67) rfl ((if0 _ _).trans (feq (by decide : ¬ ((1 : Int32) = (0 : Int32)))).1) k) ?_
      show own_Go p e below _ T120 (mkF m 70 #[.val (.long p1), .second, .val (.long p2), .second, .val (.long p3), .second, .val (.int p4), .val (.long l0), .second, .val (.long a), .second, .val (.ref b118), .val (.int (own_sp l0 a)), .val (.int (1 : Int32)), .unset, .unset, .unset, .unset, .unset, .unset, .unset, .unset] [])
      refine own_by (fun _ k => XS.lload X120.here hx rfl (hb hby at_70) rfl k) ?_
      show own_Go p e below _ T120 (mkF m 72 #[.val (.long p1), .second, .val (.long p2), .second, .val (.long p3), .second, .val (.int p4), .val (.long l0), .second, .val (.long a), .second, .val (.ref b118), .val (.int (own_sp l0 a)), .val (.int (1 : Int32)), .unset, .unset, .unset, .unset, .unset, .unset, .unset, .unset] [(.long l0)])
      refine own_by (fun _ k => XS.lload X120.here hx rfl (hb hby at_72) rfl k) ?_
      show own_Go p e below _ T120 (mkF m 74 #[.val (.long p1), .second, .val (.long p2), .second, .val (.long p3), .second, .val (.int p4), .val (.long l0), .second, .val (.long a), .second, .val (.ref b118), .val (.int (own_sp l0 a)), .val (.int (1 : Int32)), .unset, .unset, .unset, .unset, .unset, .unset, .unset, .unset] [(.long a), (.long l0)])
      refine own_by (fun _ k => XS.lsub X120.here hx rfl (hb hby at_74) rfl k) ?_
      show own_Go p e below _ T120 (mkF m 75 #[.val (.long p1), .second, .val (.long p2), .second, .val (.long p3), .second, .val (.int p4), .val (.long l0), .second, .val (.long a), .second, .val (.ref b118), .val (.int (own_sp l0 a)), .val (.int (1 : Int32)), .unset, .unset, .unset, .unset, .unset, .unset, .unset, .unset] [(.long (l0 - a))])
      refine own_by (fun _ k => XS.goto X120.here hx rfl (pc0 := 75) (pc' := 80) rfl (hb hby at_75) (by decide) (by decide) k) ?_
      show own_Go p e below _ T120 (mkF m 80 #[.val (.long p1), .second, .val (.long p2), .second, .val (.long p3), .second, .val (.int p4), .val (.long l0), .second, .val (.long a), .second, .val (.ref b118), .val (.int (own_sp l0 a)), .val (.int (1 : Int32)), .unset, .unset, .unset, .unset, .unset, .unset, .unset, .unset] [(.long (l0 - a))])
      exact J80 _ _ (if_neg hq).symm (if_neg hq).symm
  refine own_by (fun _ k => XS.iload X0.here hx rfl (hb hby at_7) rfl k) ?_
  show own_Go p e below _ s₁ (mkF m 9 #[.val (.long p1), .second, .val (.long p2), .second, .val (.long p3), .second, .val (.int p4), .val (.long l0), .second, .unset, .unset, .unset, .unset, .unset, .unset, .unset, .unset, .unset, .unset, .unset, .unset, .unset] [(.int p4)])
  refine own_by (fun _ k => XS.iconst X0.here hx rfl (hb hby at_9) k) ?_
  show own_Go p e below _ s₁ (mkF m 10 #[.val (.long p1), .second, .val (.long p2), .second, .val (.long p3), .second, .val (.int p4), .val (.long l0), .second, .unset, .unset, .unset, .unset, .unset, .unset, .unset, .unset, .unset, .unset, .unset, .unset, .unset] [(.int (1 : Int32)), (.int p4)])
  refine own_by (fun _ k => XS.iand X0.here hx rfl (hb hby at_10) rfl k) ?_
  show own_Go p e below _ s₁ (mkF m 11 #[.val (.long p1), .second, .val (.long p2), .second, .val (.long p3), .second, .val (.int p4), .val (.long l0), .second, .unset, .unset, .unset, .unset, .unset, .unset, .unset, .unset, .unset, .unset, .unset, .unset, .unset] [(.int (p4 &&& (1 : Int32)))])
  by_cases hm1 : (p4 &&& (1 : Int32)) = (0 : Int32)
  · refine own_by (fun _ k => XS.ifYes X0.here hx rfl (pc0 := 11) (pc' := 23) rfl (hb hby at_11) rfl ((if0 _ _).trans (teq (hm1 : (p4 &&& (1 : Int32)) = (0 : Int32))).1) (by decide) (by decide) k) ?_
    show own_Go p e below _ s₁ (mkF m 23 #[.val (.long p1), .second, .val (.long p2), .second, .val (.long p3), .second, .val (.int p4), .val (.long l0), .second, .unset, .unset, .unset, .unset, .unset, .unset, .unset, .unset, .unset, .unset, .unset, .unset, .unset] [])
    refine own_by (fun _ k => XS.lloadN X0.here hx rfl (hb hby at_23) rfl k) ?_
    show own_Go p e below _ s₁ (mkF m 24 #[.val (.long p1), .second, .val (.long p2), .second, .val (.long p3), .second, .val (.int p4), .val (.long l0), .second, .unset, .unset, .unset, .unset, .unset, .unset, .unset, .unset, .unset, .unset, .unset, .unset, .unset] [(.long p2)])
    refine own_by (fun _ k => Stand.ldc2J X0 hx hown (mvT hZ (hw _ (List.mem_of_getElem? (i := 0) rfl))) rfl (hb hby at_24) k) ?_
    show own_Go p e below _ s₁ (mkF m 27 #[.val (.long p1), .second, .val (.long p2), .second, .val (.long p3), .second, .val (.int p4), .val (.long l0), .second, .unset, .unset, .unset, .unset, .unset, .unset, .unset, .unset, .unset, .unset, .unset, .unset, .unset] [(.long (9223372036854775807 : Int64)), (.long p2)])
    refine own_by (fun _ k => XS.land X0.here hx rfl (hb hby at_27) rfl k) ?_
    show own_Go p e below _ s₁ (mkF m 28 #[.val (.long p1), .second, .val (.long p2), .second, .val (.long p3), .second, .val (.int p4), .val (.long l0), .second, .unset, .unset, .unset, .unset, .unset, .unset, .unset, .unset, .unset, .unset, .unset, .unset, .unset] [(.long (p2 &&& (9223372036854775807 : Int64)))])
    exact J28 s₁ _ X0 e0 N0 _ (own_mx _)
  · refine own_by (fun _ k => XS.ifNo X0.here hx rfl (hb hby at_11) rfl ((if0 _ _).trans (feq (hm1 : ¬ ((p4 &&& (1 : Int32)) = (0 : Int32)))).1) k) ?_
    show own_Go p e below _ s₁ (mkF m 14 #[.val (.long p1), .second, .val (.long p2), .second, .val (.long p3), .second, .val (.int p4), .val (.long l0), .second, .unset, .unset, .unset, .unset, .unset, .unset, .unset, .unset, .unset, .unset, .unset, .unset, .unset] [])
    refine own_by (fun _ k => XS.lload X0.here hx rfl (hb hby at_14) rfl k) ?_
    show own_Go p e below _ s₁ (mkF m 16 #[.val (.long p1), .second, .val (.long p2), .second, .val (.long p3), .second, .val (.int p4), .val (.long l0), .second, .unset, .unset, .unset, .unset, .unset, .unset, .unset, .unset, .unset, .unset, .unset, .unset, .unset] [(.long l0)])
    refine own_by (fun _ k => XS.lloadN X0.here hx rfl (hb hby at_16) rfl k) ?_
    show own_Go p e below _ s₁ (mkF m 17 #[.val (.long p1), .second, .val (.long p2), .second, .val (.long p3), .second, .val (.int p4), .val (.long l0), .second, .unset, .unset, .unset, .unset, .unset, .unset, .unset, .unset, .unset, .unset, .unset, .unset, .unset] [(.long p2), (.long l0)])
    obtain ⟨_, T132, L132, X132, ⟨rfl, N132q, e132⟩, st132⟩ := own_callS X0 hx hZ hown (y := (⟨"com/example/nomos/nomos/BudgetSpendPinLaw", "near", "(JJ)J"⟩ : MethodName)) (hw _ (List.mem_of_getElem? (i := 19) rfl)) (hw _ (List.mem_of_getElem? (i := 20) rfl)) (hw _ (List.mem_of_getElem? (i := 21) rfl)) (hw _ (List.mem_of_getElem? (i := 22) rfl)) (by decide) (argsL := [(.long l0), (.long p2)]) (rest := []) e0 (rm4 l Z a0 hw [] l0 p2 h0 n0 Z0) (g := (mkF m 17 #[.val (.long p1), .second, .val (.long p2), .second, .val (.long p3), .second, .val (.int p4), .val (.long l0), .second, .unset, .unset, .unset, .unset, .unset, .unset, .unset, .unset, .unset, .unset, .unset, .unset, .unset] [(.long p2), (.long l0)])) rfl (by rw [hml]; rfl) (lenOf pd_3 rfl) rfl (W := 0) (by show 2 * 0 + _ ≤ _; exact Nat.le_of_eq rfl) (hb hby at_17) (by decide) (by decide) (by decide) (by decide)
    have N132 := Fr.app N0 N132q
    refine own_by st132 ?_
    show own_Go p e below _ T132 (mkF m 20 #[.val (.long p1), .second, .val (.long p2), .second, .val (.long p3), .second, .val (.int p4), .val (.long l0), .second, .unset, .unset, .unset, .unset, .unset, .unset, .unset, .unset, .unset, .unset, .unset, .unset, .unset] [(.long (own_near l0 p2))])
    refine own_by (fun _ k => XS.goto X132.here hx rfl (pc0 := 20) (pc' := 28) rfl (hb hby at_20) (by decide) (by decide) k) ?_
    show own_Go p e below _ T132 (mkF m 28 #[.val (.long p1), .second, .val (.long p2), .second, .val (.long p3), .second, .val (.int p4), .val (.long l0), .second, .unset, .unset, .unset, .unset, .unset, .unset, .unset, .unset, .unset, .unset, .unset, .unset, .unset] [(.long (own_near l0 p2))])
    exact J28 T132 _ X132 e132 N132 _ (own_near_nn _ _ nl)
set_option maxRecDepth 65536 in
set_option maxHeartbeats 40000000 in
theorem comes_1 {Post : Tables → Env → Array Value → State → Outcome → State → Prop} (hpost : ∀ tb e args s v u, (limb_1_1.after args s (.returned v) u = true ∧ limb_1_2.after args s (.returned v) u = true ∧ True) → FrameEnd s (.returned v) u (Jvm.fieldLocs frame_1_writes args s ++ Jvm.arrayLocs frame_1_arrays args s ++ Jvm.staticLocs frame_1_statics s) 16 128 → Post tb e args s (.returned v) u) :
    ArmFor flags0 classFile x code maxLocals ret World_1 tables_1 room_1 Calls_1 rest_1 Pre_1 Post := by
  intro l hfl _ _ p e ha hc hk s m args below hf hA hF happ hP
  obtain ⟨hcalls, hrest, hpre⟩ := hP
  obtain ⟨-, -, -, hnamed, -, -, -, hat⟩ := (Spec.applies_iff hf).mp happ
  obtain ⟨hg, hn⟩ := and_e (Cond.before_iff.mp (show (Jvm.Cond.and given_1 narrow_1).before args s = true from hpre))
  obtain ⟨g1, g2⟩ := and_e hg
  obtain ⟨g3, g4⟩ := and_e g2
  obtain ⟨g5, g6⟩ := and_e g4
  obtain ⟨g7, g8⟩ := and_e g6
  obtain ⟨w0, w1, w2, w3, rfl⟩ : ∃ w0 w1 w2 w3 : Value, args = #[w0, w1, w2, w3] := by
    have hs : args.size = 4 := by simpa [Cond.value, given_1] using g1
    obtain ⟨L⟩ := args
    match L, hs with
    | [w0, w1, w2, w3], _ => exact ⟨w0, w1, w2, w3, rfl⟩
  have hw := fun d (hd : d ∈ tables_1) => atoms_spec (ws := Jvm.Cond.code x code maxLocals ret :: tables_1) hat d (List.mem_cons_of_mem _ hd)
  have hfit : Fit s := fun {y c} hc i hi => by
    obtain ⟨ha, rfl⟩ := Array.getElem?_eq_some_iff.mp hc
    have q := List.all_eq_true.mp ((Array.all_eq_true_iff_forall_mem.mp hF) _ (Array.getElem_mem ha)) i (List.mem_range.mpr hi)
    simpa [Array.getElem?_eq_getElem hi] using q
  obtain ⟨i0, ei0⟩ := isL_v g3
  obtain rfl : w0 = (.long i0) := Option.some.inj ei0
  obtain ⟨i1, ei1⟩ := isL_v g5
  obtain rfl : w1 = (.long i1) := Option.some.inj ei1
  obtain ⟨i2, ei2⟩ := isL_v g7
  obtain rfl : w2 = (.long i2) := Option.some.inj ei2
  obtain ⟨i3, ei3⟩ := is_v g8
  obtain rfl : w3 = (.int i3) := Option.some.inj ei3
  obtain ⟨n, o, h1, h2, h3, _, L, rfl, ⟨rfl, N⟩, hq⟩ := rm0 l s _ hw tables_1 i0 i1 i2 i3 s.heap s.heap.size (Nat.le_refl _)  p e ha hc hk s m _ below hf ((Spec.applies_iff_loose hf).mp happ).1 ⟨rfl, State.Warmed39.refl s, rfl⟩ trivial
  refine ⟨n, _, h1, h2, h3, hpost _ _ _ _ _ _ ⟨Cond.after_iff.mpr rfl, Cond.after_iff.mpr (eq_i res_at (Term.int_eval (1)) rfl), trivial⟩ ⟨hq.1, hq.2.1, (hq.2.2.sift fun y hy => Or.inr (N y hy)).mono (by decide) (by decide)⟩⟩
theorem main_1_1 : Claimed_1_1 := comes_1 fun _ _ _ _ _ _ h hF => ⟨h.1, hF⟩
theorem main_1_2 : Claimed_1_2 := comes_1 fun _ _ _ _ _ _ h hF => ⟨h.2.1, hF⟩
end Jvm.Pilot.@@N@@
namespace Jvm.Pilot.@@N@@
open Jvm Jvm.ClassFile Sem Op Lib Jvm.Free Jvm.Stand Jvm.Pilot.@@N@@.Jvm.D
/-! MADE BY PROGRAM (witnessworld.py) out of the Statement's table words and the real class files: 9 classes; the members and pool entries that the words name. The judged class is class 1, her method 2. -/
namespace start1
open Jvm.ClassFile
def u (s : String) : CpInfo := .utf8 (stringToUtf16 s)
/-- a pool by its gaps: so many unusable entries, then the entry; so many at the end -/
def gap : Nat → List CpInfo → List CpInfo
  | 0, r => r
  | n + 1, r => .unusable :: gap n r
def poolList (es : List (Nat × CpInfo)) (last : Nat) : List CpInfo := es.foldr (fun e r => gap e.1 (e.2 :: r)) (gap last [])
def pool (es : List (Nat × CpInfo)) (last : Nat) : Array CpInfo := ⟨poolList es last⟩
def fileOf (pool : Array CpInfo) (this : Nat) (attrs : Array Attribute := #[]) (ms : Array MethodInfo := #[]) (fl : Nat := 33) (sup : Nat := 0) (ifs : Array Nat := #[]) (fds : Array FieldInfo := #[]) : ClassFile where
  minorVersion := 0
  majorVersion := 65
  constantPool := pool
  accessFlags := fl
  thisClass := this
  superClass := sup
  interfaces := ifs
  fields := fds
  methods := ms
  attributes := attrs
def plain (name : String) (sup : Option ClassId) : Class where
  name := name
  kind := .ordinary
  loader := none
  accessFlags := 33
  super := sup
  interfaces := #[]
  cf := none
  fields := #[]
  methods := #[]
  instanceTypes := #[]
  staticTypes := #[]
  resolved := #[]
  callSites := []
  init := .initialized
  statics := none
  mirror := none

def pool0 : Array CpInfo := pool [(5, u "<init>"), (0, u "()V"), (1, .class_ 10), (1, u "java/lang/Object")] 113

def k0c0 : Code := { maxStack := 0, maxLocals := 1, code := object_method_1_code, exceptionTable := #[], attributes := #[] }
def k0m0 : Method := { name := "<init>", desc := "()V", sig := { parameters := [], returnType := none }, accessFlags := 1, code := some k0c0 }
/-- java/lang/Object -/
def k0 : Class := { plain "java/lang/Object" none with
  accessFlags := 33
  interfaces := #[]
  cf := some (fileOf pool0 8 #[] #[{ accessFlags := 1, nameIndex := 5, descriptorIndex := 6, attributes := #[] }] 33 0 #[] #[])
  fields := #[]
  methods := #[k0m0]
  instanceTypes := #[]
  staticTypes := #[]
  resolved := Array.replicate 124 none
  statics := none }

def pool1 : Array CpInfo := pool [(2, .class_ 4), (1, u "java/lang/Object"), (0, u "<init>"), (0, u "()V"), (0, .long 7), (1, .long 4), (3, .long 9223372036854775807), (1, .methodref 16 17), (0, .class_ 18), (0, .nameAndType 19 20), (0, u "com/example/nomos/nomos/BudgetSpendPinLaw"), (0, u "near"), (0, u "(JJ)J"), (0, .class_ 22), (0, u "com/example/nomos/nomos/Budget"), (0, .methodref 21 24), (0, .nameAndType 5 25), (0, u "(J)V"), (0, .methodref 21 27), (0, .nameAndType 28 29), (0, u "spend"), (0, u "(J)Z"), (0, .methodref 21 31), (0, .nameAndType 32 33), (0, u "limit"), (0, u "()J"), (3, u "law"), (0, u "(JJJI)Z")] 2

def k1m0 : Method := { name := "<init>", desc := "()V", sig := { parameters := [], returnType := none }, accessFlags := 2, code := none }
def k1c1 : Code := { maxStack := 6, maxLocals := 8, code := method_2_code, exceptionTable := #[], attributes := #[] }
def k1m1 : Method := { name := "near", desc := "(JJ)J", sig := { parameters := [.long, .long], returnType := some .long }, accessFlags := 10, code := some k1c1 }
def k1c2 : Code := { maxStack := 5, maxLocals := 22, code := code, exceptionTable := #[], attributes := #[] }
def k1m2 : Method := { name := "law", desc := "(JJJI)Z", sig := { parameters := [.long, .long, .long, .int], returnType := some .boolean }, accessFlags := 9, code := some k1c2 }
/-- com/example/nomos/nomos/BudgetSpendPinLaw -/
def k1 : Class := { plain "com/example/nomos/nomos/BudgetSpendPinLaw" (some 0) with
  accessFlags := 49
  interfaces := #[]
  cf := some (fileOf pool1 16 #[] #[{ accessFlags := 2, nameIndex := 5, descriptorIndex := 6, attributes := #[] }, { accessFlags := 10, nameIndex := 19, descriptorIndex := 20, attributes := #[] }, { accessFlags := 9, nameIndex := 37, descriptorIndex := 38, attributes := #[] }] 49 2 #[] #[])
  fields := #[]
  methods := #[k1m0, k1m1, k1m2]
  instanceTypes := #[]
  staticTypes := #[]
  resolved := Array.replicate 41 none
  statics := none }

def pool2 : Array CpInfo := pool [(1, .methodref 2 3), (0, .class_ 4), (0, .nameAndType 5 6), (0, u "java/lang/Object"), (0, u "<init>"), (0, u "()V"), (0, .fieldref 8 9), (0, .class_ 10), (0, .nameAndType 11 12), (0, u "com/example/nomos/nomos/Budget"), (0, u "limit"), (0, u "J"), (0, .fieldref 8 14), (0, .nameAndType 15 12), (0, u "left"), (0, u "(J)V"), (2, u "()J"), (0, u "spend"), (0, u "(J)Z")] 3

def k2c0 : Code := { maxStack := 3, maxLocals := 3, code := prog_9_method_1_code, exceptionTable := #[], attributes := #[] }
def k2m0 : Method := { name := "<init>", desc := "(J)V", sig := { parameters := [.long], returnType := none }, accessFlags := 0, code := some k2c0 }
def k2c1 : Code := { maxStack := 2, maxLocals := 1, code := prog_9_method_2_code, exceptionTable := #[], attributes := #[] }
def k2m1 : Method := { name := "limit", desc := "()J", sig := { parameters := [], returnType := some .long }, accessFlags := 0, code := some k2c1 }
def k2c2 : Code := { maxStack := 5, maxLocals := 3, code := prog_9_method_3_code, exceptionTable := #[], attributes := #[] }
def k2m2 : Method := { name := "spend", desc := "(J)Z", sig := { parameters := [.long], returnType := some .boolean }, accessFlags := 0, code := some k2c2 }
/-- com/example/nomos/nomos/Budget -/
def k2 : Class := { plain "com/example/nomos/nomos/Budget" (some 0) with
  accessFlags := 32
  interfaces := #[]
  cf := some (fileOf pool2 8 #[] #[{ accessFlags := 0, nameIndex := 5, descriptorIndex := 16, attributes := #[] }, { accessFlags := 0, nameIndex := 11, descriptorIndex := 19, attributes := #[] }, { accessFlags := 0, nameIndex := 20, descriptorIndex := 21, attributes := #[] }] 32 2 #[] #[{ accessFlags := 18, nameIndex := 11, descriptorIndex := 12, attributes := #[] }, { accessFlags := 2, nameIndex := 15, descriptorIndex := 12, attributes := #[] }])
  fields := #[{ name := "limit", type := .long, accessFlags := 18, slot := 0, constantValue := 0 }, { name := "left", type := .long, accessFlags := 2, slot := 1, constantValue := 0 }]
  methods := #[k2m0, k2m1, k2m2]
  instanceTypes := #[.long, .long]
  staticTypes := #[]
  resolved := Array.replicate 25 none
  statics := none }

def pool3 : Array CpInfo := pool [(1, u "java/lang/Cloneable"), (0, .class_ 1), (0, u "java/lang/Object"), (0, .class_ 3)] 3

/-- java/lang/Cloneable -/
def k3 : Class := { plain "java/lang/Cloneable" (some 0) with
  accessFlags := 1537
  interfaces := #[]
  cf := some (fileOf pool3 2 #[] #[] 1537 4 #[] #[])
  fields := #[]
  methods := #[]
  instanceTypes := #[]
  staticTypes := #[]
  resolved := Array.replicate 8 none
  statics := none }

def pool4 : Array CpInfo := pool [(1, u "java/io/Serializable"), (0, .class_ 1), (0, u "java/lang/Object"), (0, .class_ 3)] 3

/-- java/io/Serializable -/
def k4 : Class := { plain "java/io/Serializable" (some 0) with
  accessFlags := 1537
  interfaces := #[]
  cf := some (fileOf pool4 2 #[] #[] 1537 4 #[] #[])
  fields := #[]
  methods := #[]
  instanceTypes := #[]
  staticTypes := #[]
  resolved := Array.replicate 8 none
  statics := none }

/-- the primitive byte -/
def k5 : Class := { plain "byte" none with kind := .primitive 'B', accessFlags := 0x411 }
/-- [B -/
def k6 : Class := { plain "[B" (some 0) with kind := .array 5 .byte, interfaces := #[3, 4], accessFlags := 1041 }

/-- the primitive int -/
def k7 : Class := { plain "int" none with kind := .primitive 'I', accessFlags := 0x411 }
/-- [I -/
def k8 : Class := { plain "[I" (some 0) with kind := .array 7 .int, interfaces := #[3, 4], accessFlags := 1041 }

def heap : Heap := #[]
def classes : Array Class := #[k0, k1, k2, k3, k4, k5, k6, k7, k8]
def interned : List (Array UInt16 × Addr) := []
def slotsUsed : Nat := 0
def theMethod : MethodId := ⟨1, 2⟩
def args0 : Array Value := #[.long 9, .long 7, .long 3, .int 1]
def aboutOver (below : List Frame) : State where
  vm := { classes := classes, interned := interned.toArray }
  heap := heap
  slotsUsed := slotsUsed
  threads := #[{ frames := .invoking theMethod args0 :: below }]
def below0 : List Frame := [.native { method := ⟨0, 0⟩, args := #[] }]
def about1 : State := aboutOver below0
def p0 : Program := .bare "" "" ""
def e0 : Env := launch0.env 0 0 0
theorem w_frames : about1.frames = Frame.invoking theMethod args0 :: below0 := rfl
set_option maxRecDepth 65536 in
theorem w_args : argsFit about1.vm theMethod args0 = true := by decide +kernel
set_option maxRecDepth 65536 in
theorem w_heap : heapFits about1 = true := by decide +kernel
set_option maxRecDepth 65536 in
theorem w_runnable : about1.curStatus? = some .runnable := by decide +kernel
set_option maxRecDepth 65536 in
theorem w_alone : about1.alone = true := by decide +kernel
set_option maxRecDepth 65536 in
theorem w_named : about1.methodNamed? x = some theMethod := by decide +kernel
set_option maxRecDepth 65536 in
theorem w_hears : about1.hears theMethod below0 = true := by decide +kernel
set_option maxRecDepth 65536 in
theorem w_ripe : about1.ripe theMethod args0 below0 = true := by decide +kernel
theorem w_running : about1.status = .running := rfl
set_option maxRecDepth 65536 in
theorem w_room : about1.hasRoom e0.platform room_1 = true :=
  launch0.hasRoom_least _ room_1 (by decide +kernel) (by decide +kernel) (by decide +kernel) (by decide +kernel) (by decide +kernel) (by decide +kernel)
theorem allAtoms_all (ts : List Jvm.Cond) (a : Array Jvm.Value) (st : Jvm.State) : (allAtoms ts).before a st = ts.all (fun c => c.before a st) := by
  induction ts with
  | nil => rfl
  | cons c t ih =>
    show (Jvm.Cond.and c (allAtoms t)).before a st = _
    rw [Jvm.Cond.before_and, ih, List.all_cons]
def words1 : List Jvm.Cond := Jvm.Cond.code x code maxLocals ret :: tables_1
/-- a 'code' word, met by the world's own term for the bytes: nothing is compared byte by byte -/
theorem code_word {y : MethodName} {bytes : ByteArray} {mx : Nat} {rt : Option FieldType} {a : Array Value} {s : State} {m : MethodId} {meth : Method} {c : Code} (h1 : s.methodNamed? y = some m) (h2 : s.vm.method? m = some meth) (h3 : meth.code = some c) (h4 : c.code = bytes)
    (h5 : (c.maxLocals == mx && c.exceptionTable.isEmpty && decide (c.maxStack ≤ mostOperands) && decide (meth.sig.returnType = rt) && !meth.locks && decide (parseMethodDescriptor y.desc = some meth.sig)) = true) : (Jvm.Cond.code y bytes mx rt).before a s = true := by
  simp only [Bool.and_eq_true, beq_iff_eq, Bool.not_eq_true', decide_eq_true_eq] at h5
  obtain ⟨⟨⟨⟨⟨g1, g2⟩, g3⟩, g4⟩, g5⟩, g6⟩ := h5
  simp [Cond.before, Cond.holds, Cond.value, h1, h2, h3, h4, g1, g2, g3, g4, g5, g6]
def isCode : Jvm.Cond → Bool
  | .code _ _ _ _ => true
  | _ => false
theorem all_split {L : List Jvm.Cond} {P : Jvm.Cond → Bool} (h1 : L.all (fun c => isCode c || P c) = true) (h2 : ∀ c ∈ L.filter isCode, P c = true) : L.all P = true := by
  refine List.all_eq_true.mpr fun c hc => ?_
  have h := List.all_eq_true.mp h1 c hc
  rcases Bool.eq_false_or_eq_true (isCode c) with hi | hi
  · exact h2 c (List.mem_filter.mpr ⟨hc, hi⟩)
  · simpa [hi] using h
set_option maxRecDepth 65536 in
theorem w_c0 : (Jvm.Cond.code x code maxLocals ret).before args0 about1 = true := code_word (m := ⟨1, 2⟩) (meth := k1m2) (c := k1c2) (by decide +kernel) rfl rfl rfl (by decide +kernel)
set_option maxRecDepth 65536 in
theorem w_c1 : (Jvm.Cond.code ({ cls := "com/example/nomos/nomos/Budget", name := "<init>", desc := "(J)V" } : Jvm.MethodName) prog_9_method_1_code (3 : Nat) (Option.none : Option Jvm.ClassFile.FieldType)).before args0 about1 = true := code_word (m := ⟨2, 0⟩) (meth := k2m0) (c := k2c0) (by decide +kernel) rfl rfl rfl (by decide +kernel)
set_option maxRecDepth 65536 in
theorem w_c2 : (Jvm.Cond.code ({ cls := "java/lang/Object", name := "<init>", desc := "()V" } : Jvm.MethodName) object_method_1_code (1 : Nat) (Option.none : Option Jvm.ClassFile.FieldType)).before args0 about1 = true := code_word (m := ⟨0, 0⟩) (meth := k0m0) (c := k0c0) (by decide +kernel) rfl rfl rfl (by decide +kernel)
set_option maxRecDepth 65536 in
theorem w_c3 : (Jvm.Cond.code ({ cls := "com/example/nomos/nomos/Budget", name := "spend", desc := "(J)Z" } : Jvm.MethodName) prog_9_method_3_code (3 : Nat) (Option.some Jvm.ClassFile.FieldType.boolean)).before args0 about1 = true := code_word (m := ⟨2, 2⟩) (meth := k2m2) (c := k2c2) (by decide +kernel) rfl rfl rfl (by decide +kernel)
set_option maxRecDepth 65536 in
theorem w_c4 : (Jvm.Cond.code ({ cls := "com/example/nomos/nomos/BudgetSpendPinLaw", name := "near", desc := "(JJ)J" } : Jvm.MethodName) method_2_code (8 : Nat) (Option.some Jvm.ClassFile.FieldType.long)).before args0 about1 = true := code_word (m := ⟨1, 1⟩) (meth := k1m1) (c := k1c1) (by decide +kernel) rfl rfl rfl (by decide +kernel)
set_option maxRecDepth 65536 in
theorem w_c5 : (Jvm.Cond.code ({ cls := "com/example/nomos/nomos/Budget", name := "limit", desc := "()J" } : Jvm.MethodName) prog_9_method_2_code (1 : Nat) (Option.some Jvm.ClassFile.FieldType.long)).before args0 about1 = true := code_word (m := ⟨2, 1⟩) (meth := k2m1) (c := k2c1) (by decide +kernel) rfl rfl rfl (by decide +kernel)
def codes1 : List Jvm.Cond := [Jvm.Cond.code x code maxLocals ret, Jvm.Cond.code ({ cls := "com/example/nomos/nomos/Budget", name := "<init>", desc := "(J)V" } : Jvm.MethodName) prog_9_method_1_code (3 : Nat) (Option.none : Option Jvm.ClassFile.FieldType), Jvm.Cond.code ({ cls := "java/lang/Object", name := "<init>", desc := "()V" } : Jvm.MethodName) object_method_1_code (1 : Nat) (Option.none : Option Jvm.ClassFile.FieldType), Jvm.Cond.code ({ cls := "com/example/nomos/nomos/Budget", name := "spend", desc := "(J)Z" } : Jvm.MethodName) prog_9_method_3_code (3 : Nat) (Option.some Jvm.ClassFile.FieldType.boolean), Jvm.Cond.code ({ cls := "com/example/nomos/nomos/BudgetSpendPinLaw", name := "near", desc := "(JJ)J" } : Jvm.MethodName) method_2_code (8 : Nat) (Option.some Jvm.ClassFile.FieldType.long), Jvm.Cond.code ({ cls := "com/example/nomos/nomos/Budget", name := "limit", desc := "()J" } : Jvm.MethodName) prog_9_method_2_code (1 : Nat) (Option.some Jvm.ClassFile.FieldType.long)]
set_option maxRecDepth 65536 in
theorem codes_eq : words1.filter isCode = codes1 := rfl
theorem w_codes : ∀ c ∈ words1.filter isCode, c.before args0 about1 = true := by
  rw [codes_eq]
  intro c hc
  simp only [codes1, List.mem_cons, List.not_mem_nil, or_false] at hc
  rcases hc with rfl | rfl | rfl | rfl | rfl | rfl
  · exact w_c0
  · exact w_c1
  · exact w_c2
  · exact w_c3
  · exact w_c4
  · exact w_c5
set_option maxRecDepth 65536 in
theorem w_t1 : (words1.take 24).all (fun c => isCode c || c.before args0 about1) = true := by decide +kernel
set_option maxRecDepth 65536 in
theorem w_t2 : (words1.drop 24).all (fun c => isCode c || c.before args0 about1) = true := by decide +kernel
theorem w_tables : (allAtoms (Jvm.Cond.code x code maxLocals ret :: tables_1)).before args0 about1 = true := by
  rw [allAtoms_all]
  show words1.all (fun c => c.before args0 about1) = true
  refine all_split ?_ w_codes
  rw [← List.take_append_drop 24 words1, List.all_append, w_t1, w_t2]
  rfl
set_option maxRecDepth 65536 in
theorem w_case : (Jvm.Cond.and given_1 narrow_1).before args0 about1 = true := by decide +kernel
theorem w_applies : (headSpec (Jvm.Cond.code x code maxLocals ret :: tables_1) room_1).applies x e0.platform about1 = true :=
  (Spec.applies_iff w_frames).mpr ⟨w_running, w_runnable, w_alone, w_named, w_hears, w_ripe, w_room, w_tables⟩
theorem atStart : AtStart classFile x code maxLocals ret World_1 tables_1 room_1 Calls_1 rest_1 Pre_1 launch0 p0 e0 about1 theMethod args0 below0 :=
  ⟨lists_1, trivial, launch0.admits_env _ _ _, launch0.least_env, fairChoices_fair.cas, fairChoices_fair.clock, w_frames, w_args, w_heap, w_applies, trivial, trivial, w_case⟩
end start1
theorem witness_1 : WitnessClaimed_1 := ⟨start1.p0, start1.e0, start1.about1, start1.theMethod, start1.args0, start1.below0, start1.atStart⟩
end Jvm.Pilot.@@N@@
