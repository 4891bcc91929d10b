import JvmDerived
import JvmDerived.Pilot.@@N@@Statement
import JvmDerived.Pilot.@@N@@Code
set_option linter.unusedVariables false
set_option linter.unusedSimpArgs false
namespace Jvm.Pilot.@@N@@
open Jvm Jvm.ClassFile Sem Op Lib Jvm.Free Jvm.Stand Jvm.LawKit Jvm.RoadKit Bundle Jvm.Pilot.@@N@@.Jvm.D
section OwnKit
variable {p : Program} {l : Launch} {e : Env} {R : Room} {s : State} {m : MethodId} {args : Array Value} {below : List Frame} {meth : Method} {c : Code} {T T' : State} {locs : List Loc} {cells slots : Nat} {Z : State} {a0 : Array Value} {h : Heap}
/-- from here the run comes to an end of which E speaks -/
def own_Go (p : Program) (e : Env) (below : List Frame) (E : State → Outcome → Prop) (T : State) (g : JFrame) : Prop :=
  ∃ t o, Steps p.tables e below (T.setTop g) t ∧ t.status = .running ∧ Ended t below o ∧ E t o
def own_End (s : State) (k n : Nat) (Q : Option Value → Heap → List Loc → Prop) (t : State) (o : Outcome) : Prop :=
  ∃ v L, o = .returned v ∧ Q v t.heap L ∧ FrameEnd s o t L k n
theorem own_by {E : State → Outcome → Prop} {g g' : JFrame} (st : ∀ target, Steps p.tables e below (T'.setTop g') target → Steps p.tables e below (T.setTop g) target) (k : own_Go p e below E T' g') : own_Go p e below E T g := by
  obtain ⟨t, o, h1, r⟩ := k
  exact ⟨t, o, st t h1, r⟩
theorem own_retW (X : Stand p l e R s m args below meth c T locs cells slots) (hx : p.tables.exec = Jvm.exec) (hlk : meth.locks = false) {pc : Nat} {Ls : Array Slot} {w : Value} {t : FieldType} {i : Instr} {rest : List Value} (hret : meth.sig.returnType = some t) (hn : narrow t w = w)
    (hi : (i = .ireturn ∧ (t = .int ∨ t = .boolean ∨ t = .byte ∨ t = .char ∨ t = .short) ∧ ∃ z, w = .int z) ∨ (i = .lreturn ∧ t = .long ∧ ∃ z, w = .long z) ∨ (i = .dreturn ∧ t = .double ∧ ∃ z, w = .double z) ∨ (i = .freturn ∧ t = .float ∧ ∃ z, w = .float z) ∨ (i = .areturn ∧ t.isReference = true ∧ w.isRef = true))
    (hd : decode c.code pc = .ok (i, 1)) {Q : Option Value → Heap → List Loc → Prop} {k n : Nat} (hQ : Q (some w) T.heap locs) (hk : cells ≤ k) (hs : slots ≤ n) : own_Go p e below (own_End s k n Q) T (mkF m pc Ls (w :: rest)) := by
  obtain ⟨fs, hr, hrun, hended, hW, hsame⟩ := X.leave (v := some w) (fun h => by rw [hret] at h; cases h) hlk
  exact ⟨_, _, retOut X hx hret hn hi hd hr, hrun, hended, _, _, rfl, hQ, ⟨_, rfl⟩, hW, hsame.mono hk hs⟩
theorem own_retI (X : Stand p l e R s m args below meth c T locs cells slots) (hx : p.tables.exec = Jvm.exec) (hlk : meth.locks = false) {pc : Nat} {Ls : Array Slot} {z : Int32} {rest : List Value} (hret : meth.sig.returnType = some .int) (hd : decode c.code pc = .ok (.ireturn, 1)) {Q : Option Value → Heap → List Loc → Prop} {k n : Nat} (hQ : Q (some (.int z)) T.heap locs) (hk : cells ≤ k) (hs : slots ≤ n) : own_Go p e below (own_End s k n Q) T (mkF m pc Ls (.int z :: rest)) :=
  own_retW X hx hlk hret rfl (Or.inl ⟨rfl, Or.inl rfl, z, rfl⟩) hd hQ hk hs
theorem own_retJ (X : Stand p l e R s m args below meth c T locs cells slots) (hx : p.tables.exec = Jvm.exec) (hlk : meth.locks = false) {pc : Nat} {Ls : Array Slot} {z : Int64} {rest : List Value} (hret : meth.sig.returnType = some .long) (hd : decode c.code pc = .ok (.lreturn, 1)) {Q : Option Value → Heap → List Loc → Prop} {k n : Nat} (hQ : Q (some (.long z)) T.heap locs) (hk : cells ≤ k) (hs : slots ≤ n) : own_Go p e below (own_End s k n Q) T (mkF m pc Ls (.long z :: rest)) :=
  own_retW X hx hlk hret rfl (Or.inr (Or.inl ⟨rfl, rfl, z, rfl⟩)) hd hQ hk hs
theorem own_retA (X : Stand p l e R s m args below meth c T locs cells slots) (hx : p.tables.exec = Jvm.exec) (hlk : meth.locks = false) {pc : Nat} {Ls : Array Slot} {w : Value} {t : FieldType} {rest : List Value} (hret : meth.sig.returnType = some t) (ht : t.isReference = true) (hw : w.isRef = true) (hd : decode c.code pc = .ok (.areturn, 1)) {Q : Option Value → Heap → List Loc → Prop} {k n : Nat} (hQ : Q (some w) T.heap locs) (hk : cells ≤ k) (hs : slots ≤ n) : own_Go p e below (own_End s k n Q) T (mkF m pc Ls (w :: rest)) :=
  own_retW X hx hlk hret (by cases t <;> first | (cases ht; done) | (cases w <;> first | rfl | (cases hw; done))) (Or.inr (Or.inr (Or.inr (Or.inr ⟨rfl, ht, hw⟩)))) hd hQ hk hs
theorem own_retN (X : Stand p l e R s m args below meth c T locs cells slots) (hx : p.tables.exec = Jvm.exec) (hlk : meth.locks = false) {pc : Nat} {Ls : Array Slot} {z : Int32} {t : FieldType} {rest : List Value} (hret : meth.sig.returnType = some t) (ht : t = .boolean ∨ t = .byte ∨ t = .char ∨ t = .short) (hn : nar t z = z) (hd : decode c.code pc = .ok (.ireturn, 1)) {Q : Option Value → Heap → List Loc → Prop} {k n : Nat} (hQ : Q (some (.int z)) T.heap locs) (hk : cells ≤ k) (hs : slots ≤ n) : own_Go p e below (own_End s k n Q) T (mkF m pc Ls (.int z :: rest)) :=
  own_retW X hx hlk hret (by rcases ht with rfl | rfl | rfl | rfl <;> exact congrArg Value.int hn) (Or.inl ⟨rfl, Or.inr ht, z, rfl⟩) hd hQ hk hs
theorem own_ret0 (X : Stand p l e R s m args below meth c T locs cells slots) (hx : p.tables.exec = Jvm.exec) (hlk : meth.locks = false) {pc : Nat} {Ls : Array Slot} (hret : meth.sig.returnType = none) (hd : decode c.code pc = .ok (.return_, 1)) {Q : Option Value → Heap → List Loc → Prop} {k n : Nat} (hQ : Q none T.heap locs) (hk : cells ≤ k) (hs : slots ≤ n) : own_Go p e below (own_End s k n Q) T (mkF m pc Ls []) := by
  obtain ⟨fs, hr, hrun, hended, hW, hsame⟩ := X.leave (v := none) (fun _ => rfl) hlk
  exact ⟨_, _, X.returnOut hx hret hd hr, hrun, hended, _, _, rfl, hQ, ⟨_, rfl⟩, hW, hsame.mono hk hs⟩
theorem own_lrem {g : JFrame} {target : State} (X : Stand p l e R s m args below meth c T locs cells slots) (hx : p.tables.exec = Jvm.exec) (hg : g.method = m) {x y : Int64} {rest : List Value} (hd : decode c.code g.pc = .ok (.lrem, 1)) (hs : g.stack = .long y :: .long x :: rest) (hy : y ≠ 0)
    (hr : Steps p.tables e below (T.setTop { g with pc := g.pc + 1, stack := .long (x % y) :: rest }) target) : Steps p.tables e below (T.setTop g) target :=
  XS.lrem X.here hx hg hd hs hy (by rw [lrem_mod]; exact hr)
/-- a body's contract: called with as' at the heap h it returns, and Q speaks of what it returns, the heap that it leaves and the places that it wrote -/
abbrev own_Met (l : Launch) (Z : State) (y : MethodName) (bytes : ByteArray) (maxL : Nat) (rt : Option FieldType) (ws : List Jvm.Cond) (rm : Room) (as' : Array Value) (h : Heap) (Q : Option Value → Heap → List Loc → Prop) : Prop :=
  MetFree l y (head1 (Jvm.Cond.code y bytes maxL rt :: ws) rm) (fun a U => a = as' ∧ Z.Warmed39 U.vm ∧ U.heap = h) (fun _ _ _ _ _ => True) (fun _ U o U' => ∃ v L, o = .returned v ∧ Q v U'.heap L ∧ FrameEnd U o U' L rm.cells rm.slots)
theorem own_enter {y : MethodName} {bytes : ByteArray} {maxL : Nat} {rt : Option FieldType} {ws : List Jvm.Cond} {rm : Room} {as' : Array Value} {Q : Option Value → Heap → List Loc → Prop} (hy : plainFor y = true) {g0 : MethodId → JFrame} (hg0 : ∀ m, entryFrame m as' maxL = g0 m)
    (body : ∀ (p : Program) (e : Env) (s : State) (m : MethodId) (below : List Frame) (meth : Method) (c : Code) (s₁ : State), p.tables.exec = Jvm.exec → c.code = bytes → c.maxLocals = maxL → s.vm.findClass y.cls = some m.cls → meth.name = y.name → meth.sig.returnType = rt → meth.locks = false → Z.Warmed39 s.vm → Stand p l e rm s m as' below meth c s₁ [] 0 0 → s₁.heap = h → own_Go p e below (own_End s rm.cells rm.slots Q) s₁ (g0 m)) :
    own_Met l Z y bytes maxL rt ws rm as' h Q := by
  refine MetFree.of_bodySF hy hisR ?_
  intro p e s m args below meth c s₁ Bd hml0 hP hK
  obtain ⟨rfl, hZ, hh⟩ := hP
  obtain ⟨t, o, h1, h2, h3, h4⟩ := body p e s m below meth c s₁ Bd.exec Bd.bytes hml0 (findClass_of_methodNamed Bd.named) (name_of_methodNamed Bd.named Bd.method).1 Bd.returns (BodyLoose.notSynchronized Bd) hZ (Stand.of_body Bd) (by rw [← hh, Bd.state]; rfl)
  exact ⟨t, o, castTop (hg0 m) h1, h2, h3, h4⟩
theorem own_callS (X : Stand p l e R s m args below meth c T locs cells slots) (hx : p.tables.exec = Jvm.exec) (hZ : Z.Warmed39 s.vm) {own : String} (hown : s.vm.findClass own = some m.cls) {index : Nat} {y : MethodName} {bytes : ByteArray} {maxL : Nat} {rt : Option FieldType}
    (w1 : (Jvm.Cond.methodLink own index y).before a0 Z = true) (w2 : (Jvm.Cond.static y).before a0 Z = true) (w3 : (Jvm.Cond.initialized y.cls).before a0 Z = true) (w4 : (Jvm.Cond.code y bytes maxL rt).before a0 Z = true)
    (hy : y.cls ≠ "java/lang/invoke/MethodHandle" ∧ y.cls ≠ "java/lang/invoke/VarHandle") {rm : Room} {argsL rest : List Value} {Q : Option Value → Heap → List Loc → Prop} (eT : T.heap = h) (hM : own_Met l Z y bytes maxL rt [] rm argsL.toArray h Q)
    {g : JFrame} (hg : g.method = m) (hsize : g.locals.size = c.maxLocals) (hlen : ∀ sig, parseMethodDescriptor y.desc = some sig → argsL.length = sig.parameters.length) (hstack : g.stack = argsL.reverse ++ rest) {W : Nat} (hW : 2 * g.monitorRoom + (rest.map fun v => v.category).sum ≤ W) (hd : decode c.code g.pc = .ok (.invokestatic index, 3))
    (hf : rm.frames + 1 ≤ R.frames) (hl : W + (maxL + 11) + rm.locals ≤ R.locals) (hc : cells + rm.cells ≤ R.cells) (hs : slots + rm.slots ≤ R.slots) :
    ∃ v T' L, Stand p l e R s m args below meth c T' (locs ++ L) (cells + rm.cells) (slots + rm.slots) ∧ Q v T'.heap L ∧ ∀ target, Steps p.tables e below (T'.setTop { g with pc := g.pc + 3, stack := v.toList ++ rest }) target → Steps p.tables e below (T.setTop g) target := by
  obtain ⟨v, _, ⟨T1, L1, k1, n1⟩, -, X1, ⟨Lc, hQ, l1, y1, z1⟩, st⟩ := Jvm.LawKit.callS X hx (y := y) hown (mvT hZ w1) (mvT hZ w2) (mvT hZ w3) (mvT hZ w4) hy (backOf (W := W) hM hZ w4 w3 hf hl) (g := g) hg hsize (argsL := argsL) (rest := rest) hlen hstack hW hd (fun _ _ => ⟨rfl, eT, hc, hs⟩)
  dsimp only [Pt.U, Pt.locs, Pt.cells, Pt.slots] at X1 l1 y1 z1 st hQ
  subst l1 y1 z1
  exact ⟨v, T1, Lc, X1, hQ, st⟩
theorem own_callI (X : Stand p l e R s m args below meth c T locs cells slots) (hx : p.tables.exec = Jvm.exec) (hZ : Z.Warmed39 s.vm) {own : String} (hown : s.vm.findClass own = some m.cls) {index : Nat} {y : MethodName} {bytes : ByteArray} {maxL : Nat} (hy1 : y.name = "<init>")
    (w1 : (Jvm.Cond.methodLink own index y).before a0 Z = true) (w2 : (Jvm.Cond.instanceMethod y).before a0 Z = true) (w3 : (Jvm.Cond.initialized y.cls).before a0 Z = true) (w4 : (Jvm.Cond.code y bytes maxL none).before a0 Z = true)
    (hy : y.cls ≠ "java/lang/invoke/MethodHandle" ∧ y.cls ≠ "java/lang/invoke/VarHandle") {rm : Room} {a : Addr} {argsL rest : List Value} {Q : Option Value → Heap → List Loc → Prop} (eT : T.heap = h) (hM : own_Met l Z y bytes maxL none [] rm (.ref a :: argsL).toArray h Q)
    {g : JFrame} (hg : g.method = m) (hsize : g.locals.size = c.maxLocals) (hlen : ∀ sig, parseMethodDescriptor y.desc = some sig → argsL.length = sig.parameters.length) (hstack : g.stack = argsL.reverse ++ .ref a :: rest) {W : Nat} (hW : 2 * g.monitorRoom + (rest.map fun v => v.category).sum ≤ W) (hd : decode c.code g.pc = .ok (.invokespecial index, 3))
    (hf : rm.frames + 1 ≤ R.frames) (hl : W + (maxL + 11) + rm.locals ≤ R.locals) (hc : cells + rm.cells ≤ R.cells) (hs : slots + rm.slots ≤ R.slots) :
    ∃ v T' L, Stand p l e R s m args below meth c T' (locs ++ L) (cells + rm.cells) (slots + rm.slots) ∧ Q v T'.heap L ∧ ∀ target, Steps p.tables e below (T'.setTop { g with pc := g.pc + 3, stack := v.toList ++ rest }) target → Steps p.tables e below (T.setTop g) target := by
  obtain ⟨v, _, ⟨T1, L1, k1, n1⟩, -, X1, ⟨Lc, hQ, l1, y1, z1⟩, st⟩ := X.specialBack hx (y := y) hy1 hown (mvT hZ w1) (mvT hZ w2) (mvT hZ w4) hy (backOf (W := W) hM hZ w4 w3 hf hl) (g := g) hg hsize (Steps.refl _) (a := a) (argsL := argsL) (rest := rest) hlen hstack hW hd (fun _ _ => ⟨rfl, eT, hc, hs⟩)
  dsimp only [Pt.U, Pt.locs, Pt.cells, Pt.slots] at X1 l1 y1 z1 st hQ
  subst l1 y1 z1
  exact ⟨v, T1, Lc, X1, hQ, fun _ k => st.trans k⟩
theorem own_callV (X : Stand p l e R s m args below meth c T locs cells slots) (hx : p.tables.exec = Jvm.exec) (hZ : Z.Warmed39 s.vm) {own C : String} (hown : s.vm.findClass own = some m.cls) {index : Nat} {y : MethodName} {bytes : ByteArray} {maxL : Nat} {rt : Option FieldType}
    (w1 : (Jvm.Cond.methodLink own index y).before a0 Z = true) (w2 : (Jvm.Cond.declares y).before a0 Z = true) (w5 : (Jvm.Cond.selects C y y).before a0 Z = true) (w6 : (Jvm.Cond.instanceMethod y).before a0 Z = true) (w3 : (Jvm.Cond.initialized y.cls).before a0 Z = true) (w4 : (Jvm.Cond.code y bytes maxL rt).before a0 Z = true)
    (hy : y.cls ≠ "java/lang/invoke/MethodHandle" ∧ y.cls ≠ "java/lang/invoke/VarHandle") {rm : Room} {a : Addr} {argsL rest : List Value} {Q : Option Value → Heap → List Loc → Prop} (hE : Exa Z h a C) (eT : T.heap = h) (hM : own_Met l Z y bytes maxL rt [] rm (.ref a :: argsL).toArray h Q)
    {g : JFrame} (hg : g.method = m) (hsize : g.locals.size = c.maxLocals) (hlen : ∀ sig, parseMethodDescriptor y.desc = some sig → argsL.length = sig.parameters.length) (hstack : g.stack = argsL.reverse ++ .ref a :: rest) {W : Nat} (hW : 2 * g.monitorRoom + (rest.map fun v => v.category).sum ≤ W) (hd : decode c.code g.pc = .ok (.invokevirtual index, 3))
    (hf : rm.frames + 1 ≤ R.frames) (hl : W + (maxL + 11) + rm.locals ≤ R.locals) (hc : cells + rm.cells ≤ R.cells) (hs : slots + rm.slots ≤ R.slots) (hC : C = y.cls := by rfl) :
    ∃ v T' L, Stand p l e R s m args below meth c T' (locs ++ L) (cells + rm.cells) (slots + rm.slots) ∧ Q v T'.heap L ∧ ∀ target, Steps p.tables e below (T'.setTop { g with pc := g.pc + 3, stack := v.toList ++ rest }) target → Steps p.tables e below (T.setTop g) target := by
  subst hC
  obtain ⟨_, _, qa, -, qc⟩ := isOf hZ eT hE
  obtain ⟨v, _, ⟨T1, L1, k1, n1⟩, -, X1, ⟨Lc, hQ, l1, y1, z1⟩, st⟩ := X.virtualBack hx (y := y) (z := y) hown (mvT hZ w1) (mvT hZ w2) (notFace_of_selects (args := #[]) (mvT hZ w5)) (mvT hZ w5) (mvT hZ w6) hy (backOf (W := W) hM hZ w4 w3 hf hl) qa qc (g := g) hg hsize (Steps.refl _) (argsL := argsL) (rest := rest) hlen hstack hW hd (fun _ _ => ⟨rfl, eT, hc, hs⟩)
  dsimp only [Pt.U, Pt.locs, Pt.cells, Pt.slots] at X1 l1 y1 z1 st hQ
  subst l1 y1 z1
  exact ⟨v, T1, Lc, X1, hQ, fun _ k => st.trans k⟩
theorem own_callU (X : Stand p l e R s m args below meth c T locs cells slots) (hx : p.tables.exec = Jvm.exec) (hZ : Z.Warmed39 s.vm) {own C owner : String} (hown : s.vm.findClass own = some m.cls) {index : Nat} {x y : MethodName} {bytes : ByteArray} {maxL : Nat} {rt : Option FieldType}
    (w1 : (Jvm.Cond.methodLink own index x).before a0 Z = true) (w7 : (Jvm.Cond.sameMethod x.cls owner x.name x.desc).before a0 Z = true) (w2 : (Jvm.Cond.declares ⟨owner, x.name, x.desc⟩).before a0 Z = true) (hy : owner ≠ "java/lang/invoke/MethodHandle" ∧ owner ≠ "java/lang/invoke/VarHandle") (w5 : (Jvm.Cond.selects C x y).before a0 Z = true) (w6 : (Jvm.Cond.instanceMethod y).before a0 Z = true) (w3 : (Jvm.Cond.initialized y.cls).before a0 Z = true) (w4 : (Jvm.Cond.code y bytes maxL rt).before a0 Z = true)
    {rm : Room} {a : Addr} {argsL rest : List Value} {Q : Option Value → Heap → List Loc → Prop} (hE : Exa Z h a C) (eT : T.heap = h) (hM : own_Met l Z y bytes maxL rt [] rm (.ref a :: argsL).toArray h Q)
    {g : JFrame} (hg : g.method = m) (hsize : g.locals.size = c.maxLocals) (hlen : ∀ sig, parseMethodDescriptor x.desc = some sig → argsL.length = sig.parameters.length) (hstack : g.stack = argsL.reverse ++ .ref a :: rest) {W : Nat} (hW : 2 * g.monitorRoom + (rest.map fun v => v.category).sum ≤ W) (hd : decode c.code g.pc = .ok (.invokevirtual index, 3))
    (hf : rm.frames + 1 ≤ R.frames) (hl : W + (maxL + 11) + rm.locals ≤ R.locals) (hc : cells + rm.cells ≤ R.cells) (hs : slots + rm.slots ≤ R.slots) :
    ∃ v T' L, Stand p l e R s m args below meth c T' (locs ++ L) (cells + rm.cells) (slots + rm.slots) ∧ Q v T'.heap L ∧ ∀ target, Steps p.tables e below (T'.setTop { g with pc := g.pc + 3, stack := v.toList ++ rest }) target → Steps p.tables e below (T.setTop g) target := by
  obtain ⟨_, _, qa, -, qc⟩ := isOf hZ eT hE
  obtain ⟨v, _, ⟨T1, L1, k1, n1⟩, -, X1, ⟨Lc, hQ, l1, y1, z1⟩, st⟩ := X.virtualBackUp hx (x := x) (y := y) hown (mvT hZ w1) (mvT hZ w7) (mvT hZ w2) hy (mvT hZ w5) (mvT hZ w6) (backOf (W := W) hM hZ w4 w3 hf hl) qa qc (g := g) hg hsize (Steps.refl _) (argsL := argsL) (rest := rest) hlen hstack hW hd (fun _ _ => ⟨rfl, eT, hc, hs⟩)
  dsimp only [Pt.U, Pt.locs, Pt.cells, Pt.slots] at X1 l1 y1 z1 st hQ
  subst l1 y1 z1
  exact ⟨v, T1, Lc, X1, hQ, fun _ k => st.trans k⟩
theorem own_arv {a : Addr} {k : ClassId} {ty : FieldType} {z : Int32} {vs : List Value} {dv : Value} (V : Arv Z h a k ty z vs dv) {j : Int32} (q : ¬ j < 0 ∧ j < z) :
    ∃ cl : Cell, Arr Z h a cl ty ∧ cl.cls = k ∧ ¬ (j < 0 ∨ cl.slots.size ≤ j.toNatClampNeg) ∧ cl.slots[j.toNatClampNeg]? = some (vs.getD j.toNatClampNeg dv) ∧ ∀ {h' : Heap} {v : Value}, fits ty v = true → Wr h h' a j.toNatClampNeg v → ∀ i, j.toNatClampNeg = i → i < vs.length → Arv Z h' a k ty z (vs.set i v) dv := by
  obtain ⟨cl, A, q1, S, q3, H, G⟩ := V
  have hin := inb_of S q
  exact ⟨cl, A, q1, hin, Has.at H hin rfl, fun hf W i hj hi => Arv.set A q1 S q3 H G hf W i hj hi⟩
theorem own_len {a : Addr} {k : ClassId} {ty : FieldType} {z : Int32} {vs : List Value} {dv : Value} (V : Arv Z h a k ty z vs dv) : ∃ cl : Cell, Arr Z h a cl ty ∧ cl.slots.size.toInt32 = z := by
  obtain ⟨cl, A, q1, S, q3, -⟩ := V
  exact ⟨cl, A, len_of S q3⟩
theorem own_sta {C f d K : String} (hx : (Jvm.Cond.exactly (.static C f d) K).value args s none s [] = some true) (w1 : (Jvm.Cond.initialized C).before args s = true) (w2 : (Jvm.Cond.laysStatic C f d).before args s = true) :
    ∃ a, (Term.static C f d).eval args s none [] s = some (.ref a) ∧ Sta s s.heap C f d (.ref a) ∧ Exa s s.heap a K := by
  obtain ⟨a, ev⟩ := exa_v hx
  exact ⟨a, ev, Sta.start ev (Or.inr ⟨w1, w2⟩), Exa.start ev hx⟩
theorem own_fldI {t : Term} {C f d : String} {a : Addr} {k : Int32} (ev : t.eval args s none [] s = some (.ref a)) (hx : (Jvm.Cond.eq (.field t C f d) (.int k)).value args s none s [] = some true) : Fld s s.heap a C f d (.int k) := by
  obtain ⟨v, w, e1, e2, k1, k2⟩ := cmp_v (Or.inl hx)
  obtain rfl : w = .int k := Option.some.inj (e2.symm.trans (Term.int_eval k))
  obtain ⟨z, rfl⟩ : ∃ z, v = .int z := k2
  have q : z = k := by simpa [Cond.value, e1, e2] using hx
  subst q
  exact Fld.start (by rw [← fld_at ev]; exact e1)
theorem own_neS {t u : Term} {a b : Addr} (ea : t.eval args s none [] s = some (.ref a)) (eb : u.eval args s none [] s = some (.ref b)) (hx : (Jvm.Cond.not (.eq t u)).value args s none s [] = some true) : a ≠ b := fun q =>
  gotF (eq_R ea eb rfl rfl) (not_v hx) (congrArg Value.ref q)
theorem own_staK {C f d : String} {v : Value} {h' : Heap} {ws : List Addr} (S : Sta Z h C f d v) (K : Keep h h' ws) (q : ∀ x ∈ ws, ∀ cell : Cell, h[x]? = some cell → cell.vm.isStatics = false) : Sta Z h' C f d v := by
  obtain ⟨cf, i, k, fl, st, cell, h1, h2, h3, h4, h5, h6, h7⟩ := S
  refine ⟨cf, i, k, fl, st, cell, h1, h2, h3, h4, K.2.1 st cell h5 (fun hm => ?_), h6, h7⟩
  have := q st hm cell h5
  rw [h6] at this
  cases this
end OwnKit
def Q_rm1 (Z : State) (a1 aP aD : Addr) (h0 : Heap) (n0 : Nat) (v : Option Value) (h : Heap) (L : List Loc) : Prop := v = some (.ref (if a1 = aP then aD else aP)) ∧ Fr n0 L ∧ h = h0
theorem pn_rm1 : plainFor (⟨"com/example/nomos/nomos/Effect", "opposite", "()Lcom/example/nomos/nomos/Effect;"⟩ : MethodName) = true := plainFor_of_name (by first | (simp [plainName, overriddenIn, x]; done) | decide +kernel)
theorem d1_0 : decode prog_47_method_8_code 0 = .ok (.aload_n 0, 1) := by decide +kernel
theorem d1_1 : decode prog_47_method_8_code 1 = .ok (.getstatic 3, 3) := by decide +kernel
theorem d1_4 : decode prog_47_method_8_code 4 = .ok (.if_acmp .ne 9, 3) := by decide +kernel
theorem d1_7 : decode prog_47_method_8_code 7 = .ok (.getstatic 7, 3) := by decide +kernel
theorem d1_10 : decode prog_47_method_8_code 10 = .ok (.goto 6, 3) := by decide +kernel
theorem d1_16 : decode prog_47_method_8_code 16 = .ok (.areturn, 1) := by decide +kernel
theorem d1_13 : decode prog_47_method_8_code 13 = .ok (.getstatic 3, 3) := by decide +kernel
set_option maxRecDepth 65536 in
set_option maxHeartbeats 40000000 in
theorem rm1 (l : Launch) (Z : State) (a0 : Array Value) (hw : ∀ d ∈ tables_1, d.before a0 Z = true) (ws : List Jvm.Cond) (a1 aP aD : Addr) (h0 : Heap) (n0 : Nat) (Z0 : n0 ≤ h0.size) (SP : Sta Z h0 "com/example/nomos/nomos/Effect" "PERMIT" "Lcom/example/nomos/nomos/Effect;" (.ref aP)) (SD : Sta Z h0 "com/example/nomos/nomos/Effect" "DENY" "Lcom/example/nomos/nomos/Effect;" (.ref aD)) :
    own_Met l Z (⟨"com/example/nomos/nomos/Effect", "opposite", "()Lcom/example/nomos/nomos/Effect;"⟩ : MethodName) prog_47_method_8_code 1 (some (.object "com/example/nomos/nomos/Effect")) ws ({ frames := 0, cells := 0, slots := 0, locals := 0 } : Room) #[(.ref a1)] h0 (Q_rm1 Z a1 aP aD h0 n0) := by
  refine own_enter (g0 := fun m => (mkF m 0 #[.val (.ref a1)] [])) pn_rm1 (fun m => by first | rfl | (simp [entryFrame, mkF, argsToLocals, Value.category, maxLocals]; done)) ?_
  intro p e s m below meth c s₁ hx hby hml hown hnm hret hlk hZ X0 e0
  have hml : c.maxLocals = 1 := hml
  have hown : s.vm.findClass "com/example/nomos/nomos/Effect" = some m.cls := hown
  have N0 := Fr.nil n0
  show own_Go p e below _ s₁ (mkF m 0 #[.val (.ref a1)] [])
  refine own_by (fun _ k => XS.aloadN X0.here hx rfl (hb hby d1_0) rfl rfl k) ?_
  show own_Go p e below _ s₁ (mkF m 1 #[.val (.ref a1)] [(.ref a1)])
  obtain ⟨T1, X1, e1, st1⟩ := getS2 X0 hx hZ hown (host := "") (Or.inl (hw _ (List.mem_of_getElem? (i := 10) rfl))) Via.refl e0 SP (g := (mkF m 1 #[.val (.ref a1)] [(.ref a1)])) rfl (hb hby d1_1)
  refine own_by st1 ?_
  show own_Go p e below _ T1 (mkF m 4 #[.val (.ref a1)] [(.ref aP), (.ref a1)])
  by_cases hq : a1 = aP
  · refine own_by (fun _ k => Jvm.RoadKit.acmp (g := (mkF m 4 #[.val (.ref a1)] [(.ref aP), (.ref a1)])) X1 hx rfl rfl rfl (pc0 := 4) (pc' := 7) (same := true) rfl (hb hby d1_4) rfl (decide_eq_true (congrArg Value.ref hq)) (by decide) (by decide) k) ?_
    show own_Go p e below _ T1 (mkF m 7 #[.val (.ref a1)] [])
    obtain ⟨T2, X2, e2, st2⟩ := getS2 X1 hx hZ hown (host := "") (Or.inl (hw _ (List.mem_of_getElem? (i := 11) rfl))) Via.refl e1 SD (g := (mkF m 7 #[.val (.ref a1)] [])) rfl (hb hby d1_7)
    refine own_by st2 ?_
    show own_Go p e below _ T2 (mkF m 10 #[.val (.ref a1)] [(.ref aD)])
    refine own_by (fun _ k => XS.goto X2.here hx rfl (pc0 := 10) (pc' := 16) rfl (hb hby d1_10) (by decide) (by decide) k) ?_
    show own_Go p e below _ T2 (mkF m 16 #[.val (.ref a1)] [(.ref aD)])
    exact own_retA X2 hx hlk hret rfl rfl (hb hby d1_16) (by first | exact ⟨by rw [if_pos hq], N0, rfl⟩ | (rw [e2]; exact ⟨by rw [if_pos hq], N0, rfl⟩)) (by decide) (by decide)
  · refine own_by (fun _ k => Jvm.RoadKit.acmp (g := (mkF m 4 #[.val (.ref a1)] [(.ref aP), (.ref a1)])) X1 hx rfl rfl rfl (pc0 := 4) (pc' := 13) (same := false) rfl (hb hby d1_4) rfl (decide_eq_false fun q => hq (Value.ref.inj q)) (by decide) (by decide) k) ?_
    show own_Go p e below _ T1 (mkF m 13 #[.val (.ref a1)] [])
    obtain ⟨T3, X3, e3, st3⟩ := getS2 X1 hx hZ hown (host := "") (Or.inl (hw _ (List.mem_of_getElem? (i := 10) rfl))) Via.refl e1 SP (g := (mkF m 13 #[.val (.ref a1)] [])) rfl (hb hby d1_13)
    refine own_by st3 ?_
    show own_Go p e below _ T3 (mkF m 16 #[.val (.ref a1)] [(.ref aP)])
    exact own_retA X3 hx hlk hret rfl rfl (hb hby d1_16) (by first | exact ⟨by rw [if_neg hq], N0, rfl⟩ | (rw [e3]; exact ⟨by rw [if_neg hq], N0, rfl⟩)) (by decide) (by decide)
def Q_rm0 (Z : State) (p1 : Int32) (aP aD : Addr) (h0 : Heap) (n0 : Nat) (v : Option Value) (h : Heap) (L : List Loc) : Prop := v = some (.int 1) ∧ Fr n0 L
theorem pn_rm0 : plainFor x = true := plainFor_of_name (by first | (simp [plainName, overriddenIn, x]; done) | decide +kernel)
theorem pd_0 : parseMethodDescriptor "()Lcom/example/nomos/nomos/Effect;" = some ⟨[], some (.object "com/example/nomos/nomos/Effect")⟩ := by decide +kernel
set_option maxRecDepth 65536 in
set_option maxHeartbeats 40000000 in
theorem rm0 (l : Launch) (Z : State) (a0 : Array Value) (hw : ∀ d ∈ tables_1, d.before a0 Z = true) (ws : List Jvm.Cond) (p1 : Int32) (aP aD : Addr) (h0 : Heap) (n0 : Nat) (Z0 : n0 ≤ h0.size) (SP : Sta Z h0 "com/example/nomos/nomos/Effect" "PERMIT" "Lcom/example/nomos/nomos/Effect;" (.ref aP)) (SD : Sta Z h0 "com/example/nomos/nomos/Effect" "DENY" "Lcom/example/nomos/nomos/Effect;" (.ref aD)) (EP : Exa Z h0 aP "com/example/nomos/nomos/Effect") (ED : Exa Z h0 aD "com/example/nomos/nomos/Effect") (hne : aP ≠ aD) :
    own_Met l Z x code maxLocals ret ws room_1 #[(.int p1)] h0 (Q_rm0 Z p1 aP aD h0 n0) := by
  refine own_enter (g0 := fun m => (mkF m 0 #[.val (.int p1), .unset, .unset, .unset, .unset] [])) pn_rm0 (fun m => by first | rfl | (simp [entryFrame, mkF, argsToLocals, Value.category, maxLocals]; done)) ?_
  intro p e s m below meth c s₁ hx hby hml hown hnm hret hlk hZ X0 e0
  have hml : c.maxLocals = 5 := hml
  have hown : s.vm.findClass "com/example/nomos/nomos/EffectOppositePinLaw" = some m.cls := hown
  have N0 := Fr.nil n0
  show own_Go p e below _ s₁ (mkF m 0 #[.val (.int p1), .unset, .unset, .unset, .unset] [])
  refine own_by (fun _ k => XS.iloadN X0.here hx rfl (hb hby at_0) rfl k) ?_
  show own_Go p e below _ s₁ (mkF m 1 #[.val (.int p1), .unset, .unset, .unset, .unset] [(.int p1)])
  refine own_by (fun _ k => XS.iconst X0.here hx rfl (hb hby at_1) k) ?_
  show own_Go p e below _ s₁ (mkF m 2 #[.val (.int p1), .unset, .unset, .unset, .unset] [(.int (1 : Int32)), (.int p1)])
  refine own_by (fun _ k => XS.iand X0.here hx rfl (hb hby at_2) rfl k) ?_
  show own_Go p e below _ s₁ (mkF m 3 #[.val (.int p1), .unset, .unset, .unset, .unset] [(.int (p1 &&& (1 : Int32)))])
  by_cases hk : (p1 &&& (1 : Int32)) = (0 : Int32)
  · refine own_by (fun _ k => XS.ifYes X0.here hx rfl (pc0 := 3) (pc' := 10) rfl (hb hby at_3) rfl ((if0 _ _).trans (teq (hk : (p1 &&& (1 : Int32)) = (0 : Int32))).1) (by decide) (by decide) k) ?_
    show own_Go p e below _ s₁ (mkF m 10 #[.val (.int p1), .unset, .unset, .unset, .unset] [])
    refine own_by (fun _ k => XS.iconst X0.here hx rfl (hb hby at_10) k) ?_
    show own_Go p e below _ s₁ (mkF m 11 #[.val (.int p1), .unset, .unset, .unset, .unset] [(.int (0 : Int32))])
    refine own_by (fun _ k => XS.istoreN X0.here hx rfl (hb hby at_11) rfl (l' := #[.val (.int p1), .val (.int (0 : Int32)), .unset, .unset, .unset]) rfl k) ?_
    show own_Go p e below _ s₁ (mkF m 12 #[.val (.int p1), .val (.int (0 : Int32)), .unset, .unset, .unset] [])
    refine own_by (fun _ k => XS.iloadN X0.here hx rfl (hb hby at_12) rfl k) ?_
    show own_Go p e below _ s₁ (mkF m 13 #[.val (.int p1), .val (.int (0 : Int32)), .unset, .unset, .unset] [(.int (0 : Int32))])
    refine own_by (fun _ k => XS.ifYes X0.here hx rfl (pc0 := 13) (pc' := 22) rfl (hb hby at_13) rfl ((if0 _ _).trans (teq (by decide : (0 : Int32) = (0 : Int32))).1) (by decide) (by decide) k) ?_
    show own_Go p e below _ s₁ (mkF m 22 #[.val (.int p1), .val (.int (0 : Int32)), .unset, .unset, .unset] [])
    obtain ⟨T4, X4, e4, st4⟩ := getS2 X0 hx hZ hown (host := "") (Or.inl (hw _ (List.mem_of_getElem? (i := 0) rfl))) Via.refl e0 SD (g := (mkF m 22 #[.val (.int p1), .val (.int (0 : Int32)), .unset, .unset, .unset] [])) rfl (hb hby at_22)
    refine own_by st4 ?_
    show own_Go p e below _ T4 (mkF m 25 #[.val (.int p1), .val (.int (0 : Int32)), .unset, .unset, .unset] [(.ref aD)])
    refine own_by (fun _ k => XS.astoreN X4.here hx rfl (hb hby at_25) rfl rfl (l' := #[.val (.int p1), .val (.int (0 : Int32)), .val (.ref aD), .unset, .unset]) rfl k) ?_
    show own_Go p e below _ T4 (mkF m 26 #[.val (.int p1), .val (.int (0 : Int32)), .val (.ref aD), .unset, .unset] [])
    refine own_by (fun _ k => XS.iloadN X4.here hx rfl (hb hby at_26) rfl k) ?_
    show own_Go p e below _ T4 (mkF m 27 #[.val (.int p1), .val (.int (0 : Int32)), .val (.ref aD), .unset, .unset] [(.int (0 : Int32))])
    refine own_by (fun _ k => XS.ifYes X4.here hx rfl (pc0 := 27) (pc' := 36) rfl (hb hby at_27) rfl ((if0 _ _).trans (teq (by decide : (0 : Int32) = (0 : Int32))).1) (by decide) (by decide) k) ?_
    show own_Go p e below _ T4 (mkF m 36 #[.val (.int p1), .val (.int (0 : Int32)), .val (.ref aD), .unset, .unset] [])
    obtain ⟨T5, X5, e5, st5⟩ := getS2 X4 hx hZ hown (host := "") (Or.inl (hw _ (List.mem_of_getElem? (i := 3) rfl))) Via.refl e4 SP (g := (mkF m 36 #[.val (.int p1), .val (.int (0 : Int32)), .val (.ref aD), .unset, .unset] [])) rfl (hb hby at_36)
    refine own_by st5 ?_
    show own_Go p e below _ T5 (mkF m 39 #[.val (.int p1), .val (.int (0 : Int32)), .val (.ref aD), .unset, .unset] [(.ref aP)])
    refine own_by (fun _ k => XS.astoreN X5.here hx rfl (hb hby at_39) rfl rfl (l' := #[.val (.int p1), .val (.int (0 : Int32)), .val (.ref aD), .val (.ref aP), .unset]) rfl k) ?_
    show own_Go p e below _ T5 (mkF m 40 #[.val (.int p1), .val (.int (0 : Int32)), .val (.ref aD), .val (.ref aP), .unset] [])
    refine own_by (fun _ k => XS.aloadN X5.here hx rfl (hb hby at_40) rfl rfl k) ?_
    show own_Go p e below _ T5 (mkF m 41 #[.val (.int p1), .val (.int (0 : Int32)), .val (.ref aD), .val (.ref aP), .unset] [(.ref aD)])
    obtain ⟨_, T6, L6, X6, ⟨rfl, N6q, e6⟩, st6⟩ := own_callV X5 hx hZ hown (y := (⟨"com/example/nomos/nomos/Effect", "opposite", "()Lcom/example/nomos/nomos/Effect;"⟩ : MethodName)) (C := "com/example/nomos/nomos/Effect") (hw _ (List.mem_of_getElem? (i := 5) rfl)) (hw _ (List.mem_of_getElem? (i := 6) rfl)) (hw _ (List.mem_of_getElem? (i := 8) rfl)) (hw _ (List.mem_of_getElem? (i := 7) rfl)) (hw _ (List.mem_of_getElem? (i := 1) rfl)) (hw _ (List.mem_of_getElem? (i := 9) rfl)) (by decide) (a := aD) ED (argsL := []) (rest := []) e5 (rm1 l Z a0 hw [] aD aP aD h0 n0 Z0 SP SD) (g := (mkF m 41 #[.val (.int p1), .val (.int (0 : Int32)), .val (.ref aD), .val (.ref aP), .unset] [(.ref aD)])) rfl (by rw [hml]; rfl) (lenOf pd_0 rfl) rfl (W := 0) (by show 2 * 0 + _ ≤ _; exact Nat.le_of_eq rfl) (hb hby at_41) (by decide) (by decide) (by decide) (by decide)
    have N6 := Fr.app N0 N6q
    refine own_by st6 ?_
    show own_Go p e below _ T6 (mkF m 44 #[.val (.int p1), .val (.int (0 : Int32)), .val (.ref aD), .val (.ref aP), .unset] [(.ref (if aD = aP then aD else aP))])
    rw [show (if aD = aP then aD else aP) = aP from if_neg hne.symm]
    show own_Go p e below _ T6 (mkF m 44 #[.val (.int p1), .val (.int (0 : Int32)), .val (.ref aD), .val (.ref aP), .unset] [(.ref aP)])
    refine own_by (fun _ k => XS.astore X6.here hx rfl (hb hby at_44) rfl rfl (l' := #[.val (.int p1), .val (.int (0 : Int32)), .val (.ref aD), .val (.ref aP), .val (.ref aP)]) rfl k) ?_
    show own_Go p e below _ T6 (mkF m 46 #[.val (.int p1), .val (.int (0 : Int32)), .val (.ref aD), .val (.ref aP), .val (.ref aP)] [])
    refine own_by (fun _ k => XS.aload X6.here hx rfl (hb hby at_46) rfl rfl k) ?_
    show own_Go p e below _ T6 (mkF m 48 #[.val (.int p1), .val (.int (0 : Int32)), .val (.ref aD), .val (.ref aP), .val (.ref aP)] [(.ref aP)])
    refine own_by (fun _ k => XS.ifnonnullYes X6.here hx rfl (pc0 := 48) (pc' := 53) rfl (hb hby at_48) rfl (by decide) (by decide) k) ?_
    show own_Go p e below _ T6 (mkF m 53 #[.val (.int p1), .val (.int (0 : Int32)), .val (.ref aD), .val (.ref aP), .val (.ref aP)] [])
    refine own_by (fun _ k => XS.aload X6.here hx rfl (hb hby at_53) rfl rfl k) ?_
    show own_Go p e below _ T6 (mkF m 55 #[.val (.int p1), .val (.int (0 : Int32)), .val (.ref aD), .val (.ref aP), .val (.ref aP)] [(.ref aP)])
    refine own_by (fun _ k => XS.aloadN X6.here hx rfl (hb hby at_55) rfl rfl k) ?_
    show own_Go p e below _ T6 (mkF m 56 #[.val (.int p1), .val (.int (0 : Int32)), .val (.ref aD), .val (.ref aP), .val (.ref aP)] [(.ref aP), (.ref aP)])
    refine own_by (fun _ k => Jvm.RoadKit.acmp (g := (mkF m 56 #[.val (.int p1), .val (.int (0 : Int32)), .val (.ref aD), .val (.ref aP), .val (.ref aP)] [(.ref aP), (.ref aP)])) X6 hx rfl rfl rfl (pc0 := 56) (pc' := 59) (same := true) rfl (hb hby at_56) rfl (decide_eq_true rfl) (by decide) (by decide) k) ?_
    show own_Go p e below _ T6 (mkF m 59 #[.val (.int p1), .val (.int (0 : Int32)), .val (.ref aD), .val (.ref aP), .val (.ref aP)] [])
    refine own_by (fun _ k => XS.aload X6.here hx rfl (hb hby at_59) rfl rfl k) ?_
    show own_Go p e below _ T6 (mkF m 61 #[.val (.int p1), .val (.int (0 : Int32)), .val (.ref aD), .val (.ref aP), .val (.ref aP)] [(.ref aP)])
    refine own_by (fun _ k => XS.aloadN X6.here hx rfl (hb hby at_61) rfl rfl k) ?_
    show own_Go p e below _ T6 (mkF m 62 #[.val (.int p1), .val (.int (0 : Int32)), .val (.ref aD), .val (.ref aP), .val (.ref aP)] [(.ref aD), (.ref aP)])
    refine own_by (fun _ k => Jvm.RoadKit.acmp (g := (mkF m 62 #[.val (.int p1), .val (.int (0 : Int32)), .val (.ref aD), .val (.ref aP), .val (.ref aP)] [(.ref aD), (.ref aP)])) X6 hx rfl rfl rfl (pc0 := 62) (pc' := 65) (same := false) rfl (hb hby at_62) rfl (decide_eq_false fun q => hne (Value.ref.inj q)) (by decide) (by decide) k) ?_
    show own_Go p e below _ T6 (mkF m 65 #[.val (.int p1), .val (.int (0 : Int32)), .val (.ref aD), .val (.ref aP), .val (.ref aP)] [])
    refine own_by (fun _ k => XS.aload X6.here hx rfl (hb hby at_65) rfl rfl k) ?_
    show own_Go p e below _ T6 (mkF m 67 #[.val (.int p1), .val (.int (0 : Int32)), .val (.ref aD), .val (.ref aP), .val (.ref aP)] [(.ref aP)])
    obtain ⟨_, T7, L7, X7, ⟨rfl, N7q, e7⟩, st7⟩ := own_callV X6 hx hZ hown (y := (⟨"com/example/nomos/nomos/Effect", "opposite", "()Lcom/example/nomos/nomos/Effect;"⟩ : MethodName)) (C := "com/example/nomos/nomos/Effect") (hw _ (List.mem_of_getElem? (i := 5) rfl)) (hw _ (List.mem_of_getElem? (i := 6) rfl)) (hw _ (List.mem_of_getElem? (i := 8) rfl)) (hw _ (List.mem_of_getElem? (i := 7) rfl)) (hw _ (List.mem_of_getElem? (i := 1) rfl)) (hw _ (List.mem_of_getElem? (i := 9) rfl)) (by decide) (a := aP) EP (argsL := []) (rest := []) e6 (rm1 l Z a0 hw [] aP aP aD h0 n0 Z0 SP SD) (g := (mkF m 67 #[.val (.int p1), .val (.int (0 : Int32)), .val (.ref aD), .val (.ref aP), .val (.ref aP)] [(.ref aP)])) rfl (by rw [hml]; rfl) (lenOf pd_0 rfl) rfl (W := 0) (by show 2 * 0 + _ ≤ _; exact Nat.le_of_eq rfl) (hb hby at_67) (by decide) (by decide) (by decide) (by decide)
    have N7 := Fr.app N6 N7q
    refine own_by st7 ?_
    show own_Go p e below _ T7 (mkF m 70 #[.val (.int p1), .val (.int (0 : Int32)), .val (.ref aD), .val (.ref aP), .val (.ref aP)] [(.ref (if aP = aP then aD else aP))])
    rw [show (if aP = aP then aD else aP) = aD from if_pos rfl]
    show own_Go p e below _ T7 (mkF m 70 #[.val (.int p1), .val (.int (0 : Int32)), .val (.ref aD), .val (.ref aP), .val (.ref aP)] [(.ref aD)])
    refine own_by (fun _ k => XS.aloadN X7.here hx rfl (hb hby at_70) rfl rfl k) ?_
    show own_Go p e below _ T7 (mkF m 71 #[.val (.int p1), .val (.int (0 : Int32)), .val (.ref aD), .val (.ref aP), .val (.ref aP)] [(.ref aD), (.ref aD)])
    refine own_by (fun _ k => Jvm.RoadKit.acmp (g := (mkF m 71 #[.val (.int p1), .val (.int (0 : Int32)), .val (.ref aD), .val (.ref aP), .val (.ref aP)] [(.ref aD), (.ref aD)])) X7 hx rfl rfl rfl (pc0 := 71) (pc' := 74) (same := true) rfl (hb hby at_71) rfl (decide_eq_true rfl) (by decide) (by decide) k) ?_
    show own_Go p e below _ T7 (mkF m 74 #[.val (.int p1), .val (.int (0 : Int32)), .val (.ref aD), .val (.ref aP), .val (.ref aP)] [])
    refine own_by (fun _ k => XS.iconst X7.here hx rfl (hb hby at_74) k) ?_
    show own_Go p e below _ T7 (mkF m 75 #[.val (.int p1), .val (.int (0 : Int32)), .val (.ref aD), .val (.ref aP), .val (.ref aP)] [(.int (1 : Int32))])
    refine own_by (fun _ k => XS.goto X7.here hx rfl (pc0 := 75) (pc' := 79) rfl (hb hby at_75) (by decide) (by decide) k) ?_
    show own_Go p e below _ T7 (mkF m 79 #[.val (.int p1), .val (.int (0 : Int32)), .val (.ref aD), .val (.ref aP), .val (.ref aP)] [(.int (1 : Int32))])
    exact own_retN X7 hx hlk hret (by simp) rfl (hb hby at_79) (by first | exact ⟨rfl, N7⟩ | (rw [e7]; exact ⟨rfl, N7⟩)) (by decide) (by decide)
  · refine own_by (fun _ k => XS.ifNo X0.here hx rfl (hb hby at_3) rfl ((if0 _ _).trans (feq (hk : ¬ ((p1 &&& (1 : Int32)) = (0 : Int32)))).1) k) ?_
    show own_Go p e below _ s₁ (mkF m 6 #[.val (.int p1), .unset, .unset, .unset, .unset] [])
    refine own_by (fun _ k => XS.iconst X0.here hx rfl (hb hby at_6) k) ?_
    show own_Go p e below _ s₁ (mkF m 7 #[.val (.int p1), .unset, .unset, .unset, .unset] [(.int (1 : Int32))])
    refine own_by (fun _ k => XS.goto X0.here hx rfl (pc0 := 7) (pc' := 11) rfl (hb hby at_7) (by decide) (by decide) k) ?_
    show own_Go p e below _ s₁ (mkF m 11 #[.val (.int p1), .unset, .unset, .unset, .unset] [(.int (1 : Int32))])
    refine own_by (fun _ k => XS.istoreN X0.here hx rfl (hb hby at_11) rfl (l' := #[.val (.int p1), .val (.int (1 : Int32)), .unset, .unset, .unset]) rfl k) ?_
    show own_Go p e below _ s₁ (mkF m 12 #[.val (.int p1), .val (.int (1 : Int32)), .unset, .unset, .unset] [])
    refine own_by (fun _ k => XS.iloadN X0.here hx rfl (hb hby at_12) rfl k) ?_
    show own_Go p e below _ s₁ (mkF m 13 #[.val (.int p1), .val (.int (1 : Int32)), .unset, .unset, .unset] [(.int (1 : Int32))])
    refine own_by (fun _ k => XS.ifNo X0.here hx rfl (hb hby at_13) rfl ((if0 _ _).trans (feq (by decide : ¬ ((1 : Int32) = (0 : Int32)))).1) k) ?_
    show own_Go p e below _ s₁ (mkF m 16 #[.val (.int p1), .val (.int (1 : Int32)), .unset, .unset, .unset] [])
    obtain ⟨T8, X8, e8, st8⟩ := getS2 X0 hx hZ hown (host := "") (Or.inl (hw _ (List.mem_of_getElem? (i := 3) rfl))) Via.refl e0 SP (g := (mkF m 16 #[.val (.int p1), .val (.int (1 : Int32)), .unset, .unset, .unset] [])) rfl (hb hby at_16)
    refine own_by st8 ?_
    show own_Go p e below _ T8 (mkF m 19 #[.val (.int p1), .val (.int (1 : Int32)), .unset, .unset, .unset] [(.ref aP)])
    refine own_by (fun _ k => XS.goto X8.here hx rfl (pc0 := 19) (pc' := 25) rfl (hb hby at_19) (by decide) (by decide) k) ?_
    show own_Go p e below _ T8 (mkF m 25 #[.val (.int p1), .val (.int (1 : Int32)), .unset, .unset, .unset] [(.ref aP)])
    refine own_by (fun _ k => XS.astoreN X8.here hx rfl (hb hby at_25) rfl rfl (l' := #[.val (.int p1), .val (.int (1 : Int32)), .val (.ref aP), .unset, .unset]) rfl k) ?_
    show own_Go p e below _ T8 (mkF m 26 #[.val (.int p1), .val (.int (1 : Int32)), .val (.ref aP), .unset, .unset] [])
    refine own_by (fun _ k => XS.iloadN X8.here hx rfl (hb hby at_26) rfl k) ?_
    show own_Go p e below _ T8 (mkF m 27 #[.val (.int p1), .val (.int (1 : Int32)), .val (.ref aP), .unset, .unset] [(.int (1 : Int32))])
    refine own_by (fun _ k => XS.ifNo X8.here hx rfl (hb hby at_27) rfl ((if0 _ _).trans (feq (by decide : ¬ ((1 : Int32) = (0 : Int32)))).1) k) ?_
    show own_Go p e below _ T8 (mkF m 30 #[.val (.int p1), .val (.int (1 : Int32)), .val (.ref aP), .unset, .unset] [])
    obtain ⟨T9, X9, e9, st9⟩ := getS2 X8 hx hZ hown (host := "") (Or.inl (hw _ (List.mem_of_getElem? (i := 0) rfl))) Via.refl e8 SD (g := (mkF m 30 #[.val (.int p1), .val (.int (1 : Int32)), .val (.ref aP), .unset, .unset] [])) rfl (hb hby at_30)
    refine own_by st9 ?_
    show own_Go p e below _ T9 (mkF m 33 #[.val (.int p1), .val (.int (1 : Int32)), .val (.ref aP), .unset, .unset] [(.ref aD)])
    refine own_by (fun _ k => XS.goto X9.here hx rfl (pc0 := 33) (pc' := 39) rfl (hb hby at_33) (by decide) (by decide) k) ?_
    show own_Go p e below _ T9 (mkF m 39 #[.val (.int p1), .val (.int (1 : Int32)), .val (.ref aP), .unset, .unset] [(.ref aD)])
    refine own_by (fun _ k => XS.astoreN X9.here hx rfl (hb hby at_39) rfl rfl (l' := #[.val (.int p1), .val (.int (1 : Int32)), .val (.ref aP), .val (.ref aD), .unset]) rfl k) ?_
    show own_Go p e below _ T9 (mkF m 40 #[.val (.int p1), .val (.int (1 : Int32)), .val (.ref aP), .val (.ref aD), .unset] [])
    refine own_by (fun _ k => XS.aloadN X9.here hx rfl (hb hby at_40) rfl rfl k) ?_
    show own_Go p e below _ T9 (mkF m 41 #[.val (.int p1), .val (.int (1 : Int32)), .val (.ref aP), .val (.ref aD), .unset] [(.ref aP)])
    obtain ⟨_, T10, L10, X10, ⟨rfl, N10q, e10⟩, st10⟩ := own_callV X9 hx hZ hown (y := (⟨"com/example/nomos/nomos/Effect", "opposite", "()Lcom/example/nomos/nomos/Effect;"⟩ : MethodName)) (C := "com/example/nomos/nomos/Effect") (hw _ (List.mem_of_getElem? (i := 5) rfl)) (hw _ (List.mem_of_getElem? (i := 6) rfl)) (hw _ (List.mem_of_getElem? (i := 8) rfl)) (hw _ (List.mem_of_getElem? (i := 7) rfl)) (hw _ (List.mem_of_getElem? (i := 1) rfl)) (hw _ (List.mem_of_getElem? (i := 9) rfl)) (by decide) (a := aP) EP (argsL := []) (rest := []) e9 (rm1 l Z a0 hw [] aP aP aD h0 n0 Z0 SP SD) (g := (mkF m 41 #[.val (.int p1), .val (.int (1 : Int32)), .val (.ref aP), .val (.ref aD), .unset] [(.ref aP)])) rfl (by rw [hml]; rfl) (lenOf pd_0 rfl) rfl (W := 0) (by show 2 * 0 + _ ≤ _; exact Nat.le_of_eq rfl) (hb hby at_41) (by decide) (by decide) (by decide) (by decide)
    have N10 := Fr.app N0 N10q
    refine own_by st10 ?_
    show own_Go p e below _ T10 (mkF m 44 #[.val (.int p1), .val (.int (1 : Int32)), .val (.ref aP), .val (.ref aD), .unset] [(.ref (if aP = aP then aD else aP))])
    rw [show (if aP = aP then aD else aP) = aD from if_pos rfl]
    show own_Go p e below _ T10 (mkF m 44 #[.val (.int p1), .val (.int (1 : Int32)), .val (.ref aP), .val (.ref aD), .unset] [(.ref aD)])
    refine own_by (fun _ k => XS.astore X10.here hx rfl (hb hby at_44) rfl rfl (l' := #[.val (.int p1), .val (.int (1 : Int32)), .val (.ref aP), .val (.ref aD), .val (.ref aD)]) rfl k) ?_
    show own_Go p e below _ T10 (mkF m 46 #[.val (.int p1), .val (.int (1 : Int32)), .val (.ref aP), .val (.ref aD), .val (.ref aD)] [])
    refine own_by (fun _ k => XS.aload X10.here hx rfl (hb hby at_46) rfl rfl k) ?_
    show own_Go p e below _ T10 (mkF m 48 #[.val (.int p1), .val (.int (1 : Int32)), .val (.ref aP), .val (.ref aD), .val (.ref aD)] [(.ref aD)])
    refine own_by (fun _ k => XS.ifnonnullYes X10.here hx rfl (pc0 := 48) (pc' := 53) rfl (hb hby at_48) rfl (by decide) (by decide) k) ?_
    show own_Go p e below _ T10 (mkF m 53 #[.val (.int p1), .val (.int (1 : Int32)), .val (.ref aP), .val (.ref aD), .val (.ref aD)] [])
    refine own_by (fun _ k => XS.aload X10.here hx rfl (hb hby at_53) rfl rfl k) ?_
    show own_Go p e below _ T10 (mkF m 55 #[.val (.int p1), .val (.int (1 : Int32)), .val (.ref aP), .val (.ref aD), .val (.ref aD)] [(.ref aD)])
    refine own_by (fun _ k => XS.aloadN X10.here hx rfl (hb hby at_55) rfl rfl k) ?_
    show own_Go p e below _ T10 (mkF m 56 #[.val (.int p1), .val (.int (1 : Int32)), .val (.ref aP), .val (.ref aD), .val (.ref aD)] [(.ref aD), (.ref aD)])
    refine own_by (fun _ k => Jvm.RoadKit.acmp (g := (mkF m 56 #[.val (.int p1), .val (.int (1 : Int32)), .val (.ref aP), .val (.ref aD), .val (.ref aD)] [(.ref aD), (.ref aD)])) X10 hx rfl rfl rfl (pc0 := 56) (pc' := 59) (same := true) rfl (hb hby at_56) rfl (decide_eq_true rfl) (by decide) (by decide) k) ?_
    show own_Go p e below _ T10 (mkF m 59 #[.val (.int p1), .val (.int (1 : Int32)), .val (.ref aP), .val (.ref aD), .val (.ref aD)] [])
    refine own_by (fun _ k => XS.aload X10.here hx rfl (hb hby at_59) rfl rfl k) ?_
    show own_Go p e below _ T10 (mkF m 61 #[.val (.int p1), .val (.int (1 : Int32)), .val (.ref aP), .val (.ref aD), .val (.ref aD)] [(.ref aD)])
    refine own_by (fun _ k => XS.aloadN X10.here hx rfl (hb hby at_61) rfl rfl k) ?_
    show own_Go p e below _ T10 (mkF m 62 #[.val (.int p1), .val (.int (1 : Int32)), .val (.ref aP), .val (.ref aD), .val (.ref aD)] [(.ref aP), (.ref aD)])
    refine own_by (fun _ k => Jvm.RoadKit.acmp (g := (mkF m 62 #[.val (.int p1), .val (.int (1 : Int32)), .val (.ref aP), .val (.ref aD), .val (.ref aD)] [(.ref aP), (.ref aD)])) X10 hx rfl rfl rfl (pc0 := 62) (pc' := 65) (same := false) rfl (hb hby at_62) rfl (decide_eq_false fun q => hne.symm (Value.ref.inj q)) (by decide) (by decide) k) ?_
    show own_Go p e below _ T10 (mkF m 65 #[.val (.int p1), .val (.int (1 : Int32)), .val (.ref aP), .val (.ref aD), .val (.ref aD)] [])
    refine own_by (fun _ k => XS.aload X10.here hx rfl (hb hby at_65) rfl rfl k) ?_
    show own_Go p e below _ T10 (mkF m 67 #[.val (.int p1), .val (.int (1 : Int32)), .val (.ref aP), .val (.ref aD), .val (.ref aD)] [(.ref aD)])
    obtain ⟨_, T11, L11, X11, ⟨rfl, N11q, e11⟩, st11⟩ := own_callV X10 hx hZ hown (y := (⟨"com/example/nomos/nomos/Effect", "opposite", "()Lcom/example/nomos/nomos/Effect;"⟩ : MethodName)) (C := "com/example/nomos/nomos/Effect") (hw _ (List.mem_of_getElem? (i := 5) rfl)) (hw _ (List.mem_of_getElem? (i := 6) rfl)) (hw _ (List.mem_of_getElem? (i := 8) rfl)) (hw _ (List.mem_of_getElem? (i := 7) rfl)) (hw _ (List.mem_of_getElem? (i := 1) rfl)) (hw _ (List.mem_of_getElem? (i := 9) rfl)) (by decide) (a := aD) ED (argsL := []) (rest := []) e10 (rm1 l Z a0 hw [] aD aP aD h0 n0 Z0 SP SD) (g := (mkF m 67 #[.val (.int p1), .val (.int (1 : Int32)), .val (.ref aP), .val (.ref aD), .val (.ref aD)] [(.ref aD)])) rfl (by rw [hml]; rfl) (lenOf pd_0 rfl) rfl (W := 0) (by show 2 * 0 + _ ≤ _; exact Nat.le_of_eq rfl) (hb hby at_67) (by decide) (by decide) (by decide) (by decide)
    have N11 := Fr.app N10 N11q
    refine own_by st11 ?_
    show own_Go p e below _ T11 (mkF m 70 #[.val (.int p1), .val (.int (1 : Int32)), .val (.ref aP), .val (.ref aD), .val (.ref aD)] [(.ref (if aD = aP then aD else aP))])
    rw [show (if aD = aP then aD else aP) = aP from if_neg hne.symm]
    show own_Go p e below _ T11 (mkF m 70 #[.val (.int p1), .val (.int (1 : Int32)), .val (.ref aP), .val (.ref aD), .val (.ref aD)] [(.ref aP)])
    refine own_by (fun _ k => XS.aloadN X11.here hx rfl (hb hby at_70) rfl rfl k) ?_
    show own_Go p e below _ T11 (mkF m 71 #[.val (.int p1), .val (.int (1 : Int32)), .val (.ref aP), .val (.ref aD), .val (.ref aD)] [(.ref aP), (.ref aP)])
    refine own_by (fun _ k => Jvm.RoadKit.acmp (g := (mkF m 71 #[.val (.int p1), .val (.int (1 : Int32)), .val (.ref aP), .val (.ref aD), .val (.ref aD)] [(.ref aP), (.ref aP)])) X11 hx rfl rfl rfl (pc0 := 71) (pc' := 74) (same := true) rfl (hb hby at_71) rfl (decide_eq_true rfl) (by decide) (by decide) k) ?_
    show own_Go p e below _ T11 (mkF m 74 #[.val (.int p1), .val (.int (1 : Int32)), .val (.ref aP), .val (.ref aD), .val (.ref aD)] [])
    refine own_by (fun _ k => XS.iconst X11.here hx rfl (hb hby at_74) k) ?_
    show own_Go p e below _ T11 (mkF m 75 #[.val (.int p1), .val (.int (1 : Int32)), .val (.ref aP), .val (.ref aD), .val (.ref aD)] [(.int (1 : Int32))])
    refine own_by (fun _ k => XS.goto X11.here hx rfl (pc0 := 75) (pc' := 79) rfl (hb hby at_75) (by decide) (by decide) k) ?_
    show own_Go p e below _ T11 (mkF m 79 #[.val (.int p1), .val (.int (1 : Int32)), .val (.ref aP), .val (.ref aD), .val (.ref aD)] [(.int (1 : Int32))])
    exact own_retN X11 hx hlk hret (by simp) rfl (hb hby at_79) (by first | exact ⟨rfl, N11⟩ | (rw [e11]; exact ⟨rfl, N11⟩)) (by decide) (by decide)
set_option maxRecDepth 65536 in
set_option maxHeartbeats 40000000 in
theorem comes_1 {Post : Tables → Env → Array Value → State → Outcome → State → Prop} (hpost : ∀ tb e args s v u, (limb_1_1.after args s (.returned v) u = true ∧ limb_1_2.after args s (.returned v) u = true ∧ True) → FrameEnd s (.returned v) u (Jvm.fieldLocs frame_1_writes args s ++ Jvm.arrayLocs frame_1_arrays args s ++ Jvm.staticLocs frame_1_statics s) 0 0 → Post tb e args s (.returned v) u) :
    ArmFor flags0 classFile x code maxLocals ret World_1 tables_1 room_1 Calls_1 rest_1 Pre_1 Post := by
  intro l hfl _ _ p e ha hc hk s m args below hf hA hF happ hP
  obtain ⟨hcalls, hrest, hpre⟩ := hP
  obtain ⟨-, -, -, hnamed, -, -, -, hat⟩ := (Spec.applies_iff hf).mp happ
  obtain ⟨hg, hn⟩ := and_e (Cond.before_iff.mp (show (Jvm.Cond.and given_1 narrow_1).before args s = true from hpre))
  obtain ⟨g1, g2⟩ := and_e hg
  obtain ⟨w0, rfl⟩ : ∃ w0 : Value, args = #[w0] := by
    have hs : args.size = 1 := by simpa [Cond.value, given_1] using g1
    obtain ⟨L⟩ := args
    match L, hs with
    | [w0], _ => exact ⟨w0, rfl⟩
  have hw := fun d (hd : d ∈ tables_1) => atoms_spec (ws := Jvm.Cond.code x code maxLocals ret :: tables_1) hat d (List.mem_cons_of_mem _ hd)
  have hfit : Fit s := fun {y c} hc i hi => by
    obtain ⟨ha, rfl⟩ := Array.getElem?_eq_some_iff.mp hc
    have q := List.all_eq_true.mp ((Array.all_eq_true_iff_forall_mem.mp hF) _ (Array.getElem_mem ha)) i (List.mem_range.mpr hi)
    simpa [Array.getElem?_eq_getElem hi] using q
  obtain ⟨i0, ei0⟩ := is_v g2
  obtain rfl : w0 = (.int i0) := Option.some.inj ei0
  obtain ⟨m1, hn⟩ := and_e hn
  obtain ⟨m2, hn⟩ := and_e hn
  obtain ⟨m3, m4⟩ := and_e hn
  obtain ⟨aD, evD, SD, ED⟩ := own_sta m1 (hw _ (List.mem_of_getElem? (i := 1) rfl)) (hw _ (List.mem_of_getElem? (i := 2) rfl))
  obtain ⟨aP, evP, SP, EP⟩ := own_sta m2 (hw _ (List.mem_of_getElem? (i := 1) rfl)) (hw _ (List.mem_of_getElem? (i := 4) rfl))
  have FD := own_fldI evD m3
  have FP := own_fldI evP m4
  obtain ⟨n, o, h1, h2, h3, _, L, rfl, ⟨rfl, N⟩, hq⟩ := rm0 l s _ hw tables_1 i0 aP aD s.heap s.heap.size (Nat.le_refl _) SP SD EP ED (Fld.ne FP FD (by decide)) p e ha hc hk s m _ below hf ((Spec.applies_iff_loose hf).mp happ).1 ⟨rfl, State.Warmed39.refl s, rfl⟩ trivial
  refine ⟨n, _, h1, h2, h3, hpost _ _ _ _ _ _ ⟨Cond.after_iff.mpr rfl, Cond.after_iff.mpr (eq_i res_at (Term.int_eval (1)) rfl), trivial⟩ ⟨hq.1, hq.2.1, (hq.2.2.sift fun y hy => Or.inr (N y hy)).mono (by decide) (by decide)⟩⟩
theorem main_1_1 : Claimed_1_1 := comes_1 fun _ _ _ _ _ _ h hF => ⟨h.1, hF⟩
theorem main_1_2 : Claimed_1_2 := comes_1 fun _ _ _ _ _ _ h hF => ⟨h.2.1, hF⟩
end Jvm.Pilot.@@N@@
namespace Jvm.Pilot.@@N@@
open Jvm Jvm.ClassFile Sem Op Lib Jvm.Free Jvm.Stand Jvm.Pilot.@@N@@.Jvm.D
/-! MADE BY PROGRAM (witnessworld.py) out of the Statement's table words and the real class files: 12 classes; the members and pool entries that the words name. The judged class is class 1, her method 1. -/
namespace start1
open Jvm.ClassFile
def u (s : String) : CpInfo := .utf8 (stringToUtf16 s)
/-- a pool by its gaps: so many unusable entries, then the entry; so many at the end -/
def gap : Nat → List CpInfo → List CpInfo
  | 0, r => r
  | n + 1, r => .unusable :: gap n r
def poolList (es : List (Nat × CpInfo)) (last : Nat) : List CpInfo := es.foldr (fun e r => gap e.1 (e.2 :: r)) (gap last [])
def pool (es : List (Nat × CpInfo)) (last : Nat) : Array CpInfo := ⟨poolList es last⟩
def fileOf (pool : Array CpInfo) (this : Nat) (attrs : Array Attribute := #[]) (ms : Array MethodInfo := #[]) (fl : Nat := 33) (sup : Nat := 0) (ifs : Array Nat := #[]) (fds : Array FieldInfo := #[]) : ClassFile where
  minorVersion := 0
  majorVersion := 65
  constantPool := pool
  accessFlags := fl
  thisClass := this
  superClass := sup
  interfaces := ifs
  fields := fds
  methods := ms
  attributes := attrs
def plain (name : String) (sup : Option ClassId) : Class where
  name := name
  kind := .ordinary
  loader := none
  accessFlags := 33
  super := sup
  interfaces := #[]
  cf := none
  fields := #[]
  methods := #[]
  instanceTypes := #[]
  staticTypes := #[]
  resolved := #[]
  callSites := []
  init := .initialized
  statics := none
  mirror := none

def pool0 : Array CpInfo := pool [(5, u "<init>"), (0, u "()V"), (1, .class_ 10), (1, u "java/lang/Object")] 113

def k0m0 : Method := { name := "<init>", desc := "()V", sig := { parameters := [], returnType := none }, accessFlags := 1, code := none }
/-- java/lang/Object -/
def k0 : Class := { plain "java/lang/Object" none with
  accessFlags := 33
  interfaces := #[]
  cf := some (fileOf pool0 8 #[] #[{ accessFlags := 1, nameIndex := 5, descriptorIndex := 6, attributes := #[] }] 33 0 #[] #[])
  fields := #[]
  methods := #[k0m0]
  instanceTypes := #[]
  staticTypes := #[]
  resolved := Array.replicate 124 none
  statics := none }

def pool1 : Array CpInfo := pool [(2, .class_ 4), (1, u "java/lang/Object"), (0, u "<init>"), (0, u "()V"), (0, .fieldref 8 9), (0, .class_ 10), (0, .nameAndType 11 12), (0, u "com/example/nomos/nomos/Effect"), (0, u "PERMIT"), (0, u "Lcom/example/nomos/nomos/Effect;"), (0, .fieldref 8 14), (0, .nameAndType 15 12), (0, u "DENY"), (0, .methodref 8 17), (0, .nameAndType 18 19), (0, u "opposite"), (0, u "()Lcom/example/nomos/nomos/Effect;"), (0, .class_ 21), (0, u "com/example/nomos/nomos/EffectOppositePinLaw"), (2, u "law"), (0, u "(I)Z")] 3

def k1m0 : Method := { name := "<init>", desc := "()V", sig := { parameters := [], returnType := none }, accessFlags := 2, code := none }
def k1c1 : Code := { maxStack := 2, maxLocals := 5, code := code, exceptionTable := #[], attributes := #[] }
def k1m1 : Method := { name := "law", desc := "(I)Z", sig := { parameters := [.int], returnType := some .boolean }, accessFlags := 9, code := some k1c1 }
/-- com/example/nomos/nomos/EffectOppositePinLaw -/
def k1 : Class := { plain "com/example/nomos/nomos/EffectOppositePinLaw" (some 0) with
  accessFlags := 49
  interfaces := #[]
  cf := some (fileOf pool1 20 #[] #[{ accessFlags := 2, nameIndex := 5, descriptorIndex := 6, attributes := #[] }, { accessFlags := 9, nameIndex := 24, descriptorIndex := 25, attributes := #[] }] 49 2 #[] #[])
  fields := #[]
  methods := #[k1m0, k1m1]
  instanceTypes := #[]
  staticTypes := #[]
  resolved := Array.replicate 29 none
  statics := none }

def pool2 : Array CpInfo := pool [(1, .class_ 2), (0, u "java/lang/constant/Constable"), (0, .class_ 4), (0, u "java/lang/Object")] 6

/-- java/lang/constant/Constable -/
def k2 : Class := { plain "java/lang/constant/Constable" (some 0) with
  accessFlags := 1537
  interfaces := #[]
  cf := some (fileOf pool2 1 #[] #[] 1537 3 #[] #[])
  fields := #[]
  methods := #[]
  instanceTypes := #[]
  staticTypes := #[]
  resolved := Array.replicate 11 none
  statics := none }

def pool3 : Array CpInfo := pool [(1, .class_ 2), (0, u "java/lang/Comparable"), (0, .class_ 4), (0, u "java/lang/Object")] 7

/-- java/lang/Comparable -/
def k3 : Class := { plain "java/lang/Comparable" (some 0) with
  accessFlags := 1537
  interfaces := #[]
  cf := some (fileOf pool3 1 #[] #[] 1537 3 #[] #[])
  fields := #[]
  methods := #[]
  instanceTypes := #[]
  staticTypes := #[]
  resolved := Array.replicate 12 none
  statics := none }

def pool4 : Array CpInfo := pool [(1, .class_ 2), (0, u "java/io/Serializable"), (0, .class_ 4), (0, u "java/lang/Object")] 2

/-- java/io/Serializable -/
def k4 : Class := { plain "java/io/Serializable" (some 0) with
  accessFlags := 1537
  interfaces := #[]
  cf := some (fileOf pool4 1 #[] #[] 1537 3 #[] #[])
  fields := #[]
  methods := #[]
  instanceTypes := #[]
  staticTypes := #[]
  resolved := Array.replicate 7 none
  statics := none }

def pool5 : Array CpInfo := pool [(2, .class_ 4), (1, u "java/lang/Enum"), (0, u "name"), (0, u "Ljava/lang/String;"), (2, u "ordinal"), (0, u "I"), (1, .class_ 14), (1, u "java/lang/Object"), (4, u "hash"), (86, .class_ 108), (1, u "java/lang/Enum$EnumDesc"), (2, .class_ 112), (0, u "java/lang/constant/Constable"), (0, .class_ 114), (0, u "java/lang/Comparable"), (0, .class_ 116), (0, u "java/io/Serializable")] 87

/-- java/lang/Enum -/
def k5 : Class := { plain "java/lang/Enum" (some 0) with
  accessFlags := 1057
  interfaces := #[2, 3, 4]
  cf := some (fileOf pool5 2 #[.nestMembers #[106]] #[] 1057 12 #[111, 113, 115] #[{ accessFlags := 18, nameIndex := 5, descriptorIndex := 6, attributes := #[] }, { accessFlags := 18, nameIndex := 9, descriptorIndex := 10, attributes := #[] }, { accessFlags := 2, nameIndex := 19, descriptorIndex := 10, attributes := #[] }])
  fields := #[{ name := "name", type := (.object "java/lang/String"), accessFlags := 18, slot := 0, constantValue := 0 }, { name := "ordinal", type := .int, accessFlags := 18, slot := 1, constantValue := 0 }, { name := "hash", type := .int, accessFlags := 2, slot := 2, constantValue := 0 }]
  methods := #[]
  instanceTypes := #[(.object "java/lang/String"), .int, .int]
  staticTypes := #[]
  resolved := Array.replicate 204 none
  statics := none }

def pool6 : Array CpInfo := pool [(1, .class_ 2), (0, u "com/example/nomos/nomos/Effect"), (0, .fieldref 1 4), (0, .nameAndType 5 6), (0, u "PERMIT"), (0, u "Lcom/example/nomos/nomos/Effect;"), (0, .fieldref 1 8), (0, .nameAndType 9 6), (0, u "DENY"), (2, u "$VALUES"), (0, u "[Lcom/example/nomos/nomos/Effect;"), (6, .class_ 22), (1, u "java/lang/Enum"), (8, u "spelling"), (0, u "Ljava/lang/String;"), (2, u "outcome"), (0, u "Lcom/example/nomos/nomos/Outcome;"), (2, u "indeterminate"), (45, u "opposite"), (0, u "()Lcom/example/nomos/nomos/Effect;")] 5

def k6c0 : Code := { maxStack := 2, maxLocals := 1, code := prog_47_method_8_code, exceptionTable := #[], attributes := #[] }
def k6m0 : Method := { name := "opposite", desc := "()Lcom/example/nomos/nomos/Effect;", sig := { parameters := [], returnType := some (.object "com/example/nomos/nomos/Effect") }, accessFlags := 0, code := some k6c0 }
/-- com/example/nomos/nomos/Effect -/
def k6 : Class := { plain "com/example/nomos/nomos/Effect" (some 5) with
  accessFlags := 16432
  interfaces := #[]
  cf := some (fileOf pool6 1 #[] #[{ accessFlags := 0, nameIndex := 85, descriptorIndex := 86, attributes := #[] }] 16432 20 #[] #[{ accessFlags := 16409, nameIndex := 5, descriptorIndex := 6, attributes := #[] }, { accessFlags := 16409, nameIndex := 9, descriptorIndex := 6, attributes := #[] }, { accessFlags := 18, nameIndex := 31, descriptorIndex := 32, attributes := #[] }, { accessFlags := 18, nameIndex := 35, descriptorIndex := 36, attributes := #[] }, { accessFlags := 18, nameIndex := 39, descriptorIndex := 36, attributes := #[] }, { accessFlags := 4122, nameIndex := 12, descriptorIndex := 13, attributes := #[] }])
  fields := #[{ name := "PERMIT", type := (.object "com/example/nomos/nomos/Effect"), accessFlags := 16409, slot := 0, constantValue := 0 }, { name := "DENY", type := (.object "com/example/nomos/nomos/Effect"), accessFlags := 16409, slot := 1, constantValue := 0 }, { name := "spelling", type := (.object "java/lang/String"), accessFlags := 18, slot := 3, constantValue := 0 }, { name := "outcome", type := (.object "com/example/nomos/nomos/Outcome"), accessFlags := 18, slot := 4, constantValue := 0 }, { name := "indeterminate", type := (.object "com/example/nomos/nomos/Outcome"), accessFlags := 18, slot := 5, constantValue := 0 }, { name := "$VALUES", type := (.array (.object "com/example/nomos/nomos/Effect")), accessFlags := 4122, slot := 2, constantValue := 0 }]
  methods := #[k6m0]
  instanceTypes := #[(.object "java/lang/String"), .int, .int, (.object "java/lang/String"), (.object "com/example/nomos/nomos/Outcome"), (.object "com/example/nomos/nomos/Outcome")]
  staticTypes := #[(.object "com/example/nomos/nomos/Effect"), (.object "com/example/nomos/nomos/Effect"), (.array (.object "com/example/nomos/nomos/Effect"))]
  resolved := Array.replicate 92 none
  statics := some 0 }

def pool7 : Array CpInfo := pool [(1, u "java/lang/Cloneable"), (0, .class_ 1), (0, u "java/lang/Object"), (0, .class_ 3)] 3

/-- java/lang/Cloneable -/
def k7 : Class := { plain "java/lang/Cloneable" (some 0) with
  accessFlags := 1537
  interfaces := #[]
  cf := some (fileOf pool7 2 #[] #[] 1537 4 #[] #[])
  fields := #[]
  methods := #[]
  instanceTypes := #[]
  staticTypes := #[]
  resolved := Array.replicate 8 none
  statics := none }

/-- the primitive byte -/
def k8 : Class := { plain "byte" none with kind := .primitive 'B', accessFlags := 0x411 }
/-- [B -/
def k9 : Class := { plain "[B" (some 0) with kind := .array 8 .byte, interfaces := #[7, 4], accessFlags := 1041 }

/-- the primitive int -/
def k10 : Class := { plain "int" none with kind := .primitive 'I', accessFlags := 0x411 }
/-- [I -/
def k11 : Class := { plain "[I" (some 0) with kind := .array 10 .int, interfaces := #[7, 4], accessFlags := 1041 }

def heap : Heap := #[{ cls := 6, slots := #[.ref 2, .ref 1, .null], vm := .statics 6 },
  { cls := 6, slots := #[.null, .int 1, .int 0, .null, .null, .null], vm := .none },
  { cls := 6, slots := #[.null, .int 0, .int 0, .null, .null, .null], vm := .none }]
def classes : Array Class := #[k0, k1, k2, k3, k4, k5, k6, k7, k8, k9, k10, k11]
def interned : List (Array UInt16 × Addr) := []
def slotsUsed : Nat := 15
def theMethod : MethodId := ⟨1, 1⟩
def args0 : Array Value := #[.int 1]
def aboutOver (below : List Frame) : State where
  vm := { classes := classes, interned := interned.toArray }
  heap := heap
  slotsUsed := slotsUsed
  threads := #[{ frames := .invoking theMethod args0 :: below }]
def below0 : List Frame := [.native { method := ⟨0, 0⟩, args := #[] }]
def about1 : State := aboutOver below0
def p0 : Program := .bare "" "" ""
def e0 : Env := launch0.env 0 0 0
theorem w_frames : about1.frames = Frame.invoking theMethod args0 :: below0 := rfl
set_option maxRecDepth 65536 in
theorem w_args : argsFit about1.vm theMethod args0 = true := by decide +kernel
set_option maxRecDepth 65536 in
theorem w_heap : heapFits about1 = true := by decide +kernel
set_option maxRecDepth 65536 in
theorem w_runnable : about1.curStatus? = some .runnable := by decide +kernel
set_option maxRecDepth 65536 in
theorem w_alone : about1.alone = true := by decide +kernel
set_option maxRecDepth 65536 in
theorem w_named : about1.methodNamed? x = some theMethod := by decide +kernel
set_option maxRecDepth 65536 in
theorem w_hears : about1.hears theMethod below0 = true := by decide +kernel
set_option maxRecDepth 65536 in
theorem w_ripe : about1.ripe theMethod args0 below0 = true := by decide +kernel
theorem w_running : about1.status = .running := rfl
set_option maxRecDepth 65536 in
theorem w_room : about1.hasRoom e0.platform room_1 = true :=
  launch0.hasRoom_least _ room_1 (by decide +kernel) (by decide +kernel) (by decide +kernel) (by decide +kernel) (by decide +kernel) (by decide +kernel)
theorem allAtoms_all (ts : List Jvm.Cond) (a : Array Jvm.Value) (st : Jvm.State) : (allAtoms ts).before a st = ts.all (fun c => c.before a st) := by
  induction ts with
  | nil => rfl
  | cons c t ih =>
    show (Jvm.Cond.and c (allAtoms t)).before a st = _
    rw [Jvm.Cond.before_and, ih, List.all_cons]
def words1 : List Jvm.Cond := Jvm.Cond.code x code maxLocals ret :: tables_1
/-- a 'code' word, met by the world's own term for the bytes: nothing is compared byte by byte -/
theorem code_word {y : MethodName} {bytes : ByteArray} {mx : Nat} {rt : Option FieldType} {a : Array Value} {s : State} {m : MethodId} {meth : Method} {c : Code} (h1 : s.methodNamed? y = some m) (h2 : s.vm.method? m = some meth) (h3 : meth.code = some c) (h4 : c.code = bytes)
    (h5 : (c.maxLocals == mx && c.exceptionTable.isEmpty && decide (c.maxStack ≤ mostOperands) && decide (meth.sig.returnType = rt) && !meth.locks && decide (parseMethodDescriptor y.desc = some meth.sig)) = true) : (Jvm.Cond.code y bytes mx rt).before a s = true := by
  simp only [Bool.and_eq_true, beq_iff_eq, Bool.not_eq_true', decide_eq_true_eq] at h5
  obtain ⟨⟨⟨⟨⟨g1, g2⟩, g3⟩, g4⟩, g5⟩, g6⟩ := h5
  simp [Cond.before, Cond.holds, Cond.value, h1, h2, h3, h4, g1, g2, g3, g4, g5, g6]
def isCode : Jvm.Cond → Bool
  | .code _ _ _ _ => true
  | _ => false
theorem all_split {L : List Jvm.Cond} {P : Jvm.Cond → Bool} (h1 : L.all (fun c => isCode c || P c) = true) (h2 : ∀ c ∈ L.filter isCode, P c = true) : L.all P = true := by
  refine List.all_eq_true.mpr fun c hc => ?_
  have h := List.all_eq_true.mp h1 c hc
  rcases Bool.eq_false_or_eq_true (isCode c) with hi | hi
  · exact h2 c (List.mem_filter.mpr ⟨hc, hi⟩)
  · simpa [hi] using h
set_option maxRecDepth 65536 in
theorem w_c0 : (Jvm.Cond.code x code maxLocals ret).before args0 about1 = true := code_word (m := ⟨1, 1⟩) (meth := k1m1) (c := k1c1) (by decide +kernel) rfl rfl rfl (by decide +kernel)
set_option maxRecDepth 65536 in
theorem w_c1 : (Jvm.Cond.code ({ cls := "com/example/nomos/nomos/Effect", name := "opposite", desc := "()Lcom/example/nomos/nomos/Effect;" } : Jvm.MethodName) prog_47_method_8_code (1 : Nat) (Option.some (Jvm.ClassFile.FieldType.object "com/example/nomos/nomos/Effect"))).before args0 about1 = true := code_word (m := ⟨6, 0⟩) (meth := k6m0) (c := k6c0) (by decide +kernel) rfl rfl rfl (by decide +kernel)
def codes1 : List Jvm.Cond := [Jvm.Cond.code x code maxLocals ret, Jvm.Cond.code ({ cls := "com/example/nomos/nomos/Effect", name := "opposite", desc := "()Lcom/example/nomos/nomos/Effect;" } : Jvm.MethodName) prog_47_method_8_code (1 : Nat) (Option.some (Jvm.ClassFile.FieldType.object "com/example/nomos/nomos/Effect"))]
set_option maxRecDepth 65536 in
theorem codes_eq : words1.filter isCode = codes1 := rfl
theorem w_codes : ∀ c ∈ words1.filter isCode, c.before args0 about1 = true := by
  rw [codes_eq]
  intro c hc
  simp only [codes1, List.mem_cons, List.not_mem_nil, or_false] at hc
  rcases hc with rfl | rfl
  · exact w_c0
  · exact w_c1
set_option maxRecDepth 65536 in
theorem w_t1 : words1.all (fun c => isCode c || c.before args0 about1) = true := by decide +kernel
theorem w_tables : (allAtoms (Jvm.Cond.code x code maxLocals ret :: tables_1)).before args0 about1 = true := by
  rw [allAtoms_all]
  show words1.all (fun c => c.before args0 about1) = true
  refine all_split ?_ w_codes
  rw [w_t1]
set_option maxRecDepth 65536 in
theorem w_case : (Jvm.Cond.and given_1 narrow_1).before args0 about1 = true := by decide +kernel
theorem w_applies : (headSpec (Jvm.Cond.code x code maxLocals ret :: tables_1) room_1).applies x e0.platform about1 = true :=
  (Spec.applies_iff w_frames).mpr ⟨w_running, w_runnable, w_alone, w_named, w_hears, w_ripe, w_room, w_tables⟩
theorem atStart : AtStart classFile x code maxLocals ret World_1 tables_1 room_1 Calls_1 rest_1 Pre_1 launch0 p0 e0 about1 theMethod args0 below0 :=
  ⟨lists_1, trivial, launch0.admits_env _ _ _, launch0.least_env, fairChoices_fair.cas, fairChoices_fair.clock, w_frames, w_args, w_heap, w_applies, trivial, trivial, w_case⟩
end start1
theorem witness_1 : WitnessClaimed_1 := ⟨start1.p0, start1.e0, start1.about1, start1.theMethod, start1.args0, start1.below0, start1.atStart⟩
end Jvm.Pilot.@@N@@
