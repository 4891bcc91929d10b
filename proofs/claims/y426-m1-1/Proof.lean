import JvmDerived
import JvmDerived.Pilot.@@N@@Statement
import JvmDerived.Pilot.@@N@@Code
set_option linter.unusedVariables false
set_option linter.unusedSimpArgs false
namespace Jvm.Pilot.@@N@@
open Jvm Jvm.ClassFile Sem Op Lib Jvm.Free Jvm.Stand Jvm.LawKit Jvm.RoadKit Bundle Jvm.Pilot.@@N@@.Jvm.D
section OwnKit
variable {p : Program} {l : Launch} {e : Env} {R : Room} {s : State} {m : MethodId} {args : Array Value} {below : List Frame} {meth : Method} {c : Code} {T T' : State} {locs : List Loc} {cells slots : Nat} {Z : State} {a0 : Array Value} {h : Heap}
/-- from here the run comes to an end of which E speaks -/
def own_Go (p : Program) (e : Env) (below : List Frame) (E : State → Outcome → Prop) (T : State) (g : JFrame) : Prop :=
  ∃ t o, Steps p.tables e below (T.setTop g) t ∧ t.status = .running ∧ Ended t below o ∧ E t o
def own_End (s : State) (k n : Nat) (Q : Option Value → Heap → List Loc → Prop) (t : State) (o : Outcome) : Prop :=
  ∃ v L, o = .returned v ∧ Q v t.heap L ∧ FrameEnd s o t L k n
theorem own_by {E : State → Outcome → Prop} {g g' : JFrame} (st : ∀ target, Steps p.tables e below (T'.setTop g') target → Steps p.tables e below (T.setTop g) target) (k : own_Go p e below E T' g') : own_Go p e below E T g := by
  obtain ⟨t, o, h1, r⟩ := k
  exact ⟨t, o, st t h1, r⟩
theorem own_retW (X : Stand p l e R s m args below meth c T locs cells slots) (hx : p.tables.exec = Jvm.exec) (hlk : meth.locks = false) {pc : Nat} {Ls : Array Slot} {w : Value} {t : FieldType} {i : Instr} {rest : List Value} (hret : meth.sig.returnType = some t) (hn : narrow t w = w)
    (hi : (i = .ireturn ∧ (t = .int ∨ t = .boolean ∨ t = .byte ∨ t = .char ∨ t = .short) ∧ ∃ z, w = .int z) ∨ (i = .lreturn ∧ t = .long ∧ ∃ z, w = .long z) ∨ (i = .dreturn ∧ t = .double ∧ ∃ z, w = .double z) ∨ (i = .freturn ∧ t = .float ∧ ∃ z, w = .float z) ∨ (i = .areturn ∧ t.isReference = true ∧ w.isRef = true))
    (hd : decode c.code pc = .ok (i, 1)) {Q : Option Value → Heap → List Loc → Prop} {k n : Nat} (hQ : Q (some w) T.heap locs) (hk : cells ≤ k) (hs : slots ≤ n) : own_Go p e below (own_End s k n Q) T (mkF m pc Ls (w :: rest)) := by
  obtain ⟨fs, hr, hrun, hended, hW, hsame⟩ := X.leave (v := some w) (fun h => by rw [hret] at h; cases h) hlk
  exact ⟨_, _, retOut X hx hret hn hi hd hr, hrun, hended, _, _, rfl, hQ, ⟨_, rfl⟩, hW, hsame.mono hk hs⟩
theorem own_retI (X : Stand p l e R s m args below meth c T locs cells slots) (hx : p.tables.exec = Jvm.exec) (hlk : meth.locks = false) {pc : Nat} {Ls : Array Slot} {z : Int32} {rest : List Value} (hret : meth.sig.returnType = some .int) (hd : decode c.code pc = .ok (.ireturn, 1)) {Q : Option Value → Heap → List Loc → Prop} {k n : Nat} (hQ : Q (some (.int z)) T.heap locs) (hk : cells ≤ k) (hs : slots ≤ n) : own_Go p e below (own_End s k n Q) T (mkF m pc Ls (.int z :: rest)) :=
  own_retW X hx hlk hret rfl (Or.inl ⟨rfl, Or.inl rfl, z, rfl⟩) hd hQ hk hs
theorem own_retJ (X : Stand p l e R s m args below meth c T locs cells slots) (hx : p.tables.exec = Jvm.exec) (hlk : meth.locks = false) {pc : Nat} {Ls : Array Slot} {z : Int64} {rest : List Value} (hret : meth.sig.returnType = some .long) (hd : decode c.code pc = .ok (.lreturn, 1)) {Q : Option Value → Heap → List Loc → Prop} {k n : Nat} (hQ : Q (some (.long z)) T.heap locs) (hk : cells ≤ k) (hs : slots ≤ n) : own_Go p e below (own_End s k n Q) T (mkF m pc Ls (.long z :: rest)) :=
  own_retW X hx hlk hret rfl (Or.inr (Or.inl ⟨rfl, rfl, z, rfl⟩)) hd hQ hk hs
theorem own_retA (X : Stand p l e R s m args below meth c T locs cells slots) (hx : p.tables.exec = Jvm.exec) (hlk : meth.locks = false) {pc : Nat} {Ls : Array Slot} {w : Value} {t : FieldType} {rest : List Value} (hret : meth.sig.returnType = some t) (ht : t.isReference = true) (hw : w.isRef = true) (hd : decode c.code pc = .ok (.areturn, 1)) {Q : Option Value → Heap → List Loc → Prop} {k n : Nat} (hQ : Q (some w) T.heap locs) (hk : cells ≤ k) (hs : slots ≤ n) : own_Go p e below (own_End s k n Q) T (mkF m pc Ls (w :: rest)) :=
  own_retW X hx hlk hret (by cases t <;> first | (cases ht; done) | (cases w <;> first | rfl | (cases hw; done))) (Or.inr (Or.inr (Or.inr (Or.inr ⟨rfl, ht, hw⟩)))) hd hQ hk hs
theorem own_retN (X : Stand p l e R s m args below meth c T locs cells slots) (hx : p.tables.exec = Jvm.exec) (hlk : meth.locks = false) {pc : Nat} {Ls : Array Slot} {z : Int32} {t : FieldType} {rest : List Value} (hret : meth.sig.returnType = some t) (ht : t = .boolean ∨ t = .byte ∨ t = .char ∨ t = .short) (hn : nar t z = z) (hd : decode c.code pc = .ok (.ireturn, 1)) {Q : Option Value → Heap → List Loc → Prop} {k n : Nat} (hQ : Q (some (.int z)) T.heap locs) (hk : cells ≤ k) (hs : slots ≤ n) : own_Go p e below (own_End s k n Q) T (mkF m pc Ls (.int z :: rest)) :=
  own_retW X hx hlk hret (by rcases ht with rfl | rfl | rfl | rfl <;> exact congrArg Value.int hn) (Or.inl ⟨rfl, Or.inr ht, z, rfl⟩) hd hQ hk hs
theorem own_ret0 (X : Stand p l e R s m args below meth c T locs cells slots) (hx : p.tables.exec = Jvm.exec) (hlk : meth.locks = false) {pc : Nat} {Ls : Array Slot} (hret : meth.sig.returnType = none) (hd : decode c.code pc = .ok (.return_, 1)) {Q : Option Value → Heap → List Loc → Prop} {k n : Nat} (hQ : Q none T.heap locs) (hk : cells ≤ k) (hs : slots ≤ n) : own_Go p e below (own_End s k n Q) T (mkF m pc Ls []) := by
  obtain ⟨fs, hr, hrun, hended, hW, hsame⟩ := X.leave (v := none) (fun _ => rfl) hlk
  exact ⟨_, _, X.returnOut hx hret hd hr, hrun, hended, _, _, rfl, hQ, ⟨_, rfl⟩, hW, hsame.mono hk hs⟩
theorem own_lrem {g : JFrame} {target : State} (X : Stand p l e R s m args below meth c T locs cells slots) (hx : p.tables.exec = Jvm.exec) (hg : g.method = m) {x y : Int64} {rest : List Value} (hd : decode c.code g.pc = .ok (.lrem, 1)) (hs : g.stack = .long y :: .long x :: rest) (hy : y ≠ 0)
    (hr : Steps p.tables e below (T.setTop { g with pc := g.pc + 1, stack := .long (x % y) :: rest }) target) : Steps p.tables e below (T.setTop g) target :=
  XS.lrem X.here hx hg hd hs hy (by rw [lrem_mod]; exact hr)
/-- a body's contract: called with as' at the heap h it returns, and Q speaks of what it returns, the heap that it leaves and the places that it wrote -/
abbrev own_Met (l : Launch) (Z : State) (y : MethodName) (bytes : ByteArray) (maxL : Nat) (rt : Option FieldType) (ws : List Jvm.Cond) (rm : Room) (as' : Array Value) (h : Heap) (Q : Option Value → Heap → List Loc → Prop) : Prop :=
  MetFree l y (head1 (Jvm.Cond.code y bytes maxL rt :: ws) rm) (fun a U => a = as' ∧ Z.Warmed39 U.vm ∧ U.heap = h) (fun _ _ _ _ _ => True) (fun _ U o U' => ∃ v L, o = .returned v ∧ Q v U'.heap L ∧ FrameEnd U o U' L rm.cells rm.slots)
theorem own_enter {y : MethodName} {bytes : ByteArray} {maxL : Nat} {rt : Option FieldType} {ws : List Jvm.Cond} {rm : Room} {as' : Array Value} {Q : Option Value → Heap → List Loc → Prop} (hy : plainFor y = true) {g0 : MethodId → JFrame} (hg0 : ∀ m, entryFrame m as' maxL = g0 m)
    (body : ∀ (p : Program) (e : Env) (s : State) (m : MethodId) (below : List Frame) (meth : Method) (c : Code) (s₁ : State), p.tables.exec = Jvm.exec → c.code = bytes → c.maxLocals = maxL → s.vm.findClass y.cls = some m.cls → meth.name = y.name → meth.sig.returnType = rt → meth.locks = false → Z.Warmed39 s.vm → Stand p l e rm s m as' below meth c s₁ [] 0 0 → s₁.heap = h → own_Go p e below (own_End s rm.cells rm.slots Q) s₁ (g0 m)) :
    own_Met l Z y bytes maxL rt ws rm as' h Q := by
  refine MetFree.of_bodySF hy hisR ?_
  intro p e s m args below meth c s₁ Bd hml0 hP hK
  obtain ⟨rfl, hZ, hh⟩ := hP
  obtain ⟨t, o, h1, h2, h3, h4⟩ := body p e s m below meth c s₁ Bd.exec Bd.bytes hml0 (findClass_of_methodNamed Bd.named) (name_of_methodNamed Bd.named Bd.method).1 Bd.returns (BodyLoose.notSynchronized Bd) hZ (Stand.of_body Bd) (by rw [← hh, Bd.state]; rfl)
  exact ⟨t, o, castTop (hg0 m) h1, h2, h3, h4⟩
theorem own_callS (X : Stand p l e R s m args below meth c T locs cells slots) (hx : p.tables.exec = Jvm.exec) (hZ : Z.Warmed39 s.vm) {own : String} (hown : s.vm.findClass own = some m.cls) {index : Nat} {y : MethodName} {bytes : ByteArray} {maxL : Nat} {rt : Option FieldType}
    (w1 : (Jvm.Cond.methodLink own index y).before a0 Z = true) (w2 : (Jvm.Cond.static y).before a0 Z = true) (w3 : (Jvm.Cond.initialized y.cls).before a0 Z = true) (w4 : (Jvm.Cond.code y bytes maxL rt).before a0 Z = true)
    (hy : y.cls ≠ "java/lang/invoke/MethodHandle" ∧ y.cls ≠ "java/lang/invoke/VarHandle") {rm : Room} {argsL rest : List Value} {Q : Option Value → Heap → List Loc → Prop} (eT : T.heap = h) (hM : own_Met l Z y bytes maxL rt [] rm argsL.toArray h Q)
    {g : JFrame} (hg : g.method = m) (hsize : g.locals.size = c.maxLocals) (hlen : ∀ sig, parseMethodDescriptor y.desc = some sig → argsL.length = sig.parameters.length) (hstack : g.stack = argsL.reverse ++ rest) {W : Nat} (hW : 2 * g.monitorRoom + (rest.map fun v => v.category).sum ≤ W) (hd : decode c.code g.pc = .ok (.invokestatic index, 3))
    (hf : rm.frames + 1 ≤ R.frames) (hl : W + (maxL + 11) + rm.locals ≤ R.locals) (hc : cells + rm.cells ≤ R.cells) (hs : slots + rm.slots ≤ R.slots) :
    ∃ v T' L, Stand p l e R s m args below meth c T' (locs ++ L) (cells + rm.cells) (slots + rm.slots) ∧ Q v T'.heap L ∧ ∀ target, Steps p.tables e below (T'.setTop { g with pc := g.pc + 3, stack := v.toList ++ rest }) target → Steps p.tables e below (T.setTop g) target := by
  obtain ⟨v, _, ⟨T1, L1, k1, n1⟩, -, X1, ⟨Lc, hQ, l1, y1, z1⟩, st⟩ := Jvm.LawKit.callS X hx (y := y) hown (mvT hZ w1) (mvT hZ w2) (mvT hZ w3) (mvT hZ w4) hy (backOf (W := W) hM hZ w4 w3 hf hl) (g := g) hg hsize (argsL := argsL) (rest := rest) hlen hstack hW hd (fun _ _ => ⟨rfl, eT, hc, hs⟩)
  dsimp only [Pt.U, Pt.locs, Pt.cells, Pt.slots] at X1 l1 y1 z1 st hQ
  subst l1 y1 z1
  exact ⟨v, T1, Lc, X1, hQ, st⟩
theorem own_callI (X : Stand p l e R s m args below meth c T locs cells slots) (hx : p.tables.exec = Jvm.exec) (hZ : Z.Warmed39 s.vm) {own : String} (hown : s.vm.findClass own = some m.cls) {index : Nat} {y : MethodName} {bytes : ByteArray} {maxL : Nat} (hy1 : y.name = "<init>")
    (w1 : (Jvm.Cond.methodLink own index y).before a0 Z = true) (w2 : (Jvm.Cond.instanceMethod y).before a0 Z = true) (w3 : (Jvm.Cond.initialized y.cls).before a0 Z = true) (w4 : (Jvm.Cond.code y bytes maxL none).before a0 Z = true)
    (hy : y.cls ≠ "java/lang/invoke/MethodHandle" ∧ y.cls ≠ "java/lang/invoke/VarHandle") {rm : Room} {a : Addr} {argsL rest : List Value} {Q : Option Value → Heap → List Loc → Prop} (eT : T.heap = h) (hM : own_Met l Z y bytes maxL none [] rm (.ref a :: argsL).toArray h Q)
    {g : JFrame} (hg : g.method = m) (hsize : g.locals.size = c.maxLocals) (hlen : ∀ sig, parseMethodDescriptor y.desc = some sig → argsL.length = sig.parameters.length) (hstack : g.stack = argsL.reverse ++ .ref a :: rest) {W : Nat} (hW : 2 * g.monitorRoom + (rest.map fun v => v.category).sum ≤ W) (hd : decode c.code g.pc = .ok (.invokespecial index, 3))
    (hf : rm.frames + 1 ≤ R.frames) (hl : W + (maxL + 11) + rm.locals ≤ R.locals) (hc : cells + rm.cells ≤ R.cells) (hs : slots + rm.slots ≤ R.slots) :
    ∃ v T' L, Stand p l e R s m args below meth c T' (locs ++ L) (cells + rm.cells) (slots + rm.slots) ∧ Q v T'.heap L ∧ ∀ target, Steps p.tables e below (T'.setTop { g with pc := g.pc + 3, stack := v.toList ++ rest }) target → Steps p.tables e below (T.setTop g) target := by
  obtain ⟨v, _, ⟨T1, L1, k1, n1⟩, -, X1, ⟨Lc, hQ, l1, y1, z1⟩, st⟩ := X.specialBack hx (y := y) hy1 hown (mvT hZ w1) (mvT hZ w2) (mvT hZ w4) hy (backOf (W := W) hM hZ w4 w3 hf hl) (g := g) hg hsize (Steps.refl _) (a := a) (argsL := argsL) (rest := rest) hlen hstack hW hd (fun _ _ => ⟨rfl, eT, hc, hs⟩)
  dsimp only [Pt.U, Pt.locs, Pt.cells, Pt.slots] at X1 l1 y1 z1 st hQ
  subst l1 y1 z1
  exact ⟨v, T1, Lc, X1, hQ, fun _ k => st.trans k⟩
theorem own_callV (X : Stand p l e R s m args below meth c T locs cells slots) (hx : p.tables.exec = Jvm.exec) (hZ : Z.Warmed39 s.vm) {own C : String} (hown : s.vm.findClass own = some m.cls) {index : Nat} {y : MethodName} {bytes : ByteArray} {maxL : Nat} {rt : Option FieldType}
    (w1 : (Jvm.Cond.methodLink own index y).before a0 Z = true) (w2 : (Jvm.Cond.declares y).before a0 Z = true) (w5 : (Jvm.Cond.selects C y y).before a0 Z = true) (w6 : (Jvm.Cond.instanceMethod y).before a0 Z = true) (w3 : (Jvm.Cond.initialized y.cls).before a0 Z = true) (w4 : (Jvm.Cond.code y bytes maxL rt).before a0 Z = true)
    (hy : y.cls ≠ "java/lang/invoke/MethodHandle" ∧ y.cls ≠ "java/lang/invoke/VarHandle") {rm : Room} {a : Addr} {argsL rest : List Value} {Q : Option Value → Heap → List Loc → Prop} (hE : Exa Z h a C) (eT : T.heap = h) (hM : own_Met l Z y bytes maxL rt [] rm (.ref a :: argsL).toArray h Q)
    {g : JFrame} (hg : g.method = m) (hsize : g.locals.size = c.maxLocals) (hlen : ∀ sig, parseMethodDescriptor y.desc = some sig → argsL.length = sig.parameters.length) (hstack : g.stack = argsL.reverse ++ .ref a :: rest) {W : Nat} (hW : 2 * g.monitorRoom + (rest.map fun v => v.category).sum ≤ W) (hd : decode c.code g.pc = .ok (.invokevirtual index, 3))
    (hf : rm.frames + 1 ≤ R.frames) (hl : W + (maxL + 11) + rm.locals ≤ R.locals) (hc : cells + rm.cells ≤ R.cells) (hs : slots + rm.slots ≤ R.slots) (hC : C = y.cls := by rfl) :
    ∃ v T' L, Stand p l e R s m args below meth c T' (locs ++ L) (cells + rm.cells) (slots + rm.slots) ∧ Q v T'.heap L ∧ ∀ target, Steps p.tables e below (T'.setTop { g with pc := g.pc + 3, stack := v.toList ++ rest }) target → Steps p.tables e below (T.setTop g) target := by
  subst hC
  obtain ⟨_, _, qa, -, qc⟩ := isOf hZ eT hE
  obtain ⟨v, _, ⟨T1, L1, k1, n1⟩, -, X1, ⟨Lc, hQ, l1, y1, z1⟩, st⟩ := X.virtualBack hx (y := y) (z := y) hown (mvT hZ w1) (mvT hZ w2) (notFace_of_selects (args := #[]) (mvT hZ w5)) (mvT hZ w5) (mvT hZ w6) hy (backOf (W := W) hM hZ w4 w3 hf hl) qa qc (g := g) hg hsize (Steps.refl _) (argsL := argsL) (rest := rest) hlen hstack hW hd (fun _ _ => ⟨rfl, eT, hc, hs⟩)
  dsimp only [Pt.U, Pt.locs, Pt.cells, Pt.slots] at X1 l1 y1 z1 st hQ
  subst l1 y1 z1
  exact ⟨v, T1, Lc, X1, hQ, fun _ k => st.trans k⟩
theorem own_callU (X : Stand p l e R s m args below meth c T locs cells slots) (hx : p.tables.exec = Jvm.exec) (hZ : Z.Warmed39 s.vm) {own C owner : String} (hown : s.vm.findClass own = some m.cls) {index : Nat} {x y : MethodName} {bytes : ByteArray} {maxL : Nat} {rt : Option FieldType}
    (w1 : (Jvm.Cond.methodLink own index x).before a0 Z = true) (w7 : (Jvm.Cond.sameMethod x.cls owner x.name x.desc).before a0 Z = true) (w2 : (Jvm.Cond.declares ⟨owner, x.name, x.desc⟩).before a0 Z = true) (hy : owner ≠ "java/lang/invoke/MethodHandle" ∧ owner ≠ "java/lang/invoke/VarHandle") (w5 : (Jvm.Cond.selects C x y).before a0 Z = true) (w6 : (Jvm.Cond.instanceMethod y).before a0 Z = true) (w3 : (Jvm.Cond.initialized y.cls).before a0 Z = true) (w4 : (Jvm.Cond.code y bytes maxL rt).before a0 Z = true)
    {rm : Room} {a : Addr} {argsL rest : List Value} {Q : Option Value → Heap → List Loc → Prop} (hE : Exa Z h a C) (eT : T.heap = h) (hM : own_Met l Z y bytes maxL rt [] rm (.ref a :: argsL).toArray h Q)
    {g : JFrame} (hg : g.method = m) (hsize : g.locals.size = c.maxLocals) (hlen : ∀ sig, parseMethodDescriptor x.desc = some sig → argsL.length = sig.parameters.length) (hstack : g.stack = argsL.reverse ++ .ref a :: rest) {W : Nat} (hW : 2 * g.monitorRoom + (rest.map fun v => v.category).sum ≤ W) (hd : decode c.code g.pc = .ok (.invokevirtual index, 3))
    (hf : rm.frames + 1 ≤ R.frames) (hl : W + (maxL + 11) + rm.locals ≤ R.locals) (hc : cells + rm.cells ≤ R.cells) (hs : slots + rm.slots ≤ R.slots) :
    ∃ v T' L, Stand p l e R s m args below meth c T' (locs ++ L) (cells + rm.cells) (slots + rm.slots) ∧ Q v T'.heap L ∧ ∀ target, Steps p.tables e below (T'.setTop { g with pc := g.pc + 3, stack := v.toList ++ rest }) target → Steps p.tables e below (T.setTop g) target := by
  obtain ⟨_, _, qa, -, qc⟩ := isOf hZ eT hE
  obtain ⟨v, _, ⟨T1, L1, k1, n1⟩, -, X1, ⟨Lc, hQ, l1, y1, z1⟩, st⟩ := X.virtualBackUp hx (x := x) (y := y) hown (mvT hZ w1) (mvT hZ w7) (mvT hZ w2) hy (mvT hZ w5) (mvT hZ w6) (backOf (W := W) hM hZ w4 w3 hf hl) qa qc (g := g) hg hsize (Steps.refl _) (argsL := argsL) (rest := rest) hlen hstack hW hd (fun _ _ => ⟨rfl, eT, hc, hs⟩)
  dsimp only [Pt.U, Pt.locs, Pt.cells, Pt.slots] at X1 l1 y1 z1 st hQ
  subst l1 y1 z1
  exact ⟨v, T1, Lc, X1, hQ, fun _ k => st.trans k⟩
theorem own_arv {a : Addr} {k : ClassId} {ty : FieldType} {z : Int32} {vs : List Value} {dv : Value} (V : Arv Z h a k ty z vs dv) {j : Int32} (q : ¬ j < 0 ∧ j < z) :
    ∃ cl : Cell, Arr Z h a cl ty ∧ cl.cls = k ∧ ¬ (j < 0 ∨ cl.slots.size ≤ j.toNatClampNeg) ∧ cl.slots[j.toNatClampNeg]? = some (vs.getD j.toNatClampNeg dv) ∧ ∀ {h' : Heap} {v : Value}, fits ty v = true → Wr h h' a j.toNatClampNeg v → ∀ i, j.toNatClampNeg = i → i < vs.length → Arv Z h' a k ty z (vs.set i v) dv := by
  obtain ⟨cl, A, q1, S, q3, H, G⟩ := V
  have hin := inb_of S q
  exact ⟨cl, A, q1, hin, Has.at H hin rfl, fun hf W i hj hi => Arv.set A q1 S q3 H G hf W i hj hi⟩
theorem own_len {a : Addr} {k : ClassId} {ty : FieldType} {z : Int32} {vs : List Value} {dv : Value} (V : Arv Z h a k ty z vs dv) : ∃ cl : Cell, Arr Z h a cl ty ∧ cl.slots.size.toInt32 = z := by
  obtain ⟨cl, A, q1, S, q3, -⟩ := V
  exact ⟨cl, A, len_of S q3⟩
theorem own_sta {C f d K : String} (hx : (Jvm.Cond.exactly (.static C f d) K).value args s none s [] = some true) (w1 : (Jvm.Cond.initialized C).before args s = true) (w2 : (Jvm.Cond.laysStatic C f d).before args s = true) :
    ∃ a, (Term.static C f d).eval args s none [] s = some (.ref a) ∧ Sta s s.heap C f d (.ref a) ∧ Exa s s.heap a K := by
  obtain ⟨a, ev⟩ := exa_v hx
  exact ⟨a, ev, Sta.start ev (Or.inr ⟨w1, w2⟩), Exa.start ev hx⟩
theorem own_fldI {t : Term} {C f d : String} {a : Addr} {k : Int32} (ev : t.eval args s none [] s = some (.ref a)) (hx : (Jvm.Cond.eq (.field t C f d) (.int k)).value args s none s [] = some true) : Fld s s.heap a C f d (.int k) := by
  obtain ⟨v, w, e1, e2, k1, k2⟩ := cmp_v (Or.inl hx)
  obtain rfl : w = .int k := Option.some.inj (e2.symm.trans (Term.int_eval k))
  obtain ⟨z, rfl⟩ : ∃ z, v = .int z := k2
  have q : z = k := by simpa [Cond.value, e1, e2] using hx
  subst q
  exact Fld.start (by rw [← fld_at ev]; exact e1)
theorem own_neS {t u : Term} {a b : Addr} (ea : t.eval args s none [] s = some (.ref a)) (eb : u.eval args s none [] s = some (.ref b)) (hx : (Jvm.Cond.not (.eq t u)).value args s none s [] = some true) : a ≠ b := fun q =>
  gotF (eq_R ea eb rfl rfl) (not_v hx) (congrArg Value.ref q)
theorem own_staK {C f d : String} {v : Value} {h' : Heap} {ws : List Addr} (S : Sta Z h C f d v) (K : Keep h h' ws) (q : ∀ x ∈ ws, ∀ cell : Cell, h[x]? = some cell → cell.vm.isStatics = false) : Sta Z h' C f d v := by
  obtain ⟨cf, i, k, fl, st, cell, h1, h2, h3, h4, h5, h6, h7⟩ := S
  refine ⟨cf, i, k, fl, st, cell, h1, h2, h3, h4, K.2.1 st cell h5 (fun hm => ?_), h6, h7⟩
  have := q st hm cell h5
  rw [h6] at this
  cases this
end OwnKit
theorem own_four (x : Int32) : x &&& 3 = 0 ∨ x &&& 3 = 1 ∨ x &&& 3 = 2 ∨ x &&& 3 = 3 := by
  have h := c_mask x 3 2 (by decide) (by decide)
  have e : ∀ k : Int32, (x &&& 3).toInt = k.toInt → x &&& 3 = k := fun k q => Int32.toInt_inj.mp q
  have c : (x &&& 3).toInt = 0 ∨ (x &&& 3).toInt = 1 ∨ (x &&& 3).toInt = 2 ∨ (x &&& 3).toInt = 3 := by rw [h]; omega
  rcases c with c | c | c | c
  · exact Or.inl (e 0 c)
  · exact Or.inr (Or.inl (e 1 c))
  · exact Or.inr (Or.inr (Or.inl (e 2 c)))
  · exact Or.inr (Or.inr (Or.inr (e 3 c)))
theorem own_nc (x : Int32) : nar .char x.toUInt32.toUInt16.toUInt32.toInt32 = x.toUInt32.toUInt16.toUInt32.toInt32 := by simp only [nar, UInt32.toUInt32_toInt32, UInt16.toUInt16_toUInt32]
theorem own_255 (x : Int32) : ¬ (255 : Int32) < (x &&& 255).toUInt32.toUInt16.toUInt32.toInt32 := by
  rw [i2c_mask]
  have h := c_mask x 255 8 (by decide) (by decide)
  rw [Int32.lt_iff_toInt_lt, h]
  have e : (255 : Int32).toInt = 255 := rfl
  omega
def Q_rm2 (Z : State) (p1 : Int32) (h0 : Heap) (n0 : Nat) (v : Option Value) (h : Heap) (L : List Loc) : Prop := v = some (.int 1) ∧ Fr n0 L ∧ h = h0
theorem pn_rm2 : plainFor (⟨"java/lang/StringLatin1", "canEncode", "(C)Z"⟩ : MethodName) = true := plainFor_of_name (by first | (simp [plainName, overriddenIn, x]; done) | decide +kernel)
theorem d2_0 : decode jdk_43_method_3_code 0 = .ok (.iload_n 0, 1) := by decide +kernel
theorem d2_1 : decode jdk_43_method_3_code 1 = .ok (.sipush 255, 3) := by decide +kernel
theorem d2_4 : decode jdk_43_method_3_code 4 = .ok (.if_icmp .gt 7, 3) := by decide +kernel
theorem d2_7 : decode jdk_43_method_3_code 7 = .ok (.iconst 1, 1) := by decide +kernel
theorem d2_8 : decode jdk_43_method_3_code 8 = .ok (.goto 4, 3) := by decide +kernel
theorem d2_12 : decode jdk_43_method_3_code 12 = .ok (.ireturn, 1) := by decide +kernel
set_option maxRecDepth 65536 in
set_option maxHeartbeats 40000000 in
theorem rm2 (l : Launch) (Z : State) (a0 : Array Value) (hw : ∀ d ∈ tables_1, d.before a0 Z = true) (ws : List Jvm.Cond) (p1 : Int32) (h0 : Heap) (n0 : Nat) (Z0 : n0 ≤ h0.size) (hc : ¬ (255 : Int32) < p1) :
    own_Met l Z (⟨"java/lang/StringLatin1", "canEncode", "(C)Z"⟩ : MethodName) jdk_43_method_3_code 1 (some .boolean) ws ({ frames := 0, cells := 0, slots := 0, locals := 0 } : Room) #[(.int p1)] h0 (Q_rm2 Z p1 h0 n0) := by
  refine own_enter (g0 := fun m => (mkF m 0 #[.val (.int p1)] [])) pn_rm2 (fun m => by first | (simp [entryFrame, mkF, argsToLocals, Value.category, maxLocals]; done) | rfl) ?_
  intro p e s m below meth c s₁ hx hby hml hown hnm hret hlk hZ X0 e0
  have hml : c.maxLocals = 1 := hml
  have hown : s.vm.findClass "java/lang/StringLatin1" = some m.cls := hown
  have N0 := Fr.nil n0
  show own_Go p e below _ s₁ (mkF m 0 #[.val (.int p1)] [])
  refine own_by (fun _ k => XS.iloadN X0.here hx rfl (hb hby d2_0) rfl k) ?_
  show own_Go p e below _ s₁ (mkF m 1 #[.val (.int p1)] [(.int p1)])
  refine own_by (fun _ k => XS.sipush X0.here hx rfl (hb hby d2_1) k) ?_
  show own_Go p e below _ s₁ (mkF m 4 #[.val (.int p1)] [(.int (255 : Int32)), (.int p1)])
  refine own_by (fun _ k => XS.icmpNo X0.here hx rfl (hb hby d2_4) rfl (flt (hc : ¬ ((255 : Int32) < p1))).2.2.1 k) ?_
  show own_Go p e below _ s₁ (mkF m 7 #[.val (.int p1)] [])
  refine own_by (fun _ k => XS.iconst X0.here hx rfl (hb hby d2_7) k) ?_
  show own_Go p e below _ s₁ (mkF m 8 #[.val (.int p1)] [(.int (1 : Int32))])
  refine own_by (fun _ k => XS.goto X0.here hx rfl (pc0 := 8) (pc' := 12) rfl (hb hby d2_8) (by decide) (by decide) k) ?_
  show own_Go p e below _ s₁ (mkF m 12 #[.val (.int p1)] [(.int (1 : Int32))])
  exact own_retN X0 hx hlk hret (by simp) rfl (hb hby d2_12) (by first | exact ⟨rfl, N0, rfl⟩ | (rw [e0]; exact ⟨rfl, N0, rfl⟩)) (by decide) (by decide)
def Q_rm3 (Z : State) (p1 : Int32) (h0 : Heap) (n0 : Nat) (v : Option Value) (h : Heap) (L : List Loc) : Prop := ∃ b, v = some (.ref b) ∧ Fr n0 L ∧ Keep h0 h [] ∧ h0.size ≤ b
theorem pn_rm3 : plainFor (⟨"java/lang/StringLatin1", "toBytes", "(C)[B"⟩ : MethodName) = true := plainFor_of_name (by first | (simp [plainName, overriddenIn, x]; done) | decide +kernel)
theorem d3_0 : decode jdk_43_method_46_code 0 = .ok (.iconst 1, 1) := by decide +kernel
theorem d3_1 : decode jdk_43_method_46_code 1 = .ok (.newarray .byte, 2) := by decide +kernel
theorem d3_3 : decode jdk_43_method_46_code 3 = .ok (.dup, 1) := by decide +kernel
theorem d3_4 : decode jdk_43_method_46_code 4 = .ok (.iconst 0, 1) := by decide +kernel
theorem d3_5 : decode jdk_43_method_46_code 5 = .ok (.iload_n 0, 1) := by decide +kernel
theorem d3_6 : decode jdk_43_method_46_code 6 = .ok (.i2b, 1) := by decide +kernel
theorem d3_7 : decode jdk_43_method_46_code 7 = .ok (.bastore, 1) := by decide +kernel
theorem d3_8 : decode jdk_43_method_46_code 8 = .ok (.areturn, 1) := by decide +kernel
set_option maxRecDepth 65536 in
set_option maxHeartbeats 40000000 in
theorem rm3 (l : Launch) (Z : State) (a0 : Array Value) (hw : ∀ d ∈ tables_1, d.before a0 Z = true) (ws : List Jvm.Cond) (p1 : Int32) (h0 : Heap) (n0 : Nat) (Z0 : n0 ≤ h0.size)  :
    own_Met l Z (⟨"java/lang/StringLatin1", "toBytes", "(C)[B"⟩ : MethodName) jdk_43_method_46_code 1 (some (.array .byte)) ws ({ frames := 0, cells := 1, slots := 1, locals := 0 } : Room) #[(.int p1)] h0 (Q_rm3 Z p1 h0 n0) := by
  refine own_enter (g0 := fun m => (mkF m 0 #[.val (.int p1)] [])) pn_rm3 (fun m => by first | (simp [entryFrame, mkF, argsToLocals, Value.category, maxLocals]; done) | rfl) ?_
  intro p e s m below meth c s₁ hx hby hml hown hnm hret hlk hZ X0 e0
  have hml : c.maxLocals = 1 := hml
  have hown : s.vm.findClass "java/lang/StringLatin1" = some m.cls := hown
  have N0 := Fr.nil n0
  show own_Go p e below _ s₁ (mkF m 0 #[.val (.int p1)] [])
  have K0 := Keep.refl h0 []
  refine own_by (fun _ k => XS.iconst X0.here hx rfl (hb hby d3_0) k) ?_
  show own_Go p e below _ s₁ (mkF m 1 #[.val (.int p1)] [(.int (1 : Int32))])
  obtain ⟨T101, h101, k101, X101, e101, E101, A101, C101, st101⟩ := newPE X0 hx hZ (hw _ (List.mem_of_getElem? (i := 14) rfl)) e0 (g := (mkF m 1 #[.val (.int p1)] [(.int (1 : Int32))])) rfl (hb hby d3_1) rfl (by decide) (cap := 1) (by decide) (by decide) (by decide) (by decide) (ad := "[B") (by decide)
  obtain ⟨b101, g101⟩ : ∃ z, z = h0.size := ⟨_, rfl⟩
  rw [← g101] at A101 C101 st101
  have og_b101 : n0 ≤ b101 := Nat.le_trans Z0 (Nat.le_of_eq g101.symm)
  have sz_b101 : h0.size ≤ b101 := Nat.le_trans K0.1 (Nat.le_of_eq g101.symm)
  have Z101 : n0 ≤ h101.size := Nat.le_trans Z0 E101.1
  have K102 := K0.ext E101
  have V101 : Arv Z h101 b101 k101 .byte (1 : Int32) [(.int (0 : Int32))] (.int (0 : Int32)) := (Arv.new A101 (by decide)).pad (pad_rep [] (.int (0 : Int32)) 1)
  refine own_by st101 ?_
  show own_Go p e below _ T101 (mkF m 3 #[.val (.int p1)] [(.ref b101)])
  refine own_by (fun _ k => XS.dup X101.here hx rfl (hb hby d3_3) rfl rfl k) ?_
  show own_Go p e below _ T101 (mkF m 4 #[.val (.int p1)] [(.ref b101), (.ref b101)])
  refine own_by (fun _ k => XS.iconst X101.here hx rfl (hb hby d3_4) k) ?_
  show own_Go p e below _ T101 (mkF m 5 #[.val (.int p1)] [(.int (0 : Int32)), (.ref b101), (.ref b101)])
  refine own_by (fun _ k => XS.iloadN X101.here hx rfl (hb hby d3_5) rfl k) ?_
  show own_Go p e below _ T101 (mkF m 6 #[.val (.int p1)] [(.int p1), (.int (0 : Int32)), (.ref b101), (.ref b101)])
  refine own_by (fun _ k => XS.i2b X101.here hx rfl (hb hby d3_6) rfl k) ?_
  show own_Go p e below _ T101 (mkF m 7 #[.val (.int p1)] [(.int (p1.toInt8.toInt32)), (.int (0 : Int32)), (.ref b101), (.ref b101)])
  obtain ⟨cl103, Ar103, cq103, hin103, hat103, set103⟩ := own_arv V101 (j := (0 : Int32)) ⟨by decide, by decide⟩
  obtain ⟨T104, h104, X104, e104, W104, st104⟩ := stB X101 hx hZ e101 Ar103 (j := (0 : Int32)) hin103 (g := (mkF m 7 #[.val (.int p1)] [(.int (p1.toInt8.toInt32)), (.int (0 : Int32)), (.ref b101), (.ref b101)])) rfl rfl (hb hby d3_7)
  have V104 : Arv Z h104 b101 k101 .byte (1 : Int32) [(.int (nar .byte (p1.toInt8.toInt32)))] (.int (0 : Int32)) := set103 (fits_nar_byte _) W104 0 rfl (Nat.le_of_ble_eq_true rfl)
  have N104 := Fr.snoc X104 N0 og_b101
  have K105 := K102.wr W104 (Or.inr sz_b101)
  have Z104 : n0 ≤ h104.size := Nat.le_trans Z101 (Keep.of_wr W104).1
  refine own_by st104 ?_
  show own_Go p e below _ T104 (mkF m 8 #[.val (.int p1)] [(.ref b101)])
  exact own_retA X104 hx hlk hret rfl rfl (hb hby d3_8) (by first | exact ⟨b101, rfl, N104, K105, sz_b101⟩ | (rw [e104]; exact ⟨b101, rfl, N104, K105, sz_b101⟩)) (by decide) (by decide)
def Q_rm4 (Z : State) (a1 a2 : Addr) (h0 : Heap) (n0 : Nat) (v : Option Value) (h : Heap) (L : List Loc) : Prop := v = none ∧ Fr n0 L ∧ Keep h0 h [a1]
theorem pn_rm4 : plainFor (⟨"java/lang/String", "<init>", "([BB)V"⟩ : MethodName) = true := plainFor_of_name (by first | (simp [plainName, overriddenIn, x]; done) | decide +kernel)
theorem d4_0 : decode jdk_42_method_151_code 0 = .ok (.aload_n 0, 1) := by decide +kernel
theorem d4_1 : decode jdk_42_method_151_code 1 = .ok (.invokespecial 1, 3) := by decide +kernel
theorem d4_4 : decode jdk_42_method_151_code 4 = .ok (.aload_n 0, 1) := by decide +kernel
theorem d4_5 : decode jdk_42_method_151_code 5 = .ok (.aload_n 1, 1) := by decide +kernel
theorem d4_6 : decode jdk_42_method_151_code 6 = .ok (.putfield 9, 3) := by decide +kernel
theorem d4_9 : decode jdk_42_method_151_code 9 = .ok (.aload_n 0, 1) := by decide +kernel
theorem d4_10 : decode jdk_42_method_151_code 10 = .ok (.iload_n 2, 1) := by decide +kernel
theorem d4_11 : decode jdk_42_method_151_code 11 = .ok (.putfield 15, 3) := by decide +kernel
theorem d4_14 : decode jdk_42_method_151_code 14 = .ok (.return_, 1) := by decide +kernel
set_option maxRecDepth 65536 in
set_option maxHeartbeats 40000000 in
theorem rm4 (l : Launch) (Z : State) (a0 : Array Value) (hw : ∀ d ∈ tables_1, d.before a0 Z = true) (ws : List Jvm.Cond) (a1 a2 : Addr) (h0 : Heap) (n0 : Nat) (Z0 : n0 ≤ h0.size) (g1 : n0 ≤ a1) (E1 : Exa Z h0 a1 "java/lang/String") (F1 : Fld Z h0 a1 "java/lang/String" "value" "[B" .null) (F2 : Fld Z h0 a1 "java/lang/String" "coder" "B" (.int (0 : Int32))) :
    own_Met l Z (⟨"java/lang/String", "<init>", "([BB)V"⟩ : MethodName) jdk_42_method_151_code 3 none ws ({ frames := 1, cells := 0, slots := 0, locals := 12 } : Room) #[(.ref a1), (.ref a2), (.int (0 : Int32))] h0 (Q_rm4 Z a1 a2 h0 n0) := by
  refine own_enter (g0 := fun m => (mkF m 0 #[.val (.ref a1), .val (.ref a2), .val (.int (0 : Int32))] [])) pn_rm4 (fun m => by first | (simp [entryFrame, mkF, argsToLocals, Value.category, maxLocals]; done) | rfl) ?_
  intro p e s m below meth c s₁ hx hby hml hown hnm hret hlk hZ X0 e0
  have hml : c.maxLocals = 3 := hml
  have hown : s.vm.findClass "java/lang/String" = some m.cls := hown
  have N0 := Fr.nil n0
  show own_Go p e below _ s₁ (mkF m 0 #[.val (.ref a1), .val (.ref a2), .val (.int (0 : Int32))] [])
  have K0 := Keep.refl h0 [a1]
  refine own_by (fun _ k => XS.aloadN X0.here hx rfl (hb hby d4_0) rfl rfl k) ?_
  show own_Go p e below _ s₁ (mkF m 1 #[.val (.ref a1), .val (.ref a2), .val (.int (0 : Int32))] [(.ref a1)])
  obtain ⟨T106, X106, e106, st106⟩ := initO X0 hx hZ hown (hw _ (List.mem_of_getElem? (i := 19) rfl)) (hw _ (List.mem_of_getElem? (i := 20) rfl)) (hw _ (List.mem_of_getElem? (i := 21) rfl)) e0 (g := (mkF m 1 #[.val (.ref a1), .val (.ref a2), .val (.int (0 : Int32))] [(.ref a1)])) rfl (by rw [hml]; rfl) rfl (hb hby d4_1) (by decide) (W := 0) (by show 2 * 0 + _ ≤ _; exact Nat.le_of_eq rfl) (by decide)
  refine own_by st106 ?_
  show own_Go p e below _ T106 (mkF m 4 #[.val (.ref a1), .val (.ref a2), .val (.int (0 : Int32))] [])
  refine own_by (fun _ k => XS.aloadN X106.here hx rfl (hb hby d4_4) rfl rfl k) ?_
  show own_Go p e below _ T106 (mkF m 5 #[.val (.ref a1), .val (.ref a2), .val (.int (0 : Int32))] [(.ref a1)])
  refine own_by (fun _ k => XS.aloadN X106.here hx rfl (hb hby d4_5) rfl rfl k) ?_
  show own_Go p e below _ T106 (mkF m 6 #[.val (.ref a1), .val (.ref a2), .val (.int (0 : Int32))] [(.ref a2), (.ref a1)])
  obtain ⟨T107, h107, X107, e107, W107, st107⟩ := putF X106 hx hZ hown (host := "") (Or.inl (hw _ (List.mem_of_getElem? (i := 22) rfl))) Via.refl e106 F1 E1 (Or.inr ⟨(hw _ (List.mem_of_getElem? (i := 23) rfl)), rfl, hnm⟩) (hw _ (List.mem_of_getElem? (i := 10) rfl)) (ty := (.array .byte)) (by decide) rfl rfl (g := (mkF m 6 #[.val (.ref a1), .val (.ref a2), .val (.int (0 : Int32))] [(.ref a2), (.ref a1)])) rfl rfl (hb hby d4_6)
  refine own_by st107 ?_
  have N107 := Fr.snoc X107 N0 g1
  have fw107 := F1.same W107
  have K108 := K0.wr W107 (Or.inl (List.mem_of_getElem? (i := 0) rfl))
  have Z107 : n0 ≤ h107.size := Nat.le_trans Z0 (Keep.of_wr W107).1
  show own_Go p e below _ T107 (mkF m 9 #[.val (.ref a1), .val (.ref a2), .val (.int (0 : Int32))] [])
  refine own_by (fun _ k => XS.aloadN X107.here hx rfl (hb hby d4_9) rfl rfl k) ?_
  show own_Go p e below _ T107 (mkF m 10 #[.val (.ref a1), .val (.ref a2), .val (.int (0 : Int32))] [(.ref a1)])
  refine own_by (fun _ k => XS.iloadN X107.here hx rfl (hb hby d4_10) rfl k) ?_
  show own_Go p e below _ T107 (mkF m 11 #[.val (.ref a1), .val (.ref a2), .val (.int (0 : Int32))] [(.int (0 : Int32)), (.ref a1)])
  have f110 := (F2.other W107 (Or.inr (slot_ne (Or.inr (hw _ (List.mem_of_getElem? (i := 25) rfl))) (Or.inr (hw _ (List.mem_of_getElem? (i := 23) rfl))) (by decide) (t := .byte) (t' := (.array .byte)) (by decide) (by decide))))
  have f111 := (E1.wr W107)
  obtain ⟨T109, h109, X109, e109, W109, st109⟩ := putFN X107 hx hZ hown (hw _ (List.mem_of_getElem? (i := 24) rfl)) Via.refl e107 f110 f111 (Or.inr ⟨(hw _ (List.mem_of_getElem? (i := 25) rfl)), rfl, hnm⟩) (hw _ (List.mem_of_getElem? (i := 10) rfl)) (ty := .byte) (v := (.int (0 : Int32))) (v' := (.int (0 : Int32))) (by decide) rfl rfl (g := (mkF m 11 #[.val (.ref a1), .val (.ref a2), .val (.int (0 : Int32))] [(.int (0 : Int32)), (.ref a1)])) rfl rfl (hb hby d4_11)
  refine own_by st109 ?_
  have N109 := Fr.snoc X109 N107 g1
  have fw109 := f110.same W109
  have K112 := K108.wr W109 (Or.inl (List.mem_of_getElem? (i := 0) rfl))
  have Z109 : n0 ≤ h109.size := Nat.le_trans Z107 (Keep.of_wr W109).1
  show own_Go p e below _ T109 (mkF m 14 #[.val (.ref a1), .val (.ref a2), .val (.int (0 : Int32))] [])
  exact own_ret0 X109 hx hlk hret (hb hby d4_14) (by first | exact ⟨rfl, N109, K112⟩ | (rw [e109]; exact ⟨rfl, N109, K112⟩)) (by decide) (by decide)
def Q_rm1 (Z : State) (p1 w1 : Int32) (h0 : Heap) (n0 : Nat) (v : Option Value) (h : Heap) (L : List Loc) : Prop := ∃ b, v = some (.ref b) ∧ Fr n0 L ∧ Keep h0 h [] ∧ h0.size ≤ b
theorem pn_rm1 : plainFor (⟨"java/lang/String", "valueOf", "(C)Ljava/lang/String;"⟩ : MethodName) = true := plainFor_of_name (by first | (simp [plainName, overriddenIn, x]; done) | decide +kernel)
theorem d1_0 : decode jdk_42_method_139_code 0 = .ok (.getstatic 38, 3) := by decide +kernel
theorem d1_3 : decode jdk_42_method_139_code 3 = .ok (.ifCond .eq 23, 3) := by decide +kernel
theorem d1_6 : decode jdk_42_method_139_code 6 = .ok (.iload_n 0, 1) := by decide +kernel
theorem pd_0 : parseMethodDescriptor "(C)Z" = some ⟨[.char], some .boolean⟩ := by decide +kernel
theorem d1_7 : decode jdk_42_method_139_code 7 = .ok (.invokestatic 1015, 3) := by decide +kernel
theorem d1_10 : decode jdk_42_method_139_code 10 = .ok (.ifCond .eq 16, 3) := by decide +kernel
theorem d1_13 : decode jdk_42_method_139_code 13 = .ok (.new 10, 3) := by decide +kernel
theorem d1_16 : decode jdk_42_method_139_code 16 = .ok (.dup, 1) := by decide +kernel
theorem d1_17 : decode jdk_42_method_139_code 17 = .ok (.iload_n 0, 1) := by decide +kernel
theorem pd_1 : parseMethodDescriptor "(C)[B" = some ⟨[.char], some (.array .byte)⟩ := by decide +kernel
theorem d1_18 : decode jdk_42_method_139_code 18 = .ok (.invokestatic 1018, 3) := by decide +kernel
theorem d1_21 : decode jdk_42_method_139_code 21 = .ok (.iconst 0, 1) := by decide +kernel
theorem pd_2 : parseMethodDescriptor "([BB)V" = some ⟨[(.array .byte), .byte], none⟩ := by decide +kernel
theorem d1_22 : decode jdk_42_method_139_code 22 = .ok (.invokespecial 209, 3) := by decide +kernel
theorem d1_25 : decode jdk_42_method_139_code 25 = .ok (.areturn, 1) := by decide +kernel
set_option maxRecDepth 65536 in
set_option maxHeartbeats 40000000 in
theorem rm1 (l : Launch) (Z : State) (a0 : Array Value) (hw : ∀ d ∈ tables_1, d.before a0 Z = true) (ws : List Jvm.Cond) (p1 w1 : Int32) (h0 : Heap) (n0 : Nat) (Z0 : n0 ≤ h0.size) (hc : ¬ (255 : Int32) < p1) (SC : Sta Z h0 "java/lang/String" "COMPACT_STRINGS" "Z" (.int w1)) (hw1 : ¬ w1 = 0) :
    own_Met l Z (⟨"java/lang/String", "valueOf", "(C)Ljava/lang/String;"⟩ : MethodName) jdk_42_method_139_code 1 (some (.object "java/lang/String")) ws ({ frames := 2, cells := 2, slots := 5, locals := 48 } : Room) #[(.int p1)] h0 (Q_rm1 Z p1 w1 h0 n0) := by
  refine own_enter (g0 := fun m => (mkF m 0 #[.val (.int p1)] [])) pn_rm1 (fun m => by first | (simp [entryFrame, mkF, argsToLocals, Value.category, maxLocals]; done) | rfl) ?_
  intro p e s m below meth c s₁ hx hby hml hown hnm hret hlk hZ X0 e0
  have hml : c.maxLocals = 1 := hml
  have hown : s.vm.findClass "java/lang/String" = some m.cls := hown
  have N0 := Fr.nil n0
  show own_Go p e below _ s₁ (mkF m 0 #[.val (.int p1)] [])
  have K0 := Keep.refl h0 []
  obtain ⟨T113, X113, e113, st113⟩ := getS2 X0 hx hZ hown (host := "") (Or.inl (hw _ (List.mem_of_getElem? (i := 4) rfl))) Via.refl e0 SC (g := (mkF m 0 #[.val (.int p1)] [])) rfl (hb hby d1_0)
  refine own_by st113 ?_
  show own_Go p e below _ T113 (mkF m 3 #[.val (.int p1)] [(.int w1)])
  refine own_by (fun _ k => XS.ifNo X113.here hx rfl (hb hby d1_3) rfl ((if0 _ _).trans (feq (hw1 : ¬ (w1 = (0 : Int32)))).1) k) ?_
  show own_Go p e below _ T113 (mkF m 6 #[.val (.int p1)] [])
  refine own_by (fun _ k => XS.iloadN X113.here hx rfl (hb hby d1_6) rfl k) ?_
  show own_Go p e below _ T113 (mkF m 7 #[.val (.int p1)] [(.int p1)])
  obtain ⟨_, T114, L114, X114, ⟨rfl, N114q, e114⟩, st114⟩ := own_callS X113 hx hZ hown (y := (⟨"java/lang/StringLatin1", "canEncode", "(C)Z"⟩ : MethodName)) (hw _ (List.mem_of_getElem? (i := 5) rfl)) (hw _ (List.mem_of_getElem? (i := 6) rfl)) (hw _ (List.mem_of_getElem? (i := 7) rfl)) (hw _ (List.mem_of_getElem? (i := 8) rfl)) (by decide) (argsL := [(.int p1)]) (rest := []) e113 (rm2 l Z a0 hw [] p1 h0 n0 Z0 hc) (g := (mkF m 7 #[.val (.int p1)] [(.int p1)])) rfl (by rw [hml]; rfl) (lenOf pd_0 rfl) rfl (W := 0) (by show 2 * 0 + _ ≤ _; exact Nat.le_of_eq rfl) (hb hby d1_7) (by decide) (by decide) (by decide) (by decide)
  have N114 := Fr.app N0 N114q
  refine own_by st114 ?_
  show own_Go p e below _ T114 (mkF m 10 #[.val (.int p1)] [(.int (1 : Int32))])
  refine own_by (fun _ k => XS.ifNo X114.here hx rfl (hb hby d1_10) rfl ((if0 _ _).trans (feq (by decide : ¬ ((1 : Int32) = (0 : Int32)))).1) k) ?_
  show own_Go p e below _ T114 (mkF m 13 #[.val (.int p1)] [])
  obtain ⟨T115, h115, X115, e115, E115, A115, D115, -, st115⟩ := newO X114 hx hZ hown (hw _ (List.mem_of_getElem? (i := 9) rfl)) (hw _ (List.mem_of_getElem? (i := 10) rfl)) (hw _ (List.mem_of_getElem? (i := 2) rfl)) e114 (g := (mkF m 13 #[.val (.int p1)] [])) rfl (hb hby d1_13) (by decide) (by decide)
  obtain ⟨b115, g115⟩ : ∃ z, z = h0.size := ⟨_, rfl⟩
  rw [← g115] at A115 D115 st115
  have og_b115 : n0 ≤ b115 := Nat.le_trans Z0 (Nat.le_of_eq g115.symm)
  have sz_b115 : h0.size ≤ b115 := Nat.le_trans K0.1 (Nat.le_of_eq g115.symm)
  have Z115 : n0 ≤ h115.size := Nat.le_trans Z0 E115.1
  have K116 := K0.ext E115
  have F_value_b115 : Fld Z h115 b115 "java/lang/String" "value" "[B" .null := D115 (Or.inr (hw _ (List.mem_of_getElem? (i := 23) rfl))) (ty := (.array .byte)) (by decide)
  have F_coder_b115 : Fld Z h115 b115 "java/lang/String" "coder" "B" (.int (0 : Int32)) := D115 (Or.inr (hw _ (List.mem_of_getElem? (i := 25) rfl))) (ty := .byte) (by decide)
  refine own_by st115 ?_
  show own_Go p e below _ T115 (mkF m 16 #[.val (.int p1)] [(.ref b115)])
  refine own_by (fun _ k => XS.dup X115.here hx rfl (hb hby d1_16) rfl rfl k) ?_
  show own_Go p e below _ T115 (mkF m 17 #[.val (.int p1)] [(.ref b115), (.ref b115)])
  refine own_by (fun _ k => XS.iloadN X115.here hx rfl (hb hby d1_17) rfl k) ?_
  show own_Go p e below _ T115 (mkF m 18 #[.val (.int p1)] [(.int p1), (.ref b115), (.ref b115)])
  obtain ⟨_, T117, L117, X117, ⟨r3, rfl, N117q, K3', s3'⟩, st117⟩ := own_callS X115 hx hZ hown (y := (⟨"java/lang/StringLatin1", "toBytes", "(C)[B"⟩ : MethodName)) (hw _ (List.mem_of_getElem? (i := 11) rfl)) (hw _ (List.mem_of_getElem? (i := 12) rfl)) (hw _ (List.mem_of_getElem? (i := 7) rfl)) (hw _ (List.mem_of_getElem? (i := 13) rfl)) (by decide) (argsL := [(.int p1)]) (rest := [(.ref b115), (.ref b115)]) e115 (rm3 l Z a0 hw [] p1 h115 n0 Z115) (g := (mkF m 18 #[.val (.int p1)] [(.int p1), (.ref b115), (.ref b115)])) rfl (by rw [hml]; rfl) (lenOf pd_1 rfl) rfl (W := 2) (by show 2 * 0 + _ ≤ _; exact Nat.le_of_eq rfl) (hb hby d1_18) (by decide) (by decide) (by decide) (by decide)
  have N117 := Fr.app N114 N117q
  refine own_by st117 ?_
  show own_Go p e below _ T117 (mkF m 21 #[.val (.int p1)] [(.ref r3), (.ref b115), (.ref b115)])
  have ne_b115_r3 : b115 ≠ r3 := Nat.ne_of_lt (Nat.lt_of_lt_of_le A115.lt s3')
  have og_r3 : n0 ≤ r3 := Nat.le_trans Z115 s3'
  have sz_r3 : h0.size ≤ r3 := Nat.le_trans K116.1 s3'
  have Z117 : n0 ≤ T117.heap.size := Nat.le_trans Z115 K3'.1
  have K117c := K116.trans K3' all0
  refine own_by (fun _ k => XS.iconst X117.here hx rfl (hb hby d1_21) k) ?_
  show own_Go p e below _ T117 (mkF m 22 #[.val (.int p1)] [(.int (0 : Int32)), (.ref r3), (.ref b115), (.ref b115)])
  have f118 := (A115.keep K3')
  have f119 := (F_value_b115.keep K3' nin0)
  have f120 := (F_coder_b115.keep K3' nin0)
  obtain ⟨_, T121, L121, X121, ⟨rfl, N121q, K4'⟩, st121⟩ := own_callI X117 hx hZ hown (y := (⟨"java/lang/String", "<init>", "([BB)V"⟩ : MethodName)) rfl (hw _ (List.mem_of_getElem? (i := 15) rfl)) (hw _ (List.mem_of_getElem? (i := 16) rfl)) (hw _ (List.mem_of_getElem? (i := 2) rfl)) (hw _ (List.mem_of_getElem? (i := 18) rfl)) (by decide) (a := b115) (argsL := [(.ref r3), (.int (0 : Int32))]) (rest := [(.ref b115)]) rfl (rm4 l Z a0 hw [] b115 r3 T117.heap n0 Z117 og_b115 f118 f119 f120) (g := (mkF m 22 #[.val (.int p1)] [(.int (0 : Int32)), (.ref r3), (.ref b115), (.ref b115)])) rfl (by rw [hml]; rfl) (lenOf pd_2 rfl) rfl (W := 1) (by show 2 * 0 + _ ≤ _; exact Nat.le_of_eq rfl) (hb hby d1_22) (by decide) (by decide) (by decide) (by decide)
  have N121 := Fr.app N117 N121q
  refine own_by st121 ?_
  show own_Go p e below _ T121 (mkF m 25 #[.val (.int p1)] [(.ref b115)])
  have Z121 : n0 ≤ T121.heap.size := Nat.le_trans Z117 K4'.1
  have K121c := K117c.trans K4' (allS (Or.inr sz_b115) all0)
  exact own_retA X121 hx hlk hret rfl rfl (hb hby d1_25) ⟨b115, rfl, N121, K121c, sz_b115⟩ (by decide) (by decide)
def Q_rm6 (Z : State) (a1 a2 : Addr) (p3 : Int32) (h0 : Heap) (n0 : Nat) (v : Option Value) (h : Heap) (L : List Loc) : Prop := v = none ∧ Fr n0 L ∧ Keep h0 h [a1] ∧ Exa Z h a1 "watchword/PasswordCallback" ∧ Fld Z h a1 "watchword/PasswordCallback" "password" "[C" .null
theorem pn_rm6 : plainFor (⟨"watchword/PasswordCallback", "<init>", "(Ljava/lang/String;Z)V"⟩ : MethodName) = true := plainFor_of_name (by first | (simp [plainName, overriddenIn, x]; done) | decide +kernel)
theorem d6_0 : decode prog_50_method_1_code 0 = .ok (.aload_n 0, 1) := by decide +kernel
theorem d6_1 : decode prog_50_method_1_code 1 = .ok (.invokespecial 1, 3) := by decide +kernel
theorem d6_4 : decode prog_50_method_1_code 4 = .ok (.aload_n 0, 1) := by decide +kernel
theorem d6_5 : decode prog_50_method_1_code 5 = .ok (.aload_n 1, 1) := by decide +kernel
theorem d6_6 : decode prog_50_method_1_code 6 = .ok (.putfield 7, 3) := by decide +kernel
theorem d6_9 : decode prog_50_method_1_code 9 = .ok (.aload_n 0, 1) := by decide +kernel
theorem d6_10 : decode prog_50_method_1_code 10 = .ok (.iload_n 2, 1) := by decide +kernel
theorem d6_11 : decode prog_50_method_1_code 11 = .ok (.putfield 13, 3) := by decide +kernel
theorem d6_14 : decode prog_50_method_1_code 14 = .ok (.return_, 1) := by decide +kernel
set_option maxRecDepth 65536 in
set_option maxHeartbeats 40000000 in
theorem rm6 (l : Launch) (Z : State) (a0 : Array Value) (hw : ∀ d ∈ tables_1, d.before a0 Z = true) (ws : List Jvm.Cond) (a1 a2 : Addr) (p3 : Int32) (h0 : Heap) (n0 : Nat) (Z0 : n0 ≤ h0.size) (g1 : n0 ≤ a1) (hz : nar .boolean p3 = p3) (E1 : Exa Z h0 a1 "watchword/PasswordCallback") (F1 : Fld Z h0 a1 "watchword/PasswordCallback" "prompt" "Ljava/lang/String;" .null) (F2 : Fld Z h0 a1 "watchword/PasswordCallback" "echoOn" "Z" (.int (0 : Int32))) (F3 : Fld Z h0 a1 "watchword/PasswordCallback" "password" "[C" .null) :
    own_Met l Z (⟨"watchword/PasswordCallback", "<init>", "(Ljava/lang/String;Z)V"⟩ : MethodName) prog_50_method_1_code 3 none ws ({ frames := 1, cells := 0, slots := 0, locals := 12 } : Room) #[(.ref a1), (.ref a2), (.int p3)] h0 (Q_rm6 Z a1 a2 p3 h0 n0) := by
  refine own_enter (g0 := fun m => (mkF m 0 #[.val (.ref a1), .val (.ref a2), .val (.int p3)] [])) pn_rm6 (fun m => by first | (simp [entryFrame, mkF, argsToLocals, Value.category, maxLocals]; done) | rfl) ?_
  intro p e s m below meth c s₁ hx hby hml hown hnm hret hlk hZ X0 e0
  have hml : c.maxLocals = 3 := hml
  have hown : s.vm.findClass "watchword/PasswordCallback" = some m.cls := hown
  have N0 := Fr.nil n0
  show own_Go p e below _ s₁ (mkF m 0 #[.val (.ref a1), .val (.ref a2), .val (.int p3)] [])
  have K0 := Keep.refl h0 [a1]
  refine own_by (fun _ k => XS.aloadN X0.here hx rfl (hb hby d6_0) rfl rfl k) ?_
  show own_Go p e below _ s₁ (mkF m 1 #[.val (.ref a1), .val (.ref a2), .val (.int p3)] [(.ref a1)])
  obtain ⟨T122, X122, e122, st122⟩ := initO X0 hx hZ hown (hw _ (List.mem_of_getElem? (i := 32) rfl)) (hw _ (List.mem_of_getElem? (i := 20) rfl)) (hw _ (List.mem_of_getElem? (i := 21) rfl)) e0 (g := (mkF m 1 #[.val (.ref a1), .val (.ref a2), .val (.int p3)] [(.ref a1)])) rfl (by rw [hml]; rfl) rfl (hb hby d6_1) (by decide) (W := 0) (by show 2 * 0 + _ ≤ _; exact Nat.le_of_eq rfl) (by decide)
  refine own_by st122 ?_
  show own_Go p e below _ T122 (mkF m 4 #[.val (.ref a1), .val (.ref a2), .val (.int p3)] [])
  refine own_by (fun _ k => XS.aloadN X122.here hx rfl (hb hby d6_4) rfl rfl k) ?_
  show own_Go p e below _ T122 (mkF m 5 #[.val (.ref a1), .val (.ref a2), .val (.int p3)] [(.ref a1)])
  refine own_by (fun _ k => XS.aloadN X122.here hx rfl (hb hby d6_5) rfl rfl k) ?_
  show own_Go p e below _ T122 (mkF m 6 #[.val (.ref a1), .val (.ref a2), .val (.int p3)] [(.ref a2), (.ref a1)])
  obtain ⟨T123, h123, X123, e123, W123, st123⟩ := putF X122 hx hZ hown (host := "") (Or.inl (hw _ (List.mem_of_getElem? (i := 33) rfl))) Via.refl e122 F1 E1 (Or.inr ⟨(hw _ (List.mem_of_getElem? (i := 34) rfl)), rfl, hnm⟩) (hw _ (List.mem_of_getElem? (i := 27) rfl)) (ty := (.object "java/lang/String")) (by decide) rfl rfl (g := (mkF m 6 #[.val (.ref a1), .val (.ref a2), .val (.int p3)] [(.ref a2), (.ref a1)])) rfl rfl (hb hby d6_6)
  refine own_by st123 ?_
  have N123 := Fr.snoc X123 N0 g1
  have fw123 := F1.same W123
  have K124 := K0.wr W123 (Or.inl (List.mem_of_getElem? (i := 0) rfl))
  have Z123 : n0 ≤ h123.size := Nat.le_trans Z0 (Keep.of_wr W123).1
  show own_Go p e below _ T123 (mkF m 9 #[.val (.ref a1), .val (.ref a2), .val (.int p3)] [])
  refine own_by (fun _ k => XS.aloadN X123.here hx rfl (hb hby d6_9) rfl rfl k) ?_
  show own_Go p e below _ T123 (mkF m 10 #[.val (.ref a1), .val (.ref a2), .val (.int p3)] [(.ref a1)])
  refine own_by (fun _ k => XS.iloadN X123.here hx rfl (hb hby d6_10) rfl k) ?_
  show own_Go p e below _ T123 (mkF m 11 #[.val (.ref a1), .val (.ref a2), .val (.int p3)] [(.int p3), (.ref a1)])
  have f126 := (F2.other W123 (Or.inr (slot_ne (Or.inr (hw _ (List.mem_of_getElem? (i := 36) rfl))) (Or.inr (hw _ (List.mem_of_getElem? (i := 34) rfl))) (by decide) (t := .boolean) (t' := (.object "java/lang/String")) (by decide) (by decide))))
  have f127 := (E1.wr W123)
  obtain ⟨T125, h125, X125, e125, W125, st125⟩ := putFN X123 hx hZ hown (hw _ (List.mem_of_getElem? (i := 35) rfl)) Via.refl e123 f126 f127 (Or.inr ⟨(hw _ (List.mem_of_getElem? (i := 36) rfl)), rfl, hnm⟩) (hw _ (List.mem_of_getElem? (i := 27) rfl)) (ty := .boolean) (v := (.int p3)) (v' := (.int p3)) (by decide) (congrArg Value.int hz) (by have q := fits_nar_bool p3; rw [hz] at q; exact q) (g := (mkF m 11 #[.val (.ref a1), .val (.ref a2), .val (.int p3)] [(.int p3), (.ref a1)])) rfl rfl (hb hby d6_11)
  refine own_by st125 ?_
  have N125 := Fr.snoc X125 N123 g1
  have fw125 := f126.same W125
  have K128 := K124.wr W125 (Or.inl (List.mem_of_getElem? (i := 0) rfl))
  have Z125 : n0 ≤ h125.size := Nat.le_trans Z123 (Keep.of_wr W125).1
  show own_Go p e below _ T125 (mkF m 14 #[.val (.ref a1), .val (.ref a2), .val (.int p3)] [])
  have f129 := (f127.wr W125)
  have f130 := ((F3.other W123 (Or.inr (slot_ne (Or.inl (hw _ (List.mem_of_getElem? (i := 43) rfl))) (Or.inr (hw _ (List.mem_of_getElem? (i := 34) rfl))) (by decide) (t := (.array .char)) (t' := (.object "java/lang/String")) (by decide) (by decide)))).other W125 (Or.inr (slot_ne (Or.inl (hw _ (List.mem_of_getElem? (i := 43) rfl))) (Or.inr (hw _ (List.mem_of_getElem? (i := 36) rfl))) (by decide) (t := (.array .char)) (t' := .boolean) (by decide) (by decide))))
  exact own_ret0 X125 hx hlk hret (hb hby d6_14) (by first | exact ⟨rfl, N125, K128, f129, f130⟩ | (rw [e125]; exact ⟨rfl, N125, K128, f129, f130⟩)) (by decide) (by decide)
def Q_rm7z (Z : State) (a1 : Addr) (h0 : Heap) (n0 : Nat) (v : Option Value) (h : Heap) (L : List Loc) : Prop := v = some .null ∧ Fr n0 L ∧ h = h0
theorem pn_rm7z : plainFor (⟨"watchword/PasswordCallback", "getPassword", "()[C"⟩ : MethodName) = true := plainFor_of_name (by first | (simp [plainName, overriddenIn, x]; done) | decide +kernel)
theorem d7_0 : decode prog_50_method_5_code 0 = .ok (.aload_n 0, 1) := by decide +kernel
theorem d7_1 : decode prog_50_method_5_code 1 = .ok (.getfield 26, 3) := by decide +kernel
theorem d7_4 : decode prog_50_method_5_code 4 = .ok (.ifnonnull 7, 3) := by decide +kernel
theorem d7_7 : decode prog_50_method_5_code 7 = .ok (.aconst_null, 1) := by decide +kernel
theorem d7_8 : decode prog_50_method_5_code 8 = .ok (.goto 13, 3) := by decide +kernel
theorem d7_21 : decode prog_50_method_5_code 21 = .ok (.areturn, 1) := by decide +kernel
set_option maxRecDepth 65536 in
set_option maxHeartbeats 40000000 in
theorem rm7z (l : Launch) (Z : State) (a0 : Array Value) (hw : ∀ d ∈ tables_1, d.before a0 Z = true) (ws : List Jvm.Cond) (a1 : Addr) (h0 : Heap) (n0 : Nat) (Z0 : n0 ≤ h0.size) (F1 : Fld Z h0 a1 "watchword/PasswordCallback" "password" "[C" .null) :
    own_Met l Z (⟨"watchword/PasswordCallback", "getPassword", "()[C"⟩ : MethodName) prog_50_method_5_code 1 (some (.array .char)) ws ({ frames := 0, cells := 0, slots := 0, locals := 0 } : Room) #[(.ref a1)] h0 (Q_rm7z Z a1 h0 n0) := by
  refine own_enter (g0 := fun m => (mkF m 0 #[.val (.ref a1)] [])) pn_rm7z (fun m => by first | (simp [entryFrame, mkF, argsToLocals, Value.category, maxLocals]; done) | rfl) ?_
  intro p e s m below meth c s₁ hx hby hml hown hnm hret hlk hZ X0 e0
  have hml : c.maxLocals = 1 := hml
  have hown : s.vm.findClass "watchword/PasswordCallback" = some m.cls := hown
  have N0 := Fr.nil n0
  show own_Go p e below _ s₁ (mkF m 0 #[.val (.ref a1)] [])
  refine own_by (fun _ k => XS.aloadN X0.here hx rfl (hb hby d7_0) rfl rfl k) ?_
  show own_Go p e below _ s₁ (mkF m 1 #[.val (.ref a1)] [(.ref a1)])
  obtain ⟨T131, X131, e131, st131⟩ := getF X0 hx hZ hown (host := "") (Or.inl (hw _ (List.mem_of_getElem? (i := 42) rfl))) Via.refl e0 F1 (g := (mkF m 1 #[.val (.ref a1)] [(.ref a1)])) rfl rfl (hb hby d7_1)
  refine own_by st131 ?_
  show own_Go p e below _ T131 (mkF m 4 #[.val (.ref a1)] [.null])
  refine own_by (fun _ k => XS.ifnonnullNo X131.here hx rfl (hb hby d7_4) rfl k) ?_
  show own_Go p e below _ T131 (mkF m 7 #[.val (.ref a1)] [])
  refine own_by (fun _ k => XS.aconstNull X131.here hx rfl (hb hby d7_7) k) ?_
  show own_Go p e below _ T131 (mkF m 8 #[.val (.ref a1)] [.null])
  refine own_by (fun _ k => XS.goto X131.here hx rfl (pc0 := 8) (pc' := 21) rfl (hb hby d7_8) (by decide) (by decide) k) ?_
  show own_Go p e below _ T131 (mkF m 21 #[.val (.ref a1)] [.null])
  exact own_retA X131 hx hlk hret rfl rfl (hb hby d7_21) (by first | exact ⟨rfl, N0, rfl⟩ | (rw [e131]; exact ⟨rfl, N0, rfl⟩)) (by decide) (by decide)
def Q_rm10z (Z : State) (a1 : Addr) (h0 : Heap) (n0 : Nat) (v : Option Value) (h : Heap) (L : List Loc) : Prop := v = none ∧ Fr n0 L ∧ h = h0
theorem pn_rm10z : plainFor (⟨"watchword/PasswordCallback", "clearPassword", "()V"⟩ : MethodName) = true := plainFor_of_name (by first | (simp [plainName, overriddenIn, x]; done) | decide +kernel)
theorem d10_0 : decode prog_50_method_6_code 0 = .ok (.aload_n 0, 1) := by decide +kernel
theorem d10_1 : decode prog_50_method_6_code 1 = .ok (.getfield 26, 3) := by decide +kernel
theorem d10_4 : decode prog_50_method_6_code 4 = .ok (.ifnull 16, 3) := by decide +kernel
theorem d10_20 : decode prog_50_method_6_code 20 = .ok (.return_, 1) := by decide +kernel
set_option maxRecDepth 65536 in
set_option maxHeartbeats 40000000 in
theorem rm10z (l : Launch) (Z : State) (a0 : Array Value) (hw : ∀ d ∈ tables_1, d.before a0 Z = true) (ws : List Jvm.Cond) (a1 : Addr) (h0 : Heap) (n0 : Nat) (Z0 : n0 ≤ h0.size) (F1 : Fld Z h0 a1 "watchword/PasswordCallback" "password" "[C" .null) :
    own_Met l Z (⟨"watchword/PasswordCallback", "clearPassword", "()V"⟩ : MethodName) prog_50_method_6_code 1 none ws ({ frames := 0, cells := 0, slots := 0, locals := 0 } : Room) #[(.ref a1)] h0 (Q_rm10z Z a1 h0 n0) := by
  refine own_enter (g0 := fun m => (mkF m 0 #[.val (.ref a1)] [])) pn_rm10z (fun m => by first | (simp [entryFrame, mkF, argsToLocals, Value.category, maxLocals]; done) | rfl) ?_
  intro p e s m below meth c s₁ hx hby hml hown hnm hret hlk hZ X0 e0
  have hml : c.maxLocals = 1 := hml
  have hown : s.vm.findClass "watchword/PasswordCallback" = some m.cls := hown
  have N0 := Fr.nil n0
  show own_Go p e below _ s₁ (mkF m 0 #[.val (.ref a1)] [])
  refine own_by (fun _ k => XS.aloadN X0.here hx rfl (hb hby d10_0) rfl rfl k) ?_
  show own_Go p e below _ s₁ (mkF m 1 #[.val (.ref a1)] [(.ref a1)])
  obtain ⟨T132, X132, e132, st132⟩ := getF X0 hx hZ hown (host := "") (Or.inl (hw _ (List.mem_of_getElem? (i := 42) rfl))) Via.refl e0 F1 (g := (mkF m 1 #[.val (.ref a1)] [(.ref a1)])) rfl rfl (hb hby d10_1)
  refine own_by st132 ?_
  show own_Go p e below _ T132 (mkF m 4 #[.val (.ref a1)] [.null])
  refine own_by (fun _ k => XS.ifnullYes X132.here hx rfl (pc0 := 4) (pc' := 20) rfl (hb hby d10_4) rfl (by decide) (by decide) k) ?_
  show own_Go p e below _ T132 (mkF m 20 #[.val (.ref a1)] [])
  exact own_ret0 X132 hx hlk hret (hb hby d10_20) (by first | exact ⟨rfl, N0, rfl⟩ | (rw [e132]; exact ⟨rfl, N0, rfl⟩)) (by decide) (by decide)
def Q_rm7_0 (Z : State) (a1 q : Addr) (k2 : ClassId)  (h0 : Heap) (n0 : Nat) (v : Option Value) (h : Heap) (L : List Loc) : Prop := ∃ b, v = some (.ref b) ∧ Fr n0 L ∧ Keep h0 h [] ∧ h0.size ≤ b ∧ Exa Z h b "[C" ∧ Arv Z h b k2 .char (0 : Int32) [] (.int (0 : Int32))
theorem pn_rm7_0 : plainFor (⟨"watchword/PasswordCallback", "getPassword", "()[C"⟩ : MethodName) = true := plainFor_of_name (by first | (simp [plainName, overriddenIn, x]; done) | decide +kernel)
theorem d7_11 : decode prog_50_method_5_code 11 = .ok (.aload_n 0, 1) := by decide +kernel
theorem d7_12 : decode prog_50_method_5_code 12 = .ok (.getfield 26, 3) := by decide +kernel
theorem d7_15 : decode prog_50_method_5_code 15 = .ok (.invokevirtual 20, 3) := by decide +kernel
theorem d7_18 : decode prog_50_method_5_code 18 = .ok (.checkcast 21, 3) := by decide +kernel
set_option maxRecDepth 65536 in
set_option maxHeartbeats 40000000 in
theorem rm7_0 (l : Launch) (Z : State) (a0 : Array Value) (hw : ∀ d ∈ tables_1, d.before a0 Z = true) (ws : List Jvm.Cond) (a1 q : Addr) (k2 : ClassId)  (h0 : Heap) (n0 : Nat) (Z0 : n0 ≤ h0.size) (F1 : Fld Z h0 a1 "watchword/PasswordCallback" "password" "[C" (.ref q)) (V1 : Arv Z h0 q k2 .char (0 : Int32) [] (.int (0 : Int32))) (E2 : Exa Z h0 q "[C") :
    own_Met l Z (⟨"watchword/PasswordCallback", "getPassword", "()[C"⟩ : MethodName) prog_50_method_5_code 1 (some (.array .char)) ws ({ frames := 1, cells := 1, slots := 0, locals := 14 } : Room) #[(.ref a1)] h0 (Q_rm7_0 Z a1 q k2 h0 n0) := by
  refine own_enter (g0 := fun m => (mkF m 0 #[.val (.ref a1)] [])) pn_rm7_0 (fun m => by first | (simp [entryFrame, mkF, argsToLocals, Value.category, maxLocals]; done) | rfl) ?_
  intro p e s m below meth c s₁ hx hby hml hown hnm hret hlk hZ X0 e0
  have hml : c.maxLocals = 1 := hml
  have hown : s.vm.findClass "watchword/PasswordCallback" = some m.cls := hown
  have N0 := Fr.nil n0
  show own_Go p e below _ s₁ (mkF m 0 #[.val (.ref a1)] [])
  have K0 := Keep.refl h0 []
  refine own_by (fun _ k => XS.aloadN X0.here hx rfl (hb hby d7_0) rfl rfl k) ?_
  show own_Go p e below _ s₁ (mkF m 1 #[.val (.ref a1)] [(.ref a1)])
  obtain ⟨T133, X133, e133, st133⟩ := getF X0 hx hZ hown (host := "") (Or.inl (hw _ (List.mem_of_getElem? (i := 42) rfl))) Via.refl e0 F1 (g := (mkF m 1 #[.val (.ref a1)] [(.ref a1)])) rfl rfl (hb hby d7_1)
  refine own_by st133 ?_
  show own_Go p e below _ T133 (mkF m 4 #[.val (.ref a1)] [(.ref q)])
  refine own_by (fun _ k => XS.ifnonnullYes X133.here hx rfl (pc0 := 4) (pc' := 11) rfl (hb hby d7_4) rfl (by decide) (by decide) k) ?_
  show own_Go p e below _ T133 (mkF m 11 #[.val (.ref a1)] [])
  refine own_by (fun _ k => XS.aloadN X133.here hx rfl (hb hby d7_11) rfl rfl k) ?_
  show own_Go p e below _ T133 (mkF m 12 #[.val (.ref a1)] [(.ref a1)])
  obtain ⟨T134, X134, e134, st134⟩ := getF X133 hx hZ hown (host := "") (Or.inl (hw _ (List.mem_of_getElem? (i := 42) rfl))) Via.refl e133 F1 (g := (mkF m 12 #[.val (.ref a1)] [(.ref a1)])) rfl rfl (hb hby d7_12)
  refine own_by st134 ?_
  show own_Go p e below _ T134 (mkF m 15 #[.val (.ref a1)] [(.ref q)])
  obtain ⟨T135, h135, X135, e135, E135, A135, C135, st135⟩ := cloneH X134 hx hZ hown (hw _ (List.mem_of_getElem? (i := 59) rfl)) (hw _ (List.mem_of_getElem? (i := 60) rfl)) (hw _ (List.mem_of_getElem? (i := 64) rfl)) (hw _ (List.mem_of_getElem? (i := 62) rfl)) (hw _ (List.mem_of_getElem? (i := 63) rfl)) (hw _ (List.mem_of_getElem? (i := 65) rfl)) e134 (hs := []) V1 E2 (g := (mkF m 15 #[.val (.ref a1)] [(.ref q)])) rfl (by rw [hml]; rfl) rfl (hb hby d7_15) (by decide) (W := 0) (cap := 0) (by show 2 * 0 + _ ≤ _; exact Nat.le_of_eq rfl) (by decide) (by decide) (by decide) (by decide)
  obtain ⟨b135, g135⟩ : ∃ z, z = h0.size := ⟨_, rfl⟩
  rw [← g135] at A135 C135 st135
  have ne_a1_b135 : a1 ≠ b135 := Nat.ne_of_lt (Nat.lt_of_lt_of_le F1.lt (Nat.le_of_eq g135.symm))
  have ne_q_b135 : q ≠ b135 := Nat.ne_of_lt (Nat.lt_of_lt_of_le V1.lt (Nat.le_of_eq g135.symm))
  have og_b135 : n0 ≤ b135 := Nat.le_trans Z0 (Nat.le_of_eq g135.symm)
  have sz_b135 : h0.size ≤ b135 := Nat.le_trans K0.1 (Nat.le_of_eq g135.symm)
  have Z135 : n0 ≤ h135.size := Nat.le_trans Z0 E135.1
  have K136 := K0.ext E135
  have V135 : Arv Z h135 b135 k2 .char (0 : Int32) [] (.int (0 : Int32)) := A135
  refine own_by st135 ?_
  show own_Go p e below _ T135 (mkF m 18 #[.val (.ref a1)] [(.ref b135)])
  obtain ⟨T137, X137, e137, st137⟩ := castY X135 hx hZ hown (hw _ (List.mem_of_getElem? (i := 66) rfl)) e135 (Ins.self C135) (g := (mkF m 18 #[.val (.ref a1)] [(.ref b135)])) rfl rfl (hb hby d7_18)
  refine own_by st137 ?_
  show own_Go p e below _ T137 (mkF m 21 #[.val (.ref a1)] [(.ref b135)])
  exact own_retA X137 hx hlk hret rfl rfl (hb hby d7_21) (by first | exact ⟨b135, rfl, N0, K136, sz_b135, C135, V135⟩ | (rw [e137]; exact ⟨b135, rfl, N0, K136, sz_b135, C135, V135⟩)) (by decide) (by decide)
def Q_rm8_0 (Z : State) (x0 x1 x2 : Int32) (h0 : Heap) (n0 : Nat) (v : Option Value) (h : Heap) (L : List Loc) : Prop := ∃ b k2, v = some (.ref b) ∧ Fr n0 L ∧ Keep h0 h [] ∧ h0.size ≤ b ∧ Exa Z h b "[C" ∧ Arv Z h b k2 .char (0 : Int32) [] (.int (0 : Int32))
theorem pn_rm8_0 : plainFor (⟨"watchword/PasswordCallbackGetPasswordPinLaw", "make", "(ICCC)[C"⟩ : MethodName) = true := plainFor_of_name (by first | (simp [plainName, overriddenIn, x]; done) | decide +kernel)
theorem d8_0 : decode method_2_code 0 = .ok (.iload_n 0, 1) := by decide +kernel
theorem d8_1 : decode method_2_code 1 = .ok (.ifCond .ne 7, 3) := by decide +kernel
theorem d8_4 : decode method_2_code 4 = .ok (.iconst 0, 1) := by decide +kernel
theorem d8_5 : decode method_2_code 5 = .ok (.newarray .char, 2) := by decide +kernel
theorem d8_7 : decode method_2_code 7 = .ok (.areturn, 1) := by decide +kernel
set_option maxRecDepth 65536 in
set_option maxHeartbeats 40000000 in
theorem rm8_0 (l : Launch) (Z : State) (a0 : Array Value) (hw : ∀ d ∈ tables_1, d.before a0 Z = true) (ws : List Jvm.Cond) (x0 x1 x2 : Int32) (h0 : Heap) (n0 : Nat) (Z0 : n0 ≤ h0.size) (hn0 : nar .char x0 = x0) (hn1 : nar .char x1 = x1) (hn2 : nar .char x2 = x2) :
    own_Met l Z (⟨"watchword/PasswordCallbackGetPasswordPinLaw", "make", "(ICCC)[C"⟩ : MethodName) method_2_code 5 (some (.array .char)) ws ({ frames := 0, cells := 1, slots := 0, locals := 0 } : Room) #[(.int (0 : Int32)), (.int x0), (.int x1), (.int x2)] h0 (Q_rm8_0 Z x0 x1 x2 h0 n0) := by
  refine own_enter (g0 := fun m => (mkF m 0 #[.val (.int (0 : Int32)), .val (.int x0), .val (.int x1), .val (.int x2), .unset] [])) pn_rm8_0 (fun m => by first | (simp [entryFrame, mkF, argsToLocals, Value.category, maxLocals]; done) | rfl) ?_
  intro p e s m below meth c s₁ hx hby hml hown hnm hret hlk hZ X0 e0
  have hml : c.maxLocals = 5 := hml
  have hown : s.vm.findClass "watchword/PasswordCallbackGetPasswordPinLaw" = some m.cls := hown
  have N0 := Fr.nil n0
  show own_Go p e below _ s₁ (mkF m 0 #[.val (.int (0 : Int32)), .val (.int x0), .val (.int x1), .val (.int x2), .unset] [])
  have K0 := Keep.refl h0 []
  refine own_by (fun _ k => XS.iloadN X0.here hx rfl (hb hby d8_0) rfl k) ?_
  show own_Go p e below _ s₁ (mkF m 1 #[.val (.int (0 : Int32)), .val (.int x0), .val (.int x1), .val (.int x2), .unset] [(.int (0 : Int32))])
  refine own_by (fun _ k => XS.ifNo X0.here hx rfl (hb hby d8_1) rfl ((if0 _ _).trans (teq (by decide : (0 : Int32) = (0 : Int32))).2) k) ?_
  show own_Go p e below _ s₁ (mkF m 4 #[.val (.int (0 : Int32)), .val (.int x0), .val (.int x1), .val (.int x2), .unset] [])
  refine own_by (fun _ k => XS.iconst X0.here hx rfl (hb hby d8_4) k) ?_
  show own_Go p e below _ s₁ (mkF m 5 #[.val (.int (0 : Int32)), .val (.int x0), .val (.int x1), .val (.int x2), .unset] [(.int (0 : Int32))])
  obtain ⟨T138, h138, k138, X138, e138, E138, A138, C138, st138⟩ := newPE X0 hx hZ (hw _ (List.mem_of_getElem? (i := 48) rfl)) e0 (g := (mkF m 5 #[.val (.int (0 : Int32)), .val (.int x0), .val (.int x1), .val (.int x2), .unset] [(.int (0 : Int32))])) rfl (hb hby d8_5) rfl (by decide) (cap := 0) (by decide) (by decide) (by decide) (by decide) (ad := "[C") (by decide)
  obtain ⟨b138, g138⟩ : ∃ z, z = h0.size := ⟨_, rfl⟩
  rw [← g138] at A138 C138 st138
  have og_b138 : n0 ≤ b138 := Nat.le_trans Z0 (Nat.le_of_eq g138.symm)
  have sz_b138 : h0.size ≤ b138 := Nat.le_trans K0.1 (Nat.le_of_eq g138.symm)
  have Z138 : n0 ≤ h138.size := Nat.le_trans Z0 E138.1
  have K139 := K0.ext E138
  have V138 : Arv Z h138 b138 k138 .char (0 : Int32) [] (.int (0 : Int32)) := (Arv.new A138 (by decide)).pad (pad_rep [] (.int (0 : Int32)) 0)
  refine own_by st138 ?_
  show own_Go p e below _ T138 (mkF m 7 #[.val (.int (0 : Int32)), .val (.int x0), .val (.int x1), .val (.int x2), .unset] [(.ref b138)])
  exact own_retA X138 hx hlk hret rfl rfl (hb hby d8_7) (by first | exact ⟨b138, k138, rfl, N0, K139, sz_b138, C138, V138⟩ | (rw [e138]; exact ⟨b138, k138, rfl, N0, K139, sz_b138, C138, V138⟩)) (by decide) (by decide)
def Q_rm13_0 (Z : State) (q : Addr) (k2 : ClassId)  (h0 : Heap) (n0 : Nat) (v : Option Value) (h : Heap) (L : List Loc) : Prop := v = none ∧ Fr n0 L ∧ Keep h0 h [q]
theorem pn_rm13_0 : plainFor (⟨"java/util/Arrays", "fill", "([CC)V"⟩ : MethodName) = true := plainFor_of_name (by first | (simp [plainName, overriddenIn, x]; done) | decide +kernel)
theorem d13_0 : decode jdk_65_method_107_code 0 = .ok (.iconst 0, 1) := by decide +kernel
theorem d13_1 : decode jdk_65_method_107_code 1 = .ok (.istore_n 2, 1) := by decide +kernel
theorem d13_2 : decode jdk_65_method_107_code 2 = .ok (.aload_n 0, 1) := by decide +kernel
theorem d13_3 : decode jdk_65_method_107_code 3 = .ok (.arraylength, 1) := by decide +kernel
theorem d13_4 : decode jdk_65_method_107_code 4 = .ok (.istore_n 3, 1) := by decide +kernel
theorem d13_5 : decode jdk_65_method_107_code 5 = .ok (.iload_n 2, 1) := by decide +kernel
theorem d13_6 : decode jdk_65_method_107_code 6 = .ok (.iload_n 3, 1) := by decide +kernel
theorem d13_7 : decode jdk_65_method_107_code 7 = .ok (.if_icmp .ge 13, 3) := by decide +kernel
theorem d13_20 : decode jdk_65_method_107_code 20 = .ok (.return_, 1) := by decide +kernel
set_option maxRecDepth 65536 in
set_option maxHeartbeats 40000000 in
theorem rm13_0 (l : Launch) (Z : State) (a0 : Array Value) (hw : ∀ d ∈ tables_1, d.before a0 Z = true) (ws : List Jvm.Cond) (q : Addr) (k2 : ClassId)  (h0 : Heap) (n0 : Nat) (Z0 : n0 ≤ h0.size) (g1 : n0 ≤ q) (V1 : Arv Z h0 q k2 .char (0 : Int32) [] (.int (0 : Int32))) :
    own_Met l Z (⟨"java/util/Arrays", "fill", "([CC)V"⟩ : MethodName) jdk_65_method_107_code 4 none ws ({ frames := 0, cells := 0, slots := 0, locals := 0 } : Room) #[(.ref q), (.int (0 : Int32))] h0 (Q_rm13_0 Z q k2 h0 n0) := by
  refine own_enter (g0 := fun m => (mkF m 0 #[.val (.ref q), .val (.int (0 : Int32)), .unset, .unset] [])) pn_rm13_0 (fun m => by first | (simp [entryFrame, mkF, argsToLocals, Value.category, maxLocals]; done) | rfl) ?_
  intro p e s m below meth c s₁ hx hby hml hown hnm hret hlk hZ X0 e0
  have hml : c.maxLocals = 4 := hml
  have hown : s.vm.findClass "java/util/Arrays" = some m.cls := hown
  have N0 := Fr.nil n0
  show own_Go p e below _ s₁ (mkF m 0 #[.val (.ref q), .val (.int (0 : Int32)), .unset, .unset] [])
  have K0 := Keep.refl h0 [q]
  refine own_by (fun _ k => XS.iconst X0.here hx rfl (hb hby d13_0) k) ?_
  show own_Go p e below _ s₁ (mkF m 1 #[.val (.ref q), .val (.int (0 : Int32)), .unset, .unset] [(.int (0 : Int32))])
  refine own_by (fun _ k => XS.istoreN X0.here hx rfl (hb hby d13_1) rfl (l' := #[.val (.ref q), .val (.int (0 : Int32)), .val (.int (0 : Int32)), .unset]) rfl k) ?_
  show own_Go p e below _ s₁ (mkF m 2 #[.val (.ref q), .val (.int (0 : Int32)), .val (.int (0 : Int32)), .unset] [])
  refine own_by (fun _ k => XS.aloadN X0.here hx rfl (hb hby d13_2) rfl rfl k) ?_
  show own_Go p e below _ s₁ (mkF m 3 #[.val (.ref q), .val (.int (0 : Int32)), .val (.int (0 : Int32)), .unset] [(.ref q)])
  obtain ⟨cl140, Ar140, len140⟩ := own_len V1
  refine own_by (T' := s₁) (g' := (mkF m 4 #[.val (.ref q), .val (.int (0 : Int32)), .val (.int (0 : Int32)), .unset] [(.int (0 : Int32))])) (fun _ k => X0.arraylength hx (by rw [e0]; exact Ar140.1) (State.isArrayOf_alike hZ.alike Ar140.2.1) (g := (mkF m 3 #[.val (.ref q), .val (.int (0 : Int32)), .val (.int (0 : Int32)), .unset] [(.ref q)])) rfl rfl (hb hby d13_3) _ (by rw [len140]; exact k)) ?_
  refine own_by (fun _ k => XS.istoreN X0.here hx rfl (hb hby d13_4) rfl (l' := #[.val (.ref q), .val (.int (0 : Int32)), .val (.int (0 : Int32)), .val (.int (0 : Int32))]) rfl k) ?_
  show own_Go p e below _ s₁ (mkF m 5 #[.val (.ref q), .val (.int (0 : Int32)), .val (.int (0 : Int32)), .val (.int (0 : Int32))] [])
  refine own_by (fun _ k => XS.iloadN X0.here hx rfl (hb hby d13_5) rfl k) ?_
  show own_Go p e below _ s₁ (mkF m 6 #[.val (.ref q), .val (.int (0 : Int32)), .val (.int (0 : Int32)), .val (.int (0 : Int32))] [(.int (0 : Int32))])
  refine own_by (fun _ k => XS.iloadN X0.here hx rfl (hb hby d13_6) rfl k) ?_
  show own_Go p e below _ s₁ (mkF m 7 #[.val (.ref q), .val (.int (0 : Int32)), .val (.int (0 : Int32)), .val (.int (0 : Int32))] [(.int (0 : Int32)), (.int (0 : Int32))])
  refine own_by (fun _ k => XS.icmpYes X0.here hx rfl (pc0 := 7) (pc' := 20) rfl (hb hby d13_7) rfl (flt (by decide : ¬ ((0 : Int32) < (0 : Int32)))).2.1 (by decide) (by decide) k) ?_
  show own_Go p e below _ s₁ (mkF m 20 #[.val (.ref q), .val (.int (0 : Int32)), .val (.int (0 : Int32)), .val (.int (0 : Int32))] [])
  exact own_ret0 X0 hx hlk hret (hb hby d13_20) (by first | exact ⟨rfl, N0, K0⟩ | (rw [e0]; exact ⟨rfl, N0, K0⟩)) (by decide) (by decide)
def Q_rm10_0 (Z : State) (a1 q : Addr) (k2 : ClassId)  (h0 : Heap) (n0 : Nat) (v : Option Value) (h : Heap) (L : List Loc) : Prop := v = none ∧ Fr n0 L ∧ Keep h0 h [a1, q] ∧ Exa Z h a1 "watchword/PasswordCallback" ∧ Fld Z h a1 "watchword/PasswordCallback" "password" "[C" .null
theorem pn_rm10_0 : plainFor (⟨"watchword/PasswordCallback", "clearPassword", "()V"⟩ : MethodName) = true := plainFor_of_name (by first | (simp [plainName, overriddenIn, x]; done) | decide +kernel)
theorem d10_7 : decode prog_50_method_6_code 7 = .ok (.aload_n 0, 1) := by decide +kernel
theorem d10_8 : decode prog_50_method_6_code 8 = .ok (.getfield 26, 3) := by decide +kernel
theorem d10_11 : decode prog_50_method_6_code 11 = .ok (.iconst 0, 1) := by decide +kernel
theorem pd_3 : parseMethodDescriptor "([CC)V" = some ⟨[(.array .char), .char], none⟩ := by decide +kernel
theorem d10_12 : decode prog_50_method_6_code 12 = .ok (.invokestatic 29, 3) := by decide +kernel
theorem d10_15 : decode prog_50_method_6_code 15 = .ok (.aload_n 0, 1) := by decide +kernel
theorem d10_16 : decode prog_50_method_6_code 16 = .ok (.aconst_null, 1) := by decide +kernel
theorem d10_17 : decode prog_50_method_6_code 17 = .ok (.putfield 26, 3) := by decide +kernel
set_option maxRecDepth 65536 in
set_option maxHeartbeats 40000000 in
theorem rm10_0 (l : Launch) (Z : State) (a0 : Array Value) (hw : ∀ d ∈ tables_1, d.before a0 Z = true) (ws : List Jvm.Cond) (a1 q : Addr) (k2 : ClassId)  (h0 : Heap) (n0 : Nat) (Z0 : n0 ≤ h0.size) (g1 : n0 ≤ a1) (g2 : n0 ≤ q) (hne : a1 ≠ q) (E1 : Exa Z h0 a1 "watchword/PasswordCallback") (F1 : Fld Z h0 a1 "watchword/PasswordCallback" "password" "[C" (.ref q)) (V1 : Arv Z h0 q k2 .char (0 : Int32) [] (.int (0 : Int32))) :
    own_Met l Z (⟨"watchword/PasswordCallback", "clearPassword", "()V"⟩ : MethodName) prog_50_method_6_code 1 none ws ({ frames := 1, cells := 0, slots := 0, locals := 16 } : Room) #[(.ref a1)] h0 (Q_rm10_0 Z a1 q k2 h0 n0) := by
  refine own_enter (g0 := fun m => (mkF m 0 #[.val (.ref a1)] [])) pn_rm10_0 (fun m => by first | (simp [entryFrame, mkF, argsToLocals, Value.category, maxLocals]; done) | rfl) ?_
  intro p e s m below meth c s₁ hx hby hml hown hnm hret hlk hZ X0 e0
  have hml : c.maxLocals = 1 := hml
  have hown : s.vm.findClass "watchword/PasswordCallback" = some m.cls := hown
  have N0 := Fr.nil n0
  show own_Go p e below _ s₁ (mkF m 0 #[.val (.ref a1)] [])
  have K0 := Keep.refl h0 [a1, q]
  refine own_by (fun _ k => XS.aloadN X0.here hx rfl (hb hby d10_0) rfl rfl k) ?_
  show own_Go p e below _ s₁ (mkF m 1 #[.val (.ref a1)] [(.ref a1)])
  obtain ⟨T141, X141, e141, st141⟩ := getF X0 hx hZ hown (host := "") (Or.inl (hw _ (List.mem_of_getElem? (i := 42) rfl))) Via.refl e0 F1 (g := (mkF m 1 #[.val (.ref a1)] [(.ref a1)])) rfl rfl (hb hby d10_1)
  refine own_by st141 ?_
  show own_Go p e below _ T141 (mkF m 4 #[.val (.ref a1)] [(.ref q)])
  refine own_by (fun _ k => XS.ifnullNo X141.here hx rfl (hb hby d10_4) rfl k) ?_
  show own_Go p e below _ T141 (mkF m 7 #[.val (.ref a1)] [])
  refine own_by (fun _ k => XS.aloadN X141.here hx rfl (hb hby d10_7) rfl rfl k) ?_
  show own_Go p e below _ T141 (mkF m 8 #[.val (.ref a1)] [(.ref a1)])
  obtain ⟨T142, X142, e142, st142⟩ := getF X141 hx hZ hown (host := "") (Or.inl (hw _ (List.mem_of_getElem? (i := 42) rfl))) Via.refl e141 F1 (g := (mkF m 8 #[.val (.ref a1)] [(.ref a1)])) rfl rfl (hb hby d10_8)
  refine own_by st142 ?_
  show own_Go p e below _ T142 (mkF m 11 #[.val (.ref a1)] [(.ref q)])
  refine own_by (fun _ k => XS.iconst X142.here hx rfl (hb hby d10_11) k) ?_
  show own_Go p e below _ T142 (mkF m 12 #[.val (.ref a1)] [(.int (0 : Int32)), (.ref q)])
  obtain ⟨_, T143, L143, X143, ⟨rfl, N143q, Kf⟩, st143⟩ := own_callS X142 hx hZ hown (y := (⟨"java/util/Arrays", "fill", "([CC)V"⟩ : MethodName)) (hw _ (List.mem_of_getElem? (i := 74) rfl)) (hw _ (List.mem_of_getElem? (i := 75) rfl)) (hw _ (List.mem_of_getElem? (i := 76) rfl)) (hw _ (List.mem_of_getElem? (i := 77) rfl)) (by decide) (argsL := [(.ref q), (.int (0 : Int32))]) (rest := []) e142 (rm13_0 l Z a0 hw [] q k2  h0 n0 Z0 g2 V1) (g := (mkF m 12 #[.val (.ref a1)] [(.int (0 : Int32)), (.ref q)])) rfl (by rw [hml]; rfl) (lenOf pd_3 rfl) rfl (W := 0) (by show 2 * 0 + _ ≤ _; exact Nat.le_of_eq rfl) (hb hby d10_12) (by decide) (by decide) (by decide) (by decide)
  have N143 := Fr.app N0 N143q
  refine own_by st143 ?_
  show own_Go p e below _ T143 (mkF m 15 #[.val (.ref a1)] [])
  have Z143 : n0 ≤ T143.heap.size := Nat.le_trans Z0 Kf.1
  have K143c := K0.trans Kf (allS (Or.inl (List.mem_of_getElem? (i := 1) rfl)) all0)
  refine own_by (fun _ k => XS.aloadN X143.here hx rfl (hb hby d10_15) rfl rfl k) ?_
  show own_Go p e below _ T143 (mkF m 16 #[.val (.ref a1)] [(.ref a1)])
  refine own_by (fun _ k => XS.aconstNull X143.here hx rfl (hb hby d10_16) k) ?_
  show own_Go p e below _ T143 (mkF m 17 #[.val (.ref a1)] [.null, (.ref a1)])
  have f145 := (F1.keep Kf (ninS hne nin0))
  have f146 := (E1.keep Kf)
  obtain ⟨T144, h144, X144, e144, W144, st144⟩ := putF X143 hx hZ hown (host := "") (Or.inl (hw _ (List.mem_of_getElem? (i := 42) rfl))) Via.refl rfl f145 f146 (Or.inl (hw _ (List.mem_of_getElem? (i := 43) rfl))) (hw _ (List.mem_of_getElem? (i := 27) rfl)) (ty := (.array .char)) (by decide) rfl rfl (g := (mkF m 17 #[.val (.ref a1)] [.null, (.ref a1)])) rfl rfl (hb hby d10_17)
  refine own_by st144 ?_
  have N144 := Fr.snoc X144 N143 g1
  have fw144 := f145.same W144
  have K147 := K143c.wr W144 (Or.inl (List.mem_of_getElem? (i := 0) rfl))
  have Z144 : n0 ≤ h144.size := Nat.le_trans Z143 (Keep.of_wr W144).1
  show own_Go p e below _ T144 (mkF m 20 #[.val (.ref a1)] [])
  have f148 := (f146.wr W144)
  exact own_ret0 X144 hx hlk hret (hb hby d10_20) (by first | exact ⟨rfl, N144, K147, f148, fw144⟩ | (rw [e144]; exact ⟨rfl, N144, K147, f148, fw144⟩)) (by decide) (by decide)
def Q_rm9_0 (Z : State) (a1 q : Addr) (k2 : ClassId)  (h0 : Heap) (n0 : Nat) (v : Option Value) (h : Heap) (L : List Loc) : Prop := ∃ b, v = none ∧ Fr n0 L ∧ Keep h0 h [a1] ∧ h0.size ≤ b ∧ Exa Z h a1 "watchword/PasswordCallback" ∧ Fld Z h a1 "watchword/PasswordCallback" "password" "[C" (.ref b) ∧ Exa Z h b "[C" ∧ Arv Z h b k2 .char (0 : Int32) [] (.int (0 : Int32))
theorem pn_rm9_0 : plainFor (⟨"watchword/PasswordCallback", "setPassword", "([C)V"⟩ : MethodName) = true := plainFor_of_name (by first | (simp [plainName, overriddenIn, x]; done) | decide +kernel)
theorem d9_0 : decode prog_50_method_4_code 0 = .ok (.aload_n 0, 1) := by decide +kernel
theorem pd_4 : parseMethodDescriptor "()V" = some ⟨[], none⟩ := by decide +kernel
theorem d9_1 : decode prog_50_method_4_code 1 = .ok (.invokevirtual 17, 3) := by decide +kernel
theorem d9_4 : decode prog_50_method_4_code 4 = .ok (.aload_n 0, 1) := by decide +kernel
theorem d9_5 : decode prog_50_method_4_code 5 = .ok (.aload_n 1, 1) := by decide +kernel
theorem d9_6 : decode prog_50_method_4_code 6 = .ok (.ifnonnull 7, 3) := by decide +kernel
theorem d9_13 : decode prog_50_method_4_code 13 = .ok (.aload_n 1, 1) := by decide +kernel
theorem d9_14 : decode prog_50_method_4_code 14 = .ok (.invokevirtual 20, 3) := by decide +kernel
theorem d9_17 : decode prog_50_method_4_code 17 = .ok (.checkcast 21, 3) := by decide +kernel
theorem d9_20 : decode prog_50_method_4_code 20 = .ok (.putfield 26, 3) := by decide +kernel
theorem d9_23 : decode prog_50_method_4_code 23 = .ok (.return_, 1) := by decide +kernel
set_option maxRecDepth 65536 in
set_option maxHeartbeats 40000000 in
theorem rm9_0 (l : Launch) (Z : State) (a0 : Array Value) (hw : ∀ d ∈ tables_1, d.before a0 Z = true) (ws : List Jvm.Cond) (a1 q : Addr) (k2 : ClassId)  (h0 : Heap) (n0 : Nat) (Z0 : n0 ≤ h0.size) (g1 : n0 ≤ a1) (E1 : Exa Z h0 a1 "watchword/PasswordCallback") (F1 : Fld Z h0 a1 "watchword/PasswordCallback" "password" "[C" .null) (V1 : Arv Z h0 q k2 .char (0 : Int32) [] (.int (0 : Int32))) (E2 : Exa Z h0 q "[C") :
    own_Met l Z (⟨"watchword/PasswordCallback", "setPassword", "([C)V"⟩ : MethodName) prog_50_method_4_code 2 none ws ({ frames := 1, cells := 1, slots := 0, locals := 16 } : Room) #[(.ref a1), (.ref q)] h0 (Q_rm9_0 Z a1 q k2 h0 n0) := by
  refine own_enter (g0 := fun m => (mkF m 0 #[.val (.ref a1), .val (.ref q)] [])) pn_rm9_0 (fun m => by first | (simp [entryFrame, mkF, argsToLocals, Value.category, maxLocals]; done) | rfl) ?_
  intro p e s m below meth c s₁ hx hby hml hown hnm hret hlk hZ X0 e0
  have hml : c.maxLocals = 2 := hml
  have hown : s.vm.findClass "watchword/PasswordCallback" = some m.cls := hown
  have N0 := Fr.nil n0
  show own_Go p e below _ s₁ (mkF m 0 #[.val (.ref a1), .val (.ref q)] [])
  have K0 := Keep.refl h0 [a1]
  refine own_by (fun _ k => XS.aloadN X0.here hx rfl (hb hby d9_0) rfl rfl k) ?_
  show own_Go p e below _ s₁ (mkF m 1 #[.val (.ref a1), .val (.ref q)] [(.ref a1)])
  obtain ⟨_, T149, L149, X149, ⟨rfl, N149q, e149⟩, st149⟩ := own_callV X0 hx hZ hown (y := (⟨"watchword/PasswordCallback", "clearPassword", "()V"⟩ : MethodName)) (C := "watchword/PasswordCallback") (hw _ (List.mem_of_getElem? (i := 54) rfl)) (hw _ (List.mem_of_getElem? (i := 55) rfl)) (hw _ (List.mem_of_getElem? (i := 57) rfl)) (hw _ (List.mem_of_getElem? (i := 56) rfl)) (hw _ (List.mem_of_getElem? (i := 28) rfl)) (hw _ (List.mem_of_getElem? (i := 58) rfl)) (by decide) (a := a1) E1 (argsL := []) (rest := []) e0 (rm10z l Z a0 hw [] a1 h0 n0 Z0 F1) (g := (mkF m 1 #[.val (.ref a1), .val (.ref q)] [(.ref a1)])) rfl (by rw [hml]; rfl) (lenOf pd_4 rfl) rfl (W := 0) (by show 2 * 0 + _ ≤ _; exact Nat.le_of_eq rfl) (hb hby d9_1) (by decide) (by decide) (by decide) (by decide)
  have N149 := Fr.app N0 N149q
  refine own_by st149 ?_
  show own_Go p e below _ T149 (mkF m 4 #[.val (.ref a1), .val (.ref q)] [])
  refine own_by (fun _ k => XS.aloadN X149.here hx rfl (hb hby d9_4) rfl rfl k) ?_
  show own_Go p e below _ T149 (mkF m 5 #[.val (.ref a1), .val (.ref q)] [(.ref a1)])
  refine own_by (fun _ k => XS.aloadN X149.here hx rfl (hb hby d9_5) rfl rfl k) ?_
  show own_Go p e below _ T149 (mkF m 6 #[.val (.ref a1), .val (.ref q)] [(.ref q), (.ref a1)])
  refine own_by (fun _ k => XS.ifnonnullYes X149.here hx rfl (pc0 := 6) (pc' := 13) rfl (hb hby d9_6) rfl (by decide) (by decide) k) ?_
  show own_Go p e below _ T149 (mkF m 13 #[.val (.ref a1), .val (.ref q)] [(.ref a1)])
  refine own_by (fun _ k => XS.aloadN X149.here hx rfl (hb hby d9_13) rfl rfl k) ?_
  show own_Go p e below _ T149 (mkF m 14 #[.val (.ref a1), .val (.ref q)] [(.ref q), (.ref a1)])
  obtain ⟨T150, h150, X150, e150, E150, A150, C150, st150⟩ := cloneH X149 hx hZ hown (hw _ (List.mem_of_getElem? (i := 59) rfl)) (hw _ (List.mem_of_getElem? (i := 60) rfl)) (hw _ (List.mem_of_getElem? (i := 64) rfl)) (hw _ (List.mem_of_getElem? (i := 62) rfl)) (hw _ (List.mem_of_getElem? (i := 63) rfl)) (hw _ (List.mem_of_getElem? (i := 65) rfl)) e149 (hs := []) V1 E2 (g := (mkF m 14 #[.val (.ref a1), .val (.ref q)] [(.ref q), (.ref a1)])) rfl (by rw [hml]; rfl) rfl (hb hby d9_14) (by decide) (W := 1) (cap := 0) (by show 2 * 0 + _ ≤ _; exact Nat.le_of_eq rfl) (by decide) (by decide) (by decide) (by decide)
  obtain ⟨b150, g150⟩ : ∃ z, z = h0.size := ⟨_, rfl⟩
  rw [← g150] at A150 C150 st150
  have ne_a1_b150 : a1 ≠ b150 := Nat.ne_of_lt (Nat.lt_of_lt_of_le F1.lt (Nat.le_of_eq g150.symm))
  have ne_q_b150 : q ≠ b150 := Nat.ne_of_lt (Nat.lt_of_lt_of_le V1.lt (Nat.le_of_eq g150.symm))
  have og_b150 : n0 ≤ b150 := Nat.le_trans Z0 (Nat.le_of_eq g150.symm)
  have sz_b150 : h0.size ≤ b150 := Nat.le_trans K0.1 (Nat.le_of_eq g150.symm)
  have Z150 : n0 ≤ h150.size := Nat.le_trans Z0 E150.1
  have K151 := K0.ext E150
  have V150 : Arv Z h150 b150 k2 .char (0 : Int32) [] (.int (0 : Int32)) := A150
  refine own_by st150 ?_
  show own_Go p e below _ T150 (mkF m 17 #[.val (.ref a1), .val (.ref q)] [(.ref b150), (.ref a1)])
  obtain ⟨T152, X152, e152, st152⟩ := castY X150 hx hZ hown (hw _ (List.mem_of_getElem? (i := 66) rfl)) e150 (Ins.self C150) (g := (mkF m 17 #[.val (.ref a1), .val (.ref q)] [(.ref b150), (.ref a1)])) rfl rfl (hb hby d9_17)
  refine own_by st152 ?_
  show own_Go p e below _ T152 (mkF m 20 #[.val (.ref a1), .val (.ref q)] [(.ref b150), (.ref a1)])
  have f154 := (F1.ext E150)
  have f155 := (E1.ext E150)
  obtain ⟨T153, h153, X153, e153, W153, st153⟩ := putF X152 hx hZ hown (host := "") (Or.inl (hw _ (List.mem_of_getElem? (i := 42) rfl))) Via.refl e152 f154 f155 (Or.inl (hw _ (List.mem_of_getElem? (i := 43) rfl))) (hw _ (List.mem_of_getElem? (i := 27) rfl)) (ty := (.array .char)) (by decide) rfl rfl (g := (mkF m 20 #[.val (.ref a1), .val (.ref q)] [(.ref b150), (.ref a1)])) rfl rfl (hb hby d9_20)
  refine own_by st153 ?_
  have N153 := Fr.snoc X153 N149 g1
  have fw153 := f154.same W153
  have K156 := K151.wr W153 (Or.inl (List.mem_of_getElem? (i := 0) rfl))
  have Z153 : n0 ≤ h153.size := Nat.le_trans Z150 (Keep.of_wr W153).1
  show own_Go p e below _ T153 (mkF m 23 #[.val (.ref a1), .val (.ref q)] [])
  have f157 := (f155.wr W153)
  have f158 := (C150.wr W153)
  have f159 := (V150.other W153 (Ne.symm ne_a1_b150))
  exact own_ret0 X153 hx hlk hret (hb hby d9_23) (by first | exact ⟨b150, rfl, N153, K156, sz_b150, f157, fw153, f158, f159⟩ | (rw [e153]; exact ⟨b150, rfl, N153, K156, sz_b150, f157, fw153, f158, f159⟩)) (by decide) (by decide)
def Q_rm9n_0 (Z : State) (a1 q : Addr) (k2 : ClassId)  (h0 : Heap) (n0 : Nat) (v : Option Value) (h : Heap) (L : List Loc) : Prop := v = none ∧ Fr n0 L ∧ Keep h0 h [a1, q] ∧ Exa Z h a1 "watchword/PasswordCallback" ∧ Fld Z h a1 "watchword/PasswordCallback" "password" "[C" .null
theorem pn_rm9n_0 : plainFor (⟨"watchword/PasswordCallback", "setPassword", "([C)V"⟩ : MethodName) = true := plainFor_of_name (by first | (simp [plainName, overriddenIn, x]; done) | decide +kernel)
theorem d9_9 : decode prog_50_method_4_code 9 = .ok (.aconst_null, 1) := by decide +kernel
theorem d9_10 : decode prog_50_method_4_code 10 = .ok (.goto 10, 3) := by decide +kernel
set_option maxRecDepth 65536 in
set_option maxHeartbeats 40000000 in
theorem rm9n_0 (l : Launch) (Z : State) (a0 : Array Value) (hw : ∀ d ∈ tables_1, d.before a0 Z = true) (ws : List Jvm.Cond) (a1 q : Addr) (k2 : ClassId)  (h0 : Heap) (n0 : Nat) (Z0 : n0 ≤ h0.size) (g1 : n0 ≤ a1) (g2 : n0 ≤ q) (hne : a1 ≠ q) (E1 : Exa Z h0 a1 "watchword/PasswordCallback") (F1 : Fld Z h0 a1 "watchword/PasswordCallback" "password" "[C" (.ref q)) (V1 : Arv Z h0 q k2 .char (0 : Int32) [] (.int (0 : Int32))) :
    own_Met l Z (⟨"watchword/PasswordCallback", "setPassword", "([C)V"⟩ : MethodName) prog_50_method_4_code 2 none ws ({ frames := 2, cells := 0, slots := 0, locals := 40 } : Room) #[(.ref a1), .null] h0 (Q_rm9n_0 Z a1 q k2 h0 n0) := by
  refine own_enter (g0 := fun m => (mkF m 0 #[.val (.ref a1), .val .null] [])) pn_rm9n_0 (fun m => by first | (simp [entryFrame, mkF, argsToLocals, Value.category, maxLocals]; done) | rfl) ?_
  intro p e s m below meth c s₁ hx hby hml hown hnm hret hlk hZ X0 e0
  have hml : c.maxLocals = 2 := hml
  have hown : s.vm.findClass "watchword/PasswordCallback" = some m.cls := hown
  have N0 := Fr.nil n0
  show own_Go p e below _ s₁ (mkF m 0 #[.val (.ref a1), .val .null] [])
  have K0 := Keep.refl h0 [a1, q]
  refine own_by (fun _ k => XS.aloadN X0.here hx rfl (hb hby d9_0) rfl rfl k) ?_
  show own_Go p e below _ s₁ (mkF m 1 #[.val (.ref a1), .val .null] [(.ref a1)])
  obtain ⟨_, T160, L160, X160, ⟨rfl, N160q, Kc, Ec, Fc⟩, st160⟩ := own_callV X0 hx hZ hown (y := (⟨"watchword/PasswordCallback", "clearPassword", "()V"⟩ : MethodName)) (C := "watchword/PasswordCallback") (hw _ (List.mem_of_getElem? (i := 54) rfl)) (hw _ (List.mem_of_getElem? (i := 55) rfl)) (hw _ (List.mem_of_getElem? (i := 57) rfl)) (hw _ (List.mem_of_getElem? (i := 56) rfl)) (hw _ (List.mem_of_getElem? (i := 28) rfl)) (hw _ (List.mem_of_getElem? (i := 58) rfl)) (by decide) (a := a1) E1 (argsL := []) (rest := []) e0 (rm10_0 l Z a0 hw [] a1 q k2  h0 n0 Z0 g1 g2 hne E1 F1 V1) (g := (mkF m 1 #[.val (.ref a1), .val .null] [(.ref a1)])) rfl (by rw [hml]; rfl) (lenOf pd_4 rfl) rfl (W := 0) (by show 2 * 0 + _ ≤ _; exact Nat.le_of_eq rfl) (hb hby d9_1) (by decide) (by decide) (by decide) (by decide)
  have N160 := Fr.app N0 N160q
  refine own_by st160 ?_
  show own_Go p e below _ T160 (mkF m 4 #[.val (.ref a1), .val .null] [])
  have Z160 : n0 ≤ T160.heap.size := Nat.le_trans Z0 Kc.1
  have K160c := K0.trans Kc (allS (Or.inl (List.mem_of_getElem? (i := 0) rfl)) (allS (Or.inl (List.mem_of_getElem? (i := 1) rfl)) all0))
  refine own_by (fun _ k => XS.aloadN X160.here hx rfl (hb hby d9_4) rfl rfl k) ?_
  show own_Go p e below _ T160 (mkF m 5 #[.val (.ref a1), .val .null] [(.ref a1)])
  refine own_by (fun _ k => XS.aloadN X160.here hx rfl (hb hby d9_5) rfl rfl k) ?_
  show own_Go p e below _ T160 (mkF m 6 #[.val (.ref a1), .val .null] [.null, (.ref a1)])
  refine own_by (fun _ k => XS.ifnonnullNo X160.here hx rfl (hb hby d9_6) rfl k) ?_
  show own_Go p e below _ T160 (mkF m 9 #[.val (.ref a1), .val .null] [(.ref a1)])
  refine own_by (fun _ k => XS.aconstNull X160.here hx rfl (hb hby d9_9) k) ?_
  show own_Go p e below _ T160 (mkF m 10 #[.val (.ref a1), .val .null] [.null, (.ref a1)])
  refine own_by (fun _ k => XS.goto X160.here hx rfl (pc0 := 10) (pc' := 20) rfl (hb hby d9_10) (by decide) (by decide) k) ?_
  show own_Go p e below _ T160 (mkF m 20 #[.val (.ref a1), .val .null] [.null, (.ref a1)])
  obtain ⟨T161, h161, X161, e161, W161, st161⟩ := putF X160 hx hZ hown (host := "") (Or.inl (hw _ (List.mem_of_getElem? (i := 42) rfl))) Via.refl rfl Fc Ec (Or.inl (hw _ (List.mem_of_getElem? (i := 43) rfl))) (hw _ (List.mem_of_getElem? (i := 27) rfl)) (ty := (.array .char)) (by decide) rfl rfl (g := (mkF m 20 #[.val (.ref a1), .val .null] [.null, (.ref a1)])) rfl rfl (hb hby d9_20)
  refine own_by st161 ?_
  have N161 := Fr.snoc X161 N160 g1
  have fw161 := Fc.same W161
  have K162 := K160c.wr W161 (Or.inl (List.mem_of_getElem? (i := 0) rfl))
  have Z161 : n0 ≤ h161.size := Nat.le_trans Z160 (Keep.of_wr W161).1
  show own_Go p e below _ T161 (mkF m 23 #[.val (.ref a1), .val .null] [])
  have f163 := (Ec.wr W161)
  exact own_ret0 X161 hx hlk hret (hb hby d9_23) (by first | exact ⟨rfl, N161, K162, f163, fw161⟩ | (rw [e161]; exact ⟨rfl, N161, K162, f163, fw161⟩)) (by decide) (by decide)
def Q_rm11_0 (Z : State) (q : Addr) (k2 : ClassId)  (h0 : Heap) (n0 : Nat) (v : Option Value) (h : Heap) (L : List Loc) : Prop := v = none ∧ Fr n0 L ∧ Keep h0 h [q]
theorem pn_rm11_0 : plainFor (⟨"watchword/PasswordCallbackGetPasswordPinLaw", "flip", "([C)V"⟩ : MethodName) = true := plainFor_of_name (by first | (simp [plainName, overriddenIn, x]; done) | decide +kernel)
theorem d11_0 : decode method_3_code 0 = .ok (.aload_n 0, 1) := by decide +kernel
theorem d11_1 : decode method_3_code 1 = .ok (.arraylength, 1) := by decide +kernel
theorem d11_2 : decode method_3_code 2 = .ok (.ifCond .le 12, 3) := by decide +kernel
theorem d11_14 : decode method_3_code 14 = .ok (.aload_n 0, 1) := by decide +kernel
theorem d11_15 : decode method_3_code 15 = .ok (.arraylength, 1) := by decide +kernel
theorem d11_16 : decode method_3_code 16 = .ok (.iconst 1, 1) := by decide +kernel
theorem d11_17 : decode method_3_code 17 = .ok (.if_icmp .le 12, 3) := by decide +kernel
theorem d11_29 : decode method_3_code 29 = .ok (.aload_n 0, 1) := by decide +kernel
theorem d11_30 : decode method_3_code 30 = .ok (.arraylength, 1) := by decide +kernel
theorem d11_31 : decode method_3_code 31 = .ok (.iconst 2, 1) := by decide +kernel
theorem d11_32 : decode method_3_code 32 = .ok (.if_icmp .le 12, 3) := by decide +kernel
theorem d11_44 : decode method_3_code 44 = .ok (.return_, 1) := by decide +kernel
set_option maxRecDepth 65536 in
set_option maxHeartbeats 40000000 in
theorem rm11_0 (l : Launch) (Z : State) (a0 : Array Value) (hw : ∀ d ∈ tables_1, d.before a0 Z = true) (ws : List Jvm.Cond) (q : Addr) (k2 : ClassId)  (h0 : Heap) (n0 : Nat) (Z0 : n0 ≤ h0.size) (g1 : n0 ≤ q) (V1 : Arv Z h0 q k2 .char (0 : Int32) [] (.int (0 : Int32))) :
    own_Met l Z (⟨"watchword/PasswordCallbackGetPasswordPinLaw", "flip", "([C)V"⟩ : MethodName) method_3_code 1 none ws ({ frames := 0, cells := 0, slots := 0, locals := 0 } : Room) #[(.ref q)] h0 (Q_rm11_0 Z q k2 h0 n0) := by
  refine own_enter (g0 := fun m => (mkF m 0 #[.val (.ref q)] [])) pn_rm11_0 (fun m => by first | (simp [entryFrame, mkF, argsToLocals, Value.category, maxLocals]; done) | rfl) ?_
  intro p e s m below meth c s₁ hx hby hml hown hnm hret hlk hZ X0 e0
  have hml : c.maxLocals = 1 := hml
  have hown : s.vm.findClass "watchword/PasswordCallbackGetPasswordPinLaw" = some m.cls := hown
  have N0 := Fr.nil n0
  show own_Go p e below _ s₁ (mkF m 0 #[.val (.ref q)] [])
  have K0 := Keep.refl h0 [q]
  refine own_by (fun _ k => XS.aloadN X0.here hx rfl (hb hby d11_0) rfl rfl k) ?_
  show own_Go p e below _ s₁ (mkF m 1 #[.val (.ref q)] [(.ref q)])
  obtain ⟨cl164, Ar164, len164⟩ := own_len V1
  refine own_by (T' := s₁) (g' := (mkF m 2 #[.val (.ref q)] [(.int (0 : Int32))])) (fun _ k => X0.arraylength hx (by rw [e0]; exact Ar164.1) (State.isArrayOf_alike hZ.alike Ar164.2.1) (g := (mkF m 1 #[.val (.ref q)] [(.ref q)])) rfl rfl (hb hby d11_1) _ (by rw [len164]; exact k)) ?_
  refine own_by (fun _ k => XS.ifYes X0.here hx rfl (pc0 := 2) (pc' := 14) rfl (hb hby d11_2) rfl ((if0 _ _).trans (flt (by decide : ¬ ((0 : Int32) < (0 : Int32)))).2.2.2) (by decide) (by decide) k) ?_
  show own_Go p e below _ s₁ (mkF m 14 #[.val (.ref q)] [])
  refine own_by (fun _ k => XS.aloadN X0.here hx rfl (hb hby d11_14) rfl rfl k) ?_
  show own_Go p e below _ s₁ (mkF m 15 #[.val (.ref q)] [(.ref q)])
  obtain ⟨cl165, Ar165, len165⟩ := own_len V1
  refine own_by (T' := s₁) (g' := (mkF m 16 #[.val (.ref q)] [(.int (0 : Int32))])) (fun _ k => X0.arraylength hx (by rw [e0]; exact Ar165.1) (State.isArrayOf_alike hZ.alike Ar165.2.1) (g := (mkF m 15 #[.val (.ref q)] [(.ref q)])) rfl rfl (hb hby d11_15) _ (by rw [len165]; exact k)) ?_
  refine own_by (fun _ k => XS.iconst X0.here hx rfl (hb hby d11_16) k) ?_
  show own_Go p e below _ s₁ (mkF m 17 #[.val (.ref q)] [(.int (1 : Int32)), (.int (0 : Int32))])
  refine own_by (fun _ k => XS.icmpYes X0.here hx rfl (pc0 := 17) (pc' := 29) rfl (hb hby d11_17) rfl (flt (by decide : ¬ ((1 : Int32) < (0 : Int32)))).2.2.2 (by decide) (by decide) k) ?_
  show own_Go p e below _ s₁ (mkF m 29 #[.val (.ref q)] [])
  refine own_by (fun _ k => XS.aloadN X0.here hx rfl (hb hby d11_29) rfl rfl k) ?_
  show own_Go p e below _ s₁ (mkF m 30 #[.val (.ref q)] [(.ref q)])
  obtain ⟨cl166, Ar166, len166⟩ := own_len V1
  refine own_by (T' := s₁) (g' := (mkF m 31 #[.val (.ref q)] [(.int (0 : Int32))])) (fun _ k => X0.arraylength hx (by rw [e0]; exact Ar166.1) (State.isArrayOf_alike hZ.alike Ar166.2.1) (g := (mkF m 30 #[.val (.ref q)] [(.ref q)])) rfl rfl (hb hby d11_30) _ (by rw [len166]; exact k)) ?_
  refine own_by (fun _ k => XS.iconst X0.here hx rfl (hb hby d11_31) k) ?_
  show own_Go p e below _ s₁ (mkF m 32 #[.val (.ref q)] [(.int (2 : Int32)), (.int (0 : Int32))])
  refine own_by (fun _ k => XS.icmpYes X0.here hx rfl (pc0 := 32) (pc' := 44) rfl (hb hby d11_32) rfl (flt (by decide : ¬ ((2 : Int32) < (0 : Int32)))).2.2.2 (by decide) (by decide) k) ?_
  show own_Go p e below _ s₁ (mkF m 44 #[.val (.ref q)] [])
  exact own_ret0 X0 hx hlk hret (hb hby d11_44) (by first | exact ⟨rfl, N0, K0⟩ | (rw [e0]; exact ⟨rfl, N0, K0⟩)) (by decide) (by decide)
def Q_rm12_0 (Z : State) (q : Addr) (k2 : ClassId) (x0 x1 x2 : Int32) (h0 : Heap) (n0 : Nat) (v : Option Value) (h : Heap) (L : List Loc) : Prop := v = some (.int 1) ∧ Fr n0 L ∧ h = h0
theorem pn_rm12_0 : plainFor (⟨"watchword/PasswordCallbackGetPasswordPinLaw", "same", "([CICCC)Z"⟩ : MethodName) = true := plainFor_of_name (by first | (simp [plainName, overriddenIn, x]; done) | decide +kernel)
theorem d12_0 : decode method_4_code 0 = .ok (.aload_n 0, 1) := by decide +kernel
theorem d12_1 : decode method_4_code 1 = .ok (.arraylength, 1) := by decide +kernel
theorem d12_2 : decode method_4_code 2 = .ok (.iload_n 1, 1) := by decide +kernel
theorem d12_3 : decode method_4_code 3 = .ok (.if_icmp .eq 5, 3) := by decide +kernel
theorem d12_8 : decode method_4_code 8 = .ok (.iload_n 1, 1) := by decide +kernel
theorem d12_9 : decode method_4_code 9 = .ok (.ifCond .le 12, 3) := by decide +kernel
theorem d12_21 : decode method_4_code 21 = .ok (.iload_n 1, 1) := by decide +kernel
theorem d12_22 : decode method_4_code 22 = .ok (.iconst 1, 1) := by decide +kernel
theorem d12_23 : decode method_4_code 23 = .ok (.if_icmp .le 12, 3) := by decide +kernel
theorem d12_35 : decode method_4_code 35 = .ok (.iload_n 1, 1) := by decide +kernel
theorem d12_36 : decode method_4_code 36 = .ok (.iconst 2, 1) := by decide +kernel
theorem d12_37 : decode method_4_code 37 = .ok (.if_icmp .le 13, 3) := by decide +kernel
theorem d12_50 : decode method_4_code 50 = .ok (.iconst 1, 1) := by decide +kernel
theorem d12_51 : decode method_4_code 51 = .ok (.ireturn, 1) := by decide +kernel
set_option maxRecDepth 65536 in
set_option maxHeartbeats 40000000 in
theorem rm12_0 (l : Launch) (Z : State) (a0 : Array Value) (hw : ∀ d ∈ tables_1, d.before a0 Z = true) (ws : List Jvm.Cond) (q : Addr) (k2 : ClassId) (x0 x1 x2 : Int32) (h0 : Heap) (n0 : Nat) (Z0 : n0 ≤ h0.size) (V1 : Arv Z h0 q k2 .char (0 : Int32) [] (.int (0 : Int32))) :
    own_Met l Z (⟨"watchword/PasswordCallbackGetPasswordPinLaw", "same", "([CICCC)Z"⟩ : MethodName) method_4_code 5 (some .boolean) ws ({ frames := 0, cells := 0, slots := 0, locals := 0 } : Room) #[(.ref q), (.int (0 : Int32)), (.int x0), (.int x1), (.int x2)] h0 (Q_rm12_0 Z q k2 x0 x1 x2 h0 n0) := by
  refine own_enter (g0 := fun m => (mkF m 0 #[.val (.ref q), .val (.int (0 : Int32)), .val (.int x0), .val (.int x1), .val (.int x2)] [])) pn_rm12_0 (fun m => by first | (simp [entryFrame, mkF, argsToLocals, Value.category, maxLocals]; done) | rfl) ?_
  intro p e s m below meth c s₁ hx hby hml hown hnm hret hlk hZ X0 e0
  have hml : c.maxLocals = 5 := hml
  have hown : s.vm.findClass "watchword/PasswordCallbackGetPasswordPinLaw" = some m.cls := hown
  have N0 := Fr.nil n0
  show own_Go p e below _ s₁ (mkF m 0 #[.val (.ref q), .val (.int (0 : Int32)), .val (.int x0), .val (.int x1), .val (.int x2)] [])
  refine own_by (fun _ k => XS.aloadN X0.here hx rfl (hb hby d12_0) rfl rfl k) ?_
  show own_Go p e below _ s₁ (mkF m 1 #[.val (.ref q), .val (.int (0 : Int32)), .val (.int x0), .val (.int x1), .val (.int x2)] [(.ref q)])
  obtain ⟨cl167, Ar167, len167⟩ := own_len V1
  refine own_by (T' := s₁) (g' := (mkF m 2 #[.val (.ref q), .val (.int (0 : Int32)), .val (.int x0), .val (.int x1), .val (.int x2)] [(.int (0 : Int32))])) (fun _ k => X0.arraylength hx (by rw [e0]; exact Ar167.1) (State.isArrayOf_alike hZ.alike Ar167.2.1) (g := (mkF m 1 #[.val (.ref q), .val (.int (0 : Int32)), .val (.int x0), .val (.int x1), .val (.int x2)] [(.ref q)])) rfl rfl (hb hby d12_1) _ (by rw [len167]; exact k)) ?_
  refine own_by (fun _ k => XS.iloadN X0.here hx rfl (hb hby d12_2) rfl k) ?_
  show own_Go p e below _ s₁ (mkF m 3 #[.val (.ref q), .val (.int (0 : Int32)), .val (.int x0), .val (.int x1), .val (.int x2)] [(.int (0 : Int32)), (.int (0 : Int32))])
  refine own_by (fun _ k => XS.icmpYes X0.here hx rfl (pc0 := 3) (pc' := 8) rfl (hb hby d12_3) rfl (teq (rfl : (0 : Int32) = (0 : Int32))).1 (by decide) (by decide) k) ?_
  show own_Go p e below _ s₁ (mkF m 8 #[.val (.ref q), .val (.int (0 : Int32)), .val (.int x0), .val (.int x1), .val (.int x2)] [])
  refine own_by (fun _ k => XS.iloadN X0.here hx rfl (hb hby d12_8) rfl k) ?_
  show own_Go p e below _ s₁ (mkF m 9 #[.val (.ref q), .val (.int (0 : Int32)), .val (.int x0), .val (.int x1), .val (.int x2)] [(.int (0 : Int32))])
  refine own_by (fun _ k => XS.ifYes X0.here hx rfl (pc0 := 9) (pc' := 21) rfl (hb hby d12_9) rfl ((if0 _ _).trans (flt (by decide : ¬ ((0 : Int32) < (0 : Int32)))).2.2.2) (by decide) (by decide) k) ?_
  show own_Go p e below _ s₁ (mkF m 21 #[.val (.ref q), .val (.int (0 : Int32)), .val (.int x0), .val (.int x1), .val (.int x2)] [])
  refine own_by (fun _ k => XS.iloadN X0.here hx rfl (hb hby d12_21) rfl k) ?_
  show own_Go p e below _ s₁ (mkF m 22 #[.val (.ref q), .val (.int (0 : Int32)), .val (.int x0), .val (.int x1), .val (.int x2)] [(.int (0 : Int32))])
  refine own_by (fun _ k => XS.iconst X0.here hx rfl (hb hby d12_22) k) ?_
  show own_Go p e below _ s₁ (mkF m 23 #[.val (.ref q), .val (.int (0 : Int32)), .val (.int x0), .val (.int x1), .val (.int x2)] [(.int (1 : Int32)), (.int (0 : Int32))])
  refine own_by (fun _ k => XS.icmpYes X0.here hx rfl (pc0 := 23) (pc' := 35) rfl (hb hby d12_23) rfl (flt (by decide : ¬ ((1 : Int32) < (0 : Int32)))).2.2.2 (by decide) (by decide) k) ?_
  show own_Go p e below _ s₁ (mkF m 35 #[.val (.ref q), .val (.int (0 : Int32)), .val (.int x0), .val (.int x1), .val (.int x2)] [])
  refine own_by (fun _ k => XS.iloadN X0.here hx rfl (hb hby d12_35) rfl k) ?_
  show own_Go p e below _ s₁ (mkF m 36 #[.val (.ref q), .val (.int (0 : Int32)), .val (.int x0), .val (.int x1), .val (.int x2)] [(.int (0 : Int32))])
  refine own_by (fun _ k => XS.iconst X0.here hx rfl (hb hby d12_36) k) ?_
  show own_Go p e below _ s₁ (mkF m 37 #[.val (.ref q), .val (.int (0 : Int32)), .val (.int x0), .val (.int x1), .val (.int x2)] [(.int (2 : Int32)), (.int (0 : Int32))])
  refine own_by (fun _ k => XS.icmpYes X0.here hx rfl (pc0 := 37) (pc' := 50) rfl (hb hby d12_37) rfl (flt (by decide : ¬ ((2 : Int32) < (0 : Int32)))).2.2.2 (by decide) (by decide) k) ?_
  show own_Go p e below _ s₁ (mkF m 50 #[.val (.ref q), .val (.int (0 : Int32)), .val (.int x0), .val (.int x1), .val (.int x2)] [])
  refine own_by (fun _ k => XS.iconst X0.here hx rfl (hb hby d12_50) k) ?_
  show own_Go p e below _ s₁ (mkF m 51 #[.val (.ref q), .val (.int (0 : Int32)), .val (.int x0), .val (.int x1), .val (.int x2)] [(.int (1 : Int32))])
  exact own_retN X0 hx hlk hret (by simp) rfl (hb hby d12_51) (by first | exact ⟨rfl, N0, rfl⟩ | (rw [e0]; exact ⟨rfl, N0, rfl⟩)) (by decide) (by decide)
def Q_rm7_1 (Z : State) (a1 q : Addr) (k2 : ClassId) (x0 : Int32) (h0 : Heap) (n0 : Nat) (v : Option Value) (h : Heap) (L : List Loc) : Prop := ∃ b, v = some (.ref b) ∧ Fr n0 L ∧ Keep h0 h [] ∧ h0.size ≤ b ∧ Exa Z h b "[C" ∧ Arv Z h b k2 .char (1 : Int32) [(.int x0)] (.int (0 : Int32))
theorem pn_rm7_1 : plainFor (⟨"watchword/PasswordCallback", "getPassword", "()[C"⟩ : MethodName) = true := plainFor_of_name (by first | (simp [plainName, overriddenIn, x]; done) | decide +kernel)
set_option maxRecDepth 65536 in
set_option maxHeartbeats 40000000 in
theorem rm7_1 (l : Launch) (Z : State) (a0 : Array Value) (hw : ∀ d ∈ tables_1, d.before a0 Z = true) (ws : List Jvm.Cond) (a1 q : Addr) (k2 : ClassId) (x0 : Int32) (h0 : Heap) (n0 : Nat) (Z0 : n0 ≤ h0.size) (F1 : Fld Z h0 a1 "watchword/PasswordCallback" "password" "[C" (.ref q)) (V1 : Arv Z h0 q k2 .char (1 : Int32) [(.int x0)] (.int (0 : Int32))) (E2 : Exa Z h0 q "[C") :
    own_Met l Z (⟨"watchword/PasswordCallback", "getPassword", "()[C"⟩ : MethodName) prog_50_method_5_code 1 (some (.array .char)) ws ({ frames := 1, cells := 1, slots := 1, locals := 14 } : Room) #[(.ref a1)] h0 (Q_rm7_1 Z a1 q k2 x0 h0 n0) := by
  refine own_enter (g0 := fun m => (mkF m 0 #[.val (.ref a1)] [])) pn_rm7_1 (fun m => by first | (simp [entryFrame, mkF, argsToLocals, Value.category, maxLocals]; done) | rfl) ?_
  intro p e s m below meth c s₁ hx hby hml hown hnm hret hlk hZ X0 e0
  have hml : c.maxLocals = 1 := hml
  have hown : s.vm.findClass "watchword/PasswordCallback" = some m.cls := hown
  have N0 := Fr.nil n0
  show own_Go p e below _ s₁ (mkF m 0 #[.val (.ref a1)] [])
  have K0 := Keep.refl h0 []
  refine own_by (fun _ k => XS.aloadN X0.here hx rfl (hb hby d7_0) rfl rfl k) ?_
  show own_Go p e below _ s₁ (mkF m 1 #[.val (.ref a1)] [(.ref a1)])
  obtain ⟨T168, X168, e168, st168⟩ := getF X0 hx hZ hown (host := "") (Or.inl (hw _ (List.mem_of_getElem? (i := 42) rfl))) Via.refl e0 F1 (g := (mkF m 1 #[.val (.ref a1)] [(.ref a1)])) rfl rfl (hb hby d7_1)
  refine own_by st168 ?_
  show own_Go p e below _ T168 (mkF m 4 #[.val (.ref a1)] [(.ref q)])
  refine own_by (fun _ k => XS.ifnonnullYes X168.here hx rfl (pc0 := 4) (pc' := 11) rfl (hb hby d7_4) rfl (by decide) (by decide) k) ?_
  show own_Go p e below _ T168 (mkF m 11 #[.val (.ref a1)] [])
  refine own_by (fun _ k => XS.aloadN X168.here hx rfl (hb hby d7_11) rfl rfl k) ?_
  show own_Go p e below _ T168 (mkF m 12 #[.val (.ref a1)] [(.ref a1)])
  obtain ⟨T169, X169, e169, st169⟩ := getF X168 hx hZ hown (host := "") (Or.inl (hw _ (List.mem_of_getElem? (i := 42) rfl))) Via.refl e168 F1 (g := (mkF m 12 #[.val (.ref a1)] [(.ref a1)])) rfl rfl (hb hby d7_12)
  refine own_by st169 ?_
  show own_Go p e below _ T169 (mkF m 15 #[.val (.ref a1)] [(.ref q)])
  obtain ⟨T170, h170, X170, e170, E170, A170, C170, st170⟩ := cloneH X169 hx hZ hown (hw _ (List.mem_of_getElem? (i := 59) rfl)) (hw _ (List.mem_of_getElem? (i := 60) rfl)) (hw _ (List.mem_of_getElem? (i := 64) rfl)) (hw _ (List.mem_of_getElem? (i := 62) rfl)) (hw _ (List.mem_of_getElem? (i := 63) rfl)) (hw _ (List.mem_of_getElem? (i := 65) rfl)) e169 (hs := []) V1 E2 (g := (mkF m 15 #[.val (.ref a1)] [(.ref q)])) rfl (by rw [hml]; rfl) rfl (hb hby d7_15) (by decide) (W := 0) (cap := 1) (by show 2 * 0 + _ ≤ _; exact Nat.le_of_eq rfl) (by decide) (by decide) (by decide) (by decide)
  obtain ⟨b170, g170⟩ : ∃ z, z = h0.size := ⟨_, rfl⟩
  rw [← g170] at A170 C170 st170
  have ne_a1_b170 : a1 ≠ b170 := Nat.ne_of_lt (Nat.lt_of_lt_of_le F1.lt (Nat.le_of_eq g170.symm))
  have ne_q_b170 : q ≠ b170 := Nat.ne_of_lt (Nat.lt_of_lt_of_le V1.lt (Nat.le_of_eq g170.symm))
  have og_b170 : n0 ≤ b170 := Nat.le_trans Z0 (Nat.le_of_eq g170.symm)
  have sz_b170 : h0.size ≤ b170 := Nat.le_trans K0.1 (Nat.le_of_eq g170.symm)
  have Z170 : n0 ≤ h170.size := Nat.le_trans Z0 E170.1
  have K171 := K0.ext E170
  have V170 : Arv Z h170 b170 k2 .char (1 : Int32) [(.int x0)] (.int (0 : Int32)) := A170
  refine own_by st170 ?_
  show own_Go p e below _ T170 (mkF m 18 #[.val (.ref a1)] [(.ref b170)])
  obtain ⟨T172, X172, e172, st172⟩ := castY X170 hx hZ hown (hw _ (List.mem_of_getElem? (i := 66) rfl)) e170 (Ins.self C170) (g := (mkF m 18 #[.val (.ref a1)] [(.ref b170)])) rfl rfl (hb hby d7_18)
  refine own_by st172 ?_
  show own_Go p e below _ T172 (mkF m 21 #[.val (.ref a1)] [(.ref b170)])
  exact own_retA X172 hx hlk hret rfl rfl (hb hby d7_21) (by first | exact ⟨b170, rfl, N0, K171, sz_b170, C170, V170⟩ | (rw [e172]; exact ⟨b170, rfl, N0, K171, sz_b170, C170, V170⟩)) (by decide) (by decide)
def Q_rm8_1 (Z : State) (x0 x1 x2 : Int32) (h0 : Heap) (n0 : Nat) (v : Option Value) (h : Heap) (L : List Loc) : Prop := ∃ b k2, v = some (.ref b) ∧ Fr n0 L ∧ Keep h0 h [] ∧ h0.size ≤ b ∧ Exa Z h b "[C" ∧ Arv Z h b k2 .char (1 : Int32) [(.int x0)] (.int (0 : Int32))
theorem pn_rm8_1 : plainFor (⟨"watchword/PasswordCallbackGetPasswordPinLaw", "make", "(ICCC)[C"⟩ : MethodName) = true := plainFor_of_name (by first | (simp [plainName, overriddenIn, x]; done) | decide +kernel)
theorem d8_8 : decode method_2_code 8 = .ok (.iload_n 0, 1) := by decide +kernel
theorem d8_9 : decode method_2_code 9 = .ok (.iconst 1, 1) := by decide +kernel
theorem d8_10 : decode method_2_code 10 = .ok (.if_icmp .ne 16, 3) := by decide +kernel
theorem d8_13 : decode method_2_code 13 = .ok (.iconst 1, 1) := by decide +kernel
theorem d8_14 : decode method_2_code 14 = .ok (.newarray .char, 2) := by decide +kernel
theorem d8_16 : decode method_2_code 16 = .ok (.astore 4, 2) := by decide +kernel
theorem d8_18 : decode method_2_code 18 = .ok (.aload 4, 2) := by decide +kernel
theorem d8_20 : decode method_2_code 20 = .ok (.iconst 0, 1) := by decide +kernel
theorem d8_21 : decode method_2_code 21 = .ok (.iload_n 1, 1) := by decide +kernel
theorem d8_22 : decode method_2_code 22 = .ok (.castore, 1) := by decide +kernel
theorem d8_23 : decode method_2_code 23 = .ok (.aload 4, 2) := by decide +kernel
theorem d8_25 : decode method_2_code 25 = .ok (.areturn, 1) := by decide +kernel
set_option maxRecDepth 65536 in
set_option maxHeartbeats 40000000 in
theorem rm8_1 (l : Launch) (Z : State) (a0 : Array Value) (hw : ∀ d ∈ tables_1, d.before a0 Z = true) (ws : List Jvm.Cond) (x0 x1 x2 : Int32) (h0 : Heap) (n0 : Nat) (Z0 : n0 ≤ h0.size) (hn0 : nar .char x0 = x0) (hn1 : nar .char x1 = x1) (hn2 : nar .char x2 = x2) :
    own_Met l Z (⟨"watchword/PasswordCallbackGetPasswordPinLaw", "make", "(ICCC)[C"⟩ : MethodName) method_2_code 5 (some (.array .char)) ws ({ frames := 0, cells := 1, slots := 1, locals := 0 } : Room) #[(.int (1 : Int32)), (.int x0), (.int x1), (.int x2)] h0 (Q_rm8_1 Z x0 x1 x2 h0 n0) := by
  refine own_enter (g0 := fun m => (mkF m 0 #[.val (.int (1 : Int32)), .val (.int x0), .val (.int x1), .val (.int x2), .unset] [])) pn_rm8_1 (fun m => by first | (simp [entryFrame, mkF, argsToLocals, Value.category, maxLocals]; done) | rfl) ?_
  intro p e s m below meth c s₁ hx hby hml hown hnm hret hlk hZ X0 e0
  have hml : c.maxLocals = 5 := hml
  have hown : s.vm.findClass "watchword/PasswordCallbackGetPasswordPinLaw" = some m.cls := hown
  have N0 := Fr.nil n0
  show own_Go p e below _ s₁ (mkF m 0 #[.val (.int (1 : Int32)), .val (.int x0), .val (.int x1), .val (.int x2), .unset] [])
  have K0 := Keep.refl h0 []
  refine own_by (fun _ k => XS.iloadN X0.here hx rfl (hb hby d8_0) rfl k) ?_
  show own_Go p e below _ s₁ (mkF m 1 #[.val (.int (1 : Int32)), .val (.int x0), .val (.int x1), .val (.int x2), .unset] [(.int (1 : Int32))])
  refine own_by (fun _ k => XS.ifYes X0.here hx rfl (pc0 := 1) (pc' := 8) rfl (hb hby d8_1) rfl ((if0 _ _).trans (feq (by decide : ¬ ((1 : Int32) = (0 : Int32)))).2) (by decide) (by decide) k) ?_
  show own_Go p e below _ s₁ (mkF m 8 #[.val (.int (1 : Int32)), .val (.int x0), .val (.int x1), .val (.int x2), .unset] [])
  refine own_by (fun _ k => XS.iloadN X0.here hx rfl (hb hby d8_8) rfl k) ?_
  show own_Go p e below _ s₁ (mkF m 9 #[.val (.int (1 : Int32)), .val (.int x0), .val (.int x1), .val (.int x2), .unset] [(.int (1 : Int32))])
  refine own_by (fun _ k => XS.iconst X0.here hx rfl (hb hby d8_9) k) ?_
  show own_Go p e below _ s₁ (mkF m 10 #[.val (.int (1 : Int32)), .val (.int x0), .val (.int x1), .val (.int x2), .unset] [(.int (1 : Int32)), (.int (1 : Int32))])
  refine own_by (fun _ k => XS.icmpNo X0.here hx rfl (hb hby d8_10) rfl (teq (by decide : (1 : Int32) = (1 : Int32))).2 k) ?_
  show own_Go p e below _ s₁ (mkF m 13 #[.val (.int (1 : Int32)), .val (.int x0), .val (.int x1), .val (.int x2), .unset] [])
  refine own_by (fun _ k => XS.iconst X0.here hx rfl (hb hby d8_13) k) ?_
  show own_Go p e below _ s₁ (mkF m 14 #[.val (.int (1 : Int32)), .val (.int x0), .val (.int x1), .val (.int x2), .unset] [(.int (1 : Int32))])
  obtain ⟨T173, h173, k173, X173, e173, E173, A173, C173, st173⟩ := newPE X0 hx hZ (hw _ (List.mem_of_getElem? (i := 48) rfl)) e0 (g := (mkF m 14 #[.val (.int (1 : Int32)), .val (.int x0), .val (.int x1), .val (.int x2), .unset] [(.int (1 : Int32))])) rfl (hb hby d8_14) rfl (by decide) (cap := 1) (by decide) (by decide) (by decide) (by decide) (ad := "[C") (by decide)
  obtain ⟨b173, g173⟩ : ∃ z, z = h0.size := ⟨_, rfl⟩
  rw [← g173] at A173 C173 st173
  have og_b173 : n0 ≤ b173 := Nat.le_trans Z0 (Nat.le_of_eq g173.symm)
  have sz_b173 : h0.size ≤ b173 := Nat.le_trans K0.1 (Nat.le_of_eq g173.symm)
  have Z173 : n0 ≤ h173.size := Nat.le_trans Z0 E173.1
  have K174 := K0.ext E173
  have V173 : Arv Z h173 b173 k173 .char (1 : Int32) [(.int (0 : Int32))] (.int (0 : Int32)) := (Arv.new A173 (by decide)).pad (pad_rep [] (.int (0 : Int32)) 1)
  refine own_by st173 ?_
  show own_Go p e below _ T173 (mkF m 16 #[.val (.int (1 : Int32)), .val (.int x0), .val (.int x1), .val (.int x2), .unset] [(.ref b173)])
  refine own_by (fun _ k => XS.astore X173.here hx rfl (hb hby d8_16) rfl rfl (l' := #[.val (.int (1 : Int32)), .val (.int x0), .val (.int x1), .val (.int x2), .val (.ref b173)]) rfl k) ?_
  show own_Go p e below _ T173 (mkF m 18 #[.val (.int (1 : Int32)), .val (.int x0), .val (.int x1), .val (.int x2), .val (.ref b173)] [])
  refine own_by (fun _ k => XS.aload X173.here hx rfl (hb hby d8_18) rfl rfl k) ?_
  show own_Go p e below _ T173 (mkF m 20 #[.val (.int (1 : Int32)), .val (.int x0), .val (.int x1), .val (.int x2), .val (.ref b173)] [(.ref b173)])
  refine own_by (fun _ k => XS.iconst X173.here hx rfl (hb hby d8_20) k) ?_
  show own_Go p e below _ T173 (mkF m 21 #[.val (.int (1 : Int32)), .val (.int x0), .val (.int x1), .val (.int x2), .val (.ref b173)] [(.int (0 : Int32)), (.ref b173)])
  refine own_by (fun _ k => XS.iloadN X173.here hx rfl (hb hby d8_21) rfl k) ?_
  show own_Go p e below _ T173 (mkF m 22 #[.val (.int (1 : Int32)), .val (.int x0), .val (.int x1), .val (.int x2), .val (.ref b173)] [(.int x0), (.int (0 : Int32)), (.ref b173)])
  obtain ⟨cl175, Ar175, cq175, hin175, hat175, set175⟩ := own_arv V173 (j := (0 : Int32)) ⟨by decide, by decide⟩
  obtain ⟨T176, h176, X176, e176, W176, st176⟩ := stC X173 hx hZ e173 Ar175 (j := (0 : Int32)) hin175 (g := (mkF m 22 #[.val (.int (1 : Int32)), .val (.int x0), .val (.int x1), .val (.int x2), .val (.ref b173)] [(.int x0), (.int (0 : Int32)), (.ref b173)])) rfl rfl (hb hby d8_22)
  have wq176 : nar .char x0 = x0 := hn0
  rw [wq176] at W176
  have wf176 : fits .char (.int x0) = true := wq176 ▸ (fits_nar_char _)
  have V176 : Arv Z h176 b173 k173 .char (1 : Int32) [(.int x0)] (.int (0 : Int32)) := set175 wf176 W176 0 rfl (Nat.le_of_ble_eq_true rfl)
  have N176 := Fr.snoc X176 N0 og_b173
  have K177 := K174.wr W176 (Or.inr sz_b173)
  have Z176 : n0 ≤ h176.size := Nat.le_trans Z173 (Keep.of_wr W176).1
  refine own_by st176 ?_
  show own_Go p e below _ T176 (mkF m 23 #[.val (.int (1 : Int32)), .val (.int x0), .val (.int x1), .val (.int x2), .val (.ref b173)] [])
  refine own_by (fun _ k => XS.aload X176.here hx rfl (hb hby d8_23) rfl rfl k) ?_
  show own_Go p e below _ T176 (mkF m 25 #[.val (.int (1 : Int32)), .val (.int x0), .val (.int x1), .val (.int x2), .val (.ref b173)] [(.ref b173)])
  have f178 := (C173.wr W176)
  exact own_retA X176 hx hlk hret rfl rfl (hb hby d8_25) (by first | exact ⟨b173, k173, rfl, N176, K177, sz_b173, f178, V176⟩ | (rw [e176]; exact ⟨b173, k173, rfl, N176, K177, sz_b173, f178, V176⟩)) (by decide) (by decide)
def Q_rm13_1 (Z : State) (q : Addr) (k2 : ClassId) (x0 : Int32) (h0 : Heap) (n0 : Nat) (v : Option Value) (h : Heap) (L : List Loc) : Prop := v = none ∧ Fr n0 L ∧ Keep h0 h [q]
theorem pn_rm13_1 : plainFor (⟨"java/util/Arrays", "fill", "([CC)V"⟩ : MethodName) = true := plainFor_of_name (by first | (simp [plainName, overriddenIn, x]; done) | decide +kernel)
theorem d13_10 : decode jdk_65_method_107_code 10 = .ok (.aload_n 0, 1) := by decide +kernel
theorem d13_11 : decode jdk_65_method_107_code 11 = .ok (.iload_n 2, 1) := by decide +kernel
theorem d13_12 : decode jdk_65_method_107_code 12 = .ok (.iload_n 1, 1) := by decide +kernel
theorem d13_13 : decode jdk_65_method_107_code 13 = .ok (.castore, 1) := by decide +kernel
theorem d13_14 : decode jdk_65_method_107_code 14 = .ok (.iinc 2 1, 3) := by decide +kernel
theorem d13_17 : decode jdk_65_method_107_code 17 = .ok (.goto (-12), 3) := by decide +kernel
set_option maxRecDepth 65536 in
set_option maxHeartbeats 40000000 in
theorem rm13_1 (l : Launch) (Z : State) (a0 : Array Value) (hw : ∀ d ∈ tables_1, d.before a0 Z = true) (ws : List Jvm.Cond) (q : Addr) (k2 : ClassId) (x0 : Int32) (h0 : Heap) (n0 : Nat) (Z0 : n0 ≤ h0.size) (g1 : n0 ≤ q) (V1 : Arv Z h0 q k2 .char (1 : Int32) [(.int x0)] (.int (0 : Int32))) :
    own_Met l Z (⟨"java/util/Arrays", "fill", "([CC)V"⟩ : MethodName) jdk_65_method_107_code 4 none ws ({ frames := 0, cells := 0, slots := 0, locals := 0 } : Room) #[(.ref q), (.int (0 : Int32))] h0 (Q_rm13_1 Z q k2 x0 h0 n0) := by
  refine own_enter (g0 := fun m => (mkF m 0 #[.val (.ref q), .val (.int (0 : Int32)), .unset, .unset] [])) pn_rm13_1 (fun m => by first | (simp [entryFrame, mkF, argsToLocals, Value.category, maxLocals]; done) | rfl) ?_
  intro p e s m below meth c s₁ hx hby hml hown hnm hret hlk hZ X0 e0
  have hml : c.maxLocals = 4 := hml
  have hown : s.vm.findClass "java/util/Arrays" = some m.cls := hown
  have N0 := Fr.nil n0
  show own_Go p e below _ s₁ (mkF m 0 #[.val (.ref q), .val (.int (0 : Int32)), .unset, .unset] [])
  have K0 := Keep.refl h0 [q]
  refine own_by (fun _ k => XS.iconst X0.here hx rfl (hb hby d13_0) k) ?_
  show own_Go p e below _ s₁ (mkF m 1 #[.val (.ref q), .val (.int (0 : Int32)), .unset, .unset] [(.int (0 : Int32))])
  refine own_by (fun _ k => XS.istoreN X0.here hx rfl (hb hby d13_1) rfl (l' := #[.val (.ref q), .val (.int (0 : Int32)), .val (.int (0 : Int32)), .unset]) rfl k) ?_
  show own_Go p e below _ s₁ (mkF m 2 #[.val (.ref q), .val (.int (0 : Int32)), .val (.int (0 : Int32)), .unset] [])
  refine own_by (fun _ k => XS.aloadN X0.here hx rfl (hb hby d13_2) rfl rfl k) ?_
  show own_Go p e below _ s₁ (mkF m 3 #[.val (.ref q), .val (.int (0 : Int32)), .val (.int (0 : Int32)), .unset] [(.ref q)])
  obtain ⟨cl179, Ar179, len179⟩ := own_len V1
  refine own_by (T' := s₁) (g' := (mkF m 4 #[.val (.ref q), .val (.int (0 : Int32)), .val (.int (0 : Int32)), .unset] [(.int (1 : Int32))])) (fun _ k => X0.arraylength hx (by rw [e0]; exact Ar179.1) (State.isArrayOf_alike hZ.alike Ar179.2.1) (g := (mkF m 3 #[.val (.ref q), .val (.int (0 : Int32)), .val (.int (0 : Int32)), .unset] [(.ref q)])) rfl rfl (hb hby d13_3) _ (by rw [len179]; exact k)) ?_
  refine own_by (fun _ k => XS.istoreN X0.here hx rfl (hb hby d13_4) rfl (l' := #[.val (.ref q), .val (.int (0 : Int32)), .val (.int (0 : Int32)), .val (.int (1 : Int32))]) rfl k) ?_
  show own_Go p e below _ s₁ (mkF m 5 #[.val (.ref q), .val (.int (0 : Int32)), .val (.int (0 : Int32)), .val (.int (1 : Int32))] [])
  refine own_by (fun _ k => XS.iloadN X0.here hx rfl (hb hby d13_5) rfl k) ?_
  show own_Go p e below _ s₁ (mkF m 6 #[.val (.ref q), .val (.int (0 : Int32)), .val (.int (0 : Int32)), .val (.int (1 : Int32))] [(.int (0 : Int32))])
  refine own_by (fun _ k => XS.iloadN X0.here hx rfl (hb hby d13_6) rfl k) ?_
  show own_Go p e below _ s₁ (mkF m 7 #[.val (.ref q), .val (.int (0 : Int32)), .val (.int (0 : Int32)), .val (.int (1 : Int32))] [(.int (1 : Int32)), (.int (0 : Int32))])
  refine own_by (fun _ k => XS.icmpNo X0.here hx rfl (hb hby d13_7) rfl (tlt (by decide : (0 : Int32) < (1 : Int32))).2.1 k) ?_
  show own_Go p e below _ s₁ (mkF m 10 #[.val (.ref q), .val (.int (0 : Int32)), .val (.int (0 : Int32)), .val (.int (1 : Int32))] [])
  refine own_by (fun _ k => XS.aloadN X0.here hx rfl (hb hby d13_10) rfl rfl k) ?_
  show own_Go p e below _ s₁ (mkF m 11 #[.val (.ref q), .val (.int (0 : Int32)), .val (.int (0 : Int32)), .val (.int (1 : Int32))] [(.ref q)])
  refine own_by (fun _ k => XS.iloadN X0.here hx rfl (hb hby d13_11) rfl k) ?_
  show own_Go p e below _ s₁ (mkF m 12 #[.val (.ref q), .val (.int (0 : Int32)), .val (.int (0 : Int32)), .val (.int (1 : Int32))] [(.int (0 : Int32)), (.ref q)])
  refine own_by (fun _ k => XS.iloadN X0.here hx rfl (hb hby d13_12) rfl k) ?_
  show own_Go p e below _ s₁ (mkF m 13 #[.val (.ref q), .val (.int (0 : Int32)), .val (.int (0 : Int32)), .val (.int (1 : Int32))] [(.int (0 : Int32)), (.int (0 : Int32)), (.ref q)])
  obtain ⟨cl180, Ar180, cq180, hin180, hat180, set180⟩ := own_arv V1 (j := (0 : Int32)) ⟨by decide, by decide⟩
  obtain ⟨T181, h181, X181, e181, W181, st181⟩ := stC X0 hx hZ e0 Ar180 (j := (0 : Int32)) hin180 (g := (mkF m 13 #[.val (.ref q), .val (.int (0 : Int32)), .val (.int (0 : Int32)), .val (.int (1 : Int32))] [(.int (0 : Int32)), (.int (0 : Int32)), (.ref q)])) rfl rfl (hb hby d13_13)
  have wq181 : nar .char (0 : Int32) = (0 : Int32) := rfl
  rw [wq181] at W181
  have wf181 : fits .char (.int (0 : Int32)) = true := wq181 ▸ (fits_nar_char _)
  have V181 : Arv Z h181 q k2 .char (1 : Int32) [(.int (0 : Int32))] (.int (0 : Int32)) := set180 wf181 W181 0 rfl (Nat.le_of_ble_eq_true rfl)
  have N181 := Fr.snoc X181 N0 g1
  have K182 := K0.wr W181 (Or.inl (List.mem_of_getElem? (i := 0) rfl))
  have Z181 : n0 ≤ h181.size := Nat.le_trans Z0 (Keep.of_wr W181).1
  refine own_by st181 ?_
  show own_Go p e below _ T181 (mkF m 14 #[.val (.ref q), .val (.int (0 : Int32)), .val (.int (0 : Int32)), .val (.int (1 : Int32))] [])
  refine own_by (fun _ k => XS.iinc X181.here hx rfl (hb hby d13_14) rfl (l' := #[.val (.ref q), .val (.int (0 : Int32)), .val (.int ((0 : Int32) + (1 : Int32))), .val (.int (1 : Int32))]) rfl k) ?_
  show own_Go p e below _ T181 (mkF m 17 #[.val (.ref q), .val (.int (0 : Int32)), .val (.int ((0 : Int32) + (1 : Int32))), .val (.int (1 : Int32))] [])
  rw [show (0 : Int32) + (1 : Int32) = (1 : Int32) from by decide]
  show own_Go p e below _ T181 (mkF m 17 #[.val (.ref q), .val (.int (0 : Int32)), .val (.int (1 : Int32)), .val (.int (1 : Int32))] [])
  refine own_by (fun _ k => XS.goto X181.here hx rfl (pc0 := 17) (pc' := 5) rfl (hb hby d13_17) (by decide) (by decide) k) ?_
  show own_Go p e below _ T181 (mkF m 5 #[.val (.ref q), .val (.int (0 : Int32)), .val (.int (1 : Int32)), .val (.int (1 : Int32))] [])
  refine own_by (fun _ k => XS.iloadN X181.here hx rfl (hb hby d13_5) rfl k) ?_
  show own_Go p e below _ T181 (mkF m 6 #[.val (.ref q), .val (.int (0 : Int32)), .val (.int (1 : Int32)), .val (.int (1 : Int32))] [(.int (1 : Int32))])
  refine own_by (fun _ k => XS.iloadN X181.here hx rfl (hb hby d13_6) rfl k) ?_
  show own_Go p e below _ T181 (mkF m 7 #[.val (.ref q), .val (.int (0 : Int32)), .val (.int (1 : Int32)), .val (.int (1 : Int32))] [(.int (1 : Int32)), (.int (1 : Int32))])
  refine own_by (fun _ k => XS.icmpYes X181.here hx rfl (pc0 := 7) (pc' := 20) rfl (hb hby d13_7) rfl (flt (by decide : ¬ ((1 : Int32) < (1 : Int32)))).2.1 (by decide) (by decide) k) ?_
  show own_Go p e below _ T181 (mkF m 20 #[.val (.ref q), .val (.int (0 : Int32)), .val (.int (1 : Int32)), .val (.int (1 : Int32))] [])
  exact own_ret0 X181 hx hlk hret (hb hby d13_20) (by first | exact ⟨rfl, N181, K182⟩ | (rw [e181]; exact ⟨rfl, N181, K182⟩)) (by decide) (by decide)
def Q_rm10_1 (Z : State) (a1 q : Addr) (k2 : ClassId) (x0 : Int32) (h0 : Heap) (n0 : Nat) (v : Option Value) (h : Heap) (L : List Loc) : Prop := v = none ∧ Fr n0 L ∧ Keep h0 h [a1, q] ∧ Exa Z h a1 "watchword/PasswordCallback" ∧ Fld Z h a1 "watchword/PasswordCallback" "password" "[C" .null
theorem pn_rm10_1 : plainFor (⟨"watchword/PasswordCallback", "clearPassword", "()V"⟩ : MethodName) = true := plainFor_of_name (by first | (simp [plainName, overriddenIn, x]; done) | decide +kernel)
set_option maxRecDepth 65536 in
set_option maxHeartbeats 40000000 in
theorem rm10_1 (l : Launch) (Z : State) (a0 : Array Value) (hw : ∀ d ∈ tables_1, d.before a0 Z = true) (ws : List Jvm.Cond) (a1 q : Addr) (k2 : ClassId) (x0 : Int32) (h0 : Heap) (n0 : Nat) (Z0 : n0 ≤ h0.size) (g1 : n0 ≤ a1) (g2 : n0 ≤ q) (hne : a1 ≠ q) (E1 : Exa Z h0 a1 "watchword/PasswordCallback") (F1 : Fld Z h0 a1 "watchword/PasswordCallback" "password" "[C" (.ref q)) (V1 : Arv Z h0 q k2 .char (1 : Int32) [(.int x0)] (.int (0 : Int32))) :
    own_Met l Z (⟨"watchword/PasswordCallback", "clearPassword", "()V"⟩ : MethodName) prog_50_method_6_code 1 none ws ({ frames := 1, cells := 0, slots := 0, locals := 16 } : Room) #[(.ref a1)] h0 (Q_rm10_1 Z a1 q k2 x0 h0 n0) := by
  refine own_enter (g0 := fun m => (mkF m 0 #[.val (.ref a1)] [])) pn_rm10_1 (fun m => by first | (simp [entryFrame, mkF, argsToLocals, Value.category, maxLocals]; done) | rfl) ?_
  intro p e s m below meth c s₁ hx hby hml hown hnm hret hlk hZ X0 e0
  have hml : c.maxLocals = 1 := hml
  have hown : s.vm.findClass "watchword/PasswordCallback" = some m.cls := hown
  have N0 := Fr.nil n0
  show own_Go p e below _ s₁ (mkF m 0 #[.val (.ref a1)] [])
  have K0 := Keep.refl h0 [a1, q]
  refine own_by (fun _ k => XS.aloadN X0.here hx rfl (hb hby d10_0) rfl rfl k) ?_
  show own_Go p e below _ s₁ (mkF m 1 #[.val (.ref a1)] [(.ref a1)])
  obtain ⟨T183, X183, e183, st183⟩ := getF X0 hx hZ hown (host := "") (Or.inl (hw _ (List.mem_of_getElem? (i := 42) rfl))) Via.refl e0 F1 (g := (mkF m 1 #[.val (.ref a1)] [(.ref a1)])) rfl rfl (hb hby d10_1)
  refine own_by st183 ?_
  show own_Go p e below _ T183 (mkF m 4 #[.val (.ref a1)] [(.ref q)])
  refine own_by (fun _ k => XS.ifnullNo X183.here hx rfl (hb hby d10_4) rfl k) ?_
  show own_Go p e below _ T183 (mkF m 7 #[.val (.ref a1)] [])
  refine own_by (fun _ k => XS.aloadN X183.here hx rfl (hb hby d10_7) rfl rfl k) ?_
  show own_Go p e below _ T183 (mkF m 8 #[.val (.ref a1)] [(.ref a1)])
  obtain ⟨T184, X184, e184, st184⟩ := getF X183 hx hZ hown (host := "") (Or.inl (hw _ (List.mem_of_getElem? (i := 42) rfl))) Via.refl e183 F1 (g := (mkF m 8 #[.val (.ref a1)] [(.ref a1)])) rfl rfl (hb hby d10_8)
  refine own_by st184 ?_
  show own_Go p e below _ T184 (mkF m 11 #[.val (.ref a1)] [(.ref q)])
  refine own_by (fun _ k => XS.iconst X184.here hx rfl (hb hby d10_11) k) ?_
  show own_Go p e below _ T184 (mkF m 12 #[.val (.ref a1)] [(.int (0 : Int32)), (.ref q)])
  obtain ⟨_, T185, L185, X185, ⟨rfl, N185q, Kf⟩, st185⟩ := own_callS X184 hx hZ hown (y := (⟨"java/util/Arrays", "fill", "([CC)V"⟩ : MethodName)) (hw _ (List.mem_of_getElem? (i := 74) rfl)) (hw _ (List.mem_of_getElem? (i := 75) rfl)) (hw _ (List.mem_of_getElem? (i := 76) rfl)) (hw _ (List.mem_of_getElem? (i := 77) rfl)) (by decide) (argsL := [(.ref q), (.int (0 : Int32))]) (rest := []) e184 (rm13_1 l Z a0 hw [] q k2 x0 h0 n0 Z0 g2 V1) (g := (mkF m 12 #[.val (.ref a1)] [(.int (0 : Int32)), (.ref q)])) rfl (by rw [hml]; rfl) (lenOf pd_3 rfl) rfl (W := 0) (by show 2 * 0 + _ ≤ _; exact Nat.le_of_eq rfl) (hb hby d10_12) (by decide) (by decide) (by decide) (by decide)
  have N185 := Fr.app N0 N185q
  refine own_by st185 ?_
  show own_Go p e below _ T185 (mkF m 15 #[.val (.ref a1)] [])
  have Z185 : n0 ≤ T185.heap.size := Nat.le_trans Z0 Kf.1
  have K185c := K0.trans Kf (allS (Or.inl (List.mem_of_getElem? (i := 1) rfl)) all0)
  refine own_by (fun _ k => XS.aloadN X185.here hx rfl (hb hby d10_15) rfl rfl k) ?_
  show own_Go p e below _ T185 (mkF m 16 #[.val (.ref a1)] [(.ref a1)])
  refine own_by (fun _ k => XS.aconstNull X185.here hx rfl (hb hby d10_16) k) ?_
  show own_Go p e below _ T185 (mkF m 17 #[.val (.ref a1)] [.null, (.ref a1)])
  have f187 := (F1.keep Kf (ninS hne nin0))
  have f188 := (E1.keep Kf)
  obtain ⟨T186, h186, X186, e186, W186, st186⟩ := putF X185 hx hZ hown (host := "") (Or.inl (hw _ (List.mem_of_getElem? (i := 42) rfl))) Via.refl rfl f187 f188 (Or.inl (hw _ (List.mem_of_getElem? (i := 43) rfl))) (hw _ (List.mem_of_getElem? (i := 27) rfl)) (ty := (.array .char)) (by decide) rfl rfl (g := (mkF m 17 #[.val (.ref a1)] [.null, (.ref a1)])) rfl rfl (hb hby d10_17)
  refine own_by st186 ?_
  have N186 := Fr.snoc X186 N185 g1
  have fw186 := f187.same W186
  have K189 := K185c.wr W186 (Or.inl (List.mem_of_getElem? (i := 0) rfl))
  have Z186 : n0 ≤ h186.size := Nat.le_trans Z185 (Keep.of_wr W186).1
  show own_Go p e below _ T186 (mkF m 20 #[.val (.ref a1)] [])
  have f190 := (f188.wr W186)
  exact own_ret0 X186 hx hlk hret (hb hby d10_20) (by first | exact ⟨rfl, N186, K189, f190, fw186⟩ | (rw [e186]; exact ⟨rfl, N186, K189, f190, fw186⟩)) (by decide) (by decide)
def Q_rm9_1 (Z : State) (a1 q : Addr) (k2 : ClassId) (x0 : Int32) (h0 : Heap) (n0 : Nat) (v : Option Value) (h : Heap) (L : List Loc) : Prop := ∃ b, v = none ∧ Fr n0 L ∧ Keep h0 h [a1] ∧ h0.size ≤ b ∧ Exa Z h a1 "watchword/PasswordCallback" ∧ Fld Z h a1 "watchword/PasswordCallback" "password" "[C" (.ref b) ∧ Exa Z h b "[C" ∧ Arv Z h b k2 .char (1 : Int32) [(.int x0)] (.int (0 : Int32))
theorem pn_rm9_1 : plainFor (⟨"watchword/PasswordCallback", "setPassword", "([C)V"⟩ : MethodName) = true := plainFor_of_name (by first | (simp [plainName, overriddenIn, x]; done) | decide +kernel)
set_option maxRecDepth 65536 in
set_option maxHeartbeats 40000000 in
theorem rm9_1 (l : Launch) (Z : State) (a0 : Array Value) (hw : ∀ d ∈ tables_1, d.before a0 Z = true) (ws : List Jvm.Cond) (a1 q : Addr) (k2 : ClassId) (x0 : Int32) (h0 : Heap) (n0 : Nat) (Z0 : n0 ≤ h0.size) (g1 : n0 ≤ a1) (E1 : Exa Z h0 a1 "watchword/PasswordCallback") (F1 : Fld Z h0 a1 "watchword/PasswordCallback" "password" "[C" .null) (V1 : Arv Z h0 q k2 .char (1 : Int32) [(.int x0)] (.int (0 : Int32))) (E2 : Exa Z h0 q "[C") :
    own_Met l Z (⟨"watchword/PasswordCallback", "setPassword", "([C)V"⟩ : MethodName) prog_50_method_4_code 2 none ws ({ frames := 1, cells := 1, slots := 1, locals := 16 } : Room) #[(.ref a1), (.ref q)] h0 (Q_rm9_1 Z a1 q k2 x0 h0 n0) := by
  refine own_enter (g0 := fun m => (mkF m 0 #[.val (.ref a1), .val (.ref q)] [])) pn_rm9_1 (fun m => by first | (simp [entryFrame, mkF, argsToLocals, Value.category, maxLocals]; done) | rfl) ?_
  intro p e s m below meth c s₁ hx hby hml hown hnm hret hlk hZ X0 e0
  have hml : c.maxLocals = 2 := hml
  have hown : s.vm.findClass "watchword/PasswordCallback" = some m.cls := hown
  have N0 := Fr.nil n0
  show own_Go p e below _ s₁ (mkF m 0 #[.val (.ref a1), .val (.ref q)] [])
  have K0 := Keep.refl h0 [a1]
  refine own_by (fun _ k => XS.aloadN X0.here hx rfl (hb hby d9_0) rfl rfl k) ?_
  show own_Go p e below _ s₁ (mkF m 1 #[.val (.ref a1), .val (.ref q)] [(.ref a1)])
  obtain ⟨_, T191, L191, X191, ⟨rfl, N191q, e191⟩, st191⟩ := own_callV X0 hx hZ hown (y := (⟨"watchword/PasswordCallback", "clearPassword", "()V"⟩ : MethodName)) (C := "watchword/PasswordCallback") (hw _ (List.mem_of_getElem? (i := 54) rfl)) (hw _ (List.mem_of_getElem? (i := 55) rfl)) (hw _ (List.mem_of_getElem? (i := 57) rfl)) (hw _ (List.mem_of_getElem? (i := 56) rfl)) (hw _ (List.mem_of_getElem? (i := 28) rfl)) (hw _ (List.mem_of_getElem? (i := 58) rfl)) (by decide) (a := a1) E1 (argsL := []) (rest := []) e0 (rm10z l Z a0 hw [] a1 h0 n0 Z0 F1) (g := (mkF m 1 #[.val (.ref a1), .val (.ref q)] [(.ref a1)])) rfl (by rw [hml]; rfl) (lenOf pd_4 rfl) rfl (W := 0) (by show 2 * 0 + _ ≤ _; exact Nat.le_of_eq rfl) (hb hby d9_1) (by decide) (by decide) (by decide) (by decide)
  have N191 := Fr.app N0 N191q
  refine own_by st191 ?_
  show own_Go p e below _ T191 (mkF m 4 #[.val (.ref a1), .val (.ref q)] [])
  refine own_by (fun _ k => XS.aloadN X191.here hx rfl (hb hby d9_4) rfl rfl k) ?_
  show own_Go p e below _ T191 (mkF m 5 #[.val (.ref a1), .val (.ref q)] [(.ref a1)])
  refine own_by (fun _ k => XS.aloadN X191.here hx rfl (hb hby d9_5) rfl rfl k) ?_
  show own_Go p e below _ T191 (mkF m 6 #[.val (.ref a1), .val (.ref q)] [(.ref q), (.ref a1)])
  refine own_by (fun _ k => XS.ifnonnullYes X191.here hx rfl (pc0 := 6) (pc' := 13) rfl (hb hby d9_6) rfl (by decide) (by decide) k) ?_
  show own_Go p e below _ T191 (mkF m 13 #[.val (.ref a1), .val (.ref q)] [(.ref a1)])
  refine own_by (fun _ k => XS.aloadN X191.here hx rfl (hb hby d9_13) rfl rfl k) ?_
  show own_Go p e below _ T191 (mkF m 14 #[.val (.ref a1), .val (.ref q)] [(.ref q), (.ref a1)])
  obtain ⟨T192, h192, X192, e192, E192, A192, C192, st192⟩ := cloneH X191 hx hZ hown (hw _ (List.mem_of_getElem? (i := 59) rfl)) (hw _ (List.mem_of_getElem? (i := 60) rfl)) (hw _ (List.mem_of_getElem? (i := 64) rfl)) (hw _ (List.mem_of_getElem? (i := 62) rfl)) (hw _ (List.mem_of_getElem? (i := 63) rfl)) (hw _ (List.mem_of_getElem? (i := 65) rfl)) e191 (hs := []) V1 E2 (g := (mkF m 14 #[.val (.ref a1), .val (.ref q)] [(.ref q), (.ref a1)])) rfl (by rw [hml]; rfl) rfl (hb hby d9_14) (by decide) (W := 1) (cap := 1) (by show 2 * 0 + _ ≤ _; exact Nat.le_of_eq rfl) (by decide) (by decide) (by decide) (by decide)
  obtain ⟨b192, g192⟩ : ∃ z, z = h0.size := ⟨_, rfl⟩
  rw [← g192] at A192 C192 st192
  have ne_a1_b192 : a1 ≠ b192 := Nat.ne_of_lt (Nat.lt_of_lt_of_le F1.lt (Nat.le_of_eq g192.symm))
  have ne_q_b192 : q ≠ b192 := Nat.ne_of_lt (Nat.lt_of_lt_of_le V1.lt (Nat.le_of_eq g192.symm))
  have og_b192 : n0 ≤ b192 := Nat.le_trans Z0 (Nat.le_of_eq g192.symm)
  have sz_b192 : h0.size ≤ b192 := Nat.le_trans K0.1 (Nat.le_of_eq g192.symm)
  have Z192 : n0 ≤ h192.size := Nat.le_trans Z0 E192.1
  have K193 := K0.ext E192
  have V192 : Arv Z h192 b192 k2 .char (1 : Int32) [(.int x0)] (.int (0 : Int32)) := A192
  refine own_by st192 ?_
  show own_Go p e below _ T192 (mkF m 17 #[.val (.ref a1), .val (.ref q)] [(.ref b192), (.ref a1)])
  obtain ⟨T194, X194, e194, st194⟩ := castY X192 hx hZ hown (hw _ (List.mem_of_getElem? (i := 66) rfl)) e192 (Ins.self C192) (g := (mkF m 17 #[.val (.ref a1), .val (.ref q)] [(.ref b192), (.ref a1)])) rfl rfl (hb hby d9_17)
  refine own_by st194 ?_
  show own_Go p e below _ T194 (mkF m 20 #[.val (.ref a1), .val (.ref q)] [(.ref b192), (.ref a1)])
  have f196 := (F1.ext E192)
  have f197 := (E1.ext E192)
  obtain ⟨T195, h195, X195, e195, W195, st195⟩ := putF X194 hx hZ hown (host := "") (Or.inl (hw _ (List.mem_of_getElem? (i := 42) rfl))) Via.refl e194 f196 f197 (Or.inl (hw _ (List.mem_of_getElem? (i := 43) rfl))) (hw _ (List.mem_of_getElem? (i := 27) rfl)) (ty := (.array .char)) (by decide) rfl rfl (g := (mkF m 20 #[.val (.ref a1), .val (.ref q)] [(.ref b192), (.ref a1)])) rfl rfl (hb hby d9_20)
  refine own_by st195 ?_
  have N195 := Fr.snoc X195 N191 g1
  have fw195 := f196.same W195
  have K198 := K193.wr W195 (Or.inl (List.mem_of_getElem? (i := 0) rfl))
  have Z195 : n0 ≤ h195.size := Nat.le_trans Z192 (Keep.of_wr W195).1
  show own_Go p e below _ T195 (mkF m 23 #[.val (.ref a1), .val (.ref q)] [])
  have f199 := (f197.wr W195)
  have f200 := (C192.wr W195)
  have f201 := (V192.other W195 (Ne.symm ne_a1_b192))
  exact own_ret0 X195 hx hlk hret (hb hby d9_23) (by first | exact ⟨b192, rfl, N195, K198, sz_b192, f199, fw195, f200, f201⟩ | (rw [e195]; exact ⟨b192, rfl, N195, K198, sz_b192, f199, fw195, f200, f201⟩)) (by decide) (by decide)
def Q_rm9n_1 (Z : State) (a1 q : Addr) (k2 : ClassId) (x0 : Int32) (h0 : Heap) (n0 : Nat) (v : Option Value) (h : Heap) (L : List Loc) : Prop := v = none ∧ Fr n0 L ∧ Keep h0 h [a1, q] ∧ Exa Z h a1 "watchword/PasswordCallback" ∧ Fld Z h a1 "watchword/PasswordCallback" "password" "[C" .null
theorem pn_rm9n_1 : plainFor (⟨"watchword/PasswordCallback", "setPassword", "([C)V"⟩ : MethodName) = true := plainFor_of_name (by first | (simp [plainName, overriddenIn, x]; done) | decide +kernel)
set_option maxRecDepth 65536 in
set_option maxHeartbeats 40000000 in
theorem rm9n_1 (l : Launch) (Z : State) (a0 : Array Value) (hw : ∀ d ∈ tables_1, d.before a0 Z = true) (ws : List Jvm.Cond) (a1 q : Addr) (k2 : ClassId) (x0 : Int32) (h0 : Heap) (n0 : Nat) (Z0 : n0 ≤ h0.size) (g1 : n0 ≤ a1) (g2 : n0 ≤ q) (hne : a1 ≠ q) (E1 : Exa Z h0 a1 "watchword/PasswordCallback") (F1 : Fld Z h0 a1 "watchword/PasswordCallback" "password" "[C" (.ref q)) (V1 : Arv Z h0 q k2 .char (1 : Int32) [(.int x0)] (.int (0 : Int32))) :
    own_Met l Z (⟨"watchword/PasswordCallback", "setPassword", "([C)V"⟩ : MethodName) prog_50_method_4_code 2 none ws ({ frames := 2, cells := 0, slots := 0, locals := 40 } : Room) #[(.ref a1), .null] h0 (Q_rm9n_1 Z a1 q k2 x0 h0 n0) := by
  refine own_enter (g0 := fun m => (mkF m 0 #[.val (.ref a1), .val .null] [])) pn_rm9n_1 (fun m => by first | (simp [entryFrame, mkF, argsToLocals, Value.category, maxLocals]; done) | rfl) ?_
  intro p e s m below meth c s₁ hx hby hml hown hnm hret hlk hZ X0 e0
  have hml : c.maxLocals = 2 := hml
  have hown : s.vm.findClass "watchword/PasswordCallback" = some m.cls := hown
  have N0 := Fr.nil n0
  show own_Go p e below _ s₁ (mkF m 0 #[.val (.ref a1), .val .null] [])
  have K0 := Keep.refl h0 [a1, q]
  refine own_by (fun _ k => XS.aloadN X0.here hx rfl (hb hby d9_0) rfl rfl k) ?_
  show own_Go p e below _ s₁ (mkF m 1 #[.val (.ref a1), .val .null] [(.ref a1)])
  obtain ⟨_, T202, L202, X202, ⟨rfl, N202q, Kc, Ec, Fc⟩, st202⟩ := own_callV X0 hx hZ hown (y := (⟨"watchword/PasswordCallback", "clearPassword", "()V"⟩ : MethodName)) (C := "watchword/PasswordCallback") (hw _ (List.mem_of_getElem? (i := 54) rfl)) (hw _ (List.mem_of_getElem? (i := 55) rfl)) (hw _ (List.mem_of_getElem? (i := 57) rfl)) (hw _ (List.mem_of_getElem? (i := 56) rfl)) (hw _ (List.mem_of_getElem? (i := 28) rfl)) (hw _ (List.mem_of_getElem? (i := 58) rfl)) (by decide) (a := a1) E1 (argsL := []) (rest := []) e0 (rm10_1 l Z a0 hw [] a1 q k2 x0 h0 n0 Z0 g1 g2 hne E1 F1 V1) (g := (mkF m 1 #[.val (.ref a1), .val .null] [(.ref a1)])) rfl (by rw [hml]; rfl) (lenOf pd_4 rfl) rfl (W := 0) (by show 2 * 0 + _ ≤ _; exact Nat.le_of_eq rfl) (hb hby d9_1) (by decide) (by decide) (by decide) (by decide)
  have N202 := Fr.app N0 N202q
  refine own_by st202 ?_
  show own_Go p e below _ T202 (mkF m 4 #[.val (.ref a1), .val .null] [])
  have Z202 : n0 ≤ T202.heap.size := Nat.le_trans Z0 Kc.1
  have K202c := K0.trans Kc (allS (Or.inl (List.mem_of_getElem? (i := 0) rfl)) (allS (Or.inl (List.mem_of_getElem? (i := 1) rfl)) all0))
  refine own_by (fun _ k => XS.aloadN X202.here hx rfl (hb hby d9_4) rfl rfl k) ?_
  show own_Go p e below _ T202 (mkF m 5 #[.val (.ref a1), .val .null] [(.ref a1)])
  refine own_by (fun _ k => XS.aloadN X202.here hx rfl (hb hby d9_5) rfl rfl k) ?_
  show own_Go p e below _ T202 (mkF m 6 #[.val (.ref a1), .val .null] [.null, (.ref a1)])
  refine own_by (fun _ k => XS.ifnonnullNo X202.here hx rfl (hb hby d9_6) rfl k) ?_
  show own_Go p e below _ T202 (mkF m 9 #[.val (.ref a1), .val .null] [(.ref a1)])
  refine own_by (fun _ k => XS.aconstNull X202.here hx rfl (hb hby d9_9) k) ?_
  show own_Go p e below _ T202 (mkF m 10 #[.val (.ref a1), .val .null] [.null, (.ref a1)])
  refine own_by (fun _ k => XS.goto X202.here hx rfl (pc0 := 10) (pc' := 20) rfl (hb hby d9_10) (by decide) (by decide) k) ?_
  show own_Go p e below _ T202 (mkF m 20 #[.val (.ref a1), .val .null] [.null, (.ref a1)])
  obtain ⟨T203, h203, X203, e203, W203, st203⟩ := putF X202 hx hZ hown (host := "") (Or.inl (hw _ (List.mem_of_getElem? (i := 42) rfl))) Via.refl rfl Fc Ec (Or.inl (hw _ (List.mem_of_getElem? (i := 43) rfl))) (hw _ (List.mem_of_getElem? (i := 27) rfl)) (ty := (.array .char)) (by decide) rfl rfl (g := (mkF m 20 #[.val (.ref a1), .val .null] [.null, (.ref a1)])) rfl rfl (hb hby d9_20)
  refine own_by st203 ?_
  have N203 := Fr.snoc X203 N202 g1
  have fw203 := Fc.same W203
  have K204 := K202c.wr W203 (Or.inl (List.mem_of_getElem? (i := 0) rfl))
  have Z203 : n0 ≤ h203.size := Nat.le_trans Z202 (Keep.of_wr W203).1
  show own_Go p e below _ T203 (mkF m 23 #[.val (.ref a1), .val .null] [])
  have f205 := (Ec.wr W203)
  exact own_ret0 X203 hx hlk hret (hb hby d9_23) (by first | exact ⟨rfl, N203, K204, f205, fw203⟩ | (rw [e203]; exact ⟨rfl, N203, K204, f205, fw203⟩)) (by decide) (by decide)
def Q_rm11_1 (Z : State) (q : Addr) (k2 : ClassId) (x0 : Int32) (h0 : Heap) (n0 : Nat) (v : Option Value) (h : Heap) (L : List Loc) : Prop := v = none ∧ Fr n0 L ∧ Keep h0 h [q]
theorem pn_rm11_1 : plainFor (⟨"watchword/PasswordCallbackGetPasswordPinLaw", "flip", "([C)V"⟩ : MethodName) = true := plainFor_of_name (by first | (simp [plainName, overriddenIn, x]; done) | decide +kernel)
theorem d11_5 : decode method_3_code 5 = .ok (.aload_n 0, 1) := by decide +kernel
theorem d11_6 : decode method_3_code 6 = .ok (.iconst 0, 1) := by decide +kernel
theorem d11_7 : decode method_3_code 7 = .ok (.aload_n 0, 1) := by decide +kernel
theorem d11_8 : decode method_3_code 8 = .ok (.iconst 0, 1) := by decide +kernel
theorem d11_9 : decode method_3_code 9 = .ok (.caload, 1) := by decide +kernel
theorem d11_10 : decode method_3_code 10 = .ok (.iconst 1, 1) := by decide +kernel
theorem d11_11 : decode method_3_code 11 = .ok (.ixor, 1) := by decide +kernel
theorem d11_12 : decode method_3_code 12 = .ok (.i2c, 1) := by decide +kernel
theorem d11_13 : decode method_3_code 13 = .ok (.castore, 1) := by decide +kernel
set_option maxRecDepth 65536 in
set_option maxHeartbeats 40000000 in
theorem rm11_1 (l : Launch) (Z : State) (a0 : Array Value) (hw : ∀ d ∈ tables_1, d.before a0 Z = true) (ws : List Jvm.Cond) (q : Addr) (k2 : ClassId) (x0 : Int32) (h0 : Heap) (n0 : Nat) (Z0 : n0 ≤ h0.size) (g1 : n0 ≤ q) (V1 : Arv Z h0 q k2 .char (1 : Int32) [(.int x0)] (.int (0 : Int32))) :
    own_Met l Z (⟨"watchword/PasswordCallbackGetPasswordPinLaw", "flip", "([C)V"⟩ : MethodName) method_3_code 1 none ws ({ frames := 0, cells := 0, slots := 0, locals := 0 } : Room) #[(.ref q)] h0 (Q_rm11_1 Z q k2 x0 h0 n0) := by
  refine own_enter (g0 := fun m => (mkF m 0 #[.val (.ref q)] [])) pn_rm11_1 (fun m => by first | (simp [entryFrame, mkF, argsToLocals, Value.category, maxLocals]; done) | rfl) ?_
  intro p e s m below meth c s₁ hx hby hml hown hnm hret hlk hZ X0 e0
  have hml : c.maxLocals = 1 := hml
  have hown : s.vm.findClass "watchword/PasswordCallbackGetPasswordPinLaw" = some m.cls := hown
  have N0 := Fr.nil n0
  show own_Go p e below _ s₁ (mkF m 0 #[.val (.ref q)] [])
  have K0 := Keep.refl h0 [q]
  refine own_by (fun _ k => XS.aloadN X0.here hx rfl (hb hby d11_0) rfl rfl k) ?_
  show own_Go p e below _ s₁ (mkF m 1 #[.val (.ref q)] [(.ref q)])
  obtain ⟨cl206, Ar206, len206⟩ := own_len V1
  refine own_by (T' := s₁) (g' := (mkF m 2 #[.val (.ref q)] [(.int (1 : Int32))])) (fun _ k => X0.arraylength hx (by rw [e0]; exact Ar206.1) (State.isArrayOf_alike hZ.alike Ar206.2.1) (g := (mkF m 1 #[.val (.ref q)] [(.ref q)])) rfl rfl (hb hby d11_1) _ (by rw [len206]; exact k)) ?_
  refine own_by (fun _ k => XS.ifNo X0.here hx rfl (hb hby d11_2) rfl ((if0 _ _).trans (tlt (by decide : (0 : Int32) < (1 : Int32))).2.2.2) k) ?_
  show own_Go p e below _ s₁ (mkF m 5 #[.val (.ref q)] [])
  refine own_by (fun _ k => XS.aloadN X0.here hx rfl (hb hby d11_5) rfl rfl k) ?_
  show own_Go p e below _ s₁ (mkF m 6 #[.val (.ref q)] [(.ref q)])
  refine own_by (fun _ k => XS.iconst X0.here hx rfl (hb hby d11_6) k) ?_
  show own_Go p e below _ s₁ (mkF m 7 #[.val (.ref q)] [(.int (0 : Int32)), (.ref q)])
  refine own_by (fun _ k => XS.aloadN X0.here hx rfl (hb hby d11_7) rfl rfl k) ?_
  show own_Go p e below _ s₁ (mkF m 8 #[.val (.ref q)] [(.ref q), (.int (0 : Int32)), (.ref q)])
  refine own_by (fun _ k => XS.iconst X0.here hx rfl (hb hby d11_8) k) ?_
  show own_Go p e below _ s₁ (mkF m 9 #[.val (.ref q)] [(.int (0 : Int32)), (.ref q), (.int (0 : Int32)), (.ref q)])
  obtain ⟨cl207, Ar207, cq207, hin207, hat207, set207⟩ := own_arv V1 (j := (0 : Int32)) ⟨by decide, by decide⟩
  refine own_by (fun _ k => X0.caload hx (j := (0 : Int32)) (v := (.int x0)) (by rw [e0]; exact Ar207.1) (State.isArrayOf_alike hZ.alike Ar207.2.1) Ar207.2.2 hin207 hat207 (g := (mkF m 9 #[.val (.ref q)] [(.int (0 : Int32)), (.ref q), (.int (0 : Int32)), (.ref q)])) rfl rfl (hb hby d11_9) _ k) ?_
  show own_Go p e below _ s₁ (mkF m 10 #[.val (.ref q)] [(.int x0), (.int (0 : Int32)), (.ref q)])
  refine own_by (fun _ k => XS.iconst X0.here hx rfl (hb hby d11_10) k) ?_
  show own_Go p e below _ s₁ (mkF m 11 #[.val (.ref q)] [(.int (1 : Int32)), (.int x0), (.int (0 : Int32)), (.ref q)])
  refine own_by (fun _ k => XS.ixor X0.here hx rfl (hb hby d11_11) rfl k) ?_
  show own_Go p e below _ s₁ (mkF m 12 #[.val (.ref q)] [(.int (x0 ^^^ (1 : Int32))), (.int (0 : Int32)), (.ref q)])
  refine own_by (fun _ k => XS.i2c X0.here hx rfl (hb hby d11_12) rfl k) ?_
  show own_Go p e below _ s₁ (mkF m 13 #[.val (.ref q)] [(.int ((x0 ^^^ (1 : Int32)).toUInt32.toUInt16.toUInt32.toInt32)), (.int (0 : Int32)), (.ref q)])
  obtain ⟨cl208, Ar208, cq208, hin208, hat208, set208⟩ := own_arv V1 (j := (0 : Int32)) ⟨by decide, by decide⟩
  obtain ⟨T209, h209, X209, e209, W209, st209⟩ := stC X0 hx hZ e0 Ar208 (j := (0 : Int32)) hin208 (g := (mkF m 13 #[.val (.ref q)] [(.int ((x0 ^^^ (1 : Int32)).toUInt32.toUInt16.toUInt32.toInt32)), (.int (0 : Int32)), (.ref q)])) rfl rfl (hb hby d11_13)
  have wq209 : nar .char ((x0 ^^^ (1 : Int32)).toUInt32.toUInt16.toUInt32.toInt32) = ((x0 ^^^ (1 : Int32)).toUInt32.toUInt16.toUInt32.toInt32) := own_nc _
  rw [wq209] at W209
  have wf209 : fits .char (.int ((x0 ^^^ (1 : Int32)).toUInt32.toUInt16.toUInt32.toInt32)) = true := wq209 ▸ (fits_nar_char _)
  have V209 : Arv Z h209 q k2 .char (1 : Int32) [(.int ((x0 ^^^ (1 : Int32)).toUInt32.toUInt16.toUInt32.toInt32))] (.int (0 : Int32)) := set208 wf209 W209 0 rfl (Nat.le_of_ble_eq_true rfl)
  have N209 := Fr.snoc X209 N0 g1
  have K210 := K0.wr W209 (Or.inl (List.mem_of_getElem? (i := 0) rfl))
  have Z209 : n0 ≤ h209.size := Nat.le_trans Z0 (Keep.of_wr W209).1
  refine own_by st209 ?_
  show own_Go p e below _ T209 (mkF m 14 #[.val (.ref q)] [])
  refine own_by (fun _ k => XS.aloadN X209.here hx rfl (hb hby d11_14) rfl rfl k) ?_
  show own_Go p e below _ T209 (mkF m 15 #[.val (.ref q)] [(.ref q)])
  obtain ⟨cl211, Ar211, len211⟩ := own_len V209
  refine own_by (T' := T209) (g' := (mkF m 16 #[.val (.ref q)] [(.int (1 : Int32))])) (fun _ k => X209.arraylength hx (by rw [e209]; exact Ar211.1) (State.isArrayOf_alike hZ.alike Ar211.2.1) (g := (mkF m 15 #[.val (.ref q)] [(.ref q)])) rfl rfl (hb hby d11_15) _ (by rw [len211]; exact k)) ?_
  refine own_by (fun _ k => XS.iconst X209.here hx rfl (hb hby d11_16) k) ?_
  show own_Go p e below _ T209 (mkF m 17 #[.val (.ref q)] [(.int (1 : Int32)), (.int (1 : Int32))])
  refine own_by (fun _ k => XS.icmpYes X209.here hx rfl (pc0 := 17) (pc' := 29) rfl (hb hby d11_17) rfl (flt (by decide : ¬ ((1 : Int32) < (1 : Int32)))).2.2.2 (by decide) (by decide) k) ?_
  show own_Go p e below _ T209 (mkF m 29 #[.val (.ref q)] [])
  refine own_by (fun _ k => XS.aloadN X209.here hx rfl (hb hby d11_29) rfl rfl k) ?_
  show own_Go p e below _ T209 (mkF m 30 #[.val (.ref q)] [(.ref q)])
  obtain ⟨cl212, Ar212, len212⟩ := own_len V209
  refine own_by (T' := T209) (g' := (mkF m 31 #[.val (.ref q)] [(.int (1 : Int32))])) (fun _ k => X209.arraylength hx (by rw [e209]; exact Ar212.1) (State.isArrayOf_alike hZ.alike Ar212.2.1) (g := (mkF m 30 #[.val (.ref q)] [(.ref q)])) rfl rfl (hb hby d11_30) _ (by rw [len212]; exact k)) ?_
  refine own_by (fun _ k => XS.iconst X209.here hx rfl (hb hby d11_31) k) ?_
  show own_Go p e below _ T209 (mkF m 32 #[.val (.ref q)] [(.int (2 : Int32)), (.int (1 : Int32))])
  refine own_by (fun _ k => XS.icmpYes X209.here hx rfl (pc0 := 32) (pc' := 44) rfl (hb hby d11_32) rfl (flt (by decide : ¬ ((2 : Int32) < (1 : Int32)))).2.2.2 (by decide) (by decide) k) ?_
  show own_Go p e below _ T209 (mkF m 44 #[.val (.ref q)] [])
  exact own_ret0 X209 hx hlk hret (hb hby d11_44) (by first | exact ⟨rfl, N209, K210⟩ | (rw [e209]; exact ⟨rfl, N209, K210⟩)) (by decide) (by decide)
def Q_rm12_1 (Z : State) (q : Addr) (k2 : ClassId) (x0 x1 x2 : Int32) (h0 : Heap) (n0 : Nat) (v : Option Value) (h : Heap) (L : List Loc) : Prop := v = some (.int 1) ∧ Fr n0 L ∧ h = h0
theorem pn_rm12_1 : plainFor (⟨"watchword/PasswordCallbackGetPasswordPinLaw", "same", "([CICCC)Z"⟩ : MethodName) = true := plainFor_of_name (by first | (simp [plainName, overriddenIn, x]; done) | decide +kernel)
theorem d12_12 : decode method_4_code 12 = .ok (.aload_n 0, 1) := by decide +kernel
theorem d12_13 : decode method_4_code 13 = .ok (.iconst 0, 1) := by decide +kernel
theorem d12_14 : decode method_4_code 14 = .ok (.caload, 1) := by decide +kernel
theorem d12_15 : decode method_4_code 15 = .ok (.iload_n 2, 1) := by decide +kernel
theorem d12_16 : decode method_4_code 16 = .ok (.if_icmp .eq 5, 3) := by decide +kernel
set_option maxRecDepth 65536 in
set_option maxHeartbeats 40000000 in
theorem rm12_1 (l : Launch) (Z : State) (a0 : Array Value) (hw : ∀ d ∈ tables_1, d.before a0 Z = true) (ws : List Jvm.Cond) (q : Addr) (k2 : ClassId) (x0 x1 x2 : Int32) (h0 : Heap) (n0 : Nat) (Z0 : n0 ≤ h0.size) (V1 : Arv Z h0 q k2 .char (1 : Int32) [(.int x0)] (.int (0 : Int32))) :
    own_Met l Z (⟨"watchword/PasswordCallbackGetPasswordPinLaw", "same", "([CICCC)Z"⟩ : MethodName) method_4_code 5 (some .boolean) ws ({ frames := 0, cells := 0, slots := 0, locals := 0 } : Room) #[(.ref q), (.int (1 : Int32)), (.int x0), (.int x1), (.int x2)] h0 (Q_rm12_1 Z q k2 x0 x1 x2 h0 n0) := by
  refine own_enter (g0 := fun m => (mkF m 0 #[.val (.ref q), .val (.int (1 : Int32)), .val (.int x0), .val (.int x1), .val (.int x2)] [])) pn_rm12_1 (fun m => by first | (simp [entryFrame, mkF, argsToLocals, Value.category, maxLocals]; done) | rfl) ?_
  intro p e s m below meth c s₁ hx hby hml hown hnm hret hlk hZ X0 e0
  have hml : c.maxLocals = 5 := hml
  have hown : s.vm.findClass "watchword/PasswordCallbackGetPasswordPinLaw" = some m.cls := hown
  have N0 := Fr.nil n0
  show own_Go p e below _ s₁ (mkF m 0 #[.val (.ref q), .val (.int (1 : Int32)), .val (.int x0), .val (.int x1), .val (.int x2)] [])
  refine own_by (fun _ k => XS.aloadN X0.here hx rfl (hb hby d12_0) rfl rfl k) ?_
  show own_Go p e below _ s₁ (mkF m 1 #[.val (.ref q), .val (.int (1 : Int32)), .val (.int x0), .val (.int x1), .val (.int x2)] [(.ref q)])
  obtain ⟨cl213, Ar213, len213⟩ := own_len V1
  refine own_by (T' := s₁) (g' := (mkF m 2 #[.val (.ref q), .val (.int (1 : Int32)), .val (.int x0), .val (.int x1), .val (.int x2)] [(.int (1 : Int32))])) (fun _ k => X0.arraylength hx (by rw [e0]; exact Ar213.1) (State.isArrayOf_alike hZ.alike Ar213.2.1) (g := (mkF m 1 #[.val (.ref q), .val (.int (1 : Int32)), .val (.int x0), .val (.int x1), .val (.int x2)] [(.ref q)])) rfl rfl (hb hby d12_1) _ (by rw [len213]; exact k)) ?_
  refine own_by (fun _ k => XS.iloadN X0.here hx rfl (hb hby d12_2) rfl k) ?_
  show own_Go p e below _ s₁ (mkF m 3 #[.val (.ref q), .val (.int (1 : Int32)), .val (.int x0), .val (.int x1), .val (.int x2)] [(.int (1 : Int32)), (.int (1 : Int32))])
  refine own_by (fun _ k => XS.icmpYes X0.here hx rfl (pc0 := 3) (pc' := 8) rfl (hb hby d12_3) rfl (teq (rfl : (1 : Int32) = (1 : Int32))).1 (by decide) (by decide) k) ?_
  show own_Go p e below _ s₁ (mkF m 8 #[.val (.ref q), .val (.int (1 : Int32)), .val (.int x0), .val (.int x1), .val (.int x2)] [])
  refine own_by (fun _ k => XS.iloadN X0.here hx rfl (hb hby d12_8) rfl k) ?_
  show own_Go p e below _ s₁ (mkF m 9 #[.val (.ref q), .val (.int (1 : Int32)), .val (.int x0), .val (.int x1), .val (.int x2)] [(.int (1 : Int32))])
  refine own_by (fun _ k => XS.ifNo X0.here hx rfl (hb hby d12_9) rfl ((if0 _ _).trans (tlt (by decide : (0 : Int32) < (1 : Int32))).2.2.2) k) ?_
  show own_Go p e below _ s₁ (mkF m 12 #[.val (.ref q), .val (.int (1 : Int32)), .val (.int x0), .val (.int x1), .val (.int x2)] [])
  refine own_by (fun _ k => XS.aloadN X0.here hx rfl (hb hby d12_12) rfl rfl k) ?_
  show own_Go p e below _ s₁ (mkF m 13 #[.val (.ref q), .val (.int (1 : Int32)), .val (.int x0), .val (.int x1), .val (.int x2)] [(.ref q)])
  refine own_by (fun _ k => XS.iconst X0.here hx rfl (hb hby d12_13) k) ?_
  show own_Go p e below _ s₁ (mkF m 14 #[.val (.ref q), .val (.int (1 : Int32)), .val (.int x0), .val (.int x1), .val (.int x2)] [(.int (0 : Int32)), (.ref q)])
  obtain ⟨cl214, Ar214, cq214, hin214, hat214, set214⟩ := own_arv V1 (j := (0 : Int32)) ⟨by decide, by decide⟩
  refine own_by (fun _ k => X0.caload hx (j := (0 : Int32)) (v := (.int x0)) (by rw [e0]; exact Ar214.1) (State.isArrayOf_alike hZ.alike Ar214.2.1) Ar214.2.2 hin214 hat214 (g := (mkF m 14 #[.val (.ref q), .val (.int (1 : Int32)), .val (.int x0), .val (.int x1), .val (.int x2)] [(.int (0 : Int32)), (.ref q)])) rfl rfl (hb hby d12_14) _ k) ?_
  show own_Go p e below _ s₁ (mkF m 15 #[.val (.ref q), .val (.int (1 : Int32)), .val (.int x0), .val (.int x1), .val (.int x2)] [(.int x0)])
  refine own_by (fun _ k => XS.iloadN X0.here hx rfl (hb hby d12_15) rfl k) ?_
  show own_Go p e below _ s₁ (mkF m 16 #[.val (.ref q), .val (.int (1 : Int32)), .val (.int x0), .val (.int x1), .val (.int x2)] [(.int x0), (.int x0)])
  refine own_by (fun _ k => XS.icmpYes X0.here hx rfl (pc0 := 16) (pc' := 21) rfl (hb hby d12_16) rfl (teq (rfl : x0 = x0)).1 (by decide) (by decide) k) ?_
  show own_Go p e below _ s₁ (mkF m 21 #[.val (.ref q), .val (.int (1 : Int32)), .val (.int x0), .val (.int x1), .val (.int x2)] [])
  refine own_by (fun _ k => XS.iloadN X0.here hx rfl (hb hby d12_21) rfl k) ?_
  show own_Go p e below _ s₁ (mkF m 22 #[.val (.ref q), .val (.int (1 : Int32)), .val (.int x0), .val (.int x1), .val (.int x2)] [(.int (1 : Int32))])
  refine own_by (fun _ k => XS.iconst X0.here hx rfl (hb hby d12_22) k) ?_
  show own_Go p e below _ s₁ (mkF m 23 #[.val (.ref q), .val (.int (1 : Int32)), .val (.int x0), .val (.int x1), .val (.int x2)] [(.int (1 : Int32)), (.int (1 : Int32))])
  refine own_by (fun _ k => XS.icmpYes X0.here hx rfl (pc0 := 23) (pc' := 35) rfl (hb hby d12_23) rfl (flt (by decide : ¬ ((1 : Int32) < (1 : Int32)))).2.2.2 (by decide) (by decide) k) ?_
  show own_Go p e below _ s₁ (mkF m 35 #[.val (.ref q), .val (.int (1 : Int32)), .val (.int x0), .val (.int x1), .val (.int x2)] [])
  refine own_by (fun _ k => XS.iloadN X0.here hx rfl (hb hby d12_35) rfl k) ?_
  show own_Go p e below _ s₁ (mkF m 36 #[.val (.ref q), .val (.int (1 : Int32)), .val (.int x0), .val (.int x1), .val (.int x2)] [(.int (1 : Int32))])
  refine own_by (fun _ k => XS.iconst X0.here hx rfl (hb hby d12_36) k) ?_
  show own_Go p e below _ s₁ (mkF m 37 #[.val (.ref q), .val (.int (1 : Int32)), .val (.int x0), .val (.int x1), .val (.int x2)] [(.int (2 : Int32)), (.int (1 : Int32))])
  refine own_by (fun _ k => XS.icmpYes X0.here hx rfl (pc0 := 37) (pc' := 50) rfl (hb hby d12_37) rfl (flt (by decide : ¬ ((2 : Int32) < (1 : Int32)))).2.2.2 (by decide) (by decide) k) ?_
  show own_Go p e below _ s₁ (mkF m 50 #[.val (.ref q), .val (.int (1 : Int32)), .val (.int x0), .val (.int x1), .val (.int x2)] [])
  refine own_by (fun _ k => XS.iconst X0.here hx rfl (hb hby d12_50) k) ?_
  show own_Go p e below _ s₁ (mkF m 51 #[.val (.ref q), .val (.int (1 : Int32)), .val (.int x0), .val (.int x1), .val (.int x2)] [(.int (1 : Int32))])
  exact own_retN X0 hx hlk hret (by simp) rfl (hb hby d12_51) (by first | exact ⟨rfl, N0, rfl⟩ | (rw [e0]; exact ⟨rfl, N0, rfl⟩)) (by decide) (by decide)
def Q_rm7_2 (Z : State) (a1 q : Addr) (k2 : ClassId) (x0 x1 : Int32) (h0 : Heap) (n0 : Nat) (v : Option Value) (h : Heap) (L : List Loc) : Prop := ∃ b, v = some (.ref b) ∧ Fr n0 L ∧ Keep h0 h [] ∧ h0.size ≤ b ∧ Exa Z h b "[C" ∧ Arv Z h b k2 .char (2 : Int32) [(.int x0), (.int x1)] (.int (0 : Int32))
theorem pn_rm7_2 : plainFor (⟨"watchword/PasswordCallback", "getPassword", "()[C"⟩ : MethodName) = true := plainFor_of_name (by first | (simp [plainName, overriddenIn, x]; done) | decide +kernel)
set_option maxRecDepth 65536 in
set_option maxHeartbeats 40000000 in
theorem rm7_2 (l : Launch) (Z : State) (a0 : Array Value) (hw : ∀ d ∈ tables_1, d.before a0 Z = true) (ws : List Jvm.Cond) (a1 q : Addr) (k2 : ClassId) (x0 x1 : Int32) (h0 : Heap) (n0 : Nat) (Z0 : n0 ≤ h0.size) (F1 : Fld Z h0 a1 "watchword/PasswordCallback" "password" "[C" (.ref q)) (V1 : Arv Z h0 q k2 .char (2 : Int32) [(.int x0), (.int x1)] (.int (0 : Int32))) (E2 : Exa Z h0 q "[C") :
    own_Met l Z (⟨"watchword/PasswordCallback", "getPassword", "()[C"⟩ : MethodName) prog_50_method_5_code 1 (some (.array .char)) ws ({ frames := 1, cells := 1, slots := 2, locals := 14 } : Room) #[(.ref a1)] h0 (Q_rm7_2 Z a1 q k2 x0 x1 h0 n0) := by
  refine own_enter (g0 := fun m => (mkF m 0 #[.val (.ref a1)] [])) pn_rm7_2 (fun m => by first | (simp [entryFrame, mkF, argsToLocals, Value.category, maxLocals]; done) | rfl) ?_
  intro p e s m below meth c s₁ hx hby hml hown hnm hret hlk hZ X0 e0
  have hml : c.maxLocals = 1 := hml
  have hown : s.vm.findClass "watchword/PasswordCallback" = some m.cls := hown
  have N0 := Fr.nil n0
  show own_Go p e below _ s₁ (mkF m 0 #[.val (.ref a1)] [])
  have K0 := Keep.refl h0 []
  refine own_by (fun _ k => XS.aloadN X0.here hx rfl (hb hby d7_0) rfl rfl k) ?_
  show own_Go p e below _ s₁ (mkF m 1 #[.val (.ref a1)] [(.ref a1)])
  obtain ⟨T215, X215, e215, st215⟩ := getF X0 hx hZ hown (host := "") (Or.inl (hw _ (List.mem_of_getElem? (i := 42) rfl))) Via.refl e0 F1 (g := (mkF m 1 #[.val (.ref a1)] [(.ref a1)])) rfl rfl (hb hby d7_1)
  refine own_by st215 ?_
  show own_Go p e below _ T215 (mkF m 4 #[.val (.ref a1)] [(.ref q)])
  refine own_by (fun _ k => XS.ifnonnullYes X215.here hx rfl (pc0 := 4) (pc' := 11) rfl (hb hby d7_4) rfl (by decide) (by decide) k) ?_
  show own_Go p e below _ T215 (mkF m 11 #[.val (.ref a1)] [])
  refine own_by (fun _ k => XS.aloadN X215.here hx rfl (hb hby d7_11) rfl rfl k) ?_
  show own_Go p e below _ T215 (mkF m 12 #[.val (.ref a1)] [(.ref a1)])
  obtain ⟨T216, X216, e216, st216⟩ := getF X215 hx hZ hown (host := "") (Or.inl (hw _ (List.mem_of_getElem? (i := 42) rfl))) Via.refl e215 F1 (g := (mkF m 12 #[.val (.ref a1)] [(.ref a1)])) rfl rfl (hb hby d7_12)
  refine own_by st216 ?_
  show own_Go p e below _ T216 (mkF m 15 #[.val (.ref a1)] [(.ref q)])
  obtain ⟨T217, h217, X217, e217, E217, A217, C217, st217⟩ := cloneH X216 hx hZ hown (hw _ (List.mem_of_getElem? (i := 59) rfl)) (hw _ (List.mem_of_getElem? (i := 60) rfl)) (hw _ (List.mem_of_getElem? (i := 64) rfl)) (hw _ (List.mem_of_getElem? (i := 62) rfl)) (hw _ (List.mem_of_getElem? (i := 63) rfl)) (hw _ (List.mem_of_getElem? (i := 65) rfl)) e216 (hs := []) V1 E2 (g := (mkF m 15 #[.val (.ref a1)] [(.ref q)])) rfl (by rw [hml]; rfl) rfl (hb hby d7_15) (by decide) (W := 0) (cap := 2) (by show 2 * 0 + _ ≤ _; exact Nat.le_of_eq rfl) (by decide) (by decide) (by decide) (by decide)
  obtain ⟨b217, g217⟩ : ∃ z, z = h0.size := ⟨_, rfl⟩
  rw [← g217] at A217 C217 st217
  have ne_a1_b217 : a1 ≠ b217 := Nat.ne_of_lt (Nat.lt_of_lt_of_le F1.lt (Nat.le_of_eq g217.symm))
  have ne_q_b217 : q ≠ b217 := Nat.ne_of_lt (Nat.lt_of_lt_of_le V1.lt (Nat.le_of_eq g217.symm))
  have og_b217 : n0 ≤ b217 := Nat.le_trans Z0 (Nat.le_of_eq g217.symm)
  have sz_b217 : h0.size ≤ b217 := Nat.le_trans K0.1 (Nat.le_of_eq g217.symm)
  have Z217 : n0 ≤ h217.size := Nat.le_trans Z0 E217.1
  have K218 := K0.ext E217
  have V217 : Arv Z h217 b217 k2 .char (2 : Int32) [(.int x0), (.int x1)] (.int (0 : Int32)) := A217
  refine own_by st217 ?_
  show own_Go p e below _ T217 (mkF m 18 #[.val (.ref a1)] [(.ref b217)])
  obtain ⟨T219, X219, e219, st219⟩ := castY X217 hx hZ hown (hw _ (List.mem_of_getElem? (i := 66) rfl)) e217 (Ins.self C217) (g := (mkF m 18 #[.val (.ref a1)] [(.ref b217)])) rfl rfl (hb hby d7_18)
  refine own_by st219 ?_
  show own_Go p e below _ T219 (mkF m 21 #[.val (.ref a1)] [(.ref b217)])
  exact own_retA X219 hx hlk hret rfl rfl (hb hby d7_21) (by first | exact ⟨b217, rfl, N0, K218, sz_b217, C217, V217⟩ | (rw [e219]; exact ⟨b217, rfl, N0, K218, sz_b217, C217, V217⟩)) (by decide) (by decide)
def Q_rm8_2 (Z : State) (x0 x1 x2 : Int32) (h0 : Heap) (n0 : Nat) (v : Option Value) (h : Heap) (L : List Loc) : Prop := ∃ b k2, v = some (.ref b) ∧ Fr n0 L ∧ Keep h0 h [] ∧ h0.size ≤ b ∧ Exa Z h b "[C" ∧ Arv Z h b k2 .char (2 : Int32) [(.int x0), (.int x1)] (.int (0 : Int32))
theorem pn_rm8_2 : plainFor (⟨"watchword/PasswordCallbackGetPasswordPinLaw", "make", "(ICCC)[C"⟩ : MethodName) = true := plainFor_of_name (by first | (simp [plainName, overriddenIn, x]; done) | decide +kernel)
theorem d8_26 : decode method_2_code 26 = .ok (.iload_n 0, 1) := by decide +kernel
theorem d8_27 : decode method_2_code 27 = .ok (.iconst 2, 1) := by decide +kernel
theorem d8_28 : decode method_2_code 28 = .ok (.if_icmp .ne 21, 3) := by decide +kernel
theorem d8_31 : decode method_2_code 31 = .ok (.iconst 2, 1) := by decide +kernel
theorem d8_32 : decode method_2_code 32 = .ok (.newarray .char, 2) := by decide +kernel
theorem d8_34 : decode method_2_code 34 = .ok (.astore 4, 2) := by decide +kernel
theorem d8_36 : decode method_2_code 36 = .ok (.aload 4, 2) := by decide +kernel
theorem d8_38 : decode method_2_code 38 = .ok (.iconst 0, 1) := by decide +kernel
theorem d8_39 : decode method_2_code 39 = .ok (.iload_n 1, 1) := by decide +kernel
theorem d8_40 : decode method_2_code 40 = .ok (.castore, 1) := by decide +kernel
theorem d8_41 : decode method_2_code 41 = .ok (.aload 4, 2) := by decide +kernel
theorem d8_43 : decode method_2_code 43 = .ok (.iconst 1, 1) := by decide +kernel
theorem d8_44 : decode method_2_code 44 = .ok (.iload_n 2, 1) := by decide +kernel
theorem d8_45 : decode method_2_code 45 = .ok (.castore, 1) := by decide +kernel
theorem d8_46 : decode method_2_code 46 = .ok (.aload 4, 2) := by decide +kernel
theorem d8_48 : decode method_2_code 48 = .ok (.areturn, 1) := by decide +kernel
set_option maxRecDepth 65536 in
set_option maxHeartbeats 40000000 in
theorem rm8_2 (l : Launch) (Z : State) (a0 : Array Value) (hw : ∀ d ∈ tables_1, d.before a0 Z = true) (ws : List Jvm.Cond) (x0 x1 x2 : Int32) (h0 : Heap) (n0 : Nat) (Z0 : n0 ≤ h0.size) (hn0 : nar .char x0 = x0) (hn1 : nar .char x1 = x1) (hn2 : nar .char x2 = x2) :
    own_Met l Z (⟨"watchword/PasswordCallbackGetPasswordPinLaw", "make", "(ICCC)[C"⟩ : MethodName) method_2_code 5 (some (.array .char)) ws ({ frames := 0, cells := 1, slots := 2, locals := 0 } : Room) #[(.int (2 : Int32)), (.int x0), (.int x1), (.int x2)] h0 (Q_rm8_2 Z x0 x1 x2 h0 n0) := by
  refine own_enter (g0 := fun m => (mkF m 0 #[.val (.int (2 : Int32)), .val (.int x0), .val (.int x1), .val (.int x2), .unset] [])) pn_rm8_2 (fun m => by first | (simp [entryFrame, mkF, argsToLocals, Value.category, maxLocals]; done) | rfl) ?_
  intro p e s m below meth c s₁ hx hby hml hown hnm hret hlk hZ X0 e0
  have hml : c.maxLocals = 5 := hml
  have hown : s.vm.findClass "watchword/PasswordCallbackGetPasswordPinLaw" = some m.cls := hown
  have N0 := Fr.nil n0
  show own_Go p e below _ s₁ (mkF m 0 #[.val (.int (2 : Int32)), .val (.int x0), .val (.int x1), .val (.int x2), .unset] [])
  have K0 := Keep.refl h0 []
  refine own_by (fun _ k => XS.iloadN X0.here hx rfl (hb hby d8_0) rfl k) ?_
  show own_Go p e below _ s₁ (mkF m 1 #[.val (.int (2 : Int32)), .val (.int x0), .val (.int x1), .val (.int x2), .unset] [(.int (2 : Int32))])
  refine own_by (fun _ k => XS.ifYes X0.here hx rfl (pc0 := 1) (pc' := 8) rfl (hb hby d8_1) rfl ((if0 _ _).trans (feq (by decide : ¬ ((2 : Int32) = (0 : Int32)))).2) (by decide) (by decide) k) ?_
  show own_Go p e below _ s₁ (mkF m 8 #[.val (.int (2 : Int32)), .val (.int x0), .val (.int x1), .val (.int x2), .unset] [])
  refine own_by (fun _ k => XS.iloadN X0.here hx rfl (hb hby d8_8) rfl k) ?_
  show own_Go p e below _ s₁ (mkF m 9 #[.val (.int (2 : Int32)), .val (.int x0), .val (.int x1), .val (.int x2), .unset] [(.int (2 : Int32))])
  refine own_by (fun _ k => XS.iconst X0.here hx rfl (hb hby d8_9) k) ?_
  show own_Go p e below _ s₁ (mkF m 10 #[.val (.int (2 : Int32)), .val (.int x0), .val (.int x1), .val (.int x2), .unset] [(.int (1 : Int32)), (.int (2 : Int32))])
  refine own_by (fun _ k => XS.icmpYes X0.here hx rfl (pc0 := 10) (pc' := 26) rfl (hb hby d8_10) rfl (feq (by decide : ¬ ((2 : Int32) = (1 : Int32)))).2 (by decide) (by decide) k) ?_
  show own_Go p e below _ s₁ (mkF m 26 #[.val (.int (2 : Int32)), .val (.int x0), .val (.int x1), .val (.int x2), .unset] [])
  refine own_by (fun _ k => XS.iloadN X0.here hx rfl (hb hby d8_26) rfl k) ?_
  show own_Go p e below _ s₁ (mkF m 27 #[.val (.int (2 : Int32)), .val (.int x0), .val (.int x1), .val (.int x2), .unset] [(.int (2 : Int32))])
  refine own_by (fun _ k => XS.iconst X0.here hx rfl (hb hby d8_27) k) ?_
  show own_Go p e below _ s₁ (mkF m 28 #[.val (.int (2 : Int32)), .val (.int x0), .val (.int x1), .val (.int x2), .unset] [(.int (2 : Int32)), (.int (2 : Int32))])
  refine own_by (fun _ k => XS.icmpNo X0.here hx rfl (hb hby d8_28) rfl (teq (by decide : (2 : Int32) = (2 : Int32))).2 k) ?_
  show own_Go p e below _ s₁ (mkF m 31 #[.val (.int (2 : Int32)), .val (.int x0), .val (.int x1), .val (.int x2), .unset] [])
  refine own_by (fun _ k => XS.iconst X0.here hx rfl (hb hby d8_31) k) ?_
  show own_Go p e below _ s₁ (mkF m 32 #[.val (.int (2 : Int32)), .val (.int x0), .val (.int x1), .val (.int x2), .unset] [(.int (2 : Int32))])
  obtain ⟨T220, h220, k220, X220, e220, E220, A220, C220, st220⟩ := newPE X0 hx hZ (hw _ (List.mem_of_getElem? (i := 48) rfl)) e0 (g := (mkF m 32 #[.val (.int (2 : Int32)), .val (.int x0), .val (.int x1), .val (.int x2), .unset] [(.int (2 : Int32))])) rfl (hb hby d8_32) rfl (by decide) (cap := 2) (by decide) (by decide) (by decide) (by decide) (ad := "[C") (by decide)
  obtain ⟨b220, g220⟩ : ∃ z, z = h0.size := ⟨_, rfl⟩
  rw [← g220] at A220 C220 st220
  have og_b220 : n0 ≤ b220 := Nat.le_trans Z0 (Nat.le_of_eq g220.symm)
  have sz_b220 : h0.size ≤ b220 := Nat.le_trans K0.1 (Nat.le_of_eq g220.symm)
  have Z220 : n0 ≤ h220.size := Nat.le_trans Z0 E220.1
  have K221 := K0.ext E220
  have V220 : Arv Z h220 b220 k220 .char (2 : Int32) [(.int (0 : Int32)), (.int (0 : Int32))] (.int (0 : Int32)) := (Arv.new A220 (by decide)).pad (pad_rep [] (.int (0 : Int32)) 2)
  refine own_by st220 ?_
  show own_Go p e below _ T220 (mkF m 34 #[.val (.int (2 : Int32)), .val (.int x0), .val (.int x1), .val (.int x2), .unset] [(.ref b220)])
  refine own_by (fun _ k => XS.astore X220.here hx rfl (hb hby d8_34) rfl rfl (l' := #[.val (.int (2 : Int32)), .val (.int x0), .val (.int x1), .val (.int x2), .val (.ref b220)]) rfl k) ?_
  show own_Go p e below _ T220 (mkF m 36 #[.val (.int (2 : Int32)), .val (.int x0), .val (.int x1), .val (.int x2), .val (.ref b220)] [])
  refine own_by (fun _ k => XS.aload X220.here hx rfl (hb hby d8_36) rfl rfl k) ?_
  show own_Go p e below _ T220 (mkF m 38 #[.val (.int (2 : Int32)), .val (.int x0), .val (.int x1), .val (.int x2), .val (.ref b220)] [(.ref b220)])
  refine own_by (fun _ k => XS.iconst X220.here hx rfl (hb hby d8_38) k) ?_
  show own_Go p e below _ T220 (mkF m 39 #[.val (.int (2 : Int32)), .val (.int x0), .val (.int x1), .val (.int x2), .val (.ref b220)] [(.int (0 : Int32)), (.ref b220)])
  refine own_by (fun _ k => XS.iloadN X220.here hx rfl (hb hby d8_39) rfl k) ?_
  show own_Go p e below _ T220 (mkF m 40 #[.val (.int (2 : Int32)), .val (.int x0), .val (.int x1), .val (.int x2), .val (.ref b220)] [(.int x0), (.int (0 : Int32)), (.ref b220)])
  obtain ⟨cl222, Ar222, cq222, hin222, hat222, set222⟩ := own_arv V220 (j := (0 : Int32)) ⟨by decide, by decide⟩
  obtain ⟨T223, h223, X223, e223, W223, st223⟩ := stC X220 hx hZ e220 Ar222 (j := (0 : Int32)) hin222 (g := (mkF m 40 #[.val (.int (2 : Int32)), .val (.int x0), .val (.int x1), .val (.int x2), .val (.ref b220)] [(.int x0), (.int (0 : Int32)), (.ref b220)])) rfl rfl (hb hby d8_40)
  have wq223 : nar .char x0 = x0 := hn0
  rw [wq223] at W223
  have wf223 : fits .char (.int x0) = true := wq223 ▸ (fits_nar_char _)
  have V223 : Arv Z h223 b220 k220 .char (2 : Int32) [(.int x0), (.int (0 : Int32))] (.int (0 : Int32)) := set222 wf223 W223 0 rfl (Nat.le_of_ble_eq_true rfl)
  have N223 := Fr.snoc X223 N0 og_b220
  have K224 := K221.wr W223 (Or.inr sz_b220)
  have Z223 : n0 ≤ h223.size := Nat.le_trans Z220 (Keep.of_wr W223).1
  refine own_by st223 ?_
  show own_Go p e below _ T223 (mkF m 41 #[.val (.int (2 : Int32)), .val (.int x0), .val (.int x1), .val (.int x2), .val (.ref b220)] [])
  refine own_by (fun _ k => XS.aload X223.here hx rfl (hb hby d8_41) rfl rfl k) ?_
  show own_Go p e below _ T223 (mkF m 43 #[.val (.int (2 : Int32)), .val (.int x0), .val (.int x1), .val (.int x2), .val (.ref b220)] [(.ref b220)])
  refine own_by (fun _ k => XS.iconst X223.here hx rfl (hb hby d8_43) k) ?_
  show own_Go p e below _ T223 (mkF m 44 #[.val (.int (2 : Int32)), .val (.int x0), .val (.int x1), .val (.int x2), .val (.ref b220)] [(.int (1 : Int32)), (.ref b220)])
  refine own_by (fun _ k => XS.iloadN X223.here hx rfl (hb hby d8_44) rfl k) ?_
  show own_Go p e below _ T223 (mkF m 45 #[.val (.int (2 : Int32)), .val (.int x0), .val (.int x1), .val (.int x2), .val (.ref b220)] [(.int x1), (.int (1 : Int32)), (.ref b220)])
  obtain ⟨cl225, Ar225, cq225, hin225, hat225, set225⟩ := own_arv V223 (j := (1 : Int32)) ⟨by decide, by decide⟩
  obtain ⟨T226, h226, X226, e226, W226, st226⟩ := stC X223 hx hZ e223 Ar225 (j := (1 : Int32)) hin225 (g := (mkF m 45 #[.val (.int (2 : Int32)), .val (.int x0), .val (.int x1), .val (.int x2), .val (.ref b220)] [(.int x1), (.int (1 : Int32)), (.ref b220)])) rfl rfl (hb hby d8_45)
  have wq226 : nar .char x1 = x1 := hn1
  rw [wq226] at W226
  have wf226 : fits .char (.int x1) = true := wq226 ▸ (fits_nar_char _)
  have V226 : Arv Z h226 b220 k220 .char (2 : Int32) [(.int x0), (.int x1)] (.int (0 : Int32)) := set225 wf226 W226 1 rfl (Nat.le_of_ble_eq_true rfl)
  have N226 := Fr.snoc X226 N223 og_b220
  have K227 := K224.wr W226 (Or.inr sz_b220)
  have Z226 : n0 ≤ h226.size := Nat.le_trans Z223 (Keep.of_wr W226).1
  refine own_by st226 ?_
  show own_Go p e below _ T226 (mkF m 46 #[.val (.int (2 : Int32)), .val (.int x0), .val (.int x1), .val (.int x2), .val (.ref b220)] [])
  refine own_by (fun _ k => XS.aload X226.here hx rfl (hb hby d8_46) rfl rfl k) ?_
  show own_Go p e below _ T226 (mkF m 48 #[.val (.int (2 : Int32)), .val (.int x0), .val (.int x1), .val (.int x2), .val (.ref b220)] [(.ref b220)])
  have f228 := ((C220.wr W223).wr W226)
  exact own_retA X226 hx hlk hret rfl rfl (hb hby d8_48) (by first | exact ⟨b220, k220, rfl, N226, K227, sz_b220, f228, V226⟩ | (rw [e226]; exact ⟨b220, k220, rfl, N226, K227, sz_b220, f228, V226⟩)) (by decide) (by decide)
def Q_rm13_2 (Z : State) (q : Addr) (k2 : ClassId) (x0 x1 : Int32) (h0 : Heap) (n0 : Nat) (v : Option Value) (h : Heap) (L : List Loc) : Prop := v = none ∧ Fr n0 L ∧ Keep h0 h [q]
theorem pn_rm13_2 : plainFor (⟨"java/util/Arrays", "fill", "([CC)V"⟩ : MethodName) = true := plainFor_of_name (by first | (simp [plainName, overriddenIn, x]; done) | decide +kernel)
set_option maxRecDepth 65536 in
set_option maxHeartbeats 40000000 in
theorem rm13_2 (l : Launch) (Z : State) (a0 : Array Value) (hw : ∀ d ∈ tables_1, d.before a0 Z = true) (ws : List Jvm.Cond) (q : Addr) (k2 : ClassId) (x0 x1 : Int32) (h0 : Heap) (n0 : Nat) (Z0 : n0 ≤ h0.size) (g1 : n0 ≤ q) (V1 : Arv Z h0 q k2 .char (2 : Int32) [(.int x0), (.int x1)] (.int (0 : Int32))) :
    own_Met l Z (⟨"java/util/Arrays", "fill", "([CC)V"⟩ : MethodName) jdk_65_method_107_code 4 none ws ({ frames := 0, cells := 0, slots := 0, locals := 0 } : Room) #[(.ref q), (.int (0 : Int32))] h0 (Q_rm13_2 Z q k2 x0 x1 h0 n0) := by
  refine own_enter (g0 := fun m => (mkF m 0 #[.val (.ref q), .val (.int (0 : Int32)), .unset, .unset] [])) pn_rm13_2 (fun m => by first | (simp [entryFrame, mkF, argsToLocals, Value.category, maxLocals]; done) | rfl) ?_
  intro p e s m below meth c s₁ hx hby hml hown hnm hret hlk hZ X0 e0
  have hml : c.maxLocals = 4 := hml
  have hown : s.vm.findClass "java/util/Arrays" = some m.cls := hown
  have N0 := Fr.nil n0
  show own_Go p e below _ s₁ (mkF m 0 #[.val (.ref q), .val (.int (0 : Int32)), .unset, .unset] [])
  have K0 := Keep.refl h0 [q]
  refine own_by (fun _ k => XS.iconst X0.here hx rfl (hb hby d13_0) k) ?_
  show own_Go p e below _ s₁ (mkF m 1 #[.val (.ref q), .val (.int (0 : Int32)), .unset, .unset] [(.int (0 : Int32))])
  refine own_by (fun _ k => XS.istoreN X0.here hx rfl (hb hby d13_1) rfl (l' := #[.val (.ref q), .val (.int (0 : Int32)), .val (.int (0 : Int32)), .unset]) rfl k) ?_
  show own_Go p e below _ s₁ (mkF m 2 #[.val (.ref q), .val (.int (0 : Int32)), .val (.int (0 : Int32)), .unset] [])
  refine own_by (fun _ k => XS.aloadN X0.here hx rfl (hb hby d13_2) rfl rfl k) ?_
  show own_Go p e below _ s₁ (mkF m 3 #[.val (.ref q), .val (.int (0 : Int32)), .val (.int (0 : Int32)), .unset] [(.ref q)])
  obtain ⟨cl229, Ar229, len229⟩ := own_len V1
  refine own_by (T' := s₁) (g' := (mkF m 4 #[.val (.ref q), .val (.int (0 : Int32)), .val (.int (0 : Int32)), .unset] [(.int (2 : Int32))])) (fun _ k => X0.arraylength hx (by rw [e0]; exact Ar229.1) (State.isArrayOf_alike hZ.alike Ar229.2.1) (g := (mkF m 3 #[.val (.ref q), .val (.int (0 : Int32)), .val (.int (0 : Int32)), .unset] [(.ref q)])) rfl rfl (hb hby d13_3) _ (by rw [len229]; exact k)) ?_
  refine own_by (fun _ k => XS.istoreN X0.here hx rfl (hb hby d13_4) rfl (l' := #[.val (.ref q), .val (.int (0 : Int32)), .val (.int (0 : Int32)), .val (.int (2 : Int32))]) rfl k) ?_
  show own_Go p e below _ s₁ (mkF m 5 #[.val (.ref q), .val (.int (0 : Int32)), .val (.int (0 : Int32)), .val (.int (2 : Int32))] [])
  refine own_by (fun _ k => XS.iloadN X0.here hx rfl (hb hby d13_5) rfl k) ?_
  show own_Go p e below _ s₁ (mkF m 6 #[.val (.ref q), .val (.int (0 : Int32)), .val (.int (0 : Int32)), .val (.int (2 : Int32))] [(.int (0 : Int32))])
  refine own_by (fun _ k => XS.iloadN X0.here hx rfl (hb hby d13_6) rfl k) ?_
  show own_Go p e below _ s₁ (mkF m 7 #[.val (.ref q), .val (.int (0 : Int32)), .val (.int (0 : Int32)), .val (.int (2 : Int32))] [(.int (2 : Int32)), (.int (0 : Int32))])
  refine own_by (fun _ k => XS.icmpNo X0.here hx rfl (hb hby d13_7) rfl (tlt (by decide : (0 : Int32) < (2 : Int32))).2.1 k) ?_
  show own_Go p e below _ s₁ (mkF m 10 #[.val (.ref q), .val (.int (0 : Int32)), .val (.int (0 : Int32)), .val (.int (2 : Int32))] [])
  refine own_by (fun _ k => XS.aloadN X0.here hx rfl (hb hby d13_10) rfl rfl k) ?_
  show own_Go p e below _ s₁ (mkF m 11 #[.val (.ref q), .val (.int (0 : Int32)), .val (.int (0 : Int32)), .val (.int (2 : Int32))] [(.ref q)])
  refine own_by (fun _ k => XS.iloadN X0.here hx rfl (hb hby d13_11) rfl k) ?_
  show own_Go p e below _ s₁ (mkF m 12 #[.val (.ref q), .val (.int (0 : Int32)), .val (.int (0 : Int32)), .val (.int (2 : Int32))] [(.int (0 : Int32)), (.ref q)])
  refine own_by (fun _ k => XS.iloadN X0.here hx rfl (hb hby d13_12) rfl k) ?_
  show own_Go p e below _ s₁ (mkF m 13 #[.val (.ref q), .val (.int (0 : Int32)), .val (.int (0 : Int32)), .val (.int (2 : Int32))] [(.int (0 : Int32)), (.int (0 : Int32)), (.ref q)])
  obtain ⟨cl230, Ar230, cq230, hin230, hat230, set230⟩ := own_arv V1 (j := (0 : Int32)) ⟨by decide, by decide⟩
  obtain ⟨T231, h231, X231, e231, W231, st231⟩ := stC X0 hx hZ e0 Ar230 (j := (0 : Int32)) hin230 (g := (mkF m 13 #[.val (.ref q), .val (.int (0 : Int32)), .val (.int (0 : Int32)), .val (.int (2 : Int32))] [(.int (0 : Int32)), (.int (0 : Int32)), (.ref q)])) rfl rfl (hb hby d13_13)
  have wq231 : nar .char (0 : Int32) = (0 : Int32) := rfl
  rw [wq231] at W231
  have wf231 : fits .char (.int (0 : Int32)) = true := wq231 ▸ (fits_nar_char _)
  have V231 : Arv Z h231 q k2 .char (2 : Int32) [(.int (0 : Int32)), (.int x1)] (.int (0 : Int32)) := set230 wf231 W231 0 rfl (Nat.le_of_ble_eq_true rfl)
  have N231 := Fr.snoc X231 N0 g1
  have K232 := K0.wr W231 (Or.inl (List.mem_of_getElem? (i := 0) rfl))
  have Z231 : n0 ≤ h231.size := Nat.le_trans Z0 (Keep.of_wr W231).1
  refine own_by st231 ?_
  show own_Go p e below _ T231 (mkF m 14 #[.val (.ref q), .val (.int (0 : Int32)), .val (.int (0 : Int32)), .val (.int (2 : Int32))] [])
  refine own_by (fun _ k => XS.iinc X231.here hx rfl (hb hby d13_14) rfl (l' := #[.val (.ref q), .val (.int (0 : Int32)), .val (.int ((0 : Int32) + (1 : Int32))), .val (.int (2 : Int32))]) rfl k) ?_
  show own_Go p e below _ T231 (mkF m 17 #[.val (.ref q), .val (.int (0 : Int32)), .val (.int ((0 : Int32) + (1 : Int32))), .val (.int (2 : Int32))] [])
  rw [show (0 : Int32) + (1 : Int32) = (1 : Int32) from by decide]
  show own_Go p e below _ T231 (mkF m 17 #[.val (.ref q), .val (.int (0 : Int32)), .val (.int (1 : Int32)), .val (.int (2 : Int32))] [])
  refine own_by (fun _ k => XS.goto X231.here hx rfl (pc0 := 17) (pc' := 5) rfl (hb hby d13_17) (by decide) (by decide) k) ?_
  show own_Go p e below _ T231 (mkF m 5 #[.val (.ref q), .val (.int (0 : Int32)), .val (.int (1 : Int32)), .val (.int (2 : Int32))] [])
  refine own_by (fun _ k => XS.iloadN X231.here hx rfl (hb hby d13_5) rfl k) ?_
  show own_Go p e below _ T231 (mkF m 6 #[.val (.ref q), .val (.int (0 : Int32)), .val (.int (1 : Int32)), .val (.int (2 : Int32))] [(.int (1 : Int32))])
  refine own_by (fun _ k => XS.iloadN X231.here hx rfl (hb hby d13_6) rfl k) ?_
  show own_Go p e below _ T231 (mkF m 7 #[.val (.ref q), .val (.int (0 : Int32)), .val (.int (1 : Int32)), .val (.int (2 : Int32))] [(.int (2 : Int32)), (.int (1 : Int32))])
  refine own_by (fun _ k => XS.icmpNo X231.here hx rfl (hb hby d13_7) rfl (tlt (by decide : (1 : Int32) < (2 : Int32))).2.1 k) ?_
  show own_Go p e below _ T231 (mkF m 10 #[.val (.ref q), .val (.int (0 : Int32)), .val (.int (1 : Int32)), .val (.int (2 : Int32))] [])
  refine own_by (fun _ k => XS.aloadN X231.here hx rfl (hb hby d13_10) rfl rfl k) ?_
  show own_Go p e below _ T231 (mkF m 11 #[.val (.ref q), .val (.int (0 : Int32)), .val (.int (1 : Int32)), .val (.int (2 : Int32))] [(.ref q)])
  refine own_by (fun _ k => XS.iloadN X231.here hx rfl (hb hby d13_11) rfl k) ?_
  show own_Go p e below _ T231 (mkF m 12 #[.val (.ref q), .val (.int (0 : Int32)), .val (.int (1 : Int32)), .val (.int (2 : Int32))] [(.int (1 : Int32)), (.ref q)])
  refine own_by (fun _ k => XS.iloadN X231.here hx rfl (hb hby d13_12) rfl k) ?_
  show own_Go p e below _ T231 (mkF m 13 #[.val (.ref q), .val (.int (0 : Int32)), .val (.int (1 : Int32)), .val (.int (2 : Int32))] [(.int (0 : Int32)), (.int (1 : Int32)), (.ref q)])
  obtain ⟨cl233, Ar233, cq233, hin233, hat233, set233⟩ := own_arv V231 (j := (1 : Int32)) ⟨by decide, by decide⟩
  obtain ⟨T234, h234, X234, e234, W234, st234⟩ := stC X231 hx hZ e231 Ar233 (j := (1 : Int32)) hin233 (g := (mkF m 13 #[.val (.ref q), .val (.int (0 : Int32)), .val (.int (1 : Int32)), .val (.int (2 : Int32))] [(.int (0 : Int32)), (.int (1 : Int32)), (.ref q)])) rfl rfl (hb hby d13_13)
  have wq234 : nar .char (0 : Int32) = (0 : Int32) := rfl
  rw [wq234] at W234
  have wf234 : fits .char (.int (0 : Int32)) = true := wq234 ▸ (fits_nar_char _)
  have V234 : Arv Z h234 q k2 .char (2 : Int32) [(.int (0 : Int32)), (.int (0 : Int32))] (.int (0 : Int32)) := set233 wf234 W234 1 rfl (Nat.le_of_ble_eq_true rfl)
  have N234 := Fr.snoc X234 N231 g1
  have K235 := K232.wr W234 (Or.inl (List.mem_of_getElem? (i := 0) rfl))
  have Z234 : n0 ≤ h234.size := Nat.le_trans Z231 (Keep.of_wr W234).1
  refine own_by st234 ?_
  show own_Go p e below _ T234 (mkF m 14 #[.val (.ref q), .val (.int (0 : Int32)), .val (.int (1 : Int32)), .val (.int (2 : Int32))] [])
  refine own_by (fun _ k => XS.iinc X234.here hx rfl (hb hby d13_14) rfl (l' := #[.val (.ref q), .val (.int (0 : Int32)), .val (.int ((1 : Int32) + (1 : Int32))), .val (.int (2 : Int32))]) rfl k) ?_
  show own_Go p e below _ T234 (mkF m 17 #[.val (.ref q), .val (.int (0 : Int32)), .val (.int ((1 : Int32) + (1 : Int32))), .val (.int (2 : Int32))] [])
  rw [show (1 : Int32) + (1 : Int32) = (2 : Int32) from by decide]
  show own_Go p e below _ T234 (mkF m 17 #[.val (.ref q), .val (.int (0 : Int32)), .val (.int (2 : Int32)), .val (.int (2 : Int32))] [])
  refine own_by (fun _ k => XS.goto X234.here hx rfl (pc0 := 17) (pc' := 5) rfl (hb hby d13_17) (by decide) (by decide) k) ?_
  show own_Go p e below _ T234 (mkF m 5 #[.val (.ref q), .val (.int (0 : Int32)), .val (.int (2 : Int32)), .val (.int (2 : Int32))] [])
  refine own_by (fun _ k => XS.iloadN X234.here hx rfl (hb hby d13_5) rfl k) ?_
  show own_Go p e below _ T234 (mkF m 6 #[.val (.ref q), .val (.int (0 : Int32)), .val (.int (2 : Int32)), .val (.int (2 : Int32))] [(.int (2 : Int32))])
  refine own_by (fun _ k => XS.iloadN X234.here hx rfl (hb hby d13_6) rfl k) ?_
  show own_Go p e below _ T234 (mkF m 7 #[.val (.ref q), .val (.int (0 : Int32)), .val (.int (2 : Int32)), .val (.int (2 : Int32))] [(.int (2 : Int32)), (.int (2 : Int32))])
  refine own_by (fun _ k => XS.icmpYes X234.here hx rfl (pc0 := 7) (pc' := 20) rfl (hb hby d13_7) rfl (flt (by decide : ¬ ((2 : Int32) < (2 : Int32)))).2.1 (by decide) (by decide) k) ?_
  show own_Go p e below _ T234 (mkF m 20 #[.val (.ref q), .val (.int (0 : Int32)), .val (.int (2 : Int32)), .val (.int (2 : Int32))] [])
  exact own_ret0 X234 hx hlk hret (hb hby d13_20) (by first | exact ⟨rfl, N234, K235⟩ | (rw [e234]; exact ⟨rfl, N234, K235⟩)) (by decide) (by decide)
def Q_rm10_2 (Z : State) (a1 q : Addr) (k2 : ClassId) (x0 x1 : Int32) (h0 : Heap) (n0 : Nat) (v : Option Value) (h : Heap) (L : List Loc) : Prop := v = none ∧ Fr n0 L ∧ Keep h0 h [a1, q] ∧ Exa Z h a1 "watchword/PasswordCallback" ∧ Fld Z h a1 "watchword/PasswordCallback" "password" "[C" .null
theorem pn_rm10_2 : plainFor (⟨"watchword/PasswordCallback", "clearPassword", "()V"⟩ : MethodName) = true := plainFor_of_name (by first | (simp [plainName, overriddenIn, x]; done) | decide +kernel)
set_option maxRecDepth 65536 in
set_option maxHeartbeats 40000000 in
theorem rm10_2 (l : Launch) (Z : State) (a0 : Array Value) (hw : ∀ d ∈ tables_1, d.before a0 Z = true) (ws : List Jvm.Cond) (a1 q : Addr) (k2 : ClassId) (x0 x1 : Int32) (h0 : Heap) (n0 : Nat) (Z0 : n0 ≤ h0.size) (g1 : n0 ≤ a1) (g2 : n0 ≤ q) (hne : a1 ≠ q) (E1 : Exa Z h0 a1 "watchword/PasswordCallback") (F1 : Fld Z h0 a1 "watchword/PasswordCallback" "password" "[C" (.ref q)) (V1 : Arv Z h0 q k2 .char (2 : Int32) [(.int x0), (.int x1)] (.int (0 : Int32))) :
    own_Met l Z (⟨"watchword/PasswordCallback", "clearPassword", "()V"⟩ : MethodName) prog_50_method_6_code 1 none ws ({ frames := 1, cells := 0, slots := 0, locals := 16 } : Room) #[(.ref a1)] h0 (Q_rm10_2 Z a1 q k2 x0 x1 h0 n0) := by
  refine own_enter (g0 := fun m => (mkF m 0 #[.val (.ref a1)] [])) pn_rm10_2 (fun m => by first | (simp [entryFrame, mkF, argsToLocals, Value.category, maxLocals]; done) | rfl) ?_
  intro p e s m below meth c s₁ hx hby hml hown hnm hret hlk hZ X0 e0
  have hml : c.maxLocals = 1 := hml
  have hown : s.vm.findClass "watchword/PasswordCallback" = some m.cls := hown
  have N0 := Fr.nil n0
  show own_Go p e below _ s₁ (mkF m 0 #[.val (.ref a1)] [])
  have K0 := Keep.refl h0 [a1, q]
  refine own_by (fun _ k => XS.aloadN X0.here hx rfl (hb hby d10_0) rfl rfl k) ?_
  show own_Go p e below _ s₁ (mkF m 1 #[.val (.ref a1)] [(.ref a1)])
  obtain ⟨T236, X236, e236, st236⟩ := getF X0 hx hZ hown (host := "") (Or.inl (hw _ (List.mem_of_getElem? (i := 42) rfl))) Via.refl e0 F1 (g := (mkF m 1 #[.val (.ref a1)] [(.ref a1)])) rfl rfl (hb hby d10_1)
  refine own_by st236 ?_
  show own_Go p e below _ T236 (mkF m 4 #[.val (.ref a1)] [(.ref q)])
  refine own_by (fun _ k => XS.ifnullNo X236.here hx rfl (hb hby d10_4) rfl k) ?_
  show own_Go p e below _ T236 (mkF m 7 #[.val (.ref a1)] [])
  refine own_by (fun _ k => XS.aloadN X236.here hx rfl (hb hby d10_7) rfl rfl k) ?_
  show own_Go p e below _ T236 (mkF m 8 #[.val (.ref a1)] [(.ref a1)])
  obtain ⟨T237, X237, e237, st237⟩ := getF X236 hx hZ hown (host := "") (Or.inl (hw _ (List.mem_of_getElem? (i := 42) rfl))) Via.refl e236 F1 (g := (mkF m 8 #[.val (.ref a1)] [(.ref a1)])) rfl rfl (hb hby d10_8)
  refine own_by st237 ?_
  show own_Go p e below _ T237 (mkF m 11 #[.val (.ref a1)] [(.ref q)])
  refine own_by (fun _ k => XS.iconst X237.here hx rfl (hb hby d10_11) k) ?_
  show own_Go p e below _ T237 (mkF m 12 #[.val (.ref a1)] [(.int (0 : Int32)), (.ref q)])
  obtain ⟨_, T238, L238, X238, ⟨rfl, N238q, Kf⟩, st238⟩ := own_callS X237 hx hZ hown (y := (⟨"java/util/Arrays", "fill", "([CC)V"⟩ : MethodName)) (hw _ (List.mem_of_getElem? (i := 74) rfl)) (hw _ (List.mem_of_getElem? (i := 75) rfl)) (hw _ (List.mem_of_getElem? (i := 76) rfl)) (hw _ (List.mem_of_getElem? (i := 77) rfl)) (by decide) (argsL := [(.ref q), (.int (0 : Int32))]) (rest := []) e237 (rm13_2 l Z a0 hw [] q k2 x0 x1 h0 n0 Z0 g2 V1) (g := (mkF m 12 #[.val (.ref a1)] [(.int (0 : Int32)), (.ref q)])) rfl (by rw [hml]; rfl) (lenOf pd_3 rfl) rfl (W := 0) (by show 2 * 0 + _ ≤ _; exact Nat.le_of_eq rfl) (hb hby d10_12) (by decide) (by decide) (by decide) (by decide)
  have N238 := Fr.app N0 N238q
  refine own_by st238 ?_
  show own_Go p e below _ T238 (mkF m 15 #[.val (.ref a1)] [])
  have Z238 : n0 ≤ T238.heap.size := Nat.le_trans Z0 Kf.1
  have K238c := K0.trans Kf (allS (Or.inl (List.mem_of_getElem? (i := 1) rfl)) all0)
  refine own_by (fun _ k => XS.aloadN X238.here hx rfl (hb hby d10_15) rfl rfl k) ?_
  show own_Go p e below _ T238 (mkF m 16 #[.val (.ref a1)] [(.ref a1)])
  refine own_by (fun _ k => XS.aconstNull X238.here hx rfl (hb hby d10_16) k) ?_
  show own_Go p e below _ T238 (mkF m 17 #[.val (.ref a1)] [.null, (.ref a1)])
  have f240 := (F1.keep Kf (ninS hne nin0))
  have f241 := (E1.keep Kf)
  obtain ⟨T239, h239, X239, e239, W239, st239⟩ := putF X238 hx hZ hown (host := "") (Or.inl (hw _ (List.mem_of_getElem? (i := 42) rfl))) Via.refl rfl f240 f241 (Or.inl (hw _ (List.mem_of_getElem? (i := 43) rfl))) (hw _ (List.mem_of_getElem? (i := 27) rfl)) (ty := (.array .char)) (by decide) rfl rfl (g := (mkF m 17 #[.val (.ref a1)] [.null, (.ref a1)])) rfl rfl (hb hby d10_17)
  refine own_by st239 ?_
  have N239 := Fr.snoc X239 N238 g1
  have fw239 := f240.same W239
  have K242 := K238c.wr W239 (Or.inl (List.mem_of_getElem? (i := 0) rfl))
  have Z239 : n0 ≤ h239.size := Nat.le_trans Z238 (Keep.of_wr W239).1
  show own_Go p e below _ T239 (mkF m 20 #[.val (.ref a1)] [])
  have f243 := (f241.wr W239)
  exact own_ret0 X239 hx hlk hret (hb hby d10_20) (by first | exact ⟨rfl, N239, K242, f243, fw239⟩ | (rw [e239]; exact ⟨rfl, N239, K242, f243, fw239⟩)) (by decide) (by decide)
def Q_rm9_2 (Z : State) (a1 q : Addr) (k2 : ClassId) (x0 x1 : Int32) (h0 : Heap) (n0 : Nat) (v : Option Value) (h : Heap) (L : List Loc) : Prop := ∃ b, v = none ∧ Fr n0 L ∧ Keep h0 h [a1] ∧ h0.size ≤ b ∧ Exa Z h a1 "watchword/PasswordCallback" ∧ Fld Z h a1 "watchword/PasswordCallback" "password" "[C" (.ref b) ∧ Exa Z h b "[C" ∧ Arv Z h b k2 .char (2 : Int32) [(.int x0), (.int x1)] (.int (0 : Int32))
theorem pn_rm9_2 : plainFor (⟨"watchword/PasswordCallback", "setPassword", "([C)V"⟩ : MethodName) = true := plainFor_of_name (by first | (simp [plainName, overriddenIn, x]; done) | decide +kernel)
set_option maxRecDepth 65536 in
set_option maxHeartbeats 40000000 in
theorem rm9_2 (l : Launch) (Z : State) (a0 : Array Value) (hw : ∀ d ∈ tables_1, d.before a0 Z = true) (ws : List Jvm.Cond) (a1 q : Addr) (k2 : ClassId) (x0 x1 : Int32) (h0 : Heap) (n0 : Nat) (Z0 : n0 ≤ h0.size) (g1 : n0 ≤ a1) (E1 : Exa Z h0 a1 "watchword/PasswordCallback") (F1 : Fld Z h0 a1 "watchword/PasswordCallback" "password" "[C" .null) (V1 : Arv Z h0 q k2 .char (2 : Int32) [(.int x0), (.int x1)] (.int (0 : Int32))) (E2 : Exa Z h0 q "[C") :
    own_Met l Z (⟨"watchword/PasswordCallback", "setPassword", "([C)V"⟩ : MethodName) prog_50_method_4_code 2 none ws ({ frames := 1, cells := 1, slots := 2, locals := 16 } : Room) #[(.ref a1), (.ref q)] h0 (Q_rm9_2 Z a1 q k2 x0 x1 h0 n0) := by
  refine own_enter (g0 := fun m => (mkF m 0 #[.val (.ref a1), .val (.ref q)] [])) pn_rm9_2 (fun m => by first | (simp [entryFrame, mkF, argsToLocals, Value.category, maxLocals]; done) | rfl) ?_
  intro p e s m below meth c s₁ hx hby hml hown hnm hret hlk hZ X0 e0
  have hml : c.maxLocals = 2 := hml
  have hown : s.vm.findClass "watchword/PasswordCallback" = some m.cls := hown
  have N0 := Fr.nil n0
  show own_Go p e below _ s₁ (mkF m 0 #[.val (.ref a1), .val (.ref q)] [])
  have K0 := Keep.refl h0 [a1]
  refine own_by (fun _ k => XS.aloadN X0.here hx rfl (hb hby d9_0) rfl rfl k) ?_
  show own_Go p e below _ s₁ (mkF m 1 #[.val (.ref a1), .val (.ref q)] [(.ref a1)])
  obtain ⟨_, T244, L244, X244, ⟨rfl, N244q, e244⟩, st244⟩ := own_callV X0 hx hZ hown (y := (⟨"watchword/PasswordCallback", "clearPassword", "()V"⟩ : MethodName)) (C := "watchword/PasswordCallback") (hw _ (List.mem_of_getElem? (i := 54) rfl)) (hw _ (List.mem_of_getElem? (i := 55) rfl)) (hw _ (List.mem_of_getElem? (i := 57) rfl)) (hw _ (List.mem_of_getElem? (i := 56) rfl)) (hw _ (List.mem_of_getElem? (i := 28) rfl)) (hw _ (List.mem_of_getElem? (i := 58) rfl)) (by decide) (a := a1) E1 (argsL := []) (rest := []) e0 (rm10z l Z a0 hw [] a1 h0 n0 Z0 F1) (g := (mkF m 1 #[.val (.ref a1), .val (.ref q)] [(.ref a1)])) rfl (by rw [hml]; rfl) (lenOf pd_4 rfl) rfl (W := 0) (by show 2 * 0 + _ ≤ _; exact Nat.le_of_eq rfl) (hb hby d9_1) (by decide) (by decide) (by decide) (by decide)
  have N244 := Fr.app N0 N244q
  refine own_by st244 ?_
  show own_Go p e below _ T244 (mkF m 4 #[.val (.ref a1), .val (.ref q)] [])
  refine own_by (fun _ k => XS.aloadN X244.here hx rfl (hb hby d9_4) rfl rfl k) ?_
  show own_Go p e below _ T244 (mkF m 5 #[.val (.ref a1), .val (.ref q)] [(.ref a1)])
  refine own_by (fun _ k => XS.aloadN X244.here hx rfl (hb hby d9_5) rfl rfl k) ?_
  show own_Go p e below _ T244 (mkF m 6 #[.val (.ref a1), .val (.ref q)] [(.ref q), (.ref a1)])
  refine own_by (fun _ k => XS.ifnonnullYes X244.here hx rfl (pc0 := 6) (pc' := 13) rfl (hb hby d9_6) rfl (by decide) (by decide) k) ?_
  show own_Go p e below _ T244 (mkF m 13 #[.val (.ref a1), .val (.ref q)] [(.ref a1)])
  refine own_by (fun _ k => XS.aloadN X244.here hx rfl (hb hby d9_13) rfl rfl k) ?_
  show own_Go p e below _ T244 (mkF m 14 #[.val (.ref a1), .val (.ref q)] [(.ref q), (.ref a1)])
  obtain ⟨T245, h245, X245, e245, E245, A245, C245, st245⟩ := cloneH X244 hx hZ hown (hw _ (List.mem_of_getElem? (i := 59) rfl)) (hw _ (List.mem_of_getElem? (i := 60) rfl)) (hw _ (List.mem_of_getElem? (i := 64) rfl)) (hw _ (List.mem_of_getElem? (i := 62) rfl)) (hw _ (List.mem_of_getElem? (i := 63) rfl)) (hw _ (List.mem_of_getElem? (i := 65) rfl)) e244 (hs := []) V1 E2 (g := (mkF m 14 #[.val (.ref a1), .val (.ref q)] [(.ref q), (.ref a1)])) rfl (by rw [hml]; rfl) rfl (hb hby d9_14) (by decide) (W := 1) (cap := 2) (by show 2 * 0 + _ ≤ _; exact Nat.le_of_eq rfl) (by decide) (by decide) (by decide) (by decide)
  obtain ⟨b245, g245⟩ : ∃ z, z = h0.size := ⟨_, rfl⟩
  rw [← g245] at A245 C245 st245
  have ne_a1_b245 : a1 ≠ b245 := Nat.ne_of_lt (Nat.lt_of_lt_of_le F1.lt (Nat.le_of_eq g245.symm))
  have ne_q_b245 : q ≠ b245 := Nat.ne_of_lt (Nat.lt_of_lt_of_le V1.lt (Nat.le_of_eq g245.symm))
  have og_b245 : n0 ≤ b245 := Nat.le_trans Z0 (Nat.le_of_eq g245.symm)
  have sz_b245 : h0.size ≤ b245 := Nat.le_trans K0.1 (Nat.le_of_eq g245.symm)
  have Z245 : n0 ≤ h245.size := Nat.le_trans Z0 E245.1
  have K246 := K0.ext E245
  have V245 : Arv Z h245 b245 k2 .char (2 : Int32) [(.int x0), (.int x1)] (.int (0 : Int32)) := A245
  refine own_by st245 ?_
  show own_Go p e below _ T245 (mkF m 17 #[.val (.ref a1), .val (.ref q)] [(.ref b245), (.ref a1)])
  obtain ⟨T247, X247, e247, st247⟩ := castY X245 hx hZ hown (hw _ (List.mem_of_getElem? (i := 66) rfl)) e245 (Ins.self C245) (g := (mkF m 17 #[.val (.ref a1), .val (.ref q)] [(.ref b245), (.ref a1)])) rfl rfl (hb hby d9_17)
  refine own_by st247 ?_
  show own_Go p e below _ T247 (mkF m 20 #[.val (.ref a1), .val (.ref q)] [(.ref b245), (.ref a1)])
  have f249 := (F1.ext E245)
  have f250 := (E1.ext E245)
  obtain ⟨T248, h248, X248, e248, W248, st248⟩ := putF X247 hx hZ hown (host := "") (Or.inl (hw _ (List.mem_of_getElem? (i := 42) rfl))) Via.refl e247 f249 f250 (Or.inl (hw _ (List.mem_of_getElem? (i := 43) rfl))) (hw _ (List.mem_of_getElem? (i := 27) rfl)) (ty := (.array .char)) (by decide) rfl rfl (g := (mkF m 20 #[.val (.ref a1), .val (.ref q)] [(.ref b245), (.ref a1)])) rfl rfl (hb hby d9_20)
  refine own_by st248 ?_
  have N248 := Fr.snoc X248 N244 g1
  have fw248 := f249.same W248
  have K251 := K246.wr W248 (Or.inl (List.mem_of_getElem? (i := 0) rfl))
  have Z248 : n0 ≤ h248.size := Nat.le_trans Z245 (Keep.of_wr W248).1
  show own_Go p e below _ T248 (mkF m 23 #[.val (.ref a1), .val (.ref q)] [])
  have f252 := (f250.wr W248)
  have f253 := (C245.wr W248)
  have f254 := (V245.other W248 (Ne.symm ne_a1_b245))
  exact own_ret0 X248 hx hlk hret (hb hby d9_23) (by first | exact ⟨b245, rfl, N248, K251, sz_b245, f252, fw248, f253, f254⟩ | (rw [e248]; exact ⟨b245, rfl, N248, K251, sz_b245, f252, fw248, f253, f254⟩)) (by decide) (by decide)
def Q_rm9n_2 (Z : State) (a1 q : Addr) (k2 : ClassId) (x0 x1 : Int32) (h0 : Heap) (n0 : Nat) (v : Option Value) (h : Heap) (L : List Loc) : Prop := v = none ∧ Fr n0 L ∧ Keep h0 h [a1, q] ∧ Exa Z h a1 "watchword/PasswordCallback" ∧ Fld Z h a1 "watchword/PasswordCallback" "password" "[C" .null
theorem pn_rm9n_2 : plainFor (⟨"watchword/PasswordCallback", "setPassword", "([C)V"⟩ : MethodName) = true := plainFor_of_name (by first | (simp [plainName, overriddenIn, x]; done) | decide +kernel)
set_option maxRecDepth 65536 in
set_option maxHeartbeats 40000000 in
theorem rm9n_2 (l : Launch) (Z : State) (a0 : Array Value) (hw : ∀ d ∈ tables_1, d.before a0 Z = true) (ws : List Jvm.Cond) (a1 q : Addr) (k2 : ClassId) (x0 x1 : Int32) (h0 : Heap) (n0 : Nat) (Z0 : n0 ≤ h0.size) (g1 : n0 ≤ a1) (g2 : n0 ≤ q) (hne : a1 ≠ q) (E1 : Exa Z h0 a1 "watchword/PasswordCallback") (F1 : Fld Z h0 a1 "watchword/PasswordCallback" "password" "[C" (.ref q)) (V1 : Arv Z h0 q k2 .char (2 : Int32) [(.int x0), (.int x1)] (.int (0 : Int32))) :
    own_Met l Z (⟨"watchword/PasswordCallback", "setPassword", "([C)V"⟩ : MethodName) prog_50_method_4_code 2 none ws ({ frames := 2, cells := 0, slots := 0, locals := 40 } : Room) #[(.ref a1), .null] h0 (Q_rm9n_2 Z a1 q k2 x0 x1 h0 n0) := by
  refine own_enter (g0 := fun m => (mkF m 0 #[.val (.ref a1), .val .null] [])) pn_rm9n_2 (fun m => by first | (simp [entryFrame, mkF, argsToLocals, Value.category, maxLocals]; done) | rfl) ?_
  intro p e s m below meth c s₁ hx hby hml hown hnm hret hlk hZ X0 e0
  have hml : c.maxLocals = 2 := hml
  have hown : s.vm.findClass "watchword/PasswordCallback" = some m.cls := hown
  have N0 := Fr.nil n0
  show own_Go p e below _ s₁ (mkF m 0 #[.val (.ref a1), .val .null] [])
  have K0 := Keep.refl h0 [a1, q]
  refine own_by (fun _ k => XS.aloadN X0.here hx rfl (hb hby d9_0) rfl rfl k) ?_
  show own_Go p e below _ s₁ (mkF m 1 #[.val (.ref a1), .val .null] [(.ref a1)])
  obtain ⟨_, T255, L255, X255, ⟨rfl, N255q, Kc, Ec, Fc⟩, st255⟩ := own_callV X0 hx hZ hown (y := (⟨"watchword/PasswordCallback", "clearPassword", "()V"⟩ : MethodName)) (C := "watchword/PasswordCallback") (hw _ (List.mem_of_getElem? (i := 54) rfl)) (hw _ (List.mem_of_getElem? (i := 55) rfl)) (hw _ (List.mem_of_getElem? (i := 57) rfl)) (hw _ (List.mem_of_getElem? (i := 56) rfl)) (hw _ (List.mem_of_getElem? (i := 28) rfl)) (hw _ (List.mem_of_getElem? (i := 58) rfl)) (by decide) (a := a1) E1 (argsL := []) (rest := []) e0 (rm10_2 l Z a0 hw [] a1 q k2 x0 x1 h0 n0 Z0 g1 g2 hne E1 F1 V1) (g := (mkF m 1 #[.val (.ref a1), .val .null] [(.ref a1)])) rfl (by rw [hml]; rfl) (lenOf pd_4 rfl) rfl (W := 0) (by show 2 * 0 + _ ≤ _; exact Nat.le_of_eq rfl) (hb hby d9_1) (by decide) (by decide) (by decide) (by decide)
  have N255 := Fr.app N0 N255q
  refine own_by st255 ?_
  show own_Go p e below _ T255 (mkF m 4 #[.val (.ref a1), .val .null] [])
  have Z255 : n0 ≤ T255.heap.size := Nat.le_trans Z0 Kc.1
  have K255c := K0.trans Kc (allS (Or.inl (List.mem_of_getElem? (i := 0) rfl)) (allS (Or.inl (List.mem_of_getElem? (i := 1) rfl)) all0))
  refine own_by (fun _ k => XS.aloadN X255.here hx rfl (hb hby d9_4) rfl rfl k) ?_
  show own_Go p e below _ T255 (mkF m 5 #[.val (.ref a1), .val .null] [(.ref a1)])
  refine own_by (fun _ k => XS.aloadN X255.here hx rfl (hb hby d9_5) rfl rfl k) ?_
  show own_Go p e below _ T255 (mkF m 6 #[.val (.ref a1), .val .null] [.null, (.ref a1)])
  refine own_by (fun _ k => XS.ifnonnullNo X255.here hx rfl (hb hby d9_6) rfl k) ?_
  show own_Go p e below _ T255 (mkF m 9 #[.val (.ref a1), .val .null] [(.ref a1)])
  refine own_by (fun _ k => XS.aconstNull X255.here hx rfl (hb hby d9_9) k) ?_
  show own_Go p e below _ T255 (mkF m 10 #[.val (.ref a1), .val .null] [.null, (.ref a1)])
  refine own_by (fun _ k => XS.goto X255.here hx rfl (pc0 := 10) (pc' := 20) rfl (hb hby d9_10) (by decide) (by decide) k) ?_
  show own_Go p e below _ T255 (mkF m 20 #[.val (.ref a1), .val .null] [.null, (.ref a1)])
  obtain ⟨T256, h256, X256, e256, W256, st256⟩ := putF X255 hx hZ hown (host := "") (Or.inl (hw _ (List.mem_of_getElem? (i := 42) rfl))) Via.refl rfl Fc Ec (Or.inl (hw _ (List.mem_of_getElem? (i := 43) rfl))) (hw _ (List.mem_of_getElem? (i := 27) rfl)) (ty := (.array .char)) (by decide) rfl rfl (g := (mkF m 20 #[.val (.ref a1), .val .null] [.null, (.ref a1)])) rfl rfl (hb hby d9_20)
  refine own_by st256 ?_
  have N256 := Fr.snoc X256 N255 g1
  have fw256 := Fc.same W256
  have K257 := K255c.wr W256 (Or.inl (List.mem_of_getElem? (i := 0) rfl))
  have Z256 : n0 ≤ h256.size := Nat.le_trans Z255 (Keep.of_wr W256).1
  show own_Go p e below _ T256 (mkF m 23 #[.val (.ref a1), .val .null] [])
  have f258 := (Ec.wr W256)
  exact own_ret0 X256 hx hlk hret (hb hby d9_23) (by first | exact ⟨rfl, N256, K257, f258, fw256⟩ | (rw [e256]; exact ⟨rfl, N256, K257, f258, fw256⟩)) (by decide) (by decide)
def Q_rm11_2 (Z : State) (q : Addr) (k2 : ClassId) (x0 x1 : Int32) (h0 : Heap) (n0 : Nat) (v : Option Value) (h : Heap) (L : List Loc) : Prop := v = none ∧ Fr n0 L ∧ Keep h0 h [q]
theorem pn_rm11_2 : plainFor (⟨"watchword/PasswordCallbackGetPasswordPinLaw", "flip", "([C)V"⟩ : MethodName) = true := plainFor_of_name (by first | (simp [plainName, overriddenIn, x]; done) | decide +kernel)
theorem d11_20 : decode method_3_code 20 = .ok (.aload_n 0, 1) := by decide +kernel
theorem d11_21 : decode method_3_code 21 = .ok (.iconst 1, 1) := by decide +kernel
theorem d11_22 : decode method_3_code 22 = .ok (.aload_n 0, 1) := by decide +kernel
theorem d11_23 : decode method_3_code 23 = .ok (.iconst 1, 1) := by decide +kernel
theorem d11_24 : decode method_3_code 24 = .ok (.caload, 1) := by decide +kernel
theorem d11_25 : decode method_3_code 25 = .ok (.iconst 1, 1) := by decide +kernel
theorem d11_26 : decode method_3_code 26 = .ok (.ixor, 1) := by decide +kernel
theorem d11_27 : decode method_3_code 27 = .ok (.i2c, 1) := by decide +kernel
theorem d11_28 : decode method_3_code 28 = .ok (.castore, 1) := by decide +kernel
set_option maxRecDepth 65536 in
set_option maxHeartbeats 40000000 in
theorem rm11_2 (l : Launch) (Z : State) (a0 : Array Value) (hw : ∀ d ∈ tables_1, d.before a0 Z = true) (ws : List Jvm.Cond) (q : Addr) (k2 : ClassId) (x0 x1 : Int32) (h0 : Heap) (n0 : Nat) (Z0 : n0 ≤ h0.size) (g1 : n0 ≤ q) (V1 : Arv Z h0 q k2 .char (2 : Int32) [(.int x0), (.int x1)] (.int (0 : Int32))) :
    own_Met l Z (⟨"watchword/PasswordCallbackGetPasswordPinLaw", "flip", "([C)V"⟩ : MethodName) method_3_code 1 none ws ({ frames := 0, cells := 0, slots := 0, locals := 0 } : Room) #[(.ref q)] h0 (Q_rm11_2 Z q k2 x0 x1 h0 n0) := by
  refine own_enter (g0 := fun m => (mkF m 0 #[.val (.ref q)] [])) pn_rm11_2 (fun m => by first | (simp [entryFrame, mkF, argsToLocals, Value.category, maxLocals]; done) | rfl) ?_
  intro p e s m below meth c s₁ hx hby hml hown hnm hret hlk hZ X0 e0
  have hml : c.maxLocals = 1 := hml
  have hown : s.vm.findClass "watchword/PasswordCallbackGetPasswordPinLaw" = some m.cls := hown
  have N0 := Fr.nil n0
  show own_Go p e below _ s₁ (mkF m 0 #[.val (.ref q)] [])
  have K0 := Keep.refl h0 [q]
  refine own_by (fun _ k => XS.aloadN X0.here hx rfl (hb hby d11_0) rfl rfl k) ?_
  show own_Go p e below _ s₁ (mkF m 1 #[.val (.ref q)] [(.ref q)])
  obtain ⟨cl259, Ar259, len259⟩ := own_len V1
  refine own_by (T' := s₁) (g' := (mkF m 2 #[.val (.ref q)] [(.int (2 : Int32))])) (fun _ k => X0.arraylength hx (by rw [e0]; exact Ar259.1) (State.isArrayOf_alike hZ.alike Ar259.2.1) (g := (mkF m 1 #[.val (.ref q)] [(.ref q)])) rfl rfl (hb hby d11_1) _ (by rw [len259]; exact k)) ?_
  refine own_by (fun _ k => XS.ifNo X0.here hx rfl (hb hby d11_2) rfl ((if0 _ _).trans (tlt (by decide : (0 : Int32) < (2 : Int32))).2.2.2) k) ?_
  show own_Go p e below _ s₁ (mkF m 5 #[.val (.ref q)] [])
  refine own_by (fun _ k => XS.aloadN X0.here hx rfl (hb hby d11_5) rfl rfl k) ?_
  show own_Go p e below _ s₁ (mkF m 6 #[.val (.ref q)] [(.ref q)])
  refine own_by (fun _ k => XS.iconst X0.here hx rfl (hb hby d11_6) k) ?_
  show own_Go p e below _ s₁ (mkF m 7 #[.val (.ref q)] [(.int (0 : Int32)), (.ref q)])
  refine own_by (fun _ k => XS.aloadN X0.here hx rfl (hb hby d11_7) rfl rfl k) ?_
  show own_Go p e below _ s₁ (mkF m 8 #[.val (.ref q)] [(.ref q), (.int (0 : Int32)), (.ref q)])
  refine own_by (fun _ k => XS.iconst X0.here hx rfl (hb hby d11_8) k) ?_
  show own_Go p e below _ s₁ (mkF m 9 #[.val (.ref q)] [(.int (0 : Int32)), (.ref q), (.int (0 : Int32)), (.ref q)])
  obtain ⟨cl260, Ar260, cq260, hin260, hat260, set260⟩ := own_arv V1 (j := (0 : Int32)) ⟨by decide, by decide⟩
  refine own_by (fun _ k => X0.caload hx (j := (0 : Int32)) (v := (.int x0)) (by rw [e0]; exact Ar260.1) (State.isArrayOf_alike hZ.alike Ar260.2.1) Ar260.2.2 hin260 hat260 (g := (mkF m 9 #[.val (.ref q)] [(.int (0 : Int32)), (.ref q), (.int (0 : Int32)), (.ref q)])) rfl rfl (hb hby d11_9) _ k) ?_
  show own_Go p e below _ s₁ (mkF m 10 #[.val (.ref q)] [(.int x0), (.int (0 : Int32)), (.ref q)])
  refine own_by (fun _ k => XS.iconst X0.here hx rfl (hb hby d11_10) k) ?_
  show own_Go p e below _ s₁ (mkF m 11 #[.val (.ref q)] [(.int (1 : Int32)), (.int x0), (.int (0 : Int32)), (.ref q)])
  refine own_by (fun _ k => XS.ixor X0.here hx rfl (hb hby d11_11) rfl k) ?_
  show own_Go p e below _ s₁ (mkF m 12 #[.val (.ref q)] [(.int (x0 ^^^ (1 : Int32))), (.int (0 : Int32)), (.ref q)])
  refine own_by (fun _ k => XS.i2c X0.here hx rfl (hb hby d11_12) rfl k) ?_
  show own_Go p e below _ s₁ (mkF m 13 #[.val (.ref q)] [(.int ((x0 ^^^ (1 : Int32)).toUInt32.toUInt16.toUInt32.toInt32)), (.int (0 : Int32)), (.ref q)])
  obtain ⟨cl261, Ar261, cq261, hin261, hat261, set261⟩ := own_arv V1 (j := (0 : Int32)) ⟨by decide, by decide⟩
  obtain ⟨T262, h262, X262, e262, W262, st262⟩ := stC X0 hx hZ e0 Ar261 (j := (0 : Int32)) hin261 (g := (mkF m 13 #[.val (.ref q)] [(.int ((x0 ^^^ (1 : Int32)).toUInt32.toUInt16.toUInt32.toInt32)), (.int (0 : Int32)), (.ref q)])) rfl rfl (hb hby d11_13)
  have wq262 : nar .char ((x0 ^^^ (1 : Int32)).toUInt32.toUInt16.toUInt32.toInt32) = ((x0 ^^^ (1 : Int32)).toUInt32.toUInt16.toUInt32.toInt32) := own_nc _
  rw [wq262] at W262
  have wf262 : fits .char (.int ((x0 ^^^ (1 : Int32)).toUInt32.toUInt16.toUInt32.toInt32)) = true := wq262 ▸ (fits_nar_char _)
  have V262 : Arv Z h262 q k2 .char (2 : Int32) [(.int ((x0 ^^^ (1 : Int32)).toUInt32.toUInt16.toUInt32.toInt32)), (.int x1)] (.int (0 : Int32)) := set261 wf262 W262 0 rfl (Nat.le_of_ble_eq_true rfl)
  have N262 := Fr.snoc X262 N0 g1
  have K263 := K0.wr W262 (Or.inl (List.mem_of_getElem? (i := 0) rfl))
  have Z262 : n0 ≤ h262.size := Nat.le_trans Z0 (Keep.of_wr W262).1
  refine own_by st262 ?_
  show own_Go p e below _ T262 (mkF m 14 #[.val (.ref q)] [])
  refine own_by (fun _ k => XS.aloadN X262.here hx rfl (hb hby d11_14) rfl rfl k) ?_
  show own_Go p e below _ T262 (mkF m 15 #[.val (.ref q)] [(.ref q)])
  obtain ⟨cl264, Ar264, len264⟩ := own_len V262
  refine own_by (T' := T262) (g' := (mkF m 16 #[.val (.ref q)] [(.int (2 : Int32))])) (fun _ k => X262.arraylength hx (by rw [e262]; exact Ar264.1) (State.isArrayOf_alike hZ.alike Ar264.2.1) (g := (mkF m 15 #[.val (.ref q)] [(.ref q)])) rfl rfl (hb hby d11_15) _ (by rw [len264]; exact k)) ?_
  refine own_by (fun _ k => XS.iconst X262.here hx rfl (hb hby d11_16) k) ?_
  show own_Go p e below _ T262 (mkF m 17 #[.val (.ref q)] [(.int (1 : Int32)), (.int (2 : Int32))])
  refine own_by (fun _ k => XS.icmpNo X262.here hx rfl (hb hby d11_17) rfl (tlt (by decide : (1 : Int32) < (2 : Int32))).2.2.2 k) ?_
  show own_Go p e below _ T262 (mkF m 20 #[.val (.ref q)] [])
  refine own_by (fun _ k => XS.aloadN X262.here hx rfl (hb hby d11_20) rfl rfl k) ?_
  show own_Go p e below _ T262 (mkF m 21 #[.val (.ref q)] [(.ref q)])
  refine own_by (fun _ k => XS.iconst X262.here hx rfl (hb hby d11_21) k) ?_
  show own_Go p e below _ T262 (mkF m 22 #[.val (.ref q)] [(.int (1 : Int32)), (.ref q)])
  refine own_by (fun _ k => XS.aloadN X262.here hx rfl (hb hby d11_22) rfl rfl k) ?_
  show own_Go p e below _ T262 (mkF m 23 #[.val (.ref q)] [(.ref q), (.int (1 : Int32)), (.ref q)])
  refine own_by (fun _ k => XS.iconst X262.here hx rfl (hb hby d11_23) k) ?_
  show own_Go p e below _ T262 (mkF m 24 #[.val (.ref q)] [(.int (1 : Int32)), (.ref q), (.int (1 : Int32)), (.ref q)])
  obtain ⟨cl265, Ar265, cq265, hin265, hat265, set265⟩ := own_arv V262 (j := (1 : Int32)) ⟨by decide, by decide⟩
  refine own_by (fun _ k => X262.caload hx (j := (1 : Int32)) (v := (.int x1)) (by rw [e262]; exact Ar265.1) (State.isArrayOf_alike hZ.alike Ar265.2.1) Ar265.2.2 hin265 hat265 (g := (mkF m 24 #[.val (.ref q)] [(.int (1 : Int32)), (.ref q), (.int (1 : Int32)), (.ref q)])) rfl rfl (hb hby d11_24) _ k) ?_
  show own_Go p e below _ T262 (mkF m 25 #[.val (.ref q)] [(.int x1), (.int (1 : Int32)), (.ref q)])
  refine own_by (fun _ k => XS.iconst X262.here hx rfl (hb hby d11_25) k) ?_
  show own_Go p e below _ T262 (mkF m 26 #[.val (.ref q)] [(.int (1 : Int32)), (.int x1), (.int (1 : Int32)), (.ref q)])
  refine own_by (fun _ k => XS.ixor X262.here hx rfl (hb hby d11_26) rfl k) ?_
  show own_Go p e below _ T262 (mkF m 27 #[.val (.ref q)] [(.int (x1 ^^^ (1 : Int32))), (.int (1 : Int32)), (.ref q)])
  refine own_by (fun _ k => XS.i2c X262.here hx rfl (hb hby d11_27) rfl k) ?_
  show own_Go p e below _ T262 (mkF m 28 #[.val (.ref q)] [(.int ((x1 ^^^ (1 : Int32)).toUInt32.toUInt16.toUInt32.toInt32)), (.int (1 : Int32)), (.ref q)])
  obtain ⟨cl266, Ar266, cq266, hin266, hat266, set266⟩ := own_arv V262 (j := (1 : Int32)) ⟨by decide, by decide⟩
  obtain ⟨T267, h267, X267, e267, W267, st267⟩ := stC X262 hx hZ e262 Ar266 (j := (1 : Int32)) hin266 (g := (mkF m 28 #[.val (.ref q)] [(.int ((x1 ^^^ (1 : Int32)).toUInt32.toUInt16.toUInt32.toInt32)), (.int (1 : Int32)), (.ref q)])) rfl rfl (hb hby d11_28)
  have wq267 : nar .char ((x1 ^^^ (1 : Int32)).toUInt32.toUInt16.toUInt32.toInt32) = ((x1 ^^^ (1 : Int32)).toUInt32.toUInt16.toUInt32.toInt32) := own_nc _
  rw [wq267] at W267
  have wf267 : fits .char (.int ((x1 ^^^ (1 : Int32)).toUInt32.toUInt16.toUInt32.toInt32)) = true := wq267 ▸ (fits_nar_char _)
  have V267 : Arv Z h267 q k2 .char (2 : Int32) [(.int ((x0 ^^^ (1 : Int32)).toUInt32.toUInt16.toUInt32.toInt32)), (.int ((x1 ^^^ (1 : Int32)).toUInt32.toUInt16.toUInt32.toInt32))] (.int (0 : Int32)) := set266 wf267 W267 1 rfl (Nat.le_of_ble_eq_true rfl)
  have N267 := Fr.snoc X267 N262 g1
  have K268 := K263.wr W267 (Or.inl (List.mem_of_getElem? (i := 0) rfl))
  have Z267 : n0 ≤ h267.size := Nat.le_trans Z262 (Keep.of_wr W267).1
  refine own_by st267 ?_
  show own_Go p e below _ T267 (mkF m 29 #[.val (.ref q)] [])
  refine own_by (fun _ k => XS.aloadN X267.here hx rfl (hb hby d11_29) rfl rfl k) ?_
  show own_Go p e below _ T267 (mkF m 30 #[.val (.ref q)] [(.ref q)])
  obtain ⟨cl269, Ar269, len269⟩ := own_len V267
  refine own_by (T' := T267) (g' := (mkF m 31 #[.val (.ref q)] [(.int (2 : Int32))])) (fun _ k => X267.arraylength hx (by rw [e267]; exact Ar269.1) (State.isArrayOf_alike hZ.alike Ar269.2.1) (g := (mkF m 30 #[.val (.ref q)] [(.ref q)])) rfl rfl (hb hby d11_30) _ (by rw [len269]; exact k)) ?_
  refine own_by (fun _ k => XS.iconst X267.here hx rfl (hb hby d11_31) k) ?_
  show own_Go p e below _ T267 (mkF m 32 #[.val (.ref q)] [(.int (2 : Int32)), (.int (2 : Int32))])
  refine own_by (fun _ k => XS.icmpYes X267.here hx rfl (pc0 := 32) (pc' := 44) rfl (hb hby d11_32) rfl (flt (by decide : ¬ ((2 : Int32) < (2 : Int32)))).2.2.2 (by decide) (by decide) k) ?_
  show own_Go p e below _ T267 (mkF m 44 #[.val (.ref q)] [])
  exact own_ret0 X267 hx hlk hret (hb hby d11_44) (by first | exact ⟨rfl, N267, K268⟩ | (rw [e267]; exact ⟨rfl, N267, K268⟩)) (by decide) (by decide)
def Q_rm12_2 (Z : State) (q : Addr) (k2 : ClassId) (x0 x1 x2 : Int32) (h0 : Heap) (n0 : Nat) (v : Option Value) (h : Heap) (L : List Loc) : Prop := v = some (.int 1) ∧ Fr n0 L ∧ h = h0
theorem pn_rm12_2 : plainFor (⟨"watchword/PasswordCallbackGetPasswordPinLaw", "same", "([CICCC)Z"⟩ : MethodName) = true := plainFor_of_name (by first | (simp [plainName, overriddenIn, x]; done) | decide +kernel)
theorem d12_26 : decode method_4_code 26 = .ok (.aload_n 0, 1) := by decide +kernel
theorem d12_27 : decode method_4_code 27 = .ok (.iconst 1, 1) := by decide +kernel
theorem d12_28 : decode method_4_code 28 = .ok (.caload, 1) := by decide +kernel
theorem d12_29 : decode method_4_code 29 = .ok (.iload_n 3, 1) := by decide +kernel
theorem d12_30 : decode method_4_code 30 = .ok (.if_icmp .eq 5, 3) := by decide +kernel
set_option maxRecDepth 65536 in
set_option maxHeartbeats 40000000 in
theorem rm12_2 (l : Launch) (Z : State) (a0 : Array Value) (hw : ∀ d ∈ tables_1, d.before a0 Z = true) (ws : List Jvm.Cond) (q : Addr) (k2 : ClassId) (x0 x1 x2 : Int32) (h0 : Heap) (n0 : Nat) (Z0 : n0 ≤ h0.size) (V1 : Arv Z h0 q k2 .char (2 : Int32) [(.int x0), (.int x1)] (.int (0 : Int32))) :
    own_Met l Z (⟨"watchword/PasswordCallbackGetPasswordPinLaw", "same", "([CICCC)Z"⟩ : MethodName) method_4_code 5 (some .boolean) ws ({ frames := 0, cells := 0, slots := 0, locals := 0 } : Room) #[(.ref q), (.int (2 : Int32)), (.int x0), (.int x1), (.int x2)] h0 (Q_rm12_2 Z q k2 x0 x1 x2 h0 n0) := by
  refine own_enter (g0 := fun m => (mkF m 0 #[.val (.ref q), .val (.int (2 : Int32)), .val (.int x0), .val (.int x1), .val (.int x2)] [])) pn_rm12_2 (fun m => by first | (simp [entryFrame, mkF, argsToLocals, Value.category, maxLocals]; done) | rfl) ?_
  intro p e s m below meth c s₁ hx hby hml hown hnm hret hlk hZ X0 e0
  have hml : c.maxLocals = 5 := hml
  have hown : s.vm.findClass "watchword/PasswordCallbackGetPasswordPinLaw" = some m.cls := hown
  have N0 := Fr.nil n0
  show own_Go p e below _ s₁ (mkF m 0 #[.val (.ref q), .val (.int (2 : Int32)), .val (.int x0), .val (.int x1), .val (.int x2)] [])
  refine own_by (fun _ k => XS.aloadN X0.here hx rfl (hb hby d12_0) rfl rfl k) ?_
  show own_Go p e below _ s₁ (mkF m 1 #[.val (.ref q), .val (.int (2 : Int32)), .val (.int x0), .val (.int x1), .val (.int x2)] [(.ref q)])
  obtain ⟨cl270, Ar270, len270⟩ := own_len V1
  refine own_by (T' := s₁) (g' := (mkF m 2 #[.val (.ref q), .val (.int (2 : Int32)), .val (.int x0), .val (.int x1), .val (.int x2)] [(.int (2 : Int32))])) (fun _ k => X0.arraylength hx (by rw [e0]; exact Ar270.1) (State.isArrayOf_alike hZ.alike Ar270.2.1) (g := (mkF m 1 #[.val (.ref q), .val (.int (2 : Int32)), .val (.int x0), .val (.int x1), .val (.int x2)] [(.ref q)])) rfl rfl (hb hby d12_1) _ (by rw [len270]; exact k)) ?_
  refine own_by (fun _ k => XS.iloadN X0.here hx rfl (hb hby d12_2) rfl k) ?_
  show own_Go p e below _ s₁ (mkF m 3 #[.val (.ref q), .val (.int (2 : Int32)), .val (.int x0), .val (.int x1), .val (.int x2)] [(.int (2 : Int32)), (.int (2 : Int32))])
  refine own_by (fun _ k => XS.icmpYes X0.here hx rfl (pc0 := 3) (pc' := 8) rfl (hb hby d12_3) rfl (teq (rfl : (2 : Int32) = (2 : Int32))).1 (by decide) (by decide) k) ?_
  show own_Go p e below _ s₁ (mkF m 8 #[.val (.ref q), .val (.int (2 : Int32)), .val (.int x0), .val (.int x1), .val (.int x2)] [])
  refine own_by (fun _ k => XS.iloadN X0.here hx rfl (hb hby d12_8) rfl k) ?_
  show own_Go p e below _ s₁ (mkF m 9 #[.val (.ref q), .val (.int (2 : Int32)), .val (.int x0), .val (.int x1), .val (.int x2)] [(.int (2 : Int32))])
  refine own_by (fun _ k => XS.ifNo X0.here hx rfl (hb hby d12_9) rfl ((if0 _ _).trans (tlt (by decide : (0 : Int32) < (2 : Int32))).2.2.2) k) ?_
  show own_Go p e below _ s₁ (mkF m 12 #[.val (.ref q), .val (.int (2 : Int32)), .val (.int x0), .val (.int x1), .val (.int x2)] [])
  refine own_by (fun _ k => XS.aloadN X0.here hx rfl (hb hby d12_12) rfl rfl k) ?_
  show own_Go p e below _ s₁ (mkF m 13 #[.val (.ref q), .val (.int (2 : Int32)), .val (.int x0), .val (.int x1), .val (.int x2)] [(.ref q)])
  refine own_by (fun _ k => XS.iconst X0.here hx rfl (hb hby d12_13) k) ?_
  show own_Go p e below _ s₁ (mkF m 14 #[.val (.ref q), .val (.int (2 : Int32)), .val (.int x0), .val (.int x1), .val (.int x2)] [(.int (0 : Int32)), (.ref q)])
  obtain ⟨cl271, Ar271, cq271, hin271, hat271, set271⟩ := own_arv V1 (j := (0 : Int32)) ⟨by decide, by decide⟩
  refine own_by (fun _ k => X0.caload hx (j := (0 : Int32)) (v := (.int x0)) (by rw [e0]; exact Ar271.1) (State.isArrayOf_alike hZ.alike Ar271.2.1) Ar271.2.2 hin271 hat271 (g := (mkF m 14 #[.val (.ref q), .val (.int (2 : Int32)), .val (.int x0), .val (.int x1), .val (.int x2)] [(.int (0 : Int32)), (.ref q)])) rfl rfl (hb hby d12_14) _ k) ?_
  show own_Go p e below _ s₁ (mkF m 15 #[.val (.ref q), .val (.int (2 : Int32)), .val (.int x0), .val (.int x1), .val (.int x2)] [(.int x0)])
  refine own_by (fun _ k => XS.iloadN X0.here hx rfl (hb hby d12_15) rfl k) ?_
  show own_Go p e below _ s₁ (mkF m 16 #[.val (.ref q), .val (.int (2 : Int32)), .val (.int x0), .val (.int x1), .val (.int x2)] [(.int x0), (.int x0)])
  refine own_by (fun _ k => XS.icmpYes X0.here hx rfl (pc0 := 16) (pc' := 21) rfl (hb hby d12_16) rfl (teq (rfl : x0 = x0)).1 (by decide) (by decide) k) ?_
  show own_Go p e below _ s₁ (mkF m 21 #[.val (.ref q), .val (.int (2 : Int32)), .val (.int x0), .val (.int x1), .val (.int x2)] [])
  refine own_by (fun _ k => XS.iloadN X0.here hx rfl (hb hby d12_21) rfl k) ?_
  show own_Go p e below _ s₁ (mkF m 22 #[.val (.ref q), .val (.int (2 : Int32)), .val (.int x0), .val (.int x1), .val (.int x2)] [(.int (2 : Int32))])
  refine own_by (fun _ k => XS.iconst X0.here hx rfl (hb hby d12_22) k) ?_
  show own_Go p e below _ s₁ (mkF m 23 #[.val (.ref q), .val (.int (2 : Int32)), .val (.int x0), .val (.int x1), .val (.int x2)] [(.int (1 : Int32)), (.int (2 : Int32))])
  refine own_by (fun _ k => XS.icmpNo X0.here hx rfl (hb hby d12_23) rfl (tlt (by decide : (1 : Int32) < (2 : Int32))).2.2.2 k) ?_
  show own_Go p e below _ s₁ (mkF m 26 #[.val (.ref q), .val (.int (2 : Int32)), .val (.int x0), .val (.int x1), .val (.int x2)] [])
  refine own_by (fun _ k => XS.aloadN X0.here hx rfl (hb hby d12_26) rfl rfl k) ?_
  show own_Go p e below _ s₁ (mkF m 27 #[.val (.ref q), .val (.int (2 : Int32)), .val (.int x0), .val (.int x1), .val (.int x2)] [(.ref q)])
  refine own_by (fun _ k => XS.iconst X0.here hx rfl (hb hby d12_27) k) ?_
  show own_Go p e below _ s₁ (mkF m 28 #[.val (.ref q), .val (.int (2 : Int32)), .val (.int x0), .val (.int x1), .val (.int x2)] [(.int (1 : Int32)), (.ref q)])
  obtain ⟨cl272, Ar272, cq272, hin272, hat272, set272⟩ := own_arv V1 (j := (1 : Int32)) ⟨by decide, by decide⟩
  refine own_by (fun _ k => X0.caload hx (j := (1 : Int32)) (v := (.int x1)) (by rw [e0]; exact Ar272.1) (State.isArrayOf_alike hZ.alike Ar272.2.1) Ar272.2.2 hin272 hat272 (g := (mkF m 28 #[.val (.ref q), .val (.int (2 : Int32)), .val (.int x0), .val (.int x1), .val (.int x2)] [(.int (1 : Int32)), (.ref q)])) rfl rfl (hb hby d12_28) _ k) ?_
  show own_Go p e below _ s₁ (mkF m 29 #[.val (.ref q), .val (.int (2 : Int32)), .val (.int x0), .val (.int x1), .val (.int x2)] [(.int x1)])
  refine own_by (fun _ k => XS.iloadN X0.here hx rfl (hb hby d12_29) rfl k) ?_
  show own_Go p e below _ s₁ (mkF m 30 #[.val (.ref q), .val (.int (2 : Int32)), .val (.int x0), .val (.int x1), .val (.int x2)] [(.int x1), (.int x1)])
  refine own_by (fun _ k => XS.icmpYes X0.here hx rfl (pc0 := 30) (pc' := 35) rfl (hb hby d12_30) rfl (teq (rfl : x1 = x1)).1 (by decide) (by decide) k) ?_
  show own_Go p e below _ s₁ (mkF m 35 #[.val (.ref q), .val (.int (2 : Int32)), .val (.int x0), .val (.int x1), .val (.int x2)] [])
  refine own_by (fun _ k => XS.iloadN X0.here hx rfl (hb hby d12_35) rfl k) ?_
  show own_Go p e below _ s₁ (mkF m 36 #[.val (.ref q), .val (.int (2 : Int32)), .val (.int x0), .val (.int x1), .val (.int x2)] [(.int (2 : Int32))])
  refine own_by (fun _ k => XS.iconst X0.here hx rfl (hb hby d12_36) k) ?_
  show own_Go p e below _ s₁ (mkF m 37 #[.val (.ref q), .val (.int (2 : Int32)), .val (.int x0), .val (.int x1), .val (.int x2)] [(.int (2 : Int32)), (.int (2 : Int32))])
  refine own_by (fun _ k => XS.icmpYes X0.here hx rfl (pc0 := 37) (pc' := 50) rfl (hb hby d12_37) rfl (flt (by decide : ¬ ((2 : Int32) < (2 : Int32)))).2.2.2 (by decide) (by decide) k) ?_
  show own_Go p e below _ s₁ (mkF m 50 #[.val (.ref q), .val (.int (2 : Int32)), .val (.int x0), .val (.int x1), .val (.int x2)] [])
  refine own_by (fun _ k => XS.iconst X0.here hx rfl (hb hby d12_50) k) ?_
  show own_Go p e below _ s₁ (mkF m 51 #[.val (.ref q), .val (.int (2 : Int32)), .val (.int x0), .val (.int x1), .val (.int x2)] [(.int (1 : Int32))])
  exact own_retN X0 hx hlk hret (by simp) rfl (hb hby d12_51) (by first | exact ⟨rfl, N0, rfl⟩ | (rw [e0]; exact ⟨rfl, N0, rfl⟩)) (by decide) (by decide)
def Q_rm7_3 (Z : State) (a1 q : Addr) (k2 : ClassId) (x0 x1 x2 : Int32) (h0 : Heap) (n0 : Nat) (v : Option Value) (h : Heap) (L : List Loc) : Prop := ∃ b, v = some (.ref b) ∧ Fr n0 L ∧ Keep h0 h [] ∧ h0.size ≤ b ∧ Exa Z h b "[C" ∧ Arv Z h b k2 .char (3 : Int32) [(.int x0), (.int x1), (.int x2)] (.int (0 : Int32))
theorem pn_rm7_3 : plainFor (⟨"watchword/PasswordCallback", "getPassword", "()[C"⟩ : MethodName) = true := plainFor_of_name (by first | (simp [plainName, overriddenIn, x]; done) | decide +kernel)
set_option maxRecDepth 65536 in
set_option maxHeartbeats 40000000 in
theorem rm7_3 (l : Launch) (Z : State) (a0 : Array Value) (hw : ∀ d ∈ tables_1, d.before a0 Z = true) (ws : List Jvm.Cond) (a1 q : Addr) (k2 : ClassId) (x0 x1 x2 : Int32) (h0 : Heap) (n0 : Nat) (Z0 : n0 ≤ h0.size) (F1 : Fld Z h0 a1 "watchword/PasswordCallback" "password" "[C" (.ref q)) (V1 : Arv Z h0 q k2 .char (3 : Int32) [(.int x0), (.int x1), (.int x2)] (.int (0 : Int32))) (E2 : Exa Z h0 q "[C") :
    own_Met l Z (⟨"watchword/PasswordCallback", "getPassword", "()[C"⟩ : MethodName) prog_50_method_5_code 1 (some (.array .char)) ws ({ frames := 1, cells := 1, slots := 3, locals := 14 } : Room) #[(.ref a1)] h0 (Q_rm7_3 Z a1 q k2 x0 x1 x2 h0 n0) := by
  refine own_enter (g0 := fun m => (mkF m 0 #[.val (.ref a1)] [])) pn_rm7_3 (fun m => by first | (simp [entryFrame, mkF, argsToLocals, Value.category, maxLocals]; done) | rfl) ?_
  intro p e s m below meth c s₁ hx hby hml hown hnm hret hlk hZ X0 e0
  have hml : c.maxLocals = 1 := hml
  have hown : s.vm.findClass "watchword/PasswordCallback" = some m.cls := hown
  have N0 := Fr.nil n0
  show own_Go p e below _ s₁ (mkF m 0 #[.val (.ref a1)] [])
  have K0 := Keep.refl h0 []
  refine own_by (fun _ k => XS.aloadN X0.here hx rfl (hb hby d7_0) rfl rfl k) ?_
  show own_Go p e below _ s₁ (mkF m 1 #[.val (.ref a1)] [(.ref a1)])
  obtain ⟨T273, X273, e273, st273⟩ := getF X0 hx hZ hown (host := "") (Or.inl (hw _ (List.mem_of_getElem? (i := 42) rfl))) Via.refl e0 F1 (g := (mkF m 1 #[.val (.ref a1)] [(.ref a1)])) rfl rfl (hb hby d7_1)
  refine own_by st273 ?_
  show own_Go p e below _ T273 (mkF m 4 #[.val (.ref a1)] [(.ref q)])
  refine own_by (fun _ k => XS.ifnonnullYes X273.here hx rfl (pc0 := 4) (pc' := 11) rfl (hb hby d7_4) rfl (by decide) (by decide) k) ?_
  show own_Go p e below _ T273 (mkF m 11 #[.val (.ref a1)] [])
  refine own_by (fun _ k => XS.aloadN X273.here hx rfl (hb hby d7_11) rfl rfl k) ?_
  show own_Go p e below _ T273 (mkF m 12 #[.val (.ref a1)] [(.ref a1)])
  obtain ⟨T274, X274, e274, st274⟩ := getF X273 hx hZ hown (host := "") (Or.inl (hw _ (List.mem_of_getElem? (i := 42) rfl))) Via.refl e273 F1 (g := (mkF m 12 #[.val (.ref a1)] [(.ref a1)])) rfl rfl (hb hby d7_12)
  refine own_by st274 ?_
  show own_Go p e below _ T274 (mkF m 15 #[.val (.ref a1)] [(.ref q)])
  obtain ⟨T275, h275, X275, e275, E275, A275, C275, st275⟩ := cloneH X274 hx hZ hown (hw _ (List.mem_of_getElem? (i := 59) rfl)) (hw _ (List.mem_of_getElem? (i := 60) rfl)) (hw _ (List.mem_of_getElem? (i := 64) rfl)) (hw _ (List.mem_of_getElem? (i := 62) rfl)) (hw _ (List.mem_of_getElem? (i := 63) rfl)) (hw _ (List.mem_of_getElem? (i := 65) rfl)) e274 (hs := []) V1 E2 (g := (mkF m 15 #[.val (.ref a1)] [(.ref q)])) rfl (by rw [hml]; rfl) rfl (hb hby d7_15) (by decide) (W := 0) (cap := 3) (by show 2 * 0 + _ ≤ _; exact Nat.le_of_eq rfl) (by decide) (by decide) (by decide) (by decide)
  obtain ⟨b275, g275⟩ : ∃ z, z = h0.size := ⟨_, rfl⟩
  rw [← g275] at A275 C275 st275
  have ne_a1_b275 : a1 ≠ b275 := Nat.ne_of_lt (Nat.lt_of_lt_of_le F1.lt (Nat.le_of_eq g275.symm))
  have ne_q_b275 : q ≠ b275 := Nat.ne_of_lt (Nat.lt_of_lt_of_le V1.lt (Nat.le_of_eq g275.symm))
  have og_b275 : n0 ≤ b275 := Nat.le_trans Z0 (Nat.le_of_eq g275.symm)
  have sz_b275 : h0.size ≤ b275 := Nat.le_trans K0.1 (Nat.le_of_eq g275.symm)
  have Z275 : n0 ≤ h275.size := Nat.le_trans Z0 E275.1
  have K276 := K0.ext E275
  have V275 : Arv Z h275 b275 k2 .char (3 : Int32) [(.int x0), (.int x1), (.int x2)] (.int (0 : Int32)) := A275
  refine own_by st275 ?_
  show own_Go p e below _ T275 (mkF m 18 #[.val (.ref a1)] [(.ref b275)])
  obtain ⟨T277, X277, e277, st277⟩ := castY X275 hx hZ hown (hw _ (List.mem_of_getElem? (i := 66) rfl)) e275 (Ins.self C275) (g := (mkF m 18 #[.val (.ref a1)] [(.ref b275)])) rfl rfl (hb hby d7_18)
  refine own_by st277 ?_
  show own_Go p e below _ T277 (mkF m 21 #[.val (.ref a1)] [(.ref b275)])
  exact own_retA X277 hx hlk hret rfl rfl (hb hby d7_21) (by first | exact ⟨b275, rfl, N0, K276, sz_b275, C275, V275⟩ | (rw [e277]; exact ⟨b275, rfl, N0, K276, sz_b275, C275, V275⟩)) (by decide) (by decide)
def Q_rm8_3 (Z : State) (x0 x1 x2 : Int32) (h0 : Heap) (n0 : Nat) (v : Option Value) (h : Heap) (L : List Loc) : Prop := ∃ b k2, v = some (.ref b) ∧ Fr n0 L ∧ Keep h0 h [] ∧ h0.size ≤ b ∧ Exa Z h b "[C" ∧ Arv Z h b k2 .char (3 : Int32) [(.int x0), (.int x1), (.int x2)] (.int (0 : Int32))
theorem pn_rm8_3 : plainFor (⟨"watchword/PasswordCallbackGetPasswordPinLaw", "make", "(ICCC)[C"⟩ : MethodName) = true := plainFor_of_name (by first | (simp [plainName, overriddenIn, x]; done) | decide +kernel)
theorem d8_49 : decode method_2_code 49 = .ok (.iconst 3, 1) := by decide +kernel
theorem d8_50 : decode method_2_code 50 = .ok (.newarray .char, 2) := by decide +kernel
theorem d8_52 : decode method_2_code 52 = .ok (.astore 4, 2) := by decide +kernel
theorem d8_54 : decode method_2_code 54 = .ok (.aload 4, 2) := by decide +kernel
theorem d8_56 : decode method_2_code 56 = .ok (.iconst 0, 1) := by decide +kernel
theorem d8_57 : decode method_2_code 57 = .ok (.iload_n 1, 1) := by decide +kernel
theorem d8_58 : decode method_2_code 58 = .ok (.castore, 1) := by decide +kernel
theorem d8_59 : decode method_2_code 59 = .ok (.aload 4, 2) := by decide +kernel
theorem d8_61 : decode method_2_code 61 = .ok (.iconst 1, 1) := by decide +kernel
theorem d8_62 : decode method_2_code 62 = .ok (.iload_n 2, 1) := by decide +kernel
theorem d8_63 : decode method_2_code 63 = .ok (.castore, 1) := by decide +kernel
theorem d8_64 : decode method_2_code 64 = .ok (.aload 4, 2) := by decide +kernel
theorem d8_66 : decode method_2_code 66 = .ok (.iconst 2, 1) := by decide +kernel
theorem d8_67 : decode method_2_code 67 = .ok (.iload_n 3, 1) := by decide +kernel
theorem d8_68 : decode method_2_code 68 = .ok (.castore, 1) := by decide +kernel
theorem d8_69 : decode method_2_code 69 = .ok (.aload 4, 2) := by decide +kernel
theorem d8_71 : decode method_2_code 71 = .ok (.areturn, 1) := by decide +kernel
set_option maxRecDepth 65536 in
set_option maxHeartbeats 40000000 in
theorem rm8_3 (l : Launch) (Z : State) (a0 : Array Value) (hw : ∀ d ∈ tables_1, d.before a0 Z = true) (ws : List Jvm.Cond) (x0 x1 x2 : Int32) (h0 : Heap) (n0 : Nat) (Z0 : n0 ≤ h0.size) (hn0 : nar .char x0 = x0) (hn1 : nar .char x1 = x1) (hn2 : nar .char x2 = x2) :
    own_Met l Z (⟨"watchword/PasswordCallbackGetPasswordPinLaw", "make", "(ICCC)[C"⟩ : MethodName) method_2_code 5 (some (.array .char)) ws ({ frames := 0, cells := 1, slots := 3, locals := 0 } : Room) #[(.int (3 : Int32)), (.int x0), (.int x1), (.int x2)] h0 (Q_rm8_3 Z x0 x1 x2 h0 n0) := by
  refine own_enter (g0 := fun m => (mkF m 0 #[.val (.int (3 : Int32)), .val (.int x0), .val (.int x1), .val (.int x2), .unset] [])) pn_rm8_3 (fun m => by first | (simp [entryFrame, mkF, argsToLocals, Value.category, maxLocals]; done) | rfl) ?_
  intro p e s m below meth c s₁ hx hby hml hown hnm hret hlk hZ X0 e0
  have hml : c.maxLocals = 5 := hml
  have hown : s.vm.findClass "watchword/PasswordCallbackGetPasswordPinLaw" = some m.cls := hown
  have N0 := Fr.nil n0
  show own_Go p e below _ s₁ (mkF m 0 #[.val (.int (3 : Int32)), .val (.int x0), .val (.int x1), .val (.int x2), .unset] [])
  have K0 := Keep.refl h0 []
  refine own_by (fun _ k => XS.iloadN X0.here hx rfl (hb hby d8_0) rfl k) ?_
  show own_Go p e below _ s₁ (mkF m 1 #[.val (.int (3 : Int32)), .val (.int x0), .val (.int x1), .val (.int x2), .unset] [(.int (3 : Int32))])
  refine own_by (fun _ k => XS.ifYes X0.here hx rfl (pc0 := 1) (pc' := 8) rfl (hb hby d8_1) rfl ((if0 _ _).trans (feq (by decide : ¬ ((3 : Int32) = (0 : Int32)))).2) (by decide) (by decide) k) ?_
  show own_Go p e below _ s₁ (mkF m 8 #[.val (.int (3 : Int32)), .val (.int x0), .val (.int x1), .val (.int x2), .unset] [])
  refine own_by (fun _ k => XS.iloadN X0.here hx rfl (hb hby d8_8) rfl k) ?_
  show own_Go p e below _ s₁ (mkF m 9 #[.val (.int (3 : Int32)), .val (.int x0), .val (.int x1), .val (.int x2), .unset] [(.int (3 : Int32))])
  refine own_by (fun _ k => XS.iconst X0.here hx rfl (hb hby d8_9) k) ?_
  show own_Go p e below _ s₁ (mkF m 10 #[.val (.int (3 : Int32)), .val (.int x0), .val (.int x1), .val (.int x2), .unset] [(.int (1 : Int32)), (.int (3 : Int32))])
  refine own_by (fun _ k => XS.icmpYes X0.here hx rfl (pc0 := 10) (pc' := 26) rfl (hb hby d8_10) rfl (feq (by decide : ¬ ((3 : Int32) = (1 : Int32)))).2 (by decide) (by decide) k) ?_
  show own_Go p e below _ s₁ (mkF m 26 #[.val (.int (3 : Int32)), .val (.int x0), .val (.int x1), .val (.int x2), .unset] [])
  refine own_by (fun _ k => XS.iloadN X0.here hx rfl (hb hby d8_26) rfl k) ?_
  show own_Go p e below _ s₁ (mkF m 27 #[.val (.int (3 : Int32)), .val (.int x0), .val (.int x1), .val (.int x2), .unset] [(.int (3 : Int32))])
  refine own_by (fun _ k => XS.iconst X0.here hx rfl (hb hby d8_27) k) ?_
  show own_Go p e below _ s₁ (mkF m 28 #[.val (.int (3 : Int32)), .val (.int x0), .val (.int x1), .val (.int x2), .unset] [(.int (2 : Int32)), (.int (3 : Int32))])
  refine own_by (fun _ k => XS.icmpYes X0.here hx rfl (pc0 := 28) (pc' := 49) rfl (hb hby d8_28) rfl (feq (by decide : ¬ ((3 : Int32) = (2 : Int32)))).2 (by decide) (by decide) k) ?_
  show own_Go p e below _ s₁ (mkF m 49 #[.val (.int (3 : Int32)), .val (.int x0), .val (.int x1), .val (.int x2), .unset] [])
  refine own_by (fun _ k => XS.iconst X0.here hx rfl (hb hby d8_49) k) ?_
  show own_Go p e below _ s₁ (mkF m 50 #[.val (.int (3 : Int32)), .val (.int x0), .val (.int x1), .val (.int x2), .unset] [(.int (3 : Int32))])
  obtain ⟨T278, h278, k278, X278, e278, E278, A278, C278, st278⟩ := newPE X0 hx hZ (hw _ (List.mem_of_getElem? (i := 48) rfl)) e0 (g := (mkF m 50 #[.val (.int (3 : Int32)), .val (.int x0), .val (.int x1), .val (.int x2), .unset] [(.int (3 : Int32))])) rfl (hb hby d8_50) rfl (by decide) (cap := 3) (by decide) (by decide) (by decide) (by decide) (ad := "[C") (by decide)
  obtain ⟨b278, g278⟩ : ∃ z, z = h0.size := ⟨_, rfl⟩
  rw [← g278] at A278 C278 st278
  have og_b278 : n0 ≤ b278 := Nat.le_trans Z0 (Nat.le_of_eq g278.symm)
  have sz_b278 : h0.size ≤ b278 := Nat.le_trans K0.1 (Nat.le_of_eq g278.symm)
  have Z278 : n0 ≤ h278.size := Nat.le_trans Z0 E278.1
  have K279 := K0.ext E278
  have V278 : Arv Z h278 b278 k278 .char (3 : Int32) [(.int (0 : Int32)), (.int (0 : Int32)), (.int (0 : Int32))] (.int (0 : Int32)) := (Arv.new A278 (by decide)).pad (pad_rep [] (.int (0 : Int32)) 3)
  refine own_by st278 ?_
  show own_Go p e below _ T278 (mkF m 52 #[.val (.int (3 : Int32)), .val (.int x0), .val (.int x1), .val (.int x2), .unset] [(.ref b278)])
  refine own_by (fun _ k => XS.astore X278.here hx rfl (hb hby d8_52) rfl rfl (l' := #[.val (.int (3 : Int32)), .val (.int x0), .val (.int x1), .val (.int x2), .val (.ref b278)]) rfl k) ?_
  show own_Go p e below _ T278 (mkF m 54 #[.val (.int (3 : Int32)), .val (.int x0), .val (.int x1), .val (.int x2), .val (.ref b278)] [])
  refine own_by (fun _ k => XS.aload X278.here hx rfl (hb hby d8_54) rfl rfl k) ?_
  show own_Go p e below _ T278 (mkF m 56 #[.val (.int (3 : Int32)), .val (.int x0), .val (.int x1), .val (.int x2), .val (.ref b278)] [(.ref b278)])
  refine own_by (fun _ k => XS.iconst X278.here hx rfl (hb hby d8_56) k) ?_
  show own_Go p e below _ T278 (mkF m 57 #[.val (.int (3 : Int32)), .val (.int x0), .val (.int x1), .val (.int x2), .val (.ref b278)] [(.int (0 : Int32)), (.ref b278)])
  refine own_by (fun _ k => XS.iloadN X278.here hx rfl (hb hby d8_57) rfl k) ?_
  show own_Go p e below _ T278 (mkF m 58 #[.val (.int (3 : Int32)), .val (.int x0), .val (.int x1), .val (.int x2), .val (.ref b278)] [(.int x0), (.int (0 : Int32)), (.ref b278)])
  obtain ⟨cl280, Ar280, cq280, hin280, hat280, set280⟩ := own_arv V278 (j := (0 : Int32)) ⟨by decide, by decide⟩
  obtain ⟨T281, h281, X281, e281, W281, st281⟩ := stC X278 hx hZ e278 Ar280 (j := (0 : Int32)) hin280 (g := (mkF m 58 #[.val (.int (3 : Int32)), .val (.int x0), .val (.int x1), .val (.int x2), .val (.ref b278)] [(.int x0), (.int (0 : Int32)), (.ref b278)])) rfl rfl (hb hby d8_58)
  have wq281 : nar .char x0 = x0 := hn0
  rw [wq281] at W281
  have wf281 : fits .char (.int x0) = true := wq281 ▸ (fits_nar_char _)
  have V281 : Arv Z h281 b278 k278 .char (3 : Int32) [(.int x0), (.int (0 : Int32)), (.int (0 : Int32))] (.int (0 : Int32)) := set280 wf281 W281 0 rfl (Nat.le_of_ble_eq_true rfl)
  have N281 := Fr.snoc X281 N0 og_b278
  have K282 := K279.wr W281 (Or.inr sz_b278)
  have Z281 : n0 ≤ h281.size := Nat.le_trans Z278 (Keep.of_wr W281).1
  refine own_by st281 ?_
  show own_Go p e below _ T281 (mkF m 59 #[.val (.int (3 : Int32)), .val (.int x0), .val (.int x1), .val (.int x2), .val (.ref b278)] [])
  refine own_by (fun _ k => XS.aload X281.here hx rfl (hb hby d8_59) rfl rfl k) ?_
  show own_Go p e below _ T281 (mkF m 61 #[.val (.int (3 : Int32)), .val (.int x0), .val (.int x1), .val (.int x2), .val (.ref b278)] [(.ref b278)])
  refine own_by (fun _ k => XS.iconst X281.here hx rfl (hb hby d8_61) k) ?_
  show own_Go p e below _ T281 (mkF m 62 #[.val (.int (3 : Int32)), .val (.int x0), .val (.int x1), .val (.int x2), .val (.ref b278)] [(.int (1 : Int32)), (.ref b278)])
  refine own_by (fun _ k => XS.iloadN X281.here hx rfl (hb hby d8_62) rfl k) ?_
  show own_Go p e below _ T281 (mkF m 63 #[.val (.int (3 : Int32)), .val (.int x0), .val (.int x1), .val (.int x2), .val (.ref b278)] [(.int x1), (.int (1 : Int32)), (.ref b278)])
  obtain ⟨cl283, Ar283, cq283, hin283, hat283, set283⟩ := own_arv V281 (j := (1 : Int32)) ⟨by decide, by decide⟩
  obtain ⟨T284, h284, X284, e284, W284, st284⟩ := stC X281 hx hZ e281 Ar283 (j := (1 : Int32)) hin283 (g := (mkF m 63 #[.val (.int (3 : Int32)), .val (.int x0), .val (.int x1), .val (.int x2), .val (.ref b278)] [(.int x1), (.int (1 : Int32)), (.ref b278)])) rfl rfl (hb hby d8_63)
  have wq284 : nar .char x1 = x1 := hn1
  rw [wq284] at W284
  have wf284 : fits .char (.int x1) = true := wq284 ▸ (fits_nar_char _)
  have V284 : Arv Z h284 b278 k278 .char (3 : Int32) [(.int x0), (.int x1), (.int (0 : Int32))] (.int (0 : Int32)) := set283 wf284 W284 1 rfl (Nat.le_of_ble_eq_true rfl)
  have N284 := Fr.snoc X284 N281 og_b278
  have K285 := K282.wr W284 (Or.inr sz_b278)
  have Z284 : n0 ≤ h284.size := Nat.le_trans Z281 (Keep.of_wr W284).1
  refine own_by st284 ?_
  show own_Go p e below _ T284 (mkF m 64 #[.val (.int (3 : Int32)), .val (.int x0), .val (.int x1), .val (.int x2), .val (.ref b278)] [])
  refine own_by (fun _ k => XS.aload X284.here hx rfl (hb hby d8_64) rfl rfl k) ?_
  show own_Go p e below _ T284 (mkF m 66 #[.val (.int (3 : Int32)), .val (.int x0), .val (.int x1), .val (.int x2), .val (.ref b278)] [(.ref b278)])
  refine own_by (fun _ k => XS.iconst X284.here hx rfl (hb hby d8_66) k) ?_
  show own_Go p e below _ T284 (mkF m 67 #[.val (.int (3 : Int32)), .val (.int x0), .val (.int x1), .val (.int x2), .val (.ref b278)] [(.int (2 : Int32)), (.ref b278)])
  refine own_by (fun _ k => XS.iloadN X284.here hx rfl (hb hby d8_67) rfl k) ?_
  show own_Go p e below _ T284 (mkF m 68 #[.val (.int (3 : Int32)), .val (.int x0), .val (.int x1), .val (.int x2), .val (.ref b278)] [(.int x2), (.int (2 : Int32)), (.ref b278)])
  obtain ⟨cl286, Ar286, cq286, hin286, hat286, set286⟩ := own_arv V284 (j := (2 : Int32)) ⟨by decide, by decide⟩
  obtain ⟨T287, h287, X287, e287, W287, st287⟩ := stC X284 hx hZ e284 Ar286 (j := (2 : Int32)) hin286 (g := (mkF m 68 #[.val (.int (3 : Int32)), .val (.int x0), .val (.int x1), .val (.int x2), .val (.ref b278)] [(.int x2), (.int (2 : Int32)), (.ref b278)])) rfl rfl (hb hby d8_68)
  have wq287 : nar .char x2 = x2 := hn2
  rw [wq287] at W287
  have wf287 : fits .char (.int x2) = true := wq287 ▸ (fits_nar_char _)
  have V287 : Arv Z h287 b278 k278 .char (3 : Int32) [(.int x0), (.int x1), (.int x2)] (.int (0 : Int32)) := set286 wf287 W287 2 rfl (Nat.le_of_ble_eq_true rfl)
  have N287 := Fr.snoc X287 N284 og_b278
  have K288 := K285.wr W287 (Or.inr sz_b278)
  have Z287 : n0 ≤ h287.size := Nat.le_trans Z284 (Keep.of_wr W287).1
  refine own_by st287 ?_
  show own_Go p e below _ T287 (mkF m 69 #[.val (.int (3 : Int32)), .val (.int x0), .val (.int x1), .val (.int x2), .val (.ref b278)] [])
  refine own_by (fun _ k => XS.aload X287.here hx rfl (hb hby d8_69) rfl rfl k) ?_
  show own_Go p e below _ T287 (mkF m 71 #[.val (.int (3 : Int32)), .val (.int x0), .val (.int x1), .val (.int x2), .val (.ref b278)] [(.ref b278)])
  have f289 := (((C278.wr W281).wr W284).wr W287)
  exact own_retA X287 hx hlk hret rfl rfl (hb hby d8_71) (by first | exact ⟨b278, k278, rfl, N287, K288, sz_b278, f289, V287⟩ | (rw [e287]; exact ⟨b278, k278, rfl, N287, K288, sz_b278, f289, V287⟩)) (by decide) (by decide)
def Q_rm13_3 (Z : State) (q : Addr) (k2 : ClassId) (x0 x1 x2 : Int32) (h0 : Heap) (n0 : Nat) (v : Option Value) (h : Heap) (L : List Loc) : Prop := v = none ∧ Fr n0 L ∧ Keep h0 h [q]
theorem pn_rm13_3 : plainFor (⟨"java/util/Arrays", "fill", "([CC)V"⟩ : MethodName) = true := plainFor_of_name (by first | (simp [plainName, overriddenIn, x]; done) | decide +kernel)
set_option maxRecDepth 65536 in
set_option maxHeartbeats 40000000 in
theorem rm13_3 (l : Launch) (Z : State) (a0 : Array Value) (hw : ∀ d ∈ tables_1, d.before a0 Z = true) (ws : List Jvm.Cond) (q : Addr) (k2 : ClassId) (x0 x1 x2 : Int32) (h0 : Heap) (n0 : Nat) (Z0 : n0 ≤ h0.size) (g1 : n0 ≤ q) (V1 : Arv Z h0 q k2 .char (3 : Int32) [(.int x0), (.int x1), (.int x2)] (.int (0 : Int32))) :
    own_Met l Z (⟨"java/util/Arrays", "fill", "([CC)V"⟩ : MethodName) jdk_65_method_107_code 4 none ws ({ frames := 0, cells := 0, slots := 0, locals := 0 } : Room) #[(.ref q), (.int (0 : Int32))] h0 (Q_rm13_3 Z q k2 x0 x1 x2 h0 n0) := by
  refine own_enter (g0 := fun m => (mkF m 0 #[.val (.ref q), .val (.int (0 : Int32)), .unset, .unset] [])) pn_rm13_3 (fun m => by first | (simp [entryFrame, mkF, argsToLocals, Value.category, maxLocals]; done) | rfl) ?_
  intro p e s m below meth c s₁ hx hby hml hown hnm hret hlk hZ X0 e0
  have hml : c.maxLocals = 4 := hml
  have hown : s.vm.findClass "java/util/Arrays" = some m.cls := hown
  have N0 := Fr.nil n0
  show own_Go p e below _ s₁ (mkF m 0 #[.val (.ref q), .val (.int (0 : Int32)), .unset, .unset] [])
  have K0 := Keep.refl h0 [q]
  refine own_by (fun _ k => XS.iconst X0.here hx rfl (hb hby d13_0) k) ?_
  show own_Go p e below _ s₁ (mkF m 1 #[.val (.ref q), .val (.int (0 : Int32)), .unset, .unset] [(.int (0 : Int32))])
  refine own_by (fun _ k => XS.istoreN X0.here hx rfl (hb hby d13_1) rfl (l' := #[.val (.ref q), .val (.int (0 : Int32)), .val (.int (0 : Int32)), .unset]) rfl k) ?_
  show own_Go p e below _ s₁ (mkF m 2 #[.val (.ref q), .val (.int (0 : Int32)), .val (.int (0 : Int32)), .unset] [])
  refine own_by (fun _ k => XS.aloadN X0.here hx rfl (hb hby d13_2) rfl rfl k) ?_
  show own_Go p e below _ s₁ (mkF m 3 #[.val (.ref q), .val (.int (0 : Int32)), .val (.int (0 : Int32)), .unset] [(.ref q)])
  obtain ⟨cl290, Ar290, len290⟩ := own_len V1
  refine own_by (T' := s₁) (g' := (mkF m 4 #[.val (.ref q), .val (.int (0 : Int32)), .val (.int (0 : Int32)), .unset] [(.int (3 : Int32))])) (fun _ k => X0.arraylength hx (by rw [e0]; exact Ar290.1) (State.isArrayOf_alike hZ.alike Ar290.2.1) (g := (mkF m 3 #[.val (.ref q), .val (.int (0 : Int32)), .val (.int (0 : Int32)), .unset] [(.ref q)])) rfl rfl (hb hby d13_3) _ (by rw [len290]; exact k)) ?_
  refine own_by (fun _ k => XS.istoreN X0.here hx rfl (hb hby d13_4) rfl (l' := #[.val (.ref q), .val (.int (0 : Int32)), .val (.int (0 : Int32)), .val (.int (3 : Int32))]) rfl k) ?_
  show own_Go p e below _ s₁ (mkF m 5 #[.val (.ref q), .val (.int (0 : Int32)), .val (.int (0 : Int32)), .val (.int (3 : Int32))] [])
  refine own_by (fun _ k => XS.iloadN X0.here hx rfl (hb hby d13_5) rfl k) ?_
  show own_Go p e below _ s₁ (mkF m 6 #[.val (.ref q), .val (.int (0 : Int32)), .val (.int (0 : Int32)), .val (.int (3 : Int32))] [(.int (0 : Int32))])
  refine own_by (fun _ k => XS.iloadN X0.here hx rfl (hb hby d13_6) rfl k) ?_
  show own_Go p e below _ s₁ (mkF m 7 #[.val (.ref q), .val (.int (0 : Int32)), .val (.int (0 : Int32)), .val (.int (3 : Int32))] [(.int (3 : Int32)), (.int (0 : Int32))])
  refine own_by (fun _ k => XS.icmpNo X0.here hx rfl (hb hby d13_7) rfl (tlt (by decide : (0 : Int32) < (3 : Int32))).2.1 k) ?_
  show own_Go p e below _ s₁ (mkF m 10 #[.val (.ref q), .val (.int (0 : Int32)), .val (.int (0 : Int32)), .val (.int (3 : Int32))] [])
  refine own_by (fun _ k => XS.aloadN X0.here hx rfl (hb hby d13_10) rfl rfl k) ?_
  show own_Go p e below _ s₁ (mkF m 11 #[.val (.ref q), .val (.int (0 : Int32)), .val (.int (0 : Int32)), .val (.int (3 : Int32))] [(.ref q)])
  refine own_by (fun _ k => XS.iloadN X0.here hx rfl (hb hby d13_11) rfl k) ?_
  show own_Go p e below _ s₁ (mkF m 12 #[.val (.ref q), .val (.int (0 : Int32)), .val (.int (0 : Int32)), .val (.int (3 : Int32))] [(.int (0 : Int32)), (.ref q)])
  refine own_by (fun _ k => XS.iloadN X0.here hx rfl (hb hby d13_12) rfl k) ?_
  show own_Go p e below _ s₁ (mkF m 13 #[.val (.ref q), .val (.int (0 : Int32)), .val (.int (0 : Int32)), .val (.int (3 : Int32))] [(.int (0 : Int32)), (.int (0 : Int32)), (.ref q)])
  obtain ⟨cl291, Ar291, cq291, hin291, hat291, set291⟩ := own_arv V1 (j := (0 : Int32)) ⟨by decide, by decide⟩
  obtain ⟨T292, h292, X292, e292, W292, st292⟩ := stC X0 hx hZ e0 Ar291 (j := (0 : Int32)) hin291 (g := (mkF m 13 #[.val (.ref q), .val (.int (0 : Int32)), .val (.int (0 : Int32)), .val (.int (3 : Int32))] [(.int (0 : Int32)), (.int (0 : Int32)), (.ref q)])) rfl rfl (hb hby d13_13)
  have wq292 : nar .char (0 : Int32) = (0 : Int32) := rfl
  rw [wq292] at W292
  have wf292 : fits .char (.int (0 : Int32)) = true := wq292 ▸ (fits_nar_char _)
  have V292 : Arv Z h292 q k2 .char (3 : Int32) [(.int (0 : Int32)), (.int x1), (.int x2)] (.int (0 : Int32)) := set291 wf292 W292 0 rfl (Nat.le_of_ble_eq_true rfl)
  have N292 := Fr.snoc X292 N0 g1
  have K293 := K0.wr W292 (Or.inl (List.mem_of_getElem? (i := 0) rfl))
  have Z292 : n0 ≤ h292.size := Nat.le_trans Z0 (Keep.of_wr W292).1
  refine own_by st292 ?_
  show own_Go p e below _ T292 (mkF m 14 #[.val (.ref q), .val (.int (0 : Int32)), .val (.int (0 : Int32)), .val (.int (3 : Int32))] [])
  refine own_by (fun _ k => XS.iinc X292.here hx rfl (hb hby d13_14) rfl (l' := #[.val (.ref q), .val (.int (0 : Int32)), .val (.int ((0 : Int32) + (1 : Int32))), .val (.int (3 : Int32))]) rfl k) ?_
  show own_Go p e below _ T292 (mkF m 17 #[.val (.ref q), .val (.int (0 : Int32)), .val (.int ((0 : Int32) + (1 : Int32))), .val (.int (3 : Int32))] [])
  rw [show (0 : Int32) + (1 : Int32) = (1 : Int32) from by decide]
  show own_Go p e below _ T292 (mkF m 17 #[.val (.ref q), .val (.int (0 : Int32)), .val (.int (1 : Int32)), .val (.int (3 : Int32))] [])
  refine own_by (fun _ k => XS.goto X292.here hx rfl (pc0 := 17) (pc' := 5) rfl (hb hby d13_17) (by decide) (by decide) k) ?_
  show own_Go p e below _ T292 (mkF m 5 #[.val (.ref q), .val (.int (0 : Int32)), .val (.int (1 : Int32)), .val (.int (3 : Int32))] [])
  refine own_by (fun _ k => XS.iloadN X292.here hx rfl (hb hby d13_5) rfl k) ?_
  show own_Go p e below _ T292 (mkF m 6 #[.val (.ref q), .val (.int (0 : Int32)), .val (.int (1 : Int32)), .val (.int (3 : Int32))] [(.int (1 : Int32))])
  refine own_by (fun _ k => XS.iloadN X292.here hx rfl (hb hby d13_6) rfl k) ?_
  show own_Go p e below _ T292 (mkF m 7 #[.val (.ref q), .val (.int (0 : Int32)), .val (.int (1 : Int32)), .val (.int (3 : Int32))] [(.int (3 : Int32)), (.int (1 : Int32))])
  refine own_by (fun _ k => XS.icmpNo X292.here hx rfl (hb hby d13_7) rfl (tlt (by decide : (1 : Int32) < (3 : Int32))).2.1 k) ?_
  show own_Go p e below _ T292 (mkF m 10 #[.val (.ref q), .val (.int (0 : Int32)), .val (.int (1 : Int32)), .val (.int (3 : Int32))] [])
  refine own_by (fun _ k => XS.aloadN X292.here hx rfl (hb hby d13_10) rfl rfl k) ?_
  show own_Go p e below _ T292 (mkF m 11 #[.val (.ref q), .val (.int (0 : Int32)), .val (.int (1 : Int32)), .val (.int (3 : Int32))] [(.ref q)])
  refine own_by (fun _ k => XS.iloadN X292.here hx rfl (hb hby d13_11) rfl k) ?_
  show own_Go p e below _ T292 (mkF m 12 #[.val (.ref q), .val (.int (0 : Int32)), .val (.int (1 : Int32)), .val (.int (3 : Int32))] [(.int (1 : Int32)), (.ref q)])
  refine own_by (fun _ k => XS.iloadN X292.here hx rfl (hb hby d13_12) rfl k) ?_
  show own_Go p e below _ T292 (mkF m 13 #[.val (.ref q), .val (.int (0 : Int32)), .val (.int (1 : Int32)), .val (.int (3 : Int32))] [(.int (0 : Int32)), (.int (1 : Int32)), (.ref q)])
  obtain ⟨cl294, Ar294, cq294, hin294, hat294, set294⟩ := own_arv V292 (j := (1 : Int32)) ⟨by decide, by decide⟩
  obtain ⟨T295, h295, X295, e295, W295, st295⟩ := stC X292 hx hZ e292 Ar294 (j := (1 : Int32)) hin294 (g := (mkF m 13 #[.val (.ref q), .val (.int (0 : Int32)), .val (.int (1 : Int32)), .val (.int (3 : Int32))] [(.int (0 : Int32)), (.int (1 : Int32)), (.ref q)])) rfl rfl (hb hby d13_13)
  have wq295 : nar .char (0 : Int32) = (0 : Int32) := rfl
  rw [wq295] at W295
  have wf295 : fits .char (.int (0 : Int32)) = true := wq295 ▸ (fits_nar_char _)
  have V295 : Arv Z h295 q k2 .char (3 : Int32) [(.int (0 : Int32)), (.int (0 : Int32)), (.int x2)] (.int (0 : Int32)) := set294 wf295 W295 1 rfl (Nat.le_of_ble_eq_true rfl)
  have N295 := Fr.snoc X295 N292 g1
  have K296 := K293.wr W295 (Or.inl (List.mem_of_getElem? (i := 0) rfl))
  have Z295 : n0 ≤ h295.size := Nat.le_trans Z292 (Keep.of_wr W295).1
  refine own_by st295 ?_
  show own_Go p e below _ T295 (mkF m 14 #[.val (.ref q), .val (.int (0 : Int32)), .val (.int (1 : Int32)), .val (.int (3 : Int32))] [])
  refine own_by (fun _ k => XS.iinc X295.here hx rfl (hb hby d13_14) rfl (l' := #[.val (.ref q), .val (.int (0 : Int32)), .val (.int ((1 : Int32) + (1 : Int32))), .val (.int (3 : Int32))]) rfl k) ?_
  show own_Go p e below _ T295 (mkF m 17 #[.val (.ref q), .val (.int (0 : Int32)), .val (.int ((1 : Int32) + (1 : Int32))), .val (.int (3 : Int32))] [])
  rw [show (1 : Int32) + (1 : Int32) = (2 : Int32) from by decide]
  show own_Go p e below _ T295 (mkF m 17 #[.val (.ref q), .val (.int (0 : Int32)), .val (.int (2 : Int32)), .val (.int (3 : Int32))] [])
  refine own_by (fun _ k => XS.goto X295.here hx rfl (pc0 := 17) (pc' := 5) rfl (hb hby d13_17) (by decide) (by decide) k) ?_
  show own_Go p e below _ T295 (mkF m 5 #[.val (.ref q), .val (.int (0 : Int32)), .val (.int (2 : Int32)), .val (.int (3 : Int32))] [])
  refine own_by (fun _ k => XS.iloadN X295.here hx rfl (hb hby d13_5) rfl k) ?_
  show own_Go p e below _ T295 (mkF m 6 #[.val (.ref q), .val (.int (0 : Int32)), .val (.int (2 : Int32)), .val (.int (3 : Int32))] [(.int (2 : Int32))])
  refine own_by (fun _ k => XS.iloadN X295.here hx rfl (hb hby d13_6) rfl k) ?_
  show own_Go p e below _ T295 (mkF m 7 #[.val (.ref q), .val (.int (0 : Int32)), .val (.int (2 : Int32)), .val (.int (3 : Int32))] [(.int (3 : Int32)), (.int (2 : Int32))])
  refine own_by (fun _ k => XS.icmpNo X295.here hx rfl (hb hby d13_7) rfl (tlt (by decide : (2 : Int32) < (3 : Int32))).2.1 k) ?_
  show own_Go p e below _ T295 (mkF m 10 #[.val (.ref q), .val (.int (0 : Int32)), .val (.int (2 : Int32)), .val (.int (3 : Int32))] [])
  refine own_by (fun _ k => XS.aloadN X295.here hx rfl (hb hby d13_10) rfl rfl k) ?_
  show own_Go p e below _ T295 (mkF m 11 #[.val (.ref q), .val (.int (0 : Int32)), .val (.int (2 : Int32)), .val (.int (3 : Int32))] [(.ref q)])
  refine own_by (fun _ k => XS.iloadN X295.here hx rfl (hb hby d13_11) rfl k) ?_
  show own_Go p e below _ T295 (mkF m 12 #[.val (.ref q), .val (.int (0 : Int32)), .val (.int (2 : Int32)), .val (.int (3 : Int32))] [(.int (2 : Int32)), (.ref q)])
  refine own_by (fun _ k => XS.iloadN X295.here hx rfl (hb hby d13_12) rfl k) ?_
  show own_Go p e below _ T295 (mkF m 13 #[.val (.ref q), .val (.int (0 : Int32)), .val (.int (2 : Int32)), .val (.int (3 : Int32))] [(.int (0 : Int32)), (.int (2 : Int32)), (.ref q)])
  obtain ⟨cl297, Ar297, cq297, hin297, hat297, set297⟩ := own_arv V295 (j := (2 : Int32)) ⟨by decide, by decide⟩
  obtain ⟨T298, h298, X298, e298, W298, st298⟩ := stC X295 hx hZ e295 Ar297 (j := (2 : Int32)) hin297 (g := (mkF m 13 #[.val (.ref q), .val (.int (0 : Int32)), .val (.int (2 : Int32)), .val (.int (3 : Int32))] [(.int (0 : Int32)), (.int (2 : Int32)), (.ref q)])) rfl rfl (hb hby d13_13)
  have wq298 : nar .char (0 : Int32) = (0 : Int32) := rfl
  rw [wq298] at W298
  have wf298 : fits .char (.int (0 : Int32)) = true := wq298 ▸ (fits_nar_char _)
  have V298 : Arv Z h298 q k2 .char (3 : Int32) [(.int (0 : Int32)), (.int (0 : Int32)), (.int (0 : Int32))] (.int (0 : Int32)) := set297 wf298 W298 2 rfl (Nat.le_of_ble_eq_true rfl)
  have N298 := Fr.snoc X298 N295 g1
  have K299 := K296.wr W298 (Or.inl (List.mem_of_getElem? (i := 0) rfl))
  have Z298 : n0 ≤ h298.size := Nat.le_trans Z295 (Keep.of_wr W298).1
  refine own_by st298 ?_
  show own_Go p e below _ T298 (mkF m 14 #[.val (.ref q), .val (.int (0 : Int32)), .val (.int (2 : Int32)), .val (.int (3 : Int32))] [])
  refine own_by (fun _ k => XS.iinc X298.here hx rfl (hb hby d13_14) rfl (l' := #[.val (.ref q), .val (.int (0 : Int32)), .val (.int ((2 : Int32) + (1 : Int32))), .val (.int (3 : Int32))]) rfl k) ?_
  show own_Go p e below _ T298 (mkF m 17 #[.val (.ref q), .val (.int (0 : Int32)), .val (.int ((2 : Int32) + (1 : Int32))), .val (.int (3 : Int32))] [])
  rw [show (2 : Int32) + (1 : Int32) = (3 : Int32) from by decide]
  show own_Go p e below _ T298 (mkF m 17 #[.val (.ref q), .val (.int (0 : Int32)), .val (.int (3 : Int32)), .val (.int (3 : Int32))] [])
  refine own_by (fun _ k => XS.goto X298.here hx rfl (pc0 := 17) (pc' := 5) rfl (hb hby d13_17) (by decide) (by decide) k) ?_
  show own_Go p e below _ T298 (mkF m 5 #[.val (.ref q), .val (.int (0 : Int32)), .val (.int (3 : Int32)), .val (.int (3 : Int32))] [])
  refine own_by (fun _ k => XS.iloadN X298.here hx rfl (hb hby d13_5) rfl k) ?_
  show own_Go p e below _ T298 (mkF m 6 #[.val (.ref q), .val (.int (0 : Int32)), .val (.int (3 : Int32)), .val (.int (3 : Int32))] [(.int (3 : Int32))])
  refine own_by (fun _ k => XS.iloadN X298.here hx rfl (hb hby d13_6) rfl k) ?_
  show own_Go p e below _ T298 (mkF m 7 #[.val (.ref q), .val (.int (0 : Int32)), .val (.int (3 : Int32)), .val (.int (3 : Int32))] [(.int (3 : Int32)), (.int (3 : Int32))])
  refine own_by (fun _ k => XS.icmpYes X298.here hx rfl (pc0 := 7) (pc' := 20) rfl (hb hby d13_7) rfl (flt (by decide : ¬ ((3 : Int32) < (3 : Int32)))).2.1 (by decide) (by decide) k) ?_
  show own_Go p e below _ T298 (mkF m 20 #[.val (.ref q), .val (.int (0 : Int32)), .val (.int (3 : Int32)), .val (.int (3 : Int32))] [])
  exact own_ret0 X298 hx hlk hret (hb hby d13_20) (by first | exact ⟨rfl, N298, K299⟩ | (rw [e298]; exact ⟨rfl, N298, K299⟩)) (by decide) (by decide)
def Q_rm10_3 (Z : State) (a1 q : Addr) (k2 : ClassId) (x0 x1 x2 : Int32) (h0 : Heap) (n0 : Nat) (v : Option Value) (h : Heap) (L : List Loc) : Prop := v = none ∧ Fr n0 L ∧ Keep h0 h [a1, q] ∧ Exa Z h a1 "watchword/PasswordCallback" ∧ Fld Z h a1 "watchword/PasswordCallback" "password" "[C" .null
theorem pn_rm10_3 : plainFor (⟨"watchword/PasswordCallback", "clearPassword", "()V"⟩ : MethodName) = true := plainFor_of_name (by first | (simp [plainName, overriddenIn, x]; done) | decide +kernel)
set_option maxRecDepth 65536 in
set_option maxHeartbeats 40000000 in
theorem rm10_3 (l : Launch) (Z : State) (a0 : Array Value) (hw : ∀ d ∈ tables_1, d.before a0 Z = true) (ws : List Jvm.Cond) (a1 q : Addr) (k2 : ClassId) (x0 x1 x2 : Int32) (h0 : Heap) (n0 : Nat) (Z0 : n0 ≤ h0.size) (g1 : n0 ≤ a1) (g2 : n0 ≤ q) (hne : a1 ≠ q) (E1 : Exa Z h0 a1 "watchword/PasswordCallback") (F1 : Fld Z h0 a1 "watchword/PasswordCallback" "password" "[C" (.ref q)) (V1 : Arv Z h0 q k2 .char (3 : Int32) [(.int x0), (.int x1), (.int x2)] (.int (0 : Int32))) :
    own_Met l Z (⟨"watchword/PasswordCallback", "clearPassword", "()V"⟩ : MethodName) prog_50_method_6_code 1 none ws ({ frames := 1, cells := 0, slots := 0, locals := 16 } : Room) #[(.ref a1)] h0 (Q_rm10_3 Z a1 q k2 x0 x1 x2 h0 n0) := by
  refine own_enter (g0 := fun m => (mkF m 0 #[.val (.ref a1)] [])) pn_rm10_3 (fun m => by first | (simp [entryFrame, mkF, argsToLocals, Value.category, maxLocals]; done) | rfl) ?_
  intro p e s m below meth c s₁ hx hby hml hown hnm hret hlk hZ X0 e0
  have hml : c.maxLocals = 1 := hml
  have hown : s.vm.findClass "watchword/PasswordCallback" = some m.cls := hown
  have N0 := Fr.nil n0
  show own_Go p e below _ s₁ (mkF m 0 #[.val (.ref a1)] [])
  have K0 := Keep.refl h0 [a1, q]
  refine own_by (fun _ k => XS.aloadN X0.here hx rfl (hb hby d10_0) rfl rfl k) ?_
  show own_Go p e below _ s₁ (mkF m 1 #[.val (.ref a1)] [(.ref a1)])
  obtain ⟨T300, X300, e300, st300⟩ := getF X0 hx hZ hown (host := "") (Or.inl (hw _ (List.mem_of_getElem? (i := 42) rfl))) Via.refl e0 F1 (g := (mkF m 1 #[.val (.ref a1)] [(.ref a1)])) rfl rfl (hb hby d10_1)
  refine own_by st300 ?_
  show own_Go p e below _ T300 (mkF m 4 #[.val (.ref a1)] [(.ref q)])
  refine own_by (fun _ k => XS.ifnullNo X300.here hx rfl (hb hby d10_4) rfl k) ?_
  show own_Go p e below _ T300 (mkF m 7 #[.val (.ref a1)] [])
  refine own_by (fun _ k => XS.aloadN X300.here hx rfl (hb hby d10_7) rfl rfl k) ?_
  show own_Go p e below _ T300 (mkF m 8 #[.val (.ref a1)] [(.ref a1)])
  obtain ⟨T301, X301, e301, st301⟩ := getF X300 hx hZ hown (host := "") (Or.inl (hw _ (List.mem_of_getElem? (i := 42) rfl))) Via.refl e300 F1 (g := (mkF m 8 #[.val (.ref a1)] [(.ref a1)])) rfl rfl (hb hby d10_8)
  refine own_by st301 ?_
  show own_Go p e below _ T301 (mkF m 11 #[.val (.ref a1)] [(.ref q)])
  refine own_by (fun _ k => XS.iconst X301.here hx rfl (hb hby d10_11) k) ?_
  show own_Go p e below _ T301 (mkF m 12 #[.val (.ref a1)] [(.int (0 : Int32)), (.ref q)])
  obtain ⟨_, T302, L302, X302, ⟨rfl, N302q, Kf⟩, st302⟩ := own_callS X301 hx hZ hown (y := (⟨"java/util/Arrays", "fill", "([CC)V"⟩ : MethodName)) (hw _ (List.mem_of_getElem? (i := 74) rfl)) (hw _ (List.mem_of_getElem? (i := 75) rfl)) (hw _ (List.mem_of_getElem? (i := 76) rfl)) (hw _ (List.mem_of_getElem? (i := 77) rfl)) (by decide) (argsL := [(.ref q), (.int (0 : Int32))]) (rest := []) e301 (rm13_3 l Z a0 hw [] q k2 x0 x1 x2 h0 n0 Z0 g2 V1) (g := (mkF m 12 #[.val (.ref a1)] [(.int (0 : Int32)), (.ref q)])) rfl (by rw [hml]; rfl) (lenOf pd_3 rfl) rfl (W := 0) (by show 2 * 0 + _ ≤ _; exact Nat.le_of_eq rfl) (hb hby d10_12) (by decide) (by decide) (by decide) (by decide)
  have N302 := Fr.app N0 N302q
  refine own_by st302 ?_
  show own_Go p e below _ T302 (mkF m 15 #[.val (.ref a1)] [])
  have Z302 : n0 ≤ T302.heap.size := Nat.le_trans Z0 Kf.1
  have K302c := K0.trans Kf (allS (Or.inl (List.mem_of_getElem? (i := 1) rfl)) all0)
  refine own_by (fun _ k => XS.aloadN X302.here hx rfl (hb hby d10_15) rfl rfl k) ?_
  show own_Go p e below _ T302 (mkF m 16 #[.val (.ref a1)] [(.ref a1)])
  refine own_by (fun _ k => XS.aconstNull X302.here hx rfl (hb hby d10_16) k) ?_
  show own_Go p e below _ T302 (mkF m 17 #[.val (.ref a1)] [.null, (.ref a1)])
  have f304 := (F1.keep Kf (ninS hne nin0))
  have f305 := (E1.keep Kf)
  obtain ⟨T303, h303, X303, e303, W303, st303⟩ := putF X302 hx hZ hown (host := "") (Or.inl (hw _ (List.mem_of_getElem? (i := 42) rfl))) Via.refl rfl f304 f305 (Or.inl (hw _ (List.mem_of_getElem? (i := 43) rfl))) (hw _ (List.mem_of_getElem? (i := 27) rfl)) (ty := (.array .char)) (by decide) rfl rfl (g := (mkF m 17 #[.val (.ref a1)] [.null, (.ref a1)])) rfl rfl (hb hby d10_17)
  refine own_by st303 ?_
  have N303 := Fr.snoc X303 N302 g1
  have fw303 := f304.same W303
  have K306 := K302c.wr W303 (Or.inl (List.mem_of_getElem? (i := 0) rfl))
  have Z303 : n0 ≤ h303.size := Nat.le_trans Z302 (Keep.of_wr W303).1
  show own_Go p e below _ T303 (mkF m 20 #[.val (.ref a1)] [])
  have f307 := (f305.wr W303)
  exact own_ret0 X303 hx hlk hret (hb hby d10_20) (by first | exact ⟨rfl, N303, K306, f307, fw303⟩ | (rw [e303]; exact ⟨rfl, N303, K306, f307, fw303⟩)) (by decide) (by decide)
def Q_rm9_3 (Z : State) (a1 q : Addr) (k2 : ClassId) (x0 x1 x2 : Int32) (h0 : Heap) (n0 : Nat) (v : Option Value) (h : Heap) (L : List Loc) : Prop := ∃ b, v = none ∧ Fr n0 L ∧ Keep h0 h [a1] ∧ h0.size ≤ b ∧ Exa Z h a1 "watchword/PasswordCallback" ∧ Fld Z h a1 "watchword/PasswordCallback" "password" "[C" (.ref b) ∧ Exa Z h b "[C" ∧ Arv Z h b k2 .char (3 : Int32) [(.int x0), (.int x1), (.int x2)] (.int (0 : Int32))
theorem pn_rm9_3 : plainFor (⟨"watchword/PasswordCallback", "setPassword", "([C)V"⟩ : MethodName) = true := plainFor_of_name (by first | (simp [plainName, overriddenIn, x]; done) | decide +kernel)
set_option maxRecDepth 65536 in
set_option maxHeartbeats 40000000 in
theorem rm9_3 (l : Launch) (Z : State) (a0 : Array Value) (hw : ∀ d ∈ tables_1, d.before a0 Z = true) (ws : List Jvm.Cond) (a1 q : Addr) (k2 : ClassId) (x0 x1 x2 : Int32) (h0 : Heap) (n0 : Nat) (Z0 : n0 ≤ h0.size) (g1 : n0 ≤ a1) (E1 : Exa Z h0 a1 "watchword/PasswordCallback") (F1 : Fld Z h0 a1 "watchword/PasswordCallback" "password" "[C" .null) (V1 : Arv Z h0 q k2 .char (3 : Int32) [(.int x0), (.int x1), (.int x2)] (.int (0 : Int32))) (E2 : Exa Z h0 q "[C") :
    own_Met l Z (⟨"watchword/PasswordCallback", "setPassword", "([C)V"⟩ : MethodName) prog_50_method_4_code 2 none ws ({ frames := 1, cells := 1, slots := 3, locals := 16 } : Room) #[(.ref a1), (.ref q)] h0 (Q_rm9_3 Z a1 q k2 x0 x1 x2 h0 n0) := by
  refine own_enter (g0 := fun m => (mkF m 0 #[.val (.ref a1), .val (.ref q)] [])) pn_rm9_3 (fun m => by first | (simp [entryFrame, mkF, argsToLocals, Value.category, maxLocals]; done) | rfl) ?_
  intro p e s m below meth c s₁ hx hby hml hown hnm hret hlk hZ X0 e0
  have hml : c.maxLocals = 2 := hml
  have hown : s.vm.findClass "watchword/PasswordCallback" = some m.cls := hown
  have N0 := Fr.nil n0
  show own_Go p e below _ s₁ (mkF m 0 #[.val (.ref a1), .val (.ref q)] [])
  have K0 := Keep.refl h0 [a1]
  refine own_by (fun _ k => XS.aloadN X0.here hx rfl (hb hby d9_0) rfl rfl k) ?_
  show own_Go p e below _ s₁ (mkF m 1 #[.val (.ref a1), .val (.ref q)] [(.ref a1)])
  obtain ⟨_, T308, L308, X308, ⟨rfl, N308q, e308⟩, st308⟩ := own_callV X0 hx hZ hown (y := (⟨"watchword/PasswordCallback", "clearPassword", "()V"⟩ : MethodName)) (C := "watchword/PasswordCallback") (hw _ (List.mem_of_getElem? (i := 54) rfl)) (hw _ (List.mem_of_getElem? (i := 55) rfl)) (hw _ (List.mem_of_getElem? (i := 57) rfl)) (hw _ (List.mem_of_getElem? (i := 56) rfl)) (hw _ (List.mem_of_getElem? (i := 28) rfl)) (hw _ (List.mem_of_getElem? (i := 58) rfl)) (by decide) (a := a1) E1 (argsL := []) (rest := []) e0 (rm10z l Z a0 hw [] a1 h0 n0 Z0 F1) (g := (mkF m 1 #[.val (.ref a1), .val (.ref q)] [(.ref a1)])) rfl (by rw [hml]; rfl) (lenOf pd_4 rfl) rfl (W := 0) (by show 2 * 0 + _ ≤ _; exact Nat.le_of_eq rfl) (hb hby d9_1) (by decide) (by decide) (by decide) (by decide)
  have N308 := Fr.app N0 N308q
  refine own_by st308 ?_
  show own_Go p e below _ T308 (mkF m 4 #[.val (.ref a1), .val (.ref q)] [])
  refine own_by (fun _ k => XS.aloadN X308.here hx rfl (hb hby d9_4) rfl rfl k) ?_
  show own_Go p e below _ T308 (mkF m 5 #[.val (.ref a1), .val (.ref q)] [(.ref a1)])
  refine own_by (fun _ k => XS.aloadN X308.here hx rfl (hb hby d9_5) rfl rfl k) ?_
  show own_Go p e below _ T308 (mkF m 6 #[.val (.ref a1), .val (.ref q)] [(.ref q), (.ref a1)])
  refine own_by (fun _ k => XS.ifnonnullYes X308.here hx rfl (pc0 := 6) (pc' := 13) rfl (hb hby d9_6) rfl (by decide) (by decide) k) ?_
  show own_Go p e below _ T308 (mkF m 13 #[.val (.ref a1), .val (.ref q)] [(.ref a1)])
  refine own_by (fun _ k => XS.aloadN X308.here hx rfl (hb hby d9_13) rfl rfl k) ?_
  show own_Go p e below _ T308 (mkF m 14 #[.val (.ref a1), .val (.ref q)] [(.ref q), (.ref a1)])
  obtain ⟨T309, h309, X309, e309, E309, A309, C309, st309⟩ := cloneH X308 hx hZ hown (hw _ (List.mem_of_getElem? (i := 59) rfl)) (hw _ (List.mem_of_getElem? (i := 60) rfl)) (hw _ (List.mem_of_getElem? (i := 64) rfl)) (hw _ (List.mem_of_getElem? (i := 62) rfl)) (hw _ (List.mem_of_getElem? (i := 63) rfl)) (hw _ (List.mem_of_getElem? (i := 65) rfl)) e308 (hs := []) V1 E2 (g := (mkF m 14 #[.val (.ref a1), .val (.ref q)] [(.ref q), (.ref a1)])) rfl (by rw [hml]; rfl) rfl (hb hby d9_14) (by decide) (W := 1) (cap := 3) (by show 2 * 0 + _ ≤ _; exact Nat.le_of_eq rfl) (by decide) (by decide) (by decide) (by decide)
  obtain ⟨b309, g309⟩ : ∃ z, z = h0.size := ⟨_, rfl⟩
  rw [← g309] at A309 C309 st309
  have ne_a1_b309 : a1 ≠ b309 := Nat.ne_of_lt (Nat.lt_of_lt_of_le F1.lt (Nat.le_of_eq g309.symm))
  have ne_q_b309 : q ≠ b309 := Nat.ne_of_lt (Nat.lt_of_lt_of_le V1.lt (Nat.le_of_eq g309.symm))
  have og_b309 : n0 ≤ b309 := Nat.le_trans Z0 (Nat.le_of_eq g309.symm)
  have sz_b309 : h0.size ≤ b309 := Nat.le_trans K0.1 (Nat.le_of_eq g309.symm)
  have Z309 : n0 ≤ h309.size := Nat.le_trans Z0 E309.1
  have K310 := K0.ext E309
  have V309 : Arv Z h309 b309 k2 .char (3 : Int32) [(.int x0), (.int x1), (.int x2)] (.int (0 : Int32)) := A309
  refine own_by st309 ?_
  show own_Go p e below _ T309 (mkF m 17 #[.val (.ref a1), .val (.ref q)] [(.ref b309), (.ref a1)])
  obtain ⟨T311, X311, e311, st311⟩ := castY X309 hx hZ hown (hw _ (List.mem_of_getElem? (i := 66) rfl)) e309 (Ins.self C309) (g := (mkF m 17 #[.val (.ref a1), .val (.ref q)] [(.ref b309), (.ref a1)])) rfl rfl (hb hby d9_17)
  refine own_by st311 ?_
  show own_Go p e below _ T311 (mkF m 20 #[.val (.ref a1), .val (.ref q)] [(.ref b309), (.ref a1)])
  have f313 := (F1.ext E309)
  have f314 := (E1.ext E309)
  obtain ⟨T312, h312, X312, e312, W312, st312⟩ := putF X311 hx hZ hown (host := "") (Or.inl (hw _ (List.mem_of_getElem? (i := 42) rfl))) Via.refl e311 f313 f314 (Or.inl (hw _ (List.mem_of_getElem? (i := 43) rfl))) (hw _ (List.mem_of_getElem? (i := 27) rfl)) (ty := (.array .char)) (by decide) rfl rfl (g := (mkF m 20 #[.val (.ref a1), .val (.ref q)] [(.ref b309), (.ref a1)])) rfl rfl (hb hby d9_20)
  refine own_by st312 ?_
  have N312 := Fr.snoc X312 N308 g1
  have fw312 := f313.same W312
  have K315 := K310.wr W312 (Or.inl (List.mem_of_getElem? (i := 0) rfl))
  have Z312 : n0 ≤ h312.size := Nat.le_trans Z309 (Keep.of_wr W312).1
  show own_Go p e below _ T312 (mkF m 23 #[.val (.ref a1), .val (.ref q)] [])
  have f316 := (f314.wr W312)
  have f317 := (C309.wr W312)
  have f318 := (V309.other W312 (Ne.symm ne_a1_b309))
  exact own_ret0 X312 hx hlk hret (hb hby d9_23) (by first | exact ⟨b309, rfl, N312, K315, sz_b309, f316, fw312, f317, f318⟩ | (rw [e312]; exact ⟨b309, rfl, N312, K315, sz_b309, f316, fw312, f317, f318⟩)) (by decide) (by decide)
def Q_rm9n_3 (Z : State) (a1 q : Addr) (k2 : ClassId) (x0 x1 x2 : Int32) (h0 : Heap) (n0 : Nat) (v : Option Value) (h : Heap) (L : List Loc) : Prop := v = none ∧ Fr n0 L ∧ Keep h0 h [a1, q] ∧ Exa Z h a1 "watchword/PasswordCallback" ∧ Fld Z h a1 "watchword/PasswordCallback" "password" "[C" .null
theorem pn_rm9n_3 : plainFor (⟨"watchword/PasswordCallback", "setPassword", "([C)V"⟩ : MethodName) = true := plainFor_of_name (by first | (simp [plainName, overriddenIn, x]; done) | decide +kernel)
set_option maxRecDepth 65536 in
set_option maxHeartbeats 40000000 in
theorem rm9n_3 (l : Launch) (Z : State) (a0 : Array Value) (hw : ∀ d ∈ tables_1, d.before a0 Z = true) (ws : List Jvm.Cond) (a1 q : Addr) (k2 : ClassId) (x0 x1 x2 : Int32) (h0 : Heap) (n0 : Nat) (Z0 : n0 ≤ h0.size) (g1 : n0 ≤ a1) (g2 : n0 ≤ q) (hne : a1 ≠ q) (E1 : Exa Z h0 a1 "watchword/PasswordCallback") (F1 : Fld Z h0 a1 "watchword/PasswordCallback" "password" "[C" (.ref q)) (V1 : Arv Z h0 q k2 .char (3 : Int32) [(.int x0), (.int x1), (.int x2)] (.int (0 : Int32))) :
    own_Met l Z (⟨"watchword/PasswordCallback", "setPassword", "([C)V"⟩ : MethodName) prog_50_method_4_code 2 none ws ({ frames := 2, cells := 0, slots := 0, locals := 40 } : Room) #[(.ref a1), .null] h0 (Q_rm9n_3 Z a1 q k2 x0 x1 x2 h0 n0) := by
  refine own_enter (g0 := fun m => (mkF m 0 #[.val (.ref a1), .val .null] [])) pn_rm9n_3 (fun m => by first | (simp [entryFrame, mkF, argsToLocals, Value.category, maxLocals]; done) | rfl) ?_
  intro p e s m below meth c s₁ hx hby hml hown hnm hret hlk hZ X0 e0
  have hml : c.maxLocals = 2 := hml
  have hown : s.vm.findClass "watchword/PasswordCallback" = some m.cls := hown
  have N0 := Fr.nil n0
  show own_Go p e below _ s₁ (mkF m 0 #[.val (.ref a1), .val .null] [])
  have K0 := Keep.refl h0 [a1, q]
  refine own_by (fun _ k => XS.aloadN X0.here hx rfl (hb hby d9_0) rfl rfl k) ?_
  show own_Go p e below _ s₁ (mkF m 1 #[.val (.ref a1), .val .null] [(.ref a1)])
  obtain ⟨_, T319, L319, X319, ⟨rfl, N319q, Kc, Ec, Fc⟩, st319⟩ := own_callV X0 hx hZ hown (y := (⟨"watchword/PasswordCallback", "clearPassword", "()V"⟩ : MethodName)) (C := "watchword/PasswordCallback") (hw _ (List.mem_of_getElem? (i := 54) rfl)) (hw _ (List.mem_of_getElem? (i := 55) rfl)) (hw _ (List.mem_of_getElem? (i := 57) rfl)) (hw _ (List.mem_of_getElem? (i := 56) rfl)) (hw _ (List.mem_of_getElem? (i := 28) rfl)) (hw _ (List.mem_of_getElem? (i := 58) rfl)) (by decide) (a := a1) E1 (argsL := []) (rest := []) e0 (rm10_3 l Z a0 hw [] a1 q k2 x0 x1 x2 h0 n0 Z0 g1 g2 hne E1 F1 V1) (g := (mkF m 1 #[.val (.ref a1), .val .null] [(.ref a1)])) rfl (by rw [hml]; rfl) (lenOf pd_4 rfl) rfl (W := 0) (by show 2 * 0 + _ ≤ _; exact Nat.le_of_eq rfl) (hb hby d9_1) (by decide) (by decide) (by decide) (by decide)
  have N319 := Fr.app N0 N319q
  refine own_by st319 ?_
  show own_Go p e below _ T319 (mkF m 4 #[.val (.ref a1), .val .null] [])
  have Z319 : n0 ≤ T319.heap.size := Nat.le_trans Z0 Kc.1
  have K319c := K0.trans Kc (allS (Or.inl (List.mem_of_getElem? (i := 0) rfl)) (allS (Or.inl (List.mem_of_getElem? (i := 1) rfl)) all0))
  refine own_by (fun _ k => XS.aloadN X319.here hx rfl (hb hby d9_4) rfl rfl k) ?_
  show own_Go p e below _ T319 (mkF m 5 #[.val (.ref a1), .val .null] [(.ref a1)])
  refine own_by (fun _ k => XS.aloadN X319.here hx rfl (hb hby d9_5) rfl rfl k) ?_
  show own_Go p e below _ T319 (mkF m 6 #[.val (.ref a1), .val .null] [.null, (.ref a1)])
  refine own_by (fun _ k => XS.ifnonnullNo X319.here hx rfl (hb hby d9_6) rfl k) ?_
  show own_Go p e below _ T319 (mkF m 9 #[.val (.ref a1), .val .null] [(.ref a1)])
  refine own_by (fun _ k => XS.aconstNull X319.here hx rfl (hb hby d9_9) k) ?_
  show own_Go p e below _ T319 (mkF m 10 #[.val (.ref a1), .val .null] [.null, (.ref a1)])
  refine own_by (fun _ k => XS.goto X319.here hx rfl (pc0 := 10) (pc' := 20) rfl (hb hby d9_10) (by decide) (by decide) k) ?_
  show own_Go p e below _ T319 (mkF m 20 #[.val (.ref a1), .val .null] [.null, (.ref a1)])
  obtain ⟨T320, h320, X320, e320, W320, st320⟩ := putF X319 hx hZ hown (host := "") (Or.inl (hw _ (List.mem_of_getElem? (i := 42) rfl))) Via.refl rfl Fc Ec (Or.inl (hw _ (List.mem_of_getElem? (i := 43) rfl))) (hw _ (List.mem_of_getElem? (i := 27) rfl)) (ty := (.array .char)) (by decide) rfl rfl (g := (mkF m 20 #[.val (.ref a1), .val .null] [.null, (.ref a1)])) rfl rfl (hb hby d9_20)
  refine own_by st320 ?_
  have N320 := Fr.snoc X320 N319 g1
  have fw320 := Fc.same W320
  have K321 := K319c.wr W320 (Or.inl (List.mem_of_getElem? (i := 0) rfl))
  have Z320 : n0 ≤ h320.size := Nat.le_trans Z319 (Keep.of_wr W320).1
  show own_Go p e below _ T320 (mkF m 23 #[.val (.ref a1), .val .null] [])
  have f322 := (Ec.wr W320)
  exact own_ret0 X320 hx hlk hret (hb hby d9_23) (by first | exact ⟨rfl, N320, K321, f322, fw320⟩ | (rw [e320]; exact ⟨rfl, N320, K321, f322, fw320⟩)) (by decide) (by decide)
def Q_rm11_3 (Z : State) (q : Addr) (k2 : ClassId) (x0 x1 x2 : Int32) (h0 : Heap) (n0 : Nat) (v : Option Value) (h : Heap) (L : List Loc) : Prop := v = none ∧ Fr n0 L ∧ Keep h0 h [q]
theorem pn_rm11_3 : plainFor (⟨"watchword/PasswordCallbackGetPasswordPinLaw", "flip", "([C)V"⟩ : MethodName) = true := plainFor_of_name (by first | (simp [plainName, overriddenIn, x]; done) | decide +kernel)
theorem d11_35 : decode method_3_code 35 = .ok (.aload_n 0, 1) := by decide +kernel
theorem d11_36 : decode method_3_code 36 = .ok (.iconst 2, 1) := by decide +kernel
theorem d11_37 : decode method_3_code 37 = .ok (.aload_n 0, 1) := by decide +kernel
theorem d11_38 : decode method_3_code 38 = .ok (.iconst 2, 1) := by decide +kernel
theorem d11_39 : decode method_3_code 39 = .ok (.caload, 1) := by decide +kernel
theorem d11_40 : decode method_3_code 40 = .ok (.iconst 1, 1) := by decide +kernel
theorem d11_41 : decode method_3_code 41 = .ok (.ixor, 1) := by decide +kernel
theorem d11_42 : decode method_3_code 42 = .ok (.i2c, 1) := by decide +kernel
theorem d11_43 : decode method_3_code 43 = .ok (.castore, 1) := by decide +kernel
set_option maxRecDepth 65536 in
set_option maxHeartbeats 40000000 in
theorem rm11_3 (l : Launch) (Z : State) (a0 : Array Value) (hw : ∀ d ∈ tables_1, d.before a0 Z = true) (ws : List Jvm.Cond) (q : Addr) (k2 : ClassId) (x0 x1 x2 : Int32) (h0 : Heap) (n0 : Nat) (Z0 : n0 ≤ h0.size) (g1 : n0 ≤ q) (V1 : Arv Z h0 q k2 .char (3 : Int32) [(.int x0), (.int x1), (.int x2)] (.int (0 : Int32))) :
    own_Met l Z (⟨"watchword/PasswordCallbackGetPasswordPinLaw", "flip", "([C)V"⟩ : MethodName) method_3_code 1 none ws ({ frames := 0, cells := 0, slots := 0, locals := 0 } : Room) #[(.ref q)] h0 (Q_rm11_3 Z q k2 x0 x1 x2 h0 n0) := by
  refine own_enter (g0 := fun m => (mkF m 0 #[.val (.ref q)] [])) pn_rm11_3 (fun m => by first | (simp [entryFrame, mkF, argsToLocals, Value.category, maxLocals]; done) | rfl) ?_
  intro p e s m below meth c s₁ hx hby hml hown hnm hret hlk hZ X0 e0
  have hml : c.maxLocals = 1 := hml
  have hown : s.vm.findClass "watchword/PasswordCallbackGetPasswordPinLaw" = some m.cls := hown
  have N0 := Fr.nil n0
  show own_Go p e below _ s₁ (mkF m 0 #[.val (.ref q)] [])
  have K0 := Keep.refl h0 [q]
  refine own_by (fun _ k => XS.aloadN X0.here hx rfl (hb hby d11_0) rfl rfl k) ?_
  show own_Go p e below _ s₁ (mkF m 1 #[.val (.ref q)] [(.ref q)])
  obtain ⟨cl323, Ar323, len323⟩ := own_len V1
  refine own_by (T' := s₁) (g' := (mkF m 2 #[.val (.ref q)] [(.int (3 : Int32))])) (fun _ k => X0.arraylength hx (by rw [e0]; exact Ar323.1) (State.isArrayOf_alike hZ.alike Ar323.2.1) (g := (mkF m 1 #[.val (.ref q)] [(.ref q)])) rfl rfl (hb hby d11_1) _ (by rw [len323]; exact k)) ?_
  refine own_by (fun _ k => XS.ifNo X0.here hx rfl (hb hby d11_2) rfl ((if0 _ _).trans (tlt (by decide : (0 : Int32) < (3 : Int32))).2.2.2) k) ?_
  show own_Go p e below _ s₁ (mkF m 5 #[.val (.ref q)] [])
  refine own_by (fun _ k => XS.aloadN X0.here hx rfl (hb hby d11_5) rfl rfl k) ?_
  show own_Go p e below _ s₁ (mkF m 6 #[.val (.ref q)] [(.ref q)])
  refine own_by (fun _ k => XS.iconst X0.here hx rfl (hb hby d11_6) k) ?_
  show own_Go p e below _ s₁ (mkF m 7 #[.val (.ref q)] [(.int (0 : Int32)), (.ref q)])
  refine own_by (fun _ k => XS.aloadN X0.here hx rfl (hb hby d11_7) rfl rfl k) ?_
  show own_Go p e below _ s₁ (mkF m 8 #[.val (.ref q)] [(.ref q), (.int (0 : Int32)), (.ref q)])
  refine own_by (fun _ k => XS.iconst X0.here hx rfl (hb hby d11_8) k) ?_
  show own_Go p e below _ s₁ (mkF m 9 #[.val (.ref q)] [(.int (0 : Int32)), (.ref q), (.int (0 : Int32)), (.ref q)])
  obtain ⟨cl324, Ar324, cq324, hin324, hat324, set324⟩ := own_arv V1 (j := (0 : Int32)) ⟨by decide, by decide⟩
  refine own_by (fun _ k => X0.caload hx (j := (0 : Int32)) (v := (.int x0)) (by rw [e0]; exact Ar324.1) (State.isArrayOf_alike hZ.alike Ar324.2.1) Ar324.2.2 hin324 hat324 (g := (mkF m 9 #[.val (.ref q)] [(.int (0 : Int32)), (.ref q), (.int (0 : Int32)), (.ref q)])) rfl rfl (hb hby d11_9) _ k) ?_
  show own_Go p e below _ s₁ (mkF m 10 #[.val (.ref q)] [(.int x0), (.int (0 : Int32)), (.ref q)])
  refine own_by (fun _ k => XS.iconst X0.here hx rfl (hb hby d11_10) k) ?_
  show own_Go p e below _ s₁ (mkF m 11 #[.val (.ref q)] [(.int (1 : Int32)), (.int x0), (.int (0 : Int32)), (.ref q)])
  refine own_by (fun _ k => XS.ixor X0.here hx rfl (hb hby d11_11) rfl k) ?_
  show own_Go p e below _ s₁ (mkF m 12 #[.val (.ref q)] [(.int (x0 ^^^ (1 : Int32))), (.int (0 : Int32)), (.ref q)])
  refine own_by (fun _ k => XS.i2c X0.here hx rfl (hb hby d11_12) rfl k) ?_
  show own_Go p e below _ s₁ (mkF m 13 #[.val (.ref q)] [(.int ((x0 ^^^ (1 : Int32)).toUInt32.toUInt16.toUInt32.toInt32)), (.int (0 : Int32)), (.ref q)])
  obtain ⟨cl325, Ar325, cq325, hin325, hat325, set325⟩ := own_arv V1 (j := (0 : Int32)) ⟨by decide, by decide⟩
  obtain ⟨T326, h326, X326, e326, W326, st326⟩ := stC X0 hx hZ e0 Ar325 (j := (0 : Int32)) hin325 (g := (mkF m 13 #[.val (.ref q)] [(.int ((x0 ^^^ (1 : Int32)).toUInt32.toUInt16.toUInt32.toInt32)), (.int (0 : Int32)), (.ref q)])) rfl rfl (hb hby d11_13)
  have wq326 : nar .char ((x0 ^^^ (1 : Int32)).toUInt32.toUInt16.toUInt32.toInt32) = ((x0 ^^^ (1 : Int32)).toUInt32.toUInt16.toUInt32.toInt32) := own_nc _
  rw [wq326] at W326
  have wf326 : fits .char (.int ((x0 ^^^ (1 : Int32)).toUInt32.toUInt16.toUInt32.toInt32)) = true := wq326 ▸ (fits_nar_char _)
  have V326 : Arv Z h326 q k2 .char (3 : Int32) [(.int ((x0 ^^^ (1 : Int32)).toUInt32.toUInt16.toUInt32.toInt32)), (.int x1), (.int x2)] (.int (0 : Int32)) := set325 wf326 W326 0 rfl (Nat.le_of_ble_eq_true rfl)
  have N326 := Fr.snoc X326 N0 g1
  have K327 := K0.wr W326 (Or.inl (List.mem_of_getElem? (i := 0) rfl))
  have Z326 : n0 ≤ h326.size := Nat.le_trans Z0 (Keep.of_wr W326).1
  refine own_by st326 ?_
  show own_Go p e below _ T326 (mkF m 14 #[.val (.ref q)] [])
  refine own_by (fun _ k => XS.aloadN X326.here hx rfl (hb hby d11_14) rfl rfl k) ?_
  show own_Go p e below _ T326 (mkF m 15 #[.val (.ref q)] [(.ref q)])
  obtain ⟨cl328, Ar328, len328⟩ := own_len V326
  refine own_by (T' := T326) (g' := (mkF m 16 #[.val (.ref q)] [(.int (3 : Int32))])) (fun _ k => X326.arraylength hx (by rw [e326]; exact Ar328.1) (State.isArrayOf_alike hZ.alike Ar328.2.1) (g := (mkF m 15 #[.val (.ref q)] [(.ref q)])) rfl rfl (hb hby d11_15) _ (by rw [len328]; exact k)) ?_
  refine own_by (fun _ k => XS.iconst X326.here hx rfl (hb hby d11_16) k) ?_
  show own_Go p e below _ T326 (mkF m 17 #[.val (.ref q)] [(.int (1 : Int32)), (.int (3 : Int32))])
  refine own_by (fun _ k => XS.icmpNo X326.here hx rfl (hb hby d11_17) rfl (tlt (by decide : (1 : Int32) < (3 : Int32))).2.2.2 k) ?_
  show own_Go p e below _ T326 (mkF m 20 #[.val (.ref q)] [])
  refine own_by (fun _ k => XS.aloadN X326.here hx rfl (hb hby d11_20) rfl rfl k) ?_
  show own_Go p e below _ T326 (mkF m 21 #[.val (.ref q)] [(.ref q)])
  refine own_by (fun _ k => XS.iconst X326.here hx rfl (hb hby d11_21) k) ?_
  show own_Go p e below _ T326 (mkF m 22 #[.val (.ref q)] [(.int (1 : Int32)), (.ref q)])
  refine own_by (fun _ k => XS.aloadN X326.here hx rfl (hb hby d11_22) rfl rfl k) ?_
  show own_Go p e below _ T326 (mkF m 23 #[.val (.ref q)] [(.ref q), (.int (1 : Int32)), (.ref q)])
  refine own_by (fun _ k => XS.iconst X326.here hx rfl (hb hby d11_23) k) ?_
  show own_Go p e below _ T326 (mkF m 24 #[.val (.ref q)] [(.int (1 : Int32)), (.ref q), (.int (1 : Int32)), (.ref q)])
  obtain ⟨cl329, Ar329, cq329, hin329, hat329, set329⟩ := own_arv V326 (j := (1 : Int32)) ⟨by decide, by decide⟩
  refine own_by (fun _ k => X326.caload hx (j := (1 : Int32)) (v := (.int x1)) (by rw [e326]; exact Ar329.1) (State.isArrayOf_alike hZ.alike Ar329.2.1) Ar329.2.2 hin329 hat329 (g := (mkF m 24 #[.val (.ref q)] [(.int (1 : Int32)), (.ref q), (.int (1 : Int32)), (.ref q)])) rfl rfl (hb hby d11_24) _ k) ?_
  show own_Go p e below _ T326 (mkF m 25 #[.val (.ref q)] [(.int x1), (.int (1 : Int32)), (.ref q)])
  refine own_by (fun _ k => XS.iconst X326.here hx rfl (hb hby d11_25) k) ?_
  show own_Go p e below _ T326 (mkF m 26 #[.val (.ref q)] [(.int (1 : Int32)), (.int x1), (.int (1 : Int32)), (.ref q)])
  refine own_by (fun _ k => XS.ixor X326.here hx rfl (hb hby d11_26) rfl k) ?_
  show own_Go p e below _ T326 (mkF m 27 #[.val (.ref q)] [(.int (x1 ^^^ (1 : Int32))), (.int (1 : Int32)), (.ref q)])
  refine own_by (fun _ k => XS.i2c X326.here hx rfl (hb hby d11_27) rfl k) ?_
  show own_Go p e below _ T326 (mkF m 28 #[.val (.ref q)] [(.int ((x1 ^^^ (1 : Int32)).toUInt32.toUInt16.toUInt32.toInt32)), (.int (1 : Int32)), (.ref q)])
  obtain ⟨cl330, Ar330, cq330, hin330, hat330, set330⟩ := own_arv V326 (j := (1 : Int32)) ⟨by decide, by decide⟩
  obtain ⟨T331, h331, X331, e331, W331, st331⟩ := stC X326 hx hZ e326 Ar330 (j := (1 : Int32)) hin330 (g := (mkF m 28 #[.val (.ref q)] [(.int ((x1 ^^^ (1 : Int32)).toUInt32.toUInt16.toUInt32.toInt32)), (.int (1 : Int32)), (.ref q)])) rfl rfl (hb hby d11_28)
  have wq331 : nar .char ((x1 ^^^ (1 : Int32)).toUInt32.toUInt16.toUInt32.toInt32) = ((x1 ^^^ (1 : Int32)).toUInt32.toUInt16.toUInt32.toInt32) := own_nc _
  rw [wq331] at W331
  have wf331 : fits .char (.int ((x1 ^^^ (1 : Int32)).toUInt32.toUInt16.toUInt32.toInt32)) = true := wq331 ▸ (fits_nar_char _)
  have V331 : Arv Z h331 q k2 .char (3 : Int32) [(.int ((x0 ^^^ (1 : Int32)).toUInt32.toUInt16.toUInt32.toInt32)), (.int ((x1 ^^^ (1 : Int32)).toUInt32.toUInt16.toUInt32.toInt32)), (.int x2)] (.int (0 : Int32)) := set330 wf331 W331 1 rfl (Nat.le_of_ble_eq_true rfl)
  have N331 := Fr.snoc X331 N326 g1
  have K332 := K327.wr W331 (Or.inl (List.mem_of_getElem? (i := 0) rfl))
  have Z331 : n0 ≤ h331.size := Nat.le_trans Z326 (Keep.of_wr W331).1
  refine own_by st331 ?_
  show own_Go p e below _ T331 (mkF m 29 #[.val (.ref q)] [])
  refine own_by (fun _ k => XS.aloadN X331.here hx rfl (hb hby d11_29) rfl rfl k) ?_
  show own_Go p e below _ T331 (mkF m 30 #[.val (.ref q)] [(.ref q)])
  obtain ⟨cl333, Ar333, len333⟩ := own_len V331
  refine own_by (T' := T331) (g' := (mkF m 31 #[.val (.ref q)] [(.int (3 : Int32))])) (fun _ k => X331.arraylength hx (by rw [e331]; exact Ar333.1) (State.isArrayOf_alike hZ.alike Ar333.2.1) (g := (mkF m 30 #[.val (.ref q)] [(.ref q)])) rfl rfl (hb hby d11_30) _ (by rw [len333]; exact k)) ?_
  refine own_by (fun _ k => XS.iconst X331.here hx rfl (hb hby d11_31) k) ?_
  show own_Go p e below _ T331 (mkF m 32 #[.val (.ref q)] [(.int (2 : Int32)), (.int (3 : Int32))])
  refine own_by (fun _ k => XS.icmpNo X331.here hx rfl (hb hby d11_32) rfl (tlt (by decide : (2 : Int32) < (3 : Int32))).2.2.2 k) ?_
  show own_Go p e below _ T331 (mkF m 35 #[.val (.ref q)] [])
  refine own_by (fun _ k => XS.aloadN X331.here hx rfl (hb hby d11_35) rfl rfl k) ?_
  show own_Go p e below _ T331 (mkF m 36 #[.val (.ref q)] [(.ref q)])
  refine own_by (fun _ k => XS.iconst X331.here hx rfl (hb hby d11_36) k) ?_
  show own_Go p e below _ T331 (mkF m 37 #[.val (.ref q)] [(.int (2 : Int32)), (.ref q)])
  refine own_by (fun _ k => XS.aloadN X331.here hx rfl (hb hby d11_37) rfl rfl k) ?_
  show own_Go p e below _ T331 (mkF m 38 #[.val (.ref q)] [(.ref q), (.int (2 : Int32)), (.ref q)])
  refine own_by (fun _ k => XS.iconst X331.here hx rfl (hb hby d11_38) k) ?_
  show own_Go p e below _ T331 (mkF m 39 #[.val (.ref q)] [(.int (2 : Int32)), (.ref q), (.int (2 : Int32)), (.ref q)])
  obtain ⟨cl334, Ar334, cq334, hin334, hat334, set334⟩ := own_arv V331 (j := (2 : Int32)) ⟨by decide, by decide⟩
  refine own_by (fun _ k => X331.caload hx (j := (2 : Int32)) (v := (.int x2)) (by rw [e331]; exact Ar334.1) (State.isArrayOf_alike hZ.alike Ar334.2.1) Ar334.2.2 hin334 hat334 (g := (mkF m 39 #[.val (.ref q)] [(.int (2 : Int32)), (.ref q), (.int (2 : Int32)), (.ref q)])) rfl rfl (hb hby d11_39) _ k) ?_
  show own_Go p e below _ T331 (mkF m 40 #[.val (.ref q)] [(.int x2), (.int (2 : Int32)), (.ref q)])
  refine own_by (fun _ k => XS.iconst X331.here hx rfl (hb hby d11_40) k) ?_
  show own_Go p e below _ T331 (mkF m 41 #[.val (.ref q)] [(.int (1 : Int32)), (.int x2), (.int (2 : Int32)), (.ref q)])
  refine own_by (fun _ k => XS.ixor X331.here hx rfl (hb hby d11_41) rfl k) ?_
  show own_Go p e below _ T331 (mkF m 42 #[.val (.ref q)] [(.int (x2 ^^^ (1 : Int32))), (.int (2 : Int32)), (.ref q)])
  refine own_by (fun _ k => XS.i2c X331.here hx rfl (hb hby d11_42) rfl k) ?_
  show own_Go p e below _ T331 (mkF m 43 #[.val (.ref q)] [(.int ((x2 ^^^ (1 : Int32)).toUInt32.toUInt16.toUInt32.toInt32)), (.int (2 : Int32)), (.ref q)])
  obtain ⟨cl335, Ar335, cq335, hin335, hat335, set335⟩ := own_arv V331 (j := (2 : Int32)) ⟨by decide, by decide⟩
  obtain ⟨T336, h336, X336, e336, W336, st336⟩ := stC X331 hx hZ e331 Ar335 (j := (2 : Int32)) hin335 (g := (mkF m 43 #[.val (.ref q)] [(.int ((x2 ^^^ (1 : Int32)).toUInt32.toUInt16.toUInt32.toInt32)), (.int (2 : Int32)), (.ref q)])) rfl rfl (hb hby d11_43)
  have wq336 : nar .char ((x2 ^^^ (1 : Int32)).toUInt32.toUInt16.toUInt32.toInt32) = ((x2 ^^^ (1 : Int32)).toUInt32.toUInt16.toUInt32.toInt32) := own_nc _
  rw [wq336] at W336
  have wf336 : fits .char (.int ((x2 ^^^ (1 : Int32)).toUInt32.toUInt16.toUInt32.toInt32)) = true := wq336 ▸ (fits_nar_char _)
  have V336 : Arv Z h336 q k2 .char (3 : Int32) [(.int ((x0 ^^^ (1 : Int32)).toUInt32.toUInt16.toUInt32.toInt32)), (.int ((x1 ^^^ (1 : Int32)).toUInt32.toUInt16.toUInt32.toInt32)), (.int ((x2 ^^^ (1 : Int32)).toUInt32.toUInt16.toUInt32.toInt32))] (.int (0 : Int32)) := set335 wf336 W336 2 rfl (Nat.le_of_ble_eq_true rfl)
  have N336 := Fr.snoc X336 N331 g1
  have K337 := K332.wr W336 (Or.inl (List.mem_of_getElem? (i := 0) rfl))
  have Z336 : n0 ≤ h336.size := Nat.le_trans Z331 (Keep.of_wr W336).1
  refine own_by st336 ?_
  show own_Go p e below _ T336 (mkF m 44 #[.val (.ref q)] [])
  exact own_ret0 X336 hx hlk hret (hb hby d11_44) (by first | exact ⟨rfl, N336, K337⟩ | (rw [e336]; exact ⟨rfl, N336, K337⟩)) (by decide) (by decide)
def Q_rm12_3 (Z : State) (q : Addr) (k2 : ClassId) (x0 x1 x2 : Int32) (h0 : Heap) (n0 : Nat) (v : Option Value) (h : Heap) (L : List Loc) : Prop := v = some (.int 1) ∧ Fr n0 L ∧ h = h0
theorem pn_rm12_3 : plainFor (⟨"watchword/PasswordCallbackGetPasswordPinLaw", "same", "([CICCC)Z"⟩ : MethodName) = true := plainFor_of_name (by first | (simp [plainName, overriddenIn, x]; done) | decide +kernel)
theorem d12_40 : decode method_4_code 40 = .ok (.aload_n 0, 1) := by decide +kernel
theorem d12_41 : decode method_4_code 41 = .ok (.iconst 2, 1) := by decide +kernel
theorem d12_42 : decode method_4_code 42 = .ok (.caload, 1) := by decide +kernel
theorem d12_43 : decode method_4_code 43 = .ok (.iload 4, 2) := by decide +kernel
theorem d12_45 : decode method_4_code 45 = .ok (.if_icmp .eq 5, 3) := by decide +kernel
set_option maxRecDepth 65536 in
set_option maxHeartbeats 40000000 in
theorem rm12_3 (l : Launch) (Z : State) (a0 : Array Value) (hw : ∀ d ∈ tables_1, d.before a0 Z = true) (ws : List Jvm.Cond) (q : Addr) (k2 : ClassId) (x0 x1 x2 : Int32) (h0 : Heap) (n0 : Nat) (Z0 : n0 ≤ h0.size) (V1 : Arv Z h0 q k2 .char (3 : Int32) [(.int x0), (.int x1), (.int x2)] (.int (0 : Int32))) :
    own_Met l Z (⟨"watchword/PasswordCallbackGetPasswordPinLaw", "same", "([CICCC)Z"⟩ : MethodName) method_4_code 5 (some .boolean) ws ({ frames := 0, cells := 0, slots := 0, locals := 0 } : Room) #[(.ref q), (.int (3 : Int32)), (.int x0), (.int x1), (.int x2)] h0 (Q_rm12_3 Z q k2 x0 x1 x2 h0 n0) := by
  refine own_enter (g0 := fun m => (mkF m 0 #[.val (.ref q), .val (.int (3 : Int32)), .val (.int x0), .val (.int x1), .val (.int x2)] [])) pn_rm12_3 (fun m => by first | (simp [entryFrame, mkF, argsToLocals, Value.category, maxLocals]; done) | rfl) ?_
  intro p e s m below meth c s₁ hx hby hml hown hnm hret hlk hZ X0 e0
  have hml : c.maxLocals = 5 := hml
  have hown : s.vm.findClass "watchword/PasswordCallbackGetPasswordPinLaw" = some m.cls := hown
  have N0 := Fr.nil n0
  show own_Go p e below _ s₁ (mkF m 0 #[.val (.ref q), .val (.int (3 : Int32)), .val (.int x0), .val (.int x1), .val (.int x2)] [])
  refine own_by (fun _ k => XS.aloadN X0.here hx rfl (hb hby d12_0) rfl rfl k) ?_
  show own_Go p e below _ s₁ (mkF m 1 #[.val (.ref q), .val (.int (3 : Int32)), .val (.int x0), .val (.int x1), .val (.int x2)] [(.ref q)])
  obtain ⟨cl338, Ar338, len338⟩ := own_len V1
  refine own_by (T' := s₁) (g' := (mkF m 2 #[.val (.ref q), .val (.int (3 : Int32)), .val (.int x0), .val (.int x1), .val (.int x2)] [(.int (3 : Int32))])) (fun _ k => X0.arraylength hx (by rw [e0]; exact Ar338.1) (State.isArrayOf_alike hZ.alike Ar338.2.1) (g := (mkF m 1 #[.val (.ref q), .val (.int (3 : Int32)), .val (.int x0), .val (.int x1), .val (.int x2)] [(.ref q)])) rfl rfl (hb hby d12_1) _ (by rw [len338]; exact k)) ?_
  refine own_by (fun _ k => XS.iloadN X0.here hx rfl (hb hby d12_2) rfl k) ?_
  show own_Go p e below _ s₁ (mkF m 3 #[.val (.ref q), .val (.int (3 : Int32)), .val (.int x0), .val (.int x1), .val (.int x2)] [(.int (3 : Int32)), (.int (3 : Int32))])
  refine own_by (fun _ k => XS.icmpYes X0.here hx rfl (pc0 := 3) (pc' := 8) rfl (hb hby d12_3) rfl (teq (rfl : (3 : Int32) = (3 : Int32))).1 (by decide) (by decide) k) ?_
  show own_Go p e below _ s₁ (mkF m 8 #[.val (.ref q), .val (.int (3 : Int32)), .val (.int x0), .val (.int x1), .val (.int x2)] [])
  refine own_by (fun _ k => XS.iloadN X0.here hx rfl (hb hby d12_8) rfl k) ?_
  show own_Go p e below _ s₁ (mkF m 9 #[.val (.ref q), .val (.int (3 : Int32)), .val (.int x0), .val (.int x1), .val (.int x2)] [(.int (3 : Int32))])
  refine own_by (fun _ k => XS.ifNo X0.here hx rfl (hb hby d12_9) rfl ((if0 _ _).trans (tlt (by decide : (0 : Int32) < (3 : Int32))).2.2.2) k) ?_
  show own_Go p e below _ s₁ (mkF m 12 #[.val (.ref q), .val (.int (3 : Int32)), .val (.int x0), .val (.int x1), .val (.int x2)] [])
  refine own_by (fun _ k => XS.aloadN X0.here hx rfl (hb hby d12_12) rfl rfl k) ?_
  show own_Go p e below _ s₁ (mkF m 13 #[.val (.ref q), .val (.int (3 : Int32)), .val (.int x0), .val (.int x1), .val (.int x2)] [(.ref q)])
  refine own_by (fun _ k => XS.iconst X0.here hx rfl (hb hby d12_13) k) ?_
  show own_Go p e below _ s₁ (mkF m 14 #[.val (.ref q), .val (.int (3 : Int32)), .val (.int x0), .val (.int x1), .val (.int x2)] [(.int (0 : Int32)), (.ref q)])
  obtain ⟨cl339, Ar339, cq339, hin339, hat339, set339⟩ := own_arv V1 (j := (0 : Int32)) ⟨by decide, by decide⟩
  refine own_by (fun _ k => X0.caload hx (j := (0 : Int32)) (v := (.int x0)) (by rw [e0]; exact Ar339.1) (State.isArrayOf_alike hZ.alike Ar339.2.1) Ar339.2.2 hin339 hat339 (g := (mkF m 14 #[.val (.ref q), .val (.int (3 : Int32)), .val (.int x0), .val (.int x1), .val (.int x2)] [(.int (0 : Int32)), (.ref q)])) rfl rfl (hb hby d12_14) _ k) ?_
  show own_Go p e below _ s₁ (mkF m 15 #[.val (.ref q), .val (.int (3 : Int32)), .val (.int x0), .val (.int x1), .val (.int x2)] [(.int x0)])
  refine own_by (fun _ k => XS.iloadN X0.here hx rfl (hb hby d12_15) rfl k) ?_
  show own_Go p e below _ s₁ (mkF m 16 #[.val (.ref q), .val (.int (3 : Int32)), .val (.int x0), .val (.int x1), .val (.int x2)] [(.int x0), (.int x0)])
  refine own_by (fun _ k => XS.icmpYes X0.here hx rfl (pc0 := 16) (pc' := 21) rfl (hb hby d12_16) rfl (teq (rfl : x0 = x0)).1 (by decide) (by decide) k) ?_
  show own_Go p e below _ s₁ (mkF m 21 #[.val (.ref q), .val (.int (3 : Int32)), .val (.int x0), .val (.int x1), .val (.int x2)] [])
  refine own_by (fun _ k => XS.iloadN X0.here hx rfl (hb hby d12_21) rfl k) ?_
  show own_Go p e below _ s₁ (mkF m 22 #[.val (.ref q), .val (.int (3 : Int32)), .val (.int x0), .val (.int x1), .val (.int x2)] [(.int (3 : Int32))])
  refine own_by (fun _ k => XS.iconst X0.here hx rfl (hb hby d12_22) k) ?_
  show own_Go p e below _ s₁ (mkF m 23 #[.val (.ref q), .val (.int (3 : Int32)), .val (.int x0), .val (.int x1), .val (.int x2)] [(.int (1 : Int32)), (.int (3 : Int32))])
  refine own_by (fun _ k => XS.icmpNo X0.here hx rfl (hb hby d12_23) rfl (tlt (by decide : (1 : Int32) < (3 : Int32))).2.2.2 k) ?_
  show own_Go p e below _ s₁ (mkF m 26 #[.val (.ref q), .val (.int (3 : Int32)), .val (.int x0), .val (.int x1), .val (.int x2)] [])
  refine own_by (fun _ k => XS.aloadN X0.here hx rfl (hb hby d12_26) rfl rfl k) ?_
  show own_Go p e below _ s₁ (mkF m 27 #[.val (.ref q), .val (.int (3 : Int32)), .val (.int x0), .val (.int x1), .val (.int x2)] [(.ref q)])
  refine own_by (fun _ k => XS.iconst X0.here hx rfl (hb hby d12_27) k) ?_
  show own_Go p e below _ s₁ (mkF m 28 #[.val (.ref q), .val (.int (3 : Int32)), .val (.int x0), .val (.int x1), .val (.int x2)] [(.int (1 : Int32)), (.ref q)])
  obtain ⟨cl340, Ar340, cq340, hin340, hat340, set340⟩ := own_arv V1 (j := (1 : Int32)) ⟨by decide, by decide⟩
  refine own_by (fun _ k => X0.caload hx (j := (1 : Int32)) (v := (.int x1)) (by rw [e0]; exact Ar340.1) (State.isArrayOf_alike hZ.alike Ar340.2.1) Ar340.2.2 hin340 hat340 (g := (mkF m 28 #[.val (.ref q), .val (.int (3 : Int32)), .val (.int x0), .val (.int x1), .val (.int x2)] [(.int (1 : Int32)), (.ref q)])) rfl rfl (hb hby d12_28) _ k) ?_
  show own_Go p e below _ s₁ (mkF m 29 #[.val (.ref q), .val (.int (3 : Int32)), .val (.int x0), .val (.int x1), .val (.int x2)] [(.int x1)])
  refine own_by (fun _ k => XS.iloadN X0.here hx rfl (hb hby d12_29) rfl k) ?_
  show own_Go p e below _ s₁ (mkF m 30 #[.val (.ref q), .val (.int (3 : Int32)), .val (.int x0), .val (.int x1), .val (.int x2)] [(.int x1), (.int x1)])
  refine own_by (fun _ k => XS.icmpYes X0.here hx rfl (pc0 := 30) (pc' := 35) rfl (hb hby d12_30) rfl (teq (rfl : x1 = x1)).1 (by decide) (by decide) k) ?_
  show own_Go p e below _ s₁ (mkF m 35 #[.val (.ref q), .val (.int (3 : Int32)), .val (.int x0), .val (.int x1), .val (.int x2)] [])
  refine own_by (fun _ k => XS.iloadN X0.here hx rfl (hb hby d12_35) rfl k) ?_
  show own_Go p e below _ s₁ (mkF m 36 #[.val (.ref q), .val (.int (3 : Int32)), .val (.int x0), .val (.int x1), .val (.int x2)] [(.int (3 : Int32))])
  refine own_by (fun _ k => XS.iconst X0.here hx rfl (hb hby d12_36) k) ?_
  show own_Go p e below _ s₁ (mkF m 37 #[.val (.ref q), .val (.int (3 : Int32)), .val (.int x0), .val (.int x1), .val (.int x2)] [(.int (2 : Int32)), (.int (3 : Int32))])
  refine own_by (fun _ k => XS.icmpNo X0.here hx rfl (hb hby d12_37) rfl (tlt (by decide : (2 : Int32) < (3 : Int32))).2.2.2 k) ?_
  show own_Go p e below _ s₁ (mkF m 40 #[.val (.ref q), .val (.int (3 : Int32)), .val (.int x0), .val (.int x1), .val (.int x2)] [])
  refine own_by (fun _ k => XS.aloadN X0.here hx rfl (hb hby d12_40) rfl rfl k) ?_
  show own_Go p e below _ s₁ (mkF m 41 #[.val (.ref q), .val (.int (3 : Int32)), .val (.int x0), .val (.int x1), .val (.int x2)] [(.ref q)])
  refine own_by (fun _ k => XS.iconst X0.here hx rfl (hb hby d12_41) k) ?_
  show own_Go p e below _ s₁ (mkF m 42 #[.val (.ref q), .val (.int (3 : Int32)), .val (.int x0), .val (.int x1), .val (.int x2)] [(.int (2 : Int32)), (.ref q)])
  obtain ⟨cl341, Ar341, cq341, hin341, hat341, set341⟩ := own_arv V1 (j := (2 : Int32)) ⟨by decide, by decide⟩
  refine own_by (fun _ k => X0.caload hx (j := (2 : Int32)) (v := (.int x2)) (by rw [e0]; exact Ar341.1) (State.isArrayOf_alike hZ.alike Ar341.2.1) Ar341.2.2 hin341 hat341 (g := (mkF m 42 #[.val (.ref q), .val (.int (3 : Int32)), .val (.int x0), .val (.int x1), .val (.int x2)] [(.int (2 : Int32)), (.ref q)])) rfl rfl (hb hby d12_42) _ k) ?_
  show own_Go p e below _ s₁ (mkF m 43 #[.val (.ref q), .val (.int (3 : Int32)), .val (.int x0), .val (.int x1), .val (.int x2)] [(.int x2)])
  refine own_by (fun _ k => XS.iload X0.here hx rfl (hb hby d12_43) rfl k) ?_
  show own_Go p e below _ s₁ (mkF m 45 #[.val (.ref q), .val (.int (3 : Int32)), .val (.int x0), .val (.int x1), .val (.int x2)] [(.int x2), (.int x2)])
  refine own_by (fun _ k => XS.icmpYes X0.here hx rfl (pc0 := 45) (pc' := 50) rfl (hb hby d12_45) rfl (teq (rfl : x2 = x2)).1 (by decide) (by decide) k) ?_
  show own_Go p e below _ s₁ (mkF m 50 #[.val (.ref q), .val (.int (3 : Int32)), .val (.int x0), .val (.int x1), .val (.int x2)] [])
  refine own_by (fun _ k => XS.iconst X0.here hx rfl (hb hby d12_50) k) ?_
  show own_Go p e below _ s₁ (mkF m 51 #[.val (.ref q), .val (.int (3 : Int32)), .val (.int x0), .val (.int x1), .val (.int x2)] [(.int (1 : Int32))])
  exact own_retN X0 hx hlk hret (by simp) rfl (hb hby d12_51) (by first | exact ⟨rfl, N0, rfl⟩ | (rw [e0]; exact ⟨rfl, N0, rfl⟩)) (by decide) (by decide)
def Q_rm0 (Z : State) (p1 p2 p3 w1 : Int32) (h0 : Heap) (n0 : Nat) (v : Option Value) (h : Heap) (L : List Loc) : Prop := v = some (.int 1) ∧ Fr n0 L
theorem pn_rm0 : plainFor x = true := plainFor_of_name (by first | (simp [plainName, overriddenIn, x]; done) | decide +kernel)
theorem pd_5 : parseMethodDescriptor "(C)Ljava/lang/String;" = some ⟨[.char], some (.object "java/lang/String")⟩ := by decide +kernel
theorem pd_6 : parseMethodDescriptor "(Ljava/lang/String;Z)V" = some ⟨[(.object "java/lang/String"), .boolean], none⟩ := by decide +kernel
theorem pd_7 : parseMethodDescriptor "()[C" = some ⟨[], some (.array .char)⟩ := by decide +kernel
theorem pd_8 : parseMethodDescriptor "(ICCC)[C" = some ⟨[.int, .char, .char, .char], some (.array .char)⟩ := by decide +kernel
theorem pd_9 : parseMethodDescriptor "([C)V" = some ⟨[(.array .char)], none⟩ := by decide +kernel
theorem pd_10 : parseMethodDescriptor "([CICCC)Z" = some ⟨[(.array .char), .int, .char, .char, .char], some .boolean⟩ := by decide +kernel
set_option maxRecDepth 65536 in
set_option maxHeartbeats 40000000 in
theorem rm0 (l : Launch) (Z : State) (a0 : Array Value) (hw : ∀ d ∈ tables_1, d.before a0 Z = true) (ws : List Jvm.Cond) (p1 p2 p3 w1 : Int32) (h0 : Heap) (n0 : Nat) (Z0 : n0 ≤ h0.size) (SC : Sta Z h0 "java/lang/String" "COMPACT_STRINGS" "Z" (.int w1)) (hw1 : ¬ w1 = 0) :
    own_Met l Z x code maxLocals ret ws room_1 #[(.int p1), (.int p2), (.int p3)] h0 (Q_rm0 Z p1 p2 p3 w1 h0 n0) := by
  refine own_enter (g0 := fun m => (mkF m 0 #[.val (.int p1), .val (.int p2), .val (.int p3), .unset, .unset, .unset, .unset, .unset, .unset, .unset, .unset, .unset, .unset, .unset, .unset] [])) pn_rm0 (fun m => by first | (simp [entryFrame, mkF, argsToLocals, Value.category, maxLocals]; done) | rfl) ?_
  intro p e s m below meth c s₁ hx hby hml hown hnm hret hlk hZ X0 e0
  have hml : c.maxLocals = 15 := hml
  have hown : s.vm.findClass "watchword/PasswordCallbackGetPasswordPinLaw" = some m.cls := hown
  have N0 := Fr.nil n0
  show own_Go p e below _ s₁ (mkF m 0 #[.val (.int p1), .val (.int p2), .val (.int p3), .unset, .unset, .unset, .unset, .unset, .unset, .unset, .unset, .unset, .unset, .unset, .unset] [])
  refine own_by (fun _ k => XS.iloadN X0.here hx rfl (hb hby at_0) rfl k) ?_
  show own_Go p e below _ s₁ (mkF m 1 #[.val (.int p1), .val (.int p2), .val (.int p3), .unset, .unset, .unset, .unset, .unset, .unset, .unset, .unset, .unset, .unset, .unset, .unset] [(.int p1)])
  refine own_by (fun _ k => XS.i2c X0.here hx rfl (hb hby at_1) rfl k) ?_
  show own_Go p e below _ s₁ (mkF m 2 #[.val (.int p1), .val (.int p2), .val (.int p3), .unset, .unset, .unset, .unset, .unset, .unset, .unset, .unset, .unset, .unset, .unset, .unset] [(.int (p1.toUInt32.toUInt16.toUInt32.toInt32))])
  refine own_by (fun _ k => XS.istoreN X0.here hx rfl (hb hby at_2) rfl (l' := #[.val (.int p1), .val (.int p2), .val (.int p3), .val (.int (p1.toUInt32.toUInt16.toUInt32.toInt32)), .unset, .unset, .unset, .unset, .unset, .unset, .unset, .unset, .unset, .unset, .unset]) rfl k) ?_
  show own_Go p e below _ s₁ (mkF m 3 #[.val (.int p1), .val (.int p2), .val (.int p3), .val (.int (p1.toUInt32.toUInt16.toUInt32.toInt32)), .unset, .unset, .unset, .unset, .unset, .unset, .unset, .unset, .unset, .unset, .unset] [])
  obtain ⟨x0, hqx0⟩ : ∃ z, z = (p1.toUInt32.toUInt16.toUInt32.toInt32) := ⟨_, rfl⟩
  rw [← hqx0]
  show own_Go p e below _ s₁ (mkF m 3 #[.val (.int p1), .val (.int p2), .val (.int p3), .val (.int x0), .unset, .unset, .unset, .unset, .unset, .unset, .unset, .unset, .unset, .unset, .unset] [])
  have hn0 : nar .char x0 = x0 := by rw [hqx0]; exact own_nc _
  refine own_by (fun _ k => XS.iloadN X0.here hx rfl (hb hby at_3) rfl k) ?_
  show own_Go p e below _ s₁ (mkF m 4 #[.val (.int p1), .val (.int p2), .val (.int p3), .val (.int x0), .unset, .unset, .unset, .unset, .unset, .unset, .unset, .unset, .unset, .unset, .unset] [(.int p1)])
  refine own_by (fun _ k => XS.bipush X0.here hx rfl (hb hby at_4) k) ?_
  show own_Go p e below _ s₁ (mkF m 6 #[.val (.int p1), .val (.int p2), .val (.int p3), .val (.int x0), .unset, .unset, .unset, .unset, .unset, .unset, .unset, .unset, .unset, .unset, .unset] [(.int (16 : Int32)), (.int p1)])
  refine own_by (fun _ k => XS.iushr X0.here hx rfl (hb hby at_6) rfl k) ?_
  show own_Go p e below _ s₁ (mkF m 7 #[.val (.int p1), .val (.int p2), .val (.int p3), .val (.int x0), .unset, .unset, .unset, .unset, .unset, .unset, .unset, .unset, .unset, .unset, .unset] [(.int ((p1.toUInt32 >>> ((16 : Int32) &&& 31).toUInt32).toInt32))])
  refine own_by (fun _ k => XS.i2c X0.here hx rfl (hb hby at_7) rfl k) ?_
  show own_Go p e below _ s₁ (mkF m 8 #[.val (.int p1), .val (.int p2), .val (.int p3), .val (.int x0), .unset, .unset, .unset, .unset, .unset, .unset, .unset, .unset, .unset, .unset, .unset] [(.int (((p1.toUInt32 >>> ((16 : Int32) &&& 31).toUInt32).toInt32).toUInt32.toUInt16.toUInt32.toInt32))])
  refine own_by (fun _ k => XS.istore X0.here hx rfl (hb hby at_8) rfl (l' := #[.val (.int p1), .val (.int p2), .val (.int p3), .val (.int x0), .val (.int (((p1.toUInt32 >>> ((16 : Int32) &&& 31).toUInt32).toInt32).toUInt32.toUInt16.toUInt32.toInt32)), .unset, .unset, .unset, .unset, .unset, .unset, .unset, .unset, .unset, .unset]) rfl k) ?_
  show own_Go p e below _ s₁ (mkF m 10 #[.val (.int p1), .val (.int p2), .val (.int p3), .val (.int x0), .val (.int (((p1.toUInt32 >>> ((16 : Int32) &&& 31).toUInt32).toInt32).toUInt32.toUInt16.toUInt32.toInt32)), .unset, .unset, .unset, .unset, .unset, .unset, .unset, .unset, .unset, .unset] [])
  obtain ⟨x1, hqx1⟩ : ∃ z, z = (((p1.toUInt32 >>> ((16 : Int32) &&& 31).toUInt32).toInt32).toUInt32.toUInt16.toUInt32.toInt32) := ⟨_, rfl⟩
  rw [← hqx1]
  show own_Go p e below _ s₁ (mkF m 10 #[.val (.int p1), .val (.int p2), .val (.int p3), .val (.int x0), .val (.int x1), .unset, .unset, .unset, .unset, .unset, .unset, .unset, .unset, .unset, .unset] [])
  have hn1 : nar .char x1 = x1 := by rw [hqx1]; exact own_nc _
  refine own_by (fun _ k => XS.iloadN X0.here hx rfl (hb hby at_10) rfl k) ?_
  show own_Go p e below _ s₁ (mkF m 11 #[.val (.int p1), .val (.int p2), .val (.int p3), .val (.int x0), .val (.int x1), .unset, .unset, .unset, .unset, .unset, .unset, .unset, .unset, .unset, .unset] [(.int p2)])
  refine own_by (fun _ k => XS.i2c X0.here hx rfl (hb hby at_11) rfl k) ?_
  show own_Go p e below _ s₁ (mkF m 12 #[.val (.int p1), .val (.int p2), .val (.int p3), .val (.int x0), .val (.int x1), .unset, .unset, .unset, .unset, .unset, .unset, .unset, .unset, .unset, .unset] [(.int (p2.toUInt32.toUInt16.toUInt32.toInt32))])
  refine own_by (fun _ k => XS.istore X0.here hx rfl (hb hby at_12) rfl (l' := #[.val (.int p1), .val (.int p2), .val (.int p3), .val (.int x0), .val (.int x1), .val (.int (p2.toUInt32.toUInt16.toUInt32.toInt32)), .unset, .unset, .unset, .unset, .unset, .unset, .unset, .unset, .unset]) rfl k) ?_
  show own_Go p e below _ s₁ (mkF m 14 #[.val (.int p1), .val (.int p2), .val (.int p3), .val (.int x0), .val (.int x1), .val (.int (p2.toUInt32.toUInt16.toUInt32.toInt32)), .unset, .unset, .unset, .unset, .unset, .unset, .unset, .unset, .unset] [])
  obtain ⟨x2, hqx2⟩ : ∃ z, z = (p2.toUInt32.toUInt16.toUInt32.toInt32) := ⟨_, rfl⟩
  rw [← hqx2]
  show own_Go p e below _ s₁ (mkF m 14 #[.val (.int p1), .val (.int p2), .val (.int p3), .val (.int x0), .val (.int x1), .val (.int x2), .unset, .unset, .unset, .unset, .unset, .unset, .unset, .unset, .unset] [])
  have hn2 : nar .char x2 = x2 := by rw [hqx2]; exact own_nc _
  refine own_by (fun _ k => XS.iloadN X0.here hx rfl (hb hby at_14) rfl k) ?_
  show own_Go p e below _ s₁ (mkF m 15 #[.val (.int p1), .val (.int p2), .val (.int p3), .val (.int x0), .val (.int x1), .val (.int x2), .unset, .unset, .unset, .unset, .unset, .unset, .unset, .unset, .unset] [(.int p3)])
  refine own_by (fun _ k => XS.iconst X0.here hx rfl (hb hby at_15) k) ?_
  show own_Go p e below _ s₁ (mkF m 16 #[.val (.int p1), .val (.int p2), .val (.int p3), .val (.int x0), .val (.int x1), .val (.int x2), .unset, .unset, .unset, .unset, .unset, .unset, .unset, .unset, .unset] [(.int (3 : Int32)), (.int p3)])
  refine own_by (fun _ k => XS.iand X0.here hx rfl (hb hby at_16) rfl k) ?_
  show own_Go p e below _ s₁ (mkF m 17 #[.val (.int p1), .val (.int p2), .val (.int p3), .val (.int x0), .val (.int x1), .val (.int x2), .unset, .unset, .unset, .unset, .unset, .unset, .unset, .unset, .unset] [(.int (p3 &&& (3 : Int32)))])
  refine own_by (fun _ k => XS.istore X0.here hx rfl (hb hby at_17) rfl (l' := #[.val (.int p1), .val (.int p2), .val (.int p3), .val (.int x0), .val (.int x1), .val (.int x2), .val (.int (p3 &&& (3 : Int32))), .unset, .unset, .unset, .unset, .unset, .unset, .unset, .unset]) rfl k) ?_
  show own_Go p e below _ s₁ (mkF m 19 #[.val (.int p1), .val (.int p2), .val (.int p3), .val (.int x0), .val (.int x1), .val (.int x2), .val (.int (p3 &&& (3 : Int32))), .unset, .unset, .unset, .unset, .unset, .unset, .unset, .unset] [])
  refine own_by (fun _ k => XS.iloadN X0.here hx rfl (hb hby at_19) rfl k) ?_
  show own_Go p e below _ s₁ (mkF m 20 #[.val (.int p1), .val (.int p2), .val (.int p3), .val (.int x0), .val (.int x1), .val (.int x2), .val (.int (p3 &&& (3 : Int32))), .unset, .unset, .unset, .unset, .unset, .unset, .unset, .unset] [(.int p3)])
  refine own_by (fun _ k => XS.iconst X0.here hx rfl (hb hby at_20) k) ?_
  show own_Go p e below _ s₁ (mkF m 21 #[.val (.int p1), .val (.int p2), .val (.int p3), .val (.int x0), .val (.int x1), .val (.int x2), .val (.int (p3 &&& (3 : Int32))), .unset, .unset, .unset, .unset, .unset, .unset, .unset, .unset] [(.int (2 : Int32)), (.int p3)])
  refine own_by (fun _ k => XS.iushr X0.here hx rfl (hb hby at_21) rfl k) ?_
  show own_Go p e below _ s₁ (mkF m 22 #[.val (.int p1), .val (.int p2), .val (.int p3), .val (.int x0), .val (.int x1), .val (.int x2), .val (.int (p3 &&& (3 : Int32))), .unset, .unset, .unset, .unset, .unset, .unset, .unset, .unset] [(.int ((p3.toUInt32 >>> ((2 : Int32) &&& 31).toUInt32).toInt32))])
  refine own_by (fun _ k => XS.iconst X0.here hx rfl (hb hby at_22) k) ?_
  show own_Go p e below _ s₁ (mkF m 23 #[.val (.int p1), .val (.int p2), .val (.int p3), .val (.int x0), .val (.int x1), .val (.int x2), .val (.int (p3 &&& (3 : Int32))), .unset, .unset, .unset, .unset, .unset, .unset, .unset, .unset] [(.int (1 : Int32)), (.int ((p3.toUInt32 >>> ((2 : Int32) &&& 31).toUInt32).toInt32))])
  refine own_by (fun _ k => XS.iand X0.here hx rfl (hb hby at_23) rfl k) ?_
  show own_Go p e below _ s₁ (mkF m 24 #[.val (.int p1), .val (.int p2), .val (.int p3), .val (.int x0), .val (.int x1), .val (.int x2), .val (.int (p3 &&& (3 : Int32))), .unset, .unset, .unset, .unset, .unset, .unset, .unset, .unset] [(.int (((p3.toUInt32 >>> ((2 : Int32) &&& 31).toUInt32).toInt32) &&& (1 : Int32)))])
  have J32 : ∀ (ec : Int32) (hzec : nar .boolean ec = ec), own_Go p e below (own_End s room_1.cells room_1.slots (Q_rm0 Z p1 p2 p3 w1 h0 n0)) s₁ (mkF m 32 #[.val (.int p1), .val (.int p2), .val (.int p3), .val (.int x0), .val (.int x1), .val (.int x2), .val (.int (p3 &&& (3 : Int32))), .unset, .unset, .unset, .unset, .unset, .unset, .unset, .unset] [(.int ec)]) := by
    intro ec hzec
    show own_Go p e below _ s₁ (mkF m 32 #[.val (.int p1), .val (.int p2), .val (.int p3), .val (.int x0), .val (.int x1), .val (.int x2), .val (.int (p3 &&& (3 : Int32))), .unset, .unset, .unset, .unset, .unset, .unset, .unset, .unset] [(.int ec)])
    refine own_by (fun _ k => XS.istore X0.here hx rfl (hb hby at_32) rfl (l' := #[.val (.int p1), .val (.int p2), .val (.int p3), .val (.int x0), .val (.int x1), .val (.int x2), .val (.int (p3 &&& (3 : Int32))), .val (.int ec), .unset, .unset, .unset, .unset, .unset, .unset, .unset]) rfl k) ?_
    show own_Go p e below _ s₁ (mkF m 34 #[.val (.int p1), .val (.int p2), .val (.int p3), .val (.int x0), .val (.int x1), .val (.int x2), .val (.int (p3 &&& (3 : Int32))), .val (.int ec), .unset, .unset, .unset, .unset, .unset, .unset, .unset] [])
    refine own_by (fun _ k => XS.iloadN X0.here hx rfl (hb hby at_34) rfl k) ?_
    show own_Go p e below _ s₁ (mkF m 35 #[.val (.int p1), .val (.int p2), .val (.int p3), .val (.int x0), .val (.int x1), .val (.int x2), .val (.int (p3 &&& (3 : Int32))), .val (.int ec), .unset, .unset, .unset, .unset, .unset, .unset, .unset] [(.int p3)])
    refine own_by (fun _ k => XS.iconst X0.here hx rfl (hb hby at_35) k) ?_
    show own_Go p e below _ s₁ (mkF m 36 #[.val (.int p1), .val (.int p2), .val (.int p3), .val (.int x0), .val (.int x1), .val (.int x2), .val (.int (p3 &&& (3 : Int32))), .val (.int ec), .unset, .unset, .unset, .unset, .unset, .unset, .unset] [(.int (3 : Int32)), (.int p3)])
    refine own_by (fun _ k => XS.iushr X0.here hx rfl (hb hby at_36) rfl k) ?_
    show own_Go p e below _ s₁ (mkF m 37 #[.val (.int p1), .val (.int p2), .val (.int p3), .val (.int x0), .val (.int x1), .val (.int x2), .val (.int (p3 &&& (3 : Int32))), .val (.int ec), .unset, .unset, .unset, .unset, .unset, .unset, .unset] [(.int ((p3.toUInt32 >>> ((3 : Int32) &&& 31).toUInt32).toInt32))])
    refine own_by (fun _ k => XS.iconst X0.here hx rfl (hb hby at_37) k) ?_
    show own_Go p e below _ s₁ (mkF m 38 #[.val (.int p1), .val (.int p2), .val (.int p3), .val (.int x0), .val (.int x1), .val (.int x2), .val (.int (p3 &&& (3 : Int32))), .val (.int ec), .unset, .unset, .unset, .unset, .unset, .unset, .unset] [(.int (1 : Int32)), (.int ((p3.toUInt32 >>> ((3 : Int32) &&& 31).toUInt32).toInt32))])
    refine own_by (fun _ k => XS.iand X0.here hx rfl (hb hby at_38) rfl k) ?_
    show own_Go p e below _ s₁ (mkF m 39 #[.val (.int p1), .val (.int p2), .val (.int p3), .val (.int x0), .val (.int x1), .val (.int x2), .val (.int (p3 &&& (3 : Int32))), .val (.int ec), .unset, .unset, .unset, .unset, .unset, .unset, .unset] [(.int (((p3.toUInt32 >>> ((3 : Int32) &&& 31).toUInt32).toInt32) &&& (1 : Int32)))])
    have J47 : ∀ (gn : Int32) (hzgn : nar .boolean gn = gn), own_Go p e below (own_End s room_1.cells room_1.slots (Q_rm0 Z p1 p2 p3 w1 h0 n0)) s₁ (mkF m 47 #[.val (.int p1), .val (.int p2), .val (.int p3), .val (.int x0), .val (.int x1), .val (.int x2), .val (.int (p3 &&& (3 : Int32))), .val (.int ec), .unset, .unset, .unset, .unset, .unset, .unset, .unset] [(.int gn)]) := by
      intro gn hzgn
      show own_Go p e below _ s₁ (mkF m 47 #[.val (.int p1), .val (.int p2), .val (.int p3), .val (.int x0), .val (.int x1), .val (.int x2), .val (.int (p3 &&& (3 : Int32))), .val (.int ec), .unset, .unset, .unset, .unset, .unset, .unset, .unset] [(.int gn)])
      refine own_by (fun _ k => XS.istore X0.here hx rfl (hb hby at_47) rfl (l' := #[.val (.int p1), .val (.int p2), .val (.int p3), .val (.int x0), .val (.int x1), .val (.int x2), .val (.int (p3 &&& (3 : Int32))), .val (.int ec), .val (.int gn), .unset, .unset, .unset, .unset, .unset, .unset]) rfl k) ?_
      show own_Go p e below _ s₁ (mkF m 49 #[.val (.int p1), .val (.int p2), .val (.int p3), .val (.int x0), .val (.int x1), .val (.int x2), .val (.int (p3 &&& (3 : Int32))), .val (.int ec), .val (.int gn), .unset, .unset, .unset, .unset, .unset, .unset] [])
      refine own_by (fun _ k => XS.iloadN X0.here hx rfl (hb hby at_49) rfl k) ?_
      show own_Go p e below _ s₁ (mkF m 50 #[.val (.int p1), .val (.int p2), .val (.int p3), .val (.int x0), .val (.int x1), .val (.int x2), .val (.int (p3 &&& (3 : Int32))), .val (.int ec), .val (.int gn), .unset, .unset, .unset, .unset, .unset, .unset] [(.int p3)])
      refine own_by (fun _ k => XS.iconst X0.here hx rfl (hb hby at_50) k) ?_
      show own_Go p e below _ s₁ (mkF m 51 #[.val (.int p1), .val (.int p2), .val (.int p3), .val (.int x0), .val (.int x1), .val (.int x2), .val (.int (p3 &&& (3 : Int32))), .val (.int ec), .val (.int gn), .unset, .unset, .unset, .unset, .unset, .unset] [(.int (4 : Int32)), (.int p3)])
      refine own_by (fun _ k => XS.iushr X0.here hx rfl (hb hby at_51) rfl k) ?_
      show own_Go p e below _ s₁ (mkF m 52 #[.val (.int p1), .val (.int p2), .val (.int p3), .val (.int x0), .val (.int x1), .val (.int x2), .val (.int (p3 &&& (3 : Int32))), .val (.int ec), .val (.int gn), .unset, .unset, .unset, .unset, .unset, .unset] [(.int ((p3.toUInt32 >>> ((4 : Int32) &&& 31).toUInt32).toInt32))])
      refine own_by (fun _ k => XS.iconst X0.here hx rfl (hb hby at_52) k) ?_
      show own_Go p e below _ s₁ (mkF m 53 #[.val (.int p1), .val (.int p2), .val (.int p3), .val (.int x0), .val (.int x1), .val (.int x2), .val (.int (p3 &&& (3 : Int32))), .val (.int ec), .val (.int gn), .unset, .unset, .unset, .unset, .unset, .unset] [(.int (1 : Int32)), (.int ((p3.toUInt32 >>> ((4 : Int32) &&& 31).toUInt32).toInt32))])
      refine own_by (fun _ k => XS.iand X0.here hx rfl (hb hby at_53) rfl k) ?_
      show own_Go p e below _ s₁ (mkF m 54 #[.val (.int p1), .val (.int p2), .val (.int p3), .val (.int x0), .val (.int x1), .val (.int x2), .val (.int (p3 &&& (3 : Int32))), .val (.int ec), .val (.int gn), .unset, .unset, .unset, .unset, .unset, .unset] [(.int (((p3.toUInt32 >>> ((4 : Int32) &&& 31).toUInt32).toInt32) &&& (1 : Int32)))])
      have J62 : ∀ (cl : Int32) (hzcl : nar .boolean cl = cl), own_Go p e below (own_End s room_1.cells room_1.slots (Q_rm0 Z p1 p2 p3 w1 h0 n0)) s₁ (mkF m 62 #[.val (.int p1), .val (.int p2), .val (.int p3), .val (.int x0), .val (.int x1), .val (.int x2), .val (.int (p3 &&& (3 : Int32))), .val (.int ec), .val (.int gn), .unset, .unset, .unset, .unset, .unset, .unset] [(.int cl)]) := by
        intro cl hzcl
        show own_Go p e below _ s₁ (mkF m 62 #[.val (.int p1), .val (.int p2), .val (.int p3), .val (.int x0), .val (.int x1), .val (.int x2), .val (.int (p3 &&& (3 : Int32))), .val (.int ec), .val (.int gn), .unset, .unset, .unset, .unset, .unset, .unset] [(.int cl)])
        refine own_by (fun _ k => XS.istore X0.here hx rfl (hb hby at_62) rfl (l' := #[.val (.int p1), .val (.int p2), .val (.int p3), .val (.int x0), .val (.int x1), .val (.int x2), .val (.int (p3 &&& (3 : Int32))), .val (.int ec), .val (.int gn), .val (.int cl), .unset, .unset, .unset, .unset, .unset]) rfl k) ?_
        show own_Go p e below _ s₁ (mkF m 64 #[.val (.int p1), .val (.int p2), .val (.int p3), .val (.int x0), .val (.int x1), .val (.int x2), .val (.int (p3 &&& (3 : Int32))), .val (.int ec), .val (.int gn), .val (.int cl), .unset, .unset, .unset, .unset, .unset] [])
        refine own_by (fun _ k => XS.iloadN X0.here hx rfl (hb hby at_64) rfl k) ?_
        show own_Go p e below _ s₁ (mkF m 65 #[.val (.int p1), .val (.int p2), .val (.int p3), .val (.int x0), .val (.int x1), .val (.int x2), .val (.int (p3 &&& (3 : Int32))), .val (.int ec), .val (.int gn), .val (.int cl), .unset, .unset, .unset, .unset, .unset] [(.int p2)])
        refine own_by (fun _ k => XS.bipush X0.here hx rfl (hb hby at_65) k) ?_
        show own_Go p e below _ s₁ (mkF m 67 #[.val (.int p1), .val (.int p2), .val (.int p3), .val (.int x0), .val (.int x1), .val (.int x2), .val (.int (p3 &&& (3 : Int32))), .val (.int ec), .val (.int gn), .val (.int cl), .unset, .unset, .unset, .unset, .unset] [(.int (16 : Int32)), (.int p2)])
        refine own_by (fun _ k => XS.iushr X0.here hx rfl (hb hby at_67) rfl k) ?_
        show own_Go p e below _ s₁ (mkF m 68 #[.val (.int p1), .val (.int p2), .val (.int p3), .val (.int x0), .val (.int x1), .val (.int x2), .val (.int (p3 &&& (3 : Int32))), .val (.int ec), .val (.int gn), .val (.int cl), .unset, .unset, .unset, .unset, .unset] [(.int ((p2.toUInt32 >>> ((16 : Int32) &&& 31).toUInt32).toInt32))])
        refine own_by (fun _ k => XS.sipush X0.here hx rfl (hb hby at_68) k) ?_
        show own_Go p e below _ s₁ (mkF m 71 #[.val (.int p1), .val (.int p2), .val (.int p3), .val (.int x0), .val (.int x1), .val (.int x2), .val (.int (p3 &&& (3 : Int32))), .val (.int ec), .val (.int gn), .val (.int cl), .unset, .unset, .unset, .unset, .unset] [(.int (255 : Int32)), (.int ((p2.toUInt32 >>> ((16 : Int32) &&& 31).toUInt32).toInt32))])
        refine own_by (fun _ k => XS.iand X0.here hx rfl (hb hby at_71) rfl k) ?_
        show own_Go p e below _ s₁ (mkF m 72 #[.val (.int p1), .val (.int p2), .val (.int p3), .val (.int x0), .val (.int x1), .val (.int x2), .val (.int (p3 &&& (3 : Int32))), .val (.int ec), .val (.int gn), .val (.int cl), .unset, .unset, .unset, .unset, .unset] [(.int (((p2.toUInt32 >>> ((16 : Int32) &&& 31).toUInt32).toInt32) &&& (255 : Int32)))])
        refine own_by (fun _ k => XS.i2c X0.here hx rfl (hb hby at_72) rfl k) ?_
        show own_Go p e below _ s₁ (mkF m 73 #[.val (.int p1), .val (.int p2), .val (.int p3), .val (.int x0), .val (.int x1), .val (.int x2), .val (.int (p3 &&& (3 : Int32))), .val (.int ec), .val (.int gn), .val (.int cl), .unset, .unset, .unset, .unset, .unset] [(.int ((((p2.toUInt32 >>> ((16 : Int32) &&& 31).toUInt32).toInt32) &&& (255 : Int32)).toUInt32.toUInt16.toUInt32.toInt32))])
        obtain ⟨_, T342, L342, X342, ⟨sp, rfl, N342q, Ks, ss⟩, st342⟩ := own_callS X0 hx hZ hown (y := (⟨"java/lang/String", "valueOf", "(C)Ljava/lang/String;"⟩ : MethodName)) (hw _ (List.mem_of_getElem? (i := 0) rfl)) (hw _ (List.mem_of_getElem? (i := 1) rfl)) (hw _ (List.mem_of_getElem? (i := 2) rfl)) (hw _ (List.mem_of_getElem? (i := 3) rfl)) (by decide) (argsL := [(.int ((((p2.toUInt32 >>> ((16 : Int32) &&& 31).toUInt32).toInt32) &&& (255 : Int32)).toUInt32.toUInt16.toUInt32.toInt32))]) (rest := []) e0 (rm1 l Z a0 hw [] ((((p2.toUInt32 >>> ((16 : Int32) &&& 31).toUInt32).toInt32) &&& (255 : Int32)).toUInt32.toUInt16.toUInt32.toInt32) w1 h0 n0 Z0 (own_255 _) SC hw1) (g := (mkF m 73 #[.val (.int p1), .val (.int p2), .val (.int p3), .val (.int x0), .val (.int x1), .val (.int x2), .val (.int (p3 &&& (3 : Int32))), .val (.int ec), .val (.int gn), .val (.int cl), .unset, .unset, .unset, .unset, .unset] [(.int ((((p2.toUInt32 >>> ((16 : Int32) &&& 31).toUInt32).toInt32) &&& (255 : Int32)).toUInt32.toUInt16.toUInt32.toInt32))])) rfl (by rw [hml]; rfl) (lenOf pd_5 rfl) rfl (W := 0) (by show 2 * 0 + _ ≤ _; exact Nat.le_of_eq rfl) (hb hby at_73) (by decide) (by decide) (by decide) (by decide)
        have N342 := Fr.app N0 N342q
        refine own_by st342 ?_
        show own_Go p e below _ T342 (mkF m 76 #[.val (.int p1), .val (.int p2), .val (.int p3), .val (.int x0), .val (.int x1), .val (.int x2), .val (.int (p3 &&& (3 : Int32))), .val (.int ec), .val (.int gn), .val (.int cl), .unset, .unset, .unset, .unset, .unset] [(.ref sp)])
        have og_sp : n0 ≤ sp := Nat.le_trans Z0 ss
        have Z342 : n0 ≤ T342.heap.size := Nat.le_trans Z0 Ks.1
        refine own_by (fun _ k => XS.astore X342.here hx rfl (hb hby at_76) rfl rfl (l' := #[.val (.int p1), .val (.int p2), .val (.int p3), .val (.int x0), .val (.int x1), .val (.int x2), .val (.int (p3 &&& (3 : Int32))), .val (.int ec), .val (.int gn), .val (.int cl), .val (.ref sp), .unset, .unset, .unset, .unset]) rfl k) ?_
        show own_Go p e below _ T342 (mkF m 78 #[.val (.int p1), .val (.int p2), .val (.int p3), .val (.int x0), .val (.int x1), .val (.int x2), .val (.int (p3 &&& (3 : Int32))), .val (.int ec), .val (.int gn), .val (.int cl), .val (.ref sp), .unset, .unset, .unset, .unset] [])
        obtain ⟨T343, h343, X343, e343, E343, A343, D343, -, st343⟩ := newO X342 hx hZ hown (hw _ (List.mem_of_getElem? (i := 26) rfl)) (hw _ (List.mem_of_getElem? (i := 27) rfl)) (hw _ (List.mem_of_getElem? (i := 28) rfl)) rfl (g := (mkF m 78 #[.val (.int p1), .val (.int p2), .val (.int p3), .val (.int x0), .val (.int x1), .val (.int x2), .val (.int (p3 &&& (3 : Int32))), .val (.int ec), .val (.int gn), .val (.int cl), .val (.ref sp), .unset, .unset, .unset, .unset] [])) rfl (hb hby at_78) (by decide) (by decide)
        obtain ⟨b343, g343⟩ : ∃ z, z = T342.heap.size := ⟨_, rfl⟩
        rw [← g343] at A343 D343 st343
        have og_b343 : n0 ≤ b343 := Nat.le_trans Z342 (Nat.le_of_eq g343.symm)
        have Z343 : n0 ≤ h343.size := Nat.le_trans Z342 E343.1
        have F_prompt_b343 : Fld Z h343 b343 "watchword/PasswordCallback" "prompt" "Ljava/lang/String;" .null := D343 (Or.inr (hw _ (List.mem_of_getElem? (i := 34) rfl))) (ty := (.object "java/lang/String")) (by decide)
        have F_echoOn_b343 : Fld Z h343 b343 "watchword/PasswordCallback" "echoOn" "Z" (.int (0 : Int32)) := D343 (Or.inr (hw _ (List.mem_of_getElem? (i := 36) rfl))) (ty := .boolean) (by decide)
        have F_password_b343 : Fld Z h343 b343 "watchword/PasswordCallback" "password" "[C" .null := D343 (Or.inl (hw _ (List.mem_of_getElem? (i := 43) rfl))) (ty := (.array .char)) (by decide)
        refine own_by st343 ?_
        show own_Go p e below _ T343 (mkF m 81 #[.val (.int p1), .val (.int p2), .val (.int p3), .val (.int x0), .val (.int x1), .val (.int x2), .val (.int (p3 &&& (3 : Int32))), .val (.int ec), .val (.int gn), .val (.int cl), .val (.ref sp), .unset, .unset, .unset, .unset] [(.ref b343)])
        refine own_by (fun _ k => XS.dup X343.here hx rfl (hb hby at_81) rfl rfl k) ?_
        show own_Go p e below _ T343 (mkF m 82 #[.val (.int p1), .val (.int p2), .val (.int p3), .val (.int x0), .val (.int x1), .val (.int x2), .val (.int (p3 &&& (3 : Int32))), .val (.int ec), .val (.int gn), .val (.int cl), .val (.ref sp), .unset, .unset, .unset, .unset] [(.ref b343), (.ref b343)])
        refine own_by (fun _ k => XS.aload X343.here hx rfl (hb hby at_82) rfl rfl k) ?_
        show own_Go p e below _ T343 (mkF m 84 #[.val (.int p1), .val (.int p2), .val (.int p3), .val (.int x0), .val (.int x1), .val (.int x2), .val (.int (p3 &&& (3 : Int32))), .val (.int ec), .val (.int gn), .val (.int cl), .val (.ref sp), .unset, .unset, .unset, .unset] [(.ref sp), (.ref b343), (.ref b343)])
        refine own_by (fun _ k => XS.iload X343.here hx rfl (hb hby at_84) rfl k) ?_
        show own_Go p e below _ T343 (mkF m 86 #[.val (.int p1), .val (.int p2), .val (.int p3), .val (.int x0), .val (.int x1), .val (.int x2), .val (.int (p3 &&& (3 : Int32))), .val (.int ec), .val (.int gn), .val (.int cl), .val (.ref sp), .unset, .unset, .unset, .unset] [(.int ec), (.ref sp), (.ref b343), (.ref b343)])
        obtain ⟨_, T344, L344, X344, ⟨rfl, N344q, Ki, Ei, Fi⟩, st344⟩ := own_callI X343 hx hZ hown (y := (⟨"watchword/PasswordCallback", "<init>", "(Ljava/lang/String;Z)V"⟩ : MethodName)) rfl (hw _ (List.mem_of_getElem? (i := 29) rfl)) (hw _ (List.mem_of_getElem? (i := 30) rfl)) (hw _ (List.mem_of_getElem? (i := 28) rfl)) (hw _ (List.mem_of_getElem? (i := 31) rfl)) (by decide) (a := b343) (argsL := [(.ref sp), (.int ec)]) (rest := [(.ref b343)]) e343 (rm6 l Z a0 hw [] b343 sp ec h343 n0 Z343 og_b343 hzec A343 F_prompt_b343 F_echoOn_b343 F_password_b343) (g := (mkF m 86 #[.val (.int p1), .val (.int p2), .val (.int p3), .val (.int x0), .val (.int x1), .val (.int x2), .val (.int (p3 &&& (3 : Int32))), .val (.int ec), .val (.int gn), .val (.int cl), .val (.ref sp), .unset, .unset, .unset, .unset] [(.int ec), (.ref sp), (.ref b343), (.ref b343)])) rfl (by rw [hml]; rfl) (lenOf pd_6 rfl) rfl (W := 1) (by show 2 * 0 + _ ≤ _; exact Nat.le_of_eq rfl) (hb hby at_86) (by decide) (by decide) (by decide) (by decide)
        have N344 := Fr.app N342 N344q
        refine own_by st344 ?_
        show own_Go p e below _ T344 (mkF m 89 #[.val (.int p1), .val (.int p2), .val (.int p3), .val (.int x0), .val (.int x1), .val (.int x2), .val (.int (p3 &&& (3 : Int32))), .val (.int ec), .val (.int gn), .val (.int cl), .val (.ref sp), .unset, .unset, .unset, .unset] [(.ref b343)])
        have Z344 : n0 ≤ T344.heap.size := Nat.le_trans Z343 Ki.1
        refine own_by (fun _ k => XS.astore X344.here hx rfl (hb hby at_89) rfl rfl (l' := #[.val (.int p1), .val (.int p2), .val (.int p3), .val (.int x0), .val (.int x1), .val (.int x2), .val (.int (p3 &&& (3 : Int32))), .val (.int ec), .val (.int gn), .val (.int cl), .val (.ref sp), .val (.ref b343), .unset, .unset, .unset]) rfl k) ?_
        show own_Go p e below _ T344 (mkF m 91 #[.val (.int p1), .val (.int p2), .val (.int p3), .val (.int x0), .val (.int x1), .val (.int x2), .val (.int (p3 &&& (3 : Int32))), .val (.int ec), .val (.int gn), .val (.int cl), .val (.ref sp), .val (.ref b343), .unset, .unset, .unset] [])
        refine own_by (fun _ k => XS.aload X344.here hx rfl (hb hby at_91) rfl rfl k) ?_
        show own_Go p e below _ T344 (mkF m 93 #[.val (.int p1), .val (.int p2), .val (.int p3), .val (.int x0), .val (.int x1), .val (.int x2), .val (.int (p3 &&& (3 : Int32))), .val (.int ec), .val (.int gn), .val (.int cl), .val (.ref sp), .val (.ref b343), .unset, .unset, .unset] [(.ref b343)])
        obtain ⟨_, T345, L345, X345, ⟨rfl, N345q, e345⟩, st345⟩ := own_callV X344 hx hZ hown (y := (⟨"watchword/PasswordCallback", "getPassword", "()[C"⟩ : MethodName)) (C := "watchword/PasswordCallback") (hw _ (List.mem_of_getElem? (i := 37) rfl)) (hw _ (List.mem_of_getElem? (i := 38) rfl)) (hw _ (List.mem_of_getElem? (i := 40) rfl)) (hw _ (List.mem_of_getElem? (i := 39) rfl)) (hw _ (List.mem_of_getElem? (i := 28) rfl)) (hw _ (List.mem_of_getElem? (i := 41) rfl)) (by decide) (a := b343) Ei (argsL := []) (rest := []) rfl (rm7z l Z a0 hw [] b343 T344.heap n0 Z344 Fi) (g := (mkF m 93 #[.val (.int p1), .val (.int p2), .val (.int p3), .val (.int x0), .val (.int x1), .val (.int x2), .val (.int (p3 &&& (3 : Int32))), .val (.int ec), .val (.int gn), .val (.int cl), .val (.ref sp), .val (.ref b343), .unset, .unset, .unset] [(.ref b343)])) rfl (by rw [hml]; rfl) (lenOf pd_7 rfl) rfl (W := 0) (by show 2 * 0 + _ ≤ _; exact Nat.le_of_eq rfl) (hb hby at_93) (by decide) (by decide) (by decide) (by decide)
        have N345 := Fr.app N344 N345q
        refine own_by st345 ?_
        show own_Go p e below _ T345 (mkF m 96 #[.val (.int p1), .val (.int p2), .val (.int p3), .val (.int x0), .val (.int x1), .val (.int x2), .val (.int (p3 &&& (3 : Int32))), .val (.int ec), .val (.int gn), .val (.int cl), .val (.ref sp), .val (.ref b343), .unset, .unset, .unset] [.null])
        refine own_by (fun _ k => XS.ifnullYes X345.here hx rfl (pc0 := 96) (pc' := 101) rfl (hb hby at_96) rfl (by decide) (by decide) k) ?_
        show own_Go p e below _ T345 (mkF m 101 #[.val (.int p1), .val (.int p2), .val (.int p3), .val (.int x0), .val (.int x1), .val (.int x2), .val (.int (p3 &&& (3 : Int32))), .val (.int ec), .val (.int gn), .val (.int cl), .val (.ref sp), .val (.ref b343), .unset, .unset, .unset] [])
        refine own_by (fun _ k => XS.iload X345.here hx rfl (hb hby at_101) rfl k) ?_
        show own_Go p e below _ T345 (mkF m 103 #[.val (.int p1), .val (.int p2), .val (.int p3), .val (.int x0), .val (.int x1), .val (.int x2), .val (.int (p3 &&& (3 : Int32))), .val (.int ec), .val (.int gn), .val (.int cl), .val (.ref sp), .val (.ref b343), .unset, .unset, .unset] [(.int (p3 &&& (3 : Int32)))])
        refine own_by (fun _ k => XS.iloadN X345.here hx rfl (hb hby at_103) rfl k) ?_
        show own_Go p e below _ T345 (mkF m 104 #[.val (.int p1), .val (.int p2), .val (.int p3), .val (.int x0), .val (.int x1), .val (.int x2), .val (.int (p3 &&& (3 : Int32))), .val (.int ec), .val (.int gn), .val (.int cl), .val (.ref sp), .val (.ref b343), .unset, .unset, .unset] [(.int x0), (.int (p3 &&& (3 : Int32)))])
        refine own_by (fun _ k => XS.iload X345.here hx rfl (hb hby at_104) rfl k) ?_
        show own_Go p e below _ T345 (mkF m 106 #[.val (.int p1), .val (.int p2), .val (.int p3), .val (.int x0), .val (.int x1), .val (.int x2), .val (.int (p3 &&& (3 : Int32))), .val (.int ec), .val (.int gn), .val (.int cl), .val (.ref sp), .val (.ref b343), .unset, .unset, .unset] [(.int x1), (.int x0), (.int (p3 &&& (3 : Int32)))])
        refine own_by (fun _ k => XS.iload X345.here hx rfl (hb hby at_106) rfl k) ?_
        show own_Go p e below _ T345 (mkF m 108 #[.val (.int p1), .val (.int p2), .val (.int p3), .val (.int x0), .val (.int x1), .val (.int x2), .val (.int (p3 &&& (3 : Int32))), .val (.int ec), .val (.int gn), .val (.int cl), .val (.ref sp), .val (.ref b343), .unset, .unset, .unset] [(.int x2), (.int x1), (.int x0), (.int (p3 &&& (3 : Int32)))])
        rcases own_four p3 with hk | hk | hk | hk
        · show own_Go p e below _ T345 (mkF m 108 #[.val (.int p1), .val (.int p2), .val (.int p3), .val (.int x0), .val (.int x1), .val (.int x2), .val (.int (p3 &&& (3 : Int32))), .val (.int ec), .val (.int gn), .val (.int cl), .val (.ref sp), .val (.ref b343), .unset, .unset, .unset] [(.int x2), (.int x1), (.int x0), (.int (p3 &&& (3 : Int32)))])
          rw [hk]
          show own_Go p e below _ T345 (mkF m 108 #[.val (.int p1), .val (.int p2), .val (.int p3), .val (.int x0), .val (.int x1), .val (.int x2), .val (.int (0 : Int32)), .val (.int ec), .val (.int gn), .val (.int cl), .val (.ref sp), .val (.ref b343), .unset, .unset, .unset] [(.int x2), (.int x1), (.int x0), (.int (0 : Int32))])
          obtain ⟨_, T346, L346, X346, ⟨pp, kp, rfl, N346q, Kp, sp', Ep, Vp⟩, st346⟩ := own_callS X345 hx hZ hown (y := (⟨"watchword/PasswordCallbackGetPasswordPinLaw", "make", "(ICCC)[C"⟩ : MethodName)) (hw _ (List.mem_of_getElem? (i := 44) rfl)) (hw _ (List.mem_of_getElem? (i := 45) rfl)) (hw _ (List.mem_of_getElem? (i := 46) rfl)) (hw _ (List.mem_of_getElem? (i := 47) rfl)) (by decide) (argsL := [(.int (0 : Int32)), (.int x0), (.int x1), (.int x2)]) (rest := []) e345 (rm8_0 l Z a0 hw [] x0 x1 x2 T344.heap n0 Z344 hn0 hn1 hn2) (g := (mkF m 108 #[.val (.int p1), .val (.int p2), .val (.int p3), .val (.int x0), .val (.int x1), .val (.int x2), .val (.int (0 : Int32)), .val (.int ec), .val (.int gn), .val (.int cl), .val (.ref sp), .val (.ref b343), .unset, .unset, .unset] [(.int x2), (.int x1), (.int x0), (.int (0 : Int32))])) rfl (by rw [hml]; rfl) (lenOf pd_8 rfl) rfl (W := 0) (by show 2 * 0 + _ ≤ _; exact Nat.le_of_eq rfl) (hb hby at_108) (by decide) (by decide) (by decide) (by decide)
          have N346 := Fr.app N345 N346q
          refine own_by st346 ?_
          show own_Go p e below _ T346 (mkF m 111 #[.val (.int p1), .val (.int p2), .val (.int p3), .val (.int x0), .val (.int x1), .val (.int x2), .val (.int (0 : Int32)), .val (.int ec), .val (.int gn), .val (.int cl), .val (.ref sp), .val (.ref b343), .unset, .unset, .unset] [(.ref pp)])
          have ne_b343_pp : b343 ≠ pp := Nat.ne_of_lt (Nat.lt_of_lt_of_le Ei.lt sp')
          have og_pp : n0 ≤ pp := Nat.le_trans Z344 sp'
          have Z346 : n0 ≤ T346.heap.size := Nat.le_trans Z344 Kp.1
          refine own_by (fun _ k => XS.astore X346.here hx rfl (hb hby at_111) rfl rfl (l' := #[.val (.int p1), .val (.int p2), .val (.int p3), .val (.int x0), .val (.int x1), .val (.int x2), .val (.int (0 : Int32)), .val (.int ec), .val (.int gn), .val (.int cl), .val (.ref sp), .val (.ref b343), .val (.ref pp), .unset, .unset]) rfl k) ?_
          show own_Go p e below _ T346 (mkF m 113 #[.val (.int p1), .val (.int p2), .val (.int p3), .val (.int x0), .val (.int x1), .val (.int x2), .val (.int (0 : Int32)), .val (.int ec), .val (.int gn), .val (.int cl), .val (.ref sp), .val (.ref b343), .val (.ref pp), .unset, .unset] [])
          refine own_by (fun _ k => XS.iload X346.here hx rfl (hb hby at_113) rfl k) ?_
          show own_Go p e below _ T346 (mkF m 115 #[.val (.int p1), .val (.int p2), .val (.int p3), .val (.int x0), .val (.int x1), .val (.int x2), .val (.int (0 : Int32)), .val (.int ec), .val (.int gn), .val (.int cl), .val (.ref sp), .val (.ref b343), .val (.ref pp), .unset, .unset] [(.int gn)])
          by_cases hgn : gn = (0 : Int32)
          · refine own_by (fun _ k => XS.ifYes X346.here hx rfl (pc0 := 115) (pc' := 145) rfl (hb hby at_115) rfl ((if0 _ _).trans (teq (hgn : gn = (0 : Int32))).1) (by decide) (by decide) k) ?_
            show own_Go p e below _ T346 (mkF m 145 #[.val (.int p1), .val (.int p2), .val (.int p3), .val (.int x0), .val (.int x1), .val (.int x2), .val (.int (0 : Int32)), .val (.int ec), .val (.int gn), .val (.int cl), .val (.ref sp), .val (.ref b343), .val (.ref pp), .unset, .unset] [])
            refine own_by (fun _ k => XS.aload X346.here hx rfl (hb hby at_145) rfl rfl k) ?_
            show own_Go p e below _ T346 (mkF m 147 #[.val (.int p1), .val (.int p2), .val (.int p3), .val (.int x0), .val (.int x1), .val (.int x2), .val (.int (0 : Int32)), .val (.int ec), .val (.int gn), .val (.int cl), .val (.ref sp), .val (.ref b343), .val (.ref pp), .unset, .unset] [(.ref b343)])
            refine own_by (fun _ k => XS.aload X346.here hx rfl (hb hby at_147) rfl rfl k) ?_
            show own_Go p e below _ T346 (mkF m 149 #[.val (.int p1), .val (.int p2), .val (.int p3), .val (.int x0), .val (.int x1), .val (.int x2), .val (.int (0 : Int32)), .val (.int ec), .val (.int gn), .val (.int cl), .val (.ref sp), .val (.ref b343), .val (.ref pp), .unset, .unset] [(.ref pp), (.ref b343)])
            have f347 := (Ei.keep Kp)
            have f348 := (Fi.keep Kp nin0)
            obtain ⟨_, T349, L349, X349, ⟨qq, rfl, N349q, Kqb, sqb, Ecb, Fcb, Eqq, Vqq⟩, st349⟩ := own_callV X346 hx hZ hown (y := (⟨"watchword/PasswordCallback", "setPassword", "([C)V"⟩ : MethodName)) (C := "watchword/PasswordCallback") (hw _ (List.mem_of_getElem? (i := 49) rfl)) (hw _ (List.mem_of_getElem? (i := 50) rfl)) (hw _ (List.mem_of_getElem? (i := 52) rfl)) (hw _ (List.mem_of_getElem? (i := 51) rfl)) (hw _ (List.mem_of_getElem? (i := 28) rfl)) (hw _ (List.mem_of_getElem? (i := 53) rfl)) (by decide) (a := b343) f347 (argsL := [(.ref pp)]) (rest := []) rfl (rm9_0 l Z a0 hw [] b343 pp kp  T346.heap n0 Z346 og_b343 f347 f348 Vp Ep) (g := (mkF m 149 #[.val (.int p1), .val (.int p2), .val (.int p3), .val (.int x0), .val (.int x1), .val (.int x2), .val (.int (0 : Int32)), .val (.int ec), .val (.int gn), .val (.int cl), .val (.ref sp), .val (.ref b343), .val (.ref pp), .unset, .unset] [(.ref pp), (.ref b343)])) rfl (by rw [hml]; rfl) (lenOf pd_9 rfl) rfl (W := 0) (by show 2 * 0 + _ ≤ _; exact Nat.le_of_eq rfl) (hb hby at_149) (by decide) (by decide) (by decide) (by decide)
            have N349 := Fr.app N346 N349q
            refine own_by st349 ?_
            show own_Go p e below _ T349 (mkF m 152 #[.val (.int p1), .val (.int p2), .val (.int p3), .val (.int x0), .val (.int x1), .val (.int x2), .val (.int (0 : Int32)), .val (.int ec), .val (.int gn), .val (.int cl), .val (.ref sp), .val (.ref b343), .val (.ref pp), .unset, .unset] [])
            have ne_b343_qq : b343 ≠ qq := Nat.ne_of_lt (Nat.lt_of_lt_of_le f347.lt sqb)
            have ne_pp_qq : pp ≠ qq := Nat.ne_of_lt (Nat.lt_of_lt_of_le Ep.lt sqb)
            have og_qq : n0 ≤ qq := Nat.le_trans Z346 sqb
            have Z349 : n0 ≤ T349.heap.size := Nat.le_trans Z346 Kqb.1
            refine own_by (fun _ k => XS.aload X349.here hx rfl (hb hby at_152) rfl rfl k) ?_
            show own_Go p e below _ T349 (mkF m 154 #[.val (.int p1), .val (.int p2), .val (.int p3), .val (.int x0), .val (.int x1), .val (.int x2), .val (.int (0 : Int32)), .val (.int ec), .val (.int gn), .val (.int cl), .val (.ref sp), .val (.ref b343), .val (.ref pp), .unset, .unset] [(.ref pp)])
            have f350 := (Vp.keep Kqb (ninS (Ne.symm ne_b343_pp) nin0))
            have f351 := (Ep.keep Kqb)
            obtain ⟨_, T352, L352, X352, ⟨rfl, N352q, Kf1⟩, st352⟩ := own_callS X349 hx hZ hown (y := (⟨"watchword/PasswordCallbackGetPasswordPinLaw", "flip", "([C)V"⟩ : MethodName)) (hw _ (List.mem_of_getElem? (i := 68) rfl)) (hw _ (List.mem_of_getElem? (i := 69) rfl)) (hw _ (List.mem_of_getElem? (i := 46) rfl)) (hw _ (List.mem_of_getElem? (i := 70) rfl)) (by decide) (argsL := [(.ref pp)]) (rest := []) rfl (rm11_0 l Z a0 hw [] pp kp  T349.heap n0 Z349 og_pp f350) (g := (mkF m 154 #[.val (.int p1), .val (.int p2), .val (.int p3), .val (.int x0), .val (.int x1), .val (.int x2), .val (.int (0 : Int32)), .val (.int ec), .val (.int gn), .val (.int cl), .val (.ref sp), .val (.ref b343), .val (.ref pp), .unset, .unset] [(.ref pp)])) rfl (by rw [hml]; rfl) (lenOf pd_9 rfl) rfl (W := 0) (by show 2 * 0 + _ ≤ _; exact Nat.le_of_eq rfl) (hb hby at_154) (by decide) (by decide) (by decide) (by decide)
            have N352 := Fr.app N349 N352q
            refine own_by st352 ?_
            show own_Go p e below _ T352 (mkF m 157 #[.val (.int p1), .val (.int p2), .val (.int p3), .val (.int x0), .val (.int x1), .val (.int x2), .val (.int (0 : Int32)), .val (.int ec), .val (.int gn), .val (.int cl), .val (.ref sp), .val (.ref b343), .val (.ref pp), .unset, .unset] [])
            have Z352 : n0 ≤ T352.heap.size := Nat.le_trans Z349 Kf1.1
            refine own_by (fun _ k => XS.aload X352.here hx rfl (hb hby at_157) rfl rfl k) ?_
            show own_Go p e below _ T352 (mkF m 159 #[.val (.int p1), .val (.int p2), .val (.int p3), .val (.int x0), .val (.int x1), .val (.int x2), .val (.int (0 : Int32)), .val (.int ec), .val (.int gn), .val (.int cl), .val (.ref sp), .val (.ref b343), .val (.ref pp), .unset, .unset] [(.ref b343)])
            have lpp : pp < T352.heap.size := Nat.lt_of_lt_of_le f350.lt Kf1.1
            have f353 := (Fcb.keep Kf1 (ninS ne_b343_pp nin0))
            have f354 := (Vqq.keep Kf1 (ninS (Ne.symm ne_pp_qq) nin0))
            have f355 := (Eqq.keep Kf1)
            have f356 := (Ecb.keep Kf1)
            obtain ⟨_, T357, L357, X357, ⟨g1, rfl, N357q, Kg1, sg1, Eg1, Vg1⟩, st357⟩ := own_callV X352 hx hZ hown (y := (⟨"watchword/PasswordCallback", "getPassword", "()[C"⟩ : MethodName)) (C := "watchword/PasswordCallback") (hw _ (List.mem_of_getElem? (i := 37) rfl)) (hw _ (List.mem_of_getElem? (i := 38) rfl)) (hw _ (List.mem_of_getElem? (i := 40) rfl)) (hw _ (List.mem_of_getElem? (i := 39) rfl)) (hw _ (List.mem_of_getElem? (i := 28) rfl)) (hw _ (List.mem_of_getElem? (i := 41) rfl)) (by decide) (a := b343) f356 (argsL := []) (rest := []) rfl (rm7_0 l Z a0 hw [] b343 qq kp  T352.heap n0 Z352 f353 f354 f355) (g := (mkF m 159 #[.val (.int p1), .val (.int p2), .val (.int p3), .val (.int x0), .val (.int x1), .val (.int x2), .val (.int (0 : Int32)), .val (.int ec), .val (.int gn), .val (.int cl), .val (.ref sp), .val (.ref b343), .val (.ref pp), .unset, .unset] [(.ref b343)])) rfl (by rw [hml]; rfl) (lenOf pd_7 rfl) rfl (W := 0) (by show 2 * 0 + _ ≤ _; exact Nat.le_of_eq rfl) (hb hby at_159) (by decide) (by decide) (by decide) (by decide)
            have N357 := Fr.app N352 N357q
            refine own_by st357 ?_
            show own_Go p e below _ T357 (mkF m 162 #[.val (.int p1), .val (.int p2), .val (.int p3), .val (.int x0), .val (.int x1), .val (.int x2), .val (.int (0 : Int32)), .val (.int ec), .val (.int gn), .val (.int cl), .val (.ref sp), .val (.ref b343), .val (.ref pp), .unset, .unset] [(.ref g1)])
            have ne_b343_g1 : b343 ≠ g1 := Nat.ne_of_lt (Nat.lt_of_lt_of_le f356.lt sg1)
            have ne_qq_g1 : qq ≠ g1 := Nat.ne_of_lt (Nat.lt_of_lt_of_le f355.lt sg1)
            have og_g1 : n0 ≤ g1 := Nat.le_trans Z352 sg1
            have Z357 : n0 ≤ T357.heap.size := Nat.le_trans Z352 Kg1.1
            have nepp1 : pp ≠ g1 := Nat.ne_of_lt (Nat.lt_of_lt_of_le lpp sg1)
            have lpp1 : pp < T357.heap.size := Nat.lt_of_lt_of_le lpp Kg1.1
            refine own_by (fun _ k => XS.astore X357.here hx rfl (hb hby at_162) rfl rfl (l' := #[.val (.int p1), .val (.int p2), .val (.int p3), .val (.int x0), .val (.int x1), .val (.int x2), .val (.int (0 : Int32)), .val (.int ec), .val (.int gn), .val (.int cl), .val (.ref sp), .val (.ref b343), .val (.ref pp), .val (.ref g1), .unset]) rfl k) ?_
            show own_Go p e below _ T357 (mkF m 164 #[.val (.int p1), .val (.int p2), .val (.int p3), .val (.int x0), .val (.int x1), .val (.int x2), .val (.int (0 : Int32)), .val (.int ec), .val (.int gn), .val (.int cl), .val (.ref sp), .val (.ref b343), .val (.ref pp), .val (.ref g1), .unset] [])
            refine own_by (fun _ k => XS.aload X357.here hx rfl (hb hby at_164) rfl rfl k) ?_
            show own_Go p e below _ T357 (mkF m 166 #[.val (.int p1), .val (.int p2), .val (.int p3), .val (.int x0), .val (.int x1), .val (.int x2), .val (.int (0 : Int32)), .val (.int ec), .val (.int gn), .val (.int cl), .val (.ref sp), .val (.ref b343), .val (.ref pp), .val (.ref g1), .unset] [(.ref g1)])
            refine own_by (fun _ k => XS.ifnullNo X357.here hx rfl (hb hby at_166) rfl k) ?_
            show own_Go p e below _ T357 (mkF m 169 #[.val (.int p1), .val (.int p2), .val (.int p3), .val (.int x0), .val (.int x1), .val (.int x2), .val (.int (0 : Int32)), .val (.int ec), .val (.int gn), .val (.int cl), .val (.ref sp), .val (.ref b343), .val (.ref pp), .val (.ref g1), .unset] [])
            refine own_by (fun _ k => XS.aload X357.here hx rfl (hb hby at_169) rfl rfl k) ?_
            show own_Go p e below _ T357 (mkF m 171 #[.val (.int p1), .val (.int p2), .val (.int p3), .val (.int x0), .val (.int x1), .val (.int x2), .val (.int (0 : Int32)), .val (.int ec), .val (.int gn), .val (.int cl), .val (.ref sp), .val (.ref b343), .val (.ref pp), .val (.ref g1), .unset] [(.ref g1)])
            refine own_by (fun _ k => XS.aload X357.here hx rfl (hb hby at_171) rfl rfl k) ?_
            show own_Go p e below _ T357 (mkF m 173 #[.val (.int p1), .val (.int p2), .val (.int p3), .val (.int x0), .val (.int x1), .val (.int x2), .val (.int (0 : Int32)), .val (.int ec), .val (.int gn), .val (.int cl), .val (.ref sp), .val (.ref b343), .val (.ref pp), .val (.ref g1), .unset] [(.ref pp), (.ref g1)])
            refine own_by (fun _ k => Jvm.RoadKit.acmp (g := (mkF m 173 #[.val (.int p1), .val (.int p2), .val (.int p3), .val (.int x0), .val (.int x1), .val (.int x2), .val (.int (0 : Int32)), .val (.int ec), .val (.int gn), .val (.int cl), .val (.ref sp), .val (.ref b343), .val (.ref pp), .val (.ref g1), .unset] [(.ref pp), (.ref g1)])) X357 hx rfl rfl rfl (pc0 := 173) (pc' := 176) (same := false) rfl (hb hby at_173) rfl (decide_eq_false fun q => nepp1.symm (Value.ref.inj q)) (by decide) (by decide) k) ?_
            show own_Go p e below _ T357 (mkF m 176 #[.val (.int p1), .val (.int p2), .val (.int p3), .val (.int x0), .val (.int x1), .val (.int x2), .val (.int (0 : Int32)), .val (.int ec), .val (.int gn), .val (.int cl), .val (.ref sp), .val (.ref b343), .val (.ref pp), .val (.ref g1), .unset] [])
            refine own_by (fun _ k => XS.aload X357.here hx rfl (hb hby at_176) rfl rfl k) ?_
            show own_Go p e below _ T357 (mkF m 178 #[.val (.int p1), .val (.int p2), .val (.int p3), .val (.int x0), .val (.int x1), .val (.int x2), .val (.int (0 : Int32)), .val (.int ec), .val (.int gn), .val (.int cl), .val (.ref sp), .val (.ref b343), .val (.ref pp), .val (.ref g1), .unset] [(.ref g1)])
            refine own_by (fun _ k => XS.iload X357.here hx rfl (hb hby at_178) rfl k) ?_
            show own_Go p e below _ T357 (mkF m 180 #[.val (.int p1), .val (.int p2), .val (.int p3), .val (.int x0), .val (.int x1), .val (.int x2), .val (.int (0 : Int32)), .val (.int ec), .val (.int gn), .val (.int cl), .val (.ref sp), .val (.ref b343), .val (.ref pp), .val (.ref g1), .unset] [(.int (0 : Int32)), (.ref g1)])
            refine own_by (fun _ k => XS.iloadN X357.here hx rfl (hb hby at_180) rfl k) ?_
            show own_Go p e below _ T357 (mkF m 181 #[.val (.int p1), .val (.int p2), .val (.int p3), .val (.int x0), .val (.int x1), .val (.int x2), .val (.int (0 : Int32)), .val (.int ec), .val (.int gn), .val (.int cl), .val (.ref sp), .val (.ref b343), .val (.ref pp), .val (.ref g1), .unset] [(.int x0), (.int (0 : Int32)), (.ref g1)])
            refine own_by (fun _ k => XS.iload X357.here hx rfl (hb hby at_181) rfl k) ?_
            show own_Go p e below _ T357 (mkF m 183 #[.val (.int p1), .val (.int p2), .val (.int p3), .val (.int x0), .val (.int x1), .val (.int x2), .val (.int (0 : Int32)), .val (.int ec), .val (.int gn), .val (.int cl), .val (.ref sp), .val (.ref b343), .val (.ref pp), .val (.ref g1), .unset] [(.int x1), (.int x0), (.int (0 : Int32)), (.ref g1)])
            refine own_by (fun _ k => XS.iload X357.here hx rfl (hb hby at_183) rfl k) ?_
            show own_Go p e below _ T357 (mkF m 185 #[.val (.int p1), .val (.int p2), .val (.int p3), .val (.int x0), .val (.int x1), .val (.int x2), .val (.int (0 : Int32)), .val (.int ec), .val (.int gn), .val (.int cl), .val (.ref sp), .val (.ref b343), .val (.ref pp), .val (.ref g1), .unset] [(.int x2), (.int x1), (.int x0), (.int (0 : Int32)), (.ref g1)])
            obtain ⟨_, T358, L358, X358, ⟨rfl, N358q, e358⟩, st358⟩ := own_callS X357 hx hZ hown (y := (⟨"watchword/PasswordCallbackGetPasswordPinLaw", "same", "([CICCC)Z"⟩ : MethodName)) (hw _ (List.mem_of_getElem? (i := 71) rfl)) (hw _ (List.mem_of_getElem? (i := 72) rfl)) (hw _ (List.mem_of_getElem? (i := 46) rfl)) (hw _ (List.mem_of_getElem? (i := 73) rfl)) (by decide) (argsL := [(.ref g1), (.int (0 : Int32)), (.int x0), (.int x1), (.int x2)]) (rest := []) rfl (rm12_0 l Z a0 hw [] g1 kp x0 x1 x2 T357.heap n0 Z357 Vg1) (g := (mkF m 185 #[.val (.int p1), .val (.int p2), .val (.int p3), .val (.int x0), .val (.int x1), .val (.int x2), .val (.int (0 : Int32)), .val (.int ec), .val (.int gn), .val (.int cl), .val (.ref sp), .val (.ref b343), .val (.ref pp), .val (.ref g1), .unset] [(.int x2), (.int x1), (.int x0), (.int (0 : Int32)), (.ref g1)])) rfl (by rw [hml]; rfl) (lenOf pd_10 rfl) rfl (W := 0) (by show 2 * 0 + _ ≤ _; exact Nat.le_of_eq rfl) (hb hby at_185) (by decide) (by decide) (by decide) (by decide)
            have N358 := Fr.app N357 N358q
            refine own_by st358 ?_
            show own_Go p e below _ T358 (mkF m 188 #[.val (.int p1), .val (.int p2), .val (.int p3), .val (.int x0), .val (.int x1), .val (.int x2), .val (.int (0 : Int32)), .val (.int ec), .val (.int gn), .val (.int cl), .val (.ref sp), .val (.ref b343), .val (.ref pp), .val (.ref g1), .unset] [(.int (1 : Int32))])
            refine own_by (fun _ k => XS.ifYes X358.here hx rfl (pc0 := 188) (pc' := 193) rfl (hb hby at_188) rfl ((if0 _ _).trans (feq (by decide : ¬ ((1 : Int32) = (0 : Int32)))).2) (by decide) (by decide) k) ?_
            show own_Go p e below _ T358 (mkF m 193 #[.val (.int p1), .val (.int p2), .val (.int p3), .val (.int x0), .val (.int x1), .val (.int x2), .val (.int (0 : Int32)), .val (.int ec), .val (.int gn), .val (.int cl), .val (.ref sp), .val (.ref b343), .val (.ref pp), .val (.ref g1), .unset] [])
            refine own_by (fun _ k => XS.aload X358.here hx rfl (hb hby at_193) rfl rfl k) ?_
            show own_Go p e below _ T358 (mkF m 195 #[.val (.int p1), .val (.int p2), .val (.int p3), .val (.int x0), .val (.int x1), .val (.int x2), .val (.int (0 : Int32)), .val (.int ec), .val (.int gn), .val (.int cl), .val (.ref sp), .val (.ref b343), .val (.ref pp), .val (.ref g1), .unset] [(.ref g1)])
            have f359 := (f356.keep Kg1)
            have f360 := (f355.keep Kg1)
            obtain ⟨_, T361, L361, X361, ⟨rfl, N361q, Kf2⟩, st361⟩ := own_callS X358 hx hZ hown (y := (⟨"watchword/PasswordCallbackGetPasswordPinLaw", "flip", "([C)V"⟩ : MethodName)) (hw _ (List.mem_of_getElem? (i := 68) rfl)) (hw _ (List.mem_of_getElem? (i := 69) rfl)) (hw _ (List.mem_of_getElem? (i := 46) rfl)) (hw _ (List.mem_of_getElem? (i := 70) rfl)) (by decide) (argsL := [(.ref g1)]) (rest := []) e358 (rm11_0 l Z a0 hw [] g1 kp  T357.heap n0 Z357 og_g1 Vg1) (g := (mkF m 195 #[.val (.int p1), .val (.int p2), .val (.int p3), .val (.int x0), .val (.int x1), .val (.int x2), .val (.int (0 : Int32)), .val (.int ec), .val (.int gn), .val (.int cl), .val (.ref sp), .val (.ref b343), .val (.ref pp), .val (.ref g1), .unset] [(.ref g1)])) rfl (by rw [hml]; rfl) (lenOf pd_9 rfl) rfl (W := 0) (by show 2 * 0 + _ ≤ _; exact Nat.le_of_eq rfl) (hb hby at_195) (by decide) (by decide) (by decide) (by decide)
            have N361 := Fr.app N358 N361q
            refine own_by st361 ?_
            show own_Go p e below _ T361 (mkF m 198 #[.val (.int p1), .val (.int p2), .val (.int p3), .val (.int x0), .val (.int x1), .val (.int x2), .val (.int (0 : Int32)), .val (.int ec), .val (.int gn), .val (.int cl), .val (.ref sp), .val (.ref b343), .val (.ref pp), .val (.ref g1), .unset] [])
            have Z361 : n0 ≤ T361.heap.size := Nat.le_trans Z357 Kf2.1
            have lg1 : g1 < T361.heap.size := Nat.lt_of_lt_of_le Vg1.lt Kf2.1
            have lpp2 : pp < T361.heap.size := Nat.lt_of_lt_of_le lpp1 Kf2.1
            refine own_by (fun _ k => XS.aload X361.here hx rfl (hb hby at_198) rfl rfl k) ?_
            show own_Go p e below _ T361 (mkF m 200 #[.val (.int p1), .val (.int p2), .val (.int p3), .val (.int x0), .val (.int x1), .val (.int x2), .val (.int (0 : Int32)), .val (.int ec), .val (.int gn), .val (.int cl), .val (.ref sp), .val (.ref b343), .val (.ref pp), .val (.ref g1), .unset] [(.ref b343)])
            have f362 := ((f353.keep Kg1 nin0).keep Kf2 (ninS ne_b343_g1 nin0))
            have f363 := ((f354.keep Kg1 nin0).keep Kf2 (ninS ne_qq_g1 nin0))
            have f364 := (f360.keep Kf2)
            have f365 := (f359.keep Kf2)
            obtain ⟨_, T366, L366, X366, ⟨g2, rfl, N366q, Kg2, sg2, Eg2, Vg2⟩, st366⟩ := own_callV X361 hx hZ hown (y := (⟨"watchword/PasswordCallback", "getPassword", "()[C"⟩ : MethodName)) (C := "watchword/PasswordCallback") (hw _ (List.mem_of_getElem? (i := 37) rfl)) (hw _ (List.mem_of_getElem? (i := 38) rfl)) (hw _ (List.mem_of_getElem? (i := 40) rfl)) (hw _ (List.mem_of_getElem? (i := 39) rfl)) (hw _ (List.mem_of_getElem? (i := 28) rfl)) (hw _ (List.mem_of_getElem? (i := 41) rfl)) (by decide) (a := b343) f365 (argsL := []) (rest := []) rfl (rm7_0 l Z a0 hw [] b343 qq kp  T361.heap n0 Z361 f362 f363 f364) (g := (mkF m 200 #[.val (.int p1), .val (.int p2), .val (.int p3), .val (.int x0), .val (.int x1), .val (.int x2), .val (.int (0 : Int32)), .val (.int ec), .val (.int gn), .val (.int cl), .val (.ref sp), .val (.ref b343), .val (.ref pp), .val (.ref g1), .unset] [(.ref b343)])) rfl (by rw [hml]; rfl) (lenOf pd_7 rfl) rfl (W := 0) (by show 2 * 0 + _ ≤ _; exact Nat.le_of_eq rfl) (hb hby at_200) (by decide) (by decide) (by decide) (by decide)
            have N366 := Fr.app N361 N366q
            refine own_by st366 ?_
            show own_Go p e below _ T366 (mkF m 203 #[.val (.int p1), .val (.int p2), .val (.int p3), .val (.int x0), .val (.int x1), .val (.int x2), .val (.int (0 : Int32)), .val (.int ec), .val (.int gn), .val (.int cl), .val (.ref sp), .val (.ref b343), .val (.ref pp), .val (.ref g1), .unset] [(.ref g2)])
            have ne_b343_g2 : b343 ≠ g2 := Nat.ne_of_lt (Nat.lt_of_lt_of_le f365.lt sg2)
            have ne_qq_g2 : qq ≠ g2 := Nat.ne_of_lt (Nat.lt_of_lt_of_le f364.lt sg2)
            have og_g2 : n0 ≤ g2 := Nat.le_trans Z361 sg2
            have Z366 : n0 ≤ T366.heap.size := Nat.le_trans Z361 Kg2.1
            have neg2 : g1 ≠ g2 := Nat.ne_of_lt (Nat.lt_of_lt_of_le lg1 sg2)
            have nepp2 : pp ≠ g2 := Nat.ne_of_lt (Nat.lt_of_lt_of_le lpp2 sg2)
            refine own_by (fun _ k => XS.astore X366.here hx rfl (hb hby at_203) rfl rfl (l' := #[.val (.int p1), .val (.int p2), .val (.int p3), .val (.int x0), .val (.int x1), .val (.int x2), .val (.int (0 : Int32)), .val (.int ec), .val (.int gn), .val (.int cl), .val (.ref sp), .val (.ref b343), .val (.ref pp), .val (.ref g1), .val (.ref g2)]) rfl k) ?_
            show own_Go p e below _ T366 (mkF m 205 #[.val (.int p1), .val (.int p2), .val (.int p3), .val (.int x0), .val (.int x1), .val (.int x2), .val (.int (0 : Int32)), .val (.int ec), .val (.int gn), .val (.int cl), .val (.ref sp), .val (.ref b343), .val (.ref pp), .val (.ref g1), .val (.ref g2)] [])
            refine own_by (fun _ k => XS.aload X366.here hx rfl (hb hby at_205) rfl rfl k) ?_
            show own_Go p e below _ T366 (mkF m 207 #[.val (.int p1), .val (.int p2), .val (.int p3), .val (.int x0), .val (.int x1), .val (.int x2), .val (.int (0 : Int32)), .val (.int ec), .val (.int gn), .val (.int cl), .val (.ref sp), .val (.ref b343), .val (.ref pp), .val (.ref g1), .val (.ref g2)] [(.ref g2)])
            refine own_by (fun _ k => XS.ifnullNo X366.here hx rfl (hb hby at_207) rfl k) ?_
            show own_Go p e below _ T366 (mkF m 210 #[.val (.int p1), .val (.int p2), .val (.int p3), .val (.int x0), .val (.int x1), .val (.int x2), .val (.int (0 : Int32)), .val (.int ec), .val (.int gn), .val (.int cl), .val (.ref sp), .val (.ref b343), .val (.ref pp), .val (.ref g1), .val (.ref g2)] [])
            refine own_by (fun _ k => XS.aload X366.here hx rfl (hb hby at_210) rfl rfl k) ?_
            show own_Go p e below _ T366 (mkF m 212 #[.val (.int p1), .val (.int p2), .val (.int p3), .val (.int x0), .val (.int x1), .val (.int x2), .val (.int (0 : Int32)), .val (.int ec), .val (.int gn), .val (.int cl), .val (.ref sp), .val (.ref b343), .val (.ref pp), .val (.ref g1), .val (.ref g2)] [(.ref g2)])
            refine own_by (fun _ k => XS.aload X366.here hx rfl (hb hby at_212) rfl rfl k) ?_
            show own_Go p e below _ T366 (mkF m 214 #[.val (.int p1), .val (.int p2), .val (.int p3), .val (.int x0), .val (.int x1), .val (.int x2), .val (.int (0 : Int32)), .val (.int ec), .val (.int gn), .val (.int cl), .val (.ref sp), .val (.ref b343), .val (.ref pp), .val (.ref g1), .val (.ref g2)] [(.ref g1), (.ref g2)])
            refine own_by (fun _ k => Jvm.RoadKit.acmp (g := (mkF m 214 #[.val (.int p1), .val (.int p2), .val (.int p3), .val (.int x0), .val (.int x1), .val (.int x2), .val (.int (0 : Int32)), .val (.int ec), .val (.int gn), .val (.int cl), .val (.ref sp), .val (.ref b343), .val (.ref pp), .val (.ref g1), .val (.ref g2)] [(.ref g1), (.ref g2)])) X366 hx rfl rfl rfl (pc0 := 214) (pc' := 217) (same := false) rfl (hb hby at_214) rfl (decide_eq_false fun q => neg2.symm (Value.ref.inj q)) (by decide) (by decide) k) ?_
            show own_Go p e below _ T366 (mkF m 217 #[.val (.int p1), .val (.int p2), .val (.int p3), .val (.int x0), .val (.int x1), .val (.int x2), .val (.int (0 : Int32)), .val (.int ec), .val (.int gn), .val (.int cl), .val (.ref sp), .val (.ref b343), .val (.ref pp), .val (.ref g1), .val (.ref g2)] [])
            refine own_by (fun _ k => XS.aload X366.here hx rfl (hb hby at_217) rfl rfl k) ?_
            show own_Go p e below _ T366 (mkF m 219 #[.val (.int p1), .val (.int p2), .val (.int p3), .val (.int x0), .val (.int x1), .val (.int x2), .val (.int (0 : Int32)), .val (.int ec), .val (.int gn), .val (.int cl), .val (.ref sp), .val (.ref b343), .val (.ref pp), .val (.ref g1), .val (.ref g2)] [(.ref g2)])
            refine own_by (fun _ k => XS.aload X366.here hx rfl (hb hby at_219) rfl rfl k) ?_
            show own_Go p e below _ T366 (mkF m 221 #[.val (.int p1), .val (.int p2), .val (.int p3), .val (.int x0), .val (.int x1), .val (.int x2), .val (.int (0 : Int32)), .val (.int ec), .val (.int gn), .val (.int cl), .val (.ref sp), .val (.ref b343), .val (.ref pp), .val (.ref g1), .val (.ref g2)] [(.ref pp), (.ref g2)])
            refine own_by (fun _ k => Jvm.RoadKit.acmp (g := (mkF m 221 #[.val (.int p1), .val (.int p2), .val (.int p3), .val (.int x0), .val (.int x1), .val (.int x2), .val (.int (0 : Int32)), .val (.int ec), .val (.int gn), .val (.int cl), .val (.ref sp), .val (.ref b343), .val (.ref pp), .val (.ref g1), .val (.ref g2)] [(.ref pp), (.ref g2)])) X366 hx rfl rfl rfl (pc0 := 221) (pc' := 224) (same := false) rfl (hb hby at_221) rfl (decide_eq_false fun q => nepp2.symm (Value.ref.inj q)) (by decide) (by decide) k) ?_
            show own_Go p e below _ T366 (mkF m 224 #[.val (.int p1), .val (.int p2), .val (.int p3), .val (.int x0), .val (.int x1), .val (.int x2), .val (.int (0 : Int32)), .val (.int ec), .val (.int gn), .val (.int cl), .val (.ref sp), .val (.ref b343), .val (.ref pp), .val (.ref g1), .val (.ref g2)] [])
            refine own_by (fun _ k => XS.aload X366.here hx rfl (hb hby at_224) rfl rfl k) ?_
            show own_Go p e below _ T366 (mkF m 226 #[.val (.int p1), .val (.int p2), .val (.int p3), .val (.int x0), .val (.int x1), .val (.int x2), .val (.int (0 : Int32)), .val (.int ec), .val (.int gn), .val (.int cl), .val (.ref sp), .val (.ref b343), .val (.ref pp), .val (.ref g1), .val (.ref g2)] [(.ref g2)])
            refine own_by (fun _ k => XS.iload X366.here hx rfl (hb hby at_226) rfl k) ?_
            show own_Go p e below _ T366 (mkF m 228 #[.val (.int p1), .val (.int p2), .val (.int p3), .val (.int x0), .val (.int x1), .val (.int x2), .val (.int (0 : Int32)), .val (.int ec), .val (.int gn), .val (.int cl), .val (.ref sp), .val (.ref b343), .val (.ref pp), .val (.ref g1), .val (.ref g2)] [(.int (0 : Int32)), (.ref g2)])
            refine own_by (fun _ k => XS.iloadN X366.here hx rfl (hb hby at_228) rfl k) ?_
            show own_Go p e below _ T366 (mkF m 229 #[.val (.int p1), .val (.int p2), .val (.int p3), .val (.int x0), .val (.int x1), .val (.int x2), .val (.int (0 : Int32)), .val (.int ec), .val (.int gn), .val (.int cl), .val (.ref sp), .val (.ref b343), .val (.ref pp), .val (.ref g1), .val (.ref g2)] [(.int x0), (.int (0 : Int32)), (.ref g2)])
            refine own_by (fun _ k => XS.iload X366.here hx rfl (hb hby at_229) rfl k) ?_
            show own_Go p e below _ T366 (mkF m 231 #[.val (.int p1), .val (.int p2), .val (.int p3), .val (.int x0), .val (.int x1), .val (.int x2), .val (.int (0 : Int32)), .val (.int ec), .val (.int gn), .val (.int cl), .val (.ref sp), .val (.ref b343), .val (.ref pp), .val (.ref g1), .val (.ref g2)] [(.int x1), (.int x0), (.int (0 : Int32)), (.ref g2)])
            refine own_by (fun _ k => XS.iload X366.here hx rfl (hb hby at_231) rfl k) ?_
            show own_Go p e below _ T366 (mkF m 233 #[.val (.int p1), .val (.int p2), .val (.int p3), .val (.int x0), .val (.int x1), .val (.int x2), .val (.int (0 : Int32)), .val (.int ec), .val (.int gn), .val (.int cl), .val (.ref sp), .val (.ref b343), .val (.ref pp), .val (.ref g1), .val (.ref g2)] [(.int x2), (.int x1), (.int x0), (.int (0 : Int32)), (.ref g2)])
            obtain ⟨_, T367, L367, X367, ⟨rfl, N367q, e367⟩, st367⟩ := own_callS X366 hx hZ hown (y := (⟨"watchword/PasswordCallbackGetPasswordPinLaw", "same", "([CICCC)Z"⟩ : MethodName)) (hw _ (List.mem_of_getElem? (i := 71) rfl)) (hw _ (List.mem_of_getElem? (i := 72) rfl)) (hw _ (List.mem_of_getElem? (i := 46) rfl)) (hw _ (List.mem_of_getElem? (i := 73) rfl)) (by decide) (argsL := [(.ref g2), (.int (0 : Int32)), (.int x0), (.int x1), (.int x2)]) (rest := []) rfl (rm12_0 l Z a0 hw [] g2 kp x0 x1 x2 T366.heap n0 Z366 Vg2) (g := (mkF m 233 #[.val (.int p1), .val (.int p2), .val (.int p3), .val (.int x0), .val (.int x1), .val (.int x2), .val (.int (0 : Int32)), .val (.int ec), .val (.int gn), .val (.int cl), .val (.ref sp), .val (.ref b343), .val (.ref pp), .val (.ref g1), .val (.ref g2)] [(.int x2), (.int x1), (.int x0), (.int (0 : Int32)), (.ref g2)])) rfl (by rw [hml]; rfl) (lenOf pd_10 rfl) rfl (W := 0) (by show 2 * 0 + _ ≤ _; exact Nat.le_of_eq rfl) (hb hby at_233) (by decide) (by decide) (by decide) (by decide)
            have N367 := Fr.app N366 N367q
            refine own_by st367 ?_
            show own_Go p e below _ T367 (mkF m 236 #[.val (.int p1), .val (.int p2), .val (.int p3), .val (.int x0), .val (.int x1), .val (.int x2), .val (.int (0 : Int32)), .val (.int ec), .val (.int gn), .val (.int cl), .val (.ref sp), .val (.ref b343), .val (.ref pp), .val (.ref g1), .val (.ref g2)] [(.int (1 : Int32))])
            refine own_by (fun _ k => XS.ifYes X367.here hx rfl (pc0 := 236) (pc' := 241) rfl (hb hby at_236) rfl ((if0 _ _).trans (feq (by decide : ¬ ((1 : Int32) = (0 : Int32)))).2) (by decide) (by decide) k) ?_
            show own_Go p e below _ T367 (mkF m 241 #[.val (.int p1), .val (.int p2), .val (.int p3), .val (.int x0), .val (.int x1), .val (.int x2), .val (.int (0 : Int32)), .val (.int ec), .val (.int gn), .val (.int cl), .val (.ref sp), .val (.ref b343), .val (.ref pp), .val (.ref g1), .val (.ref g2)] [])
            refine own_by (fun _ k => XS.iload X367.here hx rfl (hb hby at_241) rfl k) ?_
            show own_Go p e below _ T367 (mkF m 243 #[.val (.int p1), .val (.int p2), .val (.int p3), .val (.int x0), .val (.int x1), .val (.int x2), .val (.int (0 : Int32)), .val (.int ec), .val (.int gn), .val (.int cl), .val (.ref sp), .val (.ref b343), .val (.ref pp), .val (.ref g1), .val (.ref g2)] [(.int cl)])
            by_cases hcl : cl = (0 : Int32)
            · refine own_by (fun _ k => XS.ifYes X367.here hx rfl (pc0 := 243) (pc' := 261) rfl (hb hby at_243) rfl ((if0 _ _).trans (teq (hcl : cl = (0 : Int32))).1) (by decide) (by decide) k) ?_
              show own_Go p e below _ T367 (mkF m 261 #[.val (.int p1), .val (.int p2), .val (.int p3), .val (.int x0), .val (.int x1), .val (.int x2), .val (.int (0 : Int32)), .val (.int ec), .val (.int gn), .val (.int cl), .val (.ref sp), .val (.ref b343), .val (.ref pp), .val (.ref g1), .val (.ref g2)] [])
              refine own_by (fun _ k => XS.iconst X367.here hx rfl (hb hby at_261) k) ?_
              show own_Go p e below _ T367 (mkF m 262 #[.val (.int p1), .val (.int p2), .val (.int p3), .val (.int x0), .val (.int x1), .val (.int x2), .val (.int (0 : Int32)), .val (.int ec), .val (.int gn), .val (.int cl), .val (.ref sp), .val (.ref b343), .val (.ref pp), .val (.ref g1), .val (.ref g2)] [(.int (1 : Int32))])
              exact own_retN X367 hx hlk hret (by simp) rfl (hb hby at_262) (by first | exact ⟨rfl, N367⟩ | (rw [e367]; exact ⟨rfl, N367⟩)) (by decide) (by decide)
            · refine own_by (fun _ k => XS.ifNo X367.here hx rfl (hb hby at_243) rfl ((if0 _ _).trans (feq (hcl : ¬ (cl = (0 : Int32)))).1) k) ?_
              show own_Go p e below _ T367 (mkF m 246 #[.val (.int p1), .val (.int p2), .val (.int p3), .val (.int x0), .val (.int x1), .val (.int x2), .val (.int (0 : Int32)), .val (.int ec), .val (.int gn), .val (.int cl), .val (.ref sp), .val (.ref b343), .val (.ref pp), .val (.ref g1), .val (.ref g2)] [])
              refine own_by (fun _ k => XS.aload X367.here hx rfl (hb hby at_246) rfl rfl k) ?_
              show own_Go p e below _ T367 (mkF m 248 #[.val (.int p1), .val (.int p2), .val (.int p3), .val (.int x0), .val (.int x1), .val (.int x2), .val (.int (0 : Int32)), .val (.int ec), .val (.int gn), .val (.int cl), .val (.ref sp), .val (.ref b343), .val (.ref pp), .val (.ref g1), .val (.ref g2)] [(.ref b343)])
              have f368 := (f365.keep Kg2)
              have f369 := (f362.keep Kg2 nin0)
              have f370 := (f363.keep Kg2 nin0)
              have f371 := (f364.keep Kg2)
              obtain ⟨_, T372, L372, X372, ⟨rfl, N372q, Kc, Ec, Fc⟩, st372⟩ := own_callV X367 hx hZ hown (y := (⟨"watchword/PasswordCallback", "clearPassword", "()V"⟩ : MethodName)) (C := "watchword/PasswordCallback") (hw _ (List.mem_of_getElem? (i := 78) rfl)) (hw _ (List.mem_of_getElem? (i := 55) rfl)) (hw _ (List.mem_of_getElem? (i := 57) rfl)) (hw _ (List.mem_of_getElem? (i := 56) rfl)) (hw _ (List.mem_of_getElem? (i := 28) rfl)) (hw _ (List.mem_of_getElem? (i := 58) rfl)) (by decide) (a := b343) f368 (argsL := []) (rest := []) e367 (rm10_0 l Z a0 hw [] b343 qq kp  T366.heap n0 Z366 og_b343 og_qq ne_b343_qq f368 f369 f370) (g := (mkF m 248 #[.val (.int p1), .val (.int p2), .val (.int p3), .val (.int x0), .val (.int x1), .val (.int x2), .val (.int (0 : Int32)), .val (.int ec), .val (.int gn), .val (.int cl), .val (.ref sp), .val (.ref b343), .val (.ref pp), .val (.ref g1), .val (.ref g2)] [(.ref b343)])) rfl (by rw [hml]; rfl) (lenOf pd_4 rfl) rfl (W := 0) (by show 2 * 0 + _ ≤ _; exact Nat.le_of_eq rfl) (hb hby at_248) (by decide) (by decide) (by decide) (by decide)
              have N372 := Fr.app N367 N372q
              refine own_by st372 ?_
              show own_Go p e below _ T372 (mkF m 251 #[.val (.int p1), .val (.int p2), .val (.int p3), .val (.int x0), .val (.int x1), .val (.int x2), .val (.int (0 : Int32)), .val (.int ec), .val (.int gn), .val (.int cl), .val (.ref sp), .val (.ref b343), .val (.ref pp), .val (.ref g1), .val (.ref g2)] [])
              have Z372 : n0 ≤ T372.heap.size := Nat.le_trans Z366 Kc.1
              refine own_by (fun _ k => XS.aload X372.here hx rfl (hb hby at_251) rfl rfl k) ?_
              show own_Go p e below _ T372 (mkF m 253 #[.val (.int p1), .val (.int p2), .val (.int p3), .val (.int x0), .val (.int x1), .val (.int x2), .val (.int (0 : Int32)), .val (.int ec), .val (.int gn), .val (.int cl), .val (.ref sp), .val (.ref b343), .val (.ref pp), .val (.ref g1), .val (.ref g2)] [(.ref b343)])
              obtain ⟨_, T373, L373, X373, ⟨rfl, N373q, e373⟩, st373⟩ := own_callV X372 hx hZ hown (y := (⟨"watchword/PasswordCallback", "getPassword", "()[C"⟩ : MethodName)) (C := "watchword/PasswordCallback") (hw _ (List.mem_of_getElem? (i := 37) rfl)) (hw _ (List.mem_of_getElem? (i := 38) rfl)) (hw _ (List.mem_of_getElem? (i := 40) rfl)) (hw _ (List.mem_of_getElem? (i := 39) rfl)) (hw _ (List.mem_of_getElem? (i := 28) rfl)) (hw _ (List.mem_of_getElem? (i := 41) rfl)) (by decide) (a := b343) Ec (argsL := []) (rest := []) rfl (rm7z l Z a0 hw [] b343 T372.heap n0 Z372 Fc) (g := (mkF m 253 #[.val (.int p1), .val (.int p2), .val (.int p3), .val (.int x0), .val (.int x1), .val (.int x2), .val (.int (0 : Int32)), .val (.int ec), .val (.int gn), .val (.int cl), .val (.ref sp), .val (.ref b343), .val (.ref pp), .val (.ref g1), .val (.ref g2)] [(.ref b343)])) rfl (by rw [hml]; rfl) (lenOf pd_7 rfl) rfl (W := 0) (by show 2 * 0 + _ ≤ _; exact Nat.le_of_eq rfl) (hb hby at_253) (by decide) (by decide) (by decide) (by decide)
              have N373 := Fr.app N372 N373q
              refine own_by st373 ?_
              show own_Go p e below _ T373 (mkF m 256 #[.val (.int p1), .val (.int p2), .val (.int p3), .val (.int x0), .val (.int x1), .val (.int x2), .val (.int (0 : Int32)), .val (.int ec), .val (.int gn), .val (.int cl), .val (.ref sp), .val (.ref b343), .val (.ref pp), .val (.ref g1), .val (.ref g2)] [.null])
              refine own_by (fun _ k => XS.ifnullYes X373.here hx rfl (pc0 := 256) (pc' := 261) rfl (hb hby at_256) rfl (by decide) (by decide) k) ?_
              show own_Go p e below _ T373 (mkF m 261 #[.val (.int p1), .val (.int p2), .val (.int p3), .val (.int x0), .val (.int x1), .val (.int x2), .val (.int (0 : Int32)), .val (.int ec), .val (.int gn), .val (.int cl), .val (.ref sp), .val (.ref b343), .val (.ref pp), .val (.ref g1), .val (.ref g2)] [])
              refine own_by (fun _ k => XS.iconst X373.here hx rfl (hb hby at_261) k) ?_
              show own_Go p e below _ T373 (mkF m 262 #[.val (.int p1), .val (.int p2), .val (.int p3), .val (.int x0), .val (.int x1), .val (.int x2), .val (.int (0 : Int32)), .val (.int ec), .val (.int gn), .val (.int cl), .val (.ref sp), .val (.ref b343), .val (.ref pp), .val (.ref g1), .val (.ref g2)] [(.int (1 : Int32))])
              exact own_retN X373 hx hlk hret (by simp) rfl (hb hby at_262) (by first | exact ⟨rfl, N373⟩ | (rw [e373]; exact ⟨rfl, N373⟩)) (by decide) (by decide)
          · refine own_by (fun _ k => XS.ifNo X346.here hx rfl (hb hby at_115) rfl ((if0 _ _).trans (feq (hgn : ¬ (gn = (0 : Int32)))).1) k) ?_
            show own_Go p e below _ T346 (mkF m 118 #[.val (.int p1), .val (.int p2), .val (.int p3), .val (.int x0), .val (.int x1), .val (.int x2), .val (.int (0 : Int32)), .val (.int ec), .val (.int gn), .val (.int cl), .val (.ref sp), .val (.ref b343), .val (.ref pp), .unset, .unset] [])
            refine own_by (fun _ k => XS.aload X346.here hx rfl (hb hby at_118) rfl rfl k) ?_
            show own_Go p e below _ T346 (mkF m 120 #[.val (.int p1), .val (.int p2), .val (.int p3), .val (.int x0), .val (.int x1), .val (.int x2), .val (.int (0 : Int32)), .val (.int ec), .val (.int gn), .val (.int cl), .val (.ref sp), .val (.ref b343), .val (.ref pp), .unset, .unset] [(.ref b343)])
            refine own_by (fun _ k => XS.aload X346.here hx rfl (hb hby at_120) rfl rfl k) ?_
            show own_Go p e below _ T346 (mkF m 122 #[.val (.int p1), .val (.int p2), .val (.int p3), .val (.int x0), .val (.int x1), .val (.int x2), .val (.int (0 : Int32)), .val (.int ec), .val (.int gn), .val (.int cl), .val (.ref sp), .val (.ref b343), .val (.ref pp), .unset, .unset] [(.ref pp), (.ref b343)])
            have f374 := (Ei.keep Kp)
            have f375 := (Fi.keep Kp nin0)
            obtain ⟨_, T376, L376, X376, ⟨qq, rfl, N376q, Kqb, sqb, Ecb, Fcb, Eqq, Vqq⟩, st376⟩ := own_callV X346 hx hZ hown (y := (⟨"watchword/PasswordCallback", "setPassword", "([C)V"⟩ : MethodName)) (C := "watchword/PasswordCallback") (hw _ (List.mem_of_getElem? (i := 49) rfl)) (hw _ (List.mem_of_getElem? (i := 50) rfl)) (hw _ (List.mem_of_getElem? (i := 52) rfl)) (hw _ (List.mem_of_getElem? (i := 51) rfl)) (hw _ (List.mem_of_getElem? (i := 28) rfl)) (hw _ (List.mem_of_getElem? (i := 53) rfl)) (by decide) (a := b343) f374 (argsL := [(.ref pp)]) (rest := []) rfl (rm9_0 l Z a0 hw [] b343 pp kp  T346.heap n0 Z346 og_b343 f374 f375 Vp Ep) (g := (mkF m 122 #[.val (.int p1), .val (.int p2), .val (.int p3), .val (.int x0), .val (.int x1), .val (.int x2), .val (.int (0 : Int32)), .val (.int ec), .val (.int gn), .val (.int cl), .val (.ref sp), .val (.ref b343), .val (.ref pp), .unset, .unset] [(.ref pp), (.ref b343)])) rfl (by rw [hml]; rfl) (lenOf pd_9 rfl) rfl (W := 0) (by show 2 * 0 + _ ≤ _; exact Nat.le_of_eq rfl) (hb hby at_122) (by decide) (by decide) (by decide) (by decide)
            have N376 := Fr.app N346 N376q
            refine own_by st376 ?_
            show own_Go p e below _ T376 (mkF m 125 #[.val (.int p1), .val (.int p2), .val (.int p3), .val (.int x0), .val (.int x1), .val (.int x2), .val (.int (0 : Int32)), .val (.int ec), .val (.int gn), .val (.int cl), .val (.ref sp), .val (.ref b343), .val (.ref pp), .unset, .unset] [])
            have ne_b343_qq : b343 ≠ qq := Nat.ne_of_lt (Nat.lt_of_lt_of_le f374.lt sqb)
            have ne_pp_qq : pp ≠ qq := Nat.ne_of_lt (Nat.lt_of_lt_of_le Ep.lt sqb)
            have og_qq : n0 ≤ qq := Nat.le_trans Z346 sqb
            have Z376 : n0 ≤ T376.heap.size := Nat.le_trans Z346 Kqb.1
            refine own_by (fun _ k => XS.aload X376.here hx rfl (hb hby at_125) rfl rfl k) ?_
            show own_Go p e below _ T376 (mkF m 127 #[.val (.int p1), .val (.int p2), .val (.int p3), .val (.int x0), .val (.int x1), .val (.int x2), .val (.int (0 : Int32)), .val (.int ec), .val (.int gn), .val (.int cl), .val (.ref sp), .val (.ref b343), .val (.ref pp), .unset, .unset] [(.ref b343)])
            refine own_by (fun _ k => XS.aconstNull X376.here hx rfl (hb hby at_127) k) ?_
            show own_Go p e below _ T376 (mkF m 128 #[.val (.int p1), .val (.int p2), .val (.int p3), .val (.int x0), .val (.int x1), .val (.int x2), .val (.int (0 : Int32)), .val (.int ec), .val (.int gn), .val (.int cl), .val (.ref sp), .val (.ref b343), .val (.ref pp), .unset, .unset] [.null, (.ref b343)])
            have f377 := (Ep.keep Kqb)
            obtain ⟨_, T378, L378, X378, ⟨rfl, N378q, Kc, Ec, Fc⟩, st378⟩ := own_callV X376 hx hZ hown (y := (⟨"watchword/PasswordCallback", "setPassword", "([C)V"⟩ : MethodName)) (C := "watchword/PasswordCallback") (hw _ (List.mem_of_getElem? (i := 49) rfl)) (hw _ (List.mem_of_getElem? (i := 50) rfl)) (hw _ (List.mem_of_getElem? (i := 52) rfl)) (hw _ (List.mem_of_getElem? (i := 51) rfl)) (hw _ (List.mem_of_getElem? (i := 28) rfl)) (hw _ (List.mem_of_getElem? (i := 53) rfl)) (by decide) (a := b343) Ecb (argsL := [.null]) (rest := []) rfl (rm9n_0 l Z a0 hw [] b343 qq kp  T376.heap n0 Z376 og_b343 og_qq ne_b343_qq Ecb Fcb Vqq) (g := (mkF m 128 #[.val (.int p1), .val (.int p2), .val (.int p3), .val (.int x0), .val (.int x1), .val (.int x2), .val (.int (0 : Int32)), .val (.int ec), .val (.int gn), .val (.int cl), .val (.ref sp), .val (.ref b343), .val (.ref pp), .unset, .unset] [.null, (.ref b343)])) rfl (by rw [hml]; rfl) (lenOf pd_9 rfl) rfl (W := 0) (by show 2 * 0 + _ ≤ _; exact Nat.le_of_eq rfl) (hb hby at_128) (by decide) (by decide) (by decide) (by decide)
            have N378 := Fr.app N376 N378q
            refine own_by st378 ?_
            show own_Go p e below _ T378 (mkF m 131 #[.val (.int p1), .val (.int p2), .val (.int p3), .val (.int x0), .val (.int x1), .val (.int x2), .val (.int (0 : Int32)), .val (.int ec), .val (.int gn), .val (.int cl), .val (.ref sp), .val (.ref b343), .val (.ref pp), .unset, .unset] [])
            have Z378 : n0 ≤ T378.heap.size := Nat.le_trans Z376 Kc.1
            refine own_by (fun _ k => XS.aload X378.here hx rfl (hb hby at_131) rfl rfl k) ?_
            show own_Go p e below _ T378 (mkF m 133 #[.val (.int p1), .val (.int p2), .val (.int p3), .val (.int x0), .val (.int x1), .val (.int x2), .val (.int (0 : Int32)), .val (.int ec), .val (.int gn), .val (.int cl), .val (.ref sp), .val (.ref b343), .val (.ref pp), .unset, .unset] [(.ref b343)])
            obtain ⟨_, T379, L379, X379, ⟨rfl, N379q, e379⟩, st379⟩ := own_callV X378 hx hZ hown (y := (⟨"watchword/PasswordCallback", "getPassword", "()[C"⟩ : MethodName)) (C := "watchword/PasswordCallback") (hw _ (List.mem_of_getElem? (i := 37) rfl)) (hw _ (List.mem_of_getElem? (i := 38) rfl)) (hw _ (List.mem_of_getElem? (i := 40) rfl)) (hw _ (List.mem_of_getElem? (i := 39) rfl)) (hw _ (List.mem_of_getElem? (i := 28) rfl)) (hw _ (List.mem_of_getElem? (i := 41) rfl)) (by decide) (a := b343) Ec (argsL := []) (rest := []) rfl (rm7z l Z a0 hw [] b343 T378.heap n0 Z378 Fc) (g := (mkF m 133 #[.val (.int p1), .val (.int p2), .val (.int p3), .val (.int x0), .val (.int x1), .val (.int x2), .val (.int (0 : Int32)), .val (.int ec), .val (.int gn), .val (.int cl), .val (.ref sp), .val (.ref b343), .val (.ref pp), .unset, .unset] [(.ref b343)])) rfl (by rw [hml]; rfl) (lenOf pd_7 rfl) rfl (W := 0) (by show 2 * 0 + _ ≤ _; exact Nat.le_of_eq rfl) (hb hby at_133) (by decide) (by decide) (by decide) (by decide)
            have N379 := Fr.app N378 N379q
            refine own_by st379 ?_
            show own_Go p e below _ T379 (mkF m 136 #[.val (.int p1), .val (.int p2), .val (.int p3), .val (.int x0), .val (.int x1), .val (.int x2), .val (.int (0 : Int32)), .val (.int ec), .val (.int gn), .val (.int cl), .val (.ref sp), .val (.ref b343), .val (.ref pp), .unset, .unset] [.null])
            refine own_by (fun _ k => XS.ifnonnullNo X379.here hx rfl (hb hby at_136) rfl k) ?_
            show own_Go p e below _ T379 (mkF m 139 #[.val (.int p1), .val (.int p2), .val (.int p3), .val (.int x0), .val (.int x1), .val (.int x2), .val (.int (0 : Int32)), .val (.int ec), .val (.int gn), .val (.int cl), .val (.ref sp), .val (.ref b343), .val (.ref pp), .unset, .unset] [])
            refine own_by (fun _ k => XS.iconst X379.here hx rfl (hb hby at_139) k) ?_
            show own_Go p e below _ T379 (mkF m 140 #[.val (.int p1), .val (.int p2), .val (.int p3), .val (.int x0), .val (.int x1), .val (.int x2), .val (.int (0 : Int32)), .val (.int ec), .val (.int gn), .val (.int cl), .val (.ref sp), .val (.ref b343), .val (.ref pp), .unset, .unset] [(.int (1 : Int32))])
            refine own_by (fun _ k => XS.goto X379.here hx rfl (pc0 := 140) (pc' := 144) rfl (hb hby at_140) (by decide) (by decide) k) ?_
            show own_Go p e below _ T379 (mkF m 144 #[.val (.int p1), .val (.int p2), .val (.int p3), .val (.int x0), .val (.int x1), .val (.int x2), .val (.int (0 : Int32)), .val (.int ec), .val (.int gn), .val (.int cl), .val (.ref sp), .val (.ref b343), .val (.ref pp), .unset, .unset] [(.int (1 : Int32))])
            exact own_retN X379 hx hlk hret (by simp) rfl (hb hby at_144) (by first | exact ⟨rfl, N379⟩ | (rw [e379]; exact ⟨rfl, N379⟩)) (by decide) (by decide)
        · show own_Go p e below _ T345 (mkF m 108 #[.val (.int p1), .val (.int p2), .val (.int p3), .val (.int x0), .val (.int x1), .val (.int x2), .val (.int (p3 &&& (3 : Int32))), .val (.int ec), .val (.int gn), .val (.int cl), .val (.ref sp), .val (.ref b343), .unset, .unset, .unset] [(.int x2), (.int x1), (.int x0), (.int (p3 &&& (3 : Int32)))])
          rw [hk]
          show own_Go p e below _ T345 (mkF m 108 #[.val (.int p1), .val (.int p2), .val (.int p3), .val (.int x0), .val (.int x1), .val (.int x2), .val (.int (1 : Int32)), .val (.int ec), .val (.int gn), .val (.int cl), .val (.ref sp), .val (.ref b343), .unset, .unset, .unset] [(.int x2), (.int x1), (.int x0), (.int (1 : Int32))])
          obtain ⟨_, T380, L380, X380, ⟨pp, kp, rfl, N380q, Kp, sp', Ep, Vp⟩, st380⟩ := own_callS X345 hx hZ hown (y := (⟨"watchword/PasswordCallbackGetPasswordPinLaw", "make", "(ICCC)[C"⟩ : MethodName)) (hw _ (List.mem_of_getElem? (i := 44) rfl)) (hw _ (List.mem_of_getElem? (i := 45) rfl)) (hw _ (List.mem_of_getElem? (i := 46) rfl)) (hw _ (List.mem_of_getElem? (i := 47) rfl)) (by decide) (argsL := [(.int (1 : Int32)), (.int x0), (.int x1), (.int x2)]) (rest := []) e345 (rm8_1 l Z a0 hw [] x0 x1 x2 T344.heap n0 Z344 hn0 hn1 hn2) (g := (mkF m 108 #[.val (.int p1), .val (.int p2), .val (.int p3), .val (.int x0), .val (.int x1), .val (.int x2), .val (.int (1 : Int32)), .val (.int ec), .val (.int gn), .val (.int cl), .val (.ref sp), .val (.ref b343), .unset, .unset, .unset] [(.int x2), (.int x1), (.int x0), (.int (1 : Int32))])) rfl (by rw [hml]; rfl) (lenOf pd_8 rfl) rfl (W := 0) (by show 2 * 0 + _ ≤ _; exact Nat.le_of_eq rfl) (hb hby at_108) (by decide) (by decide) (by decide) (by decide)
          have N380 := Fr.app N345 N380q
          refine own_by st380 ?_
          show own_Go p e below _ T380 (mkF m 111 #[.val (.int p1), .val (.int p2), .val (.int p3), .val (.int x0), .val (.int x1), .val (.int x2), .val (.int (1 : Int32)), .val (.int ec), .val (.int gn), .val (.int cl), .val (.ref sp), .val (.ref b343), .unset, .unset, .unset] [(.ref pp)])
          have ne_b343_pp : b343 ≠ pp := Nat.ne_of_lt (Nat.lt_of_lt_of_le Ei.lt sp')
          have og_pp : n0 ≤ pp := Nat.le_trans Z344 sp'
          have Z380 : n0 ≤ T380.heap.size := Nat.le_trans Z344 Kp.1
          refine own_by (fun _ k => XS.astore X380.here hx rfl (hb hby at_111) rfl rfl (l' := #[.val (.int p1), .val (.int p2), .val (.int p3), .val (.int x0), .val (.int x1), .val (.int x2), .val (.int (1 : Int32)), .val (.int ec), .val (.int gn), .val (.int cl), .val (.ref sp), .val (.ref b343), .val (.ref pp), .unset, .unset]) rfl k) ?_
          show own_Go p e below _ T380 (mkF m 113 #[.val (.int p1), .val (.int p2), .val (.int p3), .val (.int x0), .val (.int x1), .val (.int x2), .val (.int (1 : Int32)), .val (.int ec), .val (.int gn), .val (.int cl), .val (.ref sp), .val (.ref b343), .val (.ref pp), .unset, .unset] [])
          refine own_by (fun _ k => XS.iload X380.here hx rfl (hb hby at_113) rfl k) ?_
          show own_Go p e below _ T380 (mkF m 115 #[.val (.int p1), .val (.int p2), .val (.int p3), .val (.int x0), .val (.int x1), .val (.int x2), .val (.int (1 : Int32)), .val (.int ec), .val (.int gn), .val (.int cl), .val (.ref sp), .val (.ref b343), .val (.ref pp), .unset, .unset] [(.int gn)])
          by_cases hgn : gn = (0 : Int32)
          · refine own_by (fun _ k => XS.ifYes X380.here hx rfl (pc0 := 115) (pc' := 145) rfl (hb hby at_115) rfl ((if0 _ _).trans (teq (hgn : gn = (0 : Int32))).1) (by decide) (by decide) k) ?_
            show own_Go p e below _ T380 (mkF m 145 #[.val (.int p1), .val (.int p2), .val (.int p3), .val (.int x0), .val (.int x1), .val (.int x2), .val (.int (1 : Int32)), .val (.int ec), .val (.int gn), .val (.int cl), .val (.ref sp), .val (.ref b343), .val (.ref pp), .unset, .unset] [])
            refine own_by (fun _ k => XS.aload X380.here hx rfl (hb hby at_145) rfl rfl k) ?_
            show own_Go p e below _ T380 (mkF m 147 #[.val (.int p1), .val (.int p2), .val (.int p3), .val (.int x0), .val (.int x1), .val (.int x2), .val (.int (1 : Int32)), .val (.int ec), .val (.int gn), .val (.int cl), .val (.ref sp), .val (.ref b343), .val (.ref pp), .unset, .unset] [(.ref b343)])
            refine own_by (fun _ k => XS.aload X380.here hx rfl (hb hby at_147) rfl rfl k) ?_
            show own_Go p e below _ T380 (mkF m 149 #[.val (.int p1), .val (.int p2), .val (.int p3), .val (.int x0), .val (.int x1), .val (.int x2), .val (.int (1 : Int32)), .val (.int ec), .val (.int gn), .val (.int cl), .val (.ref sp), .val (.ref b343), .val (.ref pp), .unset, .unset] [(.ref pp), (.ref b343)])
            have f381 := (Ei.keep Kp)
            have f382 := (Fi.keep Kp nin0)
            obtain ⟨_, T383, L383, X383, ⟨qq, rfl, N383q, Kqb, sqb, Ecb, Fcb, Eqq, Vqq⟩, st383⟩ := own_callV X380 hx hZ hown (y := (⟨"watchword/PasswordCallback", "setPassword", "([C)V"⟩ : MethodName)) (C := "watchword/PasswordCallback") (hw _ (List.mem_of_getElem? (i := 49) rfl)) (hw _ (List.mem_of_getElem? (i := 50) rfl)) (hw _ (List.mem_of_getElem? (i := 52) rfl)) (hw _ (List.mem_of_getElem? (i := 51) rfl)) (hw _ (List.mem_of_getElem? (i := 28) rfl)) (hw _ (List.mem_of_getElem? (i := 53) rfl)) (by decide) (a := b343) f381 (argsL := [(.ref pp)]) (rest := []) rfl (rm9_1 l Z a0 hw [] b343 pp kp x0 T380.heap n0 Z380 og_b343 f381 f382 Vp Ep) (g := (mkF m 149 #[.val (.int p1), .val (.int p2), .val (.int p3), .val (.int x0), .val (.int x1), .val (.int x2), .val (.int (1 : Int32)), .val (.int ec), .val (.int gn), .val (.int cl), .val (.ref sp), .val (.ref b343), .val (.ref pp), .unset, .unset] [(.ref pp), (.ref b343)])) rfl (by rw [hml]; rfl) (lenOf pd_9 rfl) rfl (W := 0) (by show 2 * 0 + _ ≤ _; exact Nat.le_of_eq rfl) (hb hby at_149) (by decide) (by decide) (by decide) (by decide)
            have N383 := Fr.app N380 N383q
            refine own_by st383 ?_
            show own_Go p e below _ T383 (mkF m 152 #[.val (.int p1), .val (.int p2), .val (.int p3), .val (.int x0), .val (.int x1), .val (.int x2), .val (.int (1 : Int32)), .val (.int ec), .val (.int gn), .val (.int cl), .val (.ref sp), .val (.ref b343), .val (.ref pp), .unset, .unset] [])
            have ne_b343_qq : b343 ≠ qq := Nat.ne_of_lt (Nat.lt_of_lt_of_le f381.lt sqb)
            have ne_pp_qq : pp ≠ qq := Nat.ne_of_lt (Nat.lt_of_lt_of_le Ep.lt sqb)
            have og_qq : n0 ≤ qq := Nat.le_trans Z380 sqb
            have Z383 : n0 ≤ T383.heap.size := Nat.le_trans Z380 Kqb.1
            refine own_by (fun _ k => XS.aload X383.here hx rfl (hb hby at_152) rfl rfl k) ?_
            show own_Go p e below _ T383 (mkF m 154 #[.val (.int p1), .val (.int p2), .val (.int p3), .val (.int x0), .val (.int x1), .val (.int x2), .val (.int (1 : Int32)), .val (.int ec), .val (.int gn), .val (.int cl), .val (.ref sp), .val (.ref b343), .val (.ref pp), .unset, .unset] [(.ref pp)])
            have f384 := (Vp.keep Kqb (ninS (Ne.symm ne_b343_pp) nin0))
            have f385 := (Ep.keep Kqb)
            obtain ⟨_, T386, L386, X386, ⟨rfl, N386q, Kf1⟩, st386⟩ := own_callS X383 hx hZ hown (y := (⟨"watchword/PasswordCallbackGetPasswordPinLaw", "flip", "([C)V"⟩ : MethodName)) (hw _ (List.mem_of_getElem? (i := 68) rfl)) (hw _ (List.mem_of_getElem? (i := 69) rfl)) (hw _ (List.mem_of_getElem? (i := 46) rfl)) (hw _ (List.mem_of_getElem? (i := 70) rfl)) (by decide) (argsL := [(.ref pp)]) (rest := []) rfl (rm11_1 l Z a0 hw [] pp kp x0 T383.heap n0 Z383 og_pp f384) (g := (mkF m 154 #[.val (.int p1), .val (.int p2), .val (.int p3), .val (.int x0), .val (.int x1), .val (.int x2), .val (.int (1 : Int32)), .val (.int ec), .val (.int gn), .val (.int cl), .val (.ref sp), .val (.ref b343), .val (.ref pp), .unset, .unset] [(.ref pp)])) rfl (by rw [hml]; rfl) (lenOf pd_9 rfl) rfl (W := 0) (by show 2 * 0 + _ ≤ _; exact Nat.le_of_eq rfl) (hb hby at_154) (by decide) (by decide) (by decide) (by decide)
            have N386 := Fr.app N383 N386q
            refine own_by st386 ?_
            show own_Go p e below _ T386 (mkF m 157 #[.val (.int p1), .val (.int p2), .val (.int p3), .val (.int x0), .val (.int x1), .val (.int x2), .val (.int (1 : Int32)), .val (.int ec), .val (.int gn), .val (.int cl), .val (.ref sp), .val (.ref b343), .val (.ref pp), .unset, .unset] [])
            have Z386 : n0 ≤ T386.heap.size := Nat.le_trans Z383 Kf1.1
            refine own_by (fun _ k => XS.aload X386.here hx rfl (hb hby at_157) rfl rfl k) ?_
            show own_Go p e below _ T386 (mkF m 159 #[.val (.int p1), .val (.int p2), .val (.int p3), .val (.int x0), .val (.int x1), .val (.int x2), .val (.int (1 : Int32)), .val (.int ec), .val (.int gn), .val (.int cl), .val (.ref sp), .val (.ref b343), .val (.ref pp), .unset, .unset] [(.ref b343)])
            have lpp : pp < T386.heap.size := Nat.lt_of_lt_of_le f384.lt Kf1.1
            have f387 := (Fcb.keep Kf1 (ninS ne_b343_pp nin0))
            have f388 := (Vqq.keep Kf1 (ninS (Ne.symm ne_pp_qq) nin0))
            have f389 := (Eqq.keep Kf1)
            have f390 := (Ecb.keep Kf1)
            obtain ⟨_, T391, L391, X391, ⟨g1, rfl, N391q, Kg1, sg1, Eg1, Vg1⟩, st391⟩ := own_callV X386 hx hZ hown (y := (⟨"watchword/PasswordCallback", "getPassword", "()[C"⟩ : MethodName)) (C := "watchword/PasswordCallback") (hw _ (List.mem_of_getElem? (i := 37) rfl)) (hw _ (List.mem_of_getElem? (i := 38) rfl)) (hw _ (List.mem_of_getElem? (i := 40) rfl)) (hw _ (List.mem_of_getElem? (i := 39) rfl)) (hw _ (List.mem_of_getElem? (i := 28) rfl)) (hw _ (List.mem_of_getElem? (i := 41) rfl)) (by decide) (a := b343) f390 (argsL := []) (rest := []) rfl (rm7_1 l Z a0 hw [] b343 qq kp x0 T386.heap n0 Z386 f387 f388 f389) (g := (mkF m 159 #[.val (.int p1), .val (.int p2), .val (.int p3), .val (.int x0), .val (.int x1), .val (.int x2), .val (.int (1 : Int32)), .val (.int ec), .val (.int gn), .val (.int cl), .val (.ref sp), .val (.ref b343), .val (.ref pp), .unset, .unset] [(.ref b343)])) rfl (by rw [hml]; rfl) (lenOf pd_7 rfl) rfl (W := 0) (by show 2 * 0 + _ ≤ _; exact Nat.le_of_eq rfl) (hb hby at_159) (by decide) (by decide) (by decide) (by decide)
            have N391 := Fr.app N386 N391q
            refine own_by st391 ?_
            show own_Go p e below _ T391 (mkF m 162 #[.val (.int p1), .val (.int p2), .val (.int p3), .val (.int x0), .val (.int x1), .val (.int x2), .val (.int (1 : Int32)), .val (.int ec), .val (.int gn), .val (.int cl), .val (.ref sp), .val (.ref b343), .val (.ref pp), .unset, .unset] [(.ref g1)])
            have ne_b343_g1 : b343 ≠ g1 := Nat.ne_of_lt (Nat.lt_of_lt_of_le f390.lt sg1)
            have ne_qq_g1 : qq ≠ g1 := Nat.ne_of_lt (Nat.lt_of_lt_of_le f389.lt sg1)
            have og_g1 : n0 ≤ g1 := Nat.le_trans Z386 sg1
            have Z391 : n0 ≤ T391.heap.size := Nat.le_trans Z386 Kg1.1
            have nepp1 : pp ≠ g1 := Nat.ne_of_lt (Nat.lt_of_lt_of_le lpp sg1)
            have lpp1 : pp < T391.heap.size := Nat.lt_of_lt_of_le lpp Kg1.1
            refine own_by (fun _ k => XS.astore X391.here hx rfl (hb hby at_162) rfl rfl (l' := #[.val (.int p1), .val (.int p2), .val (.int p3), .val (.int x0), .val (.int x1), .val (.int x2), .val (.int (1 : Int32)), .val (.int ec), .val (.int gn), .val (.int cl), .val (.ref sp), .val (.ref b343), .val (.ref pp), .val (.ref g1), .unset]) rfl k) ?_
            show own_Go p e below _ T391 (mkF m 164 #[.val (.int p1), .val (.int p2), .val (.int p3), .val (.int x0), .val (.int x1), .val (.int x2), .val (.int (1 : Int32)), .val (.int ec), .val (.int gn), .val (.int cl), .val (.ref sp), .val (.ref b343), .val (.ref pp), .val (.ref g1), .unset] [])
            refine own_by (fun _ k => XS.aload X391.here hx rfl (hb hby at_164) rfl rfl k) ?_
            show own_Go p e below _ T391 (mkF m 166 #[.val (.int p1), .val (.int p2), .val (.int p3), .val (.int x0), .val (.int x1), .val (.int x2), .val (.int (1 : Int32)), .val (.int ec), .val (.int gn), .val (.int cl), .val (.ref sp), .val (.ref b343), .val (.ref pp), .val (.ref g1), .unset] [(.ref g1)])
            refine own_by (fun _ k => XS.ifnullNo X391.here hx rfl (hb hby at_166) rfl k) ?_
            show own_Go p e below _ T391 (mkF m 169 #[.val (.int p1), .val (.int p2), .val (.int p3), .val (.int x0), .val (.int x1), .val (.int x2), .val (.int (1 : Int32)), .val (.int ec), .val (.int gn), .val (.int cl), .val (.ref sp), .val (.ref b343), .val (.ref pp), .val (.ref g1), .unset] [])
            refine own_by (fun _ k => XS.aload X391.here hx rfl (hb hby at_169) rfl rfl k) ?_
            show own_Go p e below _ T391 (mkF m 171 #[.val (.int p1), .val (.int p2), .val (.int p3), .val (.int x0), .val (.int x1), .val (.int x2), .val (.int (1 : Int32)), .val (.int ec), .val (.int gn), .val (.int cl), .val (.ref sp), .val (.ref b343), .val (.ref pp), .val (.ref g1), .unset] [(.ref g1)])
            refine own_by (fun _ k => XS.aload X391.here hx rfl (hb hby at_171) rfl rfl k) ?_
            show own_Go p e below _ T391 (mkF m 173 #[.val (.int p1), .val (.int p2), .val (.int p3), .val (.int x0), .val (.int x1), .val (.int x2), .val (.int (1 : Int32)), .val (.int ec), .val (.int gn), .val (.int cl), .val (.ref sp), .val (.ref b343), .val (.ref pp), .val (.ref g1), .unset] [(.ref pp), (.ref g1)])
            refine own_by (fun _ k => Jvm.RoadKit.acmp (g := (mkF m 173 #[.val (.int p1), .val (.int p2), .val (.int p3), .val (.int x0), .val (.int x1), .val (.int x2), .val (.int (1 : Int32)), .val (.int ec), .val (.int gn), .val (.int cl), .val (.ref sp), .val (.ref b343), .val (.ref pp), .val (.ref g1), .unset] [(.ref pp), (.ref g1)])) X391 hx rfl rfl rfl (pc0 := 173) (pc' := 176) (same := false) rfl (hb hby at_173) rfl (decide_eq_false fun q => nepp1.symm (Value.ref.inj q)) (by decide) (by decide) k) ?_
            show own_Go p e below _ T391 (mkF m 176 #[.val (.int p1), .val (.int p2), .val (.int p3), .val (.int x0), .val (.int x1), .val (.int x2), .val (.int (1 : Int32)), .val (.int ec), .val (.int gn), .val (.int cl), .val (.ref sp), .val (.ref b343), .val (.ref pp), .val (.ref g1), .unset] [])
            refine own_by (fun _ k => XS.aload X391.here hx rfl (hb hby at_176) rfl rfl k) ?_
            show own_Go p e below _ T391 (mkF m 178 #[.val (.int p1), .val (.int p2), .val (.int p3), .val (.int x0), .val (.int x1), .val (.int x2), .val (.int (1 : Int32)), .val (.int ec), .val (.int gn), .val (.int cl), .val (.ref sp), .val (.ref b343), .val (.ref pp), .val (.ref g1), .unset] [(.ref g1)])
            refine own_by (fun _ k => XS.iload X391.here hx rfl (hb hby at_178) rfl k) ?_
            show own_Go p e below _ T391 (mkF m 180 #[.val (.int p1), .val (.int p2), .val (.int p3), .val (.int x0), .val (.int x1), .val (.int x2), .val (.int (1 : Int32)), .val (.int ec), .val (.int gn), .val (.int cl), .val (.ref sp), .val (.ref b343), .val (.ref pp), .val (.ref g1), .unset] [(.int (1 : Int32)), (.ref g1)])
            refine own_by (fun _ k => XS.iloadN X391.here hx rfl (hb hby at_180) rfl k) ?_
            show own_Go p e below _ T391 (mkF m 181 #[.val (.int p1), .val (.int p2), .val (.int p3), .val (.int x0), .val (.int x1), .val (.int x2), .val (.int (1 : Int32)), .val (.int ec), .val (.int gn), .val (.int cl), .val (.ref sp), .val (.ref b343), .val (.ref pp), .val (.ref g1), .unset] [(.int x0), (.int (1 : Int32)), (.ref g1)])
            refine own_by (fun _ k => XS.iload X391.here hx rfl (hb hby at_181) rfl k) ?_
            show own_Go p e below _ T391 (mkF m 183 #[.val (.int p1), .val (.int p2), .val (.int p3), .val (.int x0), .val (.int x1), .val (.int x2), .val (.int (1 : Int32)), .val (.int ec), .val (.int gn), .val (.int cl), .val (.ref sp), .val (.ref b343), .val (.ref pp), .val (.ref g1), .unset] [(.int x1), (.int x0), (.int (1 : Int32)), (.ref g1)])
            refine own_by (fun _ k => XS.iload X391.here hx rfl (hb hby at_183) rfl k) ?_
            show own_Go p e below _ T391 (mkF m 185 #[.val (.int p1), .val (.int p2), .val (.int p3), .val (.int x0), .val (.int x1), .val (.int x2), .val (.int (1 : Int32)), .val (.int ec), .val (.int gn), .val (.int cl), .val (.ref sp), .val (.ref b343), .val (.ref pp), .val (.ref g1), .unset] [(.int x2), (.int x1), (.int x0), (.int (1 : Int32)), (.ref g1)])
            obtain ⟨_, T392, L392, X392, ⟨rfl, N392q, e392⟩, st392⟩ := own_callS X391 hx hZ hown (y := (⟨"watchword/PasswordCallbackGetPasswordPinLaw", "same", "([CICCC)Z"⟩ : MethodName)) (hw _ (List.mem_of_getElem? (i := 71) rfl)) (hw _ (List.mem_of_getElem? (i := 72) rfl)) (hw _ (List.mem_of_getElem? (i := 46) rfl)) (hw _ (List.mem_of_getElem? (i := 73) rfl)) (by decide) (argsL := [(.ref g1), (.int (1 : Int32)), (.int x0), (.int x1), (.int x2)]) (rest := []) rfl (rm12_1 l Z a0 hw [] g1 kp x0 x1 x2 T391.heap n0 Z391 Vg1) (g := (mkF m 185 #[.val (.int p1), .val (.int p2), .val (.int p3), .val (.int x0), .val (.int x1), .val (.int x2), .val (.int (1 : Int32)), .val (.int ec), .val (.int gn), .val (.int cl), .val (.ref sp), .val (.ref b343), .val (.ref pp), .val (.ref g1), .unset] [(.int x2), (.int x1), (.int x0), (.int (1 : Int32)), (.ref g1)])) rfl (by rw [hml]; rfl) (lenOf pd_10 rfl) rfl (W := 0) (by show 2 * 0 + _ ≤ _; exact Nat.le_of_eq rfl) (hb hby at_185) (by decide) (by decide) (by decide) (by decide)
            have N392 := Fr.app N391 N392q
            refine own_by st392 ?_
            show own_Go p e below _ T392 (mkF m 188 #[.val (.int p1), .val (.int p2), .val (.int p3), .val (.int x0), .val (.int x1), .val (.int x2), .val (.int (1 : Int32)), .val (.int ec), .val (.int gn), .val (.int cl), .val (.ref sp), .val (.ref b343), .val (.ref pp), .val (.ref g1), .unset] [(.int (1 : Int32))])
            refine own_by (fun _ k => XS.ifYes X392.here hx rfl (pc0 := 188) (pc' := 193) rfl (hb hby at_188) rfl ((if0 _ _).trans (feq (by decide : ¬ ((1 : Int32) = (0 : Int32)))).2) (by decide) (by decide) k) ?_
            show own_Go p e below _ T392 (mkF m 193 #[.val (.int p1), .val (.int p2), .val (.int p3), .val (.int x0), .val (.int x1), .val (.int x2), .val (.int (1 : Int32)), .val (.int ec), .val (.int gn), .val (.int cl), .val (.ref sp), .val (.ref b343), .val (.ref pp), .val (.ref g1), .unset] [])
            refine own_by (fun _ k => XS.aload X392.here hx rfl (hb hby at_193) rfl rfl k) ?_
            show own_Go p e below _ T392 (mkF m 195 #[.val (.int p1), .val (.int p2), .val (.int p3), .val (.int x0), .val (.int x1), .val (.int x2), .val (.int (1 : Int32)), .val (.int ec), .val (.int gn), .val (.int cl), .val (.ref sp), .val (.ref b343), .val (.ref pp), .val (.ref g1), .unset] [(.ref g1)])
            have f393 := (f390.keep Kg1)
            have f394 := (f389.keep Kg1)
            obtain ⟨_, T395, L395, X395, ⟨rfl, N395q, Kf2⟩, st395⟩ := own_callS X392 hx hZ hown (y := (⟨"watchword/PasswordCallbackGetPasswordPinLaw", "flip", "([C)V"⟩ : MethodName)) (hw _ (List.mem_of_getElem? (i := 68) rfl)) (hw _ (List.mem_of_getElem? (i := 69) rfl)) (hw _ (List.mem_of_getElem? (i := 46) rfl)) (hw _ (List.mem_of_getElem? (i := 70) rfl)) (by decide) (argsL := [(.ref g1)]) (rest := []) e392 (rm11_1 l Z a0 hw [] g1 kp x0 T391.heap n0 Z391 og_g1 Vg1) (g := (mkF m 195 #[.val (.int p1), .val (.int p2), .val (.int p3), .val (.int x0), .val (.int x1), .val (.int x2), .val (.int (1 : Int32)), .val (.int ec), .val (.int gn), .val (.int cl), .val (.ref sp), .val (.ref b343), .val (.ref pp), .val (.ref g1), .unset] [(.ref g1)])) rfl (by rw [hml]; rfl) (lenOf pd_9 rfl) rfl (W := 0) (by show 2 * 0 + _ ≤ _; exact Nat.le_of_eq rfl) (hb hby at_195) (by decide) (by decide) (by decide) (by decide)
            have N395 := Fr.app N392 N395q
            refine own_by st395 ?_
            show own_Go p e below _ T395 (mkF m 198 #[.val (.int p1), .val (.int p2), .val (.int p3), .val (.int x0), .val (.int x1), .val (.int x2), .val (.int (1 : Int32)), .val (.int ec), .val (.int gn), .val (.int cl), .val (.ref sp), .val (.ref b343), .val (.ref pp), .val (.ref g1), .unset] [])
            have Z395 : n0 ≤ T395.heap.size := Nat.le_trans Z391 Kf2.1
            have lg1 : g1 < T395.heap.size := Nat.lt_of_lt_of_le Vg1.lt Kf2.1
            have lpp2 : pp < T395.heap.size := Nat.lt_of_lt_of_le lpp1 Kf2.1
            refine own_by (fun _ k => XS.aload X395.here hx rfl (hb hby at_198) rfl rfl k) ?_
            show own_Go p e below _ T395 (mkF m 200 #[.val (.int p1), .val (.int p2), .val (.int p3), .val (.int x0), .val (.int x1), .val (.int x2), .val (.int (1 : Int32)), .val (.int ec), .val (.int gn), .val (.int cl), .val (.ref sp), .val (.ref b343), .val (.ref pp), .val (.ref g1), .unset] [(.ref b343)])
            have f396 := ((f387.keep Kg1 nin0).keep Kf2 (ninS ne_b343_g1 nin0))
            have f397 := ((f388.keep Kg1 nin0).keep Kf2 (ninS ne_qq_g1 nin0))
            have f398 := (f394.keep Kf2)
            have f399 := (f393.keep Kf2)
            obtain ⟨_, T400, L400, X400, ⟨g2, rfl, N400q, Kg2, sg2, Eg2, Vg2⟩, st400⟩ := own_callV X395 hx hZ hown (y := (⟨"watchword/PasswordCallback", "getPassword", "()[C"⟩ : MethodName)) (C := "watchword/PasswordCallback") (hw _ (List.mem_of_getElem? (i := 37) rfl)) (hw _ (List.mem_of_getElem? (i := 38) rfl)) (hw _ (List.mem_of_getElem? (i := 40) rfl)) (hw _ (List.mem_of_getElem? (i := 39) rfl)) (hw _ (List.mem_of_getElem? (i := 28) rfl)) (hw _ (List.mem_of_getElem? (i := 41) rfl)) (by decide) (a := b343) f399 (argsL := []) (rest := []) rfl (rm7_1 l Z a0 hw [] b343 qq kp x0 T395.heap n0 Z395 f396 f397 f398) (g := (mkF m 200 #[.val (.int p1), .val (.int p2), .val (.int p3), .val (.int x0), .val (.int x1), .val (.int x2), .val (.int (1 : Int32)), .val (.int ec), .val (.int gn), .val (.int cl), .val (.ref sp), .val (.ref b343), .val (.ref pp), .val (.ref g1), .unset] [(.ref b343)])) rfl (by rw [hml]; rfl) (lenOf pd_7 rfl) rfl (W := 0) (by show 2 * 0 + _ ≤ _; exact Nat.le_of_eq rfl) (hb hby at_200) (by decide) (by decide) (by decide) (by decide)
            have N400 := Fr.app N395 N400q
            refine own_by st400 ?_
            show own_Go p e below _ T400 (mkF m 203 #[.val (.int p1), .val (.int p2), .val (.int p3), .val (.int x0), .val (.int x1), .val (.int x2), .val (.int (1 : Int32)), .val (.int ec), .val (.int gn), .val (.int cl), .val (.ref sp), .val (.ref b343), .val (.ref pp), .val (.ref g1), .unset] [(.ref g2)])
            have ne_b343_g2 : b343 ≠ g2 := Nat.ne_of_lt (Nat.lt_of_lt_of_le f399.lt sg2)
            have ne_qq_g2 : qq ≠ g2 := Nat.ne_of_lt (Nat.lt_of_lt_of_le f398.lt sg2)
            have og_g2 : n0 ≤ g2 := Nat.le_trans Z395 sg2
            have Z400 : n0 ≤ T400.heap.size := Nat.le_trans Z395 Kg2.1
            have neg2 : g1 ≠ g2 := Nat.ne_of_lt (Nat.lt_of_lt_of_le lg1 sg2)
            have nepp2 : pp ≠ g2 := Nat.ne_of_lt (Nat.lt_of_lt_of_le lpp2 sg2)
            refine own_by (fun _ k => XS.astore X400.here hx rfl (hb hby at_203) rfl rfl (l' := #[.val (.int p1), .val (.int p2), .val (.int p3), .val (.int x0), .val (.int x1), .val (.int x2), .val (.int (1 : Int32)), .val (.int ec), .val (.int gn), .val (.int cl), .val (.ref sp), .val (.ref b343), .val (.ref pp), .val (.ref g1), .val (.ref g2)]) rfl k) ?_
            show own_Go p e below _ T400 (mkF m 205 #[.val (.int p1), .val (.int p2), .val (.int p3), .val (.int x0), .val (.int x1), .val (.int x2), .val (.int (1 : Int32)), .val (.int ec), .val (.int gn), .val (.int cl), .val (.ref sp), .val (.ref b343), .val (.ref pp), .val (.ref g1), .val (.ref g2)] [])
            refine own_by (fun _ k => XS.aload X400.here hx rfl (hb hby at_205) rfl rfl k) ?_
            show own_Go p e below _ T400 (mkF m 207 #[.val (.int p1), .val (.int p2), .val (.int p3), .val (.int x0), .val (.int x1), .val (.int x2), .val (.int (1 : Int32)), .val (.int ec), .val (.int gn), .val (.int cl), .val (.ref sp), .val (.ref b343), .val (.ref pp), .val (.ref g1), .val (.ref g2)] [(.ref g2)])
            refine own_by (fun _ k => XS.ifnullNo X400.here hx rfl (hb hby at_207) rfl k) ?_
            show own_Go p e below _ T400 (mkF m 210 #[.val (.int p1), .val (.int p2), .val (.int p3), .val (.int x0), .val (.int x1), .val (.int x2), .val (.int (1 : Int32)), .val (.int ec), .val (.int gn), .val (.int cl), .val (.ref sp), .val (.ref b343), .val (.ref pp), .val (.ref g1), .val (.ref g2)] [])
            refine own_by (fun _ k => XS.aload X400.here hx rfl (hb hby at_210) rfl rfl k) ?_
            show own_Go p e below _ T400 (mkF m 212 #[.val (.int p1), .val (.int p2), .val (.int p3), .val (.int x0), .val (.int x1), .val (.int x2), .val (.int (1 : Int32)), .val (.int ec), .val (.int gn), .val (.int cl), .val (.ref sp), .val (.ref b343), .val (.ref pp), .val (.ref g1), .val (.ref g2)] [(.ref g2)])
            refine own_by (fun _ k => XS.aload X400.here hx rfl (hb hby at_212) rfl rfl k) ?_
            show own_Go p e below _ T400 (mkF m 214 #[.val (.int p1), .val (.int p2), .val (.int p3), .val (.int x0), .val (.int x1), .val (.int x2), .val (.int (1 : Int32)), .val (.int ec), .val (.int gn), .val (.int cl), .val (.ref sp), .val (.ref b343), .val (.ref pp), .val (.ref g1), .val (.ref g2)] [(.ref g1), (.ref g2)])
            refine own_by (fun _ k => Jvm.RoadKit.acmp (g := (mkF m 214 #[.val (.int p1), .val (.int p2), .val (.int p3), .val (.int x0), .val (.int x1), .val (.int x2), .val (.int (1 : Int32)), .val (.int ec), .val (.int gn), .val (.int cl), .val (.ref sp), .val (.ref b343), .val (.ref pp), .val (.ref g1), .val (.ref g2)] [(.ref g1), (.ref g2)])) X400 hx rfl rfl rfl (pc0 := 214) (pc' := 217) (same := false) rfl (hb hby at_214) rfl (decide_eq_false fun q => neg2.symm (Value.ref.inj q)) (by decide) (by decide) k) ?_
            show own_Go p e below _ T400 (mkF m 217 #[.val (.int p1), .val (.int p2), .val (.int p3), .val (.int x0), .val (.int x1), .val (.int x2), .val (.int (1 : Int32)), .val (.int ec), .val (.int gn), .val (.int cl), .val (.ref sp), .val (.ref b343), .val (.ref pp), .val (.ref g1), .val (.ref g2)] [])
            refine own_by (fun _ k => XS.aload X400.here hx rfl (hb hby at_217) rfl rfl k) ?_
            show own_Go p e below _ T400 (mkF m 219 #[.val (.int p1), .val (.int p2), .val (.int p3), .val (.int x0), .val (.int x1), .val (.int x2), .val (.int (1 : Int32)), .val (.int ec), .val (.int gn), .val (.int cl), .val (.ref sp), .val (.ref b343), .val (.ref pp), .val (.ref g1), .val (.ref g2)] [(.ref g2)])
            refine own_by (fun _ k => XS.aload X400.here hx rfl (hb hby at_219) rfl rfl k) ?_
            show own_Go p e below _ T400 (mkF m 221 #[.val (.int p1), .val (.int p2), .val (.int p3), .val (.int x0), .val (.int x1), .val (.int x2), .val (.int (1 : Int32)), .val (.int ec), .val (.int gn), .val (.int cl), .val (.ref sp), .val (.ref b343), .val (.ref pp), .val (.ref g1), .val (.ref g2)] [(.ref pp), (.ref g2)])
            refine own_by (fun _ k => Jvm.RoadKit.acmp (g := (mkF m 221 #[.val (.int p1), .val (.int p2), .val (.int p3), .val (.int x0), .val (.int x1), .val (.int x2), .val (.int (1 : Int32)), .val (.int ec), .val (.int gn), .val (.int cl), .val (.ref sp), .val (.ref b343), .val (.ref pp), .val (.ref g1), .val (.ref g2)] [(.ref pp), (.ref g2)])) X400 hx rfl rfl rfl (pc0 := 221) (pc' := 224) (same := false) rfl (hb hby at_221) rfl (decide_eq_false fun q => nepp2.symm (Value.ref.inj q)) (by decide) (by decide) k) ?_
            show own_Go p e below _ T400 (mkF m 224 #[.val (.int p1), .val (.int p2), .val (.int p3), .val (.int x0), .val (.int x1), .val (.int x2), .val (.int (1 : Int32)), .val (.int ec), .val (.int gn), .val (.int cl), .val (.ref sp), .val (.ref b343), .val (.ref pp), .val (.ref g1), .val (.ref g2)] [])
            refine own_by (fun _ k => XS.aload X400.here hx rfl (hb hby at_224) rfl rfl k) ?_
            show own_Go p e below _ T400 (mkF m 226 #[.val (.int p1), .val (.int p2), .val (.int p3), .val (.int x0), .val (.int x1), .val (.int x2), .val (.int (1 : Int32)), .val (.int ec), .val (.int gn), .val (.int cl), .val (.ref sp), .val (.ref b343), .val (.ref pp), .val (.ref g1), .val (.ref g2)] [(.ref g2)])
            refine own_by (fun _ k => XS.iload X400.here hx rfl (hb hby at_226) rfl k) ?_
            show own_Go p e below _ T400 (mkF m 228 #[.val (.int p1), .val (.int p2), .val (.int p3), .val (.int x0), .val (.int x1), .val (.int x2), .val (.int (1 : Int32)), .val (.int ec), .val (.int gn), .val (.int cl), .val (.ref sp), .val (.ref b343), .val (.ref pp), .val (.ref g1), .val (.ref g2)] [(.int (1 : Int32)), (.ref g2)])
            refine own_by (fun _ k => XS.iloadN X400.here hx rfl (hb hby at_228) rfl k) ?_
            show own_Go p e below _ T400 (mkF m 229 #[.val (.int p1), .val (.int p2), .val (.int p3), .val (.int x0), .val (.int x1), .val (.int x2), .val (.int (1 : Int32)), .val (.int ec), .val (.int gn), .val (.int cl), .val (.ref sp), .val (.ref b343), .val (.ref pp), .val (.ref g1), .val (.ref g2)] [(.int x0), (.int (1 : Int32)), (.ref g2)])
            refine own_by (fun _ k => XS.iload X400.here hx rfl (hb hby at_229) rfl k) ?_
            show own_Go p e below _ T400 (mkF m 231 #[.val (.int p1), .val (.int p2), .val (.int p3), .val (.int x0), .val (.int x1), .val (.int x2), .val (.int (1 : Int32)), .val (.int ec), .val (.int gn), .val (.int cl), .val (.ref sp), .val (.ref b343), .val (.ref pp), .val (.ref g1), .val (.ref g2)] [(.int x1), (.int x0), (.int (1 : Int32)), (.ref g2)])
            refine own_by (fun _ k => XS.iload X400.here hx rfl (hb hby at_231) rfl k) ?_
            show own_Go p e below _ T400 (mkF m 233 #[.val (.int p1), .val (.int p2), .val (.int p3), .val (.int x0), .val (.int x1), .val (.int x2), .val (.int (1 : Int32)), .val (.int ec), .val (.int gn), .val (.int cl), .val (.ref sp), .val (.ref b343), .val (.ref pp), .val (.ref g1), .val (.ref g2)] [(.int x2), (.int x1), (.int x0), (.int (1 : Int32)), (.ref g2)])
            obtain ⟨_, T401, L401, X401, ⟨rfl, N401q, e401⟩, st401⟩ := own_callS X400 hx hZ hown (y := (⟨"watchword/PasswordCallbackGetPasswordPinLaw", "same", "([CICCC)Z"⟩ : MethodName)) (hw _ (List.mem_of_getElem? (i := 71) rfl)) (hw _ (List.mem_of_getElem? (i := 72) rfl)) (hw _ (List.mem_of_getElem? (i := 46) rfl)) (hw _ (List.mem_of_getElem? (i := 73) rfl)) (by decide) (argsL := [(.ref g2), (.int (1 : Int32)), (.int x0), (.int x1), (.int x2)]) (rest := []) rfl (rm12_1 l Z a0 hw [] g2 kp x0 x1 x2 T400.heap n0 Z400 Vg2) (g := (mkF m 233 #[.val (.int p1), .val (.int p2), .val (.int p3), .val (.int x0), .val (.int x1), .val (.int x2), .val (.int (1 : Int32)), .val (.int ec), .val (.int gn), .val (.int cl), .val (.ref sp), .val (.ref b343), .val (.ref pp), .val (.ref g1), .val (.ref g2)] [(.int x2), (.int x1), (.int x0), (.int (1 : Int32)), (.ref g2)])) rfl (by rw [hml]; rfl) (lenOf pd_10 rfl) rfl (W := 0) (by show 2 * 0 + _ ≤ _; exact Nat.le_of_eq rfl) (hb hby at_233) (by decide) (by decide) (by decide) (by decide)
            have N401 := Fr.app N400 N401q
            refine own_by st401 ?_
            show own_Go p e below _ T401 (mkF m 236 #[.val (.int p1), .val (.int p2), .val (.int p3), .val (.int x0), .val (.int x1), .val (.int x2), .val (.int (1 : Int32)), .val (.int ec), .val (.int gn), .val (.int cl), .val (.ref sp), .val (.ref b343), .val (.ref pp), .val (.ref g1), .val (.ref g2)] [(.int (1 : Int32))])
            refine own_by (fun _ k => XS.ifYes X401.here hx rfl (pc0 := 236) (pc' := 241) rfl (hb hby at_236) rfl ((if0 _ _).trans (feq (by decide : ¬ ((1 : Int32) = (0 : Int32)))).2) (by decide) (by decide) k) ?_
            show own_Go p e below _ T401 (mkF m 241 #[.val (.int p1), .val (.int p2), .val (.int p3), .val (.int x0), .val (.int x1), .val (.int x2), .val (.int (1 : Int32)), .val (.int ec), .val (.int gn), .val (.int cl), .val (.ref sp), .val (.ref b343), .val (.ref pp), .val (.ref g1), .val (.ref g2)] [])
            refine own_by (fun _ k => XS.iload X401.here hx rfl (hb hby at_241) rfl k) ?_
            show own_Go p e below _ T401 (mkF m 243 #[.val (.int p1), .val (.int p2), .val (.int p3), .val (.int x0), .val (.int x1), .val (.int x2), .val (.int (1 : Int32)), .val (.int ec), .val (.int gn), .val (.int cl), .val (.ref sp), .val (.ref b343), .val (.ref pp), .val (.ref g1), .val (.ref g2)] [(.int cl)])
            by_cases hcl : cl = (0 : Int32)
            · refine own_by (fun _ k => XS.ifYes X401.here hx rfl (pc0 := 243) (pc' := 261) rfl (hb hby at_243) rfl ((if0 _ _).trans (teq (hcl : cl = (0 : Int32))).1) (by decide) (by decide) k) ?_
              show own_Go p e below _ T401 (mkF m 261 #[.val (.int p1), .val (.int p2), .val (.int p3), .val (.int x0), .val (.int x1), .val (.int x2), .val (.int (1 : Int32)), .val (.int ec), .val (.int gn), .val (.int cl), .val (.ref sp), .val (.ref b343), .val (.ref pp), .val (.ref g1), .val (.ref g2)] [])
              refine own_by (fun _ k => XS.iconst X401.here hx rfl (hb hby at_261) k) ?_
              show own_Go p e below _ T401 (mkF m 262 #[.val (.int p1), .val (.int p2), .val (.int p3), .val (.int x0), .val (.int x1), .val (.int x2), .val (.int (1 : Int32)), .val (.int ec), .val (.int gn), .val (.int cl), .val (.ref sp), .val (.ref b343), .val (.ref pp), .val (.ref g1), .val (.ref g2)] [(.int (1 : Int32))])
              exact own_retN X401 hx hlk hret (by simp) rfl (hb hby at_262) (by first | exact ⟨rfl, N401⟩ | (rw [e401]; exact ⟨rfl, N401⟩)) (by decide) (by decide)
            · refine own_by (fun _ k => XS.ifNo X401.here hx rfl (hb hby at_243) rfl ((if0 _ _).trans (feq (hcl : ¬ (cl = (0 : Int32)))).1) k) ?_
              show own_Go p e below _ T401 (mkF m 246 #[.val (.int p1), .val (.int p2), .val (.int p3), .val (.int x0), .val (.int x1), .val (.int x2), .val (.int (1 : Int32)), .val (.int ec), .val (.int gn), .val (.int cl), .val (.ref sp), .val (.ref b343), .val (.ref pp), .val (.ref g1), .val (.ref g2)] [])
              refine own_by (fun _ k => XS.aload X401.here hx rfl (hb hby at_246) rfl rfl k) ?_
              show own_Go p e below _ T401 (mkF m 248 #[.val (.int p1), .val (.int p2), .val (.int p3), .val (.int x0), .val (.int x1), .val (.int x2), .val (.int (1 : Int32)), .val (.int ec), .val (.int gn), .val (.int cl), .val (.ref sp), .val (.ref b343), .val (.ref pp), .val (.ref g1), .val (.ref g2)] [(.ref b343)])
              have f402 := (f399.keep Kg2)
              have f403 := (f396.keep Kg2 nin0)
              have f404 := (f397.keep Kg2 nin0)
              have f405 := (f398.keep Kg2)
              obtain ⟨_, T406, L406, X406, ⟨rfl, N406q, Kc, Ec, Fc⟩, st406⟩ := own_callV X401 hx hZ hown (y := (⟨"watchword/PasswordCallback", "clearPassword", "()V"⟩ : MethodName)) (C := "watchword/PasswordCallback") (hw _ (List.mem_of_getElem? (i := 78) rfl)) (hw _ (List.mem_of_getElem? (i := 55) rfl)) (hw _ (List.mem_of_getElem? (i := 57) rfl)) (hw _ (List.mem_of_getElem? (i := 56) rfl)) (hw _ (List.mem_of_getElem? (i := 28) rfl)) (hw _ (List.mem_of_getElem? (i := 58) rfl)) (by decide) (a := b343) f402 (argsL := []) (rest := []) e401 (rm10_1 l Z a0 hw [] b343 qq kp x0 T400.heap n0 Z400 og_b343 og_qq ne_b343_qq f402 f403 f404) (g := (mkF m 248 #[.val (.int p1), .val (.int p2), .val (.int p3), .val (.int x0), .val (.int x1), .val (.int x2), .val (.int (1 : Int32)), .val (.int ec), .val (.int gn), .val (.int cl), .val (.ref sp), .val (.ref b343), .val (.ref pp), .val (.ref g1), .val (.ref g2)] [(.ref b343)])) rfl (by rw [hml]; rfl) (lenOf pd_4 rfl) rfl (W := 0) (by show 2 * 0 + _ ≤ _; exact Nat.le_of_eq rfl) (hb hby at_248) (by decide) (by decide) (by decide) (by decide)
              have N406 := Fr.app N401 N406q
              refine own_by st406 ?_
              show own_Go p e below _ T406 (mkF m 251 #[.val (.int p1), .val (.int p2), .val (.int p3), .val (.int x0), .val (.int x1), .val (.int x2), .val (.int (1 : Int32)), .val (.int ec), .val (.int gn), .val (.int cl), .val (.ref sp), .val (.ref b343), .val (.ref pp), .val (.ref g1), .val (.ref g2)] [])
              have Z406 : n0 ≤ T406.heap.size := Nat.le_trans Z400 Kc.1
              refine own_by (fun _ k => XS.aload X406.here hx rfl (hb hby at_251) rfl rfl k) ?_
              show own_Go p e below _ T406 (mkF m 253 #[.val (.int p1), .val (.int p2), .val (.int p3), .val (.int x0), .val (.int x1), .val (.int x2), .val (.int (1 : Int32)), .val (.int ec), .val (.int gn), .val (.int cl), .val (.ref sp), .val (.ref b343), .val (.ref pp), .val (.ref g1), .val (.ref g2)] [(.ref b343)])
              obtain ⟨_, T407, L407, X407, ⟨rfl, N407q, e407⟩, st407⟩ := own_callV X406 hx hZ hown (y := (⟨"watchword/PasswordCallback", "getPassword", "()[C"⟩ : MethodName)) (C := "watchword/PasswordCallback") (hw _ (List.mem_of_getElem? (i := 37) rfl)) (hw _ (List.mem_of_getElem? (i := 38) rfl)) (hw _ (List.mem_of_getElem? (i := 40) rfl)) (hw _ (List.mem_of_getElem? (i := 39) rfl)) (hw _ (List.mem_of_getElem? (i := 28) rfl)) (hw _ (List.mem_of_getElem? (i := 41) rfl)) (by decide) (a := b343) Ec (argsL := []) (rest := []) rfl (rm7z l Z a0 hw [] b343 T406.heap n0 Z406 Fc) (g := (mkF m 253 #[.val (.int p1), .val (.int p2), .val (.int p3), .val (.int x0), .val (.int x1), .val (.int x2), .val (.int (1 : Int32)), .val (.int ec), .val (.int gn), .val (.int cl), .val (.ref sp), .val (.ref b343), .val (.ref pp), .val (.ref g1), .val (.ref g2)] [(.ref b343)])) rfl (by rw [hml]; rfl) (lenOf pd_7 rfl) rfl (W := 0) (by show 2 * 0 + _ ≤ _; exact Nat.le_of_eq rfl) (hb hby at_253) (by decide) (by decide) (by decide) (by decide)
              have N407 := Fr.app N406 N407q
              refine own_by st407 ?_
              show own_Go p e below _ T407 (mkF m 256 #[.val (.int p1), .val (.int p2), .val (.int p3), .val (.int x0), .val (.int x1), .val (.int x2), .val (.int (1 : Int32)), .val (.int ec), .val (.int gn), .val (.int cl), .val (.ref sp), .val (.ref b343), .val (.ref pp), .val (.ref g1), .val (.ref g2)] [.null])
              refine own_by (fun _ k => XS.ifnullYes X407.here hx rfl (pc0 := 256) (pc' := 261) rfl (hb hby at_256) rfl (by decide) (by decide) k) ?_
              show own_Go p e below _ T407 (mkF m 261 #[.val (.int p1), .val (.int p2), .val (.int p3), .val (.int x0), .val (.int x1), .val (.int x2), .val (.int (1 : Int32)), .val (.int ec), .val (.int gn), .val (.int cl), .val (.ref sp), .val (.ref b343), .val (.ref pp), .val (.ref g1), .val (.ref g2)] [])
              refine own_by (fun _ k => XS.iconst X407.here hx rfl (hb hby at_261) k) ?_
              show own_Go p e below _ T407 (mkF m 262 #[.val (.int p1), .val (.int p2), .val (.int p3), .val (.int x0), .val (.int x1), .val (.int x2), .val (.int (1 : Int32)), .val (.int ec), .val (.int gn), .val (.int cl), .val (.ref sp), .val (.ref b343), .val (.ref pp), .val (.ref g1), .val (.ref g2)] [(.int (1 : Int32))])
              exact own_retN X407 hx hlk hret (by simp) rfl (hb hby at_262) (by first | exact ⟨rfl, N407⟩ | (rw [e407]; exact ⟨rfl, N407⟩)) (by decide) (by decide)
          · refine own_by (fun _ k => XS.ifNo X380.here hx rfl (hb hby at_115) rfl ((if0 _ _).trans (feq (hgn : ¬ (gn = (0 : Int32)))).1) k) ?_
            show own_Go p e below _ T380 (mkF m 118 #[.val (.int p1), .val (.int p2), .val (.int p3), .val (.int x0), .val (.int x1), .val (.int x2), .val (.int (1 : Int32)), .val (.int ec), .val (.int gn), .val (.int cl), .val (.ref sp), .val (.ref b343), .val (.ref pp), .unset, .unset] [])
            refine own_by (fun _ k => XS.aload X380.here hx rfl (hb hby at_118) rfl rfl k) ?_
            show own_Go p e below _ T380 (mkF m 120 #[.val (.int p1), .val (.int p2), .val (.int p3), .val (.int x0), .val (.int x1), .val (.int x2), .val (.int (1 : Int32)), .val (.int ec), .val (.int gn), .val (.int cl), .val (.ref sp), .val (.ref b343), .val (.ref pp), .unset, .unset] [(.ref b343)])
            refine own_by (fun _ k => XS.aload X380.here hx rfl (hb hby at_120) rfl rfl k) ?_
            show own_Go p e below _ T380 (mkF m 122 #[.val (.int p1), .val (.int p2), .val (.int p3), .val (.int x0), .val (.int x1), .val (.int x2), .val (.int (1 : Int32)), .val (.int ec), .val (.int gn), .val (.int cl), .val (.ref sp), .val (.ref b343), .val (.ref pp), .unset, .unset] [(.ref pp), (.ref b343)])
            have f408 := (Ei.keep Kp)
            have f409 := (Fi.keep Kp nin0)
            obtain ⟨_, T410, L410, X410, ⟨qq, rfl, N410q, Kqb, sqb, Ecb, Fcb, Eqq, Vqq⟩, st410⟩ := own_callV X380 hx hZ hown (y := (⟨"watchword/PasswordCallback", "setPassword", "([C)V"⟩ : MethodName)) (C := "watchword/PasswordCallback") (hw _ (List.mem_of_getElem? (i := 49) rfl)) (hw _ (List.mem_of_getElem? (i := 50) rfl)) (hw _ (List.mem_of_getElem? (i := 52) rfl)) (hw _ (List.mem_of_getElem? (i := 51) rfl)) (hw _ (List.mem_of_getElem? (i := 28) rfl)) (hw _ (List.mem_of_getElem? (i := 53) rfl)) (by decide) (a := b343) f408 (argsL := [(.ref pp)]) (rest := []) rfl (rm9_1 l Z a0 hw [] b343 pp kp x0 T380.heap n0 Z380 og_b343 f408 f409 Vp Ep) (g := (mkF m 122 #[.val (.int p1), .val (.int p2), .val (.int p3), .val (.int x0), .val (.int x1), .val (.int x2), .val (.int (1 : Int32)), .val (.int ec), .val (.int gn), .val (.int cl), .val (.ref sp), .val (.ref b343), .val (.ref pp), .unset, .unset] [(.ref pp), (.ref b343)])) rfl (by rw [hml]; rfl) (lenOf pd_9 rfl) rfl (W := 0) (by show 2 * 0 + _ ≤ _; exact Nat.le_of_eq rfl) (hb hby at_122) (by decide) (by decide) (by decide) (by decide)
            have N410 := Fr.app N380 N410q
            refine own_by st410 ?_
            show own_Go p e below _ T410 (mkF m 125 #[.val (.int p1), .val (.int p2), .val (.int p3), .val (.int x0), .val (.int x1), .val (.int x2), .val (.int (1 : Int32)), .val (.int ec), .val (.int gn), .val (.int cl), .val (.ref sp), .val (.ref b343), .val (.ref pp), .unset, .unset] [])
            have ne_b343_qq : b343 ≠ qq := Nat.ne_of_lt (Nat.lt_of_lt_of_le f408.lt sqb)
            have ne_pp_qq : pp ≠ qq := Nat.ne_of_lt (Nat.lt_of_lt_of_le Ep.lt sqb)
            have og_qq : n0 ≤ qq := Nat.le_trans Z380 sqb
            have Z410 : n0 ≤ T410.heap.size := Nat.le_trans Z380 Kqb.1
            refine own_by (fun _ k => XS.aload X410.here hx rfl (hb hby at_125) rfl rfl k) ?_
            show own_Go p e below _ T410 (mkF m 127 #[.val (.int p1), .val (.int p2), .val (.int p3), .val (.int x0), .val (.int x1), .val (.int x2), .val (.int (1 : Int32)), .val (.int ec), .val (.int gn), .val (.int cl), .val (.ref sp), .val (.ref b343), .val (.ref pp), .unset, .unset] [(.ref b343)])
            refine own_by (fun _ k => XS.aconstNull X410.here hx rfl (hb hby at_127) k) ?_
            show own_Go p e below _ T410 (mkF m 128 #[.val (.int p1), .val (.int p2), .val (.int p3), .val (.int x0), .val (.int x1), .val (.int x2), .val (.int (1 : Int32)), .val (.int ec), .val (.int gn), .val (.int cl), .val (.ref sp), .val (.ref b343), .val (.ref pp), .unset, .unset] [.null, (.ref b343)])
            have f411 := (Ep.keep Kqb)
            obtain ⟨_, T412, L412, X412, ⟨rfl, N412q, Kc, Ec, Fc⟩, st412⟩ := own_callV X410 hx hZ hown (y := (⟨"watchword/PasswordCallback", "setPassword", "([C)V"⟩ : MethodName)) (C := "watchword/PasswordCallback") (hw _ (List.mem_of_getElem? (i := 49) rfl)) (hw _ (List.mem_of_getElem? (i := 50) rfl)) (hw _ (List.mem_of_getElem? (i := 52) rfl)) (hw _ (List.mem_of_getElem? (i := 51) rfl)) (hw _ (List.mem_of_getElem? (i := 28) rfl)) (hw _ (List.mem_of_getElem? (i := 53) rfl)) (by decide) (a := b343) Ecb (argsL := [.null]) (rest := []) rfl (rm9n_1 l Z a0 hw [] b343 qq kp x0 T410.heap n0 Z410 og_b343 og_qq ne_b343_qq Ecb Fcb Vqq) (g := (mkF m 128 #[.val (.int p1), .val (.int p2), .val (.int p3), .val (.int x0), .val (.int x1), .val (.int x2), .val (.int (1 : Int32)), .val (.int ec), .val (.int gn), .val (.int cl), .val (.ref sp), .val (.ref b343), .val (.ref pp), .unset, .unset] [.null, (.ref b343)])) rfl (by rw [hml]; rfl) (lenOf pd_9 rfl) rfl (W := 0) (by show 2 * 0 + _ ≤ _; exact Nat.le_of_eq rfl) (hb hby at_128) (by decide) (by decide) (by decide) (by decide)
            have N412 := Fr.app N410 N412q
            refine own_by st412 ?_
            show own_Go p e below _ T412 (mkF m 131 #[.val (.int p1), .val (.int p2), .val (.int p3), .val (.int x0), .val (.int x1), .val (.int x2), .val (.int (1 : Int32)), .val (.int ec), .val (.int gn), .val (.int cl), .val (.ref sp), .val (.ref b343), .val (.ref pp), .unset, .unset] [])
            have Z412 : n0 ≤ T412.heap.size := Nat.le_trans Z410 Kc.1
            refine own_by (fun _ k => XS.aload X412.here hx rfl (hb hby at_131) rfl rfl k) ?_
            show own_Go p e below _ T412 (mkF m 133 #[.val (.int p1), .val (.int p2), .val (.int p3), .val (.int x0), .val (.int x1), .val (.int x2), .val (.int (1 : Int32)), .val (.int ec), .val (.int gn), .val (.int cl), .val (.ref sp), .val (.ref b343), .val (.ref pp), .unset, .unset] [(.ref b343)])
            obtain ⟨_, T413, L413, X413, ⟨rfl, N413q, e413⟩, st413⟩ := own_callV X412 hx hZ hown (y := (⟨"watchword/PasswordCallback", "getPassword", "()[C"⟩ : MethodName)) (C := "watchword/PasswordCallback") (hw _ (List.mem_of_getElem? (i := 37) rfl)) (hw _ (List.mem_of_getElem? (i := 38) rfl)) (hw _ (List.mem_of_getElem? (i := 40) rfl)) (hw _ (List.mem_of_getElem? (i := 39) rfl)) (hw _ (List.mem_of_getElem? (i := 28) rfl)) (hw _ (List.mem_of_getElem? (i := 41) rfl)) (by decide) (a := b343) Ec (argsL := []) (rest := []) rfl (rm7z l Z a0 hw [] b343 T412.heap n0 Z412 Fc) (g := (mkF m 133 #[.val (.int p1), .val (.int p2), .val (.int p3), .val (.int x0), .val (.int x1), .val (.int x2), .val (.int (1 : Int32)), .val (.int ec), .val (.int gn), .val (.int cl), .val (.ref sp), .val (.ref b343), .val (.ref pp), .unset, .unset] [(.ref b343)])) rfl (by rw [hml]; rfl) (lenOf pd_7 rfl) rfl (W := 0) (by show 2 * 0 + _ ≤ _; exact Nat.le_of_eq rfl) (hb hby at_133) (by decide) (by decide) (by decide) (by decide)
            have N413 := Fr.app N412 N413q
            refine own_by st413 ?_
            show own_Go p e below _ T413 (mkF m 136 #[.val (.int p1), .val (.int p2), .val (.int p3), .val (.int x0), .val (.int x1), .val (.int x2), .val (.int (1 : Int32)), .val (.int ec), .val (.int gn), .val (.int cl), .val (.ref sp), .val (.ref b343), .val (.ref pp), .unset, .unset] [.null])
            refine own_by (fun _ k => XS.ifnonnullNo X413.here hx rfl (hb hby at_136) rfl k) ?_
            show own_Go p e below _ T413 (mkF m 139 #[.val (.int p1), .val (.int p2), .val (.int p3), .val (.int x0), .val (.int x1), .val (.int x2), .val (.int (1 : Int32)), .val (.int ec), .val (.int gn), .val (.int cl), .val (.ref sp), .val (.ref b343), .val (.ref pp), .unset, .unset] [])
            refine own_by (fun _ k => XS.iconst X413.here hx rfl (hb hby at_139) k) ?_
            show own_Go p e below _ T413 (mkF m 140 #[.val (.int p1), .val (.int p2), .val (.int p3), .val (.int x0), .val (.int x1), .val (.int x2), .val (.int (1 : Int32)), .val (.int ec), .val (.int gn), .val (.int cl), .val (.ref sp), .val (.ref b343), .val (.ref pp), .unset, .unset] [(.int (1 : Int32))])
            refine own_by (fun _ k => XS.goto X413.here hx rfl (pc0 := 140) (pc' := 144) rfl (hb hby at_140) (by decide) (by decide) k) ?_
            show own_Go p e below _ T413 (mkF m 144 #[.val (.int p1), .val (.int p2), .val (.int p3), .val (.int x0), .val (.int x1), .val (.int x2), .val (.int (1 : Int32)), .val (.int ec), .val (.int gn), .val (.int cl), .val (.ref sp), .val (.ref b343), .val (.ref pp), .unset, .unset] [(.int (1 : Int32))])
            exact own_retN X413 hx hlk hret (by simp) rfl (hb hby at_144) (by first | exact ⟨rfl, N413⟩ | (rw [e413]; exact ⟨rfl, N413⟩)) (by decide) (by decide)
        · show own_Go p e below _ T345 (mkF m 108 #[.val (.int p1), .val (.int p2), .val (.int p3), .val (.int x0), .val (.int x1), .val (.int x2), .val (.int (p3 &&& (3 : Int32))), .val (.int ec), .val (.int gn), .val (.int cl), .val (.ref sp), .val (.ref b343), .unset, .unset, .unset] [(.int x2), (.int x1), (.int x0), (.int (p3 &&& (3 : Int32)))])
          rw [hk]
          show own_Go p e below _ T345 (mkF m 108 #[.val (.int p1), .val (.int p2), .val (.int p3), .val (.int x0), .val (.int x1), .val (.int x2), .val (.int (2 : Int32)), .val (.int ec), .val (.int gn), .val (.int cl), .val (.ref sp), .val (.ref b343), .unset, .unset, .unset] [(.int x2), (.int x1), (.int x0), (.int (2 : Int32))])
          obtain ⟨_, T414, L414, X414, ⟨pp, kp, rfl, N414q, Kp, sp', Ep, Vp⟩, st414⟩ := own_callS X345 hx hZ hown (y := (⟨"watchword/PasswordCallbackGetPasswordPinLaw", "make", "(ICCC)[C"⟩ : MethodName)) (hw _ (List.mem_of_getElem? (i := 44) rfl)) (hw _ (List.mem_of_getElem? (i := 45) rfl)) (hw _ (List.mem_of_getElem? (i := 46) rfl)) (hw _ (List.mem_of_getElem? (i := 47) rfl)) (by decide) (argsL := [(.int (2 : Int32)), (.int x0), (.int x1), (.int x2)]) (rest := []) e345 (rm8_2 l Z a0 hw [] x0 x1 x2 T344.heap n0 Z344 hn0 hn1 hn2) (g := (mkF m 108 #[.val (.int p1), .val (.int p2), .val (.int p3), .val (.int x0), .val (.int x1), .val (.int x2), .val (.int (2 : Int32)), .val (.int ec), .val (.int gn), .val (.int cl), .val (.ref sp), .val (.ref b343), .unset, .unset, .unset] [(.int x2), (.int x1), (.int x0), (.int (2 : Int32))])) rfl (by rw [hml]; rfl) (lenOf pd_8 rfl) rfl (W := 0) (by show 2 * 0 + _ ≤ _; exact Nat.le_of_eq rfl) (hb hby at_108) (by decide) (by decide) (by decide) (by decide)
          have N414 := Fr.app N345 N414q
          refine own_by st414 ?_
          show own_Go p e below _ T414 (mkF m 111 #[.val (.int p1), .val (.int p2), .val (.int p3), .val (.int x0), .val (.int x1), .val (.int x2), .val (.int (2 : Int32)), .val (.int ec), .val (.int gn), .val (.int cl), .val (.ref sp), .val (.ref b343), .unset, .unset, .unset] [(.ref pp)])
          have ne_b343_pp : b343 ≠ pp := Nat.ne_of_lt (Nat.lt_of_lt_of_le Ei.lt sp')
          have og_pp : n0 ≤ pp := Nat.le_trans Z344 sp'
          have Z414 : n0 ≤ T414.heap.size := Nat.le_trans Z344 Kp.1
          refine own_by (fun _ k => XS.astore X414.here hx rfl (hb hby at_111) rfl rfl (l' := #[.val (.int p1), .val (.int p2), .val (.int p3), .val (.int x0), .val (.int x1), .val (.int x2), .val (.int (2 : Int32)), .val (.int ec), .val (.int gn), .val (.int cl), .val (.ref sp), .val (.ref b343), .val (.ref pp), .unset, .unset]) rfl k) ?_
          show own_Go p e below _ T414 (mkF m 113 #[.val (.int p1), .val (.int p2), .val (.int p3), .val (.int x0), .val (.int x1), .val (.int x2), .val (.int (2 : Int32)), .val (.int ec), .val (.int gn), .val (.int cl), .val (.ref sp), .val (.ref b343), .val (.ref pp), .unset, .unset] [])
          refine own_by (fun _ k => XS.iload X414.here hx rfl (hb hby at_113) rfl k) ?_
          show own_Go p e below _ T414 (mkF m 115 #[.val (.int p1), .val (.int p2), .val (.int p3), .val (.int x0), .val (.int x1), .val (.int x2), .val (.int (2 : Int32)), .val (.int ec), .val (.int gn), .val (.int cl), .val (.ref sp), .val (.ref b343), .val (.ref pp), .unset, .unset] [(.int gn)])
          by_cases hgn : gn = (0 : Int32)
          · refine own_by (fun _ k => XS.ifYes X414.here hx rfl (pc0 := 115) (pc' := 145) rfl (hb hby at_115) rfl ((if0 _ _).trans (teq (hgn : gn = (0 : Int32))).1) (by decide) (by decide) k) ?_
            show own_Go p e below _ T414 (mkF m 145 #[.val (.int p1), .val (.int p2), .val (.int p3), .val (.int x0), .val (.int x1), .val (.int x2), .val (.int (2 : Int32)), .val (.int ec), .val (.int gn), .val (.int cl), .val (.ref sp), .val (.ref b343), .val (.ref pp), .unset, .unset] [])
            refine own_by (fun _ k => XS.aload X414.here hx rfl (hb hby at_145) rfl rfl k) ?_
            show own_Go p e below _ T414 (mkF m 147 #[.val (.int p1), .val (.int p2), .val (.int p3), .val (.int x0), .val (.int x1), .val (.int x2), .val (.int (2 : Int32)), .val (.int ec), .val (.int gn), .val (.int cl), .val (.ref sp), .val (.ref b343), .val (.ref pp), .unset, .unset] [(.ref b343)])
            refine own_by (fun _ k => XS.aload X414.here hx rfl (hb hby at_147) rfl rfl k) ?_
            show own_Go p e below _ T414 (mkF m 149 #[.val (.int p1), .val (.int p2), .val (.int p3), .val (.int x0), .val (.int x1), .val (.int x2), .val (.int (2 : Int32)), .val (.int ec), .val (.int gn), .val (.int cl), .val (.ref sp), .val (.ref b343), .val (.ref pp), .unset, .unset] [(.ref pp), (.ref b343)])
            have f415 := (Ei.keep Kp)
            have f416 := (Fi.keep Kp nin0)
            obtain ⟨_, T417, L417, X417, ⟨qq, rfl, N417q, Kqb, sqb, Ecb, Fcb, Eqq, Vqq⟩, st417⟩ := own_callV X414 hx hZ hown (y := (⟨"watchword/PasswordCallback", "setPassword", "([C)V"⟩ : MethodName)) (C := "watchword/PasswordCallback") (hw _ (List.mem_of_getElem? (i := 49) rfl)) (hw _ (List.mem_of_getElem? (i := 50) rfl)) (hw _ (List.mem_of_getElem? (i := 52) rfl)) (hw _ (List.mem_of_getElem? (i := 51) rfl)) (hw _ (List.mem_of_getElem? (i := 28) rfl)) (hw _ (List.mem_of_getElem? (i := 53) rfl)) (by decide) (a := b343) f415 (argsL := [(.ref pp)]) (rest := []) rfl (rm9_2 l Z a0 hw [] b343 pp kp x0 x1 T414.heap n0 Z414 og_b343 f415 f416 Vp Ep) (g := (mkF m 149 #[.val (.int p1), .val (.int p2), .val (.int p3), .val (.int x0), .val (.int x1), .val (.int x2), .val (.int (2 : Int32)), .val (.int ec), .val (.int gn), .val (.int cl), .val (.ref sp), .val (.ref b343), .val (.ref pp), .unset, .unset] [(.ref pp), (.ref b343)])) rfl (by rw [hml]; rfl) (lenOf pd_9 rfl) rfl (W := 0) (by show 2 * 0 + _ ≤ _; exact Nat.le_of_eq rfl) (hb hby at_149) (by decide) (by decide) (by decide) (by decide)
            have N417 := Fr.app N414 N417q
            refine own_by st417 ?_
            show own_Go p e below _ T417 (mkF m 152 #[.val (.int p1), .val (.int p2), .val (.int p3), .val (.int x0), .val (.int x1), .val (.int x2), .val (.int (2 : Int32)), .val (.int ec), .val (.int gn), .val (.int cl), .val (.ref sp), .val (.ref b343), .val (.ref pp), .unset, .unset] [])
            have ne_b343_qq : b343 ≠ qq := Nat.ne_of_lt (Nat.lt_of_lt_of_le f415.lt sqb)
            have ne_pp_qq : pp ≠ qq := Nat.ne_of_lt (Nat.lt_of_lt_of_le Ep.lt sqb)
            have og_qq : n0 ≤ qq := Nat.le_trans Z414 sqb
            have Z417 : n0 ≤ T417.heap.size := Nat.le_trans Z414 Kqb.1
            refine own_by (fun _ k => XS.aload X417.here hx rfl (hb hby at_152) rfl rfl k) ?_
            show own_Go p e below _ T417 (mkF m 154 #[.val (.int p1), .val (.int p2), .val (.int p3), .val (.int x0), .val (.int x1), .val (.int x2), .val (.int (2 : Int32)), .val (.int ec), .val (.int gn), .val (.int cl), .val (.ref sp), .val (.ref b343), .val (.ref pp), .unset, .unset] [(.ref pp)])
            have f418 := (Vp.keep Kqb (ninS (Ne.symm ne_b343_pp) nin0))
            have f419 := (Ep.keep Kqb)
            obtain ⟨_, T420, L420, X420, ⟨rfl, N420q, Kf1⟩, st420⟩ := own_callS X417 hx hZ hown (y := (⟨"watchword/PasswordCallbackGetPasswordPinLaw", "flip", "([C)V"⟩ : MethodName)) (hw _ (List.mem_of_getElem? (i := 68) rfl)) (hw _ (List.mem_of_getElem? (i := 69) rfl)) (hw _ (List.mem_of_getElem? (i := 46) rfl)) (hw _ (List.mem_of_getElem? (i := 70) rfl)) (by decide) (argsL := [(.ref pp)]) (rest := []) rfl (rm11_2 l Z a0 hw [] pp kp x0 x1 T417.heap n0 Z417 og_pp f418) (g := (mkF m 154 #[.val (.int p1), .val (.int p2), .val (.int p3), .val (.int x0), .val (.int x1), .val (.int x2), .val (.int (2 : Int32)), .val (.int ec), .val (.int gn), .val (.int cl), .val (.ref sp), .val (.ref b343), .val (.ref pp), .unset, .unset] [(.ref pp)])) rfl (by rw [hml]; rfl) (lenOf pd_9 rfl) rfl (W := 0) (by show 2 * 0 + _ ≤ _; exact Nat.le_of_eq rfl) (hb hby at_154) (by decide) (by decide) (by decide) (by decide)
            have N420 := Fr.app N417 N420q
            refine own_by st420 ?_
            show own_Go p e below _ T420 (mkF m 157 #[.val (.int p1), .val (.int p2), .val (.int p3), .val (.int x0), .val (.int x1), .val (.int x2), .val (.int (2 : Int32)), .val (.int ec), .val (.int gn), .val (.int cl), .val (.ref sp), .val (.ref b343), .val (.ref pp), .unset, .unset] [])
            have Z420 : n0 ≤ T420.heap.size := Nat.le_trans Z417 Kf1.1
            refine own_by (fun _ k => XS.aload X420.here hx rfl (hb hby at_157) rfl rfl k) ?_
            show own_Go p e below _ T420 (mkF m 159 #[.val (.int p1), .val (.int p2), .val (.int p3), .val (.int x0), .val (.int x1), .val (.int x2), .val (.int (2 : Int32)), .val (.int ec), .val (.int gn), .val (.int cl), .val (.ref sp), .val (.ref b343), .val (.ref pp), .unset, .unset] [(.ref b343)])
            have lpp : pp < T420.heap.size := Nat.lt_of_lt_of_le f418.lt Kf1.1
            have f421 := (Fcb.keep Kf1 (ninS ne_b343_pp nin0))
            have f422 := (Vqq.keep Kf1 (ninS (Ne.symm ne_pp_qq) nin0))
            have f423 := (Eqq.keep Kf1)
            have f424 := (Ecb.keep Kf1)
            obtain ⟨_, T425, L425, X425, ⟨g1, rfl, N425q, Kg1, sg1, Eg1, Vg1⟩, st425⟩ := own_callV X420 hx hZ hown (y := (⟨"watchword/PasswordCallback", "getPassword", "()[C"⟩ : MethodName)) (C := "watchword/PasswordCallback") (hw _ (List.mem_of_getElem? (i := 37) rfl)) (hw _ (List.mem_of_getElem? (i := 38) rfl)) (hw _ (List.mem_of_getElem? (i := 40) rfl)) (hw _ (List.mem_of_getElem? (i := 39) rfl)) (hw _ (List.mem_of_getElem? (i := 28) rfl)) (hw _ (List.mem_of_getElem? (i := 41) rfl)) (by decide) (a := b343) f424 (argsL := []) (rest := []) rfl (rm7_2 l Z a0 hw [] b343 qq kp x0 x1 T420.heap n0 Z420 f421 f422 f423) (g := (mkF m 159 #[.val (.int p1), .val (.int p2), .val (.int p3), .val (.int x0), .val (.int x1), .val (.int x2), .val (.int (2 : Int32)), .val (.int ec), .val (.int gn), .val (.int cl), .val (.ref sp), .val (.ref b343), .val (.ref pp), .unset, .unset] [(.ref b343)])) rfl (by rw [hml]; rfl) (lenOf pd_7 rfl) rfl (W := 0) (by show 2 * 0 + _ ≤ _; exact Nat.le_of_eq rfl) (hb hby at_159) (by decide) (by decide) (by decide) (by decide)
            have N425 := Fr.app N420 N425q
            refine own_by st425 ?_
            show own_Go p e below _ T425 (mkF m 162 #[.val (.int p1), .val (.int p2), .val (.int p3), .val (.int x0), .val (.int x1), .val (.int x2), .val (.int (2 : Int32)), .val (.int ec), .val (.int gn), .val (.int cl), .val (.ref sp), .val (.ref b343), .val (.ref pp), .unset, .unset] [(.ref g1)])
            have ne_b343_g1 : b343 ≠ g1 := Nat.ne_of_lt (Nat.lt_of_lt_of_le f424.lt sg1)
            have ne_qq_g1 : qq ≠ g1 := Nat.ne_of_lt (Nat.lt_of_lt_of_le f423.lt sg1)
            have og_g1 : n0 ≤ g1 := Nat.le_trans Z420 sg1
            have Z425 : n0 ≤ T425.heap.size := Nat.le_trans Z420 Kg1.1
            have nepp1 : pp ≠ g1 := Nat.ne_of_lt (Nat.lt_of_lt_of_le lpp sg1)
            have lpp1 : pp < T425.heap.size := Nat.lt_of_lt_of_le lpp Kg1.1
            refine own_by (fun _ k => XS.astore X425.here hx rfl (hb hby at_162) rfl rfl (l' := #[.val (.int p1), .val (.int p2), .val (.int p3), .val (.int x0), .val (.int x1), .val (.int x2), .val (.int (2 : Int32)), .val (.int ec), .val (.int gn), .val (.int cl), .val (.ref sp), .val (.ref b343), .val (.ref pp), .val (.ref g1), .unset]) rfl k) ?_
            show own_Go p e below _ T425 (mkF m 164 #[.val (.int p1), .val (.int p2), .val (.int p3), .val (.int x0), .val (.int x1), .val (.int x2), .val (.int (2 : Int32)), .val (.int ec), .val (.int gn), .val (.int cl), .val (.ref sp), .val (.ref b343), .val (.ref pp), .val (.ref g1), .unset] [])
            refine own_by (fun _ k => XS.aload X425.here hx rfl (hb hby at_164) rfl rfl k) ?_
            show own_Go p e below _ T425 (mkF m 166 #[.val (.int p1), .val (.int p2), .val (.int p3), .val (.int x0), .val (.int x1), .val (.int x2), .val (.int (2 : Int32)), .val (.int ec), .val (.int gn), .val (.int cl), .val (.ref sp), .val (.ref b343), .val (.ref pp), .val (.ref g1), .unset] [(.ref g1)])
            refine own_by (fun _ k => XS.ifnullNo X425.here hx rfl (hb hby at_166) rfl k) ?_
            show own_Go p e below _ T425 (mkF m 169 #[.val (.int p1), .val (.int p2), .val (.int p3), .val (.int x0), .val (.int x1), .val (.int x2), .val (.int (2 : Int32)), .val (.int ec), .val (.int gn), .val (.int cl), .val (.ref sp), .val (.ref b343), .val (.ref pp), .val (.ref g1), .unset] [])
            refine own_by (fun _ k => XS.aload X425.here hx rfl (hb hby at_169) rfl rfl k) ?_
            show own_Go p e below _ T425 (mkF m 171 #[.val (.int p1), .val (.int p2), .val (.int p3), .val (.int x0), .val (.int x1), .val (.int x2), .val (.int (2 : Int32)), .val (.int ec), .val (.int gn), .val (.int cl), .val (.ref sp), .val (.ref b343), .val (.ref pp), .val (.ref g1), .unset] [(.ref g1)])
            refine own_by (fun _ k => XS.aload X425.here hx rfl (hb hby at_171) rfl rfl k) ?_
            show own_Go p e below _ T425 (mkF m 173 #[.val (.int p1), .val (.int p2), .val (.int p3), .val (.int x0), .val (.int x1), .val (.int x2), .val (.int (2 : Int32)), .val (.int ec), .val (.int gn), .val (.int cl), .val (.ref sp), .val (.ref b343), .val (.ref pp), .val (.ref g1), .unset] [(.ref pp), (.ref g1)])
            refine own_by (fun _ k => Jvm.RoadKit.acmp (g := (mkF m 173 #[.val (.int p1), .val (.int p2), .val (.int p3), .val (.int x0), .val (.int x1), .val (.int x2), .val (.int (2 : Int32)), .val (.int ec), .val (.int gn), .val (.int cl), .val (.ref sp), .val (.ref b343), .val (.ref pp), .val (.ref g1), .unset] [(.ref pp), (.ref g1)])) X425 hx rfl rfl rfl (pc0 := 173) (pc' := 176) (same := false) rfl (hb hby at_173) rfl (decide_eq_false fun q => nepp1.symm (Value.ref.inj q)) (by decide) (by decide) k) ?_
            show own_Go p e below _ T425 (mkF m 176 #[.val (.int p1), .val (.int p2), .val (.int p3), .val (.int x0), .val (.int x1), .val (.int x2), .val (.int (2 : Int32)), .val (.int ec), .val (.int gn), .val (.int cl), .val (.ref sp), .val (.ref b343), .val (.ref pp), .val (.ref g1), .unset] [])
            refine own_by (fun _ k => XS.aload X425.here hx rfl (hb hby at_176) rfl rfl k) ?_
            show own_Go p e below _ T425 (mkF m 178 #[.val (.int p1), .val (.int p2), .val (.int p3), .val (.int x0), .val (.int x1), .val (.int x2), .val (.int (2 : Int32)), .val (.int ec), .val (.int gn), .val (.int cl), .val (.ref sp), .val (.ref b343), .val (.ref pp), .val (.ref g1), .unset] [(.ref g1)])
            refine own_by (fun _ k => XS.iload X425.here hx rfl (hb hby at_178) rfl k) ?_
            show own_Go p e below _ T425 (mkF m 180 #[.val (.int p1), .val (.int p2), .val (.int p3), .val (.int x0), .val (.int x1), .val (.int x2), .val (.int (2 : Int32)), .val (.int ec), .val (.int gn), .val (.int cl), .val (.ref sp), .val (.ref b343), .val (.ref pp), .val (.ref g1), .unset] [(.int (2 : Int32)), (.ref g1)])
            refine own_by (fun _ k => XS.iloadN X425.here hx rfl (hb hby at_180) rfl k) ?_
            show own_Go p e below _ T425 (mkF m 181 #[.val (.int p1), .val (.int p2), .val (.int p3), .val (.int x0), .val (.int x1), .val (.int x2), .val (.int (2 : Int32)), .val (.int ec), .val (.int gn), .val (.int cl), .val (.ref sp), .val (.ref b343), .val (.ref pp), .val (.ref g1), .unset] [(.int x0), (.int (2 : Int32)), (.ref g1)])
            refine own_by (fun _ k => XS.iload X425.here hx rfl (hb hby at_181) rfl k) ?_
            show own_Go p e below _ T425 (mkF m 183 #[.val (.int p1), .val (.int p2), .val (.int p3), .val (.int x0), .val (.int x1), .val (.int x2), .val (.int (2 : Int32)), .val (.int ec), .val (.int gn), .val (.int cl), .val (.ref sp), .val (.ref b343), .val (.ref pp), .val (.ref g1), .unset] [(.int x1), (.int x0), (.int (2 : Int32)), (.ref g1)])
            refine own_by (fun _ k => XS.iload X425.here hx rfl (hb hby at_183) rfl k) ?_
            show own_Go p e below _ T425 (mkF m 185 #[.val (.int p1), .val (.int p2), .val (.int p3), .val (.int x0), .val (.int x1), .val (.int x2), .val (.int (2 : Int32)), .val (.int ec), .val (.int gn), .val (.int cl), .val (.ref sp), .val (.ref b343), .val (.ref pp), .val (.ref g1), .unset] [(.int x2), (.int x1), (.int x0), (.int (2 : Int32)), (.ref g1)])
            obtain ⟨_, T426, L426, X426, ⟨rfl, N426q, e426⟩, st426⟩ := own_callS X425 hx hZ hown (y := (⟨"watchword/PasswordCallbackGetPasswordPinLaw", "same", "([CICCC)Z"⟩ : MethodName)) (hw _ (List.mem_of_getElem? (i := 71) rfl)) (hw _ (List.mem_of_getElem? (i := 72) rfl)) (hw _ (List.mem_of_getElem? (i := 46) rfl)) (hw _ (List.mem_of_getElem? (i := 73) rfl)) (by decide) (argsL := [(.ref g1), (.int (2 : Int32)), (.int x0), (.int x1), (.int x2)]) (rest := []) rfl (rm12_2 l Z a0 hw [] g1 kp x0 x1 x2 T425.heap n0 Z425 Vg1) (g := (mkF m 185 #[.val (.int p1), .val (.int p2), .val (.int p3), .val (.int x0), .val (.int x1), .val (.int x2), .val (.int (2 : Int32)), .val (.int ec), .val (.int gn), .val (.int cl), .val (.ref sp), .val (.ref b343), .val (.ref pp), .val (.ref g1), .unset] [(.int x2), (.int x1), (.int x0), (.int (2 : Int32)), (.ref g1)])) rfl (by rw [hml]; rfl) (lenOf pd_10 rfl) rfl (W := 0) (by show 2 * 0 + _ ≤ _; exact Nat.le_of_eq rfl) (hb hby at_185) (by decide) (by decide) (by decide) (by decide)
            have N426 := Fr.app N425 N426q
            refine own_by st426 ?_
            show own_Go p e below _ T426 (mkF m 188 #[.val (.int p1), .val (.int p2), .val (.int p3), .val (.int x0), .val (.int x1), .val (.int x2), .val (.int (2 : Int32)), .val (.int ec), .val (.int gn), .val (.int cl), .val (.ref sp), .val (.ref b343), .val (.ref pp), .val (.ref g1), .unset] [(.int (1 : Int32))])
            refine own_by (fun _ k => XS.ifYes X426.here hx rfl (pc0 := 188) (pc' := 193) rfl (hb hby at_188) rfl ((if0 _ _).trans (feq (by decide : ¬ ((1 : Int32) = (0 : Int32)))).2) (by decide) (by decide) k) ?_
            show own_Go p e below _ T426 (mkF m 193 #[.val (.int p1), .val (.int p2), .val (.int p3), .val (.int x0), .val (.int x1), .val (.int x2), .val (.int (2 : Int32)), .val (.int ec), .val (.int gn), .val (.int cl), .val (.ref sp), .val (.ref b343), .val (.ref pp), .val (.ref g1), .unset] [])
            refine own_by (fun _ k => XS.aload X426.here hx rfl (hb hby at_193) rfl rfl k) ?_
            show own_Go p e below _ T426 (mkF m 195 #[.val (.int p1), .val (.int p2), .val (.int p3), .val (.int x0), .val (.int x1), .val (.int x2), .val (.int (2 : Int32)), .val (.int ec), .val (.int gn), .val (.int cl), .val (.ref sp), .val (.ref b343), .val (.ref pp), .val (.ref g1), .unset] [(.ref g1)])
            have f427 := (f424.keep Kg1)
            have f428 := (f423.keep Kg1)
            obtain ⟨_, T429, L429, X429, ⟨rfl, N429q, Kf2⟩, st429⟩ := own_callS X426 hx hZ hown (y := (⟨"watchword/PasswordCallbackGetPasswordPinLaw", "flip", "([C)V"⟩ : MethodName)) (hw _ (List.mem_of_getElem? (i := 68) rfl)) (hw _ (List.mem_of_getElem? (i := 69) rfl)) (hw _ (List.mem_of_getElem? (i := 46) rfl)) (hw _ (List.mem_of_getElem? (i := 70) rfl)) (by decide) (argsL := [(.ref g1)]) (rest := []) e426 (rm11_2 l Z a0 hw [] g1 kp x0 x1 T425.heap n0 Z425 og_g1 Vg1) (g := (mkF m 195 #[.val (.int p1), .val (.int p2), .val (.int p3), .val (.int x0), .val (.int x1), .val (.int x2), .val (.int (2 : Int32)), .val (.int ec), .val (.int gn), .val (.int cl), .val (.ref sp), .val (.ref b343), .val (.ref pp), .val (.ref g1), .unset] [(.ref g1)])) rfl (by rw [hml]; rfl) (lenOf pd_9 rfl) rfl (W := 0) (by show 2 * 0 + _ ≤ _; exact Nat.le_of_eq rfl) (hb hby at_195) (by decide) (by decide) (by decide) (by decide)
            have N429 := Fr.app N426 N429q
            refine own_by st429 ?_
            show own_Go p e below _ T429 (mkF m 198 #[.val (.int p1), .val (.int p2), .val (.int p3), .val (.int x0), .val (.int x1), .val (.int x2), .val (.int (2 : Int32)), .val (.int ec), .val (.int gn), .val (.int cl), .val (.ref sp), .val (.ref b343), .val (.ref pp), .val (.ref g1), .unset] [])
            have Z429 : n0 ≤ T429.heap.size := Nat.le_trans Z425 Kf2.1
            have lg1 : g1 < T429.heap.size := Nat.lt_of_lt_of_le Vg1.lt Kf2.1
            have lpp2 : pp < T429.heap.size := Nat.lt_of_lt_of_le lpp1 Kf2.1
            refine own_by (fun _ k => XS.aload X429.here hx rfl (hb hby at_198) rfl rfl k) ?_
            show own_Go p e below _ T429 (mkF m 200 #[.val (.int p1), .val (.int p2), .val (.int p3), .val (.int x0), .val (.int x1), .val (.int x2), .val (.int (2 : Int32)), .val (.int ec), .val (.int gn), .val (.int cl), .val (.ref sp), .val (.ref b343), .val (.ref pp), .val (.ref g1), .unset] [(.ref b343)])
            have f430 := ((f421.keep Kg1 nin0).keep Kf2 (ninS ne_b343_g1 nin0))
            have f431 := ((f422.keep Kg1 nin0).keep Kf2 (ninS ne_qq_g1 nin0))
            have f432 := (f428.keep Kf2)
            have f433 := (f427.keep Kf2)
            obtain ⟨_, T434, L434, X434, ⟨g2, rfl, N434q, Kg2, sg2, Eg2, Vg2⟩, st434⟩ := own_callV X429 hx hZ hown (y := (⟨"watchword/PasswordCallback", "getPassword", "()[C"⟩ : MethodName)) (C := "watchword/PasswordCallback") (hw _ (List.mem_of_getElem? (i := 37) rfl)) (hw _ (List.mem_of_getElem? (i := 38) rfl)) (hw _ (List.mem_of_getElem? (i := 40) rfl)) (hw _ (List.mem_of_getElem? (i := 39) rfl)) (hw _ (List.mem_of_getElem? (i := 28) rfl)) (hw _ (List.mem_of_getElem? (i := 41) rfl)) (by decide) (a := b343) f433 (argsL := []) (rest := []) rfl (rm7_2 l Z a0 hw [] b343 qq kp x0 x1 T429.heap n0 Z429 f430 f431 f432) (g := (mkF m 200 #[.val (.int p1), .val (.int p2), .val (.int p3), .val (.int x0), .val (.int x1), .val (.int x2), .val (.int (2 : Int32)), .val (.int ec), .val (.int gn), .val (.int cl), .val (.ref sp), .val (.ref b343), .val (.ref pp), .val (.ref g1), .unset] [(.ref b343)])) rfl (by rw [hml]; rfl) (lenOf pd_7 rfl) rfl (W := 0) (by show 2 * 0 + _ ≤ _; exact Nat.le_of_eq rfl) (hb hby at_200) (by decide) (by decide) (by decide) (by decide)
            have N434 := Fr.app N429 N434q
            refine own_by st434 ?_
            show own_Go p e below _ T434 (mkF m 203 #[.val (.int p1), .val (.int p2), .val (.int p3), .val (.int x0), .val (.int x1), .val (.int x2), .val (.int (2 : Int32)), .val (.int ec), .val (.int gn), .val (.int cl), .val (.ref sp), .val (.ref b343), .val (.ref pp), .val (.ref g1), .unset] [(.ref g2)])
            have ne_b343_g2 : b343 ≠ g2 := Nat.ne_of_lt (Nat.lt_of_lt_of_le f433.lt sg2)
            have ne_qq_g2 : qq ≠ g2 := Nat.ne_of_lt (Nat.lt_of_lt_of_le f432.lt sg2)
            have og_g2 : n0 ≤ g2 := Nat.le_trans Z429 sg2
            have Z434 : n0 ≤ T434.heap.size := Nat.le_trans Z429 Kg2.1
            have neg2 : g1 ≠ g2 := Nat.ne_of_lt (Nat.lt_of_lt_of_le lg1 sg2)
            have nepp2 : pp ≠ g2 := Nat.ne_of_lt (Nat.lt_of_lt_of_le lpp2 sg2)
            refine own_by (fun _ k => XS.astore X434.here hx rfl (hb hby at_203) rfl rfl (l' := #[.val (.int p1), .val (.int p2), .val (.int p3), .val (.int x0), .val (.int x1), .val (.int x2), .val (.int (2 : Int32)), .val (.int ec), .val (.int gn), .val (.int cl), .val (.ref sp), .val (.ref b343), .val (.ref pp), .val (.ref g1), .val (.ref g2)]) rfl k) ?_
            show own_Go p e below _ T434 (mkF m 205 #[.val (.int p1), .val (.int p2), .val (.int p3), .val (.int x0), .val (.int x1), .val (.int x2), .val (.int (2 : Int32)), .val (.int ec), .val (.int gn), .val (.int cl), .val (.ref sp), .val (.ref b343), .val (.ref pp), .val (.ref g1), .val (.ref g2)] [])
            refine own_by (fun _ k => XS.aload X434.here hx rfl (hb hby at_205) rfl rfl k) ?_
            show own_Go p e below _ T434 (mkF m 207 #[.val (.int p1), .val (.int p2), .val (.int p3), .val (.int x0), .val (.int x1), .val (.int x2), .val (.int (2 : Int32)), .val (.int ec), .val (.int gn), .val (.int cl), .val (.ref sp), .val (.ref b343), .val (.ref pp), .val (.ref g1), .val (.ref g2)] [(.ref g2)])
            refine own_by (fun _ k => XS.ifnullNo X434.here hx rfl (hb hby at_207) rfl k) ?_
            show own_Go p e below _ T434 (mkF m 210 #[.val (.int p1), .val (.int p2), .val (.int p3), .val (.int x0), .val (.int x1), .val (.int x2), .val (.int (2 : Int32)), .val (.int ec), .val (.int gn), .val (.int cl), .val (.ref sp), .val (.ref b343), .val (.ref pp), .val (.ref g1), .val (.ref g2)] [])
            refine own_by (fun _ k => XS.aload X434.here hx rfl (hb hby at_210) rfl rfl k) ?_
            show own_Go p e below _ T434 (mkF m 212 #[.val (.int p1), .val (.int p2), .val (.int p3), .val (.int x0), .val (.int x1), .val (.int x2), .val (.int (2 : Int32)), .val (.int ec), .val (.int gn), .val (.int cl), .val (.ref sp), .val (.ref b343), .val (.ref pp), .val (.ref g1), .val (.ref g2)] [(.ref g2)])
            refine own_by (fun _ k => XS.aload X434.here hx rfl (hb hby at_212) rfl rfl k) ?_
            show own_Go p e below _ T434 (mkF m 214 #[.val (.int p1), .val (.int p2), .val (.int p3), .val (.int x0), .val (.int x1), .val (.int x2), .val (.int (2 : Int32)), .val (.int ec), .val (.int gn), .val (.int cl), .val (.ref sp), .val (.ref b343), .val (.ref pp), .val (.ref g1), .val (.ref g2)] [(.ref g1), (.ref g2)])
            refine own_by (fun _ k => Jvm.RoadKit.acmp (g := (mkF m 214 #[.val (.int p1), .val (.int p2), .val (.int p3), .val (.int x0), .val (.int x1), .val (.int x2), .val (.int (2 : Int32)), .val (.int ec), .val (.int gn), .val (.int cl), .val (.ref sp), .val (.ref b343), .val (.ref pp), .val (.ref g1), .val (.ref g2)] [(.ref g1), (.ref g2)])) X434 hx rfl rfl rfl (pc0 := 214) (pc' := 217) (same := false) rfl (hb hby at_214) rfl (decide_eq_false fun q => neg2.symm (Value.ref.inj q)) (by decide) (by decide) k) ?_
            show own_Go p e below _ T434 (mkF m 217 #[.val (.int p1), .val (.int p2), .val (.int p3), .val (.int x0), .val (.int x1), .val (.int x2), .val (.int (2 : Int32)), .val (.int ec), .val (.int gn), .val (.int cl), .val (.ref sp), .val (.ref b343), .val (.ref pp), .val (.ref g1), .val (.ref g2)] [])
            refine own_by (fun _ k => XS.aload X434.here hx rfl (hb hby at_217) rfl rfl k) ?_
            show own_Go p e below _ T434 (mkF m 219 #[.val (.int p1), .val (.int p2), .val (.int p3), .val (.int x0), .val (.int x1), .val (.int x2), .val (.int (2 : Int32)), .val (.int ec), .val (.int gn), .val (.int cl), .val (.ref sp), .val (.ref b343), .val (.ref pp), .val (.ref g1), .val (.ref g2)] [(.ref g2)])
            refine own_by (fun _ k => XS.aload X434.here hx rfl (hb hby at_219) rfl rfl k) ?_
            show own_Go p e below _ T434 (mkF m 221 #[.val (.int p1), .val (.int p2), .val (.int p3), .val (.int x0), .val (.int x1), .val (.int x2), .val (.int (2 : Int32)), .val (.int ec), .val (.int gn), .val (.int cl), .val (.ref sp), .val (.ref b343), .val (.ref pp), .val (.ref g1), .val (.ref g2)] [(.ref pp), (.ref g2)])
            refine own_by (fun _ k => Jvm.RoadKit.acmp (g := (mkF m 221 #[.val (.int p1), .val (.int p2), .val (.int p3), .val (.int x0), .val (.int x1), .val (.int x2), .val (.int (2 : Int32)), .val (.int ec), .val (.int gn), .val (.int cl), .val (.ref sp), .val (.ref b343), .val (.ref pp), .val (.ref g1), .val (.ref g2)] [(.ref pp), (.ref g2)])) X434 hx rfl rfl rfl (pc0 := 221) (pc' := 224) (same := false) rfl (hb hby at_221) rfl (decide_eq_false fun q => nepp2.symm (Value.ref.inj q)) (by decide) (by decide) k) ?_
            show own_Go p e below _ T434 (mkF m 224 #[.val (.int p1), .val (.int p2), .val (.int p3), .val (.int x0), .val (.int x1), .val (.int x2), .val (.int (2 : Int32)), .val (.int ec), .val (.int gn), .val (.int cl), .val (.ref sp), .val (.ref b343), .val (.ref pp), .val (.ref g1), .val (.ref g2)] [])
            refine own_by (fun _ k => XS.aload X434.here hx rfl (hb hby at_224) rfl rfl k) ?_
            show own_Go p e below _ T434 (mkF m 226 #[.val (.int p1), .val (.int p2), .val (.int p3), .val (.int x0), .val (.int x1), .val (.int x2), .val (.int (2 : Int32)), .val (.int ec), .val (.int gn), .val (.int cl), .val (.ref sp), .val (.ref b343), .val (.ref pp), .val (.ref g1), .val (.ref g2)] [(.ref g2)])
            refine own_by (fun _ k => XS.iload X434.here hx rfl (hb hby at_226) rfl k) ?_
            show own_Go p e below _ T434 (mkF m 228 #[.val (.int p1), .val (.int p2), .val (.int p3), .val (.int x0), .val (.int x1), .val (.int x2), .val (.int (2 : Int32)), .val (.int ec), .val (.int gn), .val (.int cl), .val (.ref sp), .val (.ref b343), .val (.ref pp), .val (.ref g1), .val (.ref g2)] [(.int (2 : Int32)), (.ref g2)])
            refine own_by (fun _ k => XS.iloadN X434.here hx rfl (hb hby at_228) rfl k) ?_
            show own_Go p e below _ T434 (mkF m 229 #[.val (.int p1), .val (.int p2), .val (.int p3), .val (.int x0), .val (.int x1), .val (.int x2), .val (.int (2 : Int32)), .val (.int ec), .val (.int gn), .val (.int cl), .val (.ref sp), .val (.ref b343), .val (.ref pp), .val (.ref g1), .val (.ref g2)] [(.int x0), (.int (2 : Int32)), (.ref g2)])
            refine own_by (fun _ k => XS.iload X434.here hx rfl (hb hby at_229) rfl k) ?_
            show own_Go p e below _ T434 (mkF m 231 #[.val (.int p1), .val (.int p2), .val (.int p3), .val (.int x0), .val (.int x1), .val (.int x2), .val (.int (2 : Int32)), .val (.int ec), .val (.int gn), .val (.int cl), .val (.ref sp), .val (.ref b343), .val (.ref pp), .val (.ref g1), .val (.ref g2)] [(.int x1), (.int x0), (.int (2 : Int32)), (.ref g2)])
            refine own_by (fun _ k => XS.iload X434.here hx rfl (hb hby at_231) rfl k) ?_
            show own_Go p e below _ T434 (mkF m 233 #[.val (.int p1), .val (.int p2), .val (.int p3), .val (.int x0), .val (.int x1), .val (.int x2), .val (.int (2 : Int32)), .val (.int ec), .val (.int gn), .val (.int cl), .val (.ref sp), .val (.ref b343), .val (.ref pp), .val (.ref g1), .val (.ref g2)] [(.int x2), (.int x1), (.int x0), (.int (2 : Int32)), (.ref g2)])
            obtain ⟨_, T435, L435, X435, ⟨rfl, N435q, e435⟩, st435⟩ := own_callS X434 hx hZ hown (y := (⟨"watchword/PasswordCallbackGetPasswordPinLaw", "same", "([CICCC)Z"⟩ : MethodName)) (hw _ (List.mem_of_getElem? (i := 71) rfl)) (hw _ (List.mem_of_getElem? (i := 72) rfl)) (hw _ (List.mem_of_getElem? (i := 46) rfl)) (hw _ (List.mem_of_getElem? (i := 73) rfl)) (by decide) (argsL := [(.ref g2), (.int (2 : Int32)), (.int x0), (.int x1), (.int x2)]) (rest := []) rfl (rm12_2 l Z a0 hw [] g2 kp x0 x1 x2 T434.heap n0 Z434 Vg2) (g := (mkF m 233 #[.val (.int p1), .val (.int p2), .val (.int p3), .val (.int x0), .val (.int x1), .val (.int x2), .val (.int (2 : Int32)), .val (.int ec), .val (.int gn), .val (.int cl), .val (.ref sp), .val (.ref b343), .val (.ref pp), .val (.ref g1), .val (.ref g2)] [(.int x2), (.int x1), (.int x0), (.int (2 : Int32)), (.ref g2)])) rfl (by rw [hml]; rfl) (lenOf pd_10 rfl) rfl (W := 0) (by show 2 * 0 + _ ≤ _; exact Nat.le_of_eq rfl) (hb hby at_233) (by decide) (by decide) (by decide) (by decide)
            have N435 := Fr.app N434 N435q
            refine own_by st435 ?_
            show own_Go p e below _ T435 (mkF m 236 #[.val (.int p1), .val (.int p2), .val (.int p3), .val (.int x0), .val (.int x1), .val (.int x2), .val (.int (2 : Int32)), .val (.int ec), .val (.int gn), .val (.int cl), .val (.ref sp), .val (.ref b343), .val (.ref pp), .val (.ref g1), .val (.ref g2)] [(.int (1 : Int32))])
            refine own_by (fun _ k => XS.ifYes X435.here hx rfl (pc0 := 236) (pc' := 241) rfl (hb hby at_236) rfl ((if0 _ _).trans (feq (by decide : ¬ ((1 : Int32) = (0 : Int32)))).2) (by decide) (by decide) k) ?_
            show own_Go p e below _ T435 (mkF m 241 #[.val (.int p1), .val (.int p2), .val (.int p3), .val (.int x0), .val (.int x1), .val (.int x2), .val (.int (2 : Int32)), .val (.int ec), .val (.int gn), .val (.int cl), .val (.ref sp), .val (.ref b343), .val (.ref pp), .val (.ref g1), .val (.ref g2)] [])
            refine own_by (fun _ k => XS.iload X435.here hx rfl (hb hby at_241) rfl k) ?_
            show own_Go p e below _ T435 (mkF m 243 #[.val (.int p1), .val (.int p2), .val (.int p3), .val (.int x0), .val (.int x1), .val (.int x2), .val (.int (2 : Int32)), .val (.int ec), .val (.int gn), .val (.int cl), .val (.ref sp), .val (.ref b343), .val (.ref pp), .val (.ref g1), .val (.ref g2)] [(.int cl)])
            by_cases hcl : cl = (0 : Int32)
            · refine own_by (fun _ k => XS.ifYes X435.here hx rfl (pc0 := 243) (pc' := 261) rfl (hb hby at_243) rfl ((if0 _ _).trans (teq (hcl : cl = (0 : Int32))).1) (by decide) (by decide) k) ?_
              show own_Go p e below _ T435 (mkF m 261 #[.val (.int p1), .val (.int p2), .val (.int p3), .val (.int x0), .val (.int x1), .val (.int x2), .val (.int (2 : Int32)), .val (.int ec), .val (.int gn), .val (.int cl), .val (.ref sp), .val (.ref b343), .val (.ref pp), .val (.ref g1), .val (.ref g2)] [])
              refine own_by (fun _ k => XS.iconst X435.here hx rfl (hb hby at_261) k) ?_
              show own_Go p e below _ T435 (mkF m 262 #[.val (.int p1), .val (.int p2), .val (.int p3), .val (.int x0), .val (.int x1), .val (.int x2), .val (.int (2 : Int32)), .val (.int ec), .val (.int gn), .val (.int cl), .val (.ref sp), .val (.ref b343), .val (.ref pp), .val (.ref g1), .val (.ref g2)] [(.int (1 : Int32))])
              exact own_retN X435 hx hlk hret (by simp) rfl (hb hby at_262) (by first | exact ⟨rfl, N435⟩ | (rw [e435]; exact ⟨rfl, N435⟩)) (by decide) (by decide)
            · refine own_by (fun _ k => XS.ifNo X435.here hx rfl (hb hby at_243) rfl ((if0 _ _).trans (feq (hcl : ¬ (cl = (0 : Int32)))).1) k) ?_
              show own_Go p e below _ T435 (mkF m 246 #[.val (.int p1), .val (.int p2), .val (.int p3), .val (.int x0), .val (.int x1), .val (.int x2), .val (.int (2 : Int32)), .val (.int ec), .val (.int gn), .val (.int cl), .val (.ref sp), .val (.ref b343), .val (.ref pp), .val (.ref g1), .val (.ref g2)] [])
              refine own_by (fun _ k => XS.aload X435.here hx rfl (hb hby at_246) rfl rfl k) ?_
              show own_Go p e below _ T435 (mkF m 248 #[.val (.int p1), .val (.int p2), .val (.int p3), .val (.int x0), .val (.int x1), .val (.int x2), .val (.int (2 : Int32)), .val (.int ec), .val (.int gn), .val (.int cl), .val (.ref sp), .val (.ref b343), .val (.ref pp), .val (.ref g1), .val (.ref g2)] [(.ref b343)])
              have f436 := (f433.keep Kg2)
              have f437 := (f430.keep Kg2 nin0)
              have f438 := (f431.keep Kg2 nin0)
              have f439 := (f432.keep Kg2)
              obtain ⟨_, T440, L440, X440, ⟨rfl, N440q, Kc, Ec, Fc⟩, st440⟩ := own_callV X435 hx hZ hown (y := (⟨"watchword/PasswordCallback", "clearPassword", "()V"⟩ : MethodName)) (C := "watchword/PasswordCallback") (hw _ (List.mem_of_getElem? (i := 78) rfl)) (hw _ (List.mem_of_getElem? (i := 55) rfl)) (hw _ (List.mem_of_getElem? (i := 57) rfl)) (hw _ (List.mem_of_getElem? (i := 56) rfl)) (hw _ (List.mem_of_getElem? (i := 28) rfl)) (hw _ (List.mem_of_getElem? (i := 58) rfl)) (by decide) (a := b343) f436 (argsL := []) (rest := []) e435 (rm10_2 l Z a0 hw [] b343 qq kp x0 x1 T434.heap n0 Z434 og_b343 og_qq ne_b343_qq f436 f437 f438) (g := (mkF m 248 #[.val (.int p1), .val (.int p2), .val (.int p3), .val (.int x0), .val (.int x1), .val (.int x2), .val (.int (2 : Int32)), .val (.int ec), .val (.int gn), .val (.int cl), .val (.ref sp), .val (.ref b343), .val (.ref pp), .val (.ref g1), .val (.ref g2)] [(.ref b343)])) rfl (by rw [hml]; rfl) (lenOf pd_4 rfl) rfl (W := 0) (by show 2 * 0 + _ ≤ _; exact Nat.le_of_eq rfl) (hb hby at_248) (by decide) (by decide) (by decide) (by decide)
              have N440 := Fr.app N435 N440q
              refine own_by st440 ?_
              show own_Go p e below _ T440 (mkF m 251 #[.val (.int p1), .val (.int p2), .val (.int p3), .val (.int x0), .val (.int x1), .val (.int x2), .val (.int (2 : Int32)), .val (.int ec), .val (.int gn), .val (.int cl), .val (.ref sp), .val (.ref b343), .val (.ref pp), .val (.ref g1), .val (.ref g2)] [])
              have Z440 : n0 ≤ T440.heap.size := Nat.le_trans Z434 Kc.1
              refine own_by (fun _ k => XS.aload X440.here hx rfl (hb hby at_251) rfl rfl k) ?_
              show own_Go p e below _ T440 (mkF m 253 #[.val (.int p1), .val (.int p2), .val (.int p3), .val (.int x0), .val (.int x1), .val (.int x2), .val (.int (2 : Int32)), .val (.int ec), .val (.int gn), .val (.int cl), .val (.ref sp), .val (.ref b343), .val (.ref pp), .val (.ref g1), .val (.ref g2)] [(.ref b343)])
              obtain ⟨_, T441, L441, X441, ⟨rfl, N441q, e441⟩, st441⟩ := own_callV X440 hx hZ hown (y := (⟨"watchword/PasswordCallback", "getPassword", "()[C"⟩ : MethodName)) (C := "watchword/PasswordCallback") (hw _ (List.mem_of_getElem? (i := 37) rfl)) (hw _ (List.mem_of_getElem? (i := 38) rfl)) (hw _ (List.mem_of_getElem? (i := 40) rfl)) (hw _ (List.mem_of_getElem? (i := 39) rfl)) (hw _ (List.mem_of_getElem? (i := 28) rfl)) (hw _ (List.mem_of_getElem? (i := 41) rfl)) (by decide) (a := b343) Ec (argsL := []) (rest := []) rfl (rm7z l Z a0 hw [] b343 T440.heap n0 Z440 Fc) (g := (mkF m 253 #[.val (.int p1), .val (.int p2), .val (.int p3), .val (.int x0), .val (.int x1), .val (.int x2), .val (.int (2 : Int32)), .val (.int ec), .val (.int gn), .val (.int cl), .val (.ref sp), .val (.ref b343), .val (.ref pp), .val (.ref g1), .val (.ref g2)] [(.ref b343)])) rfl (by rw [hml]; rfl) (lenOf pd_7 rfl) rfl (W := 0) (by show 2 * 0 + _ ≤ _; exact Nat.le_of_eq rfl) (hb hby at_253) (by decide) (by decide) (by decide) (by decide)
              have N441 := Fr.app N440 N441q
              refine own_by st441 ?_
              show own_Go p e below _ T441 (mkF m 256 #[.val (.int p1), .val (.int p2), .val (.int p3), .val (.int x0), .val (.int x1), .val (.int x2), .val (.int (2 : Int32)), .val (.int ec), .val (.int gn), .val (.int cl), .val (.ref sp), .val (.ref b343), .val (.ref pp), .val (.ref g1), .val (.ref g2)] [.null])
              refine own_by (fun _ k => XS.ifnullYes X441.here hx rfl (pc0 := 256) (pc' := 261) rfl (hb hby at_256) rfl (by decide) (by decide) k) ?_
              show own_Go p e below _ T441 (mkF m 261 #[.val (.int p1), .val (.int p2), .val (.int p3), .val (.int x0), .val (.int x1), .val (.int x2), .val (.int (2 : Int32)), .val (.int ec), .val (.int gn), .val (.int cl), .val (.ref sp), .val (.ref b343), .val (.ref pp), .val (.ref g1), .val (.ref g2)] [])
              refine own_by (fun _ k => XS.iconst X441.here hx rfl (hb hby at_261) k) ?_
              show own_Go p e below _ T441 (mkF m 262 #[.val (.int p1), .val (.int p2), .val (.int p3), .val (.int x0), .val (.int x1), .val (.int x2), .val (.int (2 : Int32)), .val (.int ec), .val (.int gn), .val (.int cl), .val (.ref sp), .val (.ref b343), .val (.ref pp), .val (.ref g1), .val (.ref g2)] [(.int (1 : Int32))])
              exact own_retN X441 hx hlk hret (by simp) rfl (hb hby at_262) (by first | exact ⟨rfl, N441⟩ | (rw [e441]; exact ⟨rfl, N441⟩)) (by decide) (by decide)
          · refine own_by (fun _ k => XS.ifNo X414.here hx rfl (hb hby at_115) rfl ((if0 _ _).trans (feq (hgn : ¬ (gn = (0 : Int32)))).1) k) ?_
            show own_Go p e below _ T414 (mkF m 118 #[.val (.int p1), .val (.int p2), .val (.int p3), .val (.int x0), .val (.int x1), .val (.int x2), .val (.int (2 : Int32)), .val (.int ec), .val (.int gn), .val (.int cl), .val (.ref sp), .val (.ref b343), .val (.ref pp), .unset, .unset] [])
            refine own_by (fun _ k => XS.aload X414.here hx rfl (hb hby at_118) rfl rfl k) ?_
            show own_Go p e below _ T414 (mkF m 120 #[.val (.int p1), .val (.int p2), .val (.int p3), .val (.int x0), .val (.int x1), .val (.int x2), .val (.int (2 : Int32)), .val (.int ec), .val (.int gn), .val (.int cl), .val (.ref sp), .val (.ref b343), .val (.ref pp), .unset, .unset] [(.ref b343)])
            refine own_by (fun _ k => XS.aload X414.here hx rfl (hb hby at_120) rfl rfl k) ?_
            show own_Go p e below _ T414 (mkF m 122 #[.val (.int p1), .val (.int p2), .val (.int p3), .val (.int x0), .val (.int x1), .val (.int x2), .val (.int (2 : Int32)), .val (.int ec), .val (.int gn), .val (.int cl), .val (.ref sp), .val (.ref b343), .val (.ref pp), .unset, .unset] [(.ref pp), (.ref b343)])
            have f442 := (Ei.keep Kp)
            have f443 := (Fi.keep Kp nin0)
            obtain ⟨_, T444, L444, X444, ⟨qq, rfl, N444q, Kqb, sqb, Ecb, Fcb, Eqq, Vqq⟩, st444⟩ := own_callV X414 hx hZ hown (y := (⟨"watchword/PasswordCallback", "setPassword", "([C)V"⟩ : MethodName)) (C := "watchword/PasswordCallback") (hw _ (List.mem_of_getElem? (i := 49) rfl)) (hw _ (List.mem_of_getElem? (i := 50) rfl)) (hw _ (List.mem_of_getElem? (i := 52) rfl)) (hw _ (List.mem_of_getElem? (i := 51) rfl)) (hw _ (List.mem_of_getElem? (i := 28) rfl)) (hw _ (List.mem_of_getElem? (i := 53) rfl)) (by decide) (a := b343) f442 (argsL := [(.ref pp)]) (rest := []) rfl (rm9_2 l Z a0 hw [] b343 pp kp x0 x1 T414.heap n0 Z414 og_b343 f442 f443 Vp Ep) (g := (mkF m 122 #[.val (.int p1), .val (.int p2), .val (.int p3), .val (.int x0), .val (.int x1), .val (.int x2), .val (.int (2 : Int32)), .val (.int ec), .val (.int gn), .val (.int cl), .val (.ref sp), .val (.ref b343), .val (.ref pp), .unset, .unset] [(.ref pp), (.ref b343)])) rfl (by rw [hml]; rfl) (lenOf pd_9 rfl) rfl (W := 0) (by show 2 * 0 + _ ≤ _; exact Nat.le_of_eq rfl) (hb hby at_122) (by decide) (by decide) (by decide) (by decide)
            have N444 := Fr.app N414 N444q
            refine own_by st444 ?_
            show own_Go p e below _ T444 (mkF m 125 #[.val (.int p1), .val (.int p2), .val (.int p3), .val (.int x0), .val (.int x1), .val (.int x2), .val (.int (2 : Int32)), .val (.int ec), .val (.int gn), .val (.int cl), .val (.ref sp), .val (.ref b343), .val (.ref pp), .unset, .unset] [])
            have ne_b343_qq : b343 ≠ qq := Nat.ne_of_lt (Nat.lt_of_lt_of_le f442.lt sqb)
            have ne_pp_qq : pp ≠ qq := Nat.ne_of_lt (Nat.lt_of_lt_of_le Ep.lt sqb)
            have og_qq : n0 ≤ qq := Nat.le_trans Z414 sqb
            have Z444 : n0 ≤ T444.heap.size := Nat.le_trans Z414 Kqb.1
            refine own_by (fun _ k => XS.aload X444.here hx rfl (hb hby at_125) rfl rfl k) ?_
            show own_Go p e below _ T444 (mkF m 127 #[.val (.int p1), .val (.int p2), .val (.int p3), .val (.int x0), .val (.int x1), .val (.int x2), .val (.int (2 : Int32)), .val (.int ec), .val (.int gn), .val (.int cl), .val (.ref sp), .val (.ref b343), .val (.ref pp), .unset, .unset] [(.ref b343)])
            refine own_by (fun _ k => XS.aconstNull X444.here hx rfl (hb hby at_127) k) ?_
            show own_Go p e below _ T444 (mkF m 128 #[.val (.int p1), .val (.int p2), .val (.int p3), .val (.int x0), .val (.int x1), .val (.int x2), .val (.int (2 : Int32)), .val (.int ec), .val (.int gn), .val (.int cl), .val (.ref sp), .val (.ref b343), .val (.ref pp), .unset, .unset] [.null, (.ref b343)])
            have f445 := (Ep.keep Kqb)
            obtain ⟨_, T446, L446, X446, ⟨rfl, N446q, Kc, Ec, Fc⟩, st446⟩ := own_callV X444 hx hZ hown (y := (⟨"watchword/PasswordCallback", "setPassword", "([C)V"⟩ : MethodName)) (C := "watchword/PasswordCallback") (hw _ (List.mem_of_getElem? (i := 49) rfl)) (hw _ (List.mem_of_getElem? (i := 50) rfl)) (hw _ (List.mem_of_getElem? (i := 52) rfl)) (hw _ (List.mem_of_getElem? (i := 51) rfl)) (hw _ (List.mem_of_getElem? (i := 28) rfl)) (hw _ (List.mem_of_getElem? (i := 53) rfl)) (by decide) (a := b343) Ecb (argsL := [.null]) (rest := []) rfl (rm9n_2 l Z a0 hw [] b343 qq kp x0 x1 T444.heap n0 Z444 og_b343 og_qq ne_b343_qq Ecb Fcb Vqq) (g := (mkF m 128 #[.val (.int p1), .val (.int p2), .val (.int p3), .val (.int x0), .val (.int x1), .val (.int x2), .val (.int (2 : Int32)), .val (.int ec), .val (.int gn), .val (.int cl), .val (.ref sp), .val (.ref b343), .val (.ref pp), .unset, .unset] [.null, (.ref b343)])) rfl (by rw [hml]; rfl) (lenOf pd_9 rfl) rfl (W := 0) (by show 2 * 0 + _ ≤ _; exact Nat.le_of_eq rfl) (hb hby at_128) (by decide) (by decide) (by decide) (by decide)
            have N446 := Fr.app N444 N446q
            refine own_by st446 ?_
            show own_Go p e below _ T446 (mkF m 131 #[.val (.int p1), .val (.int p2), .val (.int p3), .val (.int x0), .val (.int x1), .val (.int x2), .val (.int (2 : Int32)), .val (.int ec), .val (.int gn), .val (.int cl), .val (.ref sp), .val (.ref b343), .val (.ref pp), .unset, .unset] [])
            have Z446 : n0 ≤ T446.heap.size := Nat.le_trans Z444 Kc.1
            refine own_by (fun _ k => XS.aload X446.here hx rfl (hb hby at_131) rfl rfl k) ?_
            show own_Go p e below _ T446 (mkF m 133 #[.val (.int p1), .val (.int p2), .val (.int p3), .val (.int x0), .val (.int x1), .val (.int x2), .val (.int (2 : Int32)), .val (.int ec), .val (.int gn), .val (.int cl), .val (.ref sp), .val (.ref b343), .val (.ref pp), .unset, .unset] [(.ref b343)])
            obtain ⟨_, T447, L447, X447, ⟨rfl, N447q, e447⟩, st447⟩ := own_callV X446 hx hZ hown (y := (⟨"watchword/PasswordCallback", "getPassword", "()[C"⟩ : MethodName)) (C := "watchword/PasswordCallback") (hw _ (List.mem_of_getElem? (i := 37) rfl)) (hw _ (List.mem_of_getElem? (i := 38) rfl)) (hw _ (List.mem_of_getElem? (i := 40) rfl)) (hw _ (List.mem_of_getElem? (i := 39) rfl)) (hw _ (List.mem_of_getElem? (i := 28) rfl)) (hw _ (List.mem_of_getElem? (i := 41) rfl)) (by decide) (a := b343) Ec (argsL := []) (rest := []) rfl (rm7z l Z a0 hw [] b343 T446.heap n0 Z446 Fc) (g := (mkF m 133 #[.val (.int p1), .val (.int p2), .val (.int p3), .val (.int x0), .val (.int x1), .val (.int x2), .val (.int (2 : Int32)), .val (.int ec), .val (.int gn), .val (.int cl), .val (.ref sp), .val (.ref b343), .val (.ref pp), .unset, .unset] [(.ref b343)])) rfl (by rw [hml]; rfl) (lenOf pd_7 rfl) rfl (W := 0) (by show 2 * 0 + _ ≤ _; exact Nat.le_of_eq rfl) (hb hby at_133) (by decide) (by decide) (by decide) (by decide)
            have N447 := Fr.app N446 N447q
            refine own_by st447 ?_
            show own_Go p e below _ T447 (mkF m 136 #[.val (.int p1), .val (.int p2), .val (.int p3), .val (.int x0), .val (.int x1), .val (.int x2), .val (.int (2 : Int32)), .val (.int ec), .val (.int gn), .val (.int cl), .val (.ref sp), .val (.ref b343), .val (.ref pp), .unset, .unset] [.null])
            refine own_by (fun _ k => XS.ifnonnullNo X447.here hx rfl (hb hby at_136) rfl k) ?_
            show own_Go p e below _ T447 (mkF m 139 #[.val (.int p1), .val (.int p2), .val (.int p3), .val (.int x0), .val (.int x1), .val (.int x2), .val (.int (2 : Int32)), .val (.int ec), .val (.int gn), .val (.int cl), .val (.ref sp), .val (.ref b343), .val (.ref pp), .unset, .unset] [])
            refine own_by (fun _ k => XS.iconst X447.here hx rfl (hb hby at_139) k) ?_
            show own_Go p e below _ T447 (mkF m 140 #[.val (.int p1), .val (.int p2), .val (.int p3), .val (.int x0), .val (.int x1), .val (.int x2), .val (.int (2 : Int32)), .val (.int ec), .val (.int gn), .val (.int cl), .val (.ref sp), .val (.ref b343), .val (.ref pp), .unset, .unset] [(.int (1 : Int32))])
            refine own_by (fun _ k => XS.goto X447.here hx rfl (pc0 := 140) (pc' := 144) rfl (hb hby at_140) (by decide) (by decide) k) ?_
            show own_Go p e below _ T447 (mkF m 144 #[.val (.int p1), .val (.int p2), .val (.int p3), .val (.int x0), .val (.int x1), .val (.int x2), .val (.int (2 : Int32)), .val (.int ec), .val (.int gn), .val (.int cl), .val (.ref sp), .val (.ref b343), .val (.ref pp), .unset, .unset] [(.int (1 : Int32))])
            exact own_retN X447 hx hlk hret (by simp) rfl (hb hby at_144) (by first | exact ⟨rfl, N447⟩ | (rw [e447]; exact ⟨rfl, N447⟩)) (by decide) (by decide)
        · show own_Go p e below _ T345 (mkF m 108 #[.val (.int p1), .val (.int p2), .val (.int p3), .val (.int x0), .val (.int x1), .val (.int x2), .val (.int (p3 &&& (3 : Int32))), .val (.int ec), .val (.int gn), .val (.int cl), .val (.ref sp), .val (.ref b343), .unset, .unset, .unset] [(.int x2), (.int x1), (.int x0), (.int (p3 &&& (3 : Int32)))])
          rw [hk]
          show own_Go p e below _ T345 (mkF m 108 #[.val (.int p1), .val (.int p2), .val (.int p3), .val (.int x0), .val (.int x1), .val (.int x2), .val (.int (3 : Int32)), .val (.int ec), .val (.int gn), .val (.int cl), .val (.ref sp), .val (.ref b343), .unset, .unset, .unset] [(.int x2), (.int x1), (.int x0), (.int (3 : Int32))])
          obtain ⟨_, T448, L448, X448, ⟨pp, kp, rfl, N448q, Kp, sp', Ep, Vp⟩, st448⟩ := own_callS X345 hx hZ hown (y := (⟨"watchword/PasswordCallbackGetPasswordPinLaw", "make", "(ICCC)[C"⟩ : MethodName)) (hw _ (List.mem_of_getElem? (i := 44) rfl)) (hw _ (List.mem_of_getElem? (i := 45) rfl)) (hw _ (List.mem_of_getElem? (i := 46) rfl)) (hw _ (List.mem_of_getElem? (i := 47) rfl)) (by decide) (argsL := [(.int (3 : Int32)), (.int x0), (.int x1), (.int x2)]) (rest := []) e345 (rm8_3 l Z a0 hw [] x0 x1 x2 T344.heap n0 Z344 hn0 hn1 hn2) (g := (mkF m 108 #[.val (.int p1), .val (.int p2), .val (.int p3), .val (.int x0), .val (.int x1), .val (.int x2), .val (.int (3 : Int32)), .val (.int ec), .val (.int gn), .val (.int cl), .val (.ref sp), .val (.ref b343), .unset, .unset, .unset] [(.int x2), (.int x1), (.int x0), (.int (3 : Int32))])) rfl (by rw [hml]; rfl) (lenOf pd_8 rfl) rfl (W := 0) (by show 2 * 0 + _ ≤ _; exact Nat.le_of_eq rfl) (hb hby at_108) (by decide) (by decide) (by decide) (by decide)
          have N448 := Fr.app N345 N448q
          refine own_by st448 ?_
          show own_Go p e below _ T448 (mkF m 111 #[.val (.int p1), .val (.int p2), .val (.int p3), .val (.int x0), .val (.int x1), .val (.int x2), .val (.int (3 : Int32)), .val (.int ec), .val (.int gn), .val (.int cl), .val (.ref sp), .val (.ref b343), .unset, .unset, .unset] [(.ref pp)])
          have ne_b343_pp : b343 ≠ pp := Nat.ne_of_lt (Nat.lt_of_lt_of_le Ei.lt sp')
          have og_pp : n0 ≤ pp := Nat.le_trans Z344 sp'
          have Z448 : n0 ≤ T448.heap.size := Nat.le_trans Z344 Kp.1
          refine own_by (fun _ k => XS.astore X448.here hx rfl (hb hby at_111) rfl rfl (l' := #[.val (.int p1), .val (.int p2), .val (.int p3), .val (.int x0), .val (.int x1), .val (.int x2), .val (.int (3 : Int32)), .val (.int ec), .val (.int gn), .val (.int cl), .val (.ref sp), .val (.ref b343), .val (.ref pp), .unset, .unset]) rfl k) ?_
          show own_Go p e below _ T448 (mkF m 113 #[.val (.int p1), .val (.int p2), .val (.int p3), .val (.int x0), .val (.int x1), .val (.int x2), .val (.int (3 : Int32)), .val (.int ec), .val (.int gn), .val (.int cl), .val (.ref sp), .val (.ref b343), .val (.ref pp), .unset, .unset] [])
          refine own_by (fun _ k => XS.iload X448.here hx rfl (hb hby at_113) rfl k) ?_
          show own_Go p e below _ T448 (mkF m 115 #[.val (.int p1), .val (.int p2), .val (.int p3), .val (.int x0), .val (.int x1), .val (.int x2), .val (.int (3 : Int32)), .val (.int ec), .val (.int gn), .val (.int cl), .val (.ref sp), .val (.ref b343), .val (.ref pp), .unset, .unset] [(.int gn)])
          by_cases hgn : gn = (0 : Int32)
          · refine own_by (fun _ k => XS.ifYes X448.here hx rfl (pc0 := 115) (pc' := 145) rfl (hb hby at_115) rfl ((if0 _ _).trans (teq (hgn : gn = (0 : Int32))).1) (by decide) (by decide) k) ?_
            show own_Go p e below _ T448 (mkF m 145 #[.val (.int p1), .val (.int p2), .val (.int p3), .val (.int x0), .val (.int x1), .val (.int x2), .val (.int (3 : Int32)), .val (.int ec), .val (.int gn), .val (.int cl), .val (.ref sp), .val (.ref b343), .val (.ref pp), .unset, .unset] [])
            refine own_by (fun _ k => XS.aload X448.here hx rfl (hb hby at_145) rfl rfl k) ?_
            show own_Go p e below _ T448 (mkF m 147 #[.val (.int p1), .val (.int p2), .val (.int p3), .val (.int x0), .val (.int x1), .val (.int x2), .val (.int (3 : Int32)), .val (.int ec), .val (.int gn), .val (.int cl), .val (.ref sp), .val (.ref b343), .val (.ref pp), .unset, .unset] [(.ref b343)])
            refine own_by (fun _ k => XS.aload X448.here hx rfl (hb hby at_147) rfl rfl k) ?_
            show own_Go p e below _ T448 (mkF m 149 #[.val (.int p1), .val (.int p2), .val (.int p3), .val (.int x0), .val (.int x1), .val (.int x2), .val (.int (3 : Int32)), .val (.int ec), .val (.int gn), .val (.int cl), .val (.ref sp), .val (.ref b343), .val (.ref pp), .unset, .unset] [(.ref pp), (.ref b343)])
            have f449 := (Ei.keep Kp)
            have f450 := (Fi.keep Kp nin0)
            obtain ⟨_, T451, L451, X451, ⟨qq, rfl, N451q, Kqb, sqb, Ecb, Fcb, Eqq, Vqq⟩, st451⟩ := own_callV X448 hx hZ hown (y := (⟨"watchword/PasswordCallback", "setPassword", "([C)V"⟩ : MethodName)) (C := "watchword/PasswordCallback") (hw _ (List.mem_of_getElem? (i := 49) rfl)) (hw _ (List.mem_of_getElem? (i := 50) rfl)) (hw _ (List.mem_of_getElem? (i := 52) rfl)) (hw _ (List.mem_of_getElem? (i := 51) rfl)) (hw _ (List.mem_of_getElem? (i := 28) rfl)) (hw _ (List.mem_of_getElem? (i := 53) rfl)) (by decide) (a := b343) f449 (argsL := [(.ref pp)]) (rest := []) rfl (rm9_3 l Z a0 hw [] b343 pp kp x0 x1 x2 T448.heap n0 Z448 og_b343 f449 f450 Vp Ep) (g := (mkF m 149 #[.val (.int p1), .val (.int p2), .val (.int p3), .val (.int x0), .val (.int x1), .val (.int x2), .val (.int (3 : Int32)), .val (.int ec), .val (.int gn), .val (.int cl), .val (.ref sp), .val (.ref b343), .val (.ref pp), .unset, .unset] [(.ref pp), (.ref b343)])) rfl (by rw [hml]; rfl) (lenOf pd_9 rfl) rfl (W := 0) (by show 2 * 0 + _ ≤ _; exact Nat.le_of_eq rfl) (hb hby at_149) (by decide) (by decide) (by decide) (by decide)
            have N451 := Fr.app N448 N451q
            refine own_by st451 ?_
            show own_Go p e below _ T451 (mkF m 152 #[.val (.int p1), .val (.int p2), .val (.int p3), .val (.int x0), .val (.int x1), .val (.int x2), .val (.int (3 : Int32)), .val (.int ec), .val (.int gn), .val (.int cl), .val (.ref sp), .val (.ref b343), .val (.ref pp), .unset, .unset] [])
            have ne_b343_qq : b343 ≠ qq := Nat.ne_of_lt (Nat.lt_of_lt_of_le f449.lt sqb)
            have ne_pp_qq : pp ≠ qq := Nat.ne_of_lt (Nat.lt_of_lt_of_le Ep.lt sqb)
            have og_qq : n0 ≤ qq := Nat.le_trans Z448 sqb
            have Z451 : n0 ≤ T451.heap.size := Nat.le_trans Z448 Kqb.1
            refine own_by (fun _ k => XS.aload X451.here hx rfl (hb hby at_152) rfl rfl k) ?_
            show own_Go p e below _ T451 (mkF m 154 #[.val (.int p1), .val (.int p2), .val (.int p3), .val (.int x0), .val (.int x1), .val (.int x2), .val (.int (3 : Int32)), .val (.int ec), .val (.int gn), .val (.int cl), .val (.ref sp), .val (.ref b343), .val (.ref pp), .unset, .unset] [(.ref pp)])
            have f452 := (Vp.keep Kqb (ninS (Ne.symm ne_b343_pp) nin0))
            have f453 := (Ep.keep Kqb)
            obtain ⟨_, T454, L454, X454, ⟨rfl, N454q, Kf1⟩, st454⟩ := own_callS X451 hx hZ hown (y := (⟨"watchword/PasswordCallbackGetPasswordPinLaw", "flip", "([C)V"⟩ : MethodName)) (hw _ (List.mem_of_getElem? (i := 68) rfl)) (hw _ (List.mem_of_getElem? (i := 69) rfl)) (hw _ (List.mem_of_getElem? (i := 46) rfl)) (hw _ (List.mem_of_getElem? (i := 70) rfl)) (by decide) (argsL := [(.ref pp)]) (rest := []) rfl (rm11_3 l Z a0 hw [] pp kp x0 x1 x2 T451.heap n0 Z451 og_pp f452) (g := (mkF m 154 #[.val (.int p1), .val (.int p2), .val (.int p3), .val (.int x0), .val (.int x1), .val (.int x2), .val (.int (3 : Int32)), .val (.int ec), .val (.int gn), .val (.int cl), .val (.ref sp), .val (.ref b343), .val (.ref pp), .unset, .unset] [(.ref pp)])) rfl (by rw [hml]; rfl) (lenOf pd_9 rfl) rfl (W := 0) (by show 2 * 0 + _ ≤ _; exact Nat.le_of_eq rfl) (hb hby at_154) (by decide) (by decide) (by decide) (by decide)
            have N454 := Fr.app N451 N454q
            refine own_by st454 ?_
            show own_Go p e below _ T454 (mkF m 157 #[.val (.int p1), .val (.int p2), .val (.int p3), .val (.int x0), .val (.int x1), .val (.int x2), .val (.int (3 : Int32)), .val (.int ec), .val (.int gn), .val (.int cl), .val (.ref sp), .val (.ref b343), .val (.ref pp), .unset, .unset] [])
            have Z454 : n0 ≤ T454.heap.size := Nat.le_trans Z451 Kf1.1
            refine own_by (fun _ k => XS.aload X454.here hx rfl (hb hby at_157) rfl rfl k) ?_
            show own_Go p e below _ T454 (mkF m 159 #[.val (.int p1), .val (.int p2), .val (.int p3), .val (.int x0), .val (.int x1), .val (.int x2), .val (.int (3 : Int32)), .val (.int ec), .val (.int gn), .val (.int cl), .val (.ref sp), .val (.ref b343), .val (.ref pp), .unset, .unset] [(.ref b343)])
            have lpp : pp < T454.heap.size := Nat.lt_of_lt_of_le f452.lt Kf1.1
            have f455 := (Fcb.keep Kf1 (ninS ne_b343_pp nin0))
            have f456 := (Vqq.keep Kf1 (ninS (Ne.symm ne_pp_qq) nin0))
            have f457 := (Eqq.keep Kf1)
            have f458 := (Ecb.keep Kf1)
            obtain ⟨_, T459, L459, X459, ⟨g1, rfl, N459q, Kg1, sg1, Eg1, Vg1⟩, st459⟩ := own_callV X454 hx hZ hown (y := (⟨"watchword/PasswordCallback", "getPassword", "()[C"⟩ : MethodName)) (C := "watchword/PasswordCallback") (hw _ (List.mem_of_getElem? (i := 37) rfl)) (hw _ (List.mem_of_getElem? (i := 38) rfl)) (hw _ (List.mem_of_getElem? (i := 40) rfl)) (hw _ (List.mem_of_getElem? (i := 39) rfl)) (hw _ (List.mem_of_getElem? (i := 28) rfl)) (hw _ (List.mem_of_getElem? (i := 41) rfl)) (by decide) (a := b343) f458 (argsL := []) (rest := []) rfl (rm7_3 l Z a0 hw [] b343 qq kp x0 x1 x2 T454.heap n0 Z454 f455 f456 f457) (g := (mkF m 159 #[.val (.int p1), .val (.int p2), .val (.int p3), .val (.int x0), .val (.int x1), .val (.int x2), .val (.int (3 : Int32)), .val (.int ec), .val (.int gn), .val (.int cl), .val (.ref sp), .val (.ref b343), .val (.ref pp), .unset, .unset] [(.ref b343)])) rfl (by rw [hml]; rfl) (lenOf pd_7 rfl) rfl (W := 0) (by show 2 * 0 + _ ≤ _; exact Nat.le_of_eq rfl) (hb hby at_159) (by decide) (by decide) (by decide) (by decide)
            have N459 := Fr.app N454 N459q
            refine own_by st459 ?_
            show own_Go p e below _ T459 (mkF m 162 #[.val (.int p1), .val (.int p2), .val (.int p3), .val (.int x0), .val (.int x1), .val (.int x2), .val (.int (3 : Int32)), .val (.int ec), .val (.int gn), .val (.int cl), .val (.ref sp), .val (.ref b343), .val (.ref pp), .unset, .unset] [(.ref g1)])
            have ne_b343_g1 : b343 ≠ g1 := Nat.ne_of_lt (Nat.lt_of_lt_of_le f458.lt sg1)
            have ne_qq_g1 : qq ≠ g1 := Nat.ne_of_lt (Nat.lt_of_lt_of_le f457.lt sg1)
            have og_g1 : n0 ≤ g1 := Nat.le_trans Z454 sg1
            have Z459 : n0 ≤ T459.heap.size := Nat.le_trans Z454 Kg1.1
            have nepp1 : pp ≠ g1 := Nat.ne_of_lt (Nat.lt_of_lt_of_le lpp sg1)
            have lpp1 : pp < T459.heap.size := Nat.lt_of_lt_of_le lpp Kg1.1
            refine own_by (fun _ k => XS.astore X459.here hx rfl (hb hby at_162) rfl rfl (l' := #[.val (.int p1), .val (.int p2), .val (.int p3), .val (.int x0), .val (.int x1), .val (.int x2), .val (.int (3 : Int32)), .val (.int ec), .val (.int gn), .val (.int cl), .val (.ref sp), .val (.ref b343), .val (.ref pp), .val (.ref g1), .unset]) rfl k) ?_
            show own_Go p e below _ T459 (mkF m 164 #[.val (.int p1), .val (.int p2), .val (.int p3), .val (.int x0), .val (.int x1), .val (.int x2), .val (.int (3 : Int32)), .val (.int ec), .val (.int gn), .val (.int cl), .val (.ref sp), .val (.ref b343), .val (.ref pp), .val (.ref g1), .unset] [])
            refine own_by (fun _ k => XS.aload X459.here hx rfl (hb hby at_164) rfl rfl k) ?_
            show own_Go p e below _ T459 (mkF m 166 #[.val (.int p1), .val (.int p2), .val (.int p3), .val (.int x0), .val (.int x1), .val (.int x2), .val (.int (3 : Int32)), .val (.int ec), .val (.int gn), .val (.int cl), .val (.ref sp), .val (.ref b343), .val (.ref pp), .val (.ref g1), .unset] [(.ref g1)])
            refine own_by (fun _ k => XS.ifnullNo X459.here hx rfl (hb hby at_166) rfl k) ?_
            show own_Go p e below _ T459 (mkF m 169 #[.val (.int p1), .val (.int p2), .val (.int p3), .val (.int x0), .val (.int x1), .val (.int x2), .val (.int (3 : Int32)), .val (.int ec), .val (.int gn), .val (.int cl), .val (.ref sp), .val (.ref b343), .val (.ref pp), .val (.ref g1), .unset] [])
            refine own_by (fun _ k => XS.aload X459.here hx rfl (hb hby at_169) rfl rfl k) ?_
            show own_Go p e below _ T459 (mkF m 171 #[.val (.int p1), .val (.int p2), .val (.int p3), .val (.int x0), .val (.int x1), .val (.int x2), .val (.int (3 : Int32)), .val (.int ec), .val (.int gn), .val (.int cl), .val (.ref sp), .val (.ref b343), .val (.ref pp), .val (.ref g1), .unset] [(.ref g1)])
            refine own_by (fun _ k => XS.aload X459.here hx rfl (hb hby at_171) rfl rfl k) ?_
            show own_Go p e below _ T459 (mkF m 173 #[.val (.int p1), .val (.int p2), .val (.int p3), .val (.int x0), .val (.int x1), .val (.int x2), .val (.int (3 : Int32)), .val (.int ec), .val (.int gn), .val (.int cl), .val (.ref sp), .val (.ref b343), .val (.ref pp), .val (.ref g1), .unset] [(.ref pp), (.ref g1)])
            refine own_by (fun _ k => Jvm.RoadKit.acmp (g := (mkF m 173 #[.val (.int p1), .val (.int p2), .val (.int p3), .val (.int x0), .val (.int x1), .val (.int x2), .val (.int (3 : Int32)), .val (.int ec), .val (.int gn), .val (.int cl), .val (.ref sp), .val (.ref b343), .val (.ref pp), .val (.ref g1), .unset] [(.ref pp), (.ref g1)])) X459 hx rfl rfl rfl (pc0 := 173) (pc' := 176) (same := false) rfl (hb hby at_173) rfl (decide_eq_false fun q => nepp1.symm (Value.ref.inj q)) (by decide) (by decide) k) ?_
            show own_Go p e below _ T459 (mkF m 176 #[.val (.int p1), .val (.int p2), .val (.int p3), .val (.int x0), .val (.int x1), .val (.int x2), .val (.int (3 : Int32)), .val (.int ec), .val (.int gn), .val (.int cl), .val (.ref sp), .val (.ref b343), .val (.ref pp), .val (.ref g1), .unset] [])
            refine own_by (fun _ k => XS.aload X459.here hx rfl (hb hby at_176) rfl rfl k) ?_
            show own_Go p e below _ T459 (mkF m 178 #[.val (.int p1), .val (.int p2), .val (.int p3), .val (.int x0), .val (.int x1), .val (.int x2), .val (.int (3 : Int32)), .val (.int ec), .val (.int gn), .val (.int cl), .val (.ref sp), .val (.ref b343), .val (.ref pp), .val (.ref g1), .unset] [(.ref g1)])
            refine own_by (fun _ k => XS.iload X459.here hx rfl (hb hby at_178) rfl k) ?_
            show own_Go p e below _ T459 (mkF m 180 #[.val (.int p1), .val (.int p2), .val (.int p3), .val (.int x0), .val (.int x1), .val (.int x2), .val (.int (3 : Int32)), .val (.int ec), .val (.int gn), .val (.int cl), .val (.ref sp), .val (.ref b343), .val (.ref pp), .val (.ref g1), .unset] [(.int (3 : Int32)), (.ref g1)])
            refine own_by (fun _ k => XS.iloadN X459.here hx rfl (hb hby at_180) rfl k) ?_
            show own_Go p e below _ T459 (mkF m 181 #[.val (.int p1), .val (.int p2), .val (.int p3), .val (.int x0), .val (.int x1), .val (.int x2), .val (.int (3 : Int32)), .val (.int ec), .val (.int gn), .val (.int cl), .val (.ref sp), .val (.ref b343), .val (.ref pp), .val (.ref g1), .unset] [(.int x0), (.int (3 : Int32)), (.ref g1)])
            refine own_by (fun _ k => XS.iload X459.here hx rfl (hb hby at_181) rfl k) ?_
            show own_Go p e below _ T459 (mkF m 183 #[.val (.int p1), .val (.int p2), .val (.int p3), .val (.int x0), .val (.int x1), .val (.int x2), .val (.int (3 : Int32)), .val (.int ec), .val (.int gn), .val (.int cl), .val (.ref sp), .val (.ref b343), .val (.ref pp), .val (.ref g1), .unset] [(.int x1), (.int x0), (.int (3 : Int32)), (.ref g1)])
            refine own_by (fun _ k => XS.iload X459.here hx rfl (hb hby at_183) rfl k) ?_
            show own_Go p e below _ T459 (mkF m 185 #[.val (.int p1), .val (.int p2), .val (.int p3), .val (.int x0), .val (.int x1), .val (.int x2), .val (.int (3 : Int32)), .val (.int ec), .val (.int gn), .val (.int cl), .val (.ref sp), .val (.ref b343), .val (.ref pp), .val (.ref g1), .unset] [(.int x2), (.int x1), (.int x0), (.int (3 : Int32)), (.ref g1)])
            obtain ⟨_, T460, L460, X460, ⟨rfl, N460q, e460⟩, st460⟩ := own_callS X459 hx hZ hown (y := (⟨"watchword/PasswordCallbackGetPasswordPinLaw", "same", "([CICCC)Z"⟩ : MethodName)) (hw _ (List.mem_of_getElem? (i := 71) rfl)) (hw _ (List.mem_of_getElem? (i := 72) rfl)) (hw _ (List.mem_of_getElem? (i := 46) rfl)) (hw _ (List.mem_of_getElem? (i := 73) rfl)) (by decide) (argsL := [(.ref g1), (.int (3 : Int32)), (.int x0), (.int x1), (.int x2)]) (rest := []) rfl (rm12_3 l Z a0 hw [] g1 kp x0 x1 x2 T459.heap n0 Z459 Vg1) (g := (mkF m 185 #[.val (.int p1), .val (.int p2), .val (.int p3), .val (.int x0), .val (.int x1), .val (.int x2), .val (.int (3 : Int32)), .val (.int ec), .val (.int gn), .val (.int cl), .val (.ref sp), .val (.ref b343), .val (.ref pp), .val (.ref g1), .unset] [(.int x2), (.int x1), (.int x0), (.int (3 : Int32)), (.ref g1)])) rfl (by rw [hml]; rfl) (lenOf pd_10 rfl) rfl (W := 0) (by show 2 * 0 + _ ≤ _; exact Nat.le_of_eq rfl) (hb hby at_185) (by decide) (by decide) (by decide) (by decide)
            have N460 := Fr.app N459 N460q
            refine own_by st460 ?_
            show own_Go p e below _ T460 (mkF m 188 #[.val (.int p1), .val (.int p2), .val (.int p3), .val (.int x0), .val (.int x1), .val (.int x2), .val (.int (3 : Int32)), .val (.int ec), .val (.int gn), .val (.int cl), .val (.ref sp), .val (.ref b343), .val (.ref pp), .val (.ref g1), .unset] [(.int (1 : Int32))])
            refine own_by (fun _ k => XS.ifYes X460.here hx rfl (pc0 := 188) (pc' := 193) rfl (hb hby at_188) rfl ((if0 _ _).trans (feq (by decide : ¬ ((1 : Int32) = (0 : Int32)))).2) (by decide) (by decide) k) ?_
            show own_Go p e below _ T460 (mkF m 193 #[.val (.int p1), .val (.int p2), .val (.int p3), .val (.int x0), .val (.int x1), .val (.int x2), .val (.int (3 : Int32)), .val (.int ec), .val (.int gn), .val (.int cl), .val (.ref sp), .val (.ref b343), .val (.ref pp), .val (.ref g1), .unset] [])
            refine own_by (fun _ k => XS.aload X460.here hx rfl (hb hby at_193) rfl rfl k) ?_
            show own_Go p e below _ T460 (mkF m 195 #[.val (.int p1), .val (.int p2), .val (.int p3), .val (.int x0), .val (.int x1), .val (.int x2), .val (.int (3 : Int32)), .val (.int ec), .val (.int gn), .val (.int cl), .val (.ref sp), .val (.ref b343), .val (.ref pp), .val (.ref g1), .unset] [(.ref g1)])
            have f461 := (f458.keep Kg1)
            have f462 := (f457.keep Kg1)
            obtain ⟨_, T463, L463, X463, ⟨rfl, N463q, Kf2⟩, st463⟩ := own_callS X460 hx hZ hown (y := (⟨"watchword/PasswordCallbackGetPasswordPinLaw", "flip", "([C)V"⟩ : MethodName)) (hw _ (List.mem_of_getElem? (i := 68) rfl)) (hw _ (List.mem_of_getElem? (i := 69) rfl)) (hw _ (List.mem_of_getElem? (i := 46) rfl)) (hw _ (List.mem_of_getElem? (i := 70) rfl)) (by decide) (argsL := [(.ref g1)]) (rest := []) e460 (rm11_3 l Z a0 hw [] g1 kp x0 x1 x2 T459.heap n0 Z459 og_g1 Vg1) (g := (mkF m 195 #[.val (.int p1), .val (.int p2), .val (.int p3), .val (.int x0), .val (.int x1), .val (.int x2), .val (.int (3 : Int32)), .val (.int ec), .val (.int gn), .val (.int cl), .val (.ref sp), .val (.ref b343), .val (.ref pp), .val (.ref g1), .unset] [(.ref g1)])) rfl (by rw [hml]; rfl) (lenOf pd_9 rfl) rfl (W := 0) (by show 2 * 0 + _ ≤ _; exact Nat.le_of_eq rfl) (hb hby at_195) (by decide) (by decide) (by decide) (by decide)
            have N463 := Fr.app N460 N463q
            refine own_by st463 ?_
            show own_Go p e below _ T463 (mkF m 198 #[.val (.int p1), .val (.int p2), .val (.int p3), .val (.int x0), .val (.int x1), .val (.int x2), .val (.int (3 : Int32)), .val (.int ec), .val (.int gn), .val (.int cl), .val (.ref sp), .val (.ref b343), .val (.ref pp), .val (.ref g1), .unset] [])
            have Z463 : n0 ≤ T463.heap.size := Nat.le_trans Z459 Kf2.1
            have lg1 : g1 < T463.heap.size := Nat.lt_of_lt_of_le Vg1.lt Kf2.1
            have lpp2 : pp < T463.heap.size := Nat.lt_of_lt_of_le lpp1 Kf2.1
            refine own_by (fun _ k => XS.aload X463.here hx rfl (hb hby at_198) rfl rfl k) ?_
            show own_Go p e below _ T463 (mkF m 200 #[.val (.int p1), .val (.int p2), .val (.int p3), .val (.int x0), .val (.int x1), .val (.int x2), .val (.int (3 : Int32)), .val (.int ec), .val (.int gn), .val (.int cl), .val (.ref sp), .val (.ref b343), .val (.ref pp), .val (.ref g1), .unset] [(.ref b343)])
            have f464 := ((f455.keep Kg1 nin0).keep Kf2 (ninS ne_b343_g1 nin0))
            have f465 := ((f456.keep Kg1 nin0).keep Kf2 (ninS ne_qq_g1 nin0))
            have f466 := (f462.keep Kf2)
            have f467 := (f461.keep Kf2)
            obtain ⟨_, T468, L468, X468, ⟨g2, rfl, N468q, Kg2, sg2, Eg2, Vg2⟩, st468⟩ := own_callV X463 hx hZ hown (y := (⟨"watchword/PasswordCallback", "getPassword", "()[C"⟩ : MethodName)) (C := "watchword/PasswordCallback") (hw _ (List.mem_of_getElem? (i := 37) rfl)) (hw _ (List.mem_of_getElem? (i := 38) rfl)) (hw _ (List.mem_of_getElem? (i := 40) rfl)) (hw _ (List.mem_of_getElem? (i := 39) rfl)) (hw _ (List.mem_of_getElem? (i := 28) rfl)) (hw _ (List.mem_of_getElem? (i := 41) rfl)) (by decide) (a := b343) f467 (argsL := []) (rest := []) rfl (rm7_3 l Z a0 hw [] b343 qq kp x0 x1 x2 T463.heap n0 Z463 f464 f465 f466) (g := (mkF m 200 #[.val (.int p1), .val (.int p2), .val (.int p3), .val (.int x0), .val (.int x1), .val (.int x2), .val (.int (3 : Int32)), .val (.int ec), .val (.int gn), .val (.int cl), .val (.ref sp), .val (.ref b343), .val (.ref pp), .val (.ref g1), .unset] [(.ref b343)])) rfl (by rw [hml]; rfl) (lenOf pd_7 rfl) rfl (W := 0) (by show 2 * 0 + _ ≤ _; exact Nat.le_of_eq rfl) (hb hby at_200) (by decide) (by decide) (by decide) (by decide)
            have N468 := Fr.app N463 N468q
            refine own_by st468 ?_
            show own_Go p e below _ T468 (mkF m 203 #[.val (.int p1), .val (.int p2), .val (.int p3), .val (.int x0), .val (.int x1), .val (.int x2), .val (.int (3 : Int32)), .val (.int ec), .val (.int gn), .val (.int cl), .val (.ref sp), .val (.ref b343), .val (.ref pp), .val (.ref g1), .unset] [(.ref g2)])
            have ne_b343_g2 : b343 ≠ g2 := Nat.ne_of_lt (Nat.lt_of_lt_of_le f467.lt sg2)
            have ne_qq_g2 : qq ≠ g2 := Nat.ne_of_lt (Nat.lt_of_lt_of_le f466.lt sg2)
            have og_g2 : n0 ≤ g2 := Nat.le_trans Z463 sg2
            have Z468 : n0 ≤ T468.heap.size := Nat.le_trans Z463 Kg2.1
            have neg2 : g1 ≠ g2 := Nat.ne_of_lt (Nat.lt_of_lt_of_le lg1 sg2)
            have nepp2 : pp ≠ g2 := Nat.ne_of_lt (Nat.lt_of_lt_of_le lpp2 sg2)
            refine own_by (fun _ k => XS.astore X468.here hx rfl (hb hby at_203) rfl rfl (l' := #[.val (.int p1), .val (.int p2), .val (.int p3), .val (.int x0), .val (.int x1), .val (.int x2), .val (.int (3 : Int32)), .val (.int ec), .val (.int gn), .val (.int cl), .val (.ref sp), .val (.ref b343), .val (.ref pp), .val (.ref g1), .val (.ref g2)]) rfl k) ?_
            show own_Go p e below _ T468 (mkF m 205 #[.val (.int p1), .val (.int p2), .val (.int p3), .val (.int x0), .val (.int x1), .val (.int x2), .val (.int (3 : Int32)), .val (.int ec), .val (.int gn), .val (.int cl), .val (.ref sp), .val (.ref b343), .val (.ref pp), .val (.ref g1), .val (.ref g2)] [])
            refine own_by (fun _ k => XS.aload X468.here hx rfl (hb hby at_205) rfl rfl k) ?_
            show own_Go p e below _ T468 (mkF m 207 #[.val (.int p1), .val (.int p2), .val (.int p3), .val (.int x0), .val (.int x1), .val (.int x2), .val (.int (3 : Int32)), .val (.int ec), .val (.int gn), .val (.int cl), .val (.ref sp), .val (.ref b343), .val (.ref pp), .val (.ref g1), .val (.ref g2)] [(.ref g2)])
            refine own_by (fun _ k => XS.ifnullNo X468.here hx rfl (hb hby at_207) rfl k) ?_
            show own_Go p e below _ T468 (mkF m 210 #[.val (.int p1), .val (.int p2), .val (.int p3), .val (.int x0), .val (.int x1), .val (.int x2), .val (.int (3 : Int32)), .val (.int ec), .val (.int gn), .val (.int cl), .val (.ref sp), .val (.ref b343), .val (.ref pp), .val (.ref g1), .val (.ref g2)] [])
            refine own_by (fun _ k => XS.aload X468.here hx rfl (hb hby at_210) rfl rfl k) ?_
            show own_Go p e below _ T468 (mkF m 212 #[.val (.int p1), .val (.int p2), .val (.int p3), .val (.int x0), .val (.int x1), .val (.int x2), .val (.int (3 : Int32)), .val (.int ec), .val (.int gn), .val (.int cl), .val (.ref sp), .val (.ref b343), .val (.ref pp), .val (.ref g1), .val (.ref g2)] [(.ref g2)])
            refine own_by (fun _ k => XS.aload X468.here hx rfl (hb hby at_212) rfl rfl k) ?_
            show own_Go p e below _ T468 (mkF m 214 #[.val (.int p1), .val (.int p2), .val (.int p3), .val (.int x0), .val (.int x1), .val (.int x2), .val (.int (3 : Int32)), .val (.int ec), .val (.int gn), .val (.int cl), .val (.ref sp), .val (.ref b343), .val (.ref pp), .val (.ref g1), .val (.ref g2)] [(.ref g1), (.ref g2)])
            refine own_by (fun _ k => Jvm.RoadKit.acmp (g := (mkF m 214 #[.val (.int p1), .val (.int p2), .val (.int p3), .val (.int x0), .val (.int x1), .val (.int x2), .val (.int (3 : Int32)), .val (.int ec), .val (.int gn), .val (.int cl), .val (.ref sp), .val (.ref b343), .val (.ref pp), .val (.ref g1), .val (.ref g2)] [(.ref g1), (.ref g2)])) X468 hx rfl rfl rfl (pc0 := 214) (pc' := 217) (same := false) rfl (hb hby at_214) rfl (decide_eq_false fun q => neg2.symm (Value.ref.inj q)) (by decide) (by decide) k) ?_
            show own_Go p e below _ T468 (mkF m 217 #[.val (.int p1), .val (.int p2), .val (.int p3), .val (.int x0), .val (.int x1), .val (.int x2), .val (.int (3 : Int32)), .val (.int ec), .val (.int gn), .val (.int cl), .val (.ref sp), .val (.ref b343), .val (.ref pp), .val (.ref g1), .val (.ref g2)] [])
            refine own_by (fun _ k => XS.aload X468.here hx rfl (hb hby at_217) rfl rfl k) ?_
            show own_Go p e below _ T468 (mkF m 219 #[.val (.int p1), .val (.int p2), .val (.int p3), .val (.int x0), .val (.int x1), .val (.int x2), .val (.int (3 : Int32)), .val (.int ec), .val (.int gn), .val (.int cl), .val (.ref sp), .val (.ref b343), .val (.ref pp), .val (.ref g1), .val (.ref g2)] [(.ref g2)])
            refine own_by (fun _ k => XS.aload X468.here hx rfl (hb hby at_219) rfl rfl k) ?_
            show own_Go p e below _ T468 (mkF m 221 #[.val (.int p1), .val (.int p2), .val (.int p3), .val (.int x0), .val (.int x1), .val (.int x2), .val (.int (3 : Int32)), .val (.int ec), .val (.int gn), .val (.int cl), .val (.ref sp), .val (.ref b343), .val (.ref pp), .val (.ref g1), .val (.ref g2)] [(.ref pp), (.ref g2)])
            refine own_by (fun _ k => Jvm.RoadKit.acmp (g := (mkF m 221 #[.val (.int p1), .val (.int p2), .val (.int p3), .val (.int x0), .val (.int x1), .val (.int x2), .val (.int (3 : Int32)), .val (.int ec), .val (.int gn), .val (.int cl), .val (.ref sp), .val (.ref b343), .val (.ref pp), .val (.ref g1), .val (.ref g2)] [(.ref pp), (.ref g2)])) X468 hx rfl rfl rfl (pc0 := 221) (pc' := 224) (same := false) rfl (hb hby at_221) rfl (decide_eq_false fun q => nepp2.symm (Value.ref.inj q)) (by decide) (by decide) k) ?_
            show own_Go p e below _ T468 (mkF m 224 #[.val (.int p1), .val (.int p2), .val (.int p3), .val (.int x0), .val (.int x1), .val (.int x2), .val (.int (3 : Int32)), .val (.int ec), .val (.int gn), .val (.int cl), .val (.ref sp), .val (.ref b343), .val (.ref pp), .val (.ref g1), .val (.ref g2)] [])
            refine own_by (fun _ k => XS.aload X468.here hx rfl (hb hby at_224) rfl rfl k) ?_
            show own_Go p e below _ T468 (mkF m 226 #[.val (.int p1), .val (.int p2), .val (.int p3), .val (.int x0), .val (.int x1), .val (.int x2), .val (.int (3 : Int32)), .val (.int ec), .val (.int gn), .val (.int cl), .val (.ref sp), .val (.ref b343), .val (.ref pp), .val (.ref g1), .val (.ref g2)] [(.ref g2)])
            refine own_by (fun _ k => XS.iload X468.here hx rfl (hb hby at_226) rfl k) ?_
            show own_Go p e below _ T468 (mkF m 228 #[.val (.int p1), .val (.int p2), .val (.int p3), .val (.int x0), .val (.int x1), .val (.int x2), .val (.int (3 : Int32)), .val (.int ec), .val (.int gn), .val (.int cl), .val (.ref sp), .val (.ref b343), .val (.ref pp), .val (.ref g1), .val (.ref g2)] [(.int (3 : Int32)), (.ref g2)])
            refine own_by (fun _ k => XS.iloadN X468.here hx rfl (hb hby at_228) rfl k) ?_
            show own_Go p e below _ T468 (mkF m 229 #[.val (.int p1), .val (.int p2), .val (.int p3), .val (.int x0), .val (.int x1), .val (.int x2), .val (.int (3 : Int32)), .val (.int ec), .val (.int gn), .val (.int cl), .val (.ref sp), .val (.ref b343), .val (.ref pp), .val (.ref g1), .val (.ref g2)] [(.int x0), (.int (3 : Int32)), (.ref g2)])
            refine own_by (fun _ k => XS.iload X468.here hx rfl (hb hby at_229) rfl k) ?_
            show own_Go p e below _ T468 (mkF m 231 #[.val (.int p1), .val (.int p2), .val (.int p3), .val (.int x0), .val (.int x1), .val (.int x2), .val (.int (3 : Int32)), .val (.int ec), .val (.int gn), .val (.int cl), .val (.ref sp), .val (.ref b343), .val (.ref pp), .val (.ref g1), .val (.ref g2)] [(.int x1), (.int x0), (.int (3 : Int32)), (.ref g2)])
            refine own_by (fun _ k => XS.iload X468.here hx rfl (hb hby at_231) rfl k) ?_
            show own_Go p e below _ T468 (mkF m 233 #[.val (.int p1), .val (.int p2), .val (.int p3), .val (.int x0), .val (.int x1), .val (.int x2), .val (.int (3 : Int32)), .val (.int ec), .val (.int gn), .val (.int cl), .val (.ref sp), .val (.ref b343), .val (.ref pp), .val (.ref g1), .val (.ref g2)] [(.int x2), (.int x1), (.int x0), (.int (3 : Int32)), (.ref g2)])
            obtain ⟨_, T469, L469, X469, ⟨rfl, N469q, e469⟩, st469⟩ := own_callS X468 hx hZ hown (y := (⟨"watchword/PasswordCallbackGetPasswordPinLaw", "same", "([CICCC)Z"⟩ : MethodName)) (hw _ (List.mem_of_getElem? (i := 71) rfl)) (hw _ (List.mem_of_getElem? (i := 72) rfl)) (hw _ (List.mem_of_getElem? (i := 46) rfl)) (hw _ (List.mem_of_getElem? (i := 73) rfl)) (by decide) (argsL := [(.ref g2), (.int (3 : Int32)), (.int x0), (.int x1), (.int x2)]) (rest := []) rfl (rm12_3 l Z a0 hw [] g2 kp x0 x1 x2 T468.heap n0 Z468 Vg2) (g := (mkF m 233 #[.val (.int p1), .val (.int p2), .val (.int p3), .val (.int x0), .val (.int x1), .val (.int x2), .val (.int (3 : Int32)), .val (.int ec), .val (.int gn), .val (.int cl), .val (.ref sp), .val (.ref b343), .val (.ref pp), .val (.ref g1), .val (.ref g2)] [(.int x2), (.int x1), (.int x0), (.int (3 : Int32)), (.ref g2)])) rfl (by rw [hml]; rfl) (lenOf pd_10 rfl) rfl (W := 0) (by show 2 * 0 + _ ≤ _; exact Nat.le_of_eq rfl) (hb hby at_233) (by decide) (by decide) (by decide) (by decide)
            have N469 := Fr.app N468 N469q
            refine own_by st469 ?_
            show own_Go p e below _ T469 (mkF m 236 #[.val (.int p1), .val (.int p2), .val (.int p3), .val (.int x0), .val (.int x1), .val (.int x2), .val (.int (3 : Int32)), .val (.int ec), .val (.int gn), .val (.int cl), .val (.ref sp), .val (.ref b343), .val (.ref pp), .val (.ref g1), .val (.ref g2)] [(.int (1 : Int32))])
            refine own_by (fun _ k => XS.ifYes X469.here hx rfl (pc0 := 236) (pc' := 241) rfl (hb hby at_236) rfl ((if0 _ _).trans (feq (by decide : ¬ ((1 : Int32) = (0 : Int32)))).2) (by decide) (by decide) k) ?_
            show own_Go p e below _ T469 (mkF m 241 #[.val (.int p1), .val (.int p2), .val (.int p3), .val (.int x0), .val (.int x1), .val (.int x2), .val (.int (3 : Int32)), .val (.int ec), .val (.int gn), .val (.int cl), .val (.ref sp), .val (.ref b343), .val (.ref pp), .val (.ref g1), .val (.ref g2)] [])
            refine own_by (fun _ k => XS.iload X469.here hx rfl (hb hby at_241) rfl k) ?_
            show own_Go p e below _ T469 (mkF m 243 #[.val (.int p1), .val (.int p2), .val (.int p3), .val (.int x0), .val (.int x1), .val (.int x2), .val (.int (3 : Int32)), .val (.int ec), .val (.int gn), .val (.int cl), .val (.ref sp), .val (.ref b343), .val (.ref pp), .val (.ref g1), .val (.ref g2)] [(.int cl)])
            by_cases hcl : cl = (0 : Int32)
            · refine own_by (fun _ k => XS.ifYes X469.here hx rfl (pc0 := 243) (pc' := 261) rfl (hb hby at_243) rfl ((if0 _ _).trans (teq (hcl : cl = (0 : Int32))).1) (by decide) (by decide) k) ?_
              show own_Go p e below _ T469 (mkF m 261 #[.val (.int p1), .val (.int p2), .val (.int p3), .val (.int x0), .val (.int x1), .val (.int x2), .val (.int (3 : Int32)), .val (.int ec), .val (.int gn), .val (.int cl), .val (.ref sp), .val (.ref b343), .val (.ref pp), .val (.ref g1), .val (.ref g2)] [])
              refine own_by (fun _ k => XS.iconst X469.here hx rfl (hb hby at_261) k) ?_
              show own_Go p e below _ T469 (mkF m 262 #[.val (.int p1), .val (.int p2), .val (.int p3), .val (.int x0), .val (.int x1), .val (.int x2), .val (.int (3 : Int32)), .val (.int ec), .val (.int gn), .val (.int cl), .val (.ref sp), .val (.ref b343), .val (.ref pp), .val (.ref g1), .val (.ref g2)] [(.int (1 : Int32))])
              exact own_retN X469 hx hlk hret (by simp) rfl (hb hby at_262) (by first | exact ⟨rfl, N469⟩ | (rw [e469]; exact ⟨rfl, N469⟩)) (by decide) (by decide)
            · refine own_by (fun _ k => XS.ifNo X469.here hx rfl (hb hby at_243) rfl ((if0 _ _).trans (feq (hcl : ¬ (cl = (0 : Int32)))).1) k) ?_
              show own_Go p e below _ T469 (mkF m 246 #[.val (.int p1), .val (.int p2), .val (.int p3), .val (.int x0), .val (.int x1), .val (.int x2), .val (.int (3 : Int32)), .val (.int ec), .val (.int gn), .val (.int cl), .val (.ref sp), .val (.ref b343), .val (.ref pp), .val (.ref g1), .val (.ref g2)] [])
              refine own_by (fun _ k => XS.aload X469.here hx rfl (hb hby at_246) rfl rfl k) ?_
              show own_Go p e below _ T469 (mkF m 248 #[.val (.int p1), .val (.int p2), .val (.int p3), .val (.int x0), .val (.int x1), .val (.int x2), .val (.int (3 : Int32)), .val (.int ec), .val (.int gn), .val (.int cl), .val (.ref sp), .val (.ref b343), .val (.ref pp), .val (.ref g1), .val (.ref g2)] [(.ref b343)])
              have f470 := (f467.keep Kg2)
              have f471 := (f464.keep Kg2 nin0)
              have f472 := (f465.keep Kg2 nin0)
              have f473 := (f466.keep Kg2)
              obtain ⟨_, T474, L474, X474, ⟨rfl, N474q, Kc, Ec, Fc⟩, st474⟩ := own_callV X469 hx hZ hown (y := (⟨"watchword/PasswordCallback", "clearPassword", "()V"⟩ : MethodName)) (C := "watchword/PasswordCallback") (hw _ (List.mem_of_getElem? (i := 78) rfl)) (hw _ (List.mem_of_getElem? (i := 55) rfl)) (hw _ (List.mem_of_getElem? (i := 57) rfl)) (hw _ (List.mem_of_getElem? (i := 56) rfl)) (hw _ (List.mem_of_getElem? (i := 28) rfl)) (hw _ (List.mem_of_getElem? (i := 58) rfl)) (by decide) (a := b343) f470 (argsL := []) (rest := []) e469 (rm10_3 l Z a0 hw [] b343 qq kp x0 x1 x2 T468.heap n0 Z468 og_b343 og_qq ne_b343_qq f470 f471 f472) (g := (mkF m 248 #[.val (.int p1), .val (.int p2), .val (.int p3), .val (.int x0), .val (.int x1), .val (.int x2), .val (.int (3 : Int32)), .val (.int ec), .val (.int gn), .val (.int cl), .val (.ref sp), .val (.ref b343), .val (.ref pp), .val (.ref g1), .val (.ref g2)] [(.ref b343)])) rfl (by rw [hml]; rfl) (lenOf pd_4 rfl) rfl (W := 0) (by show 2 * 0 + _ ≤ _; exact Nat.le_of_eq rfl) (hb hby at_248) (by decide) (by decide) (by decide) (by decide)
              have N474 := Fr.app N469 N474q
              refine own_by st474 ?_
              show own_Go p e below _ T474 (mkF m 251 #[.val (.int p1), .val (.int p2), .val (.int p3), .val (.int x0), .val (.int x1), .val (.int x2), .val (.int (3 : Int32)), .val (.int ec), .val (.int gn), .val (.int cl), .val (.ref sp), .val (.ref b343), .val (.ref pp), .val (.ref g1), .val (.ref g2)] [])
              have Z474 : n0 ≤ T474.heap.size := Nat.le_trans Z468 Kc.1
              refine own_by (fun _ k => XS.aload X474.here hx rfl (hb hby at_251) rfl rfl k) ?_
              show own_Go p e below _ T474 (mkF m 253 #[.val (.int p1), .val (.int p2), .val (.int p3), .val (.int x0), .val (.int x1), .val (.int x2), .val (.int (3 : Int32)), .val (.int ec), .val (.int gn), .val (.int cl), .val (.ref sp), .val (.ref b343), .val (.ref pp), .val (.ref g1), .val (.ref g2)] [(.ref b343)])
              obtain ⟨_, T475, L475, X475, ⟨rfl, N475q, e475⟩, st475⟩ := own_callV X474 hx hZ hown (y := (⟨"watchword/PasswordCallback", "getPassword", "()[C"⟩ : MethodName)) (C := "watchword/PasswordCallback") (hw _ (List.mem_of_getElem? (i := 37) rfl)) (hw _ (List.mem_of_getElem? (i := 38) rfl)) (hw _ (List.mem_of_getElem? (i := 40) rfl)) (hw _ (List.mem_of_getElem? (i := 39) rfl)) (hw _ (List.mem_of_getElem? (i := 28) rfl)) (hw _ (List.mem_of_getElem? (i := 41) rfl)) (by decide) (a := b343) Ec (argsL := []) (rest := []) rfl (rm7z l Z a0 hw [] b343 T474.heap n0 Z474 Fc) (g := (mkF m 253 #[.val (.int p1), .val (.int p2), .val (.int p3), .val (.int x0), .val (.int x1), .val (.int x2), .val (.int (3 : Int32)), .val (.int ec), .val (.int gn), .val (.int cl), .val (.ref sp), .val (.ref b343), .val (.ref pp), .val (.ref g1), .val (.ref g2)] [(.ref b343)])) rfl (by rw [hml]; rfl) (lenOf pd_7 rfl) rfl (W := 0) (by show 2 * 0 + _ ≤ _; exact Nat.le_of_eq rfl) (hb hby at_253) (by decide) (by decide) (by decide) (by decide)
              have N475 := Fr.app N474 N475q
              refine own_by st475 ?_
              show own_Go p e below _ T475 (mkF m 256 #[.val (.int p1), .val (.int p2), .val (.int p3), .val (.int x0), .val (.int x1), .val (.int x2), .val (.int (3 : Int32)), .val (.int ec), .val (.int gn), .val (.int cl), .val (.ref sp), .val (.ref b343), .val (.ref pp), .val (.ref g1), .val (.ref g2)] [.null])
              refine own_by (fun _ k => XS.ifnullYes X475.here hx rfl (pc0 := 256) (pc' := 261) rfl (hb hby at_256) rfl (by decide) (by decide) k) ?_
              show own_Go p e below _ T475 (mkF m 261 #[.val (.int p1), .val (.int p2), .val (.int p3), .val (.int x0), .val (.int x1), .val (.int x2), .val (.int (3 : Int32)), .val (.int ec), .val (.int gn), .val (.int cl), .val (.ref sp), .val (.ref b343), .val (.ref pp), .val (.ref g1), .val (.ref g2)] [])
              refine own_by (fun _ k => XS.iconst X475.here hx rfl (hb hby at_261) k) ?_
              show own_Go p e below _ T475 (mkF m 262 #[.val (.int p1), .val (.int p2), .val (.int p3), .val (.int x0), .val (.int x1), .val (.int x2), .val (.int (3 : Int32)), .val (.int ec), .val (.int gn), .val (.int cl), .val (.ref sp), .val (.ref b343), .val (.ref pp), .val (.ref g1), .val (.ref g2)] [(.int (1 : Int32))])
              exact own_retN X475 hx hlk hret (by simp) rfl (hb hby at_262) (by first | exact ⟨rfl, N475⟩ | (rw [e475]; exact ⟨rfl, N475⟩)) (by decide) (by decide)
          · refine own_by (fun _ k => XS.ifNo X448.here hx rfl (hb hby at_115) rfl ((if0 _ _).trans (feq (hgn : ¬ (gn = (0 : Int32)))).1) k) ?_
            show own_Go p e below _ T448 (mkF m 118 #[.val (.int p1), .val (.int p2), .val (.int p3), .val (.int x0), .val (.int x1), .val (.int x2), .val (.int (3 : Int32)), .val (.int ec), .val (.int gn), .val (.int cl), .val (.ref sp), .val (.ref b343), .val (.ref pp), .unset, .unset] [])
            refine own_by (fun _ k => XS.aload X448.here hx rfl (hb hby at_118) rfl rfl k) ?_
            show own_Go p e below _ T448 (mkF m 120 #[.val (.int p1), .val (.int p2), .val (.int p3), .val (.int x0), .val (.int x1), .val (.int x2), .val (.int (3 : Int32)), .val (.int ec), .val (.int gn), .val (.int cl), .val (.ref sp), .val (.ref b343), .val (.ref pp), .unset, .unset] [(.ref b343)])
            refine own_by (fun _ k => XS.aload X448.here hx rfl (hb hby at_120) rfl rfl k) ?_
            show own_Go p e below _ T448 (mkF m 122 #[.val (.int p1), .val (.int p2), .val (.int p3), .val (.int x0), .val (.int x1), .val (.int x2), .val (.int (3 : Int32)), .val (.int ec), .val (.int gn), .val (.int cl), .val (.ref sp), .val (.ref b343), .val (.ref pp), .unset, .unset] [(.ref pp), (.ref b343)])
            have f476 := (Ei.keep Kp)
            have f477 := (Fi.keep Kp nin0)
            obtain ⟨_, T478, L478, X478, ⟨qq, rfl, N478q, Kqb, sqb, Ecb, Fcb, Eqq, Vqq⟩, st478⟩ := own_callV X448 hx hZ hown (y := (⟨"watchword/PasswordCallback", "setPassword", "([C)V"⟩ : MethodName)) (C := "watchword/PasswordCallback") (hw _ (List.mem_of_getElem? (i := 49) rfl)) (hw _ (List.mem_of_getElem? (i := 50) rfl)) (hw _ (List.mem_of_getElem? (i := 52) rfl)) (hw _ (List.mem_of_getElem? (i := 51) rfl)) (hw _ (List.mem_of_getElem? (i := 28) rfl)) (hw _ (List.mem_of_getElem? (i := 53) rfl)) (by decide) (a := b343) f476 (argsL := [(.ref pp)]) (rest := []) rfl (rm9_3 l Z a0 hw [] b343 pp kp x0 x1 x2 T448.heap n0 Z448 og_b343 f476 f477 Vp Ep) (g := (mkF m 122 #[.val (.int p1), .val (.int p2), .val (.int p3), .val (.int x0), .val (.int x1), .val (.int x2), .val (.int (3 : Int32)), .val (.int ec), .val (.int gn), .val (.int cl), .val (.ref sp), .val (.ref b343), .val (.ref pp), .unset, .unset] [(.ref pp), (.ref b343)])) rfl (by rw [hml]; rfl) (lenOf pd_9 rfl) rfl (W := 0) (by show 2 * 0 + _ ≤ _; exact Nat.le_of_eq rfl) (hb hby at_122) (by decide) (by decide) (by decide) (by decide)
            have N478 := Fr.app N448 N478q
            refine own_by st478 ?_
            show own_Go p e below _ T478 (mkF m 125 #[.val (.int p1), .val (.int p2), .val (.int p3), .val (.int x0), .val (.int x1), .val (.int x2), .val (.int (3 : Int32)), .val (.int ec), .val (.int gn), .val (.int cl), .val (.ref sp), .val (.ref b343), .val (.ref pp), .unset, .unset] [])
            have ne_b343_qq : b343 ≠ qq := Nat.ne_of_lt (Nat.lt_of_lt_of_le f476.lt sqb)
            have ne_pp_qq : pp ≠ qq := Nat.ne_of_lt (Nat.lt_of_lt_of_le Ep.lt sqb)
            have og_qq : n0 ≤ qq := Nat.le_trans Z448 sqb
            have Z478 : n0 ≤ T478.heap.size := Nat.le_trans Z448 Kqb.1
            refine own_by (fun _ k => XS.aload X478.here hx rfl (hb hby at_125) rfl rfl k) ?_
            show own_Go p e below _ T478 (mkF m 127 #[.val (.int p1), .val (.int p2), .val (.int p3), .val (.int x0), .val (.int x1), .val (.int x2), .val (.int (3 : Int32)), .val (.int ec), .val (.int gn), .val (.int cl), .val (.ref sp), .val (.ref b343), .val (.ref pp), .unset, .unset] [(.ref b343)])
            refine own_by (fun _ k => XS.aconstNull X478.here hx rfl (hb hby at_127) k) ?_
            show own_Go p e below _ T478 (mkF m 128 #[.val (.int p1), .val (.int p2), .val (.int p3), .val (.int x0), .val (.int x1), .val (.int x2), .val (.int (3 : Int32)), .val (.int ec), .val (.int gn), .val (.int cl), .val (.ref sp), .val (.ref b343), .val (.ref pp), .unset, .unset] [.null, (.ref b343)])
            have f479 := (Ep.keep Kqb)
            obtain ⟨_, T480, L480, X480, ⟨rfl, N480q, Kc, Ec, Fc⟩, st480⟩ := own_callV X478 hx hZ hown (y := (⟨"watchword/PasswordCallback", "setPassword", "([C)V"⟩ : MethodName)) (C := "watchword/PasswordCallback") (hw _ (List.mem_of_getElem? (i := 49) rfl)) (hw _ (List.mem_of_getElem? (i := 50) rfl)) (hw _ (List.mem_of_getElem? (i := 52) rfl)) (hw _ (List.mem_of_getElem? (i := 51) rfl)) (hw _ (List.mem_of_getElem? (i := 28) rfl)) (hw _ (List.mem_of_getElem? (i := 53) rfl)) (by decide) (a := b343) Ecb (argsL := [.null]) (rest := []) rfl (rm9n_3 l Z a0 hw [] b343 qq kp x0 x1 x2 T478.heap n0 Z478 og_b343 og_qq ne_b343_qq Ecb Fcb Vqq) (g := (mkF m 128 #[.val (.int p1), .val (.int p2), .val (.int p3), .val (.int x0), .val (.int x1), .val (.int x2), .val (.int (3 : Int32)), .val (.int ec), .val (.int gn), .val (.int cl), .val (.ref sp), .val (.ref b343), .val (.ref pp), .unset, .unset] [.null, (.ref b343)])) rfl (by rw [hml]; rfl) (lenOf pd_9 rfl) rfl (W := 0) (by show 2 * 0 + _ ≤ _; exact Nat.le_of_eq rfl) (hb hby at_128) (by decide) (by decide) (by decide) (by decide)
            have N480 := Fr.app N478 N480q
            refine own_by st480 ?_
            show own_Go p e below _ T480 (mkF m 131 #[.val (.int p1), .val (.int p2), .val (.int p3), .val (.int x0), .val (.int x1), .val (.int x2), .val (.int (3 : Int32)), .val (.int ec), .val (.int gn), .val (.int cl), .val (.ref sp), .val (.ref b343), .val (.ref pp), .unset, .unset] [])
            have Z480 : n0 ≤ T480.heap.size := Nat.le_trans Z478 Kc.1
            refine own_by (fun _ k => XS.aload X480.here hx rfl (hb hby at_131) rfl rfl k) ?_
            show own_Go p e below _ T480 (mkF m 133 #[.val (.int p1), .val (.int p2), .val (.int p3), .val (.int x0), .val (.int x1), .val (.int x2), .val (.int (3 : Int32)), .val (.int ec), .val (.int gn), .val (.int cl), .val (.ref sp), .val (.ref b343), .val (.ref pp), .unset, .unset] [(.ref b343)])
            obtain ⟨_, T481, L481, X481, ⟨rfl, N481q, e481⟩, st481⟩ := own_callV X480 hx hZ hown (y := (⟨"watchword/PasswordCallback", "getPassword", "()[C"⟩ : MethodName)) (C := "watchword/PasswordCallback") (hw _ (List.mem_of_getElem? (i := 37) rfl)) (hw _ (List.mem_of_getElem? (i := 38) rfl)) (hw _ (List.mem_of_getElem? (i := 40) rfl)) (hw _ (List.mem_of_getElem? (i := 39) rfl)) (hw _ (List.mem_of_getElem? (i := 28) rfl)) (hw _ (List.mem_of_getElem? (i := 41) rfl)) (by decide) (a := b343) Ec (argsL := []) (rest := []) rfl (rm7z l Z a0 hw [] b343 T480.heap n0 Z480 Fc) (g := (mkF m 133 #[.val (.int p1), .val (.int p2), .val (.int p3), .val (.int x0), .val (.int x1), .val (.int x2), .val (.int (3 : Int32)), .val (.int ec), .val (.int gn), .val (.int cl), .val (.ref sp), .val (.ref b343), .val (.ref pp), .unset, .unset] [(.ref b343)])) rfl (by rw [hml]; rfl) (lenOf pd_7 rfl) rfl (W := 0) (by show 2 * 0 + _ ≤ _; exact Nat.le_of_eq rfl) (hb hby at_133) (by decide) (by decide) (by decide) (by decide)
            have N481 := Fr.app N480 N481q
            refine own_by st481 ?_
            show own_Go p e below _ T481 (mkF m 136 #[.val (.int p1), .val (.int p2), .val (.int p3), .val (.int x0), .val (.int x1), .val (.int x2), .val (.int (3 : Int32)), .val (.int ec), .val (.int gn), .val (.int cl), .val (.ref sp), .val (.ref b343), .val (.ref pp), .unset, .unset] [.null])
            refine own_by (fun _ k => XS.ifnonnullNo X481.here hx rfl (hb hby at_136) rfl k) ?_
            show own_Go p e below _ T481 (mkF m 139 #[.val (.int p1), .val (.int p2), .val (.int p3), .val (.int x0), .val (.int x1), .val (.int x2), .val (.int (3 : Int32)), .val (.int ec), .val (.int gn), .val (.int cl), .val (.ref sp), .val (.ref b343), .val (.ref pp), .unset, .unset] [])
            refine own_by (fun _ k => XS.iconst X481.here hx rfl (hb hby at_139) k) ?_
            show own_Go p e below _ T481 (mkF m 140 #[.val (.int p1), .val (.int p2), .val (.int p3), .val (.int x0), .val (.int x1), .val (.int x2), .val (.int (3 : Int32)), .val (.int ec), .val (.int gn), .val (.int cl), .val (.ref sp), .val (.ref b343), .val (.ref pp), .unset, .unset] [(.int (1 : Int32))])
            refine own_by (fun _ k => XS.goto X481.here hx rfl (pc0 := 140) (pc' := 144) rfl (hb hby at_140) (by decide) (by decide) k) ?_
            show own_Go p e below _ T481 (mkF m 144 #[.val (.int p1), .val (.int p2), .val (.int p3), .val (.int x0), .val (.int x1), .val (.int x2), .val (.int (3 : Int32)), .val (.int ec), .val (.int gn), .val (.int cl), .val (.ref sp), .val (.ref b343), .val (.ref pp), .unset, .unset] [(.int (1 : Int32))])
            exact own_retN X481 hx hlk hret (by simp) rfl (hb hby at_144) (by first | exact ⟨rfl, N481⟩ | (rw [e481]; exact ⟨rfl, N481⟩)) (by decide) (by decide)
      by_cases hb62 : (((p3.toUInt32 >>> ((4 : Int32) &&& 31).toUInt32).toInt32) &&& (1 : Int32)) = (0 : Int32)
      · refine own_by (fun _ k => XS.ifYes X0.here hx rfl (pc0 := 54) (pc' := 61) rfl (hb hby at_54) rfl ((if0 _ _).trans (teq (hb62 : (((p3.toUInt32 >>> ((4 : Int32) &&& 31).toUInt32).toInt32) &&& (1 : Int32)) = (0 : Int32))).1) (by decide) (by decide) k) ?_
        show own_Go p e below _ s₁ (mkF m 61 #[.val (.int p1), .val (.int p2), .val (.int p3), .val (.int x0), .val (.int x1), .val (.int x2), .val (.int (p3 &&& (3 : Int32))), .val (.int ec), .val (.int gn), .unset, .unset, .unset, .unset, .unset, .unset] [])
        refine own_by (fun _ k => XS.iconst X0.here hx rfl (hb hby at_61) k) ?_
        show own_Go p e below _ s₁ (mkF m 62 #[.val (.int p1), .val (.int p2), .val (.int p3), .val (.int x0), .val (.int x1), .val (.int x2), .val (.int (p3 &&& (3 : Int32))), .val (.int ec), .val (.int gn), .unset, .unset, .unset, .unset, .unset, .unset] [(.int (0 : Int32))])
        exact J62 _ rfl
      · refine own_by (fun _ k => XS.ifNo X0.here hx rfl (hb hby at_54) rfl ((if0 _ _).trans (feq (hb62 : ¬ ((((p3.toUInt32 >>> ((4 : Int32) &&& 31).toUInt32).toInt32) &&& (1 : Int32)) = (0 : Int32)))).1) k) ?_
        show own_Go p e below _ s₁ (mkF m 57 #[.val (.int p1), .val (.int p2), .val (.int p3), .val (.int x0), .val (.int x1), .val (.int x2), .val (.int (p3 &&& (3 : Int32))), .val (.int ec), .val (.int gn), .unset, .unset, .unset, .unset, .unset, .unset] [])
        refine own_by (fun _ k => XS.iconst X0.here hx rfl (hb hby at_57) k) ?_
        show own_Go p e below _ s₁ (mkF m 58 #[.val (.int p1), .val (.int p2), .val (.int p3), .val (.int x0), .val (.int x1), .val (.int x2), .val (.int (p3 &&& (3 : Int32))), .val (.int ec), .val (.int gn), .unset, .unset, .unset, .unset, .unset, .unset] [(.int (1 : Int32))])
        refine own_by (fun _ k => XS.goto X0.here hx rfl (pc0 := 58) (pc' := 62) rfl (hb hby at_58) (by decide) (by decide) k) ?_
        show own_Go p e below _ s₁ (mkF m 62 #[.val (.int p1), .val (.int p2), .val (.int p3), .val (.int x0), .val (.int x1), .val (.int x2), .val (.int (p3 &&& (3 : Int32))), .val (.int ec), .val (.int gn), .unset, .unset, .unset, .unset, .unset, .unset] [(.int (1 : Int32))])
        exact J62 _ rfl
    by_cases hb47 : (((p3.toUInt32 >>> ((3 : Int32) &&& 31).toUInt32).toInt32) &&& (1 : Int32)) = (0 : Int32)
    · refine own_by (fun _ k => XS.ifYes X0.here hx rfl (pc0 := 39) (pc' := 46) rfl (hb hby at_39) rfl ((if0 _ _).trans (teq (hb47 : (((p3.toUInt32 >>> ((3 : Int32) &&& 31).toUInt32).toInt32) &&& (1 : Int32)) = (0 : Int32))).1) (by decide) (by decide) k) ?_
      show own_Go p e below _ s₁ (mkF m 46 #[.val (.int p1), .val (.int p2), .val (.int p3), .val (.int x0), .val (.int x1), .val (.int x2), .val (.int (p3 &&& (3 : Int32))), .val (.int ec), .unset, .unset, .unset, .unset, .unset, .unset, .unset] [])
      refine own_by (fun _ k => XS.iconst X0.here hx rfl (hb hby at_46) k) ?_
      show own_Go p e below _ s₁ (mkF m 47 #[.val (.int p1), .val (.int p2), .val (.int p3), .val (.int x0), .val (.int x1), .val (.int x2), .val (.int (p3 &&& (3 : Int32))), .val (.int ec), .unset, .unset, .unset, .unset, .unset, .unset, .unset] [(.int (0 : Int32))])
      exact J47 _ rfl
    · refine own_by (fun _ k => XS.ifNo X0.here hx rfl (hb hby at_39) rfl ((if0 _ _).trans (feq (hb47 : ¬ ((((p3.toUInt32 >>> ((3 : Int32) &&& 31).toUInt32).toInt32) &&& (1 : Int32)) = (0 : Int32)))).1) k) ?_
      show own_Go p e below _ s₁ (mkF m 42 #[.val (.int p1), .val (.int p2), .val (.int p3), .val (.int x0), .val (.int x1), .val (.int x2), .val (.int (p3 &&& (3 : Int32))), .val (.int ec), .unset, .unset, .unset, .unset, .unset, .unset, .unset] [])
      refine own_by (fun _ k => XS.iconst X0.here hx rfl (hb hby at_42) k) ?_
      show own_Go p e below _ s₁ (mkF m 43 #[.val (.int p1), .val (.int p2), .val (.int p3), .val (.int x0), .val (.int x1), .val (.int x2), .val (.int (p3 &&& (3 : Int32))), .val (.int ec), .unset, .unset, .unset, .unset, .unset, .unset, .unset] [(.int (1 : Int32))])
      refine own_by (fun _ k => XS.goto X0.here hx rfl (pc0 := 43) (pc' := 47) rfl (hb hby at_43) (by decide) (by decide) k) ?_
      show own_Go p e below _ s₁ (mkF m 47 #[.val (.int p1), .val (.int p2), .val (.int p3), .val (.int x0), .val (.int x1), .val (.int x2), .val (.int (p3 &&& (3 : Int32))), .val (.int ec), .unset, .unset, .unset, .unset, .unset, .unset, .unset] [(.int (1 : Int32))])
      exact J47 _ rfl
  by_cases hb32 : (((p3.toUInt32 >>> ((2 : Int32) &&& 31).toUInt32).toInt32) &&& (1 : Int32)) = (0 : Int32)
  · refine own_by (fun _ k => XS.ifYes X0.here hx rfl (pc0 := 24) (pc' := 31) rfl (hb hby at_24) rfl ((if0 _ _).trans (teq (hb32 : (((p3.toUInt32 >>> ((2 : Int32) &&& 31).toUInt32).toInt32) &&& (1 : Int32)) = (0 : Int32))).1) (by decide) (by decide) k) ?_
    show own_Go p e below _ s₁ (mkF m 31 #[.val (.int p1), .val (.int p2), .val (.int p3), .val (.int x0), .val (.int x1), .val (.int x2), .val (.int (p3 &&& (3 : Int32))), .unset, .unset, .unset, .unset, .unset, .unset, .unset, .unset] [])
    refine own_by (fun _ k => XS.iconst X0.here hx rfl (hb hby at_31) k) ?_
    show own_Go p e below _ s₁ (mkF m 32 #[.val (.int p1), .val (.int p2), .val (.int p3), .val (.int x0), .val (.int x1), .val (.int x2), .val (.int (p3 &&& (3 : Int32))), .unset, .unset, .unset, .unset, .unset, .unset, .unset, .unset] [(.int (0 : Int32))])
    exact J32 _ rfl
  · refine own_by (fun _ k => XS.ifNo X0.here hx rfl (hb hby at_24) rfl ((if0 _ _).trans (feq (hb32 : ¬ ((((p3.toUInt32 >>> ((2 : Int32) &&& 31).toUInt32).toInt32) &&& (1 : Int32)) = (0 : Int32)))).1) k) ?_
    show own_Go p e below _ s₁ (mkF m 27 #[.val (.int p1), .val (.int p2), .val (.int p3), .val (.int x0), .val (.int x1), .val (.int x2), .val (.int (p3 &&& (3 : Int32))), .unset, .unset, .unset, .unset, .unset, .unset, .unset, .unset] [])
    refine own_by (fun _ k => XS.iconst X0.here hx rfl (hb hby at_27) k) ?_
    show own_Go p e below _ s₁ (mkF m 28 #[.val (.int p1), .val (.int p2), .val (.int p3), .val (.int x0), .val (.int x1), .val (.int x2), .val (.int (p3 &&& (3 : Int32))), .unset, .unset, .unset, .unset, .unset, .unset, .unset, .unset] [(.int (1 : Int32))])
    refine own_by (fun _ k => XS.goto X0.here hx rfl (pc0 := 28) (pc' := 32) rfl (hb hby at_28) (by decide) (by decide) k) ?_
    show own_Go p e below _ s₁ (mkF m 32 #[.val (.int p1), .val (.int p2), .val (.int p3), .val (.int x0), .val (.int x1), .val (.int x2), .val (.int (p3 &&& (3 : Int32))), .unset, .unset, .unset, .unset, .unset, .unset, .unset, .unset] [(.int (1 : Int32))])
    exact J32 _ rfl
set_option maxRecDepth 65536 in
set_option maxHeartbeats 40000000 in
theorem comes_1 {Post : Tables → Env → Array Value → State → Outcome → State → Prop} (hpost : ∀ tb e args s v u, (limb_1_1.after args s (.returned v) u = true ∧ limb_1_2.after args s (.returned v) u = true ∧ True) → FrameEnd s (.returned v) u (Jvm.fieldLocs frame_1_writes args s ++ Jvm.arrayLocs frame_1_arrays args s ++ Jvm.staticLocs frame_1_statics s) 24 128 → Post tb e args s (.returned v) u) :
    ArmFor flags0 classFile x code maxLocals ret World_1 tables_1 room_1 Calls_1 rest_1 Pre_1 Post := by
  intro l hfl _ _ p e ha hc hk s m args below hf hA hF happ hP
  obtain ⟨hcalls, hrest, hpre⟩ := hP
  obtain ⟨-, -, -, hnamed, -, -, -, hat⟩ := (Spec.applies_iff hf).mp happ
  obtain ⟨hg, hn⟩ := and_e (Cond.before_iff.mp (show (Jvm.Cond.and given_1 narrow_1).before args s = true from hpre))
  obtain ⟨g1, g2⟩ := and_e hg
  obtain ⟨g3, g4⟩ := and_e g2
  obtain ⟨g5, g6⟩ := and_e g4
  obtain ⟨w0, w1, w2, rfl⟩ : ∃ w0 w1 w2 : Value, args = #[w0, w1, w2] := by
    have hs : args.size = 3 := by simpa [Cond.value, given_1] using g1
    obtain ⟨L⟩ := args
    match L, hs with
    | [w0, w1, w2], _ => exact ⟨w0, w1, w2, rfl⟩
  have hw := fun d (hd : d ∈ tables_1) => atoms_spec (ws := Jvm.Cond.code x code maxLocals ret :: tables_1) hat d (List.mem_cons_of_mem _ hd)
  have hfit : Fit s := fun {y c} hc i hi => by
    obtain ⟨ha, rfl⟩ := Array.getElem?_eq_some_iff.mp hc
    have q := List.all_eq_true.mp ((Array.all_eq_true_iff_forall_mem.mp hF) _ (Array.getElem_mem ha)) i (List.mem_range.mpr hi)
    simpa [Array.getElem?_eq_getElem hi] using q
  obtain ⟨hsets, hown0⟩ := atoms_of _ (rest_1_c_eq ▸ (show rest_1_c.before _ s = true from hrest))
  have hr0 := Cond.before_iff.mp hown0
  obtain ⟨i0, ei0⟩ := is_v g3
  obtain rfl : w0 = (.int i0) := Option.some.inj ei0
  obtain ⟨i1, ei1⟩ := is_v g5
  obtain rfl : w1 = (.int i1) := Option.some.inj ei1
  obtain ⟨i2, ei2⟩ := is_v g6
  obtain rfl : w2 = (.int i2) := Option.some.inj ei2
  obtain ⟨w1, ev⟩ := is_v (Cond.before_iff.mp (hsets _ (List.mem_of_getElem? (i := 1) rfl)))
  have SC : Sta s s.heap "java/lang/String" "COMPACT_STRINGS" "Z" (.int w1) := Sta.start ev (Or.inl (hsets _ (List.mem_of_getElem? (i := 0) rfl)))
  have hw1 : ¬ w1 = 0 := fun q => gotF (u := _) (P := w1 = 0) (by rw [Cond.eq_ints ev (Term.int_eval 0)]) (not_v (Cond.before_iff.mp (hsets _ (List.mem_of_getElem? (i := 2) rfl)))) q
  obtain ⟨n, o, h1, h2, h3, _, L, rfl, ⟨rfl, N⟩, hq⟩ := rm0 l s _ hw tables_1 i0 i1 i2 w1 s.heap s.heap.size (Nat.le_refl _) SC hw1 p e ha hc hk s m _ below hf ((Spec.applies_iff_loose hf).mp happ).1 ⟨rfl, State.Warmed39.refl s, rfl⟩ trivial
  refine ⟨n, _, h1, h2, h3, hpost _ _ _ _ _ _ ⟨Cond.after_iff.mpr rfl, Cond.after_iff.mpr (eq_i res_at (Term.int_eval (1)) rfl), trivial⟩ ⟨hq.1, hq.2.1, (hq.2.2.sift fun y hy => Or.inr (N y hy)).mono (by decide) (by decide)⟩⟩
theorem main_1_1 : Claimed_1_1 := comes_1 fun _ _ _ _ _ _ h hF => ⟨h.1, hF⟩
theorem main_1_2 : Claimed_1_2 := comes_1 fun _ _ _ _ _ _ h hF => ⟨h.2.1, hF⟩
end Jvm.Pilot.@@N@@
namespace Jvm.Pilot.@@N@@
open Jvm Jvm.ClassFile Sem Op Lib Jvm.Free Jvm.Stand Jvm.Pilot.@@N@@.Jvm.D
/-! MADE BY PROGRAM (witnessworld.py) out of the Statement's table words and the real class files: 21 classes; the members and pool entries that the words name. The judged class is class 1, her method 4. -/
namespace start1
open Jvm.ClassFile
def u (s : String) : CpInfo := .utf8 (stringToUtf16 s)
/-- a pool by its gaps: so many unusable entries, then the entry; so many at the end -/
def gap : Nat → List CpInfo → List CpInfo
  | 0, r => r
  | n + 1, r => .unusable :: gap n r
def poolList (es : List (Nat × CpInfo)) (last : Nat) : List CpInfo := es.foldr (fun e r => gap e.1 (e.2 :: r)) (gap last [])
def pool (es : List (Nat × CpInfo)) (last : Nat) : Array CpInfo := ⟨poolList es last⟩
def fileOf (pool : Array CpInfo) (this : Nat) (attrs : Array Attribute := #[]) (ms : Array MethodInfo := #[]) (fl : Nat := 33) (sup : Nat := 0) (ifs : Array Nat := #[]) (fds : Array FieldInfo := #[]) : ClassFile where
  minorVersion := 0
  majorVersion := 65
  constantPool := pool
  accessFlags := fl
  thisClass := this
  superClass := sup
  interfaces := ifs
  fields := fds
  methods := ms
  attributes := attrs
def plain (name : String) (sup : Option ClassId) : Class where
  name := name
  kind := .ordinary
  loader := none
  accessFlags := 33
  super := sup
  interfaces := #[]
  cf := none
  fields := #[]
  methods := #[]
  instanceTypes := #[]
  staticTypes := #[]
  resolved := #[]
  callSites := []
  init := .initialized
  statics := none
  mirror := none

def pool0 : Array CpInfo := pool [(5, u "<init>"), (0, u "()V"), (1, .class_ 10), (1, u "java/lang/Object"), (85, u "clone"), (0, u "()Ljava/lang/Object;")] 26

def k0c0 : Code := { maxStack := 0, maxLocals := 1, code := object_method_1_code, exceptionTable := #[], attributes := #[] }
def k0m0 : Method := { name := "<init>", desc := "()V", sig := { parameters := [], returnType := none }, accessFlags := 1, code := some k0c0 }
def k0m1 : Method := { name := "clone", desc := "()Ljava/lang/Object;", sig := { parameters := [], returnType := some (.object "java/lang/Object") }, accessFlags := 260, code := none }
/-- java/lang/Object -/
def k0 : Class := { plain "java/lang/Object" none with
  accessFlags := 33
  interfaces := #[]
  cf := some (fileOf pool0 8 #[] #[{ accessFlags := 1, nameIndex := 5, descriptorIndex := 6, attributes := #[] }, { accessFlags := 260, nameIndex := 96, descriptorIndex := 97, attributes := #[] }] 33 0 #[] #[])
  fields := #[]
  methods := #[k0m0, k0m1]
  instanceTypes := #[]
  staticTypes := #[]
  resolved := Array.replicate 124 none
  statics := none }

def pool1 : Array CpInfo := pool [(2, .class_ 4), (1, u "java/lang/Object"), (0, u "<init>"), (0, u "()V"), (0, .methodref 8 9), (0, .class_ 10), (0, .nameAndType 11 12), (0, u "java/lang/String"), (0, u "valueOf"), (0, u "(C)Ljava/lang/String;"), (0, .class_ 14), (0, u "watchword/PasswordCallback"), (0, .methodref 13 16), (0, .nameAndType 5 17), (0, u "(Ljava/lang/String;Z)V"), (0, .methodref 13 19), (0, .nameAndType 20 21), (0, u "getPassword"), (0, u "()[C"), (0, .methodref 23 24), (0, .class_ 25), (0, .nameAndType 26 27), (0, u "watchword/PasswordCallbackGetPasswordPinLaw"), (0, u "make"), (0, u "(ICCC)[C"), (0, .methodref 13 29), (0, .nameAndType 30 31), (0, u "setPassword"), (0, u "([C)V"), (0, .methodref 23 33), (0, .nameAndType 34 31), (0, u "flip"), (0, .methodref 23 36), (0, .nameAndType 37 38), (0, u "same"), (0, u "([CICCC)Z"), (0, .methodref 13 40), (0, .nameAndType 41 6), (0, u "clearPassword"), (3, u "law"), (0, u "(III)Z")] 4

def k1m0 : Method := { name := "<init>", desc := "()V", sig := { parameters := [], returnType := none }, accessFlags := 1, code := none }
def k1c1 : Code := { maxStack := 3, maxLocals := 5, code := method_2_code, exceptionTable := #[], attributes := #[] }
def k1m1 : Method := { name := "make", desc := "(ICCC)[C", sig := { parameters := [.int, .char, .char, .char], returnType := some (.array .char) }, accessFlags := 10, code := some k1c1 }
def k1c2 : Code := { maxStack := 4, maxLocals := 1, code := method_3_code, exceptionTable := #[], attributes := #[] }
def k1m2 : Method := { name := "flip", desc := "([C)V", sig := { parameters := [(.array .char)], returnType := none }, accessFlags := 10, code := some k1c2 }
def k1c3 : Code := { maxStack := 2, maxLocals := 5, code := method_4_code, exceptionTable := #[], attributes := #[] }
def k1m3 : Method := { name := "same", desc := "([CICCC)Z", sig := { parameters := [(.array .char), .int, .char, .char, .char], returnType := some .boolean }, accessFlags := 10, code := some k1c3 }
def k1c4 : Code := { maxStack := 5, maxLocals := 15, code := code, exceptionTable := #[], attributes := #[] }
def k1m4 : Method := { name := "law", desc := "(III)Z", sig := { parameters := [.int, .int, .int], returnType := some .boolean }, accessFlags := 9, code := some k1c4 }
/-- watchword/PasswordCallbackGetPasswordPinLaw -/
def k1 : Class := { plain "watchword/PasswordCallbackGetPasswordPinLaw" (some 0) with
  accessFlags := 49
  interfaces := #[]
  cf := some (fileOf pool1 23 #[] #[{ accessFlags := 1, nameIndex := 5, descriptorIndex := 6, attributes := #[] }, { accessFlags := 10, nameIndex := 26, descriptorIndex := 27, attributes := #[] }, { accessFlags := 10, nameIndex := 34, descriptorIndex := 31, attributes := #[] }, { accessFlags := 10, nameIndex := 37, descriptorIndex := 38, attributes := #[] }, { accessFlags := 9, nameIndex := 45, descriptorIndex := 46, attributes := #[] }] 49 2 #[] #[])
  fields := #[]
  methods := #[k1m0, k1m1, k1m2, k1m3, k1m4]
  instanceTypes := #[]
  staticTypes := #[]
  resolved := Array.replicate 51 none
  statics := none }

def pool2 : Array CpInfo := pool [(1, .class_ 2), (0, u "java/io/Serializable"), (0, .class_ 4), (0, u "java/lang/Object")] 2

/-- java/io/Serializable -/
def k2 : Class := { plain "java/io/Serializable" (some 0) with
  accessFlags := 1537
  interfaces := #[]
  cf := some (fileOf pool2 1 #[] #[] 1537 3 #[] #[])
  fields := #[]
  methods := #[]
  instanceTypes := #[]
  staticTypes := #[]
  resolved := Array.replicate 7 none
  statics := none }

def pool3 : Array CpInfo := pool [(1, .class_ 2), (0, u "java/lang/Comparable"), (0, .class_ 4), (0, u "java/lang/Object")] 7

/-- java/lang/Comparable -/
def k3 : Class := { plain "java/lang/Comparable" (some 0) with
  accessFlags := 1537
  interfaces := #[]
  cf := some (fileOf pool3 1 #[] #[] 1537 3 #[] #[])
  fields := #[]
  methods := #[]
  instanceTypes := #[]
  staticTypes := #[]
  resolved := Array.replicate 12 none
  statics := none }

def pool4 : Array CpInfo := pool [(2, .class_ 4), (1, u "java/lang/CharSequence"), (42, .class_ 48), (0, u "java/lang/CharSequence$1CodePointIterator"), (10, .class_ 60), (0, u "java/lang/CharSequence$1CharIterator"), (5, .class_ 67), (0, u "java/lang/Object")] 63

/-- java/lang/CharSequence -/
def k4 : Class := { plain "java/lang/CharSequence" (some 0) with
  accessFlags := 1537
  interfaces := #[]
  cf := some (fileOf pool4 2 #[.nestMembers #[47, 59]] #[] 1537 66 #[] #[])
  fields := #[]
  methods := #[]
  instanceTypes := #[]
  staticTypes := #[]
  resolved := Array.replicate 131 none
  statics := none }

def pool5 : Array CpInfo := pool [(1, .class_ 2), (0, u "java/lang/constant/Constable"), (0, .class_ 4), (0, u "java/lang/Object")] 6

/-- java/lang/constant/Constable -/
def k5 : Class := { plain "java/lang/constant/Constable" (some 0) with
  accessFlags := 1537
  interfaces := #[]
  cf := some (fileOf pool5 1 #[] #[] 1537 3 #[] #[])
  fields := #[]
  methods := #[]
  instanceTypes := #[]
  staticTypes := #[]
  resolved := Array.replicate 11 none
  statics := none }

def pool6 : Array CpInfo := pool [(1, .class_ 2), (0, u "java/lang/constant/ConstantDesc"), (0, .class_ 4), (0, u "java/lang/Object")] 32

/-- java/lang/constant/ConstantDesc -/
def k6 : Class := { plain "java/lang/constant/ConstantDesc" (some 0) with
  accessFlags := 1537
  interfaces := #[]
  cf := some (fileOf pool6 1 #[] #[] 1537 3 #[] #[])
  fields := #[]
  methods := #[]
  instanceTypes := #[]
  staticTypes := #[]
  resolved := Array.replicate 37 none
  statics := none }

def pool7 : Array CpInfo := pool [(1, .methodref 2 3), (0, .class_ 4), (0, .nameAndType 5 6), (0, u "java/lang/Object"), (0, u "<init>"), (0, u "()V"), (2, .fieldref 10 11), (0, .class_ 12), (0, .nameAndType 13 14), (0, u "java/lang/String"), (0, u "value"), (0, u "[B"), (0, .fieldref 10 16), (0, .nameAndType 17 18), (0, u "coder"), (0, u "B"), (2, u "hash"), (0, u "I"), (2, u "hashIsZero"), (0, u "Z"), (11, .fieldref 10 39), (0, .nameAndType 40 26), (0, u "COMPACT_STRINGS"), (12, u "toBytes"), (53, .class_ 109), (1, u "java/lang/StringLatin1"), (99, .methodref 10 210), (0, .nameAndType 5 211), (0, u "([BB)V"), (157, u "(C)Z"), (205, .class_ 576), (0, u "java/lang/CharSequence"), (22, u "CASE_INSENSITIVE_ORDER"), (0, u "Ljava/util/Comparator;"), (181, u "valueOf"), (0, u "(C)Ljava/lang/String;"), (231, .methodref 107 1016), (0, .nameAndType 1017 369), (0, u "canEncode"), (0, .methodref 107 1019), (0, .nameAndType 53 1020), (0, u "(C)[B"), (80, u "serialPersistentFields"), (0, u "[Ljava/io/ObjectStreamField;"), (0, .class_ 1104), (0, u "java/lang/String$CaseInsensitiveComparator"), (1, .class_ 1107), (0, u "java/io/Serializable"), (0, .class_ 1109), (0, u "java/lang/Comparable"), (0, .class_ 1111), (0, u "java/lang/constant/Constable"), (0, .class_ 1113), (0, u "java/lang/constant/ConstantDesc"), (2, u "serialVersionUID"), (0, u "J"), (3, u "REPL"), (0, u "C"), (2, u "LATIN1"), (1, u "UTF16")] 323

def k7m0 : Method := { name := "<init>", desc := "()V", sig := { parameters := [], returnType := none }, accessFlags := 1, code := none }
def k7c1 : Code := { maxStack := 4, maxLocals := 1, code := jdk_42_method_139_code, exceptionTable := #[], attributes := #[] }
def k7m1 : Method := { name := "valueOf", desc := "(C)Ljava/lang/String;", sig := { parameters := [.char], returnType := some (.object "java/lang/String") }, accessFlags := 9, code := some k7c1 }
def k7c2 : Code := { maxStack := 2, maxLocals := 3, code := jdk_42_method_151_code, exceptionTable := #[], attributes := #[] }
def k7m2 : Method := { name := "<init>", desc := "([BB)V", sig := { parameters := [(.array .byte), .byte], returnType := none }, accessFlags := 0, code := some k7c2 }
/-- java/lang/String -/
def k7 : Class := { plain "java/lang/String" (some 0) with
  accessFlags := 49
  interfaces := #[2, 3, 4, 5, 6]
  cf := some (fileOf pool7 10 #[.nestMembers #[1103]] #[{ accessFlags := 1, nameIndex := 5, descriptorIndex := 6, attributes := #[] }, { accessFlags := 9, nameIndex := 782, descriptorIndex := 783, attributes := #[] }, { accessFlags := 0, nameIndex := 5, descriptorIndex := 211, attributes := #[] }] 49 2 #[1106, 1108, 575, 1110, 1112] #[{ accessFlags := 18, nameIndex := 13, descriptorIndex := 14, attributes := #[] }, { accessFlags := 18, nameIndex := 17, descriptorIndex := 18, attributes := #[] }, { accessFlags := 2, nameIndex := 21, descriptorIndex := 22, attributes := #[] }, { accessFlags := 2, nameIndex := 25, descriptorIndex := 26, attributes := #[] }, { accessFlags := 26, nameIndex := 1116, descriptorIndex := 1117, attributes := #[] }, { accessFlags := 24, nameIndex := 40, descriptorIndex := 26, attributes := #[] }, { accessFlags := 26, nameIndex := 1101, descriptorIndex := 1102, attributes := #[] }, { accessFlags := 26, nameIndex := 1121, descriptorIndex := 1122, attributes := #[] }, { accessFlags := 25, nameIndex := 599, descriptorIndex := 600, attributes := #[] }, { accessFlags := 24, nameIndex := 1125, descriptorIndex := 18, attributes := #[] }, { accessFlags := 24, nameIndex := 1127, descriptorIndex := 18, attributes := #[] }])
  fields := #[{ name := "value", type := (.array .byte), accessFlags := 18, slot := 0, constantValue := 0 }, { name := "coder", type := .byte, accessFlags := 18, slot := 1, constantValue := 0 }, { name := "hash", type := .int, accessFlags := 2, slot := 2, constantValue := 0 }, { name := "hashIsZero", type := .boolean, accessFlags := 2, slot := 3, constantValue := 0 }, { name := "serialVersionUID", type := .long, accessFlags := 26, slot := 0, constantValue := 0 }, { name := "COMPACT_STRINGS", type := .boolean, accessFlags := 24, slot := 1, constantValue := 0 }, { name := "serialPersistentFields", type := (.array (.object "java/io/ObjectStreamField")), accessFlags := 26, slot := 2, constantValue := 0 }, { name := "REPL", type := .char, accessFlags := 26, slot := 3, constantValue := 0 }, { name := "CASE_INSENSITIVE_ORDER", type := (.object "java/util/Comparator"), accessFlags := 25, slot := 4, constantValue := 0 }, { name := "LATIN1", type := .byte, accessFlags := 24, slot := 5, constantValue := 0 }, { name := "UTF16", type := .byte, accessFlags := 24, slot := 6, constantValue := 0 }]
  methods := #[k7m0, k7m1, k7m2]
  instanceTypes := #[(.array .byte), .byte, .int, .boolean]
  staticTypes := #[.long, .boolean, (.array (.object "java/io/ObjectStreamField")), .char, (.object "java/util/Comparator"), .byte, .byte]
  resolved := Array.replicate 1451 none
  statics := some 0 }

def pool8 : Array CpInfo := pool [(4, .class_ 6), (1, u "java/lang/Object"), (0, u "<init>"), (0, u "()V"), (5, .class_ 16), (1, u "java/lang/StringLatin1"), (73, u "canEncode"), (14, u "(C)Z"), (15, u "$assertionsDisabled"), (0, u "Z"), (98, .class_ 223), (1, u "java/lang/StringLatin1$LinesSpliterator"), (156, u "toBytes"), (1, u "(C)[B"), (7, .class_ 391), (0, u "java/lang/StringLatin1$CharsSpliterator")] 3

def k8m0 : Method := { name := "<init>", desc := "()V", sig := { parameters := [], returnType := none }, accessFlags := 0, code := none }
def k8c1 : Code := { maxStack := 2, maxLocals := 1, code := jdk_43_method_3_code, exceptionTable := #[], attributes := #[] }
def k8m1 : Method := { name := "canEncode", desc := "(C)Z", sig := { parameters := [.char], returnType := some .boolean }, accessFlags := 9, code := some k8c1 }
def k8c2 : Code := { maxStack := 4, maxLocals := 1, code := jdk_43_method_46_code, exceptionTable := #[], attributes := #[] }
def k8m2 : Method := { name := "toBytes", desc := "(C)[B", sig := { parameters := [.char], returnType := some (.array .byte) }, accessFlags := 9, code := some k8c2 }
/-- java/lang/StringLatin1 -/
def k8 : Class := { plain "java/lang/StringLatin1" (some 0) with
  accessFlags := 48
  interfaces := #[]
  cf := some (fileOf pool8 14 #[.nestMembers #[390, 221]] #[{ accessFlags := 0, nameIndex := 7, descriptorIndex := 8, attributes := #[] }, { accessFlags := 9, nameIndex := 90, descriptorIndex := 105, attributes := #[] }, { accessFlags := 9, nameIndex := 380, descriptorIndex := 382, attributes := #[] }] 48 4 #[] #[{ accessFlags := 4120, nameIndex := 121, descriptorIndex := 122, attributes := #[] }])
  fields := #[{ name := "$assertionsDisabled", type := .boolean, accessFlags := 4120, slot := 0, constantValue := 0 }]
  methods := #[k8m0, k8m1, k8m2]
  instanceTypes := #[]
  staticTypes := #[.boolean]
  resolved := Array.replicate 395 none
  statics := none }

def pool9 : Array CpInfo := pool [(1, .class_ 2), (0, u "watchword/Callback"), (0, .class_ 4), (0, u "java/lang/Object")] 2

/-- watchword/Callback -/
def k9 : Class := { plain "watchword/Callback" (some 0) with
  accessFlags := 1537
  interfaces := #[]
  cf := some (fileOf pool9 1 #[] #[] 1537 3 #[] #[])
  fields := #[]
  methods := #[]
  instanceTypes := #[]
  staticTypes := #[]
  resolved := Array.replicate 7 none
  statics := none }

def pool10 : Array CpInfo := pool [(1, .methodref 2 3), (0, .class_ 4), (0, .nameAndType 5 6), (0, u "java/lang/Object"), (0, u "<init>"), (0, u "()V"), (0, .fieldref 8 9), (0, .class_ 10), (0, .nameAndType 11 12), (0, u "watchword/PasswordCallback"), (0, u "prompt"), (0, u "Ljava/lang/String;"), (0, .fieldref 8 14), (0, .nameAndType 15 16), (0, u "echoOn"), (0, u "Z"), (0, .methodref 8 18), (0, .nameAndType 19 6), (0, u "clearPassword"), (0, .methodref 21 22), (0, .class_ 23), (0, .nameAndType 24 25), (0, u "[C"), (0, u "clone"), (0, u "()Ljava/lang/Object;"), (0, .fieldref 8 27), (0, .nameAndType 28 23), (0, u "password"), (0, .methodref 30 31), (0, .class_ 32), (0, .nameAndType 33 34), (0, u "java/util/Arrays"), (0, u "fill"), (0, u "([CC)V"), (0, .class_ 36), (0, u "watchword/Callback"), (0, u "(Ljava/lang/String;Z)V"), (6, u "setPassword"), (0, u "([C)V"), (1, u "getPassword"), (0, u "()[C")] 2

def k10c0 : Code := { maxStack := 2, maxLocals := 3, code := prog_50_method_1_code, exceptionTable := #[], attributes := #[] }
def k10m0 : Method := { name := "<init>", desc := "(Ljava/lang/String;Z)V", sig := { parameters := [(.object "java/lang/String"), .boolean], returnType := none }, accessFlags := 1, code := some k10c0 }
def k10c1 : Code := { maxStack := 2, maxLocals := 2, code := prog_50_method_4_code, exceptionTable := #[], attributes := #[] }
def k10m1 : Method := { name := "setPassword", desc := "([C)V", sig := { parameters := [(.array .char)], returnType := none }, accessFlags := 1, code := some k10c1 }
def k10c2 : Code := { maxStack := 1, maxLocals := 1, code := prog_50_method_5_code, exceptionTable := #[], attributes := #[] }
def k10m2 : Method := { name := "getPassword", desc := "()[C", sig := { parameters := [], returnType := some (.array .char) }, accessFlags := 1, code := some k10c2 }
def k10c3 : Code := { maxStack := 2, maxLocals := 1, code := prog_50_method_6_code, exceptionTable := #[], attributes := #[] }
def k10m3 : Method := { name := "clearPassword", desc := "()V", sig := { parameters := [], returnType := none }, accessFlags := 1, code := some k10c3 }
/-- watchword/PasswordCallback -/
def k10 : Class := { plain "watchword/PasswordCallback" (some 0) with
  accessFlags := 49
  interfaces := #[9]
  cf := some (fileOf pool10 8 #[] #[{ accessFlags := 1, nameIndex := 5, descriptorIndex := 37, attributes := #[] }, { accessFlags := 1, nameIndex := 44, descriptorIndex := 45, attributes := #[] }, { accessFlags := 1, nameIndex := 47, descriptorIndex := 48, attributes := #[] }, { accessFlags := 1, nameIndex := 19, descriptorIndex := 6, attributes := #[] }] 49 2 #[35] #[{ accessFlags := 18, nameIndex := 11, descriptorIndex := 12, attributes := #[] }, { accessFlags := 18, nameIndex := 15, descriptorIndex := 16, attributes := #[] }, { accessFlags := 2, nameIndex := 28, descriptorIndex := 23, attributes := #[] }])
  fields := #[{ name := "prompt", type := (.object "java/lang/String"), accessFlags := 18, slot := 0, constantValue := 0 }, { name := "echoOn", type := .boolean, accessFlags := 18, slot := 1, constantValue := 0 }, { name := "password", type := (.array .char), accessFlags := 2, slot := 2, constantValue := 0 }]
  methods := #[k10m0, k10m1, k10m2, k10m3]
  instanceTypes := #[(.object "java/lang/String"), .boolean, (.array .char)]
  staticTypes := #[]
  resolved := Array.replicate 51 none
  statics := none }

def pool11 : Array CpInfo := pool [(1, .class_ 2), (0, u "java/lang/Cloneable"), (0, .class_ 4), (0, u "java/lang/Object")] 2

/-- java/lang/Cloneable -/
def k11 : Class := { plain "java/lang/Cloneable" (some 0) with
  accessFlags := 1537
  interfaces := #[]
  cf := some (fileOf pool11 1 #[] #[] 1537 3 #[] #[])
  fields := #[]
  methods := #[]
  instanceTypes := #[]
  staticTypes := #[]
  resolved := Array.replicate 7 none
  statics := none }

def pool12 : Array CpInfo := pool [(2, .class_ 4), (1, u "java/lang/Object"), (0, u "<init>"), (0, u "()V"), (7, .class_ 16), (1, u "java/util/Arrays"), (57, .class_ 76), (1, u "java/util/Arrays$NaturalOrder"), (36, .class_ 115), (1, u "java/util/Arrays$LegacyMergeSort"), (1, u "Z"), (257, .class_ 376), (0, u "java/util/Arrays$ArrayList"), (68, u "$assertionsDisabled"), (269, u "MIN_ARRAY_SORT_GRAN"), (0, u "I"), (2, u "INSERTIONSORT_THRESHOLD"), (120, u "fill"), (7, u "([CC)V"), (126, .class_ 976), (0, u "java/util/Arrays$ArrayItr")] 52

def k12m0 : Method := { name := "<init>", desc := "()V", sig := { parameters := [], returnType := none }, accessFlags := 2, code := none }
def k12c1 : Code := { maxStack := 3, maxLocals := 4, code := jdk_65_method_107_code, exceptionTable := #[], attributes := #[] }
def k12m1 : Method := { name := "fill", desc := "([CC)V", sig := { parameters := [(.array .char), .char], returnType := none }, accessFlags := 9, code := some k12c1 }
/-- java/util/Arrays -/
def k12 : Class := { plain "java/util/Arrays" (some 0) with
  accessFlags := 49
  interfaces := #[]
  cf := some (fileOf pool12 14 #[.nestMembers #[975, 375, 113, 74]] #[{ accessFlags := 2, nameIndex := 5, descriptorIndex := 6, attributes := #[] }, { accessFlags := 9, nameIndex := 840, descriptorIndex := 848, attributes := #[] }] 49 2 #[] #[{ accessFlags := 26, nameIndex := 715, descriptorIndex := 716, attributes := #[] }, { accessFlags := 26, nameIndex := 719, descriptorIndex := 716, attributes := #[] }, { accessFlags := 4120, nameIndex := 445, descriptorIndex := 117, attributes := #[] }])
  fields := #[{ name := "MIN_ARRAY_SORT_GRAN", type := .int, accessFlags := 26, slot := 0, constantValue := 0 }, { name := "INSERTIONSORT_THRESHOLD", type := .int, accessFlags := 26, slot := 1, constantValue := 0 }, { name := "$assertionsDisabled", type := .boolean, accessFlags := 4120, slot := 2, constantValue := 0 }]
  methods := #[k12m0, k12m1]
  instanceTypes := #[]
  staticTypes := #[.int, .int, .boolean]
  resolved := Array.replicate 1029 none
  statics := none }

def pool13 : Array CpInfo := pool [(2, .class_ 4), (1, u "java/lang/Object"), (0, u "<init>"), (0, u "()V"), (17, .class_ 26), (1, u "jdk/internal/util/Preconditions"), (28, .class_ 56), (0, u "jdk/internal/util/Preconditions$4"), (57, .class_ 115), (0, u "jdk/internal/util/Preconditions$1"), (7, u "SIOOBE_FORMATTER"), (0, u "Ljava/util/function/BiFunction;"), (0, .class_ 126), (0, u "jdk/internal/util/Preconditions$2"), (3, u "AIOOBE_FORMATTER"), (0, .class_ 132), (0, u "jdk/internal/util/Preconditions$3"), (3, u "IOOBE_FORMATTER")] 57

def k13m0 : Method := { name := "<init>", desc := "()V", sig := { parameters := [], returnType := none }, accessFlags := 1, code := none }
/-- jdk/internal/util/Preconditions -/
def k13 : Class := { plain "jdk/internal/util/Preconditions" (some 0) with
  accessFlags := 33
  interfaces := #[]
  cf := some (fileOf pool13 24 #[.nestMembers #[55, 131, 125, 114]] #[{ accessFlags := 1, nameIndex := 5, descriptorIndex := 6, attributes := #[] }] 33 2 #[] #[{ accessFlags := 25, nameIndex := 123, descriptorIndex := 124, attributes := #[] }, { accessFlags := 25, nameIndex := 130, descriptorIndex := 124, attributes := #[] }, { accessFlags := 25, nameIndex := 136, descriptorIndex := 124, attributes := #[] }])
  fields := #[{ name := "SIOOBE_FORMATTER", type := (.object "java/util/function/BiFunction"), accessFlags := 25, slot := 0, constantValue := 0 }, { name := "AIOOBE_FORMATTER", type := (.object "java/util/function/BiFunction"), accessFlags := 25, slot := 1, constantValue := 0 }, { name := "IOOBE_FORMATTER", type := (.object "java/util/function/BiFunction"), accessFlags := 25, slot := 2, constantValue := 0 }]
  methods := #[k13m0]
  instanceTypes := #[]
  staticTypes := #[(.object "java/util/function/BiFunction"), (.object "java/util/function/BiFunction"), (.object "java/util/function/BiFunction")]
  resolved := Array.replicate 194 none
  statics := some 1 }

def pool14 : Array CpInfo := pool [(9, u "<init>"), (6, .class_ 18), (1, u "java/lang/Object"), (0, u "()V"), (1, .class_ 23), (1, u "jdk/internal/util/ArraysSupport"), (0, u "LOG2_ARRAY_LONG_INDEX_SCALE"), (0, u "I"), (2, u "U"), (0, u "Ljdk/internal/misc/Unsafe;"), (8, u "BIG_ENDIAN"), (0, u "Z"), (8, u "LOG2_BYTE_BIT_SIZE"), (4, u "LOG2_ARRAY_INT_INDEX_SCALE"), (54, u "JLA"), (0, u "Ljdk/internal/access/JavaLangAccess;"), (11, u "LOG2_ARRAY_BOOLEAN_INDEX_SCALE"), (9, u "LOG2_ARRAY_BYTE_INDEX_SCALE"), (5, u "LOG2_ARRAY_CHAR_INDEX_SCALE"), (5, u "LOG2_ARRAY_SHORT_INDEX_SCALE"), (18, u "LOG2_ARRAY_FLOAT_INDEX_SCALE"), (24, u "LOG2_ARRAY_DOUBLE_INDEX_SCALE"), (89, u "T_BOOLEAN"), (2, u "T_CHAR"), (1, u "T_FLOAT"), (1, u "T_DOUBLE"), (1, u "T_BYTE"), (1, u "T_SHORT"), (1, u "T_INT"), (1, u "T_LONG"), (1, u "SOFT_MAX_ARRAY_LENGTH")] 83

def k14m0 : Method := { name := "<init>", desc := "()V", sig := { parameters := [], returnType := none }, accessFlags := 2, code := none }
/-- jdk/internal/util/ArraysSupport -/
def k14 : Class := { plain "jdk/internal/util/ArraysSupport" (some 0) with
  accessFlags := 33
  interfaces := #[]
  cf := some (fileOf pool14 21 #[] #[{ accessFlags := 2, nameIndex := 9, descriptorIndex := 19, attributes := #[] }] 33 16 #[] #[{ accessFlags := 24, nameIndex := 28, descriptorIndex := 29, attributes := #[] }, { accessFlags := 26, nameIndex := 38, descriptorIndex := 39, attributes := #[] }, { accessFlags := 25, nameIndex := 121, descriptorIndex := 25, attributes := #[] }, { accessFlags := 25, nameIndex := 131, descriptorIndex := 25, attributes := #[] }, { accessFlags := 25, nameIndex := 137, descriptorIndex := 25, attributes := #[] }, { accessFlags := 25, nameIndex := 143, descriptorIndex := 25, attributes := #[] }, { accessFlags := 25, nameIndex := 53, descriptorIndex := 25, attributes := #[] }, { accessFlags := 25, nameIndex := 24, descriptorIndex := 25, attributes := #[] }, { accessFlags := 25, nameIndex := 162, descriptorIndex := 25, attributes := #[] }, { accessFlags := 25, nameIndex := 187, descriptorIndex := 25, attributes := #[] }, { accessFlags := 26, nameIndex := 48, descriptorIndex := 25, attributes := #[] }, { accessFlags := 25, nameIndex := 277, descriptorIndex := 25, attributes := #[] }, { accessFlags := 25, nameIndex := 280, descriptorIndex := 25, attributes := #[] }, { accessFlags := 25, nameIndex := 282, descriptorIndex := 25, attributes := #[] }, { accessFlags := 25, nameIndex := 284, descriptorIndex := 25, attributes := #[] }, { accessFlags := 25, nameIndex := 286, descriptorIndex := 25, attributes := #[] }, { accessFlags := 25, nameIndex := 288, descriptorIndex := 25, attributes := #[] }, { accessFlags := 25, nameIndex := 290, descriptorIndex := 25, attributes := #[] }, { accessFlags := 25, nameIndex := 292, descriptorIndex := 25, attributes := #[] }, { accessFlags := 26, nameIndex := 108, descriptorIndex := 109, attributes := #[] }, { accessFlags := 25, nameIndex := 294, descriptorIndex := 25, attributes := #[] }])
  fields := #[{ name := "U", type := (.object "jdk/internal/misc/Unsafe"), accessFlags := 24, slot := 0, constantValue := 0 }, { name := "BIG_ENDIAN", type := .boolean, accessFlags := 26, slot := 1, constantValue := 0 }, { name := "LOG2_ARRAY_BOOLEAN_INDEX_SCALE", type := .int, accessFlags := 25, slot := 2, constantValue := 0 }, { name := "LOG2_ARRAY_BYTE_INDEX_SCALE", type := .int, accessFlags := 25, slot := 3, constantValue := 0 }, { name := "LOG2_ARRAY_CHAR_INDEX_SCALE", type := .int, accessFlags := 25, slot := 4, constantValue := 0 }, { name := "LOG2_ARRAY_SHORT_INDEX_SCALE", type := .int, accessFlags := 25, slot := 5, constantValue := 0 }, { name := "LOG2_ARRAY_INT_INDEX_SCALE", type := .int, accessFlags := 25, slot := 6, constantValue := 0 }, { name := "LOG2_ARRAY_LONG_INDEX_SCALE", type := .int, accessFlags := 25, slot := 7, constantValue := 0 }, { name := "LOG2_ARRAY_FLOAT_INDEX_SCALE", type := .int, accessFlags := 25, slot := 8, constantValue := 0 }, { name := "LOG2_ARRAY_DOUBLE_INDEX_SCALE", type := .int, accessFlags := 25, slot := 9, constantValue := 0 }, { name := "LOG2_BYTE_BIT_SIZE", type := .int, accessFlags := 26, slot := 10, constantValue := 0 }, { name := "T_BOOLEAN", type := .int, accessFlags := 25, slot := 11, constantValue := 0 }, { name := "T_CHAR", type := .int, accessFlags := 25, slot := 12, constantValue := 0 }, { name := "T_FLOAT", type := .int, accessFlags := 25, slot := 13, constantValue := 0 }, { name := "T_DOUBLE", type := .int, accessFlags := 25, slot := 14, constantValue := 0 }, { name := "T_BYTE", type := .int, accessFlags := 25, slot := 15, constantValue := 0 }, { name := "T_SHORT", type := .int, accessFlags := 25, slot := 16, constantValue := 0 }, { name := "T_INT", type := .int, accessFlags := 25, slot := 17, constantValue := 0 }, { name := "T_LONG", type := .int, accessFlags := 25, slot := 18, constantValue := 0 }, { name := "JLA", type := (.object "jdk/internal/access/JavaLangAccess"), accessFlags := 26, slot := 19, constantValue := 0 }, { name := "SOFT_MAX_ARRAY_LENGTH", type := .int, accessFlags := 25, slot := 20, constantValue := 0 }]
  methods := #[k14m0]
  instanceTypes := #[]
  staticTypes := #[(.object "jdk/internal/misc/Unsafe"), .boolean, .int, .int, .int, .int, .int, .int, .int, .int, .int, .int, .int, .int, .int, .int, .int, .int, .int, (.object "jdk/internal/access/JavaLangAccess"), .int]
  resolved := Array.replicate 378 none
  statics := none }

/-- the primitive byte -/
def k15 : Class := { plain "byte" none with kind := .primitive 'B', accessFlags := 0x411 }
/-- [B -/
def k16 : Class := { plain "[B" (some 0) with kind := .array 15 .byte, interfaces := #[11, 2], accessFlags := 1041 }

/-- the primitive char -/
def k17 : Class := { plain "char" none with kind := .primitive 'C', accessFlags := 0x411 }
/-- [C -/
def k18 : Class := { plain "[C" (some 0) with kind := .array 17 .char, interfaces := #[11, 2], accessFlags := 1041 }

/-- the primitive int -/
def k19 : Class := { plain "int" none with kind := .primitive 'I', accessFlags := 0x411 }
/-- [I -/
def k20 : Class := { plain "[I" (some 0) with kind := .array 19 .int, interfaces := #[11, 2], accessFlags := 1041 }

def heap : Heap := #[{ cls := 7, slots := #[.long 0, .int 1, .null, .int 0, .null, .int 0, .int 0], vm := .statics 7 },
  { cls := 13, slots := #[.null, .null, .null], vm := .statics 13 }]
def classes : Array Class := #[k0, k1, k2, k3, k4, k5, k6, k7, k8, k9, k10, k11, k12, k13, k14, k15, k16, k17, k18, k19, k20]
def interned : List (Array UInt16 × Addr) := []
def slotsUsed : Nat := 10
def theMethod : MethodId := ⟨1, 4⟩
def args0 : Array Value := #[.int 1, .int 2, .int 3]
def aboutOver (below : List Frame) : State where
  vm := { classes := classes, interned := interned.toArray }
  heap := heap
  slotsUsed := slotsUsed
  threads := #[{ frames := .invoking theMethod args0 :: below }]
def below0 : List Frame := [.native { method := ⟨0, 0⟩, args := #[] }]
def about1 : State := aboutOver below0
def p0 : Program := .bare "" "" ""
def e0 : Env := launch0.env 0 0 0
theorem w_frames : about1.frames = Frame.invoking theMethod args0 :: below0 := rfl
set_option maxRecDepth 65536 in
theorem w_args : argsFit about1.vm theMethod args0 = true := by decide +kernel
set_option maxRecDepth 65536 in
theorem w_heap : heapFits about1 = true := by decide +kernel
set_option maxRecDepth 65536 in
theorem w_runnable : about1.curStatus? = some .runnable := by decide +kernel
set_option maxRecDepth 65536 in
theorem w_alone : about1.alone = true := by decide +kernel
set_option maxRecDepth 65536 in
theorem w_named : about1.methodNamed? x = some theMethod := by decide +kernel
set_option maxRecDepth 65536 in
theorem w_hears : about1.hears theMethod below0 = true := by decide +kernel
set_option maxRecDepth 65536 in
theorem w_ripe : about1.ripe theMethod args0 below0 = true := by decide +kernel
theorem w_running : about1.status = .running := rfl
set_option maxRecDepth 65536 in
theorem w_room : about1.hasRoom e0.platform room_1 = true :=
  launch0.hasRoom_least _ room_1 (by decide +kernel) (by decide +kernel) (by decide +kernel) (by decide +kernel) (by decide +kernel) (by decide +kernel)
theorem allAtoms_all (ts : List Jvm.Cond) (a : Array Jvm.Value) (st : Jvm.State) : (allAtoms ts).before a st = ts.all (fun c => c.before a st) := by
  induction ts with
  | nil => rfl
  | cons c t ih =>
    show (Jvm.Cond.and c (allAtoms t)).before a st = _
    rw [Jvm.Cond.before_and, ih, List.all_cons]
def words1 : List Jvm.Cond := Jvm.Cond.code x code maxLocals ret :: tables_1
/-- a 'code' word, met by the world's own term for the bytes: nothing is compared byte by byte -/
theorem code_word {y : MethodName} {bytes : ByteArray} {mx : Nat} {rt : Option FieldType} {a : Array Value} {s : State} {m : MethodId} {meth : Method} {c : Code} (h1 : s.methodNamed? y = some m) (h2 : s.vm.method? m = some meth) (h3 : meth.code = some c) (h4 : c.code = bytes)
    (h5 : (c.maxLocals == mx && c.exceptionTable.isEmpty && decide (c.maxStack ≤ mostOperands) && decide (meth.sig.returnType = rt) && !meth.locks && decide (parseMethodDescriptor y.desc = some meth.sig)) = true) : (Jvm.Cond.code y bytes mx rt).before a s = true := by
  simp only [Bool.and_eq_true, beq_iff_eq, Bool.not_eq_true', decide_eq_true_eq] at h5
  obtain ⟨⟨⟨⟨⟨g1, g2⟩, g3⟩, g4⟩, g5⟩, g6⟩ := h5
  simp [Cond.before, Cond.holds, Cond.value, h1, h2, h3, h4, g1, g2, g3, g4, g5, g6]
def isCode : Jvm.Cond → Bool
  | .code _ _ _ _ => true
  | _ => false
theorem all_split {L : List Jvm.Cond} {P : Jvm.Cond → Bool} (h1 : L.all (fun c => isCode c || P c) = true) (h2 : ∀ c ∈ L.filter isCode, P c = true) : L.all P = true := by
  refine List.all_eq_true.mpr fun c hc => ?_
  have h := List.all_eq_true.mp h1 c hc
  rcases Bool.eq_false_or_eq_true (isCode c) with hi | hi
  · exact h2 c (List.mem_filter.mpr ⟨hc, hi⟩)
  · simpa [hi] using h
set_option maxRecDepth 65536 in
theorem w_c0 : (Jvm.Cond.code x code maxLocals ret).before args0 about1 = true := code_word (m := ⟨1, 4⟩) (meth := k1m4) (c := k1c4) (by decide +kernel) rfl rfl rfl (by decide +kernel)
set_option maxRecDepth 65536 in
theorem w_c1 : (Jvm.Cond.code ({ cls := "java/lang/String", name := "valueOf", desc := "(C)Ljava/lang/String;" } : Jvm.MethodName) jdk_42_method_139_code (1 : Nat) (Option.some (Jvm.ClassFile.FieldType.object "java/lang/String"))).before args0 about1 = true := code_word (m := ⟨7, 1⟩) (meth := k7m1) (c := k7c1) (by decide +kernel) rfl rfl rfl (by decide +kernel)
set_option maxRecDepth 65536 in
theorem w_c2 : (Jvm.Cond.code ({ cls := "java/lang/StringLatin1", name := "canEncode", desc := "(C)Z" } : Jvm.MethodName) jdk_43_method_3_code (1 : Nat) (Option.some Jvm.ClassFile.FieldType.boolean)).before args0 about1 = true := code_word (m := ⟨8, 1⟩) (meth := k8m1) (c := k8c1) (by decide +kernel) rfl rfl rfl (by decide +kernel)
set_option maxRecDepth 65536 in
theorem w_c3 : (Jvm.Cond.code ({ cls := "java/lang/StringLatin1", name := "toBytes", desc := "(C)[B" } : Jvm.MethodName) jdk_43_method_46_code (1 : Nat) (Option.some (Jvm.ClassFile.FieldType.array Jvm.ClassFile.FieldType.byte))).before args0 about1 = true := code_word (m := ⟨8, 2⟩) (meth := k8m2) (c := k8c2) (by decide +kernel) rfl rfl rfl (by decide +kernel)
set_option maxRecDepth 65536 in
theorem w_c4 : (Jvm.Cond.code ({ cls := "java/lang/String", name := "<init>", desc := "([BB)V" } : Jvm.MethodName) jdk_42_method_151_code (3 : Nat) (Option.none : Option Jvm.ClassFile.FieldType)).before args0 about1 = true := code_word (m := ⟨7, 2⟩) (meth := k7m2) (c := k7c2) (by decide +kernel) rfl rfl rfl (by decide +kernel)
set_option maxRecDepth 65536 in
theorem w_c5 : (Jvm.Cond.code ({ cls := "java/lang/Object", name := "<init>", desc := "()V" } : Jvm.MethodName) object_method_1_code (1 : Nat) (Option.none : Option Jvm.ClassFile.FieldType)).before args0 about1 = true := code_word (m := ⟨0, 0⟩) (meth := k0m0) (c := k0c0) (by decide +kernel) rfl rfl rfl (by decide +kernel)
set_option maxRecDepth 65536 in
theorem w_c6 : (Jvm.Cond.code ({ cls := "watchword/PasswordCallback", name := "<init>", desc := "(Ljava/lang/String;Z)V" } : Jvm.MethodName) prog_50_method_1_code (3 : Nat) (Option.none : Option Jvm.ClassFile.FieldType)).before args0 about1 = true := code_word (m := ⟨10, 0⟩) (meth := k10m0) (c := k10c0) (by decide +kernel) rfl rfl rfl (by decide +kernel)
set_option maxRecDepth 65536 in
theorem w_c7 : (Jvm.Cond.code ({ cls := "watchword/PasswordCallback", name := "getPassword", desc := "()[C" } : Jvm.MethodName) prog_50_method_5_code (1 : Nat) (Option.some (Jvm.ClassFile.FieldType.array Jvm.ClassFile.FieldType.char))).before args0 about1 = true := code_word (m := ⟨10, 2⟩) (meth := k10m2) (c := k10c2) (by decide +kernel) rfl rfl rfl (by decide +kernel)
set_option maxRecDepth 65536 in
theorem w_c8 : (Jvm.Cond.code ({ cls := "watchword/PasswordCallbackGetPasswordPinLaw", name := "make", desc := "(ICCC)[C" } : Jvm.MethodName) method_2_code (5 : Nat) (Option.some (Jvm.ClassFile.FieldType.array Jvm.ClassFile.FieldType.char))).before args0 about1 = true := code_word (m := ⟨1, 1⟩) (meth := k1m1) (c := k1c1) (by decide +kernel) rfl rfl rfl (by decide +kernel)
set_option maxRecDepth 65536 in
theorem w_c9 : (Jvm.Cond.code ({ cls := "watchword/PasswordCallback", name := "setPassword", desc := "([C)V" } : Jvm.MethodName) prog_50_method_4_code (2 : Nat) (Option.none : Option Jvm.ClassFile.FieldType)).before args0 about1 = true := code_word (m := ⟨10, 1⟩) (meth := k10m1) (c := k10c1) (by decide +kernel) rfl rfl rfl (by decide +kernel)
set_option maxRecDepth 65536 in
theorem w_c10 : (Jvm.Cond.code ({ cls := "watchword/PasswordCallback", name := "clearPassword", desc := "()V" } : Jvm.MethodName) prog_50_method_6_code (1 : Nat) (Option.none : Option Jvm.ClassFile.FieldType)).before args0 about1 = true := code_word (m := ⟨10, 3⟩) (meth := k10m3) (c := k10c3) (by decide +kernel) rfl rfl rfl (by decide +kernel)
set_option maxRecDepth 65536 in
theorem w_c11 : (Jvm.Cond.code ({ cls := "watchword/PasswordCallbackGetPasswordPinLaw", name := "flip", desc := "([C)V" } : Jvm.MethodName) method_3_code (1 : Nat) (Option.none : Option Jvm.ClassFile.FieldType)).before args0 about1 = true := code_word (m := ⟨1, 2⟩) (meth := k1m2) (c := k1c2) (by decide +kernel) rfl rfl rfl (by decide +kernel)
set_option maxRecDepth 65536 in
theorem w_c12 : (Jvm.Cond.code ({ cls := "watchword/PasswordCallbackGetPasswordPinLaw", name := "same", desc := "([CICCC)Z" } : Jvm.MethodName) method_4_code (5 : Nat) (Option.some Jvm.ClassFile.FieldType.boolean)).before args0 about1 = true := code_word (m := ⟨1, 3⟩) (meth := k1m3) (c := k1c3) (by decide +kernel) rfl rfl rfl (by decide +kernel)
set_option maxRecDepth 65536 in
theorem w_c13 : (Jvm.Cond.code ({ cls := "java/util/Arrays", name := "fill", desc := "([CC)V" } : Jvm.MethodName) jdk_65_method_107_code (4 : Nat) (Option.none : Option Jvm.ClassFile.FieldType)).before args0 about1 = true := code_word (m := ⟨12, 1⟩) (meth := k12m1) (c := k12c1) (by decide +kernel) rfl rfl rfl (by decide +kernel)
def codes1 : List Jvm.Cond := [Jvm.Cond.code x code maxLocals ret, Jvm.Cond.code ({ cls := "java/lang/String", name := "valueOf", desc := "(C)Ljava/lang/String;" } : Jvm.MethodName) jdk_42_method_139_code (1 : Nat) (Option.some (Jvm.ClassFile.FieldType.object "java/lang/String")), Jvm.Cond.code ({ cls := "java/lang/StringLatin1", name := "canEncode", desc := "(C)Z" } : Jvm.MethodName) jdk_43_method_3_code (1 : Nat) (Option.some Jvm.ClassFile.FieldType.boolean), Jvm.Cond.code ({ cls := "java/lang/StringLatin1", name := "toBytes", desc := "(C)[B" } : Jvm.MethodName) jdk_43_method_46_code (1 : Nat) (Option.some (Jvm.ClassFile.FieldType.array Jvm.ClassFile.FieldType.byte)), Jvm.Cond.code ({ cls := "java/lang/String", name := "<init>", desc := "([BB)V" } : Jvm.MethodName) jdk_42_method_151_code (3 : Nat) (Option.none : Option Jvm.ClassFile.FieldType), Jvm.Cond.code ({ cls := "java/lang/Object", name := "<init>", desc := "()V" } : Jvm.MethodName) object_method_1_code (1 : Nat) (Option.none : Option Jvm.ClassFile.FieldType), Jvm.Cond.code ({ cls := "watchword/PasswordCallback", name := "<init>", desc := "(Ljava/lang/String;Z)V" } : Jvm.MethodName) prog_50_method_1_code (3 : Nat) (Option.none : Option Jvm.ClassFile.FieldType), Jvm.Cond.code ({ cls := "watchword/PasswordCallback", name := "getPassword", desc := "()[C" } : Jvm.MethodName) prog_50_method_5_code (1 : Nat) (Option.some (Jvm.ClassFile.FieldType.array Jvm.ClassFile.FieldType.char)), Jvm.Cond.code ({ cls := "watchword/PasswordCallbackGetPasswordPinLaw", name := "make", desc := "(ICCC)[C" } : Jvm.MethodName) method_2_code (5 : Nat) (Option.some (Jvm.ClassFile.FieldType.array Jvm.ClassFile.FieldType.char)), Jvm.Cond.code ({ cls := "watchword/PasswordCallback", name := "setPassword", desc := "([C)V" } : Jvm.MethodName) prog_50_method_4_code (2 : Nat) (Option.none : Option Jvm.ClassFile.FieldType), Jvm.Cond.code ({ cls := "watchword/PasswordCallback", name := "clearPassword", desc := "()V" } : Jvm.MethodName) prog_50_method_6_code (1 : Nat) (Option.none : Option Jvm.ClassFile.FieldType), Jvm.Cond.code ({ cls := "watchword/PasswordCallbackGetPasswordPinLaw", name := "flip", desc := "([C)V" } : Jvm.MethodName) method_3_code (1 : Nat) (Option.none : Option Jvm.ClassFile.FieldType), Jvm.Cond.code ({ cls := "watchword/PasswordCallbackGetPasswordPinLaw", name := "same", desc := "([CICCC)Z" } : Jvm.MethodName) method_4_code (5 : Nat) (Option.some Jvm.ClassFile.FieldType.boolean), Jvm.Cond.code ({ cls := "java/util/Arrays", name := "fill", desc := "([CC)V" } : Jvm.MethodName) jdk_65_method_107_code (4 : Nat) (Option.none : Option Jvm.ClassFile.FieldType)]
set_option maxRecDepth 65536 in
theorem codes_eq : words1.filter isCode = codes1 := rfl
theorem w_codes : ∀ c ∈ words1.filter isCode, c.before args0 about1 = true := by
  rw [codes_eq]
  intro c hc
  simp only [codes1, List.mem_cons, List.not_mem_nil, or_false] at hc
  rcases hc with rfl | rfl | rfl | rfl | rfl | rfl | rfl | rfl | rfl | rfl | rfl | rfl | rfl | rfl
  · exact w_c0
  · exact w_c1
  · exact w_c2
  · exact w_c3
  · exact w_c4
  · exact w_c5
  · exact w_c6
  · exact w_c7
  · exact w_c8
  · exact w_c9
  · exact w_c10
  · exact w_c11
  · exact w_c12
  · exact w_c13
set_option maxRecDepth 65536 in
theorem w_t1 : (words1.take 24).all (fun c => isCode c || c.before args0 about1) = true := by decide +kernel
set_option maxRecDepth 65536 in
theorem w_t2 : ((words1.drop 24).take 24).all (fun c => isCode c || c.before args0 about1) = true := by decide +kernel
set_option maxRecDepth 65536 in
theorem w_t3 : (((words1.drop 24).drop 24).take 24).all (fun c => isCode c || c.before args0 about1) = true := by decide +kernel
set_option maxRecDepth 65536 in
theorem w_t4 : (((words1.drop 24).drop 24).drop 24).all (fun c => isCode c || c.before args0 about1) = true := by decide +kernel
theorem w_tables : (allAtoms (Jvm.Cond.code x code maxLocals ret :: tables_1)).before args0 about1 = true := by
  rw [allAtoms_all]
  show words1.all (fun c => c.before args0 about1) = true
  refine all_split ?_ w_codes
  rw [← List.take_append_drop 24 words1, List.all_append, w_t1, ← List.take_append_drop 24 (words1.drop 24), List.all_append, w_t2, ← List.take_append_drop 24 ((words1.drop 24).drop 24), List.all_append, w_t3, w_t4]
  rfl
set_option maxRecDepth 65536 in
theorem w_rest : rest_1_c.before args0 about1 = true := by decide +kernel
set_option maxRecDepth 65536 in
theorem w_case : (Jvm.Cond.and given_1 narrow_1).before args0 about1 = true := by decide +kernel
theorem w_applies : (headSpec (Jvm.Cond.code x code maxLocals ret :: tables_1) room_1).applies x e0.platform about1 = true :=
  (Spec.applies_iff w_frames).mpr ⟨w_running, w_runnable, w_alone, w_named, w_hears, w_ripe, w_room, w_tables⟩
theorem atStart : AtStart classFile x code maxLocals ret World_1 tables_1 room_1 Calls_1 rest_1 Pre_1 launch0 p0 e0 about1 theMethod args0 below0 :=
  ⟨lists_1, trivial, launch0.admits_env _ _ _, launch0.least_env, fairChoices_fair.cas, fairChoices_fair.clock, w_frames, w_args, w_heap, w_applies, trivial, w_rest, w_case⟩
end start1
theorem witness_1 : WitnessClaimed_1 := ⟨start1.p0, start1.e0, start1.about1, start1.theMethod, start1.args0, start1.below0, start1.atStart⟩
end Jvm.Pilot.@@N@@
