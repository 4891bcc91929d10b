import JvmDerived
import JvmDerived.Pilot.@@N@@Statement
import JvmDerived.Pilot.@@N@@Code
set_option linter.unusedVariables false
set_option linter.unusedSimpArgs false
namespace Jvm.Pilot.@@N@@
open Jvm Jvm.ClassFile Sem Op Lib Jvm.Free Jvm.Stand Jvm.LawKit Jvm.RoadKit Bundle Jvm.Pilot.@@N@@.Jvm.D
section OwnKit
variable {p : Program} {l : Launch} {e : Env} {R : Room} {s : State} {m : MethodId} {args : Array Value} {below : List Frame} {meth : Method} {c : Code} {T T' : State} {locs : List Loc} {cells slots : Nat} {Z : State} {a0 : Array Value} {h : Heap}
/-- from here the run comes to an end of which E speaks -/
def own_Go (p : Program) (e : Env) (below : List Frame) (E : State → Outcome → Prop) (T : State) (g : JFrame) : Prop :=
  ∃ t o, Steps p.tables e below (T.setTop g) t ∧ t.status = .running ∧ Ended t below o ∧ E t o
def own_End (s : State) (k n : Nat) (Q : Option Value → Heap → List Loc → Prop) (t : State) (o : Outcome) : Prop :=
  ∃ v L, o = .returned v ∧ Q v t.heap L ∧ FrameEnd s o t L k n
theorem own_by {E : State → Outcome → Prop} {g g' : JFrame} (st : ∀ target, Steps p.tables e below (T'.setTop g') target → Steps p.tables e below (T.setTop g) target) (k : own_Go p e below E T' g') : own_Go p e below E T g := by
  obtain ⟨t, o, h1, r⟩ := k
  exact ⟨t, o, st t h1, r⟩
theorem own_retW (X : Stand p l e R s m args below meth c T locs cells slots) (hx : p.tables.exec = Jvm.exec) (hlk : meth.locks = false) {pc : Nat} {Ls : Array Slot} {w : Value} {t : FieldType} {i : Instr} {rest : List Value} (hret : meth.sig.returnType = some t) (hn : narrow t w = w)
    (hi : (i = .ireturn ∧ (t = .int ∨ t = .boolean ∨ t = .byte ∨ t = .char ∨ t = .short) ∧ ∃ z, w = .int z) ∨ (i = .lreturn ∧ t = .long ∧ ∃ z, w = .long z) ∨ (i = .dreturn ∧ t = .double ∧ ∃ z, w = .double z) ∨ (i = .freturn ∧ t = .float ∧ ∃ z, w = .float z) ∨ (i = .areturn ∧ t.isReference = true ∧ w.isRef = true))
    (hd : decode c.code pc = .ok (i, 1)) {Q : Option Value → Heap → List Loc → Prop} {k n : Nat} (hQ : Q (some w) T.heap locs) (hk : cells ≤ k) (hs : slots ≤ n) : own_Go p e below (own_End s k n Q) T (mkF m pc Ls (w :: rest)) := by
  obtain ⟨fs, hr, hrun, hended, hW, hsame⟩ := X.leave (v := some w) (fun h => by rw [hret] at h; cases h) hlk
  exact ⟨_, _, retOut X hx hret hn hi hd hr, hrun, hended, _, _, rfl, hQ, ⟨_, rfl⟩, hW, hsame.mono hk hs⟩
theorem own_retI (X : Stand p l e R s m args below meth c T locs cells slots) (hx : p.tables.exec = Jvm.exec) (hlk : meth.locks = false) {pc : Nat} {Ls : Array Slot} {z : Int32} {rest : List Value} (hret : meth.sig.returnType = some .int) (hd : decode c.code pc = .ok (.ireturn, 1)) {Q : Option Value → Heap → List Loc → Prop} {k n : Nat} (hQ : Q (some (.int z)) T.heap locs) (hk : cells ≤ k) (hs : slots ≤ n) : own_Go p e below (own_End s k n Q) T (mkF m pc Ls (.int z :: rest)) :=
  own_retW X hx hlk hret rfl (Or.inl ⟨rfl, Or.inl rfl, z, rfl⟩) hd hQ hk hs
theorem own_retJ (X : Stand p l e R s m args below meth c T locs cells slots) (hx : p.tables.exec = Jvm.exec) (hlk : meth.locks = false) {pc : Nat} {Ls : Array Slot} {z : Int64} {rest : List Value} (hret : meth.sig.returnType = some .long) (hd : decode c.code pc = .ok (.lreturn, 1)) {Q : Option Value → Heap → List Loc → Prop} {k n : Nat} (hQ : Q (some (.long z)) T.heap locs) (hk : cells ≤ k) (hs : slots ≤ n) : own_Go p e below (own_End s k n Q) T (mkF m pc Ls (.long z :: rest)) :=
  own_retW X hx hlk hret rfl (Or.inr (Or.inl ⟨rfl, rfl, z, rfl⟩)) hd hQ hk hs
theorem own_retA (X : Stand p l e R s m args below meth c T locs cells slots) (hx : p.tables.exec = Jvm.exec) (hlk : meth.locks = false) {pc : Nat} {Ls : Array Slot} {w : Value} {t : FieldType} {rest : List Value} (hret : meth.sig.returnType = some t) (ht : t.isReference = true) (hw : w.isRef = true) (hd : decode c.code pc = .ok (.areturn, 1)) {Q : Option Value → Heap → List Loc → Prop} {k n : Nat} (hQ : Q (some w) T.heap locs) (hk : cells ≤ k) (hs : slots ≤ n) : own_Go p e below (own_End s k n Q) T (mkF m pc Ls (w :: rest)) :=
  own_retW X hx hlk hret (by cases t <;> first | (cases ht; done) | (cases w <;> first | rfl | (cases hw; done))) (Or.inr (Or.inr (Or.inr (Or.inr ⟨rfl, ht, hw⟩)))) hd hQ hk hs
theorem own_retN (X : Stand p l e R s m args below meth c T locs cells slots) (hx : p.tables.exec = Jvm.exec) (hlk : meth.locks = false) {pc : Nat} {Ls : Array Slot} {z : Int32} {t : FieldType} {rest : List Value} (hret : meth.sig.returnType = some t) (ht : t = .boolean ∨ t = .byte ∨ t = .char ∨ t = .short) (hn : nar t z = z) (hd : decode c.code pc = .ok (.ireturn, 1)) {Q : Option Value → Heap → List Loc → Prop} {k n : Nat} (hQ : Q (some (.int z)) T.heap locs) (hk : cells ≤ k) (hs : slots ≤ n) : own_Go p e below (own_End s k n Q) T (mkF m pc Ls (.int z :: rest)) :=
  own_retW X hx hlk hret (by rcases ht with rfl | rfl | rfl | rfl <;> exact congrArg Value.int hn) (Or.inl ⟨rfl, Or.inr ht, z, rfl⟩) hd hQ hk hs
theorem own_ret0 (X : Stand p l e R s m args below meth c T locs cells slots) (hx : p.tables.exec = Jvm.exec) (hlk : meth.locks = false) {pc : Nat} {Ls : Array Slot} (hret : meth.sig.returnType = none) (hd : decode c.code pc = .ok (.return_, 1)) {Q : Option Value → Heap → List Loc → Prop} {k n : Nat} (hQ : Q none T.heap locs) (hk : cells ≤ k) (hs : slots ≤ n) : own_Go p e below (own_End s k n Q) T (mkF m pc Ls []) := by
  obtain ⟨fs, hr, hrun, hended, hW, hsame⟩ := X.leave (v := none) (fun _ => rfl) hlk
  exact ⟨_, _, X.returnOut hx hret hd hr, hrun, hended, _, _, rfl, hQ, ⟨_, rfl⟩, hW, hsame.mono hk hs⟩
theorem own_lrem {g : JFrame} {target : State} (X : Stand p l e R s m args below meth c T locs cells slots) (hx : p.tables.exec = Jvm.exec) (hg : g.method = m) {x y : Int64} {rest : List Value} (hd : decode c.code g.pc = .ok (.lrem, 1)) (hs : g.stack = .long y :: .long x :: rest) (hy : y ≠ 0)
    (hr : Steps p.tables e below (T.setTop { g with pc := g.pc + 1, stack := .long (x % y) :: rest }) target) : Steps p.tables e below (T.setTop g) target :=
  XS.lrem X.here hx hg hd hs hy (by rw [lrem_mod]; exact hr)
/-- a body's contract: called with as' at the heap h it returns, and Q speaks of what it returns, the heap that it leaves and the places that it wrote -/
abbrev own_Met (l : Launch) (Z : State) (y : MethodName) (bytes : ByteArray) (maxL : Nat) (rt : Option FieldType) (ws : List Jvm.Cond) (rm : Room) (as' : Array Value) (h : Heap) (Q : Option Value → Heap → List Loc → Prop) : Prop :=
  MetFree l y (head1 (Jvm.Cond.code y bytes maxL rt :: ws) rm) (fun a U => a = as' ∧ Z.Warmed39 U.vm ∧ U.heap = h) (fun _ _ _ _ _ => True) (fun _ U o U' => ∃ v L, o = .returned v ∧ Q v U'.heap L ∧ FrameEnd U o U' L rm.cells rm.slots)
theorem own_enter {y : MethodName} {bytes : ByteArray} {maxL : Nat} {rt : Option FieldType} {ws : List Jvm.Cond} {rm : Room} {as' : Array Value} {Q : Option Value → Heap → List Loc → Prop} (hy : plainFor y = true) {g0 : MethodId → JFrame} (hg0 : ∀ m, entryFrame m as' maxL = g0 m)
    (body : ∀ (p : Program) (e : Env) (s : State) (m : MethodId) (below : List Frame) (meth : Method) (c : Code) (s₁ : State), p.tables.exec = Jvm.exec → c.code = bytes → c.maxLocals = maxL → s.vm.findClass y.cls = some m.cls → meth.name = y.name → meth.sig.returnType = rt → meth.locks = false → Z.Warmed39 s.vm → Stand p l e rm s m as' below meth c s₁ [] 0 0 → s₁.heap = h → own_Go p e below (own_End s rm.cells rm.slots Q) s₁ (g0 m)) :
    own_Met l Z y bytes maxL rt ws rm as' h Q := by
  refine MetFree.of_bodySF hy hisR ?_
  intro p e s m args below meth c s₁ Bd hml0 hP hK
  obtain ⟨rfl, hZ, hh⟩ := hP
  obtain ⟨t, o, h1, h2, h3, h4⟩ := body p e s m below meth c s₁ Bd.exec Bd.bytes hml0 (findClass_of_methodNamed Bd.named) (name_of_methodNamed Bd.named Bd.method).1 Bd.returns (BodyLoose.notSynchronized Bd) hZ (Stand.of_body Bd) (by rw [← hh, Bd.state]; rfl)
  exact ⟨t, o, castTop (hg0 m) h1, h2, h3, h4⟩
theorem own_callS (X : Stand p l e R s m args below meth c T locs cells slots) (hx : p.tables.exec = Jvm.exec) (hZ : Z.Warmed39 s.vm) {own : String} (hown : s.vm.findClass own = some m.cls) {index : Nat} {y : MethodName} {bytes : ByteArray} {maxL : Nat} {rt : Option FieldType}
    (w1 : (Jvm.Cond.methodLink own index y).before a0 Z = true) (w2 : (Jvm.Cond.static y).before a0 Z = true) (w3 : (Jvm.Cond.initialized y.cls).before a0 Z = true) (w4 : (Jvm.Cond.code y bytes maxL rt).before a0 Z = true)
    (hy : y.cls ≠ "java/lang/invoke/MethodHandle" ∧ y.cls ≠ "java/lang/invoke/VarHandle") {rm : Room} {argsL rest : List Value} {Q : Option Value → Heap → List Loc → Prop} (eT : T.heap = h) (hM : own_Met l Z y bytes maxL rt [] rm argsL.toArray h Q)
    {g : JFrame} (hg : g.method = m) (hsize : g.locals.size = c.maxLocals) (hlen : ∀ sig, parseMethodDescriptor y.desc = some sig → argsL.length = sig.parameters.length) (hstack : g.stack = argsL.reverse ++ rest) {W : Nat} (hW : 2 * g.monitorRoom + (rest.map fun v => v.category).sum ≤ W) (hd : decode c.code g.pc = .ok (.invokestatic index, 3))
    (hf : rm.frames + 1 ≤ R.frames) (hl : W + (maxL + 11) + rm.locals ≤ R.locals) (hc : cells + rm.cells ≤ R.cells) (hs : slots + rm.slots ≤ R.slots) :
    ∃ v T' L, Stand p l e R s m args below meth c T' (locs ++ L) (cells + rm.cells) (slots + rm.slots) ∧ Q v T'.heap L ∧ ∀ target, Steps p.tables e below (T'.setTop { g with pc := g.pc + 3, stack := v.toList ++ rest }) target → Steps p.tables e below (T.setTop g) target := by
  obtain ⟨v, _, ⟨T1, L1, k1, n1⟩, -, X1, ⟨Lc, hQ, l1, y1, z1⟩, st⟩ := Jvm.LawKit.callS X hx (y := y) hown (mvT hZ w1) (mvT hZ w2) (mvT hZ w3) (mvT hZ w4) hy (backOf (W := W) hM hZ w4 w3 hf hl) (g := g) hg hsize (argsL := argsL) (rest := rest) hlen hstack hW hd (fun _ _ => ⟨rfl, eT, hc, hs⟩)
  dsimp only [Pt.U, Pt.locs, Pt.cells, Pt.slots] at X1 l1 y1 z1 st hQ
  subst l1 y1 z1
  exact ⟨v, T1, Lc, X1, hQ, st⟩
theorem own_callI (X : Stand p l e R s m args below meth c T locs cells slots) (hx : p.tables.exec = Jvm.exec) (hZ : Z.Warmed39 s.vm) {own : String} (hown : s.vm.findClass own = some m.cls) {index : Nat} {y : MethodName} {bytes : ByteArray} {maxL : Nat} (hy1 : y.name = "<init>")
    (w1 : (Jvm.Cond.methodLink own index y).before a0 Z = true) (w2 : (Jvm.Cond.instanceMethod y).before a0 Z = true) (w3 : (Jvm.Cond.initialized y.cls).before a0 Z = true) (w4 : (Jvm.Cond.code y bytes maxL none).before a0 Z = true)
    (hy : y.cls ≠ "java/lang/invoke/MethodHandle" ∧ y.cls ≠ "java/lang/invoke/VarHandle") {rm : Room} {a : Addr} {argsL rest : List Value} {Q : Option Value → Heap → List Loc → Prop} (eT : T.heap = h) (hM : own_Met l Z y bytes maxL none [] rm (.ref a :: argsL).toArray h Q)
    {g : JFrame} (hg : g.method = m) (hsize : g.locals.size = c.maxLocals) (hlen : ∀ sig, parseMethodDescriptor y.desc = some sig → argsL.length = sig.parameters.length) (hstack : g.stack = argsL.reverse ++ .ref a :: rest) {W : Nat} (hW : 2 * g.monitorRoom + (rest.map fun v => v.category).sum ≤ W) (hd : decode c.code g.pc = .ok (.invokespecial index, 3))
    (hf : rm.frames + 1 ≤ R.frames) (hl : W + (maxL + 11) + rm.locals ≤ R.locals) (hc : cells + rm.cells ≤ R.cells) (hs : slots + rm.slots ≤ R.slots) :
    ∃ v T' L, Stand p l e R s m args below meth c T' (locs ++ L) (cells + rm.cells) (slots + rm.slots) ∧ Q v T'.heap L ∧ ∀ target, Steps p.tables e below (T'.setTop { g with pc := g.pc + 3, stack := v.toList ++ rest }) target → Steps p.tables e below (T.setTop g) target := by
  obtain ⟨v, _, ⟨T1, L1, k1, n1⟩, -, X1, ⟨Lc, hQ, l1, y1, z1⟩, st⟩ := X.specialBack hx (y := y) hy1 hown (mvT hZ w1) (mvT hZ w2) (mvT hZ w4) hy (backOf (W := W) hM hZ w4 w3 hf hl) (g := g) hg hsize (Steps.refl _) (a := a) (argsL := argsL) (rest := rest) hlen hstack hW hd (fun _ _ => ⟨rfl, eT, hc, hs⟩)
  dsimp only [Pt.U, Pt.locs, Pt.cells, Pt.slots] at X1 l1 y1 z1 st hQ
  subst l1 y1 z1
  exact ⟨v, T1, Lc, X1, hQ, fun _ k => st.trans k⟩
theorem own_callV (X : Stand p l e R s m args below meth c T locs cells slots) (hx : p.tables.exec = Jvm.exec) (hZ : Z.Warmed39 s.vm) {own C : String} (hown : s.vm.findClass own = some m.cls) {index : Nat} {y : MethodName} {bytes : ByteArray} {maxL : Nat} {rt : Option FieldType}
    (w1 : (Jvm.Cond.methodLink own index y).before a0 Z = true) (w2 : (Jvm.Cond.declares y).before a0 Z = true) (w5 : (Jvm.Cond.selects C y y).before a0 Z = true) (w6 : (Jvm.Cond.instanceMethod y).before a0 Z = true) (w3 : (Jvm.Cond.initialized y.cls).before a0 Z = true) (w4 : (Jvm.Cond.code y bytes maxL rt).before a0 Z = true)
    (hy : y.cls ≠ "java/lang/invoke/MethodHandle" ∧ y.cls ≠ "java/lang/invoke/VarHandle") {rm : Room} {a : Addr} {argsL rest : List Value} {Q : Option Value → Heap → List Loc → Prop} (hE : Exa Z h a C) (eT : T.heap = h) (hM : own_Met l Z y bytes maxL rt [] rm (.ref a :: argsL).toArray h Q)
    {g : JFrame} (hg : g.method = m) (hsize : g.locals.size = c.maxLocals) (hlen : ∀ sig, parseMethodDescriptor y.desc = some sig → argsL.length = sig.parameters.length) (hstack : g.stack = argsL.reverse ++ .ref a :: rest) {W : Nat} (hW : 2 * g.monitorRoom + (rest.map fun v => v.category).sum ≤ W) (hd : decode c.code g.pc = .ok (.invokevirtual index, 3))
    (hf : rm.frames + 1 ≤ R.frames) (hl : W + (maxL + 11) + rm.locals ≤ R.locals) (hc : cells + rm.cells ≤ R.cells) (hs : slots + rm.slots ≤ R.slots) (hC : C = y.cls := by rfl) :
    ∃ v T' L, Stand p l e R s m args below meth c T' (locs ++ L) (cells + rm.cells) (slots + rm.slots) ∧ Q v T'.heap L ∧ ∀ target, Steps p.tables e below (T'.setTop { g with pc := g.pc + 3, stack := v.toList ++ rest }) target → Steps p.tables e below (T.setTop g) target := by
  subst hC
  obtain ⟨_, _, qa, -, qc⟩ := isOf hZ eT hE
  obtain ⟨v, _, ⟨T1, L1, k1, n1⟩, -, X1, ⟨Lc, hQ, l1, y1, z1⟩, st⟩ := X.virtualBack hx (y := y) (z := y) hown (mvT hZ w1) (mvT hZ w2) (notFace_of_selects (args := #[]) (mvT hZ w5)) (mvT hZ w5) (mvT hZ w6) hy (backOf (W := W) hM hZ w4 w3 hf hl) qa qc (g := g) hg hsize (Steps.refl _) (argsL := argsL) (rest := rest) hlen hstack hW hd (fun _ _ => ⟨rfl, eT, hc, hs⟩)
  dsimp only [Pt.U, Pt.locs, Pt.cells, Pt.slots] at X1 l1 y1 z1 st hQ
  subst l1 y1 z1
  exact ⟨v, T1, Lc, X1, hQ, fun _ k => st.trans k⟩
theorem own_callU (X : Stand p l e R s m args below meth c T locs cells slots) (hx : p.tables.exec = Jvm.exec) (hZ : Z.Warmed39 s.vm) {own C owner : String} (hown : s.vm.findClass own = some m.cls) {index : Nat} {x y : MethodName} {bytes : ByteArray} {maxL : Nat} {rt : Option FieldType}
    (w1 : (Jvm.Cond.methodLink own index x).before a0 Z = true) (w7 : (Jvm.Cond.sameMethod x.cls owner x.name x.desc).before a0 Z = true) (w2 : (Jvm.Cond.declares ⟨owner, x.name, x.desc⟩).before a0 Z = true) (hy : owner ≠ "java/lang/invoke/MethodHandle" ∧ owner ≠ "java/lang/invoke/VarHandle") (w5 : (Jvm.Cond.selects C x y).before a0 Z = true) (w6 : (Jvm.Cond.instanceMethod y).before a0 Z = true) (w3 : (Jvm.Cond.initialized y.cls).before a0 Z = true) (w4 : (Jvm.Cond.code y bytes maxL rt).before a0 Z = true)
    {rm : Room} {a : Addr} {argsL rest : List Value} {Q : Option Value → Heap → List Loc → Prop} (hE : Exa Z h a C) (eT : T.heap = h) (hM : own_Met l Z y bytes maxL rt [] rm (.ref a :: argsL).toArray h Q)
    {g : JFrame} (hg : g.method = m) (hsize : g.locals.size = c.maxLocals) (hlen : ∀ sig, parseMethodDescriptor x.desc = some sig → argsL.length = sig.parameters.length) (hstack : g.stack = argsL.reverse ++ .ref a :: rest) {W : Nat} (hW : 2 * g.monitorRoom + (rest.map fun v => v.category).sum ≤ W) (hd : decode c.code g.pc = .ok (.invokevirtual index, 3))
    (hf : rm.frames + 1 ≤ R.frames) (hl : W + (maxL + 11) + rm.locals ≤ R.locals) (hc : cells + rm.cells ≤ R.cells) (hs : slots + rm.slots ≤ R.slots) :
    ∃ v T' L, Stand p l e R s m args below meth c T' (locs ++ L) (cells + rm.cells) (slots + rm.slots) ∧ Q v T'.heap L ∧ ∀ target, Steps p.tables e below (T'.setTop { g with pc := g.pc + 3, stack := v.toList ++ rest }) target → Steps p.tables e below (T.setTop g) target := by
  obtain ⟨_, _, qa, -, qc⟩ := isOf hZ eT hE
  obtain ⟨v, _, ⟨T1, L1, k1, n1⟩, -, X1, ⟨Lc, hQ, l1, y1, z1⟩, st⟩ := X.virtualBackUp hx (x := x) (y := y) hown (mvT hZ w1) (mvT hZ w7) (mvT hZ w2) hy (mvT hZ w5) (mvT hZ w6) (backOf (W := W) hM hZ w4 w3 hf hl) qa qc (g := g) hg hsize (Steps.refl _) (argsL := argsL) (rest := rest) hlen hstack hW hd (fun _ _ => ⟨rfl, eT, hc, hs⟩)
  dsimp only [Pt.U, Pt.locs, Pt.cells, Pt.slots] at X1 l1 y1 z1 st hQ
  subst l1 y1 z1
  exact ⟨v, T1, Lc, X1, hQ, fun _ k => st.trans k⟩
theorem own_arv {a : Addr} {k : ClassId} {ty : FieldType} {z : Int32} {vs : List Value} {dv : Value} (V : Arv Z h a k ty z vs dv) {j : Int32} (q : ¬ j < 0 ∧ j < z) :
    ∃ cl : Cell, Arr Z h a cl ty ∧ cl.cls = k ∧ ¬ (j < 0 ∨ cl.slots.size ≤ j.toNatClampNeg) ∧ cl.slots[j.toNatClampNeg]? = some (vs.getD j.toNatClampNeg dv) ∧ ∀ {h' : Heap} {v : Value}, fits ty v = true → Wr h h' a j.toNatClampNeg v → ∀ i, j.toNatClampNeg = i → i < vs.length → Arv Z h' a k ty z (vs.set i v) dv := by
  obtain ⟨cl, A, q1, S, q3, H, G⟩ := V
  have hin := inb_of S q
  exact ⟨cl, A, q1, hin, Has.at H hin rfl, fun hf W i hj hi => Arv.set A q1 S q3 H G hf W i hj hi⟩
theorem own_len {a : Addr} {k : ClassId} {ty : FieldType} {z : Int32} {vs : List Value} {dv : Value} (V : Arv Z h a k ty z vs dv) : ∃ cl : Cell, Arr Z h a cl ty ∧ cl.slots.size.toInt32 = z := by
  obtain ⟨cl, A, q1, S, q3, -⟩ := V
  exact ⟨cl, A, len_of S q3⟩
theorem own_sta {C f d K : String} (hx : (Jvm.Cond.exactly (.static C f d) K).value args s none s [] = some true) (w1 : (Jvm.Cond.initialized C).before args s = true) (w2 : (Jvm.Cond.laysStatic C f d).before args s = true) :
    ∃ a, (Term.static C f d).eval args s none [] s = some (.ref a) ∧ Sta s s.heap C f d (.ref a) ∧ Exa s s.heap a K := by
  obtain ⟨a, ev⟩ := exa_v hx
  exact ⟨a, ev, Sta.start ev (Or.inr ⟨w1, w2⟩), Exa.start ev hx⟩
theorem own_fldI {t : Term} {C f d : String} {a : Addr} {k : Int32} (ev : t.eval args s none [] s = some (.ref a)) (hx : (Jvm.Cond.eq (.field t C f d) (.int k)).value args s none s [] = some true) : Fld s s.heap a C f d (.int k) := by
  obtain ⟨v, w, e1, e2, k1, k2⟩ := cmp_v (Or.inl hx)
  obtain rfl : w = .int k := Option.some.inj (e2.symm.trans (Term.int_eval k))
  obtain ⟨z, rfl⟩ : ∃ z, v = .int z := k2
  have q : z = k := by simpa [Cond.value, e1, e2] using hx
  subst q
  exact Fld.start (by rw [← fld_at ev]; exact e1)
theorem own_neS {t u : Term} {a b : Addr} (ea : t.eval args s none [] s = some (.ref a)) (eb : u.eval args s none [] s = some (.ref b)) (hx : (Jvm.Cond.not (.eq t u)).value args s none s [] = some true) : a ≠ b := fun q =>
  gotF (eq_R ea eb rfl rfl) (not_v hx) (congrArg Value.ref q)
theorem own_staK {C f d : String} {v : Value} {h' : Heap} {ws : List Addr} (S : Sta Z h C f d v) (K : Keep h h' ws) (q : ∀ x ∈ ws, ∀ cell : Cell, h[x]? = some cell → cell.vm.isStatics = false) : Sta Z h' C f d v := by
  obtain ⟨cf, i, k, fl, st, cell, h1, h2, h3, h4, h5, h6, h7⟩ := S
  refine ⟨cf, i, k, fl, st, cell, h1, h2, h3, h4, K.2.1 st cell h5 (fun hm => ?_), h6, h7⟩
  have := q st hm cell h5
  rw [h6] at this
  cases this
end OwnKit
theorem own_four (x : Int32) : x &&& 3 = 0 ∨ x &&& 3 = 1 ∨ x &&& 3 = 2 ∨ x &&& 3 = 3 := by
  have h := c_mask x 3 2 (by decide) (by decide)
  have e : ∀ k : Int32, (x &&& 3).toInt = k.toInt → x &&& 3 = k := fun k q => Int32.toInt_inj.mp q
  have c : (x &&& 3).toInt = 0 ∨ (x &&& 3).toInt = 1 ∨ (x &&& 3).toInt = 2 ∨ (x &&& 3).toInt = 3 := by rw [h]; omega
  rcases c with c | c | c | c
  · exact Or.inl (e 0 c)
  · exact Or.inr (Or.inl (e 1 c))
  · exact Or.inr (Or.inr (Or.inl (e 2 c)))
  · exact Or.inr (Or.inr (Or.inr (e 3 c)))
def Q_rm1 (Z : State) (a1 o0 o1 : Addr) (h0 : Heap) (n0 : Nat) (v : Option Value) (h : Heap) (L : List Loc) : Prop := v = some (.int (if a1 = o0 then (1 : Int32) else if a1 = o1 then 1 else 0)) ∧ Fr n0 L ∧ h = h0
theorem pn_rm1 : plainFor (⟨"watchword/LoginConfiguration$ControlFlag", "failureFailsStack", "()Z"⟩ : MethodName) = true := plainFor_of_name (by first | (simp [plainName, overriddenIn, x]; done) | decide +kernel)
theorem d1_0 : decode prog_35_method_5_code 0 = .ok (.aload_n 0, 1) := by decide +kernel
theorem d1_1 : decode prog_35_method_5_code 1 = .ok (.getstatic 3, 3) := by decide +kernel
theorem d1_4 : decode prog_35_method_5_code 4 = .ok (.if_acmp .eq 10, 3) := by decide +kernel
theorem d1_14 : decode prog_35_method_5_code 14 = .ok (.iconst 1, 1) := by decide +kernel
theorem d1_15 : decode prog_35_method_5_code 15 = .ok (.goto 4, 3) := by decide +kernel
theorem d1_19 : decode prog_35_method_5_code 19 = .ok (.ireturn, 1) := by decide +kernel
theorem d1_7 : decode prog_35_method_5_code 7 = .ok (.aload_n 0, 1) := by decide +kernel
theorem d1_8 : decode prog_35_method_5_code 8 = .ok (.getstatic 7, 3) := by decide +kernel
theorem d1_11 : decode prog_35_method_5_code 11 = .ok (.if_acmp .ne 7, 3) := by decide +kernel
theorem d1_18 : decode prog_35_method_5_code 18 = .ok (.iconst 0, 1) := by decide +kernel
set_option maxRecDepth 65536 in
set_option maxHeartbeats 40000000 in
theorem rm1 (l : Launch) (Z : State) (a0 : Array Value) (hw : ∀ d ∈ tables_1, d.before a0 Z = true) (ws : List Jvm.Cond) (a1 o0 o1 : Addr) (h0 : Heap) (n0 : Nat) (Z0 : n0 ≤ h0.size) (S0 : Sta Z h0 "watchword/LoginConfiguration$ControlFlag" "REQUIRED" "Lwatchword/LoginConfiguration$ControlFlag;" (.ref o0)) (S1 : Sta Z h0 "watchword/LoginConfiguration$ControlFlag" "REQUISITE" "Lwatchword/LoginConfiguration$ControlFlag;" (.ref o1)) :
    own_Met l Z (⟨"watchword/LoginConfiguration$ControlFlag", "failureFailsStack", "()Z"⟩ : MethodName) prog_35_method_5_code 1 (some .boolean) ws ({ frames := 0, cells := 0, slots := 0, locals := 0 } : Room) #[(.ref a1)] h0 (Q_rm1 Z a1 o0 o1 h0 n0) := by
  refine own_enter (g0 := fun m => (mkF m 0 #[.val (.ref a1)] [])) pn_rm1 (fun m => by first | rfl | (simp [entryFrame, mkF, argsToLocals, Value.category, maxLocals]; done)) ?_
  intro p e s m below meth c s₁ hx hby hml hown hnm hret hlk hZ X0 e0
  have hml : c.maxLocals = 1 := hml
  have hown : s.vm.findClass "watchword/LoginConfiguration$ControlFlag" = some m.cls := hown
  have N0 := Fr.nil n0
  show own_Go p e below _ s₁ (mkF m 0 #[.val (.ref a1)] [])
  refine own_by (fun _ k => XS.aloadN X0.here hx rfl (hb hby d1_0) rfl rfl k) ?_
  show own_Go p e below _ s₁ (mkF m 1 #[.val (.ref a1)] [(.ref a1)])
  obtain ⟨T1, X1, e1, st1⟩ := getS2 X0 hx hZ hown (host := "") (Or.inl (hw _ (List.mem_of_getElem? (i := 17) rfl))) Via.refl e0 S0 (g := (mkF m 1 #[.val (.ref a1)] [(.ref a1)])) rfl (hb hby d1_1)
  refine own_by st1 ?_
  show own_Go p e below _ T1 (mkF m 4 #[.val (.ref a1)] [(.ref o0), (.ref a1)])
  by_cases h1 : a1 = o0
  · refine own_by (fun _ k => Jvm.RoadKit.acmp (g := (mkF m 4 #[.val (.ref a1)] [(.ref o0), (.ref a1)])) X1 hx rfl rfl rfl (pc0 := 4) (pc' := 14) (same := true) rfl (hb hby d1_4) rfl (decide_eq_true (congrArg Value.ref h1)) (by decide) (by decide) k) ?_
    show own_Go p e below _ T1 (mkF m 14 #[.val (.ref a1)] [])
    refine own_by (fun _ k => XS.iconst X1.here hx rfl (hb hby d1_14) k) ?_
    show own_Go p e below _ T1 (mkF m 15 #[.val (.ref a1)] [(.int (1 : Int32))])
    refine own_by (fun _ k => XS.goto X1.here hx rfl (pc0 := 15) (pc' := 19) rfl (hb hby d1_15) (by decide) (by decide) k) ?_
    show own_Go p e below _ T1 (mkF m 19 #[.val (.ref a1)] [(.int (1 : Int32))])
    exact own_retN X1 hx hlk hret (by simp) rfl (hb hby d1_19) (by first | exact ⟨by rw [if_pos h1], N0, rfl⟩ | (rw [e1]; exact ⟨by rw [if_pos h1], N0, rfl⟩)) (by decide) (by decide)
  · refine own_by (fun _ k => Jvm.RoadKit.acmp (g := (mkF m 4 #[.val (.ref a1)] [(.ref o0), (.ref a1)])) X1 hx rfl rfl rfl (pc0 := 4) (pc' := 7) (same := false) rfl (hb hby d1_4) rfl (decide_eq_false fun q => h1 (Value.ref.inj q)) (by decide) (by decide) k) ?_
    show own_Go p e below _ T1 (mkF m 7 #[.val (.ref a1)] [])
    refine own_by (fun _ k => XS.aloadN X1.here hx rfl (hb hby d1_7) rfl rfl k) ?_
    show own_Go p e below _ T1 (mkF m 8 #[.val (.ref a1)] [(.ref a1)])
    obtain ⟨T2, X2, e2, st2⟩ := getS2 X1 hx hZ hown (host := "") (Or.inl (hw _ (List.mem_of_getElem? (i := 23) rfl))) Via.refl e1 S1 (g := (mkF m 8 #[.val (.ref a1)] [(.ref a1)])) rfl (hb hby d1_8)
    refine own_by st2 ?_
    show own_Go p e below _ T2 (mkF m 11 #[.val (.ref a1)] [(.ref o1), (.ref a1)])
    by_cases h2 : a1 = o1
    · refine own_by (fun _ k => Jvm.RoadKit.acmp (g := (mkF m 11 #[.val (.ref a1)] [(.ref o1), (.ref a1)])) X2 hx rfl rfl rfl (pc0 := 11) (pc' := 14) (same := true) rfl (hb hby d1_11) rfl (decide_eq_true (congrArg Value.ref h2)) (by decide) (by decide) k) ?_
      show own_Go p e below _ T2 (mkF m 14 #[.val (.ref a1)] [])
      refine own_by (fun _ k => XS.iconst X2.here hx rfl (hb hby d1_14) k) ?_
      show own_Go p e below _ T2 (mkF m 15 #[.val (.ref a1)] [(.int (1 : Int32))])
      refine own_by (fun _ k => XS.goto X2.here hx rfl (pc0 := 15) (pc' := 19) rfl (hb hby d1_15) (by decide) (by decide) k) ?_
      show own_Go p e below _ T2 (mkF m 19 #[.val (.ref a1)] [(.int (1 : Int32))])
      exact own_retN X2 hx hlk hret (by simp) rfl (hb hby d1_19) (by first | exact ⟨by rw [if_neg h1, if_pos h2], N0, rfl⟩ | (rw [e2]; exact ⟨by rw [if_neg h1, if_pos h2], N0, rfl⟩)) (by decide) (by decide)
    · refine own_by (fun _ k => Jvm.RoadKit.acmp (g := (mkF m 11 #[.val (.ref a1)] [(.ref o1), (.ref a1)])) X2 hx rfl rfl rfl (pc0 := 11) (pc' := 18) (same := false) rfl (hb hby d1_11) rfl (decide_eq_false fun q => h2 (Value.ref.inj q)) (by decide) (by decide) k) ?_
      show own_Go p e below _ T2 (mkF m 18 #[.val (.ref a1)] [])
      refine own_by (fun _ k => XS.iconst X2.here hx rfl (hb hby d1_18) k) ?_
      show own_Go p e below _ T2 (mkF m 19 #[.val (.ref a1)] [(.int (0 : Int32))])
      exact own_retN X2 hx hlk hret (by simp) rfl (hb hby d1_19) (by first | exact ⟨by rw [if_neg h1, if_neg h2], N0, rfl⟩ | (rw [e2]; exact ⟨by rw [if_neg h1, if_neg h2], N0, rfl⟩)) (by decide) (by decide)
def Q_rm2 (Z : State) (a1 o1 : Addr) (h0 : Heap) (n0 : Nat) (v : Option Value) (h : Heap) (L : List Loc) : Prop := v = some (.int (if a1 = o1 then (1 : Int32) else 0)) ∧ Fr n0 L ∧ h = h0
theorem pn_rm2 : plainFor (⟨"watchword/LoginConfiguration$ControlFlag", "failureEndsStack", "()Z"⟩ : MethodName) = true := plainFor_of_name (by first | (simp [plainName, overriddenIn, x]; done) | decide +kernel)
theorem d2_0 : decode prog_35_method_6_code 0 = .ok (.aload_n 0, 1) := by decide +kernel
theorem d2_1 : decode prog_35_method_6_code 1 = .ok (.getstatic 7, 3) := by decide +kernel
theorem d2_4 : decode prog_35_method_6_code 4 = .ok (.if_acmp .ne 7, 3) := by decide +kernel
theorem d2_7 : decode prog_35_method_6_code 7 = .ok (.iconst 1, 1) := by decide +kernel
theorem d2_8 : decode prog_35_method_6_code 8 = .ok (.goto 4, 3) := by decide +kernel
theorem d2_12 : decode prog_35_method_6_code 12 = .ok (.ireturn, 1) := by decide +kernel
theorem d2_11 : decode prog_35_method_6_code 11 = .ok (.iconst 0, 1) := by decide +kernel
set_option maxRecDepth 65536 in
set_option maxHeartbeats 40000000 in
theorem rm2 (l : Launch) (Z : State) (a0 : Array Value) (hw : ∀ d ∈ tables_1, d.before a0 Z = true) (ws : List Jvm.Cond) (a1 o1 : Addr) (h0 : Heap) (n0 : Nat) (Z0 : n0 ≤ h0.size) (S1 : Sta Z h0 "watchword/LoginConfiguration$ControlFlag" "REQUISITE" "Lwatchword/LoginConfiguration$ControlFlag;" (.ref o1)) :
    own_Met l Z (⟨"watchword/LoginConfiguration$ControlFlag", "failureEndsStack", "()Z"⟩ : MethodName) prog_35_method_6_code 1 (some .boolean) ws ({ frames := 0, cells := 0, slots := 0, locals := 0 } : Room) #[(.ref a1)] h0 (Q_rm2 Z a1 o1 h0 n0) := by
  refine own_enter (g0 := fun m => (mkF m 0 #[.val (.ref a1)] [])) pn_rm2 (fun m => by first | rfl | (simp [entryFrame, mkF, argsToLocals, Value.category, maxLocals]; done)) ?_
  intro p e s m below meth c s₁ hx hby hml hown hnm hret hlk hZ X0 e0
  have hml : c.maxLocals = 1 := hml
  have hown : s.vm.findClass "watchword/LoginConfiguration$ControlFlag" = some m.cls := hown
  have N0 := Fr.nil n0
  show own_Go p e below _ s₁ (mkF m 0 #[.val (.ref a1)] [])
  refine own_by (fun _ k => XS.aloadN X0.here hx rfl (hb hby d2_0) rfl rfl k) ?_
  show own_Go p e below _ s₁ (mkF m 1 #[.val (.ref a1)] [(.ref a1)])
  obtain ⟨T3, X3, e3, st3⟩ := getS2 X0 hx hZ hown (host := "") (Or.inl (hw _ (List.mem_of_getElem? (i := 23) rfl))) Via.refl e0 S1 (g := (mkF m 1 #[.val (.ref a1)] [(.ref a1)])) rfl (hb hby d2_1)
  refine own_by st3 ?_
  show own_Go p e below _ T3 (mkF m 4 #[.val (.ref a1)] [(.ref o1), (.ref a1)])
  by_cases h2 : a1 = o1
  · refine own_by (fun _ k => Jvm.RoadKit.acmp (g := (mkF m 4 #[.val (.ref a1)] [(.ref o1), (.ref a1)])) X3 hx rfl rfl rfl (pc0 := 4) (pc' := 7) (same := true) rfl (hb hby d2_4) rfl (decide_eq_true (congrArg Value.ref h2)) (by decide) (by decide) k) ?_
    show own_Go p e below _ T3 (mkF m 7 #[.val (.ref a1)] [])
    refine own_by (fun _ k => XS.iconst X3.here hx rfl (hb hby d2_7) k) ?_
    show own_Go p e below _ T3 (mkF m 8 #[.val (.ref a1)] [(.int (1 : Int32))])
    refine own_by (fun _ k => XS.goto X3.here hx rfl (pc0 := 8) (pc' := 12) rfl (hb hby d2_8) (by decide) (by decide) k) ?_
    show own_Go p e below _ T3 (mkF m 12 #[.val (.ref a1)] [(.int (1 : Int32))])
    exact own_retN X3 hx hlk hret (by simp) rfl (hb hby d2_12) (by first | exact ⟨by rw [if_pos h2], N0, rfl⟩ | (rw [e3]; exact ⟨by rw [if_pos h2], N0, rfl⟩)) (by decide) (by decide)
  · refine own_by (fun _ k => Jvm.RoadKit.acmp (g := (mkF m 4 #[.val (.ref a1)] [(.ref o1), (.ref a1)])) X3 hx rfl rfl rfl (pc0 := 4) (pc' := 11) (same := false) rfl (hb hby d2_4) rfl (decide_eq_false fun q => h2 (Value.ref.inj q)) (by decide) (by decide) k) ?_
    show own_Go p e below _ T3 (mkF m 11 #[.val (.ref a1)] [])
    refine own_by (fun _ k => XS.iconst X3.here hx rfl (hb hby d2_11) k) ?_
    show own_Go p e below _ T3 (mkF m 12 #[.val (.ref a1)] [(.int (0 : Int32))])
    exact own_retN X3 hx hlk hret (by simp) rfl (hb hby d2_12) (by first | exact ⟨by rw [if_neg h2], N0, rfl⟩ | (rw [e3]; exact ⟨by rw [if_neg h2], N0, rfl⟩)) (by decide) (by decide)
def Q_rm0 (Z : State) (p1 : Int32) (o0 o1 o2 o3 : Addr) (h0 : Heap) (n0 : Nat) (v : Option Value) (h : Heap) (L : List Loc) : Prop := v = some (.int 1) ∧ Fr n0 L
theorem pn_rm0 : plainFor x = true := plainFor_of_name (by first | (simp [plainName, overriddenIn, x]; done) | decide +kernel)
theorem pd_0 : parseMethodDescriptor "()Z" = some ⟨[], some .boolean⟩ := by decide +kernel
set_option maxRecDepth 65536 in
set_option maxHeartbeats 40000000 in
theorem rm0 (l : Launch) (Z : State) (a0 : Array Value) (hw : ∀ d ∈ tables_1, d.before a0 Z = true) (ws : List Jvm.Cond) (p1 : Int32) (o0 o1 o2 o3 : Addr) (h0 : Heap) (n0 : Nat) (Z0 : n0 ≤ h0.size) (S0 : Sta Z h0 "watchword/LoginConfiguration$ControlFlag" "REQUIRED" "Lwatchword/LoginConfiguration$ControlFlag;" (.ref o0)) (E0 : Exa Z h0 o0 "watchword/LoginConfiguration$ControlFlag") (S1 : Sta Z h0 "watchword/LoginConfiguration$ControlFlag" "REQUISITE" "Lwatchword/LoginConfiguration$ControlFlag;" (.ref o1)) (E1 : Exa Z h0 o1 "watchword/LoginConfiguration$ControlFlag") (S2 : Sta Z h0 "watchword/LoginConfiguration$ControlFlag" "SUFFICIENT" "Lwatchword/LoginConfiguration$ControlFlag;" (.ref o2)) (E2 : Exa Z h0 o2 "watchword/LoginConfiguration$ControlFlag") (S3 : Sta Z h0 "watchword/LoginConfiguration$ControlFlag" "OPTIONAL" "Lwatchword/LoginConfiguration$ControlFlag;" (.ref o3)) (E3 : Exa Z h0 o3 "watchword/LoginConfiguration$ControlFlag") (n01 : o0 ≠ o1) (n02 : o0 ≠ o2) (n12 : o1 ≠ o2) (n03 : o0 ≠ o3) (n13 : o1 ≠ o3) :
    own_Met l Z x code maxLocals ret ws room_1 #[(.int p1)] h0 (Q_rm0 Z p1 o0 o1 o2 o3 h0 n0) := by
  refine own_enter (g0 := fun m => (mkF m 0 #[.val (.int p1), .unset, .unset, .unset, .unset, .unset, .unset] [])) pn_rm0 (fun m => by first | rfl | (simp [entryFrame, mkF, argsToLocals, Value.category, maxLocals]; done)) ?_
  intro p e s m below meth c s₁ hx hby hml hown hnm hret hlk hZ X0 e0
  have hml : c.maxLocals = 7 := hml
  have hown : s.vm.findClass "watchword/ControlFlagFailureFailsStackPinLaw" = some m.cls := hown
  have N0 := Fr.nil n0
  show own_Go p e below _ s₁ (mkF m 0 #[.val (.int p1), .unset, .unset, .unset, .unset, .unset, .unset] [])
  refine own_by (fun _ k => XS.iconst X0.here hx rfl (hb hby at_0) k) ?_
  show own_Go p e below _ s₁ (mkF m 1 #[.val (.int p1), .unset, .unset, .unset, .unset, .unset, .unset] [(.int (4 : Int32))])
  obtain ⟨T4, h4, k4, X4, e4, E4, A4, O4, st4⟩ := newR X0 hx hZ hown (hw _ (List.mem_of_getElem? (i := 0) rfl)) (hw _ (List.mem_of_getElem? (i := 1) rfl)) e0 (g := (mkF m 1 #[.val (.int p1), .unset, .unset, .unset, .unset, .unset, .unset] [(.int (4 : Int32))])) rfl (hb hby at_1) rfl (by decide) (cap := 4) (by decide) (by decide) (by decide) (by decide)
  obtain ⟨b4, g4⟩ : ∃ z, z = h0.size := ⟨_, rfl⟩
  rw [← g4] at A4 st4
  have ne_o0_b4 : o0 ≠ b4 := Nat.ne_of_lt (Nat.lt_of_lt_of_le E0.lt (Nat.le_of_eq g4.symm))
  have ne_o1_b4 : o1 ≠ b4 := Nat.ne_of_lt (Nat.lt_of_lt_of_le E1.lt (Nat.le_of_eq g4.symm))
  have ne_o2_b4 : o2 ≠ b4 := Nat.ne_of_lt (Nat.lt_of_lt_of_le E2.lt (Nat.le_of_eq g4.symm))
  have ne_o3_b4 : o3 ≠ b4 := Nat.ne_of_lt (Nat.lt_of_lt_of_le E3.lt (Nat.le_of_eq g4.symm))
  have og_b4 : n0 ≤ b4 := Nat.le_trans Z0 (Nat.le_of_eq g4.symm)
  have Z4 : n0 ≤ h4.size := Nat.le_trans Z0 E4.1
  have V4 : Arv Z h4 b4 k4 (.object "watchword/LoginConfiguration$ControlFlag") (4 : Int32) [.null, .null, .null, .null] .null := (Arv.new A4 (by decide)).pad (pad_rep [] .null 4)
  refine own_by st4 ?_
  show own_Go p e below _ T4 (mkF m 4 #[.val (.int p1), .unset, .unset, .unset, .unset, .unset, .unset] [(.ref b4)])
  refine own_by (fun _ k => XS.dup X4.here hx rfl (hb hby at_4) rfl rfl k) ?_
  show own_Go p e below _ T4 (mkF m 5 #[.val (.int p1), .unset, .unset, .unset, .unset, .unset, .unset] [(.ref b4), (.ref b4)])
  refine own_by (fun _ k => XS.iconst X4.here hx rfl (hb hby at_5) k) ?_
  show own_Go p e below _ T4 (mkF m 6 #[.val (.int p1), .unset, .unset, .unset, .unset, .unset, .unset] [(.int (0 : Int32)), (.ref b4), (.ref b4)])
  have f6 := (S0.ext E4)
  obtain ⟨T5, X5, e5, st5⟩ := getS2 X4 hx hZ hown (host := "") (Or.inl (hw _ (List.mem_of_getElem? (i := 2) rfl))) Via.refl e4 f6 (g := (mkF m 6 #[.val (.int p1), .unset, .unset, .unset, .unset, .unset, .unset] [(.int (0 : Int32)), (.ref b4), (.ref b4)])) rfl (hb hby at_6)
  refine own_by st5 ?_
  show own_Go p e below _ T5 (mkF m 9 #[.val (.int p1), .unset, .unset, .unset, .unset, .unset, .unset] [(.ref o0), (.int (0 : Int32)), (.ref b4), (.ref b4)])
  have f7 := (E0.ext E4)
  obtain ⟨cl8, Ar8, cq8, hin8, hat8, set8⟩ := own_arv V4 (j := (0 : Int32)) ⟨by decide, by decide⟩
  obtain ⟨T9, h9, X9, e9, W9, st9⟩ := stR X5 hx hZ e5 Ar8 (j := (0 : Int32)) hin8 rfl (Sto.ofV Ar8 cq8 O4 (Ins.self f7)) (g := (mkF m 9 #[.val (.int p1), .unset, .unset, .unset, .unset, .unset, .unset] [(.ref o0), (.int (0 : Int32)), (.ref b4), (.ref b4)])) rfl rfl (hb hby at_9)
  have V9 : Arv Z h9 b4 k4 (.object "watchword/LoginConfiguration$ControlFlag") (4 : Int32) [(.ref o0), .null, .null, .null] .null := set8 rfl W9 0 rfl (Nat.le_of_ble_eq_true rfl)
  have N9 := Fr.snoc X9 N0 og_b4
  have Z9 : n0 ≤ h9.size := Nat.le_trans Z4 (Keep.of_wr W9).1
  refine own_by st9 ?_
  show own_Go p e below _ T9 (mkF m 10 #[.val (.int p1), .unset, .unset, .unset, .unset, .unset, .unset] [(.ref b4)])
  refine own_by (fun _ k => XS.dup X9.here hx rfl (hb hby at_10) rfl rfl k) ?_
  show own_Go p e below _ T9 (mkF m 11 #[.val (.int p1), .unset, .unset, .unset, .unset, .unset, .unset] [(.ref b4), (.ref b4)])
  refine own_by (fun _ k => XS.iconst X9.here hx rfl (hb hby at_11) k) ?_
  show own_Go p e below _ T9 (mkF m 12 #[.val (.int p1), .unset, .unset, .unset, .unset, .unset, .unset] [(.int (1 : Int32)), (.ref b4), (.ref b4)])
  have f11 := ((S1.ext E4).wr W9)
  obtain ⟨T10, X10, e10, st10⟩ := getS2 X9 hx hZ hown (host := "") (Or.inl (hw _ (List.mem_of_getElem? (i := 6) rfl))) Via.refl e9 f11 (g := (mkF m 12 #[.val (.int p1), .unset, .unset, .unset, .unset, .unset, .unset] [(.int (1 : Int32)), (.ref b4), (.ref b4)])) rfl (hb hby at_12)
  refine own_by st10 ?_
  show own_Go p e below _ T10 (mkF m 15 #[.val (.int p1), .unset, .unset, .unset, .unset, .unset, .unset] [(.ref o1), (.int (1 : Int32)), (.ref b4), (.ref b4)])
  have f12 := ((E1.ext E4).wr W9)
  obtain ⟨cl13, Ar13, cq13, hin13, hat13, set13⟩ := own_arv V9 (j := (1 : Int32)) ⟨by decide, by decide⟩
  obtain ⟨T14, h14, X14, e14, W14, st14⟩ := stR X10 hx hZ e10 Ar13 (j := (1 : Int32)) hin13 rfl (Sto.ofV Ar13 cq13 O4 (Ins.self f12)) (g := (mkF m 15 #[.val (.int p1), .unset, .unset, .unset, .unset, .unset, .unset] [(.ref o1), (.int (1 : Int32)), (.ref b4), (.ref b4)])) rfl rfl (hb hby at_15)
  have V14 : Arv Z h14 b4 k4 (.object "watchword/LoginConfiguration$ControlFlag") (4 : Int32) [(.ref o0), (.ref o1), .null, .null] .null := set13 rfl W14 1 rfl (Nat.le_of_ble_eq_true rfl)
  have N14 := Fr.snoc X14 N9 og_b4
  have Z14 : n0 ≤ h14.size := Nat.le_trans Z9 (Keep.of_wr W14).1
  refine own_by st14 ?_
  show own_Go p e below _ T14 (mkF m 16 #[.val (.int p1), .unset, .unset, .unset, .unset, .unset, .unset] [(.ref b4)])
  refine own_by (fun _ k => XS.dup X14.here hx rfl (hb hby at_16) rfl rfl k) ?_
  show own_Go p e below _ T14 (mkF m 17 #[.val (.int p1), .unset, .unset, .unset, .unset, .unset, .unset] [(.ref b4), (.ref b4)])
  refine own_by (fun _ k => XS.iconst X14.here hx rfl (hb hby at_17) k) ?_
  show own_Go p e below _ T14 (mkF m 18 #[.val (.int p1), .unset, .unset, .unset, .unset, .unset, .unset] [(.int (2 : Int32)), (.ref b4), (.ref b4)])
  have f16 := (((S2.ext E4).wr W9).wr W14)
  obtain ⟨T15, X15, e15, st15⟩ := getS2 X14 hx hZ hown (host := "") (Or.inl (hw _ (List.mem_of_getElem? (i := 8) rfl))) Via.refl e14 f16 (g := (mkF m 18 #[.val (.int p1), .unset, .unset, .unset, .unset, .unset, .unset] [(.int (2 : Int32)), (.ref b4), (.ref b4)])) rfl (hb hby at_18)
  refine own_by st15 ?_
  show own_Go p e below _ T15 (mkF m 21 #[.val (.int p1), .unset, .unset, .unset, .unset, .unset, .unset] [(.ref o2), (.int (2 : Int32)), (.ref b4), (.ref b4)])
  have f17 := (((E2.ext E4).wr W9).wr W14)
  obtain ⟨cl18, Ar18, cq18, hin18, hat18, set18⟩ := own_arv V14 (j := (2 : Int32)) ⟨by decide, by decide⟩
  obtain ⟨T19, h19, X19, e19, W19, st19⟩ := stR X15 hx hZ e15 Ar18 (j := (2 : Int32)) hin18 rfl (Sto.ofV Ar18 cq18 O4 (Ins.self f17)) (g := (mkF m 21 #[.val (.int p1), .unset, .unset, .unset, .unset, .unset, .unset] [(.ref o2), (.int (2 : Int32)), (.ref b4), (.ref b4)])) rfl rfl (hb hby at_21)
  have V19 : Arv Z h19 b4 k4 (.object "watchword/LoginConfiguration$ControlFlag") (4 : Int32) [(.ref o0), (.ref o1), (.ref o2), .null] .null := set18 rfl W19 2 rfl (Nat.le_of_ble_eq_true rfl)
  have N19 := Fr.snoc X19 N14 og_b4
  have Z19 : n0 ≤ h19.size := Nat.le_trans Z14 (Keep.of_wr W19).1
  refine own_by st19 ?_
  show own_Go p e below _ T19 (mkF m 22 #[.val (.int p1), .unset, .unset, .unset, .unset, .unset, .unset] [(.ref b4)])
  refine own_by (fun _ k => XS.dup X19.here hx rfl (hb hby at_22) rfl rfl k) ?_
  show own_Go p e below _ T19 (mkF m 23 #[.val (.int p1), .unset, .unset, .unset, .unset, .unset, .unset] [(.ref b4), (.ref b4)])
  refine own_by (fun _ k => XS.iconst X19.here hx rfl (hb hby at_23) k) ?_
  show own_Go p e below _ T19 (mkF m 24 #[.val (.int p1), .unset, .unset, .unset, .unset, .unset, .unset] [(.int (3 : Int32)), (.ref b4), (.ref b4)])
  have f21 := ((((S3.ext E4).wr W9).wr W14).wr W19)
  obtain ⟨T20, X20, e20, st20⟩ := getS2 X19 hx hZ hown (host := "") (Or.inl (hw _ (List.mem_of_getElem? (i := 10) rfl))) Via.refl e19 f21 (g := (mkF m 24 #[.val (.int p1), .unset, .unset, .unset, .unset, .unset, .unset] [(.int (3 : Int32)), (.ref b4), (.ref b4)])) rfl (hb hby at_24)
  refine own_by st20 ?_
  show own_Go p e below _ T20 (mkF m 27 #[.val (.int p1), .unset, .unset, .unset, .unset, .unset, .unset] [(.ref o3), (.int (3 : Int32)), (.ref b4), (.ref b4)])
  have f22 := ((((E3.ext E4).wr W9).wr W14).wr W19)
  obtain ⟨cl23, Ar23, cq23, hin23, hat23, set23⟩ := own_arv V19 (j := (3 : Int32)) ⟨by decide, by decide⟩
  obtain ⟨T24, h24, X24, e24, W24, st24⟩ := stR X20 hx hZ e20 Ar23 (j := (3 : Int32)) hin23 rfl (Sto.ofV Ar23 cq23 O4 (Ins.self f22)) (g := (mkF m 27 #[.val (.int p1), .unset, .unset, .unset, .unset, .unset, .unset] [(.ref o3), (.int (3 : Int32)), (.ref b4), (.ref b4)])) rfl rfl (hb hby at_27)
  have V24 : Arv Z h24 b4 k4 (.object "watchword/LoginConfiguration$ControlFlag") (4 : Int32) [(.ref o0), (.ref o1), (.ref o2), (.ref o3)] .null := set23 rfl W24 3 rfl (Nat.le_of_ble_eq_true rfl)
  have N24 := Fr.snoc X24 N19 og_b4
  have Z24 : n0 ≤ h24.size := Nat.le_trans Z19 (Keep.of_wr W24).1
  refine own_by st24 ?_
  show own_Go p e below _ T24 (mkF m 28 #[.val (.int p1), .unset, .unset, .unset, .unset, .unset, .unset] [(.ref b4)])
  refine own_by (fun _ k => XS.astoreN X24.here hx rfl (hb hby at_28) rfl rfl (l' := #[.val (.int p1), .val (.ref b4), .unset, .unset, .unset, .unset, .unset]) rfl k) ?_
  show own_Go p e below _ T24 (mkF m 29 #[.val (.int p1), .val (.ref b4), .unset, .unset, .unset, .unset, .unset] [])
  refine own_by (fun _ k => XS.iloadN X24.here hx rfl (hb hby at_29) rfl k) ?_
  show own_Go p e below _ T24 (mkF m 30 #[.val (.int p1), .val (.ref b4), .unset, .unset, .unset, .unset, .unset] [(.int p1)])
  refine own_by (fun _ k => XS.iconst X24.here hx rfl (hb hby at_30) k) ?_
  show own_Go p e below _ T24 (mkF m 31 #[.val (.int p1), .val (.ref b4), .unset, .unset, .unset, .unset, .unset] [(.int (3 : Int32)), (.int p1)])
  refine own_by (fun _ k => XS.iand X24.here hx rfl (hb hby at_31) rfl k) ?_
  show own_Go p e below _ T24 (mkF m 32 #[.val (.int p1), .val (.ref b4), .unset, .unset, .unset, .unset, .unset] [(.int (p1 &&& (3 : Int32)))])
  refine own_by (fun _ k => XS.istoreN X24.here hx rfl (hb hby at_32) rfl (l' := #[.val (.int p1), .val (.ref b4), .val (.int (p1 &&& (3 : Int32))), .unset, .unset, .unset, .unset]) rfl k) ?_
  show own_Go p e below _ T24 (mkF m 33 #[.val (.int p1), .val (.ref b4), .val (.int (p1 &&& (3 : Int32))), .unset, .unset, .unset, .unset] [])
  refine own_by (fun _ k => XS.aloadN X24.here hx rfl (hb hby at_33) rfl rfl k) ?_
  show own_Go p e below _ T24 (mkF m 34 #[.val (.int p1), .val (.ref b4), .val (.int (p1 &&& (3 : Int32))), .unset, .unset, .unset, .unset] [(.ref b4)])
  refine own_by (fun _ k => XS.iloadN X24.here hx rfl (hb hby at_34) rfl k) ?_
  show own_Go p e below _ T24 (mkF m 35 #[.val (.int p1), .val (.ref b4), .val (.int (p1 &&& (3 : Int32))), .unset, .unset, .unset, .unset] [(.int (p1 &&& (3 : Int32))), (.ref b4)])
  rcases own_four p1 with hk | hk | hk | hk
  · show own_Go p e below _ T24 (mkF m 35 #[.val (.int p1), .val (.ref b4), .val (.int (p1 &&& (3 : Int32))), .unset, .unset, .unset, .unset] [(.int (p1 &&& (3 : Int32))), (.ref b4)])
    rw [hk]
    show own_Go p e below _ T24 (mkF m 35 #[.val (.int p1), .val (.ref b4), .val (.int (0 : Int32)), .unset, .unset, .unset, .unset] [(.int (0 : Int32)), (.ref b4)])
    obtain ⟨cl25, Ar25, cq25, hin25, hat25, set25⟩ := own_arv V24 (j := (0 : Int32)) ⟨by decide, by decide⟩
    refine own_by (fun _ k => X24.aaload hx (j := (0 : Int32)) (v := (.ref o0)) (by rw [e24]; exact Ar25.1) (State.isArrayOf_alike hZ.alike Ar25.2.1) rfl Ar25.2.2 hin25 hat25 (g := (mkF m 35 #[.val (.int p1), .val (.ref b4), .val (.int (0 : Int32)), .unset, .unset, .unset, .unset] [(.int (0 : Int32)), (.ref b4)])) rfl rfl (hb hby at_35) _ k) ?_
    show own_Go p e below _ T24 (mkF m 36 #[.val (.int p1), .val (.ref b4), .val (.int (0 : Int32)), .unset, .unset, .unset, .unset] [(.ref o0)])
    refine own_by (fun _ k => XS.astoreN X24.here hx rfl (hb hby at_36) rfl rfl (l' := #[.val (.int p1), .val (.ref b4), .val (.int (0 : Int32)), .val (.ref o0), .unset, .unset, .unset]) rfl k) ?_
    show own_Go p e below _ T24 (mkF m 37 #[.val (.int p1), .val (.ref b4), .val (.int (0 : Int32)), .val (.ref o0), .unset, .unset, .unset] [])
    refine own_by (fun _ k => XS.iloadN X24.here hx rfl (hb hby at_37) rfl k) ?_
    show own_Go p e below _ T24 (mkF m 38 #[.val (.int p1), .val (.ref b4), .val (.int (0 : Int32)), .val (.ref o0), .unset, .unset, .unset] [(.int (0 : Int32))])
    refine own_by (fun _ k => XS.iconst X24.here hx rfl (hb hby at_38) k) ?_
    show own_Go p e below _ T24 (mkF m 39 #[.val (.int p1), .val (.ref b4), .val (.int (0 : Int32)), .val (.ref o0), .unset, .unset, .unset] [(.int (1 : Int32)), (.int (0 : Int32))])
    refine own_by (fun _ k => XS.icmpNo X24.here hx rfl (hb hby at_39) rfl (flt (by decide : ¬ ((1 : Int32) < (0 : Int32)))).2.2.1 k) ?_
    show own_Go p e below _ T24 (mkF m 42 #[.val (.int p1), .val (.ref b4), .val (.int (0 : Int32)), .val (.ref o0), .unset, .unset, .unset] [])
    refine own_by (fun _ k => XS.iconst X24.here hx rfl (hb hby at_42) k) ?_
    show own_Go p e below _ T24 (mkF m 43 #[.val (.int p1), .val (.ref b4), .val (.int (0 : Int32)), .val (.ref o0), .unset, .unset, .unset] [(.int (1 : Int32))])
    refine own_by (fun _ k => XS.goto X24.here hx rfl (pc0 := 43) (pc' := 47) rfl (hb hby at_43) (by decide) (by decide) k) ?_
    show own_Go p e below _ T24 (mkF m 47 #[.val (.int p1), .val (.ref b4), .val (.int (0 : Int32)), .val (.ref o0), .unset, .unset, .unset] [(.int (1 : Int32))])
    refine own_by (fun _ k => XS.istore X24.here hx rfl (hb hby at_47) rfl (l' := #[.val (.int p1), .val (.ref b4), .val (.int (0 : Int32)), .val (.ref o0), .val (.int (1 : Int32)), .unset, .unset]) rfl k) ?_
    show own_Go p e below _ T24 (mkF m 49 #[.val (.int p1), .val (.ref b4), .val (.int (0 : Int32)), .val (.ref o0), .val (.int (1 : Int32)), .unset, .unset] [])
    refine own_by (fun _ k => XS.aloadN X24.here hx rfl (hb hby at_49) rfl rfl k) ?_
    show own_Go p e below _ T24 (mkF m 50 #[.val (.int p1), .val (.ref b4), .val (.int (0 : Int32)), .val (.ref o0), .val (.int (1 : Int32)), .unset, .unset] [(.ref o0)])
    have f26 := ((((f6.wr W9).wr W14).wr W19).wr W24)
    have f27 := (((f11.wr W14).wr W19).wr W24)
    have f29 := ((((f7.wr W9).wr W14).wr W19).wr W24)
    obtain ⟨_, T28, L28, X28, ⟨rfl, N28q, e28⟩, st28⟩ := own_callV X24 hx hZ hown (y := (⟨"watchword/LoginConfiguration$ControlFlag", "failureFailsStack", "()Z"⟩ : MethodName)) (C := "watchword/LoginConfiguration$ControlFlag") (hw _ (List.mem_of_getElem? (i := 12) rfl)) (hw _ (List.mem_of_getElem? (i := 13) rfl)) (hw _ (List.mem_of_getElem? (i := 15) rfl)) (hw _ (List.mem_of_getElem? (i := 14) rfl)) (hw _ (List.mem_of_getElem? (i := 3) rfl)) (hw _ (List.mem_of_getElem? (i := 16) rfl)) (by decide) (a := o0) f29 (argsL := []) (rest := []) e24 (rm1 l Z a0 hw [] o0 o0 o1 h24 n0 Z24 f26 f27) (g := (mkF m 50 #[.val (.int p1), .val (.ref b4), .val (.int (0 : Int32)), .val (.ref o0), .val (.int (1 : Int32)), .unset, .unset] [(.ref o0)])) rfl (by rw [hml]; rfl) (lenOf pd_0 rfl) rfl (W := 0) (by show 2 * 0 + _ ≤ _; exact Nat.le_of_eq rfl) (hb hby at_50) (by decide) (by decide) (by decide) (by decide)
    have N28 := Fr.app N24 N28q
    refine own_by st28 ?_
    show own_Go p e below _ T28 (mkF m 53 #[.val (.int p1), .val (.ref b4), .val (.int (0 : Int32)), .val (.ref o0), .val (.int (1 : Int32)), .unset, .unset] [(.int (if o0 = o0 then (1 : Int32) else if o0 = o1 then 1 else 0))])
    rw [show (if o0 = o0 then (1 : Int32) else if o0 = o1 then 1 else 0) = (1 : Int32) from if_pos rfl]
    show own_Go p e below _ T28 (mkF m 53 #[.val (.int p1), .val (.ref b4), .val (.int (0 : Int32)), .val (.ref o0), .val (.int (1 : Int32)), .unset, .unset] [(.int (1 : Int32))])
    refine own_by (fun _ k => XS.istore X28.here hx rfl (hb hby at_53) rfl (l' := #[.val (.int p1), .val (.ref b4), .val (.int (0 : Int32)), .val (.ref o0), .val (.int (1 : Int32)), .val (.int (1 : Int32)), .unset]) rfl k) ?_
    show own_Go p e below _ T28 (mkF m 55 #[.val (.int p1), .val (.ref b4), .val (.int (0 : Int32)), .val (.ref o0), .val (.int (1 : Int32)), .val (.int (1 : Int32)), .unset] [])
    refine own_by (fun _ k => XS.aloadN X28.here hx rfl (hb hby at_55) rfl rfl k) ?_
    show own_Go p e below _ T28 (mkF m 56 #[.val (.int p1), .val (.ref b4), .val (.int (0 : Int32)), .val (.ref o0), .val (.int (1 : Int32)), .val (.int (1 : Int32)), .unset] [(.ref o0)])
    obtain ⟨_, T30, L30, X30, ⟨rfl, N30q, e30⟩, st30⟩ := own_callV X28 hx hZ hown (y := (⟨"watchword/LoginConfiguration$ControlFlag", "failureEndsStack", "()Z"⟩ : MethodName)) (C := "watchword/LoginConfiguration$ControlFlag") (hw _ (List.mem_of_getElem? (i := 18) rfl)) (hw _ (List.mem_of_getElem? (i := 19) rfl)) (hw _ (List.mem_of_getElem? (i := 21) rfl)) (hw _ (List.mem_of_getElem? (i := 20) rfl)) (hw _ (List.mem_of_getElem? (i := 3) rfl)) (hw _ (List.mem_of_getElem? (i := 22) rfl)) (by decide) (a := o0) f29 (argsL := []) (rest := []) e28 (rm2 l Z a0 hw [] o0 o1 h24 n0 Z24 f27) (g := (mkF m 56 #[.val (.int p1), .val (.ref b4), .val (.int (0 : Int32)), .val (.ref o0), .val (.int (1 : Int32)), .val (.int (1 : Int32)), .unset] [(.ref o0)])) rfl (by rw [hml]; rfl) (lenOf pd_0 rfl) rfl (W := 0) (by show 2 * 0 + _ ≤ _; exact Nat.le_of_eq rfl) (hb hby at_56) (by decide) (by decide) (by decide) (by decide)
    have N30 := Fr.app N28 N30q
    refine own_by st30 ?_
    show own_Go p e below _ T30 (mkF m 59 #[.val (.int p1), .val (.ref b4), .val (.int (0 : Int32)), .val (.ref o0), .val (.int (1 : Int32)), .val (.int (1 : Int32)), .unset] [(.int (if o0 = o1 then (1 : Int32) else 0))])
    rw [show (if o0 = o1 then (1 : Int32) else 0) = (0 : Int32) from if_neg n01]
    show own_Go p e below _ T30 (mkF m 59 #[.val (.int p1), .val (.ref b4), .val (.int (0 : Int32)), .val (.ref o0), .val (.int (1 : Int32)), .val (.int (1 : Int32)), .unset] [(.int (0 : Int32))])
    refine own_by (fun _ k => XS.istore X30.here hx rfl (hb hby at_59) rfl (l' := #[.val (.int p1), .val (.ref b4), .val (.int (0 : Int32)), .val (.ref o0), .val (.int (1 : Int32)), .val (.int (1 : Int32)), .val (.int (0 : Int32))]) rfl k) ?_
    show own_Go p e below _ T30 (mkF m 61 #[.val (.int p1), .val (.ref b4), .val (.int (0 : Int32)), .val (.ref o0), .val (.int (1 : Int32)), .val (.int (1 : Int32)), .val (.int (0 : Int32))] [])
    refine own_by (fun _ k => XS.iload X30.here hx rfl (hb hby at_61) rfl k) ?_
    show own_Go p e below _ T30 (mkF m 63 #[.val (.int p1), .val (.ref b4), .val (.int (0 : Int32)), .val (.ref o0), .val (.int (1 : Int32)), .val (.int (1 : Int32)), .val (.int (0 : Int32))] [(.int (1 : Int32))])
    refine own_by (fun _ k => XS.iload X30.here hx rfl (hb hby at_63) rfl k) ?_
    show own_Go p e below _ T30 (mkF m 65 #[.val (.int p1), .val (.ref b4), .val (.int (0 : Int32)), .val (.ref o0), .val (.int (1 : Int32)), .val (.int (1 : Int32)), .val (.int (0 : Int32))] [(.int (1 : Int32)), (.int (1 : Int32))])
    refine own_by (fun _ k => XS.icmpNo X30.here hx rfl (hb hby at_65) rfl (teq (rfl : (1 : Int32) = (1 : Int32))).2 k) ?_
    show own_Go p e below _ T30 (mkF m 68 #[.val (.int p1), .val (.ref b4), .val (.int (0 : Int32)), .val (.ref o0), .val (.int (1 : Int32)), .val (.int (1 : Int32)), .val (.int (0 : Int32))] [])
    refine own_by (fun _ k => XS.iload X30.here hx rfl (hb hby at_68) rfl k) ?_
    show own_Go p e below _ T30 (mkF m 70 #[.val (.int p1), .val (.ref b4), .val (.int (0 : Int32)), .val (.ref o0), .val (.int (1 : Int32)), .val (.int (1 : Int32)), .val (.int (0 : Int32))] [(.int (0 : Int32))])
    refine own_by (fun _ k => XS.ifYes X30.here hx rfl (pc0 := 70) (pc' := 78) rfl (hb hby at_70) rfl ((if0 _ _).trans (teq (by decide : (0 : Int32) = (0 : Int32))).1) (by decide) (by decide) k) ?_
    show own_Go p e below _ T30 (mkF m 78 #[.val (.int p1), .val (.ref b4), .val (.int (0 : Int32)), .val (.ref o0), .val (.int (1 : Int32)), .val (.int (1 : Int32)), .val (.int (0 : Int32))] [])
    refine own_by (fun _ k => XS.iconst X30.here hx rfl (hb hby at_78) k) ?_
    show own_Go p e below _ T30 (mkF m 79 #[.val (.int p1), .val (.ref b4), .val (.int (0 : Int32)), .val (.ref o0), .val (.int (1 : Int32)), .val (.int (1 : Int32)), .val (.int (0 : Int32))] [(.int (1 : Int32))])
    refine own_by (fun _ k => XS.goto X30.here hx rfl (pc0 := 79) (pc' := 83) rfl (hb hby at_79) (by decide) (by decide) k) ?_
    show own_Go p e below _ T30 (mkF m 83 #[.val (.int p1), .val (.ref b4), .val (.int (0 : Int32)), .val (.ref o0), .val (.int (1 : Int32)), .val (.int (1 : Int32)), .val (.int (0 : Int32))] [(.int (1 : Int32))])
    exact own_retN X30 hx hlk hret (by simp) rfl (hb hby at_83) (by first | exact ⟨rfl, N30⟩ | (rw [e30]; exact ⟨rfl, N30⟩)) (by decide) (by decide)
  · show own_Go p e below _ T24 (mkF m 35 #[.val (.int p1), .val (.ref b4), .val (.int (p1 &&& (3 : Int32))), .unset, .unset, .unset, .unset] [(.int (p1 &&& (3 : Int32))), (.ref b4)])
    rw [hk]
    show own_Go p e below _ T24 (mkF m 35 #[.val (.int p1), .val (.ref b4), .val (.int (1 : Int32)), .unset, .unset, .unset, .unset] [(.int (1 : Int32)), (.ref b4)])
    obtain ⟨cl31, Ar31, cq31, hin31, hat31, set31⟩ := own_arv V24 (j := (1 : Int32)) ⟨by decide, by decide⟩
    refine own_by (fun _ k => X24.aaload hx (j := (1 : Int32)) (v := (.ref o1)) (by rw [e24]; exact Ar31.1) (State.isArrayOf_alike hZ.alike Ar31.2.1) rfl Ar31.2.2 hin31 hat31 (g := (mkF m 35 #[.val (.int p1), .val (.ref b4), .val (.int (1 : Int32)), .unset, .unset, .unset, .unset] [(.int (1 : Int32)), (.ref b4)])) rfl rfl (hb hby at_35) _ k) ?_
    show own_Go p e below _ T24 (mkF m 36 #[.val (.int p1), .val (.ref b4), .val (.int (1 : Int32)), .unset, .unset, .unset, .unset] [(.ref o1)])
    refine own_by (fun _ k => XS.astoreN X24.here hx rfl (hb hby at_36) rfl rfl (l' := #[.val (.int p1), .val (.ref b4), .val (.int (1 : Int32)), .val (.ref o1), .unset, .unset, .unset]) rfl k) ?_
    show own_Go p e below _ T24 (mkF m 37 #[.val (.int p1), .val (.ref b4), .val (.int (1 : Int32)), .val (.ref o1), .unset, .unset, .unset] [])
    refine own_by (fun _ k => XS.iloadN X24.here hx rfl (hb hby at_37) rfl k) ?_
    show own_Go p e below _ T24 (mkF m 38 #[.val (.int p1), .val (.ref b4), .val (.int (1 : Int32)), .val (.ref o1), .unset, .unset, .unset] [(.int (1 : Int32))])
    refine own_by (fun _ k => XS.iconst X24.here hx rfl (hb hby at_38) k) ?_
    show own_Go p e below _ T24 (mkF m 39 #[.val (.int p1), .val (.ref b4), .val (.int (1 : Int32)), .val (.ref o1), .unset, .unset, .unset] [(.int (1 : Int32)), (.int (1 : Int32))])
    refine own_by (fun _ k => XS.icmpNo X24.here hx rfl (hb hby at_39) rfl (flt (by decide : ¬ ((1 : Int32) < (1 : Int32)))).2.2.1 k) ?_
    show own_Go p e below _ T24 (mkF m 42 #[.val (.int p1), .val (.ref b4), .val (.int (1 : Int32)), .val (.ref o1), .unset, .unset, .unset] [])
    refine own_by (fun _ k => XS.iconst X24.here hx rfl (hb hby at_42) k) ?_
    show own_Go p e below _ T24 (mkF m 43 #[.val (.int p1), .val (.ref b4), .val (.int (1 : Int32)), .val (.ref o1), .unset, .unset, .unset] [(.int (1 : Int32))])
    refine own_by (fun _ k => XS.goto X24.here hx rfl (pc0 := 43) (pc' := 47) rfl (hb hby at_43) (by decide) (by decide) k) ?_
    show own_Go p e below _ T24 (mkF m 47 #[.val (.int p1), .val (.ref b4), .val (.int (1 : Int32)), .val (.ref o1), .unset, .unset, .unset] [(.int (1 : Int32))])
    refine own_by (fun _ k => XS.istore X24.here hx rfl (hb hby at_47) rfl (l' := #[.val (.int p1), .val (.ref b4), .val (.int (1 : Int32)), .val (.ref o1), .val (.int (1 : Int32)), .unset, .unset]) rfl k) ?_
    show own_Go p e below _ T24 (mkF m 49 #[.val (.int p1), .val (.ref b4), .val (.int (1 : Int32)), .val (.ref o1), .val (.int (1 : Int32)), .unset, .unset] [])
    refine own_by (fun _ k => XS.aloadN X24.here hx rfl (hb hby at_49) rfl rfl k) ?_
    show own_Go p e below _ T24 (mkF m 50 #[.val (.int p1), .val (.ref b4), .val (.int (1 : Int32)), .val (.ref o1), .val (.int (1 : Int32)), .unset, .unset] [(.ref o1)])
    have f32 := ((((f6.wr W9).wr W14).wr W19).wr W24)
    have f33 := (((f11.wr W14).wr W19).wr W24)
    have f35 := (((f12.wr W14).wr W19).wr W24)
    obtain ⟨_, T34, L34, X34, ⟨rfl, N34q, e34⟩, st34⟩ := own_callV X24 hx hZ hown (y := (⟨"watchword/LoginConfiguration$ControlFlag", "failureFailsStack", "()Z"⟩ : MethodName)) (C := "watchword/LoginConfiguration$ControlFlag") (hw _ (List.mem_of_getElem? (i := 12) rfl)) (hw _ (List.mem_of_getElem? (i := 13) rfl)) (hw _ (List.mem_of_getElem? (i := 15) rfl)) (hw _ (List.mem_of_getElem? (i := 14) rfl)) (hw _ (List.mem_of_getElem? (i := 3) rfl)) (hw _ (List.mem_of_getElem? (i := 16) rfl)) (by decide) (a := o1) f35 (argsL := []) (rest := []) e24 (rm1 l Z a0 hw [] o1 o0 o1 h24 n0 Z24 f32 f33) (g := (mkF m 50 #[.val (.int p1), .val (.ref b4), .val (.int (1 : Int32)), .val (.ref o1), .val (.int (1 : Int32)), .unset, .unset] [(.ref o1)])) rfl (by rw [hml]; rfl) (lenOf pd_0 rfl) rfl (W := 0) (by show 2 * 0 + _ ≤ _; exact Nat.le_of_eq rfl) (hb hby at_50) (by decide) (by decide) (by decide) (by decide)
    have N34 := Fr.app N24 N34q
    refine own_by st34 ?_
    show own_Go p e below _ T34 (mkF m 53 #[.val (.int p1), .val (.ref b4), .val (.int (1 : Int32)), .val (.ref o1), .val (.int (1 : Int32)), .unset, .unset] [(.int (if o1 = o0 then (1 : Int32) else if o1 = o1 then 1 else 0))])
    rw [show (if o1 = o0 then (1 : Int32) else if o1 = o1 then 1 else 0) = (1 : Int32) from (if_neg n01.symm).trans (if_pos rfl)]
    show own_Go p e below _ T34 (mkF m 53 #[.val (.int p1), .val (.ref b4), .val (.int (1 : Int32)), .val (.ref o1), .val (.int (1 : Int32)), .unset, .unset] [(.int (1 : Int32))])
    refine own_by (fun _ k => XS.istore X34.here hx rfl (hb hby at_53) rfl (l' := #[.val (.int p1), .val (.ref b4), .val (.int (1 : Int32)), .val (.ref o1), .val (.int (1 : Int32)), .val (.int (1 : Int32)), .unset]) rfl k) ?_
    show own_Go p e below _ T34 (mkF m 55 #[.val (.int p1), .val (.ref b4), .val (.int (1 : Int32)), .val (.ref o1), .val (.int (1 : Int32)), .val (.int (1 : Int32)), .unset] [])
    refine own_by (fun _ k => XS.aloadN X34.here hx rfl (hb hby at_55) rfl rfl k) ?_
    show own_Go p e below _ T34 (mkF m 56 #[.val (.int p1), .val (.ref b4), .val (.int (1 : Int32)), .val (.ref o1), .val (.int (1 : Int32)), .val (.int (1 : Int32)), .unset] [(.ref o1)])
    obtain ⟨_, T36, L36, X36, ⟨rfl, N36q, e36⟩, st36⟩ := own_callV X34 hx hZ hown (y := (⟨"watchword/LoginConfiguration$ControlFlag", "failureEndsStack", "()Z"⟩ : MethodName)) (C := "watchword/LoginConfiguration$ControlFlag") (hw _ (List.mem_of_getElem? (i := 18) rfl)) (hw _ (List.mem_of_getElem? (i := 19) rfl)) (hw _ (List.mem_of_getElem? (i := 21) rfl)) (hw _ (List.mem_of_getElem? (i := 20) rfl)) (hw _ (List.mem_of_getElem? (i := 3) rfl)) (hw _ (List.mem_of_getElem? (i := 22) rfl)) (by decide) (a := o1) f35 (argsL := []) (rest := []) e34 (rm2 l Z a0 hw [] o1 o1 h24 n0 Z24 f33) (g := (mkF m 56 #[.val (.int p1), .val (.ref b4), .val (.int (1 : Int32)), .val (.ref o1), .val (.int (1 : Int32)), .val (.int (1 : Int32)), .unset] [(.ref o1)])) rfl (by rw [hml]; rfl) (lenOf pd_0 rfl) rfl (W := 0) (by show 2 * 0 + _ ≤ _; exact Nat.le_of_eq rfl) (hb hby at_56) (by decide) (by decide) (by decide) (by decide)
    have N36 := Fr.app N34 N36q
    refine own_by st36 ?_
    show own_Go p e below _ T36 (mkF m 59 #[.val (.int p1), .val (.ref b4), .val (.int (1 : Int32)), .val (.ref o1), .val (.int (1 : Int32)), .val (.int (1 : Int32)), .unset] [(.int (if o1 = o1 then (1 : Int32) else 0))])
    rw [show (if o1 = o1 then (1 : Int32) else 0) = (1 : Int32) from if_pos rfl]
    show own_Go p e below _ T36 (mkF m 59 #[.val (.int p1), .val (.ref b4), .val (.int (1 : Int32)), .val (.ref o1), .val (.int (1 : Int32)), .val (.int (1 : Int32)), .unset] [(.int (1 : Int32))])
    refine own_by (fun _ k => XS.istore X36.here hx rfl (hb hby at_59) rfl (l' := #[.val (.int p1), .val (.ref b4), .val (.int (1 : Int32)), .val (.ref o1), .val (.int (1 : Int32)), .val (.int (1 : Int32)), .val (.int (1 : Int32))]) rfl k) ?_
    show own_Go p e below _ T36 (mkF m 61 #[.val (.int p1), .val (.ref b4), .val (.int (1 : Int32)), .val (.ref o1), .val (.int (1 : Int32)), .val (.int (1 : Int32)), .val (.int (1 : Int32))] [])
    refine own_by (fun _ k => XS.iload X36.here hx rfl (hb hby at_61) rfl k) ?_
    show own_Go p e below _ T36 (mkF m 63 #[.val (.int p1), .val (.ref b4), .val (.int (1 : Int32)), .val (.ref o1), .val (.int (1 : Int32)), .val (.int (1 : Int32)), .val (.int (1 : Int32))] [(.int (1 : Int32))])
    refine own_by (fun _ k => XS.iload X36.here hx rfl (hb hby at_63) rfl k) ?_
    show own_Go p e below _ T36 (mkF m 65 #[.val (.int p1), .val (.ref b4), .val (.int (1 : Int32)), .val (.ref o1), .val (.int (1 : Int32)), .val (.int (1 : Int32)), .val (.int (1 : Int32))] [(.int (1 : Int32)), (.int (1 : Int32))])
    refine own_by (fun _ k => XS.icmpNo X36.here hx rfl (hb hby at_65) rfl (teq (rfl : (1 : Int32) = (1 : Int32))).2 k) ?_
    show own_Go p e below _ T36 (mkF m 68 #[.val (.int p1), .val (.ref b4), .val (.int (1 : Int32)), .val (.ref o1), .val (.int (1 : Int32)), .val (.int (1 : Int32)), .val (.int (1 : Int32))] [])
    refine own_by (fun _ k => XS.iload X36.here hx rfl (hb hby at_68) rfl k) ?_
    show own_Go p e below _ T36 (mkF m 70 #[.val (.int p1), .val (.ref b4), .val (.int (1 : Int32)), .val (.ref o1), .val (.int (1 : Int32)), .val (.int (1 : Int32)), .val (.int (1 : Int32))] [(.int (1 : Int32))])
    refine own_by (fun _ k => XS.ifNo X36.here hx rfl (hb hby at_70) rfl ((if0 _ _).trans (feq (by decide : ¬ ((1 : Int32) = (0 : Int32)))).1) k) ?_
    show own_Go p e below _ T36 (mkF m 73 #[.val (.int p1), .val (.ref b4), .val (.int (1 : Int32)), .val (.ref o1), .val (.int (1 : Int32)), .val (.int (1 : Int32)), .val (.int (1 : Int32))] [])
    refine own_by (fun _ k => XS.iload X36.here hx rfl (hb hby at_73) rfl k) ?_
    show own_Go p e below _ T36 (mkF m 75 #[.val (.int p1), .val (.ref b4), .val (.int (1 : Int32)), .val (.ref o1), .val (.int (1 : Int32)), .val (.int (1 : Int32)), .val (.int (1 : Int32))] [(.int (1 : Int32))])
    refine own_by (fun _ k => XS.ifNo X36.here hx rfl (hb hby at_75) rfl ((if0 _ _).trans (feq (by decide : ¬ ((1 : Int32) = (0 : Int32)))).1) k) ?_
    show own_Go p e below _ T36 (mkF m 78 #[.val (.int p1), .val (.ref b4), .val (.int (1 : Int32)), .val (.ref o1), .val (.int (1 : Int32)), .val (.int (1 : Int32)), .val (.int (1 : Int32))] [])
    refine own_by (fun _ k => XS.iconst X36.here hx rfl (hb hby at_78) k) ?_
    show own_Go p e below _ T36 (mkF m 79 #[.val (.int p1), .val (.ref b4), .val (.int (1 : Int32)), .val (.ref o1), .val (.int (1 : Int32)), .val (.int (1 : Int32)), .val (.int (1 : Int32))] [(.int (1 : Int32))])
    refine own_by (fun _ k => XS.goto X36.here hx rfl (pc0 := 79) (pc' := 83) rfl (hb hby at_79) (by decide) (by decide) k) ?_
    show own_Go p e below _ T36 (mkF m 83 #[.val (.int p1), .val (.ref b4), .val (.int (1 : Int32)), .val (.ref o1), .val (.int (1 : Int32)), .val (.int (1 : Int32)), .val (.int (1 : Int32))] [(.int (1 : Int32))])
    exact own_retN X36 hx hlk hret (by simp) rfl (hb hby at_83) (by first | exact ⟨rfl, N36⟩ | (rw [e36]; exact ⟨rfl, N36⟩)) (by decide) (by decide)
  · show own_Go p e below _ T24 (mkF m 35 #[.val (.int p1), .val (.ref b4), .val (.int (p1 &&& (3 : Int32))), .unset, .unset, .unset, .unset] [(.int (p1 &&& (3 : Int32))), (.ref b4)])
    rw [hk]
    show own_Go p e below _ T24 (mkF m 35 #[.val (.int p1), .val (.ref b4), .val (.int (2 : Int32)), .unset, .unset, .unset, .unset] [(.int (2 : Int32)), (.ref b4)])
    obtain ⟨cl37, Ar37, cq37, hin37, hat37, set37⟩ := own_arv V24 (j := (2 : Int32)) ⟨by decide, by decide⟩
    refine own_by (fun _ k => X24.aaload hx (j := (2 : Int32)) (v := (.ref o2)) (by rw [e24]; exact Ar37.1) (State.isArrayOf_alike hZ.alike Ar37.2.1) rfl Ar37.2.2 hin37 hat37 (g := (mkF m 35 #[.val (.int p1), .val (.ref b4), .val (.int (2 : Int32)), .unset, .unset, .unset, .unset] [(.int (2 : Int32)), (.ref b4)])) rfl rfl (hb hby at_35) _ k) ?_
    show own_Go p e below _ T24 (mkF m 36 #[.val (.int p1), .val (.ref b4), .val (.int (2 : Int32)), .unset, .unset, .unset, .unset] [(.ref o2)])
    refine own_by (fun _ k => XS.astoreN X24.here hx rfl (hb hby at_36) rfl rfl (l' := #[.val (.int p1), .val (.ref b4), .val (.int (2 : Int32)), .val (.ref o2), .unset, .unset, .unset]) rfl k) ?_
    show own_Go p e below _ T24 (mkF m 37 #[.val (.int p1), .val (.ref b4), .val (.int (2 : Int32)), .val (.ref o2), .unset, .unset, .unset] [])
    refine own_by (fun _ k => XS.iloadN X24.here hx rfl (hb hby at_37) rfl k) ?_
    show own_Go p e below _ T24 (mkF m 38 #[.val (.int p1), .val (.ref b4), .val (.int (2 : Int32)), .val (.ref o2), .unset, .unset, .unset] [(.int (2 : Int32))])
    refine own_by (fun _ k => XS.iconst X24.here hx rfl (hb hby at_38) k) ?_
    show own_Go p e below _ T24 (mkF m 39 #[.val (.int p1), .val (.ref b4), .val (.int (2 : Int32)), .val (.ref o2), .unset, .unset, .unset] [(.int (1 : Int32)), (.int (2 : Int32))])
    refine own_by (fun _ k => XS.icmpYes X24.here hx rfl (pc0 := 39) (pc' := 46) rfl (hb hby at_39) rfl (tlt (by decide : (1 : Int32) < (2 : Int32))).2.2.1 (by decide) (by decide) k) ?_
    show own_Go p e below _ T24 (mkF m 46 #[.val (.int p1), .val (.ref b4), .val (.int (2 : Int32)), .val (.ref o2), .unset, .unset, .unset] [])
    refine own_by (fun _ k => XS.iconst X24.here hx rfl (hb hby at_46) k) ?_
    show own_Go p e below _ T24 (mkF m 47 #[.val (.int p1), .val (.ref b4), .val (.int (2 : Int32)), .val (.ref o2), .unset, .unset, .unset] [(.int (0 : Int32))])
    refine own_by (fun _ k => XS.istore X24.here hx rfl (hb hby at_47) rfl (l' := #[.val (.int p1), .val (.ref b4), .val (.int (2 : Int32)), .val (.ref o2), .val (.int (0 : Int32)), .unset, .unset]) rfl k) ?_
    show own_Go p e below _ T24 (mkF m 49 #[.val (.int p1), .val (.ref b4), .val (.int (2 : Int32)), .val (.ref o2), .val (.int (0 : Int32)), .unset, .unset] [])
    refine own_by (fun _ k => XS.aloadN X24.here hx rfl (hb hby at_49) rfl rfl k) ?_
    show own_Go p e below _ T24 (mkF m 50 #[.val (.int p1), .val (.ref b4), .val (.int (2 : Int32)), .val (.ref o2), .val (.int (0 : Int32)), .unset, .unset] [(.ref o2)])
    have f38 := ((((f6.wr W9).wr W14).wr W19).wr W24)
    have f39 := (((f11.wr W14).wr W19).wr W24)
    have f41 := ((f17.wr W19).wr W24)
    obtain ⟨_, T40, L40, X40, ⟨rfl, N40q, e40⟩, st40⟩ := own_callV X24 hx hZ hown (y := (⟨"watchword/LoginConfiguration$ControlFlag", "failureFailsStack", "()Z"⟩ : MethodName)) (C := "watchword/LoginConfiguration$ControlFlag") (hw _ (List.mem_of_getElem? (i := 12) rfl)) (hw _ (List.mem_of_getElem? (i := 13) rfl)) (hw _ (List.mem_of_getElem? (i := 15) rfl)) (hw _ (List.mem_of_getElem? (i := 14) rfl)) (hw _ (List.mem_of_getElem? (i := 3) rfl)) (hw _ (List.mem_of_getElem? (i := 16) rfl)) (by decide) (a := o2) f41 (argsL := []) (rest := []) e24 (rm1 l Z a0 hw [] o2 o0 o1 h24 n0 Z24 f38 f39) (g := (mkF m 50 #[.val (.int p1), .val (.ref b4), .val (.int (2 : Int32)), .val (.ref o2), .val (.int (0 : Int32)), .unset, .unset] [(.ref o2)])) rfl (by rw [hml]; rfl) (lenOf pd_0 rfl) rfl (W := 0) (by show 2 * 0 + _ ≤ _; exact Nat.le_of_eq rfl) (hb hby at_50) (by decide) (by decide) (by decide) (by decide)
    have N40 := Fr.app N24 N40q
    refine own_by st40 ?_
    show own_Go p e below _ T40 (mkF m 53 #[.val (.int p1), .val (.ref b4), .val (.int (2 : Int32)), .val (.ref o2), .val (.int (0 : Int32)), .unset, .unset] [(.int (if o2 = o0 then (1 : Int32) else if o2 = o1 then 1 else 0))])
    rw [show (if o2 = o0 then (1 : Int32) else if o2 = o1 then 1 else 0) = (0 : Int32) from (if_neg n02.symm).trans (if_neg n12.symm)]
    show own_Go p e below _ T40 (mkF m 53 #[.val (.int p1), .val (.ref b4), .val (.int (2 : Int32)), .val (.ref o2), .val (.int (0 : Int32)), .unset, .unset] [(.int (0 : Int32))])
    refine own_by (fun _ k => XS.istore X40.here hx rfl (hb hby at_53) rfl (l' := #[.val (.int p1), .val (.ref b4), .val (.int (2 : Int32)), .val (.ref o2), .val (.int (0 : Int32)), .val (.int (0 : Int32)), .unset]) rfl k) ?_
    show own_Go p e below _ T40 (mkF m 55 #[.val (.int p1), .val (.ref b4), .val (.int (2 : Int32)), .val (.ref o2), .val (.int (0 : Int32)), .val (.int (0 : Int32)), .unset] [])
    refine own_by (fun _ k => XS.aloadN X40.here hx rfl (hb hby at_55) rfl rfl k) ?_
    show own_Go p e below _ T40 (mkF m 56 #[.val (.int p1), .val (.ref b4), .val (.int (2 : Int32)), .val (.ref o2), .val (.int (0 : Int32)), .val (.int (0 : Int32)), .unset] [(.ref o2)])
    obtain ⟨_, T42, L42, X42, ⟨rfl, N42q, e42⟩, st42⟩ := own_callV X40 hx hZ hown (y := (⟨"watchword/LoginConfiguration$ControlFlag", "failureEndsStack", "()Z"⟩ : MethodName)) (C := "watchword/LoginConfiguration$ControlFlag") (hw _ (List.mem_of_getElem? (i := 18) rfl)) (hw _ (List.mem_of_getElem? (i := 19) rfl)) (hw _ (List.mem_of_getElem? (i := 21) rfl)) (hw _ (List.mem_of_getElem? (i := 20) rfl)) (hw _ (List.mem_of_getElem? (i := 3) rfl)) (hw _ (List.mem_of_getElem? (i := 22) rfl)) (by decide) (a := o2) f41 (argsL := []) (rest := []) e40 (rm2 l Z a0 hw [] o2 o1 h24 n0 Z24 f39) (g := (mkF m 56 #[.val (.int p1), .val (.ref b4), .val (.int (2 : Int32)), .val (.ref o2), .val (.int (0 : Int32)), .val (.int (0 : Int32)), .unset] [(.ref o2)])) rfl (by rw [hml]; rfl) (lenOf pd_0 rfl) rfl (W := 0) (by show 2 * 0 + _ ≤ _; exact Nat.le_of_eq rfl) (hb hby at_56) (by decide) (by decide) (by decide) (by decide)
    have N42 := Fr.app N40 N42q
    refine own_by st42 ?_
    show own_Go p e below _ T42 (mkF m 59 #[.val (.int p1), .val (.ref b4), .val (.int (2 : Int32)), .val (.ref o2), .val (.int (0 : Int32)), .val (.int (0 : Int32)), .unset] [(.int (if o2 = o1 then (1 : Int32) else 0))])
    rw [show (if o2 = o1 then (1 : Int32) else 0) = (0 : Int32) from if_neg n12.symm]
    show own_Go p e below _ T42 (mkF m 59 #[.val (.int p1), .val (.ref b4), .val (.int (2 : Int32)), .val (.ref o2), .val (.int (0 : Int32)), .val (.int (0 : Int32)), .unset] [(.int (0 : Int32))])
    refine own_by (fun _ k => XS.istore X42.here hx rfl (hb hby at_59) rfl (l' := #[.val (.int p1), .val (.ref b4), .val (.int (2 : Int32)), .val (.ref o2), .val (.int (0 : Int32)), .val (.int (0 : Int32)), .val (.int (0 : Int32))]) rfl k) ?_
    show own_Go p e below _ T42 (mkF m 61 #[.val (.int p1), .val (.ref b4), .val (.int (2 : Int32)), .val (.ref o2), .val (.int (0 : Int32)), .val (.int (0 : Int32)), .val (.int (0 : Int32))] [])
    refine own_by (fun _ k => XS.iload X42.here hx rfl (hb hby at_61) rfl k) ?_
    show own_Go p e below _ T42 (mkF m 63 #[.val (.int p1), .val (.ref b4), .val (.int (2 : Int32)), .val (.ref o2), .val (.int (0 : Int32)), .val (.int (0 : Int32)), .val (.int (0 : Int32))] [(.int (0 : Int32))])
    refine own_by (fun _ k => XS.iload X42.here hx rfl (hb hby at_63) rfl k) ?_
    show own_Go p e below _ T42 (mkF m 65 #[.val (.int p1), .val (.ref b4), .val (.int (2 : Int32)), .val (.ref o2), .val (.int (0 : Int32)), .val (.int (0 : Int32)), .val (.int (0 : Int32))] [(.int (0 : Int32)), (.int (0 : Int32))])
    refine own_by (fun _ k => XS.icmpNo X42.here hx rfl (hb hby at_65) rfl (teq (rfl : (0 : Int32) = (0 : Int32))).2 k) ?_
    show own_Go p e below _ T42 (mkF m 68 #[.val (.int p1), .val (.ref b4), .val (.int (2 : Int32)), .val (.ref o2), .val (.int (0 : Int32)), .val (.int (0 : Int32)), .val (.int (0 : Int32))] [])
    refine own_by (fun _ k => XS.iload X42.here hx rfl (hb hby at_68) rfl k) ?_
    show own_Go p e below _ T42 (mkF m 70 #[.val (.int p1), .val (.ref b4), .val (.int (2 : Int32)), .val (.ref o2), .val (.int (0 : Int32)), .val (.int (0 : Int32)), .val (.int (0 : Int32))] [(.int (0 : Int32))])
    refine own_by (fun _ k => XS.ifYes X42.here hx rfl (pc0 := 70) (pc' := 78) rfl (hb hby at_70) rfl ((if0 _ _).trans (teq (by decide : (0 : Int32) = (0 : Int32))).1) (by decide) (by decide) k) ?_
    show own_Go p e below _ T42 (mkF m 78 #[.val (.int p1), .val (.ref b4), .val (.int (2 : Int32)), .val (.ref o2), .val (.int (0 : Int32)), .val (.int (0 : Int32)), .val (.int (0 : Int32))] [])
    refine own_by (fun _ k => XS.iconst X42.here hx rfl (hb hby at_78) k) ?_
    show own_Go p e below _ T42 (mkF m 79 #[.val (.int p1), .val (.ref b4), .val (.int (2 : Int32)), .val (.ref o2), .val (.int (0 : Int32)), .val (.int (0 : Int32)), .val (.int (0 : Int32))] [(.int (1 : Int32))])
    refine own_by (fun _ k => XS.goto X42.here hx rfl (pc0 := 79) (pc' := 83) rfl (hb hby at_79) (by decide) (by decide) k) ?_
    show own_Go p e below _ T42 (mkF m 83 #[.val (.int p1), .val (.ref b4), .val (.int (2 : Int32)), .val (.ref o2), .val (.int (0 : Int32)), .val (.int (0 : Int32)), .val (.int (0 : Int32))] [(.int (1 : Int32))])
    exact own_retN X42 hx hlk hret (by simp) rfl (hb hby at_83) (by first | exact ⟨rfl, N42⟩ | (rw [e42]; exact ⟨rfl, N42⟩)) (by decide) (by decide)
  · show own_Go p e below _ T24 (mkF m 35 #[.val (.int p1), .val (.ref b4), .val (.int (p1 &&& (3 : Int32))), .unset, .unset, .unset, .unset] [(.int (p1 &&& (3 : Int32))), (.ref b4)])
    rw [hk]
    show own_Go p e below _ T24 (mkF m 35 #[.val (.int p1), .val (.ref b4), .val (.int (3 : Int32)), .unset, .unset, .unset, .unset] [(.int (3 : Int32)), (.ref b4)])
    obtain ⟨cl43, Ar43, cq43, hin43, hat43, set43⟩ := own_arv V24 (j := (3 : Int32)) ⟨by decide, by decide⟩
    refine own_by (fun _ k => X24.aaload hx (j := (3 : Int32)) (v := (.ref o3)) (by rw [e24]; exact Ar43.1) (State.isArrayOf_alike hZ.alike Ar43.2.1) rfl Ar43.2.2 hin43 hat43 (g := (mkF m 35 #[.val (.int p1), .val (.ref b4), .val (.int (3 : Int32)), .unset, .unset, .unset, .unset] [(.int (3 : Int32)), (.ref b4)])) rfl rfl (hb hby at_35) _ k) ?_
    show own_Go p e below _ T24 (mkF m 36 #[.val (.int p1), .val (.ref b4), .val (.int (3 : Int32)), .unset, .unset, .unset, .unset] [(.ref o3)])
    refine own_by (fun _ k => XS.astoreN X24.here hx rfl (hb hby at_36) rfl rfl (l' := #[.val (.int p1), .val (.ref b4), .val (.int (3 : Int32)), .val (.ref o3), .unset, .unset, .unset]) rfl k) ?_
    show own_Go p e below _ T24 (mkF m 37 #[.val (.int p1), .val (.ref b4), .val (.int (3 : Int32)), .val (.ref o3), .unset, .unset, .unset] [])
    refine own_by (fun _ k => XS.iloadN X24.here hx rfl (hb hby at_37) rfl k) ?_
    show own_Go p e below _ T24 (mkF m 38 #[.val (.int p1), .val (.ref b4), .val (.int (3 : Int32)), .val (.ref o3), .unset, .unset, .unset] [(.int (3 : Int32))])
    refine own_by (fun _ k => XS.iconst X24.here hx rfl (hb hby at_38) k) ?_
    show own_Go p e below _ T24 (mkF m 39 #[.val (.int p1), .val (.ref b4), .val (.int (3 : Int32)), .val (.ref o3), .unset, .unset, .unset] [(.int (1 : Int32)), (.int (3 : Int32))])
    refine own_by (fun _ k => XS.icmpYes X24.here hx rfl (pc0 := 39) (pc' := 46) rfl (hb hby at_39) rfl (tlt (by decide : (1 : Int32) < (3 : Int32))).2.2.1 (by decide) (by decide) k) ?_
    show own_Go p e below _ T24 (mkF m 46 #[.val (.int p1), .val (.ref b4), .val (.int (3 : Int32)), .val (.ref o3), .unset, .unset, .unset] [])
    refine own_by (fun _ k => XS.iconst X24.here hx rfl (hb hby at_46) k) ?_
    show own_Go p e below _ T24 (mkF m 47 #[.val (.int p1), .val (.ref b4), .val (.int (3 : Int32)), .val (.ref o3), .unset, .unset, .unset] [(.int (0 : Int32))])
    refine own_by (fun _ k => XS.istore X24.here hx rfl (hb hby at_47) rfl (l' := #[.val (.int p1), .val (.ref b4), .val (.int (3 : Int32)), .val (.ref o3), .val (.int (0 : Int32)), .unset, .unset]) rfl k) ?_
    show own_Go p e below _ T24 (mkF m 49 #[.val (.int p1), .val (.ref b4), .val (.int (3 : Int32)), .val (.ref o3), .val (.int (0 : Int32)), .unset, .unset] [])
    refine own_by (fun _ k => XS.aloadN X24.here hx rfl (hb hby at_49) rfl rfl k) ?_
    show own_Go p e below _ T24 (mkF m 50 #[.val (.int p1), .val (.ref b4), .val (.int (3 : Int32)), .val (.ref o3), .val (.int (0 : Int32)), .unset, .unset] [(.ref o3)])
    have f44 := ((((f6.wr W9).wr W14).wr W19).wr W24)
    have f45 := (((f11.wr W14).wr W19).wr W24)
    have f47 := (f22.wr W24)
    obtain ⟨_, T46, L46, X46, ⟨rfl, N46q, e46⟩, st46⟩ := own_callV X24 hx hZ hown (y := (⟨"watchword/LoginConfiguration$ControlFlag", "failureFailsStack", "()Z"⟩ : MethodName)) (C := "watchword/LoginConfiguration$ControlFlag") (hw _ (List.mem_of_getElem? (i := 12) rfl)) (hw _ (List.mem_of_getElem? (i := 13) rfl)) (hw _ (List.mem_of_getElem? (i := 15) rfl)) (hw _ (List.mem_of_getElem? (i := 14) rfl)) (hw _ (List.mem_of_getElem? (i := 3) rfl)) (hw _ (List.mem_of_getElem? (i := 16) rfl)) (by decide) (a := o3) f47 (argsL := []) (rest := []) e24 (rm1 l Z a0 hw [] o3 o0 o1 h24 n0 Z24 f44 f45) (g := (mkF m 50 #[.val (.int p1), .val (.ref b4), .val (.int (3 : Int32)), .val (.ref o3), .val (.int (0 : Int32)), .unset, .unset] [(.ref o3)])) rfl (by rw [hml]; rfl) (lenOf pd_0 rfl) rfl (W := 0) (by show 2 * 0 + _ ≤ _; exact Nat.le_of_eq rfl) (hb hby at_50) (by decide) (by decide) (by decide) (by decide)
    have N46 := Fr.app N24 N46q
    refine own_by st46 ?_
    show own_Go p e below _ T46 (mkF m 53 #[.val (.int p1), .val (.ref b4), .val (.int (3 : Int32)), .val (.ref o3), .val (.int (0 : Int32)), .unset, .unset] [(.int (if o3 = o0 then (1 : Int32) else if o3 = o1 then 1 else 0))])
    rw [show (if o3 = o0 then (1 : Int32) else if o3 = o1 then 1 else 0) = (0 : Int32) from (if_neg n03.symm).trans (if_neg n13.symm)]
    show own_Go p e below _ T46 (mkF m 53 #[.val (.int p1), .val (.ref b4), .val (.int (3 : Int32)), .val (.ref o3), .val (.int (0 : Int32)), .unset, .unset] [(.int (0 : Int32))])
    refine own_by (fun _ k => XS.istore X46.here hx rfl (hb hby at_53) rfl (l' := #[.val (.int p1), .val (.ref b4), .val (.int (3 : Int32)), .val (.ref o3), .val (.int (0 : Int32)), .val (.int (0 : Int32)), .unset]) rfl k) ?_
    show own_Go p e below _ T46 (mkF m 55 #[.val (.int p1), .val (.ref b4), .val (.int (3 : Int32)), .val (.ref o3), .val (.int (0 : Int32)), .val (.int (0 : Int32)), .unset] [])
    refine own_by (fun _ k => XS.aloadN X46.here hx rfl (hb hby at_55) rfl rfl k) ?_
    show own_Go p e below _ T46 (mkF m 56 #[.val (.int p1), .val (.ref b4), .val (.int (3 : Int32)), .val (.ref o3), .val (.int (0 : Int32)), .val (.int (0 : Int32)), .unset] [(.ref o3)])
    obtain ⟨_, T48, L48, X48, ⟨rfl, N48q, e48⟩, st48⟩ := own_callV X46 hx hZ hown (y := (⟨"watchword/LoginConfiguration$ControlFlag", "failureEndsStack", "()Z"⟩ : MethodName)) (C := "watchword/LoginConfiguration$ControlFlag") (hw _ (List.mem_of_getElem? (i := 18) rfl)) (hw _ (List.mem_of_getElem? (i := 19) rfl)) (hw _ (List.mem_of_getElem? (i := 21) rfl)) (hw _ (List.mem_of_getElem? (i := 20) rfl)) (hw _ (List.mem_of_getElem? (i := 3) rfl)) (hw _ (List.mem_of_getElem? (i := 22) rfl)) (by decide) (a := o3) f47 (argsL := []) (rest := []) e46 (rm2 l Z a0 hw [] o3 o1 h24 n0 Z24 f45) (g := (mkF m 56 #[.val (.int p1), .val (.ref b4), .val (.int (3 : Int32)), .val (.ref o3), .val (.int (0 : Int32)), .val (.int (0 : Int32)), .unset] [(.ref o3)])) rfl (by rw [hml]; rfl) (lenOf pd_0 rfl) rfl (W := 0) (by show 2 * 0 + _ ≤ _; exact Nat.le_of_eq rfl) (hb hby at_56) (by decide) (by decide) (by decide) (by decide)
    have N48 := Fr.app N46 N48q
    refine own_by st48 ?_
    show own_Go p e below _ T48 (mkF m 59 #[.val (.int p1), .val (.ref b4), .val (.int (3 : Int32)), .val (.ref o3), .val (.int (0 : Int32)), .val (.int (0 : Int32)), .unset] [(.int (if o3 = o1 then (1 : Int32) else 0))])
    rw [show (if o3 = o1 then (1 : Int32) else 0) = (0 : Int32) from if_neg n13.symm]
    show own_Go p e below _ T48 (mkF m 59 #[.val (.int p1), .val (.ref b4), .val (.int (3 : Int32)), .val (.ref o3), .val (.int (0 : Int32)), .val (.int (0 : Int32)), .unset] [(.int (0 : Int32))])
    refine own_by (fun _ k => XS.istore X48.here hx rfl (hb hby at_59) rfl (l' := #[.val (.int p1), .val (.ref b4), .val (.int (3 : Int32)), .val (.ref o3), .val (.int (0 : Int32)), .val (.int (0 : Int32)), .val (.int (0 : Int32))]) rfl k) ?_
    show own_Go p e below _ T48 (mkF m 61 #[.val (.int p1), .val (.ref b4), .val (.int (3 : Int32)), .val (.ref o3), .val (.int (0 : Int32)), .val (.int (0 : Int32)), .val (.int (0 : Int32))] [])
    refine own_by (fun _ k => XS.iload X48.here hx rfl (hb hby at_61) rfl k) ?_
    show own_Go p e below _ T48 (mkF m 63 #[.val (.int p1), .val (.ref b4), .val (.int (3 : Int32)), .val (.ref o3), .val (.int (0 : Int32)), .val (.int (0 : Int32)), .val (.int (0 : Int32))] [(.int (0 : Int32))])
    refine own_by (fun _ k => XS.iload X48.here hx rfl (hb hby at_63) rfl k) ?_
    show own_Go p e below _ T48 (mkF m 65 #[.val (.int p1), .val (.ref b4), .val (.int (3 : Int32)), .val (.ref o3), .val (.int (0 : Int32)), .val (.int (0 : Int32)), .val (.int (0 : Int32))] [(.int (0 : Int32)), (.int (0 : Int32))])
    refine own_by (fun _ k => XS.icmpNo X48.here hx rfl (hb hby at_65) rfl (teq (rfl : (0 : Int32) = (0 : Int32))).2 k) ?_
    show own_Go p e below _ T48 (mkF m 68 #[.val (.int p1), .val (.ref b4), .val (.int (3 : Int32)), .val (.ref o3), .val (.int (0 : Int32)), .val (.int (0 : Int32)), .val (.int (0 : Int32))] [])
    refine own_by (fun _ k => XS.iload X48.here hx rfl (hb hby at_68) rfl k) ?_
    show own_Go p e below _ T48 (mkF m 70 #[.val (.int p1), .val (.ref b4), .val (.int (3 : Int32)), .val (.ref o3), .val (.int (0 : Int32)), .val (.int (0 : Int32)), .val (.int (0 : Int32))] [(.int (0 : Int32))])
    refine own_by (fun _ k => XS.ifYes X48.here hx rfl (pc0 := 70) (pc' := 78) rfl (hb hby at_70) rfl ((if0 _ _).trans (teq (by decide : (0 : Int32) = (0 : Int32))).1) (by decide) (by decide) k) ?_
    show own_Go p e below _ T48 (mkF m 78 #[.val (.int p1), .val (.ref b4), .val (.int (3 : Int32)), .val (.ref o3), .val (.int (0 : Int32)), .val (.int (0 : Int32)), .val (.int (0 : Int32))] [])
    refine own_by (fun _ k => XS.iconst X48.here hx rfl (hb hby at_78) k) ?_
    show own_Go p e below _ T48 (mkF m 79 #[.val (.int p1), .val (.ref b4), .val (.int (3 : Int32)), .val (.ref o3), .val (.int (0 : Int32)), .val (.int (0 : Int32)), .val (.int (0 : Int32))] [(.int (1 : Int32))])
    refine own_by (fun _ k => XS.goto X48.here hx rfl (pc0 := 79) (pc' := 83) rfl (hb hby at_79) (by decide) (by decide) k) ?_
    show own_Go p e below _ T48 (mkF m 83 #[.val (.int p1), .val (.ref b4), .val (.int (3 : Int32)), .val (.ref o3), .val (.int (0 : Int32)), .val (.int (0 : Int32)), .val (.int (0 : Int32))] [(.int (1 : Int32))])
    exact own_retN X48 hx hlk hret (by simp) rfl (hb hby at_83) (by first | exact ⟨rfl, N48⟩ | (rw [e48]; exact ⟨rfl, N48⟩)) (by decide) (by decide)
set_option maxRecDepth 65536 in
set_option maxHeartbeats 40000000 in
theorem comes_1 {Post : Tables → Env → Array Value → State → Outcome → State → Prop} (hpost : ∀ tb e args s v u, (limb_1_1.after args s (.returned v) u = true ∧ limb_1_2.after args s (.returned v) u = true ∧ True) → FrameEnd s (.returned v) u (Jvm.fieldLocs frame_1_writes args s ++ Jvm.arrayLocs frame_1_arrays args s ++ Jvm.staticLocs frame_1_statics s) 16 128 → Post tb e args s (.returned v) u) :
    ArmFor flags0 classFile x code maxLocals ret World_1 tables_1 room_1 Calls_1 rest_1 Pre_1 Post := by
  intro l hfl _ _ p e ha hc hk s m args below hf hA hF happ hP
  obtain ⟨hcalls, hrest, hpre⟩ := hP
  obtain ⟨-, -, -, hnamed, -, -, -, hat⟩ := (Spec.applies_iff hf).mp happ
  obtain ⟨hg, hn⟩ := and_e (Cond.before_iff.mp (show (Jvm.Cond.and given_1 narrow_1).before args s = true from hpre))
  obtain ⟨g1, g2⟩ := and_e hg
  obtain ⟨w0, rfl⟩ : ∃ w0 : Value, args = #[w0] := by
    have hs : args.size = 1 := by simpa [Cond.value, given_1] using g1
    obtain ⟨L⟩ := args
    match L, hs with
    | [w0], _ => exact ⟨w0, rfl⟩
  have hw := fun d (hd : d ∈ tables_1) => atoms_spec (ws := Jvm.Cond.code x code maxLocals ret :: tables_1) hat d (List.mem_cons_of_mem _ hd)
  have hfit : Fit s := fun {y c} hc i hi => by
    obtain ⟨ha, rfl⟩ := Array.getElem?_eq_some_iff.mp hc
    have q := List.all_eq_true.mp ((Array.all_eq_true_iff_forall_mem.mp hF) _ (Array.getElem_mem ha)) i (List.mem_range.mpr hi)
    simpa [Array.getElem?_eq_getElem hi] using q
  obtain ⟨i0, ei0⟩ := is_v g2
  obtain rfl : w0 = (.int i0) := Option.some.inj ei0
  obtain ⟨m0, hn⟩ := and_e hn
  obtain ⟨m1, hn⟩ := and_e hn
  obtain ⟨m2, hn⟩ := and_e hn
  obtain ⟨m3, hn⟩ := and_e hn
  obtain ⟨f0, hn⟩ := and_e hn
  obtain ⟨f1, hn⟩ := and_e hn
  obtain ⟨f3, f2⟩ := and_e hn
  obtain ⟨o0, ev0, S0, E0⟩ := own_sta m0 (hw _ (List.mem_of_getElem? (i := 3) rfl)) (hw _ (List.mem_of_getElem? (i := 4) rfl))
  have F0 := own_fldI ev0 f0
  obtain ⟨o1, ev1, S1, E1⟩ := own_sta m1 (hw _ (List.mem_of_getElem? (i := 3) rfl)) (hw _ (List.mem_of_getElem? (i := 7) rfl))
  have F1 := own_fldI ev1 f1
  obtain ⟨o2, ev2, S2, E2⟩ := own_sta m2 (hw _ (List.mem_of_getElem? (i := 3) rfl)) (hw _ (List.mem_of_getElem? (i := 9) rfl))
  have F2 := own_fldI ev2 f2
  obtain ⟨o3, ev3, S3, E3⟩ := own_sta m3 (hw _ (List.mem_of_getElem? (i := 3) rfl)) (hw _ (List.mem_of_getElem? (i := 11) rfl))
  have F3 := own_fldI ev3 f3
  obtain ⟨n, o, h1, h2, h3, _, L, rfl, ⟨rfl, N⟩, hq⟩ := rm0 l s _ hw tables_1 i0 o0 o1 o2 o3 s.heap s.heap.size (Nat.le_refl _) S0 E0 S1 E1 S2 E2 S3 E3 (Fld.ne F0 F1 (by decide)) (Fld.ne F0 F2 (by decide)) (Fld.ne F1 F2 (by decide)) (Fld.ne F0 F3 (by decide)) (Fld.ne F1 F3 (by decide)) p e ha hc hk s m _ below hf ((Spec.applies_iff_loose hf).mp happ).1 ⟨rfl, State.Warmed39.refl s, rfl⟩ trivial
  refine ⟨n, _, h1, h2, h3, hpost _ _ _ _ _ _ ⟨Cond.after_iff.mpr rfl, Cond.after_iff.mpr (eq_i res_at (Term.int_eval (1)) rfl), trivial⟩ ⟨hq.1, hq.2.1, (hq.2.2.sift fun y hy => Or.inr (N y hy)).mono (by decide) (by decide)⟩⟩
theorem main_1_1 : Claimed_1_1 := comes_1 fun _ _ _ _ _ _ h hF => ⟨h.1, hF⟩
theorem main_1_2 : Claimed_1_2 := comes_1 fun _ _ _ _ _ _ h hF => ⟨h.2.1, hF⟩
end Jvm.Pilot.@@N@@
namespace Jvm.Pilot.@@N@@
open Jvm Jvm.ClassFile Sem Op Lib Jvm.Free Jvm.Stand Jvm.Pilot.@@N@@.Jvm.D
/-! MADE BY PROGRAM (witnessworld.py) out of the Statement's table words and the real class files: 13 classes; the members and pool entries that the words name. The judged class is class 1, her method 1. -/
namespace start1
open Jvm.ClassFile
def u (s : String) : CpInfo := .utf8 (stringToUtf16 s)
/-- a pool by its gaps: so many unusable entries, then the entry; so many at the end -/
def gap : Nat → List CpInfo → List CpInfo
  | 0, r => r
  | n + 1, r => .unusable :: gap n r
def poolList (es : List (Nat × CpInfo)) (last : Nat) : List CpInfo := es.foldr (fun e r => gap e.1 (e.2 :: r)) (gap last [])
def pool (es : List (Nat × CpInfo)) (last : Nat) : Array CpInfo := ⟨poolList es last⟩
def fileOf (pool : Array CpInfo) (this : Nat) (attrs : Array Attribute := #[]) (ms : Array MethodInfo := #[]) (fl : Nat := 33) (sup : Nat := 0) (ifs : Array Nat := #[]) (fds : Array FieldInfo := #[]) : ClassFile where
  minorVersion := 0
  majorVersion := 65
  constantPool := pool
  accessFlags := fl
  thisClass := this
  superClass := sup
  interfaces := ifs
  fields := fds
  methods := ms
  attributes := attrs
def plain (name : String) (sup : Option ClassId) : Class where
  name := name
  kind := .ordinary
  loader := none
  accessFlags := 33
  super := sup
  interfaces := #[]
  cf := none
  fields := #[]
  methods := #[]
  instanceTypes := #[]
  staticTypes := #[]
  resolved := #[]
  callSites := []
  init := .initialized
  statics := none
  mirror := none

def pool0 : Array CpInfo := pool [(5, u "<init>"), (0, u "()V"), (1, .class_ 10), (1, u "java/lang/Object")] 113

def k0m0 : Method := { name := "<init>", desc := "()V", sig := { parameters := [], returnType := none }, accessFlags := 1, code := none }
/-- java/lang/Object -/
def k0 : Class := { plain "java/lang/Object" none with
  accessFlags := 33
  interfaces := #[]
  cf := some (fileOf pool0 8 #[] #[{ accessFlags := 1, nameIndex := 5, descriptorIndex := 6, attributes := #[] }] 33 0 #[] #[])
  fields := #[]
  methods := #[k0m0]
  instanceTypes := #[]
  staticTypes := #[]
  resolved := Array.replicate 124 none
  statics := none }

def pool1 : Array CpInfo := pool [(2, .class_ 4), (1, u "java/lang/Object"), (0, u "<init>"), (0, u "()V"), (0, .class_ 8), (0, u "watchword/LoginConfiguration$ControlFlag"), (0, .fieldref 7 10), (0, .nameAndType 11 12), (0, u "REQUIRED"), (0, u "Lwatchword/LoginConfiguration$ControlFlag;"), (0, .fieldref 7 14), (0, .nameAndType 15 12), (0, u "REQUISITE"), (0, .fieldref 7 17), (0, .nameAndType 18 12), (0, u "SUFFICIENT"), (0, .fieldref 7 20), (0, .nameAndType 21 12), (0, u "OPTIONAL"), (0, .methodref 7 23), (0, .nameAndType 24 25), (0, u "failureFailsStack"), (0, u "()Z"), (0, .methodref 7 27), (0, .nameAndType 28 25), (0, u "failureEndsStack"), (0, .class_ 30), (0, u "watchword/ControlFlagFailureFailsStackPinLaw"), (2, u "law"), (0, u "(I)Z")] 9

def k1m0 : Method := { name := "<init>", desc := "()V", sig := { parameters := [], returnType := none }, accessFlags := 2, code := none }
def k1c1 : Code := { maxStack := 4, maxLocals := 7, code := code, exceptionTable := #[], attributes := #[] }
def k1m1 : Method := { name := "law", desc := "(I)Z", sig := { parameters := [.int], returnType := some .boolean }, accessFlags := 9, code := some k1c1 }
/-- watchword/ControlFlagFailureFailsStackPinLaw -/
def k1 : Class := { plain "watchword/ControlFlagFailureFailsStackPinLaw" (some 0) with
  accessFlags := 49
  interfaces := #[]
  cf := some (fileOf pool1 29 #[] #[{ accessFlags := 2, nameIndex := 5, descriptorIndex := 6, attributes := #[] }, { accessFlags := 9, nameIndex := 33, descriptorIndex := 34, attributes := #[] }] 49 2 #[] #[])
  fields := #[]
  methods := #[k1m0, k1m1]
  instanceTypes := #[]
  staticTypes := #[]
  resolved := Array.replicate 44 none
  statics := none }

def pool2 : Array CpInfo := pool [(1, .class_ 2), (0, u "java/lang/constant/Constable"), (0, .class_ 4), (0, u "java/lang/Object")] 6

/-- java/lang/constant/Constable -/
def k2 : Class := { plain "java/lang/constant/Constable" (some 0) with
  accessFlags := 1537
  interfaces := #[]
  cf := some (fileOf pool2 1 #[] #[] 1537 3 #[] #[])
  fields := #[]
  methods := #[]
  instanceTypes := #[]
  staticTypes := #[]
  resolved := Array.replicate 11 none
  statics := none }

def pool3 : Array CpInfo := pool [(1, .class_ 2), (0, u "java/lang/Comparable"), (0, .class_ 4), (0, u "java/lang/Object")] 7

/-- java/lang/Comparable -/
def k3 : Class := { plain "java/lang/Comparable" (some 0) with
  accessFlags := 1537
  interfaces := #[]
  cf := some (fileOf pool3 1 #[] #[] 1537 3 #[] #[])
  fields := #[]
  methods := #[]
  instanceTypes := #[]
  staticTypes := #[]
  resolved := Array.replicate 12 none
  statics := none }

def pool4 : Array CpInfo := pool [(1, .class_ 2), (0, u "java/io/Serializable"), (0, .class_ 4), (0, u "java/lang/Object")] 2

/-- java/io/Serializable -/
def k4 : Class := { plain "java/io/Serializable" (some 0) with
  accessFlags := 1537
  interfaces := #[]
  cf := some (fileOf pool4 1 #[] #[] 1537 3 #[] #[])
  fields := #[]
  methods := #[]
  instanceTypes := #[]
  staticTypes := #[]
  resolved := Array.replicate 7 none
  statics := none }

def pool5 : Array CpInfo := pool [(2, .class_ 4), (1, u "java/lang/Enum"), (0, u "name"), (0, u "Ljava/lang/String;"), (2, u "ordinal"), (0, u "I"), (1, .class_ 14), (1, u "java/lang/Object"), (4, u "hash"), (86, .class_ 108), (1, u "java/lang/Enum$EnumDesc"), (2, .class_ 112), (0, u "java/lang/constant/Constable"), (0, .class_ 114), (0, u "java/lang/Comparable"), (0, .class_ 116), (0, u "java/io/Serializable")] 87

/-- java/lang/Enum -/
def k5 : Class := { plain "java/lang/Enum" (some 0) with
  accessFlags := 1057
  interfaces := #[2, 3, 4]
  cf := some (fileOf pool5 2 #[.nestMembers #[106]] #[] 1057 12 #[111, 113, 115] #[{ accessFlags := 18, nameIndex := 5, descriptorIndex := 6, attributes := #[] }, { accessFlags := 18, nameIndex := 9, descriptorIndex := 10, attributes := #[] }, { accessFlags := 2, nameIndex := 19, descriptorIndex := 10, attributes := #[] }])
  fields := #[{ name := "name", type := (.object "java/lang/String"), accessFlags := 18, slot := 0, constantValue := 0 }, { name := "ordinal", type := .int, accessFlags := 18, slot := 1, constantValue := 0 }, { name := "hash", type := .int, accessFlags := 2, slot := 2, constantValue := 0 }]
  methods := #[]
  instanceTypes := #[(.object "java/lang/String"), .int, .int]
  staticTypes := #[]
  resolved := Array.replicate 204 none
  statics := none }

def pool6 : Array CpInfo := pool [(1, .class_ 2), (0, u "watchword/LoginConfiguration$ControlFlag"), (0, .fieldref 1 4), (0, .nameAndType 5 6), (0, u "REQUIRED"), (0, u "Lwatchword/LoginConfiguration$ControlFlag;"), (0, .fieldref 1 8), (0, .nameAndType 9 6), (0, u "REQUISITE"), (2, u "SUFFICIENT"), (2, u "OPTIONAL"), (2, u "$VALUES"), (0, u "[Lwatchword/LoginConfiguration$ControlFlag;"), (6, .class_ 28), (1, u "java/lang/Enum"), (39, u "failureFailsStack"), (0, u "()Z"), (1, u "failureEndsStack"), (6, .class_ 79), (0, u "watchword/LoginConfiguration")] 2

def k6c0 : Code := { maxStack := 2, maxLocals := 1, code := prog_35_method_5_code, exceptionTable := #[], attributes := #[] }
def k6m0 : Method := { name := "failureFailsStack", desc := "()Z", sig := { parameters := [], returnType := some .boolean }, accessFlags := 0, code := some k6c0 }
def k6c1 : Code := { maxStack := 2, maxLocals := 1, code := prog_35_method_6_code, exceptionTable := #[], attributes := #[] }
def k6m1 : Method := { name := "failureEndsStack", desc := "()Z", sig := { parameters := [], returnType := some .boolean }, accessFlags := 0, code := some k6c1 }
/-- watchword/LoginConfiguration$ControlFlag -/
def k6 : Class := { plain "watchword/LoginConfiguration$ControlFlag" (some 5) with
  accessFlags := 16432
  interfaces := #[]
  cf := some (fileOf pool6 1 #[.nestHost 78] #[{ accessFlags := 0, nameIndex := 68, descriptorIndex := 69, attributes := #[] }, { accessFlags := 0, nameIndex := 71, descriptorIndex := 69, attributes := #[] }] 16432 26 #[] #[{ accessFlags := 16409, nameIndex := 5, descriptorIndex := 6, attributes := #[] }, { accessFlags := 16409, nameIndex := 9, descriptorIndex := 6, attributes := #[] }, { accessFlags := 16409, nameIndex := 12, descriptorIndex := 6, attributes := #[] }, { accessFlags := 16409, nameIndex := 15, descriptorIndex := 6, attributes := #[] }, { accessFlags := 4122, nameIndex := 18, descriptorIndex := 19, attributes := #[] }])
  fields := #[{ name := "REQUIRED", type := (.object "watchword/LoginConfiguration$ControlFlag"), accessFlags := 16409, slot := 0, constantValue := 0 }, { name := "REQUISITE", type := (.object "watchword/LoginConfiguration$ControlFlag"), accessFlags := 16409, slot := 1, constantValue := 0 }, { name := "SUFFICIENT", type := (.object "watchword/LoginConfiguration$ControlFlag"), accessFlags := 16409, slot := 2, constantValue := 0 }, { name := "OPTIONAL", type := (.object "watchword/LoginConfiguration$ControlFlag"), accessFlags := 16409, slot := 3, constantValue := 0 }, { name := "$VALUES", type := (.array (.object "watchword/LoginConfiguration$ControlFlag")), accessFlags := 4122, slot := 4, constantValue := 0 }]
  methods := #[k6m0, k6m1]
  instanceTypes := #[(.object "java/lang/String"), .int, .int]
  staticTypes := #[(.object "watchword/LoginConfiguration$ControlFlag"), (.object "watchword/LoginConfiguration$ControlFlag"), (.object "watchword/LoginConfiguration$ControlFlag"), (.object "watchword/LoginConfiguration$ControlFlag"), (.array (.object "watchword/LoginConfiguration$ControlFlag"))]
  resolved := Array.replicate 82 none
  statics := some 0 }

def pool7 : Array CpInfo := pool [(1, u "java/lang/Cloneable"), (0, .class_ 1), (0, u "java/lang/Object"), (0, .class_ 3)] 3

/-- java/lang/Cloneable -/
def k7 : Class := { plain "java/lang/Cloneable" (some 0) with
  accessFlags := 1537
  interfaces := #[]
  cf := some (fileOf pool7 2 #[] #[] 1537 4 #[] #[])
  fields := #[]
  methods := #[]
  instanceTypes := #[]
  staticTypes := #[]
  resolved := Array.replicate 8 none
  statics := none }

/-- the primitive byte -/
def k8 : Class := { plain "byte" none with kind := .primitive 'B', accessFlags := 0x411 }
/-- [B -/
def k9 : Class := { plain "[B" (some 0) with kind := .array 8 .byte, interfaces := #[7, 4], accessFlags := 1041 }

/-- the primitive int -/
def k10 : Class := { plain "int" none with kind := .primitive 'I', accessFlags := 0x411 }
/-- [I -/
def k11 : Class := { plain "[I" (some 0) with kind := .array 10 .int, interfaces := #[7, 4], accessFlags := 1041 }

/-- [Lwatchword/LoginConfiguration$ControlFlag; -/
def k12 : Class := { plain "[Lwatchword/LoginConfiguration$ControlFlag;" (some 0) with kind := .array 6 (.object "watchword/LoginConfiguration$ControlFlag"), interfaces := #[7, 4], accessFlags := 1041 }

def heap : Heap := #[{ cls := 6, slots := #[.ref 1, .ref 2, .ref 3, .ref 4, .null], vm := .statics 6 },
  { cls := 6, slots := #[.null, .int 0, .int 0], vm := .none },
  { cls := 6, slots := #[.null, .int 1, .int 0], vm := .none },
  { cls := 6, slots := #[.null, .int 2, .int 0], vm := .none },
  { cls := 6, slots := #[.null, .int 3, .int 0], vm := .none }]
def classes : Array Class := #[k0, k1, k2, k3, k4, k5, k6, k7, k8, k9, k10, k11, k12]
def interned : List (Array UInt16 × Addr) := []
def slotsUsed : Nat := 17
def theMethod : MethodId := ⟨1, 1⟩
def args0 : Array Value := #[.int 1]
def aboutOver (below : List Frame) : State where
  vm := { classes := classes, interned := interned.toArray }
  heap := heap
  slotsUsed := slotsUsed
  threads := #[{ frames := .invoking theMethod args0 :: below }]
def below0 : List Frame := [.native { method := ⟨0, 0⟩, args := #[] }]
def about1 : State := aboutOver below0
def p0 : Program := .bare "" "" ""
def e0 : Env := launch0.env 0 0 0
theorem w_frames : about1.frames = Frame.invoking theMethod args0 :: below0 := rfl
set_option maxRecDepth 65536 in
theorem w_args : argsFit about1.vm theMethod args0 = true := by decide +kernel
set_option maxRecDepth 65536 in
theorem w_heap : heapFits about1 = true := by decide +kernel
set_option maxRecDepth 65536 in
theorem w_runnable : about1.curStatus? = some .runnable := by decide +kernel
set_option maxRecDepth 65536 in
theorem w_alone : about1.alone = true := by decide +kernel
set_option maxRecDepth 65536 in
theorem w_named : about1.methodNamed? x = some theMethod := by decide +kernel
set_option maxRecDepth 65536 in
theorem w_hears : about1.hears theMethod below0 = true := by decide +kernel
set_option maxRecDepth 65536 in
theorem w_ripe : about1.ripe theMethod args0 below0 = true := by decide +kernel
theorem w_running : about1.status = .running := rfl
set_option maxRecDepth 65536 in
theorem w_room : about1.hasRoom e0.platform room_1 = true :=
  launch0.hasRoom_least _ room_1 (by decide +kernel) (by decide +kernel) (by decide +kernel) (by decide +kernel) (by decide +kernel) (by decide +kernel)
theorem allAtoms_all (ts : List Jvm.Cond) (a : Array Jvm.Value) (st : Jvm.State) : (allAtoms ts).before a st = ts.all (fun c => c.before a st) := by
  induction ts with
  | nil => rfl
  | cons c t ih =>
    show (Jvm.Cond.and c (allAtoms t)).before a st = _
    rw [Jvm.Cond.before_and, ih, List.all_cons]
def words1 : List Jvm.Cond := Jvm.Cond.code x code maxLocals ret :: tables_1
/-- a 'code' word, met by the world's own term for the bytes: nothing is compared byte by byte -/
theorem code_word {y : MethodName} {bytes : ByteArray} {mx : Nat} {rt : Option FieldType} {a : Array Value} {s : State} {m : MethodId} {meth : Method} {c : Code} (h1 : s.methodNamed? y = some m) (h2 : s.vm.method? m = some meth) (h3 : meth.code = some c) (h4 : c.code = bytes)
    (h5 : (c.maxLocals == mx && c.exceptionTable.isEmpty && decide (c.maxStack ≤ mostOperands) && decide (meth.sig.returnType = rt) && !meth.locks && decide (parseMethodDescriptor y.desc = some meth.sig)) = true) : (Jvm.Cond.code y bytes mx rt).before a s = true := by
  simp only [Bool.and_eq_true, beq_iff_eq, Bool.not_eq_true', decide_eq_true_eq] at h5
  obtain ⟨⟨⟨⟨⟨g1, g2⟩, g3⟩, g4⟩, g5⟩, g6⟩ := h5
  simp [Cond.before, Cond.holds, Cond.value, h1, h2, h3, h4, g1, g2, g3, g4, g5, g6]
def isCode : Jvm.Cond → Bool
  | .code _ _ _ _ => true
  | _ => false
theorem all_split {L : List Jvm.Cond} {P : Jvm.Cond → Bool} (h1 : L.all (fun c => isCode c || P c) = true) (h2 : ∀ c ∈ L.filter isCode, P c = true) : L.all P = true := by
  refine List.all_eq_true.mpr fun c hc => ?_
  have h := List.all_eq_true.mp h1 c hc
  rcases Bool.eq_false_or_eq_true (isCode c) with hi | hi
  · exact h2 c (List.mem_filter.mpr ⟨hc, hi⟩)
  · simpa [hi] using h
set_option maxRecDepth 65536 in
theorem w_c0 : (Jvm.Cond.code x code maxLocals ret).before args0 about1 = true := code_word (m := ⟨1, 1⟩) (meth := k1m1) (c := k1c1) (by decide +kernel) rfl rfl rfl (by decide +kernel)
set_option maxRecDepth 65536 in
theorem w_c1 : (Jvm.Cond.code ({ cls := "watchword/LoginConfiguration$ControlFlag", name := "failureFailsStack", desc := "()Z" } : Jvm.MethodName) prog_35_method_5_code (1 : Nat) (Option.some Jvm.ClassFile.FieldType.boolean)).before args0 about1 = true := code_word (m := ⟨6, 0⟩) (meth := k6m0) (c := k6c0) (by decide +kernel) rfl rfl rfl (by decide +kernel)
set_option maxRecDepth 65536 in
theorem w_c2 : (Jvm.Cond.code ({ cls := "watchword/LoginConfiguration$ControlFlag", name := "failureEndsStack", desc := "()Z" } : Jvm.MethodName) prog_35_method_6_code (1 : Nat) (Option.some Jvm.ClassFile.FieldType.boolean)).before args0 about1 = true := code_word (m := ⟨6, 1⟩) (meth := k6m1) (c := k6c1) (by decide +kernel) rfl rfl rfl (by decide +kernel)
def codes1 : List Jvm.Cond := [Jvm.Cond.code x code maxLocals ret, Jvm.Cond.code ({ cls := "watchword/LoginConfiguration$ControlFlag", name := "failureFailsStack", desc := "()Z" } : Jvm.MethodName) prog_35_method_5_code (1 : Nat) (Option.some Jvm.ClassFile.FieldType.boolean), Jvm.Cond.code ({ cls := "watchword/LoginConfiguration$ControlFlag", name := "failureEndsStack", desc := "()Z" } : Jvm.MethodName) prog_35_method_6_code (1 : Nat) (Option.some Jvm.ClassFile.FieldType.boolean)]
set_option maxRecDepth 65536 in
theorem codes_eq : words1.filter isCode = codes1 := rfl
theorem w_codes : ∀ c ∈ words1.filter isCode, c.before args0 about1 = true := by
  rw [codes_eq]
  intro c hc
  simp only [codes1, List.mem_cons, List.not_mem_nil, or_false] at hc
  rcases hc with rfl | rfl | rfl
  · exact w_c0
  · exact w_c1
  · exact w_c2
set_option maxRecDepth 65536 in
theorem w_t1 : (words1.take 24).all (fun c => isCode c || c.before args0 about1) = true := by decide +kernel
set_option maxRecDepth 65536 in
theorem w_t2 : (words1.drop 24).all (fun c => isCode c || c.before args0 about1) = true := by decide +kernel
theorem w_tables : (allAtoms (Jvm.Cond.code x code maxLocals ret :: tables_1)).before args0 about1 = true := by
  rw [allAtoms_all]
  show words1.all (fun c => c.before args0 about1) = true
  refine all_split ?_ w_codes
  rw [← List.take_append_drop 24 words1, List.all_append, w_t1, w_t2]
  rfl
set_option maxRecDepth 65536 in
theorem w_case : (Jvm.Cond.and given_1 narrow_1).before args0 about1 = true := by decide +kernel
theorem w_applies : (headSpec (Jvm.Cond.code x code maxLocals ret :: tables_1) room_1).applies x e0.platform about1 = true :=
  (Spec.applies_iff w_frames).mpr ⟨w_running, w_runnable, w_alone, w_named, w_hears, w_ripe, w_room, w_tables⟩
theorem atStart : AtStart classFile x code maxLocals ret World_1 tables_1 room_1 Calls_1 rest_1 Pre_1 launch0 p0 e0 about1 theMethod args0 below0 :=
  ⟨lists_1, trivial, launch0.admits_env _ _ _, launch0.least_env, fairChoices_fair.cas, fairChoices_fair.clock, w_frames, w_args, w_heap, w_applies, trivial, trivial, w_case⟩
end start1
theorem witness_1 : WitnessClaimed_1 := ⟨start1.p0, start1.e0, start1.about1, start1.theMethod, start1.args0, start1.below0, start1.atStart⟩
end Jvm.Pilot.@@N@@
