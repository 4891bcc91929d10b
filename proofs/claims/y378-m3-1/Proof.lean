import JvmDerived
import JvmDerived.Pilot.@@N@@Statement
import JvmDerived.Pilot.@@N@@Code
set_option linter.unusedVariables false
set_option linter.unusedSimpArgs false
/- laws to paste: Road.backV (cut by pick.py; bodies as the Statement names them) -/
namespace Jvm.Pilot.@@N@@
namespace StrChars
open Jvm Sem ClassFile Op Lib Jvm.Stand Jvm.Free.XT Jvm.Free.ALB Jvm.Free.JM Jvm.Free
open Jvm.Lib.Cold (StaticIs)
/-- a char array whose places are chars -/
def Ch (a : Addr) (A : Cell) (U : State) : Prop := Arr .char a A U ∧ Typed .char A
theorem Ch.mv {a : Addr} {A : Cell} {U U' : State} (h : Ch a A U) (hal : U.vm.Alike U'.vm) (hh : U'.heap = U.heap) : Ch a A U' := ⟨h.1.mv hal hh, h.2⟩
theorem Ch.keep {a : Addr} {A : Cell} {U U' : State} (h : Ch a A U) (hal : U.vm.Alike U'.vm) (hk : U'.heap[a]? = some A) : Ch a A U' := ⟨h.1.keep hal hk, h.2⟩
/-- what place i of a char[]'s cell holds -/
def cv (A : Cell) (i : Nat) : Int32 := match A.slots[i]? with | some (.int x) => x | _ => 0
theorem Ch.get {a : Addr} {A : Cell} {U : State} (h : Ch a A U) {i : Nat} (hi : i < A.slots.size) : A.slots[i]? = some (.int (cv A i)) := by
  have e := Array.getElem?_eq_getElem hi
  have f := h.2 i _ e
  unfold cv; rw [e]
  generalize A.slots[i] = v at f
  cases v <;> simp [fits] at f ⊢
/-- the byte that i2b leaves of a char -/
def lo8 (x : Int32) : Int32 := x.toInt8.toInt32
theorem fits_lo8 (y : Int32) : fits .byte (.int (lo8 y)) = true := by
  have h1 := y.toInt8.le_toInt
  have h2 := y.toInt8.toInt_lt
  simp only [lo8, fits, Bool.and_eq_true, decide_eq_true_eq, Int32.le_iff_toInt_le, Int8.toInt_toInt32, show (-128 : Int32).toInt = -128 from by decide, show (127 : Int32).toInt = 127 from by decide]
  omega
/-- A' is A but that each place j of lo .. hi - 1 holds f j -/
def Laid (A A' : Cell) (lo hi : Nat) (f : Nat → Value) : Prop := A'.cls = A.cls ∧ A'.vm = A.vm ∧ A'.slots.size = A.slots.size ∧ ∀ i, A'.slots[i]? = if lo ≤ i ∧ i < hi then some (f i) else A.slots[i]?
theorem Laid.zero (A : Cell) (lo : Nat) (f : Nat → Value) : Laid A A lo (lo + 0) f := ⟨rfl, rfl, rfl, fun i => by rw [if_neg (by omega)]⟩
theorem Laid.step {A Ak : Cell} {lo k : Nat} {f : Nat → Value} {v : Value} (h : Laid A Ak lo k f) (hlo : lo ≤ k) (hk : k < Ak.slots.size) (hv : v = f k) : Laid A (Ak.setSlot k v) lo (k + 1) f := by
  refine ⟨h.1, h.2.1, by simpa [Cell.setSlot] using h.2.2.1, fun i => ?_⟩
  by_cases e : k = i
  · subst e; rw [Cell.slots_setSlot_self v hk, if_pos (by omega), hv]
  · rw [Cell.slots_setSlot_ne v e, h.2.2.2 i]
    by_cases q : lo ≤ i ∧ i < k
    · rw [if_pos q, if_pos (by omega)]
    · rw [if_neg q, if_neg (by omega)]
def U16 : String := "java/lang/StringUTF16"
namespace Cmp5
def yN : MethodName := ⟨"java/lang/StringUTF16", "compress", "([CI[BII)I"⟩
abbrev yB : ByteArray := jdk_52_method_21_code
theorem d0 : decode yB 0 = .ok (.iconst 0, 1) := by decide +kernel
theorem d1 : decode yB 1 = .ok (.istore 5, 2) := by decide +kernel
theorem d3 : decode yB 3 = .ok (.iload 5, 2) := by decide +kernel
theorem d5 : decode yB 5 = .ok (.iload 4, 2) := by decide +kernel
theorem d7 : decode yB 7 = .ok (.if_icmp (.ge) 37, 3) := by decide +kernel
theorem d10 : decode yB 10 = .ok (.aload_n 0, 1) := by decide +kernel
theorem d11 : decode yB 11 = .ok (.iload_n 1, 1) := by decide +kernel
theorem d12 : decode yB 12 = .ok (.caload, 1) := by decide +kernel
theorem d13 : decode yB 13 = .ok (.istore 6, 2) := by decide +kernel
theorem d15 : decode yB 15 = .ok (.iload 6, 2) := by decide +kernel
theorem d17 : decode yB 17 = .ok (.sipush 255, 3) := by decide +kernel
theorem d20 : decode yB 20 = .ok (.if_icmp (.le) 6, 3) := by decide +kernel
theorem d26 : decode yB 26 = .ok (.aload_n 2, 1) := by decide +kernel
theorem d27 : decode yB 27 = .ok (.iload_n 3, 1) := by decide +kernel
theorem d28 : decode yB 28 = .ok (.iload 6, 2) := by decide +kernel
theorem d30 : decode yB 30 = .ok (.i2b, 1) := by decide +kernel
theorem d31 : decode yB 31 = .ok (.bastore, 1) := by decide +kernel
theorem d32 : decode yB 32 = .ok (.iinc 1 1, 3) := by decide +kernel
theorem d35 : decode yB 35 = .ok (.iinc 3 1, 3) := by decide +kernel
theorem d38 : decode yB 38 = .ok (.iinc 5 1, 3) := by decide +kernel
theorem d41 : decode yB 41 = .ok (.goto (-38), 3) := by decide +kernel
theorem d44 : decode yB 44 = .ok (.iload 4, 2) := by decide +kernel
theorem d46 : decode yB 46 = .ok (.ireturn, 1) := by decide +kernel
def site : List Cond := []
def tab : Cond := tabOf yN yB 7 (some .int) site
def P (b : Addr) (A : Cell) (d : Addr) (B : Cell) (o q len : Nat) (args : Array Value) (s : State) : Prop := args = #[.ref b, .int (Int32.ofNat o), .ref d, .int (Int32.ofNat q), .int (Int32.ofNat len)] ∧ Ch b A s ∧ Arr .byte d B s ∧ b ≠ d ∧ o + len ≤ A.slots.size ∧ q + len ≤ B.slots.size ∧ ∀ i, i < len → ¬ 255 < cv A (o + i)
def E (b : Addr) (A : Cell) (d : Addr) (B : Cell) (o q len : Nat) (r : Option Value) (s u : State) : Prop := r = some (.int (Int32.ofNat len)) ∧ ∃ B', Put d B' s u ∧ Laid B B' q (q + len) (fun j => Value.int (lo8 (cv A (o + (j - q)))))
/-- no char of the range above 255: len; the places written hold each char's low byte -/
theorem law (l : Launch) (b : Addr) (A : Cell) (d : Addr) (B : Cell) (o q len : Nat) : Law l yN 5 5 0 0 yB 7 (some .int) site (P b A d B o q len) (E b A d B o q len) (copyLocs d q len) 0 0 := by
  refine Law.of_walk (plainFor_of_name (by decide +kernel)) (by decide +kernel) (by decide +kernel) (by decide) (fun _ _ h => by rw [h.1]; rfl) (fun _ U U' hal hh h => ⟨h.1, h.2.1.mv hal hh, h.2.2.1.mv hal hh, h.2.2.2⟩) (fun r U U' V V' h1 hal h2 h => ⟨h.1, h.2.elim fun B' q => ⟨B', q.1.mv h1 h2, q.2⟩⟩) ?_
  intro p e s m args below meth c s₁ X0 hexec hbytes hml hret hlk hnm hown hh0 W hP
  obtain ⟨rfl, hA, hB, hne, l1, l2, hp⟩ := hP
  have c1 : Steps p.tables e below (s₁.setTop (entryFrame m #[.ref b, .int (Int32.ofNat o), .ref d, .int (Int32.ofNat q), .int (Int32.ofNat len)] 7)) (s₁.setTop (mkF m 0 #[.val (.ref b), .val (.int (Int32.ofNat o)), .val (.ref d), .val (.int (Int32.ofNat q)), .val (.int (Int32.ofNat len)), .unset, .unset] [])) := entry rfl
  have hA0 := hA.1.mv X0.warmed.alike hh0
  have hB0 := hB.mv X0.warmed.alike hh0
  have a31 := hA.1.2.2.2
  have c2 : Steps p.tables e below (s₁.setTop (entryFrame m #[.ref b, .int (Int32.ofNat o), .ref d, .int (Int32.ofNat q), .int (Int32.ofNat len)] 7)) (s₁.setTop (mkF m 3 #[.val (.ref b), .val (.int (Int32.ofNat o)), .val (.ref d), .val (.int (Int32.ofNat q)), .val (.int (Int32.ofNat len)), .val (.int 0), .unset] [])) := c1.trans (by
    refine iconstV X0.here hexec rfl 0 (hb hbytes d0) (by decide) ?_
    refine XS.istore X0.here hexec rfl (hb hbytes d1) rfl rfl ?_
    exact Steps.refl _)
  have loop : ∀ (r i : Nat), i + r = len → ∀ (z : Slot), (z = .unset ∨ ∃ w, z = .val w ∧ w.category = 1) → ∀ (Tl : State) (Bk : Cell), Stand p l e { frames := 0, locals := 0, cells := 0, slots := 0 } s m #[.ref b, .int (Int32.ofNat o), .ref d, .int (Int32.ofNat q), .int (Int32.ofNat len)] below meth c Tl ([] ++ copyLocs d q i) 0 0 → Put d Bk s₁ Tl → Laid B Bk q (q + i) (fun j => Value.int (lo8 (cv A (o + (j - q))))) →
      Steps p.tables e below (s₁.setTop (entryFrame m #[.ref b, .int (Int32.ofNat o), .ref d, .int (Int32.ofNat q), .int (Int32.ofNat len)] 7)) (Tl.setTop (mkF m 3 #[.val (.ref b), .val (.int (Int32.ofNat (o + i))), .val (.ref d), .val (.int (Int32.ofNat (q + i))), .val (.int (Int32.ofNat len)), .val (.int (Int32.ofNat i)), z] [])) → ∃ (T' : State) (B' : Cell) (z' : Slot), Stand p l e { frames := 0, locals := 0, cells := 0, slots := 0 } s m #[.ref b, .int (Int32.ofNat o), .ref d, .int (Int32.ofNat q), .int (Int32.ofNat len)] below meth c T' ([] ++ copyLocs d q len) 0 0 ∧ Put d B' s₁ T' ∧ Laid B B' q (q + len) (fun j => Value.int (lo8 (cv A (o + (j - q))))) ∧
      Steps p.tables e below (s₁.setTop (entryFrame m #[.ref b, .int (Int32.ofNat o), .ref d, .int (Int32.ofNat q), .int (Int32.ofNat len)] 7)) (T'.setTop (mkF m 3 #[.val (.ref b), .val (.int (Int32.ofNat (o + len))), .val (.ref d), .val (.int (Int32.ofNat (q + len))), .val (.int (Int32.ofNat len)), .val (.int (Int32.ofNat len)), z'] [])) := by
    intro r
    induction r with
    | zero =>
      intro i hi z hz Tl Bk Xl pl fl cl
      have hil : i = len := by omega
      rw [hil] at Xl fl cl
      exact ⟨Tl, Bk, z, Xl, pl, fl, cl⟩
    | succ r ih =>
      intro i hi z hz Tl Bk Xl pl fl cl
      have all := X0.warmed.alike.symm.trans Xl.warmed.alike
      have hAl := hA0.keep all (pl.other hne hA0.1)
      have hBk := hB0.like all pl.1 fl.1 fl.2.1 fl.2.2.1
      have hlt : q + i < Bk.slots.size := by rw [fl.2.2.1]; omega
      have c3 : Steps p.tables e below (s₁.setTop (entryFrame m #[.ref b, .int (Int32.ofNat o), .ref d, .int (Int32.ofNat q), .int (Int32.ofNat len)] 7)) (Tl.setTop (mkF m 12 #[.val (.ref b), .val (.int (Int32.ofNat (o + i))), .val (.ref d), .val (.int (Int32.ofNat (q + i))), .val (.int (Int32.ofNat len)), .val (.int (Int32.ofNat i)), z] [.int (Int32.ofNat (o + i)), .ref b])) := cl.trans (by
        refine XS.iload Xl.here hexec rfl (hb hbytes d3) rfl ?_
        refine XS.iload Xl.here hexec rfl (hb hbytes d5) rfl ?_
        refine XS.icmpNo Xl.here hexec rfl (hb hbytes d7) rfl (ii_ge_f (lt32 (by omega) (by omega))) ?_
        refine XS.aloadN Xl.here hexec rfl (hb hbytes d10) rfl rfl ?_
        refine XS.iloadN Xl.here hexec rfl (hb hbytes d11) rfl ?_
        exact Steps.refl _)
      have c4 : Steps p.tables e below (s₁.setTop (entryFrame m #[.ref b, .int (Int32.ofNat o), .ref d, .int (Int32.ofNat q), .int (Int32.ofNat len)] 7)) (Tl.setTop (mkF m 13 #[.val (.ref b), .val (.int (Int32.ofNat (o + i))), .val (.ref d), .val (.int (Int32.ofNat (q + i))), .val (.int (Int32.ofNat len)), .val (.int (Int32.ofNat i)), z] [.int (cv A (o + i))])) := c3.trans (by
        refine Xl.aget hexec hAl rfl (hA.get (i := o + i) (by omega)) rfl rfl (hb hbytes d12) ?_
        exact Steps.refl _)
      have c5 : Steps p.tables e below (s₁.setTop (entryFrame m #[.ref b, .int (Int32.ofNat o), .ref d, .int (Int32.ofNat q), .int (Int32.ofNat len)] 7)) (Tl.setTop (mkF m 15 #[.val (.ref b), .val (.int (Int32.ofNat (o + i))), .val (.ref d), .val (.int (Int32.ofNat (q + i))), .val (.int (Int32.ofNat len)), .val (.int (Int32.ofNat i)), .val (.int (cv A (o + i)))] [])) := c4.trans (by
        refine XS.istoreS Xl.here hexec rfl (hb hbytes d13) rfl rfl hz ?_
        exact Steps.refl _)
      have c6 : Steps p.tables e below (s₁.setTop (entryFrame m #[.ref b, .int (Int32.ofNat o), .ref d, .int (Int32.ofNat q), .int (Int32.ofNat len)] 7)) (Tl.setTop (mkF m 31 #[.val (.ref b), .val (.int (Int32.ofNat (o + i))), .val (.ref d), .val (.int (Int32.ofNat (q + i))), .val (.int (Int32.ofNat len)), .val (.int (Int32.ofNat i)), .val (.int (cv A (o + i)))] [.int (lo8 (cv A (o + i))), .int (Int32.ofNat (q + i)), .ref d])) := c5.trans (by
        refine XS.iload Xl.here hexec rfl (hb hbytes d15) rfl ?_
        refine sipushV Xl.here hexec rfl 255 (hb hbytes d17) (by decide) ?_
        refine XS.icmpYes Xl.here hexec rfl (pc0 := 20) rfl (hb hbytes d20) rfl (ii_le_t (hp i (by omega))) (by decide) rfl ?_
        refine XS.aloadN Xl.here hexec rfl (hb hbytes d26) rfl rfl ?_
        refine XS.iloadN Xl.here hexec rfl (hb hbytes d27) rfl ?_
        refine XS.iload Xl.here hexec rfl (hb hbytes d28) rfl ?_
        refine i2b Xl.here hexec rfl (hb hbytes d30) rfl ?_
        exact Steps.refl _)
      obtain ⟨T7, X7, p7, st7⟩ := Xl.aput hexec hBk rfl hlt rfl (fits_lo8 (cv A (o + i))) (g := (mkF m 31 #[.val (.ref b), .val (.int (Int32.ofNat (o + i))), .val (.ref d), .val (.int (Int32.ofNat (q + i))), .val (.int (Int32.ofNat len)), .val (.int (Int32.ofNat i)), .val (.int (cv A (o + i)))] [.int (lo8 (cv A (o + i))), .int (Int32.ofNat (q + i)), .ref d])) rfl (rest := []) rfl (hb hbytes d31)
      have c8 : Steps p.tables e below (s₁.setTop (entryFrame m #[.ref b, .int (Int32.ofNat o), .ref d, .int (Int32.ofNat q), .int (Int32.ofNat len)] 7)) (T7.setTop (mkF m 32 #[.val (.ref b), .val (.int (Int32.ofNat (o + i))), .val (.ref d), .val (.int (Int32.ofNat (q + i))), .val (.int (Int32.ofNat len)), .val (.int (Int32.ofNat i)), .val (.int (cv A (o + i)))] [])) := c6.trans (st7 _ (Steps.refl _))
      have c9 : Steps p.tables e below (s₁.setTop (entryFrame m #[.ref b, .int (Int32.ofNat o), .ref d, .int (Int32.ofNat q), .int (Int32.ofNat len)] 7)) (T7.setTop (mkF m 3 #[.val (.ref b), .val (.int (Int32.ofNat (o + i) + 1)), .val (.ref d), .val (.int (Int32.ofNat (q + i) + 1)), .val (.int (Int32.ofNat len)), .val (.int (Int32.ofNat i + 1)), .val (.int (cv A (o + i)))] [])) := c8.trans (by
        refine iincV X7.here hexec rfl 1 (hb hbytes d32) (by decide) rfl rfl ?_
        refine iincV X7.here hexec rfl 1 (hb hbytes d35) (by decide) rfl rfl ?_
        refine iincV X7.here hexec rfl 1 (hb hbytes d38) (by decide) rfl rfl ?_
        refine XS.goto X7.here hexec rfl (pc0 := 41) rfl (hb hbytes d41) (by decide) rfl ?_
        exact Steps.refl _)
      have c10 : Steps p.tables e below (s₁.setTop (entryFrame m #[.ref b, .int (Int32.ofNat o), .ref d, .int (Int32.ofNat q), .int (Int32.ofNat len)] 7)) (T7.setTop (mkF m 3 #[.val (.ref b), .val (.int (Int32.ofNat (o + (i + 1)))), .val (.ref d), .val (.int (Int32.ofNat (q + (i + 1)))), .val (.int (Int32.ofNat len)), .val (.int (Int32.ofNat (i + 1))), .val (.int (cv A (o + i)))] [])) := by
        have := c9
        rw [succ32, succ32, succ32] at this
        exact this
      exact ih (i + 1) (by omega) _ (Or.inr ⟨_, rfl, rfl⟩) T7 _ (by rw [copyLocs_step, ← List.append_assoc]; exact X7) (pl.trans p7) (fl.step (by omega) hlt (by simp)) c10
  obtain ⟨T9, B9, z9, X9, p9, f9, g9⟩ := loop len 0 (by omega) .unset (Or.inl rfl) s₁ B (by simpa [copyLocs] using X0) ⟨hB0.1, fun _ _ => rfl, rfl⟩ (Laid.zero _ _ _) c2
  have c11 : Steps p.tables e below (s₁.setTop (entryFrame m #[.ref b, .int (Int32.ofNat o), .ref d, .int (Int32.ofNat q), .int (Int32.ofNat len)] 7)) (T9.setTop (mkF m 46 #[.val (.ref b), .val (.int (Int32.ofNat (o + len))), .val (.ref d), .val (.int (Int32.ofNat (q + len))), .val (.int (Int32.ofNat len)), .val (.int (Int32.ofNat len)), z9] [.int (Int32.ofNat len)])) := g9.trans (by
    refine XS.iload X9.here hexec rfl (hb hbytes d3) rfl ?_
    refine XS.iload X9.here hexec rfl (hb hbytes d5) rfl ?_
    refine XS.icmpYes X9.here hexec rfl (pc0 := 7) rfl (hb hbytes d7) rfl (ii_ge_t (nlt32 (by omega) (Nat.le_refl _))) (by decide) rfl ?_
    refine XS.iload X9.here hexec rfl (hb hbytes d44) rfl ?_
    exact Steps.refl _)
  exact ⟨T9, some (.int (Int32.ofNat len)), _, _, _, X9, by simp, rfl, rfl, (fun h => by cases h), ⟨rfl, B9, p9.from hh0, f9⟩, fun fs hl => c11.trans (X9.ireturnOut hexec hret rfl (Or.inl rfl) (hb hbytes d46) hl)⟩
end Cmp5
namespace Cmp3
def yN : MethodName := ⟨"java/lang/StringUTF16", "compress", "([CII)[B"⟩
abbrev yB : ByteArray := jdk_52_method_16_code
theorem d0 : decode yB 0 = .ok (.iload_n 2, 1) := by decide +kernel
theorem d1 : decode yB 1 = .ok (.newarray .byte, 2) := by decide +kernel
theorem d3 : decode yB 3 = .ok (.astore_n 3, 1) := by decide +kernel
theorem d4 : decode yB 4 = .ok (.aload_n 0, 1) := by decide +kernel
theorem d5 : decode yB 5 = .ok (.iload_n 1, 1) := by decide +kernel
theorem d6 : decode yB 6 = .ok (.aload_n 3, 1) := by decide +kernel
theorem d7 : decode yB 7 = .ok (.iconst 0, 1) := by decide +kernel
theorem d8 : decode yB 8 = .ok (.iload_n 2, 1) := by decide +kernel
theorem d9 : decode yB 9 = .ok (.invokestatic 115, 3) := by decide +kernel
theorem d12 : decode yB 12 = .ok (.istore 4, 2) := by decide +kernel
theorem d14 : decode yB 14 = .ok (.iload 4, 2) := by decide +kernel
theorem d16 : decode yB 16 = .ok (.iload_n 2, 1) := by decide +kernel
theorem d17 : decode yB 17 = .ok (.if_icmp (.eq) 40, 3) := by decide +kernel
theorem d57 : decode yB 57 = .ok (.aload_n 3, 1) := by decide +kernel
theorem d58 : decode yB 58 = .ok (.areturn, 1) := by decide +kernel
def site : List Cond := [.arrayClass .byte, Cmp5.tab] ++ staticW U16 115 Cmp5.yN
def tab : Cond := tabOf yN yB 6 (some (.array .byte)) site
def P (b : Addr) (A : Cell) (o len : Nat) (args : Array Value) (s : State) : Prop := args = #[.ref b, .int (Int32.ofNat o), .int (Int32.ofNat len)] ∧ Ch b A s ∧ o + len ≤ A.slots.size ∧ len ≤ 536870912 ∧ ∀ i, i < len → ¬ 255 < cv A (o + i)
def E (b : Addr) (A : Cell) (o len : Nat) (r : Option Value) (s u : State) : Prop := NewArr .byte "[B" len (fun j => .int (lo8 (cv A (o + j)))) r s u ∧ u.heap.size = s.heap.size + 1
/-- no char of the range above 255: a new byte[] of their low bytes -/
theorem law (l : Launch) (b : Addr) (A : Cell) (o len : Nat) : Law l yN 3 3 1 18 yB 6 (some (.array .byte)) site (P b A o len) (E b A o len) [] 1 len := by
  refine Law.of_walk (plainFor_of_name (by decide +kernel)) (by decide +kernel) (by decide +kernel) (by decide) (fun _ _ h => by rw [h.1]; rfl) (fun _ U U' hal hh h => ⟨h.1, h.2.1.mv hal hh, h.2.2⟩) (fun r U U' V V' h1 hal h2 h => ⟨NewArr.mv r U U' V V' h1 hal h2 h.1, by rw [h1, h2]; exact h.2⟩) ?_
  intro p e s m args below meth c s₁ X0 hexec hbytes hml hret hlk hnm hown hh0 W hP
  obtain ⟨rfl, hA, l1, l2, hp⟩ := hP
  have a31 := hA.1.2.2.2
  have c1 : Steps p.tables e below (s₁.setTop (entryFrame m #[.ref b, .int (Int32.ofNat o), .int (Int32.ofNat len)] 6)) (s₁.setTop (mkF m 0 #[.val (.ref b), .val (.int (Int32.ofNat o)), .val (.int (Int32.ofNat len)), .unset, .unset, .unset] [])) := entry rfl
  have c2 : Steps p.tables e below (s₁.setTop (entryFrame m #[.ref b, .int (Int32.ofNat o), .int (Int32.ofNat len)] 6)) (s₁.setTop (mkF m 1 #[.val (.ref b), .val (.int (Int32.ofNat o)), .val (.int (Int32.ofNat len)), .unset, .unset, .unset] [.int (Int32.ofNat len)])) := c1.trans (by
    refine XS.iloadN X0.here hexec rfl (hb hbytes d0) rfl ?_
    exact Steps.refl _)
  obtain ⟨T3, B3, X3, ba3, bs3, bv3, bh3, bf3, st3⟩ := X0.anew hexec (atype := .byte) (wk W (.arrayClass .byte)) rfl (by show len * 1 ≤ _; omega) (by omega) (g := (mkF m 1 #[.val (.ref b), .val (.int (Int32.ofNat o)), .val (.int (Int32.ofNat len)), .unset, .unset, .unset] [.int (Int32.ofNat len)])) rfl (hb hbytes d1) (rest := []) rfl (Nat.le_refl _) (by show 0 + len ≤ len; omega)
  rw [hh0] at ba3 st3
  have kp3 : XT.Kept s T3 := (XT.Kept.of_eq hh0).push bh3
  have hA3 := hA.keep X3.warmed.alike (kp3 _ _ hA.1.1)
  have hne : b ≠ s.heap.size := hA.1.ne
  have c4 : Steps p.tables e below (s₁.setTop (entryFrame m #[.ref b, .int (Int32.ofNat o), .int (Int32.ofNat len)] 6)) (T3.setTop (mkF m 3 #[.val (.ref b), .val (.int (Int32.ofNat o)), .val (.int (Int32.ofNat len)), .unset, .unset, .unset] [.ref s.heap.size])) := c2.trans (st3 _ (Steps.refl _))
  have c5 : Steps p.tables e below (s₁.setTop (entryFrame m #[.ref b, .int (Int32.ofNat o), .int (Int32.ofNat len)] 6)) (T3.setTop (mkF m 9 #[.val (.ref b), .val (.int (Int32.ofNat o)), .val (.int (Int32.ofNat len)), .val (.ref s.heap.size), .unset, .unset] [.int (Int32.ofNat len), .int 0, .ref s.heap.size, .int (Int32.ofNat o), .ref b])) := c4.trans (by
    refine XS.astoreN X3.here hexec rfl (hb hbytes d3) rfl rfl rfl ?_
    refine XS.aloadN X3.here hexec rfl (hb hbytes d4) rfl rfl ?_
    refine XS.iloadN X3.here hexec rfl (hb hbytes d5) rfl ?_
    refine XS.aloadN X3.here hexec rfl (hb hbytes d6) rfl rfl ?_
    refine iconstV X3.here hexec rfl 0 (hb hbytes d7) (by decide) ?_
    refine XS.iloadN X3.here hexec rfl (hb hbytes d8) rfl ?_
    exact Steps.refl _)
  obtain ⟨v6, T6, X6, E6, g6⟩ := X3.callS hexec (Cmp5.law l b A s.heap.size B3 o 0 len) hown (wks W (staticW U16 115 Cmp5.yN)) (wk W Cmp5.tab) (W := 0) (Nat.le_of_ble_eq_true rfl) (Nat.le_of_ble_eq_true rfl) (Nat.le_refl _) (by show 0 + len + 0 ≤ len; omega) (g := (mkF m 9 #[.val (.ref b), .val (.int (Int32.ofNat o)), .val (.int (Int32.ofNat len)), .val (.ref s.heap.size), .unset, .unset] [.int (Int32.ofNat len), .int (Int32.ofNat 0), .ref s.heap.size, .int (Int32.ofNat o), .ref b])) rfl (by rw [hml]; rfl) c5 (argsL := [.ref b, .int (Int32.ofNat o), .ref s.heap.size, .int (Int32.ofNat 0), .int (Int32.ofNat len)]) (rest := []) rfl rfl (by show 2 * 0 + 0 ≤ _; decide) (hb hbytes d9) (⟨rfl, hA3, ba3, hne, l1, by rw [bs3]; simp, hp⟩)
  obtain ⟨rfl, B6, p6, f6⟩ := E6
  have c7 : Steps p.tables e below (s₁.setTop (entryFrame m #[.ref b, .int (Int32.ofNat o), .int (Int32.ofNat len)] 6)) (T6.setTop (mkF m 12 #[.val (.ref b), .val (.int (Int32.ofNat o)), .val (.int (Int32.ofNat len)), .val (.ref s.heap.size), .unset, .unset] [.int (Int32.ofNat len)])) := g6
  have c8 : Steps p.tables e below (s₁.setTop (entryFrame m #[.ref b, .int (Int32.ofNat o), .int (Int32.ofNat len)] 6)) (T6.setTop (mkF m 58 #[.val (.ref b), .val (.int (Int32.ofNat o)), .val (.int (Int32.ofNat len)), .val (.ref s.heap.size), .val (.int (Int32.ofNat len)), .unset] [.ref s.heap.size])) := c7.trans (by
    refine XS.istore X6.here hexec rfl (hb hbytes d12) rfl rfl ?_
    refine XS.iload X6.here hexec rfl (hb hbytes d14) rfl ?_
    refine XS.iloadN X6.here hexec rfl (hb hbytes d16) rfl ?_
    refine XS.icmpYes X6.here hexec rfl (pc0 := 17) rfl (hb hbytes d17) rfl (ii_eq_t rfl) (by decide) rfl ?_
    refine XS.aloadN X6.here hexec rfl (hb hbytes d57) rfl rfl ?_
    exact Steps.refl _)
  have X8 := X6.wide (L' := []) (cells' := 1) (slots' := len) (fun x hx hlt => by
    simp only [List.nil_append, copyLocs, List.mem_map, List.mem_range] at hx
    obtain ⟨i, -, rfl⟩ := hx
    exact absurd hlt (Nat.lt_irrefl _)) (Nat.le_refl _) (by omega)
  exact ⟨T6, some (.ref s.heap.size), _, _, _, X8, rfl, rfl, rfl, (fun h => by cases h), ⟨⟨rfl, B6, ba3.like (X3.warmed.alike.symm.trans X6.warmed.alike) p6.1 f6.1 f6.2.1 f6.2.2.1, f6.2.1.trans bv3, by rw [X6.warmed.alike.findClass, f6.1]; exact bf3, by rw [f6.2.2.1, bs3]; simp, fun j hj => by rw [f6.2.2.2 j, if_pos (by omega)]; rfl, kp3.put p6 (Nat.le_refl _)⟩, by rw [p6.2.2, bh3, hh0]; simp⟩, fun fs hl => c8.trans (X8.areturnOut hexec rfl hret rfl (hb hbytes d58) hl)⟩
end Cmp3
namespace CodL
def yN : MethodName := ⟨"java/lang/StringUTF16", "coderFromArrayLen", "([BI)B"⟩
abbrev yB : ByteArray := jdk_52_method_15_code
theorem d0 : decode yB 0 = .ok (.iload_n 1, 1) := by decide +kernel
theorem d1 : decode yB 1 = .ok (.aload_n 0, 1) := by decide +kernel
theorem d2 : decode yB 2 = .ok (.arraylength, 1) := by decide +kernel
theorem d3 : decode yB 3 = .ok (.isub, 1) := by decide +kernel
theorem d4 : decode yB 4 = .ok (.bipush 31, 2) := by decide +kernel
theorem d6 : decode yB 6 = .ok (.iushr, 1) := by decide +kernel
theorem d7 : decode yB 7 = .ok (.i2b, 1) := by decide +kernel
theorem d8 : decode yB 8 = .ok (.ireturn, 1) := by decide +kernel
def site : List Cond := []
def tab : Cond := tabOf yN yB 2 (some .byte) site
def P (d : Addr) (B : Cell) (args : Array Value) (s : State) : Prop := args = #[.ref d, .int (Int32.ofNat B.slots.size)] ∧ Arr .byte d B s
def E (r : Option Value) (s u : State) : Prop := XT.PureE (some (.int 0)) r s u
/-- an array as long as the number of chars: LATIN1 -/
theorem law (l : Launch) (d : Addr) (B : Cell) : Law l yN 2 2 0 0 yB 2 (some .byte) site (P d B) E [] 0 0 := by
  refine Law.of_walk (plainFor_of_name (by decide +kernel)) (by decide +kernel) (by decide +kernel) (by decide) (fun _ _ h => by rw [h.1]; rfl) (fun _ U U' hal hh h => ⟨h.1, h.2.mv hal hh⟩) (fun r U U' V V' h1 hal h2 h => XT.PureE.mv r U U' V V' h1 hal h2 h) ?_
  intro p e s m args below meth c s₁ X0 hexec hbytes hml hret hlk hnm hown hh0 W hP
  obtain ⟨rfl, hB⟩ := hP
  have hB0 := hB.mv X0.warmed.alike hh0
  have c1 : Steps p.tables e below (s₁.setTop (entryFrame m #[.ref d, .int (Int32.ofNat B.slots.size)] 2)) (s₁.setTop (mkF m 0 #[.val (.ref d), .val (.int (Int32.ofNat B.slots.size))] [])) := entry rfl
  have c2 : Steps p.tables e below (s₁.setTop (entryFrame m #[.ref d, .int (Int32.ofNat B.slots.size)] 2)) (s₁.setTop (mkF m 2 #[.val (.ref d), .val (.int (Int32.ofNat B.slots.size))] [.ref d, .int (Int32.ofNat B.slots.size)])) := c1.trans (by
    refine XS.iloadN X0.here hexec rfl (hb hbytes d0) rfl ?_
    refine XS.aloadN X0.here hexec rfl (hb hbytes d1) rfl rfl ?_
    exact Steps.refl _)
  have c3 : Steps p.tables e below (s₁.setTop (entryFrame m #[.ref d, .int (Int32.ofNat B.slots.size)] 2)) (s₁.setTop (mkF m 8 #[.val (.ref d), .val (.int (Int32.ofNat B.slots.size))] [.int (lo8 (ushr (Int32.ofNat B.slots.size - Int32.ofNat B.slots.size) 31))])) := c2.trans (by
    refine X0.alen hexec hB0 rfl rfl (hb hbytes d2) ?_
    refine XS.isub X0.here hexec rfl (hb hbytes d3) rfl ?_
    refine bipushV X0.here hexec rfl 31 (hb hbytes d4) (by decide) ?_
    refine iushr X0.here hexec rfl (hb hbytes d6) rfl ?_
    refine i2b X0.here hexec rfl (hb hbytes d7) rfl ?_
    exact Steps.refl _)
  have e0 : lo8 (ushr (Int32.ofNat B.slots.size - Int32.ofNat B.slots.size) 31) = 0 := by rw [Int32.sub_self]; decide
  rw [e0] at c3
  exact ⟨s₁, some (.int 0), _, _, _, X0, rfl, rfl, rfl, (fun h => by cases h), ⟨rfl, hh0⟩, fun fs hl => c3.trans (X0.ireturnOut hexec hret rfl (Or.inr (Or.inr (Or.inl rfl))) (hb hbytes d8) hl)⟩
end CodL
/-- the String at a is Latin-1 over a new byte[] (the heap's one new cell): the low bytes of the len chars of A from o on; every cell but a is kept -/
def Got (a : Addr) (D : Cell) (fV fC : Field) (A : Cell) (o len : Nat) (r : Option Value) (s u : State) : Prop := r = none ∧ ∃ D' V : Cell, Blank "java/lang/String" a D' u ∧ Same D D' [fV.slot, fC.slot] ∧ D'.slots[fV.slot]? = some (.ref s.heap.size) ∧ D'.slots[fC.slot]? = some (.int 0) ∧ Arr .byte s.heap.size V u ∧ V.vm = .none ∧ u.vm.findClass "[B" = some V.cls ∧ V.slots.size = len ∧ (∀ j, j < len → V.slots[j]? = some (.int (lo8 (cv A (o + j))))) ∧ (∀ (y : Addr) (c : Cell), y ≠ a → s.heap[y]? = some c → u.heap[y]? = some c) ∧ u.heap.size = s.heap.size + 1
theorem Got.mv {a : Addr} {D A : Cell} {fV fC : Field} {o len : Nat} : ∀ r (U U' V V' : State), U'.heap = U.heap → V.vm.Alike V'.vm → V'.heap = V.heap → Got a D fV fC A o len r U V → Got a D fV fC A o len r U' V' :=
  fun r U U' V V' h1 hal h2 ⟨e0, D', X, a1, a2, a3, a4, a5, a6, a7, a8, a9, a10, a11⟩ => ⟨e0, D', X, a1.mv hal h2, a2, by rw [h1]; exact a3, a4, by rw [h1]; exact a5.mv hal h2, a6, by rw [hal.findClass]; exact a7, a8, a9, by rw [h1, h2]; exact a10, by rw [h1, h2]; exact a11⟩
namespace New4
def yN : MethodName := ⟨"java/lang/String", "<init>", "([CIILjava/lang/Void;)V"⟩
abbrev yB : ByteArray := jdk_42_method_149_code
theorem d0 : decode yB 0 = .ok (.aload_n 0, 1) := by decide +kernel
theorem d1 : decode yB 1 = .ok (.invokespecial 1, 3) := by decide +kernel
theorem d4 : decode yB 4 = .ok (.iload_n 3, 1) := by decide +kernel
theorem d5 : decode yB 5 = .ok (.ifCond (.ne) 22, 3) := by decide +kernel
theorem d27 : decode yB 27 = .ok (.getstatic 38, 3) := by decide +kernel
theorem d30 : decode yB 30 = .ok (.ifCond (.eq) 28, 3) := by decide +kernel
theorem d33 : decode yB 33 = .ok (.aload_n 1, 1) := by decide +kernel
theorem d34 : decode yB 34 = .ok (.iload_n 2, 1) := by decide +kernel
theorem d35 : decode yB 35 = .ok (.iload_n 3, 1) := by decide +kernel
theorem d36 : decode yB 36 = .ok (.invokestatic 177, 3) := by decide +kernel
theorem d39 : decode yB 39 = .ok (.astore 5, 2) := by decide +kernel
theorem d41 : decode yB 41 = .ok (.aload_n 0, 1) := by decide +kernel
theorem d42 : decode yB 42 = .ok (.aload 5, 2) := by decide +kernel
theorem d44 : decode yB 44 = .ok (.iload_n 3, 1) := by decide +kernel
theorem d45 : decode yB 45 = .ok (.invokestatic 47, 3) := by decide +kernel
theorem d48 : decode yB 48 = .ok (.putfield 15, 3) := by decide +kernel
theorem d51 : decode yB 51 = .ok (.aload_n 0, 1) := by decide +kernel
theorem d52 : decode yB 52 = .ok (.aload 5, 2) := by decide +kernel
theorem d54 : decode yB 54 = .ok (.putfield 9, 3) := by decide +kernel
theorem d57 : decode yB 57 = .ok (.return_, 1) := by decide +kernel
def site : List Cond := [.fieldLink "java/lang/String" 38 "java/lang/String" "COMPACT_STRINGS" "Z", Cmp3.tab, CodL.tab, .laysFinal "java/lang/String" "java/lang/String" "value" "[B", .fieldLink "java/lang/String" 9 "java/lang/String" "value" "[B", .laysFinal "java/lang/String" "java/lang/String" "coder" "B", .fieldLink "java/lang/String" 15 "java/lang/String" "coder" "B"] ++ objW "java/lang/String" 1 ++ staticW "java/lang/String" 177 Cmp3.yN ++ staticW "java/lang/String" 47 CodL.yN
def tab : Cond := tabOf yN yB 6 none site
def P (a : Addr) (D : Cell) (fV fC : Field) (b : Addr) (A : Cell) (z : Int32) (o len : Nat) (args : Array Value) (s : State) : Prop := args = #[.ref a, .ref b, .int (Int32.ofNat o), .int (Int32.ofNat len), .null] ∧ Blank "java/lang/String" a D s ∧ Found "java/lang/String" "value" "[B" fV s ∧ Found "java/lang/String" "coder" "B" fC s ∧ Ch b A s ∧ StaticIs s "java/lang/String" "COMPACT_STRINGS" "Z" (.int z) ∧ ¬ z = 0 ∧ 0 < len ∧ o + len ≤ A.slots.size ∧ len ≤ 536870912 ∧ ∀ i, i < len → ¬ 255 < cv A (o + i)
def E (a : Addr) (D : Cell) (fV fC : Field) (A : Cell) (o len : Nat) (r : Option Value) (s u : State) : Prop := Got a D fV fC A o len r s u
/-- len > 0, no char of the range above 255: a Latin-1 String of their low bytes -/
theorem law (l : Launch) (a : Addr) (D : Cell) (fV fC : Field) (b : Addr) (A : Cell) (z : Int32) (o len : Nat) : Law l yN 5 4 2 35 yB 6 none site (P a D fV fC b A z o len) (E a D fV fC A o len) [⟨a, fC.slot⟩, ⟨a, fV.slot⟩] 1 len := by
  refine Law.of_walk (plainFor_of_name (by decide +kernel)) (by decide +kernel) (by decide +kernel) (by decide) (fun _ _ h => by rw [h.1]; rfl) (fun _ U U' hal hh h => ⟨h.1, h.2.1.mv hal hh, h.2.2.1.al hal, h.2.2.2.1.al hal, h.2.2.2.2.1.mv hal hh, h.2.2.2.2.2.1.there hal hh, h.2.2.2.2.2.2⟩) (fun r U U' V V' h1 hal h2 h => Got.mv r U U' V V' h1 hal h2 h) ?_
  intro p e s m args below meth c s₁ X0 hexec hbytes hml hret hlk hnm hown hh0 W hP
  obtain ⟨rfl, hB, f1, f2, hA, s1, hz, l0, l1, l2, hp⟩ := hP
  have a31 := hA.1.2.2.2
  have c1 : Steps p.tables e below (s₁.setTop (entryFrame m #[.ref a, .ref b, .int (Int32.ofNat o), .int (Int32.ofNat len), .null] 6)) (s₁.setTop (mkF m 0 #[.val (.ref a), .val (.ref b), .val (.int (Int32.ofNat o)), .val (.int (Int32.ofNat len)), .val .null, .unset] [])) := entry rfl
  have c2 : Steps p.tables e below (s₁.setTop (entryFrame m #[.ref a, .ref b, .int (Int32.ofNat o), .int (Int32.ofNat len), .null] 6)) (s₁.setTop (mkF m 1 #[.val (.ref a), .val (.ref b), .val (.int (Int32.ofNat o)), .val (.int (Int32.ofNat len)), .val .null, .unset] [.ref a])) := c1.trans (by
    refine XS.aloadN X0.here hexec rfl (hb hbytes d0) rfl rfl ?_
    exact Steps.refl _)
  obtain ⟨T3, X3, q3, st3⟩ := X0.oinit hexec hown (wks W (objW "java/lang/String" 1)) (g := (mkF m 1 #[.val (.ref a), .val (.ref b), .val (.int (Int32.ofNat o)), .val (.int (Int32.ofNat len)), .val .null, .unset] [.ref a])) rfl (by rw [hml]; rfl) (rest := []) rfl (hb hbytes d1) (W := 0) (by show 2 * 0 + 0 ≤ _; decide) (Nat.le_of_ble_eq_true rfl) (Nat.le_of_ble_eq_true rfl)
  have hh3 := q3.trans hh0
  have c4 : Steps p.tables e below (s₁.setTop (entryFrame m #[.ref a, .ref b, .int (Int32.ofNat o), .int (Int32.ofNat len), .null] 6)) (T3.setTop (mkF m 27 #[.val (.ref a), .val (.ref b), .val (.int (Int32.ofNat o)), .val (.int (Int32.ofNat len)), .val .null, .unset] [])) := (c2.trans (st3 _ (Steps.refl _))).trans (by
    refine XS.iloadN X3.here hexec rfl (hb hbytes d4) rfl ?_
    refine XS.ifYes X3.here hexec rfl (pc0 := 5) rfl (hb hbytes d5) rfl (i0_ne_t (nz32 (by omega) l0)) (by decide) rfl ?_
    exact Steps.refl _)
  obtain ⟨T5, X5, q5, st5⟩ := X3.sget hexec hown (wk W (.fieldLink "java/lang/String" 38 "java/lang/String" "COMPACT_STRINGS" "Z")) s1 (fun _ _ h => by rw [hh3]; exact h) (g := (mkF m 27 #[.val (.ref a), .val (.ref b), .val (.int (Int32.ofNat o)), .val (.int (Int32.ofNat len)), .val .null, .unset] [])) rfl (hb hbytes d27)
  have hh5 := q5.trans hh3
  have c6 : Steps p.tables e below (s₁.setTop (entryFrame m #[.ref a, .ref b, .int (Int32.ofNat o), .int (Int32.ofNat len), .null] 6)) (T5.setTop (mkF m 30 #[.val (.ref a), .val (.ref b), .val (.int (Int32.ofNat o)), .val (.int (Int32.ofNat len)), .val .null, .unset] [.int z])) := c4.trans (st5 _ (Steps.refl _))
  have c7 : Steps p.tables e below (s₁.setTop (entryFrame m #[.ref a, .ref b, .int (Int32.ofNat o), .int (Int32.ofNat len), .null] 6)) (T5.setTop (mkF m 36 #[.val (.ref a), .val (.ref b), .val (.int (Int32.ofNat o)), .val (.int (Int32.ofNat len)), .val .null, .unset] [.int (Int32.ofNat len), .int (Int32.ofNat o), .ref b])) := c6.trans (by
    refine XS.ifNo X5.here hexec rfl (hb hbytes d30) rfl (i0_eq_f hz) ?_
    refine XS.aloadN X5.here hexec rfl (hb hbytes d33) rfl rfl ?_
    refine XS.iloadN X5.here hexec rfl (hb hbytes d34) rfl ?_
    refine XS.iloadN X5.here hexec rfl (hb hbytes d35) rfl ?_
    exact Steps.refl _)
  obtain ⟨v8, T8, X8, E8, g8⟩ := X5.callS hexec (Cmp3.law l b A o len) hown (wks W (staticW "java/lang/String" 177 Cmp3.yN)) (wk W Cmp3.tab) (W := 0) (Nat.le_of_ble_eq_true rfl) (Nat.le_of_ble_eq_true rfl) (Nat.le_refl _) (by show 0 + len ≤ len; omega) (g := (mkF m 36 #[.val (.ref a), .val (.ref b), .val (.int (Int32.ofNat o)), .val (.int (Int32.ofNat len)), .val .null, .unset] [.int (Int32.ofNat len), .int (Int32.ofNat o), .ref b])) rfl (by rw [hml]; rfl) c7 (argsL := [.ref b, .int (Int32.ofNat o), .int (Int32.ofNat len)]) (rest := []) rfl rfl (by show 2 * 0 + 0 ≤ _; decide) (hb hbytes d36) (⟨rfl, hA.mv X5.warmed.alike hh5, l1, l2, hp⟩)
  obtain ⟨e8, z8⟩ := E8
  obtain ⟨rfl, N, n1, n2, n3, n4, n5, n6⟩ := NewArr.mv _ T5 s _ _ hh5.symm (Vm.Alike.refl _) rfl e8
  rw [hh5] at z8
  have hB1 := hB.keep X8.warmed.alike (n6 _ _ hB.1)
  have hne : s.heap.size ≠ a := (Nat.ne_of_lt (Array.getElem?_eq_some_iff.mp hB.1).1).symm
  have c9 : Steps p.tables e below (s₁.setTop (entryFrame m #[.ref a, .ref b, .int (Int32.ofNat o), .int (Int32.ofNat len), .null] 6)) (T8.setTop (mkF m 39 #[.val (.ref a), .val (.ref b), .val (.int (Int32.ofNat o)), .val (.int (Int32.ofNat len)), .val .null, .unset] [.ref s.heap.size])) := g8
  have c10 : Steps p.tables e below (s₁.setTop (entryFrame m #[.ref a, .ref b, .int (Int32.ofNat o), .int (Int32.ofNat len), .null] 6)) (T8.setTop (mkF m 45 #[.val (.ref a), .val (.ref b), .val (.int (Int32.ofNat o)), .val (.int (Int32.ofNat len)), .val .null, .val (.ref s.heap.size)] [.int (Int32.ofNat N.slots.size), .ref s.heap.size, .ref a])) := by
    have hc : Steps p.tables e below (s₁.setTop (entryFrame m #[.ref a, .ref b, .int (Int32.ofNat o), .int (Int32.ofNat len), .null] 6)) (T8.setTop (mkF m 45 #[.val (.ref a), .val (.ref b), .val (.int (Int32.ofNat o)), .val (.int (Int32.ofNat len)), .val .null, .val (.ref s.heap.size)] [.int (Int32.ofNat len), .ref s.heap.size, .ref a])) := c9.trans (by
      refine XS.astore X8.here hexec rfl (hb hbytes d39) rfl rfl rfl ?_
      refine XS.aloadN X8.here hexec rfl (hb hbytes d41) rfl rfl ?_
      refine XS.aload X8.here hexec rfl (hb hbytes d42) rfl rfl ?_
      refine XS.iloadN X8.here hexec rfl (hb hbytes d44) rfl ?_
      exact Steps.refl _)
    rw [n4]; exact hc
  obtain ⟨v11, T11, X11, E11, g11⟩ := X8.callS hexec (CodL.law l s.heap.size N) hown (wks W (staticW "java/lang/String" 47 CodL.yN)) (wk W CodL.tab) (W := 1) (Nat.le_of_ble_eq_true rfl) (Nat.le_of_ble_eq_true rfl) (Nat.le_refl _) (by show 0 + len + 0 ≤ len; omega) (g := (mkF m 45 #[.val (.ref a), .val (.ref b), .val (.int (Int32.ofNat o)), .val (.int (Int32.ofNat len)), .val .null, .val (.ref s.heap.size)] [.int (Int32.ofNat N.slots.size), .ref s.heap.size, .ref a])) rfl (by rw [hml]; rfl) c10 (argsL := [.ref s.heap.size, .int (Int32.ofNat N.slots.size)]) (rest := [.ref a]) rfl rfl (by show 2 * 0 + (1 + 0) ≤ _; decide) (hb hbytes d45) (⟨rfl, n1⟩)
  obtain ⟨rfl, q11⟩ := E11
  have hB11 := hB1.mv (X8.warmed.alike.symm.trans X11.warmed.alike) q11
  have c12 : Steps p.tables e below (s₁.setTop (entryFrame m #[.ref a, .ref b, .int (Int32.ofNat o), .int (Int32.ofNat len), .null] 6)) (T11.setTop (mkF m 48 #[.val (.ref a), .val (.ref b), .val (.int (Int32.ofNat o)), .val (.int (Int32.ofNat len)), .val .null, .val (.ref s.heap.size)] [.int 0, .ref a])) := g11
  obtain ⟨T13, X13, p13, bl13, sl13, st13⟩ := X11.finit hexec hown (wk W (.fieldLink "java/lang/String" 15 "java/lang/String" "coder" "B")) (Or.inr ⟨_, (wk W (.laysFinal "java/lang/String" "java/lang/String" "coder" "B"))⟩) (Or.inl ⟨rfl, hnm⟩) f2 (Or.inl rfl) hB11 (t := .byte) (by decide +kernel) rfl (g := (mkF m 48 #[.val (.ref a), .val (.ref b), .val (.int (Int32.ofNat o)), .val (.int (Int32.ofNat len)), .val .null, .val (.ref s.heap.size)] [.int 0, .ref a])) rfl (rest := []) rfl (hb hbytes d48)
  have c14 : Steps p.tables e below (s₁.setTop (entryFrame m #[.ref a, .ref b, .int (Int32.ofNat o), .int (Int32.ofNat len), .null] 6)) (T13.setTop (mkF m 54 #[.val (.ref a), .val (.ref b), .val (.int (Int32.ofNat o)), .val (.int (Int32.ofNat len)), .val .null, .val (.ref s.heap.size)] [.ref s.heap.size, .ref a])) := (c12.trans (st13 _ (Steps.refl _))).trans (by
    refine XS.aloadN X13.here hexec rfl (hb hbytes d51) rfl rfl ?_
    refine XS.aload X13.here hexec rfl (hb hbytes d52) rfl rfl ?_
    exact Steps.refl _)
  obtain ⟨T15, X15, p15, bl15, sl15, st15⟩ := X13.finit hexec hown (wk W (.fieldLink "java/lang/String" 9 "java/lang/String" "value" "[B")) (Or.inr ⟨_, (wk W (.laysFinal "java/lang/String" "java/lang/String" "value" "[B"))⟩) (Or.inl ⟨rfl, hnm⟩) f1 (Or.inl rfl) bl13 (t := (.array .byte)) (by decide +kernel) rfl (g := (mkF m 54 #[.val (.ref a), .val (.ref b), .val (.int (Int32.ofNat o)), .val (.int (Int32.ofNat len)), .val .null, .val (.ref s.heap.size)] [.ref s.heap.size, .ref a])) rfl (rest := []) rfl (hb hbytes d54)
  have c16 : Steps p.tables e below (s₁.setTop (entryFrame m #[.ref a, .ref b, .int (Int32.ofNat o), .int (Int32.ofNat len), .null] 6)) (T15.setTop (mkF m 57 #[.val (.ref a), .val (.ref b), .val (.int (Int32.ofNat o)), .val (.int (Int32.ofNat len)), .val .null, .val (.ref s.heap.size)] [])) := c14.trans (st15 _ (Steps.refl _))
  have ap := apart (Or.inr ⟨_, (wk W (.laysFinal "java/lang/String" "java/lang/String" "value" "[B"))⟩) (Or.inr ⟨_, (wk W (.laysFinal "java/lang/String" "java/lang/String" "coder" "B"))⟩) f1 f2 (t₁ := .array .byte) (t₂ := .byte) (by decide +kernel) (by decide +kernel) (by decide)
  have al := X8.warmed.alike.symm.trans X15.warmed.alike
  have n7 : T11.heap[s.heap.size]? = some N := by rw [q11]; exact n1.1
  exact ⟨T15, none, _, _, _, X15, by simp, rfl, by omega, (fun _ => rfl), ⟨rfl, _, N, bl15, ((Same.refl D _).set _ (by simp)).set _ (by simp), sl15, (Cell.slots_setSlot_ne _ ap).trans sl13, n1.keep al (p15.other hne (p13.other hne n7)), n2, by rw [al.findClass]; exact n3, n4, n5, fun y c h1 h2 => p15.other h1 (p13.other h1 (by rw [q11]; exact n6 y c h2)), by rw [p15.2.2, p13.2.2, q11]; exact z8⟩, fun fs hl => c16.trans (X15.returnOut hexec hret (hb hbytes d57) hl)⟩
end New4
namespace New1
def yN : MethodName := ⟨"java/lang/String", "<init>", "([C)V"⟩
abbrev yB : ByteArray := jdk_42_method_3_code
theorem d0 : decode yB 0 = .ok (.aload_n 0, 1) := by decide +kernel
theorem d1 : decode yB 1 = .ok (.aload_n 1, 1) := by decide +kernel
theorem d2 : decode yB 2 = .ok (.iconst 0, 1) := by decide +kernel
theorem d3 : decode yB 3 = .ok (.aload_n 1, 1) := by decide +kernel
theorem d4 : decode yB 4 = .ok (.arraylength, 1) := by decide +kernel
theorem d5 : decode yB 5 = .ok (.aconst_null, 1) := by decide +kernel
theorem d6 : decode yB 6 = .ok (.invokespecial 27, 3) := by decide +kernel
theorem d9 : decode yB 9 = .ok (.return_, 1) := by decide +kernel
def site : List Cond := [New4.tab] ++ initW "java/lang/String" 27 New4.yN
def tab : Cond := tabOf yN yB 2 none site
def P (a : Addr) (D : Cell) (fV fC : Field) (b : Addr) (A : Cell) (z : Int32) (args : Array Value) (s : State) : Prop := args = #[.ref a, .ref b] ∧ Blank "java/lang/String" a D s ∧ Found "java/lang/String" "value" "[B" fV s ∧ Found "java/lang/String" "coder" "B" fC s ∧ Ch b A s ∧ StaticIs s "java/lang/String" "COMPACT_STRINGS" "Z" (.int z) ∧ ¬ z = 0 ∧ 0 < A.slots.size ∧ A.slots.size ≤ 536870912 ∧ ∀ i, i < A.slots.size → ¬ 255 < cv A i
def E (a : Addr) (D : Cell) (fV fC : Field) (A : Cell) (r : Option Value) (s u : State) : Prop := Got a D fV fC A 0 A.slots.size r s u
/-- new String(chars), not empty, no char above 255: a Latin-1 String of their low bytes -/
theorem law (l : Launch) (a : Addr) (D : Cell) (fV fC : Field) (b : Addr) (A : Cell) (z : Int32) : Law l yN 2 1 3 52 yB 2 none site (P a D fV fC b A z) (E a D fV fC A) [⟨a, fC.slot⟩, ⟨a, fV.slot⟩] 1 A.slots.size := by
  refine Law.of_walk (plainFor_of_name (by decide +kernel)) (by decide +kernel) (by decide +kernel) (by decide) (fun _ _ h => by rw [h.1]; rfl) (fun _ U U' hal hh h => ⟨h.1, h.2.1.mv hal hh, h.2.2.1.al hal, h.2.2.2.1.al hal, h.2.2.2.2.1.mv hal hh, h.2.2.2.2.2.1.there hal hh, h.2.2.2.2.2.2⟩) (fun r U U' V V' h1 hal h2 h => Got.mv r U U' V V' h1 hal h2 h) ?_
  intro p e s m args below meth c s₁ X0 hexec hbytes hml hret hlk hnm hown hh0 W hP
  obtain ⟨rfl, hB, f1, f2, hA, s1, hz, l0, l2, hp⟩ := hP
  have c1 : Steps p.tables e below (s₁.setTop (entryFrame m #[.ref a, .ref b] 2)) (s₁.setTop (mkF m 0 #[.val (.ref a), .val (.ref b)] [])) := entry rfl
  have c2 : Steps p.tables e below (s₁.setTop (entryFrame m #[.ref a, .ref b] 2)) (s₁.setTop (mkF m 6 #[.val (.ref a), .val (.ref b)] [.null, .int (Int32.ofNat A.slots.size), .int 0, .ref b, .ref a])) := c1.trans (by
    refine XS.aloadN X0.here hexec rfl (hb hbytes d0) rfl rfl ?_
    refine XS.aloadN X0.here hexec rfl (hb hbytes d1) rfl rfl ?_
    refine iconstV X0.here hexec rfl 0 (hb hbytes d2) (by decide) ?_
    refine XS.aloadN X0.here hexec rfl (hb hbytes d3) rfl rfl ?_
    refine X0.alen hexec (hA.1.mv X0.warmed.alike hh0) rfl rfl (hb hbytes d4) ?_
    refine XS.aconstNull X0.here hexec rfl (hb hbytes d5) ?_
    exact Steps.refl _)
  obtain ⟨v3, T3, X3, E3, g3⟩ := X0.callN hexec (New4.law l a D fV fC b A z 0 A.slots.size) rfl hown (wks W (initW "java/lang/String" 27 New4.yN)) (W New4.tab (by simp only [site, List.mem_cons, List.mem_append, true_or, or_true])) (W := 0) (Nat.le_of_ble_eq_true rfl) (Nat.le_of_ble_eq_true rfl) (Nat.le_refl _) (by show 0 + A.slots.size ≤ A.slots.size; omega) (g := (mkF m 6 #[.val (.ref a), .val (.ref b)] [.null, .int (Int32.ofNat A.slots.size), .int (Int32.ofNat 0), .ref b, .ref a])) rfl (by rw [hml]; rfl) c2 (argsL := [.ref b, .int (Int32.ofNat 0), .int (Int32.ofNat A.slots.size), .null]) (rest := []) rfl rfl (by show 2 * 0 + 0 ≤ _; decide) (hb hbytes d6) (⟨rfl, hB.mv X0.warmed.alike hh0, f1.al X0.warmed.alike, f2.al X0.warmed.alike, hA.mv X0.warmed.alike hh0, s1.there X0.warmed.alike hh0, hz, l0, by omega, l2, fun i hi => by rw [Nat.zero_add]; exact hp i hi⟩)
  have e0 := Got.mv _ s₁ s _ _ hh0.symm (Vm.Alike.refl _) rfl E3
  obtain rfl := e0.1
  have c4 : Steps p.tables e below (s₁.setTop (entryFrame m #[.ref a, .ref b] 2)) (T3.setTop (mkF m 9 #[.val (.ref a), .val (.ref b)] [])) := g3
  exact ⟨T3, none, _, _, _, X3, by simp, rfl, by omega, (fun _ => rfl), e0, fun fs hl => c4.trans (X3.returnOut hexec hret (hb hbytes d9) hl)⟩
theorem pays {l : Launch} {R : Room} {p : Program} {e : Env} {below : List Frame} {s : State} {sargs : Array Value} {len W : Nat} (a : Addr) (D : Cell) (fV fC : Field) (b : Addr) (A : Cell) (z : Int32) (htab : tab.before sargs s = true) (hfr : 4 ≤ R.frames) (hlo : W + 65 ≤ R.locals) :
    Back l R p e below s sargs yN len W (fun A₁ a₁ => A₁.cells + 1 ≤ R.cells ∧ A₁.slots + A.slots.size ≤ R.slots ∧ P a D fV fC b A z a₁ A₁.U) (fun A₁ _ v₁ B₁ => E a D fV fC A v₁ A₁.U B₁.U ∧ B₁.locs = A₁.locs ++ [⟨a, fC.slot⟩, ⟨a, fV.slot⟩] ∧ B₁.cells = A₁.cells + 1 ∧ B₁.slots = A₁.slots + A.slots.size) :=
  (law l a D fV fC b A z).pays htab hfr (by omega)
end New1
end StrChars
namespace StrChars.Road
open Jvm Sem ClassFile Op Lib Jvm.Stand Jvm.Free Jvm.Free.XT
open Jvm.Lib.Cold (StaticIs)
abbrev ST : String := "java/lang/String"
/-- every table word that New1's law asks, flat -/
abbrev words : List Jvm.Cond := [.code New1.yN New1.yB 2 none, .initialized ST, .methodLink ST 27 New4.yN, .instanceMethod New4.yN,
  .code New4.yN New4.yB 6 none, .fieldLink ST 38 ST "COMPACT_STRINGS" "Z", .laysFinal ST ST "value" "[B", .fieldLink ST 9 ST "value" "[B", .laysFinal ST ST "coder" "B", .fieldLink ST 15 ST "coder" "B",
  .methodLink ST 1 Lib.objectInit, .instanceMethod Lib.objectInit, .code Lib.objectInit ⟨#[0xb1]⟩ 1 none, .methodLink ST 177 Cmp3.yN, .static Cmp3.yN, .methodLink ST 47 CodL.yN, .static CodL.yN,
  .code Cmp3.yN Cmp3.yB 6 (some (.array .byte)), .initialized U16, .arrayClass .byte, .methodLink U16 115 Cmp5.yN, .static Cmp5.yN, .code Cmp5.yN Cmp5.yB 7 (some .int), .code CodL.yN CodL.yB 2 (some .byte)]
theorem tab_of {a : Array Value} {s : State} (h : ∀ w ∈ words, w.before a s = true) : New1.tab.before a s = true := by
  have h5 : Cmp5.tab.before a s = true := unparts (wk h (.code Cmp5.yN Cmp5.yB 7 (some .int))) (wks h (.initialized Cmp5.yN.cls :: Cmp5.site))
  have hc : CodL.tab.before a s = true := unparts (wk h (.code CodL.yN CodL.yB 2 (some .byte))) (wks h (.initialized CodL.yN.cls :: CodL.site))
  have q5 : ∀ w ∈ Cmp5.tab :: words, w.before a s = true := fun w hw => (List.mem_cons.mp hw).elim (fun e => e ▸ h5) (h w)
  have h3 : Cmp3.tab.before a s = true := unparts (wk q5 (.code Cmp3.yN Cmp3.yB 6 (some (.array .byte)))) (wks q5 (.initialized Cmp3.yN.cls :: Cmp3.site))
  have q3 : ∀ w ∈ Cmp3.tab :: CodL.tab :: words, w.before a s = true := fun w hw => (List.mem_cons.mp hw).elim (fun e => e ▸ h3) fun hw => (List.mem_cons.mp hw).elim (fun e => e ▸ hc) (h w)
  have h4 : New4.tab.before a s = true := unparts (wk q3 (.code New4.yN New4.yB 6 none)) (wks q3 (.initialized New4.yN.cls :: New4.site))
  have q4 : ∀ w ∈ New4.tab :: words, w.before a s = true := fun w hw => (List.mem_cons.mp hw).elim (fun e => e ▸ h4) (h w)
  exact unparts (wk q4 (.code New1.yN New1.yB 2 none)) (wks q4 (.initialized New1.yN.cls :: New1.site))
/-- the words ride from the start Z to the walk's own state -/
theorem moved {Z s : State} {a0 args : Array Value} (hZ : Z.Warmed39 s.vm) (hw : ∀ d ∈ words, d.before a0 Z = true) : ∀ d ∈ words, d.before args s = true := fun d hd => by
  have q := hw d hd
  have t : ∀ d ∈ words, d = .arrayClass .byte ∨ (d.onTables && d.keepsFace) = true := by decide +kernel
  rcases t d hd with rfl | t
  · exact RoadKit.mvA hZ q
  · exact RoadKit.mv hZ q t
/-- WHAT COMES BACK, over the tables of the start Z: h the heap at the call, h' behind it -/
def Q (Z : State) (x : Addr) (A : Cell) (h : Heap) (v : Option Value) (h' : Heap) (L : List Loc) : Prop := v = none ∧ (∀ y ∈ L, y.base = x) ∧ RoadKit.Keep h h' [x] ∧ h'.size = h.size + 1 ∧ RoadKit.Exa Z h' x ST ∧ RoadKit.Fld Z h' x ST "value" "[B" (.ref h.size) ∧ RoadKit.Fld Z h' x ST "coder" "B" (.int 0) ∧
  (∃ V : Cell, RoadKit.Arr Z h' h.size V .byte ∧ V.vm = .none ∧ Z.vm.findClass "[B" = some V.cls ∧ V.slots.size = A.slots.size ∧ ∀ j, j < A.slots.size → V.slots[j]? = some (.int (lo8 (cv A j)))) ∧
  ∀ (O n d : String) (w : Value), RoadKit.Fld Z h x O n d w → RoadKit.slotOf Z O n d ≠ RoadKit.slotOf Z ST "value" "[B" → RoadKit.slotOf Z O n d ≠ RoadKit.slotOf Z ST "coder" "B" → RoadKit.Fld Z h' x O n d w
/-- **new String(chars) AT A CALL, IN THE ROAD'S FORM**: for specialBack behind newO: x the fresh String, b the char[] with the cell A -/
theorem back {p : Program} {l : Launch} {e : Env} {R : Room} {s : State} {args : Array Value} {below : List Frame} {len W : Nat} {Z : State} {a0 : Array Value} {h : Heap} (hZ : Z.Warmed39 s.vm) (hw : ∀ d ∈ words, d.before a0 Z = true) {kI : Nat} (wi : (Jvm.Cond.instantiable ST kI).before a0 Z = true)
    {x b : Addr} {A : Cell} {z : Int32} {v0 c0 : Value} (E : RoadKit.Exa Z h x ST) (V : RoadKit.Fld Z h x ST "value" "[B" v0) (C : RoadKit.Fld Z h x ST "coder" "B" c0) (K : RoadKit.Arr Z h b A .char) (hty : Typed .char A) (S : RoadKit.Sta Z h ST "COMPACT_STRINGS" "Z" (.int z)) (hz : ¬ z = 0)
    (l0 : 0 < A.slots.size) (l2 : A.slots.size ≤ 536870912) (hp : ∀ i, i < A.slots.size → ¬ 255 < cv A i) (hfr : 4 ≤ R.frames) (hlo : W + 65 ≤ R.locals) :
    Back l R p e below s args New1.yN len W (fun P a => a = #[.ref x, .ref b] ∧ P.U.heap = h ∧ P.cells + 1 ≤ R.cells ∧ P.slots + A.slots.size ≤ R.slots)
      (fun P _ v B => ∃ L, Q Z x A h v B.U.heap L ∧ B.locs = P.locs ++ L ∧ B.cells = P.cells + 1 ∧ B.slots = P.slots + A.slots.size) := by
  intro m meth c P g ig mk a X hg hsize hdg hW hn hp'
  obtain ⟨rfl, rfl, r1, r2⟩ := hp'
  have al : Z.vm.Alike P.U.vm := hZ.alike.trans X.warmed.alike
  obtain ⟨D, cfV, kV, iV, fV, hD, gV, stV, knV, obV, asV, slV⟩ := id V
  obtain ⟨D', cfC, kC, iC, fC, hD', gC, stC, -, -, asC, slC⟩ := id C
  cases hD.symm.trans hD'
  obtain ⟨D2, kD, e1, e2, e3, e4, e5⟩ := id E
  cases hD.symm.trans e1
  obtain ⟨c2, k2, i1, i2, i3, -⟩ := Cond.instantiable_spec wi
  cases e2.symm.trans i1
  cases e3.symm.trans i2
  obtain ⟨kU, u1, u2⟩ := al.2.2 _ _ e3
  have hB : Blank ST x D P.U := ⟨hD, ⟨knV, fun q hq => by rw [hq] at obV; cases obV⟩, by rw [al.findClass]; exact e2, kU, u1, by rw [u2]; exact i3, by rw [u2]; exact e5 i3⟩
  have F1 : Found ST "value" "[B" fV P.U := ⟨SBG.found_only al ⟨cfV, kV, iV, gV⟩, stV⟩
  have F2 : Found ST "coder" "B" fC P.U := ⟨SBG.found_only al ⟨cfC, kC, iC, gC⟩, stC⟩
  have hA : Ch b A P.U := ⟨⟨K.1, State.isArrayOf_alike al K.2.1, K.2.2, by omega⟩, hty⟩
  have hS : StaticIs P.U ST "COMPACT_STRINGS" "Z" (.int z) := by
    obtain ⟨cfS, iS, kS, fS, st, cS, t1, t2, t3, t4, t5, t6, t7⟩ := S
    exact StaticIs.there (s := { Z with heap := P.U.heap }) ⟨cfS, iS, kS, fS, st, cS, t1, t2, t3, t4, t5, (fun q => by rw [q] at t6; cases t6), t7⟩ al rfl
  obtain ⟨v, B, X', ⟨⟨hv, E', V', q1, q2, q3, q4, q5, q6, q7, q8, q9, q10, q11⟩, hl, hc, hs⟩, st⟩ := New1.pays x D fV fC b A z (tab_of (moved hZ hw)) hfr hlo m meth c P g ig mk _ X hg hsize hdg hW hn ⟨r1, r2, rfl, hB, F1, F2, hA, hS, hz, l0, l2, hp⟩
  have al' : Z.vm.Alike B.U.vm := hZ.alike.trans X'.warmed.alike
  have hsz : E'.slots.size = D.slots.size := by
    obtain ⟨-, -, -, kB, w1, w2, w3⟩ := q1
    obtain ⟨kB', y1, y2⟩ := al'.2.2 _ _ e3
    rw [q2.2.1] at w1
    cases w1.symm.trans y1
    rw [w3, e5 i3, y2]
  refine ⟨v, B, X', ⟨_, ⟨hv, ?_, ⟨by omega, fun y cy hy hn' => q10 y cy (by simpa using hn') hy, fun y cy hy => ?_⟩, q11, ⟨E', _, q1.1, by rw [q2.2.1]; exact e2, by rw [q2.2.1]; exact e3, by rw [q2.1]; exact obV, fun _ => by rw [hsz]; exact e5 i3⟩,
    ⟨E', cfV, kV, iV, fV, q1.1, gV, stV, by rw [q2.1]; exact knV, by rw [q2.1]; exact obV, by rw [q2.2.1]; exact asV, q3⟩, ⟨E', cfC, kC, iC, fC, q1.1, gC, stC, by rw [q2.1]; exact knV, by rw [q2.1]; exact obV, by rw [q2.2.1]; exact asC, q4⟩,
    ⟨V', ⟨q5.1, State.isArrayOf_alike al'.symm q5.2.1, q5.2.2.1⟩, q6, by rw [← al'.findClass]; exact q7, q8, fun j hj => by have := q9 j hj; rwa [Nat.zero_add] at this⟩, fun O n d w F n1 n2 => ?_⟩, hl, hc, hs⟩, st⟩
  · intro y hy
    simp only [List.mem_cons, List.not_mem_nil, or_false] at hy
    rcases hy with rfl | rfl <;> rfl
  · by_cases q : y = x
    · subst q
      cases hD.symm.trans hy
      exact ⟨E', q1.1, q2.2.1, q2.1, hsz⟩
    · exact ⟨cy, q10 y cy q hy, rfl, rfl, rfl⟩
  · obtain ⟨D3, cf, k, i, f, g1, g2, g3, g4, g5, g6, g7⟩ := F
    cases hD.symm.trans g1
    simp only [RoadKit.slotOf, g2, gV, gC, Option.map_some, Option.getD_some] at n1 n2
    exact ⟨E', cf, k, i, f, q1.1, g2, g3, by rw [q2.1]; exact g4, by rw [q2.1]; exact g5, by rw [q2.2.1]; exact g6, by rw [q2.2.2 f.slot (by simp [n1, n2])]; exact g7⟩
end StrChars.Road
namespace StrChars.Road
open Jvm Sem ClassFile Op Lib Jvm.Stand Jvm.Free Jvm.Free.XT
/-- WHAT COMES BACK, the byte[] as a list of values -/
def QA (Z : State) (x : Addr) (zn : Int32) (cs : List Int32) (h : Heap) (v : Option Value) (h' : Heap) (L : List Loc) : Prop := v = none ∧ (∀ y ∈ L, y.base = x) ∧ RoadKit.Keep h h' [x] ∧ h'.size = h.size + 1 ∧ RoadKit.Exa Z h' x ST ∧ RoadKit.Fld Z h' x ST "value" "[B" (.ref h.size) ∧ RoadKit.Fld Z h' x ST "coder" "B" (.int 0) ∧
  (∃ kb, Z.vm.findClass "[B" = some kb ∧ RoadKit.Arv Z h' h.size kb .byte zn (cs.map fun c => .int (lo8 c)) (.int 0)) ∧
  ∀ (O n d : String) (w : Value), RoadKit.Fld Z h x O n d w → RoadKit.slotOf Z O n d ≠ RoadKit.slotOf Z ST "value" "[B" → RoadKit.slotOf Z O n d ≠ RoadKit.slotOf Z ST "coder" "B" → RoadKit.Fld Z h' x O n d w
/-- **new String(chars) AT A CALL, THE ARRAYS AS LISTS**: the char[] at b holds cs, not empty, no char above 255 -/
theorem backArv {p : Program} {l : Launch} {e : Env} {R : Room} {s : State} {args : Array Value} {below : List Frame} {len W : Nat} {Z : State} {a0 : Array Value} {h : Heap} (hZ : Z.Warmed39 s.vm) (hw : ∀ d ∈ words, d.before a0 Z = true) {kI : Nat} (wi : (Jvm.Cond.instantiable ST kI).before a0 Z = true)
    {x b : Addr} {k : ClassId} {zn z : Int32} {cs : List Int32} {dv v0 c0 : Value} (E : RoadKit.Exa Z h x ST) (V : RoadKit.Fld Z h x ST "value" "[B" v0) (C : RoadKit.Fld Z h x ST "coder" "B" c0) (K : RoadKit.Arv Z h b k .char zn (cs.map Value.int) dv) (S : RoadKit.Sta Z h ST "COMPACT_STRINGS" "Z" (.int z)) (hz : ¬ z = 0)
    (hlen : zn.toNatClampNeg = cs.length) (h0 : 0 < cs.length) (hbig : cs.length ≤ 536870912) (hall : ∀ c ∈ cs, ¬ 255 < c) (hfr : 4 ≤ R.frames) (hlo : W + 65 ≤ R.locals) :
    Back l R p e below s args New1.yN len W (fun P a => a = #[.ref x, .ref b] ∧ P.U.heap = h ∧ P.cells + 1 ≤ R.cells ∧ P.slots + cs.length ≤ R.slots)
      (fun P _ v B => ∃ L, QA Z x zn cs h v B.U.heap L ∧ B.locs = P.locs ++ L ∧ B.cells = P.cells + 1 ∧ B.slots = P.slots + cs.length) := by
  obtain ⟨A, K1, K2, K3, K4, K5, K6⟩ := K
  have e : A.slots.size = cs.length := K3.trans hlen
  have hat : ∀ (i : Nat) (hi : i < cs.length), A.slots[i]? = some (.int cs[i]) := fun i hi => by rw [K5 i (by omega)]; simp [List.getD_eq_getElem?_getD, hi]
  have hcv : ∀ (i : Nat) (hi : i < cs.length), cv A i = cs[i] := fun i hi => by unfold cv; rw [hat i hi]
  have hty : Typed .char A := fun i v hv => by
    have hi : i < A.slots.size := (Array.getElem?_eq_some_iff.mp hv).1
    have q := K5 i hi
    rw [hv] at q
    rw [Option.some.inj q]
    exact K6 i hi
  refine Back.mono (back hZ hw wi E V C K1 hty S hz (by omega) (by omega) (fun i hi => by rw [hcv i (by omega)]; exact hall _ (List.getElem_mem _)) hfr hlo) (fun P a hp => ⟨hp.1, hp.2.1, hp.2.2.1, by rw [e]; exact hp.2.2.2⟩) (fun P a v B hp hq => ?_)
  obtain ⟨L, ⟨q1, q2, q3, q4, q5, q6, q7, ⟨V', v1, v2, v3, v4, v5⟩, q9⟩, hl, hc, hs⟩ := hq
  refine ⟨L, ⟨q1, q2, q3, q4, q5, q6, q7, ⟨V'.cls, v3, V', v1, rfl, by rw [v4, e, hlen], K4, fun i hi => ?_, fun i hi => ?_⟩, q9⟩, hl, hc, by rw [hs, e]⟩
  · have hi' : i < cs.length := by omega
    rw [v5 i (by omega), hcv i hi']; simp [List.getD_eq_getElem?_getD, hi']
  · have hi' : i < cs.length := by omega
    simp only [List.getD_eq_getElem?_getD, List.getElem?_map, List.getElem?_eq_getElem hi', Option.map_some, Option.getD_some]
    exact fits_lo8 _
end StrChars.Road
namespace StrChars.Road
open Jvm Sem ClassFile Op Lib Jvm.Stand Jvm.Free Jvm.Free.XT
/-- WHAT COMES BACK, in the writer's own shape -/
def QV (Z : State) (x : Addr) (N : Int32) (bs : List Int32) (h : Heap) (n0 : Nat) (v : Option Value) (h' : Heap) (L : List Loc) : Prop := v = none ∧ RoadKit.Fr n0 L ∧ RoadKit.Keep h h' [x] ∧ RoadKit.Exa Z h' x ST ∧ RoadKit.Fld Z h' x ST "coder" "B" (.int 0) ∧
  ∃ (t : Addr) (kb : ClassId), n0 ≤ t ∧ h.size ≤ t ∧ ¬ t = x ∧ RoadKit.Fld Z h' x ST "value" "[B" (.ref t) ∧ RoadKit.Arv Z h' t kb .byte N (bs.map Value.int) (.int 0)
/-- **new String(chars) AT A CALL, FOR THE WRITER**: a char[] of n known ints, each 0 to 255 -/
theorem backV {p : Program} {l : Launch} {e : Env} {R : Room} {s : State} {args : Array Value} {below : List Frame} {len W : Nat} {Z : State} {a0 : Array Value} {h : Heap} (hZ : Z.Warmed39 s.vm) (hw : ∀ d ∈ words, d.before a0 Z = true) {kI : Nat} (wi : (Jvm.Cond.instantiable ST kI).before a0 Z = true)
    {x b : Addr} {kC : ClassId} {cs bs : List Int32} {d v0 c0 : Value} {z N : Int32} {n n0 : Nat} (hx0 : n0 ≤ x) (hh0 : n0 ≤ h.size) (E : RoadKit.Exa Z h x ST) (V : RoadKit.Fld Z h x ST "value" "[B" v0) (C : RoadKit.Fld Z h x ST "coder" "B" c0) (K : RoadKit.Arv Z h b kC .char N (cs.map Value.int) d) (S : RoadKit.Sta Z h ST "COMPACT_STRINGS" "Z" (.int z)) (hz : ¬ z = 0)
    (hn : cs.length = n) (hN : N = Int32.ofNat n) (l0 : 0 < n) (l2 : n ≤ 4000) (hp : ∀ c ∈ cs, ¬ c < 0 ∧ ¬ (255 : Int32) < c) (hb : bs = cs.map (fun c => c.toInt8.toInt32)) (hfr : 4 ≤ R.frames) (hlo : W + 65 ≤ R.locals) :
    Back l R p e below s args (⟨"java/lang/String", "<init>", "([C)V"⟩ : MethodName) len W (fun P a => a = #[.ref x, .ref b] ∧ P.U.heap = h ∧ P.cells + 1 ≤ R.cells ∧ P.slots + n ≤ R.slots)
      (fun P _ v B => ∃ L, QV Z x N bs h n0 v B.U.heap L ∧ B.locs = P.locs ++ L ∧ B.cells = P.cells + 1 ∧ B.slots = P.slots + n) := by
  subst hn hN hb
  refine Back.mono (backArv hZ hw wi E V C K S hz (n32 (by omega)) l0 (by omega) (fun c hc => (hp c hc).2) hfr hlo) (fun P a hp => hp) (fun P a v B hp hq => ?_)
  obtain ⟨L, ⟨q1, q2, q3, q4, q5, q6, q7, ⟨kb, v1, v2⟩, q9⟩, hl, hc, hs⟩ := hq
  exact ⟨L, ⟨q1, fun y hy => by rw [q2 y hy]; exact hx0, q3, q5, q7, h.size, kb, hh0, Nat.le_refl _, Nat.ne_of_gt E.lt, q6, by rw [List.map_map]; exact v2⟩, hl, hc, hs⟩
end StrChars.Road
end Jvm.Pilot.@@N@@
namespace Jvm.Pilot.@@N@@
open Jvm Jvm.ClassFile Sem Op Lib Jvm.Free Jvm.Stand Jvm.LawKit Jvm.RoadKit Bundle Jvm.Pilot.@@N@@.Jvm.D
section OwnKit
variable {p : Program} {l : Launch} {e : Env} {R : Room} {s : State} {m : MethodId} {args : Array Value} {below : List Frame} {meth : Method} {c : Code} {T T' : State} {locs : List Loc} {cells slots : Nat} {Z : State} {a0 : Array Value} {h : Heap}
/-- from here the run comes to an end of which E speaks -/
def own_Go (p : Program) (e : Env) (below : List Frame) (E : State → Outcome → Prop) (T : State) (g : JFrame) : Prop :=
  ∃ t o, Steps p.tables e below (T.setTop g) t ∧ t.status = .running ∧ Ended t below o ∧ E t o
def own_End (s : State) (k n : Nat) (Q : Option Value → Heap → List Loc → Prop) (t : State) (o : Outcome) : Prop :=
  ∃ v L, o = .returned v ∧ Q v t.heap L ∧ FrameEnd s o t L k n
theorem own_by {E : State → Outcome → Prop} {g g' : JFrame} (st : ∀ target, Steps p.tables e below (T'.setTop g') target → Steps p.tables e below (T.setTop g) target) (k : own_Go p e below E T' g') : own_Go p e below E T g := by
  obtain ⟨t, o, h1, r⟩ := k
  exact ⟨t, o, st t h1, r⟩
theorem own_retW (X : Stand p l e R s m args below meth c T locs cells slots) (hx : p.tables.exec = Jvm.exec) (hlk : meth.locks = false) {pc : Nat} {Ls : Array Slot} {w : Value} {t : FieldType} {i : Instr} {rest : List Value} (hret : meth.sig.returnType = some t) (hn : narrow t w = w)
    (hi : (i = .ireturn ∧ (t = .int ∨ t = .boolean ∨ t = .byte ∨ t = .char ∨ t = .short) ∧ ∃ z, w = .int z) ∨ (i = .lreturn ∧ t = .long ∧ ∃ z, w = .long z) ∨ (i = .dreturn ∧ t = .double ∧ ∃ z, w = .double z) ∨ (i = .freturn ∧ t = .float ∧ ∃ z, w = .float z) ∨ (i = .areturn ∧ t.isReference = true ∧ w.isRef = true))
    (hd : decode c.code pc = .ok (i, 1)) {Q : Option Value → Heap → List Loc → Prop} {k n : Nat} (hQ : Q (some w) T.heap locs) (hk : cells ≤ k) (hs : slots ≤ n) : own_Go p e below (own_End s k n Q) T (mkF m pc Ls (w :: rest)) := by
  obtain ⟨fs, hr, hrun, hended, hW, hsame⟩ := X.leave (v := some w) (fun h => by rw [hret] at h; cases h) hlk
  exact ⟨_, _, retOut X hx hret hn hi hd hr, hrun, hended, _, _, rfl, hQ, ⟨_, rfl⟩, hW, hsame.mono hk hs⟩
theorem own_retI (X : Stand p l e R s m args below meth c T locs cells slots) (hx : p.tables.exec = Jvm.exec) (hlk : meth.locks = false) {pc : Nat} {Ls : Array Slot} {z : Int32} {rest : List Value} (hret : meth.sig.returnType = some .int) (hd : decode c.code pc = .ok (.ireturn, 1)) {Q : Option Value → Heap → List Loc → Prop} {k n : Nat} (hQ : Q (some (.int z)) T.heap locs) (hk : cells ≤ k) (hs : slots ≤ n) : own_Go p e below (own_End s k n Q) T (mkF m pc Ls (.int z :: rest)) :=
  own_retW X hx hlk hret rfl (Or.inl ⟨rfl, Or.inl rfl, z, rfl⟩) hd hQ hk hs
theorem own_retJ (X : Stand p l e R s m args below meth c T locs cells slots) (hx : p.tables.exec = Jvm.exec) (hlk : meth.locks = false) {pc : Nat} {Ls : Array Slot} {z : Int64} {rest : List Value} (hret : meth.sig.returnType = some .long) (hd : decode c.code pc = .ok (.lreturn, 1)) {Q : Option Value → Heap → List Loc → Prop} {k n : Nat} (hQ : Q (some (.long z)) T.heap locs) (hk : cells ≤ k) (hs : slots ≤ n) : own_Go p e below (own_End s k n Q) T (mkF m pc Ls (.long z :: rest)) :=
  own_retW X hx hlk hret rfl (Or.inr (Or.inl ⟨rfl, rfl, z, rfl⟩)) hd hQ hk hs
theorem own_retA (X : Stand p l e R s m args below meth c T locs cells slots) (hx : p.tables.exec = Jvm.exec) (hlk : meth.locks = false) {pc : Nat} {Ls : Array Slot} {w : Value} {t : FieldType} {rest : List Value} (hret : meth.sig.returnType = some t) (ht : t.isReference = true) (hw : w.isRef = true) (hd : decode c.code pc = .ok (.areturn, 1)) {Q : Option Value → Heap → List Loc → Prop} {k n : Nat} (hQ : Q (some w) T.heap locs) (hk : cells ≤ k) (hs : slots ≤ n) : own_Go p e below (own_End s k n Q) T (mkF m pc Ls (w :: rest)) :=
  own_retW X hx hlk hret (by cases t <;> first | (cases ht; done) | (cases w <;> first | rfl | (cases hw; done))) (Or.inr (Or.inr (Or.inr (Or.inr ⟨rfl, ht, hw⟩)))) hd hQ hk hs
theorem own_retN (X : Stand p l e R s m args below meth c T locs cells slots) (hx : p.tables.exec = Jvm.exec) (hlk : meth.locks = false) {pc : Nat} {Ls : Array Slot} {z : Int32} {t : FieldType} {rest : List Value} (hret : meth.sig.returnType = some t) (ht : t = .boolean ∨ t = .byte ∨ t = .char ∨ t = .short) (hn : nar t z = z) (hd : decode c.code pc = .ok (.ireturn, 1)) {Q : Option Value → Heap → List Loc → Prop} {k n : Nat} (hQ : Q (some (.int z)) T.heap locs) (hk : cells ≤ k) (hs : slots ≤ n) : own_Go p e below (own_End s k n Q) T (mkF m pc Ls (.int z :: rest)) :=
  own_retW X hx hlk hret (by rcases ht with rfl | rfl | rfl | rfl <;> exact congrArg Value.int hn) (Or.inl ⟨rfl, Or.inr ht, z, rfl⟩) hd hQ hk hs
theorem own_ret0 (X : Stand p l e R s m args below meth c T locs cells slots) (hx : p.tables.exec = Jvm.exec) (hlk : meth.locks = false) {pc : Nat} {Ls : Array Slot} (hret : meth.sig.returnType = none) (hd : decode c.code pc = .ok (.return_, 1)) {Q : Option Value → Heap → List Loc → Prop} {k n : Nat} (hQ : Q none T.heap locs) (hk : cells ≤ k) (hs : slots ≤ n) : own_Go p e below (own_End s k n Q) T (mkF m pc Ls []) := by
  obtain ⟨fs, hr, hrun, hended, hW, hsame⟩ := X.leave (v := none) (fun _ => rfl) hlk
  exact ⟨_, _, X.returnOut hx hret hd hr, hrun, hended, _, _, rfl, hQ, ⟨_, rfl⟩, hW, hsame.mono hk hs⟩
theorem own_lrem {g : JFrame} {target : State} (X : Stand p l e R s m args below meth c T locs cells slots) (hx : p.tables.exec = Jvm.exec) (hg : g.method = m) {x y : Int64} {rest : List Value} (hd : decode c.code g.pc = .ok (.lrem, 1)) (hs : g.stack = .long y :: .long x :: rest) (hy : y ≠ 0)
    (hr : Steps p.tables e below (T.setTop { g with pc := g.pc + 1, stack := .long (x % y) :: rest }) target) : Steps p.tables e below (T.setTop g) target :=
  XS.lrem X.here hx hg hd hs hy (by rw [lrem_mod]; exact hr)
/-- a body's contract: called with as' at the heap h it returns, and Q speaks of what it returns, the heap that it leaves and the places that it wrote -/
abbrev own_Met (l : Launch) (Z : State) (y : MethodName) (bytes : ByteArray) (maxL : Nat) (rt : Option FieldType) (ws : List Jvm.Cond) (rm : Room) (as' : Array Value) (h : Heap) (Q : Option Value → Heap → List Loc → Prop) : Prop :=
  MetFree l y (head1 (Jvm.Cond.code y bytes maxL rt :: ws) rm) (fun a U => a = as' ∧ Z.Warmed39 U.vm ∧ U.heap = h) (fun _ _ _ _ _ => True) (fun _ U o U' => ∃ v L, o = .returned v ∧ Q v U'.heap L ∧ FrameEnd U o U' L rm.cells rm.slots)
theorem own_enter {y : MethodName} {bytes : ByteArray} {maxL : Nat} {rt : Option FieldType} {ws : List Jvm.Cond} {rm : Room} {as' : Array Value} {Q : Option Value → Heap → List Loc → Prop} (hy : plainFor y = true) {g0 : MethodId → JFrame} (hg0 : ∀ m, entryFrame m as' maxL = g0 m)
    (body : ∀ (p : Program) (e : Env) (s : State) (m : MethodId) (below : List Frame) (meth : Method) (c : Code) (s₁ : State), p.tables.exec = Jvm.exec → c.code = bytes → c.maxLocals = maxL → s.vm.findClass y.cls = some m.cls → meth.name = y.name → meth.sig.returnType = rt → meth.locks = false → Z.Warmed39 s.vm → Stand p l e rm s m as' below meth c s₁ [] 0 0 → s₁.heap = h → own_Go p e below (own_End s rm.cells rm.slots Q) s₁ (g0 m)) :
    own_Met l Z y bytes maxL rt ws rm as' h Q := by
  refine MetFree.of_bodySF hy hisR ?_
  intro p e s m args below meth c s₁ Bd hml0 hP hK
  obtain ⟨rfl, hZ, hh⟩ := hP
  obtain ⟨t, o, h1, h2, h3, h4⟩ := body p e s m below meth c s₁ Bd.exec Bd.bytes hml0 (findClass_of_methodNamed Bd.named) (name_of_methodNamed Bd.named Bd.method).1 Bd.returns (BodyLoose.notSynchronized Bd) hZ (Stand.of_body Bd) (by rw [← hh, Bd.state]; rfl)
  exact ⟨t, o, castTop (hg0 m) h1, h2, h3, h4⟩
theorem own_callS (X : Stand p l e R s m args below meth c T locs cells slots) (hx : p.tables.exec = Jvm.exec) (hZ : Z.Warmed39 s.vm) {own : String} (hown : s.vm.findClass own = some m.cls) {index : Nat} {y : MethodName} {bytes : ByteArray} {maxL : Nat} {rt : Option FieldType}
    (w1 : (Jvm.Cond.methodLink own index y).before a0 Z = true) (w2 : (Jvm.Cond.static y).before a0 Z = true) (w3 : (Jvm.Cond.initialized y.cls).before a0 Z = true) (w4 : (Jvm.Cond.code y bytes maxL rt).before a0 Z = true)
    (hy : y.cls ≠ "java/lang/invoke/MethodHandle" ∧ y.cls ≠ "java/lang/invoke/VarHandle") {rm : Room} {argsL rest : List Value} {Q : Option Value → Heap → List Loc → Prop} (eT : T.heap = h) (hM : own_Met l Z y bytes maxL rt [] rm argsL.toArray h Q)
    {g : JFrame} (hg : g.method = m) (hsize : g.locals.size = c.maxLocals) (hlen : ∀ sig, parseMethodDescriptor y.desc = some sig → argsL.length = sig.parameters.length) (hstack : g.stack = argsL.reverse ++ rest) {W : Nat} (hW : 2 * g.monitorRoom + (rest.map fun v => v.category).sum ≤ W) (hd : decode c.code g.pc = .ok (.invokestatic index, 3))
    (hf : rm.frames + 1 ≤ R.frames) (hl : W + (maxL + 11) + rm.locals ≤ R.locals) (hc : cells + rm.cells ≤ R.cells) (hs : slots + rm.slots ≤ R.slots) :
    ∃ v T' L, Stand p l e R s m args below meth c T' (locs ++ L) (cells + rm.cells) (slots + rm.slots) ∧ Q v T'.heap L ∧ ∀ target, Steps p.tables e below (T'.setTop { g with pc := g.pc + 3, stack := v.toList ++ rest }) target → Steps p.tables e below (T.setTop g) target := by
  obtain ⟨v, _, ⟨T1, L1, k1, n1⟩, -, X1, ⟨Lc, hQ, l1, y1, z1⟩, st⟩ := Jvm.LawKit.callS X hx (y := y) hown (mvT hZ w1) (mvT hZ w2) (mvT hZ w3) (mvT hZ w4) hy (backOf (W := W) hM hZ w4 w3 hf hl) (g := g) hg hsize (argsL := argsL) (rest := rest) hlen hstack hW hd (fun _ _ => ⟨rfl, eT, hc, hs⟩)
  dsimp only [Pt.U, Pt.locs, Pt.cells, Pt.slots] at X1 l1 y1 z1 st hQ
  subst l1 y1 z1
  exact ⟨v, T1, Lc, X1, hQ, st⟩
theorem own_callI (X : Stand p l e R s m args below meth c T locs cells slots) (hx : p.tables.exec = Jvm.exec) (hZ : Z.Warmed39 s.vm) {own : String} (hown : s.vm.findClass own = some m.cls) {index : Nat} {y : MethodName} {bytes : ByteArray} {maxL : Nat} (hy1 : y.name = "<init>")
    (w1 : (Jvm.Cond.methodLink own index y).before a0 Z = true) (w2 : (Jvm.Cond.instanceMethod y).before a0 Z = true) (w3 : (Jvm.Cond.initialized y.cls).before a0 Z = true) (w4 : (Jvm.Cond.code y bytes maxL none).before a0 Z = true)
    (hy : y.cls ≠ "java/lang/invoke/MethodHandle" ∧ y.cls ≠ "java/lang/invoke/VarHandle") {rm : Room} {a : Addr} {argsL rest : List Value} {Q : Option Value → Heap → List Loc → Prop} (eT : T.heap = h) (hM : own_Met l Z y bytes maxL none [] rm (.ref a :: argsL).toArray h Q)
    {g : JFrame} (hg : g.method = m) (hsize : g.locals.size = c.maxLocals) (hlen : ∀ sig, parseMethodDescriptor y.desc = some sig → argsL.length = sig.parameters.length) (hstack : g.stack = argsL.reverse ++ .ref a :: rest) {W : Nat} (hW : 2 * g.monitorRoom + (rest.map fun v => v.category).sum ≤ W) (hd : decode c.code g.pc = .ok (.invokespecial index, 3))
    (hf : rm.frames + 1 ≤ R.frames) (hl : W + (maxL + 11) + rm.locals ≤ R.locals) (hc : cells + rm.cells ≤ R.cells) (hs : slots + rm.slots ≤ R.slots) :
    ∃ v T' L, Stand p l e R s m args below meth c T' (locs ++ L) (cells + rm.cells) (slots + rm.slots) ∧ Q v T'.heap L ∧ ∀ target, Steps p.tables e below (T'.setTop { g with pc := g.pc + 3, stack := v.toList ++ rest }) target → Steps p.tables e below (T.setTop g) target := by
  obtain ⟨v, _, ⟨T1, L1, k1, n1⟩, -, X1, ⟨Lc, hQ, l1, y1, z1⟩, st⟩ := X.specialBack hx (y := y) hy1 hown (mvT hZ w1) (mvT hZ w2) (mvT hZ w4) hy (backOf (W := W) hM hZ w4 w3 hf hl) (g := g) hg hsize (Steps.refl _) (a := a) (argsL := argsL) (rest := rest) hlen hstack hW hd (fun _ _ => ⟨rfl, eT, hc, hs⟩)
  dsimp only [Pt.U, Pt.locs, Pt.cells, Pt.slots] at X1 l1 y1 z1 st hQ
  subst l1 y1 z1
  exact ⟨v, T1, Lc, X1, hQ, fun _ k => st.trans k⟩
theorem own_callV (X : Stand p l e R s m args below meth c T locs cells slots) (hx : p.tables.exec = Jvm.exec) (hZ : Z.Warmed39 s.vm) {own C : String} (hown : s.vm.findClass own = some m.cls) {index : Nat} {y : MethodName} {bytes : ByteArray} {maxL : Nat} {rt : Option FieldType}
    (w1 : (Jvm.Cond.methodLink own index y).before a0 Z = true) (w2 : (Jvm.Cond.declares y).before a0 Z = true) (w5 : (Jvm.Cond.selects C y y).before a0 Z = true) (w6 : (Jvm.Cond.instanceMethod y).before a0 Z = true) (w3 : (Jvm.Cond.initialized y.cls).before a0 Z = true) (w4 : (Jvm.Cond.code y bytes maxL rt).before a0 Z = true)
    (hy : y.cls ≠ "java/lang/invoke/MethodHandle" ∧ y.cls ≠ "java/lang/invoke/VarHandle") {rm : Room} {a : Addr} {argsL rest : List Value} {Q : Option Value → Heap → List Loc → Prop} (hE : Exa Z h a C) (eT : T.heap = h) (hM : own_Met l Z y bytes maxL rt [] rm (.ref a :: argsL).toArray h Q)
    {g : JFrame} (hg : g.method = m) (hsize : g.locals.size = c.maxLocals) (hlen : ∀ sig, parseMethodDescriptor y.desc = some sig → argsL.length = sig.parameters.length) (hstack : g.stack = argsL.reverse ++ .ref a :: rest) {W : Nat} (hW : 2 * g.monitorRoom + (rest.map fun v => v.category).sum ≤ W) (hd : decode c.code g.pc = .ok (.invokevirtual index, 3))
    (hf : rm.frames + 1 ≤ R.frames) (hl : W + (maxL + 11) + rm.locals ≤ R.locals) (hc : cells + rm.cells ≤ R.cells) (hs : slots + rm.slots ≤ R.slots) (hC : C = y.cls := by rfl) :
    ∃ v T' L, Stand p l e R s m args below meth c T' (locs ++ L) (cells + rm.cells) (slots + rm.slots) ∧ Q v T'.heap L ∧ ∀ target, Steps p.tables e below (T'.setTop { g with pc := g.pc + 3, stack := v.toList ++ rest }) target → Steps p.tables e below (T.setTop g) target := by
  subst hC
  obtain ⟨_, _, qa, -, qc⟩ := isOf hZ eT hE
  obtain ⟨v, _, ⟨T1, L1, k1, n1⟩, -, X1, ⟨Lc, hQ, l1, y1, z1⟩, st⟩ := X.virtualBack hx (y := y) (z := y) hown (mvT hZ w1) (mvT hZ w2) (notFace_of_selects (args := #[]) (mvT hZ w5)) (mvT hZ w5) (mvT hZ w6) hy (backOf (W := W) hM hZ w4 w3 hf hl) qa qc (g := g) hg hsize (Steps.refl _) (argsL := argsL) (rest := rest) hlen hstack hW hd (fun _ _ => ⟨rfl, eT, hc, hs⟩)
  dsimp only [Pt.U, Pt.locs, Pt.cells, Pt.slots] at X1 l1 y1 z1 st hQ
  subst l1 y1 z1
  exact ⟨v, T1, Lc, X1, hQ, fun _ k => st.trans k⟩
theorem own_callU (X : Stand p l e R s m args below meth c T locs cells slots) (hx : p.tables.exec = Jvm.exec) (hZ : Z.Warmed39 s.vm) {own C owner : String} (hown : s.vm.findClass own = some m.cls) {index : Nat} {x y : MethodName} {bytes : ByteArray} {maxL : Nat} {rt : Option FieldType}
    (w1 : (Jvm.Cond.methodLink own index x).before a0 Z = true) (w7 : (Jvm.Cond.sameMethod x.cls owner x.name x.desc).before a0 Z = true) (w2 : (Jvm.Cond.declares ⟨owner, x.name, x.desc⟩).before a0 Z = true) (hy : owner ≠ "java/lang/invoke/MethodHandle" ∧ owner ≠ "java/lang/invoke/VarHandle") (w5 : (Jvm.Cond.selects C x y).before a0 Z = true) (w6 : (Jvm.Cond.instanceMethod y).before a0 Z = true) (w3 : (Jvm.Cond.initialized y.cls).before a0 Z = true) (w4 : (Jvm.Cond.code y bytes maxL rt).before a0 Z = true)
    {rm : Room} {a : Addr} {argsL rest : List Value} {Q : Option Value → Heap → List Loc → Prop} (hE : Exa Z h a C) (eT : T.heap = h) (hM : own_Met l Z y bytes maxL rt [] rm (.ref a :: argsL).toArray h Q)
    {g : JFrame} (hg : g.method = m) (hsize : g.locals.size = c.maxLocals) (hlen : ∀ sig, parseMethodDescriptor x.desc = some sig → argsL.length = sig.parameters.length) (hstack : g.stack = argsL.reverse ++ .ref a :: rest) {W : Nat} (hW : 2 * g.monitorRoom + (rest.map fun v => v.category).sum ≤ W) (hd : decode c.code g.pc = .ok (.invokevirtual index, 3))
    (hf : rm.frames + 1 ≤ R.frames) (hl : W + (maxL + 11) + rm.locals ≤ R.locals) (hc : cells + rm.cells ≤ R.cells) (hs : slots + rm.slots ≤ R.slots) :
    ∃ v T' L, Stand p l e R s m args below meth c T' (locs ++ L) (cells + rm.cells) (slots + rm.slots) ∧ Q v T'.heap L ∧ ∀ target, Steps p.tables e below (T'.setTop { g with pc := g.pc + 3, stack := v.toList ++ rest }) target → Steps p.tables e below (T.setTop g) target := by
  obtain ⟨_, _, qa, -, qc⟩ := isOf hZ eT hE
  obtain ⟨v, _, ⟨T1, L1, k1, n1⟩, -, X1, ⟨Lc, hQ, l1, y1, z1⟩, st⟩ := X.virtualBackUp hx (x := x) (y := y) hown (mvT hZ w1) (mvT hZ w7) (mvT hZ w2) hy (mvT hZ w5) (mvT hZ w6) (backOf (W := W) hM hZ w4 w3 hf hl) qa qc (g := g) hg hsize (Steps.refl _) (argsL := argsL) (rest := rest) hlen hstack hW hd (fun _ _ => ⟨rfl, eT, hc, hs⟩)
  dsimp only [Pt.U, Pt.locs, Pt.cells, Pt.slots] at X1 l1 y1 z1 st hQ
  subst l1 y1 z1
  exact ⟨v, T1, Lc, X1, hQ, fun _ k => st.trans k⟩
theorem own_arv {a : Addr} {k : ClassId} {ty : FieldType} {z : Int32} {vs : List Value} {dv : Value} (V : Arv Z h a k ty z vs dv) {j : Int32} (q : ¬ j < 0 ∧ j < z) :
    ∃ cl : Cell, Arr Z h a cl ty ∧ cl.cls = k ∧ ¬ (j < 0 ∨ cl.slots.size ≤ j.toNatClampNeg) ∧ cl.slots[j.toNatClampNeg]? = some (vs.getD j.toNatClampNeg dv) ∧ ∀ {h' : Heap} {v : Value}, fits ty v = true → Wr h h' a j.toNatClampNeg v → ∀ i, j.toNatClampNeg = i → i < vs.length → Arv Z h' a k ty z (vs.set i v) dv := by
  obtain ⟨cl, A, q1, S, q3, H, G⟩ := V
  have hin := inb_of S q
  exact ⟨cl, A, q1, hin, Has.at H hin rfl, fun hf W i hj hi => Arv.set A q1 S q3 H G hf W i hj hi⟩
theorem own_len {a : Addr} {k : ClassId} {ty : FieldType} {z : Int32} {vs : List Value} {dv : Value} (V : Arv Z h a k ty z vs dv) : ∃ cl : Cell, Arr Z h a cl ty ∧ cl.slots.size.toInt32 = z := by
  obtain ⟨cl, A, q1, S, q3, -⟩ := V
  exact ⟨cl, A, len_of S q3⟩
theorem own_sta {C f d K : String} (hx : (Jvm.Cond.exactly (.static C f d) K).value args s none s [] = some true) (w1 : (Jvm.Cond.initialized C).before args s = true) (w2 : (Jvm.Cond.laysStatic C f d).before args s = true) :
    ∃ a, (Term.static C f d).eval args s none [] s = some (.ref a) ∧ Sta s s.heap C f d (.ref a) ∧ Exa s s.heap a K := by
  obtain ⟨a, ev⟩ := exa_v hx
  exact ⟨a, ev, Sta.start ev (Or.inr ⟨w1, w2⟩), Exa.start ev hx⟩
theorem own_fldI {t : Term} {C f d : String} {a : Addr} {k : Int32} (ev : t.eval args s none [] s = some (.ref a)) (hx : (Jvm.Cond.eq (.field t C f d) (.int k)).value args s none s [] = some true) : Fld s s.heap a C f d (.int k) := by
  obtain ⟨v, w, e1, e2, k1, k2⟩ := cmp_v (Or.inl hx)
  obtain rfl : w = .int k := Option.some.inj (e2.symm.trans (Term.int_eval k))
  obtain ⟨z, rfl⟩ : ∃ z, v = .int z := k2
  have q : z = k := by simpa [Cond.value, e1, e2] using hx
  subst q
  exact Fld.start (by rw [← fld_at ev]; exact e1)
theorem own_neS {t u : Term} {a b : Addr} (ea : t.eval args s none [] s = some (.ref a)) (eb : u.eval args s none [] s = some (.ref b)) (hx : (Jvm.Cond.not (.eq t u)).value args s none s [] = some true) : a ≠ b := fun q =>
  gotF (eq_R ea eb rfl rfl) (not_v hx) (congrArg Value.ref q)
theorem own_staK {C f d : String} {v : Value} {h' : Heap} {ws : List Addr} (S : Sta Z h C f d v) (K : Keep h h' ws) (q : ∀ x ∈ ws, ∀ cell : Cell, h[x]? = some cell → cell.vm.isStatics = false) : Sta Z h' C f d v := by
  obtain ⟨cf, i, k, fl, st, cell, h1, h2, h3, h4, h5, h6, h7⟩ := S
  refine ⟨cf, i, k, fl, st, cell, h1, h2, h3, h4, K.2.1 st cell h5 (fun hm => ?_), h6, h7⟩
  have := q st hm cell h5
  rw [h6] at this
  cases this
end OwnKit
section OwnW
variable {p : Program} {l : Launch} {e : Env} {R : Room} {s : State} {m : MethodId} {args : Array Value} {below : List Frame} {meth : Method} {c : Code} {T T' : State} {locs : List Loc} {cells slots : Nat} {Z : State} {a0 : Array Value} {h : Heap} {vm0 vm1 : Vm} {Ts : List String}
/-- an end behind a walk that may have interned: Q speaks of the tables too -/
def own_EndW (s : State) (k n : Nat) (Q : Option Value → Heap → List Loc → Vm → Prop) (t : State) (o : Outcome) : Prop :=
  ∃ v L, o = .returned v ∧ Q v t.heap L t.vm ∧ ReturnedEndW s o t L k n
/-- a contract of a body that may intern; PV: what it asks of the tables at its start -/
abbrev own_MetW (l : Launch) (Z : State) (y : MethodName) (bytes : ByteArray) (maxL : Nat) (rt : Option FieldType) (ws : List Jvm.Cond) (rm : Room) (as' : Array Value) (h : Heap) (PV : Vm → Prop) (Q : Option Value → Heap → List Loc → Vm → Prop) : Prop :=
  MetFree l y (head1 (Jvm.Cond.code y bytes maxL rt :: ws) rm) (fun a U => a = as' ∧ Z.Warmed39 U.vm ∧ U.heap = h ∧ PV U.vm) (fun _ _ _ _ _ => True) (fun _ U o U' => ∃ v L, o = .returned v ∧ Q v U'.heap L U'.vm ∧ ReturnedEndW U o U' L rm.cells rm.slots)
theorem own_enterW {y : MethodName} {bytes : ByteArray} {maxL : Nat} {rt : Option FieldType} {ws : List Jvm.Cond} {rm : Room} {as' : Array Value} {PV : Vm → Prop} {Q : Option Value → Heap → List Loc → Vm → Prop} (hy : plainFor y = true) {g0 : MethodId → JFrame} (hg0 : ∀ m, entryFrame m as' maxL = g0 m)
    (body : ∀ (p : Program) (e : Env) (s : State) (m : MethodId) (below : List Frame) (meth : Method) (c : Code) (s₁ : State), p.tables.exec = Jvm.exec → c.code = bytes → c.maxLocals = maxL → (s.setVm s.vm).vm.findClass y.cls = some m.cls → meth.name = y.name → meth.sig.returnType = rt → meth.locks = false → Z.Warmed39 (s.setVm s.vm).vm → PV s.vm → Stand p l e rm (s.setVm s.vm) m as' below meth c s₁ [] 0 0 → s₁.heap = h → s.heap = h → own_Go p e below (own_EndW s rm.cells rm.slots Q) s₁ (g0 m)) :
    own_MetW l Z y bytes maxL rt ws rm as' h PV Q := by
  refine MetFree.of_bodySF hy hisR ?_
  intro p e s m args below meth c s₁ Bd hml0 hP hK
  obtain ⟨rfl, hZ, hh, hPV⟩ := hP
  obtain ⟨t, o, h1, h2, h3, h4⟩ := body p e s m below meth c s₁ Bd.exec Bd.bytes hml0 (findClass_of_methodNamed Bd.named) (name_of_methodNamed Bd.named Bd.method).1 Bd.returns (BodyLoose.notSynchronized Bd) hZ hPV (Stand.of_body Bd) (by rw [← hh, Bd.state]; rfl) hh
  exact ⟨t, o, castTop (hg0 m) h1, h2, h3, h4⟩
theorem own_rewMono {s t : State} {o : Outcome} {L : List Loc} {k n k' n' : Nat} (q : ReturnedEndW s o t L k n) (hk : k ≤ k') (hn : n ≤ n') : ReturnedEndW s o t L k' n' := ⟨q.1, q.2.1, q.2.2.1, q.2.2.2.mono hk hn⟩
theorem own_retWW (X : Stand p l e R (s.setVm vm0) m args below meth c T locs cells slots) (hx : p.tables.exec = Jvm.exec) (hlk : meth.locks = false) {k0 : Nat} (hS : s.Since vm0 k0) (hk0 : k0 ≤ h.size) (eT : T.heap = h) {pc : Nat} {Ls : Array Slot} {w : Value} {t : FieldType} {i : Instr} {rest : List Value} (hret : meth.sig.returnType = some t) (hn : narrow t w = w)
    (hi : (i = .ireturn ∧ (t = .int ∨ t = .boolean ∨ t = .byte ∨ t = .char ∨ t = .short) ∧ ∃ z, w = .int z) ∨ (i = .lreturn ∧ t = .long ∧ ∃ z, w = .long z) ∨ (i = .dreturn ∧ t = .double ∧ ∃ z, w = .double z) ∨ (i = .freturn ∧ t = .float ∧ ∃ z, w = .float z) ∨ (i = .areturn ∧ t.isReference = true ∧ w.isRef = true))
    (hd : decode c.code pc = .ok (i, 1)) {Q : Option Value → Heap → List Loc → Vm → Prop} {k n : Nat} (hQ : Q (some w) T.heap locs T.vm) (hk : cells ≤ k) (hs : slots ≤ n) : own_Go p e below (own_EndW s k n Q) T (mkF m pc Ls (w :: rest)) := by
  obtain ⟨fs, hr, hrun, hended, hE⟩ := X.leaveW hS (by rw [eT]; exact hk0) (v := some w) (fun h => by rw [hret] at h; cases h) hlk
  exact ⟨_, _, retOut X hx hret hn hi hd hr, hrun, hended, _, _, rfl, hQ, own_rewMono hE hk hs⟩
theorem own_retIW (X : Stand p l e R (s.setVm vm0) m args below meth c T locs cells slots) (hx : p.tables.exec = Jvm.exec) (hlk : meth.locks = false) {k0 : Nat} (hS : s.Since vm0 k0) (hk0 : k0 ≤ h.size) (eT : T.heap = h) {pc : Nat} {Ls : Array Slot} {z : Int32} {rest : List Value} (hret : meth.sig.returnType = some .int) (hd : decode c.code pc = .ok (.ireturn, 1)) {Q : Option Value → Heap → List Loc → Vm → Prop} {k n : Nat} (hQ : Q (some (.int z)) T.heap locs T.vm) (hk : cells ≤ k) (hs : slots ≤ n) : own_Go p e below (own_EndW s k n Q) T (mkF m pc Ls (.int z :: rest)) :=
  own_retWW X hx hlk hS hk0 eT hret rfl (Or.inl ⟨rfl, Or.inl rfl, z, rfl⟩) hd hQ hk hs
theorem own_retNW (X : Stand p l e R (s.setVm vm0) m args below meth c T locs cells slots) (hx : p.tables.exec = Jvm.exec) (hlk : meth.locks = false) {k0 : Nat} (hS : s.Since vm0 k0) (hk0 : k0 ≤ h.size) (eT : T.heap = h) {pc : Nat} {Ls : Array Slot} {z : Int32} {t : FieldType} {rest : List Value} (hret : meth.sig.returnType = some t) (ht : t = .boolean ∨ t = .byte ∨ t = .char ∨ t = .short) (hn : nar t z = z) (hd : decode c.code pc = .ok (.ireturn, 1)) {Q : Option Value → Heap → List Loc → Vm → Prop} {k n : Nat} (hQ : Q (some (.int z)) T.heap locs T.vm) (hk : cells ≤ k) (hs : slots ≤ n) : own_Go p e below (own_EndW s k n Q) T (mkF m pc Ls (.int z :: rest)) :=
  own_retWW X hx hlk hS hk0 eT hret (by rcases ht with rfl | rfl | rfl | rfl <;> exact congrArg Value.int hn) (Or.inl ⟨rfl, Or.inr ht, z, rfl⟩) hd hQ hk hs
theorem own_retAW (X : Stand p l e R (s.setVm vm0) m args below meth c T locs cells slots) (hx : p.tables.exec = Jvm.exec) (hlk : meth.locks = false) {k0 : Nat} (hS : s.Since vm0 k0) (hk0 : k0 ≤ h.size) (eT : T.heap = h) {pc : Nat} {Ls : Array Slot} {w : Value} {t : FieldType} {rest : List Value} (hret : meth.sig.returnType = some t) (ht : t.isReference = true) (hw : w.isRef = true) (hd : decode c.code pc = .ok (.areturn, 1)) {Q : Option Value → Heap → List Loc → Vm → Prop} {k n : Nat} (hQ : Q (some w) T.heap locs T.vm) (hk : cells ≤ k) (hs : slots ≤ n) : own_Go p e below (own_EndW s k n Q) T (mkF m pc Ls (w :: rest)) :=
  own_retWW X hx hlk hS hk0 eT hret (by cases t <;> first | (cases ht; done) | (cases w <;> first | rfl | (cases hw; done))) (Or.inr (Or.inr (Or.inr (Or.inr ⟨rfl, ht, hw⟩)))) hd hQ hk hs
theorem own_ret0W (X : Stand p l e R (s.setVm vm0) m args below meth c T locs cells slots) (hx : p.tables.exec = Jvm.exec) (hlk : meth.locks = false) {k0 : Nat} (hS : s.Since vm0 k0) (hk0 : k0 ≤ h.size) (eT : T.heap = h) {pc : Nat} {Ls : Array Slot} (hret : meth.sig.returnType = none) (hd : decode c.code pc = .ok (.return_, 1)) {Q : Option Value → Heap → List Loc → Vm → Prop} {k n : Nat} (hQ : Q none T.heap locs T.vm) (hk : cells ≤ k) (hs : slots ≤ n) : own_Go p e below (own_EndW s k n Q) T (mkF m pc Ls []) := by
  obtain ⟨fs, hr, hrun, hended, hE⟩ := X.leaveW hS (by rw [eT]; exact hk0) (v := none) (fun _ => rfl) hlk
  exact ⟨_, _, X.returnOut hx hret hd hr, hrun, hended, _, _, rfl, hQ, own_rewMono hE hk hs⟩
theorem own_ibX (X : Stand p l e R (s.setVm vm0) m args below meth c T locs cells slots) (I : IB Z vm0 Ts) : IB Z T.vm Ts := by
  obtain ⟨more, q, hm⟩ := I
  exact ⟨more, X.warmed.interned_eq.trans q, hm⟩
theorem own_ibW (I : IB Z vm0 Ts) (hv : (s.setVm vm0).WarmedH vm1) : IB Z vm1 Ts := by
  obtain ⟨more, q, hm⟩ := I
  exact ⟨more, hv.interned_eq.trans q, hm⟩
theorem own_ibM (I : IB Z vm0 Ts) {Us : List String} (hq : ∀ t ∈ Ts, t ∈ Us) : IB Z vm0 Us := by
  obtain ⟨more, q, hm⟩ := I
  exact ⟨more, q, fun x hx => by obtain ⟨t, ht, hd⟩ := hm x hx; exact ⟨t, hq t ht, hd⟩⟩
theorem own_backOfW {y : MethodName} {bytes : ByteArray} {maxL : Nat} {ret : Option FieldType} {rm : Room} {len W : Nat} {as' : Array Value} {PV : Vm → Prop} {Q : Option Value → Heap → List Loc → Vm → Prop}
    (hM : own_MetW l Z y bytes maxL ret [] rm as' h PV Q) (hZ : Z.Warmed39 s.vm) (wc : (Jvm.Cond.code y bytes maxL ret).before a0 Z = true) (wz : (Jvm.Cond.initialized y.cls).before a0 Z = true) (hf : rm.frames + 1 ≤ R.frames) (hl : W + (maxL + 11) + rm.locals ≤ R.locals) :
    BackS l R p e below s args y len W (fun A a => a = as' ∧ A.U.heap = h ∧ PV A.U.vm ∧ A.cells + rm.cells ≤ R.cells ∧ A.slots + rm.slots ≤ R.slots)
      (fun A _ v B => ∃ L, Q v B.U.heap L B.U.vm ∧ B.locs = A.locs ++ L ∧ B.cells = A.cells + rm.cells ∧ B.slots = A.slots + rm.slots) :=
  BackS.of_freeW (bytes := bytes) (maxL := maxL) (ret := ret) (E := fun _ _ o t L k n => k = rm.cells ∧ n = rm.slots ∧ ∃ v, o = .returned v ∧ Q v t.heap L t.vm) hM hf hl
    (fun m meth c A a Y hp => have hU : Z.Warmed39 A.U.vm := wtrans hZ Y.warmed
      ⟨by show (Cond.and _ .tt).before a A.U = true; rw [Cond.before_and, mv hU wc]; rfl, mv hU wc, mv hU wz, hp.2.2.2.1, hp.2.2.2.2⟩)
    (fun m meth c A a g mk Y hp => ⟨hp.1, wtrans hZ Y.warmed, hp.2.1, hp.2.2.1⟩) (fun _ _ _ _ _ _ _ _ _ => trivial)
    (fun _ _ _ _ ⟨v, L, h1, h2, h3⟩ => ⟨L, _, _, h3, rfl, rfl, v, h1, h2⟩)
    (fun m meth c A a g mk v t L k n Y hp _ _ ⟨e1, e2, v', e3, e4⟩ => by cases e3; subst e1 e2; exact ⟨L, e4, rfl, rfl, rfl⟩)
theorem own_callSW (X : Stand p l e R (s.setVm vm0) m args below meth c T locs cells slots) (hx : p.tables.exec = Jvm.exec) (hZ : Z.Warmed39 (s.setVm vm0).vm) {own : String} (hown : (s.setVm vm0).vm.findClass own = some m.cls) {k0 : Nat} (hS : s.Since vm0 k0) (hk0 : k0 ≤ h.size) {index : Nat} {y : MethodName} {bytes : ByteArray} {maxL : Nat} {rt : Option FieldType}
    (w1 : (Jvm.Cond.methodLink own index y).before a0 Z = true) (w2 : (Jvm.Cond.static y).before a0 Z = true) (w3 : (Jvm.Cond.initialized y.cls).before a0 Z = true) (w4 : (Jvm.Cond.code y bytes maxL rt).before a0 Z = true)
    (hy : y.cls ≠ "java/lang/invoke/MethodHandle" ∧ y.cls ≠ "java/lang/invoke/VarHandle") {rm : Room} {argsL rest : List Value} {PV : Vm → Prop} {Q : Option Value → Heap → List Loc → Vm → Prop} (hPV : ∀ vm₁, (s.setVm vm0).WarmedH vm₁ → PV vm₁) (eT : T.heap = h) (hM : own_MetW l Z y bytes maxL rt [] rm argsL.toArray h PV Q)
    {g : JFrame} (hg : g.method = m) (hsize : g.locals.size = c.maxLocals) (hlen : ∀ sig, parseMethodDescriptor y.desc = some sig → argsL.length = sig.parameters.length) (hstack : g.stack = argsL.reverse ++ rest) {W : Nat} (hW : 2 * g.monitorRoom + (rest.map fun v => v.category).sum ≤ W) (hd : decode c.code g.pc = .ok (.invokestatic index, 3))
    (hf : rm.frames + 1 ≤ R.frames) (hl : W + (maxL + 11) + rm.locals ≤ R.locals) (hc : cells + rm.cells ≤ R.cells) (hs : slots + rm.slots ≤ R.slots) :
    ∃ v T' L k1, Stand p l e R (s.setVm T'.vm) m args below meth c T' (locs ++ L) (cells + rm.cells) (slots + rm.slots) ∧ Q v T'.heap L T'.vm ∧ s.Since T'.vm k1 ∧ k1 ≤ T'.heap.size ∧ Z.Warmed39 (s.setVm T'.vm).vm ∧ (s.setVm T'.vm).vm.findClass own = some m.cls ∧ ∀ target, Steps p.tables e below (T'.setTop { g with pc := g.pc + 3, stack := v.toList ++ rest }) target → Steps p.tables e below (T.setTop g) target := by
  obtain ⟨v, _, ⟨T1, L1, k1, n1⟩, -, X1, hS1, hgr, ⟨Lc, hQ, l1, y1, z1⟩, st⟩ := Jvm.RoadKit.callSS X hx (y := y) hown (mvT hZ w1) (mvT hZ w2) (mvT hZ w3) (mvT hZ w4) hy (own_backOfW (W := W) hM hZ w4 w3 hf hl) (g := g) hg hsize (argsL := argsL) (rest := rest) hlen hstack hW hd (fun vm₁ hv => ⟨rfl, eT, hPV vm₁ hv, hc, hs⟩)
  dsimp only [Pt.U, Pt.locs, Pt.cells, Pt.slots] at X1 hS1 hgr l1 y1 z1 st hQ
  subst l1 y1 z1
  obtain ⟨X2, hS2, hZ2, hown2⟩ := rebS hS (by rw [← eT] at hk0; exact hk0) X1 hS1 hgr hZ hown
  exact ⟨v, T1, Lc, _, X2, hQ, hS2, Nat.le_refl _, hZ2, hown2, fun _ k => st.trans k⟩
theorem own_callIW (X : Stand p l e R (s.setVm vm0) m args below meth c T locs cells slots) (hx : p.tables.exec = Jvm.exec) (hZ : Z.Warmed39 (s.setVm vm0).vm) {own : String} (hown : (s.setVm vm0).vm.findClass own = some m.cls) {k0 : Nat} (hS : s.Since vm0 k0) (hk0 : k0 ≤ h.size) {index : Nat} {y : MethodName} {bytes : ByteArray} {maxL : Nat} (hy1 : y.name = "<init>")
    (w1 : (Jvm.Cond.methodLink own index y).before a0 Z = true) (w2 : (Jvm.Cond.instanceMethod y).before a0 Z = true) (w3 : (Jvm.Cond.initialized y.cls).before a0 Z = true) (w4 : (Jvm.Cond.code y bytes maxL none).before a0 Z = true)
    (hy : y.cls ≠ "java/lang/invoke/MethodHandle" ∧ y.cls ≠ "java/lang/invoke/VarHandle") {rm : Room} {a : Addr} {argsL rest : List Value} {PV : Vm → Prop} {Q : Option Value → Heap → List Loc → Vm → Prop} (hPV : ∀ vm₁, (s.setVm vm0).WarmedH vm₁ → PV vm₁) (eT : T.heap = h) (hM : own_MetW l Z y bytes maxL none [] rm (.ref a :: argsL).toArray h PV Q)
    {g : JFrame} (hg : g.method = m) (hsize : g.locals.size = c.maxLocals) (hlen : ∀ sig, parseMethodDescriptor y.desc = some sig → argsL.length = sig.parameters.length) (hstack : g.stack = argsL.reverse ++ .ref a :: rest) {W : Nat} (hW : 2 * g.monitorRoom + (rest.map fun v => v.category).sum ≤ W) (hd : decode c.code g.pc = .ok (.invokespecial index, 3))
    (hf : rm.frames + 1 ≤ R.frames) (hl : W + (maxL + 11) + rm.locals ≤ R.locals) (hc : cells + rm.cells ≤ R.cells) (hs : slots + rm.slots ≤ R.slots) :
    ∃ v T' L k1, Stand p l e R (s.setVm T'.vm) m args below meth c T' (locs ++ L) (cells + rm.cells) (slots + rm.slots) ∧ Q v T'.heap L T'.vm ∧ s.Since T'.vm k1 ∧ k1 ≤ T'.heap.size ∧ Z.Warmed39 (s.setVm T'.vm).vm ∧ (s.setVm T'.vm).vm.findClass own = some m.cls ∧ ∀ target, Steps p.tables e below (T'.setTop { g with pc := g.pc + 3, stack := v.toList ++ rest }) target → Steps p.tables e below (T.setTop g) target := by
  obtain ⟨v, _, ⟨T1, L1, k1, n1⟩, -, X1, hS1, hgr, ⟨Lc, hQ, l1, y1, z1⟩, st⟩ := X.specialBackS hx (y := y) hy1 hown (mvT hZ w1) (mvT hZ w2) (mvT hZ w4) hy (own_backOfW (W := W) hM hZ w4 w3 hf hl) (g := g) hg hsize (Steps.refl _) (a := a) (argsL := argsL) (rest := rest) hlen hstack hW hd (fun vm₁ hv => ⟨rfl, eT, hPV vm₁ hv, hc, hs⟩)
  dsimp only [Pt.U, Pt.locs, Pt.cells, Pt.slots] at X1 hS1 hgr l1 y1 z1 st hQ
  subst l1 y1 z1
  obtain ⟨X2, hS2, hZ2, hown2⟩ := rebS hS (by rw [← eT] at hk0; exact hk0) X1 hS1 hgr hZ hown
  exact ⟨v, T1, Lc, _, X2, hQ, hS2, Nat.le_refl _, hZ2, hown2, fun _ k => st.trans k⟩
theorem own_callVW (X : Stand p l e R (s.setVm vm0) m args below meth c T locs cells slots) (hx : p.tables.exec = Jvm.exec) (hZ : Z.Warmed39 (s.setVm vm0).vm) {own C : String} (hown : (s.setVm vm0).vm.findClass own = some m.cls) {k0 : Nat} (hS : s.Since vm0 k0) (hk0 : k0 ≤ h.size) {index : Nat} {y : MethodName} {bytes : ByteArray} {maxL : Nat} {rt : Option FieldType}
    (w1 : (Jvm.Cond.methodLink own index y).before a0 Z = true) (w2 : (Jvm.Cond.declares y).before a0 Z = true) (w5 : (Jvm.Cond.selects C y y).before a0 Z = true) (w6 : (Jvm.Cond.instanceMethod y).before a0 Z = true) (w3 : (Jvm.Cond.initialized y.cls).before a0 Z = true) (w4 : (Jvm.Cond.code y bytes maxL rt).before a0 Z = true)
    (hy : y.cls ≠ "java/lang/invoke/MethodHandle" ∧ y.cls ≠ "java/lang/invoke/VarHandle") {rm : Room} {a : Addr} {argsL rest : List Value} {PV : Vm → Prop} {Q : Option Value → Heap → List Loc → Vm → Prop} (hE : Exa Z h a C) (hPV : ∀ vm₁, (s.setVm vm0).WarmedH vm₁ → PV vm₁) (eT : T.heap = h) (hM : own_MetW l Z y bytes maxL rt [] rm (.ref a :: argsL).toArray h PV Q)
    {g : JFrame} (hg : g.method = m) (hsize : g.locals.size = c.maxLocals) (hlen : ∀ sig, parseMethodDescriptor y.desc = some sig → argsL.length = sig.parameters.length) (hstack : g.stack = argsL.reverse ++ .ref a :: rest) {W : Nat} (hW : 2 * g.monitorRoom + (rest.map fun v => v.category).sum ≤ W) (hd : decode c.code g.pc = .ok (.invokevirtual index, 3))
    (hf : rm.frames + 1 ≤ R.frames) (hl : W + (maxL + 11) + rm.locals ≤ R.locals) (hc : cells + rm.cells ≤ R.cells) (hs : slots + rm.slots ≤ R.slots) (hC : C = y.cls := by rfl) :
    ∃ v T' L k1, Stand p l e R (s.setVm T'.vm) m args below meth c T' (locs ++ L) (cells + rm.cells) (slots + rm.slots) ∧ Q v T'.heap L T'.vm ∧ s.Since T'.vm k1 ∧ k1 ≤ T'.heap.size ∧ Z.Warmed39 (s.setVm T'.vm).vm ∧ (s.setVm T'.vm).vm.findClass own = some m.cls ∧ ∀ target, Steps p.tables e below (T'.setTop { g with pc := g.pc + 3, stack := v.toList ++ rest }) target → Steps p.tables e below (T.setTop g) target := by
  subst hC
  obtain ⟨_, _, qa, -, qc⟩ := isOf hZ eT hE
  obtain ⟨v, _, ⟨T1, L1, k1, n1⟩, -, X1, hS1, hgr, ⟨Lc, hQ, l1, y1, z1⟩, st⟩ := X.virtualBackS hx (y := y) (z := y) hown (mvT hZ w1) (mvT hZ w2) (notFace_of_selects (args := #[]) (mvT hZ w5)) (mvT hZ w5) (mvT hZ w6) hy (own_backOfW (W := W) hM hZ w4 w3 hf hl) qa qc (g := g) hg hsize (Steps.refl _) (argsL := argsL) (rest := rest) hlen hstack hW hd (fun vm₁ hv => ⟨rfl, eT, hPV vm₁ hv, hc, hs⟩)
  dsimp only [Pt.U, Pt.locs, Pt.cells, Pt.slots] at X1 hS1 hgr l1 y1 z1 st hQ
  subst l1 y1 z1
  obtain ⟨X2, hS2, hZ2, hown2⟩ := rebS hS (by rw [← eT] at hk0; exact hk0) X1 hS1 hgr hZ hown
  exact ⟨v, T1, Lc, _, X2, hQ, hS2, Nat.le_refl _, hZ2, hown2, fun _ k => st.trans k⟩
/-- a call of a constructor by a law of the library's form Back -/
theorem own_callIB (X : Stand p l e R s m args below meth c T locs cells slots) (hx : p.tables.exec = Jvm.exec) (hZ : Z.Warmed39 s.vm) {own : String} (hown : s.vm.findClass own = some m.cls) {index : Nat} {y : MethodName} {bytes : ByteArray} {maxL : Nat} (hy1 : y.name = "<init>")
    (w1 : (Jvm.Cond.methodLink own index y).before a0 Z = true) (w2 : (Jvm.Cond.instanceMethod y).before a0 Z = true) (w4 : (Jvm.Cond.code y bytes maxL none).before a0 Z = true)
    (hy : y.cls ≠ "java/lang/invoke/MethodHandle" ∧ y.cls ≠ "java/lang/invoke/VarHandle") {W rc rs : Nat} {a : Addr} {argsL rest : List Value} {Q : Option Value → Heap → List Loc → Prop} (eT : T.heap = h)
    (hB : Back l R p e below s args y 3 W (fun P b => b = (.ref a :: argsL).toArray ∧ P.U.heap = h ∧ P.cells + rc ≤ R.cells ∧ P.slots + rs ≤ R.slots) (fun P _ v B => ∃ L, Q v B.U.heap L ∧ B.locs = P.locs ++ L ∧ B.cells = P.cells + rc ∧ B.slots = P.slots + rs))
    {g : JFrame} (hg : g.method = m) (hsize : g.locals.size = c.maxLocals) (hlen : ∀ sig, parseMethodDescriptor y.desc = some sig → argsL.length = sig.parameters.length) (hstack : g.stack = argsL.reverse ++ .ref a :: rest) (hW : 2 * g.monitorRoom + (rest.map fun v => v.category).sum ≤ W) (hd : decode c.code g.pc = .ok (.invokespecial index, 3))
    (hc : cells + rc ≤ R.cells) (hs : slots + rs ≤ R.slots) :
    ∃ v T' L, Stand p l e R s m args below meth c T' (locs ++ L) (cells + rc) (slots + rs) ∧ Q v T'.heap L ∧ ∀ target, Steps p.tables e below (T'.setTop { g with pc := g.pc + 3, stack := v.toList ++ rest }) target → Steps p.tables e below (T.setTop g) target := by
  obtain ⟨v, _, ⟨T1, L1, k1, n1⟩, -, X1, ⟨Lc, hQ, l1, y1, z1⟩, st⟩ := X.specialBack hx (y := y) hy1 hown (mvT hZ w1) (mvT hZ w2) (mvT hZ w4) hy hB (g := g) hg hsize (Steps.refl _) (a := a) (argsL := argsL) (rest := rest) hlen hstack hW hd (fun _ _ => ⟨rfl, eT, hc, hs⟩)
  dsimp only [Pt.U, Pt.locs, Pt.cells, Pt.slots] at X1 l1 y1 z1 st hQ
  subst l1 y1 z1
  exact ⟨v, T1, Lc, X1, hQ, fun _ k => st.trans k⟩
/-- a virtual call by a law of the library's form Back -/
theorem own_callVB (X : Stand p l e R s m args below meth c T locs cells slots) (hx : p.tables.exec = Jvm.exec) (hZ : Z.Warmed39 s.vm) {own C : String} (hown : s.vm.findClass own = some m.cls) {index : Nat} {y : MethodName}
    (w1 : (Jvm.Cond.methodLink own index y).before a0 Z = true) (w2 : (Jvm.Cond.declares y).before a0 Z = true) (w5 : (Jvm.Cond.selects C y y).before a0 Z = true) (w6 : (Jvm.Cond.instanceMethod y).before a0 Z = true)
    (hy : y.cls ≠ "java/lang/invoke/MethodHandle" ∧ y.cls ≠ "java/lang/invoke/VarHandle") {W rc rs : Nat} {a : Addr} {argsL rest : List Value} {Q : Option Value → Heap → List Loc → Prop} (hE : Exa Z h a C) (eT : T.heap = h)
    (hB : Back l R p e below s args y 3 W (fun P b => b = (.ref a :: argsL).toArray ∧ P.U.heap = h ∧ P.cells + rc ≤ R.cells ∧ P.slots + rs ≤ R.slots) (fun P _ v B => ∃ L, Q v B.U.heap L ∧ B.locs = P.locs ++ L ∧ B.cells = P.cells + rc ∧ B.slots = P.slots + rs))
    {g : JFrame} (hg : g.method = m) (hsize : g.locals.size = c.maxLocals) (hlen : ∀ sig, parseMethodDescriptor y.desc = some sig → argsL.length = sig.parameters.length) (hstack : g.stack = argsL.reverse ++ .ref a :: rest) (hW : 2 * g.monitorRoom + (rest.map fun v => v.category).sum ≤ W) (hd : decode c.code g.pc = .ok (.invokevirtual index, 3))
    (hc : cells + rc ≤ R.cells) (hs : slots + rs ≤ R.slots) (hC : C = y.cls := by rfl) :
    ∃ v T' L, Stand p l e R s m args below meth c T' (locs ++ L) (cells + rc) (slots + rs) ∧ Q v T'.heap L ∧ ∀ target, Steps p.tables e below (T'.setTop { g with pc := g.pc + 3, stack := v.toList ++ rest }) target → Steps p.tables e below (T.setTop g) target := by
  subst hC
  obtain ⟨_, _, qa, -, qc⟩ := isOf hZ eT hE
  obtain ⟨v, _, ⟨T1, L1, k1, n1⟩, -, X1, ⟨Lc, hQ, l1, y1, z1⟩, st⟩ := X.virtualBack hx (y := y) (z := y) hown (mvT hZ w1) (mvT hZ w2) (notFace_of_selects (args := #[]) (mvT hZ w5)) (mvT hZ w5) (mvT hZ w6) hy hB qa qc (g := g) hg hsize (Steps.refl _) (argsL := argsL) (rest := rest) hlen hstack hW hd (fun _ _ => ⟨rfl, eT, hc, hs⟩)
  dsimp only [Pt.U, Pt.locs, Pt.cells, Pt.slots] at X1 l1 y1 z1 st hQ
  subst l1 y1 z1
  exact ⟨v, T1, Lc, X1, hQ, fun _ k => st.trans k⟩
/-- invokeinterface -/
theorem own_callF (X : Stand p l e R s m args below meth c T locs cells slots) (hx : p.tables.exec = Jvm.exec) (hZ : Z.Warmed39 s.vm) {own C : String} (hown : s.vm.findClass own = some m.cls) {index count : Nat} {xi y : MethodName} {bytes : ByteArray} {maxL : Nat} {rt : Option FieldType}
    (w1 : (Jvm.Cond.methodLink own index xi).before a0 Z = true) (w2 : (Jvm.Cond.declares xi).before a0 Z = true) (wf : (Jvm.Cond.interfaceMethod xi.cls xi.cls xi.name xi.desc).before args s = true) (w5 : (Jvm.Cond.selects C xi y).before a0 Z = true) (w6 : (Jvm.Cond.instanceMethod y).before a0 Z = true) (wp : (Jvm.Cond.publicMethod y).before a0 Z = true) (wu : (Jvm.Cond.unhidden C xi.name xi.desc).before a0 Z = true) (wc : (Jvm.Cond.castable C xi.cls).before a0 Z = true) (w3 : (Jvm.Cond.initialized y.cls).before a0 Z = true) (w4 : (Jvm.Cond.code y bytes maxL rt).before a0 Z = true)
    (hy : xi.cls ≠ "java/lang/invoke/MethodHandle" ∧ xi.cls ≠ "java/lang/invoke/VarHandle") {rm : Room} {a : Addr} {argsL rest : List Value} {Q : Option Value → Heap → List Loc → Prop} (hE : Exa Z h a C) (eT : T.heap = h) (hM : own_Met l Z y bytes maxL rt [] rm (.ref a :: argsL).toArray h Q)
    {g : JFrame} (hg : g.method = m) (hsize : g.locals.size = c.maxLocals) (hlen : ∀ sig, parseMethodDescriptor xi.desc = some sig → argsL.length = sig.parameters.length) (hstack : g.stack = argsL.reverse ++ .ref a :: rest) {W : Nat} (hW : 2 * g.monitorRoom + (rest.map fun v => v.category).sum ≤ W) (hd : decode c.code g.pc = .ok (.invokeinterface index count, 5))
    (hf : rm.frames + 1 ≤ R.frames) (hl : W + (maxL + 11) + rm.locals ≤ R.locals) (hc : cells + rm.cells ≤ R.cells) (hs : slots + rm.slots ≤ R.slots) :
    ∃ v T' L, Stand p l e R s m args below meth c T' (locs ++ L) (cells + rm.cells) (slots + rm.slots) ∧ Q v T'.heap L ∧ ∀ target, Steps p.tables e below (T'.setTop { g with pc := g.pc + 5, stack := v.toList ++ rest }) target → Steps p.tables e below (T.setTop g) target := by
  obtain ⟨_, _, qa, qb, qc⟩ := isOf hZ eT hE
  obtain ⟨v, _, ⟨T1, L1, k1, n1⟩, -, X1, ⟨Lc, hQ, l1, y1, z1⟩, st⟩ := X.interfaceBack hx (xi := xi) (y := y) hown (mvT hZ w1) (mvT hZ w2) wf (mvT hZ w5) (mvT hZ w6) (mvT hZ wp) (mvT hZ wu) (mvT hZ wc) hy (backOf (W := W) hM hZ w4 w3 hf hl) qa qb qc (g := g) hg hsize (Steps.refl _) (argsL := argsL) (rest := rest) hlen hstack hW hd (fun _ _ => ⟨rfl, eT, hc, hs⟩)
  dsimp only [Pt.U, Pt.locs, Pt.cells, Pt.slots] at X1 l1 y1 z1 st hQ
  subst l1 y1 z1
  exact ⟨v, T1, Lc, X1, hQ, fun _ k => st.trans k⟩
theorem own_sa (hw : ∀ d ∈ tables_1, d.before a0 Z = true) : ∀ d ∈ Bundle.stringAtoms, d.before a0 Z = true := fun d hd => hw d ((by decide +kernel : ∀ d ∈ Bundle.stringAtoms, d ∈ tables_1) d hd)
end OwnW
def own_close : List Int32 := [99, 108, 111, 115, 101]
def own_keep : List Int32 := [107, 101, 101, 112, 45, 97, 108, 105, 118, 101]
def own_tb (c : Int32) : Int32 := c.toInt8.toInt32
def own_ch (x : Int32) : Prop := nar .char x = x ∧ ¬ x < 0 ∧ ¬ (255 : Int32) < x
def own_pre : List Int32 → List Int32 → Bool
  | [], _ => true
  | _ :: _, [] => false
  | y :: ys, x :: xs => x == y && own_pre ys xs
def own_has (ys : List Int32) : List Int32 → Bool
  | [] => own_pre ys []
  | x :: xs => own_pre ys (x :: xs) || own_has ys xs
def own_b (q : Bool) : Int32 := if q then 1 else 0
def own_ans (f : Int32) (xs : List Int32) : Int32 := if f = 0 then own_b (!own_has own_close xs) else own_b (own_has own_keep xs)
theorem own_pre_iff : ∀ (ys xs : List Int32), own_pre ys xs = true ↔ ys.length ≤ xs.length ∧ ∀ j, j < ys.length → xs.getD j 0 = ys.getD j 0 := by
  intro ys
  induction ys with
  | nil => intro xs; simp [own_pre]
  | cons y ys ih =>
    intro xs
    cases xs with
    | nil => simp [own_pre]
    | cons x xs =>
      simp only [own_pre, Bool.and_eq_true, beq_iff_eq, ih]
      constructor
      · rintro ⟨rfl, h1, h2⟩
        refine ⟨by simpa using h1, fun j hj => ?_⟩
        cases j with
        | zero => rfl
        | succ j => simpa using h2 j (by simpa using hj)
      · rintro ⟨h1, h2⟩
        exact ⟨by simpa using h2 0 (by simp), by simpa using h1, fun j hj => by simpa using h2 (j + 1) (by simpa using hj)⟩
theorem own_has_iff (ys : List Int32) : ∀ (xs : List Int32), own_has ys xs = true ↔ ∃ i, i + ys.length ≤ xs.length ∧ ∀ j, j < ys.length → xs.getD (i + j) 0 = ys.getD j 0 := by
  intro xs
  induction xs with
  | nil =>
    rw [show own_has ys [] = own_pre ys [] from rfl, own_pre_iff]
    constructor
    · rintro ⟨h1, h2⟩; exact ⟨0, by simpa using h1, fun j hj => by simpa using h2 j hj⟩
    · rintro ⟨i, h1, h2⟩; simp only [List.length_nil] at h1; exact ⟨by simp only [List.length_nil]; omega, fun j hj => absurd hj (by omega)⟩
  | cons x xs ih =>
    rw [show own_has ys (x :: xs) = (own_pre ys (x :: xs) || own_has ys xs) from rfl, Bool.or_eq_true, own_pre_iff, ih]
    constructor
    · rintro (⟨h1, h2⟩ | ⟨i, h1, h2⟩)
      · exact ⟨0, by simpa using h1, fun j hj => by simpa using h2 j hj⟩
      · exact ⟨i + 1, by simp only [List.length_cons]; omega, fun j hj => by rw [show i + 1 + j = (i + j) + 1 by omega]; simpa using h2 j hj⟩
    · rintro ⟨i, h1, h2⟩
      cases i with
      | zero => exact Or.inl ⟨by simpa using h1, fun j hj => by simpa using h2 j hj⟩
      | succ i =>
        refine Or.inr ⟨i, by simp only [List.length_cons] at h1; omega, fun j hj => ?_⟩
        have q := h2 j hj
        rw [show i + 1 + j = (i + j) + 1 by omega] at q
        simpa using q
def own_no (ys xs : List Int32) (i : Nat) : Prop := ∀ i', i' < i → i' + ys.length ≤ xs.length → ∃ j, j < ys.length ∧ ¬ xs.getD (i' + j) 0 = ys.getD j 0
theorem own_no_succ {ys xs : List Int32} {i : Nat} (h : own_no ys xs i) (q : xs.length < i + ys.length ∨ ∃ j, j < ys.length ∧ ¬ xs.getD (i + j) 0 = ys.getD j 0) : own_no ys xs (i + 1) := by
  intro i' h1 h2
  by_cases hi : i' < i
  · exact h i' hi h2
  · obtain rfl : i' = i := by omega
    rcases q with q | q
    · omega
    · exact q
theorem own_no_end {ys xs : List Int32} {i : Nat} (h : own_no ys xs i) (hi : xs.length < i + ys.length) : own_has ys xs = false := by
  cases hb : own_has ys xs with
  | false => rfl
  | true =>
    obtain ⟨i', h1, h2⟩ := (own_has_iff ys xs).mp hb
    obtain ⟨j, h3, h4⟩ := h i' (by omega) h1
    exact absurd (h2 j h3) h4
theorem own_sm (k a : Int) (h : (k - a) % 4294967296 = 0) (h1 : -2147483648 ≤ k ∧ k < 2147483648) (h2 : -2147483648 ≤ a ∧ a < 2147483648) : k = a := by omega
theorem own_ti {n : Nat} (h : n ≤ 100000) : (Int32.ofNat n).toInt = (n : Int) := Int32.toInt_ofNat_small (by omega)
theorem own_tn {n : Nat} (h : n ≤ 100000) : (Int32.ofNat n).toNatClampNeg = n := Int32.toNatClampNeg_ofNat_of_lt (by omega)
theorem own_lt {a b : Nat} (ha : a ≤ 100000) (hb : b ≤ 100000) : Int32.ofNat a < Int32.ofNat b ↔ a < b := by
  rw [Int32.lt_iff_toInt_lt, own_ti ha, own_ti hb]; omega
theorem own_nn {a : Nat} (ha : a ≤ 100000) : ¬ Int32.ofNat a < 0 := by
  rw [Int32.lt_iff_toInt_lt, own_ti ha]
  show ¬ (a : Int) < 0
  omega
theorem own_eqn {a b : Nat} (ha : a ≤ 100000) (hb : b ≤ 100000) : Int32.ofNat a = Int32.ofNat b ↔ a = b := by
  rw [← Int32.toInt_inj, own_ti ha, own_ti hb]; omega
theorem own_inc {i : Nat} (hi : i ≤ 50000) : Int32.ofNat i + 1 = Int32.ofNat (i + 1) := by
  apply Int32.toInt_inj.mp
  have e1 : (1 : Int32).toInt = 1 := rfl
  rw [own_sm _ _ (c_iadd (Int32.ofNat i) 1) (rng32 _) (by rw [own_ti (by omega), e1]; omega), own_ti (by omega), own_ti (by omega), e1]; omega
theorem own_end {i n : Nat} (hi : i ≤ 10000) (hn : n ≤ 10000) : Int32.ofNat (i + 1) + Int32.ofNat n - 1 = Int32.ofNat (i + n) := by
  apply Int32.toInt_inj.mp
  have e1 : (1 : Int32).toInt = 1 := rfl
  have e2 : (Int32.ofNat (i + 1) + Int32.ofNat n).toInt = ((i + 1 + n : Nat) : Int) := by
    rw [own_sm _ _ (c_iadd _ _) (rng32 _) (by rw [own_ti (by omega), own_ti (by omega)]; omega), own_ti (by omega), own_ti (by omega)]; omega
  rw [own_sm _ _ (c_isub _ _) (rng32 _) (by rw [e2, e1]; omega), e2, e1, own_ti (by omega)]; omega
theorem own_mx {n m i : Nat} (hn : n ≤ 10000) (hm : m ≤ 10000) (hi : i ≤ 50000) : Int32.ofNat n - Int32.ofNat m < Int32.ofNat i ↔ n < i + m := by
  have e2 : (Int32.ofNat n - Int32.ofNat m).toInt = (n : Int) - (m : Int) := by
    rw [own_sm _ _ (c_isub _ _) (rng32 _) (by rw [own_ti (by omega), own_ti (by omega)]; omega), own_ti (by omega), own_ti (by omega)]
  rw [Int32.lt_iff_toInt_lt, e2, own_ti (by omega)]; omega
theorem own_gd (xs : List Int32) {i : Nat} (hi : i ≤ 100000) : (xs.map Value.int).getD (Int32.ofNat i).toNatClampNeg (.int 0) = .int (xs.getD i 0) := by
  rw [own_tn hi, List.getD_eq_getElem?_getD, List.getD_eq_getElem?_getD, List.getElem?_map]
  cases xs[i]? <;> rfl
theorem own_gd0 (xs : List Int32) : (xs.map Value.int).getD (0 : Int32).toNatClampNeg (.int 0) = .int (xs.getD 0 0) := own_gd xs (i := 0) (by omega)
theorem own_inb {n i : Nat} (hn : n ≤ 10000) (hi : i < n) : ¬ Int32.ofNat i < 0 ∧ Int32.ofNat i < Int32.ofNat n := ⟨own_nn (by omega), (own_lt (by omega) (by omega)).mpr hi⟩
theorem own_hk {h h' : Heap} {Z : State} (hk : ∀ (b : Addr) (cl : Cell), Z.heap[b]? = some cl → h[b]? = some cl) (K : Keep h h' []) : ∀ (b : Addr) (cl : Cell), Z.heap[b]? = some cl → h'[b]? = some cl := fun b cl q => K.2.1 b cl (hk b cl q) (by simp)
theorem own_byte (n : Nat) (hn : n < 256) : (own_tb (Int32.ofNat n) = 99 ↔ Int32.ofNat n = 99) ∧ (own_tb (Int32.ofNat n) = 101 ↔ Int32.ofNat n = 101) ∧ (own_tb (Int32.ofNat n) = 107 ↔ Int32.ofNat n = 107) ∧ (own_tb (Int32.ofNat n) = 45 ↔ Int32.ofNat n = 45) ∧ (own_tb (Int32.ofNat n) = 111 ↔ Int32.ofNat n = 111) := by
  have q : ∀ n : Fin 256, (own_tb (Int32.ofNat n.val) = 99 ↔ Int32.ofNat n.val = 99) ∧ (own_tb (Int32.ofNat n.val) = 101 ↔ Int32.ofNat n.val = 101) ∧ (own_tb (Int32.ofNat n.val) = 107 ↔ Int32.ofNat n.val = 107) ∧ (own_tb (Int32.ofNat n.val) = 45 ↔ Int32.ofNat n.val = 45) ∧ (own_tb (Int32.ofNat n.val) = 111 ↔ Int32.ofNat n.val = 111) := by decide +kernel
  exact q ⟨n, hn⟩
theorem own_small {x : Int32} (h : own_ch x) : ∃ n, n < 256 ∧ x = Int32.ofNat n := by
  obtain ⟨-, h1, h2⟩ := h
  rw [Int32.lt_iff_toInt_lt] at h1 h2
  have e0 : (0 : Int32).toInt = 0 := rfl
  have e1 : (255 : Int32).toInt = 255 := rfl
  refine ⟨x.toInt.toNat, by omega, ?_⟩
  apply Int32.toInt_inj.mp
  rw [own_ti (by omega)]; omega
theorem own_tbq {x : Int32} (h : own_ch x) : (own_tb x = 99 ↔ x = 99) ∧ (own_tb x = 101 ↔ x = 101) ∧ (own_tb x = 107 ↔ x = 107) ∧ (own_tb x = 45 ↔ x = 45) ∧ (own_tb x = 111 ↔ x = 111) := by
  obtain ⟨n, h1, rfl⟩ := own_small h
  exact own_byte n h1
theorem own_t45 : own_tb 45 = 45 := by decide
theorem own_t97 : own_tb 97 = 97 := by decide
theorem own_t99 : own_tb 99 = 99 := by decide
theorem own_t101 : own_tb 101 = 101 := by decide
theorem own_t105 : own_tb 105 = 105 := by decide
theorem own_t107 : own_tb 107 = 107 := by decide
theorem own_t108 : own_tb 108 = 108 := by decide
theorem own_t111 : own_tb 111 = 111 := by decide
theorem own_t112 : own_tb 112 = 112 := by decide
theorem own_t115 : own_tb 115 = 115 := by decide
theorem own_t118 : own_tb 118 = 118 := by decide
theorem own_keep0 (va vb : Int32) : own_has own_keep ([va, 99, 108, 111, 115, 101, vb].map own_tb) = false := by
  simp [own_has, own_pre, own_keep, own_t45, own_t97, own_t99, own_t101, own_t105, own_t107, own_t108, own_t111, own_t112, own_t115, own_t118]
theorem own_close0 (va vb : Int32) : own_has own_close ([va, 99, 108, 111, 115, 101, vb].map own_tb) = true := by
  simp [own_has, own_pre, own_close, own_t45, own_t97, own_t99, own_t101, own_t105, own_t107, own_t108, own_t111, own_t112, own_t115, own_t118]
theorem own_keep1 (va vb : Int32) : own_has own_keep ([va, 107, 101, 101, 112, 45, 97, 108, 105, 118, 101, vb].map own_tb) = true := by
  simp [own_has, own_pre, own_keep, own_t45, own_t97, own_t99, own_t101, own_t105, own_t107, own_t108, own_t111, own_t112, own_t115, own_t118]
theorem own_close1 (va vb : Int32) : own_has own_close ([va, 107, 101, 101, 112, 45, 97, 108, 105, 118, 101, vb].map own_tb) = false := by
  simp [own_has, own_pre, own_close, own_t45, own_t97, own_t99, own_t101, own_t105, own_t107, own_t108, own_t111, own_t112, own_t115, own_t118]
theorem own_keep2 (va vb : Int32) : own_has own_keep ([107, 101, 101, 112, 45, 97, 108, 105, 118, 101, va, 99, 108, 111, 115, 101].map own_tb) = true := by
  simp [own_has, own_pre, own_keep, own_t45, own_t97, own_t99, own_t101, own_t105, own_t107, own_t108, own_t111, own_t112, own_t115, own_t118]
theorem own_close2 (va vb : Int32) : own_has own_close ([107, 101, 101, 112, 45, 97, 108, 105, 118, 101, va, 99, 108, 111, 115, 101].map own_tb) = true := by
  simp [own_has, own_pre, own_close, own_t45, own_t97, own_t99, own_t101, own_t105, own_t107, own_t108, own_t111, own_t112, own_t115, own_t118]
theorem own_keep3 (va vb : Int32) : own_has own_keep ([va, vb, 107].map own_tb) = false := by
  simp [own_has, own_pre, own_keep, own_t45, own_t97, own_t99, own_t101, own_t105, own_t107, own_t108, own_t111, own_t112, own_t115, own_t118]
theorem own_close3 (va vb : Int32) : own_has own_close ([va, vb, 107].map own_tb) = false := by
  simp [own_has, own_pre, own_close, own_t45, own_t97, own_t99, own_t101, own_t105, own_t107, own_t108, own_t111, own_t112, own_t115, own_t118]
theorem own_keep4 (va vb : Int32) : own_has own_keep ([va, 108, 111, 115, vb].map own_tb) = false := by
  simp [own_has, own_pre, own_keep, own_t45, own_t97, own_t99, own_t101, own_t105, own_t107, own_t108, own_t111, own_t112, own_t115, own_t118]
theorem own_close4 (va vb : Int32) : own_has own_close ([va, 108, 111, 115, vb].map own_tb) = (own_tb va == 99 && own_tb vb == 101) := by
  simp [own_has, own_pre, own_close, own_t45, own_t97, own_t99, own_t101, own_t105, own_t107, own_t108, own_t111, own_t112, own_t115, own_t118]
theorem own_keep5 (va vb : Int32) : own_has own_keep ([va, 101, 101, 112, 45, 97, 108, 105, 118, vb].map own_tb) = (own_tb va == 107 && own_tb vb == 101) := by
  simp [own_has, own_pre, own_keep, own_t45, own_t97, own_t99, own_t101, own_t105, own_t107, own_t108, own_t111, own_t112, own_t115, own_t118]
theorem own_close5 (va vb : Int32) : own_has own_close ([va, 101, 101, 112, 45, 97, 108, 105, 118, vb].map own_tb) = false := by
  simp [own_has, own_pre, own_close, own_t45, own_t97, own_t99, own_t101, own_t105, own_t107, own_t108, own_t111, own_t112, own_t115, own_t118]
theorem own_keep7 (va vb : Int32) : own_has own_keep ([107, 101, 101, 112, va, 97, 108, 105, 118, 101, vb].map own_tb) = (own_tb va == 45) := by
  simp [own_has, own_pre, own_keep, own_t45, own_t97, own_t99, own_t101, own_t105, own_t107, own_t108, own_t111, own_t112, own_t115, own_t118]
theorem own_close7 (va vb : Int32) : own_has own_close ([107, 101, 101, 112, va, 97, 108, 105, 118, 101, vb].map own_tb) = false := by
  simp [own_has, own_pre, own_close, own_t45, own_t97, own_t99, own_t101, own_t105, own_t107, own_t108, own_t111, own_t112, own_t115, own_t118]
theorem own_keep8 (va vb : Int32) : own_has own_keep ([99, 108, va, 115, 101, vb].map own_tb) = false := by
  simp [own_has, own_pre, own_keep, own_t45, own_t97, own_t99, own_t101, own_t105, own_t107, own_t108, own_t111, own_t112, own_t115, own_t118]
theorem own_close8 (va vb : Int32) : own_has own_close ([99, 108, va, 115, 101, vb].map own_tb) = (own_tb va == 111) := by
  simp [own_has, own_pre, own_close, own_t45, own_t97, own_t99, own_t101, own_t105, own_t107, own_t108, own_t111, own_t112, own_t115, own_t118]
theorem own_keep9 (va vb : Int32) : own_has own_keep ([99, 108, 111, 115, 101, va, 107, 101, 101, 112, 45, 97, 108, 105, 118, 101].map own_tb) = true := by
  simp [own_has, own_pre, own_keep, own_t45, own_t97, own_t99, own_t101, own_t105, own_t107, own_t108, own_t111, own_t112, own_t115, own_t118]
theorem own_close9 (va vb : Int32) : own_has own_close ([99, 108, 111, 115, 101, va, 107, 101, 101, 112, 45, 97, 108, 105, 118, 101].map own_tb) = true := by
  simp [own_has, own_pre, own_close, own_t45, own_t97, own_t99, own_t101, own_t105, own_t107, own_t108, own_t111, own_t112, own_t115, own_t118]
theorem own_all8 : ∀ n : Fin 256, own_ch ((Int32.ofNat n.val).toUInt32.toUInt16.toUInt32.toInt32) ∧ (¬ ((Int32.ofNat n.val).toUInt32.toUInt16.toUInt32.toInt32) < 65 → ¬ 90 < ((Int32.ofNat n.val).toUInt32.toUInt16.toUInt32.toInt32) → own_ch ((((Int32.ofNat n.val).toUInt32.toUInt16.toUInt32.toInt32) + (32 : Int32)).toUInt32.toUInt16.toUInt32.toInt32)) := by
  unfold own_ch
  decide +kernel
theorem own_and8 (x : Int32) : ∃ n : Fin 256, x &&& 255 = Int32.ofNat n.val := by
  have h := c_mask x 255 8 (by decide) (by decide)
  have h0 : 0 ≤ (x &&& 255).toInt ∧ (x &&& 255).toInt < 256 := by rw [h]; omega
  refine ⟨⟨(x &&& 255).toInt.toNat, by omega⟩, ?_⟩
  apply Int32.toInt_inj.mp
  rw [own_ti (by show (x &&& 255).toInt.toNat ≤ _; omega)]
  show _ = (((x &&& 255).toInt.toNat : Nat) : Int)
  omega
theorem own_lowx (p1 : Int32) : own_ch ((p1 &&& (255 : Int32)).toUInt32.toUInt16.toUInt32.toInt32) := by
  obtain ⟨n, h⟩ := own_and8 p1
  rw [h]; exact (own_all8 n).1
theorem own_lowu (p1 : Int32) (h1 : ¬ ((p1 &&& (255 : Int32)).toUInt32.toUInt16.toUInt32.toInt32) < 65) (h2 : ¬ 90 < ((p1 &&& (255 : Int32)).toUInt32.toUInt16.toUInt32.toInt32)) : own_ch ((((p1 &&& (255 : Int32)).toUInt32.toUInt16.toUInt32.toInt32) + (32 : Int32)).toUInt32.toUInt16.toUInt32.toInt32) := by
  obtain ⟨n, h⟩ := own_and8 p1
  rw [h] at h1 h2 ⊢; exact (own_all8 n).2 h1 h2
def Q_rm1 (Z : State) (p1 : Int32) (h0 : Heap) (n0 : Nat) (v : Option Value) (h : Heap) (L : List Loc) : Prop := ∃ y : Int32, v = some (.int y) ∧ own_ch y ∧ Fr n0 L ∧ h = h0
theorem pn_rm1 : plainFor (⟨"com/example/tolk/tolk/query/Http1KeepsAlivePinLaw", "lower", "(I)C"⟩ : MethodName) = true := by first | exact plainFor_of_name (by first | (simp [plainName, overriddenIn, x]; done) | decide +kernel) | decide +kernel
theorem d1_0 : decode method_2_code 0 = .ok (.iload_n 0, 1) := by decide +kernel
theorem d1_1 : decode method_2_code 1 = .ok (.sipush 255, 3) := by decide +kernel
theorem d1_4 : decode method_2_code 4 = .ok (.iand, 1) := by decide +kernel
theorem d1_5 : decode method_2_code 5 = .ok (.i2c, 1) := by decide +kernel
theorem d1_6 : decode method_2_code 6 = .ok (.istore_n 1, 1) := by decide +kernel
theorem d1_7 : decode method_2_code 7 = .ok (.iload_n 1, 1) := by decide +kernel
theorem d1_8 : decode method_2_code 8 = .ok (.bipush 65, 2) := by decide +kernel
theorem d1_10 : decode method_2_code 10 = .ok (.if_icmp .lt 15, 3) := by decide +kernel
theorem d1_25 : decode method_2_code 25 = .ok (.iload_n 1, 1) := by decide +kernel
theorem d1_26 : decode method_2_code 26 = .ok (.ireturn, 1) := by decide +kernel
theorem d1_13 : decode method_2_code 13 = .ok (.iload_n 1, 1) := by decide +kernel
theorem d1_14 : decode method_2_code 14 = .ok (.bipush 90, 2) := by decide +kernel
theorem d1_16 : decode method_2_code 16 = .ok (.if_icmp .gt 9, 3) := by decide +kernel
theorem d1_19 : decode method_2_code 19 = .ok (.iload_n 1, 1) := by decide +kernel
theorem d1_20 : decode method_2_code 20 = .ok (.bipush 32, 2) := by decide +kernel
theorem d1_22 : decode method_2_code 22 = .ok (.iadd, 1) := by decide +kernel
theorem d1_23 : decode method_2_code 23 = .ok (.i2c, 1) := by decide +kernel
theorem d1_24 : decode method_2_code 24 = .ok (.istore_n 1, 1) := by decide +kernel
set_option maxRecDepth 65536 in
set_option maxHeartbeats 40000000 in
theorem rm1 (l : Launch) (Z : State) (a0 : Array Value) (hw : ∀ d ∈ tables_1, d.before a0 Z = true) (ws : List Jvm.Cond) (p1 : Int32) (h0 : Heap) (n0 : Nat) (Z0 : n0 ≤ h0.size)  :
    own_Met l Z (⟨"com/example/tolk/tolk/query/Http1KeepsAlivePinLaw", "lower", "(I)C"⟩ : MethodName) method_2_code 2 (some .char) ws ({ frames := 0, cells := 0, slots := 0, locals := 0 } : Room) #[(.int p1)] h0 (Q_rm1 Z p1 h0 n0) := by
  refine own_enter (g0 := fun m => (mkF m 0 #[.val (.int p1), .unset] [])) pn_rm1 (fun m => by first | (simp [entryFrame, mkF, argsToLocals, Value.category, maxLocals]; done) | rfl) ?_
  intro p e s m below meth c s₁ hx hby hml hown hnm hret hlk hZ X0 e0
  have hml : c.maxLocals = 2 := hml
  have hown : s.vm.findClass "com/example/tolk/tolk/query/Http1KeepsAlivePinLaw" = some m.cls := hown
  have N0 := Fr.nil n0
  show own_Go p e below _ s₁ (mkF m 0 #[.val (.int p1), .unset] [])
  refine own_by (fun _ k => XS.iloadN X0.here hx rfl (hb hby d1_0) rfl k) ?_
  show own_Go p e below _ s₁ (mkF m 1 #[.val (.int p1), .unset] [(.int p1)])
  refine own_by (fun _ k => XS.sipush X0.here hx rfl (hb hby d1_1) k) ?_
  show own_Go p e below _ s₁ (mkF m 4 #[.val (.int p1), .unset] [(.int (255 : Int32)), (.int p1)])
  refine own_by (fun _ k => XS.iand X0.here hx rfl (hb hby d1_4) rfl k) ?_
  show own_Go p e below _ s₁ (mkF m 5 #[.val (.int p1), .unset] [(.int (p1 &&& (255 : Int32)))])
  refine own_by (fun _ k => XS.i2c X0.here hx rfl (hb hby d1_5) rfl k) ?_
  show own_Go p e below _ s₁ (mkF m 6 #[.val (.int p1), .unset] [(.int ((p1 &&& (255 : Int32)).toUInt32.toUInt16.toUInt32.toInt32))])
  refine own_by (fun _ k => XS.istoreN X0.here hx rfl (hb hby d1_6) rfl (l' := #[.val (.int p1), .val (.int ((p1 &&& (255 : Int32)).toUInt32.toUInt16.toUInt32.toInt32))]) rfl k) ?_
  show own_Go p e below _ s₁ (mkF m 7 #[.val (.int p1), .val (.int ((p1 &&& (255 : Int32)).toUInt32.toUInt16.toUInt32.toInt32))] [])
  refine own_by (fun _ k => XS.iloadN X0.here hx rfl (hb hby d1_7) rfl k) ?_
  show own_Go p e below _ s₁ (mkF m 8 #[.val (.int p1), .val (.int ((p1 &&& (255 : Int32)).toUInt32.toUInt16.toUInt32.toInt32))] [(.int ((p1 &&& (255 : Int32)).toUInt32.toUInt16.toUInt32.toInt32))])
  refine own_by (fun _ k => XS.bipush X0.here hx rfl (hb hby d1_8) k) ?_
  show own_Go p e below _ s₁ (mkF m 10 #[.val (.int p1), .val (.int ((p1 &&& (255 : Int32)).toUInt32.toUInt16.toUInt32.toInt32))] [(.int (65 : Int32)), (.int ((p1 &&& (255 : Int32)).toUInt32.toUInt16.toUInt32.toInt32))])
  have hx0 := own_lowx p1
  by_cases h1 : ((p1 &&& (255 : Int32)).toUInt32.toUInt16.toUInt32.toInt32) < (65 : Int32)
  · refine own_by (fun _ k => XS.icmpYes X0.here hx rfl (pc0 := 10) (pc' := 25) rfl (hb hby d1_10) rfl (tlt (h1 : ((p1 &&& (255 : Int32)).toUInt32.toUInt16.toUInt32.toInt32) < (65 : Int32))).1 (by decide) (by decide) k) ?_
    show own_Go p e below _ s₁ (mkF m 25 #[.val (.int p1), .val (.int ((p1 &&& (255 : Int32)).toUInt32.toUInt16.toUInt32.toInt32))] [])
    refine own_by (fun _ k => XS.iloadN X0.here hx rfl (hb hby d1_25) rfl k) ?_
    show own_Go p e below _ s₁ (mkF m 26 #[.val (.int p1), .val (.int ((p1 &&& (255 : Int32)).toUInt32.toUInt16.toUInt32.toInt32))] [(.int ((p1 &&& (255 : Int32)).toUInt32.toUInt16.toUInt32.toInt32))])
    exact own_retN X0 hx hlk hret (by simp) (hx0.1) (hb hby d1_26) (by first | exact ⟨_, rfl, hx0, N0, rfl⟩ | (rw [e0]; exact ⟨_, rfl, hx0, N0, rfl⟩)) (by decide) (by decide)
  · refine own_by (fun _ k => XS.icmpNo X0.here hx rfl (hb hby d1_10) rfl (flt (h1 : ¬ (((p1 &&& (255 : Int32)).toUInt32.toUInt16.toUInt32.toInt32) < (65 : Int32)))).1 k) ?_
    show own_Go p e below _ s₁ (mkF m 13 #[.val (.int p1), .val (.int ((p1 &&& (255 : Int32)).toUInt32.toUInt16.toUInt32.toInt32))] [])
    refine own_by (fun _ k => XS.iloadN X0.here hx rfl (hb hby d1_13) rfl k) ?_
    show own_Go p e below _ s₁ (mkF m 14 #[.val (.int p1), .val (.int ((p1 &&& (255 : Int32)).toUInt32.toUInt16.toUInt32.toInt32))] [(.int ((p1 &&& (255 : Int32)).toUInt32.toUInt16.toUInt32.toInt32))])
    refine own_by (fun _ k => XS.bipush X0.here hx rfl (hb hby d1_14) k) ?_
    show own_Go p e below _ s₁ (mkF m 16 #[.val (.int p1), .val (.int ((p1 &&& (255 : Int32)).toUInt32.toUInt16.toUInt32.toInt32))] [(.int (90 : Int32)), (.int ((p1 &&& (255 : Int32)).toUInt32.toUInt16.toUInt32.toInt32))])
    by_cases h2 : (90 : Int32) < ((p1 &&& (255 : Int32)).toUInt32.toUInt16.toUInt32.toInt32)
    · refine own_by (fun _ k => XS.icmpYes X0.here hx rfl (pc0 := 16) (pc' := 25) rfl (hb hby d1_16) rfl (tlt (h2 : (90 : Int32) < ((p1 &&& (255 : Int32)).toUInt32.toUInt16.toUInt32.toInt32))).2.2.1 (by decide) (by decide) k) ?_
      show own_Go p e below _ s₁ (mkF m 25 #[.val (.int p1), .val (.int ((p1 &&& (255 : Int32)).toUInt32.toUInt16.toUInt32.toInt32))] [])
      refine own_by (fun _ k => XS.iloadN X0.here hx rfl (hb hby d1_25) rfl k) ?_
      show own_Go p e below _ s₁ (mkF m 26 #[.val (.int p1), .val (.int ((p1 &&& (255 : Int32)).toUInt32.toUInt16.toUInt32.toInt32))] [(.int ((p1 &&& (255 : Int32)).toUInt32.toUInt16.toUInt32.toInt32))])
      exact own_retN X0 hx hlk hret (by simp) (hx0.1) (hb hby d1_26) (by first | exact ⟨_, rfl, hx0, N0, rfl⟩ | (rw [e0]; exact ⟨_, rfl, hx0, N0, rfl⟩)) (by decide) (by decide)
    · refine own_by (fun _ k => XS.icmpNo X0.here hx rfl (hb hby d1_16) rfl (flt (h2 : ¬ ((90 : Int32) < ((p1 &&& (255 : Int32)).toUInt32.toUInt16.toUInt32.toInt32)))).2.2.1 k) ?_
      show own_Go p e below _ s₁ (mkF m 19 #[.val (.int p1), .val (.int ((p1 &&& (255 : Int32)).toUInt32.toUInt16.toUInt32.toInt32))] [])
      refine own_by (fun _ k => XS.iloadN X0.here hx rfl (hb hby d1_19) rfl k) ?_
      show own_Go p e below _ s₁ (mkF m 20 #[.val (.int p1), .val (.int ((p1 &&& (255 : Int32)).toUInt32.toUInt16.toUInt32.toInt32))] [(.int ((p1 &&& (255 : Int32)).toUInt32.toUInt16.toUInt32.toInt32))])
      refine own_by (fun _ k => XS.bipush X0.here hx rfl (hb hby d1_20) k) ?_
      show own_Go p e below _ s₁ (mkF m 22 #[.val (.int p1), .val (.int ((p1 &&& (255 : Int32)).toUInt32.toUInt16.toUInt32.toInt32))] [(.int (32 : Int32)), (.int ((p1 &&& (255 : Int32)).toUInt32.toUInt16.toUInt32.toInt32))])
      refine own_by (fun _ k => XS.iadd X0.here hx rfl (hb hby d1_22) rfl k) ?_
      show own_Go p e below _ s₁ (mkF m 23 #[.val (.int p1), .val (.int ((p1 &&& (255 : Int32)).toUInt32.toUInt16.toUInt32.toInt32))] [(.int (((p1 &&& (255 : Int32)).toUInt32.toUInt16.toUInt32.toInt32) + (32 : Int32)))])
      refine own_by (fun _ k => XS.i2c X0.here hx rfl (hb hby d1_23) rfl k) ?_
      show own_Go p e below _ s₁ (mkF m 24 #[.val (.int p1), .val (.int ((p1 &&& (255 : Int32)).toUInt32.toUInt16.toUInt32.toInt32))] [(.int ((((p1 &&& (255 : Int32)).toUInt32.toUInt16.toUInt32.toInt32) + (32 : Int32)).toUInt32.toUInt16.toUInt32.toInt32))])
      refine own_by (fun _ k => XS.istoreN X0.here hx rfl (hb hby d1_24) rfl (l' := #[.val (.int p1), .val (.int ((((p1 &&& (255 : Int32)).toUInt32.toUInt16.toUInt32.toInt32) + (32 : Int32)).toUInt32.toUInt16.toUInt32.toInt32))]) rfl k) ?_
      show own_Go p e below _ s₁ (mkF m 25 #[.val (.int p1), .val (.int ((((p1 &&& (255 : Int32)).toUInt32.toUInt16.toUInt32.toInt32) + (32 : Int32)).toUInt32.toUInt16.toUInt32.toInt32))] [])
      refine own_by (fun _ k => XS.iloadN X0.here hx rfl (hb hby d1_25) rfl k) ?_
      show own_Go p e below _ s₁ (mkF m 26 #[.val (.int p1), .val (.int ((((p1 &&& (255 : Int32)).toUInt32.toUInt16.toUInt32.toInt32) + (32 : Int32)).toUInt32.toUInt16.toUInt32.toInt32))] [(.int ((((p1 &&& (255 : Int32)).toUInt32.toUInt16.toUInt32.toInt32) + (32 : Int32)).toUInt32.toUInt16.toUInt32.toInt32))])
      have hq := own_lowu p1 h1 h2
      exact own_retN X0 hx hlk hret (by simp) (hq.1) (hb hby d1_26) (by first | exact ⟨_, rfl, hq, N0, rfl⟩ | (rw [e0]; exact ⟨_, rfl, hq, N0, rfl⟩)) (by decide) (by decide)
def Q_rm15 (Z : State) (t1 t2 : Addr) (k1 k2 : ClassId) (xs ys : List Int32) (h0 : Heap) (n0 : Nat) (v : Option Value) (h : Heap) (L : List Loc) : Prop := ∃ r : Int32, v = some (.int r) ∧ (r < 0 ↔ own_has ys xs = false) ∧ Fr n0 L ∧ h = h0
theorem pn_rm15 : plainFor (⟨"java/lang/StringLatin1", "indexOf", "([BI[BII)I"⟩ : MethodName) = true := by first | exact plainFor_of_name (by first | (simp [plainName, overriddenIn, x]; done) | decide +kernel) | decide +kernel
theorem d15_0 : decode jdk_43_method_25_code 0 = .ok (.aload_n 2, 1) := by decide +kernel
theorem d15_1 : decode jdk_43_method_25_code 1 = .ok (.iconst 0, 1) := by decide +kernel
theorem d15_2 : decode jdk_43_method_25_code 2 = .ok (.baload, 1) := by decide +kernel
theorem d15_3 : decode jdk_43_method_25_code 3 = .ok (.istore 5, 2) := by decide +kernel
theorem d15_5 : decode jdk_43_method_25_code 5 = .ok (.iload_n 1, 1) := by decide +kernel
theorem d15_6 : decode jdk_43_method_25_code 6 = .ok (.iload_n 3, 1) := by decide +kernel
theorem d15_7 : decode jdk_43_method_25_code 7 = .ok (.isub, 1) := by decide +kernel
theorem d15_8 : decode jdk_43_method_25_code 8 = .ok (.istore 6, 2) := by decide +kernel
theorem d15_10 : decode jdk_43_method_25_code 10 = .ok (.iload 4, 2) := by decide +kernel
theorem d15_12 : decode jdk_43_method_25_code 12 = .ok (.istore 7, 2) := by decide +kernel
theorem d15_14 : decode jdk_43_method_25_code 14 = .ok (.iload 7, 2) := by decide +kernel
theorem d15_16 : decode jdk_43_method_25_code 16 = .ok (.iload 6, 2) := by decide +kernel
theorem d15_18 : decode jdk_43_method_25_code 18 = .ok (.if_icmp .gt 101, 3) := by decide +kernel
theorem d15_119 : decode jdk_43_method_25_code 119 = .ok (.iconst (-1), 1) := by decide +kernel
theorem d15_120 : decode jdk_43_method_25_code 120 = .ok (.ireturn, 1) := by decide +kernel
theorem d15_113 : decode jdk_43_method_25_code 113 = .ok (.iinc 7 1, 3) := by decide +kernel
theorem d15_116 : decode jdk_43_method_25_code 116 = .ok (.goto (-102), 3) := by decide +kernel
theorem d15_52 : decode jdk_43_method_25_code 52 = .ok (.iload 7, 2) := by decide +kernel
theorem d15_54 : decode jdk_43_method_25_code 54 = .ok (.iload 6, 2) := by decide +kernel
theorem d15_56 : decode jdk_43_method_25_code 56 = .ok (.if_icmp .gt 57, 3) := by decide +kernel
theorem d15_76 : decode jdk_43_method_25_code 76 = .ok (.iload 8, 2) := by decide +kernel
theorem d15_78 : decode jdk_43_method_25_code 78 = .ok (.iload 9, 2) := by decide +kernel
theorem d15_80 : decode jdk_43_method_25_code 80 = .ok (.if_icmp .ge 23, 3) := by decide +kernel
theorem d15_103 : decode jdk_43_method_25_code 103 = .ok (.iload 8, 2) := by decide +kernel
theorem d15_105 : decode jdk_43_method_25_code 105 = .ok (.iload 9, 2) := by decide +kernel
theorem d15_107 : decode jdk_43_method_25_code 107 = .ok (.if_icmp .ne 6, 3) := by decide +kernel
theorem d15_110 : decode jdk_43_method_25_code 110 = .ok (.iload 7, 2) := by decide +kernel
theorem d15_112 : decode jdk_43_method_25_code 112 = .ok (.ireturn, 1) := by decide +kernel
theorem d15_83 : decode jdk_43_method_25_code 83 = .ok (.aload_n 0, 1) := by decide +kernel
theorem d15_84 : decode jdk_43_method_25_code 84 = .ok (.iload 8, 2) := by decide +kernel
theorem d15_86 : decode jdk_43_method_25_code 86 = .ok (.baload, 1) := by decide +kernel
theorem d15_87 : decode jdk_43_method_25_code 87 = .ok (.aload_n 2, 1) := by decide +kernel
theorem d15_88 : decode jdk_43_method_25_code 88 = .ok (.iload 10, 2) := by decide +kernel
theorem d15_90 : decode jdk_43_method_25_code 90 = .ok (.baload, 1) := by decide +kernel
theorem d15_91 : decode jdk_43_method_25_code 91 = .ok (.if_icmp .ne 12, 3) := by decide +kernel
theorem d15_94 : decode jdk_43_method_25_code 94 = .ok (.iinc 8 1, 3) := by decide +kernel
theorem d15_97 : decode jdk_43_method_25_code 97 = .ok (.iinc 10 1, 3) := by decide +kernel
theorem d15_100 : decode jdk_43_method_25_code 100 = .ok (.goto (-24), 3) := by decide +kernel
theorem d15_59 : decode jdk_43_method_25_code 59 = .ok (.iload 7, 2) := by decide +kernel
theorem d15_61 : decode jdk_43_method_25_code 61 = .ok (.iconst 1, 1) := by decide +kernel
theorem d15_62 : decode jdk_43_method_25_code 62 = .ok (.iadd, 1) := by decide +kernel
theorem d15_63 : decode jdk_43_method_25_code 63 = .ok (.istore 8, 2) := by decide +kernel
theorem d15_65 : decode jdk_43_method_25_code 65 = .ok (.iload 8, 2) := by decide +kernel
theorem d15_67 : decode jdk_43_method_25_code 67 = .ok (.iload_n 3, 1) := by decide +kernel
theorem d15_68 : decode jdk_43_method_25_code 68 = .ok (.iadd, 1) := by decide +kernel
theorem d15_69 : decode jdk_43_method_25_code 69 = .ok (.iconst 1, 1) := by decide +kernel
theorem d15_70 : decode jdk_43_method_25_code 70 = .ok (.isub, 1) := by decide +kernel
theorem d15_71 : decode jdk_43_method_25_code 71 = .ok (.istore 9, 2) := by decide +kernel
theorem d15_73 : decode jdk_43_method_25_code 73 = .ok (.iconst 1, 1) := by decide +kernel
theorem d15_74 : decode jdk_43_method_25_code 74 = .ok (.istore 10, 2) := by decide +kernel
theorem d15_30 : decode jdk_43_method_25_code 30 = .ok (.iinc 7 1, 3) := by decide +kernel
theorem d15_33 : decode jdk_43_method_25_code 33 = .ok (.iload 7, 2) := by decide +kernel
theorem d15_35 : decode jdk_43_method_25_code 35 = .ok (.iload 6, 2) := by decide +kernel
theorem d15_37 : decode jdk_43_method_25_code 37 = .ok (.if_icmp .gt 15, 3) := by decide +kernel
theorem d15_40 : decode jdk_43_method_25_code 40 = .ok (.aload_n 0, 1) := by decide +kernel
theorem d15_41 : decode jdk_43_method_25_code 41 = .ok (.iload 7, 2) := by decide +kernel
theorem d15_43 : decode jdk_43_method_25_code 43 = .ok (.baload, 1) := by decide +kernel
theorem d15_44 : decode jdk_43_method_25_code 44 = .ok (.iload 5, 2) := by decide +kernel
theorem d15_46 : decode jdk_43_method_25_code 46 = .ok (.if_icmp .eq 6, 3) := by decide +kernel
theorem d15_49 : decode jdk_43_method_25_code 49 = .ok (.goto (-19), 3) := by decide +kernel
theorem d15_21 : decode jdk_43_method_25_code 21 = .ok (.aload_n 0, 1) := by decide +kernel
theorem d15_22 : decode jdk_43_method_25_code 22 = .ok (.iload 7, 2) := by decide +kernel
theorem d15_24 : decode jdk_43_method_25_code 24 = .ok (.baload, 1) := by decide +kernel
theorem d15_25 : decode jdk_43_method_25_code 25 = .ok (.iload 5, 2) := by decide +kernel
theorem d15_27 : decode jdk_43_method_25_code 27 = .ok (.if_icmp .eq 25, 3) := by decide +kernel
set_option maxRecDepth 65536 in
set_option maxHeartbeats 40000000 in
theorem rm15 (l : Launch) (Z : State) (a0 : Array Value) (hw : ∀ d ∈ tables_1, d.before a0 Z = true) (ws : List Jvm.Cond) (t1 t2 : Addr) (k1 k2 : ClassId) (xs ys : List Int32) (h0 : Heap) (n0 : Nat) (Z0 : n0 ≤ h0.size) (A1 : Arv Z h0 t1 k1 .byte (Int32.ofNat xs.length) (xs.map Value.int) (.int 0)) (A2 : Arv Z h0 t2 k2 .byte (Int32.ofNat ys.length) (ys.map Value.int) (.int 0)) (hlx : xs.length ≤ 10000) (hly : ys.length ≤ 10000) (hy : 0 < ys.length) :
    own_Met l Z (⟨"java/lang/StringLatin1", "indexOf", "([BI[BII)I"⟩ : MethodName) jdk_43_method_25_code 11 (some .int) ws ({ frames := 0, cells := 0, slots := 0, locals := 0 } : Room) #[(.ref t1), (.int (Int32.ofNat xs.length)), (.ref t2), (.int (Int32.ofNat ys.length)), (.int (0 : Int32))] h0 (Q_rm15 Z t1 t2 k1 k2 xs ys h0 n0) := by
  refine own_enter (g0 := fun m => (mkF m 0 #[.val (.ref t1), .val (.int (Int32.ofNat xs.length)), .val (.ref t2), .val (.int (Int32.ofNat ys.length)), .val (.int (0 : Int32)), .unset, .unset, .unset, .unset, .unset, .unset] [])) pn_rm15 (fun m => by first | (simp [entryFrame, mkF, argsToLocals, Value.category, maxLocals]; done) | rfl) ?_
  intro p e s m below meth c s₁ hx hby hml hown hnm hret hlk hZ X0 e0
  have hml : c.maxLocals = 11 := hml
  have hown : s.vm.findClass "java/lang/StringLatin1" = some m.cls := hown
  have N0 := Fr.nil n0
  show own_Go p e below _ s₁ (mkF m 0 #[.val (.ref t1), .val (.int (Int32.ofNat xs.length)), .val (.ref t2), .val (.int (Int32.ofNat ys.length)), .val (.int (0 : Int32)), .unset, .unset, .unset, .unset, .unset, .unset] [])
  refine own_by (fun _ k => XS.aloadN X0.here hx rfl (hb hby d15_0) rfl rfl k) ?_
  show own_Go p e below _ s₁ (mkF m 1 #[.val (.ref t1), .val (.int (Int32.ofNat xs.length)), .val (.ref t2), .val (.int (Int32.ofNat ys.length)), .val (.int (0 : Int32)), .unset, .unset, .unset, .unset, .unset, .unset] [(.ref t2)])
  refine own_by (fun _ k => XS.iconst X0.here hx rfl (hb hby d15_1) k) ?_
  show own_Go p e below _ s₁ (mkF m 2 #[.val (.ref t1), .val (.int (Int32.ofNat xs.length)), .val (.ref t2), .val (.int (Int32.ofNat ys.length)), .val (.int (0 : Int32)), .unset, .unset, .unset, .unset, .unset, .unset] [(.int (0 : Int32)), (.ref t2)])
  obtain ⟨cl101, Ar101, cq101, hin101, hat101, set101⟩ := own_arv A2 (j := (0 : Int32)) (own_inb hly hy)
  refine own_by (fun _ k => X0.baloadBytes hx (j := (0 : Int32)) (v := (.int (ys.getD 0 0))) (by rw [e0]; exact Ar101.1) (State.isArrayOf_alike hZ.alike Ar101.2.1) Ar101.2.2 hin101 (by rw [hat101]; exact congrArg some (own_gd0 ys)) (g := (mkF m 2 #[.val (.ref t1), .val (.int (Int32.ofNat xs.length)), .val (.ref t2), .val (.int (Int32.ofNat ys.length)), .val (.int (0 : Int32)), .unset, .unset, .unset, .unset, .unset, .unset] [(.int (0 : Int32)), (.ref t2)])) rfl rfl (hb hby d15_2) _ k) ?_
  show own_Go p e below _ s₁ (mkF m 3 #[.val (.ref t1), .val (.int (Int32.ofNat xs.length)), .val (.ref t2), .val (.int (Int32.ofNat ys.length)), .val (.int (0 : Int32)), .unset, .unset, .unset, .unset, .unset, .unset] [(.int (ys.getD 0 0))])
  refine own_by (fun _ k => XS.istore X0.here hx rfl (hb hby d15_3) rfl (l' := #[.val (.ref t1), .val (.int (Int32.ofNat xs.length)), .val (.ref t2), .val (.int (Int32.ofNat ys.length)), .val (.int (0 : Int32)), .val (.int (ys.getD 0 0)), .unset, .unset, .unset, .unset, .unset]) rfl k) ?_
  show own_Go p e below _ s₁ (mkF m 5 #[.val (.ref t1), .val (.int (Int32.ofNat xs.length)), .val (.ref t2), .val (.int (Int32.ofNat ys.length)), .val (.int (0 : Int32)), .val (.int (ys.getD 0 0)), .unset, .unset, .unset, .unset, .unset] [])
  refine own_by (fun _ k => XS.iloadN X0.here hx rfl (hb hby d15_5) rfl k) ?_
  show own_Go p e below _ s₁ (mkF m 6 #[.val (.ref t1), .val (.int (Int32.ofNat xs.length)), .val (.ref t2), .val (.int (Int32.ofNat ys.length)), .val (.int (0 : Int32)), .val (.int (ys.getD 0 0)), .unset, .unset, .unset, .unset, .unset] [(.int (Int32.ofNat xs.length))])
  refine own_by (fun _ k => XS.iloadN X0.here hx rfl (hb hby d15_6) rfl k) ?_
  show own_Go p e below _ s₁ (mkF m 7 #[.val (.ref t1), .val (.int (Int32.ofNat xs.length)), .val (.ref t2), .val (.int (Int32.ofNat ys.length)), .val (.int (0 : Int32)), .val (.int (ys.getD 0 0)), .unset, .unset, .unset, .unset, .unset] [(.int (Int32.ofNat ys.length)), (.int (Int32.ofNat xs.length))])
  refine own_by (fun _ k => XS.isub X0.here hx rfl (hb hby d15_7) rfl k) ?_
  show own_Go p e below _ s₁ (mkF m 8 #[.val (.ref t1), .val (.int (Int32.ofNat xs.length)), .val (.ref t2), .val (.int (Int32.ofNat ys.length)), .val (.int (0 : Int32)), .val (.int (ys.getD 0 0)), .unset, .unset, .unset, .unset, .unset] [(.int ((Int32.ofNat xs.length) - (Int32.ofNat ys.length)))])
  refine own_by (fun _ k => XS.istore X0.here hx rfl (hb hby d15_8) rfl (l' := #[.val (.ref t1), .val (.int (Int32.ofNat xs.length)), .val (.ref t2), .val (.int (Int32.ofNat ys.length)), .val (.int (0 : Int32)), .val (.int (ys.getD 0 0)), .val (.int ((Int32.ofNat xs.length) - (Int32.ofNat ys.length))), .unset, .unset, .unset, .unset]) rfl k) ?_
  show own_Go p e below _ s₁ (mkF m 10 #[.val (.ref t1), .val (.int (Int32.ofNat xs.length)), .val (.ref t2), .val (.int (Int32.ofNat ys.length)), .val (.int (0 : Int32)), .val (.int (ys.getD 0 0)), .val (.int ((Int32.ofNat xs.length) - (Int32.ofNat ys.length))), .unset, .unset, .unset, .unset] [])
  refine own_by (fun _ k => XS.iload X0.here hx rfl (hb hby d15_10) rfl k) ?_
  show own_Go p e below _ s₁ (mkF m 12 #[.val (.ref t1), .val (.int (Int32.ofNat xs.length)), .val (.ref t2), .val (.int (Int32.ofNat ys.length)), .val (.int (0 : Int32)), .val (.int (ys.getD 0 0)), .val (.int ((Int32.ofNat xs.length) - (Int32.ofNat ys.length))), .unset, .unset, .unset, .unset] [(.int (0 : Int32))])
  refine own_by (fun _ k => XS.istore X0.here hx rfl (hb hby d15_12) rfl (l' := #[.val (.ref t1), .val (.int (Int32.ofNat xs.length)), .val (.ref t2), .val (.int (Int32.ofNat ys.length)), .val (.int (0 : Int32)), .val (.int (ys.getD 0 0)), .val (.int ((Int32.ofNat xs.length) - (Int32.ofNat ys.length))), .val (.int (0 : Int32)), .unset, .unset, .unset]) rfl k) ?_
  show own_Go p e below _ s₁ (mkF m 14 #[.val (.ref t1), .val (.int (Int32.ofNat xs.length)), .val (.ref t2), .val (.int (Int32.ofNat ys.length)), .val (.int (0 : Int32)), .val (.int (ys.getD 0 0)), .val (.int ((Int32.ofNat xs.length) - (Int32.ofNat ys.length))), .val (.int (0 : Int32)), .unset, .unset, .unset] [])
  have J14 : ∀ (d : Nat) (i : Nat) (s8 : Slot) (s9 : Slot) (s10 : Slot) (g8 : One s8) (g9 : One s9) (g10 : One s10) (hi : i ≤ xs.length + 2) (hd : xs.length + 3 ≤ i + d) (hno : own_no ys xs i), own_Go p e below (own_End s ({ frames := 0, cells := 0, slots := 0, locals := 0 } : Room).cells ({ frames := 0, cells := 0, slots := 0, locals := 0 } : Room).slots (Q_rm15 Z t1 t2 k1 k2 xs ys h0 n0)) s₁ (mkF m 14 #[.val (.ref t1), .val (.int (Int32.ofNat xs.length)), .val (.ref t2), .val (.int (Int32.ofNat ys.length)), .val (.int (0 : Int32)), .val (.int (ys.getD 0 0)), .val (.int ((Int32.ofNat xs.length) - (Int32.ofNat ys.length))), .val (.int (Int32.ofNat i)), s8, s9, s10] []) := by
    intro d
    induction d with
    | zero =>
      intro i s8 s9 s10 g8 g9 g10 hi hd hno
      omega
    | succ d IH =>
      intro i s8 s9 s10 g8 g9 g10 hi hd hno
      show own_Go p e below _ s₁ (mkF m 14 #[.val (.ref t1), .val (.int (Int32.ofNat xs.length)), .val (.ref t2), .val (.int (Int32.ofNat ys.length)), .val (.int (0 : Int32)), .val (.int (ys.getD 0 0)), .val (.int ((Int32.ofNat xs.length) - (Int32.ofNat ys.length))), .val (.int (Int32.ofNat i)), s8, s9, s10] [])
      refine own_by (fun _ k => XS.iload X0.here hx rfl (hb hby d15_14) rfl k) ?_
      show own_Go p e below _ s₁ (mkF m 16 #[.val (.ref t1), .val (.int (Int32.ofNat xs.length)), .val (.ref t2), .val (.int (Int32.ofNat ys.length)), .val (.int (0 : Int32)), .val (.int (ys.getD 0 0)), .val (.int ((Int32.ofNat xs.length) - (Int32.ofNat ys.length))), .val (.int (Int32.ofNat i)), s8, s9, s10] [(.int (Int32.ofNat i))])
      refine own_by (fun _ k => XS.iload X0.here hx rfl (hb hby d15_16) rfl k) ?_
      show own_Go p e below _ s₁ (mkF m 18 #[.val (.ref t1), .val (.int (Int32.ofNat xs.length)), .val (.ref t2), .val (.int (Int32.ofNat ys.length)), .val (.int (0 : Int32)), .val (.int (ys.getD 0 0)), .val (.int ((Int32.ofNat xs.length) - (Int32.ofNat ys.length))), .val (.int (Int32.ofNat i)), s8, s9, s10] [(.int ((Int32.ofNat xs.length) - (Int32.ofNat ys.length))), (.int (Int32.ofNat i))])
      by_cases hg : xs.length < i + ys.length
      · refine own_by (fun _ k => XS.icmpYes X0.here hx rfl (pc0 := 18) (pc' := 119) rfl (hb hby d15_18) rfl (tlt ((own_mx hlx hly (by omega)).mpr hg : ((Int32.ofNat xs.length) - (Int32.ofNat ys.length)) < (Int32.ofNat i))).2.2.1 (by decide) (by decide) k) ?_
        show own_Go p e below _ s₁ (mkF m 119 #[.val (.ref t1), .val (.int (Int32.ofNat xs.length)), .val (.ref t2), .val (.int (Int32.ofNat ys.length)), .val (.int (0 : Int32)), .val (.int (ys.getD 0 0)), .val (.int ((Int32.ofNat xs.length) - (Int32.ofNat ys.length))), .val (.int (Int32.ofNat i)), s8, s9, s10] [])
        refine own_by (fun _ k => XS.iconst X0.here hx rfl (hb hby d15_119) k) ?_
        show own_Go p e below _ s₁ (mkF m 120 #[.val (.ref t1), .val (.int (Int32.ofNat xs.length)), .val (.ref t2), .val (.int (Int32.ofNat ys.length)), .val (.int (0 : Int32)), .val (.int (ys.getD 0 0)), .val (.int ((Int32.ofNat xs.length) - (Int32.ofNat ys.length))), .val (.int (Int32.ofNat i)), s8, s9, s10] [(.int (-1 : Int32))])
        have hf := own_no_end hno hg
        exact own_retI X0 hx hlk hret  (hb hby d15_120) (by first | exact ⟨_, rfl, by rw [hf]; decide, N0, rfl⟩ | (rw [e0]; exact ⟨_, rfl, by rw [hf]; decide, N0, rfl⟩)) (by decide) (by decide)
      · refine own_by (fun _ k => XS.icmpNo X0.here hx rfl (hb hby d15_18) rfl (flt (fun q => hg ((own_mx hlx hly (by omega)).mp q) : ¬ (((Int32.ofNat xs.length) - (Int32.ofNat ys.length)) < (Int32.ofNat i)))).2.2.1 k) ?_
        show own_Go p e below _ s₁ (mkF m 21 #[.val (.ref t1), .val (.int (Int32.ofNat xs.length)), .val (.ref t2), .val (.int (Int32.ofNat ys.length)), .val (.int (0 : Int32)), .val (.int (ys.getD 0 0)), .val (.int ((Int32.ofNat xs.length) - (Int32.ofNat ys.length))), .val (.int (Int32.ofNat i)), s8, s9, s10] [])
        have J113 : ∀ (i' : Nat) (s8 : Slot) (s9 : Slot) (s10 : Slot) (g8 : One s8) (g9 : One s9) (g10 : One s10) (hi' : i ≤ i' ∧ i' ≤ xs.length + 1) (hno' : own_no ys xs (i' + 1)), own_Go p e below (own_End s ({ frames := 0, cells := 0, slots := 0, locals := 0 } : Room).cells ({ frames := 0, cells := 0, slots := 0, locals := 0 } : Room).slots (Q_rm15 Z t1 t2 k1 k2 xs ys h0 n0)) s₁ (mkF m 113 #[.val (.ref t1), .val (.int (Int32.ofNat xs.length)), .val (.ref t2), .val (.int (Int32.ofNat ys.length)), .val (.int (0 : Int32)), .val (.int (ys.getD 0 0)), .val (.int ((Int32.ofNat xs.length) - (Int32.ofNat ys.length))), .val (.int (Int32.ofNat i')), s8, s9, s10] []) := by
          intro i' s8 s9 s10 g8 g9 g10 hi' hno'
          show own_Go p e below _ s₁ (mkF m 113 #[.val (.ref t1), .val (.int (Int32.ofNat xs.length)), .val (.ref t2), .val (.int (Int32.ofNat ys.length)), .val (.int (0 : Int32)), .val (.int (ys.getD 0 0)), .val (.int ((Int32.ofNat xs.length) - (Int32.ofNat ys.length))), .val (.int (Int32.ofNat i')), s8, s9, s10] [])
          refine own_by (fun _ k => XS.iinc X0.here hx rfl (hb hby d15_113) rfl (l' := #[.val (.ref t1), .val (.int (Int32.ofNat xs.length)), .val (.ref t2), .val (.int (Int32.ofNat ys.length)), .val (.int (0 : Int32)), .val (.int (ys.getD 0 0)), .val (.int ((Int32.ofNat xs.length) - (Int32.ofNat ys.length))), .val (.int ((Int32.ofNat i') + (1 : Int32))), s8, s9, s10]) rfl k) ?_
          show own_Go p e below _ s₁ (mkF m 116 #[.val (.ref t1), .val (.int (Int32.ofNat xs.length)), .val (.ref t2), .val (.int (Int32.ofNat ys.length)), .val (.int (0 : Int32)), .val (.int (ys.getD 0 0)), .val (.int ((Int32.ofNat xs.length) - (Int32.ofNat ys.length))), .val (.int ((Int32.ofNat i') + (1 : Int32))), s8, s9, s10] [])
          rw [show Int32.ofNat i' + (1 : Int32) = Int32.ofNat (i' + 1) from own_inc (by omega)]
          show own_Go p e below _ s₁ (mkF m 116 #[.val (.ref t1), .val (.int (Int32.ofNat xs.length)), .val (.ref t2), .val (.int (Int32.ofNat ys.length)), .val (.int (0 : Int32)), .val (.int (ys.getD 0 0)), .val (.int ((Int32.ofNat xs.length) - (Int32.ofNat ys.length))), .val (.int (Int32.ofNat (i' + 1))), s8, s9, s10] [])
          refine own_by (fun _ k => XS.goto X0.here hx rfl (pc0 := 116) (pc' := 14) rfl (hb hby d15_116) (by decide) (by decide) k) ?_
          show own_Go p e below _ s₁ (mkF m 14 #[.val (.ref t1), .val (.int (Int32.ofNat xs.length)), .val (.ref t2), .val (.int (Int32.ofNat ys.length)), .val (.int (0 : Int32)), .val (.int (ys.getD 0 0)), .val (.int ((Int32.ofNat xs.length) - (Int32.ofNat ys.length))), .val (.int (Int32.ofNat (i' + 1))), s8, s9, s10] [])
          exact IH (i' + 1) _ _ _ g8 g9 g10 (by omega) (by omega) hno'
        have J52 : ∀ (i' : Nat) (s8 : Slot) (s9 : Slot) (s10 : Slot) (g8 : One s8) (g9 : One s9) (g10 : One s10) (hi' : i ≤ i' ∧ i' ≤ xs.length + 1) (hno' : own_no ys xs i') (hf' : i' + ys.length ≤ xs.length → xs.getD i' 0 = ys.getD 0 0), own_Go p e below (own_End s ({ frames := 0, cells := 0, slots := 0, locals := 0 } : Room).cells ({ frames := 0, cells := 0, slots := 0, locals := 0 } : Room).slots (Q_rm15 Z t1 t2 k1 k2 xs ys h0 n0)) s₁ (mkF m 52 #[.val (.ref t1), .val (.int (Int32.ofNat xs.length)), .val (.ref t2), .val (.int (Int32.ofNat ys.length)), .val (.int (0 : Int32)), .val (.int (ys.getD 0 0)), .val (.int ((Int32.ofNat xs.length) - (Int32.ofNat ys.length))), .val (.int (Int32.ofNat i')), s8, s9, s10] []) := by
          intro  i' s8 s9 s10 g8 g9 g10 hi' hno' hf'
          show own_Go p e below _ s₁ (mkF m 52 #[.val (.ref t1), .val (.int (Int32.ofNat xs.length)), .val (.ref t2), .val (.int (Int32.ofNat ys.length)), .val (.int (0 : Int32)), .val (.int (ys.getD 0 0)), .val (.int ((Int32.ofNat xs.length) - (Int32.ofNat ys.length))), .val (.int (Int32.ofNat i')), s8, s9, s10] [])
          refine own_by (fun _ k => XS.iload X0.here hx rfl (hb hby d15_52) rfl k) ?_
          show own_Go p e below _ s₁ (mkF m 54 #[.val (.ref t1), .val (.int (Int32.ofNat xs.length)), .val (.ref t2), .val (.int (Int32.ofNat ys.length)), .val (.int (0 : Int32)), .val (.int (ys.getD 0 0)), .val (.int ((Int32.ofNat xs.length) - (Int32.ofNat ys.length))), .val (.int (Int32.ofNat i')), s8, s9, s10] [(.int (Int32.ofNat i'))])
          refine own_by (fun _ k => XS.iload X0.here hx rfl (hb hby d15_54) rfl k) ?_
          show own_Go p e below _ s₁ (mkF m 56 #[.val (.ref t1), .val (.int (Int32.ofNat xs.length)), .val (.ref t2), .val (.int (Int32.ofNat ys.length)), .val (.int (0 : Int32)), .val (.int (ys.getD 0 0)), .val (.int ((Int32.ofNat xs.length) - (Int32.ofNat ys.length))), .val (.int (Int32.ofNat i')), s8, s9, s10] [(.int ((Int32.ofNat xs.length) - (Int32.ofNat ys.length))), (.int (Int32.ofNat i'))])
          by_cases hg2 : xs.length < i' + ys.length
          · refine own_by (fun _ k => XS.icmpYes X0.here hx rfl (pc0 := 56) (pc' := 113) rfl (hb hby d15_56) rfl (tlt ((own_mx hlx hly (by omega)).mpr hg2 : ((Int32.ofNat xs.length) - (Int32.ofNat ys.length)) < (Int32.ofNat i'))).2.2.1 (by decide) (by decide) k) ?_
            show own_Go p e below _ s₁ (mkF m 113 #[.val (.ref t1), .val (.int (Int32.ofNat xs.length)), .val (.ref t2), .val (.int (Int32.ofNat ys.length)), .val (.int (0 : Int32)), .val (.int (ys.getD 0 0)), .val (.int ((Int32.ofNat xs.length) - (Int32.ofNat ys.length))), .val (.int (Int32.ofNat i')), s8, s9, s10] [])
            exact J113 i' _ _ _ g8 g9 g10 hi' (own_no_succ hno' (Or.inl hg2))
          · refine own_by (fun _ k => XS.icmpNo X0.here hx rfl (hb hby d15_56) rfl (flt (fun q => hg2 ((own_mx hlx hly (by omega)).mp q) : ¬ (((Int32.ofNat xs.length) - (Int32.ofNat ys.length)) < (Int32.ofNat i')))).2.2.1 k) ?_
            show own_Go p e below _ s₁ (mkF m 59 #[.val (.ref t1), .val (.int (Int32.ofNat xs.length)), .val (.ref t2), .val (.int (Int32.ofNat ys.length)), .val (.int (0 : Int32)), .val (.int (ys.getD 0 0)), .val (.int ((Int32.ofNat xs.length) - (Int32.ofNat ys.length))), .val (.int (Int32.ofNat i')), s8, s9, s10] [])
            have J76 : ∀ (r : Nat) (q : Nat) (hr : q + r = ys.length) (hq : 1 ≤ q) (hm : ∀ j, j < q → xs.getD (i' + j) 0 = ys.getD j 0), own_Go p e below (own_End s ({ frames := 0, cells := 0, slots := 0, locals := 0 } : Room).cells ({ frames := 0, cells := 0, slots := 0, locals := 0 } : Room).slots (Q_rm15 Z t1 t2 k1 k2 xs ys h0 n0)) s₁ (mkF m 76 #[.val (.ref t1), .val (.int (Int32.ofNat xs.length)), .val (.ref t2), .val (.int (Int32.ofNat ys.length)), .val (.int (0 : Int32)), .val (.int (ys.getD 0 0)), .val (.int ((Int32.ofNat xs.length) - (Int32.ofNat ys.length))), .val (.int (Int32.ofNat i')), .val (.int (Int32.ofNat (i' + q))), .val (.int (Int32.ofNat (i' + ys.length))), .val (.int (Int32.ofNat q))] []) := by
              intro r
              induction r with
              | zero =>
                intro q hr hq hm
                obtain rfl : q = ys.length := by omega
                show own_Go p e below _ s₁ (mkF m 76 #[.val (.ref t1), .val (.int (Int32.ofNat xs.length)), .val (.ref t2), .val (.int (Int32.ofNat ys.length)), .val (.int (0 : Int32)), .val (.int (ys.getD 0 0)), .val (.int ((Int32.ofNat xs.length) - (Int32.ofNat ys.length))), .val (.int (Int32.ofNat i')), .val (.int (Int32.ofNat (i' + ys.length))), .val (.int (Int32.ofNat (i' + ys.length))), .val (.int (Int32.ofNat ys.length))] [])
                refine own_by (fun _ k => XS.iload X0.here hx rfl (hb hby d15_76) rfl k) ?_
                show own_Go p e below _ s₁ (mkF m 78 #[.val (.ref t1), .val (.int (Int32.ofNat xs.length)), .val (.ref t2), .val (.int (Int32.ofNat ys.length)), .val (.int (0 : Int32)), .val (.int (ys.getD 0 0)), .val (.int ((Int32.ofNat xs.length) - (Int32.ofNat ys.length))), .val (.int (Int32.ofNat i')), .val (.int (Int32.ofNat (i' + ys.length))), .val (.int (Int32.ofNat (i' + ys.length))), .val (.int (Int32.ofNat ys.length))] [(.int (Int32.ofNat (i' + ys.length)))])
                refine own_by (fun _ k => XS.iload X0.here hx rfl (hb hby d15_78) rfl k) ?_
                show own_Go p e below _ s₁ (mkF m 80 #[.val (.ref t1), .val (.int (Int32.ofNat xs.length)), .val (.ref t2), .val (.int (Int32.ofNat ys.length)), .val (.int (0 : Int32)), .val (.int (ys.getD 0 0)), .val (.int ((Int32.ofNat xs.length) - (Int32.ofNat ys.length))), .val (.int (Int32.ofNat i')), .val (.int (Int32.ofNat (i' + ys.length))), .val (.int (Int32.ofNat (i' + ys.length))), .val (.int (Int32.ofNat ys.length))] [(.int (Int32.ofNat (i' + ys.length))), (.int (Int32.ofNat (i' + ys.length)))])
                refine own_by (fun _ k => XS.icmpYes X0.here hx rfl (pc0 := 80) (pc' := 103) rfl (hb hby d15_80) rfl (flt (fun z => Int32.lt_irrefl z : ¬ ((Int32.ofNat (i' + ys.length)) < (Int32.ofNat (i' + ys.length))))).2.1 (by decide) (by decide) k) ?_
                show own_Go p e below _ s₁ (mkF m 103 #[.val (.ref t1), .val (.int (Int32.ofNat xs.length)), .val (.ref t2), .val (.int (Int32.ofNat ys.length)), .val (.int (0 : Int32)), .val (.int (ys.getD 0 0)), .val (.int ((Int32.ofNat xs.length) - (Int32.ofNat ys.length))), .val (.int (Int32.ofNat i')), .val (.int (Int32.ofNat (i' + ys.length))), .val (.int (Int32.ofNat (i' + ys.length))), .val (.int (Int32.ofNat ys.length))] [])
                refine own_by (fun _ k => XS.iload X0.here hx rfl (hb hby d15_103) rfl k) ?_
                show own_Go p e below _ s₁ (mkF m 105 #[.val (.ref t1), .val (.int (Int32.ofNat xs.length)), .val (.ref t2), .val (.int (Int32.ofNat ys.length)), .val (.int (0 : Int32)), .val (.int (ys.getD 0 0)), .val (.int ((Int32.ofNat xs.length) - (Int32.ofNat ys.length))), .val (.int (Int32.ofNat i')), .val (.int (Int32.ofNat (i' + ys.length))), .val (.int (Int32.ofNat (i' + ys.length))), .val (.int (Int32.ofNat ys.length))] [(.int (Int32.ofNat (i' + ys.length)))])
                refine own_by (fun _ k => XS.iload X0.here hx rfl (hb hby d15_105) rfl k) ?_
                show own_Go p e below _ s₁ (mkF m 107 #[.val (.ref t1), .val (.int (Int32.ofNat xs.length)), .val (.ref t2), .val (.int (Int32.ofNat ys.length)), .val (.int (0 : Int32)), .val (.int (ys.getD 0 0)), .val (.int ((Int32.ofNat xs.length) - (Int32.ofNat ys.length))), .val (.int (Int32.ofNat i')), .val (.int (Int32.ofNat (i' + ys.length))), .val (.int (Int32.ofNat (i' + ys.length))), .val (.int (Int32.ofNat ys.length))] [(.int (Int32.ofNat (i' + ys.length))), (.int (Int32.ofNat (i' + ys.length)))])
                refine own_by (fun _ k => XS.icmpNo X0.here hx rfl (hb hby d15_107) rfl (teq (rfl : (Int32.ofNat (i' + ys.length)) = (Int32.ofNat (i' + ys.length)))).2 k) ?_
                show own_Go p e below _ s₁ (mkF m 110 #[.val (.ref t1), .val (.int (Int32.ofNat xs.length)), .val (.ref t2), .val (.int (Int32.ofNat ys.length)), .val (.int (0 : Int32)), .val (.int (ys.getD 0 0)), .val (.int ((Int32.ofNat xs.length) - (Int32.ofNat ys.length))), .val (.int (Int32.ofNat i')), .val (.int (Int32.ofNat (i' + ys.length))), .val (.int (Int32.ofNat (i' + ys.length))), .val (.int (Int32.ofNat ys.length))] [])
                refine own_by (fun _ k => XS.iload X0.here hx rfl (hb hby d15_110) rfl k) ?_
                show own_Go p e below _ s₁ (mkF m 112 #[.val (.ref t1), .val (.int (Int32.ofNat xs.length)), .val (.ref t2), .val (.int (Int32.ofNat ys.length)), .val (.int (0 : Int32)), .val (.int (ys.getD 0 0)), .val (.int ((Int32.ofNat xs.length) - (Int32.ofNat ys.length))), .val (.int (Int32.ofNat i')), .val (.int (Int32.ofNat (i' + ys.length))), .val (.int (Int32.ofNat (i' + ys.length))), .val (.int (Int32.ofNat ys.length))] [(.int (Int32.ofNat i'))])
                have hf : own_has ys xs = true := (own_has_iff ys xs).mpr ⟨i', by omega, hm⟩
                exact own_retI X0 hx hlk hret  (hb hby d15_112) (by first | exact ⟨_, rfl, by rw [hf]; exact ⟨fun z => absurd z (own_nn (by omega)), fun z => by cases z⟩, N0, rfl⟩ | (rw [e0]; exact ⟨_, rfl, by rw [hf]; exact ⟨fun z => absurd z (own_nn (by omega)), fun z => by cases z⟩, N0, rfl⟩)) (by decide) (by decide)
              | succ r ih =>
                intro q hr hq hm
                show own_Go p e below _ s₁ (mkF m 76 #[.val (.ref t1), .val (.int (Int32.ofNat xs.length)), .val (.ref t2), .val (.int (Int32.ofNat ys.length)), .val (.int (0 : Int32)), .val (.int (ys.getD 0 0)), .val (.int ((Int32.ofNat xs.length) - (Int32.ofNat ys.length))), .val (.int (Int32.ofNat i')), .val (.int (Int32.ofNat (i' + q))), .val (.int (Int32.ofNat (i' + ys.length))), .val (.int (Int32.ofNat q))] [])
                refine own_by (fun _ k => XS.iload X0.here hx rfl (hb hby d15_76) rfl k) ?_
                show own_Go p e below _ s₁ (mkF m 78 #[.val (.ref t1), .val (.int (Int32.ofNat xs.length)), .val (.ref t2), .val (.int (Int32.ofNat ys.length)), .val (.int (0 : Int32)), .val (.int (ys.getD 0 0)), .val (.int ((Int32.ofNat xs.length) - (Int32.ofNat ys.length))), .val (.int (Int32.ofNat i')), .val (.int (Int32.ofNat (i' + q))), .val (.int (Int32.ofNat (i' + ys.length))), .val (.int (Int32.ofNat q))] [(.int (Int32.ofNat (i' + q)))])
                refine own_by (fun _ k => XS.iload X0.here hx rfl (hb hby d15_78) rfl k) ?_
                show own_Go p e below _ s₁ (mkF m 80 #[.val (.ref t1), .val (.int (Int32.ofNat xs.length)), .val (.ref t2), .val (.int (Int32.ofNat ys.length)), .val (.int (0 : Int32)), .val (.int (ys.getD 0 0)), .val (.int ((Int32.ofNat xs.length) - (Int32.ofNat ys.length))), .val (.int (Int32.ofNat i')), .val (.int (Int32.ofNat (i' + q))), .val (.int (Int32.ofNat (i' + ys.length))), .val (.int (Int32.ofNat q))] [(.int (Int32.ofNat (i' + ys.length))), (.int (Int32.ofNat (i' + q)))])
                refine own_by (fun _ k => XS.icmpNo X0.here hx rfl (hb hby d15_80) rfl (tlt ((own_lt (by omega) (by omega)).mpr (by omega) : (Int32.ofNat (i' + q)) < (Int32.ofNat (i' + ys.length)))).2.1 k) ?_
                show own_Go p e below _ s₁ (mkF m 83 #[.val (.ref t1), .val (.int (Int32.ofNat xs.length)), .val (.ref t2), .val (.int (Int32.ofNat ys.length)), .val (.int (0 : Int32)), .val (.int (ys.getD 0 0)), .val (.int ((Int32.ofNat xs.length) - (Int32.ofNat ys.length))), .val (.int (Int32.ofNat i')), .val (.int (Int32.ofNat (i' + q))), .val (.int (Int32.ofNat (i' + ys.length))), .val (.int (Int32.ofNat q))] [])
                refine own_by (fun _ k => XS.aloadN X0.here hx rfl (hb hby d15_83) rfl rfl k) ?_
                show own_Go p e below _ s₁ (mkF m 84 #[.val (.ref t1), .val (.int (Int32.ofNat xs.length)), .val (.ref t2), .val (.int (Int32.ofNat ys.length)), .val (.int (0 : Int32)), .val (.int (ys.getD 0 0)), .val (.int ((Int32.ofNat xs.length) - (Int32.ofNat ys.length))), .val (.int (Int32.ofNat i')), .val (.int (Int32.ofNat (i' + q))), .val (.int (Int32.ofNat (i' + ys.length))), .val (.int (Int32.ofNat q))] [(.ref t1)])
                refine own_by (fun _ k => XS.iload X0.here hx rfl (hb hby d15_84) rfl k) ?_
                show own_Go p e below _ s₁ (mkF m 86 #[.val (.ref t1), .val (.int (Int32.ofNat xs.length)), .val (.ref t2), .val (.int (Int32.ofNat ys.length)), .val (.int (0 : Int32)), .val (.int (ys.getD 0 0)), .val (.int ((Int32.ofNat xs.length) - (Int32.ofNat ys.length))), .val (.int (Int32.ofNat i')), .val (.int (Int32.ofNat (i' + q))), .val (.int (Int32.ofNat (i' + ys.length))), .val (.int (Int32.ofNat q))] [(.int (Int32.ofNat (i' + q))), (.ref t1)])
                obtain ⟨cl102, Ar102, cq102, hin102, hat102, set102⟩ := own_arv A1 (j := (Int32.ofNat (i' + q))) (own_inb hlx (by omega))
                refine own_by (fun _ k => X0.baloadBytes hx (j := (Int32.ofNat (i' + q))) (v := (.int (xs.getD (i' + q) 0))) (by rw [e0]; exact Ar102.1) (State.isArrayOf_alike hZ.alike Ar102.2.1) Ar102.2.2 hin102 (by rw [hat102]; exact congrArg some (own_gd xs (by omega))) (g := (mkF m 86 #[.val (.ref t1), .val (.int (Int32.ofNat xs.length)), .val (.ref t2), .val (.int (Int32.ofNat ys.length)), .val (.int (0 : Int32)), .val (.int (ys.getD 0 0)), .val (.int ((Int32.ofNat xs.length) - (Int32.ofNat ys.length))), .val (.int (Int32.ofNat i')), .val (.int (Int32.ofNat (i' + q))), .val (.int (Int32.ofNat (i' + ys.length))), .val (.int (Int32.ofNat q))] [(.int (Int32.ofNat (i' + q))), (.ref t1)])) rfl rfl (hb hby d15_86) _ k) ?_
                show own_Go p e below _ s₁ (mkF m 87 #[.val (.ref t1), .val (.int (Int32.ofNat xs.length)), .val (.ref t2), .val (.int (Int32.ofNat ys.length)), .val (.int (0 : Int32)), .val (.int (ys.getD 0 0)), .val (.int ((Int32.ofNat xs.length) - (Int32.ofNat ys.length))), .val (.int (Int32.ofNat i')), .val (.int (Int32.ofNat (i' + q))), .val (.int (Int32.ofNat (i' + ys.length))), .val (.int (Int32.ofNat q))] [(.int (xs.getD (i' + q) 0))])
                refine own_by (fun _ k => XS.aloadN X0.here hx rfl (hb hby d15_87) rfl rfl k) ?_
                show own_Go p e below _ s₁ (mkF m 88 #[.val (.ref t1), .val (.int (Int32.ofNat xs.length)), .val (.ref t2), .val (.int (Int32.ofNat ys.length)), .val (.int (0 : Int32)), .val (.int (ys.getD 0 0)), .val (.int ((Int32.ofNat xs.length) - (Int32.ofNat ys.length))), .val (.int (Int32.ofNat i')), .val (.int (Int32.ofNat (i' + q))), .val (.int (Int32.ofNat (i' + ys.length))), .val (.int (Int32.ofNat q))] [(.ref t2), (.int (xs.getD (i' + q) 0))])
                refine own_by (fun _ k => XS.iload X0.here hx rfl (hb hby d15_88) rfl k) ?_
                show own_Go p e below _ s₁ (mkF m 90 #[.val (.ref t1), .val (.int (Int32.ofNat xs.length)), .val (.ref t2), .val (.int (Int32.ofNat ys.length)), .val (.int (0 : Int32)), .val (.int (ys.getD 0 0)), .val (.int ((Int32.ofNat xs.length) - (Int32.ofNat ys.length))), .val (.int (Int32.ofNat i')), .val (.int (Int32.ofNat (i' + q))), .val (.int (Int32.ofNat (i' + ys.length))), .val (.int (Int32.ofNat q))] [(.int (Int32.ofNat q)), (.ref t2), (.int (xs.getD (i' + q) 0))])
                obtain ⟨cl103, Ar103, cq103, hin103, hat103, set103⟩ := own_arv A2 (j := (Int32.ofNat q)) (own_inb hly (by omega))
                refine own_by (fun _ k => X0.baloadBytes hx (j := (Int32.ofNat q)) (v := (.int (ys.getD q 0))) (by rw [e0]; exact Ar103.1) (State.isArrayOf_alike hZ.alike Ar103.2.1) Ar103.2.2 hin103 (by rw [hat103]; exact congrArg some (own_gd ys (by omega))) (g := (mkF m 90 #[.val (.ref t1), .val (.int (Int32.ofNat xs.length)), .val (.ref t2), .val (.int (Int32.ofNat ys.length)), .val (.int (0 : Int32)), .val (.int (ys.getD 0 0)), .val (.int ((Int32.ofNat xs.length) - (Int32.ofNat ys.length))), .val (.int (Int32.ofNat i')), .val (.int (Int32.ofNat (i' + q))), .val (.int (Int32.ofNat (i' + ys.length))), .val (.int (Int32.ofNat q))] [(.int (Int32.ofNat q)), (.ref t2), (.int (xs.getD (i' + q) 0))])) rfl rfl (hb hby d15_90) _ k) ?_
                show own_Go p e below _ s₁ (mkF m 91 #[.val (.ref t1), .val (.int (Int32.ofNat xs.length)), .val (.ref t2), .val (.int (Int32.ofNat ys.length)), .val (.int (0 : Int32)), .val (.int (ys.getD 0 0)), .val (.int ((Int32.ofNat xs.length) - (Int32.ofNat ys.length))), .val (.int (Int32.ofNat i')), .val (.int (Int32.ofNat (i' + q))), .val (.int (Int32.ofNat (i' + ys.length))), .val (.int (Int32.ofNat q))] [(.int (ys.getD q 0)), (.int (xs.getD (i' + q) 0))])
                by_cases he : xs.getD (i' + q) 0 = ys.getD q 0
                · refine own_by (fun _ k => XS.icmpNo X0.here hx rfl (hb hby d15_91) rfl (teq (he : (xs.getD (i' + q) 0) = (ys.getD q 0))).2 k) ?_
                  show own_Go p e below _ s₁ (mkF m 94 #[.val (.ref t1), .val (.int (Int32.ofNat xs.length)), .val (.ref t2), .val (.int (Int32.ofNat ys.length)), .val (.int (0 : Int32)), .val (.int (ys.getD 0 0)), .val (.int ((Int32.ofNat xs.length) - (Int32.ofNat ys.length))), .val (.int (Int32.ofNat i')), .val (.int (Int32.ofNat (i' + q))), .val (.int (Int32.ofNat (i' + ys.length))), .val (.int (Int32.ofNat q))] [])
                  refine own_by (fun _ k => XS.iinc X0.here hx rfl (hb hby d15_94) rfl (l' := #[.val (.ref t1), .val (.int (Int32.ofNat xs.length)), .val (.ref t2), .val (.int (Int32.ofNat ys.length)), .val (.int (0 : Int32)), .val (.int (ys.getD 0 0)), .val (.int ((Int32.ofNat xs.length) - (Int32.ofNat ys.length))), .val (.int (Int32.ofNat i')), .val (.int ((Int32.ofNat (i' + q)) + (1 : Int32))), .val (.int (Int32.ofNat (i' + ys.length))), .val (.int (Int32.ofNat q))]) rfl k) ?_
                  show own_Go p e below _ s₁ (mkF m 97 #[.val (.ref t1), .val (.int (Int32.ofNat xs.length)), .val (.ref t2), .val (.int (Int32.ofNat ys.length)), .val (.int (0 : Int32)), .val (.int (ys.getD 0 0)), .val (.int ((Int32.ofNat xs.length) - (Int32.ofNat ys.length))), .val (.int (Int32.ofNat i')), .val (.int ((Int32.ofNat (i' + q)) + (1 : Int32))), .val (.int (Int32.ofNat (i' + ys.length))), .val (.int (Int32.ofNat q))] [])
                  refine own_by (fun _ k => XS.iinc X0.here hx rfl (hb hby d15_97) rfl (l' := #[.val (.ref t1), .val (.int (Int32.ofNat xs.length)), .val (.ref t2), .val (.int (Int32.ofNat ys.length)), .val (.int (0 : Int32)), .val (.int (ys.getD 0 0)), .val (.int ((Int32.ofNat xs.length) - (Int32.ofNat ys.length))), .val (.int (Int32.ofNat i')), .val (.int ((Int32.ofNat (i' + q)) + (1 : Int32))), .val (.int (Int32.ofNat (i' + ys.length))), .val (.int ((Int32.ofNat q) + (1 : Int32)))]) rfl k) ?_
                  show own_Go p e below _ s₁ (mkF m 100 #[.val (.ref t1), .val (.int (Int32.ofNat xs.length)), .val (.ref t2), .val (.int (Int32.ofNat ys.length)), .val (.int (0 : Int32)), .val (.int (ys.getD 0 0)), .val (.int ((Int32.ofNat xs.length) - (Int32.ofNat ys.length))), .val (.int (Int32.ofNat i')), .val (.int ((Int32.ofNat (i' + q)) + (1 : Int32))), .val (.int (Int32.ofNat (i' + ys.length))), .val (.int ((Int32.ofNat q) + (1 : Int32)))] [])
                  refine own_by (fun _ k => XS.goto X0.here hx rfl (pc0 := 100) (pc' := 76) rfl (hb hby d15_100) (by decide) (by decide) k) ?_
                  show own_Go p e below _ s₁ (mkF m 76 #[.val (.ref t1), .val (.int (Int32.ofNat xs.length)), .val (.ref t2), .val (.int (Int32.ofNat ys.length)), .val (.int (0 : Int32)), .val (.int (ys.getD 0 0)), .val (.int ((Int32.ofNat xs.length) - (Int32.ofNat ys.length))), .val (.int (Int32.ofNat i')), .val (.int ((Int32.ofNat (i' + q)) + (1 : Int32))), .val (.int (Int32.ofNat (i' + ys.length))), .val (.int ((Int32.ofNat q) + (1 : Int32)))] [])
                  rw [show Int32.ofNat (i' + q) + (1 : Int32) = Int32.ofNat (i' + (q + 1)) from own_inc (by omega), show Int32.ofNat q + (1 : Int32) = Int32.ofNat (q + 1) from own_inc (by omega)]
                  refine ih (q + 1) (by omega) (by omega) fun j hj => ?_
                  by_cases hjq : j < q
                  · exact hm j hjq
                  · obtain rfl : j = q := by omega
                    exact he
                · refine own_by (fun _ k => XS.icmpYes X0.here hx rfl (pc0 := 91) (pc' := 103) rfl (hb hby d15_91) rfl (feq (he : ¬ ((xs.getD (i' + q) 0) = (ys.getD q 0)))).2 (by decide) (by decide) k) ?_
                  show own_Go p e below _ s₁ (mkF m 103 #[.val (.ref t1), .val (.int (Int32.ofNat xs.length)), .val (.ref t2), .val (.int (Int32.ofNat ys.length)), .val (.int (0 : Int32)), .val (.int (ys.getD 0 0)), .val (.int ((Int32.ofNat xs.length) - (Int32.ofNat ys.length))), .val (.int (Int32.ofNat i')), .val (.int (Int32.ofNat (i' + q))), .val (.int (Int32.ofNat (i' + ys.length))), .val (.int (Int32.ofNat q))] [])
                  refine own_by (fun _ k => XS.iload X0.here hx rfl (hb hby d15_103) rfl k) ?_
                  show own_Go p e below _ s₁ (mkF m 105 #[.val (.ref t1), .val (.int (Int32.ofNat xs.length)), .val (.ref t2), .val (.int (Int32.ofNat ys.length)), .val (.int (0 : Int32)), .val (.int (ys.getD 0 0)), .val (.int ((Int32.ofNat xs.length) - (Int32.ofNat ys.length))), .val (.int (Int32.ofNat i')), .val (.int (Int32.ofNat (i' + q))), .val (.int (Int32.ofNat (i' + ys.length))), .val (.int (Int32.ofNat q))] [(.int (Int32.ofNat (i' + q)))])
                  refine own_by (fun _ k => XS.iload X0.here hx rfl (hb hby d15_105) rfl k) ?_
                  show own_Go p e below _ s₁ (mkF m 107 #[.val (.ref t1), .val (.int (Int32.ofNat xs.length)), .val (.ref t2), .val (.int (Int32.ofNat ys.length)), .val (.int (0 : Int32)), .val (.int (ys.getD 0 0)), .val (.int ((Int32.ofNat xs.length) - (Int32.ofNat ys.length))), .val (.int (Int32.ofNat i')), .val (.int (Int32.ofNat (i' + q))), .val (.int (Int32.ofNat (i' + ys.length))), .val (.int (Int32.ofNat q))] [(.int (Int32.ofNat (i' + ys.length))), (.int (Int32.ofNat (i' + q)))])
                  refine own_by (fun _ k => XS.icmpYes X0.here hx rfl (pc0 := 107) (pc' := 113) rfl (hb hby d15_107) rfl (feq (fun z => by rw [own_eqn (by omega) (by omega)] at z; omega : ¬ ((Int32.ofNat (i' + q)) = (Int32.ofNat (i' + ys.length))))).2 (by decide) (by decide) k) ?_
                  show own_Go p e below _ s₁ (mkF m 113 #[.val (.ref t1), .val (.int (Int32.ofNat xs.length)), .val (.ref t2), .val (.int (Int32.ofNat ys.length)), .val (.int (0 : Int32)), .val (.int (ys.getD 0 0)), .val (.int ((Int32.ofNat xs.length) - (Int32.ofNat ys.length))), .val (.int (Int32.ofNat i')), .val (.int (Int32.ofNat (i' + q))), .val (.int (Int32.ofNat (i' + ys.length))), .val (.int (Int32.ofNat q))] [])
                  exact J113 i' _ _ _ (One.val rfl) (One.val rfl) (One.val rfl) hi' (own_no_succ hno' (Or.inr ⟨q, by omega, he⟩))
            refine own_by (fun _ k => XS.iload X0.here hx rfl (hb hby d15_59) rfl k) ?_
            show own_Go p e below _ s₁ (mkF m 61 #[.val (.ref t1), .val (.int (Int32.ofNat xs.length)), .val (.ref t2), .val (.int (Int32.ofNat ys.length)), .val (.int (0 : Int32)), .val (.int (ys.getD 0 0)), .val (.int ((Int32.ofNat xs.length) - (Int32.ofNat ys.length))), .val (.int (Int32.ofNat i')), s8, s9, s10] [(.int (Int32.ofNat i'))])
            refine own_by (fun _ k => XS.iconst X0.here hx rfl (hb hby d15_61) k) ?_
            show own_Go p e below _ s₁ (mkF m 62 #[.val (.ref t1), .val (.int (Int32.ofNat xs.length)), .val (.ref t2), .val (.int (Int32.ofNat ys.length)), .val (.int (0 : Int32)), .val (.int (ys.getD 0 0)), .val (.int ((Int32.ofNat xs.length) - (Int32.ofNat ys.length))), .val (.int (Int32.ofNat i')), s8, s9, s10] [(.int (1 : Int32)), (.int (Int32.ofNat i'))])
            refine own_by (fun _ k => XS.iadd X0.here hx rfl (hb hby d15_62) rfl k) ?_
            show own_Go p e below _ s₁ (mkF m 63 #[.val (.ref t1), .val (.int (Int32.ofNat xs.length)), .val (.ref t2), .val (.int (Int32.ofNat ys.length)), .val (.int (0 : Int32)), .val (.int (ys.getD 0 0)), .val (.int ((Int32.ofNat xs.length) - (Int32.ofNat ys.length))), .val (.int (Int32.ofNat i')), s8, s9, s10] [(.int ((Int32.ofNat i') + (1 : Int32)))])
            refine own_by (fun _ k => XS.istoreS X0.here hx rfl (hb hby d15_63) rfl rfl g8 k) ?_
            show own_Go p e below _ s₁ (mkF m 65 #[.val (.ref t1), .val (.int (Int32.ofNat xs.length)), .val (.ref t2), .val (.int (Int32.ofNat ys.length)), .val (.int (0 : Int32)), .val (.int (ys.getD 0 0)), .val (.int ((Int32.ofNat xs.length) - (Int32.ofNat ys.length))), .val (.int (Int32.ofNat i')), .val (.int ((Int32.ofNat i') + (1 : Int32))), s9, s10] [])
            refine own_by (fun _ k => XS.iload X0.here hx rfl (hb hby d15_65) rfl k) ?_
            show own_Go p e below _ s₁ (mkF m 67 #[.val (.ref t1), .val (.int (Int32.ofNat xs.length)), .val (.ref t2), .val (.int (Int32.ofNat ys.length)), .val (.int (0 : Int32)), .val (.int (ys.getD 0 0)), .val (.int ((Int32.ofNat xs.length) - (Int32.ofNat ys.length))), .val (.int (Int32.ofNat i')), .val (.int ((Int32.ofNat i') + (1 : Int32))), s9, s10] [(.int ((Int32.ofNat i') + (1 : Int32)))])
            refine own_by (fun _ k => XS.iloadN X0.here hx rfl (hb hby d15_67) rfl k) ?_
            show own_Go p e below _ s₁ (mkF m 68 #[.val (.ref t1), .val (.int (Int32.ofNat xs.length)), .val (.ref t2), .val (.int (Int32.ofNat ys.length)), .val (.int (0 : Int32)), .val (.int (ys.getD 0 0)), .val (.int ((Int32.ofNat xs.length) - (Int32.ofNat ys.length))), .val (.int (Int32.ofNat i')), .val (.int ((Int32.ofNat i') + (1 : Int32))), s9, s10] [(.int (Int32.ofNat ys.length)), (.int ((Int32.ofNat i') + (1 : Int32)))])
            refine own_by (fun _ k => XS.iadd X0.here hx rfl (hb hby d15_68) rfl k) ?_
            show own_Go p e below _ s₁ (mkF m 69 #[.val (.ref t1), .val (.int (Int32.ofNat xs.length)), .val (.ref t2), .val (.int (Int32.ofNat ys.length)), .val (.int (0 : Int32)), .val (.int (ys.getD 0 0)), .val (.int ((Int32.ofNat xs.length) - (Int32.ofNat ys.length))), .val (.int (Int32.ofNat i')), .val (.int ((Int32.ofNat i') + (1 : Int32))), s9, s10] [(.int (((Int32.ofNat i') + (1 : Int32)) + (Int32.ofNat ys.length)))])
            refine own_by (fun _ k => XS.iconst X0.here hx rfl (hb hby d15_69) k) ?_
            show own_Go p e below _ s₁ (mkF m 70 #[.val (.ref t1), .val (.int (Int32.ofNat xs.length)), .val (.ref t2), .val (.int (Int32.ofNat ys.length)), .val (.int (0 : Int32)), .val (.int (ys.getD 0 0)), .val (.int ((Int32.ofNat xs.length) - (Int32.ofNat ys.length))), .val (.int (Int32.ofNat i')), .val (.int ((Int32.ofNat i') + (1 : Int32))), s9, s10] [(.int (1 : Int32)), (.int (((Int32.ofNat i') + (1 : Int32)) + (Int32.ofNat ys.length)))])
            refine own_by (fun _ k => XS.isub X0.here hx rfl (hb hby d15_70) rfl k) ?_
            show own_Go p e below _ s₁ (mkF m 71 #[.val (.ref t1), .val (.int (Int32.ofNat xs.length)), .val (.ref t2), .val (.int (Int32.ofNat ys.length)), .val (.int (0 : Int32)), .val (.int (ys.getD 0 0)), .val (.int ((Int32.ofNat xs.length) - (Int32.ofNat ys.length))), .val (.int (Int32.ofNat i')), .val (.int ((Int32.ofNat i') + (1 : Int32))), s9, s10] [(.int ((((Int32.ofNat i') + (1 : Int32)) + (Int32.ofNat ys.length)) - (1 : Int32)))])
            refine own_by (fun _ k => XS.istoreS X0.here hx rfl (hb hby d15_71) rfl rfl g9 k) ?_
            show own_Go p e below _ s₁ (mkF m 73 #[.val (.ref t1), .val (.int (Int32.ofNat xs.length)), .val (.ref t2), .val (.int (Int32.ofNat ys.length)), .val (.int (0 : Int32)), .val (.int (ys.getD 0 0)), .val (.int ((Int32.ofNat xs.length) - (Int32.ofNat ys.length))), .val (.int (Int32.ofNat i')), .val (.int ((Int32.ofNat i') + (1 : Int32))), .val (.int ((((Int32.ofNat i') + (1 : Int32)) + (Int32.ofNat ys.length)) - (1 : Int32))), s10] [])
            refine own_by (fun _ k => XS.iconst X0.here hx rfl (hb hby d15_73) k) ?_
            show own_Go p e below _ s₁ (mkF m 74 #[.val (.ref t1), .val (.int (Int32.ofNat xs.length)), .val (.ref t2), .val (.int (Int32.ofNat ys.length)), .val (.int (0 : Int32)), .val (.int (ys.getD 0 0)), .val (.int ((Int32.ofNat xs.length) - (Int32.ofNat ys.length))), .val (.int (Int32.ofNat i')), .val (.int ((Int32.ofNat i') + (1 : Int32))), .val (.int ((((Int32.ofNat i') + (1 : Int32)) + (Int32.ofNat ys.length)) - (1 : Int32))), s10] [(.int (1 : Int32))])
            refine own_by (fun _ k => XS.istoreS X0.here hx rfl (hb hby d15_74) rfl rfl g10 k) ?_
            show own_Go p e below _ s₁ (mkF m 76 #[.val (.ref t1), .val (.int (Int32.ofNat xs.length)), .val (.ref t2), .val (.int (Int32.ofNat ys.length)), .val (.int (0 : Int32)), .val (.int (ys.getD 0 0)), .val (.int ((Int32.ofNat xs.length) - (Int32.ofNat ys.length))), .val (.int (Int32.ofNat i')), .val (.int ((Int32.ofNat i') + (1 : Int32))), .val (.int ((((Int32.ofNat i') + (1 : Int32)) + (Int32.ofNat ys.length)) - (1 : Int32))), .val (.int (1 : Int32))] [])
            rw [show Int32.ofNat i' + (1 : Int32) = Int32.ofNat (i' + 1) from own_inc (by omega), show Int32.ofNat (i' + 1) + Int32.ofNat ys.length - (1 : Int32) = Int32.ofNat (i' + ys.length) from own_end (by omega) hly]
            refine J76 (ys.length - 1) 1 (by omega) (by omega) fun j hj => ?_
            obtain rfl : j = 0 := by omega
            exact hf' (by omega)
        have J30 : ∀ (r : Nat) (i' : Nat) (hr : xs.length ≤ i' + r) (hi' : i ≤ i') (hbd : i' + ys.length ≤ xs.length) (hno' : own_no ys xs (i' + 1)), own_Go p e below (own_End s ({ frames := 0, cells := 0, slots := 0, locals := 0 } : Room).cells ({ frames := 0, cells := 0, slots := 0, locals := 0 } : Room).slots (Q_rm15 Z t1 t2 k1 k2 xs ys h0 n0)) s₁ (mkF m 30 #[.val (.ref t1), .val (.int (Int32.ofNat xs.length)), .val (.ref t2), .val (.int (Int32.ofNat ys.length)), .val (.int (0 : Int32)), .val (.int (ys.getD 0 0)), .val (.int ((Int32.ofNat xs.length) - (Int32.ofNat ys.length))), .val (.int (Int32.ofNat i')), s8, s9, s10] []) := by
          intro r
          induction r with
          | zero =>
            intro i' hr hi' hbd hno'
            omega
          | succ r ih =>
            intro i' hr hi' hbd hno'
            show own_Go p e below _ s₁ (mkF m 30 #[.val (.ref t1), .val (.int (Int32.ofNat xs.length)), .val (.ref t2), .val (.int (Int32.ofNat ys.length)), .val (.int (0 : Int32)), .val (.int (ys.getD 0 0)), .val (.int ((Int32.ofNat xs.length) - (Int32.ofNat ys.length))), .val (.int (Int32.ofNat i')), s8, s9, s10] [])
            refine own_by (fun _ k => XS.iinc X0.here hx rfl (hb hby d15_30) rfl (l' := #[.val (.ref t1), .val (.int (Int32.ofNat xs.length)), .val (.ref t2), .val (.int (Int32.ofNat ys.length)), .val (.int (0 : Int32)), .val (.int (ys.getD 0 0)), .val (.int ((Int32.ofNat xs.length) - (Int32.ofNat ys.length))), .val (.int ((Int32.ofNat i') + (1 : Int32))), s8, s9, s10]) rfl k) ?_
            show own_Go p e below _ s₁ (mkF m 33 #[.val (.ref t1), .val (.int (Int32.ofNat xs.length)), .val (.ref t2), .val (.int (Int32.ofNat ys.length)), .val (.int (0 : Int32)), .val (.int (ys.getD 0 0)), .val (.int ((Int32.ofNat xs.length) - (Int32.ofNat ys.length))), .val (.int ((Int32.ofNat i') + (1 : Int32))), s8, s9, s10] [])
            rw [show Int32.ofNat i' + (1 : Int32) = Int32.ofNat (i' + 1) from own_inc (by omega)]
            show own_Go p e below _ s₁ (mkF m 33 #[.val (.ref t1), .val (.int (Int32.ofNat xs.length)), .val (.ref t2), .val (.int (Int32.ofNat ys.length)), .val (.int (0 : Int32)), .val (.int (ys.getD 0 0)), .val (.int ((Int32.ofNat xs.length) - (Int32.ofNat ys.length))), .val (.int (Int32.ofNat (i' + 1))), s8, s9, s10] [])
            refine own_by (fun _ k => XS.iload X0.here hx rfl (hb hby d15_33) rfl k) ?_
            show own_Go p e below _ s₁ (mkF m 35 #[.val (.ref t1), .val (.int (Int32.ofNat xs.length)), .val (.ref t2), .val (.int (Int32.ofNat ys.length)), .val (.int (0 : Int32)), .val (.int (ys.getD 0 0)), .val (.int ((Int32.ofNat xs.length) - (Int32.ofNat ys.length))), .val (.int (Int32.ofNat (i' + 1))), s8, s9, s10] [(.int (Int32.ofNat (i' + 1)))])
            refine own_by (fun _ k => XS.iload X0.here hx rfl (hb hby d15_35) rfl k) ?_
            show own_Go p e below _ s₁ (mkF m 37 #[.val (.ref t1), .val (.int (Int32.ofNat xs.length)), .val (.ref t2), .val (.int (Int32.ofNat ys.length)), .val (.int (0 : Int32)), .val (.int (ys.getD 0 0)), .val (.int ((Int32.ofNat xs.length) - (Int32.ofNat ys.length))), .val (.int (Int32.ofNat (i' + 1))), s8, s9, s10] [(.int ((Int32.ofNat xs.length) - (Int32.ofNat ys.length))), (.int (Int32.ofNat (i' + 1)))])
            by_cases hg2 : xs.length < (i' + 1) + ys.length
            · refine own_by (fun _ k => XS.icmpYes X0.here hx rfl (pc0 := 37) (pc' := 52) rfl (hb hby d15_37) rfl (tlt ((own_mx hlx hly (by omega)).mpr hg2 : ((Int32.ofNat xs.length) - (Int32.ofNat ys.length)) < (Int32.ofNat (i' + 1)))).2.2.1 (by decide) (by decide) k) ?_
              show own_Go p e below _ s₁ (mkF m 52 #[.val (.ref t1), .val (.int (Int32.ofNat xs.length)), .val (.ref t2), .val (.int (Int32.ofNat ys.length)), .val (.int (0 : Int32)), .val (.int (ys.getD 0 0)), .val (.int ((Int32.ofNat xs.length) - (Int32.ofNat ys.length))), .val (.int (Int32.ofNat (i' + 1))), s8, s9, s10] [])
              exact J52 (i' + 1) _ _ _ g8 g9 g10 (by omega) hno' (fun z => by omega)
            · refine own_by (fun _ k => XS.icmpNo X0.here hx rfl (hb hby d15_37) rfl (flt (fun q => hg2 ((own_mx hlx hly (by omega)).mp q) : ¬ (((Int32.ofNat xs.length) - (Int32.ofNat ys.length)) < (Int32.ofNat (i' + 1))))).2.2.1 k) ?_
              show own_Go p e below _ s₁ (mkF m 40 #[.val (.ref t1), .val (.int (Int32.ofNat xs.length)), .val (.ref t2), .val (.int (Int32.ofNat ys.length)), .val (.int (0 : Int32)), .val (.int (ys.getD 0 0)), .val (.int ((Int32.ofNat xs.length) - (Int32.ofNat ys.length))), .val (.int (Int32.ofNat (i' + 1))), s8, s9, s10] [])
              refine own_by (fun _ k => XS.aloadN X0.here hx rfl (hb hby d15_40) rfl rfl k) ?_
              show own_Go p e below _ s₁ (mkF m 41 #[.val (.ref t1), .val (.int (Int32.ofNat xs.length)), .val (.ref t2), .val (.int (Int32.ofNat ys.length)), .val (.int (0 : Int32)), .val (.int (ys.getD 0 0)), .val (.int ((Int32.ofNat xs.length) - (Int32.ofNat ys.length))), .val (.int (Int32.ofNat (i' + 1))), s8, s9, s10] [(.ref t1)])
              refine own_by (fun _ k => XS.iload X0.here hx rfl (hb hby d15_41) rfl k) ?_
              show own_Go p e below _ s₁ (mkF m 43 #[.val (.ref t1), .val (.int (Int32.ofNat xs.length)), .val (.ref t2), .val (.int (Int32.ofNat ys.length)), .val (.int (0 : Int32)), .val (.int (ys.getD 0 0)), .val (.int ((Int32.ofNat xs.length) - (Int32.ofNat ys.length))), .val (.int (Int32.ofNat (i' + 1))), s8, s9, s10] [(.int (Int32.ofNat (i' + 1))), (.ref t1)])
              obtain ⟨cl104, Ar104, cq104, hin104, hat104, set104⟩ := own_arv A1 (j := (Int32.ofNat (i' + 1))) (own_inb hlx (by omega))
              refine own_by (fun _ k => X0.baloadBytes hx (j := (Int32.ofNat (i' + 1))) (v := (.int (xs.getD (i' + 1) 0))) (by rw [e0]; exact Ar104.1) (State.isArrayOf_alike hZ.alike Ar104.2.1) Ar104.2.2 hin104 (by rw [hat104]; exact congrArg some (own_gd xs (by omega))) (g := (mkF m 43 #[.val (.ref t1), .val (.int (Int32.ofNat xs.length)), .val (.ref t2), .val (.int (Int32.ofNat ys.length)), .val (.int (0 : Int32)), .val (.int (ys.getD 0 0)), .val (.int ((Int32.ofNat xs.length) - (Int32.ofNat ys.length))), .val (.int (Int32.ofNat (i' + 1))), s8, s9, s10] [(.int (Int32.ofNat (i' + 1))), (.ref t1)])) rfl rfl (hb hby d15_43) _ k) ?_
              show own_Go p e below _ s₁ (mkF m 44 #[.val (.ref t1), .val (.int (Int32.ofNat xs.length)), .val (.ref t2), .val (.int (Int32.ofNat ys.length)), .val (.int (0 : Int32)), .val (.int (ys.getD 0 0)), .val (.int ((Int32.ofNat xs.length) - (Int32.ofNat ys.length))), .val (.int (Int32.ofNat (i' + 1))), s8, s9, s10] [(.int (xs.getD (i' + 1) 0))])
              refine own_by (fun _ k => XS.iload X0.here hx rfl (hb hby d15_44) rfl k) ?_
              show own_Go p e below _ s₁ (mkF m 46 #[.val (.ref t1), .val (.int (Int32.ofNat xs.length)), .val (.ref t2), .val (.int (Int32.ofNat ys.length)), .val (.int (0 : Int32)), .val (.int (ys.getD 0 0)), .val (.int ((Int32.ofNat xs.length) - (Int32.ofNat ys.length))), .val (.int (Int32.ofNat (i' + 1))), s8, s9, s10] [(.int (ys.getD 0 0)), (.int (xs.getD (i' + 1) 0))])
              by_cases he : xs.getD (i' + 1) 0 = ys.getD 0 0
              · refine own_by (fun _ k => XS.icmpYes X0.here hx rfl (pc0 := 46) (pc' := 52) rfl (hb hby d15_46) rfl (teq (he : (xs.getD (i' + 1) 0) = (ys.getD 0 0))).1 (by decide) (by decide) k) ?_
                show own_Go p e below _ s₁ (mkF m 52 #[.val (.ref t1), .val (.int (Int32.ofNat xs.length)), .val (.ref t2), .val (.int (Int32.ofNat ys.length)), .val (.int (0 : Int32)), .val (.int (ys.getD 0 0)), .val (.int ((Int32.ofNat xs.length) - (Int32.ofNat ys.length))), .val (.int (Int32.ofNat (i' + 1))), s8, s9, s10] [])
                exact J52 (i' + 1) _ _ _ g8 g9 g10 (by omega) hno' (fun _ => he)
              · refine own_by (fun _ k => XS.icmpNo X0.here hx rfl (hb hby d15_46) rfl (feq (he : ¬ ((xs.getD (i' + 1) 0) = (ys.getD 0 0)))).1 k) ?_
                show own_Go p e below _ s₁ (mkF m 49 #[.val (.ref t1), .val (.int (Int32.ofNat xs.length)), .val (.ref t2), .val (.int (Int32.ofNat ys.length)), .val (.int (0 : Int32)), .val (.int (ys.getD 0 0)), .val (.int ((Int32.ofNat xs.length) - (Int32.ofNat ys.length))), .val (.int (Int32.ofNat (i' + 1))), s8, s9, s10] [])
                refine own_by (fun _ k => XS.goto X0.here hx rfl (pc0 := 49) (pc' := 30) rfl (hb hby d15_49) (by decide) (by decide) k) ?_
                show own_Go p e below _ s₁ (mkF m 30 #[.val (.ref t1), .val (.int (Int32.ofNat xs.length)), .val (.ref t2), .val (.int (Int32.ofNat ys.length)), .val (.int (0 : Int32)), .val (.int (ys.getD 0 0)), .val (.int ((Int32.ofNat xs.length) - (Int32.ofNat ys.length))), .val (.int (Int32.ofNat (i' + 1))), s8, s9, s10] [])
                exact ih (i' + 1) (by omega) (by omega) (by omega) (own_no_succ hno' (Or.inr ⟨0, hy, he⟩))
        refine own_by (fun _ k => XS.aloadN X0.here hx rfl (hb hby d15_21) rfl rfl k) ?_
        show own_Go p e below _ s₁ (mkF m 22 #[.val (.ref t1), .val (.int (Int32.ofNat xs.length)), .val (.ref t2), .val (.int (Int32.ofNat ys.length)), .val (.int (0 : Int32)), .val (.int (ys.getD 0 0)), .val (.int ((Int32.ofNat xs.length) - (Int32.ofNat ys.length))), .val (.int (Int32.ofNat i)), s8, s9, s10] [(.ref t1)])
        refine own_by (fun _ k => XS.iload X0.here hx rfl (hb hby d15_22) rfl k) ?_
        show own_Go p e below _ s₁ (mkF m 24 #[.val (.ref t1), .val (.int (Int32.ofNat xs.length)), .val (.ref t2), .val (.int (Int32.ofNat ys.length)), .val (.int (0 : Int32)), .val (.int (ys.getD 0 0)), .val (.int ((Int32.ofNat xs.length) - (Int32.ofNat ys.length))), .val (.int (Int32.ofNat i)), s8, s9, s10] [(.int (Int32.ofNat i)), (.ref t1)])
        obtain ⟨cl105, Ar105, cq105, hin105, hat105, set105⟩ := own_arv A1 (j := (Int32.ofNat i)) (own_inb hlx (by omega))
        refine own_by (fun _ k => X0.baloadBytes hx (j := (Int32.ofNat i)) (v := (.int (xs.getD i 0))) (by rw [e0]; exact Ar105.1) (State.isArrayOf_alike hZ.alike Ar105.2.1) Ar105.2.2 hin105 (by rw [hat105]; exact congrArg some (own_gd xs (by omega))) (g := (mkF m 24 #[.val (.ref t1), .val (.int (Int32.ofNat xs.length)), .val (.ref t2), .val (.int (Int32.ofNat ys.length)), .val (.int (0 : Int32)), .val (.int (ys.getD 0 0)), .val (.int ((Int32.ofNat xs.length) - (Int32.ofNat ys.length))), .val (.int (Int32.ofNat i)), s8, s9, s10] [(.int (Int32.ofNat i)), (.ref t1)])) rfl rfl (hb hby d15_24) _ k) ?_
        show own_Go p e below _ s₁ (mkF m 25 #[.val (.ref t1), .val (.int (Int32.ofNat xs.length)), .val (.ref t2), .val (.int (Int32.ofNat ys.length)), .val (.int (0 : Int32)), .val (.int (ys.getD 0 0)), .val (.int ((Int32.ofNat xs.length) - (Int32.ofNat ys.length))), .val (.int (Int32.ofNat i)), s8, s9, s10] [(.int (xs.getD i 0))])
        refine own_by (fun _ k => XS.iload X0.here hx rfl (hb hby d15_25) rfl k) ?_
        show own_Go p e below _ s₁ (mkF m 27 #[.val (.ref t1), .val (.int (Int32.ofNat xs.length)), .val (.ref t2), .val (.int (Int32.ofNat ys.length)), .val (.int (0 : Int32)), .val (.int (ys.getD 0 0)), .val (.int ((Int32.ofNat xs.length) - (Int32.ofNat ys.length))), .val (.int (Int32.ofNat i)), s8, s9, s10] [(.int (ys.getD 0 0)), (.int (xs.getD i 0))])
        by_cases he : xs.getD i 0 = ys.getD 0 0
        · refine own_by (fun _ k => XS.icmpYes X0.here hx rfl (pc0 := 27) (pc' := 52) rfl (hb hby d15_27) rfl (teq (he : (xs.getD i 0) = (ys.getD 0 0))).1 (by decide) (by decide) k) ?_
          show own_Go p e below _ s₁ (mkF m 52 #[.val (.ref t1), .val (.int (Int32.ofNat xs.length)), .val (.ref t2), .val (.int (Int32.ofNat ys.length)), .val (.int (0 : Int32)), .val (.int (ys.getD 0 0)), .val (.int ((Int32.ofNat xs.length) - (Int32.ofNat ys.length))), .val (.int (Int32.ofNat i)), s8, s9, s10] [])
          exact J52 i _ _ _ g8 g9 g10 (by omega) hno (fun _ => he)
        · refine own_by (fun _ k => XS.icmpNo X0.here hx rfl (hb hby d15_27) rfl (feq (he : ¬ ((xs.getD i 0) = (ys.getD 0 0)))).1 k) ?_
          show own_Go p e below _ s₁ (mkF m 30 #[.val (.ref t1), .val (.int (Int32.ofNat xs.length)), .val (.ref t2), .val (.int (Int32.ofNat ys.length)), .val (.int (0 : Int32)), .val (.int (ys.getD 0 0)), .val (.int ((Int32.ofNat xs.length) - (Int32.ofNat ys.length))), .val (.int (Int32.ofNat i)), s8, s9, s10] [])
          exact J30 xs.length i (by omega) (by omega) (by omega) (own_no_succ hno (Or.inr ⟨0, hy, he⟩))
  exact J14 (xs.length + 3) 0 _ _ _ One.u One.u One.u (by omega) (by omega) (fun i' z => by omega)
def Q_rm14 (Z : State) (t1 t2 : Addr) (k1 k2 : ClassId) (xs ys : List Int32) (h0 : Heap) (n0 : Nat) (v : Option Value) (h : Heap) (L : List Loc) : Prop := ∃ r : Int32, v = some (.int r) ∧ (r < 0 ↔ own_has ys xs = false) ∧ Fr n0 L ∧ h = h0
theorem pn_rm14 : plainFor (⟨"java/lang/StringLatin1", "indexOf", "([B[B)I"⟩ : MethodName) = true := by first | exact plainFor_of_name (by first | (simp [plainName, overriddenIn, x]; done) | decide +kernel) | decide +kernel
theorem d14_0 : decode jdk_43_method_24_code 0 = .ok (.aload_n 1, 1) := by decide +kernel
theorem d14_1 : decode jdk_43_method_24_code 1 = .ok (.arraylength, 1) := by decide +kernel
theorem d14_2 : decode jdk_43_method_24_code 2 = .ok (.ifCond .ne 5, 3) := by decide +kernel
theorem d14_7 : decode jdk_43_method_24_code 7 = .ok (.aload_n 0, 1) := by decide +kernel
theorem d14_8 : decode jdk_43_method_24_code 8 = .ok (.arraylength, 1) := by decide +kernel
theorem d14_9 : decode jdk_43_method_24_code 9 = .ok (.ifCond .ne 5, 3) := by decide +kernel
theorem d14_12 : decode jdk_43_method_24_code 12 = .ok (.iconst (-1), 1) := by decide +kernel
theorem d14_13 : decode jdk_43_method_24_code 13 = .ok (.ireturn, 1) := by decide +kernel
theorem d14_14 : decode jdk_43_method_24_code 14 = .ok (.aload_n 0, 1) := by decide +kernel
theorem d14_15 : decode jdk_43_method_24_code 15 = .ok (.aload_n 0, 1) := by decide +kernel
theorem d14_16 : decode jdk_43_method_24_code 16 = .ok (.arraylength, 1) := by decide +kernel
theorem d14_17 : decode jdk_43_method_24_code 17 = .ok (.aload_n 1, 1) := by decide +kernel
theorem d14_18 : decode jdk_43_method_24_code 18 = .ok (.aload_n 1, 1) := by decide +kernel
theorem d14_19 : decode jdk_43_method_24_code 19 = .ok (.arraylength, 1) := by decide +kernel
theorem d14_20 : decode jdk_43_method_24_code 20 = .ok (.iconst 0, 1) := by decide +kernel
theorem pd_0 : parseMethodDescriptor "([BI[BII)I" = some ⟨[(.array .byte), .int, (.array .byte), .int, .int], some .int⟩ := by decide +kernel
theorem d14_21 : decode jdk_43_method_24_code 21 = .ok (.invokestatic 99, 3) := by decide +kernel
theorem d14_24 : decode jdk_43_method_24_code 24 = .ok (.ireturn, 1) := by decide +kernel
set_option maxRecDepth 65536 in
set_option maxHeartbeats 40000000 in
theorem rm14 (l : Launch) (Z : State) (a0 : Array Value) (hw : ∀ d ∈ tables_1, d.before a0 Z = true) (ws : List Jvm.Cond) (t1 t2 : Addr) (k1 k2 : ClassId) (xs ys : List Int32) (h0 : Heap) (n0 : Nat) (Z0 : n0 ≤ h0.size) (A1 : Arv Z h0 t1 k1 .byte (Int32.ofNat xs.length) (xs.map Value.int) (.int 0)) (A2 : Arv Z h0 t2 k2 .byte (Int32.ofNat ys.length) (ys.map Value.int) (.int 0)) (hlx : xs.length ≤ 10000) (hly : ys.length ≤ 10000) (hy : 0 < ys.length) :
    own_Met l Z (⟨"java/lang/StringLatin1", "indexOf", "([B[B)I"⟩ : MethodName) jdk_43_method_24_code 2 (some .int) ws ({ frames := 1, cells := 0, slots := 0, locals := 24 } : Room) #[(.ref t1), (.ref t2)] h0 (Q_rm14 Z t1 t2 k1 k2 xs ys h0 n0) := by
  refine own_enter (g0 := fun m => (mkF m 0 #[.val (.ref t1), .val (.ref t2)] [])) pn_rm14 (fun m => by first | (simp [entryFrame, mkF, argsToLocals, Value.category, maxLocals]; done) | rfl) ?_
  intro p e s m below meth c s₁ hx hby hml hown hnm hret hlk hZ X0 e0
  have hml : c.maxLocals = 2 := hml
  have hown : s.vm.findClass "java/lang/StringLatin1" = some m.cls := hown
  have N0 := Fr.nil n0
  show own_Go p e below _ s₁ (mkF m 0 #[.val (.ref t1), .val (.ref t2)] [])
  refine own_by (fun _ k => XS.aloadN X0.here hx rfl (hb hby d14_0) rfl rfl k) ?_
  show own_Go p e below _ s₁ (mkF m 1 #[.val (.ref t1), .val (.ref t2)] [(.ref t2)])
  obtain ⟨cl106, Ar106, len106⟩ := own_len A2
  refine own_by (T' := s₁) (g' := (mkF m 2 #[.val (.ref t1), .val (.ref t2)] [(.int (Int32.ofNat ys.length))])) (fun _ k => X0.arraylength hx (by rw [e0]; exact Ar106.1) (State.isArrayOf_alike hZ.alike Ar106.2.1) (g := (mkF m 1 #[.val (.ref t1), .val (.ref t2)] [(.ref t2)])) rfl rfl (hb hby d14_1) _ (by rw [len106]; exact k)) ?_
  show own_Go p e below _ s₁ (mkF m 2 #[.val (.ref t1), .val (.ref t2)] [(.int (Int32.ofNat ys.length))])
  refine own_by (fun _ k => XS.ifYes X0.here hx rfl (pc0 := 2) (pc' := 7) rfl (hb hby d14_2) rfl ((if0 _ _).trans (feq (fun q => by have := (own_eqn (a := ys.length) (b := 0) (by omega) (by omega)).mp q; omega : ¬ ((Int32.ofNat ys.length) = (0 : Int32)))).2) (by decide) (by decide) k) ?_
  show own_Go p e below _ s₁ (mkF m 7 #[.val (.ref t1), .val (.ref t2)] [])
  refine own_by (fun _ k => XS.aloadN X0.here hx rfl (hb hby d14_7) rfl rfl k) ?_
  show own_Go p e below _ s₁ (mkF m 8 #[.val (.ref t1), .val (.ref t2)] [(.ref t1)])
  obtain ⟨cl107, Ar107, len107⟩ := own_len A1
  refine own_by (T' := s₁) (g' := (mkF m 9 #[.val (.ref t1), .val (.ref t2)] [(.int (Int32.ofNat xs.length))])) (fun _ k => X0.arraylength hx (by rw [e0]; exact Ar107.1) (State.isArrayOf_alike hZ.alike Ar107.2.1) (g := (mkF m 8 #[.val (.ref t1), .val (.ref t2)] [(.ref t1)])) rfl rfl (hb hby d14_8) _ (by rw [len107]; exact k)) ?_
  show own_Go p e below _ s₁ (mkF m 9 #[.val (.ref t1), .val (.ref t2)] [(.int (Int32.ofNat xs.length))])
  by_cases hx0 : (Int32.ofNat xs.length) = (0 : Int32)
  · refine own_by (fun _ k => XS.ifNo X0.here hx rfl (hb hby d14_9) rfl ((if0 _ _).trans (teq (hx0 : (Int32.ofNat xs.length) = (0 : Int32))).2) k) ?_
    show own_Go p e below _ s₁ (mkF m 12 #[.val (.ref t1), .val (.ref t2)] [])
    refine own_by (fun _ k => XS.iconst X0.here hx rfl (hb hby d14_12) k) ?_
    show own_Go p e below _ s₁ (mkF m 13 #[.val (.ref t1), .val (.ref t2)] [(.int (-1 : Int32))])
    have h00 := (own_eqn (a := xs.length) (b := 0) (by omega) (by omega)).mp hx0
    have hf := own_no_end (ys := ys) (xs := xs) (i := 0) (fun _ z => by omega) (by omega)
    exact own_retI X0 hx hlk hret  (hb hby d14_13) (by first | exact ⟨_, rfl, by rw [hf]; decide, N0, rfl⟩ | (rw [e0]; exact ⟨_, rfl, by rw [hf]; decide, N0, rfl⟩)) (by decide) (by decide)
  · refine own_by (fun _ k => XS.ifYes X0.here hx rfl (pc0 := 9) (pc' := 14) rfl (hb hby d14_9) rfl ((if0 _ _).trans (feq (hx0 : ¬ ((Int32.ofNat xs.length) = (0 : Int32)))).2) (by decide) (by decide) k) ?_
    show own_Go p e below _ s₁ (mkF m 14 #[.val (.ref t1), .val (.ref t2)] [])
    refine own_by (fun _ k => XS.aloadN X0.here hx rfl (hb hby d14_14) rfl rfl k) ?_
    show own_Go p e below _ s₁ (mkF m 15 #[.val (.ref t1), .val (.ref t2)] [(.ref t1)])
    refine own_by (fun _ k => XS.aloadN X0.here hx rfl (hb hby d14_15) rfl rfl k) ?_
    show own_Go p e below _ s₁ (mkF m 16 #[.val (.ref t1), .val (.ref t2)] [(.ref t1), (.ref t1)])
    obtain ⟨cl108, Ar108, len108⟩ := own_len A1
    refine own_by (T' := s₁) (g' := (mkF m 17 #[.val (.ref t1), .val (.ref t2)] [(.int (Int32.ofNat xs.length)), (.ref t1)])) (fun _ k => X0.arraylength hx (by rw [e0]; exact Ar108.1) (State.isArrayOf_alike hZ.alike Ar108.2.1) (g := (mkF m 16 #[.val (.ref t1), .val (.ref t2)] [(.ref t1), (.ref t1)])) rfl rfl (hb hby d14_16) _ (by rw [len108]; exact k)) ?_
    refine own_by (fun _ k => XS.aloadN X0.here hx rfl (hb hby d14_17) rfl rfl k) ?_
    show own_Go p e below _ s₁ (mkF m 18 #[.val (.ref t1), .val (.ref t2)] [(.ref t2), (.int (Int32.ofNat xs.length)), (.ref t1)])
    refine own_by (fun _ k => XS.aloadN X0.here hx rfl (hb hby d14_18) rfl rfl k) ?_
    show own_Go p e below _ s₁ (mkF m 19 #[.val (.ref t1), .val (.ref t2)] [(.ref t2), (.ref t2), (.int (Int32.ofNat xs.length)), (.ref t1)])
    obtain ⟨cl109, Ar109, len109⟩ := own_len A2
    refine own_by (T' := s₁) (g' := (mkF m 20 #[.val (.ref t1), .val (.ref t2)] [(.int (Int32.ofNat ys.length)), (.ref t2), (.int (Int32.ofNat xs.length)), (.ref t1)])) (fun _ k => X0.arraylength hx (by rw [e0]; exact Ar109.1) (State.isArrayOf_alike hZ.alike Ar109.2.1) (g := (mkF m 19 #[.val (.ref t1), .val (.ref t2)] [(.ref t2), (.ref t2), (.int (Int32.ofNat xs.length)), (.ref t1)])) rfl rfl (hb hby d14_19) _ (by rw [len109]; exact k)) ?_
    refine own_by (fun _ k => XS.iconst X0.here hx rfl (hb hby d14_20) k) ?_
    show own_Go p e below _ s₁ (mkF m 21 #[.val (.ref t1), .val (.ref t2)] [(.int (0 : Int32)), (.int (Int32.ofNat ys.length)), (.ref t2), (.int (Int32.ofNat xs.length)), (.ref t1)])
    obtain ⟨_, T110, L110, X110, ⟨r5, rfl, hr5, N110q, e110⟩, st110⟩ := own_callS X0 hx hZ hown (y := (⟨"java/lang/StringLatin1", "indexOf", "([BI[BII)I"⟩ : MethodName)) (hw _ (List.mem_of_getElem? (i := 75) rfl)) (hw _ (List.mem_of_getElem? (i := 76) rfl)) (hw _ (List.mem_of_getElem? (i := 73) rfl)) (hw _ (List.mem_of_getElem? (i := 77) rfl)) (by decide) (argsL := [(.ref t1), (.int (Int32.ofNat xs.length)), (.ref t2), (.int (Int32.ofNat ys.length)), (.int (0 : Int32))]) (rest := []) e0 (rm15 l Z a0 hw [] t1 t2 k1 k2 xs ys h0 n0 Z0 A1 A2 hlx hly hy) (g := (mkF m 21 #[.val (.ref t1), .val (.ref t2)] [(.int (0 : Int32)), (.int (Int32.ofNat ys.length)), (.ref t2), (.int (Int32.ofNat xs.length)), (.ref t1)])) rfl (by rw [hml]; rfl) (lenOf pd_0 rfl) rfl (W := 0) (by show 2 * 0 + _ ≤ _; exact Nat.le_of_eq rfl) (hb hby d14_21) (by decide) (by decide) (by decide) (by decide)
    have N110 := Fr.app N0 N110q
    refine own_by st110 ?_
    show own_Go p e below _ T110 (mkF m 24 #[.val (.ref t1), .val (.ref t2)] [(.int r5)])
    exact own_retI X110 hx hlk hret  (hb hby d14_24) (by first | exact ⟨_, rfl, hr5, N110, rfl⟩ | (rw [e110]; exact ⟨_, rfl, hr5, N110, rfl⟩)) (by decide) (by decide)
def Q_rm12 (Z : State) (a1 : Addr) (w1 : Int32) (h0 : Heap) (n0 : Nat) (v : Option Value) (h : Heap) (L : List Loc) : Prop := v = some (.int (0 : Int32)) ∧ Fr n0 L ∧ h = h0
theorem pn_rm12 : plainFor (⟨"java/lang/String", "coder", "()B"⟩ : MethodName) = true := by first | exact plainFor_of_name (by first | (simp [plainName, overriddenIn, x]; done) | decide +kernel) | decide +kernel
theorem d12_0 : decode jdk_42_method_152_code 0 = .ok (.getstatic 38, 3) := by decide +kernel
theorem d12_3 : decode jdk_42_method_152_code 3 = .ok (.ifCond .eq 10, 3) := by decide +kernel
theorem d12_6 : decode jdk_42_method_152_code 6 = .ok (.aload_n 0, 1) := by decide +kernel
theorem d12_7 : decode jdk_42_method_152_code 7 = .ok (.getfield 15, 3) := by decide +kernel
theorem d12_10 : decode jdk_42_method_152_code 10 = .ok (.goto 4, 3) := by decide +kernel
theorem d12_14 : decode jdk_42_method_152_code 14 = .ok (.ireturn, 1) := by decide +kernel
set_option maxRecDepth 65536 in
set_option maxHeartbeats 40000000 in
theorem rm12 (l : Launch) (Z : State) (a0 : Array Value) (hw : ∀ d ∈ tables_1, d.before a0 Z = true) (ws : List Jvm.Cond) (a1 : Addr) (w1 : Int32) (h0 : Heap) (n0 : Nat) (Z0 : n0 ≤ h0.size) (SC : Sta Z h0 "java/lang/String" "COMPACT_STRINGS" "Z" (.int w1)) (hw1 : ¬ w1 = 0) (C1 : Fld Z h0 a1 "java/lang/String" "coder" "B" (.int (0 : Int32))) :
    own_Met l Z (⟨"java/lang/String", "coder", "()B"⟩ : MethodName) jdk_42_method_152_code 1 (some .byte) ws ({ frames := 0, cells := 0, slots := 0, locals := 0 } : Room) #[(.ref a1)] h0 (Q_rm12 Z a1 w1 h0 n0) := by
  refine own_enter (g0 := fun m => (mkF m 0 #[.val (.ref a1)] [])) pn_rm12 (fun m => by first | (simp [entryFrame, mkF, argsToLocals, Value.category, maxLocals]; done) | rfl) ?_
  intro p e s m below meth c s₁ hx hby hml hown hnm hret hlk hZ X0 e0
  have hml : c.maxLocals = 1 := hml
  have hown : s.vm.findClass "java/lang/String" = some m.cls := hown
  have N0 := Fr.nil n0
  show own_Go p e below _ s₁ (mkF m 0 #[.val (.ref a1)] [])
  obtain ⟨T111, X111, e111, st111⟩ := getS2 X0 hx hZ hown (host := "") (Or.inl (hw _ (List.mem_of_getElem? (i := 19) rfl))) Via.refl e0 SC (g := (mkF m 0 #[.val (.ref a1)] [])) rfl (hb hby d12_0)
  refine own_by st111 ?_
  show own_Go p e below _ T111 (mkF m 3 #[.val (.ref a1)] [(.int w1)])
  refine own_by (fun _ k => XS.ifNo X111.here hx rfl (hb hby d12_3) rfl ((if0 _ _).trans (feq (hw1 : ¬ (w1 = (0 : Int32)))).1) k) ?_
  show own_Go p e below _ T111 (mkF m 6 #[.val (.ref a1)] [])
  refine own_by (fun _ k => XS.aloadN X111.here hx rfl (hb hby d12_6) rfl rfl k) ?_
  show own_Go p e below _ T111 (mkF m 7 #[.val (.ref a1)] [(.ref a1)])
  obtain ⟨T112, X112, e112, st112⟩ := getF X111 hx hZ hown (host := "") (Or.inl (hw _ (List.mem_of_getElem? (i := 31) rfl))) Via.refl e111 C1 (g := (mkF m 7 #[.val (.ref a1)] [(.ref a1)])) rfl rfl (hb hby d12_7)
  refine own_by st112 ?_
  show own_Go p e below _ T112 (mkF m 10 #[.val (.ref a1)] [(.int (0 : Int32))])
  refine own_by (fun _ k => XS.goto X112.here hx rfl (pc0 := 10) (pc' := 14) rfl (hb hby d12_10) (by decide) (by decide) k) ?_
  show own_Go p e below _ T112 (mkF m 14 #[.val (.ref a1)] [(.int (0 : Int32))])
  exact own_retN X112 hx hlk hret (by simp) rfl (hb hby d12_14) (by first | exact ⟨rfl, N0, rfl⟩ | (rw [e112]; exact ⟨rfl, N0, rfl⟩)) (by decide) (by decide)
def Q_rm13 (Z : State) (a1 : Addr) (w1 : Int32) (h0 : Heap) (n0 : Nat) (v : Option Value) (h : Heap) (L : List Loc) : Prop := v = some (.int (1 : Int32)) ∧ Fr n0 L ∧ h = h0
theorem pn_rm13 : plainFor (⟨"java/lang/String", "isLatin1", "()Z"⟩ : MethodName) = true := by first | exact plainFor_of_name (by first | (simp [plainName, overriddenIn, x]; done) | decide +kernel) | decide +kernel
theorem d13_0 : decode jdk_42_method_154_code 0 = .ok (.getstatic 38, 3) := by decide +kernel
theorem d13_3 : decode jdk_42_method_154_code 3 = .ok (.ifCond .eq 14, 3) := by decide +kernel
theorem d13_6 : decode jdk_42_method_154_code 6 = .ok (.aload_n 0, 1) := by decide +kernel
theorem d13_7 : decode jdk_42_method_154_code 7 = .ok (.getfield 15, 3) := by decide +kernel
theorem d13_10 : decode jdk_42_method_154_code 10 = .ok (.ifCond .ne 7, 3) := by decide +kernel
theorem d13_13 : decode jdk_42_method_154_code 13 = .ok (.iconst 1, 1) := by decide +kernel
theorem d13_14 : decode jdk_42_method_154_code 14 = .ok (.goto 4, 3) := by decide +kernel
theorem d13_18 : decode jdk_42_method_154_code 18 = .ok (.ireturn, 1) := by decide +kernel
set_option maxRecDepth 65536 in
set_option maxHeartbeats 40000000 in
theorem rm13 (l : Launch) (Z : State) (a0 : Array Value) (hw : ∀ d ∈ tables_1, d.before a0 Z = true) (ws : List Jvm.Cond) (a1 : Addr) (w1 : Int32) (h0 : Heap) (n0 : Nat) (Z0 : n0 ≤ h0.size) (SC : Sta Z h0 "java/lang/String" "COMPACT_STRINGS" "Z" (.int w1)) (hw1 : ¬ w1 = 0) (C1 : Fld Z h0 a1 "java/lang/String" "coder" "B" (.int (0 : Int32))) :
    own_Met l Z (⟨"java/lang/String", "isLatin1", "()Z"⟩ : MethodName) jdk_42_method_154_code 1 (some .boolean) ws ({ frames := 0, cells := 0, slots := 0, locals := 0 } : Room) #[(.ref a1)] h0 (Q_rm13 Z a1 w1 h0 n0) := by
  refine own_enter (g0 := fun m => (mkF m 0 #[.val (.ref a1)] [])) pn_rm13 (fun m => by first | (simp [entryFrame, mkF, argsToLocals, Value.category, maxLocals]; done) | rfl) ?_
  intro p e s m below meth c s₁ hx hby hml hown hnm hret hlk hZ X0 e0
  have hml : c.maxLocals = 1 := hml
  have hown : s.vm.findClass "java/lang/String" = some m.cls := hown
  have N0 := Fr.nil n0
  show own_Go p e below _ s₁ (mkF m 0 #[.val (.ref a1)] [])
  obtain ⟨T113, X113, e113, st113⟩ := getS2 X0 hx hZ hown (host := "") (Or.inl (hw _ (List.mem_of_getElem? (i := 19) rfl))) Via.refl e0 SC (g := (mkF m 0 #[.val (.ref a1)] [])) rfl (hb hby d13_0)
  refine own_by st113 ?_
  show own_Go p e below _ T113 (mkF m 3 #[.val (.ref a1)] [(.int w1)])
  refine own_by (fun _ k => XS.ifNo X113.here hx rfl (hb hby d13_3) rfl ((if0 _ _).trans (feq (hw1 : ¬ (w1 = (0 : Int32)))).1) k) ?_
  show own_Go p e below _ T113 (mkF m 6 #[.val (.ref a1)] [])
  refine own_by (fun _ k => XS.aloadN X113.here hx rfl (hb hby d13_6) rfl rfl k) ?_
  show own_Go p e below _ T113 (mkF m 7 #[.val (.ref a1)] [(.ref a1)])
  obtain ⟨T114, X114, e114, st114⟩ := getF X113 hx hZ hown (host := "") (Or.inl (hw _ (List.mem_of_getElem? (i := 31) rfl))) Via.refl e113 C1 (g := (mkF m 7 #[.val (.ref a1)] [(.ref a1)])) rfl rfl (hb hby d13_7)
  refine own_by st114 ?_
  show own_Go p e below _ T114 (mkF m 10 #[.val (.ref a1)] [(.int (0 : Int32))])
  refine own_by (fun _ k => XS.ifNo X114.here hx rfl (hb hby d13_10) rfl ((if0 _ _).trans (teq (rfl : (0 : Int32) = (0 : Int32))).2) k) ?_
  show own_Go p e below _ T114 (mkF m 13 #[.val (.ref a1)] [])
  refine own_by (fun _ k => XS.iconst X114.here hx rfl (hb hby d13_13) k) ?_
  show own_Go p e below _ T114 (mkF m 14 #[.val (.ref a1)] [(.int (1 : Int32))])
  refine own_by (fun _ k => XS.goto X114.here hx rfl (pc0 := 14) (pc' := 18) rfl (hb hby d13_14) (by decide) (by decide) k) ?_
  show own_Go p e below _ T114 (mkF m 18 #[.val (.ref a1)] [(.int (1 : Int32))])
  exact own_retN X114 hx hlk hret (by simp) rfl (hb hby d13_18) (by first | exact ⟨rfl, N0, rfl⟩ | (rw [e114]; exact ⟨rfl, N0, rfl⟩)) (by decide) (by decide)
def Q_rm11 (Z : State) (a1 a2 t1 t2 : Addr) (k1 k2 : ClassId) (xs ys : List Int32) (w1 : Int32) (h0 : Heap) (n0 : Nat) (v : Option Value) (h : Heap) (L : List Loc) : Prop := ∃ r : Int32, v = some (.int r) ∧ (r < 0 ↔ own_has ys xs = false) ∧ Fr n0 L ∧ h = h0
theorem pn_rm11 : plainFor (⟨"java/lang/String", "indexOf", "(Ljava/lang/String;)I"⟩ : MethodName) = true := by first | exact plainFor_of_name (by first | (simp [plainName, overriddenIn, x]; done) | decide +kernel) | decide +kernel
theorem d11_0 : decode jdk_42_method_84_code 0 = .ok (.aload_n 0, 1) := by decide +kernel
theorem pd_1 : parseMethodDescriptor "()B" = some ⟨[], some .byte⟩ := by decide +kernel
theorem d11_1 : decode jdk_42_method_84_code 1 = .ok (.invokevirtual 335, 3) := by decide +kernel
theorem d11_4 : decode jdk_42_method_84_code 4 = .ok (.istore_n 2, 1) := by decide +kernel
theorem d11_5 : decode jdk_42_method_84_code 5 = .ok (.iload_n 2, 1) := by decide +kernel
theorem d11_6 : decode jdk_42_method_84_code 6 = .ok (.aload_n 1, 1) := by decide +kernel
theorem d11_7 : decode jdk_42_method_84_code 7 = .ok (.invokevirtual 335, 3) := by decide +kernel
theorem d11_10 : decode jdk_42_method_84_code 10 = .ok (.if_icmp .ne 36, 3) := by decide +kernel
theorem d11_13 : decode jdk_42_method_84_code 13 = .ok (.aload_n 0, 1) := by decide +kernel
theorem pd_2 : parseMethodDescriptor "()Z" = some ⟨[], some .boolean⟩ := by decide +kernel
theorem d11_14 : decode jdk_42_method_84_code 14 = .ok (.invokevirtual 492, 3) := by decide +kernel
theorem d11_17 : decode jdk_42_method_84_code 17 = .ok (.ifCond .eq 17, 3) := by decide +kernel
theorem d11_20 : decode jdk_42_method_84_code 20 = .ok (.aload_n 0, 1) := by decide +kernel
theorem d11_21 : decode jdk_42_method_84_code 21 = .ok (.getfield 9, 3) := by decide +kernel
theorem d11_24 : decode jdk_42_method_84_code 24 = .ok (.aload_n 1, 1) := by decide +kernel
theorem d11_25 : decode jdk_42_method_84_code 25 = .ok (.getfield 9, 3) := by decide +kernel
theorem pd_3 : parseMethodDescriptor "([B[B)I" = some ⟨[(.array .byte), (.array .byte)], some .int⟩ := by decide +kernel
theorem d11_28 : decode jdk_42_method_84_code 28 = .ok (.invokestatic 647, 3) := by decide +kernel
theorem d11_31 : decode jdk_42_method_84_code 31 = .ok (.goto 14, 3) := by decide +kernel
theorem d11_45 : decode jdk_42_method_84_code 45 = .ok (.ireturn, 1) := by decide +kernel
set_option maxRecDepth 65536 in
set_option maxHeartbeats 40000000 in
theorem rm11 (l : Launch) (Z : State) (a0 : Array Value) (hw : ∀ d ∈ tables_1, d.before a0 Z = true) (ws : List Jvm.Cond) (a1 a2 t1 t2 : Addr) (k1 k2 : ClassId) (xs ys : List Int32) (w1 : Int32) (h0 : Heap) (n0 : Nat) (Z0 : n0 ≤ h0.size) (SC : Sta Z h0 "java/lang/String" "COMPACT_STRINGS" "Z" (.int w1)) (hw1 : ¬ w1 = 0) (E1 : Exa Z h0 a1 "java/lang/String") (C1 : Fld Z h0 a1 "java/lang/String" "coder" "B" (.int (0 : Int32))) (V1 : Fld Z h0 a1 "java/lang/String" "value" "[B" (.ref t1)) (A1 : Arv Z h0 t1 k1 .byte (Int32.ofNat xs.length) (xs.map Value.int) (.int 0)) (E2 : Exa Z h0 a2 "java/lang/String") (C2 : Fld Z h0 a2 "java/lang/String" "coder" "B" (.int (0 : Int32))) (V2 : Fld Z h0 a2 "java/lang/String" "value" "[B" (.ref t2)) (A2 : Arv Z h0 t2 k2 .byte (Int32.ofNat ys.length) (ys.map Value.int) (.int 0)) (hlx : xs.length ≤ 10000) (hly : ys.length ≤ 10000) (hy : 0 < ys.length) :
    own_Met l Z (⟨"java/lang/String", "indexOf", "(Ljava/lang/String;)I"⟩ : MethodName) jdk_42_method_84_code 3 (some .int) ws ({ frames := 2, cells := 0, slots := 0, locals := 60 } : Room) #[(.ref a1), (.ref a2)] h0 (Q_rm11 Z a1 a2 t1 t2 k1 k2 xs ys w1 h0 n0) := by
  refine own_enter (g0 := fun m => (mkF m 0 #[.val (.ref a1), .val (.ref a2), .unset] [])) pn_rm11 (fun m => by first | (simp [entryFrame, mkF, argsToLocals, Value.category, maxLocals]; done) | rfl) ?_
  intro p e s m below meth c s₁ hx hby hml hown hnm hret hlk hZ X0 e0
  have hml : c.maxLocals = 3 := hml
  have hown : s.vm.findClass "java/lang/String" = some m.cls := hown
  have N0 := Fr.nil n0
  show own_Go p e below _ s₁ (mkF m 0 #[.val (.ref a1), .val (.ref a2), .unset] [])
  refine own_by (fun _ k => XS.aloadN X0.here hx rfl (hb hby d11_0) rfl rfl k) ?_
  show own_Go p e below _ s₁ (mkF m 1 #[.val (.ref a1), .val (.ref a2), .unset] [(.ref a1)])
  obtain ⟨_, T115, L115, X115, ⟨rfl, N115q, e115⟩, st115⟩ := own_callV X0 hx hZ hown (y := (⟨"java/lang/String", "coder", "()B"⟩ : MethodName)) (C := "java/lang/String") (hw _ (List.mem_of_getElem? (i := 61) rfl)) (hw _ (List.mem_of_getElem? (i := 62) rfl)) (hw _ (List.mem_of_getElem? (i := 64) rfl)) (hw _ (List.mem_of_getElem? (i := 63) rfl)) (hw _ (List.mem_of_getElem? (i := 8) rfl)) (hw _ (List.mem_of_getElem? (i := 65) rfl)) (by decide) (a := a1) E1 (argsL := []) (rest := []) e0 (rm12 l Z a0 hw [] a1 w1 h0 n0 Z0 SC hw1 C1) (g := (mkF m 1 #[.val (.ref a1), .val (.ref a2), .unset] [(.ref a1)])) rfl (by rw [hml]; rfl) (lenOf pd_1 rfl) rfl (W := 0) (by show 2 * 0 + _ ≤ _; exact Nat.le_of_eq rfl) (hb hby d11_1) (by decide) (by decide) (by decide) (by decide)
  have N115 := Fr.app N0 N115q
  refine own_by st115 ?_
  show own_Go p e below _ T115 (mkF m 4 #[.val (.ref a1), .val (.ref a2), .unset] [(.int (0 : Int32))])
  refine own_by (fun _ k => XS.istoreN X115.here hx rfl (hb hby d11_4) rfl (l' := #[.val (.ref a1), .val (.ref a2), .val (.int (0 : Int32))]) rfl k) ?_
  show own_Go p e below _ T115 (mkF m 5 #[.val (.ref a1), .val (.ref a2), .val (.int (0 : Int32))] [])
  refine own_by (fun _ k => XS.iloadN X115.here hx rfl (hb hby d11_5) rfl k) ?_
  show own_Go p e below _ T115 (mkF m 6 #[.val (.ref a1), .val (.ref a2), .val (.int (0 : Int32))] [(.int (0 : Int32))])
  refine own_by (fun _ k => XS.aloadN X115.here hx rfl (hb hby d11_6) rfl rfl k) ?_
  show own_Go p e below _ T115 (mkF m 7 #[.val (.ref a1), .val (.ref a2), .val (.int (0 : Int32))] [(.ref a2), (.int (0 : Int32))])
  obtain ⟨_, T116, L116, X116, ⟨rfl, N116q, e116⟩, st116⟩ := own_callV X115 hx hZ hown (y := (⟨"java/lang/String", "coder", "()B"⟩ : MethodName)) (C := "java/lang/String") (hw _ (List.mem_of_getElem? (i := 61) rfl)) (hw _ (List.mem_of_getElem? (i := 62) rfl)) (hw _ (List.mem_of_getElem? (i := 64) rfl)) (hw _ (List.mem_of_getElem? (i := 63) rfl)) (hw _ (List.mem_of_getElem? (i := 8) rfl)) (hw _ (List.mem_of_getElem? (i := 65) rfl)) (by decide) (a := a2) E2 (argsL := []) (rest := [(.int (0 : Int32))]) e115 (rm12 l Z a0 hw [] a2 w1 h0 n0 Z0 SC hw1 C2) (g := (mkF m 7 #[.val (.ref a1), .val (.ref a2), .val (.int (0 : Int32))] [(.ref a2), (.int (0 : Int32))])) rfl (by rw [hml]; rfl) (lenOf pd_1 rfl) rfl (W := 1) (by show 2 * 0 + _ ≤ _; exact Nat.le_of_eq rfl) (hb hby d11_7) (by decide) (by decide) (by decide) (by decide)
  have N116 := Fr.app N115 N116q
  refine own_by st116 ?_
  show own_Go p e below _ T116 (mkF m 10 #[.val (.ref a1), .val (.ref a2), .val (.int (0 : Int32))] [(.int (0 : Int32)), (.int (0 : Int32))])
  refine own_by (fun _ k => XS.icmpNo X116.here hx rfl (hb hby d11_10) rfl (teq (rfl : (0 : Int32) = (0 : Int32))).2 k) ?_
  show own_Go p e below _ T116 (mkF m 13 #[.val (.ref a1), .val (.ref a2), .val (.int (0 : Int32))] [])
  refine own_by (fun _ k => XS.aloadN X116.here hx rfl (hb hby d11_13) rfl rfl k) ?_
  show own_Go p e below _ T116 (mkF m 14 #[.val (.ref a1), .val (.ref a2), .val (.int (0 : Int32))] [(.ref a1)])
  obtain ⟨_, T117, L117, X117, ⟨rfl, N117q, e117⟩, st117⟩ := own_callV X116 hx hZ hown (y := (⟨"java/lang/String", "isLatin1", "()Z"⟩ : MethodName)) (C := "java/lang/String") (hw _ (List.mem_of_getElem? (i := 66) rfl)) (hw _ (List.mem_of_getElem? (i := 67) rfl)) (hw _ (List.mem_of_getElem? (i := 69) rfl)) (hw _ (List.mem_of_getElem? (i := 68) rfl)) (hw _ (List.mem_of_getElem? (i := 8) rfl)) (hw _ (List.mem_of_getElem? (i := 70) rfl)) (by decide) (a := a1) E1 (argsL := []) (rest := []) e116 (rm13 l Z a0 hw [] a1 w1 h0 n0 Z0 SC hw1 C1) (g := (mkF m 14 #[.val (.ref a1), .val (.ref a2), .val (.int (0 : Int32))] [(.ref a1)])) rfl (by rw [hml]; rfl) (lenOf pd_2 rfl) rfl (W := 0) (by show 2 * 0 + _ ≤ _; exact Nat.le_of_eq rfl) (hb hby d11_14) (by decide) (by decide) (by decide) (by decide)
  have N117 := Fr.app N116 N117q
  refine own_by st117 ?_
  show own_Go p e below _ T117 (mkF m 17 #[.val (.ref a1), .val (.ref a2), .val (.int (0 : Int32))] [(.int (1 : Int32))])
  refine own_by (fun _ k => XS.ifNo X117.here hx rfl (hb hby d11_17) rfl ((if0 _ _).trans (feq (by decide : ¬ ((1 : Int32) = (0 : Int32)))).1) k) ?_
  show own_Go p e below _ T117 (mkF m 20 #[.val (.ref a1), .val (.ref a2), .val (.int (0 : Int32))] [])
  refine own_by (fun _ k => XS.aloadN X117.here hx rfl (hb hby d11_20) rfl rfl k) ?_
  show own_Go p e below _ T117 (mkF m 21 #[.val (.ref a1), .val (.ref a2), .val (.int (0 : Int32))] [(.ref a1)])
  obtain ⟨T118, X118, e118, st118⟩ := getF X117 hx hZ hown (host := "") (Or.inl (hw _ (List.mem_of_getElem? (i := 33) rfl))) Via.refl e117 V1 (g := (mkF m 21 #[.val (.ref a1), .val (.ref a2), .val (.int (0 : Int32))] [(.ref a1)])) rfl rfl (hb hby d11_21)
  refine own_by st118 ?_
  show own_Go p e below _ T118 (mkF m 24 #[.val (.ref a1), .val (.ref a2), .val (.int (0 : Int32))] [(.ref t1)])
  refine own_by (fun _ k => XS.aloadN X118.here hx rfl (hb hby d11_24) rfl rfl k) ?_
  show own_Go p e below _ T118 (mkF m 25 #[.val (.ref a1), .val (.ref a2), .val (.int (0 : Int32))] [(.ref a2), (.ref t1)])
  obtain ⟨T119, X119, e119, st119⟩ := getF X118 hx hZ hown (host := "") (Or.inl (hw _ (List.mem_of_getElem? (i := 33) rfl))) Via.refl e118 V2 (g := (mkF m 25 #[.val (.ref a1), .val (.ref a2), .val (.int (0 : Int32))] [(.ref a2), (.ref t1)])) rfl rfl (hb hby d11_25)
  refine own_by st119 ?_
  show own_Go p e below _ T119 (mkF m 28 #[.val (.ref a1), .val (.ref a2), .val (.int (0 : Int32))] [(.ref t2), (.ref t1)])
  obtain ⟨_, T120, L120, X120, ⟨r5, rfl, hr5, N120q, e120⟩, st120⟩ := own_callS X119 hx hZ hown (y := (⟨"java/lang/StringLatin1", "indexOf", "([B[B)I"⟩ : MethodName)) (hw _ (List.mem_of_getElem? (i := 71) rfl)) (hw _ (List.mem_of_getElem? (i := 72) rfl)) (hw _ (List.mem_of_getElem? (i := 73) rfl)) (hw _ (List.mem_of_getElem? (i := 74) rfl)) (by decide) (argsL := [(.ref t1), (.ref t2)]) (rest := []) e119 (rm14 l Z a0 hw [] t1 t2 k1 k2 xs ys h0 n0 Z0 A1 A2 hlx hly hy) (g := (mkF m 28 #[.val (.ref a1), .val (.ref a2), .val (.int (0 : Int32))] [(.ref t2), (.ref t1)])) rfl (by rw [hml]; rfl) (lenOf pd_3 rfl) rfl (W := 0) (by show 2 * 0 + _ ≤ _; exact Nat.le_of_eq rfl) (hb hby d11_28) (by decide) (by decide) (by decide) (by decide)
  have N120 := Fr.app N117 N120q
  refine own_by st120 ?_
  show own_Go p e below _ T120 (mkF m 31 #[.val (.ref a1), .val (.ref a2), .val (.int (0 : Int32))] [(.int r5)])
  refine own_by (fun _ k => XS.goto X120.here hx rfl (pc0 := 31) (pc' := 45) rfl (hb hby d11_31) (by decide) (by decide) k) ?_
  show own_Go p e below _ T120 (mkF m 45 #[.val (.ref a1), .val (.ref a2), .val (.int (0 : Int32))] [(.int r5)])
  exact own_retI X120 hx hlk hret  (hb hby d11_45) (by first | exact ⟨_, rfl, hr5, N120, rfl⟩ | (rw [e120]; exact ⟨_, rfl, hr5, N120, rfl⟩)) (by decide) (by decide)
def Q_rm10 (Z : State) (a1 : Addr) (h0 : Heap) (n0 : Nat) (v : Option Value) (h : Heap) (L : List Loc) : Prop := v = some (.ref a1) ∧ Fr n0 L ∧ h = h0
theorem pn_rm10 : plainFor (⟨"java/lang/String", "toString", "()Ljava/lang/String;"⟩ : MethodName) = true := by first | exact plainFor_of_name (by first | (simp [plainName, overriddenIn, x]; done) | decide +kernel) | decide +kernel
theorem d10_0 : decode jdk_42_method_126_code 0 = .ok (.aload_n 0, 1) := by decide +kernel
theorem d10_1 : decode jdk_42_method_126_code 1 = .ok (.areturn, 1) := by decide +kernel
set_option maxRecDepth 65536 in
set_option maxHeartbeats 40000000 in
theorem rm10 (l : Launch) (Z : State) (a0 : Array Value) (hw : ∀ d ∈ tables_1, d.before a0 Z = true) (ws : List Jvm.Cond) (a1 : Addr) (h0 : Heap) (n0 : Nat) (Z0 : n0 ≤ h0.size)  :
    own_Met l Z (⟨"java/lang/String", "toString", "()Ljava/lang/String;"⟩ : MethodName) jdk_42_method_126_code 1 (some (.object "java/lang/String")) ws ({ frames := 0, cells := 0, slots := 0, locals := 0 } : Room) #[(.ref a1)] h0 (Q_rm10 Z a1 h0 n0) := by
  refine own_enter (g0 := fun m => (mkF m 0 #[.val (.ref a1)] [])) pn_rm10 (fun m => by first | (simp [entryFrame, mkF, argsToLocals, Value.category, maxLocals]; done) | rfl) ?_
  intro p e s m below meth c s₁ hx hby hml hown hnm hret hlk hZ X0 e0
  have hml : c.maxLocals = 1 := hml
  have hown : s.vm.findClass "java/lang/String" = some m.cls := hown
  have N0 := Fr.nil n0
  show own_Go p e below _ s₁ (mkF m 0 #[.val (.ref a1)] [])
  refine own_by (fun _ k => XS.aloadN X0.here hx rfl (hb hby d10_0) rfl rfl k) ?_
  show own_Go p e below _ s₁ (mkF m 1 #[.val (.ref a1)] [(.ref a1)])
  exact own_retA X0 hx hlk hret rfl rfl (hb hby d10_1) (by first | exact ⟨rfl, N0, rfl⟩ | (rw [e0]; exact ⟨rfl, N0, rfl⟩)) (by decide) (by decide)
def Q_rm9 (Z : State) (a1 a2 t1 t2 : Addr) (k1 k2 : ClassId) (xs ys : List Int32) (w1 : Int32) (h0 : Heap) (n0 : Nat) (v : Option Value) (h : Heap) (L : List Loc) : Prop := v = some (.int (own_b (own_has ys xs))) ∧ Fr n0 L ∧ h = h0
theorem pn_rm9 : plainFor (⟨"java/lang/String", "contains", "(Ljava/lang/CharSequence;)Z"⟩ : MethodName) = true := by first | exact plainFor_of_name (by first | (simp [plainName, overriddenIn, x]; done) | decide +kernel) | decide +kernel
theorem d9_0 : decode jdk_42_method_97_code 0 = .ok (.aload_n 0, 1) := by decide +kernel
theorem d9_1 : decode jdk_42_method_97_code 1 = .ok (.aload_n 1, 1) := by decide +kernel
theorem pd_4 : parseMethodDescriptor "()Ljava/lang/String;" = some ⟨[], some (.object "java/lang/String")⟩ := by decide +kernel
theorem d9_2 : decode jdk_42_method_97_code 2 = .ok (.invokeinterface 710 1, 5) := by decide +kernel
theorem pd_5 : parseMethodDescriptor "(Ljava/lang/String;)I" = some ⟨[(.object "java/lang/String")], some .int⟩ := by decide +kernel
theorem d9_7 : decode jdk_42_method_97_code 7 = .ok (.invokevirtual 711, 3) := by decide +kernel
theorem d9_10 : decode jdk_42_method_97_code 10 = .ok (.ifCond .lt 7, 3) := by decide +kernel
theorem d9_17 : decode jdk_42_method_97_code 17 = .ok (.iconst 0, 1) := by decide +kernel
theorem d9_18 : decode jdk_42_method_97_code 18 = .ok (.ireturn, 1) := by decide +kernel
theorem d9_13 : decode jdk_42_method_97_code 13 = .ok (.iconst 1, 1) := by decide +kernel
theorem d9_14 : decode jdk_42_method_97_code 14 = .ok (.goto 4, 3) := by decide +kernel
set_option maxRecDepth 65536 in
set_option maxHeartbeats 40000000 in
theorem rm9 (l : Launch) (Z : State) (a0 : Array Value) (hw : ∀ d ∈ tables_1, d.before a0 Z = true) (ws : List Jvm.Cond) (a1 a2 t1 t2 : Addr) (k1 k2 : ClassId) (xs ys : List Int32) (w1 : Int32) (h0 : Heap) (n0 : Nat) (Z0 : n0 ≤ h0.size) (SC : Sta Z h0 "java/lang/String" "COMPACT_STRINGS" "Z" (.int w1)) (hw1 : ¬ w1 = 0) (E1 : Exa Z h0 a1 "java/lang/String") (C1 : Fld Z h0 a1 "java/lang/String" "coder" "B" (.int (0 : Int32))) (V1 : Fld Z h0 a1 "java/lang/String" "value" "[B" (.ref t1)) (A1 : Arv Z h0 t1 k1 .byte (Int32.ofNat xs.length) (xs.map Value.int) (.int 0)) (E2 : Exa Z h0 a2 "java/lang/String") (C2 : Fld Z h0 a2 "java/lang/String" "coder" "B" (.int (0 : Int32))) (V2 : Fld Z h0 a2 "java/lang/String" "value" "[B" (.ref t2)) (A2 : Arv Z h0 t2 k2 .byte (Int32.ofNat ys.length) (ys.map Value.int) (.int 0)) (hlx : xs.length ≤ 10000) (hly : ys.length ≤ 10000) (hy : 0 < ys.length) :
    own_Met l Z (⟨"java/lang/String", "contains", "(Ljava/lang/CharSequence;)Z"⟩ : MethodName) jdk_42_method_97_code 2 (some .boolean) ws ({ frames := 3, cells := 0, slots := 0, locals := 90 } : Room) #[(.ref a1), (.ref a2)] h0 (Q_rm9 Z a1 a2 t1 t2 k1 k2 xs ys w1 h0 n0) := by
  refine own_enter (g0 := fun m => (mkF m 0 #[.val (.ref a1), .val (.ref a2)] [])) pn_rm9 (fun m => by first | (simp [entryFrame, mkF, argsToLocals, Value.category, maxLocals]; done) | rfl) ?_
  intro p e s m below meth c s₁ hx hby hml hown hnm hret hlk hZ X0 e0
  have hml : c.maxLocals = 2 := hml
  have hown : s.vm.findClass "java/lang/String" = some m.cls := hown
  have N0 := Fr.nil n0
  show own_Go p e below _ s₁ (mkF m 0 #[.val (.ref a1), .val (.ref a2)] [])
  refine own_by (fun _ k => XS.aloadN X0.here hx rfl (hb hby d9_0) rfl rfl k) ?_
  show own_Go p e below _ s₁ (mkF m 1 #[.val (.ref a1), .val (.ref a2)] [(.ref a1)])
  refine own_by (fun _ k => XS.aloadN X0.here hx rfl (hb hby d9_1) rfl rfl k) ?_
  show own_Go p e below _ s₁ (mkF m 2 #[.val (.ref a1), .val (.ref a2)] [(.ref a2), (.ref a1)])
  obtain ⟨_, T121, L121, X121, ⟨rfl, N121q, e121⟩, st121⟩ := own_callF X0 hx hZ hown (xi := (⟨"java/lang/CharSequence", "toString", "()Ljava/lang/String;"⟩ : MethodName)) (y := (⟨"java/lang/String", "toString", "()Ljava/lang/String;"⟩ : MethodName)) (C := "java/lang/String") (hw _ (List.mem_of_getElem? (i := 47) rfl)) (hw _ (List.mem_of_getElem? (i := 48) rfl)) (mvT hZ (hw _ (List.mem_of_getElem? (i := 49) rfl))) (hw _ (List.mem_of_getElem? (i := 50) rfl)) (hw _ (List.mem_of_getElem? (i := 51) rfl)) (hw _ (List.mem_of_getElem? (i := 52) rfl)) (hw _ (List.mem_of_getElem? (i := 53) rfl)) (hw _ (List.mem_of_getElem? (i := 54) rfl)) (hw _ (List.mem_of_getElem? (i := 8) rfl)) (hw _ (List.mem_of_getElem? (i := 55) rfl)) (by decide) (a := a2) E2 (argsL := []) (rest := [(.ref a1)]) e0 (rm10 l Z a0 hw [] a2 h0 n0 Z0) (g := (mkF m 2 #[.val (.ref a1), .val (.ref a2)] [(.ref a2), (.ref a1)])) rfl (by rw [hml]; rfl) (lenOf pd_4 rfl) rfl (W := 1) (by show 2 * 0 + _ ≤ _; exact Nat.le_of_eq rfl) (hb hby d9_2) (by decide) (by decide) (by decide) (by decide)
  have N121 := Fr.app N0 N121q
  refine own_by st121 ?_
  show own_Go p e below _ T121 (mkF m 7 #[.val (.ref a1), .val (.ref a2)] [(.ref a2), (.ref a1)])
  obtain ⟨_, T122, L122, X122, ⟨r5, rfl, hr5, N122q, e122⟩, st122⟩ := own_callV X121 hx hZ hown (y := (⟨"java/lang/String", "indexOf", "(Ljava/lang/String;)I"⟩ : MethodName)) (C := "java/lang/String") (hw _ (List.mem_of_getElem? (i := 56) rfl)) (hw _ (List.mem_of_getElem? (i := 57) rfl)) (hw _ (List.mem_of_getElem? (i := 59) rfl)) (hw _ (List.mem_of_getElem? (i := 58) rfl)) (hw _ (List.mem_of_getElem? (i := 8) rfl)) (hw _ (List.mem_of_getElem? (i := 60) rfl)) (by decide) (a := a1) E1 (argsL := [(.ref a2)]) (rest := []) e121 (rm11 l Z a0 hw [] a1 a2 t1 t2 k1 k2 xs ys w1 h0 n0 Z0 SC hw1 E1 C1 V1 A1 E2 C2 V2 A2 hlx hly hy) (g := (mkF m 7 #[.val (.ref a1), .val (.ref a2)] [(.ref a2), (.ref a1)])) rfl (by rw [hml]; rfl) (lenOf pd_5 rfl) rfl (W := 0) (by show 2 * 0 + _ ≤ _; exact Nat.le_of_eq rfl) (hb hby d9_7) (by decide) (by decide) (by decide) (by decide)
  have N122 := Fr.app N121 N122q
  refine own_by st122 ?_
  show own_Go p e below _ T122 (mkF m 10 #[.val (.ref a1), .val (.ref a2)] [(.int r5)])
  by_cases hneg : r5 < (0 : Int32)
  · refine own_by (fun _ k => XS.ifYes X122.here hx rfl (pc0 := 10) (pc' := 17) rfl (hb hby d9_10) rfl ((if0 _ _).trans (tlt (hneg : r5 < (0 : Int32))).1) (by decide) (by decide) k) ?_
    show own_Go p e below _ T122 (mkF m 17 #[.val (.ref a1), .val (.ref a2)] [])
    refine own_by (fun _ k => XS.iconst X122.here hx rfl (hb hby d9_17) k) ?_
    show own_Go p e below _ T122 (mkF m 18 #[.val (.ref a1), .val (.ref a2)] [(.int (0 : Int32))])
    exact own_retN X122 hx hlk hret (by simp) rfl (hb hby d9_18) (by first | exact ⟨by rw [hr5.mp hneg]; rfl, N122, rfl⟩ | (rw [e122]; exact ⟨by rw [hr5.mp hneg]; rfl, N122, rfl⟩)) (by decide) (by decide)
  · refine own_by (fun _ k => XS.ifNo X122.here hx rfl (hb hby d9_10) rfl ((if0 _ _).trans (flt (hneg : ¬ (r5 < (0 : Int32)))).1) k) ?_
    show own_Go p e below _ T122 (mkF m 13 #[.val (.ref a1), .val (.ref a2)] [])
    refine own_by (fun _ k => XS.iconst X122.here hx rfl (hb hby d9_13) k) ?_
    show own_Go p e below _ T122 (mkF m 14 #[.val (.ref a1), .val (.ref a2)] [(.int (1 : Int32))])
    refine own_by (fun _ k => XS.goto X122.here hx rfl (pc0 := 14) (pc' := 18) rfl (hb hby d9_14) (by decide) (by decide) k) ?_
    show own_Go p e below _ T122 (mkF m 18 #[.val (.ref a1), .val (.ref a2)] [(.int (1 : Int32))])
    have ht : own_has ys xs = true := by cases hb : own_has ys xs with | true => rfl | false => exact absurd (hr5.mpr hb) hneg
    exact own_retN X122 hx hlk hret (by simp) rfl (hb hby d9_18) (by first | exact ⟨by rw [ht]; rfl, N122, rfl⟩ | (rw [e122]; exact ⟨by rw [ht]; rfl, N122, rfl⟩)) (by decide) (by decide)
def Q_rm8 (Z : State) (p1 : Int32) (a1 t1 : Addr) (k1 : ClassId) (xs : List Int32) (w1 : Int32) (h0 : Heap) (n0 : Nat) (v : Option Value) (h : Heap) (L : List Loc) (vm : Vm) : Prop := v = some (.int (own_ans p1 xs)) ∧ Fr n0 L
theorem pn_rm8 : plainFor (⟨"com/example/tolk/tolk/query/Http1", "keepsAlive", "(ZLjava/lang/String;)Z"⟩ : MethodName) = true := by first | exact plainFor_of_name (by first | (simp [plainName, overriddenIn, x]; done) | decide +kernel) | decide +kernel
theorem d8_0 : decode prog_14_method_4_code 0 = .ok (.iload_n 0, 1) := by decide +kernel
theorem d8_1 : decode prog_14_method_4_code 1 = .ok (.ifCond .eq 12, 3) := by decide +kernel
theorem d8_13 : decode prog_14_method_4_code 13 = .ok (.aload_n 1, 1) := by decide +kernel
theorem d8_14 : decode prog_14_method_4_code 14 = .ok (.ldc 55, 2) := by decide +kernel
theorem pd_6 : parseMethodDescriptor "(Ljava/lang/CharSequence;)Z" = some ⟨[(.object "java/lang/CharSequence")], some .boolean⟩ := by decide +kernel
theorem d8_16 : decode prog_14_method_4_code 16 = .ok (.invokevirtual 51, 3) := by decide +kernel
theorem d8_19 : decode prog_14_method_4_code 19 = .ok (.ifCond .ne 7, 3) := by decide +kernel
theorem d8_26 : decode prog_14_method_4_code 26 = .ok (.iconst 0, 1) := by decide +kernel
theorem d8_27 : decode prog_14_method_4_code 27 = .ok (.ireturn, 1) := by decide +kernel
theorem d8_22 : decode prog_14_method_4_code 22 = .ok (.iconst 1, 1) := by decide +kernel
theorem d8_23 : decode prog_14_method_4_code 23 = .ok (.goto 4, 3) := by decide +kernel
theorem d8_4 : decode prog_14_method_4_code 4 = .ok (.aload_n 1, 1) := by decide +kernel
theorem d8_5 : decode prog_14_method_4_code 5 = .ok (.ldc 49, 2) := by decide +kernel
theorem d8_7 : decode prog_14_method_4_code 7 = .ok (.invokevirtual 51, 3) := by decide +kernel
theorem d8_10 : decode prog_14_method_4_code 10 = .ok (.goto 17, 3) := by decide +kernel
set_option maxRecDepth 65536 in
set_option maxHeartbeats 40000000 in
theorem rm8 (l : Launch) (Z : State) (a0 : Array Value) (hw : ∀ d ∈ tables_1, d.before a0 Z = true) (ws : List Jvm.Cond) (p1 : Int32) (a1 t1 : Addr) (k1 : ClassId) (xs : List Int32) (w1 : Int32) (h0 : Heap) (n0 : Nat) (Z0 : n0 ≤ h0.size) (SC : Sta Z h0 "java/lang/String" "COMPACT_STRINGS" "Z" (.int w1)) (hw1 : ¬ w1 = 0) (E1 : Exa Z h0 a1 "java/lang/String") (C1 : Fld Z h0 a1 "java/lang/String" "coder" "B" (.int (0 : Int32))) (V1 : Fld Z h0 a1 "java/lang/String" "value" "[B" (.ref t1)) (A1 : Arv Z h0 t1 k1 .byte (Int32.ofNat xs.length) (xs.map Value.int) (.int 0)) (hlx : xs.length ≤ 10000) (hc49 : Jvm.Lit.constHeld Z "com/example/tolk/tolk/query/Http1" 49) (hc55 : Jvm.Lit.constHeld Z "com/example/tolk/tolk/query/Http1" 55) (hcw : Jvm.Lit.compactW.before a0 Z = true) (hkz : ∀ (b : Addr) (cl : Cell), Z.heap[b]? = some cl → h0[b]? = some cl) :
    own_MetW l Z (⟨"com/example/tolk/tolk/query/Http1", "keepsAlive", "(ZLjava/lang/String;)Z"⟩ : MethodName) prog_14_method_4_code 2 (some .boolean) ws ({ frames := 4, cells := 2, slots := 44, locals := 116 } : Room) #[(.int p1), (.ref a1)] h0 (fun vm => IB Z vm [""]) (Q_rm8 Z p1 a1 t1 k1 xs w1 h0 n0) := by
  refine own_enterW (g0 := fun m => (mkF m 0 #[.val (.int p1), .val (.ref a1)] [])) pn_rm8 (fun m => by first | (simp [entryFrame, mkF, argsToLocals, Value.category, maxLocals]; done) | rfl) ?_
  intro p e s m below meth c s₁ hx hby hml hown hnm hret hlk hZ I0 X0 e0 es
  have hml : c.maxLocals = 2 := hml
  have hown : (s.setVm s.vm).vm.findClass "com/example/tolk/tolk/query/Http1" = some m.cls := hown
  have N0 := Fr.nil n0
  have S0 : s.Since s.vm 0 := (State.WarmedH.refl s).since 0
  have kz0 : 0 ≤ h0.size := Nat.zero_le _
  show own_Go p e below _ s₁ (mkF m 0 #[.val (.int p1), .val (.ref a1)] [])
  refine own_by (fun _ k => XS.iloadN X0.here hx rfl (hb hby d8_0) rfl k) ?_
  show own_Go p e below _ s₁ (mkF m 1 #[.val (.int p1), .val (.ref a1)] [(.int p1)])
  by_cases hp0 : p1 = (0 : Int32)
  · refine own_by (fun _ k => XS.ifYes X0.here hx rfl (pc0 := 1) (pc' := 13) rfl (hb hby d8_1) rfl ((if0 _ _).trans (teq (hp0 : p1 = (0 : Int32))).1) (by decide) (by decide) k) ?_
    show own_Go p e below _ s₁ (mkF m 13 #[.val (.int p1), .val (.ref a1)] [])
    refine own_by (fun _ k => XS.aloadN X0.here hx rfl (hb hby d8_13) rfl rfl k) ?_
    show own_Go p e below _ s₁ (mkF m 14 #[.val (.int p1), .val (.ref a1)] [(.ref a1)])
    obtain ⟨a123, T123, h123, k123w, b123, k123, X123, e123, E123, S123, kz123, hZ, hown, Ea123, Ca123, Va123, Ab123, la123, lb123, I123, Lt123, st123⟩ := ldcSVL X0 hx hZ hown (hw _ (List.mem_of_getElem? (i := 39) rfl)) (own_sa hw) e0 S0 kz0 (Fr.nil _) (by rw [es]; exact hkz) I0 (by decide +kernel) hc55 hcw (vs := own_close.map Value.int) (z := Int32.ofNat own_close.length) ⟨by decide +kernel, by decide +kernel⟩ (by decide +kernel) (by decide +kernel) (g := (mkF m 14 #[.val (.int p1), .val (.ref a1)] [(.ref a1)])) rfl (hb hby d8_14) (n := 20) (by decide +kernel) (by decide) (by decide) (by decide)
    have Z123 : n0 ≤ h123.size := Nat.le_trans Z0 E123.1
    refine own_by st123 ?_
    show own_Go p e below _ T123 (mkF m 16 #[.val (.int p1), .val (.ref a1)] [(.ref a123), (.ref a1)])
    have f124 := (SC.ext E123)
    have f125 := (E1.ext E123)
    have f126 := (C1.ext E123)
    have f127 := (V1.ext E123)
    have f128 := (A1.ext E123)
    obtain ⟨_, T129, L129, X129, ⟨rfl, N129q, e129⟩, st129⟩ := own_callV X123 hx hZ hown (y := (⟨"java/lang/String", "contains", "(Ljava/lang/CharSequence;)Z"⟩ : MethodName)) (C := "java/lang/String") (hw _ (List.mem_of_getElem? (i := 42) rfl)) (hw _ (List.mem_of_getElem? (i := 43) rfl)) (hw _ (List.mem_of_getElem? (i := 45) rfl)) (hw _ (List.mem_of_getElem? (i := 44) rfl)) (hw _ (List.mem_of_getElem? (i := 8) rfl)) (hw _ (List.mem_of_getElem? (i := 46) rfl)) (by decide) (a := a1) f125 (argsL := [(.ref a123)]) (rest := []) e123 (rm9 l Z a0 hw [] a1 a123 t1 b123 k1 k123 xs own_close w1 h123 n0 Z123 f124 hw1 f125 f126 f127 f128 Ea123 Ca123 Va123 Ab123 hlx (by decide) (by decide)) (g := (mkF m 16 #[.val (.int p1), .val (.ref a1)] [(.ref a123), (.ref a1)])) rfl (by rw [hml]; rfl) (lenOf pd_6 rfl) rfl (W := 0) (by show 2 * 0 + _ ≤ _; exact Nat.le_of_eq rfl) (hb hby d8_16) (by decide) (by decide) (by decide) (by decide)
    have N129 := Fr.app N0 N129q
    refine own_by st129 ?_
    show own_Go p e below _ T129 (mkF m 19 #[.val (.int p1), .val (.ref a1)] [(.int (own_b (own_has own_close xs)))])
    cases hbo : own_has own_close xs with
    | true =>
      refine own_by (fun _ k => XS.ifYes X129.here hx rfl (pc0 := 19) (pc' := 26) rfl (hb hby d8_19) rfl ((if0 _ _).trans (feq (by decide : ¬ ((own_b true) = (0 : Int32)))).2) (by decide) (by decide) k) ?_
      show own_Go p e below _ T129 (mkF m 26 #[.val (.int p1), .val (.ref a1)] [])
      refine own_by (fun _ k => XS.iconst X129.here hx rfl (hb hby d8_26) k) ?_
      show own_Go p e below _ T129 (mkF m 27 #[.val (.int p1), .val (.ref a1)] [(.int (0 : Int32))])
      exact own_retNW X129 hx hlk S123 kz123 e129 hret (by simp) rfl (hb hby d8_27) (by first | exact ⟨by simp only [own_ans, if_pos hp0, hbo]; rfl, N129⟩ | (rw [e129]; exact ⟨by simp only [own_ans, if_pos hp0, hbo]; rfl, N129⟩)) (by decide) (by decide)
    | false =>
      refine own_by (fun _ k => XS.ifNo X129.here hx rfl (hb hby d8_19) rfl ((if0 _ _).trans (teq (by decide : (own_b false) = (0 : Int32))).2) k) ?_
      show own_Go p e below _ T129 (mkF m 22 #[.val (.int p1), .val (.ref a1)] [])
      refine own_by (fun _ k => XS.iconst X129.here hx rfl (hb hby d8_22) k) ?_
      show own_Go p e below _ T129 (mkF m 23 #[.val (.int p1), .val (.ref a1)] [(.int (1 : Int32))])
      refine own_by (fun _ k => XS.goto X129.here hx rfl (pc0 := 23) (pc' := 27) rfl (hb hby d8_23) (by decide) (by decide) k) ?_
      show own_Go p e below _ T129 (mkF m 27 #[.val (.int p1), .val (.ref a1)] [(.int (1 : Int32))])
      exact own_retNW X129 hx hlk S123 kz123 e129 hret (by simp) rfl (hb hby d8_27) (by first | exact ⟨by simp only [own_ans, if_pos hp0, hbo]; rfl, N129⟩ | (rw [e129]; exact ⟨by simp only [own_ans, if_pos hp0, hbo]; rfl, N129⟩)) (by decide) (by decide)
  · refine own_by (fun _ k => XS.ifNo X0.here hx rfl (hb hby d8_1) rfl ((if0 _ _).trans (feq (hp0 : ¬ (p1 = (0 : Int32)))).1) k) ?_
    show own_Go p e below _ s₁ (mkF m 4 #[.val (.int p1), .val (.ref a1)] [])
    refine own_by (fun _ k => XS.aloadN X0.here hx rfl (hb hby d8_4) rfl rfl k) ?_
    show own_Go p e below _ s₁ (mkF m 5 #[.val (.int p1), .val (.ref a1)] [(.ref a1)])
    obtain ⟨a130, T130, h130, k130w, b130, k130, X130, e130, E130, S130, kz130, hZ, hown, Ea130, Ca130, Va130, Ab130, la130, lb130, I130, Lt130, st130⟩ := ldcSVL X0 hx hZ hown (hw _ (List.mem_of_getElem? (i := 78) rfl)) (own_sa hw) e0 S0 kz0 (Fr.nil _) (by rw [es]; exact hkz) I0 (by decide +kernel) hc49 hcw (vs := own_keep.map Value.int) (z := Int32.ofNat own_keep.length) ⟨by decide +kernel, by decide +kernel⟩ (by decide +kernel) (by decide +kernel) (g := (mkF m 5 #[.val (.int p1), .val (.ref a1)] [(.ref a1)])) rfl (hb hby d8_5) (n := 40) (by decide +kernel) (by decide) (by decide) (by decide)
    have Z130 : n0 ≤ h130.size := Nat.le_trans Z0 E130.1
    refine own_by st130 ?_
    show own_Go p e below _ T130 (mkF m 7 #[.val (.int p1), .val (.ref a1)] [(.ref a130), (.ref a1)])
    have f131 := (SC.ext E130)
    have f132 := (E1.ext E130)
    have f133 := (C1.ext E130)
    have f134 := (V1.ext E130)
    have f135 := (A1.ext E130)
    obtain ⟨_, T136, L136, X136, ⟨rfl, N136q, e136⟩, st136⟩ := own_callV X130 hx hZ hown (y := (⟨"java/lang/String", "contains", "(Ljava/lang/CharSequence;)Z"⟩ : MethodName)) (C := "java/lang/String") (hw _ (List.mem_of_getElem? (i := 42) rfl)) (hw _ (List.mem_of_getElem? (i := 43) rfl)) (hw _ (List.mem_of_getElem? (i := 45) rfl)) (hw _ (List.mem_of_getElem? (i := 44) rfl)) (hw _ (List.mem_of_getElem? (i := 8) rfl)) (hw _ (List.mem_of_getElem? (i := 46) rfl)) (by decide) (a := a1) f132 (argsL := [(.ref a130)]) (rest := []) e130 (rm9 l Z a0 hw [] a1 a130 t1 b130 k1 k130 xs own_keep w1 h130 n0 Z130 f131 hw1 f132 f133 f134 f135 Ea130 Ca130 Va130 Ab130 hlx (by decide) (by decide)) (g := (mkF m 7 #[.val (.int p1), .val (.ref a1)] [(.ref a130), (.ref a1)])) rfl (by rw [hml]; rfl) (lenOf pd_6 rfl) rfl (W := 0) (by show 2 * 0 + _ ≤ _; exact Nat.le_of_eq rfl) (hb hby d8_7) (by decide) (by decide) (by decide) (by decide)
    have N136 := Fr.app N0 N136q
    refine own_by st136 ?_
    show own_Go p e below _ T136 (mkF m 10 #[.val (.int p1), .val (.ref a1)] [(.int (own_b (own_has own_keep xs)))])
    refine own_by (fun _ k => XS.goto X136.here hx rfl (pc0 := 10) (pc' := 27) rfl (hb hby d8_10) (by decide) (by decide) k) ?_
    show own_Go p e below _ T136 (mkF m 27 #[.val (.int p1), .val (.ref a1)] [(.int (own_b (own_has own_keep xs)))])
    exact own_retNW X136 hx hlk S130 kz130 e136 hret (by simp) (by cases own_has own_keep xs <;> rfl) (hb hby d8_27) (by first | exact ⟨by simp only [own_ans, if_neg hp0], N136⟩ | (rw [e136]; exact ⟨by simp only [own_ans, if_neg hp0], N136⟩)) (by decide) (by decide)
def own_nil : List Int32 := []
def Q_rm3 (Z : State) (a1 q1 : Addr) (h0 : Heap) (n0 : Nat) (v : Option Value) (h : Heap) (L : List Loc) (vm : Vm) : Prop := v = none ∧ Fr n0 L ∧ Keep h0 h [a1] ∧ Exa Z h a1 "java/lang/String" ∧ Fld Z h a1 "java/lang/String" "coder" "B" (.int (0 : Int32)) ∧ ∃ (t : Addr) (kb : ClassId), Fld Z h a1 "java/lang/String" "value" "[B" (.ref t) ∧ Arv Z h t kb .byte (Int32.ofNat own_nil.length) (own_nil.map Value.int) (.int 0) ∧ IB Z vm [""]
theorem pn_rm3 : plainFor (⟨"java/lang/String", "<init>", "([CIILjava/lang/Void;)V"⟩ : MethodName) = true := by first | exact plainFor_of_name (by first | (simp [plainName, overriddenIn, x]; done) | decide +kernel) | decide +kernel
theorem d3_0 : decode jdk_42_method_149_code 0 = .ok (.aload_n 0, 1) := by decide +kernel
theorem d3_1 : decode jdk_42_method_149_code 1 = .ok (.invokespecial 1, 3) := by decide +kernel
theorem d3_4 : decode jdk_42_method_149_code 4 = .ok (.iload_n 3, 1) := by decide +kernel
theorem d3_5 : decode jdk_42_method_149_code 5 = .ok (.ifCond .ne 22, 3) := by decide +kernel
theorem d3_8 : decode jdk_42_method_149_code 8 = .ok (.aload_n 0, 1) := by decide +kernel
theorem d3_9 : decode jdk_42_method_149_code 9 = .ok (.ldc 7, 2) := by decide +kernel
theorem d3_11 : decode jdk_42_method_149_code 11 = .ok (.getfield 9, 3) := by decide +kernel
theorem d3_14 : decode jdk_42_method_149_code 14 = .ok (.putfield 9, 3) := by decide +kernel
theorem d3_17 : decode jdk_42_method_149_code 17 = .ok (.aload_n 0, 1) := by decide +kernel
theorem d3_18 : decode jdk_42_method_149_code 18 = .ok (.ldc 7, 2) := by decide +kernel
theorem d3_20 : decode jdk_42_method_149_code 20 = .ok (.getfield 15, 3) := by decide +kernel
theorem d3_23 : decode jdk_42_method_149_code 23 = .ok (.putfield 15, 3) := by decide +kernel
theorem d3_26 : decode jdk_42_method_149_code 26 = .ok (.return_, 1) := by decide +kernel
set_option maxRecDepth 65536 in
set_option maxHeartbeats 40000000 in
theorem rm3 (l : Launch) (Z : State) (a0 : Array Value) (hw : ∀ d ∈ tables_1, d.before a0 Z = true) (ws : List Jvm.Cond) (a1 q1 : Addr) (h0 : Heap) (n0 : Nat) (Z0 : n0 ≤ h0.size) (g1 : n0 ≤ a1) (E1 : Exa Z h0 a1 "java/lang/String") (C1 : Fld Z h0 a1 "java/lang/String" "coder" "B" (.int (0 : Int32))) (V1 : Fld Z h0 a1 "java/lang/String" "value" "[B" .null) (hc7 : Jvm.Lit.constHeld Z "java/lang/String" 7) (hcw : Jvm.Lit.compactW.before a0 Z = true) (hkz : ∀ (b : Addr) (cl : Cell), Z.heap[b]? = some cl → h0[b]? = some cl) :
    own_MetW l Z (⟨"java/lang/String", "<init>", "([CIILjava/lang/Void;)V"⟩ : MethodName) jdk_42_method_149_code 6 none ws ({ frames := 1, cells := 2, slots := 4, locals := 14 } : Room) #[(.ref a1), (.ref q1), (.int (0 : Int32)), (.int (0 : Int32)), .null] h0 (fun vm => IB Z vm []) (Q_rm3 Z a1 q1 h0 n0) := by
  refine own_enterW (g0 := fun m => (mkF m 0 #[.val (.ref a1), .val (.ref q1), .val (.int (0 : Int32)), .val (.int (0 : Int32)), .val .null, .unset] [])) pn_rm3 (fun m => by first | (simp [entryFrame, mkF, argsToLocals, Value.category, maxLocals]; done) | rfl) ?_
  intro p e s m below meth c s₁ hx hby hml hown hnm hret hlk hZ I0 X0 e0 es
  have hml : c.maxLocals = 6 := hml
  have hown : (s.setVm s.vm).vm.findClass "java/lang/String" = some m.cls := hown
  have N0 := Fr.nil n0
  have S0 : s.Since s.vm 0 := (State.WarmedH.refl s).since 0
  have kz0 : 0 ≤ h0.size := Nat.zero_le _
  show own_Go p e below _ s₁ (mkF m 0 #[.val (.ref a1), .val (.ref q1), .val (.int (0 : Int32)), .val (.int (0 : Int32)), .val .null, .unset] [])
  have K0 := Keep.refl h0 [a1]
  refine own_by (fun _ k => XS.aloadN X0.here hx rfl (hb hby d3_0) rfl rfl k) ?_
  show own_Go p e below _ s₁ (mkF m 1 #[.val (.ref a1), .val (.ref q1), .val (.int (0 : Int32)), .val (.int (0 : Int32)), .val .null, .unset] [(.ref a1)])
  obtain ⟨T137, X137, e137, st137⟩ := initO X0 hx hZ hown (hw _ (List.mem_of_getElem? (i := 16) rfl)) (hw _ (List.mem_of_getElem? (i := 17) rfl)) (hw _ (List.mem_of_getElem? (i := 18) rfl)) e0 (g := (mkF m 1 #[.val (.ref a1), .val (.ref q1), .val (.int (0 : Int32)), .val (.int (0 : Int32)), .val .null, .unset] [(.ref a1)])) rfl (by rw [hml]; rfl) rfl (hb hby d3_1) (by decide) (W := 0) (by show 2 * 0 + _ ≤ _; exact Nat.le_of_eq rfl) (by decide)
  refine own_by st137 ?_
  show own_Go p e below _ T137 (mkF m 4 #[.val (.ref a1), .val (.ref q1), .val (.int (0 : Int32)), .val (.int (0 : Int32)), .val .null, .unset] [])
  refine own_by (fun _ k => XS.iloadN X137.here hx rfl (hb hby d3_4) rfl k) ?_
  show own_Go p e below _ T137 (mkF m 5 #[.val (.ref a1), .val (.ref q1), .val (.int (0 : Int32)), .val (.int (0 : Int32)), .val .null, .unset] [(.int (0 : Int32))])
  refine own_by (fun _ k => XS.ifNo X137.here hx rfl (hb hby d3_5) rfl ((if0 _ _).trans (teq (rfl : (0 : Int32) = (0 : Int32))).2) k) ?_
  show own_Go p e below _ T137 (mkF m 8 #[.val (.ref a1), .val (.ref q1), .val (.int (0 : Int32)), .val (.int (0 : Int32)), .val .null, .unset] [])
  refine own_by (fun _ k => XS.aloadN X137.here hx rfl (hb hby d3_8) rfl rfl k) ?_
  show own_Go p e below _ T137 (mkF m 9 #[.val (.ref a1), .val (.ref q1), .val (.int (0 : Int32)), .val (.int (0 : Int32)), .val .null, .unset] [(.ref a1)])
  obtain ⟨a138, T138, h138, k138w, b138, k138, X138, e138, E138, S138, kz138, hZ, hown, Ea138, Ca138, Va138, Ab138, la138, lb138, I138, Lt138, st138⟩ := ldcSVL X137 hx hZ hown (hw _ (List.mem_of_getElem? (i := 79) rfl)) (own_sa hw) e137 S0 kz0 (Fr.nil _) (by rw [es]; exact hkz) I0 (by decide +kernel) hc7 hcw (vs := own_nil.map Value.int) (z := Int32.ofNat own_nil.length) ⟨by decide +kernel, by decide +kernel⟩ (by decide +kernel) (by decide +kernel) (g := (mkF m 9 #[.val (.ref a1), .val (.ref q1), .val (.int (0 : Int32)), .val (.int (0 : Int32)), .val .null, .unset] [(.ref a1)])) rfl (hb hby d3_9) (n := 0) (by decide +kernel) (by decide) (by decide) (by decide)
  have K139 := K0.ext E138
  have Z138 : n0 ≤ h138.size := Nat.le_trans Z0 E138.1
  refine own_by st138 ?_
  show own_Go p e below _ T138 (mkF m 11 #[.val (.ref a1), .val (.ref q1), .val (.int (0 : Int32)), .val (.int (0 : Int32)), .val .null, .unset] [(.ref a138), (.ref a1)])
  have f140 := (E1.ext E138)
  have nb : a1 ≠ b138 := Exa.neArv f140 Ab138 (hw _ (List.mem_of_getElem? (i := 7) rfl))
  obtain ⟨T141, X141, e141, st141⟩ := getF X138 hx hZ hown (host := "") (Or.inl (hw _ (List.mem_of_getElem? (i := 33) rfl))) Via.refl e138 Va138 (g := (mkF m 11 #[.val (.ref a1), .val (.ref q1), .val (.int (0 : Int32)), .val (.int (0 : Int32)), .val .null, .unset] [(.ref a138), (.ref a1)])) rfl rfl (hb hby d3_11)
  refine own_by st141 ?_
  show own_Go p e below _ T141 (mkF m 14 #[.val (.ref a1), .val (.ref q1), .val (.int (0 : Int32)), .val (.int (0 : Int32)), .val .null, .unset] [(.ref b138), (.ref a1)])
  have f143 := (V1.ext E138)
  obtain ⟨T142, h142, X142, e142, W142, st142⟩ := putF X141 hx hZ hown (host := "") (Or.inl (hw _ (List.mem_of_getElem? (i := 33) rfl))) Via.refl e141 f143 f140 (Or.inr ⟨(hw _ (List.mem_of_getElem? (i := 34) rfl)), rfl, hnm⟩) (hw _ (List.mem_of_getElem? (i := 7) rfl)) (ty := (.array .byte)) (by decide) rfl rfl (g := (mkF m 14 #[.val (.ref a1), .val (.ref q1), .val (.int (0 : Int32)), .val (.int (0 : Int32)), .val .null, .unset] [(.ref b138), (.ref a1)])) rfl rfl (hb hby d3_14)
  refine own_by st142 ?_
  have N142 := Fr.snoc X142 N0 g1
  have fw142 := f143.same W142
  have K144 := K139.wr W142 (Or.inl (List.mem_of_getElem? (i := 0) rfl))
  have Z142 : n0 ≤ h142.size := Nat.le_trans Z138 (Keep.of_wr W142).1
  have kz145 : _ ≤ h142.size := Nat.le_trans kz138 (Keep.of_wr W142).1
  show own_Go p e below _ T142 (mkF m 17 #[.val (.ref a1), .val (.ref q1), .val (.int (0 : Int32)), .val (.int (0 : Int32)), .val .null, .unset] [])
  refine own_by (fun _ k => XS.aloadN X142.here hx rfl (hb hby d3_17) rfl rfl k) ?_
  show own_Go p e below _ T142 (mkF m 18 #[.val (.ref a1), .val (.ref q1), .val (.int (0 : Int32)), .val (.int (0 : Int32)), .val .null, .unset] [(.ref a1)])
  refine own_by (ldcAgain X142 hx hZ hown (hw _ (List.mem_of_getElem? (i := 79) rfl)) Lt138 (g := (mkF m 18 #[.val (.ref a1), .val (.ref q1), .val (.int (0 : Int32)), .val (.int (0 : Int32)), .val .null, .unset] [(.ref a1)])) rfl (hb hby d3_18)) ?_
  show own_Go p e below _ T142 (mkF m 20 #[.val (.ref a1), .val (.ref q1), .val (.int (0 : Int32)), .val (.int (0 : Int32)), .val .null, .unset] [(.ref a138), (.ref a1)])
  have f147 := (Ca138.other W142 (Or.inr (slot_ne (Or.inr (hw _ (List.mem_of_getElem? (i := 32) rfl))) (Or.inr (hw _ (List.mem_of_getElem? (i := 34) rfl))) (by decide) (t := .byte) (t' := (.array .byte)) (by decide) (by decide))))
  obtain ⟨T146, X146, e146, st146⟩ := getF X142 hx hZ hown (host := "") (Or.inl (hw _ (List.mem_of_getElem? (i := 31) rfl))) Via.refl e142 f147 (g := (mkF m 20 #[.val (.ref a1), .val (.ref q1), .val (.int (0 : Int32)), .val (.int (0 : Int32)), .val .null, .unset] [(.ref a138), (.ref a1)])) rfl rfl (hb hby d3_20)
  refine own_by st146 ?_
  show own_Go p e below _ T146 (mkF m 23 #[.val (.ref a1), .val (.ref q1), .val (.int (0 : Int32)), .val (.int (0 : Int32)), .val .null, .unset] [(.int (0 : Int32)), (.ref a1)])
  have f149 := ((C1.ext E138).other W142 (Or.inr (slot_ne (Or.inr (hw _ (List.mem_of_getElem? (i := 32) rfl))) (Or.inr (hw _ (List.mem_of_getElem? (i := 34) rfl))) (by decide) (t := .byte) (t' := (.array .byte)) (by decide) (by decide))))
  have f150 := (f140.wr W142)
  obtain ⟨T148, h148, X148, e148, W148, st148⟩ := putFN X146 hx hZ hown (hw _ (List.mem_of_getElem? (i := 31) rfl)) Via.refl e146 f149 f150 (Or.inr ⟨(hw _ (List.mem_of_getElem? (i := 32) rfl)), rfl, hnm⟩) (hw _ (List.mem_of_getElem? (i := 7) rfl)) (ty := .byte) (v := (.int (0 : Int32))) (v' := (.int (0 : Int32))) (by decide) rfl rfl (g := (mkF m 23 #[.val (.ref a1), .val (.ref q1), .val (.int (0 : Int32)), .val (.int (0 : Int32)), .val .null, .unset] [(.int (0 : Int32)), (.ref a1)])) rfl rfl (hb hby d3_23)
  refine own_by st148 ?_
  have N148 := Fr.snoc X148 N142 g1
  have fw148 := f149.same W148
  have K151 := K144.wr W148 (Or.inl (List.mem_of_getElem? (i := 0) rfl))
  have Z148 : n0 ≤ h148.size := Nat.le_trans Z142 (Keep.of_wr W148).1
  have kz152 : _ ≤ h148.size := Nat.le_trans kz145 (Keep.of_wr W148).1
  show own_Go p e below _ T148 (mkF m 26 #[.val (.ref a1), .val (.ref q1), .val (.int (0 : Int32)), .val (.int (0 : Int32)), .val .null, .unset] [])
  have f153 := (f150.wr W148)
  have f154 := (fw142.other W148 (Or.inr (slot_ne (Or.inr (hw _ (List.mem_of_getElem? (i := 34) rfl))) (Or.inr (hw _ (List.mem_of_getElem? (i := 32) rfl))) (by decide) (t := (.array .byte)) (t' := .byte) (by decide) (by decide))))
  have f155 := ((Ab138.other W142 (Ne.symm nb)).other W148 (Ne.symm nb))
  exact own_ret0W X148 hx hlk S138 kz152 e148 hret (hb hby d3_26) (by first | exact ⟨rfl, N148, K151, f153, fw148, b138, k138, f154, f155, own_ibX X148 I138⟩ | (rw [e148]; exact ⟨rfl, N148, K151, f153, fw148, b138, k138, f154, f155, own_ibX X148 I138⟩)) (by decide) (by decide)
def Q_rm2 (Z : State) (a1 q1 : Addr) (kq : ClassId) (h0 : Heap) (n0 : Nat) (v : Option Value) (h : Heap) (L : List Loc) (vm : Vm) : Prop := v = none ∧ Fr n0 L ∧ Keep h0 h [a1] ∧ Exa Z h a1 "java/lang/String" ∧ Fld Z h a1 "java/lang/String" "coder" "B" (.int (0 : Int32)) ∧ ∃ (t : Addr) (kb : ClassId), Fld Z h a1 "java/lang/String" "value" "[B" (.ref t) ∧ Arv Z h t kb .byte (Int32.ofNat own_nil.length) (own_nil.map Value.int) (.int 0) ∧ IB Z vm [""]
theorem pn_rm2 : plainFor (⟨"java/lang/String", "<init>", "([C)V"⟩ : MethodName) = true := by first | exact plainFor_of_name (by first | (simp [plainName, overriddenIn, x]; done) | decide +kernel) | decide +kernel
theorem d2_0 : decode jdk_42_method_3_code 0 = .ok (.aload_n 0, 1) := by decide +kernel
theorem d2_1 : decode jdk_42_method_3_code 1 = .ok (.aload_n 1, 1) := by decide +kernel
theorem d2_2 : decode jdk_42_method_3_code 2 = .ok (.iconst 0, 1) := by decide +kernel
theorem d2_3 : decode jdk_42_method_3_code 3 = .ok (.aload_n 1, 1) := by decide +kernel
theorem d2_4 : decode jdk_42_method_3_code 4 = .ok (.arraylength, 1) := by decide +kernel
theorem d2_5 : decode jdk_42_method_3_code 5 = .ok (.aconst_null, 1) := by decide +kernel
theorem pd_7 : parseMethodDescriptor "([CIILjava/lang/Void;)V" = some ⟨[(.array .char), .int, .int, (.object "java/lang/Void")], none⟩ := by decide +kernel
theorem d2_6 : decode jdk_42_method_3_code 6 = .ok (.invokespecial 27, 3) := by decide +kernel
theorem d2_9 : decode jdk_42_method_3_code 9 = .ok (.return_, 1) := by decide +kernel
set_option maxRecDepth 65536 in
set_option maxHeartbeats 40000000 in
theorem rm2 (l : Launch) (Z : State) (a0 : Array Value) (hw : ∀ d ∈ tables_1, d.before a0 Z = true) (ws : List Jvm.Cond) (a1 q1 : Addr) (kq : ClassId) (h0 : Heap) (n0 : Nat) (Z0 : n0 ≤ h0.size) (g1 : n0 ≤ a1) (E1 : Exa Z h0 a1 "java/lang/String") (C1 : Fld Z h0 a1 "java/lang/String" "coder" "B" (.int (0 : Int32))) (V1 : Fld Z h0 a1 "java/lang/String" "value" "[B" .null) (hc7 : Jvm.Lit.constHeld Z "java/lang/String" 7) (hcw : Jvm.Lit.compactW.before a0 Z = true) (hkz : ∀ (b : Addr) (cl : Cell), Z.heap[b]? = some cl → h0[b]? = some cl) (Aq : Arv Z h0 q1 kq .char (0 : Int32) [] (.int (0 : Int32))) :
    own_MetW l Z (⟨"java/lang/String", "<init>", "([C)V"⟩ : MethodName) jdk_42_method_3_code 2 none ws ({ frames := 2, cells := 2, slots := 4, locals := 50 } : Room) #[(.ref a1), (.ref q1)] h0 (fun vm => IB Z vm []) (Q_rm2 Z a1 q1 kq h0 n0) := by
  refine own_enterW (g0 := fun m => (mkF m 0 #[.val (.ref a1), .val (.ref q1)] [])) pn_rm2 (fun m => by first | (simp [entryFrame, mkF, argsToLocals, Value.category, maxLocals]; done) | rfl) ?_
  intro p e s m below meth c s₁ hx hby hml hown hnm hret hlk hZ I0 X0 e0 es
  have hml : c.maxLocals = 2 := hml
  have hown : (s.setVm s.vm).vm.findClass "java/lang/String" = some m.cls := hown
  have N0 := Fr.nil n0
  have S0 : s.Since s.vm 0 := (State.WarmedH.refl s).since 0
  have kz0 : 0 ≤ h0.size := Nat.zero_le _
  show own_Go p e below _ s₁ (mkF m 0 #[.val (.ref a1), .val (.ref q1)] [])
  have K0 := Keep.refl h0 [a1]
  refine own_by (fun _ k => XS.aloadN X0.here hx rfl (hb hby d2_0) rfl rfl k) ?_
  show own_Go p e below _ s₁ (mkF m 1 #[.val (.ref a1), .val (.ref q1)] [(.ref a1)])
  refine own_by (fun _ k => XS.aloadN X0.here hx rfl (hb hby d2_1) rfl rfl k) ?_
  show own_Go p e below _ s₁ (mkF m 2 #[.val (.ref a1), .val (.ref q1)] [(.ref q1), (.ref a1)])
  refine own_by (fun _ k => XS.iconst X0.here hx rfl (hb hby d2_2) k) ?_
  show own_Go p e below _ s₁ (mkF m 3 #[.val (.ref a1), .val (.ref q1)] [(.int (0 : Int32)), (.ref q1), (.ref a1)])
  refine own_by (fun _ k => XS.aloadN X0.here hx rfl (hb hby d2_3) rfl rfl k) ?_
  show own_Go p e below _ s₁ (mkF m 4 #[.val (.ref a1), .val (.ref q1)] [(.ref q1), (.int (0 : Int32)), (.ref q1), (.ref a1)])
  obtain ⟨cl156, Ar156, len156⟩ := own_len Aq
  refine own_by (T' := s₁) (g' := (mkF m 5 #[.val (.ref a1), .val (.ref q1)] [(.int (0 : Int32)), (.int (0 : Int32)), (.ref q1), (.ref a1)])) (fun _ k => X0.arraylength hx (by rw [e0]; exact Ar156.1) (State.isArrayOf_alike hZ.alike Ar156.2.1) (g := (mkF m 4 #[.val (.ref a1), .val (.ref q1)] [(.ref q1), (.int (0 : Int32)), (.ref q1), (.ref a1)])) rfl rfl (hb hby d2_4) _ (by rw [len156]; exact k)) ?_
  refine own_by (fun _ k => XS.aconstNull X0.here hx rfl (hb hby d2_5) k) ?_
  show own_Go p e below _ s₁ (mkF m 6 #[.val (.ref a1), .val (.ref q1)] [.null, (.int (0 : Int32)), (.int (0 : Int32)), (.ref q1), (.ref a1)])
  obtain ⟨_, T157, L157, k157w, X157, ⟨rfl, N157q, Ke, Ee, Ce, te, ke, Ve, Ae, Ie⟩, S157, kz157, hZ, hown, st157⟩ := own_callIW X0 hx hZ hown S0 kz0 (y := (⟨"java/lang/String", "<init>", "([CIILjava/lang/Void;)V"⟩ : MethodName)) rfl (hw _ (List.mem_of_getElem? (i := 12) rfl)) (hw _ (List.mem_of_getElem? (i := 13) rfl)) (hw _ (List.mem_of_getElem? (i := 8) rfl)) (hw _ (List.mem_of_getElem? (i := 15) rfl)) (by decide) (a := a1) (argsL := [(.ref q1), (.int (0 : Int32)), (.int (0 : Int32)), .null]) (rest := []) (fun vm hv => own_ibW I0 hv) e0 (rm3 l Z a0 hw [] a1 q1 h0 n0 Z0 g1 E1 C1 V1 hc7 hcw hkz) (g := (mkF m 6 #[.val (.ref a1), .val (.ref q1)] [.null, (.int (0 : Int32)), (.int (0 : Int32)), (.ref q1), (.ref a1)])) rfl (by rw [hml]; rfl) (lenOf pd_7 rfl) rfl (W := 0) (by show 2 * 0 + _ ≤ _; exact Nat.le_of_eq rfl) (hb hby d2_6) (by decide) (by decide) (by decide) (by decide)
  have N157 := Fr.app N0 N157q
  refine own_by st157 ?_
  show own_Go p e below _ T157 (mkF m 9 #[.val (.ref a1), .val (.ref q1)] [])
  have Z157 : n0 ≤ T157.heap.size := Nat.le_trans Z0 Ke.1
  have K157c := K0.trans Ke (allS (Or.inl (List.mem_of_getElem? (i := 0) rfl)) all0)
  exact own_ret0W X157 hx hlk S157 kz157 rfl hret (hb hby d2_9) ⟨rfl, N157, K157c, Ee, Ce, te, ke, Ve, Ae, Ie⟩ (by decide) (by decide)
def Q_rm0 (Z : State) (p1 p2 p3 p4 w1 : Int32) (h0 : Heap) (n0 : Nat) (v : Option Value) (h : Heap) (L : List Loc) (vm : Vm) : Prop := v = some (.int 1) ∧ Fr n0 L
theorem pn_rm0 : plainFor x = true := by first | exact plainFor_of_name (by first | (simp [plainName, overriddenIn, x]; done) | decide +kernel) | decide +kernel
theorem pd_8 : parseMethodDescriptor "(I)C" = some ⟨[.int], some .char⟩ := by decide +kernel
theorem pd_9 : parseMethodDescriptor "([C)V" = some ⟨[(.array .char)], none⟩ := by decide +kernel
theorem pd_10 : parseMethodDescriptor "(ZLjava/lang/String;)Z" = some ⟨[.boolean, (.object "java/lang/String")], some .boolean⟩ := by decide +kernel
set_option maxRecDepth 65536 in
set_option maxHeartbeats 40000000 in
theorem rm0 (l : Launch) (Z : State) (a0 : Array Value) (hw : ∀ d ∈ tables_1, d.before a0 Z = true) (ws : List Jvm.Cond) (p1 p2 p3 p4 w1 : Int32) (h0 : Heap) (n0 : Nat) (Z0 : n0 ≤ h0.size) (SC : Sta Z h0 "java/lang/String" "COMPACT_STRINGS" "Z" (.int w1)) (hw1 : ¬ w1 = 0) (hc7 : Jvm.Lit.constHeld Z "java/lang/String" 7) (hc49 : Jvm.Lit.constHeld Z "com/example/tolk/tolk/query/Http1" 49) (hc55 : Jvm.Lit.constHeld Z "com/example/tolk/tolk/query/Http1" 55) (hcw : Jvm.Lit.compactW.before a0 Z = true) (hkz : ∀ (b : Addr) (cl : Cell), Z.heap[b]? = some cl → h0[b]? = some cl) :
    own_MetW l Z x code maxLocals ret ws room_1 #[(.int p1), (.int p2), (.int p3), (.int p4)] h0 (fun vm => IB Z vm []) (Q_rm0 Z p1 p2 p3 p4 w1 h0 n0) := by
  refine own_enterW (g0 := fun m => (mkF m 0 #[.val (.int p1), .val (.int p2), .val (.int p3), .val (.int p4), .unset, .unset, .unset, .unset, .unset, .unset, .unset, .unset] [])) pn_rm0 (fun m => by first | (simp [entryFrame, mkF, argsToLocals, Value.category, maxLocals]; done) | rfl) ?_
  intro p e s m below meth c s₁ hx hby hml hown hnm hret hlk hZ I0 X0 e0 es
  have hml : c.maxLocals = 12 := hml
  have hown : (s.setVm s.vm).vm.findClass "com/example/tolk/tolk/query/Http1KeepsAlivePinLaw" = some m.cls := hown
  have N0 := Fr.nil n0
  have S0 : s.Since s.vm 0 := (State.WarmedH.refl s).since 0
  have kz0 : 0 ≤ h0.size := Nat.zero_le _
  show own_Go p e below _ s₁ (mkF m 0 #[.val (.int p1), .val (.int p2), .val (.int p3), .val (.int p4), .unset, .unset, .unset, .unset, .unset, .unset, .unset, .unset] [])
  have K0 := Keep.refl h0 []
  have hws : ∀ d ∈ StrChars.Road.words, d.before a0 Z = true := fun d hd => hw d ((by decide +kernel : ∀ d ∈ StrChars.Road.words, d ∈ tables_1) d hd)
  have J11 : ∀ (f : Int32), own_Go p e below (own_EndW s room_1.cells room_1.slots (Q_rm0 Z p1 p2 p3 p4 w1 h0 n0)) s₁ (mkF m 11 #[.val (.int p1), .val (.int p2), .val (.int p3), .val (.int p4), .unset, .unset, .unset, .unset, .unset, .unset, .unset, .unset] [(.int f)]) := by
    intro f
    show own_Go p e below _ s₁ (mkF m 11 #[.val (.int p1), .val (.int p2), .val (.int p3), .val (.int p4), .unset, .unset, .unset, .unset, .unset, .unset, .unset, .unset] [(.int f)])
    refine own_by (fun _ k => XS.istore X0.here hx rfl (hb hby at_11) rfl (l' := #[.val (.int p1), .val (.int p2), .val (.int p3), .val (.int p4), .val (.int f), .unset, .unset, .unset, .unset, .unset, .unset, .unset]) rfl k) ?_
    show own_Go p e below _ s₁ (mkF m 13 #[.val (.int p1), .val (.int p2), .val (.int p3), .val (.int p4), .val (.int f), .unset, .unset, .unset, .unset, .unset, .unset, .unset] [])
    refine own_by (fun _ k => XS.iloadN X0.here hx rfl (hb hby at_13) rfl k) ?_
    show own_Go p e below _ s₁ (mkF m 14 #[.val (.int p1), .val (.int p2), .val (.int p3), .val (.int p4), .val (.int f), .unset, .unset, .unset, .unset, .unset, .unset, .unset] [(.int p3)])
    obtain ⟨_, T158, L158, X158, ⟨va, rfl, hva, N158q, e158⟩, st158⟩ := own_callS X0 hx hZ hown (y := (⟨"com/example/tolk/tolk/query/Http1KeepsAlivePinLaw", "lower", "(I)C"⟩ : MethodName)) (hw _ (List.mem_of_getElem? (i := 0) rfl)) (hw _ (List.mem_of_getElem? (i := 1) rfl)) (hw _ (List.mem_of_getElem? (i := 2) rfl)) (hw _ (List.mem_of_getElem? (i := 3) rfl)) (by decide) (argsL := [(.int p3)]) (rest := []) e0 (rm1 l Z a0 hw [] p3 h0 n0 Z0) (g := (mkF m 14 #[.val (.int p1), .val (.int p2), .val (.int p3), .val (.int p4), .val (.int f), .unset, .unset, .unset, .unset, .unset, .unset, .unset] [(.int p3)])) rfl (by rw [hml]; rfl) (lenOf pd_8 rfl) rfl (W := 0) (by show 2 * 0 + _ ≤ _; exact Nat.le_of_eq rfl) (hb hby at_14) (by decide) (by decide) (by decide) (by decide)
    have N158 := Fr.app N0 N158q
    refine own_by st158 ?_
    show own_Go p e below _ T158 (mkF m 17 #[.val (.int p1), .val (.int p2), .val (.int p3), .val (.int p4), .val (.int f), .unset, .unset, .unset, .unset, .unset, .unset, .unset] [(.int va)])
    refine own_by (fun _ k => XS.istore X158.here hx rfl (hb hby at_17) rfl (l' := #[.val (.int p1), .val (.int p2), .val (.int p3), .val (.int p4), .val (.int f), .val (.int va), .unset, .unset, .unset, .unset, .unset, .unset]) rfl k) ?_
    show own_Go p e below _ T158 (mkF m 19 #[.val (.int p1), .val (.int p2), .val (.int p3), .val (.int p4), .val (.int f), .val (.int va), .unset, .unset, .unset, .unset, .unset, .unset] [])
    refine own_by (fun _ k => XS.iloadN X158.here hx rfl (hb hby at_19) rfl k) ?_
    show own_Go p e below _ T158 (mkF m 20 #[.val (.int p1), .val (.int p2), .val (.int p3), .val (.int p4), .val (.int f), .val (.int va), .unset, .unset, .unset, .unset, .unset, .unset] [(.int p4)])
    obtain ⟨_, T159, L159, X159, ⟨vb, rfl, hvb, N159q, e159⟩, st159⟩ := own_callS X158 hx hZ hown (y := (⟨"com/example/tolk/tolk/query/Http1KeepsAlivePinLaw", "lower", "(I)C"⟩ : MethodName)) (hw _ (List.mem_of_getElem? (i := 0) rfl)) (hw _ (List.mem_of_getElem? (i := 1) rfl)) (hw _ (List.mem_of_getElem? (i := 2) rfl)) (hw _ (List.mem_of_getElem? (i := 3) rfl)) (by decide) (argsL := [(.int p4)]) (rest := []) e158 (rm1 l Z a0 hw [] p4 h0 n0 Z0) (g := (mkF m 20 #[.val (.int p1), .val (.int p2), .val (.int p3), .val (.int p4), .val (.int f), .val (.int va), .unset, .unset, .unset, .unset, .unset, .unset] [(.int p4)])) rfl (by rw [hml]; rfl) (lenOf pd_8 rfl) rfl (W := 0) (by show 2 * 0 + _ ≤ _; exact Nat.le_of_eq rfl) (hb hby at_20) (by decide) (by decide) (by decide) (by decide)
    have N159 := Fr.app N158 N159q
    refine own_by st159 ?_
    show own_Go p e below _ T159 (mkF m 23 #[.val (.int p1), .val (.int p2), .val (.int p3), .val (.int p4), .val (.int f), .val (.int va), .unset, .unset, .unset, .unset, .unset, .unset] [(.int vb)])
    refine own_by (fun _ k => XS.istore X159.here hx rfl (hb hby at_23) rfl (l' := #[.val (.int p1), .val (.int p2), .val (.int p3), .val (.int p4), .val (.int f), .val (.int va), .val (.int vb), .unset, .unset, .unset, .unset, .unset]) rfl k) ?_
    show own_Go p e below _ T159 (mkF m 25 #[.val (.int p1), .val (.int p2), .val (.int p3), .val (.int p4), .val (.int f), .val (.int va), .val (.int vb), .unset, .unset, .unset, .unset, .unset] [])
    refine own_by (fun _ k => XS.iloadN X159.here hx rfl (hb hby at_25) rfl k) ?_
    show own_Go p e below _ T159 (mkF m 26 #[.val (.int p1), .val (.int p2), .val (.int p3), .val (.int p4), .val (.int f), .val (.int va), .val (.int vb), .unset, .unset, .unset, .unset, .unset] [(.int p2)])
    refine own_by (fun _ k => Stand.ldcI X159 hx hown (mvT hZ (hw _ (List.mem_of_getElem? (i := 4) rfl))) rfl (hb hby at_26) k) ?_
    show own_Go p e below _ T159 (mkF m 28 #[.val (.int p1), .val (.int p2), .val (.int p3), .val (.int p4), .val (.int f), .val (.int va), .val (.int vb), .unset, .unset, .unset, .unset, .unset] [(.int (2147483647 : Int32)), (.int p2)])
    refine own_by (fun _ k => XS.iand X159.here hx rfl (hb hby at_28) rfl k) ?_
    show own_Go p e below _ T159 (mkF m 29 #[.val (.int p1), .val (.int p2), .val (.int p3), .val (.int p4), .val (.int f), .val (.int va), .val (.int vb), .unset, .unset, .unset, .unset, .unset] [(.int (p2 &&& (2147483647 : Int32)))])
    refine own_by (fun _ k => XS.bipush X159.here hx rfl (hb hby at_29) k) ?_
    show own_Go p e below _ T159 (mkF m 31 #[.val (.int p1), .val (.int p2), .val (.int p3), .val (.int p4), .val (.int f), .val (.int va), .val (.int vb), .unset, .unset, .unset, .unset, .unset] [(.int (10 : Int32)), (.int (p2 &&& (2147483647 : Int32)))])
    refine own_by (fun _ k => iremM X159 hx rfl (hb hby at_31) rfl (by decide) k) ?_
    show own_Go p e below _ T159 (mkF m 32 #[.val (.int p1), .val (.int p2), .val (.int p3), .val (.int p4), .val (.int f), .val (.int va), .val (.int vb), .unset, .unset, .unset, .unset, .unset] [(.int ((p2 &&& (2147483647 : Int32)) % (10 : Int32)))])
    refine own_by (fun _ k => XS.istore X159.here hx rfl (hb hby at_32) rfl (l' := #[.val (.int p1), .val (.int p2), .val (.int p3), .val (.int p4), .val (.int f), .val (.int va), .val (.int vb), .val (.int ((p2 &&& (2147483647 : Int32)) % (10 : Int32))), .unset, .unset, .unset, .unset]) rfl k) ?_
    show own_Go p e below _ T159 (mkF m 34 #[.val (.int p1), .val (.int p2), .val (.int p3), .val (.int p4), .val (.int f), .val (.int va), .val (.int vb), .val (.int ((p2 &&& (2147483647 : Int32)) % (10 : Int32))), .unset, .unset, .unset, .unset] [])
    obtain ⟨kk, hkk⟩ : ∃ zq, zq = ((p2 &&& (2147483647 : Int32)) % (10 : Int32)) := ⟨_, rfl⟩
    rw [← hkk]
    show own_Go p e below _ T159 (mkF m 34 #[.val (.int p1), .val (.int p2), .val (.int p3), .val (.int p4), .val (.int f), .val (.int va), .val (.int vb), .val (.int kk), .unset, .unset, .unset, .unset] [])
    have J758 : ∀ (T160 : State) (L160 : List Loc) (h160 : Heap) (X160 : Stand p l e room_1 (s.setVm s.vm) m #[(.int p1), (.int p2), (.int p3), (.int p4)] below meth c T160 L160 1 16) (e160 : T160.heap = h160) (N160 : Fr n0 L160) (Kj : Keep h0 h160 [])  (q1 : Addr) (kq : ClassId) (xs : List Int32) (ka cl : Int32) (gq : n0 ≤ q1) (hl : 0 < xs.length ∧ xs.length ≤ 16) (hch : ∀ c ∈ xs, own_ch c) (hka : ka = own_b (own_has own_keep (xs.map own_tb))) (hcl : cl = own_b (own_has own_close (xs.map own_tb))) (Aq : Arv Z h160 q1 kq .char (Int32.ofNat xs.length) (xs.map Value.int) (.int 0)), own_Go p e below (own_EndW s room_1.cells room_1.slots (Q_rm0 Z p1 p2 p3 p4 w1 h0 n0)) T160 (mkF m 758 #[.val (.int p1), .val (.int p2), .val (.int p3), .val (.int p4), .val (.int f), .val (.int va), .val (.int vb), .val (.int kk), .val (.ref q1), .val (.int ka), .val (.int cl), .unset] []) := by
      intro T160 L160 h160 X160 e160 N160 Kj q1 kq xs ka cl gq hl hch hka hcl Aq
      have Z160 : n0 ≤ h160.size := Nat.le_trans Z0 Kj.1
      have kz161 : _ ≤ h160.size := Nat.le_trans kz0 Kj.1
      have K160c := K0.trans Kj all0
      show own_Go p e below _ T160 (mkF m 758 #[.val (.int p1), .val (.int p2), .val (.int p3), .val (.int p4), .val (.int f), .val (.int va), .val (.int vb), .val (.int kk), .val (.ref q1), .val (.int ka), .val (.int cl), .unset] [])
      have J782 : ∀ (ex : Int32) (hex : ex = own_ans f (xs.map own_tb)), own_Go p e below (own_EndW s room_1.cells room_1.slots (Q_rm0 Z p1 p2 p3 p4 w1 h0 n0)) T160 (mkF m 782 #[.val (.int p1), .val (.int p2), .val (.int p3), .val (.int p4), .val (.int f), .val (.int va), .val (.int vb), .val (.int kk), .val (.ref q1), .val (.int ka), .val (.int cl), .val (.int ex)] []) := by
        intro ex hex
        show own_Go p e below _ T160 (mkF m 782 #[.val (.int p1), .val (.int p2), .val (.int p3), .val (.int p4), .val (.int f), .val (.int va), .val (.int vb), .val (.int kk), .val (.ref q1), .val (.int ka), .val (.int cl), .val (.int ex)] [])
        refine own_by (fun _ k => XS.iload X160.here hx rfl (hb hby at_782) rfl k) ?_
        show own_Go p e below _ T160 (mkF m 784 #[.val (.int p1), .val (.int p2), .val (.int p3), .val (.int p4), .val (.int f), .val (.int va), .val (.int vb), .val (.int kk), .val (.ref q1), .val (.int ka), .val (.int cl), .val (.int ex)] [(.int f)])
        obtain ⟨T162, h162, X162, e162, E162, A162, D162, -, st162⟩ := newO X160 hx hZ hown (hw _ (List.mem_of_getElem? (i := 6) rfl)) (hw _ (List.mem_of_getElem? (i := 7) rfl)) (hw _ (List.mem_of_getElem? (i := 8) rfl)) e160 (g := (mkF m 784 #[.val (.int p1), .val (.int p2), .val (.int p3), .val (.int p4), .val (.int f), .val (.int va), .val (.int vb), .val (.int kk), .val (.ref q1), .val (.int ka), .val (.int cl), .val (.int ex)] [(.int f)])) rfl (hb hby at_784) (by decide) (by decide)
        obtain ⟨b162, g162⟩ : ∃ zq, zq = h160.size := ⟨_, rfl⟩
        rw [← g162] at A162 D162 st162
        have ne_q1_b162 : q1 ≠ b162 := Nat.ne_of_lt (Nat.lt_of_lt_of_le Aq.lt (Nat.le_of_eq g162.symm))
        have og_b162 : n0 ≤ b162 := Nat.le_trans Z160 (Nat.le_of_eq g162.symm)
        have sz_b162 : h0.size ≤ b162 := Nat.le_trans K160c.1 (Nat.le_of_eq g162.symm)
        have Z162 : n0 ≤ h162.size := Nat.le_trans Z160 E162.1
        have kz163 : _ ≤ h162.size := Nat.le_trans kz161 E162.1
        have K164 := K160c.ext E162
        have F_coder_b162 : Fld Z h162 b162 "java/lang/String" "coder" "B" (.int (0 : Int32)) := D162 (Or.inr (hw _ (List.mem_of_getElem? (i := 32) rfl))) (ty := .byte) (by decide)
        have F_value_b162 : Fld Z h162 b162 "java/lang/String" "value" "[B" .null := D162 (Or.inr (hw _ (List.mem_of_getElem? (i := 34) rfl))) (ty := (.array .byte)) (by decide)
        refine own_by st162 ?_
        show own_Go p e below _ T162 (mkF m 787 #[.val (.int p1), .val (.int p2), .val (.int p3), .val (.int p4), .val (.int f), .val (.int va), .val (.int vb), .val (.int kk), .val (.ref q1), .val (.int ka), .val (.int cl), .val (.int ex)] [(.ref b162), (.int f)])
        refine own_by (fun _ k => XS.dup X162.here hx rfl (hb hby at_787) rfl rfl k) ?_
        show own_Go p e below _ T162 (mkF m 788 #[.val (.int p1), .val (.int p2), .val (.int p3), .val (.int p4), .val (.int f), .val (.int va), .val (.int vb), .val (.int kk), .val (.ref q1), .val (.int ka), .val (.int cl), .val (.int ex)] [(.ref b162), (.ref b162), (.int f)])
        refine own_by (fun _ k => XS.aload X162.here hx rfl (hb hby at_788) rfl rfl k) ?_
        show own_Go p e below _ T162 (mkF m 790 #[.val (.int p1), .val (.int p2), .val (.int p3), .val (.int p4), .val (.int f), .val (.int va), .val (.int vb), .val (.int kk), .val (.ref q1), .val (.int ka), .val (.int cl), .val (.int ex)] [(.ref q1), (.ref b162), (.ref b162), (.int f)])
        have f165 := (Aq.ext E162)
        have f166 := ((own_staK SC Kj all0).ext E162)
        obtain ⟨_, T167, L167, X167, ⟨rfl, N167q, Kb, Eb, Cb, tb, kb, -, sb, -, Vb, Ab⟩, st167⟩ := own_callIB X162 hx hZ hown (W := 2) (y := (⟨"java/lang/String", "<init>", "([C)V"⟩ : MethodName)) rfl (hw _ (List.mem_of_getElem? (i := 9) rfl)) (hw _ (List.mem_of_getElem? (i := 10) rfl)) (hw _ (List.mem_of_getElem? (i := 11) rfl)) (by decide) (a := b162) (argsL := [(.ref q1)]) (rest := [(.ref b162), (.int f)]) e162 (StrChars.Road.backV (l := l) (R := room_1) (p := p) (e := e) (below := below) (s := (s.setVm s.vm)) (n0 := n0) hZ hws (hw _ (List.mem_of_getElem? (i := 7) rfl)) og_b162 Z162 A162 F_value_b162 F_coder_b162 f165 f166 hw1 rfl rfl hl.1 (by omega) (fun c hc => (hch c hc).2) rfl (by decide) (by decide)) (g := (mkF m 790 #[.val (.int p1), .val (.int p2), .val (.int p3), .val (.int p4), .val (.int f), .val (.int va), .val (.int vb), .val (.int kk), .val (.ref q1), .val (.int ka), .val (.int cl), .val (.int ex)] [(.ref q1), (.ref b162), (.ref b162), (.int f)])) rfl (by rw [hml]; rfl) (lenOf pd_9 rfl) rfl (by show 2 * 0 + _ ≤ _; exact Nat.le_of_eq rfl) (hb hby at_790) (by decide) (by show 20 + xs.length ≤ 3264; omega)
        refine own_by st167 ?_
        show own_Go p e below _ T167 (mkF m 793 #[.val (.int p1), .val (.int p2), .val (.int p3), .val (.int p4), .val (.int f), .val (.int va), .val (.int vb), .val (.int kk), .val (.ref q1), .val (.int ka), .val (.int cl), .val (.int ex)] [(.ref b162), (.int f)])
        have N167 := Fr.app N160 N167q
        have X167 := X167.more (Nat.le_refl _) (show 20 + xs.length ≤ 36 by omega)
        have Z167 : n0 ≤ T167.heap.size := Nat.le_trans Z162 Kb.1
        have kz168 : _ ≤ T167.heap.size := Nat.le_trans kz163 Kb.1
        have K167c := K164.trans Kb (allS (Or.inr sz_b162) all0)
        have f169 := (own_staK f166 Kb (allS (P := fun x => ∀ cell : Cell, _ → _) (Exa.nostat A162) all0))
        obtain ⟨_, T170, L170, k170w, X170, ⟨rfl, N170q⟩, S170, kz170, hZ, hown, st170⟩ := own_callSW X167 hx hZ hown S0 kz168 (y := (⟨"com/example/tolk/tolk/query/Http1", "keepsAlive", "(ZLjava/lang/String;)Z"⟩ : MethodName)) (hw _ (List.mem_of_getElem? (i := 35) rfl)) (hw _ (List.mem_of_getElem? (i := 36) rfl)) (hw _ (List.mem_of_getElem? (i := 37) rfl)) (hw _ (List.mem_of_getElem? (i := 38) rfl)) (by decide) (argsL := [(.int f), (.ref b162)]) (rest := []) (fun vm hv => own_ibW (own_ibM I0 (by simp)) hv) rfl (rm8 l Z a0 hw [] f b162 tb kb (xs.map own_tb) w1 T167.heap n0 Z167 f169 hw1 Eb Cb Vb (by rw [List.length_map]; exact Ab) (by rw [List.length_map]; omega) hc49 hc55 hcw (own_hk hkz K167c)) (g := (mkF m 793 #[.val (.int p1), .val (.int p2), .val (.int p3), .val (.int p4), .val (.int f), .val (.int va), .val (.int vb), .val (.int kk), .val (.ref q1), .val (.int ka), .val (.int cl), .val (.int ex)] [(.ref b162), (.int f)])) rfl (by rw [hml]; rfl) (lenOf pd_10 rfl) rfl (W := 0) (by show 2 * 0 + _ ≤ _; exact Nat.le_of_eq rfl) (hb hby at_793) (by decide) (by decide) (by decide) (by decide)
        have N170 := Fr.app N167 N170q
        refine own_by st170 ?_
        show own_Go p e below _ T170 (mkF m 796 #[.val (.int p1), .val (.int p2), .val (.int p3), .val (.int p4), .val (.int f), .val (.int va), .val (.int vb), .val (.int kk), .val (.ref q1), .val (.int ka), .val (.int cl), .val (.int ex)] [(.int (own_ans f (xs.map own_tb)))])
        refine own_by (fun _ k => XS.iload X170.here hx rfl (hb hby at_796) rfl k) ?_
        show own_Go p e below _ T170 (mkF m 798 #[.val (.int p1), .val (.int p2), .val (.int p3), .val (.int p4), .val (.int f), .val (.int va), .val (.int vb), .val (.int kk), .val (.ref q1), .val (.int ka), .val (.int cl), .val (.int ex)] [(.int ex), (.int (own_ans f (xs.map own_tb)))])
        refine own_by (fun _ k => XS.icmpNo X170.here hx rfl (hb hby at_798) rfl (teq (hex.symm : (own_ans f (xs.map own_tb)) = ex)).2 k) ?_
        show own_Go p e below _ T170 (mkF m 801 #[.val (.int p1), .val (.int p2), .val (.int p3), .val (.int p4), .val (.int f), .val (.int va), .val (.int vb), .val (.int kk), .val (.ref q1), .val (.int ka), .val (.int cl), .val (.int ex)] [])
        refine own_by (fun _ k => XS.iconst X170.here hx rfl (hb hby at_801) k) ?_
        show own_Go p e below _ T170 (mkF m 802 #[.val (.int p1), .val (.int p2), .val (.int p3), .val (.int p4), .val (.int f), .val (.int va), .val (.int vb), .val (.int kk), .val (.ref q1), .val (.int ka), .val (.int cl), .val (.int ex)] [(.int (1 : Int32))])
        refine own_by (fun _ k => XS.goto X170.here hx rfl (pc0 := 802) (pc' := 806) rfl (hb hby at_802) (by decide) (by decide) k) ?_
        show own_Go p e below _ T170 (mkF m 806 #[.val (.int p1), .val (.int p2), .val (.int p3), .val (.int p4), .val (.int f), .val (.int va), .val (.int vb), .val (.int kk), .val (.ref q1), .val (.int ka), .val (.int cl), .val (.int ex)] [(.int (1 : Int32))])
        exact own_retNW X170 hx hlk S170 kz170 rfl hret (by simp) rfl (hb hby at_806) ⟨rfl, N170⟩ (by decide) (by decide)
      refine own_by (fun _ k => XS.iload X160.here hx rfl (hb hby at_758) rfl k) ?_
      show own_Go p e below _ T160 (mkF m 760 #[.val (.int p1), .val (.int p2), .val (.int p3), .val (.int p4), .val (.int f), .val (.int va), .val (.int vb), .val (.int kk), .val (.ref q1), .val (.int ka), .val (.int cl), .unset] [(.int f)])
      by_cases hf0 : f = (0 : Int32)
      · refine own_by (fun _ k => XS.ifYes X160.here hx rfl (pc0 := 760) (pc' := 770) rfl (hb hby at_760) rfl ((if0 _ _).trans (teq (hf0 : f = (0 : Int32))).1) (by decide) (by decide) k) ?_
        show own_Go p e below _ T160 (mkF m 770 #[.val (.int p1), .val (.int p2), .val (.int p3), .val (.int p4), .val (.int f), .val (.int va), .val (.int vb), .val (.int kk), .val (.ref q1), .val (.int ka), .val (.int cl), .unset] [])
        refine own_by (fun _ k => XS.iload X160.here hx rfl (hb hby at_770) rfl k) ?_
        show own_Go p e below _ T160 (mkF m 772 #[.val (.int p1), .val (.int p2), .val (.int p3), .val (.int p4), .val (.int f), .val (.int va), .val (.int vb), .val (.int kk), .val (.ref q1), .val (.int ka), .val (.int cl), .unset] [(.int cl)])
        cases hb0 : own_has own_close (xs.map own_tb) with
        | true =>
          show own_Go p e below _ T160 (mkF m 772 #[.val (.int p1), .val (.int p2), .val (.int p3), .val (.int p4), .val (.int f), .val (.int va), .val (.int vb), .val (.int kk), .val (.ref q1), .val (.int ka), .val (.int cl), .unset] [(.int cl)])
          refine own_by (fun _ k => XS.ifYes X160.here hx rfl (pc0 := 772) (pc' := 779) rfl (hb hby at_772) rfl ((if0 _ _).trans (feq (by rw [hcl, hb0]; decide : ¬ (cl = (0 : Int32)))).2) (by decide) (by decide) k) ?_
          show own_Go p e below _ T160 (mkF m 779 #[.val (.int p1), .val (.int p2), .val (.int p3), .val (.int p4), .val (.int f), .val (.int va), .val (.int vb), .val (.int kk), .val (.ref q1), .val (.int ka), .val (.int cl), .unset] [])
          refine own_by (fun _ k => XS.iconst X160.here hx rfl (hb hby at_779) k) ?_
          show own_Go p e below _ T160 (mkF m 780 #[.val (.int p1), .val (.int p2), .val (.int p3), .val (.int p4), .val (.int f), .val (.int va), .val (.int vb), .val (.int kk), .val (.ref q1), .val (.int ka), .val (.int cl), .unset] [(.int (0 : Int32))])
          refine own_by (fun _ k => XS.istore X160.here hx rfl (hb hby at_780) rfl (l' := #[.val (.int p1), .val (.int p2), .val (.int p3), .val (.int p4), .val (.int f), .val (.int va), .val (.int vb), .val (.int kk), .val (.ref q1), .val (.int ka), .val (.int cl), .val (.int (0 : Int32))]) rfl k) ?_
          show own_Go p e below _ T160 (mkF m 782 #[.val (.int p1), .val (.int p2), .val (.int p3), .val (.int p4), .val (.int f), .val (.int va), .val (.int vb), .val (.int kk), .val (.ref q1), .val (.int ka), .val (.int cl), .val (.int (0 : Int32))] [])
          exact J782 (0 : Int32) (by simp only [own_ans, if_pos hf0, hb0]; rfl)
        | false =>
          show own_Go p e below _ T160 (mkF m 772 #[.val (.int p1), .val (.int p2), .val (.int p3), .val (.int p4), .val (.int f), .val (.int va), .val (.int vb), .val (.int kk), .val (.ref q1), .val (.int ka), .val (.int cl), .unset] [(.int cl)])
          refine own_by (fun _ k => XS.ifNo X160.here hx rfl (hb hby at_772) rfl ((if0 _ _).trans (teq (by rw [hcl, hb0]; decide : cl = (0 : Int32))).2) k) ?_
          show own_Go p e below _ T160 (mkF m 775 #[.val (.int p1), .val (.int p2), .val (.int p3), .val (.int p4), .val (.int f), .val (.int va), .val (.int vb), .val (.int kk), .val (.ref q1), .val (.int ka), .val (.int cl), .unset] [])
          refine own_by (fun _ k => XS.iconst X160.here hx rfl (hb hby at_775) k) ?_
          show own_Go p e below _ T160 (mkF m 776 #[.val (.int p1), .val (.int p2), .val (.int p3), .val (.int p4), .val (.int f), .val (.int va), .val (.int vb), .val (.int kk), .val (.ref q1), .val (.int ka), .val (.int cl), .unset] [(.int (1 : Int32))])
          refine own_by (fun _ k => XS.goto X160.here hx rfl (pc0 := 776) (pc' := 780) rfl (hb hby at_776) (by decide) (by decide) k) ?_
          show own_Go p e below _ T160 (mkF m 780 #[.val (.int p1), .val (.int p2), .val (.int p3), .val (.int p4), .val (.int f), .val (.int va), .val (.int vb), .val (.int kk), .val (.ref q1), .val (.int ka), .val (.int cl), .unset] [(.int (1 : Int32))])
          refine own_by (fun _ k => XS.istore X160.here hx rfl (hb hby at_780) rfl (l' := #[.val (.int p1), .val (.int p2), .val (.int p3), .val (.int p4), .val (.int f), .val (.int va), .val (.int vb), .val (.int kk), .val (.ref q1), .val (.int ka), .val (.int cl), .val (.int (1 : Int32))]) rfl k) ?_
          show own_Go p e below _ T160 (mkF m 782 #[.val (.int p1), .val (.int p2), .val (.int p3), .val (.int p4), .val (.int f), .val (.int va), .val (.int vb), .val (.int kk), .val (.ref q1), .val (.int ka), .val (.int cl), .val (.int (1 : Int32))] [])
          exact J782 (1 : Int32) (by simp only [own_ans, if_pos hf0, hb0]; rfl)
      · refine own_by (fun _ k => XS.ifNo X160.here hx rfl (hb hby at_760) rfl ((if0 _ _).trans (feq (hf0 : ¬ (f = (0 : Int32)))).1) k) ?_
        show own_Go p e below _ T160 (mkF m 763 #[.val (.int p1), .val (.int p2), .val (.int p3), .val (.int p4), .val (.int f), .val (.int va), .val (.int vb), .val (.int kk), .val (.ref q1), .val (.int ka), .val (.int cl), .unset] [])
        refine own_by (fun _ k => XS.iload X160.here hx rfl (hb hby at_763) rfl k) ?_
        show own_Go p e below _ T160 (mkF m 765 #[.val (.int p1), .val (.int p2), .val (.int p3), .val (.int p4), .val (.int f), .val (.int va), .val (.int vb), .val (.int kk), .val (.ref q1), .val (.int ka), .val (.int cl), .unset] [(.int ka)])
        refine own_by (fun _ k => XS.istore X160.here hx rfl (hb hby at_765) rfl (l' := #[.val (.int p1), .val (.int p2), .val (.int p3), .val (.int p4), .val (.int f), .val (.int va), .val (.int vb), .val (.int kk), .val (.ref q1), .val (.int ka), .val (.int cl), .val (.int ka)]) rfl k) ?_
        show own_Go p e below _ T160 (mkF m 767 #[.val (.int p1), .val (.int p2), .val (.int p3), .val (.int p4), .val (.int f), .val (.int va), .val (.int vb), .val (.int kk), .val (.ref q1), .val (.int ka), .val (.int cl), .val (.int ka)] [])
        refine own_by (fun _ k => XS.goto X160.here hx rfl (pc0 := 767) (pc' := 782) rfl (hb hby at_767) (by decide) (by decide) k) ?_
        show own_Go p e below _ T160 (mkF m 782 #[.val (.int p1), .val (.int p2), .val (.int p3), .val (.int p4), .val (.int f), .val (.int va), .val (.int vb), .val (.int kk), .val (.ref q1), .val (.int ka), .val (.int cl), .val (.int ka)] [])
        exact J782 ka (by simp only [own_ans, if_neg hf0]; exact hka)
    refine own_by (fun _ k => XS.iload X159.here hx rfl (hb hby at_34) rfl k) ?_
    show own_Go p e below _ T159 (mkF m 36 #[.val (.int p1), .val (.int p2), .val (.int p3), .val (.int p4), .val (.int f), .val (.int va), .val (.int vb), .val (.int kk), .unset, .unset, .unset, .unset] [(.int kk)])
    by_cases hk0 : kk = (0 : Int32)
    · refine own_by (fun _ k => XS.ifNo X159.here hx rfl (hb hby at_36) rfl ((if0 _ _).trans (teq (hk0 : kk = (0 : Int32))).2) k) ?_
      show own_Go p e below _ T159 (mkF m 39 #[.val (.int p1), .val (.int p2), .val (.int p3), .val (.int p4), .val (.int f), .val (.int va), .val (.int vb), .val (.int kk), .unset, .unset, .unset, .unset] [])
      refine own_by (fun _ k => XS.bipush X159.here hx rfl (hb hby at_39) k) ?_
      show own_Go p e below _ T159 (mkF m 41 #[.val (.int p1), .val (.int p2), .val (.int p3), .val (.int p4), .val (.int f), .val (.int va), .val (.int vb), .val (.int kk), .unset, .unset, .unset, .unset] [(.int (7 : Int32))])
      obtain ⟨T171, h171, k171, X171, e171, E171, A171, C171, st171⟩ := newPE X159 hx hZ (hw _ (List.mem_of_getElem? (i := 5) rfl)) e159 (g := (mkF m 41 #[.val (.int p1), .val (.int p2), .val (.int p3), .val (.int p4), .val (.int f), .val (.int va), .val (.int vb), .val (.int kk), .unset, .unset, .unset, .unset] [(.int (7 : Int32))])) rfl (hb hby at_41) rfl (by decide) (cap := 7) (by decide) (by decide) (by decide) (by decide) (ad := "[C") (by decide)
      obtain ⟨b171, g171⟩ : ∃ zq, zq = h0.size := ⟨_, rfl⟩
      rw [← g171] at A171 C171 st171
      have og_b171 : n0 ≤ b171 := Nat.le_trans Z0 (Nat.le_of_eq g171.symm)
      have sz_b171 : h0.size ≤ b171 := Nat.le_trans K0.1 (Nat.le_of_eq g171.symm)
      have Z171 : n0 ≤ h171.size := Nat.le_trans Z0 E171.1
      have kz172 : _ ≤ h171.size := Nat.le_trans kz0 E171.1
      have K173 := K0.ext E171
      have V171 : Arv Z h171 b171 k171 .char (7 : Int32) [(.int (0 : Int32)), (.int (0 : Int32)), (.int (0 : Int32)), (.int (0 : Int32)), (.int (0 : Int32)), (.int (0 : Int32)), (.int (0 : Int32))] (.int (0 : Int32)) := (Arv.new A171 (by decide)).pad (pad_rep [] (.int (0 : Int32)) 7)
      refine own_by st171 ?_
      show own_Go p e below _ T171 (mkF m 43 #[.val (.int p1), .val (.int p2), .val (.int p3), .val (.int p4), .val (.int f), .val (.int va), .val (.int vb), .val (.int kk), .unset, .unset, .unset, .unset] [(.ref b171)])
      refine own_by (fun _ k => XS.dup X171.here hx rfl (hb hby at_43) rfl rfl k) ?_
      show own_Go p e below _ T171 (mkF m 44 #[.val (.int p1), .val (.int p2), .val (.int p3), .val (.int p4), .val (.int f), .val (.int va), .val (.int vb), .val (.int kk), .unset, .unset, .unset, .unset] [(.ref b171), (.ref b171)])
      refine own_by (fun _ k => XS.iconst X171.here hx rfl (hb hby at_44) k) ?_
      show own_Go p e below _ T171 (mkF m 45 #[.val (.int p1), .val (.int p2), .val (.int p3), .val (.int p4), .val (.int f), .val (.int va), .val (.int vb), .val (.int kk), .unset, .unset, .unset, .unset] [(.int (0 : Int32)), (.ref b171), (.ref b171)])
      refine own_by (fun _ k => XS.iload X171.here hx rfl (hb hby at_45) rfl k) ?_
      show own_Go p e below _ T171 (mkF m 47 #[.val (.int p1), .val (.int p2), .val (.int p3), .val (.int p4), .val (.int f), .val (.int va), .val (.int vb), .val (.int kk), .unset, .unset, .unset, .unset] [(.int va), (.int (0 : Int32)), (.ref b171), (.ref b171)])
      obtain ⟨cl174, Ar174, cq174, hin174, hat174, set174⟩ := own_arv V171 (j := (0 : Int32)) ⟨by decide, by decide⟩
      obtain ⟨T175, h175, X175, e175, W175, st175⟩ := stC X171 hx hZ e171 Ar174 (j := (0 : Int32)) hin174 (g := (mkF m 47 #[.val (.int p1), .val (.int p2), .val (.int p3), .val (.int p4), .val (.int f), .val (.int va), .val (.int vb), .val (.int kk), .unset, .unset, .unset, .unset] [(.int va), (.int (0 : Int32)), (.ref b171), (.ref b171)])) rfl rfl (hb hby at_47)
      have wq175 : nar .char va = va := hva.1
      rw [wq175] at W175
      have wf175 : fits .char (.int va) = true := wq175 ▸ (fits_nar_char _)
      have V175 : Arv Z h175 b171 k171 .char (7 : Int32) [(.int va), (.int (0 : Int32)), (.int (0 : Int32)), (.int (0 : Int32)), (.int (0 : Int32)), (.int (0 : Int32)), (.int (0 : Int32))] (.int (0 : Int32)) := set174 wf175 W175 0 rfl (Nat.le_of_ble_eq_true rfl)
      have N175 := Fr.snoc X175 N159 og_b171
      have K176 := K173.wr W175 (Or.inr sz_b171)
      have Z175 : n0 ≤ h175.size := Nat.le_trans Z171 (Keep.of_wr W175).1
      have kz177 : _ ≤ h175.size := Nat.le_trans kz172 (Keep.of_wr W175).1
      refine own_by st175 ?_
      show own_Go p e below _ T175 (mkF m 48 #[.val (.int p1), .val (.int p2), .val (.int p3), .val (.int p4), .val (.int f), .val (.int va), .val (.int vb), .val (.int kk), .unset, .unset, .unset, .unset] [(.ref b171)])
      refine own_by (fun _ k => XS.dup X175.here hx rfl (hb hby at_48) rfl rfl k) ?_
      show own_Go p e below _ T175 (mkF m 49 #[.val (.int p1), .val (.int p2), .val (.int p3), .val (.int p4), .val (.int f), .val (.int va), .val (.int vb), .val (.int kk), .unset, .unset, .unset, .unset] [(.ref b171), (.ref b171)])
      refine own_by (fun _ k => XS.iconst X175.here hx rfl (hb hby at_49) k) ?_
      show own_Go p e below _ T175 (mkF m 50 #[.val (.int p1), .val (.int p2), .val (.int p3), .val (.int p4), .val (.int f), .val (.int va), .val (.int vb), .val (.int kk), .unset, .unset, .unset, .unset] [(.int (1 : Int32)), (.ref b171), (.ref b171)])
      refine own_by (fun _ k => XS.bipush X175.here hx rfl (hb hby at_50) k) ?_
      show own_Go p e below _ T175 (mkF m 52 #[.val (.int p1), .val (.int p2), .val (.int p3), .val (.int p4), .val (.int f), .val (.int va), .val (.int vb), .val (.int kk), .unset, .unset, .unset, .unset] [(.int (99 : Int32)), (.int (1 : Int32)), (.ref b171), (.ref b171)])
      obtain ⟨cl178, Ar178, cq178, hin178, hat178, set178⟩ := own_arv V175 (j := (1 : Int32)) ⟨by decide, by decide⟩
      obtain ⟨T179, h179, X179, e179, W179, st179⟩ := stC X175 hx hZ e175 Ar178 (j := (1 : Int32)) hin178 (g := (mkF m 52 #[.val (.int p1), .val (.int p2), .val (.int p3), .val (.int p4), .val (.int f), .val (.int va), .val (.int vb), .val (.int kk), .unset, .unset, .unset, .unset] [(.int (99 : Int32)), (.int (1 : Int32)), (.ref b171), (.ref b171)])) rfl rfl (hb hby at_52)
      have wq179 : nar .char (99 : Int32) = (99 : Int32) := rfl
      rw [wq179] at W179
      have wf179 : fits .char (.int (99 : Int32)) = true := wq179 ▸ (fits_nar_char _)
      have V179 : Arv Z h179 b171 k171 .char (7 : Int32) [(.int va), (.int (99 : Int32)), (.int (0 : Int32)), (.int (0 : Int32)), (.int (0 : Int32)), (.int (0 : Int32)), (.int (0 : Int32))] (.int (0 : Int32)) := set178 wf179 W179 1 rfl (Nat.le_of_ble_eq_true rfl)
      have N179 := Fr.snoc X179 N175 og_b171
      have K180 := K176.wr W179 (Or.inr sz_b171)
      have Z179 : n0 ≤ h179.size := Nat.le_trans Z175 (Keep.of_wr W179).1
      have kz181 : _ ≤ h179.size := Nat.le_trans kz177 (Keep.of_wr W179).1
      refine own_by st179 ?_
      show own_Go p e below _ T179 (mkF m 53 #[.val (.int p1), .val (.int p2), .val (.int p3), .val (.int p4), .val (.int f), .val (.int va), .val (.int vb), .val (.int kk), .unset, .unset, .unset, .unset] [(.ref b171)])
      refine own_by (fun _ k => XS.dup X179.here hx rfl (hb hby at_53) rfl rfl k) ?_
      show own_Go p e below _ T179 (mkF m 54 #[.val (.int p1), .val (.int p2), .val (.int p3), .val (.int p4), .val (.int f), .val (.int va), .val (.int vb), .val (.int kk), .unset, .unset, .unset, .unset] [(.ref b171), (.ref b171)])
      refine own_by (fun _ k => XS.iconst X179.here hx rfl (hb hby at_54) k) ?_
      show own_Go p e below _ T179 (mkF m 55 #[.val (.int p1), .val (.int p2), .val (.int p3), .val (.int p4), .val (.int f), .val (.int va), .val (.int vb), .val (.int kk), .unset, .unset, .unset, .unset] [(.int (2 : Int32)), (.ref b171), (.ref b171)])
      refine own_by (fun _ k => XS.bipush X179.here hx rfl (hb hby at_55) k) ?_
      show own_Go p e below _ T179 (mkF m 57 #[.val (.int p1), .val (.int p2), .val (.int p3), .val (.int p4), .val (.int f), .val (.int va), .val (.int vb), .val (.int kk), .unset, .unset, .unset, .unset] [(.int (108 : Int32)), (.int (2 : Int32)), (.ref b171), (.ref b171)])
      obtain ⟨cl182, Ar182, cq182, hin182, hat182, set182⟩ := own_arv V179 (j := (2 : Int32)) ⟨by decide, by decide⟩
      obtain ⟨T183, h183, X183, e183, W183, st183⟩ := stC X179 hx hZ e179 Ar182 (j := (2 : Int32)) hin182 (g := (mkF m 57 #[.val (.int p1), .val (.int p2), .val (.int p3), .val (.int p4), .val (.int f), .val (.int va), .val (.int vb), .val (.int kk), .unset, .unset, .unset, .unset] [(.int (108 : Int32)), (.int (2 : Int32)), (.ref b171), (.ref b171)])) rfl rfl (hb hby at_57)
      have wq183 : nar .char (108 : Int32) = (108 : Int32) := rfl
      rw [wq183] at W183
      have wf183 : fits .char (.int (108 : Int32)) = true := wq183 ▸ (fits_nar_char _)
      have V183 : Arv Z h183 b171 k171 .char (7 : Int32) [(.int va), (.int (99 : Int32)), (.int (108 : Int32)), (.int (0 : Int32)), (.int (0 : Int32)), (.int (0 : Int32)), (.int (0 : Int32))] (.int (0 : Int32)) := set182 wf183 W183 2 rfl (Nat.le_of_ble_eq_true rfl)
      have N183 := Fr.snoc X183 N179 og_b171
      have K184 := K180.wr W183 (Or.inr sz_b171)
      have Z183 : n0 ≤ h183.size := Nat.le_trans Z179 (Keep.of_wr W183).1
      have kz185 : _ ≤ h183.size := Nat.le_trans kz181 (Keep.of_wr W183).1
      refine own_by st183 ?_
      show own_Go p e below _ T183 (mkF m 58 #[.val (.int p1), .val (.int p2), .val (.int p3), .val (.int p4), .val (.int f), .val (.int va), .val (.int vb), .val (.int kk), .unset, .unset, .unset, .unset] [(.ref b171)])
      refine own_by (fun _ k => XS.dup X183.here hx rfl (hb hby at_58) rfl rfl k) ?_
      show own_Go p e below _ T183 (mkF m 59 #[.val (.int p1), .val (.int p2), .val (.int p3), .val (.int p4), .val (.int f), .val (.int va), .val (.int vb), .val (.int kk), .unset, .unset, .unset, .unset] [(.ref b171), (.ref b171)])
      refine own_by (fun _ k => XS.iconst X183.here hx rfl (hb hby at_59) k) ?_
      show own_Go p e below _ T183 (mkF m 60 #[.val (.int p1), .val (.int p2), .val (.int p3), .val (.int p4), .val (.int f), .val (.int va), .val (.int vb), .val (.int kk), .unset, .unset, .unset, .unset] [(.int (3 : Int32)), (.ref b171), (.ref b171)])
      refine own_by (fun _ k => XS.bipush X183.here hx rfl (hb hby at_60) k) ?_
      show own_Go p e below _ T183 (mkF m 62 #[.val (.int p1), .val (.int p2), .val (.int p3), .val (.int p4), .val (.int f), .val (.int va), .val (.int vb), .val (.int kk), .unset, .unset, .unset, .unset] [(.int (111 : Int32)), (.int (3 : Int32)), (.ref b171), (.ref b171)])
      obtain ⟨cl186, Ar186, cq186, hin186, hat186, set186⟩ := own_arv V183 (j := (3 : Int32)) ⟨by decide, by decide⟩
      obtain ⟨T187, h187, X187, e187, W187, st187⟩ := stC X183 hx hZ e183 Ar186 (j := (3 : Int32)) hin186 (g := (mkF m 62 #[.val (.int p1), .val (.int p2), .val (.int p3), .val (.int p4), .val (.int f), .val (.int va), .val (.int vb), .val (.int kk), .unset, .unset, .unset, .unset] [(.int (111 : Int32)), (.int (3 : Int32)), (.ref b171), (.ref b171)])) rfl rfl (hb hby at_62)
      have wq187 : nar .char (111 : Int32) = (111 : Int32) := rfl
      rw [wq187] at W187
      have wf187 : fits .char (.int (111 : Int32)) = true := wq187 ▸ (fits_nar_char _)
      have V187 : Arv Z h187 b171 k171 .char (7 : Int32) [(.int va), (.int (99 : Int32)), (.int (108 : Int32)), (.int (111 : Int32)), (.int (0 : Int32)), (.int (0 : Int32)), (.int (0 : Int32))] (.int (0 : Int32)) := set186 wf187 W187 3 rfl (Nat.le_of_ble_eq_true rfl)
      have N187 := Fr.snoc X187 N183 og_b171
      have K188 := K184.wr W187 (Or.inr sz_b171)
      have Z187 : n0 ≤ h187.size := Nat.le_trans Z183 (Keep.of_wr W187).1
      have kz189 : _ ≤ h187.size := Nat.le_trans kz185 (Keep.of_wr W187).1
      refine own_by st187 ?_
      show own_Go p e below _ T187 (mkF m 63 #[.val (.int p1), .val (.int p2), .val (.int p3), .val (.int p4), .val (.int f), .val (.int va), .val (.int vb), .val (.int kk), .unset, .unset, .unset, .unset] [(.ref b171)])
      refine own_by (fun _ k => XS.dup X187.here hx rfl (hb hby at_63) rfl rfl k) ?_
      show own_Go p e below _ T187 (mkF m 64 #[.val (.int p1), .val (.int p2), .val (.int p3), .val (.int p4), .val (.int f), .val (.int va), .val (.int vb), .val (.int kk), .unset, .unset, .unset, .unset] [(.ref b171), (.ref b171)])
      refine own_by (fun _ k => XS.iconst X187.here hx rfl (hb hby at_64) k) ?_
      show own_Go p e below _ T187 (mkF m 65 #[.val (.int p1), .val (.int p2), .val (.int p3), .val (.int p4), .val (.int f), .val (.int va), .val (.int vb), .val (.int kk), .unset, .unset, .unset, .unset] [(.int (4 : Int32)), (.ref b171), (.ref b171)])
      refine own_by (fun _ k => XS.bipush X187.here hx rfl (hb hby at_65) k) ?_
      show own_Go p e below _ T187 (mkF m 67 #[.val (.int p1), .val (.int p2), .val (.int p3), .val (.int p4), .val (.int f), .val (.int va), .val (.int vb), .val (.int kk), .unset, .unset, .unset, .unset] [(.int (115 : Int32)), (.int (4 : Int32)), (.ref b171), (.ref b171)])
      obtain ⟨cl190, Ar190, cq190, hin190, hat190, set190⟩ := own_arv V187 (j := (4 : Int32)) ⟨by decide, by decide⟩
      obtain ⟨T191, h191, X191, e191, W191, st191⟩ := stC X187 hx hZ e187 Ar190 (j := (4 : Int32)) hin190 (g := (mkF m 67 #[.val (.int p1), .val (.int p2), .val (.int p3), .val (.int p4), .val (.int f), .val (.int va), .val (.int vb), .val (.int kk), .unset, .unset, .unset, .unset] [(.int (115 : Int32)), (.int (4 : Int32)), (.ref b171), (.ref b171)])) rfl rfl (hb hby at_67)
      have wq191 : nar .char (115 : Int32) = (115 : Int32) := rfl
      rw [wq191] at W191
      have wf191 : fits .char (.int (115 : Int32)) = true := wq191 ▸ (fits_nar_char _)
      have V191 : Arv Z h191 b171 k171 .char (7 : Int32) [(.int va), (.int (99 : Int32)), (.int (108 : Int32)), (.int (111 : Int32)), (.int (115 : Int32)), (.int (0 : Int32)), (.int (0 : Int32))] (.int (0 : Int32)) := set190 wf191 W191 4 rfl (Nat.le_of_ble_eq_true rfl)
      have N191 := Fr.snoc X191 N187 og_b171
      have K192 := K188.wr W191 (Or.inr sz_b171)
      have Z191 : n0 ≤ h191.size := Nat.le_trans Z187 (Keep.of_wr W191).1
      have kz193 : _ ≤ h191.size := Nat.le_trans kz189 (Keep.of_wr W191).1
      refine own_by st191 ?_
      show own_Go p e below _ T191 (mkF m 68 #[.val (.int p1), .val (.int p2), .val (.int p3), .val (.int p4), .val (.int f), .val (.int va), .val (.int vb), .val (.int kk), .unset, .unset, .unset, .unset] [(.ref b171)])
      refine own_by (fun _ k => XS.dup X191.here hx rfl (hb hby at_68) rfl rfl k) ?_
      show own_Go p e below _ T191 (mkF m 69 #[.val (.int p1), .val (.int p2), .val (.int p3), .val (.int p4), .val (.int f), .val (.int va), .val (.int vb), .val (.int kk), .unset, .unset, .unset, .unset] [(.ref b171), (.ref b171)])
      refine own_by (fun _ k => XS.iconst X191.here hx rfl (hb hby at_69) k) ?_
      show own_Go p e below _ T191 (mkF m 70 #[.val (.int p1), .val (.int p2), .val (.int p3), .val (.int p4), .val (.int f), .val (.int va), .val (.int vb), .val (.int kk), .unset, .unset, .unset, .unset] [(.int (5 : Int32)), (.ref b171), (.ref b171)])
      refine own_by (fun _ k => XS.bipush X191.here hx rfl (hb hby at_70) k) ?_
      show own_Go p e below _ T191 (mkF m 72 #[.val (.int p1), .val (.int p2), .val (.int p3), .val (.int p4), .val (.int f), .val (.int va), .val (.int vb), .val (.int kk), .unset, .unset, .unset, .unset] [(.int (101 : Int32)), (.int (5 : Int32)), (.ref b171), (.ref b171)])
      obtain ⟨cl194, Ar194, cq194, hin194, hat194, set194⟩ := own_arv V191 (j := (5 : Int32)) ⟨by decide, by decide⟩
      obtain ⟨T195, h195, X195, e195, W195, st195⟩ := stC X191 hx hZ e191 Ar194 (j := (5 : Int32)) hin194 (g := (mkF m 72 #[.val (.int p1), .val (.int p2), .val (.int p3), .val (.int p4), .val (.int f), .val (.int va), .val (.int vb), .val (.int kk), .unset, .unset, .unset, .unset] [(.int (101 : Int32)), (.int (5 : Int32)), (.ref b171), (.ref b171)])) rfl rfl (hb hby at_72)
      have wq195 : nar .char (101 : Int32) = (101 : Int32) := rfl
      rw [wq195] at W195
      have wf195 : fits .char (.int (101 : Int32)) = true := wq195 ▸ (fits_nar_char _)
      have V195 : Arv Z h195 b171 k171 .char (7 : Int32) [(.int va), (.int (99 : Int32)), (.int (108 : Int32)), (.int (111 : Int32)), (.int (115 : Int32)), (.int (101 : Int32)), (.int (0 : Int32))] (.int (0 : Int32)) := set194 wf195 W195 5 rfl (Nat.le_of_ble_eq_true rfl)
      have N195 := Fr.snoc X195 N191 og_b171
      have K196 := K192.wr W195 (Or.inr sz_b171)
      have Z195 : n0 ≤ h195.size := Nat.le_trans Z191 (Keep.of_wr W195).1
      have kz197 : _ ≤ h195.size := Nat.le_trans kz193 (Keep.of_wr W195).1
      refine own_by st195 ?_
      show own_Go p e below _ T195 (mkF m 73 #[.val (.int p1), .val (.int p2), .val (.int p3), .val (.int p4), .val (.int f), .val (.int va), .val (.int vb), .val (.int kk), .unset, .unset, .unset, .unset] [(.ref b171)])
      refine own_by (fun _ k => XS.dup X195.here hx rfl (hb hby at_73) rfl rfl k) ?_
      show own_Go p e below _ T195 (mkF m 74 #[.val (.int p1), .val (.int p2), .val (.int p3), .val (.int p4), .val (.int f), .val (.int va), .val (.int vb), .val (.int kk), .unset, .unset, .unset, .unset] [(.ref b171), (.ref b171)])
      refine own_by (fun _ k => XS.bipush X195.here hx rfl (hb hby at_74) k) ?_
      show own_Go p e below _ T195 (mkF m 76 #[.val (.int p1), .val (.int p2), .val (.int p3), .val (.int p4), .val (.int f), .val (.int va), .val (.int vb), .val (.int kk), .unset, .unset, .unset, .unset] [(.int (6 : Int32)), (.ref b171), (.ref b171)])
      refine own_by (fun _ k => XS.iload X195.here hx rfl (hb hby at_76) rfl k) ?_
      show own_Go p e below _ T195 (mkF m 78 #[.val (.int p1), .val (.int p2), .val (.int p3), .val (.int p4), .val (.int f), .val (.int va), .val (.int vb), .val (.int kk), .unset, .unset, .unset, .unset] [(.int vb), (.int (6 : Int32)), (.ref b171), (.ref b171)])
      obtain ⟨cl198, Ar198, cq198, hin198, hat198, set198⟩ := own_arv V195 (j := (6 : Int32)) ⟨by decide, by decide⟩
      obtain ⟨T199, h199, X199, e199, W199, st199⟩ := stC X195 hx hZ e195 Ar198 (j := (6 : Int32)) hin198 (g := (mkF m 78 #[.val (.int p1), .val (.int p2), .val (.int p3), .val (.int p4), .val (.int f), .val (.int va), .val (.int vb), .val (.int kk), .unset, .unset, .unset, .unset] [(.int vb), (.int (6 : Int32)), (.ref b171), (.ref b171)])) rfl rfl (hb hby at_78)
      have wq199 : nar .char vb = vb := hvb.1
      rw [wq199] at W199
      have wf199 : fits .char (.int vb) = true := wq199 ▸ (fits_nar_char _)
      have V199 : Arv Z h199 b171 k171 .char (7 : Int32) [(.int va), (.int (99 : Int32)), (.int (108 : Int32)), (.int (111 : Int32)), (.int (115 : Int32)), (.int (101 : Int32)), (.int vb)] (.int (0 : Int32)) := set198 wf199 W199 6 rfl (Nat.le_of_ble_eq_true rfl)
      have N199 := Fr.snoc X199 N195 og_b171
      have K200 := K196.wr W199 (Or.inr sz_b171)
      have Z199 : n0 ≤ h199.size := Nat.le_trans Z195 (Keep.of_wr W199).1
      have kz201 : _ ≤ h199.size := Nat.le_trans kz197 (Keep.of_wr W199).1
      refine own_by st199 ?_
      show own_Go p e below _ T199 (mkF m 79 #[.val (.int p1), .val (.int p2), .val (.int p3), .val (.int p4), .val (.int f), .val (.int va), .val (.int vb), .val (.int kk), .unset, .unset, .unset, .unset] [(.ref b171)])
      refine own_by (fun _ k => XS.astore X199.here hx rfl (hb hby at_79) rfl rfl (l' := #[.val (.int p1), .val (.int p2), .val (.int p3), .val (.int p4), .val (.int f), .val (.int va), .val (.int vb), .val (.int kk), .val (.ref b171), .unset, .unset, .unset]) rfl k) ?_
      show own_Go p e below _ T199 (mkF m 81 #[.val (.int p1), .val (.int p2), .val (.int p3), .val (.int p4), .val (.int f), .val (.int va), .val (.int vb), .val (.int kk), .val (.ref b171), .unset, .unset, .unset] [])
      refine own_by (fun _ k => XS.iconst X199.here hx rfl (hb hby at_81) k) ?_
      show own_Go p e below _ T199 (mkF m 82 #[.val (.int p1), .val (.int p2), .val (.int p3), .val (.int p4), .val (.int f), .val (.int va), .val (.int vb), .val (.int kk), .val (.ref b171), .unset, .unset, .unset] [(.int (0 : Int32))])
      refine own_by (fun _ k => XS.istore X199.here hx rfl (hb hby at_82) rfl (l' := #[.val (.int p1), .val (.int p2), .val (.int p3), .val (.int p4), .val (.int f), .val (.int va), .val (.int vb), .val (.int kk), .val (.ref b171), .val (.int (0 : Int32)), .unset, .unset]) rfl k) ?_
      show own_Go p e below _ T199 (mkF m 84 #[.val (.int p1), .val (.int p2), .val (.int p3), .val (.int p4), .val (.int f), .val (.int va), .val (.int vb), .val (.int kk), .val (.ref b171), .val (.int (0 : Int32)), .unset, .unset] [])
      refine own_by (fun _ k => XS.iconst X199.here hx rfl (hb hby at_84) k) ?_
      show own_Go p e below _ T199 (mkF m 85 #[.val (.int p1), .val (.int p2), .val (.int p3), .val (.int p4), .val (.int f), .val (.int va), .val (.int vb), .val (.int kk), .val (.ref b171), .val (.int (0 : Int32)), .unset, .unset] [(.int (1 : Int32))])
      refine own_by (fun _ k => XS.istore X199.here hx rfl (hb hby at_85) rfl (l' := #[.val (.int p1), .val (.int p2), .val (.int p3), .val (.int p4), .val (.int f), .val (.int va), .val (.int vb), .val (.int kk), .val (.ref b171), .val (.int (0 : Int32)), .val (.int (1 : Int32)), .unset]) rfl k) ?_
      show own_Go p e below _ T199 (mkF m 87 #[.val (.int p1), .val (.int p2), .val (.int p3), .val (.int p4), .val (.int f), .val (.int va), .val (.int vb), .val (.int kk), .val (.ref b171), .val (.int (0 : Int32)), .val (.int (1 : Int32)), .unset] [])
      refine own_by (fun _ k => XS.goto X199.here hx rfl (pc0 := 87) (pc' := 758) rfl (hb hby at_87) (by decide) (by decide) k) ?_
      show own_Go p e below _ T199 (mkF m 758 #[.val (.int p1), .val (.int p2), .val (.int p3), .val (.int p4), .val (.int f), .val (.int va), .val (.int vb), .val (.int kk), .val (.ref b171), .val (.int (0 : Int32)), .val (.int (1 : Int32)), .unset] [])
      exact J758 T199 _ h199 (X199.more (Nat.le_refl _) (by decide)) e199 N199 K200 b171 _ [va, 99, 108, 111, 115, 101, vb] _ _ og_b171 ⟨by simp, by simp⟩ (by intro c hc; simp only [List.mem_cons, List.not_mem_nil, or_false] at hc; rcases hc with rfl | rfl | rfl | rfl | rfl | rfl | rfl <;> first | exact hva | exact hvb | (unfold own_ch; decide)) (by rw [own_keep0 va vb]; rfl) (by rw [own_close0 va vb]; rfl) V199
    · refine own_by (fun _ k => XS.ifYes X159.here hx rfl (pc0 := 36) (pc' := 90) rfl (hb hby at_36) rfl ((if0 _ _).trans (feq (hk0 : ¬ (kk = (0 : Int32)))).2) (by decide) (by decide) k) ?_
      show own_Go p e below _ T159 (mkF m 90 #[.val (.int p1), .val (.int p2), .val (.int p3), .val (.int p4), .val (.int f), .val (.int va), .val (.int vb), .val (.int kk), .unset, .unset, .unset, .unset] [])
      refine own_by (fun _ k => XS.iload X159.here hx rfl (hb hby at_90) rfl k) ?_
      show own_Go p e below _ T159 (mkF m 92 #[.val (.int p1), .val (.int p2), .val (.int p3), .val (.int p4), .val (.int f), .val (.int va), .val (.int vb), .val (.int kk), .unset, .unset, .unset, .unset] [(.int kk)])
      refine own_by (fun _ k => XS.iconst X159.here hx rfl (hb hby at_92) k) ?_
      show own_Go p e below _ T159 (mkF m 93 #[.val (.int p1), .val (.int p2), .val (.int p3), .val (.int p4), .val (.int f), .val (.int va), .val (.int vb), .val (.int kk), .unset, .unset, .unset, .unset] [(.int (1 : Int32)), (.int kk)])
      by_cases hk1 : kk = (1 : Int32)
      · refine own_by (fun _ k => XS.icmpNo X159.here hx rfl (hb hby at_93) rfl (teq (hk1 : kk = (1 : Int32))).2 k) ?_
        show own_Go p e below _ T159 (mkF m 96 #[.val (.int p1), .val (.int p2), .val (.int p3), .val (.int p4), .val (.int f), .val (.int va), .val (.int vb), .val (.int kk), .unset, .unset, .unset, .unset] [])
        refine own_by (fun _ k => XS.bipush X159.here hx rfl (hb hby at_96) k) ?_
        show own_Go p e below _ T159 (mkF m 98 #[.val (.int p1), .val (.int p2), .val (.int p3), .val (.int p4), .val (.int f), .val (.int va), .val (.int vb), .val (.int kk), .unset, .unset, .unset, .unset] [(.int (12 : Int32))])
        obtain ⟨T202, h202, k202, X202, e202, E202, A202, C202, st202⟩ := newPE X159 hx hZ (hw _ (List.mem_of_getElem? (i := 5) rfl)) e159 (g := (mkF m 98 #[.val (.int p1), .val (.int p2), .val (.int p3), .val (.int p4), .val (.int f), .val (.int va), .val (.int vb), .val (.int kk), .unset, .unset, .unset, .unset] [(.int (12 : Int32))])) rfl (hb hby at_98) rfl (by decide) (cap := 12) (by decide) (by decide) (by decide) (by decide) (ad := "[C") (by decide)
        obtain ⟨b202, g202⟩ : ∃ zq, zq = h0.size := ⟨_, rfl⟩
        rw [← g202] at A202 C202 st202
        have og_b202 : n0 ≤ b202 := Nat.le_trans Z0 (Nat.le_of_eq g202.symm)
        have sz_b202 : h0.size ≤ b202 := Nat.le_trans K0.1 (Nat.le_of_eq g202.symm)
        have Z202 : n0 ≤ h202.size := Nat.le_trans Z0 E202.1
        have kz203 : _ ≤ h202.size := Nat.le_trans kz0 E202.1
        have K204 := K0.ext E202
        have V202 : Arv Z h202 b202 k202 .char (12 : Int32) [(.int (0 : Int32)), (.int (0 : Int32)), (.int (0 : Int32)), (.int (0 : Int32)), (.int (0 : Int32)), (.int (0 : Int32)), (.int (0 : Int32)), (.int (0 : Int32)), (.int (0 : Int32)), (.int (0 : Int32)), (.int (0 : Int32)), (.int (0 : Int32))] (.int (0 : Int32)) := (Arv.new A202 (by decide)).pad (pad_rep [] (.int (0 : Int32)) 12)
        refine own_by st202 ?_
        show own_Go p e below _ T202 (mkF m 100 #[.val (.int p1), .val (.int p2), .val (.int p3), .val (.int p4), .val (.int f), .val (.int va), .val (.int vb), .val (.int kk), .unset, .unset, .unset, .unset] [(.ref b202)])
        refine own_by (fun _ k => XS.dup X202.here hx rfl (hb hby at_100) rfl rfl k) ?_
        show own_Go p e below _ T202 (mkF m 101 #[.val (.int p1), .val (.int p2), .val (.int p3), .val (.int p4), .val (.int f), .val (.int va), .val (.int vb), .val (.int kk), .unset, .unset, .unset, .unset] [(.ref b202), (.ref b202)])
        refine own_by (fun _ k => XS.iconst X202.here hx rfl (hb hby at_101) k) ?_
        show own_Go p e below _ T202 (mkF m 102 #[.val (.int p1), .val (.int p2), .val (.int p3), .val (.int p4), .val (.int f), .val (.int va), .val (.int vb), .val (.int kk), .unset, .unset, .unset, .unset] [(.int (0 : Int32)), (.ref b202), (.ref b202)])
        refine own_by (fun _ k => XS.iload X202.here hx rfl (hb hby at_102) rfl k) ?_
        show own_Go p e below _ T202 (mkF m 104 #[.val (.int p1), .val (.int p2), .val (.int p3), .val (.int p4), .val (.int f), .val (.int va), .val (.int vb), .val (.int kk), .unset, .unset, .unset, .unset] [(.int va), (.int (0 : Int32)), (.ref b202), (.ref b202)])
        obtain ⟨cl205, Ar205, cq205, hin205, hat205, set205⟩ := own_arv V202 (j := (0 : Int32)) ⟨by decide, by decide⟩
        obtain ⟨T206, h206, X206, e206, W206, st206⟩ := stC X202 hx hZ e202 Ar205 (j := (0 : Int32)) hin205 (g := (mkF m 104 #[.val (.int p1), .val (.int p2), .val (.int p3), .val (.int p4), .val (.int f), .val (.int va), .val (.int vb), .val (.int kk), .unset, .unset, .unset, .unset] [(.int va), (.int (0 : Int32)), (.ref b202), (.ref b202)])) rfl rfl (hb hby at_104)
        have wq206 : nar .char va = va := hva.1
        rw [wq206] at W206
        have wf206 : fits .char (.int va) = true := wq206 ▸ (fits_nar_char _)
        have V206 : Arv Z h206 b202 k202 .char (12 : Int32) [(.int va), (.int (0 : Int32)), (.int (0 : Int32)), (.int (0 : Int32)), (.int (0 : Int32)), (.int (0 : Int32)), (.int (0 : Int32)), (.int (0 : Int32)), (.int (0 : Int32)), (.int (0 : Int32)), (.int (0 : Int32)), (.int (0 : Int32))] (.int (0 : Int32)) := set205 wf206 W206 0 rfl (Nat.le_of_ble_eq_true rfl)
        have N206 := Fr.snoc X206 N159 og_b202
        have K207 := K204.wr W206 (Or.inr sz_b202)
        have Z206 : n0 ≤ h206.size := Nat.le_trans Z202 (Keep.of_wr W206).1
        have kz208 : _ ≤ h206.size := Nat.le_trans kz203 (Keep.of_wr W206).1
        refine own_by st206 ?_
        show own_Go p e below _ T206 (mkF m 105 #[.val (.int p1), .val (.int p2), .val (.int p3), .val (.int p4), .val (.int f), .val (.int va), .val (.int vb), .val (.int kk), .unset, .unset, .unset, .unset] [(.ref b202)])
        refine own_by (fun _ k => XS.dup X206.here hx rfl (hb hby at_105) rfl rfl k) ?_
        show own_Go p e below _ T206 (mkF m 106 #[.val (.int p1), .val (.int p2), .val (.int p3), .val (.int p4), .val (.int f), .val (.int va), .val (.int vb), .val (.int kk), .unset, .unset, .unset, .unset] [(.ref b202), (.ref b202)])
        refine own_by (fun _ k => XS.iconst X206.here hx rfl (hb hby at_106) k) ?_
        show own_Go p e below _ T206 (mkF m 107 #[.val (.int p1), .val (.int p2), .val (.int p3), .val (.int p4), .val (.int f), .val (.int va), .val (.int vb), .val (.int kk), .unset, .unset, .unset, .unset] [(.int (1 : Int32)), (.ref b202), (.ref b202)])
        refine own_by (fun _ k => XS.bipush X206.here hx rfl (hb hby at_107) k) ?_
        show own_Go p e below _ T206 (mkF m 109 #[.val (.int p1), .val (.int p2), .val (.int p3), .val (.int p4), .val (.int f), .val (.int va), .val (.int vb), .val (.int kk), .unset, .unset, .unset, .unset] [(.int (107 : Int32)), (.int (1 : Int32)), (.ref b202), (.ref b202)])
        obtain ⟨cl209, Ar209, cq209, hin209, hat209, set209⟩ := own_arv V206 (j := (1 : Int32)) ⟨by decide, by decide⟩
        obtain ⟨T210, h210, X210, e210, W210, st210⟩ := stC X206 hx hZ e206 Ar209 (j := (1 : Int32)) hin209 (g := (mkF m 109 #[.val (.int p1), .val (.int p2), .val (.int p3), .val (.int p4), .val (.int f), .val (.int va), .val (.int vb), .val (.int kk), .unset, .unset, .unset, .unset] [(.int (107 : Int32)), (.int (1 : Int32)), (.ref b202), (.ref b202)])) rfl rfl (hb hby at_109)
        have wq210 : nar .char (107 : Int32) = (107 : Int32) := rfl
        rw [wq210] at W210
        have wf210 : fits .char (.int (107 : Int32)) = true := wq210 ▸ (fits_nar_char _)
        have V210 : Arv Z h210 b202 k202 .char (12 : Int32) [(.int va), (.int (107 : Int32)), (.int (0 : Int32)), (.int (0 : Int32)), (.int (0 : Int32)), (.int (0 : Int32)), (.int (0 : Int32)), (.int (0 : Int32)), (.int (0 : Int32)), (.int (0 : Int32)), (.int (0 : Int32)), (.int (0 : Int32))] (.int (0 : Int32)) := set209 wf210 W210 1 rfl (Nat.le_of_ble_eq_true rfl)
        have N210 := Fr.snoc X210 N206 og_b202
        have K211 := K207.wr W210 (Or.inr sz_b202)
        have Z210 : n0 ≤ h210.size := Nat.le_trans Z206 (Keep.of_wr W210).1
        have kz212 : _ ≤ h210.size := Nat.le_trans kz208 (Keep.of_wr W210).1
        refine own_by st210 ?_
        show own_Go p e below _ T210 (mkF m 110 #[.val (.int p1), .val (.int p2), .val (.int p3), .val (.int p4), .val (.int f), .val (.int va), .val (.int vb), .val (.int kk), .unset, .unset, .unset, .unset] [(.ref b202)])
        refine own_by (fun _ k => XS.dup X210.here hx rfl (hb hby at_110) rfl rfl k) ?_
        show own_Go p e below _ T210 (mkF m 111 #[.val (.int p1), .val (.int p2), .val (.int p3), .val (.int p4), .val (.int f), .val (.int va), .val (.int vb), .val (.int kk), .unset, .unset, .unset, .unset] [(.ref b202), (.ref b202)])
        refine own_by (fun _ k => XS.iconst X210.here hx rfl (hb hby at_111) k) ?_
        show own_Go p e below _ T210 (mkF m 112 #[.val (.int p1), .val (.int p2), .val (.int p3), .val (.int p4), .val (.int f), .val (.int va), .val (.int vb), .val (.int kk), .unset, .unset, .unset, .unset] [(.int (2 : Int32)), (.ref b202), (.ref b202)])
        refine own_by (fun _ k => XS.bipush X210.here hx rfl (hb hby at_112) k) ?_
        show own_Go p e below _ T210 (mkF m 114 #[.val (.int p1), .val (.int p2), .val (.int p3), .val (.int p4), .val (.int f), .val (.int va), .val (.int vb), .val (.int kk), .unset, .unset, .unset, .unset] [(.int (101 : Int32)), (.int (2 : Int32)), (.ref b202), (.ref b202)])
        obtain ⟨cl213, Ar213, cq213, hin213, hat213, set213⟩ := own_arv V210 (j := (2 : Int32)) ⟨by decide, by decide⟩
        obtain ⟨T214, h214, X214, e214, W214, st214⟩ := stC X210 hx hZ e210 Ar213 (j := (2 : Int32)) hin213 (g := (mkF m 114 #[.val (.int p1), .val (.int p2), .val (.int p3), .val (.int p4), .val (.int f), .val (.int va), .val (.int vb), .val (.int kk), .unset, .unset, .unset, .unset] [(.int (101 : Int32)), (.int (2 : Int32)), (.ref b202), (.ref b202)])) rfl rfl (hb hby at_114)
        have wq214 : nar .char (101 : Int32) = (101 : Int32) := rfl
        rw [wq214] at W214
        have wf214 : fits .char (.int (101 : Int32)) = true := wq214 ▸ (fits_nar_char _)
        have V214 : Arv Z h214 b202 k202 .char (12 : Int32) [(.int va), (.int (107 : Int32)), (.int (101 : Int32)), (.int (0 : Int32)), (.int (0 : Int32)), (.int (0 : Int32)), (.int (0 : Int32)), (.int (0 : Int32)), (.int (0 : Int32)), (.int (0 : Int32)), (.int (0 : Int32)), (.int (0 : Int32))] (.int (0 : Int32)) := set213 wf214 W214 2 rfl (Nat.le_of_ble_eq_true rfl)
        have N214 := Fr.snoc X214 N210 og_b202
        have K215 := K211.wr W214 (Or.inr sz_b202)
        have Z214 : n0 ≤ h214.size := Nat.le_trans Z210 (Keep.of_wr W214).1
        have kz216 : _ ≤ h214.size := Nat.le_trans kz212 (Keep.of_wr W214).1
        refine own_by st214 ?_
        show own_Go p e below _ T214 (mkF m 115 #[.val (.int p1), .val (.int p2), .val (.int p3), .val (.int p4), .val (.int f), .val (.int va), .val (.int vb), .val (.int kk), .unset, .unset, .unset, .unset] [(.ref b202)])
        refine own_by (fun _ k => XS.dup X214.here hx rfl (hb hby at_115) rfl rfl k) ?_
        show own_Go p e below _ T214 (mkF m 116 #[.val (.int p1), .val (.int p2), .val (.int p3), .val (.int p4), .val (.int f), .val (.int va), .val (.int vb), .val (.int kk), .unset, .unset, .unset, .unset] [(.ref b202), (.ref b202)])
        refine own_by (fun _ k => XS.iconst X214.here hx rfl (hb hby at_116) k) ?_
        show own_Go p e below _ T214 (mkF m 117 #[.val (.int p1), .val (.int p2), .val (.int p3), .val (.int p4), .val (.int f), .val (.int va), .val (.int vb), .val (.int kk), .unset, .unset, .unset, .unset] [(.int (3 : Int32)), (.ref b202), (.ref b202)])
        refine own_by (fun _ k => XS.bipush X214.here hx rfl (hb hby at_117) k) ?_
        show own_Go p e below _ T214 (mkF m 119 #[.val (.int p1), .val (.int p2), .val (.int p3), .val (.int p4), .val (.int f), .val (.int va), .val (.int vb), .val (.int kk), .unset, .unset, .unset, .unset] [(.int (101 : Int32)), (.int (3 : Int32)), (.ref b202), (.ref b202)])
        obtain ⟨cl217, Ar217, cq217, hin217, hat217, set217⟩ := own_arv V214 (j := (3 : Int32)) ⟨by decide, by decide⟩
        obtain ⟨T218, h218, X218, e218, W218, st218⟩ := stC X214 hx hZ e214 Ar217 (j := (3 : Int32)) hin217 (g := (mkF m 119 #[.val (.int p1), .val (.int p2), .val (.int p3), .val (.int p4), .val (.int f), .val (.int va), .val (.int vb), .val (.int kk), .unset, .unset, .unset, .unset] [(.int (101 : Int32)), (.int (3 : Int32)), (.ref b202), (.ref b202)])) rfl rfl (hb hby at_119)
        have wq218 : nar .char (101 : Int32) = (101 : Int32) := rfl
        rw [wq218] at W218
        have wf218 : fits .char (.int (101 : Int32)) = true := wq218 ▸ (fits_nar_char _)
        have V218 : Arv Z h218 b202 k202 .char (12 : Int32) [(.int va), (.int (107 : Int32)), (.int (101 : Int32)), (.int (101 : Int32)), (.int (0 : Int32)), (.int (0 : Int32)), (.int (0 : Int32)), (.int (0 : Int32)), (.int (0 : Int32)), (.int (0 : Int32)), (.int (0 : Int32)), (.int (0 : Int32))] (.int (0 : Int32)) := set217 wf218 W218 3 rfl (Nat.le_of_ble_eq_true rfl)
        have N218 := Fr.snoc X218 N214 og_b202
        have K219 := K215.wr W218 (Or.inr sz_b202)
        have Z218 : n0 ≤ h218.size := Nat.le_trans Z214 (Keep.of_wr W218).1
        have kz220 : _ ≤ h218.size := Nat.le_trans kz216 (Keep.of_wr W218).1
        refine own_by st218 ?_
        show own_Go p e below _ T218 (mkF m 120 #[.val (.int p1), .val (.int p2), .val (.int p3), .val (.int p4), .val (.int f), .val (.int va), .val (.int vb), .val (.int kk), .unset, .unset, .unset, .unset] [(.ref b202)])
        refine own_by (fun _ k => XS.dup X218.here hx rfl (hb hby at_120) rfl rfl k) ?_
        show own_Go p e below _ T218 (mkF m 121 #[.val (.int p1), .val (.int p2), .val (.int p3), .val (.int p4), .val (.int f), .val (.int va), .val (.int vb), .val (.int kk), .unset, .unset, .unset, .unset] [(.ref b202), (.ref b202)])
        refine own_by (fun _ k => XS.iconst X218.here hx rfl (hb hby at_121) k) ?_
        show own_Go p e below _ T218 (mkF m 122 #[.val (.int p1), .val (.int p2), .val (.int p3), .val (.int p4), .val (.int f), .val (.int va), .val (.int vb), .val (.int kk), .unset, .unset, .unset, .unset] [(.int (4 : Int32)), (.ref b202), (.ref b202)])
        refine own_by (fun _ k => XS.bipush X218.here hx rfl (hb hby at_122) k) ?_
        show own_Go p e below _ T218 (mkF m 124 #[.val (.int p1), .val (.int p2), .val (.int p3), .val (.int p4), .val (.int f), .val (.int va), .val (.int vb), .val (.int kk), .unset, .unset, .unset, .unset] [(.int (112 : Int32)), (.int (4 : Int32)), (.ref b202), (.ref b202)])
        obtain ⟨cl221, Ar221, cq221, hin221, hat221, set221⟩ := own_arv V218 (j := (4 : Int32)) ⟨by decide, by decide⟩
        obtain ⟨T222, h222, X222, e222, W222, st222⟩ := stC X218 hx hZ e218 Ar221 (j := (4 : Int32)) hin221 (g := (mkF m 124 #[.val (.int p1), .val (.int p2), .val (.int p3), .val (.int p4), .val (.int f), .val (.int va), .val (.int vb), .val (.int kk), .unset, .unset, .unset, .unset] [(.int (112 : Int32)), (.int (4 : Int32)), (.ref b202), (.ref b202)])) rfl rfl (hb hby at_124)
        have wq222 : nar .char (112 : Int32) = (112 : Int32) := rfl
        rw [wq222] at W222
        have wf222 : fits .char (.int (112 : Int32)) = true := wq222 ▸ (fits_nar_char _)
        have V222 : Arv Z h222 b202 k202 .char (12 : Int32) [(.int va), (.int (107 : Int32)), (.int (101 : Int32)), (.int (101 : Int32)), (.int (112 : Int32)), (.int (0 : Int32)), (.int (0 : Int32)), (.int (0 : Int32)), (.int (0 : Int32)), (.int (0 : Int32)), (.int (0 : Int32)), (.int (0 : Int32))] (.int (0 : Int32)) := set221 wf222 W222 4 rfl (Nat.le_of_ble_eq_true rfl)
        have N222 := Fr.snoc X222 N218 og_b202
        have K223 := K219.wr W222 (Or.inr sz_b202)
        have Z222 : n0 ≤ h222.size := Nat.le_trans Z218 (Keep.of_wr W222).1
        have kz224 : _ ≤ h222.size := Nat.le_trans kz220 (Keep.of_wr W222).1
        refine own_by st222 ?_
        show own_Go p e below _ T222 (mkF m 125 #[.val (.int p1), .val (.int p2), .val (.int p3), .val (.int p4), .val (.int f), .val (.int va), .val (.int vb), .val (.int kk), .unset, .unset, .unset, .unset] [(.ref b202)])
        refine own_by (fun _ k => XS.dup X222.here hx rfl (hb hby at_125) rfl rfl k) ?_
        show own_Go p e below _ T222 (mkF m 126 #[.val (.int p1), .val (.int p2), .val (.int p3), .val (.int p4), .val (.int f), .val (.int va), .val (.int vb), .val (.int kk), .unset, .unset, .unset, .unset] [(.ref b202), (.ref b202)])
        refine own_by (fun _ k => XS.iconst X222.here hx rfl (hb hby at_126) k) ?_
        show own_Go p e below _ T222 (mkF m 127 #[.val (.int p1), .val (.int p2), .val (.int p3), .val (.int p4), .val (.int f), .val (.int va), .val (.int vb), .val (.int kk), .unset, .unset, .unset, .unset] [(.int (5 : Int32)), (.ref b202), (.ref b202)])
        refine own_by (fun _ k => XS.bipush X222.here hx rfl (hb hby at_127) k) ?_
        show own_Go p e below _ T222 (mkF m 129 #[.val (.int p1), .val (.int p2), .val (.int p3), .val (.int p4), .val (.int f), .val (.int va), .val (.int vb), .val (.int kk), .unset, .unset, .unset, .unset] [(.int (45 : Int32)), (.int (5 : Int32)), (.ref b202), (.ref b202)])
        obtain ⟨cl225, Ar225, cq225, hin225, hat225, set225⟩ := own_arv V222 (j := (5 : Int32)) ⟨by decide, by decide⟩
        obtain ⟨T226, h226, X226, e226, W226, st226⟩ := stC X222 hx hZ e222 Ar225 (j := (5 : Int32)) hin225 (g := (mkF m 129 #[.val (.int p1), .val (.int p2), .val (.int p3), .val (.int p4), .val (.int f), .val (.int va), .val (.int vb), .val (.int kk), .unset, .unset, .unset, .unset] [(.int (45 : Int32)), (.int (5 : Int32)), (.ref b202), (.ref b202)])) rfl rfl (hb hby at_129)
        have wq226 : nar .char (45 : Int32) = (45 : Int32) := rfl
        rw [wq226] at W226
        have wf226 : fits .char (.int (45 : Int32)) = true := wq226 ▸ (fits_nar_char _)
        have V226 : Arv Z h226 b202 k202 .char (12 : Int32) [(.int va), (.int (107 : Int32)), (.int (101 : Int32)), (.int (101 : Int32)), (.int (112 : Int32)), (.int (45 : Int32)), (.int (0 : Int32)), (.int (0 : Int32)), (.int (0 : Int32)), (.int (0 : Int32)), (.int (0 : Int32)), (.int (0 : Int32))] (.int (0 : Int32)) := set225 wf226 W226 5 rfl (Nat.le_of_ble_eq_true rfl)
        have N226 := Fr.snoc X226 N222 og_b202
        have K227 := K223.wr W226 (Or.inr sz_b202)
        have Z226 : n0 ≤ h226.size := Nat.le_trans Z222 (Keep.of_wr W226).1
        have kz228 : _ ≤ h226.size := Nat.le_trans kz224 (Keep.of_wr W226).1
        refine own_by st226 ?_
        show own_Go p e below _ T226 (mkF m 130 #[.val (.int p1), .val (.int p2), .val (.int p3), .val (.int p4), .val (.int f), .val (.int va), .val (.int vb), .val (.int kk), .unset, .unset, .unset, .unset] [(.ref b202)])
        refine own_by (fun _ k => XS.dup X226.here hx rfl (hb hby at_130) rfl rfl k) ?_
        show own_Go p e below _ T226 (mkF m 131 #[.val (.int p1), .val (.int p2), .val (.int p3), .val (.int p4), .val (.int f), .val (.int va), .val (.int vb), .val (.int kk), .unset, .unset, .unset, .unset] [(.ref b202), (.ref b202)])
        refine own_by (fun _ k => XS.bipush X226.here hx rfl (hb hby at_131) k) ?_
        show own_Go p e below _ T226 (mkF m 133 #[.val (.int p1), .val (.int p2), .val (.int p3), .val (.int p4), .val (.int f), .val (.int va), .val (.int vb), .val (.int kk), .unset, .unset, .unset, .unset] [(.int (6 : Int32)), (.ref b202), (.ref b202)])
        refine own_by (fun _ k => XS.bipush X226.here hx rfl (hb hby at_133) k) ?_
        show own_Go p e below _ T226 (mkF m 135 #[.val (.int p1), .val (.int p2), .val (.int p3), .val (.int p4), .val (.int f), .val (.int va), .val (.int vb), .val (.int kk), .unset, .unset, .unset, .unset] [(.int (97 : Int32)), (.int (6 : Int32)), (.ref b202), (.ref b202)])
        obtain ⟨cl229, Ar229, cq229, hin229, hat229, set229⟩ := own_arv V226 (j := (6 : Int32)) ⟨by decide, by decide⟩
        obtain ⟨T230, h230, X230, e230, W230, st230⟩ := stC X226 hx hZ e226 Ar229 (j := (6 : Int32)) hin229 (g := (mkF m 135 #[.val (.int p1), .val (.int p2), .val (.int p3), .val (.int p4), .val (.int f), .val (.int va), .val (.int vb), .val (.int kk), .unset, .unset, .unset, .unset] [(.int (97 : Int32)), (.int (6 : Int32)), (.ref b202), (.ref b202)])) rfl rfl (hb hby at_135)
        have wq230 : nar .char (97 : Int32) = (97 : Int32) := rfl
        rw [wq230] at W230
        have wf230 : fits .char (.int (97 : Int32)) = true := wq230 ▸ (fits_nar_char _)
        have V230 : Arv Z h230 b202 k202 .char (12 : Int32) [(.int va), (.int (107 : Int32)), (.int (101 : Int32)), (.int (101 : Int32)), (.int (112 : Int32)), (.int (45 : Int32)), (.int (97 : Int32)), (.int (0 : Int32)), (.int (0 : Int32)), (.int (0 : Int32)), (.int (0 : Int32)), (.int (0 : Int32))] (.int (0 : Int32)) := set229 wf230 W230 6 rfl (Nat.le_of_ble_eq_true rfl)
        have N230 := Fr.snoc X230 N226 og_b202
        have K231 := K227.wr W230 (Or.inr sz_b202)
        have Z230 : n0 ≤ h230.size := Nat.le_trans Z226 (Keep.of_wr W230).1
        have kz232 : _ ≤ h230.size := Nat.le_trans kz228 (Keep.of_wr W230).1
        refine own_by st230 ?_
        show own_Go p e below _ T230 (mkF m 136 #[.val (.int p1), .val (.int p2), .val (.int p3), .val (.int p4), .val (.int f), .val (.int va), .val (.int vb), .val (.int kk), .unset, .unset, .unset, .unset] [(.ref b202)])
        refine own_by (fun _ k => XS.dup X230.here hx rfl (hb hby at_136) rfl rfl k) ?_
        show own_Go p e below _ T230 (mkF m 137 #[.val (.int p1), .val (.int p2), .val (.int p3), .val (.int p4), .val (.int f), .val (.int va), .val (.int vb), .val (.int kk), .unset, .unset, .unset, .unset] [(.ref b202), (.ref b202)])
        refine own_by (fun _ k => XS.bipush X230.here hx rfl (hb hby at_137) k) ?_
        show own_Go p e below _ T230 (mkF m 139 #[.val (.int p1), .val (.int p2), .val (.int p3), .val (.int p4), .val (.int f), .val (.int va), .val (.int vb), .val (.int kk), .unset, .unset, .unset, .unset] [(.int (7 : Int32)), (.ref b202), (.ref b202)])
        refine own_by (fun _ k => XS.bipush X230.here hx rfl (hb hby at_139) k) ?_
        show own_Go p e below _ T230 (mkF m 141 #[.val (.int p1), .val (.int p2), .val (.int p3), .val (.int p4), .val (.int f), .val (.int va), .val (.int vb), .val (.int kk), .unset, .unset, .unset, .unset] [(.int (108 : Int32)), (.int (7 : Int32)), (.ref b202), (.ref b202)])
        obtain ⟨cl233, Ar233, cq233, hin233, hat233, set233⟩ := own_arv V230 (j := (7 : Int32)) ⟨by decide, by decide⟩
        obtain ⟨T234, h234, X234, e234, W234, st234⟩ := stC X230 hx hZ e230 Ar233 (j := (7 : Int32)) hin233 (g := (mkF m 141 #[.val (.int p1), .val (.int p2), .val (.int p3), .val (.int p4), .val (.int f), .val (.int va), .val (.int vb), .val (.int kk), .unset, .unset, .unset, .unset] [(.int (108 : Int32)), (.int (7 : Int32)), (.ref b202), (.ref b202)])) rfl rfl (hb hby at_141)
        have wq234 : nar .char (108 : Int32) = (108 : Int32) := rfl
        rw [wq234] at W234
        have wf234 : fits .char (.int (108 : Int32)) = true := wq234 ▸ (fits_nar_char _)
        have V234 : Arv Z h234 b202 k202 .char (12 : Int32) [(.int va), (.int (107 : Int32)), (.int (101 : Int32)), (.int (101 : Int32)), (.int (112 : Int32)), (.int (45 : Int32)), (.int (97 : Int32)), (.int (108 : Int32)), (.int (0 : Int32)), (.int (0 : Int32)), (.int (0 : Int32)), (.int (0 : Int32))] (.int (0 : Int32)) := set233 wf234 W234 7 rfl (Nat.le_of_ble_eq_true rfl)
        have N234 := Fr.snoc X234 N230 og_b202
        have K235 := K231.wr W234 (Or.inr sz_b202)
        have Z234 : n0 ≤ h234.size := Nat.le_trans Z230 (Keep.of_wr W234).1
        have kz236 : _ ≤ h234.size := Nat.le_trans kz232 (Keep.of_wr W234).1
        refine own_by st234 ?_
        show own_Go p e below _ T234 (mkF m 142 #[.val (.int p1), .val (.int p2), .val (.int p3), .val (.int p4), .val (.int f), .val (.int va), .val (.int vb), .val (.int kk), .unset, .unset, .unset, .unset] [(.ref b202)])
        refine own_by (fun _ k => XS.dup X234.here hx rfl (hb hby at_142) rfl rfl k) ?_
        show own_Go p e below _ T234 (mkF m 143 #[.val (.int p1), .val (.int p2), .val (.int p3), .val (.int p4), .val (.int f), .val (.int va), .val (.int vb), .val (.int kk), .unset, .unset, .unset, .unset] [(.ref b202), (.ref b202)])
        refine own_by (fun _ k => XS.bipush X234.here hx rfl (hb hby at_143) k) ?_
        show own_Go p e below _ T234 (mkF m 145 #[.val (.int p1), .val (.int p2), .val (.int p3), .val (.int p4), .val (.int f), .val (.int va), .val (.int vb), .val (.int kk), .unset, .unset, .unset, .unset] [(.int (8 : Int32)), (.ref b202), (.ref b202)])
        refine own_by (fun _ k => XS.bipush X234.here hx rfl (hb hby at_145) k) ?_
        show own_Go p e below _ T234 (mkF m 147 #[.val (.int p1), .val (.int p2), .val (.int p3), .val (.int p4), .val (.int f), .val (.int va), .val (.int vb), .val (.int kk), .unset, .unset, .unset, .unset] [(.int (105 : Int32)), (.int (8 : Int32)), (.ref b202), (.ref b202)])
        obtain ⟨cl237, Ar237, cq237, hin237, hat237, set237⟩ := own_arv V234 (j := (8 : Int32)) ⟨by decide, by decide⟩
        obtain ⟨T238, h238, X238, e238, W238, st238⟩ := stC X234 hx hZ e234 Ar237 (j := (8 : Int32)) hin237 (g := (mkF m 147 #[.val (.int p1), .val (.int p2), .val (.int p3), .val (.int p4), .val (.int f), .val (.int va), .val (.int vb), .val (.int kk), .unset, .unset, .unset, .unset] [(.int (105 : Int32)), (.int (8 : Int32)), (.ref b202), (.ref b202)])) rfl rfl (hb hby at_147)
        have wq238 : nar .char (105 : Int32) = (105 : Int32) := rfl
        rw [wq238] at W238
        have wf238 : fits .char (.int (105 : Int32)) = true := wq238 ▸ (fits_nar_char _)
        have V238 : Arv Z h238 b202 k202 .char (12 : Int32) [(.int va), (.int (107 : Int32)), (.int (101 : Int32)), (.int (101 : Int32)), (.int (112 : Int32)), (.int (45 : Int32)), (.int (97 : Int32)), (.int (108 : Int32)), (.int (105 : Int32)), (.int (0 : Int32)), (.int (0 : Int32)), (.int (0 : Int32))] (.int (0 : Int32)) := set237 wf238 W238 8 rfl (Nat.le_of_ble_eq_true rfl)
        have N238 := Fr.snoc X238 N234 og_b202
        have K239 := K235.wr W238 (Or.inr sz_b202)
        have Z238 : n0 ≤ h238.size := Nat.le_trans Z234 (Keep.of_wr W238).1
        have kz240 : _ ≤ h238.size := Nat.le_trans kz236 (Keep.of_wr W238).1
        refine own_by st238 ?_
        show own_Go p e below _ T238 (mkF m 148 #[.val (.int p1), .val (.int p2), .val (.int p3), .val (.int p4), .val (.int f), .val (.int va), .val (.int vb), .val (.int kk), .unset, .unset, .unset, .unset] [(.ref b202)])
        refine own_by (fun _ k => XS.dup X238.here hx rfl (hb hby at_148) rfl rfl k) ?_
        show own_Go p e below _ T238 (mkF m 149 #[.val (.int p1), .val (.int p2), .val (.int p3), .val (.int p4), .val (.int f), .val (.int va), .val (.int vb), .val (.int kk), .unset, .unset, .unset, .unset] [(.ref b202), (.ref b202)])
        refine own_by (fun _ k => XS.bipush X238.here hx rfl (hb hby at_149) k) ?_
        show own_Go p e below _ T238 (mkF m 151 #[.val (.int p1), .val (.int p2), .val (.int p3), .val (.int p4), .val (.int f), .val (.int va), .val (.int vb), .val (.int kk), .unset, .unset, .unset, .unset] [(.int (9 : Int32)), (.ref b202), (.ref b202)])
        refine own_by (fun _ k => XS.bipush X238.here hx rfl (hb hby at_151) k) ?_
        show own_Go p e below _ T238 (mkF m 153 #[.val (.int p1), .val (.int p2), .val (.int p3), .val (.int p4), .val (.int f), .val (.int va), .val (.int vb), .val (.int kk), .unset, .unset, .unset, .unset] [(.int (118 : Int32)), (.int (9 : Int32)), (.ref b202), (.ref b202)])
        obtain ⟨cl241, Ar241, cq241, hin241, hat241, set241⟩ := own_arv V238 (j := (9 : Int32)) ⟨by decide, by decide⟩
        obtain ⟨T242, h242, X242, e242, W242, st242⟩ := stC X238 hx hZ e238 Ar241 (j := (9 : Int32)) hin241 (g := (mkF m 153 #[.val (.int p1), .val (.int p2), .val (.int p3), .val (.int p4), .val (.int f), .val (.int va), .val (.int vb), .val (.int kk), .unset, .unset, .unset, .unset] [(.int (118 : Int32)), (.int (9 : Int32)), (.ref b202), (.ref b202)])) rfl rfl (hb hby at_153)
        have wq242 : nar .char (118 : Int32) = (118 : Int32) := rfl
        rw [wq242] at W242
        have wf242 : fits .char (.int (118 : Int32)) = true := wq242 ▸ (fits_nar_char _)
        have V242 : Arv Z h242 b202 k202 .char (12 : Int32) [(.int va), (.int (107 : Int32)), (.int (101 : Int32)), (.int (101 : Int32)), (.int (112 : Int32)), (.int (45 : Int32)), (.int (97 : Int32)), (.int (108 : Int32)), (.int (105 : Int32)), (.int (118 : Int32)), (.int (0 : Int32)), (.int (0 : Int32))] (.int (0 : Int32)) := set241 wf242 W242 9 rfl (Nat.le_of_ble_eq_true rfl)
        have N242 := Fr.snoc X242 N238 og_b202
        have K243 := K239.wr W242 (Or.inr sz_b202)
        have Z242 : n0 ≤ h242.size := Nat.le_trans Z238 (Keep.of_wr W242).1
        have kz244 : _ ≤ h242.size := Nat.le_trans kz240 (Keep.of_wr W242).1
        refine own_by st242 ?_
        show own_Go p e below _ T242 (mkF m 154 #[.val (.int p1), .val (.int p2), .val (.int p3), .val (.int p4), .val (.int f), .val (.int va), .val (.int vb), .val (.int kk), .unset, .unset, .unset, .unset] [(.ref b202)])
        refine own_by (fun _ k => XS.dup X242.here hx rfl (hb hby at_154) rfl rfl k) ?_
        show own_Go p e below _ T242 (mkF m 155 #[.val (.int p1), .val (.int p2), .val (.int p3), .val (.int p4), .val (.int f), .val (.int va), .val (.int vb), .val (.int kk), .unset, .unset, .unset, .unset] [(.ref b202), (.ref b202)])
        refine own_by (fun _ k => XS.bipush X242.here hx rfl (hb hby at_155) k) ?_
        show own_Go p e below _ T242 (mkF m 157 #[.val (.int p1), .val (.int p2), .val (.int p3), .val (.int p4), .val (.int f), .val (.int va), .val (.int vb), .val (.int kk), .unset, .unset, .unset, .unset] [(.int (10 : Int32)), (.ref b202), (.ref b202)])
        refine own_by (fun _ k => XS.bipush X242.here hx rfl (hb hby at_157) k) ?_
        show own_Go p e below _ T242 (mkF m 159 #[.val (.int p1), .val (.int p2), .val (.int p3), .val (.int p4), .val (.int f), .val (.int va), .val (.int vb), .val (.int kk), .unset, .unset, .unset, .unset] [(.int (101 : Int32)), (.int (10 : Int32)), (.ref b202), (.ref b202)])
        obtain ⟨cl245, Ar245, cq245, hin245, hat245, set245⟩ := own_arv V242 (j := (10 : Int32)) ⟨by decide, by decide⟩
        obtain ⟨T246, h246, X246, e246, W246, st246⟩ := stC X242 hx hZ e242 Ar245 (j := (10 : Int32)) hin245 (g := (mkF m 159 #[.val (.int p1), .val (.int p2), .val (.int p3), .val (.int p4), .val (.int f), .val (.int va), .val (.int vb), .val (.int kk), .unset, .unset, .unset, .unset] [(.int (101 : Int32)), (.int (10 : Int32)), (.ref b202), (.ref b202)])) rfl rfl (hb hby at_159)
        have wq246 : nar .char (101 : Int32) = (101 : Int32) := rfl
        rw [wq246] at W246
        have wf246 : fits .char (.int (101 : Int32)) = true := wq246 ▸ (fits_nar_char _)
        have V246 : Arv Z h246 b202 k202 .char (12 : Int32) [(.int va), (.int (107 : Int32)), (.int (101 : Int32)), (.int (101 : Int32)), (.int (112 : Int32)), (.int (45 : Int32)), (.int (97 : Int32)), (.int (108 : Int32)), (.int (105 : Int32)), (.int (118 : Int32)), (.int (101 : Int32)), (.int (0 : Int32))] (.int (0 : Int32)) := set245 wf246 W246 10 rfl (Nat.le_of_ble_eq_true rfl)
        have N246 := Fr.snoc X246 N242 og_b202
        have K247 := K243.wr W246 (Or.inr sz_b202)
        have Z246 : n0 ≤ h246.size := Nat.le_trans Z242 (Keep.of_wr W246).1
        have kz248 : _ ≤ h246.size := Nat.le_trans kz244 (Keep.of_wr W246).1
        refine own_by st246 ?_
        show own_Go p e below _ T246 (mkF m 160 #[.val (.int p1), .val (.int p2), .val (.int p3), .val (.int p4), .val (.int f), .val (.int va), .val (.int vb), .val (.int kk), .unset, .unset, .unset, .unset] [(.ref b202)])
        refine own_by (fun _ k => XS.dup X246.here hx rfl (hb hby at_160) rfl rfl k) ?_
        show own_Go p e below _ T246 (mkF m 161 #[.val (.int p1), .val (.int p2), .val (.int p3), .val (.int p4), .val (.int f), .val (.int va), .val (.int vb), .val (.int kk), .unset, .unset, .unset, .unset] [(.ref b202), (.ref b202)])
        refine own_by (fun _ k => XS.bipush X246.here hx rfl (hb hby at_161) k) ?_
        show own_Go p e below _ T246 (mkF m 163 #[.val (.int p1), .val (.int p2), .val (.int p3), .val (.int p4), .val (.int f), .val (.int va), .val (.int vb), .val (.int kk), .unset, .unset, .unset, .unset] [(.int (11 : Int32)), (.ref b202), (.ref b202)])
        refine own_by (fun _ k => XS.iload X246.here hx rfl (hb hby at_163) rfl k) ?_
        show own_Go p e below _ T246 (mkF m 165 #[.val (.int p1), .val (.int p2), .val (.int p3), .val (.int p4), .val (.int f), .val (.int va), .val (.int vb), .val (.int kk), .unset, .unset, .unset, .unset] [(.int vb), (.int (11 : Int32)), (.ref b202), (.ref b202)])
        obtain ⟨cl249, Ar249, cq249, hin249, hat249, set249⟩ := own_arv V246 (j := (11 : Int32)) ⟨by decide, by decide⟩
        obtain ⟨T250, h250, X250, e250, W250, st250⟩ := stC X246 hx hZ e246 Ar249 (j := (11 : Int32)) hin249 (g := (mkF m 165 #[.val (.int p1), .val (.int p2), .val (.int p3), .val (.int p4), .val (.int f), .val (.int va), .val (.int vb), .val (.int kk), .unset, .unset, .unset, .unset] [(.int vb), (.int (11 : Int32)), (.ref b202), (.ref b202)])) rfl rfl (hb hby at_165)
        have wq250 : nar .char vb = vb := hvb.1
        rw [wq250] at W250
        have wf250 : fits .char (.int vb) = true := wq250 ▸ (fits_nar_char _)
        have V250 : Arv Z h250 b202 k202 .char (12 : Int32) [(.int va), (.int (107 : Int32)), (.int (101 : Int32)), (.int (101 : Int32)), (.int (112 : Int32)), (.int (45 : Int32)), (.int (97 : Int32)), (.int (108 : Int32)), (.int (105 : Int32)), (.int (118 : Int32)), (.int (101 : Int32)), (.int vb)] (.int (0 : Int32)) := set249 wf250 W250 11 rfl (Nat.le_of_ble_eq_true rfl)
        have N250 := Fr.snoc X250 N246 og_b202
        have K251 := K247.wr W250 (Or.inr sz_b202)
        have Z250 : n0 ≤ h250.size := Nat.le_trans Z246 (Keep.of_wr W250).1
        have kz252 : _ ≤ h250.size := Nat.le_trans kz248 (Keep.of_wr W250).1
        refine own_by st250 ?_
        show own_Go p e below _ T250 (mkF m 166 #[.val (.int p1), .val (.int p2), .val (.int p3), .val (.int p4), .val (.int f), .val (.int va), .val (.int vb), .val (.int kk), .unset, .unset, .unset, .unset] [(.ref b202)])
        refine own_by (fun _ k => XS.astore X250.here hx rfl (hb hby at_166) rfl rfl (l' := #[.val (.int p1), .val (.int p2), .val (.int p3), .val (.int p4), .val (.int f), .val (.int va), .val (.int vb), .val (.int kk), .val (.ref b202), .unset, .unset, .unset]) rfl k) ?_
        show own_Go p e below _ T250 (mkF m 168 #[.val (.int p1), .val (.int p2), .val (.int p3), .val (.int p4), .val (.int f), .val (.int va), .val (.int vb), .val (.int kk), .val (.ref b202), .unset, .unset, .unset] [])
        refine own_by (fun _ k => XS.iconst X250.here hx rfl (hb hby at_168) k) ?_
        show own_Go p e below _ T250 (mkF m 169 #[.val (.int p1), .val (.int p2), .val (.int p3), .val (.int p4), .val (.int f), .val (.int va), .val (.int vb), .val (.int kk), .val (.ref b202), .unset, .unset, .unset] [(.int (1 : Int32))])
        refine own_by (fun _ k => XS.istore X250.here hx rfl (hb hby at_169) rfl (l' := #[.val (.int p1), .val (.int p2), .val (.int p3), .val (.int p4), .val (.int f), .val (.int va), .val (.int vb), .val (.int kk), .val (.ref b202), .val (.int (1 : Int32)), .unset, .unset]) rfl k) ?_
        show own_Go p e below _ T250 (mkF m 171 #[.val (.int p1), .val (.int p2), .val (.int p3), .val (.int p4), .val (.int f), .val (.int va), .val (.int vb), .val (.int kk), .val (.ref b202), .val (.int (1 : Int32)), .unset, .unset] [])
        refine own_by (fun _ k => XS.iconst X250.here hx rfl (hb hby at_171) k) ?_
        show own_Go p e below _ T250 (mkF m 172 #[.val (.int p1), .val (.int p2), .val (.int p3), .val (.int p4), .val (.int f), .val (.int va), .val (.int vb), .val (.int kk), .val (.ref b202), .val (.int (1 : Int32)), .unset, .unset] [(.int (0 : Int32))])
        refine own_by (fun _ k => XS.istore X250.here hx rfl (hb hby at_172) rfl (l' := #[.val (.int p1), .val (.int p2), .val (.int p3), .val (.int p4), .val (.int f), .val (.int va), .val (.int vb), .val (.int kk), .val (.ref b202), .val (.int (1 : Int32)), .val (.int (0 : Int32)), .unset]) rfl k) ?_
        show own_Go p e below _ T250 (mkF m 174 #[.val (.int p1), .val (.int p2), .val (.int p3), .val (.int p4), .val (.int f), .val (.int va), .val (.int vb), .val (.int kk), .val (.ref b202), .val (.int (1 : Int32)), .val (.int (0 : Int32)), .unset] [])
        refine own_by (fun _ k => XS.goto X250.here hx rfl (pc0 := 174) (pc' := 758) rfl (hb hby at_174) (by decide) (by decide) k) ?_
        show own_Go p e below _ T250 (mkF m 758 #[.val (.int p1), .val (.int p2), .val (.int p3), .val (.int p4), .val (.int f), .val (.int va), .val (.int vb), .val (.int kk), .val (.ref b202), .val (.int (1 : Int32)), .val (.int (0 : Int32)), .unset] [])
        exact J758 T250 _ h250 (X250.more (Nat.le_refl _) (by decide)) e250 N250 K251 b202 _ [va, 107, 101, 101, 112, 45, 97, 108, 105, 118, 101, vb] _ _ og_b202 ⟨by simp, by simp⟩ (by intro c hc; simp only [List.mem_cons, List.not_mem_nil, or_false] at hc; rcases hc with rfl | rfl | rfl | rfl | rfl | rfl | rfl | rfl | rfl | rfl | rfl | rfl <;> first | exact hva | exact hvb | (unfold own_ch; decide)) (by rw [own_keep1 va vb]; rfl) (by rw [own_close1 va vb]; rfl) V250
      · refine own_by (fun _ k => XS.icmpYes X159.here hx rfl (pc0 := 93) (pc' := 177) rfl (hb hby at_93) rfl (feq (hk1 : ¬ (kk = (1 : Int32)))).2 (by decide) (by decide) k) ?_
        show own_Go p e below _ T159 (mkF m 177 #[.val (.int p1), .val (.int p2), .val (.int p3), .val (.int p4), .val (.int f), .val (.int va), .val (.int vb), .val (.int kk), .unset, .unset, .unset, .unset] [])
        refine own_by (fun _ k => XS.iload X159.here hx rfl (hb hby at_177) rfl k) ?_
        show own_Go p e below _ T159 (mkF m 179 #[.val (.int p1), .val (.int p2), .val (.int p3), .val (.int p4), .val (.int f), .val (.int va), .val (.int vb), .val (.int kk), .unset, .unset, .unset, .unset] [(.int kk)])
        refine own_by (fun _ k => XS.iconst X159.here hx rfl (hb hby at_179) k) ?_
        show own_Go p e below _ T159 (mkF m 180 #[.val (.int p1), .val (.int p2), .val (.int p3), .val (.int p4), .val (.int f), .val (.int va), .val (.int vb), .val (.int kk), .unset, .unset, .unset, .unset] [(.int (2 : Int32)), (.int kk)])
        by_cases hk2 : kk = (2 : Int32)
        · refine own_by (fun _ k => XS.icmpNo X159.here hx rfl (hb hby at_180) rfl (teq (hk2 : kk = (2 : Int32))).2 k) ?_
          show own_Go p e below _ T159 (mkF m 183 #[.val (.int p1), .val (.int p2), .val (.int p3), .val (.int p4), .val (.int f), .val (.int va), .val (.int vb), .val (.int kk), .unset, .unset, .unset, .unset] [])
          refine own_by (fun _ k => XS.bipush X159.here hx rfl (hb hby at_183) k) ?_
          show own_Go p e below _ T159 (mkF m 185 #[.val (.int p1), .val (.int p2), .val (.int p3), .val (.int p4), .val (.int f), .val (.int va), .val (.int vb), .val (.int kk), .unset, .unset, .unset, .unset] [(.int (16 : Int32))])
          obtain ⟨T253, h253, k253, X253, e253, E253, A253, C253, st253⟩ := newPE X159 hx hZ (hw _ (List.mem_of_getElem? (i := 5) rfl)) e159 (g := (mkF m 185 #[.val (.int p1), .val (.int p2), .val (.int p3), .val (.int p4), .val (.int f), .val (.int va), .val (.int vb), .val (.int kk), .unset, .unset, .unset, .unset] [(.int (16 : Int32))])) rfl (hb hby at_185) rfl (by decide) (cap := 16) (by decide) (by decide) (by decide) (by decide) (ad := "[C") (by decide)
          obtain ⟨b253, g253⟩ : ∃ zq, zq = h0.size := ⟨_, rfl⟩
          rw [← g253] at A253 C253 st253
          have og_b253 : n0 ≤ b253 := Nat.le_trans Z0 (Nat.le_of_eq g253.symm)
          have sz_b253 : h0.size ≤ b253 := Nat.le_trans K0.1 (Nat.le_of_eq g253.symm)
          have Z253 : n0 ≤ h253.size := Nat.le_trans Z0 E253.1
          have kz254 : _ ≤ h253.size := Nat.le_trans kz0 E253.1
          have K255 := K0.ext E253
          have V253 : Arv Z h253 b253 k253 .char (16 : Int32) [(.int (0 : Int32)), (.int (0 : Int32)), (.int (0 : Int32)), (.int (0 : Int32)), (.int (0 : Int32)), (.int (0 : Int32)), (.int (0 : Int32)), (.int (0 : Int32)), (.int (0 : Int32)), (.int (0 : Int32)), (.int (0 : Int32)), (.int (0 : Int32)), (.int (0 : Int32)), (.int (0 : Int32)), (.int (0 : Int32)), (.int (0 : Int32))] (.int (0 : Int32)) := (Arv.new A253 (by decide)).pad (pad_rep [] (.int (0 : Int32)) 16)
          refine own_by st253 ?_
          show own_Go p e below _ T253 (mkF m 187 #[.val (.int p1), .val (.int p2), .val (.int p3), .val (.int p4), .val (.int f), .val (.int va), .val (.int vb), .val (.int kk), .unset, .unset, .unset, .unset] [(.ref b253)])
          refine own_by (fun _ k => XS.dup X253.here hx rfl (hb hby at_187) rfl rfl k) ?_
          show own_Go p e below _ T253 (mkF m 188 #[.val (.int p1), .val (.int p2), .val (.int p3), .val (.int p4), .val (.int f), .val (.int va), .val (.int vb), .val (.int kk), .unset, .unset, .unset, .unset] [(.ref b253), (.ref b253)])
          refine own_by (fun _ k => XS.iconst X253.here hx rfl (hb hby at_188) k) ?_
          show own_Go p e below _ T253 (mkF m 189 #[.val (.int p1), .val (.int p2), .val (.int p3), .val (.int p4), .val (.int f), .val (.int va), .val (.int vb), .val (.int kk), .unset, .unset, .unset, .unset] [(.int (0 : Int32)), (.ref b253), (.ref b253)])
          refine own_by (fun _ k => XS.bipush X253.here hx rfl (hb hby at_189) k) ?_
          show own_Go p e below _ T253 (mkF m 191 #[.val (.int p1), .val (.int p2), .val (.int p3), .val (.int p4), .val (.int f), .val (.int va), .val (.int vb), .val (.int kk), .unset, .unset, .unset, .unset] [(.int (107 : Int32)), (.int (0 : Int32)), (.ref b253), (.ref b253)])
          obtain ⟨cl256, Ar256, cq256, hin256, hat256, set256⟩ := own_arv V253 (j := (0 : Int32)) ⟨by decide, by decide⟩
          obtain ⟨T257, h257, X257, e257, W257, st257⟩ := stC X253 hx hZ e253 Ar256 (j := (0 : Int32)) hin256 (g := (mkF m 191 #[.val (.int p1), .val (.int p2), .val (.int p3), .val (.int p4), .val (.int f), .val (.int va), .val (.int vb), .val (.int kk), .unset, .unset, .unset, .unset] [(.int (107 : Int32)), (.int (0 : Int32)), (.ref b253), (.ref b253)])) rfl rfl (hb hby at_191)
          have wq257 : nar .char (107 : Int32) = (107 : Int32) := rfl
          rw [wq257] at W257
          have wf257 : fits .char (.int (107 : Int32)) = true := wq257 ▸ (fits_nar_char _)
          have V257 : Arv Z h257 b253 k253 .char (16 : Int32) [(.int (107 : Int32)), (.int (0 : Int32)), (.int (0 : Int32)), (.int (0 : Int32)), (.int (0 : Int32)), (.int (0 : Int32)), (.int (0 : Int32)), (.int (0 : Int32)), (.int (0 : Int32)), (.int (0 : Int32)), (.int (0 : Int32)), (.int (0 : Int32)), (.int (0 : Int32)), (.int (0 : Int32)), (.int (0 : Int32)), (.int (0 : Int32))] (.int (0 : Int32)) := set256 wf257 W257 0 rfl (Nat.le_of_ble_eq_true rfl)
          have N257 := Fr.snoc X257 N159 og_b253
          have K258 := K255.wr W257 (Or.inr sz_b253)
          have Z257 : n0 ≤ h257.size := Nat.le_trans Z253 (Keep.of_wr W257).1
          have kz259 : _ ≤ h257.size := Nat.le_trans kz254 (Keep.of_wr W257).1
          refine own_by st257 ?_
          show own_Go p e below _ T257 (mkF m 192 #[.val (.int p1), .val (.int p2), .val (.int p3), .val (.int p4), .val (.int f), .val (.int va), .val (.int vb), .val (.int kk), .unset, .unset, .unset, .unset] [(.ref b253)])
          refine own_by (fun _ k => XS.dup X257.here hx rfl (hb hby at_192) rfl rfl k) ?_
          show own_Go p e below _ T257 (mkF m 193 #[.val (.int p1), .val (.int p2), .val (.int p3), .val (.int p4), .val (.int f), .val (.int va), .val (.int vb), .val (.int kk), .unset, .unset, .unset, .unset] [(.ref b253), (.ref b253)])
          refine own_by (fun _ k => XS.iconst X257.here hx rfl (hb hby at_193) k) ?_
          show own_Go p e below _ T257 (mkF m 194 #[.val (.int p1), .val (.int p2), .val (.int p3), .val (.int p4), .val (.int f), .val (.int va), .val (.int vb), .val (.int kk), .unset, .unset, .unset, .unset] [(.int (1 : Int32)), (.ref b253), (.ref b253)])
          refine own_by (fun _ k => XS.bipush X257.here hx rfl (hb hby at_194) k) ?_
          show own_Go p e below _ T257 (mkF m 196 #[.val (.int p1), .val (.int p2), .val (.int p3), .val (.int p4), .val (.int f), .val (.int va), .val (.int vb), .val (.int kk), .unset, .unset, .unset, .unset] [(.int (101 : Int32)), (.int (1 : Int32)), (.ref b253), (.ref b253)])
          obtain ⟨cl260, Ar260, cq260, hin260, hat260, set260⟩ := own_arv V257 (j := (1 : Int32)) ⟨by decide, by decide⟩
          obtain ⟨T261, h261, X261, e261, W261, st261⟩ := stC X257 hx hZ e257 Ar260 (j := (1 : Int32)) hin260 (g := (mkF m 196 #[.val (.int p1), .val (.int p2), .val (.int p3), .val (.int p4), .val (.int f), .val (.int va), .val (.int vb), .val (.int kk), .unset, .unset, .unset, .unset] [(.int (101 : Int32)), (.int (1 : Int32)), (.ref b253), (.ref b253)])) rfl rfl (hb hby at_196)
          have wq261 : nar .char (101 : Int32) = (101 : Int32) := rfl
          rw [wq261] at W261
          have wf261 : fits .char (.int (101 : Int32)) = true := wq261 ▸ (fits_nar_char _)
          have V261 : Arv Z h261 b253 k253 .char (16 : Int32) [(.int (107 : Int32)), (.int (101 : Int32)), (.int (0 : Int32)), (.int (0 : Int32)), (.int (0 : Int32)), (.int (0 : Int32)), (.int (0 : Int32)), (.int (0 : Int32)), (.int (0 : Int32)), (.int (0 : Int32)), (.int (0 : Int32)), (.int (0 : Int32)), (.int (0 : Int32)), (.int (0 : Int32)), (.int (0 : Int32)), (.int (0 : Int32))] (.int (0 : Int32)) := set260 wf261 W261 1 rfl (Nat.le_of_ble_eq_true rfl)
          have N261 := Fr.snoc X261 N257 og_b253
          have K262 := K258.wr W261 (Or.inr sz_b253)
          have Z261 : n0 ≤ h261.size := Nat.le_trans Z257 (Keep.of_wr W261).1
          have kz263 : _ ≤ h261.size := Nat.le_trans kz259 (Keep.of_wr W261).1
          refine own_by st261 ?_
          show own_Go p e below _ T261 (mkF m 197 #[.val (.int p1), .val (.int p2), .val (.int p3), .val (.int p4), .val (.int f), .val (.int va), .val (.int vb), .val (.int kk), .unset, .unset, .unset, .unset] [(.ref b253)])
          refine own_by (fun _ k => XS.dup X261.here hx rfl (hb hby at_197) rfl rfl k) ?_
          show own_Go p e below _ T261 (mkF m 198 #[.val (.int p1), .val (.int p2), .val (.int p3), .val (.int p4), .val (.int f), .val (.int va), .val (.int vb), .val (.int kk), .unset, .unset, .unset, .unset] [(.ref b253), (.ref b253)])
          refine own_by (fun _ k => XS.iconst X261.here hx rfl (hb hby at_198) k) ?_
          show own_Go p e below _ T261 (mkF m 199 #[.val (.int p1), .val (.int p2), .val (.int p3), .val (.int p4), .val (.int f), .val (.int va), .val (.int vb), .val (.int kk), .unset, .unset, .unset, .unset] [(.int (2 : Int32)), (.ref b253), (.ref b253)])
          refine own_by (fun _ k => XS.bipush X261.here hx rfl (hb hby at_199) k) ?_
          show own_Go p e below _ T261 (mkF m 201 #[.val (.int p1), .val (.int p2), .val (.int p3), .val (.int p4), .val (.int f), .val (.int va), .val (.int vb), .val (.int kk), .unset, .unset, .unset, .unset] [(.int (101 : Int32)), (.int (2 : Int32)), (.ref b253), (.ref b253)])
          obtain ⟨cl264, Ar264, cq264, hin264, hat264, set264⟩ := own_arv V261 (j := (2 : Int32)) ⟨by decide, by decide⟩
          obtain ⟨T265, h265, X265, e265, W265, st265⟩ := stC X261 hx hZ e261 Ar264 (j := (2 : Int32)) hin264 (g := (mkF m 201 #[.val (.int p1), .val (.int p2), .val (.int p3), .val (.int p4), .val (.int f), .val (.int va), .val (.int vb), .val (.int kk), .unset, .unset, .unset, .unset] [(.int (101 : Int32)), (.int (2 : Int32)), (.ref b253), (.ref b253)])) rfl rfl (hb hby at_201)
          have wq265 : nar .char (101 : Int32) = (101 : Int32) := rfl
          rw [wq265] at W265
          have wf265 : fits .char (.int (101 : Int32)) = true := wq265 ▸ (fits_nar_char _)
          have V265 : Arv Z h265 b253 k253 .char (16 : Int32) [(.int (107 : Int32)), (.int (101 : Int32)), (.int (101 : Int32)), (.int (0 : Int32)), (.int (0 : Int32)), (.int (0 : Int32)), (.int (0 : Int32)), (.int (0 : Int32)), (.int (0 : Int32)), (.int (0 : Int32)), (.int (0 : Int32)), (.int (0 : Int32)), (.int (0 : Int32)), (.int (0 : Int32)), (.int (0 : Int32)), (.int (0 : Int32))] (.int (0 : Int32)) := set264 wf265 W265 2 rfl (Nat.le_of_ble_eq_true rfl)
          have N265 := Fr.snoc X265 N261 og_b253
          have K266 := K262.wr W265 (Or.inr sz_b253)
          have Z265 : n0 ≤ h265.size := Nat.le_trans Z261 (Keep.of_wr W265).1
          have kz267 : _ ≤ h265.size := Nat.le_trans kz263 (Keep.of_wr W265).1
          refine own_by st265 ?_
          show own_Go p e below _ T265 (mkF m 202 #[.val (.int p1), .val (.int p2), .val (.int p3), .val (.int p4), .val (.int f), .val (.int va), .val (.int vb), .val (.int kk), .unset, .unset, .unset, .unset] [(.ref b253)])
          refine own_by (fun _ k => XS.dup X265.here hx rfl (hb hby at_202) rfl rfl k) ?_
          show own_Go p e below _ T265 (mkF m 203 #[.val (.int p1), .val (.int p2), .val (.int p3), .val (.int p4), .val (.int f), .val (.int va), .val (.int vb), .val (.int kk), .unset, .unset, .unset, .unset] [(.ref b253), (.ref b253)])
          refine own_by (fun _ k => XS.iconst X265.here hx rfl (hb hby at_203) k) ?_
          show own_Go p e below _ T265 (mkF m 204 #[.val (.int p1), .val (.int p2), .val (.int p3), .val (.int p4), .val (.int f), .val (.int va), .val (.int vb), .val (.int kk), .unset, .unset, .unset, .unset] [(.int (3 : Int32)), (.ref b253), (.ref b253)])
          refine own_by (fun _ k => XS.bipush X265.here hx rfl (hb hby at_204) k) ?_
          show own_Go p e below _ T265 (mkF m 206 #[.val (.int p1), .val (.int p2), .val (.int p3), .val (.int p4), .val (.int f), .val (.int va), .val (.int vb), .val (.int kk), .unset, .unset, .unset, .unset] [(.int (112 : Int32)), (.int (3 : Int32)), (.ref b253), (.ref b253)])
          obtain ⟨cl268, Ar268, cq268, hin268, hat268, set268⟩ := own_arv V265 (j := (3 : Int32)) ⟨by decide, by decide⟩
          obtain ⟨T269, h269, X269, e269, W269, st269⟩ := stC X265 hx hZ e265 Ar268 (j := (3 : Int32)) hin268 (g := (mkF m 206 #[.val (.int p1), .val (.int p2), .val (.int p3), .val (.int p4), .val (.int f), .val (.int va), .val (.int vb), .val (.int kk), .unset, .unset, .unset, .unset] [(.int (112 : Int32)), (.int (3 : Int32)), (.ref b253), (.ref b253)])) rfl rfl (hb hby at_206)
          have wq269 : nar .char (112 : Int32) = (112 : Int32) := rfl
          rw [wq269] at W269
          have wf269 : fits .char (.int (112 : Int32)) = true := wq269 ▸ (fits_nar_char _)
          have V269 : Arv Z h269 b253 k253 .char (16 : Int32) [(.int (107 : Int32)), (.int (101 : Int32)), (.int (101 : Int32)), (.int (112 : Int32)), (.int (0 : Int32)), (.int (0 : Int32)), (.int (0 : Int32)), (.int (0 : Int32)), (.int (0 : Int32)), (.int (0 : Int32)), (.int (0 : Int32)), (.int (0 : Int32)), (.int (0 : Int32)), (.int (0 : Int32)), (.int (0 : Int32)), (.int (0 : Int32))] (.int (0 : Int32)) := set268 wf269 W269 3 rfl (Nat.le_of_ble_eq_true rfl)
          have N269 := Fr.snoc X269 N265 og_b253
          have K270 := K266.wr W269 (Or.inr sz_b253)
          have Z269 : n0 ≤ h269.size := Nat.le_trans Z265 (Keep.of_wr W269).1
          have kz271 : _ ≤ h269.size := Nat.le_trans kz267 (Keep.of_wr W269).1
          refine own_by st269 ?_
          show own_Go p e below _ T269 (mkF m 207 #[.val (.int p1), .val (.int p2), .val (.int p3), .val (.int p4), .val (.int f), .val (.int va), .val (.int vb), .val (.int kk), .unset, .unset, .unset, .unset] [(.ref b253)])
          refine own_by (fun _ k => XS.dup X269.here hx rfl (hb hby at_207) rfl rfl k) ?_
          show own_Go p e below _ T269 (mkF m 208 #[.val (.int p1), .val (.int p2), .val (.int p3), .val (.int p4), .val (.int f), .val (.int va), .val (.int vb), .val (.int kk), .unset, .unset, .unset, .unset] [(.ref b253), (.ref b253)])
          refine own_by (fun _ k => XS.iconst X269.here hx rfl (hb hby at_208) k) ?_
          show own_Go p e below _ T269 (mkF m 209 #[.val (.int p1), .val (.int p2), .val (.int p3), .val (.int p4), .val (.int f), .val (.int va), .val (.int vb), .val (.int kk), .unset, .unset, .unset, .unset] [(.int (4 : Int32)), (.ref b253), (.ref b253)])
          refine own_by (fun _ k => XS.bipush X269.here hx rfl (hb hby at_209) k) ?_
          show own_Go p e below _ T269 (mkF m 211 #[.val (.int p1), .val (.int p2), .val (.int p3), .val (.int p4), .val (.int f), .val (.int va), .val (.int vb), .val (.int kk), .unset, .unset, .unset, .unset] [(.int (45 : Int32)), (.int (4 : Int32)), (.ref b253), (.ref b253)])
          obtain ⟨cl272, Ar272, cq272, hin272, hat272, set272⟩ := own_arv V269 (j := (4 : Int32)) ⟨by decide, by decide⟩
          obtain ⟨T273, h273, X273, e273, W273, st273⟩ := stC X269 hx hZ e269 Ar272 (j := (4 : Int32)) hin272 (g := (mkF m 211 #[.val (.int p1), .val (.int p2), .val (.int p3), .val (.int p4), .val (.int f), .val (.int va), .val (.int vb), .val (.int kk), .unset, .unset, .unset, .unset] [(.int (45 : Int32)), (.int (4 : Int32)), (.ref b253), (.ref b253)])) rfl rfl (hb hby at_211)
          have wq273 : nar .char (45 : Int32) = (45 : Int32) := rfl
          rw [wq273] at W273
          have wf273 : fits .char (.int (45 : Int32)) = true := wq273 ▸ (fits_nar_char _)
          have V273 : Arv Z h273 b253 k253 .char (16 : Int32) [(.int (107 : Int32)), (.int (101 : Int32)), (.int (101 : Int32)), (.int (112 : Int32)), (.int (45 : Int32)), (.int (0 : Int32)), (.int (0 : Int32)), (.int (0 : Int32)), (.int (0 : Int32)), (.int (0 : Int32)), (.int (0 : Int32)), (.int (0 : Int32)), (.int (0 : Int32)), (.int (0 : Int32)), (.int (0 : Int32)), (.int (0 : Int32))] (.int (0 : Int32)) := set272 wf273 W273 4 rfl (Nat.le_of_ble_eq_true rfl)
          have N273 := Fr.snoc X273 N269 og_b253
          have K274 := K270.wr W273 (Or.inr sz_b253)
          have Z273 : n0 ≤ h273.size := Nat.le_trans Z269 (Keep.of_wr W273).1
          have kz275 : _ ≤ h273.size := Nat.le_trans kz271 (Keep.of_wr W273).1
          refine own_by st273 ?_
          show own_Go p e below _ T273 (mkF m 212 #[.val (.int p1), .val (.int p2), .val (.int p3), .val (.int p4), .val (.int f), .val (.int va), .val (.int vb), .val (.int kk), .unset, .unset, .unset, .unset] [(.ref b253)])
          refine own_by (fun _ k => XS.dup X273.here hx rfl (hb hby at_212) rfl rfl k) ?_
          show own_Go p e below _ T273 (mkF m 213 #[.val (.int p1), .val (.int p2), .val (.int p3), .val (.int p4), .val (.int f), .val (.int va), .val (.int vb), .val (.int kk), .unset, .unset, .unset, .unset] [(.ref b253), (.ref b253)])
          refine own_by (fun _ k => XS.iconst X273.here hx rfl (hb hby at_213) k) ?_
          show own_Go p e below _ T273 (mkF m 214 #[.val (.int p1), .val (.int p2), .val (.int p3), .val (.int p4), .val (.int f), .val (.int va), .val (.int vb), .val (.int kk), .unset, .unset, .unset, .unset] [(.int (5 : Int32)), (.ref b253), (.ref b253)])
          refine own_by (fun _ k => XS.bipush X273.here hx rfl (hb hby at_214) k) ?_
          show own_Go p e below _ T273 (mkF m 216 #[.val (.int p1), .val (.int p2), .val (.int p3), .val (.int p4), .val (.int f), .val (.int va), .val (.int vb), .val (.int kk), .unset, .unset, .unset, .unset] [(.int (97 : Int32)), (.int (5 : Int32)), (.ref b253), (.ref b253)])
          obtain ⟨cl276, Ar276, cq276, hin276, hat276, set276⟩ := own_arv V273 (j := (5 : Int32)) ⟨by decide, by decide⟩
          obtain ⟨T277, h277, X277, e277, W277, st277⟩ := stC X273 hx hZ e273 Ar276 (j := (5 : Int32)) hin276 (g := (mkF m 216 #[.val (.int p1), .val (.int p2), .val (.int p3), .val (.int p4), .val (.int f), .val (.int va), .val (.int vb), .val (.int kk), .unset, .unset, .unset, .unset] [(.int (97 : Int32)), (.int (5 : Int32)), (.ref b253), (.ref b253)])) rfl rfl (hb hby at_216)
          have wq277 : nar .char (97 : Int32) = (97 : Int32) := rfl
          rw [wq277] at W277
          have wf277 : fits .char (.int (97 : Int32)) = true := wq277 ▸ (fits_nar_char _)
          have V277 : Arv Z h277 b253 k253 .char (16 : Int32) [(.int (107 : Int32)), (.int (101 : Int32)), (.int (101 : Int32)), (.int (112 : Int32)), (.int (45 : Int32)), (.int (97 : Int32)), (.int (0 : Int32)), (.int (0 : Int32)), (.int (0 : Int32)), (.int (0 : Int32)), (.int (0 : Int32)), (.int (0 : Int32)), (.int (0 : Int32)), (.int (0 : Int32)), (.int (0 : Int32)), (.int (0 : Int32))] (.int (0 : Int32)) := set276 wf277 W277 5 rfl (Nat.le_of_ble_eq_true rfl)
          have N277 := Fr.snoc X277 N273 og_b253
          have K278 := K274.wr W277 (Or.inr sz_b253)
          have Z277 : n0 ≤ h277.size := Nat.le_trans Z273 (Keep.of_wr W277).1
          have kz279 : _ ≤ h277.size := Nat.le_trans kz275 (Keep.of_wr W277).1
          refine own_by st277 ?_
          show own_Go p e below _ T277 (mkF m 217 #[.val (.int p1), .val (.int p2), .val (.int p3), .val (.int p4), .val (.int f), .val (.int va), .val (.int vb), .val (.int kk), .unset, .unset, .unset, .unset] [(.ref b253)])
          refine own_by (fun _ k => XS.dup X277.here hx rfl (hb hby at_217) rfl rfl k) ?_
          show own_Go p e below _ T277 (mkF m 218 #[.val (.int p1), .val (.int p2), .val (.int p3), .val (.int p4), .val (.int f), .val (.int va), .val (.int vb), .val (.int kk), .unset, .unset, .unset, .unset] [(.ref b253), (.ref b253)])
          refine own_by (fun _ k => XS.bipush X277.here hx rfl (hb hby at_218) k) ?_
          show own_Go p e below _ T277 (mkF m 220 #[.val (.int p1), .val (.int p2), .val (.int p3), .val (.int p4), .val (.int f), .val (.int va), .val (.int vb), .val (.int kk), .unset, .unset, .unset, .unset] [(.int (6 : Int32)), (.ref b253), (.ref b253)])
          refine own_by (fun _ k => XS.bipush X277.here hx rfl (hb hby at_220) k) ?_
          show own_Go p e below _ T277 (mkF m 222 #[.val (.int p1), .val (.int p2), .val (.int p3), .val (.int p4), .val (.int f), .val (.int va), .val (.int vb), .val (.int kk), .unset, .unset, .unset, .unset] [(.int (108 : Int32)), (.int (6 : Int32)), (.ref b253), (.ref b253)])
          obtain ⟨cl280, Ar280, cq280, hin280, hat280, set280⟩ := own_arv V277 (j := (6 : Int32)) ⟨by decide, by decide⟩
          obtain ⟨T281, h281, X281, e281, W281, st281⟩ := stC X277 hx hZ e277 Ar280 (j := (6 : Int32)) hin280 (g := (mkF m 222 #[.val (.int p1), .val (.int p2), .val (.int p3), .val (.int p4), .val (.int f), .val (.int va), .val (.int vb), .val (.int kk), .unset, .unset, .unset, .unset] [(.int (108 : Int32)), (.int (6 : Int32)), (.ref b253), (.ref b253)])) rfl rfl (hb hby at_222)
          have wq281 : nar .char (108 : Int32) = (108 : Int32) := rfl
          rw [wq281] at W281
          have wf281 : fits .char (.int (108 : Int32)) = true := wq281 ▸ (fits_nar_char _)
          have V281 : Arv Z h281 b253 k253 .char (16 : Int32) [(.int (107 : Int32)), (.int (101 : Int32)), (.int (101 : Int32)), (.int (112 : Int32)), (.int (45 : Int32)), (.int (97 : Int32)), (.int (108 : Int32)), (.int (0 : Int32)), (.int (0 : Int32)), (.int (0 : Int32)), (.int (0 : Int32)), (.int (0 : Int32)), (.int (0 : Int32)), (.int (0 : Int32)), (.int (0 : Int32)), (.int (0 : Int32))] (.int (0 : Int32)) := set280 wf281 W281 6 rfl (Nat.le_of_ble_eq_true rfl)
          have N281 := Fr.snoc X281 N277 og_b253
          have K282 := K278.wr W281 (Or.inr sz_b253)
          have Z281 : n0 ≤ h281.size := Nat.le_trans Z277 (Keep.of_wr W281).1
          have kz283 : _ ≤ h281.size := Nat.le_trans kz279 (Keep.of_wr W281).1
          refine own_by st281 ?_
          show own_Go p e below _ T281 (mkF m 223 #[.val (.int p1), .val (.int p2), .val (.int p3), .val (.int p4), .val (.int f), .val (.int va), .val (.int vb), .val (.int kk), .unset, .unset, .unset, .unset] [(.ref b253)])
          refine own_by (fun _ k => XS.dup X281.here hx rfl (hb hby at_223) rfl rfl k) ?_
          show own_Go p e below _ T281 (mkF m 224 #[.val (.int p1), .val (.int p2), .val (.int p3), .val (.int p4), .val (.int f), .val (.int va), .val (.int vb), .val (.int kk), .unset, .unset, .unset, .unset] [(.ref b253), (.ref b253)])
          refine own_by (fun _ k => XS.bipush X281.here hx rfl (hb hby at_224) k) ?_
          show own_Go p e below _ T281 (mkF m 226 #[.val (.int p1), .val (.int p2), .val (.int p3), .val (.int p4), .val (.int f), .val (.int va), .val (.int vb), .val (.int kk), .unset, .unset, .unset, .unset] [(.int (7 : Int32)), (.ref b253), (.ref b253)])
          refine own_by (fun _ k => XS.bipush X281.here hx rfl (hb hby at_226) k) ?_
          show own_Go p e below _ T281 (mkF m 228 #[.val (.int p1), .val (.int p2), .val (.int p3), .val (.int p4), .val (.int f), .val (.int va), .val (.int vb), .val (.int kk), .unset, .unset, .unset, .unset] [(.int (105 : Int32)), (.int (7 : Int32)), (.ref b253), (.ref b253)])
          obtain ⟨cl284, Ar284, cq284, hin284, hat284, set284⟩ := own_arv V281 (j := (7 : Int32)) ⟨by decide, by decide⟩
          obtain ⟨T285, h285, X285, e285, W285, st285⟩ := stC X281 hx hZ e281 Ar284 (j := (7 : Int32)) hin284 (g := (mkF m 228 #[.val (.int p1), .val (.int p2), .val (.int p3), .val (.int p4), .val (.int f), .val (.int va), .val (.int vb), .val (.int kk), .unset, .unset, .unset, .unset] [(.int (105 : Int32)), (.int (7 : Int32)), (.ref b253), (.ref b253)])) rfl rfl (hb hby at_228)
          have wq285 : nar .char (105 : Int32) = (105 : Int32) := rfl
          rw [wq285] at W285
          have wf285 : fits .char (.int (105 : Int32)) = true := wq285 ▸ (fits_nar_char _)
          have V285 : Arv Z h285 b253 k253 .char (16 : Int32) [(.int (107 : Int32)), (.int (101 : Int32)), (.int (101 : Int32)), (.int (112 : Int32)), (.int (45 : Int32)), (.int (97 : Int32)), (.int (108 : Int32)), (.int (105 : Int32)), (.int (0 : Int32)), (.int (0 : Int32)), (.int (0 : Int32)), (.int (0 : Int32)), (.int (0 : Int32)), (.int (0 : Int32)), (.int (0 : Int32)), (.int (0 : Int32))] (.int (0 : Int32)) := set284 wf285 W285 7 rfl (Nat.le_of_ble_eq_true rfl)
          have N285 := Fr.snoc X285 N281 og_b253
          have K286 := K282.wr W285 (Or.inr sz_b253)
          have Z285 : n0 ≤ h285.size := Nat.le_trans Z281 (Keep.of_wr W285).1
          have kz287 : _ ≤ h285.size := Nat.le_trans kz283 (Keep.of_wr W285).1
          refine own_by st285 ?_
          show own_Go p e below _ T285 (mkF m 229 #[.val (.int p1), .val (.int p2), .val (.int p3), .val (.int p4), .val (.int f), .val (.int va), .val (.int vb), .val (.int kk), .unset, .unset, .unset, .unset] [(.ref b253)])
          refine own_by (fun _ k => XS.dup X285.here hx rfl (hb hby at_229) rfl rfl k) ?_
          show own_Go p e below _ T285 (mkF m 230 #[.val (.int p1), .val (.int p2), .val (.int p3), .val (.int p4), .val (.int f), .val (.int va), .val (.int vb), .val (.int kk), .unset, .unset, .unset, .unset] [(.ref b253), (.ref b253)])
          refine own_by (fun _ k => XS.bipush X285.here hx rfl (hb hby at_230) k) ?_
          show own_Go p e below _ T285 (mkF m 232 #[.val (.int p1), .val (.int p2), .val (.int p3), .val (.int p4), .val (.int f), .val (.int va), .val (.int vb), .val (.int kk), .unset, .unset, .unset, .unset] [(.int (8 : Int32)), (.ref b253), (.ref b253)])
          refine own_by (fun _ k => XS.bipush X285.here hx rfl (hb hby at_232) k) ?_
          show own_Go p e below _ T285 (mkF m 234 #[.val (.int p1), .val (.int p2), .val (.int p3), .val (.int p4), .val (.int f), .val (.int va), .val (.int vb), .val (.int kk), .unset, .unset, .unset, .unset] [(.int (118 : Int32)), (.int (8 : Int32)), (.ref b253), (.ref b253)])
          obtain ⟨cl288, Ar288, cq288, hin288, hat288, set288⟩ := own_arv V285 (j := (8 : Int32)) ⟨by decide, by decide⟩
          obtain ⟨T289, h289, X289, e289, W289, st289⟩ := stC X285 hx hZ e285 Ar288 (j := (8 : Int32)) hin288 (g := (mkF m 234 #[.val (.int p1), .val (.int p2), .val (.int p3), .val (.int p4), .val (.int f), .val (.int va), .val (.int vb), .val (.int kk), .unset, .unset, .unset, .unset] [(.int (118 : Int32)), (.int (8 : Int32)), (.ref b253), (.ref b253)])) rfl rfl (hb hby at_234)
          have wq289 : nar .char (118 : Int32) = (118 : Int32) := rfl
          rw [wq289] at W289
          have wf289 : fits .char (.int (118 : Int32)) = true := wq289 ▸ (fits_nar_char _)
          have V289 : Arv Z h289 b253 k253 .char (16 : Int32) [(.int (107 : Int32)), (.int (101 : Int32)), (.int (101 : Int32)), (.int (112 : Int32)), (.int (45 : Int32)), (.int (97 : Int32)), (.int (108 : Int32)), (.int (105 : Int32)), (.int (118 : Int32)), (.int (0 : Int32)), (.int (0 : Int32)), (.int (0 : Int32)), (.int (0 : Int32)), (.int (0 : Int32)), (.int (0 : Int32)), (.int (0 : Int32))] (.int (0 : Int32)) := set288 wf289 W289 8 rfl (Nat.le_of_ble_eq_true rfl)
          have N289 := Fr.snoc X289 N285 og_b253
          have K290 := K286.wr W289 (Or.inr sz_b253)
          have Z289 : n0 ≤ h289.size := Nat.le_trans Z285 (Keep.of_wr W289).1
          have kz291 : _ ≤ h289.size := Nat.le_trans kz287 (Keep.of_wr W289).1
          refine own_by st289 ?_
          show own_Go p e below _ T289 (mkF m 235 #[.val (.int p1), .val (.int p2), .val (.int p3), .val (.int p4), .val (.int f), .val (.int va), .val (.int vb), .val (.int kk), .unset, .unset, .unset, .unset] [(.ref b253)])
          refine own_by (fun _ k => XS.dup X289.here hx rfl (hb hby at_235) rfl rfl k) ?_
          show own_Go p e below _ T289 (mkF m 236 #[.val (.int p1), .val (.int p2), .val (.int p3), .val (.int p4), .val (.int f), .val (.int va), .val (.int vb), .val (.int kk), .unset, .unset, .unset, .unset] [(.ref b253), (.ref b253)])
          refine own_by (fun _ k => XS.bipush X289.here hx rfl (hb hby at_236) k) ?_
          show own_Go p e below _ T289 (mkF m 238 #[.val (.int p1), .val (.int p2), .val (.int p3), .val (.int p4), .val (.int f), .val (.int va), .val (.int vb), .val (.int kk), .unset, .unset, .unset, .unset] [(.int (9 : Int32)), (.ref b253), (.ref b253)])
          refine own_by (fun _ k => XS.bipush X289.here hx rfl (hb hby at_238) k) ?_
          show own_Go p e below _ T289 (mkF m 240 #[.val (.int p1), .val (.int p2), .val (.int p3), .val (.int p4), .val (.int f), .val (.int va), .val (.int vb), .val (.int kk), .unset, .unset, .unset, .unset] [(.int (101 : Int32)), (.int (9 : Int32)), (.ref b253), (.ref b253)])
          obtain ⟨cl292, Ar292, cq292, hin292, hat292, set292⟩ := own_arv V289 (j := (9 : Int32)) ⟨by decide, by decide⟩
          obtain ⟨T293, h293, X293, e293, W293, st293⟩ := stC X289 hx hZ e289 Ar292 (j := (9 : Int32)) hin292 (g := (mkF m 240 #[.val (.int p1), .val (.int p2), .val (.int p3), .val (.int p4), .val (.int f), .val (.int va), .val (.int vb), .val (.int kk), .unset, .unset, .unset, .unset] [(.int (101 : Int32)), (.int (9 : Int32)), (.ref b253), (.ref b253)])) rfl rfl (hb hby at_240)
          have wq293 : nar .char (101 : Int32) = (101 : Int32) := rfl
          rw [wq293] at W293
          have wf293 : fits .char (.int (101 : Int32)) = true := wq293 ▸ (fits_nar_char _)
          have V293 : Arv Z h293 b253 k253 .char (16 : Int32) [(.int (107 : Int32)), (.int (101 : Int32)), (.int (101 : Int32)), (.int (112 : Int32)), (.int (45 : Int32)), (.int (97 : Int32)), (.int (108 : Int32)), (.int (105 : Int32)), (.int (118 : Int32)), (.int (101 : Int32)), (.int (0 : Int32)), (.int (0 : Int32)), (.int (0 : Int32)), (.int (0 : Int32)), (.int (0 : Int32)), (.int (0 : Int32))] (.int (0 : Int32)) := set292 wf293 W293 9 rfl (Nat.le_of_ble_eq_true rfl)
          have N293 := Fr.snoc X293 N289 og_b253
          have K294 := K290.wr W293 (Or.inr sz_b253)
          have Z293 : n0 ≤ h293.size := Nat.le_trans Z289 (Keep.of_wr W293).1
          have kz295 : _ ≤ h293.size := Nat.le_trans kz291 (Keep.of_wr W293).1
          refine own_by st293 ?_
          show own_Go p e below _ T293 (mkF m 241 #[.val (.int p1), .val (.int p2), .val (.int p3), .val (.int p4), .val (.int f), .val (.int va), .val (.int vb), .val (.int kk), .unset, .unset, .unset, .unset] [(.ref b253)])
          refine own_by (fun _ k => XS.dup X293.here hx rfl (hb hby at_241) rfl rfl k) ?_
          show own_Go p e below _ T293 (mkF m 242 #[.val (.int p1), .val (.int p2), .val (.int p3), .val (.int p4), .val (.int f), .val (.int va), .val (.int vb), .val (.int kk), .unset, .unset, .unset, .unset] [(.ref b253), (.ref b253)])
          refine own_by (fun _ k => XS.bipush X293.here hx rfl (hb hby at_242) k) ?_
          show own_Go p e below _ T293 (mkF m 244 #[.val (.int p1), .val (.int p2), .val (.int p3), .val (.int p4), .val (.int f), .val (.int va), .val (.int vb), .val (.int kk), .unset, .unset, .unset, .unset] [(.int (10 : Int32)), (.ref b253), (.ref b253)])
          refine own_by (fun _ k => XS.iload X293.here hx rfl (hb hby at_244) rfl k) ?_
          show own_Go p e below _ T293 (mkF m 246 #[.val (.int p1), .val (.int p2), .val (.int p3), .val (.int p4), .val (.int f), .val (.int va), .val (.int vb), .val (.int kk), .unset, .unset, .unset, .unset] [(.int va), (.int (10 : Int32)), (.ref b253), (.ref b253)])
          obtain ⟨cl296, Ar296, cq296, hin296, hat296, set296⟩ := own_arv V293 (j := (10 : Int32)) ⟨by decide, by decide⟩
          obtain ⟨T297, h297, X297, e297, W297, st297⟩ := stC X293 hx hZ e293 Ar296 (j := (10 : Int32)) hin296 (g := (mkF m 246 #[.val (.int p1), .val (.int p2), .val (.int p3), .val (.int p4), .val (.int f), .val (.int va), .val (.int vb), .val (.int kk), .unset, .unset, .unset, .unset] [(.int va), (.int (10 : Int32)), (.ref b253), (.ref b253)])) rfl rfl (hb hby at_246)
          have wq297 : nar .char va = va := hva.1
          rw [wq297] at W297
          have wf297 : fits .char (.int va) = true := wq297 ▸ (fits_nar_char _)
          have V297 : Arv Z h297 b253 k253 .char (16 : Int32) [(.int (107 : Int32)), (.int (101 : Int32)), (.int (101 : Int32)), (.int (112 : Int32)), (.int (45 : Int32)), (.int (97 : Int32)), (.int (108 : Int32)), (.int (105 : Int32)), (.int (118 : Int32)), (.int (101 : Int32)), (.int va), (.int (0 : Int32)), (.int (0 : Int32)), (.int (0 : Int32)), (.int (0 : Int32)), (.int (0 : Int32))] (.int (0 : Int32)) := set296 wf297 W297 10 rfl (Nat.le_of_ble_eq_true rfl)
          have N297 := Fr.snoc X297 N293 og_b253
          have K298 := K294.wr W297 (Or.inr sz_b253)
          have Z297 : n0 ≤ h297.size := Nat.le_trans Z293 (Keep.of_wr W297).1
          have kz299 : _ ≤ h297.size := Nat.le_trans kz295 (Keep.of_wr W297).1
          refine own_by st297 ?_
          show own_Go p e below _ T297 (mkF m 247 #[.val (.int p1), .val (.int p2), .val (.int p3), .val (.int p4), .val (.int f), .val (.int va), .val (.int vb), .val (.int kk), .unset, .unset, .unset, .unset] [(.ref b253)])
          refine own_by (fun _ k => XS.dup X297.here hx rfl (hb hby at_247) rfl rfl k) ?_
          show own_Go p e below _ T297 (mkF m 248 #[.val (.int p1), .val (.int p2), .val (.int p3), .val (.int p4), .val (.int f), .val (.int va), .val (.int vb), .val (.int kk), .unset, .unset, .unset, .unset] [(.ref b253), (.ref b253)])
          refine own_by (fun _ k => XS.bipush X297.here hx rfl (hb hby at_248) k) ?_
          show own_Go p e below _ T297 (mkF m 250 #[.val (.int p1), .val (.int p2), .val (.int p3), .val (.int p4), .val (.int f), .val (.int va), .val (.int vb), .val (.int kk), .unset, .unset, .unset, .unset] [(.int (11 : Int32)), (.ref b253), (.ref b253)])
          refine own_by (fun _ k => XS.bipush X297.here hx rfl (hb hby at_250) k) ?_
          show own_Go p e below _ T297 (mkF m 252 #[.val (.int p1), .val (.int p2), .val (.int p3), .val (.int p4), .val (.int f), .val (.int va), .val (.int vb), .val (.int kk), .unset, .unset, .unset, .unset] [(.int (99 : Int32)), (.int (11 : Int32)), (.ref b253), (.ref b253)])
          obtain ⟨cl300, Ar300, cq300, hin300, hat300, set300⟩ := own_arv V297 (j := (11 : Int32)) ⟨by decide, by decide⟩
          obtain ⟨T301, h301, X301, e301, W301, st301⟩ := stC X297 hx hZ e297 Ar300 (j := (11 : Int32)) hin300 (g := (mkF m 252 #[.val (.int p1), .val (.int p2), .val (.int p3), .val (.int p4), .val (.int f), .val (.int va), .val (.int vb), .val (.int kk), .unset, .unset, .unset, .unset] [(.int (99 : Int32)), (.int (11 : Int32)), (.ref b253), (.ref b253)])) rfl rfl (hb hby at_252)
          have wq301 : nar .char (99 : Int32) = (99 : Int32) := rfl
          rw [wq301] at W301
          have wf301 : fits .char (.int (99 : Int32)) = true := wq301 ▸ (fits_nar_char _)
          have V301 : Arv Z h301 b253 k253 .char (16 : Int32) [(.int (107 : Int32)), (.int (101 : Int32)), (.int (101 : Int32)), (.int (112 : Int32)), (.int (45 : Int32)), (.int (97 : Int32)), (.int (108 : Int32)), (.int (105 : Int32)), (.int (118 : Int32)), (.int (101 : Int32)), (.int va), (.int (99 : Int32)), (.int (0 : Int32)), (.int (0 : Int32)), (.int (0 : Int32)), (.int (0 : Int32))] (.int (0 : Int32)) := set300 wf301 W301 11 rfl (Nat.le_of_ble_eq_true rfl)
          have N301 := Fr.snoc X301 N297 og_b253
          have K302 := K298.wr W301 (Or.inr sz_b253)
          have Z301 : n0 ≤ h301.size := Nat.le_trans Z297 (Keep.of_wr W301).1
          have kz303 : _ ≤ h301.size := Nat.le_trans kz299 (Keep.of_wr W301).1
          refine own_by st301 ?_
          show own_Go p e below _ T301 (mkF m 253 #[.val (.int p1), .val (.int p2), .val (.int p3), .val (.int p4), .val (.int f), .val (.int va), .val (.int vb), .val (.int kk), .unset, .unset, .unset, .unset] [(.ref b253)])
          refine own_by (fun _ k => XS.dup X301.here hx rfl (hb hby at_253) rfl rfl k) ?_
          show own_Go p e below _ T301 (mkF m 254 #[.val (.int p1), .val (.int p2), .val (.int p3), .val (.int p4), .val (.int f), .val (.int va), .val (.int vb), .val (.int kk), .unset, .unset, .unset, .unset] [(.ref b253), (.ref b253)])
          refine own_by (fun _ k => XS.bipush X301.here hx rfl (hb hby at_254) k) ?_
          show own_Go p e below _ T301 (mkF m 256 #[.val (.int p1), .val (.int p2), .val (.int p3), .val (.int p4), .val (.int f), .val (.int va), .val (.int vb), .val (.int kk), .unset, .unset, .unset, .unset] [(.int (12 : Int32)), (.ref b253), (.ref b253)])
          refine own_by (fun _ k => XS.bipush X301.here hx rfl (hb hby at_256) k) ?_
          show own_Go p e below _ T301 (mkF m 258 #[.val (.int p1), .val (.int p2), .val (.int p3), .val (.int p4), .val (.int f), .val (.int va), .val (.int vb), .val (.int kk), .unset, .unset, .unset, .unset] [(.int (108 : Int32)), (.int (12 : Int32)), (.ref b253), (.ref b253)])
          obtain ⟨cl304, Ar304, cq304, hin304, hat304, set304⟩ := own_arv V301 (j := (12 : Int32)) ⟨by decide, by decide⟩
          obtain ⟨T305, h305, X305, e305, W305, st305⟩ := stC X301 hx hZ e301 Ar304 (j := (12 : Int32)) hin304 (g := (mkF m 258 #[.val (.int p1), .val (.int p2), .val (.int p3), .val (.int p4), .val (.int f), .val (.int va), .val (.int vb), .val (.int kk), .unset, .unset, .unset, .unset] [(.int (108 : Int32)), (.int (12 : Int32)), (.ref b253), (.ref b253)])) rfl rfl (hb hby at_258)
          have wq305 : nar .char (108 : Int32) = (108 : Int32) := rfl
          rw [wq305] at W305
          have wf305 : fits .char (.int (108 : Int32)) = true := wq305 ▸ (fits_nar_char _)
          have V305 : Arv Z h305 b253 k253 .char (16 : Int32) [(.int (107 : Int32)), (.int (101 : Int32)), (.int (101 : Int32)), (.int (112 : Int32)), (.int (45 : Int32)), (.int (97 : Int32)), (.int (108 : Int32)), (.int (105 : Int32)), (.int (118 : Int32)), (.int (101 : Int32)), (.int va), (.int (99 : Int32)), (.int (108 : Int32)), (.int (0 : Int32)), (.int (0 : Int32)), (.int (0 : Int32))] (.int (0 : Int32)) := set304 wf305 W305 12 rfl (Nat.le_of_ble_eq_true rfl)
          have N305 := Fr.snoc X305 N301 og_b253
          have K306 := K302.wr W305 (Or.inr sz_b253)
          have Z305 : n0 ≤ h305.size := Nat.le_trans Z301 (Keep.of_wr W305).1
          have kz307 : _ ≤ h305.size := Nat.le_trans kz303 (Keep.of_wr W305).1
          refine own_by st305 ?_
          show own_Go p e below _ T305 (mkF m 259 #[.val (.int p1), .val (.int p2), .val (.int p3), .val (.int p4), .val (.int f), .val (.int va), .val (.int vb), .val (.int kk), .unset, .unset, .unset, .unset] [(.ref b253)])
          refine own_by (fun _ k => XS.dup X305.here hx rfl (hb hby at_259) rfl rfl k) ?_
          show own_Go p e below _ T305 (mkF m 260 #[.val (.int p1), .val (.int p2), .val (.int p3), .val (.int p4), .val (.int f), .val (.int va), .val (.int vb), .val (.int kk), .unset, .unset, .unset, .unset] [(.ref b253), (.ref b253)])
          refine own_by (fun _ k => XS.bipush X305.here hx rfl (hb hby at_260) k) ?_
          show own_Go p e below _ T305 (mkF m 262 #[.val (.int p1), .val (.int p2), .val (.int p3), .val (.int p4), .val (.int f), .val (.int va), .val (.int vb), .val (.int kk), .unset, .unset, .unset, .unset] [(.int (13 : Int32)), (.ref b253), (.ref b253)])
          refine own_by (fun _ k => XS.bipush X305.here hx rfl (hb hby at_262) k) ?_
          show own_Go p e below _ T305 (mkF m 264 #[.val (.int p1), .val (.int p2), .val (.int p3), .val (.int p4), .val (.int f), .val (.int va), .val (.int vb), .val (.int kk), .unset, .unset, .unset, .unset] [(.int (111 : Int32)), (.int (13 : Int32)), (.ref b253), (.ref b253)])
          obtain ⟨cl308, Ar308, cq308, hin308, hat308, set308⟩ := own_arv V305 (j := (13 : Int32)) ⟨by decide, by decide⟩
          obtain ⟨T309, h309, X309, e309, W309, st309⟩ := stC X305 hx hZ e305 Ar308 (j := (13 : Int32)) hin308 (g := (mkF m 264 #[.val (.int p1), .val (.int p2), .val (.int p3), .val (.int p4), .val (.int f), .val (.int va), .val (.int vb), .val (.int kk), .unset, .unset, .unset, .unset] [(.int (111 : Int32)), (.int (13 : Int32)), (.ref b253), (.ref b253)])) rfl rfl (hb hby at_264)
          have wq309 : nar .char (111 : Int32) = (111 : Int32) := rfl
          rw [wq309] at W309
          have wf309 : fits .char (.int (111 : Int32)) = true := wq309 ▸ (fits_nar_char _)
          have V309 : Arv Z h309 b253 k253 .char (16 : Int32) [(.int (107 : Int32)), (.int (101 : Int32)), (.int (101 : Int32)), (.int (112 : Int32)), (.int (45 : Int32)), (.int (97 : Int32)), (.int (108 : Int32)), (.int (105 : Int32)), (.int (118 : Int32)), (.int (101 : Int32)), (.int va), (.int (99 : Int32)), (.int (108 : Int32)), (.int (111 : Int32)), (.int (0 : Int32)), (.int (0 : Int32))] (.int (0 : Int32)) := set308 wf309 W309 13 rfl (Nat.le_of_ble_eq_true rfl)
          have N309 := Fr.snoc X309 N305 og_b253
          have K310 := K306.wr W309 (Or.inr sz_b253)
          have Z309 : n0 ≤ h309.size := Nat.le_trans Z305 (Keep.of_wr W309).1
          have kz311 : _ ≤ h309.size := Nat.le_trans kz307 (Keep.of_wr W309).1
          refine own_by st309 ?_
          show own_Go p e below _ T309 (mkF m 265 #[.val (.int p1), .val (.int p2), .val (.int p3), .val (.int p4), .val (.int f), .val (.int va), .val (.int vb), .val (.int kk), .unset, .unset, .unset, .unset] [(.ref b253)])
          refine own_by (fun _ k => XS.dup X309.here hx rfl (hb hby at_265) rfl rfl k) ?_
          show own_Go p e below _ T309 (mkF m 266 #[.val (.int p1), .val (.int p2), .val (.int p3), .val (.int p4), .val (.int f), .val (.int va), .val (.int vb), .val (.int kk), .unset, .unset, .unset, .unset] [(.ref b253), (.ref b253)])
          refine own_by (fun _ k => XS.bipush X309.here hx rfl (hb hby at_266) k) ?_
          show own_Go p e below _ T309 (mkF m 268 #[.val (.int p1), .val (.int p2), .val (.int p3), .val (.int p4), .val (.int f), .val (.int va), .val (.int vb), .val (.int kk), .unset, .unset, .unset, .unset] [(.int (14 : Int32)), (.ref b253), (.ref b253)])
          refine own_by (fun _ k => XS.bipush X309.here hx rfl (hb hby at_268) k) ?_
          show own_Go p e below _ T309 (mkF m 270 #[.val (.int p1), .val (.int p2), .val (.int p3), .val (.int p4), .val (.int f), .val (.int va), .val (.int vb), .val (.int kk), .unset, .unset, .unset, .unset] [(.int (115 : Int32)), (.int (14 : Int32)), (.ref b253), (.ref b253)])
          obtain ⟨cl312, Ar312, cq312, hin312, hat312, set312⟩ := own_arv V309 (j := (14 : Int32)) ⟨by decide, by decide⟩
          obtain ⟨T313, h313, X313, e313, W313, st313⟩ := stC X309 hx hZ e309 Ar312 (j := (14 : Int32)) hin312 (g := (mkF m 270 #[.val (.int p1), .val (.int p2), .val (.int p3), .val (.int p4), .val (.int f), .val (.int va), .val (.int vb), .val (.int kk), .unset, .unset, .unset, .unset] [(.int (115 : Int32)), (.int (14 : Int32)), (.ref b253), (.ref b253)])) rfl rfl (hb hby at_270)
          have wq313 : nar .char (115 : Int32) = (115 : Int32) := rfl
          rw [wq313] at W313
          have wf313 : fits .char (.int (115 : Int32)) = true := wq313 ▸ (fits_nar_char _)
          have V313 : Arv Z h313 b253 k253 .char (16 : Int32) [(.int (107 : Int32)), (.int (101 : Int32)), (.int (101 : Int32)), (.int (112 : Int32)), (.int (45 : Int32)), (.int (97 : Int32)), (.int (108 : Int32)), (.int (105 : Int32)), (.int (118 : Int32)), (.int (101 : Int32)), (.int va), (.int (99 : Int32)), (.int (108 : Int32)), (.int (111 : Int32)), (.int (115 : Int32)), (.int (0 : Int32))] (.int (0 : Int32)) := set312 wf313 W313 14 rfl (Nat.le_of_ble_eq_true rfl)
          have N313 := Fr.snoc X313 N309 og_b253
          have K314 := K310.wr W313 (Or.inr sz_b253)
          have Z313 : n0 ≤ h313.size := Nat.le_trans Z309 (Keep.of_wr W313).1
          have kz315 : _ ≤ h313.size := Nat.le_trans kz311 (Keep.of_wr W313).1
          refine own_by st313 ?_
          show own_Go p e below _ T313 (mkF m 271 #[.val (.int p1), .val (.int p2), .val (.int p3), .val (.int p4), .val (.int f), .val (.int va), .val (.int vb), .val (.int kk), .unset, .unset, .unset, .unset] [(.ref b253)])
          refine own_by (fun _ k => XS.dup X313.here hx rfl (hb hby at_271) rfl rfl k) ?_
          show own_Go p e below _ T313 (mkF m 272 #[.val (.int p1), .val (.int p2), .val (.int p3), .val (.int p4), .val (.int f), .val (.int va), .val (.int vb), .val (.int kk), .unset, .unset, .unset, .unset] [(.ref b253), (.ref b253)])
          refine own_by (fun _ k => XS.bipush X313.here hx rfl (hb hby at_272) k) ?_
          show own_Go p e below _ T313 (mkF m 274 #[.val (.int p1), .val (.int p2), .val (.int p3), .val (.int p4), .val (.int f), .val (.int va), .val (.int vb), .val (.int kk), .unset, .unset, .unset, .unset] [(.int (15 : Int32)), (.ref b253), (.ref b253)])
          refine own_by (fun _ k => XS.bipush X313.here hx rfl (hb hby at_274) k) ?_
          show own_Go p e below _ T313 (mkF m 276 #[.val (.int p1), .val (.int p2), .val (.int p3), .val (.int p4), .val (.int f), .val (.int va), .val (.int vb), .val (.int kk), .unset, .unset, .unset, .unset] [(.int (101 : Int32)), (.int (15 : Int32)), (.ref b253), (.ref b253)])
          obtain ⟨cl316, Ar316, cq316, hin316, hat316, set316⟩ := own_arv V313 (j := (15 : Int32)) ⟨by decide, by decide⟩
          obtain ⟨T317, h317, X317, e317, W317, st317⟩ := stC X313 hx hZ e313 Ar316 (j := (15 : Int32)) hin316 (g := (mkF m 276 #[.val (.int p1), .val (.int p2), .val (.int p3), .val (.int p4), .val (.int f), .val (.int va), .val (.int vb), .val (.int kk), .unset, .unset, .unset, .unset] [(.int (101 : Int32)), (.int (15 : Int32)), (.ref b253), (.ref b253)])) rfl rfl (hb hby at_276)
          have wq317 : nar .char (101 : Int32) = (101 : Int32) := rfl
          rw [wq317] at W317
          have wf317 : fits .char (.int (101 : Int32)) = true := wq317 ▸ (fits_nar_char _)
          have V317 : Arv Z h317 b253 k253 .char (16 : Int32) [(.int (107 : Int32)), (.int (101 : Int32)), (.int (101 : Int32)), (.int (112 : Int32)), (.int (45 : Int32)), (.int (97 : Int32)), (.int (108 : Int32)), (.int (105 : Int32)), (.int (118 : Int32)), (.int (101 : Int32)), (.int va), (.int (99 : Int32)), (.int (108 : Int32)), (.int (111 : Int32)), (.int (115 : Int32)), (.int (101 : Int32))] (.int (0 : Int32)) := set316 wf317 W317 15 rfl (Nat.le_of_ble_eq_true rfl)
          have N317 := Fr.snoc X317 N313 og_b253
          have K318 := K314.wr W317 (Or.inr sz_b253)
          have Z317 : n0 ≤ h317.size := Nat.le_trans Z313 (Keep.of_wr W317).1
          have kz319 : _ ≤ h317.size := Nat.le_trans kz315 (Keep.of_wr W317).1
          refine own_by st317 ?_
          show own_Go p e below _ T317 (mkF m 277 #[.val (.int p1), .val (.int p2), .val (.int p3), .val (.int p4), .val (.int f), .val (.int va), .val (.int vb), .val (.int kk), .unset, .unset, .unset, .unset] [(.ref b253)])
          refine own_by (fun _ k => XS.astore X317.here hx rfl (hb hby at_277) rfl rfl (l' := #[.val (.int p1), .val (.int p2), .val (.int p3), .val (.int p4), .val (.int f), .val (.int va), .val (.int vb), .val (.int kk), .val (.ref b253), .unset, .unset, .unset]) rfl k) ?_
          show own_Go p e below _ T317 (mkF m 279 #[.val (.int p1), .val (.int p2), .val (.int p3), .val (.int p4), .val (.int f), .val (.int va), .val (.int vb), .val (.int kk), .val (.ref b253), .unset, .unset, .unset] [])
          refine own_by (fun _ k => XS.iconst X317.here hx rfl (hb hby at_279) k) ?_
          show own_Go p e below _ T317 (mkF m 280 #[.val (.int p1), .val (.int p2), .val (.int p3), .val (.int p4), .val (.int f), .val (.int va), .val (.int vb), .val (.int kk), .val (.ref b253), .unset, .unset, .unset] [(.int (1 : Int32))])
          refine own_by (fun _ k => XS.istore X317.here hx rfl (hb hby at_280) rfl (l' := #[.val (.int p1), .val (.int p2), .val (.int p3), .val (.int p4), .val (.int f), .val (.int va), .val (.int vb), .val (.int kk), .val (.ref b253), .val (.int (1 : Int32)), .unset, .unset]) rfl k) ?_
          show own_Go p e below _ T317 (mkF m 282 #[.val (.int p1), .val (.int p2), .val (.int p3), .val (.int p4), .val (.int f), .val (.int va), .val (.int vb), .val (.int kk), .val (.ref b253), .val (.int (1 : Int32)), .unset, .unset] [])
          refine own_by (fun _ k => XS.iconst X317.here hx rfl (hb hby at_282) k) ?_
          show own_Go p e below _ T317 (mkF m 283 #[.val (.int p1), .val (.int p2), .val (.int p3), .val (.int p4), .val (.int f), .val (.int va), .val (.int vb), .val (.int kk), .val (.ref b253), .val (.int (1 : Int32)), .unset, .unset] [(.int (1 : Int32))])
          refine own_by (fun _ k => XS.istore X317.here hx rfl (hb hby at_283) rfl (l' := #[.val (.int p1), .val (.int p2), .val (.int p3), .val (.int p4), .val (.int f), .val (.int va), .val (.int vb), .val (.int kk), .val (.ref b253), .val (.int (1 : Int32)), .val (.int (1 : Int32)), .unset]) rfl k) ?_
          show own_Go p e below _ T317 (mkF m 285 #[.val (.int p1), .val (.int p2), .val (.int p3), .val (.int p4), .val (.int f), .val (.int va), .val (.int vb), .val (.int kk), .val (.ref b253), .val (.int (1 : Int32)), .val (.int (1 : Int32)), .unset] [])
          refine own_by (fun _ k => XS.goto X317.here hx rfl (pc0 := 285) (pc' := 758) rfl (hb hby at_285) (by decide) (by decide) k) ?_
          show own_Go p e below _ T317 (mkF m 758 #[.val (.int p1), .val (.int p2), .val (.int p3), .val (.int p4), .val (.int f), .val (.int va), .val (.int vb), .val (.int kk), .val (.ref b253), .val (.int (1 : Int32)), .val (.int (1 : Int32)), .unset] [])
          exact J758 T317 _ h317 (X317.more (Nat.le_refl _) (by decide)) e317 N317 K318 b253 _ [107, 101, 101, 112, 45, 97, 108, 105, 118, 101, va, 99, 108, 111, 115, 101] _ _ og_b253 ⟨by simp, by simp⟩ (by intro c hc; simp only [List.mem_cons, List.not_mem_nil, or_false] at hc; rcases hc with rfl | rfl | rfl | rfl | rfl | rfl | rfl | rfl | rfl | rfl | rfl | rfl | rfl | rfl | rfl | rfl <;> first | exact hva | exact hvb | (unfold own_ch; decide)) (by rw [own_keep2 va vb]; rfl) (by rw [own_close2 va vb]; rfl) V317
        · refine own_by (fun _ k => XS.icmpYes X159.here hx rfl (pc0 := 180) (pc' := 288) rfl (hb hby at_180) rfl (feq (hk2 : ¬ (kk = (2 : Int32)))).2 (by decide) (by decide) k) ?_
          show own_Go p e below _ T159 (mkF m 288 #[.val (.int p1), .val (.int p2), .val (.int p3), .val (.int p4), .val (.int f), .val (.int va), .val (.int vb), .val (.int kk), .unset, .unset, .unset, .unset] [])
          refine own_by (fun _ k => XS.iload X159.here hx rfl (hb hby at_288) rfl k) ?_
          show own_Go p e below _ T159 (mkF m 290 #[.val (.int p1), .val (.int p2), .val (.int p3), .val (.int p4), .val (.int f), .val (.int va), .val (.int vb), .val (.int kk), .unset, .unset, .unset, .unset] [(.int kk)])
          refine own_by (fun _ k => XS.iconst X159.here hx rfl (hb hby at_290) k) ?_
          show own_Go p e below _ T159 (mkF m 291 #[.val (.int p1), .val (.int p2), .val (.int p3), .val (.int p4), .val (.int f), .val (.int va), .val (.int vb), .val (.int kk), .unset, .unset, .unset, .unset] [(.int (3 : Int32)), (.int kk)])
          by_cases hk3 : kk = (3 : Int32)
          · refine own_by (fun _ k => XS.icmpNo X159.here hx rfl (hb hby at_291) rfl (teq (hk3 : kk = (3 : Int32))).2 k) ?_
            show own_Go p e below _ T159 (mkF m 294 #[.val (.int p1), .val (.int p2), .val (.int p3), .val (.int p4), .val (.int f), .val (.int va), .val (.int vb), .val (.int kk), .unset, .unset, .unset, .unset] [])
            refine own_by (fun _ k => XS.iconst X159.here hx rfl (hb hby at_294) k) ?_
            show own_Go p e below _ T159 (mkF m 295 #[.val (.int p1), .val (.int p2), .val (.int p3), .val (.int p4), .val (.int f), .val (.int va), .val (.int vb), .val (.int kk), .unset, .unset, .unset, .unset] [(.int (3 : Int32))])
            obtain ⟨T320, h320, k320, X320, e320, E320, A320, C320, st320⟩ := newPE X159 hx hZ (hw _ (List.mem_of_getElem? (i := 5) rfl)) e159 (g := (mkF m 295 #[.val (.int p1), .val (.int p2), .val (.int p3), .val (.int p4), .val (.int f), .val (.int va), .val (.int vb), .val (.int kk), .unset, .unset, .unset, .unset] [(.int (3 : Int32))])) rfl (hb hby at_295) rfl (by decide) (cap := 3) (by decide) (by decide) (by decide) (by decide) (ad := "[C") (by decide)
            obtain ⟨b320, g320⟩ : ∃ zq, zq = h0.size := ⟨_, rfl⟩
            rw [← g320] at A320 C320 st320
            have og_b320 : n0 ≤ b320 := Nat.le_trans Z0 (Nat.le_of_eq g320.symm)
            have sz_b320 : h0.size ≤ b320 := Nat.le_trans K0.1 (Nat.le_of_eq g320.symm)
            have Z320 : n0 ≤ h320.size := Nat.le_trans Z0 E320.1
            have kz321 : _ ≤ h320.size := Nat.le_trans kz0 E320.1
            have K322 := K0.ext E320
            have V320 : Arv Z h320 b320 k320 .char (3 : Int32) [(.int (0 : Int32)), (.int (0 : Int32)), (.int (0 : Int32))] (.int (0 : Int32)) := (Arv.new A320 (by decide)).pad (pad_rep [] (.int (0 : Int32)) 3)
            refine own_by st320 ?_
            show own_Go p e below _ T320 (mkF m 297 #[.val (.int p1), .val (.int p2), .val (.int p3), .val (.int p4), .val (.int f), .val (.int va), .val (.int vb), .val (.int kk), .unset, .unset, .unset, .unset] [(.ref b320)])
            refine own_by (fun _ k => XS.dup X320.here hx rfl (hb hby at_297) rfl rfl k) ?_
            show own_Go p e below _ T320 (mkF m 298 #[.val (.int p1), .val (.int p2), .val (.int p3), .val (.int p4), .val (.int f), .val (.int va), .val (.int vb), .val (.int kk), .unset, .unset, .unset, .unset] [(.ref b320), (.ref b320)])
            refine own_by (fun _ k => XS.iconst X320.here hx rfl (hb hby at_298) k) ?_
            show own_Go p e below _ T320 (mkF m 299 #[.val (.int p1), .val (.int p2), .val (.int p3), .val (.int p4), .val (.int f), .val (.int va), .val (.int vb), .val (.int kk), .unset, .unset, .unset, .unset] [(.int (0 : Int32)), (.ref b320), (.ref b320)])
            refine own_by (fun _ k => XS.iload X320.here hx rfl (hb hby at_299) rfl k) ?_
            show own_Go p e below _ T320 (mkF m 301 #[.val (.int p1), .val (.int p2), .val (.int p3), .val (.int p4), .val (.int f), .val (.int va), .val (.int vb), .val (.int kk), .unset, .unset, .unset, .unset] [(.int va), (.int (0 : Int32)), (.ref b320), (.ref b320)])
            obtain ⟨cl323, Ar323, cq323, hin323, hat323, set323⟩ := own_arv V320 (j := (0 : Int32)) ⟨by decide, by decide⟩
            obtain ⟨T324, h324, X324, e324, W324, st324⟩ := stC X320 hx hZ e320 Ar323 (j := (0 : Int32)) hin323 (g := (mkF m 301 #[.val (.int p1), .val (.int p2), .val (.int p3), .val (.int p4), .val (.int f), .val (.int va), .val (.int vb), .val (.int kk), .unset, .unset, .unset, .unset] [(.int va), (.int (0 : Int32)), (.ref b320), (.ref b320)])) rfl rfl (hb hby at_301)
            have wq324 : nar .char va = va := hva.1
            rw [wq324] at W324
            have wf324 : fits .char (.int va) = true := wq324 ▸ (fits_nar_char _)
            have V324 : Arv Z h324 b320 k320 .char (3 : Int32) [(.int va), (.int (0 : Int32)), (.int (0 : Int32))] (.int (0 : Int32)) := set323 wf324 W324 0 rfl (Nat.le_of_ble_eq_true rfl)
            have N324 := Fr.snoc X324 N159 og_b320
            have K325 := K322.wr W324 (Or.inr sz_b320)
            have Z324 : n0 ≤ h324.size := Nat.le_trans Z320 (Keep.of_wr W324).1
            have kz326 : _ ≤ h324.size := Nat.le_trans kz321 (Keep.of_wr W324).1
            refine own_by st324 ?_
            show own_Go p e below _ T324 (mkF m 302 #[.val (.int p1), .val (.int p2), .val (.int p3), .val (.int p4), .val (.int f), .val (.int va), .val (.int vb), .val (.int kk), .unset, .unset, .unset, .unset] [(.ref b320)])
            refine own_by (fun _ k => XS.dup X324.here hx rfl (hb hby at_302) rfl rfl k) ?_
            show own_Go p e below _ T324 (mkF m 303 #[.val (.int p1), .val (.int p2), .val (.int p3), .val (.int p4), .val (.int f), .val (.int va), .val (.int vb), .val (.int kk), .unset, .unset, .unset, .unset] [(.ref b320), (.ref b320)])
            refine own_by (fun _ k => XS.iconst X324.here hx rfl (hb hby at_303) k) ?_
            show own_Go p e below _ T324 (mkF m 304 #[.val (.int p1), .val (.int p2), .val (.int p3), .val (.int p4), .val (.int f), .val (.int va), .val (.int vb), .val (.int kk), .unset, .unset, .unset, .unset] [(.int (1 : Int32)), (.ref b320), (.ref b320)])
            refine own_by (fun _ k => XS.iload X324.here hx rfl (hb hby at_304) rfl k) ?_
            show own_Go p e below _ T324 (mkF m 306 #[.val (.int p1), .val (.int p2), .val (.int p3), .val (.int p4), .val (.int f), .val (.int va), .val (.int vb), .val (.int kk), .unset, .unset, .unset, .unset] [(.int vb), (.int (1 : Int32)), (.ref b320), (.ref b320)])
            obtain ⟨cl327, Ar327, cq327, hin327, hat327, set327⟩ := own_arv V324 (j := (1 : Int32)) ⟨by decide, by decide⟩
            obtain ⟨T328, h328, X328, e328, W328, st328⟩ := stC X324 hx hZ e324 Ar327 (j := (1 : Int32)) hin327 (g := (mkF m 306 #[.val (.int p1), .val (.int p2), .val (.int p3), .val (.int p4), .val (.int f), .val (.int va), .val (.int vb), .val (.int kk), .unset, .unset, .unset, .unset] [(.int vb), (.int (1 : Int32)), (.ref b320), (.ref b320)])) rfl rfl (hb hby at_306)
            have wq328 : nar .char vb = vb := hvb.1
            rw [wq328] at W328
            have wf328 : fits .char (.int vb) = true := wq328 ▸ (fits_nar_char _)
            have V328 : Arv Z h328 b320 k320 .char (3 : Int32) [(.int va), (.int vb), (.int (0 : Int32))] (.int (0 : Int32)) := set327 wf328 W328 1 rfl (Nat.le_of_ble_eq_true rfl)
            have N328 := Fr.snoc X328 N324 og_b320
            have K329 := K325.wr W328 (Or.inr sz_b320)
            have Z328 : n0 ≤ h328.size := Nat.le_trans Z324 (Keep.of_wr W328).1
            have kz330 : _ ≤ h328.size := Nat.le_trans kz326 (Keep.of_wr W328).1
            refine own_by st328 ?_
            show own_Go p e below _ T328 (mkF m 307 #[.val (.int p1), .val (.int p2), .val (.int p3), .val (.int p4), .val (.int f), .val (.int va), .val (.int vb), .val (.int kk), .unset, .unset, .unset, .unset] [(.ref b320)])
            refine own_by (fun _ k => XS.dup X328.here hx rfl (hb hby at_307) rfl rfl k) ?_
            show own_Go p e below _ T328 (mkF m 308 #[.val (.int p1), .val (.int p2), .val (.int p3), .val (.int p4), .val (.int f), .val (.int va), .val (.int vb), .val (.int kk), .unset, .unset, .unset, .unset] [(.ref b320), (.ref b320)])
            refine own_by (fun _ k => XS.iconst X328.here hx rfl (hb hby at_308) k) ?_
            show own_Go p e below _ T328 (mkF m 309 #[.val (.int p1), .val (.int p2), .val (.int p3), .val (.int p4), .val (.int f), .val (.int va), .val (.int vb), .val (.int kk), .unset, .unset, .unset, .unset] [(.int (2 : Int32)), (.ref b320), (.ref b320)])
            refine own_by (fun _ k => XS.bipush X328.here hx rfl (hb hby at_309) k) ?_
            show own_Go p e below _ T328 (mkF m 311 #[.val (.int p1), .val (.int p2), .val (.int p3), .val (.int p4), .val (.int f), .val (.int va), .val (.int vb), .val (.int kk), .unset, .unset, .unset, .unset] [(.int (107 : Int32)), (.int (2 : Int32)), (.ref b320), (.ref b320)])
            obtain ⟨cl331, Ar331, cq331, hin331, hat331, set331⟩ := own_arv V328 (j := (2 : Int32)) ⟨by decide, by decide⟩
            obtain ⟨T332, h332, X332, e332, W332, st332⟩ := stC X328 hx hZ e328 Ar331 (j := (2 : Int32)) hin331 (g := (mkF m 311 #[.val (.int p1), .val (.int p2), .val (.int p3), .val (.int p4), .val (.int f), .val (.int va), .val (.int vb), .val (.int kk), .unset, .unset, .unset, .unset] [(.int (107 : Int32)), (.int (2 : Int32)), (.ref b320), (.ref b320)])) rfl rfl (hb hby at_311)
            have wq332 : nar .char (107 : Int32) = (107 : Int32) := rfl
            rw [wq332] at W332
            have wf332 : fits .char (.int (107 : Int32)) = true := wq332 ▸ (fits_nar_char _)
            have V332 : Arv Z h332 b320 k320 .char (3 : Int32) [(.int va), (.int vb), (.int (107 : Int32))] (.int (0 : Int32)) := set331 wf332 W332 2 rfl (Nat.le_of_ble_eq_true rfl)
            have N332 := Fr.snoc X332 N328 og_b320
            have K333 := K329.wr W332 (Or.inr sz_b320)
            have Z332 : n0 ≤ h332.size := Nat.le_trans Z328 (Keep.of_wr W332).1
            have kz334 : _ ≤ h332.size := Nat.le_trans kz330 (Keep.of_wr W332).1
            refine own_by st332 ?_
            show own_Go p e below _ T332 (mkF m 312 #[.val (.int p1), .val (.int p2), .val (.int p3), .val (.int p4), .val (.int f), .val (.int va), .val (.int vb), .val (.int kk), .unset, .unset, .unset, .unset] [(.ref b320)])
            refine own_by (fun _ k => XS.astore X332.here hx rfl (hb hby at_312) rfl rfl (l' := #[.val (.int p1), .val (.int p2), .val (.int p3), .val (.int p4), .val (.int f), .val (.int va), .val (.int vb), .val (.int kk), .val (.ref b320), .unset, .unset, .unset]) rfl k) ?_
            show own_Go p e below _ T332 (mkF m 314 #[.val (.int p1), .val (.int p2), .val (.int p3), .val (.int p4), .val (.int f), .val (.int va), .val (.int vb), .val (.int kk), .val (.ref b320), .unset, .unset, .unset] [])
            refine own_by (fun _ k => XS.iconst X332.here hx rfl (hb hby at_314) k) ?_
            show own_Go p e below _ T332 (mkF m 315 #[.val (.int p1), .val (.int p2), .val (.int p3), .val (.int p4), .val (.int f), .val (.int va), .val (.int vb), .val (.int kk), .val (.ref b320), .unset, .unset, .unset] [(.int (0 : Int32))])
            refine own_by (fun _ k => XS.istore X332.here hx rfl (hb hby at_315) rfl (l' := #[.val (.int p1), .val (.int p2), .val (.int p3), .val (.int p4), .val (.int f), .val (.int va), .val (.int vb), .val (.int kk), .val (.ref b320), .val (.int (0 : Int32)), .unset, .unset]) rfl k) ?_
            show own_Go p e below _ T332 (mkF m 317 #[.val (.int p1), .val (.int p2), .val (.int p3), .val (.int p4), .val (.int f), .val (.int va), .val (.int vb), .val (.int kk), .val (.ref b320), .val (.int (0 : Int32)), .unset, .unset] [])
            refine own_by (fun _ k => XS.iconst X332.here hx rfl (hb hby at_317) k) ?_
            show own_Go p e below _ T332 (mkF m 318 #[.val (.int p1), .val (.int p2), .val (.int p3), .val (.int p4), .val (.int f), .val (.int va), .val (.int vb), .val (.int kk), .val (.ref b320), .val (.int (0 : Int32)), .unset, .unset] [(.int (0 : Int32))])
            refine own_by (fun _ k => XS.istore X332.here hx rfl (hb hby at_318) rfl (l' := #[.val (.int p1), .val (.int p2), .val (.int p3), .val (.int p4), .val (.int f), .val (.int va), .val (.int vb), .val (.int kk), .val (.ref b320), .val (.int (0 : Int32)), .val (.int (0 : Int32)), .unset]) rfl k) ?_
            show own_Go p e below _ T332 (mkF m 320 #[.val (.int p1), .val (.int p2), .val (.int p3), .val (.int p4), .val (.int f), .val (.int va), .val (.int vb), .val (.int kk), .val (.ref b320), .val (.int (0 : Int32)), .val (.int (0 : Int32)), .unset] [])
            refine own_by (fun _ k => XS.goto X332.here hx rfl (pc0 := 320) (pc' := 758) rfl (hb hby at_320) (by decide) (by decide) k) ?_
            show own_Go p e below _ T332 (mkF m 758 #[.val (.int p1), .val (.int p2), .val (.int p3), .val (.int p4), .val (.int f), .val (.int va), .val (.int vb), .val (.int kk), .val (.ref b320), .val (.int (0 : Int32)), .val (.int (0 : Int32)), .unset] [])
            exact J758 T332 _ h332 (X332.more (Nat.le_refl _) (by decide)) e332 N332 K333 b320 _ [va, vb, 107] _ _ og_b320 ⟨by simp, by simp⟩ (by intro c hc; simp only [List.mem_cons, List.not_mem_nil, or_false] at hc; rcases hc with rfl | rfl | rfl <;> first | exact hva | exact hvb | (unfold own_ch; decide)) (by rw [own_keep3 va vb]; rfl) (by rw [own_close3 va vb]; rfl) V332
          · refine own_by (fun _ k => XS.icmpYes X159.here hx rfl (pc0 := 291) (pc' := 323) rfl (hb hby at_291) rfl (feq (hk3 : ¬ (kk = (3 : Int32)))).2 (by decide) (by decide) k) ?_
            show own_Go p e below _ T159 (mkF m 323 #[.val (.int p1), .val (.int p2), .val (.int p3), .val (.int p4), .val (.int f), .val (.int va), .val (.int vb), .val (.int kk), .unset, .unset, .unset, .unset] [])
            refine own_by (fun _ k => XS.iload X159.here hx rfl (hb hby at_323) rfl k) ?_
            show own_Go p e below _ T159 (mkF m 325 #[.val (.int p1), .val (.int p2), .val (.int p3), .val (.int p4), .val (.int f), .val (.int va), .val (.int vb), .val (.int kk), .unset, .unset, .unset, .unset] [(.int kk)])
            refine own_by (fun _ k => XS.iconst X159.here hx rfl (hb hby at_325) k) ?_
            show own_Go p e below _ T159 (mkF m 326 #[.val (.int p1), .val (.int p2), .val (.int p3), .val (.int p4), .val (.int f), .val (.int va), .val (.int vb), .val (.int kk), .unset, .unset, .unset, .unset] [(.int (4 : Int32)), (.int kk)])
            by_cases hk4 : kk = (4 : Int32)
            · refine own_by (fun _ k => XS.icmpNo X159.here hx rfl (hb hby at_326) rfl (teq (hk4 : kk = (4 : Int32))).2 k) ?_
              show own_Go p e below _ T159 (mkF m 329 #[.val (.int p1), .val (.int p2), .val (.int p3), .val (.int p4), .val (.int f), .val (.int va), .val (.int vb), .val (.int kk), .unset, .unset, .unset, .unset] [])
              refine own_by (fun _ k => XS.iconst X159.here hx rfl (hb hby at_329) k) ?_
              show own_Go p e below _ T159 (mkF m 330 #[.val (.int p1), .val (.int p2), .val (.int p3), .val (.int p4), .val (.int f), .val (.int va), .val (.int vb), .val (.int kk), .unset, .unset, .unset, .unset] [(.int (5 : Int32))])
              obtain ⟨T335, h335, k335, X335, e335, E335, A335, C335, st335⟩ := newPE X159 hx hZ (hw _ (List.mem_of_getElem? (i := 5) rfl)) e159 (g := (mkF m 330 #[.val (.int p1), .val (.int p2), .val (.int p3), .val (.int p4), .val (.int f), .val (.int va), .val (.int vb), .val (.int kk), .unset, .unset, .unset, .unset] [(.int (5 : Int32))])) rfl (hb hby at_330) rfl (by decide) (cap := 5) (by decide) (by decide) (by decide) (by decide) (ad := "[C") (by decide)
              obtain ⟨b335, g335⟩ : ∃ zq, zq = h0.size := ⟨_, rfl⟩
              rw [← g335] at A335 C335 st335
              have og_b335 : n0 ≤ b335 := Nat.le_trans Z0 (Nat.le_of_eq g335.symm)
              have sz_b335 : h0.size ≤ b335 := Nat.le_trans K0.1 (Nat.le_of_eq g335.symm)
              have Z335 : n0 ≤ h335.size := Nat.le_trans Z0 E335.1
              have kz336 : _ ≤ h335.size := Nat.le_trans kz0 E335.1
              have K337 := K0.ext E335
              have V335 : Arv Z h335 b335 k335 .char (5 : Int32) [(.int (0 : Int32)), (.int (0 : Int32)), (.int (0 : Int32)), (.int (0 : Int32)), (.int (0 : Int32))] (.int (0 : Int32)) := (Arv.new A335 (by decide)).pad (pad_rep [] (.int (0 : Int32)) 5)
              refine own_by st335 ?_
              show own_Go p e below _ T335 (mkF m 332 #[.val (.int p1), .val (.int p2), .val (.int p3), .val (.int p4), .val (.int f), .val (.int va), .val (.int vb), .val (.int kk), .unset, .unset, .unset, .unset] [(.ref b335)])
              refine own_by (fun _ k => XS.dup X335.here hx rfl (hb hby at_332) rfl rfl k) ?_
              show own_Go p e below _ T335 (mkF m 333 #[.val (.int p1), .val (.int p2), .val (.int p3), .val (.int p4), .val (.int f), .val (.int va), .val (.int vb), .val (.int kk), .unset, .unset, .unset, .unset] [(.ref b335), (.ref b335)])
              refine own_by (fun _ k => XS.iconst X335.here hx rfl (hb hby at_333) k) ?_
              show own_Go p e below _ T335 (mkF m 334 #[.val (.int p1), .val (.int p2), .val (.int p3), .val (.int p4), .val (.int f), .val (.int va), .val (.int vb), .val (.int kk), .unset, .unset, .unset, .unset] [(.int (0 : Int32)), (.ref b335), (.ref b335)])
              refine own_by (fun _ k => XS.iload X335.here hx rfl (hb hby at_334) rfl k) ?_
              show own_Go p e below _ T335 (mkF m 336 #[.val (.int p1), .val (.int p2), .val (.int p3), .val (.int p4), .val (.int f), .val (.int va), .val (.int vb), .val (.int kk), .unset, .unset, .unset, .unset] [(.int va), (.int (0 : Int32)), (.ref b335), (.ref b335)])
              obtain ⟨cl338, Ar338, cq338, hin338, hat338, set338⟩ := own_arv V335 (j := (0 : Int32)) ⟨by decide, by decide⟩
              obtain ⟨T339, h339, X339, e339, W339, st339⟩ := stC X335 hx hZ e335 Ar338 (j := (0 : Int32)) hin338 (g := (mkF m 336 #[.val (.int p1), .val (.int p2), .val (.int p3), .val (.int p4), .val (.int f), .val (.int va), .val (.int vb), .val (.int kk), .unset, .unset, .unset, .unset] [(.int va), (.int (0 : Int32)), (.ref b335), (.ref b335)])) rfl rfl (hb hby at_336)
              have wq339 : nar .char va = va := hva.1
              rw [wq339] at W339
              have wf339 : fits .char (.int va) = true := wq339 ▸ (fits_nar_char _)
              have V339 : Arv Z h339 b335 k335 .char (5 : Int32) [(.int va), (.int (0 : Int32)), (.int (0 : Int32)), (.int (0 : Int32)), (.int (0 : Int32))] (.int (0 : Int32)) := set338 wf339 W339 0 rfl (Nat.le_of_ble_eq_true rfl)
              have N339 := Fr.snoc X339 N159 og_b335
              have K340 := K337.wr W339 (Or.inr sz_b335)
              have Z339 : n0 ≤ h339.size := Nat.le_trans Z335 (Keep.of_wr W339).1
              have kz341 : _ ≤ h339.size := Nat.le_trans kz336 (Keep.of_wr W339).1
              refine own_by st339 ?_
              show own_Go p e below _ T339 (mkF m 337 #[.val (.int p1), .val (.int p2), .val (.int p3), .val (.int p4), .val (.int f), .val (.int va), .val (.int vb), .val (.int kk), .unset, .unset, .unset, .unset] [(.ref b335)])
              refine own_by (fun _ k => XS.dup X339.here hx rfl (hb hby at_337) rfl rfl k) ?_
              show own_Go p e below _ T339 (mkF m 338 #[.val (.int p1), .val (.int p2), .val (.int p3), .val (.int p4), .val (.int f), .val (.int va), .val (.int vb), .val (.int kk), .unset, .unset, .unset, .unset] [(.ref b335), (.ref b335)])
              refine own_by (fun _ k => XS.iconst X339.here hx rfl (hb hby at_338) k) ?_
              show own_Go p e below _ T339 (mkF m 339 #[.val (.int p1), .val (.int p2), .val (.int p3), .val (.int p4), .val (.int f), .val (.int va), .val (.int vb), .val (.int kk), .unset, .unset, .unset, .unset] [(.int (1 : Int32)), (.ref b335), (.ref b335)])
              refine own_by (fun _ k => XS.bipush X339.here hx rfl (hb hby at_339) k) ?_
              show own_Go p e below _ T339 (mkF m 341 #[.val (.int p1), .val (.int p2), .val (.int p3), .val (.int p4), .val (.int f), .val (.int va), .val (.int vb), .val (.int kk), .unset, .unset, .unset, .unset] [(.int (108 : Int32)), (.int (1 : Int32)), (.ref b335), (.ref b335)])
              obtain ⟨cl342, Ar342, cq342, hin342, hat342, set342⟩ := own_arv V339 (j := (1 : Int32)) ⟨by decide, by decide⟩
              obtain ⟨T343, h343, X343, e343, W343, st343⟩ := stC X339 hx hZ e339 Ar342 (j := (1 : Int32)) hin342 (g := (mkF m 341 #[.val (.int p1), .val (.int p2), .val (.int p3), .val (.int p4), .val (.int f), .val (.int va), .val (.int vb), .val (.int kk), .unset, .unset, .unset, .unset] [(.int (108 : Int32)), (.int (1 : Int32)), (.ref b335), (.ref b335)])) rfl rfl (hb hby at_341)
              have wq343 : nar .char (108 : Int32) = (108 : Int32) := rfl
              rw [wq343] at W343
              have wf343 : fits .char (.int (108 : Int32)) = true := wq343 ▸ (fits_nar_char _)
              have V343 : Arv Z h343 b335 k335 .char (5 : Int32) [(.int va), (.int (108 : Int32)), (.int (0 : Int32)), (.int (0 : Int32)), (.int (0 : Int32))] (.int (0 : Int32)) := set342 wf343 W343 1 rfl (Nat.le_of_ble_eq_true rfl)
              have N343 := Fr.snoc X343 N339 og_b335
              have K344 := K340.wr W343 (Or.inr sz_b335)
              have Z343 : n0 ≤ h343.size := Nat.le_trans Z339 (Keep.of_wr W343).1
              have kz345 : _ ≤ h343.size := Nat.le_trans kz341 (Keep.of_wr W343).1
              refine own_by st343 ?_
              show own_Go p e below _ T343 (mkF m 342 #[.val (.int p1), .val (.int p2), .val (.int p3), .val (.int p4), .val (.int f), .val (.int va), .val (.int vb), .val (.int kk), .unset, .unset, .unset, .unset] [(.ref b335)])
              refine own_by (fun _ k => XS.dup X343.here hx rfl (hb hby at_342) rfl rfl k) ?_
              show own_Go p e below _ T343 (mkF m 343 #[.val (.int p1), .val (.int p2), .val (.int p3), .val (.int p4), .val (.int f), .val (.int va), .val (.int vb), .val (.int kk), .unset, .unset, .unset, .unset] [(.ref b335), (.ref b335)])
              refine own_by (fun _ k => XS.iconst X343.here hx rfl (hb hby at_343) k) ?_
              show own_Go p e below _ T343 (mkF m 344 #[.val (.int p1), .val (.int p2), .val (.int p3), .val (.int p4), .val (.int f), .val (.int va), .val (.int vb), .val (.int kk), .unset, .unset, .unset, .unset] [(.int (2 : Int32)), (.ref b335), (.ref b335)])
              refine own_by (fun _ k => XS.bipush X343.here hx rfl (hb hby at_344) k) ?_
              show own_Go p e below _ T343 (mkF m 346 #[.val (.int p1), .val (.int p2), .val (.int p3), .val (.int p4), .val (.int f), .val (.int va), .val (.int vb), .val (.int kk), .unset, .unset, .unset, .unset] [(.int (111 : Int32)), (.int (2 : Int32)), (.ref b335), (.ref b335)])
              obtain ⟨cl346, Ar346, cq346, hin346, hat346, set346⟩ := own_arv V343 (j := (2 : Int32)) ⟨by decide, by decide⟩
              obtain ⟨T347, h347, X347, e347, W347, st347⟩ := stC X343 hx hZ e343 Ar346 (j := (2 : Int32)) hin346 (g := (mkF m 346 #[.val (.int p1), .val (.int p2), .val (.int p3), .val (.int p4), .val (.int f), .val (.int va), .val (.int vb), .val (.int kk), .unset, .unset, .unset, .unset] [(.int (111 : Int32)), (.int (2 : Int32)), (.ref b335), (.ref b335)])) rfl rfl (hb hby at_346)
              have wq347 : nar .char (111 : Int32) = (111 : Int32) := rfl
              rw [wq347] at W347
              have wf347 : fits .char (.int (111 : Int32)) = true := wq347 ▸ (fits_nar_char _)
              have V347 : Arv Z h347 b335 k335 .char (5 : Int32) [(.int va), (.int (108 : Int32)), (.int (111 : Int32)), (.int (0 : Int32)), (.int (0 : Int32))] (.int (0 : Int32)) := set346 wf347 W347 2 rfl (Nat.le_of_ble_eq_true rfl)
              have N347 := Fr.snoc X347 N343 og_b335
              have K348 := K344.wr W347 (Or.inr sz_b335)
              have Z347 : n0 ≤ h347.size := Nat.le_trans Z343 (Keep.of_wr W347).1
              have kz349 : _ ≤ h347.size := Nat.le_trans kz345 (Keep.of_wr W347).1
              refine own_by st347 ?_
              show own_Go p e below _ T347 (mkF m 347 #[.val (.int p1), .val (.int p2), .val (.int p3), .val (.int p4), .val (.int f), .val (.int va), .val (.int vb), .val (.int kk), .unset, .unset, .unset, .unset] [(.ref b335)])
              refine own_by (fun _ k => XS.dup X347.here hx rfl (hb hby at_347) rfl rfl k) ?_
              show own_Go p e below _ T347 (mkF m 348 #[.val (.int p1), .val (.int p2), .val (.int p3), .val (.int p4), .val (.int f), .val (.int va), .val (.int vb), .val (.int kk), .unset, .unset, .unset, .unset] [(.ref b335), (.ref b335)])
              refine own_by (fun _ k => XS.iconst X347.here hx rfl (hb hby at_348) k) ?_
              show own_Go p e below _ T347 (mkF m 349 #[.val (.int p1), .val (.int p2), .val (.int p3), .val (.int p4), .val (.int f), .val (.int va), .val (.int vb), .val (.int kk), .unset, .unset, .unset, .unset] [(.int (3 : Int32)), (.ref b335), (.ref b335)])
              refine own_by (fun _ k => XS.bipush X347.here hx rfl (hb hby at_349) k) ?_
              show own_Go p e below _ T347 (mkF m 351 #[.val (.int p1), .val (.int p2), .val (.int p3), .val (.int p4), .val (.int f), .val (.int va), .val (.int vb), .val (.int kk), .unset, .unset, .unset, .unset] [(.int (115 : Int32)), (.int (3 : Int32)), (.ref b335), (.ref b335)])
              obtain ⟨cl350, Ar350, cq350, hin350, hat350, set350⟩ := own_arv V347 (j := (3 : Int32)) ⟨by decide, by decide⟩
              obtain ⟨T351, h351, X351, e351, W351, st351⟩ := stC X347 hx hZ e347 Ar350 (j := (3 : Int32)) hin350 (g := (mkF m 351 #[.val (.int p1), .val (.int p2), .val (.int p3), .val (.int p4), .val (.int f), .val (.int va), .val (.int vb), .val (.int kk), .unset, .unset, .unset, .unset] [(.int (115 : Int32)), (.int (3 : Int32)), (.ref b335), (.ref b335)])) rfl rfl (hb hby at_351)
              have wq351 : nar .char (115 : Int32) = (115 : Int32) := rfl
              rw [wq351] at W351
              have wf351 : fits .char (.int (115 : Int32)) = true := wq351 ▸ (fits_nar_char _)
              have V351 : Arv Z h351 b335 k335 .char (5 : Int32) [(.int va), (.int (108 : Int32)), (.int (111 : Int32)), (.int (115 : Int32)), (.int (0 : Int32))] (.int (0 : Int32)) := set350 wf351 W351 3 rfl (Nat.le_of_ble_eq_true rfl)
              have N351 := Fr.snoc X351 N347 og_b335
              have K352 := K348.wr W351 (Or.inr sz_b335)
              have Z351 : n0 ≤ h351.size := Nat.le_trans Z347 (Keep.of_wr W351).1
              have kz353 : _ ≤ h351.size := Nat.le_trans kz349 (Keep.of_wr W351).1
              refine own_by st351 ?_
              show own_Go p e below _ T351 (mkF m 352 #[.val (.int p1), .val (.int p2), .val (.int p3), .val (.int p4), .val (.int f), .val (.int va), .val (.int vb), .val (.int kk), .unset, .unset, .unset, .unset] [(.ref b335)])
              refine own_by (fun _ k => XS.dup X351.here hx rfl (hb hby at_352) rfl rfl k) ?_
              show own_Go p e below _ T351 (mkF m 353 #[.val (.int p1), .val (.int p2), .val (.int p3), .val (.int p4), .val (.int f), .val (.int va), .val (.int vb), .val (.int kk), .unset, .unset, .unset, .unset] [(.ref b335), (.ref b335)])
              refine own_by (fun _ k => XS.iconst X351.here hx rfl (hb hby at_353) k) ?_
              show own_Go p e below _ T351 (mkF m 354 #[.val (.int p1), .val (.int p2), .val (.int p3), .val (.int p4), .val (.int f), .val (.int va), .val (.int vb), .val (.int kk), .unset, .unset, .unset, .unset] [(.int (4 : Int32)), (.ref b335), (.ref b335)])
              refine own_by (fun _ k => XS.iload X351.here hx rfl (hb hby at_354) rfl k) ?_
              show own_Go p e below _ T351 (mkF m 356 #[.val (.int p1), .val (.int p2), .val (.int p3), .val (.int p4), .val (.int f), .val (.int va), .val (.int vb), .val (.int kk), .unset, .unset, .unset, .unset] [(.int vb), (.int (4 : Int32)), (.ref b335), (.ref b335)])
              obtain ⟨cl354, Ar354, cq354, hin354, hat354, set354⟩ := own_arv V351 (j := (4 : Int32)) ⟨by decide, by decide⟩
              obtain ⟨T355, h355, X355, e355, W355, st355⟩ := stC X351 hx hZ e351 Ar354 (j := (4 : Int32)) hin354 (g := (mkF m 356 #[.val (.int p1), .val (.int p2), .val (.int p3), .val (.int p4), .val (.int f), .val (.int va), .val (.int vb), .val (.int kk), .unset, .unset, .unset, .unset] [(.int vb), (.int (4 : Int32)), (.ref b335), (.ref b335)])) rfl rfl (hb hby at_356)
              have wq355 : nar .char vb = vb := hvb.1
              rw [wq355] at W355
              have wf355 : fits .char (.int vb) = true := wq355 ▸ (fits_nar_char _)
              have V355 : Arv Z h355 b335 k335 .char (5 : Int32) [(.int va), (.int (108 : Int32)), (.int (111 : Int32)), (.int (115 : Int32)), (.int vb)] (.int (0 : Int32)) := set354 wf355 W355 4 rfl (Nat.le_of_ble_eq_true rfl)
              have N355 := Fr.snoc X355 N351 og_b335
              have K356 := K352.wr W355 (Or.inr sz_b335)
              have Z355 : n0 ≤ h355.size := Nat.le_trans Z351 (Keep.of_wr W355).1
              have kz357 : _ ≤ h355.size := Nat.le_trans kz353 (Keep.of_wr W355).1
              refine own_by st355 ?_
              show own_Go p e below _ T355 (mkF m 357 #[.val (.int p1), .val (.int p2), .val (.int p3), .val (.int p4), .val (.int f), .val (.int va), .val (.int vb), .val (.int kk), .unset, .unset, .unset, .unset] [(.ref b335)])
              refine own_by (fun _ k => XS.astore X355.here hx rfl (hb hby at_357) rfl rfl (l' := #[.val (.int p1), .val (.int p2), .val (.int p3), .val (.int p4), .val (.int f), .val (.int va), .val (.int vb), .val (.int kk), .val (.ref b335), .unset, .unset, .unset]) rfl k) ?_
              show own_Go p e below _ T355 (mkF m 359 #[.val (.int p1), .val (.int p2), .val (.int p3), .val (.int p4), .val (.int f), .val (.int va), .val (.int vb), .val (.int kk), .val (.ref b335), .unset, .unset, .unset] [])
              refine own_by (fun _ k => XS.iconst X355.here hx rfl (hb hby at_359) k) ?_
              show own_Go p e below _ T355 (mkF m 360 #[.val (.int p1), .val (.int p2), .val (.int p3), .val (.int p4), .val (.int f), .val (.int va), .val (.int vb), .val (.int kk), .val (.ref b335), .unset, .unset, .unset] [(.int (0 : Int32))])
              refine own_by (fun _ k => XS.istore X355.here hx rfl (hb hby at_360) rfl (l' := #[.val (.int p1), .val (.int p2), .val (.int p3), .val (.int p4), .val (.int f), .val (.int va), .val (.int vb), .val (.int kk), .val (.ref b335), .val (.int (0 : Int32)), .unset, .unset]) rfl k) ?_
              show own_Go p e below _ T355 (mkF m 362 #[.val (.int p1), .val (.int p2), .val (.int p3), .val (.int p4), .val (.int f), .val (.int va), .val (.int vb), .val (.int kk), .val (.ref b335), .val (.int (0 : Int32)), .unset, .unset] [])
              refine own_by (fun _ k => XS.iload X355.here hx rfl (hb hby at_362) rfl k) ?_
              show own_Go p e below _ T355 (mkF m 364 #[.val (.int p1), .val (.int p2), .val (.int p3), .val (.int p4), .val (.int f), .val (.int va), .val (.int vb), .val (.int kk), .val (.ref b335), .val (.int (0 : Int32)), .unset, .unset] [(.int va)])
              refine own_by (fun _ k => XS.bipush X355.here hx rfl (hb hby at_364) k) ?_
              show own_Go p e below _ T355 (mkF m 366 #[.val (.int p1), .val (.int p2), .val (.int p3), .val (.int p4), .val (.int f), .val (.int va), .val (.int vb), .val (.int kk), .val (.ref b335), .val (.int (0 : Int32)), .unset, .unset] [(.int (99 : Int32)), (.int va)])
              by_cases h1 : va = (99 : Int32)
              · refine own_by (fun _ k => XS.icmpNo X355.here hx rfl (hb hby at_366) rfl (teq (h1 : va = (99 : Int32))).2 k) ?_
                show own_Go p e below _ T355 (mkF m 369 #[.val (.int p1), .val (.int p2), .val (.int p3), .val (.int p4), .val (.int f), .val (.int va), .val (.int vb), .val (.int kk), .val (.ref b335), .val (.int (0 : Int32)), .unset, .unset] [])
                refine own_by (fun _ k => XS.iload X355.here hx rfl (hb hby at_369) rfl k) ?_
                show own_Go p e below _ T355 (mkF m 371 #[.val (.int p1), .val (.int p2), .val (.int p3), .val (.int p4), .val (.int f), .val (.int va), .val (.int vb), .val (.int kk), .val (.ref b335), .val (.int (0 : Int32)), .unset, .unset] [(.int vb)])
                refine own_by (fun _ k => XS.bipush X355.here hx rfl (hb hby at_371) k) ?_
                show own_Go p e below _ T355 (mkF m 373 #[.val (.int p1), .val (.int p2), .val (.int p3), .val (.int p4), .val (.int f), .val (.int va), .val (.int vb), .val (.int kk), .val (.ref b335), .val (.int (0 : Int32)), .unset, .unset] [(.int (101 : Int32)), (.int vb)])
                by_cases h2 : vb = (101 : Int32)
                · refine own_by (fun _ k => XS.icmpNo X355.here hx rfl (hb hby at_373) rfl (teq (h2 : vb = (101 : Int32))).2 k) ?_
                  show own_Go p e below _ T355 (mkF m 376 #[.val (.int p1), .val (.int p2), .val (.int p3), .val (.int p4), .val (.int f), .val (.int va), .val (.int vb), .val (.int kk), .val (.ref b335), .val (.int (0 : Int32)), .unset, .unset] [])
                  refine own_by (fun _ k => XS.iconst X355.here hx rfl (hb hby at_376) k) ?_
                  show own_Go p e below _ T355 (mkF m 377 #[.val (.int p1), .val (.int p2), .val (.int p3), .val (.int p4), .val (.int f), .val (.int va), .val (.int vb), .val (.int kk), .val (.ref b335), .val (.int (0 : Int32)), .unset, .unset] [(.int (1 : Int32))])
                  refine own_by (fun _ k => XS.goto X355.here hx rfl (pc0 := 377) (pc' := 381) rfl (hb hby at_377) (by decide) (by decide) k) ?_
                  show own_Go p e below _ T355 (mkF m 381 #[.val (.int p1), .val (.int p2), .val (.int p3), .val (.int p4), .val (.int f), .val (.int va), .val (.int vb), .val (.int kk), .val (.ref b335), .val (.int (0 : Int32)), .unset, .unset] [(.int (1 : Int32))])
                  refine own_by (fun _ k => XS.istore X355.here hx rfl (hb hby at_381) rfl (l' := #[.val (.int p1), .val (.int p2), .val (.int p3), .val (.int p4), .val (.int f), .val (.int va), .val (.int vb), .val (.int kk), .val (.ref b335), .val (.int (0 : Int32)), .val (.int (1 : Int32)), .unset]) rfl k) ?_
                  show own_Go p e below _ T355 (mkF m 383 #[.val (.int p1), .val (.int p2), .val (.int p3), .val (.int p4), .val (.int f), .val (.int va), .val (.int vb), .val (.int kk), .val (.ref b335), .val (.int (0 : Int32)), .val (.int (1 : Int32)), .unset] [])
                  refine own_by (fun _ k => XS.goto X355.here hx rfl (pc0 := 383) (pc' := 758) rfl (hb hby at_383) (by decide) (by decide) k) ?_
                  show own_Go p e below _ T355 (mkF m 758 #[.val (.int p1), .val (.int p2), .val (.int p3), .val (.int p4), .val (.int f), .val (.int va), .val (.int vb), .val (.int kk), .val (.ref b335), .val (.int (0 : Int32)), .val (.int (1 : Int32)), .unset] [])
                  exact J758 T355 _ h355 (X355.more (Nat.le_refl _) (by decide)) e355 N355 K356 b335 _ [va, 108, 111, 115, vb] _ _ og_b335 ⟨by simp, by simp⟩ (by intro c hc; simp only [List.mem_cons, List.not_mem_nil, or_false] at hc; rcases hc with rfl | rfl | rfl | rfl | rfl <;> first | exact hva | exact hvb | (unfold own_ch; decide)) (by rw [own_keep4 va vb]; rfl) (by rw [own_close4 va vb, (own_tbq hva).1.mpr h1, (own_tbq hvb).2.1.mpr h2]; rfl) V355
                · refine own_by (fun _ k => XS.icmpYes X355.here hx rfl (pc0 := 373) (pc' := 380) rfl (hb hby at_373) rfl (feq (h2 : ¬ (vb = (101 : Int32)))).2 (by decide) (by decide) k) ?_
                  show own_Go p e below _ T355 (mkF m 380 #[.val (.int p1), .val (.int p2), .val (.int p3), .val (.int p4), .val (.int f), .val (.int va), .val (.int vb), .val (.int kk), .val (.ref b335), .val (.int (0 : Int32)), .unset, .unset] [])
                  refine own_by (fun _ k => XS.iconst X355.here hx rfl (hb hby at_380) k) ?_
                  show own_Go p e below _ T355 (mkF m 381 #[.val (.int p1), .val (.int p2), .val (.int p3), .val (.int p4), .val (.int f), .val (.int va), .val (.int vb), .val (.int kk), .val (.ref b335), .val (.int (0 : Int32)), .unset, .unset] [(.int (0 : Int32))])
                  refine own_by (fun _ k => XS.istore X355.here hx rfl (hb hby at_381) rfl (l' := #[.val (.int p1), .val (.int p2), .val (.int p3), .val (.int p4), .val (.int f), .val (.int va), .val (.int vb), .val (.int kk), .val (.ref b335), .val (.int (0 : Int32)), .val (.int (0 : Int32)), .unset]) rfl k) ?_
                  show own_Go p e below _ T355 (mkF m 383 #[.val (.int p1), .val (.int p2), .val (.int p3), .val (.int p4), .val (.int f), .val (.int va), .val (.int vb), .val (.int kk), .val (.ref b335), .val (.int (0 : Int32)), .val (.int (0 : Int32)), .unset] [])
                  refine own_by (fun _ k => XS.goto X355.here hx rfl (pc0 := 383) (pc' := 758) rfl (hb hby at_383) (by decide) (by decide) k) ?_
                  show own_Go p e below _ T355 (mkF m 758 #[.val (.int p1), .val (.int p2), .val (.int p3), .val (.int p4), .val (.int f), .val (.int va), .val (.int vb), .val (.int kk), .val (.ref b335), .val (.int (0 : Int32)), .val (.int (0 : Int32)), .unset] [])
                  exact J758 T355 _ h355 (X355.more (Nat.le_refl _) (by decide)) e355 N355 K356 b335 _ [va, 108, 111, 115, vb] _ _ og_b335 ⟨by simp, by simp⟩ (by intro c hc; simp only [List.mem_cons, List.not_mem_nil, or_false] at hc; rcases hc with rfl | rfl | rfl | rfl | rfl <;> first | exact hva | exact hvb | (unfold own_ch; decide)) (by rw [own_keep4 va vb]; rfl) (by rw [own_close4 va vb, (own_tbq hva).1.mpr h1, beq_eq_false_iff_ne.mpr (fun q => h2 ((own_tbq hvb).2.1.mp q)), Bool.and_false]; rfl) V355
              · refine own_by (fun _ k => XS.icmpYes X355.here hx rfl (pc0 := 366) (pc' := 380) rfl (hb hby at_366) rfl (feq (h1 : ¬ (va = (99 : Int32)))).2 (by decide) (by decide) k) ?_
                show own_Go p e below _ T355 (mkF m 380 #[.val (.int p1), .val (.int p2), .val (.int p3), .val (.int p4), .val (.int f), .val (.int va), .val (.int vb), .val (.int kk), .val (.ref b335), .val (.int (0 : Int32)), .unset, .unset] [])
                refine own_by (fun _ k => XS.iconst X355.here hx rfl (hb hby at_380) k) ?_
                show own_Go p e below _ T355 (mkF m 381 #[.val (.int p1), .val (.int p2), .val (.int p3), .val (.int p4), .val (.int f), .val (.int va), .val (.int vb), .val (.int kk), .val (.ref b335), .val (.int (0 : Int32)), .unset, .unset] [(.int (0 : Int32))])
                refine own_by (fun _ k => XS.istore X355.here hx rfl (hb hby at_381) rfl (l' := #[.val (.int p1), .val (.int p2), .val (.int p3), .val (.int p4), .val (.int f), .val (.int va), .val (.int vb), .val (.int kk), .val (.ref b335), .val (.int (0 : Int32)), .val (.int (0 : Int32)), .unset]) rfl k) ?_
                show own_Go p e below _ T355 (mkF m 383 #[.val (.int p1), .val (.int p2), .val (.int p3), .val (.int p4), .val (.int f), .val (.int va), .val (.int vb), .val (.int kk), .val (.ref b335), .val (.int (0 : Int32)), .val (.int (0 : Int32)), .unset] [])
                refine own_by (fun _ k => XS.goto X355.here hx rfl (pc0 := 383) (pc' := 758) rfl (hb hby at_383) (by decide) (by decide) k) ?_
                show own_Go p e below _ T355 (mkF m 758 #[.val (.int p1), .val (.int p2), .val (.int p3), .val (.int p4), .val (.int f), .val (.int va), .val (.int vb), .val (.int kk), .val (.ref b335), .val (.int (0 : Int32)), .val (.int (0 : Int32)), .unset] [])
                exact J758 T355 _ h355 (X355.more (Nat.le_refl _) (by decide)) e355 N355 K356 b335 _ [va, 108, 111, 115, vb] _ _ og_b335 ⟨by simp, by simp⟩ (by intro c hc; simp only [List.mem_cons, List.not_mem_nil, or_false] at hc; rcases hc with rfl | rfl | rfl | rfl | rfl <;> first | exact hva | exact hvb | (unfold own_ch; decide)) (by rw [own_keep4 va vb]; rfl) (by rw [own_close4 va vb, beq_eq_false_iff_ne.mpr (fun q => h1 ((own_tbq hva).1.mp q)), Bool.false_and]; rfl) V355
            · refine own_by (fun _ k => XS.icmpYes X159.here hx rfl (pc0 := 326) (pc' := 386) rfl (hb hby at_326) rfl (feq (hk4 : ¬ (kk = (4 : Int32)))).2 (by decide) (by decide) k) ?_
              show own_Go p e below _ T159 (mkF m 386 #[.val (.int p1), .val (.int p2), .val (.int p3), .val (.int p4), .val (.int f), .val (.int va), .val (.int vb), .val (.int kk), .unset, .unset, .unset, .unset] [])
              refine own_by (fun _ k => XS.iload X159.here hx rfl (hb hby at_386) rfl k) ?_
              show own_Go p e below _ T159 (mkF m 388 #[.val (.int p1), .val (.int p2), .val (.int p3), .val (.int p4), .val (.int f), .val (.int va), .val (.int vb), .val (.int kk), .unset, .unset, .unset, .unset] [(.int kk)])
              refine own_by (fun _ k => XS.iconst X159.here hx rfl (hb hby at_388) k) ?_
              show own_Go p e below _ T159 (mkF m 389 #[.val (.int p1), .val (.int p2), .val (.int p3), .val (.int p4), .val (.int f), .val (.int va), .val (.int vb), .val (.int kk), .unset, .unset, .unset, .unset] [(.int (5 : Int32)), (.int kk)])
              by_cases hk5 : kk = (5 : Int32)
              · refine own_by (fun _ k => XS.icmpNo X159.here hx rfl (hb hby at_389) rfl (teq (hk5 : kk = (5 : Int32))).2 k) ?_
                show own_Go p e below _ T159 (mkF m 392 #[.val (.int p1), .val (.int p2), .val (.int p3), .val (.int p4), .val (.int f), .val (.int va), .val (.int vb), .val (.int kk), .unset, .unset, .unset, .unset] [])
                refine own_by (fun _ k => XS.bipush X159.here hx rfl (hb hby at_392) k) ?_
                show own_Go p e below _ T159 (mkF m 394 #[.val (.int p1), .val (.int p2), .val (.int p3), .val (.int p4), .val (.int f), .val (.int va), .val (.int vb), .val (.int kk), .unset, .unset, .unset, .unset] [(.int (10 : Int32))])
                obtain ⟨T358, h358, k358, X358, e358, E358, A358, C358, st358⟩ := newPE X159 hx hZ (hw _ (List.mem_of_getElem? (i := 5) rfl)) e159 (g := (mkF m 394 #[.val (.int p1), .val (.int p2), .val (.int p3), .val (.int p4), .val (.int f), .val (.int va), .val (.int vb), .val (.int kk), .unset, .unset, .unset, .unset] [(.int (10 : Int32))])) rfl (hb hby at_394) rfl (by decide) (cap := 10) (by decide) (by decide) (by decide) (by decide) (ad := "[C") (by decide)
                obtain ⟨b358, g358⟩ : ∃ zq, zq = h0.size := ⟨_, rfl⟩
                rw [← g358] at A358 C358 st358
                have og_b358 : n0 ≤ b358 := Nat.le_trans Z0 (Nat.le_of_eq g358.symm)
                have sz_b358 : h0.size ≤ b358 := Nat.le_trans K0.1 (Nat.le_of_eq g358.symm)
                have Z358 : n0 ≤ h358.size := Nat.le_trans Z0 E358.1
                have kz359 : _ ≤ h358.size := Nat.le_trans kz0 E358.1
                have K360 := K0.ext E358
                have V358 : Arv Z h358 b358 k358 .char (10 : Int32) [(.int (0 : Int32)), (.int (0 : Int32)), (.int (0 : Int32)), (.int (0 : Int32)), (.int (0 : Int32)), (.int (0 : Int32)), (.int (0 : Int32)), (.int (0 : Int32)), (.int (0 : Int32)), (.int (0 : Int32))] (.int (0 : Int32)) := (Arv.new A358 (by decide)).pad (pad_rep [] (.int (0 : Int32)) 10)
                refine own_by st358 ?_
                show own_Go p e below _ T358 (mkF m 396 #[.val (.int p1), .val (.int p2), .val (.int p3), .val (.int p4), .val (.int f), .val (.int va), .val (.int vb), .val (.int kk), .unset, .unset, .unset, .unset] [(.ref b358)])
                refine own_by (fun _ k => XS.dup X358.here hx rfl (hb hby at_396) rfl rfl k) ?_
                show own_Go p e below _ T358 (mkF m 397 #[.val (.int p1), .val (.int p2), .val (.int p3), .val (.int p4), .val (.int f), .val (.int va), .val (.int vb), .val (.int kk), .unset, .unset, .unset, .unset] [(.ref b358), (.ref b358)])
                refine own_by (fun _ k => XS.iconst X358.here hx rfl (hb hby at_397) k) ?_
                show own_Go p e below _ T358 (mkF m 398 #[.val (.int p1), .val (.int p2), .val (.int p3), .val (.int p4), .val (.int f), .val (.int va), .val (.int vb), .val (.int kk), .unset, .unset, .unset, .unset] [(.int (0 : Int32)), (.ref b358), (.ref b358)])
                refine own_by (fun _ k => XS.iload X358.here hx rfl (hb hby at_398) rfl k) ?_
                show own_Go p e below _ T358 (mkF m 400 #[.val (.int p1), .val (.int p2), .val (.int p3), .val (.int p4), .val (.int f), .val (.int va), .val (.int vb), .val (.int kk), .unset, .unset, .unset, .unset] [(.int va), (.int (0 : Int32)), (.ref b358), (.ref b358)])
                obtain ⟨cl361, Ar361, cq361, hin361, hat361, set361⟩ := own_arv V358 (j := (0 : Int32)) ⟨by decide, by decide⟩
                obtain ⟨T362, h362, X362, e362, W362, st362⟩ := stC X358 hx hZ e358 Ar361 (j := (0 : Int32)) hin361 (g := (mkF m 400 #[.val (.int p1), .val (.int p2), .val (.int p3), .val (.int p4), .val (.int f), .val (.int va), .val (.int vb), .val (.int kk), .unset, .unset, .unset, .unset] [(.int va), (.int (0 : Int32)), (.ref b358), (.ref b358)])) rfl rfl (hb hby at_400)
                have wq362 : nar .char va = va := hva.1
                rw [wq362] at W362
                have wf362 : fits .char (.int va) = true := wq362 ▸ (fits_nar_char _)
                have V362 : Arv Z h362 b358 k358 .char (10 : Int32) [(.int va), (.int (0 : Int32)), (.int (0 : Int32)), (.int (0 : Int32)), (.int (0 : Int32)), (.int (0 : Int32)), (.int (0 : Int32)), (.int (0 : Int32)), (.int (0 : Int32)), (.int (0 : Int32))] (.int (0 : Int32)) := set361 wf362 W362 0 rfl (Nat.le_of_ble_eq_true rfl)
                have N362 := Fr.snoc X362 N159 og_b358
                have K363 := K360.wr W362 (Or.inr sz_b358)
                have Z362 : n0 ≤ h362.size := Nat.le_trans Z358 (Keep.of_wr W362).1
                have kz364 : _ ≤ h362.size := Nat.le_trans kz359 (Keep.of_wr W362).1
                refine own_by st362 ?_
                show own_Go p e below _ T362 (mkF m 401 #[.val (.int p1), .val (.int p2), .val (.int p3), .val (.int p4), .val (.int f), .val (.int va), .val (.int vb), .val (.int kk), .unset, .unset, .unset, .unset] [(.ref b358)])
                refine own_by (fun _ k => XS.dup X362.here hx rfl (hb hby at_401) rfl rfl k) ?_
                show own_Go p e below _ T362 (mkF m 402 #[.val (.int p1), .val (.int p2), .val (.int p3), .val (.int p4), .val (.int f), .val (.int va), .val (.int vb), .val (.int kk), .unset, .unset, .unset, .unset] [(.ref b358), (.ref b358)])
                refine own_by (fun _ k => XS.iconst X362.here hx rfl (hb hby at_402) k) ?_
                show own_Go p e below _ T362 (mkF m 403 #[.val (.int p1), .val (.int p2), .val (.int p3), .val (.int p4), .val (.int f), .val (.int va), .val (.int vb), .val (.int kk), .unset, .unset, .unset, .unset] [(.int (1 : Int32)), (.ref b358), (.ref b358)])
                refine own_by (fun _ k => XS.bipush X362.here hx rfl (hb hby at_403) k) ?_
                show own_Go p e below _ T362 (mkF m 405 #[.val (.int p1), .val (.int p2), .val (.int p3), .val (.int p4), .val (.int f), .val (.int va), .val (.int vb), .val (.int kk), .unset, .unset, .unset, .unset] [(.int (101 : Int32)), (.int (1 : Int32)), (.ref b358), (.ref b358)])
                obtain ⟨cl365, Ar365, cq365, hin365, hat365, set365⟩ := own_arv V362 (j := (1 : Int32)) ⟨by decide, by decide⟩
                obtain ⟨T366, h366, X366, e366, W366, st366⟩ := stC X362 hx hZ e362 Ar365 (j := (1 : Int32)) hin365 (g := (mkF m 405 #[.val (.int p1), .val (.int p2), .val (.int p3), .val (.int p4), .val (.int f), .val (.int va), .val (.int vb), .val (.int kk), .unset, .unset, .unset, .unset] [(.int (101 : Int32)), (.int (1 : Int32)), (.ref b358), (.ref b358)])) rfl rfl (hb hby at_405)
                have wq366 : nar .char (101 : Int32) = (101 : Int32) := rfl
                rw [wq366] at W366
                have wf366 : fits .char (.int (101 : Int32)) = true := wq366 ▸ (fits_nar_char _)
                have V366 : Arv Z h366 b358 k358 .char (10 : Int32) [(.int va), (.int (101 : Int32)), (.int (0 : Int32)), (.int (0 : Int32)), (.int (0 : Int32)), (.int (0 : Int32)), (.int (0 : Int32)), (.int (0 : Int32)), (.int (0 : Int32)), (.int (0 : Int32))] (.int (0 : Int32)) := set365 wf366 W366 1 rfl (Nat.le_of_ble_eq_true rfl)
                have N366 := Fr.snoc X366 N362 og_b358
                have K367 := K363.wr W366 (Or.inr sz_b358)
                have Z366 : n0 ≤ h366.size := Nat.le_trans Z362 (Keep.of_wr W366).1
                have kz368 : _ ≤ h366.size := Nat.le_trans kz364 (Keep.of_wr W366).1
                refine own_by st366 ?_
                show own_Go p e below _ T366 (mkF m 406 #[.val (.int p1), .val (.int p2), .val (.int p3), .val (.int p4), .val (.int f), .val (.int va), .val (.int vb), .val (.int kk), .unset, .unset, .unset, .unset] [(.ref b358)])
                refine own_by (fun _ k => XS.dup X366.here hx rfl (hb hby at_406) rfl rfl k) ?_
                show own_Go p e below _ T366 (mkF m 407 #[.val (.int p1), .val (.int p2), .val (.int p3), .val (.int p4), .val (.int f), .val (.int va), .val (.int vb), .val (.int kk), .unset, .unset, .unset, .unset] [(.ref b358), (.ref b358)])
                refine own_by (fun _ k => XS.iconst X366.here hx rfl (hb hby at_407) k) ?_
                show own_Go p e below _ T366 (mkF m 408 #[.val (.int p1), .val (.int p2), .val (.int p3), .val (.int p4), .val (.int f), .val (.int va), .val (.int vb), .val (.int kk), .unset, .unset, .unset, .unset] [(.int (2 : Int32)), (.ref b358), (.ref b358)])
                refine own_by (fun _ k => XS.bipush X366.here hx rfl (hb hby at_408) k) ?_
                show own_Go p e below _ T366 (mkF m 410 #[.val (.int p1), .val (.int p2), .val (.int p3), .val (.int p4), .val (.int f), .val (.int va), .val (.int vb), .val (.int kk), .unset, .unset, .unset, .unset] [(.int (101 : Int32)), (.int (2 : Int32)), (.ref b358), (.ref b358)])
                obtain ⟨cl369, Ar369, cq369, hin369, hat369, set369⟩ := own_arv V366 (j := (2 : Int32)) ⟨by decide, by decide⟩
                obtain ⟨T370, h370, X370, e370, W370, st370⟩ := stC X366 hx hZ e366 Ar369 (j := (2 : Int32)) hin369 (g := (mkF m 410 #[.val (.int p1), .val (.int p2), .val (.int p3), .val (.int p4), .val (.int f), .val (.int va), .val (.int vb), .val (.int kk), .unset, .unset, .unset, .unset] [(.int (101 : Int32)), (.int (2 : Int32)), (.ref b358), (.ref b358)])) rfl rfl (hb hby at_410)
                have wq370 : nar .char (101 : Int32) = (101 : Int32) := rfl
                rw [wq370] at W370
                have wf370 : fits .char (.int (101 : Int32)) = true := wq370 ▸ (fits_nar_char _)
                have V370 : Arv Z h370 b358 k358 .char (10 : Int32) [(.int va), (.int (101 : Int32)), (.int (101 : Int32)), (.int (0 : Int32)), (.int (0 : Int32)), (.int (0 : Int32)), (.int (0 : Int32)), (.int (0 : Int32)), (.int (0 : Int32)), (.int (0 : Int32))] (.int (0 : Int32)) := set369 wf370 W370 2 rfl (Nat.le_of_ble_eq_true rfl)
                have N370 := Fr.snoc X370 N366 og_b358
                have K371 := K367.wr W370 (Or.inr sz_b358)
                have Z370 : n0 ≤ h370.size := Nat.le_trans Z366 (Keep.of_wr W370).1
                have kz372 : _ ≤ h370.size := Nat.le_trans kz368 (Keep.of_wr W370).1
                refine own_by st370 ?_
                show own_Go p e below _ T370 (mkF m 411 #[.val (.int p1), .val (.int p2), .val (.int p3), .val (.int p4), .val (.int f), .val (.int va), .val (.int vb), .val (.int kk), .unset, .unset, .unset, .unset] [(.ref b358)])
                refine own_by (fun _ k => XS.dup X370.here hx rfl (hb hby at_411) rfl rfl k) ?_
                show own_Go p e below _ T370 (mkF m 412 #[.val (.int p1), .val (.int p2), .val (.int p3), .val (.int p4), .val (.int f), .val (.int va), .val (.int vb), .val (.int kk), .unset, .unset, .unset, .unset] [(.ref b358), (.ref b358)])
                refine own_by (fun _ k => XS.iconst X370.here hx rfl (hb hby at_412) k) ?_
                show own_Go p e below _ T370 (mkF m 413 #[.val (.int p1), .val (.int p2), .val (.int p3), .val (.int p4), .val (.int f), .val (.int va), .val (.int vb), .val (.int kk), .unset, .unset, .unset, .unset] [(.int (3 : Int32)), (.ref b358), (.ref b358)])
                refine own_by (fun _ k => XS.bipush X370.here hx rfl (hb hby at_413) k) ?_
                show own_Go p e below _ T370 (mkF m 415 #[.val (.int p1), .val (.int p2), .val (.int p3), .val (.int p4), .val (.int f), .val (.int va), .val (.int vb), .val (.int kk), .unset, .unset, .unset, .unset] [(.int (112 : Int32)), (.int (3 : Int32)), (.ref b358), (.ref b358)])
                obtain ⟨cl373, Ar373, cq373, hin373, hat373, set373⟩ := own_arv V370 (j := (3 : Int32)) ⟨by decide, by decide⟩
                obtain ⟨T374, h374, X374, e374, W374, st374⟩ := stC X370 hx hZ e370 Ar373 (j := (3 : Int32)) hin373 (g := (mkF m 415 #[.val (.int p1), .val (.int p2), .val (.int p3), .val (.int p4), .val (.int f), .val (.int va), .val (.int vb), .val (.int kk), .unset, .unset, .unset, .unset] [(.int (112 : Int32)), (.int (3 : Int32)), (.ref b358), (.ref b358)])) rfl rfl (hb hby at_415)
                have wq374 : nar .char (112 : Int32) = (112 : Int32) := rfl
                rw [wq374] at W374
                have wf374 : fits .char (.int (112 : Int32)) = true := wq374 ▸ (fits_nar_char _)
                have V374 : Arv Z h374 b358 k358 .char (10 : Int32) [(.int va), (.int (101 : Int32)), (.int (101 : Int32)), (.int (112 : Int32)), (.int (0 : Int32)), (.int (0 : Int32)), (.int (0 : Int32)), (.int (0 : Int32)), (.int (0 : Int32)), (.int (0 : Int32))] (.int (0 : Int32)) := set373 wf374 W374 3 rfl (Nat.le_of_ble_eq_true rfl)
                have N374 := Fr.snoc X374 N370 og_b358
                have K375 := K371.wr W374 (Or.inr sz_b358)
                have Z374 : n0 ≤ h374.size := Nat.le_trans Z370 (Keep.of_wr W374).1
                have kz376 : _ ≤ h374.size := Nat.le_trans kz372 (Keep.of_wr W374).1
                refine own_by st374 ?_
                show own_Go p e below _ T374 (mkF m 416 #[.val (.int p1), .val (.int p2), .val (.int p3), .val (.int p4), .val (.int f), .val (.int va), .val (.int vb), .val (.int kk), .unset, .unset, .unset, .unset] [(.ref b358)])
                refine own_by (fun _ k => XS.dup X374.here hx rfl (hb hby at_416) rfl rfl k) ?_
                show own_Go p e below _ T374 (mkF m 417 #[.val (.int p1), .val (.int p2), .val (.int p3), .val (.int p4), .val (.int f), .val (.int va), .val (.int vb), .val (.int kk), .unset, .unset, .unset, .unset] [(.ref b358), (.ref b358)])
                refine own_by (fun _ k => XS.iconst X374.here hx rfl (hb hby at_417) k) ?_
                show own_Go p e below _ T374 (mkF m 418 #[.val (.int p1), .val (.int p2), .val (.int p3), .val (.int p4), .val (.int f), .val (.int va), .val (.int vb), .val (.int kk), .unset, .unset, .unset, .unset] [(.int (4 : Int32)), (.ref b358), (.ref b358)])
                refine own_by (fun _ k => XS.bipush X374.here hx rfl (hb hby at_418) k) ?_
                show own_Go p e below _ T374 (mkF m 420 #[.val (.int p1), .val (.int p2), .val (.int p3), .val (.int p4), .val (.int f), .val (.int va), .val (.int vb), .val (.int kk), .unset, .unset, .unset, .unset] [(.int (45 : Int32)), (.int (4 : Int32)), (.ref b358), (.ref b358)])
                obtain ⟨cl377, Ar377, cq377, hin377, hat377, set377⟩ := own_arv V374 (j := (4 : Int32)) ⟨by decide, by decide⟩
                obtain ⟨T378, h378, X378, e378, W378, st378⟩ := stC X374 hx hZ e374 Ar377 (j := (4 : Int32)) hin377 (g := (mkF m 420 #[.val (.int p1), .val (.int p2), .val (.int p3), .val (.int p4), .val (.int f), .val (.int va), .val (.int vb), .val (.int kk), .unset, .unset, .unset, .unset] [(.int (45 : Int32)), (.int (4 : Int32)), (.ref b358), (.ref b358)])) rfl rfl (hb hby at_420)
                have wq378 : nar .char (45 : Int32) = (45 : Int32) := rfl
                rw [wq378] at W378
                have wf378 : fits .char (.int (45 : Int32)) = true := wq378 ▸ (fits_nar_char _)
                have V378 : Arv Z h378 b358 k358 .char (10 : Int32) [(.int va), (.int (101 : Int32)), (.int (101 : Int32)), (.int (112 : Int32)), (.int (45 : Int32)), (.int (0 : Int32)), (.int (0 : Int32)), (.int (0 : Int32)), (.int (0 : Int32)), (.int (0 : Int32))] (.int (0 : Int32)) := set377 wf378 W378 4 rfl (Nat.le_of_ble_eq_true rfl)
                have N378 := Fr.snoc X378 N374 og_b358
                have K379 := K375.wr W378 (Or.inr sz_b358)
                have Z378 : n0 ≤ h378.size := Nat.le_trans Z374 (Keep.of_wr W378).1
                have kz380 : _ ≤ h378.size := Nat.le_trans kz376 (Keep.of_wr W378).1
                refine own_by st378 ?_
                show own_Go p e below _ T378 (mkF m 421 #[.val (.int p1), .val (.int p2), .val (.int p3), .val (.int p4), .val (.int f), .val (.int va), .val (.int vb), .val (.int kk), .unset, .unset, .unset, .unset] [(.ref b358)])
                refine own_by (fun _ k => XS.dup X378.here hx rfl (hb hby at_421) rfl rfl k) ?_
                show own_Go p e below _ T378 (mkF m 422 #[.val (.int p1), .val (.int p2), .val (.int p3), .val (.int p4), .val (.int f), .val (.int va), .val (.int vb), .val (.int kk), .unset, .unset, .unset, .unset] [(.ref b358), (.ref b358)])
                refine own_by (fun _ k => XS.iconst X378.here hx rfl (hb hby at_422) k) ?_
                show own_Go p e below _ T378 (mkF m 423 #[.val (.int p1), .val (.int p2), .val (.int p3), .val (.int p4), .val (.int f), .val (.int va), .val (.int vb), .val (.int kk), .unset, .unset, .unset, .unset] [(.int (5 : Int32)), (.ref b358), (.ref b358)])
                refine own_by (fun _ k => XS.bipush X378.here hx rfl (hb hby at_423) k) ?_
                show own_Go p e below _ T378 (mkF m 425 #[.val (.int p1), .val (.int p2), .val (.int p3), .val (.int p4), .val (.int f), .val (.int va), .val (.int vb), .val (.int kk), .unset, .unset, .unset, .unset] [(.int (97 : Int32)), (.int (5 : Int32)), (.ref b358), (.ref b358)])
                obtain ⟨cl381, Ar381, cq381, hin381, hat381, set381⟩ := own_arv V378 (j := (5 : Int32)) ⟨by decide, by decide⟩
                obtain ⟨T382, h382, X382, e382, W382, st382⟩ := stC X378 hx hZ e378 Ar381 (j := (5 : Int32)) hin381 (g := (mkF m 425 #[.val (.int p1), .val (.int p2), .val (.int p3), .val (.int p4), .val (.int f), .val (.int va), .val (.int vb), .val (.int kk), .unset, .unset, .unset, .unset] [(.int (97 : Int32)), (.int (5 : Int32)), (.ref b358), (.ref b358)])) rfl rfl (hb hby at_425)
                have wq382 : nar .char (97 : Int32) = (97 : Int32) := rfl
                rw [wq382] at W382
                have wf382 : fits .char (.int (97 : Int32)) = true := wq382 ▸ (fits_nar_char _)
                have V382 : Arv Z h382 b358 k358 .char (10 : Int32) [(.int va), (.int (101 : Int32)), (.int (101 : Int32)), (.int (112 : Int32)), (.int (45 : Int32)), (.int (97 : Int32)), (.int (0 : Int32)), (.int (0 : Int32)), (.int (0 : Int32)), (.int (0 : Int32))] (.int (0 : Int32)) := set381 wf382 W382 5 rfl (Nat.le_of_ble_eq_true rfl)
                have N382 := Fr.snoc X382 N378 og_b358
                have K383 := K379.wr W382 (Or.inr sz_b358)
                have Z382 : n0 ≤ h382.size := Nat.le_trans Z378 (Keep.of_wr W382).1
                have kz384 : _ ≤ h382.size := Nat.le_trans kz380 (Keep.of_wr W382).1
                refine own_by st382 ?_
                show own_Go p e below _ T382 (mkF m 426 #[.val (.int p1), .val (.int p2), .val (.int p3), .val (.int p4), .val (.int f), .val (.int va), .val (.int vb), .val (.int kk), .unset, .unset, .unset, .unset] [(.ref b358)])
                refine own_by (fun _ k => XS.dup X382.here hx rfl (hb hby at_426) rfl rfl k) ?_
                show own_Go p e below _ T382 (mkF m 427 #[.val (.int p1), .val (.int p2), .val (.int p3), .val (.int p4), .val (.int f), .val (.int va), .val (.int vb), .val (.int kk), .unset, .unset, .unset, .unset] [(.ref b358), (.ref b358)])
                refine own_by (fun _ k => XS.bipush X382.here hx rfl (hb hby at_427) k) ?_
                show own_Go p e below _ T382 (mkF m 429 #[.val (.int p1), .val (.int p2), .val (.int p3), .val (.int p4), .val (.int f), .val (.int va), .val (.int vb), .val (.int kk), .unset, .unset, .unset, .unset] [(.int (6 : Int32)), (.ref b358), (.ref b358)])
                refine own_by (fun _ k => XS.bipush X382.here hx rfl (hb hby at_429) k) ?_
                show own_Go p e below _ T382 (mkF m 431 #[.val (.int p1), .val (.int p2), .val (.int p3), .val (.int p4), .val (.int f), .val (.int va), .val (.int vb), .val (.int kk), .unset, .unset, .unset, .unset] [(.int (108 : Int32)), (.int (6 : Int32)), (.ref b358), (.ref b358)])
                obtain ⟨cl385, Ar385, cq385, hin385, hat385, set385⟩ := own_arv V382 (j := (6 : Int32)) ⟨by decide, by decide⟩
                obtain ⟨T386, h386, X386, e386, W386, st386⟩ := stC X382 hx hZ e382 Ar385 (j := (6 : Int32)) hin385 (g := (mkF m 431 #[.val (.int p1), .val (.int p2), .val (.int p3), .val (.int p4), .val (.int f), .val (.int va), .val (.int vb), .val (.int kk), .unset, .unset, .unset, .unset] [(.int (108 : Int32)), (.int (6 : Int32)), (.ref b358), (.ref b358)])) rfl rfl (hb hby at_431)
                have wq386 : nar .char (108 : Int32) = (108 : Int32) := rfl
                rw [wq386] at W386
                have wf386 : fits .char (.int (108 : Int32)) = true := wq386 ▸ (fits_nar_char _)
                have V386 : Arv Z h386 b358 k358 .char (10 : Int32) [(.int va), (.int (101 : Int32)), (.int (101 : Int32)), (.int (112 : Int32)), (.int (45 : Int32)), (.int (97 : Int32)), (.int (108 : Int32)), (.int (0 : Int32)), (.int (0 : Int32)), (.int (0 : Int32))] (.int (0 : Int32)) := set385 wf386 W386 6 rfl (Nat.le_of_ble_eq_true rfl)
                have N386 := Fr.snoc X386 N382 og_b358
                have K387 := K383.wr W386 (Or.inr sz_b358)
                have Z386 : n0 ≤ h386.size := Nat.le_trans Z382 (Keep.of_wr W386).1
                have kz388 : _ ≤ h386.size := Nat.le_trans kz384 (Keep.of_wr W386).1
                refine own_by st386 ?_
                show own_Go p e below _ T386 (mkF m 432 #[.val (.int p1), .val (.int p2), .val (.int p3), .val (.int p4), .val (.int f), .val (.int va), .val (.int vb), .val (.int kk), .unset, .unset, .unset, .unset] [(.ref b358)])
                refine own_by (fun _ k => XS.dup X386.here hx rfl (hb hby at_432) rfl rfl k) ?_
                show own_Go p e below _ T386 (mkF m 433 #[.val (.int p1), .val (.int p2), .val (.int p3), .val (.int p4), .val (.int f), .val (.int va), .val (.int vb), .val (.int kk), .unset, .unset, .unset, .unset] [(.ref b358), (.ref b358)])
                refine own_by (fun _ k => XS.bipush X386.here hx rfl (hb hby at_433) k) ?_
                show own_Go p e below _ T386 (mkF m 435 #[.val (.int p1), .val (.int p2), .val (.int p3), .val (.int p4), .val (.int f), .val (.int va), .val (.int vb), .val (.int kk), .unset, .unset, .unset, .unset] [(.int (7 : Int32)), (.ref b358), (.ref b358)])
                refine own_by (fun _ k => XS.bipush X386.here hx rfl (hb hby at_435) k) ?_
                show own_Go p e below _ T386 (mkF m 437 #[.val (.int p1), .val (.int p2), .val (.int p3), .val (.int p4), .val (.int f), .val (.int va), .val (.int vb), .val (.int kk), .unset, .unset, .unset, .unset] [(.int (105 : Int32)), (.int (7 : Int32)), (.ref b358), (.ref b358)])
                obtain ⟨cl389, Ar389, cq389, hin389, hat389, set389⟩ := own_arv V386 (j := (7 : Int32)) ⟨by decide, by decide⟩
                obtain ⟨T390, h390, X390, e390, W390, st390⟩ := stC X386 hx hZ e386 Ar389 (j := (7 : Int32)) hin389 (g := (mkF m 437 #[.val (.int p1), .val (.int p2), .val (.int p3), .val (.int p4), .val (.int f), .val (.int va), .val (.int vb), .val (.int kk), .unset, .unset, .unset, .unset] [(.int (105 : Int32)), (.int (7 : Int32)), (.ref b358), (.ref b358)])) rfl rfl (hb hby at_437)
                have wq390 : nar .char (105 : Int32) = (105 : Int32) := rfl
                rw [wq390] at W390
                have wf390 : fits .char (.int (105 : Int32)) = true := wq390 ▸ (fits_nar_char _)
                have V390 : Arv Z h390 b358 k358 .char (10 : Int32) [(.int va), (.int (101 : Int32)), (.int (101 : Int32)), (.int (112 : Int32)), (.int (45 : Int32)), (.int (97 : Int32)), (.int (108 : Int32)), (.int (105 : Int32)), (.int (0 : Int32)), (.int (0 : Int32))] (.int (0 : Int32)) := set389 wf390 W390 7 rfl (Nat.le_of_ble_eq_true rfl)
                have N390 := Fr.snoc X390 N386 og_b358
                have K391 := K387.wr W390 (Or.inr sz_b358)
                have Z390 : n0 ≤ h390.size := Nat.le_trans Z386 (Keep.of_wr W390).1
                have kz392 : _ ≤ h390.size := Nat.le_trans kz388 (Keep.of_wr W390).1
                refine own_by st390 ?_
                show own_Go p e below _ T390 (mkF m 438 #[.val (.int p1), .val (.int p2), .val (.int p3), .val (.int p4), .val (.int f), .val (.int va), .val (.int vb), .val (.int kk), .unset, .unset, .unset, .unset] [(.ref b358)])
                refine own_by (fun _ k => XS.dup X390.here hx rfl (hb hby at_438) rfl rfl k) ?_
                show own_Go p e below _ T390 (mkF m 439 #[.val (.int p1), .val (.int p2), .val (.int p3), .val (.int p4), .val (.int f), .val (.int va), .val (.int vb), .val (.int kk), .unset, .unset, .unset, .unset] [(.ref b358), (.ref b358)])
                refine own_by (fun _ k => XS.bipush X390.here hx rfl (hb hby at_439) k) ?_
                show own_Go p e below _ T390 (mkF m 441 #[.val (.int p1), .val (.int p2), .val (.int p3), .val (.int p4), .val (.int f), .val (.int va), .val (.int vb), .val (.int kk), .unset, .unset, .unset, .unset] [(.int (8 : Int32)), (.ref b358), (.ref b358)])
                refine own_by (fun _ k => XS.bipush X390.here hx rfl (hb hby at_441) k) ?_
                show own_Go p e below _ T390 (mkF m 443 #[.val (.int p1), .val (.int p2), .val (.int p3), .val (.int p4), .val (.int f), .val (.int va), .val (.int vb), .val (.int kk), .unset, .unset, .unset, .unset] [(.int (118 : Int32)), (.int (8 : Int32)), (.ref b358), (.ref b358)])
                obtain ⟨cl393, Ar393, cq393, hin393, hat393, set393⟩ := own_arv V390 (j := (8 : Int32)) ⟨by decide, by decide⟩
                obtain ⟨T394, h394, X394, e394, W394, st394⟩ := stC X390 hx hZ e390 Ar393 (j := (8 : Int32)) hin393 (g := (mkF m 443 #[.val (.int p1), .val (.int p2), .val (.int p3), .val (.int p4), .val (.int f), .val (.int va), .val (.int vb), .val (.int kk), .unset, .unset, .unset, .unset] [(.int (118 : Int32)), (.int (8 : Int32)), (.ref b358), (.ref b358)])) rfl rfl (hb hby at_443)
                have wq394 : nar .char (118 : Int32) = (118 : Int32) := rfl
                rw [wq394] at W394
                have wf394 : fits .char (.int (118 : Int32)) = true := wq394 ▸ (fits_nar_char _)
                have V394 : Arv Z h394 b358 k358 .char (10 : Int32) [(.int va), (.int (101 : Int32)), (.int (101 : Int32)), (.int (112 : Int32)), (.int (45 : Int32)), (.int (97 : Int32)), (.int (108 : Int32)), (.int (105 : Int32)), (.int (118 : Int32)), (.int (0 : Int32))] (.int (0 : Int32)) := set393 wf394 W394 8 rfl (Nat.le_of_ble_eq_true rfl)
                have N394 := Fr.snoc X394 N390 og_b358
                have K395 := K391.wr W394 (Or.inr sz_b358)
                have Z394 : n0 ≤ h394.size := Nat.le_trans Z390 (Keep.of_wr W394).1
                have kz396 : _ ≤ h394.size := Nat.le_trans kz392 (Keep.of_wr W394).1
                refine own_by st394 ?_
                show own_Go p e below _ T394 (mkF m 444 #[.val (.int p1), .val (.int p2), .val (.int p3), .val (.int p4), .val (.int f), .val (.int va), .val (.int vb), .val (.int kk), .unset, .unset, .unset, .unset] [(.ref b358)])
                refine own_by (fun _ k => XS.dup X394.here hx rfl (hb hby at_444) rfl rfl k) ?_
                show own_Go p e below _ T394 (mkF m 445 #[.val (.int p1), .val (.int p2), .val (.int p3), .val (.int p4), .val (.int f), .val (.int va), .val (.int vb), .val (.int kk), .unset, .unset, .unset, .unset] [(.ref b358), (.ref b358)])
                refine own_by (fun _ k => XS.bipush X394.here hx rfl (hb hby at_445) k) ?_
                show own_Go p e below _ T394 (mkF m 447 #[.val (.int p1), .val (.int p2), .val (.int p3), .val (.int p4), .val (.int f), .val (.int va), .val (.int vb), .val (.int kk), .unset, .unset, .unset, .unset] [(.int (9 : Int32)), (.ref b358), (.ref b358)])
                refine own_by (fun _ k => XS.iload X394.here hx rfl (hb hby at_447) rfl k) ?_
                show own_Go p e below _ T394 (mkF m 449 #[.val (.int p1), .val (.int p2), .val (.int p3), .val (.int p4), .val (.int f), .val (.int va), .val (.int vb), .val (.int kk), .unset, .unset, .unset, .unset] [(.int vb), (.int (9 : Int32)), (.ref b358), (.ref b358)])
                obtain ⟨cl397, Ar397, cq397, hin397, hat397, set397⟩ := own_arv V394 (j := (9 : Int32)) ⟨by decide, by decide⟩
                obtain ⟨T398, h398, X398, e398, W398, st398⟩ := stC X394 hx hZ e394 Ar397 (j := (9 : Int32)) hin397 (g := (mkF m 449 #[.val (.int p1), .val (.int p2), .val (.int p3), .val (.int p4), .val (.int f), .val (.int va), .val (.int vb), .val (.int kk), .unset, .unset, .unset, .unset] [(.int vb), (.int (9 : Int32)), (.ref b358), (.ref b358)])) rfl rfl (hb hby at_449)
                have wq398 : nar .char vb = vb := hvb.1
                rw [wq398] at W398
                have wf398 : fits .char (.int vb) = true := wq398 ▸ (fits_nar_char _)
                have V398 : Arv Z h398 b358 k358 .char (10 : Int32) [(.int va), (.int (101 : Int32)), (.int (101 : Int32)), (.int (112 : Int32)), (.int (45 : Int32)), (.int (97 : Int32)), (.int (108 : Int32)), (.int (105 : Int32)), (.int (118 : Int32)), (.int vb)] (.int (0 : Int32)) := set397 wf398 W398 9 rfl (Nat.le_of_ble_eq_true rfl)
                have N398 := Fr.snoc X398 N394 og_b358
                have K399 := K395.wr W398 (Or.inr sz_b358)
                have Z398 : n0 ≤ h398.size := Nat.le_trans Z394 (Keep.of_wr W398).1
                have kz400 : _ ≤ h398.size := Nat.le_trans kz396 (Keep.of_wr W398).1
                refine own_by st398 ?_
                show own_Go p e below _ T398 (mkF m 450 #[.val (.int p1), .val (.int p2), .val (.int p3), .val (.int p4), .val (.int f), .val (.int va), .val (.int vb), .val (.int kk), .unset, .unset, .unset, .unset] [(.ref b358)])
                refine own_by (fun _ k => XS.astore X398.here hx rfl (hb hby at_450) rfl rfl (l' := #[.val (.int p1), .val (.int p2), .val (.int p3), .val (.int p4), .val (.int f), .val (.int va), .val (.int vb), .val (.int kk), .val (.ref b358), .unset, .unset, .unset]) rfl k) ?_
                show own_Go p e below _ T398 (mkF m 452 #[.val (.int p1), .val (.int p2), .val (.int p3), .val (.int p4), .val (.int f), .val (.int va), .val (.int vb), .val (.int kk), .val (.ref b358), .unset, .unset, .unset] [])
                refine own_by (fun _ k => XS.iload X398.here hx rfl (hb hby at_452) rfl k) ?_
                show own_Go p e below _ T398 (mkF m 454 #[.val (.int p1), .val (.int p2), .val (.int p3), .val (.int p4), .val (.int f), .val (.int va), .val (.int vb), .val (.int kk), .val (.ref b358), .unset, .unset, .unset] [(.int va)])
                refine own_by (fun _ k => XS.bipush X398.here hx rfl (hb hby at_454) k) ?_
                show own_Go p e below _ T398 (mkF m 456 #[.val (.int p1), .val (.int p2), .val (.int p3), .val (.int p4), .val (.int f), .val (.int va), .val (.int vb), .val (.int kk), .val (.ref b358), .unset, .unset, .unset] [(.int (107 : Int32)), (.int va)])
                by_cases h1 : va = (107 : Int32)
                · refine own_by (fun _ k => XS.icmpNo X398.here hx rfl (hb hby at_456) rfl (teq (h1 : va = (107 : Int32))).2 k) ?_
                  show own_Go p e below _ T398 (mkF m 459 #[.val (.int p1), .val (.int p2), .val (.int p3), .val (.int p4), .val (.int f), .val (.int va), .val (.int vb), .val (.int kk), .val (.ref b358), .unset, .unset, .unset] [])
                  refine own_by (fun _ k => XS.iload X398.here hx rfl (hb hby at_459) rfl k) ?_
                  show own_Go p e below _ T398 (mkF m 461 #[.val (.int p1), .val (.int p2), .val (.int p3), .val (.int p4), .val (.int f), .val (.int va), .val (.int vb), .val (.int kk), .val (.ref b358), .unset, .unset, .unset] [(.int vb)])
                  refine own_by (fun _ k => XS.bipush X398.here hx rfl (hb hby at_461) k) ?_
                  show own_Go p e below _ T398 (mkF m 463 #[.val (.int p1), .val (.int p2), .val (.int p3), .val (.int p4), .val (.int f), .val (.int va), .val (.int vb), .val (.int kk), .val (.ref b358), .unset, .unset, .unset] [(.int (101 : Int32)), (.int vb)])
                  by_cases h2 : vb = (101 : Int32)
                  · refine own_by (fun _ k => XS.icmpNo X398.here hx rfl (hb hby at_463) rfl (teq (h2 : vb = (101 : Int32))).2 k) ?_
                    show own_Go p e below _ T398 (mkF m 466 #[.val (.int p1), .val (.int p2), .val (.int p3), .val (.int p4), .val (.int f), .val (.int va), .val (.int vb), .val (.int kk), .val (.ref b358), .unset, .unset, .unset] [])
                    refine own_by (fun _ k => XS.iconst X398.here hx rfl (hb hby at_466) k) ?_
                    show own_Go p e below _ T398 (mkF m 467 #[.val (.int p1), .val (.int p2), .val (.int p3), .val (.int p4), .val (.int f), .val (.int va), .val (.int vb), .val (.int kk), .val (.ref b358), .unset, .unset, .unset] [(.int (1 : Int32))])
                    refine own_by (fun _ k => XS.goto X398.here hx rfl (pc0 := 467) (pc' := 471) rfl (hb hby at_467) (by decide) (by decide) k) ?_
                    show own_Go p e below _ T398 (mkF m 471 #[.val (.int p1), .val (.int p2), .val (.int p3), .val (.int p4), .val (.int f), .val (.int va), .val (.int vb), .val (.int kk), .val (.ref b358), .unset, .unset, .unset] [(.int (1 : Int32))])
                    refine own_by (fun _ k => XS.istore X398.here hx rfl (hb hby at_471) rfl (l' := #[.val (.int p1), .val (.int p2), .val (.int p3), .val (.int p4), .val (.int f), .val (.int va), .val (.int vb), .val (.int kk), .val (.ref b358), .val (.int (1 : Int32)), .unset, .unset]) rfl k) ?_
                    show own_Go p e below _ T398 (mkF m 473 #[.val (.int p1), .val (.int p2), .val (.int p3), .val (.int p4), .val (.int f), .val (.int va), .val (.int vb), .val (.int kk), .val (.ref b358), .val (.int (1 : Int32)), .unset, .unset] [])
                    refine own_by (fun _ k => XS.iconst X398.here hx rfl (hb hby at_473) k) ?_
                    show own_Go p e below _ T398 (mkF m 474 #[.val (.int p1), .val (.int p2), .val (.int p3), .val (.int p4), .val (.int f), .val (.int va), .val (.int vb), .val (.int kk), .val (.ref b358), .val (.int (1 : Int32)), .unset, .unset] [(.int (0 : Int32))])
                    refine own_by (fun _ k => XS.istore X398.here hx rfl (hb hby at_474) rfl (l' := #[.val (.int p1), .val (.int p2), .val (.int p3), .val (.int p4), .val (.int f), .val (.int va), .val (.int vb), .val (.int kk), .val (.ref b358), .val (.int (1 : Int32)), .val (.int (0 : Int32)), .unset]) rfl k) ?_
                    show own_Go p e below _ T398 (mkF m 476 #[.val (.int p1), .val (.int p2), .val (.int p3), .val (.int p4), .val (.int f), .val (.int va), .val (.int vb), .val (.int kk), .val (.ref b358), .val (.int (1 : Int32)), .val (.int (0 : Int32)), .unset] [])
                    refine own_by (fun _ k => XS.goto X398.here hx rfl (pc0 := 476) (pc' := 758) rfl (hb hby at_476) (by decide) (by decide) k) ?_
                    show own_Go p e below _ T398 (mkF m 758 #[.val (.int p1), .val (.int p2), .val (.int p3), .val (.int p4), .val (.int f), .val (.int va), .val (.int vb), .val (.int kk), .val (.ref b358), .val (.int (1 : Int32)), .val (.int (0 : Int32)), .unset] [])
                    exact J758 T398 _ h398 (X398.more (Nat.le_refl _) (by decide)) e398 N398 K399 b358 _ [va, 101, 101, 112, 45, 97, 108, 105, 118, vb] _ _ og_b358 ⟨by simp, by simp⟩ (by intro c hc; simp only [List.mem_cons, List.not_mem_nil, or_false] at hc; rcases hc with rfl | rfl | rfl | rfl | rfl | rfl | rfl | rfl | rfl | rfl <;> first | exact hva | exact hvb | (unfold own_ch; decide)) (by rw [own_keep5 va vb, (own_tbq hva).2.2.1.mpr h1, (own_tbq hvb).2.1.mpr h2]; rfl) (by rw [own_close5 va vb]; rfl) V398
                  · refine own_by (fun _ k => XS.icmpYes X398.here hx rfl (pc0 := 463) (pc' := 470) rfl (hb hby at_463) rfl (feq (h2 : ¬ (vb = (101 : Int32)))).2 (by decide) (by decide) k) ?_
                    show own_Go p e below _ T398 (mkF m 470 #[.val (.int p1), .val (.int p2), .val (.int p3), .val (.int p4), .val (.int f), .val (.int va), .val (.int vb), .val (.int kk), .val (.ref b358), .unset, .unset, .unset] [])
                    refine own_by (fun _ k => XS.iconst X398.here hx rfl (hb hby at_470) k) ?_
                    show own_Go p e below _ T398 (mkF m 471 #[.val (.int p1), .val (.int p2), .val (.int p3), .val (.int p4), .val (.int f), .val (.int va), .val (.int vb), .val (.int kk), .val (.ref b358), .unset, .unset, .unset] [(.int (0 : Int32))])
                    refine own_by (fun _ k => XS.istore X398.here hx rfl (hb hby at_471) rfl (l' := #[.val (.int p1), .val (.int p2), .val (.int p3), .val (.int p4), .val (.int f), .val (.int va), .val (.int vb), .val (.int kk), .val (.ref b358), .val (.int (0 : Int32)), .unset, .unset]) rfl k) ?_
                    show own_Go p e below _ T398 (mkF m 473 #[.val (.int p1), .val (.int p2), .val (.int p3), .val (.int p4), .val (.int f), .val (.int va), .val (.int vb), .val (.int kk), .val (.ref b358), .val (.int (0 : Int32)), .unset, .unset] [])
                    refine own_by (fun _ k => XS.iconst X398.here hx rfl (hb hby at_473) k) ?_
                    show own_Go p e below _ T398 (mkF m 474 #[.val (.int p1), .val (.int p2), .val (.int p3), .val (.int p4), .val (.int f), .val (.int va), .val (.int vb), .val (.int kk), .val (.ref b358), .val (.int (0 : Int32)), .unset, .unset] [(.int (0 : Int32))])
                    refine own_by (fun _ k => XS.istore X398.here hx rfl (hb hby at_474) rfl (l' := #[.val (.int p1), .val (.int p2), .val (.int p3), .val (.int p4), .val (.int f), .val (.int va), .val (.int vb), .val (.int kk), .val (.ref b358), .val (.int (0 : Int32)), .val (.int (0 : Int32)), .unset]) rfl k) ?_
                    show own_Go p e below _ T398 (mkF m 476 #[.val (.int p1), .val (.int p2), .val (.int p3), .val (.int p4), .val (.int f), .val (.int va), .val (.int vb), .val (.int kk), .val (.ref b358), .val (.int (0 : Int32)), .val (.int (0 : Int32)), .unset] [])
                    refine own_by (fun _ k => XS.goto X398.here hx rfl (pc0 := 476) (pc' := 758) rfl (hb hby at_476) (by decide) (by decide) k) ?_
                    show own_Go p e below _ T398 (mkF m 758 #[.val (.int p1), .val (.int p2), .val (.int p3), .val (.int p4), .val (.int f), .val (.int va), .val (.int vb), .val (.int kk), .val (.ref b358), .val (.int (0 : Int32)), .val (.int (0 : Int32)), .unset] [])
                    exact J758 T398 _ h398 (X398.more (Nat.le_refl _) (by decide)) e398 N398 K399 b358 _ [va, 101, 101, 112, 45, 97, 108, 105, 118, vb] _ _ og_b358 ⟨by simp, by simp⟩ (by intro c hc; simp only [List.mem_cons, List.not_mem_nil, or_false] at hc; rcases hc with rfl | rfl | rfl | rfl | rfl | rfl | rfl | rfl | rfl | rfl <;> first | exact hva | exact hvb | (unfold own_ch; decide)) (by rw [own_keep5 va vb, (own_tbq hva).2.2.1.mpr h1, beq_eq_false_iff_ne.mpr (fun q => h2 ((own_tbq hvb).2.1.mp q)), Bool.and_false]; rfl) (by rw [own_close5 va vb]; rfl) V398
                · refine own_by (fun _ k => XS.icmpYes X398.here hx rfl (pc0 := 456) (pc' := 470) rfl (hb hby at_456) rfl (feq (h1 : ¬ (va = (107 : Int32)))).2 (by decide) (by decide) k) ?_
                  show own_Go p e below _ T398 (mkF m 470 #[.val (.int p1), .val (.int p2), .val (.int p3), .val (.int p4), .val (.int f), .val (.int va), .val (.int vb), .val (.int kk), .val (.ref b358), .unset, .unset, .unset] [])
                  refine own_by (fun _ k => XS.iconst X398.here hx rfl (hb hby at_470) k) ?_
                  show own_Go p e below _ T398 (mkF m 471 #[.val (.int p1), .val (.int p2), .val (.int p3), .val (.int p4), .val (.int f), .val (.int va), .val (.int vb), .val (.int kk), .val (.ref b358), .unset, .unset, .unset] [(.int (0 : Int32))])
                  refine own_by (fun _ k => XS.istore X398.here hx rfl (hb hby at_471) rfl (l' := #[.val (.int p1), .val (.int p2), .val (.int p3), .val (.int p4), .val (.int f), .val (.int va), .val (.int vb), .val (.int kk), .val (.ref b358), .val (.int (0 : Int32)), .unset, .unset]) rfl k) ?_
                  show own_Go p e below _ T398 (mkF m 473 #[.val (.int p1), .val (.int p2), .val (.int p3), .val (.int p4), .val (.int f), .val (.int va), .val (.int vb), .val (.int kk), .val (.ref b358), .val (.int (0 : Int32)), .unset, .unset] [])
                  refine own_by (fun _ k => XS.iconst X398.here hx rfl (hb hby at_473) k) ?_
                  show own_Go p e below _ T398 (mkF m 474 #[.val (.int p1), .val (.int p2), .val (.int p3), .val (.int p4), .val (.int f), .val (.int va), .val (.int vb), .val (.int kk), .val (.ref b358), .val (.int (0 : Int32)), .unset, .unset] [(.int (0 : Int32))])
                  refine own_by (fun _ k => XS.istore X398.here hx rfl (hb hby at_474) rfl (l' := #[.val (.int p1), .val (.int p2), .val (.int p3), .val (.int p4), .val (.int f), .val (.int va), .val (.int vb), .val (.int kk), .val (.ref b358), .val (.int (0 : Int32)), .val (.int (0 : Int32)), .unset]) rfl k) ?_
                  show own_Go p e below _ T398 (mkF m 476 #[.val (.int p1), .val (.int p2), .val (.int p3), .val (.int p4), .val (.int f), .val (.int va), .val (.int vb), .val (.int kk), .val (.ref b358), .val (.int (0 : Int32)), .val (.int (0 : Int32)), .unset] [])
                  refine own_by (fun _ k => XS.goto X398.here hx rfl (pc0 := 476) (pc' := 758) rfl (hb hby at_476) (by decide) (by decide) k) ?_
                  show own_Go p e below _ T398 (mkF m 758 #[.val (.int p1), .val (.int p2), .val (.int p3), .val (.int p4), .val (.int f), .val (.int va), .val (.int vb), .val (.int kk), .val (.ref b358), .val (.int (0 : Int32)), .val (.int (0 : Int32)), .unset] [])
                  exact J758 T398 _ h398 (X398.more (Nat.le_refl _) (by decide)) e398 N398 K399 b358 _ [va, 101, 101, 112, 45, 97, 108, 105, 118, vb] _ _ og_b358 ⟨by simp, by simp⟩ (by intro c hc; simp only [List.mem_cons, List.not_mem_nil, or_false] at hc; rcases hc with rfl | rfl | rfl | rfl | rfl | rfl | rfl | rfl | rfl | rfl <;> first | exact hva | exact hvb | (unfold own_ch; decide)) (by rw [own_keep5 va vb, beq_eq_false_iff_ne.mpr (fun q => h1 ((own_tbq hva).2.2.1.mp q)), Bool.false_and]; rfl) (by rw [own_close5 va vb]; rfl) V398
              · refine own_by (fun _ k => XS.icmpYes X159.here hx rfl (pc0 := 389) (pc' := 479) rfl (hb hby at_389) rfl (feq (hk5 : ¬ (kk = (5 : Int32)))).2 (by decide) (by decide) k) ?_
                show own_Go p e below _ T159 (mkF m 479 #[.val (.int p1), .val (.int p2), .val (.int p3), .val (.int p4), .val (.int f), .val (.int va), .val (.int vb), .val (.int kk), .unset, .unset, .unset, .unset] [])
                refine own_by (fun _ k => XS.iload X159.here hx rfl (hb hby at_479) rfl k) ?_
                show own_Go p e below _ T159 (mkF m 481 #[.val (.int p1), .val (.int p2), .val (.int p3), .val (.int p4), .val (.int f), .val (.int va), .val (.int vb), .val (.int kk), .unset, .unset, .unset, .unset] [(.int kk)])
                refine own_by (fun _ k => XS.bipush X159.here hx rfl (hb hby at_481) k) ?_
                show own_Go p e below _ T159 (mkF m 483 #[.val (.int p1), .val (.int p2), .val (.int p3), .val (.int p4), .val (.int f), .val (.int va), .val (.int vb), .val (.int kk), .unset, .unset, .unset, .unset] [(.int (6 : Int32)), (.int kk)])
                by_cases hk6 : kk = (6 : Int32)
                · refine own_by (fun _ k => XS.icmpNo X159.here hx rfl (hb hby at_483) rfl (teq (hk6 : kk = (6 : Int32))).2 k) ?_
                  show own_Go p e below _ T159 (mkF m 486 #[.val (.int p1), .val (.int p2), .val (.int p3), .val (.int p4), .val (.int f), .val (.int va), .val (.int vb), .val (.int kk), .unset, .unset, .unset, .unset] [])
                  refine own_by (fun _ k => XS.iconst X159.here hx rfl (hb hby at_486) k) ?_
                  show own_Go p e below _ T159 (mkF m 487 #[.val (.int p1), .val (.int p2), .val (.int p3), .val (.int p4), .val (.int f), .val (.int va), .val (.int vb), .val (.int kk), .unset, .unset, .unset, .unset] [(.int (0 : Int32))])
                  obtain ⟨T401, h401, k401, X401, e401, E401, A401, C401, st401⟩ := newPE X159 hx hZ (hw _ (List.mem_of_getElem? (i := 5) rfl)) e159 (g := (mkF m 487 #[.val (.int p1), .val (.int p2), .val (.int p3), .val (.int p4), .val (.int f), .val (.int va), .val (.int vb), .val (.int kk), .unset, .unset, .unset, .unset] [(.int (0 : Int32))])) rfl (hb hby at_487) rfl (by decide) (cap := 0) (by decide) (by decide) (by decide) (by decide) (ad := "[C") (by decide)
                  obtain ⟨b401, g401⟩ : ∃ zq, zq = h0.size := ⟨_, rfl⟩
                  rw [← g401] at A401 C401 st401
                  have og_b401 : n0 ≤ b401 := Nat.le_trans Z0 (Nat.le_of_eq g401.symm)
                  have sz_b401 : h0.size ≤ b401 := Nat.le_trans K0.1 (Nat.le_of_eq g401.symm)
                  have Z401 : n0 ≤ h401.size := Nat.le_trans Z0 E401.1
                  have kz402 : _ ≤ h401.size := Nat.le_trans kz0 E401.1
                  have K403 := K0.ext E401
                  have V401 : Arv Z h401 b401 k401 .char (0 : Int32) [] (.int (0 : Int32)) := (Arv.new A401 (by decide)).pad (pad_rep [] (.int (0 : Int32)) 0)
                  refine own_by st401 ?_
                  show own_Go p e below _ T401 (mkF m 489 #[.val (.int p1), .val (.int p2), .val (.int p3), .val (.int p4), .val (.int f), .val (.int va), .val (.int vb), .val (.int kk), .unset, .unset, .unset, .unset] [(.ref b401)])
                  refine own_by (fun _ k => XS.astore X401.here hx rfl (hb hby at_489) rfl rfl (l' := #[.val (.int p1), .val (.int p2), .val (.int p3), .val (.int p4), .val (.int f), .val (.int va), .val (.int vb), .val (.int kk), .val (.ref b401), .unset, .unset, .unset]) rfl k) ?_
                  show own_Go p e below _ T401 (mkF m 491 #[.val (.int p1), .val (.int p2), .val (.int p3), .val (.int p4), .val (.int f), .val (.int va), .val (.int vb), .val (.int kk), .val (.ref b401), .unset, .unset, .unset] [])
                  refine own_by (fun _ k => XS.iconst X401.here hx rfl (hb hby at_491) k) ?_
                  show own_Go p e below _ T401 (mkF m 492 #[.val (.int p1), .val (.int p2), .val (.int p3), .val (.int p4), .val (.int f), .val (.int va), .val (.int vb), .val (.int kk), .val (.ref b401), .unset, .unset, .unset] [(.int (0 : Int32))])
                  refine own_by (fun _ k => XS.istore X401.here hx rfl (hb hby at_492) rfl (l' := #[.val (.int p1), .val (.int p2), .val (.int p3), .val (.int p4), .val (.int f), .val (.int va), .val (.int vb), .val (.int kk), .val (.ref b401), .val (.int (0 : Int32)), .unset, .unset]) rfl k) ?_
                  show own_Go p e below _ T401 (mkF m 494 #[.val (.int p1), .val (.int p2), .val (.int p3), .val (.int p4), .val (.int f), .val (.int va), .val (.int vb), .val (.int kk), .val (.ref b401), .val (.int (0 : Int32)), .unset, .unset] [])
                  refine own_by (fun _ k => XS.iconst X401.here hx rfl (hb hby at_494) k) ?_
                  show own_Go p e below _ T401 (mkF m 495 #[.val (.int p1), .val (.int p2), .val (.int p3), .val (.int p4), .val (.int f), .val (.int va), .val (.int vb), .val (.int kk), .val (.ref b401), .val (.int (0 : Int32)), .unset, .unset] [(.int (0 : Int32))])
                  refine own_by (fun _ k => XS.istore X401.here hx rfl (hb hby at_495) rfl (l' := #[.val (.int p1), .val (.int p2), .val (.int p3), .val (.int p4), .val (.int f), .val (.int va), .val (.int vb), .val (.int kk), .val (.ref b401), .val (.int (0 : Int32)), .val (.int (0 : Int32)), .unset]) rfl k) ?_
                  show own_Go p e below _ T401 (mkF m 497 #[.val (.int p1), .val (.int p2), .val (.int p3), .val (.int p4), .val (.int f), .val (.int va), .val (.int vb), .val (.int kk), .val (.ref b401), .val (.int (0 : Int32)), .val (.int (0 : Int32)), .unset] [])
                  refine own_by (fun _ k => XS.goto X401.here hx rfl (pc0 := 497) (pc' := 758) rfl (hb hby at_497) (by decide) (by decide) k) ?_
                  show own_Go p e below _ T401 (mkF m 758 #[.val (.int p1), .val (.int p2), .val (.int p3), .val (.int p4), .val (.int f), .val (.int va), .val (.int vb), .val (.int kk), .val (.ref b401), .val (.int (0 : Int32)), .val (.int (0 : Int32)), .unset] [])
                  refine own_by (fun _ k => XS.iload X401.here hx rfl (hb hby at_758) rfl k) ?_
                  show own_Go p e below _ T401 (mkF m 760 #[.val (.int p1), .val (.int p2), .val (.int p3), .val (.int p4), .val (.int f), .val (.int va), .val (.int vb), .val (.int kk), .val (.ref b401), .val (.int (0 : Int32)), .val (.int (0 : Int32)), .unset] [(.int f)])
                  by_cases hf0 : f = (0 : Int32)
                  · refine own_by (fun _ k => XS.ifYes X401.here hx rfl (pc0 := 760) (pc' := 770) rfl (hb hby at_760) rfl ((if0 _ _).trans (teq (hf0 : f = (0 : Int32))).1) (by decide) (by decide) k) ?_
                    show own_Go p e below _ T401 (mkF m 770 #[.val (.int p1), .val (.int p2), .val (.int p3), .val (.int p4), .val (.int f), .val (.int va), .val (.int vb), .val (.int kk), .val (.ref b401), .val (.int (0 : Int32)), .val (.int (0 : Int32)), .unset] [])
                    refine own_by (fun _ k => XS.iload X401.here hx rfl (hb hby at_770) rfl k) ?_
                    show own_Go p e below _ T401 (mkF m 772 #[.val (.int p1), .val (.int p2), .val (.int p3), .val (.int p4), .val (.int f), .val (.int va), .val (.int vb), .val (.int kk), .val (.ref b401), .val (.int (0 : Int32)), .val (.int (0 : Int32)), .unset] [(.int (0 : Int32))])
                    refine own_by (fun _ k => XS.ifNo X401.here hx rfl (hb hby at_772) rfl ((if0 _ _).trans (teq (rfl : (0 : Int32) = (0 : Int32))).2) k) ?_
                    show own_Go p e below _ T401 (mkF m 775 #[.val (.int p1), .val (.int p2), .val (.int p3), .val (.int p4), .val (.int f), .val (.int va), .val (.int vb), .val (.int kk), .val (.ref b401), .val (.int (0 : Int32)), .val (.int (0 : Int32)), .unset] [])
                    refine own_by (fun _ k => XS.iconst X401.here hx rfl (hb hby at_775) k) ?_
                    show own_Go p e below _ T401 (mkF m 776 #[.val (.int p1), .val (.int p2), .val (.int p3), .val (.int p4), .val (.int f), .val (.int va), .val (.int vb), .val (.int kk), .val (.ref b401), .val (.int (0 : Int32)), .val (.int (0 : Int32)), .unset] [(.int (1 : Int32))])
                    refine own_by (fun _ k => XS.goto X401.here hx rfl (pc0 := 776) (pc' := 780) rfl (hb hby at_776) (by decide) (by decide) k) ?_
                    show own_Go p e below _ T401 (mkF m 780 #[.val (.int p1), .val (.int p2), .val (.int p3), .val (.int p4), .val (.int f), .val (.int va), .val (.int vb), .val (.int kk), .val (.ref b401), .val (.int (0 : Int32)), .val (.int (0 : Int32)), .unset] [(.int (1 : Int32))])
                    refine own_by (fun _ k => XS.istore X401.here hx rfl (hb hby at_780) rfl (l' := #[.val (.int p1), .val (.int p2), .val (.int p3), .val (.int p4), .val (.int f), .val (.int va), .val (.int vb), .val (.int kk), .val (.ref b401), .val (.int (0 : Int32)), .val (.int (0 : Int32)), .val (.int (1 : Int32))]) rfl k) ?_
                    show own_Go p e below _ T401 (mkF m 782 #[.val (.int p1), .val (.int p2), .val (.int p3), .val (.int p4), .val (.int f), .val (.int va), .val (.int vb), .val (.int kk), .val (.ref b401), .val (.int (0 : Int32)), .val (.int (0 : Int32)), .val (.int (1 : Int32))] [])
                    refine own_by (fun _ k => XS.iload X401.here hx rfl (hb hby at_782) rfl k) ?_
                    show own_Go p e below _ T401 (mkF m 784 #[.val (.int p1), .val (.int p2), .val (.int p3), .val (.int p4), .val (.int f), .val (.int va), .val (.int vb), .val (.int kk), .val (.ref b401), .val (.int (0 : Int32)), .val (.int (0 : Int32)), .val (.int (1 : Int32))] [(.int f)])
                    obtain ⟨T404, h404, X404, e404, E404, A404, D404, -, st404⟩ := newO X401 hx hZ hown (hw _ (List.mem_of_getElem? (i := 6) rfl)) (hw _ (List.mem_of_getElem? (i := 7) rfl)) (hw _ (List.mem_of_getElem? (i := 8) rfl)) e401 (g := (mkF m 784 #[.val (.int p1), .val (.int p2), .val (.int p3), .val (.int p4), .val (.int f), .val (.int va), .val (.int vb), .val (.int kk), .val (.ref b401), .val (.int (0 : Int32)), .val (.int (0 : Int32)), .val (.int (1 : Int32))] [(.int f)])) rfl (hb hby at_784) (by decide) (by decide)
                    obtain ⟨b404, g404⟩ : ∃ zq, zq = h401.size := ⟨_, rfl⟩
                    rw [← g404] at A404 D404 st404
                    have ne_b401_b404 : b401 ≠ b404 := Nat.ne_of_lt (Nat.lt_of_lt_of_le V401.lt (Nat.le_of_eq g404.symm))
                    have og_b404 : n0 ≤ b404 := Nat.le_trans Z401 (Nat.le_of_eq g404.symm)
                    have sz_b404 : h0.size ≤ b404 := Nat.le_trans K403.1 (Nat.le_of_eq g404.symm)
                    have Z404 : n0 ≤ h404.size := Nat.le_trans Z401 E404.1
                    have kz405 : _ ≤ h404.size := Nat.le_trans kz402 E404.1
                    have K406 := K403.ext E404
                    have F_coder_b404 : Fld Z h404 b404 "java/lang/String" "coder" "B" (.int (0 : Int32)) := D404 (Or.inr (hw _ (List.mem_of_getElem? (i := 32) rfl))) (ty := .byte) (by decide)
                    have F_value_b404 : Fld Z h404 b404 "java/lang/String" "value" "[B" .null := D404 (Or.inr (hw _ (List.mem_of_getElem? (i := 34) rfl))) (ty := (.array .byte)) (by decide)
                    refine own_by st404 ?_
                    show own_Go p e below _ T404 (mkF m 787 #[.val (.int p1), .val (.int p2), .val (.int p3), .val (.int p4), .val (.int f), .val (.int va), .val (.int vb), .val (.int kk), .val (.ref b401), .val (.int (0 : Int32)), .val (.int (0 : Int32)), .val (.int (1 : Int32))] [(.ref b404), (.int f)])
                    refine own_by (fun _ k => XS.dup X404.here hx rfl (hb hby at_787) rfl rfl k) ?_
                    show own_Go p e below _ T404 (mkF m 788 #[.val (.int p1), .val (.int p2), .val (.int p3), .val (.int p4), .val (.int f), .val (.int va), .val (.int vb), .val (.int kk), .val (.ref b401), .val (.int (0 : Int32)), .val (.int (0 : Int32)), .val (.int (1 : Int32))] [(.ref b404), (.ref b404), (.int f)])
                    refine own_by (fun _ k => XS.aload X404.here hx rfl (hb hby at_788) rfl rfl k) ?_
                    show own_Go p e below _ T404 (mkF m 790 #[.val (.int p1), .val (.int p2), .val (.int p3), .val (.int p4), .val (.int f), .val (.int va), .val (.int vb), .val (.int kk), .val (.ref b401), .val (.int (0 : Int32)), .val (.int (0 : Int32)), .val (.int (1 : Int32))] [(.ref b401), (.ref b404), (.ref b404), (.int f)])
                    have f407 := (V401.ext E404)
                    obtain ⟨_, T408, L408, k408w, X408, ⟨rfl, N408q, Ke, Ee, Ce, te, ke, Ve, Ae, Ie⟩, S408, kz408, hZ, hown, st408⟩ := own_callIW X404 hx hZ hown S0 kz405 (y := (⟨"java/lang/String", "<init>", "([C)V"⟩ : MethodName)) rfl (hw _ (List.mem_of_getElem? (i := 9) rfl)) (hw _ (List.mem_of_getElem? (i := 10) rfl)) (hw _ (List.mem_of_getElem? (i := 8) rfl)) (hw _ (List.mem_of_getElem? (i := 11) rfl)) (by decide) (a := b404) (argsL := [(.ref b401)]) (rest := [(.ref b404), (.int f)]) (fun vm hv => own_ibW I0 hv) e404 (rm2 l Z a0 hw [] b404 b401 k401 h404 n0 Z404 og_b404 A404 F_coder_b404 F_value_b404 hc7 hcw (own_hk hkz K406) f407) (g := (mkF m 790 #[.val (.int p1), .val (.int p2), .val (.int p3), .val (.int p4), .val (.int f), .val (.int va), .val (.int vb), .val (.int kk), .val (.ref b401), .val (.int (0 : Int32)), .val (.int (0 : Int32)), .val (.int (1 : Int32))] [(.ref b401), (.ref b404), (.ref b404), (.int f)])) rfl (by rw [hml]; rfl) (lenOf pd_9 rfl) rfl (W := 2) (by show 2 * 0 + _ ≤ _; exact Nat.le_of_eq rfl) (hb hby at_790) (by decide) (by decide) (by decide) (by decide)
                    have N408 := Fr.app N159 N408q
                    refine own_by st408 ?_
                    show own_Go p e below _ T408 (mkF m 793 #[.val (.int p1), .val (.int p2), .val (.int p3), .val (.int p4), .val (.int f), .val (.int va), .val (.int vb), .val (.int kk), .val (.ref b401), .val (.int (0 : Int32)), .val (.int (0 : Int32)), .val (.int (1 : Int32))] [(.ref b404), (.int f)])
                    have Z408 : n0 ≤ T408.heap.size := Nat.le_trans Z404 Ke.1
                    have K408c := K406.trans Ke (allS (Or.inr sz_b404) all0)
                    have f409 := (own_staK ((SC.ext E401).ext E404) Ke (allS (P := fun x => ∀ cell : Cell, _ → _) (Exa.nostat A404) all0))
                    obtain ⟨_, T410, L410, k410w, X410, ⟨rfl, N410q⟩, S410, kz410, hZ, hown, st410⟩ := own_callSW X408 hx hZ hown S408 kz408 (y := (⟨"com/example/tolk/tolk/query/Http1", "keepsAlive", "(ZLjava/lang/String;)Z"⟩ : MethodName)) (hw _ (List.mem_of_getElem? (i := 35) rfl)) (hw _ (List.mem_of_getElem? (i := 36) rfl)) (hw _ (List.mem_of_getElem? (i := 37) rfl)) (hw _ (List.mem_of_getElem? (i := 38) rfl)) (by decide) (argsL := [(.int f), (.ref b404)]) (rest := []) (fun vm hv => own_ibW Ie hv) rfl (rm8 l Z a0 hw [] f b404 te ke own_nil w1 T408.heap n0 Z408 f409 hw1 Ee Ce Ve Ae (by decide) hc49 hc55 hcw (own_hk hkz K408c)) (g := (mkF m 793 #[.val (.int p1), .val (.int p2), .val (.int p3), .val (.int p4), .val (.int f), .val (.int va), .val (.int vb), .val (.int kk), .val (.ref b401), .val (.int (0 : Int32)), .val (.int (0 : Int32)), .val (.int (1 : Int32))] [(.ref b404), (.int f)])) rfl (by rw [hml]; rfl) (lenOf pd_10 rfl) rfl (W := 0) (by show 2 * 0 + _ ≤ _; exact Nat.le_of_eq rfl) (hb hby at_793) (by decide) (by decide) (by decide) (by decide)
                    have N410 := Fr.app N408 N410q
                    refine own_by st410 ?_
                    show own_Go p e below _ T410 (mkF m 796 #[.val (.int p1), .val (.int p2), .val (.int p3), .val (.int p4), .val (.int f), .val (.int va), .val (.int vb), .val (.int kk), .val (.ref b401), .val (.int (0 : Int32)), .val (.int (0 : Int32)), .val (.int (1 : Int32))] [(.int (own_ans f own_nil))])
                    refine own_by (fun _ k => XS.iload X410.here hx rfl (hb hby at_796) rfl k) ?_
                    show own_Go p e below _ T410 (mkF m 798 #[.val (.int p1), .val (.int p2), .val (.int p3), .val (.int p4), .val (.int f), .val (.int va), .val (.int vb), .val (.int kk), .val (.ref b401), .val (.int (0 : Int32)), .val (.int (0 : Int32)), .val (.int (1 : Int32))] [(.int (1 : Int32)), (.int (own_ans f own_nil))])
                    refine own_by (fun _ k => XS.icmpNo X410.here hx rfl (hb hby at_798) rfl (teq (by simp only [own_ans, if_pos hf0]; rfl : (own_ans f own_nil) = (1 : Int32))).2 k) ?_
                    show own_Go p e below _ T410 (mkF m 801 #[.val (.int p1), .val (.int p2), .val (.int p3), .val (.int p4), .val (.int f), .val (.int va), .val (.int vb), .val (.int kk), .val (.ref b401), .val (.int (0 : Int32)), .val (.int (0 : Int32)), .val (.int (1 : Int32))] [])
                    refine own_by (fun _ k => XS.iconst X410.here hx rfl (hb hby at_801) k) ?_
                    show own_Go p e below _ T410 (mkF m 802 #[.val (.int p1), .val (.int p2), .val (.int p3), .val (.int p4), .val (.int f), .val (.int va), .val (.int vb), .val (.int kk), .val (.ref b401), .val (.int (0 : Int32)), .val (.int (0 : Int32)), .val (.int (1 : Int32))] [(.int (1 : Int32))])
                    refine own_by (fun _ k => XS.goto X410.here hx rfl (pc0 := 802) (pc' := 806) rfl (hb hby at_802) (by decide) (by decide) k) ?_
                    show own_Go p e below _ T410 (mkF m 806 #[.val (.int p1), .val (.int p2), .val (.int p3), .val (.int p4), .val (.int f), .val (.int va), .val (.int vb), .val (.int kk), .val (.ref b401), .val (.int (0 : Int32)), .val (.int (0 : Int32)), .val (.int (1 : Int32))] [(.int (1 : Int32))])
                    exact own_retNW X410 hx hlk S410 kz410 rfl hret (by simp) rfl (hb hby at_806) ⟨rfl, N410⟩ (by decide) (by decide)
                  · refine own_by (fun _ k => XS.ifNo X401.here hx rfl (hb hby at_760) rfl ((if0 _ _).trans (feq (hf0 : ¬ (f = (0 : Int32)))).1) k) ?_
                    show own_Go p e below _ T401 (mkF m 763 #[.val (.int p1), .val (.int p2), .val (.int p3), .val (.int p4), .val (.int f), .val (.int va), .val (.int vb), .val (.int kk), .val (.ref b401), .val (.int (0 : Int32)), .val (.int (0 : Int32)), .unset] [])
                    refine own_by (fun _ k => XS.iload X401.here hx rfl (hb hby at_763) rfl k) ?_
                    show own_Go p e below _ T401 (mkF m 765 #[.val (.int p1), .val (.int p2), .val (.int p3), .val (.int p4), .val (.int f), .val (.int va), .val (.int vb), .val (.int kk), .val (.ref b401), .val (.int (0 : Int32)), .val (.int (0 : Int32)), .unset] [(.int (0 : Int32))])
                    refine own_by (fun _ k => XS.istore X401.here hx rfl (hb hby at_765) rfl (l' := #[.val (.int p1), .val (.int p2), .val (.int p3), .val (.int p4), .val (.int f), .val (.int va), .val (.int vb), .val (.int kk), .val (.ref b401), .val (.int (0 : Int32)), .val (.int (0 : Int32)), .val (.int (0 : Int32))]) rfl k) ?_
                    show own_Go p e below _ T401 (mkF m 767 #[.val (.int p1), .val (.int p2), .val (.int p3), .val (.int p4), .val (.int f), .val (.int va), .val (.int vb), .val (.int kk), .val (.ref b401), .val (.int (0 : Int32)), .val (.int (0 : Int32)), .val (.int (0 : Int32))] [])
                    refine own_by (fun _ k => XS.goto X401.here hx rfl (pc0 := 767) (pc' := 782) rfl (hb hby at_767) (by decide) (by decide) k) ?_
                    show own_Go p e below _ T401 (mkF m 782 #[.val (.int p1), .val (.int p2), .val (.int p3), .val (.int p4), .val (.int f), .val (.int va), .val (.int vb), .val (.int kk), .val (.ref b401), .val (.int (0 : Int32)), .val (.int (0 : Int32)), .val (.int (0 : Int32))] [])
                    refine own_by (fun _ k => XS.iload X401.here hx rfl (hb hby at_782) rfl k) ?_
                    show own_Go p e below _ T401 (mkF m 784 #[.val (.int p1), .val (.int p2), .val (.int p3), .val (.int p4), .val (.int f), .val (.int va), .val (.int vb), .val (.int kk), .val (.ref b401), .val (.int (0 : Int32)), .val (.int (0 : Int32)), .val (.int (0 : Int32))] [(.int f)])
                    obtain ⟨T411, h411, X411, e411, E411, A411, D411, -, st411⟩ := newO X401 hx hZ hown (hw _ (List.mem_of_getElem? (i := 6) rfl)) (hw _ (List.mem_of_getElem? (i := 7) rfl)) (hw _ (List.mem_of_getElem? (i := 8) rfl)) e401 (g := (mkF m 784 #[.val (.int p1), .val (.int p2), .val (.int p3), .val (.int p4), .val (.int f), .val (.int va), .val (.int vb), .val (.int kk), .val (.ref b401), .val (.int (0 : Int32)), .val (.int (0 : Int32)), .val (.int (0 : Int32))] [(.int f)])) rfl (hb hby at_784) (by decide) (by decide)
                    obtain ⟨b411, g411⟩ : ∃ zq, zq = h401.size := ⟨_, rfl⟩
                    rw [← g411] at A411 D411 st411
                    have ne_b401_b411 : b401 ≠ b411 := Nat.ne_of_lt (Nat.lt_of_lt_of_le V401.lt (Nat.le_of_eq g411.symm))
                    have og_b411 : n0 ≤ b411 := Nat.le_trans Z401 (Nat.le_of_eq g411.symm)
                    have sz_b411 : h0.size ≤ b411 := Nat.le_trans K403.1 (Nat.le_of_eq g411.symm)
                    have Z411 : n0 ≤ h411.size := Nat.le_trans Z401 E411.1
                    have kz412 : _ ≤ h411.size := Nat.le_trans kz402 E411.1
                    have K413 := K403.ext E411
                    have F_coder_b411 : Fld Z h411 b411 "java/lang/String" "coder" "B" (.int (0 : Int32)) := D411 (Or.inr (hw _ (List.mem_of_getElem? (i := 32) rfl))) (ty := .byte) (by decide)
                    have F_value_b411 : Fld Z h411 b411 "java/lang/String" "value" "[B" .null := D411 (Or.inr (hw _ (List.mem_of_getElem? (i := 34) rfl))) (ty := (.array .byte)) (by decide)
                    refine own_by st411 ?_
                    show own_Go p e below _ T411 (mkF m 787 #[.val (.int p1), .val (.int p2), .val (.int p3), .val (.int p4), .val (.int f), .val (.int va), .val (.int vb), .val (.int kk), .val (.ref b401), .val (.int (0 : Int32)), .val (.int (0 : Int32)), .val (.int (0 : Int32))] [(.ref b411), (.int f)])
                    refine own_by (fun _ k => XS.dup X411.here hx rfl (hb hby at_787) rfl rfl k) ?_
                    show own_Go p e below _ T411 (mkF m 788 #[.val (.int p1), .val (.int p2), .val (.int p3), .val (.int p4), .val (.int f), .val (.int va), .val (.int vb), .val (.int kk), .val (.ref b401), .val (.int (0 : Int32)), .val (.int (0 : Int32)), .val (.int (0 : Int32))] [(.ref b411), (.ref b411), (.int f)])
                    refine own_by (fun _ k => XS.aload X411.here hx rfl (hb hby at_788) rfl rfl k) ?_
                    show own_Go p e below _ T411 (mkF m 790 #[.val (.int p1), .val (.int p2), .val (.int p3), .val (.int p4), .val (.int f), .val (.int va), .val (.int vb), .val (.int kk), .val (.ref b401), .val (.int (0 : Int32)), .val (.int (0 : Int32)), .val (.int (0 : Int32))] [(.ref b401), (.ref b411), (.ref b411), (.int f)])
                    have f414 := (V401.ext E411)
                    obtain ⟨_, T415, L415, k415w, X415, ⟨rfl, N415q, Ke, Ee, Ce, te, ke, Ve, Ae, Ie⟩, S415, kz415, hZ, hown, st415⟩ := own_callIW X411 hx hZ hown S0 kz412 (y := (⟨"java/lang/String", "<init>", "([C)V"⟩ : MethodName)) rfl (hw _ (List.mem_of_getElem? (i := 9) rfl)) (hw _ (List.mem_of_getElem? (i := 10) rfl)) (hw _ (List.mem_of_getElem? (i := 8) rfl)) (hw _ (List.mem_of_getElem? (i := 11) rfl)) (by decide) (a := b411) (argsL := [(.ref b401)]) (rest := [(.ref b411), (.int f)]) (fun vm hv => own_ibW I0 hv) e411 (rm2 l Z a0 hw [] b411 b401 k401 h411 n0 Z411 og_b411 A411 F_coder_b411 F_value_b411 hc7 hcw (own_hk hkz K413) f414) (g := (mkF m 790 #[.val (.int p1), .val (.int p2), .val (.int p3), .val (.int p4), .val (.int f), .val (.int va), .val (.int vb), .val (.int kk), .val (.ref b401), .val (.int (0 : Int32)), .val (.int (0 : Int32)), .val (.int (0 : Int32))] [(.ref b401), (.ref b411), (.ref b411), (.int f)])) rfl (by rw [hml]; rfl) (lenOf pd_9 rfl) rfl (W := 2) (by show 2 * 0 + _ ≤ _; exact Nat.le_of_eq rfl) (hb hby at_790) (by decide) (by decide) (by decide) (by decide)
                    have N415 := Fr.app N159 N415q
                    refine own_by st415 ?_
                    show own_Go p e below _ T415 (mkF m 793 #[.val (.int p1), .val (.int p2), .val (.int p3), .val (.int p4), .val (.int f), .val (.int va), .val (.int vb), .val (.int kk), .val (.ref b401), .val (.int (0 : Int32)), .val (.int (0 : Int32)), .val (.int (0 : Int32))] [(.ref b411), (.int f)])
                    have Z415 : n0 ≤ T415.heap.size := Nat.le_trans Z411 Ke.1
                    have K415c := K413.trans Ke (allS (Or.inr sz_b411) all0)
                    have f416 := (own_staK ((SC.ext E401).ext E411) Ke (allS (P := fun x => ∀ cell : Cell, _ → _) (Exa.nostat A411) all0))
                    obtain ⟨_, T417, L417, k417w, X417, ⟨rfl, N417q⟩, S417, kz417, hZ, hown, st417⟩ := own_callSW X415 hx hZ hown S415 kz415 (y := (⟨"com/example/tolk/tolk/query/Http1", "keepsAlive", "(ZLjava/lang/String;)Z"⟩ : MethodName)) (hw _ (List.mem_of_getElem? (i := 35) rfl)) (hw _ (List.mem_of_getElem? (i := 36) rfl)) (hw _ (List.mem_of_getElem? (i := 37) rfl)) (hw _ (List.mem_of_getElem? (i := 38) rfl)) (by decide) (argsL := [(.int f), (.ref b411)]) (rest := []) (fun vm hv => own_ibW Ie hv) rfl (rm8 l Z a0 hw [] f b411 te ke own_nil w1 T415.heap n0 Z415 f416 hw1 Ee Ce Ve Ae (by decide) hc49 hc55 hcw (own_hk hkz K415c)) (g := (mkF m 793 #[.val (.int p1), .val (.int p2), .val (.int p3), .val (.int p4), .val (.int f), .val (.int va), .val (.int vb), .val (.int kk), .val (.ref b401), .val (.int (0 : Int32)), .val (.int (0 : Int32)), .val (.int (0 : Int32))] [(.ref b411), (.int f)])) rfl (by rw [hml]; rfl) (lenOf pd_10 rfl) rfl (W := 0) (by show 2 * 0 + _ ≤ _; exact Nat.le_of_eq rfl) (hb hby at_793) (by decide) (by decide) (by decide) (by decide)
                    have N417 := Fr.app N415 N417q
                    refine own_by st417 ?_
                    show own_Go p e below _ T417 (mkF m 796 #[.val (.int p1), .val (.int p2), .val (.int p3), .val (.int p4), .val (.int f), .val (.int va), .val (.int vb), .val (.int kk), .val (.ref b401), .val (.int (0 : Int32)), .val (.int (0 : Int32)), .val (.int (0 : Int32))] [(.int (own_ans f own_nil))])
                    refine own_by (fun _ k => XS.iload X417.here hx rfl (hb hby at_796) rfl k) ?_
                    show own_Go p e below _ T417 (mkF m 798 #[.val (.int p1), .val (.int p2), .val (.int p3), .val (.int p4), .val (.int f), .val (.int va), .val (.int vb), .val (.int kk), .val (.ref b401), .val (.int (0 : Int32)), .val (.int (0 : Int32)), .val (.int (0 : Int32))] [(.int (0 : Int32)), (.int (own_ans f own_nil))])
                    refine own_by (fun _ k => XS.icmpNo X417.here hx rfl (hb hby at_798) rfl (teq (by simp only [own_ans, if_neg hf0]; rfl : (own_ans f own_nil) = (0 : Int32))).2 k) ?_
                    show own_Go p e below _ T417 (mkF m 801 #[.val (.int p1), .val (.int p2), .val (.int p3), .val (.int p4), .val (.int f), .val (.int va), .val (.int vb), .val (.int kk), .val (.ref b401), .val (.int (0 : Int32)), .val (.int (0 : Int32)), .val (.int (0 : Int32))] [])
                    refine own_by (fun _ k => XS.iconst X417.here hx rfl (hb hby at_801) k) ?_
                    show own_Go p e below _ T417 (mkF m 802 #[.val (.int p1), .val (.int p2), .val (.int p3), .val (.int p4), .val (.int f), .val (.int va), .val (.int vb), .val (.int kk), .val (.ref b401), .val (.int (0 : Int32)), .val (.int (0 : Int32)), .val (.int (0 : Int32))] [(.int (1 : Int32))])
                    refine own_by (fun _ k => XS.goto X417.here hx rfl (pc0 := 802) (pc' := 806) rfl (hb hby at_802) (by decide) (by decide) k) ?_
                    show own_Go p e below _ T417 (mkF m 806 #[.val (.int p1), .val (.int p2), .val (.int p3), .val (.int p4), .val (.int f), .val (.int va), .val (.int vb), .val (.int kk), .val (.ref b401), .val (.int (0 : Int32)), .val (.int (0 : Int32)), .val (.int (0 : Int32))] [(.int (1 : Int32))])
                    exact own_retNW X417 hx hlk S417 kz417 rfl hret (by simp) rfl (hb hby at_806) ⟨rfl, N417⟩ (by decide) (by decide)
                · refine own_by (fun _ k => XS.icmpYes X159.here hx rfl (pc0 := 483) (pc' := 500) rfl (hb hby at_483) rfl (feq (hk6 : ¬ (kk = (6 : Int32)))).2 (by decide) (by decide) k) ?_
                  show own_Go p e below _ T159 (mkF m 500 #[.val (.int p1), .val (.int p2), .val (.int p3), .val (.int p4), .val (.int f), .val (.int va), .val (.int vb), .val (.int kk), .unset, .unset, .unset, .unset] [])
                  refine own_by (fun _ k => XS.iload X159.here hx rfl (hb hby at_500) rfl k) ?_
                  show own_Go p e below _ T159 (mkF m 502 #[.val (.int p1), .val (.int p2), .val (.int p3), .val (.int p4), .val (.int f), .val (.int va), .val (.int vb), .val (.int kk), .unset, .unset, .unset, .unset] [(.int kk)])
                  refine own_by (fun _ k => XS.bipush X159.here hx rfl (hb hby at_502) k) ?_
                  show own_Go p e below _ T159 (mkF m 504 #[.val (.int p1), .val (.int p2), .val (.int p3), .val (.int p4), .val (.int f), .val (.int va), .val (.int vb), .val (.int kk), .unset, .unset, .unset, .unset] [(.int (7 : Int32)), (.int kk)])
                  by_cases hk7 : kk = (7 : Int32)
                  · refine own_by (fun _ k => XS.icmpNo X159.here hx rfl (hb hby at_504) rfl (teq (hk7 : kk = (7 : Int32))).2 k) ?_
                    show own_Go p e below _ T159 (mkF m 507 #[.val (.int p1), .val (.int p2), .val (.int p3), .val (.int p4), .val (.int f), .val (.int va), .val (.int vb), .val (.int kk), .unset, .unset, .unset, .unset] [])
                    refine own_by (fun _ k => XS.bipush X159.here hx rfl (hb hby at_507) k) ?_
                    show own_Go p e below _ T159 (mkF m 509 #[.val (.int p1), .val (.int p2), .val (.int p3), .val (.int p4), .val (.int f), .val (.int va), .val (.int vb), .val (.int kk), .unset, .unset, .unset, .unset] [(.int (11 : Int32))])
                    obtain ⟨T418, h418, k418, X418, e418, E418, A418, C418, st418⟩ := newPE X159 hx hZ (hw _ (List.mem_of_getElem? (i := 5) rfl)) e159 (g := (mkF m 509 #[.val (.int p1), .val (.int p2), .val (.int p3), .val (.int p4), .val (.int f), .val (.int va), .val (.int vb), .val (.int kk), .unset, .unset, .unset, .unset] [(.int (11 : Int32))])) rfl (hb hby at_509) rfl (by decide) (cap := 11) (by decide) (by decide) (by decide) (by decide) (ad := "[C") (by decide)
                    obtain ⟨b418, g418⟩ : ∃ zq, zq = h0.size := ⟨_, rfl⟩
                    rw [← g418] at A418 C418 st418
                    have og_b418 : n0 ≤ b418 := Nat.le_trans Z0 (Nat.le_of_eq g418.symm)
                    have sz_b418 : h0.size ≤ b418 := Nat.le_trans K0.1 (Nat.le_of_eq g418.symm)
                    have Z418 : n0 ≤ h418.size := Nat.le_trans Z0 E418.1
                    have kz419 : _ ≤ h418.size := Nat.le_trans kz0 E418.1
                    have K420 := K0.ext E418
                    have V418 : Arv Z h418 b418 k418 .char (11 : Int32) [(.int (0 : Int32)), (.int (0 : Int32)), (.int (0 : Int32)), (.int (0 : Int32)), (.int (0 : Int32)), (.int (0 : Int32)), (.int (0 : Int32)), (.int (0 : Int32)), (.int (0 : Int32)), (.int (0 : Int32)), (.int (0 : Int32))] (.int (0 : Int32)) := (Arv.new A418 (by decide)).pad (pad_rep [] (.int (0 : Int32)) 11)
                    refine own_by st418 ?_
                    show own_Go p e below _ T418 (mkF m 511 #[.val (.int p1), .val (.int p2), .val (.int p3), .val (.int p4), .val (.int f), .val (.int va), .val (.int vb), .val (.int kk), .unset, .unset, .unset, .unset] [(.ref b418)])
                    refine own_by (fun _ k => XS.dup X418.here hx rfl (hb hby at_511) rfl rfl k) ?_
                    show own_Go p e below _ T418 (mkF m 512 #[.val (.int p1), .val (.int p2), .val (.int p3), .val (.int p4), .val (.int f), .val (.int va), .val (.int vb), .val (.int kk), .unset, .unset, .unset, .unset] [(.ref b418), (.ref b418)])
                    refine own_by (fun _ k => XS.iconst X418.here hx rfl (hb hby at_512) k) ?_
                    show own_Go p e below _ T418 (mkF m 513 #[.val (.int p1), .val (.int p2), .val (.int p3), .val (.int p4), .val (.int f), .val (.int va), .val (.int vb), .val (.int kk), .unset, .unset, .unset, .unset] [(.int (0 : Int32)), (.ref b418), (.ref b418)])
                    refine own_by (fun _ k => XS.bipush X418.here hx rfl (hb hby at_513) k) ?_
                    show own_Go p e below _ T418 (mkF m 515 #[.val (.int p1), .val (.int p2), .val (.int p3), .val (.int p4), .val (.int f), .val (.int va), .val (.int vb), .val (.int kk), .unset, .unset, .unset, .unset] [(.int (107 : Int32)), (.int (0 : Int32)), (.ref b418), (.ref b418)])
                    obtain ⟨cl421, Ar421, cq421, hin421, hat421, set421⟩ := own_arv V418 (j := (0 : Int32)) ⟨by decide, by decide⟩
                    obtain ⟨T422, h422, X422, e422, W422, st422⟩ := stC X418 hx hZ e418 Ar421 (j := (0 : Int32)) hin421 (g := (mkF m 515 #[.val (.int p1), .val (.int p2), .val (.int p3), .val (.int p4), .val (.int f), .val (.int va), .val (.int vb), .val (.int kk), .unset, .unset, .unset, .unset] [(.int (107 : Int32)), (.int (0 : Int32)), (.ref b418), (.ref b418)])) rfl rfl (hb hby at_515)
                    have wq422 : nar .char (107 : Int32) = (107 : Int32) := rfl
                    rw [wq422] at W422
                    have wf422 : fits .char (.int (107 : Int32)) = true := wq422 ▸ (fits_nar_char _)
                    have V422 : Arv Z h422 b418 k418 .char (11 : Int32) [(.int (107 : Int32)), (.int (0 : Int32)), (.int (0 : Int32)), (.int (0 : Int32)), (.int (0 : Int32)), (.int (0 : Int32)), (.int (0 : Int32)), (.int (0 : Int32)), (.int (0 : Int32)), (.int (0 : Int32)), (.int (0 : Int32))] (.int (0 : Int32)) := set421 wf422 W422 0 rfl (Nat.le_of_ble_eq_true rfl)
                    have N422 := Fr.snoc X422 N159 og_b418
                    have K423 := K420.wr W422 (Or.inr sz_b418)
                    have Z422 : n0 ≤ h422.size := Nat.le_trans Z418 (Keep.of_wr W422).1
                    have kz424 : _ ≤ h422.size := Nat.le_trans kz419 (Keep.of_wr W422).1
                    refine own_by st422 ?_
                    show own_Go p e below _ T422 (mkF m 516 #[.val (.int p1), .val (.int p2), .val (.int p3), .val (.int p4), .val (.int f), .val (.int va), .val (.int vb), .val (.int kk), .unset, .unset, .unset, .unset] [(.ref b418)])
                    refine own_by (fun _ k => XS.dup X422.here hx rfl (hb hby at_516) rfl rfl k) ?_
                    show own_Go p e below _ T422 (mkF m 517 #[.val (.int p1), .val (.int p2), .val (.int p3), .val (.int p4), .val (.int f), .val (.int va), .val (.int vb), .val (.int kk), .unset, .unset, .unset, .unset] [(.ref b418), (.ref b418)])
                    refine own_by (fun _ k => XS.iconst X422.here hx rfl (hb hby at_517) k) ?_
                    show own_Go p e below _ T422 (mkF m 518 #[.val (.int p1), .val (.int p2), .val (.int p3), .val (.int p4), .val (.int f), .val (.int va), .val (.int vb), .val (.int kk), .unset, .unset, .unset, .unset] [(.int (1 : Int32)), (.ref b418), (.ref b418)])
                    refine own_by (fun _ k => XS.bipush X422.here hx rfl (hb hby at_518) k) ?_
                    show own_Go p e below _ T422 (mkF m 520 #[.val (.int p1), .val (.int p2), .val (.int p3), .val (.int p4), .val (.int f), .val (.int va), .val (.int vb), .val (.int kk), .unset, .unset, .unset, .unset] [(.int (101 : Int32)), (.int (1 : Int32)), (.ref b418), (.ref b418)])
                    obtain ⟨cl425, Ar425, cq425, hin425, hat425, set425⟩ := own_arv V422 (j := (1 : Int32)) ⟨by decide, by decide⟩
                    obtain ⟨T426, h426, X426, e426, W426, st426⟩ := stC X422 hx hZ e422 Ar425 (j := (1 : Int32)) hin425 (g := (mkF m 520 #[.val (.int p1), .val (.int p2), .val (.int p3), .val (.int p4), .val (.int f), .val (.int va), .val (.int vb), .val (.int kk), .unset, .unset, .unset, .unset] [(.int (101 : Int32)), (.int (1 : Int32)), (.ref b418), (.ref b418)])) rfl rfl (hb hby at_520)
                    have wq426 : nar .char (101 : Int32) = (101 : Int32) := rfl
                    rw [wq426] at W426
                    have wf426 : fits .char (.int (101 : Int32)) = true := wq426 ▸ (fits_nar_char _)
                    have V426 : Arv Z h426 b418 k418 .char (11 : Int32) [(.int (107 : Int32)), (.int (101 : Int32)), (.int (0 : Int32)), (.int (0 : Int32)), (.int (0 : Int32)), (.int (0 : Int32)), (.int (0 : Int32)), (.int (0 : Int32)), (.int (0 : Int32)), (.int (0 : Int32)), (.int (0 : Int32))] (.int (0 : Int32)) := set425 wf426 W426 1 rfl (Nat.le_of_ble_eq_true rfl)
                    have N426 := Fr.snoc X426 N422 og_b418
                    have K427 := K423.wr W426 (Or.inr sz_b418)
                    have Z426 : n0 ≤ h426.size := Nat.le_trans Z422 (Keep.of_wr W426).1
                    have kz428 : _ ≤ h426.size := Nat.le_trans kz424 (Keep.of_wr W426).1
                    refine own_by st426 ?_
                    show own_Go p e below _ T426 (mkF m 521 #[.val (.int p1), .val (.int p2), .val (.int p3), .val (.int p4), .val (.int f), .val (.int va), .val (.int vb), .val (.int kk), .unset, .unset, .unset, .unset] [(.ref b418)])
                    refine own_by (fun _ k => XS.dup X426.here hx rfl (hb hby at_521) rfl rfl k) ?_
                    show own_Go p e below _ T426 (mkF m 522 #[.val (.int p1), .val (.int p2), .val (.int p3), .val (.int p4), .val (.int f), .val (.int va), .val (.int vb), .val (.int kk), .unset, .unset, .unset, .unset] [(.ref b418), (.ref b418)])
                    refine own_by (fun _ k => XS.iconst X426.here hx rfl (hb hby at_522) k) ?_
                    show own_Go p e below _ T426 (mkF m 523 #[.val (.int p1), .val (.int p2), .val (.int p3), .val (.int p4), .val (.int f), .val (.int va), .val (.int vb), .val (.int kk), .unset, .unset, .unset, .unset] [(.int (2 : Int32)), (.ref b418), (.ref b418)])
                    refine own_by (fun _ k => XS.bipush X426.here hx rfl (hb hby at_523) k) ?_
                    show own_Go p e below _ T426 (mkF m 525 #[.val (.int p1), .val (.int p2), .val (.int p3), .val (.int p4), .val (.int f), .val (.int va), .val (.int vb), .val (.int kk), .unset, .unset, .unset, .unset] [(.int (101 : Int32)), (.int (2 : Int32)), (.ref b418), (.ref b418)])
                    obtain ⟨cl429, Ar429, cq429, hin429, hat429, set429⟩ := own_arv V426 (j := (2 : Int32)) ⟨by decide, by decide⟩
                    obtain ⟨T430, h430, X430, e430, W430, st430⟩ := stC X426 hx hZ e426 Ar429 (j := (2 : Int32)) hin429 (g := (mkF m 525 #[.val (.int p1), .val (.int p2), .val (.int p3), .val (.int p4), .val (.int f), .val (.int va), .val (.int vb), .val (.int kk), .unset, .unset, .unset, .unset] [(.int (101 : Int32)), (.int (2 : Int32)), (.ref b418), (.ref b418)])) rfl rfl (hb hby at_525)
                    have wq430 : nar .char (101 : Int32) = (101 : Int32) := rfl
                    rw [wq430] at W430
                    have wf430 : fits .char (.int (101 : Int32)) = true := wq430 ▸ (fits_nar_char _)
                    have V430 : Arv Z h430 b418 k418 .char (11 : Int32) [(.int (107 : Int32)), (.int (101 : Int32)), (.int (101 : Int32)), (.int (0 : Int32)), (.int (0 : Int32)), (.int (0 : Int32)), (.int (0 : Int32)), (.int (0 : Int32)), (.int (0 : Int32)), (.int (0 : Int32)), (.int (0 : Int32))] (.int (0 : Int32)) := set429 wf430 W430 2 rfl (Nat.le_of_ble_eq_true rfl)
                    have N430 := Fr.snoc X430 N426 og_b418
                    have K431 := K427.wr W430 (Or.inr sz_b418)
                    have Z430 : n0 ≤ h430.size := Nat.le_trans Z426 (Keep.of_wr W430).1
                    have kz432 : _ ≤ h430.size := Nat.le_trans kz428 (Keep.of_wr W430).1
                    refine own_by st430 ?_
                    show own_Go p e below _ T430 (mkF m 526 #[.val (.int p1), .val (.int p2), .val (.int p3), .val (.int p4), .val (.int f), .val (.int va), .val (.int vb), .val (.int kk), .unset, .unset, .unset, .unset] [(.ref b418)])
                    refine own_by (fun _ k => XS.dup X430.here hx rfl (hb hby at_526) rfl rfl k) ?_
                    show own_Go p e below _ T430 (mkF m 527 #[.val (.int p1), .val (.int p2), .val (.int p3), .val (.int p4), .val (.int f), .val (.int va), .val (.int vb), .val (.int kk), .unset, .unset, .unset, .unset] [(.ref b418), (.ref b418)])
                    refine own_by (fun _ k => XS.iconst X430.here hx rfl (hb hby at_527) k) ?_
                    show own_Go p e below _ T430 (mkF m 528 #[.val (.int p1), .val (.int p2), .val (.int p3), .val (.int p4), .val (.int f), .val (.int va), .val (.int vb), .val (.int kk), .unset, .unset, .unset, .unset] [(.int (3 : Int32)), (.ref b418), (.ref b418)])
                    refine own_by (fun _ k => XS.bipush X430.here hx rfl (hb hby at_528) k) ?_
                    show own_Go p e below _ T430 (mkF m 530 #[.val (.int p1), .val (.int p2), .val (.int p3), .val (.int p4), .val (.int f), .val (.int va), .val (.int vb), .val (.int kk), .unset, .unset, .unset, .unset] [(.int (112 : Int32)), (.int (3 : Int32)), (.ref b418), (.ref b418)])
                    obtain ⟨cl433, Ar433, cq433, hin433, hat433, set433⟩ := own_arv V430 (j := (3 : Int32)) ⟨by decide, by decide⟩
                    obtain ⟨T434, h434, X434, e434, W434, st434⟩ := stC X430 hx hZ e430 Ar433 (j := (3 : Int32)) hin433 (g := (mkF m 530 #[.val (.int p1), .val (.int p2), .val (.int p3), .val (.int p4), .val (.int f), .val (.int va), .val (.int vb), .val (.int kk), .unset, .unset, .unset, .unset] [(.int (112 : Int32)), (.int (3 : Int32)), (.ref b418), (.ref b418)])) rfl rfl (hb hby at_530)
                    have wq434 : nar .char (112 : Int32) = (112 : Int32) := rfl
                    rw [wq434] at W434
                    have wf434 : fits .char (.int (112 : Int32)) = true := wq434 ▸ (fits_nar_char _)
                    have V434 : Arv Z h434 b418 k418 .char (11 : Int32) [(.int (107 : Int32)), (.int (101 : Int32)), (.int (101 : Int32)), (.int (112 : Int32)), (.int (0 : Int32)), (.int (0 : Int32)), (.int (0 : Int32)), (.int (0 : Int32)), (.int (0 : Int32)), (.int (0 : Int32)), (.int (0 : Int32))] (.int (0 : Int32)) := set433 wf434 W434 3 rfl (Nat.le_of_ble_eq_true rfl)
                    have N434 := Fr.snoc X434 N430 og_b418
                    have K435 := K431.wr W434 (Or.inr sz_b418)
                    have Z434 : n0 ≤ h434.size := Nat.le_trans Z430 (Keep.of_wr W434).1
                    have kz436 : _ ≤ h434.size := Nat.le_trans kz432 (Keep.of_wr W434).1
                    refine own_by st434 ?_
                    show own_Go p e below _ T434 (mkF m 531 #[.val (.int p1), .val (.int p2), .val (.int p3), .val (.int p4), .val (.int f), .val (.int va), .val (.int vb), .val (.int kk), .unset, .unset, .unset, .unset] [(.ref b418)])
                    refine own_by (fun _ k => XS.dup X434.here hx rfl (hb hby at_531) rfl rfl k) ?_
                    show own_Go p e below _ T434 (mkF m 532 #[.val (.int p1), .val (.int p2), .val (.int p3), .val (.int p4), .val (.int f), .val (.int va), .val (.int vb), .val (.int kk), .unset, .unset, .unset, .unset] [(.ref b418), (.ref b418)])
                    refine own_by (fun _ k => XS.iconst X434.here hx rfl (hb hby at_532) k) ?_
                    show own_Go p e below _ T434 (mkF m 533 #[.val (.int p1), .val (.int p2), .val (.int p3), .val (.int p4), .val (.int f), .val (.int va), .val (.int vb), .val (.int kk), .unset, .unset, .unset, .unset] [(.int (4 : Int32)), (.ref b418), (.ref b418)])
                    refine own_by (fun _ k => XS.iload X434.here hx rfl (hb hby at_533) rfl k) ?_
                    show own_Go p e below _ T434 (mkF m 535 #[.val (.int p1), .val (.int p2), .val (.int p3), .val (.int p4), .val (.int f), .val (.int va), .val (.int vb), .val (.int kk), .unset, .unset, .unset, .unset] [(.int va), (.int (4 : Int32)), (.ref b418), (.ref b418)])
                    obtain ⟨cl437, Ar437, cq437, hin437, hat437, set437⟩ := own_arv V434 (j := (4 : Int32)) ⟨by decide, by decide⟩
                    obtain ⟨T438, h438, X438, e438, W438, st438⟩ := stC X434 hx hZ e434 Ar437 (j := (4 : Int32)) hin437 (g := (mkF m 535 #[.val (.int p1), .val (.int p2), .val (.int p3), .val (.int p4), .val (.int f), .val (.int va), .val (.int vb), .val (.int kk), .unset, .unset, .unset, .unset] [(.int va), (.int (4 : Int32)), (.ref b418), (.ref b418)])) rfl rfl (hb hby at_535)
                    have wq438 : nar .char va = va := hva.1
                    rw [wq438] at W438
                    have wf438 : fits .char (.int va) = true := wq438 ▸ (fits_nar_char _)
                    have V438 : Arv Z h438 b418 k418 .char (11 : Int32) [(.int (107 : Int32)), (.int (101 : Int32)), (.int (101 : Int32)), (.int (112 : Int32)), (.int va), (.int (0 : Int32)), (.int (0 : Int32)), (.int (0 : Int32)), (.int (0 : Int32)), (.int (0 : Int32)), (.int (0 : Int32))] (.int (0 : Int32)) := set437 wf438 W438 4 rfl (Nat.le_of_ble_eq_true rfl)
                    have N438 := Fr.snoc X438 N434 og_b418
                    have K439 := K435.wr W438 (Or.inr sz_b418)
                    have Z438 : n0 ≤ h438.size := Nat.le_trans Z434 (Keep.of_wr W438).1
                    have kz440 : _ ≤ h438.size := Nat.le_trans kz436 (Keep.of_wr W438).1
                    refine own_by st438 ?_
                    show own_Go p e below _ T438 (mkF m 536 #[.val (.int p1), .val (.int p2), .val (.int p3), .val (.int p4), .val (.int f), .val (.int va), .val (.int vb), .val (.int kk), .unset, .unset, .unset, .unset] [(.ref b418)])
                    refine own_by (fun _ k => XS.dup X438.here hx rfl (hb hby at_536) rfl rfl k) ?_
                    show own_Go p e below _ T438 (mkF m 537 #[.val (.int p1), .val (.int p2), .val (.int p3), .val (.int p4), .val (.int f), .val (.int va), .val (.int vb), .val (.int kk), .unset, .unset, .unset, .unset] [(.ref b418), (.ref b418)])
                    refine own_by (fun _ k => XS.iconst X438.here hx rfl (hb hby at_537) k) ?_
                    show own_Go p e below _ T438 (mkF m 538 #[.val (.int p1), .val (.int p2), .val (.int p3), .val (.int p4), .val (.int f), .val (.int va), .val (.int vb), .val (.int kk), .unset, .unset, .unset, .unset] [(.int (5 : Int32)), (.ref b418), (.ref b418)])
                    refine own_by (fun _ k => XS.bipush X438.here hx rfl (hb hby at_538) k) ?_
                    show own_Go p e below _ T438 (mkF m 540 #[.val (.int p1), .val (.int p2), .val (.int p3), .val (.int p4), .val (.int f), .val (.int va), .val (.int vb), .val (.int kk), .unset, .unset, .unset, .unset] [(.int (97 : Int32)), (.int (5 : Int32)), (.ref b418), (.ref b418)])
                    obtain ⟨cl441, Ar441, cq441, hin441, hat441, set441⟩ := own_arv V438 (j := (5 : Int32)) ⟨by decide, by decide⟩
                    obtain ⟨T442, h442, X442, e442, W442, st442⟩ := stC X438 hx hZ e438 Ar441 (j := (5 : Int32)) hin441 (g := (mkF m 540 #[.val (.int p1), .val (.int p2), .val (.int p3), .val (.int p4), .val (.int f), .val (.int va), .val (.int vb), .val (.int kk), .unset, .unset, .unset, .unset] [(.int (97 : Int32)), (.int (5 : Int32)), (.ref b418), (.ref b418)])) rfl rfl (hb hby at_540)
                    have wq442 : nar .char (97 : Int32) = (97 : Int32) := rfl
                    rw [wq442] at W442
                    have wf442 : fits .char (.int (97 : Int32)) = true := wq442 ▸ (fits_nar_char _)
                    have V442 : Arv Z h442 b418 k418 .char (11 : Int32) [(.int (107 : Int32)), (.int (101 : Int32)), (.int (101 : Int32)), (.int (112 : Int32)), (.int va), (.int (97 : Int32)), (.int (0 : Int32)), (.int (0 : Int32)), (.int (0 : Int32)), (.int (0 : Int32)), (.int (0 : Int32))] (.int (0 : Int32)) := set441 wf442 W442 5 rfl (Nat.le_of_ble_eq_true rfl)
                    have N442 := Fr.snoc X442 N438 og_b418
                    have K443 := K439.wr W442 (Or.inr sz_b418)
                    have Z442 : n0 ≤ h442.size := Nat.le_trans Z438 (Keep.of_wr W442).1
                    have kz444 : _ ≤ h442.size := Nat.le_trans kz440 (Keep.of_wr W442).1
                    refine own_by st442 ?_
                    show own_Go p e below _ T442 (mkF m 541 #[.val (.int p1), .val (.int p2), .val (.int p3), .val (.int p4), .val (.int f), .val (.int va), .val (.int vb), .val (.int kk), .unset, .unset, .unset, .unset] [(.ref b418)])
                    refine own_by (fun _ k => XS.dup X442.here hx rfl (hb hby at_541) rfl rfl k) ?_
                    show own_Go p e below _ T442 (mkF m 542 #[.val (.int p1), .val (.int p2), .val (.int p3), .val (.int p4), .val (.int f), .val (.int va), .val (.int vb), .val (.int kk), .unset, .unset, .unset, .unset] [(.ref b418), (.ref b418)])
                    refine own_by (fun _ k => XS.bipush X442.here hx rfl (hb hby at_542) k) ?_
                    show own_Go p e below _ T442 (mkF m 544 #[.val (.int p1), .val (.int p2), .val (.int p3), .val (.int p4), .val (.int f), .val (.int va), .val (.int vb), .val (.int kk), .unset, .unset, .unset, .unset] [(.int (6 : Int32)), (.ref b418), (.ref b418)])
                    refine own_by (fun _ k => XS.bipush X442.here hx rfl (hb hby at_544) k) ?_
                    show own_Go p e below _ T442 (mkF m 546 #[.val (.int p1), .val (.int p2), .val (.int p3), .val (.int p4), .val (.int f), .val (.int va), .val (.int vb), .val (.int kk), .unset, .unset, .unset, .unset] [(.int (108 : Int32)), (.int (6 : Int32)), (.ref b418), (.ref b418)])
                    obtain ⟨cl445, Ar445, cq445, hin445, hat445, set445⟩ := own_arv V442 (j := (6 : Int32)) ⟨by decide, by decide⟩
                    obtain ⟨T446, h446, X446, e446, W446, st446⟩ := stC X442 hx hZ e442 Ar445 (j := (6 : Int32)) hin445 (g := (mkF m 546 #[.val (.int p1), .val (.int p2), .val (.int p3), .val (.int p4), .val (.int f), .val (.int va), .val (.int vb), .val (.int kk), .unset, .unset, .unset, .unset] [(.int (108 : Int32)), (.int (6 : Int32)), (.ref b418), (.ref b418)])) rfl rfl (hb hby at_546)
                    have wq446 : nar .char (108 : Int32) = (108 : Int32) := rfl
                    rw [wq446] at W446
                    have wf446 : fits .char (.int (108 : Int32)) = true := wq446 ▸ (fits_nar_char _)
                    have V446 : Arv Z h446 b418 k418 .char (11 : Int32) [(.int (107 : Int32)), (.int (101 : Int32)), (.int (101 : Int32)), (.int (112 : Int32)), (.int va), (.int (97 : Int32)), (.int (108 : Int32)), (.int (0 : Int32)), (.int (0 : Int32)), (.int (0 : Int32)), (.int (0 : Int32))] (.int (0 : Int32)) := set445 wf446 W446 6 rfl (Nat.le_of_ble_eq_true rfl)
                    have N446 := Fr.snoc X446 N442 og_b418
                    have K447 := K443.wr W446 (Or.inr sz_b418)
                    have Z446 : n0 ≤ h446.size := Nat.le_trans Z442 (Keep.of_wr W446).1
                    have kz448 : _ ≤ h446.size := Nat.le_trans kz444 (Keep.of_wr W446).1
                    refine own_by st446 ?_
                    show own_Go p e below _ T446 (mkF m 547 #[.val (.int p1), .val (.int p2), .val (.int p3), .val (.int p4), .val (.int f), .val (.int va), .val (.int vb), .val (.int kk), .unset, .unset, .unset, .unset] [(.ref b418)])
                    refine own_by (fun _ k => XS.dup X446.here hx rfl (hb hby at_547) rfl rfl k) ?_
                    show own_Go p e below _ T446 (mkF m 548 #[.val (.int p1), .val (.int p2), .val (.int p3), .val (.int p4), .val (.int f), .val (.int va), .val (.int vb), .val (.int kk), .unset, .unset, .unset, .unset] [(.ref b418), (.ref b418)])
                    refine own_by (fun _ k => XS.bipush X446.here hx rfl (hb hby at_548) k) ?_
                    show own_Go p e below _ T446 (mkF m 550 #[.val (.int p1), .val (.int p2), .val (.int p3), .val (.int p4), .val (.int f), .val (.int va), .val (.int vb), .val (.int kk), .unset, .unset, .unset, .unset] [(.int (7 : Int32)), (.ref b418), (.ref b418)])
                    refine own_by (fun _ k => XS.bipush X446.here hx rfl (hb hby at_550) k) ?_
                    show own_Go p e below _ T446 (mkF m 552 #[.val (.int p1), .val (.int p2), .val (.int p3), .val (.int p4), .val (.int f), .val (.int va), .val (.int vb), .val (.int kk), .unset, .unset, .unset, .unset] [(.int (105 : Int32)), (.int (7 : Int32)), (.ref b418), (.ref b418)])
                    obtain ⟨cl449, Ar449, cq449, hin449, hat449, set449⟩ := own_arv V446 (j := (7 : Int32)) ⟨by decide, by decide⟩
                    obtain ⟨T450, h450, X450, e450, W450, st450⟩ := stC X446 hx hZ e446 Ar449 (j := (7 : Int32)) hin449 (g := (mkF m 552 #[.val (.int p1), .val (.int p2), .val (.int p3), .val (.int p4), .val (.int f), .val (.int va), .val (.int vb), .val (.int kk), .unset, .unset, .unset, .unset] [(.int (105 : Int32)), (.int (7 : Int32)), (.ref b418), (.ref b418)])) rfl rfl (hb hby at_552)
                    have wq450 : nar .char (105 : Int32) = (105 : Int32) := rfl
                    rw [wq450] at W450
                    have wf450 : fits .char (.int (105 : Int32)) = true := wq450 ▸ (fits_nar_char _)
                    have V450 : Arv Z h450 b418 k418 .char (11 : Int32) [(.int (107 : Int32)), (.int (101 : Int32)), (.int (101 : Int32)), (.int (112 : Int32)), (.int va), (.int (97 : Int32)), (.int (108 : Int32)), (.int (105 : Int32)), (.int (0 : Int32)), (.int (0 : Int32)), (.int (0 : Int32))] (.int (0 : Int32)) := set449 wf450 W450 7 rfl (Nat.le_of_ble_eq_true rfl)
                    have N450 := Fr.snoc X450 N446 og_b418
                    have K451 := K447.wr W450 (Or.inr sz_b418)
                    have Z450 : n0 ≤ h450.size := Nat.le_trans Z446 (Keep.of_wr W450).1
                    have kz452 : _ ≤ h450.size := Nat.le_trans kz448 (Keep.of_wr W450).1
                    refine own_by st450 ?_
                    show own_Go p e below _ T450 (mkF m 553 #[.val (.int p1), .val (.int p2), .val (.int p3), .val (.int p4), .val (.int f), .val (.int va), .val (.int vb), .val (.int kk), .unset, .unset, .unset, .unset] [(.ref b418)])
                    refine own_by (fun _ k => XS.dup X450.here hx rfl (hb hby at_553) rfl rfl k) ?_
                    show own_Go p e below _ T450 (mkF m 554 #[.val (.int p1), .val (.int p2), .val (.int p3), .val (.int p4), .val (.int f), .val (.int va), .val (.int vb), .val (.int kk), .unset, .unset, .unset, .unset] [(.ref b418), (.ref b418)])
                    refine own_by (fun _ k => XS.bipush X450.here hx rfl (hb hby at_554) k) ?_
                    show own_Go p e below _ T450 (mkF m 556 #[.val (.int p1), .val (.int p2), .val (.int p3), .val (.int p4), .val (.int f), .val (.int va), .val (.int vb), .val (.int kk), .unset, .unset, .unset, .unset] [(.int (8 : Int32)), (.ref b418), (.ref b418)])
                    refine own_by (fun _ k => XS.bipush X450.here hx rfl (hb hby at_556) k) ?_
                    show own_Go p e below _ T450 (mkF m 558 #[.val (.int p1), .val (.int p2), .val (.int p3), .val (.int p4), .val (.int f), .val (.int va), .val (.int vb), .val (.int kk), .unset, .unset, .unset, .unset] [(.int (118 : Int32)), (.int (8 : Int32)), (.ref b418), (.ref b418)])
                    obtain ⟨cl453, Ar453, cq453, hin453, hat453, set453⟩ := own_arv V450 (j := (8 : Int32)) ⟨by decide, by decide⟩
                    obtain ⟨T454, h454, X454, e454, W454, st454⟩ := stC X450 hx hZ e450 Ar453 (j := (8 : Int32)) hin453 (g := (mkF m 558 #[.val (.int p1), .val (.int p2), .val (.int p3), .val (.int p4), .val (.int f), .val (.int va), .val (.int vb), .val (.int kk), .unset, .unset, .unset, .unset] [(.int (118 : Int32)), (.int (8 : Int32)), (.ref b418), (.ref b418)])) rfl rfl (hb hby at_558)
                    have wq454 : nar .char (118 : Int32) = (118 : Int32) := rfl
                    rw [wq454] at W454
                    have wf454 : fits .char (.int (118 : Int32)) = true := wq454 ▸ (fits_nar_char _)
                    have V454 : Arv Z h454 b418 k418 .char (11 : Int32) [(.int (107 : Int32)), (.int (101 : Int32)), (.int (101 : Int32)), (.int (112 : Int32)), (.int va), (.int (97 : Int32)), (.int (108 : Int32)), (.int (105 : Int32)), (.int (118 : Int32)), (.int (0 : Int32)), (.int (0 : Int32))] (.int (0 : Int32)) := set453 wf454 W454 8 rfl (Nat.le_of_ble_eq_true rfl)
                    have N454 := Fr.snoc X454 N450 og_b418
                    have K455 := K451.wr W454 (Or.inr sz_b418)
                    have Z454 : n0 ≤ h454.size := Nat.le_trans Z450 (Keep.of_wr W454).1
                    have kz456 : _ ≤ h454.size := Nat.le_trans kz452 (Keep.of_wr W454).1
                    refine own_by st454 ?_
                    show own_Go p e below _ T454 (mkF m 559 #[.val (.int p1), .val (.int p2), .val (.int p3), .val (.int p4), .val (.int f), .val (.int va), .val (.int vb), .val (.int kk), .unset, .unset, .unset, .unset] [(.ref b418)])
                    refine own_by (fun _ k => XS.dup X454.here hx rfl (hb hby at_559) rfl rfl k) ?_
                    show own_Go p e below _ T454 (mkF m 560 #[.val (.int p1), .val (.int p2), .val (.int p3), .val (.int p4), .val (.int f), .val (.int va), .val (.int vb), .val (.int kk), .unset, .unset, .unset, .unset] [(.ref b418), (.ref b418)])
                    refine own_by (fun _ k => XS.bipush X454.here hx rfl (hb hby at_560) k) ?_
                    show own_Go p e below _ T454 (mkF m 562 #[.val (.int p1), .val (.int p2), .val (.int p3), .val (.int p4), .val (.int f), .val (.int va), .val (.int vb), .val (.int kk), .unset, .unset, .unset, .unset] [(.int (9 : Int32)), (.ref b418), (.ref b418)])
                    refine own_by (fun _ k => XS.bipush X454.here hx rfl (hb hby at_562) k) ?_
                    show own_Go p e below _ T454 (mkF m 564 #[.val (.int p1), .val (.int p2), .val (.int p3), .val (.int p4), .val (.int f), .val (.int va), .val (.int vb), .val (.int kk), .unset, .unset, .unset, .unset] [(.int (101 : Int32)), (.int (9 : Int32)), (.ref b418), (.ref b418)])
                    obtain ⟨cl457, Ar457, cq457, hin457, hat457, set457⟩ := own_arv V454 (j := (9 : Int32)) ⟨by decide, by decide⟩
                    obtain ⟨T458, h458, X458, e458, W458, st458⟩ := stC X454 hx hZ e454 Ar457 (j := (9 : Int32)) hin457 (g := (mkF m 564 #[.val (.int p1), .val (.int p2), .val (.int p3), .val (.int p4), .val (.int f), .val (.int va), .val (.int vb), .val (.int kk), .unset, .unset, .unset, .unset] [(.int (101 : Int32)), (.int (9 : Int32)), (.ref b418), (.ref b418)])) rfl rfl (hb hby at_564)
                    have wq458 : nar .char (101 : Int32) = (101 : Int32) := rfl
                    rw [wq458] at W458
                    have wf458 : fits .char (.int (101 : Int32)) = true := wq458 ▸ (fits_nar_char _)
                    have V458 : Arv Z h458 b418 k418 .char (11 : Int32) [(.int (107 : Int32)), (.int (101 : Int32)), (.int (101 : Int32)), (.int (112 : Int32)), (.int va), (.int (97 : Int32)), (.int (108 : Int32)), (.int (105 : Int32)), (.int (118 : Int32)), (.int (101 : Int32)), (.int (0 : Int32))] (.int (0 : Int32)) := set457 wf458 W458 9 rfl (Nat.le_of_ble_eq_true rfl)
                    have N458 := Fr.snoc X458 N454 og_b418
                    have K459 := K455.wr W458 (Or.inr sz_b418)
                    have Z458 : n0 ≤ h458.size := Nat.le_trans Z454 (Keep.of_wr W458).1
                    have kz460 : _ ≤ h458.size := Nat.le_trans kz456 (Keep.of_wr W458).1
                    refine own_by st458 ?_
                    show own_Go p e below _ T458 (mkF m 565 #[.val (.int p1), .val (.int p2), .val (.int p3), .val (.int p4), .val (.int f), .val (.int va), .val (.int vb), .val (.int kk), .unset, .unset, .unset, .unset] [(.ref b418)])
                    refine own_by (fun _ k => XS.dup X458.here hx rfl (hb hby at_565) rfl rfl k) ?_
                    show own_Go p e below _ T458 (mkF m 566 #[.val (.int p1), .val (.int p2), .val (.int p3), .val (.int p4), .val (.int f), .val (.int va), .val (.int vb), .val (.int kk), .unset, .unset, .unset, .unset] [(.ref b418), (.ref b418)])
                    refine own_by (fun _ k => XS.bipush X458.here hx rfl (hb hby at_566) k) ?_
                    show own_Go p e below _ T458 (mkF m 568 #[.val (.int p1), .val (.int p2), .val (.int p3), .val (.int p4), .val (.int f), .val (.int va), .val (.int vb), .val (.int kk), .unset, .unset, .unset, .unset] [(.int (10 : Int32)), (.ref b418), (.ref b418)])
                    refine own_by (fun _ k => XS.iload X458.here hx rfl (hb hby at_568) rfl k) ?_
                    show own_Go p e below _ T458 (mkF m 570 #[.val (.int p1), .val (.int p2), .val (.int p3), .val (.int p4), .val (.int f), .val (.int va), .val (.int vb), .val (.int kk), .unset, .unset, .unset, .unset] [(.int vb), (.int (10 : Int32)), (.ref b418), (.ref b418)])
                    obtain ⟨cl461, Ar461, cq461, hin461, hat461, set461⟩ := own_arv V458 (j := (10 : Int32)) ⟨by decide, by decide⟩
                    obtain ⟨T462, h462, X462, e462, W462, st462⟩ := stC X458 hx hZ e458 Ar461 (j := (10 : Int32)) hin461 (g := (mkF m 570 #[.val (.int p1), .val (.int p2), .val (.int p3), .val (.int p4), .val (.int f), .val (.int va), .val (.int vb), .val (.int kk), .unset, .unset, .unset, .unset] [(.int vb), (.int (10 : Int32)), (.ref b418), (.ref b418)])) rfl rfl (hb hby at_570)
                    have wq462 : nar .char vb = vb := hvb.1
                    rw [wq462] at W462
                    have wf462 : fits .char (.int vb) = true := wq462 ▸ (fits_nar_char _)
                    have V462 : Arv Z h462 b418 k418 .char (11 : Int32) [(.int (107 : Int32)), (.int (101 : Int32)), (.int (101 : Int32)), (.int (112 : Int32)), (.int va), (.int (97 : Int32)), (.int (108 : Int32)), (.int (105 : Int32)), (.int (118 : Int32)), (.int (101 : Int32)), (.int vb)] (.int (0 : Int32)) := set461 wf462 W462 10 rfl (Nat.le_of_ble_eq_true rfl)
                    have N462 := Fr.snoc X462 N458 og_b418
                    have K463 := K459.wr W462 (Or.inr sz_b418)
                    have Z462 : n0 ≤ h462.size := Nat.le_trans Z458 (Keep.of_wr W462).1
                    have kz464 : _ ≤ h462.size := Nat.le_trans kz460 (Keep.of_wr W462).1
                    refine own_by st462 ?_
                    show own_Go p e below _ T462 (mkF m 571 #[.val (.int p1), .val (.int p2), .val (.int p3), .val (.int p4), .val (.int f), .val (.int va), .val (.int vb), .val (.int kk), .unset, .unset, .unset, .unset] [(.ref b418)])
                    refine own_by (fun _ k => XS.astore X462.here hx rfl (hb hby at_571) rfl rfl (l' := #[.val (.int p1), .val (.int p2), .val (.int p3), .val (.int p4), .val (.int f), .val (.int va), .val (.int vb), .val (.int kk), .val (.ref b418), .unset, .unset, .unset]) rfl k) ?_
                    show own_Go p e below _ T462 (mkF m 573 #[.val (.int p1), .val (.int p2), .val (.int p3), .val (.int p4), .val (.int f), .val (.int va), .val (.int vb), .val (.int kk), .val (.ref b418), .unset, .unset, .unset] [])
                    refine own_by (fun _ k => XS.iload X462.here hx rfl (hb hby at_573) rfl k) ?_
                    show own_Go p e below _ T462 (mkF m 575 #[.val (.int p1), .val (.int p2), .val (.int p3), .val (.int p4), .val (.int f), .val (.int va), .val (.int vb), .val (.int kk), .val (.ref b418), .unset, .unset, .unset] [(.int va)])
                    refine own_by (fun _ k => XS.bipush X462.here hx rfl (hb hby at_575) k) ?_
                    show own_Go p e below _ T462 (mkF m 577 #[.val (.int p1), .val (.int p2), .val (.int p3), .val (.int p4), .val (.int f), .val (.int va), .val (.int vb), .val (.int kk), .val (.ref b418), .unset, .unset, .unset] [(.int (45 : Int32)), (.int va)])
                    by_cases h1 : va = (45 : Int32)
                    · refine own_by (fun _ k => XS.icmpNo X462.here hx rfl (hb hby at_577) rfl (teq (h1 : va = (45 : Int32))).2 k) ?_
                      show own_Go p e below _ T462 (mkF m 580 #[.val (.int p1), .val (.int p2), .val (.int p3), .val (.int p4), .val (.int f), .val (.int va), .val (.int vb), .val (.int kk), .val (.ref b418), .unset, .unset, .unset] [])
                      refine own_by (fun _ k => XS.iconst X462.here hx rfl (hb hby at_580) k) ?_
                      show own_Go p e below _ T462 (mkF m 581 #[.val (.int p1), .val (.int p2), .val (.int p3), .val (.int p4), .val (.int f), .val (.int va), .val (.int vb), .val (.int kk), .val (.ref b418), .unset, .unset, .unset] [(.int (1 : Int32))])
                      refine own_by (fun _ k => XS.goto X462.here hx rfl (pc0 := 581) (pc' := 585) rfl (hb hby at_581) (by decide) (by decide) k) ?_
                      show own_Go p e below _ T462 (mkF m 585 #[.val (.int p1), .val (.int p2), .val (.int p3), .val (.int p4), .val (.int f), .val (.int va), .val (.int vb), .val (.int kk), .val (.ref b418), .unset, .unset, .unset] [(.int (1 : Int32))])
                      refine own_by (fun _ k => XS.istore X462.here hx rfl (hb hby at_585) rfl (l' := #[.val (.int p1), .val (.int p2), .val (.int p3), .val (.int p4), .val (.int f), .val (.int va), .val (.int vb), .val (.int kk), .val (.ref b418), .val (.int (1 : Int32)), .unset, .unset]) rfl k) ?_
                      show own_Go p e below _ T462 (mkF m 587 #[.val (.int p1), .val (.int p2), .val (.int p3), .val (.int p4), .val (.int f), .val (.int va), .val (.int vb), .val (.int kk), .val (.ref b418), .val (.int (1 : Int32)), .unset, .unset] [])
                      refine own_by (fun _ k => XS.iconst X462.here hx rfl (hb hby at_587) k) ?_
                      show own_Go p e below _ T462 (mkF m 588 #[.val (.int p1), .val (.int p2), .val (.int p3), .val (.int p4), .val (.int f), .val (.int va), .val (.int vb), .val (.int kk), .val (.ref b418), .val (.int (1 : Int32)), .unset, .unset] [(.int (0 : Int32))])
                      refine own_by (fun _ k => XS.istore X462.here hx rfl (hb hby at_588) rfl (l' := #[.val (.int p1), .val (.int p2), .val (.int p3), .val (.int p4), .val (.int f), .val (.int va), .val (.int vb), .val (.int kk), .val (.ref b418), .val (.int (1 : Int32)), .val (.int (0 : Int32)), .unset]) rfl k) ?_
                      show own_Go p e below _ T462 (mkF m 590 #[.val (.int p1), .val (.int p2), .val (.int p3), .val (.int p4), .val (.int f), .val (.int va), .val (.int vb), .val (.int kk), .val (.ref b418), .val (.int (1 : Int32)), .val (.int (0 : Int32)), .unset] [])
                      refine own_by (fun _ k => XS.goto X462.here hx rfl (pc0 := 590) (pc' := 758) rfl (hb hby at_590) (by decide) (by decide) k) ?_
                      show own_Go p e below _ T462 (mkF m 758 #[.val (.int p1), .val (.int p2), .val (.int p3), .val (.int p4), .val (.int f), .val (.int va), .val (.int vb), .val (.int kk), .val (.ref b418), .val (.int (1 : Int32)), .val (.int (0 : Int32)), .unset] [])
                      exact J758 T462 _ h462 (X462.more (Nat.le_refl _) (by decide)) e462 N462 K463 b418 _ [107, 101, 101, 112, va, 97, 108, 105, 118, 101, vb] _ _ og_b418 ⟨by simp, by simp⟩ (by intro c hc; simp only [List.mem_cons, List.not_mem_nil, or_false] at hc; rcases hc with rfl | rfl | rfl | rfl | rfl | rfl | rfl | rfl | rfl | rfl | rfl <;> first | exact hva | exact hvb | (unfold own_ch; decide)) (by rw [own_keep7 va vb, (own_tbq hva).2.2.2.1.mpr h1]; rfl) (by rw [own_close7 va vb]; rfl) V462
                    · refine own_by (fun _ k => XS.icmpYes X462.here hx rfl (pc0 := 577) (pc' := 584) rfl (hb hby at_577) rfl (feq (h1 : ¬ (va = (45 : Int32)))).2 (by decide) (by decide) k) ?_
                      show own_Go p e below _ T462 (mkF m 584 #[.val (.int p1), .val (.int p2), .val (.int p3), .val (.int p4), .val (.int f), .val (.int va), .val (.int vb), .val (.int kk), .val (.ref b418), .unset, .unset, .unset] [])
                      refine own_by (fun _ k => XS.iconst X462.here hx rfl (hb hby at_584) k) ?_
                      show own_Go p e below _ T462 (mkF m 585 #[.val (.int p1), .val (.int p2), .val (.int p3), .val (.int p4), .val (.int f), .val (.int va), .val (.int vb), .val (.int kk), .val (.ref b418), .unset, .unset, .unset] [(.int (0 : Int32))])
                      refine own_by (fun _ k => XS.istore X462.here hx rfl (hb hby at_585) rfl (l' := #[.val (.int p1), .val (.int p2), .val (.int p3), .val (.int p4), .val (.int f), .val (.int va), .val (.int vb), .val (.int kk), .val (.ref b418), .val (.int (0 : Int32)), .unset, .unset]) rfl k) ?_
                      show own_Go p e below _ T462 (mkF m 587 #[.val (.int p1), .val (.int p2), .val (.int p3), .val (.int p4), .val (.int f), .val (.int va), .val (.int vb), .val (.int kk), .val (.ref b418), .val (.int (0 : Int32)), .unset, .unset] [])
                      refine own_by (fun _ k => XS.iconst X462.here hx rfl (hb hby at_587) k) ?_
                      show own_Go p e below _ T462 (mkF m 588 #[.val (.int p1), .val (.int p2), .val (.int p3), .val (.int p4), .val (.int f), .val (.int va), .val (.int vb), .val (.int kk), .val (.ref b418), .val (.int (0 : Int32)), .unset, .unset] [(.int (0 : Int32))])
                      refine own_by (fun _ k => XS.istore X462.here hx rfl (hb hby at_588) rfl (l' := #[.val (.int p1), .val (.int p2), .val (.int p3), .val (.int p4), .val (.int f), .val (.int va), .val (.int vb), .val (.int kk), .val (.ref b418), .val (.int (0 : Int32)), .val (.int (0 : Int32)), .unset]) rfl k) ?_
                      show own_Go p e below _ T462 (mkF m 590 #[.val (.int p1), .val (.int p2), .val (.int p3), .val (.int p4), .val (.int f), .val (.int va), .val (.int vb), .val (.int kk), .val (.ref b418), .val (.int (0 : Int32)), .val (.int (0 : Int32)), .unset] [])
                      refine own_by (fun _ k => XS.goto X462.here hx rfl (pc0 := 590) (pc' := 758) rfl (hb hby at_590) (by decide) (by decide) k) ?_
                      show own_Go p e below _ T462 (mkF m 758 #[.val (.int p1), .val (.int p2), .val (.int p3), .val (.int p4), .val (.int f), .val (.int va), .val (.int vb), .val (.int kk), .val (.ref b418), .val (.int (0 : Int32)), .val (.int (0 : Int32)), .unset] [])
                      exact J758 T462 _ h462 (X462.more (Nat.le_refl _) (by decide)) e462 N462 K463 b418 _ [107, 101, 101, 112, va, 97, 108, 105, 118, 101, vb] _ _ og_b418 ⟨by simp, by simp⟩ (by intro c hc; simp only [List.mem_cons, List.not_mem_nil, or_false] at hc; rcases hc with rfl | rfl | rfl | rfl | rfl | rfl | rfl | rfl | rfl | rfl | rfl <;> first | exact hva | exact hvb | (unfold own_ch; decide)) (by rw [own_keep7 va vb, beq_eq_false_iff_ne.mpr (fun q => h1 ((own_tbq hva).2.2.2.1.mp q))]; rfl) (by rw [own_close7 va vb]; rfl) V462
                  · refine own_by (fun _ k => XS.icmpYes X159.here hx rfl (pc0 := 504) (pc' := 593) rfl (hb hby at_504) rfl (feq (hk7 : ¬ (kk = (7 : Int32)))).2 (by decide) (by decide) k) ?_
                    show own_Go p e below _ T159 (mkF m 593 #[.val (.int p1), .val (.int p2), .val (.int p3), .val (.int p4), .val (.int f), .val (.int va), .val (.int vb), .val (.int kk), .unset, .unset, .unset, .unset] [])
                    refine own_by (fun _ k => XS.iload X159.here hx rfl (hb hby at_593) rfl k) ?_
                    show own_Go p e below _ T159 (mkF m 595 #[.val (.int p1), .val (.int p2), .val (.int p3), .val (.int p4), .val (.int f), .val (.int va), .val (.int vb), .val (.int kk), .unset, .unset, .unset, .unset] [(.int kk)])
                    refine own_by (fun _ k => XS.bipush X159.here hx rfl (hb hby at_595) k) ?_
                    show own_Go p e below _ T159 (mkF m 597 #[.val (.int p1), .val (.int p2), .val (.int p3), .val (.int p4), .val (.int f), .val (.int va), .val (.int vb), .val (.int kk), .unset, .unset, .unset, .unset] [(.int (8 : Int32)), (.int kk)])
                    by_cases hk8 : kk = (8 : Int32)
                    · refine own_by (fun _ k => XS.icmpNo X159.here hx rfl (hb hby at_597) rfl (teq (hk8 : kk = (8 : Int32))).2 k) ?_
                      show own_Go p e below _ T159 (mkF m 600 #[.val (.int p1), .val (.int p2), .val (.int p3), .val (.int p4), .val (.int f), .val (.int va), .val (.int vb), .val (.int kk), .unset, .unset, .unset, .unset] [])
                      refine own_by (fun _ k => XS.bipush X159.here hx rfl (hb hby at_600) k) ?_
                      show own_Go p e below _ T159 (mkF m 602 #[.val (.int p1), .val (.int p2), .val (.int p3), .val (.int p4), .val (.int f), .val (.int va), .val (.int vb), .val (.int kk), .unset, .unset, .unset, .unset] [(.int (6 : Int32))])
                      obtain ⟨T465, h465, k465, X465, e465, E465, A465, C465, st465⟩ := newPE X159 hx hZ (hw _ (List.mem_of_getElem? (i := 5) rfl)) e159 (g := (mkF m 602 #[.val (.int p1), .val (.int p2), .val (.int p3), .val (.int p4), .val (.int f), .val (.int va), .val (.int vb), .val (.int kk), .unset, .unset, .unset, .unset] [(.int (6 : Int32))])) rfl (hb hby at_602) rfl (by decide) (cap := 6) (by decide) (by decide) (by decide) (by decide) (ad := "[C") (by decide)
                      obtain ⟨b465, g465⟩ : ∃ zq, zq = h0.size := ⟨_, rfl⟩
                      rw [← g465] at A465 C465 st465
                      have og_b465 : n0 ≤ b465 := Nat.le_trans Z0 (Nat.le_of_eq g465.symm)
                      have sz_b465 : h0.size ≤ b465 := Nat.le_trans K0.1 (Nat.le_of_eq g465.symm)
                      have Z465 : n0 ≤ h465.size := Nat.le_trans Z0 E465.1
                      have kz466 : _ ≤ h465.size := Nat.le_trans kz0 E465.1
                      have K467 := K0.ext E465
                      have V465 : Arv Z h465 b465 k465 .char (6 : Int32) [(.int (0 : Int32)), (.int (0 : Int32)), (.int (0 : Int32)), (.int (0 : Int32)), (.int (0 : Int32)), (.int (0 : Int32))] (.int (0 : Int32)) := (Arv.new A465 (by decide)).pad (pad_rep [] (.int (0 : Int32)) 6)
                      refine own_by st465 ?_
                      show own_Go p e below _ T465 (mkF m 604 #[.val (.int p1), .val (.int p2), .val (.int p3), .val (.int p4), .val (.int f), .val (.int va), .val (.int vb), .val (.int kk), .unset, .unset, .unset, .unset] [(.ref b465)])
                      refine own_by (fun _ k => XS.dup X465.here hx rfl (hb hby at_604) rfl rfl k) ?_
                      show own_Go p e below _ T465 (mkF m 605 #[.val (.int p1), .val (.int p2), .val (.int p3), .val (.int p4), .val (.int f), .val (.int va), .val (.int vb), .val (.int kk), .unset, .unset, .unset, .unset] [(.ref b465), (.ref b465)])
                      refine own_by (fun _ k => XS.iconst X465.here hx rfl (hb hby at_605) k) ?_
                      show own_Go p e below _ T465 (mkF m 606 #[.val (.int p1), .val (.int p2), .val (.int p3), .val (.int p4), .val (.int f), .val (.int va), .val (.int vb), .val (.int kk), .unset, .unset, .unset, .unset] [(.int (0 : Int32)), (.ref b465), (.ref b465)])
                      refine own_by (fun _ k => XS.bipush X465.here hx rfl (hb hby at_606) k) ?_
                      show own_Go p e below _ T465 (mkF m 608 #[.val (.int p1), .val (.int p2), .val (.int p3), .val (.int p4), .val (.int f), .val (.int va), .val (.int vb), .val (.int kk), .unset, .unset, .unset, .unset] [(.int (99 : Int32)), (.int (0 : Int32)), (.ref b465), (.ref b465)])
                      obtain ⟨cl468, Ar468, cq468, hin468, hat468, set468⟩ := own_arv V465 (j := (0 : Int32)) ⟨by decide, by decide⟩
                      obtain ⟨T469, h469, X469, e469, W469, st469⟩ := stC X465 hx hZ e465 Ar468 (j := (0 : Int32)) hin468 (g := (mkF m 608 #[.val (.int p1), .val (.int p2), .val (.int p3), .val (.int p4), .val (.int f), .val (.int va), .val (.int vb), .val (.int kk), .unset, .unset, .unset, .unset] [(.int (99 : Int32)), (.int (0 : Int32)), (.ref b465), (.ref b465)])) rfl rfl (hb hby at_608)
                      have wq469 : nar .char (99 : Int32) = (99 : Int32) := rfl
                      rw [wq469] at W469
                      have wf469 : fits .char (.int (99 : Int32)) = true := wq469 ▸ (fits_nar_char _)
                      have V469 : Arv Z h469 b465 k465 .char (6 : Int32) [(.int (99 : Int32)), (.int (0 : Int32)), (.int (0 : Int32)), (.int (0 : Int32)), (.int (0 : Int32)), (.int (0 : Int32))] (.int (0 : Int32)) := set468 wf469 W469 0 rfl (Nat.le_of_ble_eq_true rfl)
                      have N469 := Fr.snoc X469 N159 og_b465
                      have K470 := K467.wr W469 (Or.inr sz_b465)
                      have Z469 : n0 ≤ h469.size := Nat.le_trans Z465 (Keep.of_wr W469).1
                      have kz471 : _ ≤ h469.size := Nat.le_trans kz466 (Keep.of_wr W469).1
                      refine own_by st469 ?_
                      show own_Go p e below _ T469 (mkF m 609 #[.val (.int p1), .val (.int p2), .val (.int p3), .val (.int p4), .val (.int f), .val (.int va), .val (.int vb), .val (.int kk), .unset, .unset, .unset, .unset] [(.ref b465)])
                      refine own_by (fun _ k => XS.dup X469.here hx rfl (hb hby at_609) rfl rfl k) ?_
                      show own_Go p e below _ T469 (mkF m 610 #[.val (.int p1), .val (.int p2), .val (.int p3), .val (.int p4), .val (.int f), .val (.int va), .val (.int vb), .val (.int kk), .unset, .unset, .unset, .unset] [(.ref b465), (.ref b465)])
                      refine own_by (fun _ k => XS.iconst X469.here hx rfl (hb hby at_610) k) ?_
                      show own_Go p e below _ T469 (mkF m 611 #[.val (.int p1), .val (.int p2), .val (.int p3), .val (.int p4), .val (.int f), .val (.int va), .val (.int vb), .val (.int kk), .unset, .unset, .unset, .unset] [(.int (1 : Int32)), (.ref b465), (.ref b465)])
                      refine own_by (fun _ k => XS.bipush X469.here hx rfl (hb hby at_611) k) ?_
                      show own_Go p e below _ T469 (mkF m 613 #[.val (.int p1), .val (.int p2), .val (.int p3), .val (.int p4), .val (.int f), .val (.int va), .val (.int vb), .val (.int kk), .unset, .unset, .unset, .unset] [(.int (108 : Int32)), (.int (1 : Int32)), (.ref b465), (.ref b465)])
                      obtain ⟨cl472, Ar472, cq472, hin472, hat472, set472⟩ := own_arv V469 (j := (1 : Int32)) ⟨by decide, by decide⟩
                      obtain ⟨T473, h473, X473, e473, W473, st473⟩ := stC X469 hx hZ e469 Ar472 (j := (1 : Int32)) hin472 (g := (mkF m 613 #[.val (.int p1), .val (.int p2), .val (.int p3), .val (.int p4), .val (.int f), .val (.int va), .val (.int vb), .val (.int kk), .unset, .unset, .unset, .unset] [(.int (108 : Int32)), (.int (1 : Int32)), (.ref b465), (.ref b465)])) rfl rfl (hb hby at_613)
                      have wq473 : nar .char (108 : Int32) = (108 : Int32) := rfl
                      rw [wq473] at W473
                      have wf473 : fits .char (.int (108 : Int32)) = true := wq473 ▸ (fits_nar_char _)
                      have V473 : Arv Z h473 b465 k465 .char (6 : Int32) [(.int (99 : Int32)), (.int (108 : Int32)), (.int (0 : Int32)), (.int (0 : Int32)), (.int (0 : Int32)), (.int (0 : Int32))] (.int (0 : Int32)) := set472 wf473 W473 1 rfl (Nat.le_of_ble_eq_true rfl)
                      have N473 := Fr.snoc X473 N469 og_b465
                      have K474 := K470.wr W473 (Or.inr sz_b465)
                      have Z473 : n0 ≤ h473.size := Nat.le_trans Z469 (Keep.of_wr W473).1
                      have kz475 : _ ≤ h473.size := Nat.le_trans kz471 (Keep.of_wr W473).1
                      refine own_by st473 ?_
                      show own_Go p e below _ T473 (mkF m 614 #[.val (.int p1), .val (.int p2), .val (.int p3), .val (.int p4), .val (.int f), .val (.int va), .val (.int vb), .val (.int kk), .unset, .unset, .unset, .unset] [(.ref b465)])
                      refine own_by (fun _ k => XS.dup X473.here hx rfl (hb hby at_614) rfl rfl k) ?_
                      show own_Go p e below _ T473 (mkF m 615 #[.val (.int p1), .val (.int p2), .val (.int p3), .val (.int p4), .val (.int f), .val (.int va), .val (.int vb), .val (.int kk), .unset, .unset, .unset, .unset] [(.ref b465), (.ref b465)])
                      refine own_by (fun _ k => XS.iconst X473.here hx rfl (hb hby at_615) k) ?_
                      show own_Go p e below _ T473 (mkF m 616 #[.val (.int p1), .val (.int p2), .val (.int p3), .val (.int p4), .val (.int f), .val (.int va), .val (.int vb), .val (.int kk), .unset, .unset, .unset, .unset] [(.int (2 : Int32)), (.ref b465), (.ref b465)])
                      refine own_by (fun _ k => XS.iload X473.here hx rfl (hb hby at_616) rfl k) ?_
                      show own_Go p e below _ T473 (mkF m 618 #[.val (.int p1), .val (.int p2), .val (.int p3), .val (.int p4), .val (.int f), .val (.int va), .val (.int vb), .val (.int kk), .unset, .unset, .unset, .unset] [(.int va), (.int (2 : Int32)), (.ref b465), (.ref b465)])
                      obtain ⟨cl476, Ar476, cq476, hin476, hat476, set476⟩ := own_arv V473 (j := (2 : Int32)) ⟨by decide, by decide⟩
                      obtain ⟨T477, h477, X477, e477, W477, st477⟩ := stC X473 hx hZ e473 Ar476 (j := (2 : Int32)) hin476 (g := (mkF m 618 #[.val (.int p1), .val (.int p2), .val (.int p3), .val (.int p4), .val (.int f), .val (.int va), .val (.int vb), .val (.int kk), .unset, .unset, .unset, .unset] [(.int va), (.int (2 : Int32)), (.ref b465), (.ref b465)])) rfl rfl (hb hby at_618)
                      have wq477 : nar .char va = va := hva.1
                      rw [wq477] at W477
                      have wf477 : fits .char (.int va) = true := wq477 ▸ (fits_nar_char _)
                      have V477 : Arv Z h477 b465 k465 .char (6 : Int32) [(.int (99 : Int32)), (.int (108 : Int32)), (.int va), (.int (0 : Int32)), (.int (0 : Int32)), (.int (0 : Int32))] (.int (0 : Int32)) := set476 wf477 W477 2 rfl (Nat.le_of_ble_eq_true rfl)
                      have N477 := Fr.snoc X477 N473 og_b465
                      have K478 := K474.wr W477 (Or.inr sz_b465)
                      have Z477 : n0 ≤ h477.size := Nat.le_trans Z473 (Keep.of_wr W477).1
                      have kz479 : _ ≤ h477.size := Nat.le_trans kz475 (Keep.of_wr W477).1
                      refine own_by st477 ?_
                      show own_Go p e below _ T477 (mkF m 619 #[.val (.int p1), .val (.int p2), .val (.int p3), .val (.int p4), .val (.int f), .val (.int va), .val (.int vb), .val (.int kk), .unset, .unset, .unset, .unset] [(.ref b465)])
                      refine own_by (fun _ k => XS.dup X477.here hx rfl (hb hby at_619) rfl rfl k) ?_
                      show own_Go p e below _ T477 (mkF m 620 #[.val (.int p1), .val (.int p2), .val (.int p3), .val (.int p4), .val (.int f), .val (.int va), .val (.int vb), .val (.int kk), .unset, .unset, .unset, .unset] [(.ref b465), (.ref b465)])
                      refine own_by (fun _ k => XS.iconst X477.here hx rfl (hb hby at_620) k) ?_
                      show own_Go p e below _ T477 (mkF m 621 #[.val (.int p1), .val (.int p2), .val (.int p3), .val (.int p4), .val (.int f), .val (.int va), .val (.int vb), .val (.int kk), .unset, .unset, .unset, .unset] [(.int (3 : Int32)), (.ref b465), (.ref b465)])
                      refine own_by (fun _ k => XS.bipush X477.here hx rfl (hb hby at_621) k) ?_
                      show own_Go p e below _ T477 (mkF m 623 #[.val (.int p1), .val (.int p2), .val (.int p3), .val (.int p4), .val (.int f), .val (.int va), .val (.int vb), .val (.int kk), .unset, .unset, .unset, .unset] [(.int (115 : Int32)), (.int (3 : Int32)), (.ref b465), (.ref b465)])
                      obtain ⟨cl480, Ar480, cq480, hin480, hat480, set480⟩ := own_arv V477 (j := (3 : Int32)) ⟨by decide, by decide⟩
                      obtain ⟨T481, h481, X481, e481, W481, st481⟩ := stC X477 hx hZ e477 Ar480 (j := (3 : Int32)) hin480 (g := (mkF m 623 #[.val (.int p1), .val (.int p2), .val (.int p3), .val (.int p4), .val (.int f), .val (.int va), .val (.int vb), .val (.int kk), .unset, .unset, .unset, .unset] [(.int (115 : Int32)), (.int (3 : Int32)), (.ref b465), (.ref b465)])) rfl rfl (hb hby at_623)
                      have wq481 : nar .char (115 : Int32) = (115 : Int32) := rfl
                      rw [wq481] at W481
                      have wf481 : fits .char (.int (115 : Int32)) = true := wq481 ▸ (fits_nar_char _)
                      have V481 : Arv Z h481 b465 k465 .char (6 : Int32) [(.int (99 : Int32)), (.int (108 : Int32)), (.int va), (.int (115 : Int32)), (.int (0 : Int32)), (.int (0 : Int32))] (.int (0 : Int32)) := set480 wf481 W481 3 rfl (Nat.le_of_ble_eq_true rfl)
                      have N481 := Fr.snoc X481 N477 og_b465
                      have K482 := K478.wr W481 (Or.inr sz_b465)
                      have Z481 : n0 ≤ h481.size := Nat.le_trans Z477 (Keep.of_wr W481).1
                      have kz483 : _ ≤ h481.size := Nat.le_trans kz479 (Keep.of_wr W481).1
                      refine own_by st481 ?_
                      show own_Go p e below _ T481 (mkF m 624 #[.val (.int p1), .val (.int p2), .val (.int p3), .val (.int p4), .val (.int f), .val (.int va), .val (.int vb), .val (.int kk), .unset, .unset, .unset, .unset] [(.ref b465)])
                      refine own_by (fun _ k => XS.dup X481.here hx rfl (hb hby at_624) rfl rfl k) ?_
                      show own_Go p e below _ T481 (mkF m 625 #[.val (.int p1), .val (.int p2), .val (.int p3), .val (.int p4), .val (.int f), .val (.int va), .val (.int vb), .val (.int kk), .unset, .unset, .unset, .unset] [(.ref b465), (.ref b465)])
                      refine own_by (fun _ k => XS.iconst X481.here hx rfl (hb hby at_625) k) ?_
                      show own_Go p e below _ T481 (mkF m 626 #[.val (.int p1), .val (.int p2), .val (.int p3), .val (.int p4), .val (.int f), .val (.int va), .val (.int vb), .val (.int kk), .unset, .unset, .unset, .unset] [(.int (4 : Int32)), (.ref b465), (.ref b465)])
                      refine own_by (fun _ k => XS.bipush X481.here hx rfl (hb hby at_626) k) ?_
                      show own_Go p e below _ T481 (mkF m 628 #[.val (.int p1), .val (.int p2), .val (.int p3), .val (.int p4), .val (.int f), .val (.int va), .val (.int vb), .val (.int kk), .unset, .unset, .unset, .unset] [(.int (101 : Int32)), (.int (4 : Int32)), (.ref b465), (.ref b465)])
                      obtain ⟨cl484, Ar484, cq484, hin484, hat484, set484⟩ := own_arv V481 (j := (4 : Int32)) ⟨by decide, by decide⟩
                      obtain ⟨T485, h485, X485, e485, W485, st485⟩ := stC X481 hx hZ e481 Ar484 (j := (4 : Int32)) hin484 (g := (mkF m 628 #[.val (.int p1), .val (.int p2), .val (.int p3), .val (.int p4), .val (.int f), .val (.int va), .val (.int vb), .val (.int kk), .unset, .unset, .unset, .unset] [(.int (101 : Int32)), (.int (4 : Int32)), (.ref b465), (.ref b465)])) rfl rfl (hb hby at_628)
                      have wq485 : nar .char (101 : Int32) = (101 : Int32) := rfl
                      rw [wq485] at W485
                      have wf485 : fits .char (.int (101 : Int32)) = true := wq485 ▸ (fits_nar_char _)
                      have V485 : Arv Z h485 b465 k465 .char (6 : Int32) [(.int (99 : Int32)), (.int (108 : Int32)), (.int va), (.int (115 : Int32)), (.int (101 : Int32)), (.int (0 : Int32))] (.int (0 : Int32)) := set484 wf485 W485 4 rfl (Nat.le_of_ble_eq_true rfl)
                      have N485 := Fr.snoc X485 N481 og_b465
                      have K486 := K482.wr W485 (Or.inr sz_b465)
                      have Z485 : n0 ≤ h485.size := Nat.le_trans Z481 (Keep.of_wr W485).1
                      have kz487 : _ ≤ h485.size := Nat.le_trans kz483 (Keep.of_wr W485).1
                      refine own_by st485 ?_
                      show own_Go p e below _ T485 (mkF m 629 #[.val (.int p1), .val (.int p2), .val (.int p3), .val (.int p4), .val (.int f), .val (.int va), .val (.int vb), .val (.int kk), .unset, .unset, .unset, .unset] [(.ref b465)])
                      refine own_by (fun _ k => XS.dup X485.here hx rfl (hb hby at_629) rfl rfl k) ?_
                      show own_Go p e below _ T485 (mkF m 630 #[.val (.int p1), .val (.int p2), .val (.int p3), .val (.int p4), .val (.int f), .val (.int va), .val (.int vb), .val (.int kk), .unset, .unset, .unset, .unset] [(.ref b465), (.ref b465)])
                      refine own_by (fun _ k => XS.iconst X485.here hx rfl (hb hby at_630) k) ?_
                      show own_Go p e below _ T485 (mkF m 631 #[.val (.int p1), .val (.int p2), .val (.int p3), .val (.int p4), .val (.int f), .val (.int va), .val (.int vb), .val (.int kk), .unset, .unset, .unset, .unset] [(.int (5 : Int32)), (.ref b465), (.ref b465)])
                      refine own_by (fun _ k => XS.iload X485.here hx rfl (hb hby at_631) rfl k) ?_
                      show own_Go p e below _ T485 (mkF m 633 #[.val (.int p1), .val (.int p2), .val (.int p3), .val (.int p4), .val (.int f), .val (.int va), .val (.int vb), .val (.int kk), .unset, .unset, .unset, .unset] [(.int vb), (.int (5 : Int32)), (.ref b465), (.ref b465)])
                      obtain ⟨cl488, Ar488, cq488, hin488, hat488, set488⟩ := own_arv V485 (j := (5 : Int32)) ⟨by decide, by decide⟩
                      obtain ⟨T489, h489, X489, e489, W489, st489⟩ := stC X485 hx hZ e485 Ar488 (j := (5 : Int32)) hin488 (g := (mkF m 633 #[.val (.int p1), .val (.int p2), .val (.int p3), .val (.int p4), .val (.int f), .val (.int va), .val (.int vb), .val (.int kk), .unset, .unset, .unset, .unset] [(.int vb), (.int (5 : Int32)), (.ref b465), (.ref b465)])) rfl rfl (hb hby at_633)
                      have wq489 : nar .char vb = vb := hvb.1
                      rw [wq489] at W489
                      have wf489 : fits .char (.int vb) = true := wq489 ▸ (fits_nar_char _)
                      have V489 : Arv Z h489 b465 k465 .char (6 : Int32) [(.int (99 : Int32)), (.int (108 : Int32)), (.int va), (.int (115 : Int32)), (.int (101 : Int32)), (.int vb)] (.int (0 : Int32)) := set488 wf489 W489 5 rfl (Nat.le_of_ble_eq_true rfl)
                      have N489 := Fr.snoc X489 N485 og_b465
                      have K490 := K486.wr W489 (Or.inr sz_b465)
                      have Z489 : n0 ≤ h489.size := Nat.le_trans Z485 (Keep.of_wr W489).1
                      have kz491 : _ ≤ h489.size := Nat.le_trans kz487 (Keep.of_wr W489).1
                      refine own_by st489 ?_
                      show own_Go p e below _ T489 (mkF m 634 #[.val (.int p1), .val (.int p2), .val (.int p3), .val (.int p4), .val (.int f), .val (.int va), .val (.int vb), .val (.int kk), .unset, .unset, .unset, .unset] [(.ref b465)])
                      refine own_by (fun _ k => XS.astore X489.here hx rfl (hb hby at_634) rfl rfl (l' := #[.val (.int p1), .val (.int p2), .val (.int p3), .val (.int p4), .val (.int f), .val (.int va), .val (.int vb), .val (.int kk), .val (.ref b465), .unset, .unset, .unset]) rfl k) ?_
                      show own_Go p e below _ T489 (mkF m 636 #[.val (.int p1), .val (.int p2), .val (.int p3), .val (.int p4), .val (.int f), .val (.int va), .val (.int vb), .val (.int kk), .val (.ref b465), .unset, .unset, .unset] [])
                      refine own_by (fun _ k => XS.iconst X489.here hx rfl (hb hby at_636) k) ?_
                      show own_Go p e below _ T489 (mkF m 637 #[.val (.int p1), .val (.int p2), .val (.int p3), .val (.int p4), .val (.int f), .val (.int va), .val (.int vb), .val (.int kk), .val (.ref b465), .unset, .unset, .unset] [(.int (0 : Int32))])
                      refine own_by (fun _ k => XS.istore X489.here hx rfl (hb hby at_637) rfl (l' := #[.val (.int p1), .val (.int p2), .val (.int p3), .val (.int p4), .val (.int f), .val (.int va), .val (.int vb), .val (.int kk), .val (.ref b465), .val (.int (0 : Int32)), .unset, .unset]) rfl k) ?_
                      show own_Go p e below _ T489 (mkF m 639 #[.val (.int p1), .val (.int p2), .val (.int p3), .val (.int p4), .val (.int f), .val (.int va), .val (.int vb), .val (.int kk), .val (.ref b465), .val (.int (0 : Int32)), .unset, .unset] [])
                      refine own_by (fun _ k => XS.iload X489.here hx rfl (hb hby at_639) rfl k) ?_
                      show own_Go p e below _ T489 (mkF m 641 #[.val (.int p1), .val (.int p2), .val (.int p3), .val (.int p4), .val (.int f), .val (.int va), .val (.int vb), .val (.int kk), .val (.ref b465), .val (.int (0 : Int32)), .unset, .unset] [(.int va)])
                      refine own_by (fun _ k => XS.bipush X489.here hx rfl (hb hby at_641) k) ?_
                      show own_Go p e below _ T489 (mkF m 643 #[.val (.int p1), .val (.int p2), .val (.int p3), .val (.int p4), .val (.int f), .val (.int va), .val (.int vb), .val (.int kk), .val (.ref b465), .val (.int (0 : Int32)), .unset, .unset] [(.int (111 : Int32)), (.int va)])
                      by_cases h1 : va = (111 : Int32)
                      · refine own_by (fun _ k => XS.icmpNo X489.here hx rfl (hb hby at_643) rfl (teq (h1 : va = (111 : Int32))).2 k) ?_
                        show own_Go p e below _ T489 (mkF m 646 #[.val (.int p1), .val (.int p2), .val (.int p3), .val (.int p4), .val (.int f), .val (.int va), .val (.int vb), .val (.int kk), .val (.ref b465), .val (.int (0 : Int32)), .unset, .unset] [])
                        refine own_by (fun _ k => XS.iconst X489.here hx rfl (hb hby at_646) k) ?_
                        show own_Go p e below _ T489 (mkF m 647 #[.val (.int p1), .val (.int p2), .val (.int p3), .val (.int p4), .val (.int f), .val (.int va), .val (.int vb), .val (.int kk), .val (.ref b465), .val (.int (0 : Int32)), .unset, .unset] [(.int (1 : Int32))])
                        refine own_by (fun _ k => XS.goto X489.here hx rfl (pc0 := 647) (pc' := 651) rfl (hb hby at_647) (by decide) (by decide) k) ?_
                        show own_Go p e below _ T489 (mkF m 651 #[.val (.int p1), .val (.int p2), .val (.int p3), .val (.int p4), .val (.int f), .val (.int va), .val (.int vb), .val (.int kk), .val (.ref b465), .val (.int (0 : Int32)), .unset, .unset] [(.int (1 : Int32))])
                        refine own_by (fun _ k => XS.istore X489.here hx rfl (hb hby at_651) rfl (l' := #[.val (.int p1), .val (.int p2), .val (.int p3), .val (.int p4), .val (.int f), .val (.int va), .val (.int vb), .val (.int kk), .val (.ref b465), .val (.int (0 : Int32)), .val (.int (1 : Int32)), .unset]) rfl k) ?_
                        show own_Go p e below _ T489 (mkF m 653 #[.val (.int p1), .val (.int p2), .val (.int p3), .val (.int p4), .val (.int f), .val (.int va), .val (.int vb), .val (.int kk), .val (.ref b465), .val (.int (0 : Int32)), .val (.int (1 : Int32)), .unset] [])
                        refine own_by (fun _ k => XS.goto X489.here hx rfl (pc0 := 653) (pc' := 758) rfl (hb hby at_653) (by decide) (by decide) k) ?_
                        show own_Go p e below _ T489 (mkF m 758 #[.val (.int p1), .val (.int p2), .val (.int p3), .val (.int p4), .val (.int f), .val (.int va), .val (.int vb), .val (.int kk), .val (.ref b465), .val (.int (0 : Int32)), .val (.int (1 : Int32)), .unset] [])
                        exact J758 T489 _ h489 (X489.more (Nat.le_refl _) (by decide)) e489 N489 K490 b465 _ [99, 108, va, 115, 101, vb] _ _ og_b465 ⟨by simp, by simp⟩ (by intro c hc; simp only [List.mem_cons, List.not_mem_nil, or_false] at hc; rcases hc with rfl | rfl | rfl | rfl | rfl | rfl <;> first | exact hva | exact hvb | (unfold own_ch; decide)) (by rw [own_keep8 va vb]; rfl) (by rw [own_close8 va vb, (own_tbq hva).2.2.2.2.mpr h1]; rfl) V489
                      · refine own_by (fun _ k => XS.icmpYes X489.here hx rfl (pc0 := 643) (pc' := 650) rfl (hb hby at_643) rfl (feq (h1 : ¬ (va = (111 : Int32)))).2 (by decide) (by decide) k) ?_
                        show own_Go p e below _ T489 (mkF m 650 #[.val (.int p1), .val (.int p2), .val (.int p3), .val (.int p4), .val (.int f), .val (.int va), .val (.int vb), .val (.int kk), .val (.ref b465), .val (.int (0 : Int32)), .unset, .unset] [])
                        refine own_by (fun _ k => XS.iconst X489.here hx rfl (hb hby at_650) k) ?_
                        show own_Go p e below _ T489 (mkF m 651 #[.val (.int p1), .val (.int p2), .val (.int p3), .val (.int p4), .val (.int f), .val (.int va), .val (.int vb), .val (.int kk), .val (.ref b465), .val (.int (0 : Int32)), .unset, .unset] [(.int (0 : Int32))])
                        refine own_by (fun _ k => XS.istore X489.here hx rfl (hb hby at_651) rfl (l' := #[.val (.int p1), .val (.int p2), .val (.int p3), .val (.int p4), .val (.int f), .val (.int va), .val (.int vb), .val (.int kk), .val (.ref b465), .val (.int (0 : Int32)), .val (.int (0 : Int32)), .unset]) rfl k) ?_
                        show own_Go p e below _ T489 (mkF m 653 #[.val (.int p1), .val (.int p2), .val (.int p3), .val (.int p4), .val (.int f), .val (.int va), .val (.int vb), .val (.int kk), .val (.ref b465), .val (.int (0 : Int32)), .val (.int (0 : Int32)), .unset] [])
                        refine own_by (fun _ k => XS.goto X489.here hx rfl (pc0 := 653) (pc' := 758) rfl (hb hby at_653) (by decide) (by decide) k) ?_
                        show own_Go p e below _ T489 (mkF m 758 #[.val (.int p1), .val (.int p2), .val (.int p3), .val (.int p4), .val (.int f), .val (.int va), .val (.int vb), .val (.int kk), .val (.ref b465), .val (.int (0 : Int32)), .val (.int (0 : Int32)), .unset] [])
                        exact J758 T489 _ h489 (X489.more (Nat.le_refl _) (by decide)) e489 N489 K490 b465 _ [99, 108, va, 115, 101, vb] _ _ og_b465 ⟨by simp, by simp⟩ (by intro c hc; simp only [List.mem_cons, List.not_mem_nil, or_false] at hc; rcases hc with rfl | rfl | rfl | rfl | rfl | rfl <;> first | exact hva | exact hvb | (unfold own_ch; decide)) (by rw [own_keep8 va vb]; rfl) (by rw [own_close8 va vb, beq_eq_false_iff_ne.mpr (fun q => h1 ((own_tbq hva).2.2.2.2.mp q))]; rfl) V489
                    · refine own_by (fun _ k => XS.icmpYes X159.here hx rfl (pc0 := 597) (pc' := 656) rfl (hb hby at_597) rfl (feq (hk8 : ¬ (kk = (8 : Int32)))).2 (by decide) (by decide) k) ?_
                      show own_Go p e below _ T159 (mkF m 656 #[.val (.int p1), .val (.int p2), .val (.int p3), .val (.int p4), .val (.int f), .val (.int va), .val (.int vb), .val (.int kk), .unset, .unset, .unset, .unset] [])
                      refine own_by (fun _ k => XS.bipush X159.here hx rfl (hb hby at_656) k) ?_
                      show own_Go p e below _ T159 (mkF m 658 #[.val (.int p1), .val (.int p2), .val (.int p3), .val (.int p4), .val (.int f), .val (.int va), .val (.int vb), .val (.int kk), .unset, .unset, .unset, .unset] [(.int (16 : Int32))])
                      obtain ⟨T492, h492, k492, X492, e492, E492, A492, C492, st492⟩ := newPE X159 hx hZ (hw _ (List.mem_of_getElem? (i := 5) rfl)) e159 (g := (mkF m 658 #[.val (.int p1), .val (.int p2), .val (.int p3), .val (.int p4), .val (.int f), .val (.int va), .val (.int vb), .val (.int kk), .unset, .unset, .unset, .unset] [(.int (16 : Int32))])) rfl (hb hby at_658) rfl (by decide) (cap := 16) (by decide) (by decide) (by decide) (by decide) (ad := "[C") (by decide)
                      obtain ⟨b492, g492⟩ : ∃ zq, zq = h0.size := ⟨_, rfl⟩
                      rw [← g492] at A492 C492 st492
                      have og_b492 : n0 ≤ b492 := Nat.le_trans Z0 (Nat.le_of_eq g492.symm)
                      have sz_b492 : h0.size ≤ b492 := Nat.le_trans K0.1 (Nat.le_of_eq g492.symm)
                      have Z492 : n0 ≤ h492.size := Nat.le_trans Z0 E492.1
                      have kz493 : _ ≤ h492.size := Nat.le_trans kz0 E492.1
                      have K494 := K0.ext E492
                      have V492 : Arv Z h492 b492 k492 .char (16 : Int32) [(.int (0 : Int32)), (.int (0 : Int32)), (.int (0 : Int32)), (.int (0 : Int32)), (.int (0 : Int32)), (.int (0 : Int32)), (.int (0 : Int32)), (.int (0 : Int32)), (.int (0 : Int32)), (.int (0 : Int32)), (.int (0 : Int32)), (.int (0 : Int32)), (.int (0 : Int32)), (.int (0 : Int32)), (.int (0 : Int32)), (.int (0 : Int32))] (.int (0 : Int32)) := (Arv.new A492 (by decide)).pad (pad_rep [] (.int (0 : Int32)) 16)
                      refine own_by st492 ?_
                      show own_Go p e below _ T492 (mkF m 660 #[.val (.int p1), .val (.int p2), .val (.int p3), .val (.int p4), .val (.int f), .val (.int va), .val (.int vb), .val (.int kk), .unset, .unset, .unset, .unset] [(.ref b492)])
                      refine own_by (fun _ k => XS.dup X492.here hx rfl (hb hby at_660) rfl rfl k) ?_
                      show own_Go p e below _ T492 (mkF m 661 #[.val (.int p1), .val (.int p2), .val (.int p3), .val (.int p4), .val (.int f), .val (.int va), .val (.int vb), .val (.int kk), .unset, .unset, .unset, .unset] [(.ref b492), (.ref b492)])
                      refine own_by (fun _ k => XS.iconst X492.here hx rfl (hb hby at_661) k) ?_
                      show own_Go p e below _ T492 (mkF m 662 #[.val (.int p1), .val (.int p2), .val (.int p3), .val (.int p4), .val (.int f), .val (.int va), .val (.int vb), .val (.int kk), .unset, .unset, .unset, .unset] [(.int (0 : Int32)), (.ref b492), (.ref b492)])
                      refine own_by (fun _ k => XS.bipush X492.here hx rfl (hb hby at_662) k) ?_
                      show own_Go p e below _ T492 (mkF m 664 #[.val (.int p1), .val (.int p2), .val (.int p3), .val (.int p4), .val (.int f), .val (.int va), .val (.int vb), .val (.int kk), .unset, .unset, .unset, .unset] [(.int (99 : Int32)), (.int (0 : Int32)), (.ref b492), (.ref b492)])
                      obtain ⟨cl495, Ar495, cq495, hin495, hat495, set495⟩ := own_arv V492 (j := (0 : Int32)) ⟨by decide, by decide⟩
                      obtain ⟨T496, h496, X496, e496, W496, st496⟩ := stC X492 hx hZ e492 Ar495 (j := (0 : Int32)) hin495 (g := (mkF m 664 #[.val (.int p1), .val (.int p2), .val (.int p3), .val (.int p4), .val (.int f), .val (.int va), .val (.int vb), .val (.int kk), .unset, .unset, .unset, .unset] [(.int (99 : Int32)), (.int (0 : Int32)), (.ref b492), (.ref b492)])) rfl rfl (hb hby at_664)
                      have wq496 : nar .char (99 : Int32) = (99 : Int32) := rfl
                      rw [wq496] at W496
                      have wf496 : fits .char (.int (99 : Int32)) = true := wq496 ▸ (fits_nar_char _)
                      have V496 : Arv Z h496 b492 k492 .char (16 : Int32) [(.int (99 : Int32)), (.int (0 : Int32)), (.int (0 : Int32)), (.int (0 : Int32)), (.int (0 : Int32)), (.int (0 : Int32)), (.int (0 : Int32)), (.int (0 : Int32)), (.int (0 : Int32)), (.int (0 : Int32)), (.int (0 : Int32)), (.int (0 : Int32)), (.int (0 : Int32)), (.int (0 : Int32)), (.int (0 : Int32)), (.int (0 : Int32))] (.int (0 : Int32)) := set495 wf496 W496 0 rfl (Nat.le_of_ble_eq_true rfl)
                      have N496 := Fr.snoc X496 N159 og_b492
                      have K497 := K494.wr W496 (Or.inr sz_b492)
                      have Z496 : n0 ≤ h496.size := Nat.le_trans Z492 (Keep.of_wr W496).1
                      have kz498 : _ ≤ h496.size := Nat.le_trans kz493 (Keep.of_wr W496).1
                      refine own_by st496 ?_
                      show own_Go p e below _ T496 (mkF m 665 #[.val (.int p1), .val (.int p2), .val (.int p3), .val (.int p4), .val (.int f), .val (.int va), .val (.int vb), .val (.int kk), .unset, .unset, .unset, .unset] [(.ref b492)])
                      refine own_by (fun _ k => XS.dup X496.here hx rfl (hb hby at_665) rfl rfl k) ?_
                      show own_Go p e below _ T496 (mkF m 666 #[.val (.int p1), .val (.int p2), .val (.int p3), .val (.int p4), .val (.int f), .val (.int va), .val (.int vb), .val (.int kk), .unset, .unset, .unset, .unset] [(.ref b492), (.ref b492)])
                      refine own_by (fun _ k => XS.iconst X496.here hx rfl (hb hby at_666) k) ?_
                      show own_Go p e below _ T496 (mkF m 667 #[.val (.int p1), .val (.int p2), .val (.int p3), .val (.int p4), .val (.int f), .val (.int va), .val (.int vb), .val (.int kk), .unset, .unset, .unset, .unset] [(.int (1 : Int32)), (.ref b492), (.ref b492)])
                      refine own_by (fun _ k => XS.bipush X496.here hx rfl (hb hby at_667) k) ?_
                      show own_Go p e below _ T496 (mkF m 669 #[.val (.int p1), .val (.int p2), .val (.int p3), .val (.int p4), .val (.int f), .val (.int va), .val (.int vb), .val (.int kk), .unset, .unset, .unset, .unset] [(.int (108 : Int32)), (.int (1 : Int32)), (.ref b492), (.ref b492)])
                      obtain ⟨cl499, Ar499, cq499, hin499, hat499, set499⟩ := own_arv V496 (j := (1 : Int32)) ⟨by decide, by decide⟩
                      obtain ⟨T500, h500, X500, e500, W500, st500⟩ := stC X496 hx hZ e496 Ar499 (j := (1 : Int32)) hin499 (g := (mkF m 669 #[.val (.int p1), .val (.int p2), .val (.int p3), .val (.int p4), .val (.int f), .val (.int va), .val (.int vb), .val (.int kk), .unset, .unset, .unset, .unset] [(.int (108 : Int32)), (.int (1 : Int32)), (.ref b492), (.ref b492)])) rfl rfl (hb hby at_669)
                      have wq500 : nar .char (108 : Int32) = (108 : Int32) := rfl
                      rw [wq500] at W500
                      have wf500 : fits .char (.int (108 : Int32)) = true := wq500 ▸ (fits_nar_char _)
                      have V500 : Arv Z h500 b492 k492 .char (16 : Int32) [(.int (99 : Int32)), (.int (108 : Int32)), (.int (0 : Int32)), (.int (0 : Int32)), (.int (0 : Int32)), (.int (0 : Int32)), (.int (0 : Int32)), (.int (0 : Int32)), (.int (0 : Int32)), (.int (0 : Int32)), (.int (0 : Int32)), (.int (0 : Int32)), (.int (0 : Int32)), (.int (0 : Int32)), (.int (0 : Int32)), (.int (0 : Int32))] (.int (0 : Int32)) := set499 wf500 W500 1 rfl (Nat.le_of_ble_eq_true rfl)
                      have N500 := Fr.snoc X500 N496 og_b492
                      have K501 := K497.wr W500 (Or.inr sz_b492)
                      have Z500 : n0 ≤ h500.size := Nat.le_trans Z496 (Keep.of_wr W500).1
                      have kz502 : _ ≤ h500.size := Nat.le_trans kz498 (Keep.of_wr W500).1
                      refine own_by st500 ?_
                      show own_Go p e below _ T500 (mkF m 670 #[.val (.int p1), .val (.int p2), .val (.int p3), .val (.int p4), .val (.int f), .val (.int va), .val (.int vb), .val (.int kk), .unset, .unset, .unset, .unset] [(.ref b492)])
                      refine own_by (fun _ k => XS.dup X500.here hx rfl (hb hby at_670) rfl rfl k) ?_
                      show own_Go p e below _ T500 (mkF m 671 #[.val (.int p1), .val (.int p2), .val (.int p3), .val (.int p4), .val (.int f), .val (.int va), .val (.int vb), .val (.int kk), .unset, .unset, .unset, .unset] [(.ref b492), (.ref b492)])
                      refine own_by (fun _ k => XS.iconst X500.here hx rfl (hb hby at_671) k) ?_
                      show own_Go p e below _ T500 (mkF m 672 #[.val (.int p1), .val (.int p2), .val (.int p3), .val (.int p4), .val (.int f), .val (.int va), .val (.int vb), .val (.int kk), .unset, .unset, .unset, .unset] [(.int (2 : Int32)), (.ref b492), (.ref b492)])
                      refine own_by (fun _ k => XS.bipush X500.here hx rfl (hb hby at_672) k) ?_
                      show own_Go p e below _ T500 (mkF m 674 #[.val (.int p1), .val (.int p2), .val (.int p3), .val (.int p4), .val (.int f), .val (.int va), .val (.int vb), .val (.int kk), .unset, .unset, .unset, .unset] [(.int (111 : Int32)), (.int (2 : Int32)), (.ref b492), (.ref b492)])
                      obtain ⟨cl503, Ar503, cq503, hin503, hat503, set503⟩ := own_arv V500 (j := (2 : Int32)) ⟨by decide, by decide⟩
                      obtain ⟨T504, h504, X504, e504, W504, st504⟩ := stC X500 hx hZ e500 Ar503 (j := (2 : Int32)) hin503 (g := (mkF m 674 #[.val (.int p1), .val (.int p2), .val (.int p3), .val (.int p4), .val (.int f), .val (.int va), .val (.int vb), .val (.int kk), .unset, .unset, .unset, .unset] [(.int (111 : Int32)), (.int (2 : Int32)), (.ref b492), (.ref b492)])) rfl rfl (hb hby at_674)
                      have wq504 : nar .char (111 : Int32) = (111 : Int32) := rfl
                      rw [wq504] at W504
                      have wf504 : fits .char (.int (111 : Int32)) = true := wq504 ▸ (fits_nar_char _)
                      have V504 : Arv Z h504 b492 k492 .char (16 : Int32) [(.int (99 : Int32)), (.int (108 : Int32)), (.int (111 : Int32)), (.int (0 : Int32)), (.int (0 : Int32)), (.int (0 : Int32)), (.int (0 : Int32)), (.int (0 : Int32)), (.int (0 : Int32)), (.int (0 : Int32)), (.int (0 : Int32)), (.int (0 : Int32)), (.int (0 : Int32)), (.int (0 : Int32)), (.int (0 : Int32)), (.int (0 : Int32))] (.int (0 : Int32)) := set503 wf504 W504 2 rfl (Nat.le_of_ble_eq_true rfl)
                      have N504 := Fr.snoc X504 N500 og_b492
                      have K505 := K501.wr W504 (Or.inr sz_b492)
                      have Z504 : n0 ≤ h504.size := Nat.le_trans Z500 (Keep.of_wr W504).1
                      have kz506 : _ ≤ h504.size := Nat.le_trans kz502 (Keep.of_wr W504).1
                      refine own_by st504 ?_
                      show own_Go p e below _ T504 (mkF m 675 #[.val (.int p1), .val (.int p2), .val (.int p3), .val (.int p4), .val (.int f), .val (.int va), .val (.int vb), .val (.int kk), .unset, .unset, .unset, .unset] [(.ref b492)])
                      refine own_by (fun _ k => XS.dup X504.here hx rfl (hb hby at_675) rfl rfl k) ?_
                      show own_Go p e below _ T504 (mkF m 676 #[.val (.int p1), .val (.int p2), .val (.int p3), .val (.int p4), .val (.int f), .val (.int va), .val (.int vb), .val (.int kk), .unset, .unset, .unset, .unset] [(.ref b492), (.ref b492)])
                      refine own_by (fun _ k => XS.iconst X504.here hx rfl (hb hby at_676) k) ?_
                      show own_Go p e below _ T504 (mkF m 677 #[.val (.int p1), .val (.int p2), .val (.int p3), .val (.int p4), .val (.int f), .val (.int va), .val (.int vb), .val (.int kk), .unset, .unset, .unset, .unset] [(.int (3 : Int32)), (.ref b492), (.ref b492)])
                      refine own_by (fun _ k => XS.bipush X504.here hx rfl (hb hby at_677) k) ?_
                      show own_Go p e below _ T504 (mkF m 679 #[.val (.int p1), .val (.int p2), .val (.int p3), .val (.int p4), .val (.int f), .val (.int va), .val (.int vb), .val (.int kk), .unset, .unset, .unset, .unset] [(.int (115 : Int32)), (.int (3 : Int32)), (.ref b492), (.ref b492)])
                      obtain ⟨cl507, Ar507, cq507, hin507, hat507, set507⟩ := own_arv V504 (j := (3 : Int32)) ⟨by decide, by decide⟩
                      obtain ⟨T508, h508, X508, e508, W508, st508⟩ := stC X504 hx hZ e504 Ar507 (j := (3 : Int32)) hin507 (g := (mkF m 679 #[.val (.int p1), .val (.int p2), .val (.int p3), .val (.int p4), .val (.int f), .val (.int va), .val (.int vb), .val (.int kk), .unset, .unset, .unset, .unset] [(.int (115 : Int32)), (.int (3 : Int32)), (.ref b492), (.ref b492)])) rfl rfl (hb hby at_679)
                      have wq508 : nar .char (115 : Int32) = (115 : Int32) := rfl
                      rw [wq508] at W508
                      have wf508 : fits .char (.int (115 : Int32)) = true := wq508 ▸ (fits_nar_char _)
                      have V508 : Arv Z h508 b492 k492 .char (16 : Int32) [(.int (99 : Int32)), (.int (108 : Int32)), (.int (111 : Int32)), (.int (115 : Int32)), (.int (0 : Int32)), (.int (0 : Int32)), (.int (0 : Int32)), (.int (0 : Int32)), (.int (0 : Int32)), (.int (0 : Int32)), (.int (0 : Int32)), (.int (0 : Int32)), (.int (0 : Int32)), (.int (0 : Int32)), (.int (0 : Int32)), (.int (0 : Int32))] (.int (0 : Int32)) := set507 wf508 W508 3 rfl (Nat.le_of_ble_eq_true rfl)
                      have N508 := Fr.snoc X508 N504 og_b492
                      have K509 := K505.wr W508 (Or.inr sz_b492)
                      have Z508 : n0 ≤ h508.size := Nat.le_trans Z504 (Keep.of_wr W508).1
                      have kz510 : _ ≤ h508.size := Nat.le_trans kz506 (Keep.of_wr W508).1
                      refine own_by st508 ?_
                      show own_Go p e below _ T508 (mkF m 680 #[.val (.int p1), .val (.int p2), .val (.int p3), .val (.int p4), .val (.int f), .val (.int va), .val (.int vb), .val (.int kk), .unset, .unset, .unset, .unset] [(.ref b492)])
                      refine own_by (fun _ k => XS.dup X508.here hx rfl (hb hby at_680) rfl rfl k) ?_
                      show own_Go p e below _ T508 (mkF m 681 #[.val (.int p1), .val (.int p2), .val (.int p3), .val (.int p4), .val (.int f), .val (.int va), .val (.int vb), .val (.int kk), .unset, .unset, .unset, .unset] [(.ref b492), (.ref b492)])
                      refine own_by (fun _ k => XS.iconst X508.here hx rfl (hb hby at_681) k) ?_
                      show own_Go p e below _ T508 (mkF m 682 #[.val (.int p1), .val (.int p2), .val (.int p3), .val (.int p4), .val (.int f), .val (.int va), .val (.int vb), .val (.int kk), .unset, .unset, .unset, .unset] [(.int (4 : Int32)), (.ref b492), (.ref b492)])
                      refine own_by (fun _ k => XS.bipush X508.here hx rfl (hb hby at_682) k) ?_
                      show own_Go p e below _ T508 (mkF m 684 #[.val (.int p1), .val (.int p2), .val (.int p3), .val (.int p4), .val (.int f), .val (.int va), .val (.int vb), .val (.int kk), .unset, .unset, .unset, .unset] [(.int (101 : Int32)), (.int (4 : Int32)), (.ref b492), (.ref b492)])
                      obtain ⟨cl511, Ar511, cq511, hin511, hat511, set511⟩ := own_arv V508 (j := (4 : Int32)) ⟨by decide, by decide⟩
                      obtain ⟨T512, h512, X512, e512, W512, st512⟩ := stC X508 hx hZ e508 Ar511 (j := (4 : Int32)) hin511 (g := (mkF m 684 #[.val (.int p1), .val (.int p2), .val (.int p3), .val (.int p4), .val (.int f), .val (.int va), .val (.int vb), .val (.int kk), .unset, .unset, .unset, .unset] [(.int (101 : Int32)), (.int (4 : Int32)), (.ref b492), (.ref b492)])) rfl rfl (hb hby at_684)
                      have wq512 : nar .char (101 : Int32) = (101 : Int32) := rfl
                      rw [wq512] at W512
                      have wf512 : fits .char (.int (101 : Int32)) = true := wq512 ▸ (fits_nar_char _)
                      have V512 : Arv Z h512 b492 k492 .char (16 : Int32) [(.int (99 : Int32)), (.int (108 : Int32)), (.int (111 : Int32)), (.int (115 : Int32)), (.int (101 : Int32)), (.int (0 : Int32)), (.int (0 : Int32)), (.int (0 : Int32)), (.int (0 : Int32)), (.int (0 : Int32)), (.int (0 : Int32)), (.int (0 : Int32)), (.int (0 : Int32)), (.int (0 : Int32)), (.int (0 : Int32)), (.int (0 : Int32))] (.int (0 : Int32)) := set511 wf512 W512 4 rfl (Nat.le_of_ble_eq_true rfl)
                      have N512 := Fr.snoc X512 N508 og_b492
                      have K513 := K509.wr W512 (Or.inr sz_b492)
                      have Z512 : n0 ≤ h512.size := Nat.le_trans Z508 (Keep.of_wr W512).1
                      have kz514 : _ ≤ h512.size := Nat.le_trans kz510 (Keep.of_wr W512).1
                      refine own_by st512 ?_
                      show own_Go p e below _ T512 (mkF m 685 #[.val (.int p1), .val (.int p2), .val (.int p3), .val (.int p4), .val (.int f), .val (.int va), .val (.int vb), .val (.int kk), .unset, .unset, .unset, .unset] [(.ref b492)])
                      refine own_by (fun _ k => XS.dup X512.here hx rfl (hb hby at_685) rfl rfl k) ?_
                      show own_Go p e below _ T512 (mkF m 686 #[.val (.int p1), .val (.int p2), .val (.int p3), .val (.int p4), .val (.int f), .val (.int va), .val (.int vb), .val (.int kk), .unset, .unset, .unset, .unset] [(.ref b492), (.ref b492)])
                      refine own_by (fun _ k => XS.iconst X512.here hx rfl (hb hby at_686) k) ?_
                      show own_Go p e below _ T512 (mkF m 687 #[.val (.int p1), .val (.int p2), .val (.int p3), .val (.int p4), .val (.int f), .val (.int va), .val (.int vb), .val (.int kk), .unset, .unset, .unset, .unset] [(.int (5 : Int32)), (.ref b492), (.ref b492)])
                      refine own_by (fun _ k => XS.iload X512.here hx rfl (hb hby at_687) rfl k) ?_
                      show own_Go p e below _ T512 (mkF m 689 #[.val (.int p1), .val (.int p2), .val (.int p3), .val (.int p4), .val (.int f), .val (.int va), .val (.int vb), .val (.int kk), .unset, .unset, .unset, .unset] [(.int va), (.int (5 : Int32)), (.ref b492), (.ref b492)])
                      obtain ⟨cl515, Ar515, cq515, hin515, hat515, set515⟩ := own_arv V512 (j := (5 : Int32)) ⟨by decide, by decide⟩
                      obtain ⟨T516, h516, X516, e516, W516, st516⟩ := stC X512 hx hZ e512 Ar515 (j := (5 : Int32)) hin515 (g := (mkF m 689 #[.val (.int p1), .val (.int p2), .val (.int p3), .val (.int p4), .val (.int f), .val (.int va), .val (.int vb), .val (.int kk), .unset, .unset, .unset, .unset] [(.int va), (.int (5 : Int32)), (.ref b492), (.ref b492)])) rfl rfl (hb hby at_689)
                      have wq516 : nar .char va = va := hva.1
                      rw [wq516] at W516
                      have wf516 : fits .char (.int va) = true := wq516 ▸ (fits_nar_char _)
                      have V516 : Arv Z h516 b492 k492 .char (16 : Int32) [(.int (99 : Int32)), (.int (108 : Int32)), (.int (111 : Int32)), (.int (115 : Int32)), (.int (101 : Int32)), (.int va), (.int (0 : Int32)), (.int (0 : Int32)), (.int (0 : Int32)), (.int (0 : Int32)), (.int (0 : Int32)), (.int (0 : Int32)), (.int (0 : Int32)), (.int (0 : Int32)), (.int (0 : Int32)), (.int (0 : Int32))] (.int (0 : Int32)) := set515 wf516 W516 5 rfl (Nat.le_of_ble_eq_true rfl)
                      have N516 := Fr.snoc X516 N512 og_b492
                      have K517 := K513.wr W516 (Or.inr sz_b492)
                      have Z516 : n0 ≤ h516.size := Nat.le_trans Z512 (Keep.of_wr W516).1
                      have kz518 : _ ≤ h516.size := Nat.le_trans kz514 (Keep.of_wr W516).1
                      refine own_by st516 ?_
                      show own_Go p e below _ T516 (mkF m 690 #[.val (.int p1), .val (.int p2), .val (.int p3), .val (.int p4), .val (.int f), .val (.int va), .val (.int vb), .val (.int kk), .unset, .unset, .unset, .unset] [(.ref b492)])
                      refine own_by (fun _ k => XS.dup X516.here hx rfl (hb hby at_690) rfl rfl k) ?_
                      show own_Go p e below _ T516 (mkF m 691 #[.val (.int p1), .val (.int p2), .val (.int p3), .val (.int p4), .val (.int f), .val (.int va), .val (.int vb), .val (.int kk), .unset, .unset, .unset, .unset] [(.ref b492), (.ref b492)])
                      refine own_by (fun _ k => XS.bipush X516.here hx rfl (hb hby at_691) k) ?_
                      show own_Go p e below _ T516 (mkF m 693 #[.val (.int p1), .val (.int p2), .val (.int p3), .val (.int p4), .val (.int f), .val (.int va), .val (.int vb), .val (.int kk), .unset, .unset, .unset, .unset] [(.int (6 : Int32)), (.ref b492), (.ref b492)])
                      refine own_by (fun _ k => XS.bipush X516.here hx rfl (hb hby at_693) k) ?_
                      show own_Go p e below _ T516 (mkF m 695 #[.val (.int p1), .val (.int p2), .val (.int p3), .val (.int p4), .val (.int f), .val (.int va), .val (.int vb), .val (.int kk), .unset, .unset, .unset, .unset] [(.int (107 : Int32)), (.int (6 : Int32)), (.ref b492), (.ref b492)])
                      obtain ⟨cl519, Ar519, cq519, hin519, hat519, set519⟩ := own_arv V516 (j := (6 : Int32)) ⟨by decide, by decide⟩
                      obtain ⟨T520, h520, X520, e520, W520, st520⟩ := stC X516 hx hZ e516 Ar519 (j := (6 : Int32)) hin519 (g := (mkF m 695 #[.val (.int p1), .val (.int p2), .val (.int p3), .val (.int p4), .val (.int f), .val (.int va), .val (.int vb), .val (.int kk), .unset, .unset, .unset, .unset] [(.int (107 : Int32)), (.int (6 : Int32)), (.ref b492), (.ref b492)])) rfl rfl (hb hby at_695)
                      have wq520 : nar .char (107 : Int32) = (107 : Int32) := rfl
                      rw [wq520] at W520
                      have wf520 : fits .char (.int (107 : Int32)) = true := wq520 ▸ (fits_nar_char _)
                      have V520 : Arv Z h520 b492 k492 .char (16 : Int32) [(.int (99 : Int32)), (.int (108 : Int32)), (.int (111 : Int32)), (.int (115 : Int32)), (.int (101 : Int32)), (.int va), (.int (107 : Int32)), (.int (0 : Int32)), (.int (0 : Int32)), (.int (0 : Int32)), (.int (0 : Int32)), (.int (0 : Int32)), (.int (0 : Int32)), (.int (0 : Int32)), (.int (0 : Int32)), (.int (0 : Int32))] (.int (0 : Int32)) := set519 wf520 W520 6 rfl (Nat.le_of_ble_eq_true rfl)
                      have N520 := Fr.snoc X520 N516 og_b492
                      have K521 := K517.wr W520 (Or.inr sz_b492)
                      have Z520 : n0 ≤ h520.size := Nat.le_trans Z516 (Keep.of_wr W520).1
                      have kz522 : _ ≤ h520.size := Nat.le_trans kz518 (Keep.of_wr W520).1
                      refine own_by st520 ?_
                      show own_Go p e below _ T520 (mkF m 696 #[.val (.int p1), .val (.int p2), .val (.int p3), .val (.int p4), .val (.int f), .val (.int va), .val (.int vb), .val (.int kk), .unset, .unset, .unset, .unset] [(.ref b492)])
                      refine own_by (fun _ k => XS.dup X520.here hx rfl (hb hby at_696) rfl rfl k) ?_
                      show own_Go p e below _ T520 (mkF m 697 #[.val (.int p1), .val (.int p2), .val (.int p3), .val (.int p4), .val (.int f), .val (.int va), .val (.int vb), .val (.int kk), .unset, .unset, .unset, .unset] [(.ref b492), (.ref b492)])
                      refine own_by (fun _ k => XS.bipush X520.here hx rfl (hb hby at_697) k) ?_
                      show own_Go p e below _ T520 (mkF m 699 #[.val (.int p1), .val (.int p2), .val (.int p3), .val (.int p4), .val (.int f), .val (.int va), .val (.int vb), .val (.int kk), .unset, .unset, .unset, .unset] [(.int (7 : Int32)), (.ref b492), (.ref b492)])
                      refine own_by (fun _ k => XS.bipush X520.here hx rfl (hb hby at_699) k) ?_
                      show own_Go p e below _ T520 (mkF m 701 #[.val (.int p1), .val (.int p2), .val (.int p3), .val (.int p4), .val (.int f), .val (.int va), .val (.int vb), .val (.int kk), .unset, .unset, .unset, .unset] [(.int (101 : Int32)), (.int (7 : Int32)), (.ref b492), (.ref b492)])
                      obtain ⟨cl523, Ar523, cq523, hin523, hat523, set523⟩ := own_arv V520 (j := (7 : Int32)) ⟨by decide, by decide⟩
                      obtain ⟨T524, h524, X524, e524, W524, st524⟩ := stC X520 hx hZ e520 Ar523 (j := (7 : Int32)) hin523 (g := (mkF m 701 #[.val (.int p1), .val (.int p2), .val (.int p3), .val (.int p4), .val (.int f), .val (.int va), .val (.int vb), .val (.int kk), .unset, .unset, .unset, .unset] [(.int (101 : Int32)), (.int (7 : Int32)), (.ref b492), (.ref b492)])) rfl rfl (hb hby at_701)
                      have wq524 : nar .char (101 : Int32) = (101 : Int32) := rfl
                      rw [wq524] at W524
                      have wf524 : fits .char (.int (101 : Int32)) = true := wq524 ▸ (fits_nar_char _)
                      have V524 : Arv Z h524 b492 k492 .char (16 : Int32) [(.int (99 : Int32)), (.int (108 : Int32)), (.int (111 : Int32)), (.int (115 : Int32)), (.int (101 : Int32)), (.int va), (.int (107 : Int32)), (.int (101 : Int32)), (.int (0 : Int32)), (.int (0 : Int32)), (.int (0 : Int32)), (.int (0 : Int32)), (.int (0 : Int32)), (.int (0 : Int32)), (.int (0 : Int32)), (.int (0 : Int32))] (.int (0 : Int32)) := set523 wf524 W524 7 rfl (Nat.le_of_ble_eq_true rfl)
                      have N524 := Fr.snoc X524 N520 og_b492
                      have K525 := K521.wr W524 (Or.inr sz_b492)
                      have Z524 : n0 ≤ h524.size := Nat.le_trans Z520 (Keep.of_wr W524).1
                      have kz526 : _ ≤ h524.size := Nat.le_trans kz522 (Keep.of_wr W524).1
                      refine own_by st524 ?_
                      show own_Go p e below _ T524 (mkF m 702 #[.val (.int p1), .val (.int p2), .val (.int p3), .val (.int p4), .val (.int f), .val (.int va), .val (.int vb), .val (.int kk), .unset, .unset, .unset, .unset] [(.ref b492)])
                      refine own_by (fun _ k => XS.dup X524.here hx rfl (hb hby at_702) rfl rfl k) ?_
                      show own_Go p e below _ T524 (mkF m 703 #[.val (.int p1), .val (.int p2), .val (.int p3), .val (.int p4), .val (.int f), .val (.int va), .val (.int vb), .val (.int kk), .unset, .unset, .unset, .unset] [(.ref b492), (.ref b492)])
                      refine own_by (fun _ k => XS.bipush X524.here hx rfl (hb hby at_703) k) ?_
                      show own_Go p e below _ T524 (mkF m 705 #[.val (.int p1), .val (.int p2), .val (.int p3), .val (.int p4), .val (.int f), .val (.int va), .val (.int vb), .val (.int kk), .unset, .unset, .unset, .unset] [(.int (8 : Int32)), (.ref b492), (.ref b492)])
                      refine own_by (fun _ k => XS.bipush X524.here hx rfl (hb hby at_705) k) ?_
                      show own_Go p e below _ T524 (mkF m 707 #[.val (.int p1), .val (.int p2), .val (.int p3), .val (.int p4), .val (.int f), .val (.int va), .val (.int vb), .val (.int kk), .unset, .unset, .unset, .unset] [(.int (101 : Int32)), (.int (8 : Int32)), (.ref b492), (.ref b492)])
                      obtain ⟨cl527, Ar527, cq527, hin527, hat527, set527⟩ := own_arv V524 (j := (8 : Int32)) ⟨by decide, by decide⟩
                      obtain ⟨T528, h528, X528, e528, W528, st528⟩ := stC X524 hx hZ e524 Ar527 (j := (8 : Int32)) hin527 (g := (mkF m 707 #[.val (.int p1), .val (.int p2), .val (.int p3), .val (.int p4), .val (.int f), .val (.int va), .val (.int vb), .val (.int kk), .unset, .unset, .unset, .unset] [(.int (101 : Int32)), (.int (8 : Int32)), (.ref b492), (.ref b492)])) rfl rfl (hb hby at_707)
                      have wq528 : nar .char (101 : Int32) = (101 : Int32) := rfl
                      rw [wq528] at W528
                      have wf528 : fits .char (.int (101 : Int32)) = true := wq528 ▸ (fits_nar_char _)
                      have V528 : Arv Z h528 b492 k492 .char (16 : Int32) [(.int (99 : Int32)), (.int (108 : Int32)), (.int (111 : Int32)), (.int (115 : Int32)), (.int (101 : Int32)), (.int va), (.int (107 : Int32)), (.int (101 : Int32)), (.int (101 : Int32)), (.int (0 : Int32)), (.int (0 : Int32)), (.int (0 : Int32)), (.int (0 : Int32)), (.int (0 : Int32)), (.int (0 : Int32)), (.int (0 : Int32))] (.int (0 : Int32)) := set527 wf528 W528 8 rfl (Nat.le_of_ble_eq_true rfl)
                      have N528 := Fr.snoc X528 N524 og_b492
                      have K529 := K525.wr W528 (Or.inr sz_b492)
                      have Z528 : n0 ≤ h528.size := Nat.le_trans Z524 (Keep.of_wr W528).1
                      have kz530 : _ ≤ h528.size := Nat.le_trans kz526 (Keep.of_wr W528).1
                      refine own_by st528 ?_
                      show own_Go p e below _ T528 (mkF m 708 #[.val (.int p1), .val (.int p2), .val (.int p3), .val (.int p4), .val (.int f), .val (.int va), .val (.int vb), .val (.int kk), .unset, .unset, .unset, .unset] [(.ref b492)])
                      refine own_by (fun _ k => XS.dup X528.here hx rfl (hb hby at_708) rfl rfl k) ?_
                      show own_Go p e below _ T528 (mkF m 709 #[.val (.int p1), .val (.int p2), .val (.int p3), .val (.int p4), .val (.int f), .val (.int va), .val (.int vb), .val (.int kk), .unset, .unset, .unset, .unset] [(.ref b492), (.ref b492)])
                      refine own_by (fun _ k => XS.bipush X528.here hx rfl (hb hby at_709) k) ?_
                      show own_Go p e below _ T528 (mkF m 711 #[.val (.int p1), .val (.int p2), .val (.int p3), .val (.int p4), .val (.int f), .val (.int va), .val (.int vb), .val (.int kk), .unset, .unset, .unset, .unset] [(.int (9 : Int32)), (.ref b492), (.ref b492)])
                      refine own_by (fun _ k => XS.bipush X528.here hx rfl (hb hby at_711) k) ?_
                      show own_Go p e below _ T528 (mkF m 713 #[.val (.int p1), .val (.int p2), .val (.int p3), .val (.int p4), .val (.int f), .val (.int va), .val (.int vb), .val (.int kk), .unset, .unset, .unset, .unset] [(.int (112 : Int32)), (.int (9 : Int32)), (.ref b492), (.ref b492)])
                      obtain ⟨cl531, Ar531, cq531, hin531, hat531, set531⟩ := own_arv V528 (j := (9 : Int32)) ⟨by decide, by decide⟩
                      obtain ⟨T532, h532, X532, e532, W532, st532⟩ := stC X528 hx hZ e528 Ar531 (j := (9 : Int32)) hin531 (g := (mkF m 713 #[.val (.int p1), .val (.int p2), .val (.int p3), .val (.int p4), .val (.int f), .val (.int va), .val (.int vb), .val (.int kk), .unset, .unset, .unset, .unset] [(.int (112 : Int32)), (.int (9 : Int32)), (.ref b492), (.ref b492)])) rfl rfl (hb hby at_713)
                      have wq532 : nar .char (112 : Int32) = (112 : Int32) := rfl
                      rw [wq532] at W532
                      have wf532 : fits .char (.int (112 : Int32)) = true := wq532 ▸ (fits_nar_char _)
                      have V532 : Arv Z h532 b492 k492 .char (16 : Int32) [(.int (99 : Int32)), (.int (108 : Int32)), (.int (111 : Int32)), (.int (115 : Int32)), (.int (101 : Int32)), (.int va), (.int (107 : Int32)), (.int (101 : Int32)), (.int (101 : Int32)), (.int (112 : Int32)), (.int (0 : Int32)), (.int (0 : Int32)), (.int (0 : Int32)), (.int (0 : Int32)), (.int (0 : Int32)), (.int (0 : Int32))] (.int (0 : Int32)) := set531 wf532 W532 9 rfl (Nat.le_of_ble_eq_true rfl)
                      have N532 := Fr.snoc X532 N528 og_b492
                      have K533 := K529.wr W532 (Or.inr sz_b492)
                      have Z532 : n0 ≤ h532.size := Nat.le_trans Z528 (Keep.of_wr W532).1
                      have kz534 : _ ≤ h532.size := Nat.le_trans kz530 (Keep.of_wr W532).1
                      refine own_by st532 ?_
                      show own_Go p e below _ T532 (mkF m 714 #[.val (.int p1), .val (.int p2), .val (.int p3), .val (.int p4), .val (.int f), .val (.int va), .val (.int vb), .val (.int kk), .unset, .unset, .unset, .unset] [(.ref b492)])
                      refine own_by (fun _ k => XS.dup X532.here hx rfl (hb hby at_714) rfl rfl k) ?_
                      show own_Go p e below _ T532 (mkF m 715 #[.val (.int p1), .val (.int p2), .val (.int p3), .val (.int p4), .val (.int f), .val (.int va), .val (.int vb), .val (.int kk), .unset, .unset, .unset, .unset] [(.ref b492), (.ref b492)])
                      refine own_by (fun _ k => XS.bipush X532.here hx rfl (hb hby at_715) k) ?_
                      show own_Go p e below _ T532 (mkF m 717 #[.val (.int p1), .val (.int p2), .val (.int p3), .val (.int p4), .val (.int f), .val (.int va), .val (.int vb), .val (.int kk), .unset, .unset, .unset, .unset] [(.int (10 : Int32)), (.ref b492), (.ref b492)])
                      refine own_by (fun _ k => XS.bipush X532.here hx rfl (hb hby at_717) k) ?_
                      show own_Go p e below _ T532 (mkF m 719 #[.val (.int p1), .val (.int p2), .val (.int p3), .val (.int p4), .val (.int f), .val (.int va), .val (.int vb), .val (.int kk), .unset, .unset, .unset, .unset] [(.int (45 : Int32)), (.int (10 : Int32)), (.ref b492), (.ref b492)])
                      obtain ⟨cl535, Ar535, cq535, hin535, hat535, set535⟩ := own_arv V532 (j := (10 : Int32)) ⟨by decide, by decide⟩
                      obtain ⟨T536, h536, X536, e536, W536, st536⟩ := stC X532 hx hZ e532 Ar535 (j := (10 : Int32)) hin535 (g := (mkF m 719 #[.val (.int p1), .val (.int p2), .val (.int p3), .val (.int p4), .val (.int f), .val (.int va), .val (.int vb), .val (.int kk), .unset, .unset, .unset, .unset] [(.int (45 : Int32)), (.int (10 : Int32)), (.ref b492), (.ref b492)])) rfl rfl (hb hby at_719)
                      have wq536 : nar .char (45 : Int32) = (45 : Int32) := rfl
                      rw [wq536] at W536
                      have wf536 : fits .char (.int (45 : Int32)) = true := wq536 ▸ (fits_nar_char _)
                      have V536 : Arv Z h536 b492 k492 .char (16 : Int32) [(.int (99 : Int32)), (.int (108 : Int32)), (.int (111 : Int32)), (.int (115 : Int32)), (.int (101 : Int32)), (.int va), (.int (107 : Int32)), (.int (101 : Int32)), (.int (101 : Int32)), (.int (112 : Int32)), (.int (45 : Int32)), (.int (0 : Int32)), (.int (0 : Int32)), (.int (0 : Int32)), (.int (0 : Int32)), (.int (0 : Int32))] (.int (0 : Int32)) := set535 wf536 W536 10 rfl (Nat.le_of_ble_eq_true rfl)
                      have N536 := Fr.snoc X536 N532 og_b492
                      have K537 := K533.wr W536 (Or.inr sz_b492)
                      have Z536 : n0 ≤ h536.size := Nat.le_trans Z532 (Keep.of_wr W536).1
                      have kz538 : _ ≤ h536.size := Nat.le_trans kz534 (Keep.of_wr W536).1
                      refine own_by st536 ?_
                      show own_Go p e below _ T536 (mkF m 720 #[.val (.int p1), .val (.int p2), .val (.int p3), .val (.int p4), .val (.int f), .val (.int va), .val (.int vb), .val (.int kk), .unset, .unset, .unset, .unset] [(.ref b492)])
                      refine own_by (fun _ k => XS.dup X536.here hx rfl (hb hby at_720) rfl rfl k) ?_
                      show own_Go p e below _ T536 (mkF m 721 #[.val (.int p1), .val (.int p2), .val (.int p3), .val (.int p4), .val (.int f), .val (.int va), .val (.int vb), .val (.int kk), .unset, .unset, .unset, .unset] [(.ref b492), (.ref b492)])
                      refine own_by (fun _ k => XS.bipush X536.here hx rfl (hb hby at_721) k) ?_
                      show own_Go p e below _ T536 (mkF m 723 #[.val (.int p1), .val (.int p2), .val (.int p3), .val (.int p4), .val (.int f), .val (.int va), .val (.int vb), .val (.int kk), .unset, .unset, .unset, .unset] [(.int (11 : Int32)), (.ref b492), (.ref b492)])
                      refine own_by (fun _ k => XS.bipush X536.here hx rfl (hb hby at_723) k) ?_
                      show own_Go p e below _ T536 (mkF m 725 #[.val (.int p1), .val (.int p2), .val (.int p3), .val (.int p4), .val (.int f), .val (.int va), .val (.int vb), .val (.int kk), .unset, .unset, .unset, .unset] [(.int (97 : Int32)), (.int (11 : Int32)), (.ref b492), (.ref b492)])
                      obtain ⟨cl539, Ar539, cq539, hin539, hat539, set539⟩ := own_arv V536 (j := (11 : Int32)) ⟨by decide, by decide⟩
                      obtain ⟨T540, h540, X540, e540, W540, st540⟩ := stC X536 hx hZ e536 Ar539 (j := (11 : Int32)) hin539 (g := (mkF m 725 #[.val (.int p1), .val (.int p2), .val (.int p3), .val (.int p4), .val (.int f), .val (.int va), .val (.int vb), .val (.int kk), .unset, .unset, .unset, .unset] [(.int (97 : Int32)), (.int (11 : Int32)), (.ref b492), (.ref b492)])) rfl rfl (hb hby at_725)
                      have wq540 : nar .char (97 : Int32) = (97 : Int32) := rfl
                      rw [wq540] at W540
                      have wf540 : fits .char (.int (97 : Int32)) = true := wq540 ▸ (fits_nar_char _)
                      have V540 : Arv Z h540 b492 k492 .char (16 : Int32) [(.int (99 : Int32)), (.int (108 : Int32)), (.int (111 : Int32)), (.int (115 : Int32)), (.int (101 : Int32)), (.int va), (.int (107 : Int32)), (.int (101 : Int32)), (.int (101 : Int32)), (.int (112 : Int32)), (.int (45 : Int32)), (.int (97 : Int32)), (.int (0 : Int32)), (.int (0 : Int32)), (.int (0 : Int32)), (.int (0 : Int32))] (.int (0 : Int32)) := set539 wf540 W540 11 rfl (Nat.le_of_ble_eq_true rfl)
                      have N540 := Fr.snoc X540 N536 og_b492
                      have K541 := K537.wr W540 (Or.inr sz_b492)
                      have Z540 : n0 ≤ h540.size := Nat.le_trans Z536 (Keep.of_wr W540).1
                      have kz542 : _ ≤ h540.size := Nat.le_trans kz538 (Keep.of_wr W540).1
                      refine own_by st540 ?_
                      show own_Go p e below _ T540 (mkF m 726 #[.val (.int p1), .val (.int p2), .val (.int p3), .val (.int p4), .val (.int f), .val (.int va), .val (.int vb), .val (.int kk), .unset, .unset, .unset, .unset] [(.ref b492)])
                      refine own_by (fun _ k => XS.dup X540.here hx rfl (hb hby at_726) rfl rfl k) ?_
                      show own_Go p e below _ T540 (mkF m 727 #[.val (.int p1), .val (.int p2), .val (.int p3), .val (.int p4), .val (.int f), .val (.int va), .val (.int vb), .val (.int kk), .unset, .unset, .unset, .unset] [(.ref b492), (.ref b492)])
                      refine own_by (fun _ k => XS.bipush X540.here hx rfl (hb hby at_727) k) ?_
                      show own_Go p e below _ T540 (mkF m 729 #[.val (.int p1), .val (.int p2), .val (.int p3), .val (.int p4), .val (.int f), .val (.int va), .val (.int vb), .val (.int kk), .unset, .unset, .unset, .unset] [(.int (12 : Int32)), (.ref b492), (.ref b492)])
                      refine own_by (fun _ k => XS.bipush X540.here hx rfl (hb hby at_729) k) ?_
                      show own_Go p e below _ T540 (mkF m 731 #[.val (.int p1), .val (.int p2), .val (.int p3), .val (.int p4), .val (.int f), .val (.int va), .val (.int vb), .val (.int kk), .unset, .unset, .unset, .unset] [(.int (108 : Int32)), (.int (12 : Int32)), (.ref b492), (.ref b492)])
                      obtain ⟨cl543, Ar543, cq543, hin543, hat543, set543⟩ := own_arv V540 (j := (12 : Int32)) ⟨by decide, by decide⟩
                      obtain ⟨T544, h544, X544, e544, W544, st544⟩ := stC X540 hx hZ e540 Ar543 (j := (12 : Int32)) hin543 (g := (mkF m 731 #[.val (.int p1), .val (.int p2), .val (.int p3), .val (.int p4), .val (.int f), .val (.int va), .val (.int vb), .val (.int kk), .unset, .unset, .unset, .unset] [(.int (108 : Int32)), (.int (12 : Int32)), (.ref b492), (.ref b492)])) rfl rfl (hb hby at_731)
                      have wq544 : nar .char (108 : Int32) = (108 : Int32) := rfl
                      rw [wq544] at W544
                      have wf544 : fits .char (.int (108 : Int32)) = true := wq544 ▸ (fits_nar_char _)
                      have V544 : Arv Z h544 b492 k492 .char (16 : Int32) [(.int (99 : Int32)), (.int (108 : Int32)), (.int (111 : Int32)), (.int (115 : Int32)), (.int (101 : Int32)), (.int va), (.int (107 : Int32)), (.int (101 : Int32)), (.int (101 : Int32)), (.int (112 : Int32)), (.int (45 : Int32)), (.int (97 : Int32)), (.int (108 : Int32)), (.int (0 : Int32)), (.int (0 : Int32)), (.int (0 : Int32))] (.int (0 : Int32)) := set543 wf544 W544 12 rfl (Nat.le_of_ble_eq_true rfl)
                      have N544 := Fr.snoc X544 N540 og_b492
                      have K545 := K541.wr W544 (Or.inr sz_b492)
                      have Z544 : n0 ≤ h544.size := Nat.le_trans Z540 (Keep.of_wr W544).1
                      have kz546 : _ ≤ h544.size := Nat.le_trans kz542 (Keep.of_wr W544).1
                      refine own_by st544 ?_
                      show own_Go p e below _ T544 (mkF m 732 #[.val (.int p1), .val (.int p2), .val (.int p3), .val (.int p4), .val (.int f), .val (.int va), .val (.int vb), .val (.int kk), .unset, .unset, .unset, .unset] [(.ref b492)])
                      refine own_by (fun _ k => XS.dup X544.here hx rfl (hb hby at_732) rfl rfl k) ?_
                      show own_Go p e below _ T544 (mkF m 733 #[.val (.int p1), .val (.int p2), .val (.int p3), .val (.int p4), .val (.int f), .val (.int va), .val (.int vb), .val (.int kk), .unset, .unset, .unset, .unset] [(.ref b492), (.ref b492)])
                      refine own_by (fun _ k => XS.bipush X544.here hx rfl (hb hby at_733) k) ?_
                      show own_Go p e below _ T544 (mkF m 735 #[.val (.int p1), .val (.int p2), .val (.int p3), .val (.int p4), .val (.int f), .val (.int va), .val (.int vb), .val (.int kk), .unset, .unset, .unset, .unset] [(.int (13 : Int32)), (.ref b492), (.ref b492)])
                      refine own_by (fun _ k => XS.bipush X544.here hx rfl (hb hby at_735) k) ?_
                      show own_Go p e below _ T544 (mkF m 737 #[.val (.int p1), .val (.int p2), .val (.int p3), .val (.int p4), .val (.int f), .val (.int va), .val (.int vb), .val (.int kk), .unset, .unset, .unset, .unset] [(.int (105 : Int32)), (.int (13 : Int32)), (.ref b492), (.ref b492)])
                      obtain ⟨cl547, Ar547, cq547, hin547, hat547, set547⟩ := own_arv V544 (j := (13 : Int32)) ⟨by decide, by decide⟩
                      obtain ⟨T548, h548, X548, e548, W548, st548⟩ := stC X544 hx hZ e544 Ar547 (j := (13 : Int32)) hin547 (g := (mkF m 737 #[.val (.int p1), .val (.int p2), .val (.int p3), .val (.int p4), .val (.int f), .val (.int va), .val (.int vb), .val (.int kk), .unset, .unset, .unset, .unset] [(.int (105 : Int32)), (.int (13 : Int32)), (.ref b492), (.ref b492)])) rfl rfl (hb hby at_737)
                      have wq548 : nar .char (105 : Int32) = (105 : Int32) := rfl
                      rw [wq548] at W548
                      have wf548 : fits .char (.int (105 : Int32)) = true := wq548 ▸ (fits_nar_char _)
                      have V548 : Arv Z h548 b492 k492 .char (16 : Int32) [(.int (99 : Int32)), (.int (108 : Int32)), (.int (111 : Int32)), (.int (115 : Int32)), (.int (101 : Int32)), (.int va), (.int (107 : Int32)), (.int (101 : Int32)), (.int (101 : Int32)), (.int (112 : Int32)), (.int (45 : Int32)), (.int (97 : Int32)), (.int (108 : Int32)), (.int (105 : Int32)), (.int (0 : Int32)), (.int (0 : Int32))] (.int (0 : Int32)) := set547 wf548 W548 13 rfl (Nat.le_of_ble_eq_true rfl)
                      have N548 := Fr.snoc X548 N544 og_b492
                      have K549 := K545.wr W548 (Or.inr sz_b492)
                      have Z548 : n0 ≤ h548.size := Nat.le_trans Z544 (Keep.of_wr W548).1
                      have kz550 : _ ≤ h548.size := Nat.le_trans kz546 (Keep.of_wr W548).1
                      refine own_by st548 ?_
                      show own_Go p e below _ T548 (mkF m 738 #[.val (.int p1), .val (.int p2), .val (.int p3), .val (.int p4), .val (.int f), .val (.int va), .val (.int vb), .val (.int kk), .unset, .unset, .unset, .unset] [(.ref b492)])
                      refine own_by (fun _ k => XS.dup X548.here hx rfl (hb hby at_738) rfl rfl k) ?_
                      show own_Go p e below _ T548 (mkF m 739 #[.val (.int p1), .val (.int p2), .val (.int p3), .val (.int p4), .val (.int f), .val (.int va), .val (.int vb), .val (.int kk), .unset, .unset, .unset, .unset] [(.ref b492), (.ref b492)])
                      refine own_by (fun _ k => XS.bipush X548.here hx rfl (hb hby at_739) k) ?_
                      show own_Go p e below _ T548 (mkF m 741 #[.val (.int p1), .val (.int p2), .val (.int p3), .val (.int p4), .val (.int f), .val (.int va), .val (.int vb), .val (.int kk), .unset, .unset, .unset, .unset] [(.int (14 : Int32)), (.ref b492), (.ref b492)])
                      refine own_by (fun _ k => XS.bipush X548.here hx rfl (hb hby at_741) k) ?_
                      show own_Go p e below _ T548 (mkF m 743 #[.val (.int p1), .val (.int p2), .val (.int p3), .val (.int p4), .val (.int f), .val (.int va), .val (.int vb), .val (.int kk), .unset, .unset, .unset, .unset] [(.int (118 : Int32)), (.int (14 : Int32)), (.ref b492), (.ref b492)])
                      obtain ⟨cl551, Ar551, cq551, hin551, hat551, set551⟩ := own_arv V548 (j := (14 : Int32)) ⟨by decide, by decide⟩
                      obtain ⟨T552, h552, X552, e552, W552, st552⟩ := stC X548 hx hZ e548 Ar551 (j := (14 : Int32)) hin551 (g := (mkF m 743 #[.val (.int p1), .val (.int p2), .val (.int p3), .val (.int p4), .val (.int f), .val (.int va), .val (.int vb), .val (.int kk), .unset, .unset, .unset, .unset] [(.int (118 : Int32)), (.int (14 : Int32)), (.ref b492), (.ref b492)])) rfl rfl (hb hby at_743)
                      have wq552 : nar .char (118 : Int32) = (118 : Int32) := rfl
                      rw [wq552] at W552
                      have wf552 : fits .char (.int (118 : Int32)) = true := wq552 ▸ (fits_nar_char _)
                      have V552 : Arv Z h552 b492 k492 .char (16 : Int32) [(.int (99 : Int32)), (.int (108 : Int32)), (.int (111 : Int32)), (.int (115 : Int32)), (.int (101 : Int32)), (.int va), (.int (107 : Int32)), (.int (101 : Int32)), (.int (101 : Int32)), (.int (112 : Int32)), (.int (45 : Int32)), (.int (97 : Int32)), (.int (108 : Int32)), (.int (105 : Int32)), (.int (118 : Int32)), (.int (0 : Int32))] (.int (0 : Int32)) := set551 wf552 W552 14 rfl (Nat.le_of_ble_eq_true rfl)
                      have N552 := Fr.snoc X552 N548 og_b492
                      have K553 := K549.wr W552 (Or.inr sz_b492)
                      have Z552 : n0 ≤ h552.size := Nat.le_trans Z548 (Keep.of_wr W552).1
                      have kz554 : _ ≤ h552.size := Nat.le_trans kz550 (Keep.of_wr W552).1
                      refine own_by st552 ?_
                      show own_Go p e below _ T552 (mkF m 744 #[.val (.int p1), .val (.int p2), .val (.int p3), .val (.int p4), .val (.int f), .val (.int va), .val (.int vb), .val (.int kk), .unset, .unset, .unset, .unset] [(.ref b492)])
                      refine own_by (fun _ k => XS.dup X552.here hx rfl (hb hby at_744) rfl rfl k) ?_
                      show own_Go p e below _ T552 (mkF m 745 #[.val (.int p1), .val (.int p2), .val (.int p3), .val (.int p4), .val (.int f), .val (.int va), .val (.int vb), .val (.int kk), .unset, .unset, .unset, .unset] [(.ref b492), (.ref b492)])
                      refine own_by (fun _ k => XS.bipush X552.here hx rfl (hb hby at_745) k) ?_
                      show own_Go p e below _ T552 (mkF m 747 #[.val (.int p1), .val (.int p2), .val (.int p3), .val (.int p4), .val (.int f), .val (.int va), .val (.int vb), .val (.int kk), .unset, .unset, .unset, .unset] [(.int (15 : Int32)), (.ref b492), (.ref b492)])
                      refine own_by (fun _ k => XS.bipush X552.here hx rfl (hb hby at_747) k) ?_
                      show own_Go p e below _ T552 (mkF m 749 #[.val (.int p1), .val (.int p2), .val (.int p3), .val (.int p4), .val (.int f), .val (.int va), .val (.int vb), .val (.int kk), .unset, .unset, .unset, .unset] [(.int (101 : Int32)), (.int (15 : Int32)), (.ref b492), (.ref b492)])
                      obtain ⟨cl555, Ar555, cq555, hin555, hat555, set555⟩ := own_arv V552 (j := (15 : Int32)) ⟨by decide, by decide⟩
                      obtain ⟨T556, h556, X556, e556, W556, st556⟩ := stC X552 hx hZ e552 Ar555 (j := (15 : Int32)) hin555 (g := (mkF m 749 #[.val (.int p1), .val (.int p2), .val (.int p3), .val (.int p4), .val (.int f), .val (.int va), .val (.int vb), .val (.int kk), .unset, .unset, .unset, .unset] [(.int (101 : Int32)), (.int (15 : Int32)), (.ref b492), (.ref b492)])) rfl rfl (hb hby at_749)
                      have wq556 : nar .char (101 : Int32) = (101 : Int32) := rfl
                      rw [wq556] at W556
                      have wf556 : fits .char (.int (101 : Int32)) = true := wq556 ▸ (fits_nar_char _)
                      have V556 : Arv Z h556 b492 k492 .char (16 : Int32) [(.int (99 : Int32)), (.int (108 : Int32)), (.int (111 : Int32)), (.int (115 : Int32)), (.int (101 : Int32)), (.int va), (.int (107 : Int32)), (.int (101 : Int32)), (.int (101 : Int32)), (.int (112 : Int32)), (.int (45 : Int32)), (.int (97 : Int32)), (.int (108 : Int32)), (.int (105 : Int32)), (.int (118 : Int32)), (.int (101 : Int32))] (.int (0 : Int32)) := set555 wf556 W556 15 rfl (Nat.le_of_ble_eq_true rfl)
                      have N556 := Fr.snoc X556 N552 og_b492
                      have K557 := K553.wr W556 (Or.inr sz_b492)
                      have Z556 : n0 ≤ h556.size := Nat.le_trans Z552 (Keep.of_wr W556).1
                      have kz558 : _ ≤ h556.size := Nat.le_trans kz554 (Keep.of_wr W556).1
                      refine own_by st556 ?_
                      show own_Go p e below _ T556 (mkF m 750 #[.val (.int p1), .val (.int p2), .val (.int p3), .val (.int p4), .val (.int f), .val (.int va), .val (.int vb), .val (.int kk), .unset, .unset, .unset, .unset] [(.ref b492)])
                      refine own_by (fun _ k => XS.astore X556.here hx rfl (hb hby at_750) rfl rfl (l' := #[.val (.int p1), .val (.int p2), .val (.int p3), .val (.int p4), .val (.int f), .val (.int va), .val (.int vb), .val (.int kk), .val (.ref b492), .unset, .unset, .unset]) rfl k) ?_
                      show own_Go p e below _ T556 (mkF m 752 #[.val (.int p1), .val (.int p2), .val (.int p3), .val (.int p4), .val (.int f), .val (.int va), .val (.int vb), .val (.int kk), .val (.ref b492), .unset, .unset, .unset] [])
                      refine own_by (fun _ k => XS.iconst X556.here hx rfl (hb hby at_752) k) ?_
                      show own_Go p e below _ T556 (mkF m 753 #[.val (.int p1), .val (.int p2), .val (.int p3), .val (.int p4), .val (.int f), .val (.int va), .val (.int vb), .val (.int kk), .val (.ref b492), .unset, .unset, .unset] [(.int (1 : Int32))])
                      refine own_by (fun _ k => XS.istore X556.here hx rfl (hb hby at_753) rfl (l' := #[.val (.int p1), .val (.int p2), .val (.int p3), .val (.int p4), .val (.int f), .val (.int va), .val (.int vb), .val (.int kk), .val (.ref b492), .val (.int (1 : Int32)), .unset, .unset]) rfl k) ?_
                      show own_Go p e below _ T556 (mkF m 755 #[.val (.int p1), .val (.int p2), .val (.int p3), .val (.int p4), .val (.int f), .val (.int va), .val (.int vb), .val (.int kk), .val (.ref b492), .val (.int (1 : Int32)), .unset, .unset] [])
                      refine own_by (fun _ k => XS.iconst X556.here hx rfl (hb hby at_755) k) ?_
                      show own_Go p e below _ T556 (mkF m 756 #[.val (.int p1), .val (.int p2), .val (.int p3), .val (.int p4), .val (.int f), .val (.int va), .val (.int vb), .val (.int kk), .val (.ref b492), .val (.int (1 : Int32)), .unset, .unset] [(.int (1 : Int32))])
                      refine own_by (fun _ k => XS.istore X556.here hx rfl (hb hby at_756) rfl (l' := #[.val (.int p1), .val (.int p2), .val (.int p3), .val (.int p4), .val (.int f), .val (.int va), .val (.int vb), .val (.int kk), .val (.ref b492), .val (.int (1 : Int32)), .val (.int (1 : Int32)), .unset]) rfl k) ?_
                      show own_Go p e below _ T556 (mkF m 758 #[.val (.int p1), .val (.int p2), .val (.int p3), .val (.int p4), .val (.int f), .val (.int va), .val (.int vb), .val (.int kk), .val (.ref b492), .val (.int (1 : Int32)), .val (.int (1 : Int32)), .unset] [])
                      exact J758 T556 _ h556 (X556.more (Nat.le_refl _) (by decide)) e556 N556 K557 b492 _ [99, 108, 111, 115, 101, va, 107, 101, 101, 112, 45, 97, 108, 105, 118, 101] _ _ og_b492 ⟨by simp, by simp⟩ (by intro c hc; simp only [List.mem_cons, List.not_mem_nil, or_false] at hc; rcases hc with rfl | rfl | rfl | rfl | rfl | rfl | rfl | rfl | rfl | rfl | rfl | rfl | rfl | rfl | rfl | rfl <;> first | exact hva | exact hvb | (unfold own_ch; decide)) (by rw [own_keep9 va vb]; rfl) (by rw [own_close9 va vb]; rfl) V556
  refine own_by (fun _ k => XS.iloadN X0.here hx rfl (hb hby at_0) rfl k) ?_
  show own_Go p e below _ s₁ (mkF m 1 #[.val (.int p1), .val (.int p2), .val (.int p3), .val (.int p4), .unset, .unset, .unset, .unset, .unset, .unset, .unset, .unset] [(.int p1)])
  refine own_by (fun _ k => XS.iconst X0.here hx rfl (hb hby at_1) k) ?_
  show own_Go p e below _ s₁ (mkF m 2 #[.val (.int p1), .val (.int p2), .val (.int p3), .val (.int p4), .unset, .unset, .unset, .unset, .unset, .unset, .unset, .unset] [(.int (1 : Int32)), (.int p1)])
  refine own_by (fun _ k => XS.iand X0.here hx rfl (hb hby at_2) rfl k) ?_
  show own_Go p e below _ s₁ (mkF m 3 #[.val (.int p1), .val (.int p2), .val (.int p3), .val (.int p4), .unset, .unset, .unset, .unset, .unset, .unset, .unset, .unset] [(.int (p1 &&& (1 : Int32)))])
  by_cases hfl : (p1 &&& (1 : Int32)) = (0 : Int32)
  · refine own_by (fun _ k => XS.ifYes X0.here hx rfl (pc0 := 3) (pc' := 10) rfl (hb hby at_3) rfl ((if0 _ _).trans (teq (hfl : (p1 &&& (1 : Int32)) = (0 : Int32))).1) (by decide) (by decide) k) ?_
    show own_Go p e below _ s₁ (mkF m 10 #[.val (.int p1), .val (.int p2), .val (.int p3), .val (.int p4), .unset, .unset, .unset, .unset, .unset, .unset, .unset, .unset] [])
    refine own_by (fun _ k => XS.iconst X0.here hx rfl (hb hby at_10) k) ?_
    show own_Go p e below _ s₁ (mkF m 11 #[.val (.int p1), .val (.int p2), .val (.int p3), .val (.int p4), .unset, .unset, .unset, .unset, .unset, .unset, .unset, .unset] [(.int (0 : Int32))])
    exact J11 _
  · refine own_by (fun _ k => XS.ifNo X0.here hx rfl (hb hby at_3) rfl ((if0 _ _).trans (feq (hfl : ¬ ((p1 &&& (1 : Int32)) = (0 : Int32)))).1) k) ?_
    show own_Go p e below _ s₁ (mkF m 6 #[.val (.int p1), .val (.int p2), .val (.int p3), .val (.int p4), .unset, .unset, .unset, .unset, .unset, .unset, .unset, .unset] [])
    refine own_by (fun _ k => XS.iconst X0.here hx rfl (hb hby at_6) k) ?_
    show own_Go p e below _ s₁ (mkF m 7 #[.val (.int p1), .val (.int p2), .val (.int p3), .val (.int p4), .unset, .unset, .unset, .unset, .unset, .unset, .unset, .unset] [(.int (1 : Int32))])
    refine own_by (fun _ k => XS.goto X0.here hx rfl (pc0 := 7) (pc' := 11) rfl (hb hby at_7) (by decide) (by decide) k) ?_
    show own_Go p e below _ s₁ (mkF m 11 #[.val (.int p1), .val (.int p2), .val (.int p3), .val (.int p4), .unset, .unset, .unset, .unset, .unset, .unset, .unset, .unset] [(.int (1 : Int32))])
    exact J11 _
set_option maxRecDepth 65536 in
set_option maxHeartbeats 40000000 in
theorem comes_1 {Post : Tables → Env → Array Value → State → Outcome → State → Prop} (hpost : ∀ tb e args s v u, (limb_1_1.after args s (.returned v) u = true ∧ limb_1_2.after args s (.returned v) u = true ∧ True) → ReturnedEndW s (.returned v) u (Jvm.fieldLocs frame_1_writes args s ++ Jvm.arrayLocs frame_1_arrays args s ++ Jvm.staticLocs frame_1_statics s) 24 3264 → Post tb e args s (.returned v) u) :
    ArmFor flags0 classFile x code maxLocals ret World_1 tables_1 room_1 Calls_1 rest_1 Pre_1 Post := by
  intro l hfl _ _ p e ha hc hk s m args below hf hA hF happ hP
  obtain ⟨hcalls, hrest, hpre⟩ := hP
  obtain ⟨-, -, -, hnamed, -, -, -, hat⟩ := (Spec.applies_iff hf).mp happ
  obtain ⟨hg, hn⟩ := and_e (Cond.before_iff.mp (show (Jvm.Cond.and given_1 narrow_1).before args s = true from hpre))
  obtain ⟨g1, g2⟩ := and_e hg
  obtain ⟨g3, g4⟩ := and_e g2
  obtain ⟨g5, g6⟩ := and_e g4
  obtain ⟨g7, g8⟩ := and_e g6
  obtain ⟨w0, w1, w2, w3, rfl⟩ : ∃ w0 w1 w2 w3 : Value, args = #[w0, w1, w2, w3] := by
    have hs : args.size = 4 := by simpa [Cond.value, given_1] using g1
    obtain ⟨L⟩ := args
    match L, hs with
    | [w0, w1, w2, w3], _ => exact ⟨w0, w1, w2, w3, rfl⟩
  have hw := fun d (hd : d ∈ tables_1) => atoms_spec (ws := Jvm.Cond.code x code maxLocals ret :: tables_1) hat d (List.mem_cons_of_mem _ hd)
  have hfit : Fit s := fun {y c} hc i hi => by
    obtain ⟨ha, rfl⟩ := Array.getElem?_eq_some_iff.mp hc
    have q := List.all_eq_true.mp ((Array.all_eq_true_iff_forall_mem.mp hF) _ (Array.getElem_mem ha)) i (List.mem_range.mpr hi)
    simpa [Array.getElem?_eq_getElem hi] using q
  obtain ⟨hsets, hown0⟩ := atoms_of _ (rest_1_c_eq ▸ (show rest_1_c.before _ s = true from hrest))
  have hr0 := Cond.before_iff.mp hown0
  obtain ⟨i0, ei0⟩ := is_v g3
  obtain rfl : w0 = (.int i0) := Option.some.inj ei0
  obtain ⟨i1, ei1⟩ := is_v g5
  obtain rfl : w1 = (.int i1) := Option.some.inj ei1
  obtain ⟨i2, ei2⟩ := is_v g7
  obtain rfl : w2 = (.int i2) := Option.some.inj ei2
  obtain ⟨i3, ei3⟩ := is_v g8
  obtain rfl : w3 = (.int i3) := Option.some.inj ei3
  obtain ⟨w1, ev⟩ := is_v (Cond.before_iff.mp (hsets _ (List.mem_of_getElem? (i := 1) rfl)))
  have SC : Sta s s.heap "java/lang/String" "COMPACT_STRINGS" "Z" (.int w1) := Sta.start ev (Or.inl (hsets _ (List.mem_of_getElem? (i := 0) rfl)))
  have hcw := hsets _ (List.mem_of_getElem? (i := 2) rfl)
  have hw1 : ¬ w1 = 0 := fun q => gotF (u := _) (P := w1 = 0) (by rw [Cond.eq_ints ev (Term.int_eval 0)]) (not_v (Cond.before_iff.mp hcw)) q
  have hc49 : Jvm.Lit.constHeld s "com/example/tolk/tolk/query/Http1" 49 := hcalls.1 ("com/example/tolk/tolk/query/Http1", 49) (List.mem_of_getElem? (i := 0) rfl)
  have hc55 : Jvm.Lit.constHeld s "com/example/tolk/tolk/query/Http1" 55 := hcalls.1 ("com/example/tolk/tolk/query/Http1", 55) (List.mem_of_getElem? (i := 1) rfl)
  have hc7 : Jvm.Lit.constHeld s "java/lang/String" 7 := hcalls.1 ("java/lang/String", 7) (List.mem_of_getElem? (i := 2) rfl)
  obtain ⟨n, o, h1, h2, h3, _, L, rfl, ⟨rfl, N⟩, hq⟩ := rm0 l s _ hw tables_1 i0 i1 i2 i3 w1 s.heap s.heap.size (Nat.le_refl _) SC hw1 hc7 hc49 hc55 hcw (fun _ _ q => q) p e ha hc hk s m _ below hf ((Spec.applies_iff_loose hf).mp happ).1 ⟨rfl, State.Warmed39.refl s, rfl, IB.start⟩ trivial
  refine ⟨n, _, h1, h2, h3, hpost _ _ _ _ _ _ ⟨Cond.after_iff.mpr rfl, Cond.after_iff.mpr (eq_i res_at (Term.int_eval (1)) rfl), trivial⟩ ⟨hq.1, hq.2.1, hq.2.2.1, (hq.2.2.2.sift fun y hy => Or.inr (N y hy)).mono (by decide) (by decide)⟩⟩
theorem main_1_1 : Claimed_1_1 := comes_1 fun _ _ _ _ _ _ h hF => ⟨h.1, hF⟩
theorem main_1_2 : Claimed_1_2 := comes_1 fun _ _ _ _ _ _ h hF => ⟨h.2.1, hF⟩
end Jvm.Pilot.@@N@@
namespace Jvm.Pilot.@@N@@
open Jvm Jvm.ClassFile Sem Op Lib Jvm.Free Jvm.Stand Jvm.Pilot.@@N@@.Jvm.D
/-! MADE BY PROGRAM (witnessworld.py) out of the Statement's table words and the real class files: 20 classes; the members and pool entries that the words name. The judged class is class 1, her method 2. -/
namespace start1
open Jvm.ClassFile
def u (s : String) : CpInfo := .utf8 (stringToUtf16 s)
/-- a pool by its gaps: so many unusable entries, then the entry; so many at the end -/
def gap : Nat → List CpInfo → List CpInfo
  | 0, r => r
  | n + 1, r => .unusable :: gap n r
def poolList (es : List (Nat × CpInfo)) (last : Nat) : List CpInfo := es.foldr (fun e r => gap e.1 (e.2 :: r)) (gap last [])
def pool (es : List (Nat × CpInfo)) (last : Nat) : Array CpInfo := ⟨poolList es last⟩
def fileOf (pool : Array CpInfo) (this : Nat) (attrs : Array Attribute := #[]) (ms : Array MethodInfo := #[]) (fl : Nat := 33) (sup : Nat := 0) (ifs : Array Nat := #[]) (fds : Array FieldInfo := #[]) : ClassFile where
  minorVersion := 0
  majorVersion := 65
  constantPool := pool
  accessFlags := fl
  thisClass := this
  superClass := sup
  interfaces := ifs
  fields := fds
  methods := ms
  attributes := attrs
def plain (name : String) (sup : Option ClassId) : Class where
  name := name
  kind := .ordinary
  loader := none
  accessFlags := 33
  super := sup
  interfaces := #[]
  cf := none
  fields := #[]
  methods := #[]
  instanceTypes := #[]
  staticTypes := #[]
  resolved := #[]
  callSites := []
  init := .initialized
  statics := none
  mirror := none

def pool0 : Array CpInfo := pool [(5, u "<init>"), (0, u "()V"), (1, .class_ 10), (1, u "java/lang/Object")] 113

def k0c0 : Code := { maxStack := 0, maxLocals := 1, code := object_method_1_code, exceptionTable := #[], attributes := #[] }
def k0m0 : Method := { name := "<init>", desc := "()V", sig := { parameters := [], returnType := none }, accessFlags := 1, code := some k0c0 }
/-- java/lang/Object -/
def k0 : Class := { plain "java/lang/Object" none with
  accessFlags := 33
  interfaces := #[]
  cf := some (fileOf pool0 8 #[] #[{ accessFlags := 1, nameIndex := 5, descriptorIndex := 6, attributes := #[] }] 33 0 #[] #[])
  fields := #[]
  methods := #[k0m0]
  instanceTypes := #[]
  staticTypes := #[]
  resolved := Array.replicate 124 none
  statics := none }

def pool1 : Array CpInfo := pool [(2, .class_ 4), (1, u "java/lang/Object"), (0, u "<init>"), (0, u "()V"), (0, .methodref 8 9), (0, .class_ 10), (0, .nameAndType 11 12), (0, u "com/example/tolk/tolk/query/Http1KeepsAlivePinLaw"), (0, u "lower"), (0, u "(I)C"), (0, .integer 2147483647), (0, .class_ 15), (0, u "java/lang/String"), (0, .methodref 14 17), (0, .nameAndType 5 18), (0, u "([C)V"), (0, .methodref 20 21), (0, .class_ 22), (0, .nameAndType 23 24), (0, u "com/example/tolk/tolk/query/Http1"), (0, u "keepsAlive"), (0, u "(ZLjava/lang/String;)Z"), (3, u "law"), (0, u "(IIII)Z")] 4

def k1m0 : Method := { name := "<init>", desc := "()V", sig := { parameters := [], returnType := none }, accessFlags := 2, code := none }
def k1c1 : Code := { maxStack := 2, maxLocals := 2, code := method_2_code, exceptionTable := #[], attributes := #[] }
def k1m1 : Method := { name := "lower", desc := "(I)C", sig := { parameters := [.int], returnType := some .char }, accessFlags := 10, code := some k1c1 }
def k1c2 : Code := { maxStack := 4, maxLocals := 12, code := code, exceptionTable := #[], attributes := #[] }
def k1m2 : Method := { name := "law", desc := "(IIII)Z", sig := { parameters := [.int, .int, .int, .int], returnType := some .boolean }, accessFlags := 9, code := some k1c2 }
/-- com/example/tolk/tolk/query/Http1KeepsAlivePinLaw -/
def k1 : Class := { plain "com/example/tolk/tolk/query/Http1KeepsAlivePinLaw" (some 0) with
  accessFlags := 49
  interfaces := #[]
  cf := some (fileOf pool1 8 #[] #[{ accessFlags := 2, nameIndex := 5, descriptorIndex := 6, attributes := #[] }, { accessFlags := 10, nameIndex := 11, descriptorIndex := 12, attributes := #[] }, { accessFlags := 9, nameIndex := 28, descriptorIndex := 29, attributes := #[] }] 49 2 #[] #[])
  fields := #[]
  methods := #[k1m0, k1m1, k1m2]
  instanceTypes := #[]
  staticTypes := #[]
  resolved := Array.replicate 34 none
  statics := none }

def pool2 : Array CpInfo := pool [(1, .class_ 2), (0, u "java/io/Serializable"), (0, .class_ 4), (0, u "java/lang/Object")] 2

/-- java/io/Serializable -/
def k2 : Class := { plain "java/io/Serializable" (some 0) with
  accessFlags := 1537
  interfaces := #[]
  cf := some (fileOf pool2 1 #[] #[] 1537 3 #[] #[])
  fields := #[]
  methods := #[]
  instanceTypes := #[]
  staticTypes := #[]
  resolved := Array.replicate 7 none
  statics := none }

def pool3 : Array CpInfo := pool [(1, .class_ 2), (0, u "java/lang/Comparable"), (0, .class_ 4), (0, u "java/lang/Object")] 7

/-- java/lang/Comparable -/
def k3 : Class := { plain "java/lang/Comparable" (some 0) with
  accessFlags := 1537
  interfaces := #[]
  cf := some (fileOf pool3 1 #[] #[] 1537 3 #[] #[])
  fields := #[]
  methods := #[]
  instanceTypes := #[]
  staticTypes := #[]
  resolved := Array.replicate 12 none
  statics := none }

def pool4 : Array CpInfo := pool [(2, .class_ 4), (1, u "java/lang/CharSequence"), (42, .class_ 48), (0, u "java/lang/CharSequence$1CodePointIterator"), (10, .class_ 60), (0, u "java/lang/CharSequence$1CharIterator"), (5, .class_ 67), (0, u "java/lang/Object"), (10, u "toString"), (0, u "()Ljava/lang/String;")] 51

def k4m0 : Method := { name := "toString", desc := "()Ljava/lang/String;", sig := { parameters := [], returnType := some (.object "java/lang/String") }, accessFlags := 1025, code := none }
/-- java/lang/CharSequence -/
def k4 : Class := { plain "java/lang/CharSequence" (some 0) with
  accessFlags := 1537
  interfaces := #[]
  cf := some (fileOf pool4 2 #[.nestMembers #[47, 59]] #[{ accessFlags := 1025, nameIndex := 78, descriptorIndex := 79, attributes := #[] }] 1537 66 #[] #[])
  fields := #[]
  methods := #[k4m0]
  instanceTypes := #[]
  staticTypes := #[]
  resolved := Array.replicate 131 none
  statics := none }

def pool5 : Array CpInfo := pool [(1, .class_ 2), (0, u "java/lang/constant/Constable"), (0, .class_ 4), (0, u "java/lang/Object")] 6

/-- java/lang/constant/Constable -/
def k5 : Class := { plain "java/lang/constant/Constable" (some 0) with
  accessFlags := 1537
  interfaces := #[]
  cf := some (fileOf pool5 1 #[] #[] 1537 3 #[] #[])
  fields := #[]
  methods := #[]
  instanceTypes := #[]
  staticTypes := #[]
  resolved := Array.replicate 11 none
  statics := none }

def pool6 : Array CpInfo := pool [(1, .class_ 2), (0, u "java/lang/constant/ConstantDesc"), (0, .class_ 4), (0, u "java/lang/Object")] 32

/-- java/lang/constant/ConstantDesc -/
def k6 : Class := { plain "java/lang/constant/ConstantDesc" (some 0) with
  accessFlags := 1537
  interfaces := #[]
  cf := some (fileOf pool6 1 #[] #[] 1537 3 #[] #[])
  fields := #[]
  methods := #[]
  instanceTypes := #[]
  staticTypes := #[]
  resolved := Array.replicate 37 none
  statics := none }

def pool7 : Array CpInfo := pool [(1, .methodref 2 3), (0, .class_ 4), (0, .nameAndType 5 6), (0, u "java/lang/Object"), (0, u "<init>"), (0, u "()V"), (0, .string 8), (0, u ""), (0, .fieldref 10 11), (0, .class_ 12), (0, .nameAndType 13 14), (0, u "java/lang/String"), (0, u "value"), (0, u "[B"), (0, .fieldref 10 16), (0, .nameAndType 17 18), (0, u "coder"), (0, u "B"), (2, u "hash"), (0, u "I"), (2, u "hashIsZero"), (0, u "Z"), (0, .methodref 10 28), (0, .nameAndType 5 29), (0, u "([CIILjava/lang/Void;)V"), (8, .fieldref 10 39), (0, .nameAndType 40 26), (0, u "COMPACT_STRINGS"), (1, .class_ 44), (1, u "java/lang/StringUTF16"), (0, u "compress"), (1, .methodref 42 48), (0, .nameAndType 49 50), (0, u "coderFromArrayLen"), (0, u "([BI)B"), (56, .class_ 109), (1, u "java/lang/StringLatin1"), (32, u "()Z"), (34, .methodref 42 178), (0, .nameAndType 45 179), (0, u "([CII)[B"), (155, .methodref 10 336), (0, .nameAndType 17 337), (0, u "()B"), (124, .nameAndType 463 464), (0, u "toString"), (0, u "()Ljava/lang/String;"), (27, .methodref 10 493), (0, .nameAndType 494 142), (0, u "isLatin1"), (53, u "(Ljava/lang/CharSequence;)Z"), (26, .class_ 576), (0, u "java/lang/CharSequence"), (12, u "([B[B)I"), (9, u "CASE_INSENSITIVE_ORDER"), (0, u "Ljava/util/Comparator;"), (34, u "indexOf"), (11, .methodref 107 648), (0, .nameAndType 635 589), (61, .interfaceMethodref 575 462), (0, .methodref 10 712), (0, .nameAndType 635 713), (0, u "(Ljava/lang/String;)I"), (296, u "([C)V"), (90, u "serialPersistentFields"), (0, u "[Ljava/io/ObjectStreamField;"), (0, .class_ 1104), (0, u "java/lang/String$CaseInsensitiveComparator"), (1, .class_ 1107), (0, u "java/io/Serializable"), (0, .class_ 1109), (0, u "java/lang/Comparable"), (0, .class_ 1111), (0, u "java/lang/constant/Constable"), (0, .class_ 1113), (0, u "java/lang/constant/ConstantDesc"), (2, u "serialVersionUID"), (0, u "J"), (3, u "REPL"), (0, u "C"), (2, u "LATIN1"), (1, u "UTF16"), (163, u "contains")] 159

def k7m0 : Method := { name := "<init>", desc := "()V", sig := { parameters := [], returnType := none }, accessFlags := 1, code := none }
def k7c1 : Code := { maxStack := 5, maxLocals := 2, code := jdk_42_method_3_code, exceptionTable := #[], attributes := #[] }
def k7m1 : Method := { name := "<init>", desc := "([C)V", sig := { parameters := [(.array .char)], returnType := none }, accessFlags := 1, code := some k7c1 }
def k7c2 : Code := { maxStack := 2, maxLocals := 3, code := jdk_42_method_84_code, exceptionTable := #[], attributes := #[] }
def k7m2 : Method := { name := "indexOf", desc := "(Ljava/lang/String;)I", sig := { parameters := [(.object "java/lang/String")], returnType := some .int }, accessFlags := 1, code := some k7c2 }
def k7c3 : Code := { maxStack := 2, maxLocals := 2, code := jdk_42_method_97_code, exceptionTable := #[], attributes := #[] }
def k7m3 : Method := { name := "contains", desc := "(Ljava/lang/CharSequence;)Z", sig := { parameters := [(.object "java/lang/CharSequence")], returnType := some .boolean }, accessFlags := 1, code := some k7c3 }
def k7c4 : Code := { maxStack := 1, maxLocals := 1, code := jdk_42_method_126_code, exceptionTable := #[], attributes := #[] }
def k7m4 : Method := { name := "toString", desc := "()Ljava/lang/String;", sig := { parameters := [], returnType := some (.object "java/lang/String") }, accessFlags := 1, code := some k7c4 }
def k7c5 : Code := { maxStack := 4, maxLocals := 6, code := jdk_42_method_149_code, exceptionTable := #[], attributes := #[] }
def k7m5 : Method := { name := "<init>", desc := "([CIILjava/lang/Void;)V", sig := { parameters := [(.array .char), .int, .int, (.object "java/lang/Void")], returnType := none }, accessFlags := 2, code := some k7c5 }
def k7c6 : Code := { maxStack := 1, maxLocals := 1, code := jdk_42_method_152_code, exceptionTable := #[], attributes := #[] }
def k7m6 : Method := { name := "coder", desc := "()B", sig := { parameters := [], returnType := some .byte }, accessFlags := 0, code := some k7c6 }
def k7c7 : Code := { maxStack := 1, maxLocals := 1, code := jdk_42_method_154_code, exceptionTable := #[], attributes := #[] }
def k7m7 : Method := { name := "isLatin1", desc := "()Z", sig := { parameters := [], returnType := some .boolean }, accessFlags := 0, code := some k7c7 }
/-- java/lang/String -/
def k7 : Class := { plain "java/lang/String" (some 0) with
  accessFlags := 49
  interfaces := #[2, 3, 4, 5, 6]
  cf := some (fileOf pool7 10 #[.nestMembers #[1103]] #[{ accessFlags := 1, nameIndex := 5, descriptorIndex := 6, attributes := #[] }, { accessFlags := 1, nameIndex := 5, descriptorIndex := 1010, attributes := #[] }, { accessFlags := 1, nameIndex := 635, descriptorIndex := 713, attributes := #[] }, { accessFlags := 1, nameIndex := 1291, descriptorIndex := 548, attributes := #[] }, { accessFlags := 1, nameIndex := 463, descriptorIndex := 464, attributes := #[] }, { accessFlags := 2, nameIndex := 5, descriptorIndex := 29, attributes := #[] }, { accessFlags := 0, nameIndex := 17, descriptorIndex := 337, attributes := #[] }, { accessFlags := 0, nameIndex := 494, descriptorIndex := 142, attributes := #[] }] 49 2 #[1106, 1108, 575, 1110, 1112] #[{ accessFlags := 18, nameIndex := 13, descriptorIndex := 14, attributes := #[] }, { accessFlags := 18, nameIndex := 17, descriptorIndex := 18, attributes := #[] }, { accessFlags := 2, nameIndex := 21, descriptorIndex := 22, attributes := #[] }, { accessFlags := 2, nameIndex := 25, descriptorIndex := 26, attributes := #[] }, { accessFlags := 26, nameIndex := 1116, descriptorIndex := 1117, attributes := #[] }, { accessFlags := 24, nameIndex := 40, descriptorIndex := 26, attributes := #[] }, { accessFlags := 26, nameIndex := 1101, descriptorIndex := 1102, attributes := #[] }, { accessFlags := 26, nameIndex := 1121, descriptorIndex := 1122, attributes := #[] }, { accessFlags := 25, nameIndex := 599, descriptorIndex := 600, attributes := #[] }, { accessFlags := 24, nameIndex := 1125, descriptorIndex := 18, attributes := #[] }, { accessFlags := 24, nameIndex := 1127, descriptorIndex := 18, attributes := #[] }])
  fields := #[{ name := "value", type := (.array .byte), accessFlags := 18, slot := 0, constantValue := 0 }, { name := "coder", type := .byte, accessFlags := 18, slot := 1, constantValue := 0 }, { name := "hash", type := .int, accessFlags := 2, slot := 2, constantValue := 0 }, { name := "hashIsZero", type := .boolean, accessFlags := 2, slot := 3, constantValue := 0 }, { name := "serialVersionUID", type := .long, accessFlags := 26, slot := 0, constantValue := 0 }, { name := "COMPACT_STRINGS", type := .boolean, accessFlags := 24, slot := 1, constantValue := 0 }, { name := "serialPersistentFields", type := (.array (.object "java/io/ObjectStreamField")), accessFlags := 26, slot := 2, constantValue := 0 }, { name := "REPL", type := .char, accessFlags := 26, slot := 3, constantValue := 0 }, { name := "CASE_INSENSITIVE_ORDER", type := (.object "java/util/Comparator"), accessFlags := 25, slot := 4, constantValue := 0 }, { name := "LATIN1", type := .byte, accessFlags := 24, slot := 5, constantValue := 0 }, { name := "UTF16", type := .byte, accessFlags := 24, slot := 6, constantValue := 0 }]
  methods := #[k7m0, k7m1, k7m2, k7m3, k7m4, k7m5, k7m6, k7m7]
  instanceTypes := #[(.array .byte), .byte, .int, .boolean]
  staticTypes := #[.long, .boolean, (.array (.object "java/io/ObjectStreamField")), .char, (.object "java/util/Comparator"), .byte, .byte]
  resolved := Array.replicate 1451 none
  statics := some 0 }

def pool8 : Array CpInfo := pool [(6, .class_ 8), (1, u "java/lang/Object"), (0, u "<init>"), (0, u "()V"), (1, .class_ 14), (1, u "java/lang/StringUTF16"), (31, u "$assertionsDisabled"), (0, u "Z"), (13, u "HI_BYTE_SHIFT"), (0, u "I"), (2, u "LO_BYTE_SHIFT"), (49, .methodref 12 116), (0, .nameAndType 117 118), (0, u "compress"), (0, u "([CI[BII)I"), (3, u "([CII)[B"), (138, u "coderFromArrayLen"), (0, u "([BI)B"), (106, .class_ 371), (1, u "java/lang/StringUTF16$LinesSpliterator"), (58, u "MAX_LENGTH"), (196, .class_ 628), (0, u "java/lang/StringUTF16$CodePointsSpliterator"), (0, .class_ 630), (0, u "java/lang/StringUTF16$CharsSpliterator")] 4

def k8m0 : Method := { name := "<init>", desc := "()V", sig := { parameters := [], returnType := none }, accessFlags := 0, code := none }
def k8c1 : Code := { maxStack := 2, maxLocals := 2, code := jdk_52_method_15_code, exceptionTable := #[], attributes := #[] }
def k8m1 : Method := { name := "coderFromArrayLen", desc := "([BI)B", sig := { parameters := [(.array .byte), .int], returnType := some .byte }, accessFlags := 8, code := some k8c1 }
def k8c2 : Code := { maxStack := 5, maxLocals := 6, code := jdk_52_method_16_code, exceptionTable := #[], attributes := #[] }
def k8m2 : Method := { name := "compress", desc := "([CII)[B", sig := { parameters := [(.array .char), .int, .int], returnType := some (.array .byte) }, accessFlags := 9, code := some k8c2 }
def k8c3 : Code := { maxStack := 3, maxLocals := 7, code := jdk_52_method_21_code, exceptionTable := #[], attributes := #[] }
def k8m3 : Method := { name := "compress", desc := "([CI[BII)I", sig := { parameters := [(.array .char), .int, (.array .byte), .int, .int], returnType := some .int }, accessFlags := 9, code := some k8c3 }
/-- java/lang/StringUTF16 -/
def k8 : Class := { plain "java/lang/StringUTF16" (some 0) with
  accessFlags := 48
  interfaces := #[]
  cf := some (fileOf pool8 12 #[.nestMembers #[627, 629, 369]] #[{ accessFlags := 0, nameIndex := 9, descriptorIndex := 10, attributes := #[] }, { accessFlags := 8, nameIndex := 261, descriptorIndex := 262, attributes := #[] }, { accessFlags := 9, nameIndex := 117, descriptorIndex := 122, attributes := #[] }, { accessFlags := 9, nameIndex := 117, descriptorIndex := 118, attributes := #[] }] 48 6 #[] #[{ accessFlags := 26, nameIndex := 61, descriptorIndex := 62, attributes := #[] }, { accessFlags := 26, nameIndex := 65, descriptorIndex := 62, attributes := #[] }, { accessFlags := 24, nameIndex := 430, descriptorIndex := 62, attributes := #[] }, { accessFlags := 4120, nameIndex := 46, descriptorIndex := 47, attributes := #[] }])
  fields := #[{ name := "HI_BYTE_SHIFT", type := .int, accessFlags := 26, slot := 0, constantValue := 0 }, { name := "LO_BYTE_SHIFT", type := .int, accessFlags := 26, slot := 1, constantValue := 0 }, { name := "MAX_LENGTH", type := .int, accessFlags := 24, slot := 2, constantValue := 0 }, { name := "$assertionsDisabled", type := .boolean, accessFlags := 4120, slot := 3, constantValue := 0 }]
  methods := #[k8m0, k8m1, k8m2, k8m3]
  instanceTypes := #[]
  staticTypes := #[.int, .int, .int, .boolean]
  resolved := Array.replicate 635 none
  statics := none }

def pool9 : Array CpInfo := pool [(2, .class_ 4), (1, u "java/lang/Object"), (0, u "<init>"), (0, u "()V"), (13, .class_ 22), (1, u "java/lang/String"), (26, .string 50), (0, u "keep-alive"), (0, .methodref 20 52), (0, .nameAndType 53 54), (0, u "contains"), (0, u "(Ljava/lang/CharSequence;)Z"), (0, .string 56), (0, u "close"), (17, .class_ 75), (0, u "com/example/tolk/tolk/query/Http1"), (7, u "keepsAlive"), (0, u "(ZLjava/lang/String;)Z"), (4, .class_ 90), (0, u "com/example/tolk/tolk/query/Http1$Field")] 2

def k9m0 : Method := { name := "<init>", desc := "()V", sig := { parameters := [], returnType := none }, accessFlags := 2, code := none }
def k9c1 : Code := { maxStack := 2, maxLocals := 2, code := prog_14_method_4_code, exceptionTable := #[], attributes := #[] }
def k9m1 : Method := { name := "keepsAlive", desc := "(ZLjava/lang/String;)Z", sig := { parameters := [.boolean, (.object "java/lang/String")], returnType := some .boolean }, accessFlags := 9, code := some k9c1 }
/-- com/example/tolk/tolk/query/Http1 -/
def k9 : Class := { plain "com/example/tolk/tolk/query/Http1" (some 0) with
  accessFlags := 49
  interfaces := #[]
  cf := some (fileOf pool9 74 #[.nestMembers #[89]] #[{ accessFlags := 2, nameIndex := 5, descriptorIndex := 6, attributes := #[] }, { accessFlags := 9, nameIndex := 83, descriptorIndex := 84, attributes := #[] }] 49 2 #[] #[])
  fields := #[]
  methods := #[k9m0, k9m1]
  instanceTypes := #[]
  staticTypes := #[]
  resolved := Array.replicate 93 none
  statics := none }

def pool10 : Array CpInfo := pool [(4, .class_ 6), (1, u "java/lang/Object"), (0, u "<init>"), (0, u "()V"), (5, .class_ 16), (1, u "java/lang/StringLatin1"), (82, .methodref 14 100), (0, .nameAndType 101 102), (0, u "indexOf"), (0, u "([BI[BII)I"), (18, u "$assertionsDisabled"), (0, u "Z"), (98, .class_ 223), (1, u "java/lang/StringLatin1$LinesSpliterator"), (63, u "([B[B)I"), (102, .class_ 391), (0, u "java/lang/StringLatin1$CharsSpliterator")] 3

def k10m0 : Method := { name := "<init>", desc := "()V", sig := { parameters := [], returnType := none }, accessFlags := 0, code := none }
def k10c1 : Code := { maxStack := 5, maxLocals := 2, code := jdk_43_method_24_code, exceptionTable := #[], attributes := #[] }
def k10m1 : Method := { name := "indexOf", desc := "([B[B)I", sig := { parameters := [(.array .byte), (.array .byte)], returnType := some .int }, accessFlags := 9, code := some k10c1 }
def k10c2 : Code := { maxStack := 3, maxLocals := 11, code := jdk_43_method_25_code, exceptionTable := #[], attributes := #[] }
def k10m2 : Method := { name := "indexOf", desc := "([BI[BII)I", sig := { parameters := [(.array .byte), .int, (.array .byte), .int, .int], returnType := some .int }, accessFlags := 9, code := some k10c2 }
/-- java/lang/StringLatin1 -/
def k10 : Class := { plain "java/lang/StringLatin1" (some 0) with
  accessFlags := 48
  interfaces := #[]
  cf := some (fileOf pool10 14 #[.nestMembers #[390, 221]] #[{ accessFlags := 0, nameIndex := 7, descriptorIndex := 8, attributes := #[] }, { accessFlags := 9, nameIndex := 101, descriptorIndex := 287, attributes := #[] }, { accessFlags := 9, nameIndex := 101, descriptorIndex := 102, attributes := #[] }] 48 4 #[] #[{ accessFlags := 4120, nameIndex := 121, descriptorIndex := 122, attributes := #[] }])
  fields := #[{ name := "$assertionsDisabled", type := .boolean, accessFlags := 4120, slot := 0, constantValue := 0 }]
  methods := #[k10m0, k10m1, k10m2]
  instanceTypes := #[]
  staticTypes := #[.boolean]
  resolved := Array.replicate 395 none
  statics := none }

def pool11 : Array CpInfo := pool [(2, .class_ 4), (1, u "java/lang/Object"), (0, u "<init>"), (0, u "()V"), (17, .class_ 26), (1, u "jdk/internal/util/Preconditions"), (28, .class_ 56), (0, u "jdk/internal/util/Preconditions$4"), (57, .class_ 115), (0, u "jdk/internal/util/Preconditions$1"), (7, u "SIOOBE_FORMATTER"), (0, u "Ljava/util/function/BiFunction;"), (0, .class_ 126), (0, u "jdk/internal/util/Preconditions$2"), (3, u "AIOOBE_FORMATTER"), (0, .class_ 132), (0, u "jdk/internal/util/Preconditions$3"), (3, u "IOOBE_FORMATTER")] 57

def k11m0 : Method := { name := "<init>", desc := "()V", sig := { parameters := [], returnType := none }, accessFlags := 1, code := none }
/-- jdk/internal/util/Preconditions -/
def k11 : Class := { plain "jdk/internal/util/Preconditions" (some 0) with
  accessFlags := 33
  interfaces := #[]
  cf := some (fileOf pool11 24 #[.nestMembers #[55, 131, 125, 114]] #[{ accessFlags := 1, nameIndex := 5, descriptorIndex := 6, attributes := #[] }] 33 2 #[] #[{ accessFlags := 25, nameIndex := 123, descriptorIndex := 124, attributes := #[] }, { accessFlags := 25, nameIndex := 130, descriptorIndex := 124, attributes := #[] }, { accessFlags := 25, nameIndex := 136, descriptorIndex := 124, attributes := #[] }])
  fields := #[{ name := "SIOOBE_FORMATTER", type := (.object "java/util/function/BiFunction"), accessFlags := 25, slot := 0, constantValue := 0 }, { name := "AIOOBE_FORMATTER", type := (.object "java/util/function/BiFunction"), accessFlags := 25, slot := 1, constantValue := 0 }, { name := "IOOBE_FORMATTER", type := (.object "java/util/function/BiFunction"), accessFlags := 25, slot := 2, constantValue := 0 }]
  methods := #[k11m0]
  instanceTypes := #[]
  staticTypes := #[(.object "java/util/function/BiFunction"), (.object "java/util/function/BiFunction"), (.object "java/util/function/BiFunction")]
  resolved := Array.replicate 194 none
  statics := some 1 }

def pool12 : Array CpInfo := pool [(9, u "<init>"), (6, .class_ 18), (1, u "java/lang/Object"), (0, u "()V"), (1, .class_ 23), (1, u "jdk/internal/util/ArraysSupport"), (0, u "LOG2_ARRAY_LONG_INDEX_SCALE"), (0, u "I"), (2, u "U"), (0, u "Ljdk/internal/misc/Unsafe;"), (8, u "BIG_ENDIAN"), (0, u "Z"), (8, u "LOG2_BYTE_BIT_SIZE"), (4, u "LOG2_ARRAY_INT_INDEX_SCALE"), (54, u "JLA"), (0, u "Ljdk/internal/access/JavaLangAccess;"), (11, u "LOG2_ARRAY_BOOLEAN_INDEX_SCALE"), (9, u "LOG2_ARRAY_BYTE_INDEX_SCALE"), (5, u "LOG2_ARRAY_CHAR_INDEX_SCALE"), (5, u "LOG2_ARRAY_SHORT_INDEX_SCALE"), (18, u "LOG2_ARRAY_FLOAT_INDEX_SCALE"), (24, u "LOG2_ARRAY_DOUBLE_INDEX_SCALE"), (89, u "T_BOOLEAN"), (2, u "T_CHAR"), (1, u "T_FLOAT"), (1, u "T_DOUBLE"), (1, u "T_BYTE"), (1, u "T_SHORT"), (1, u "T_INT"), (1, u "T_LONG"), (1, u "SOFT_MAX_ARRAY_LENGTH")] 83

def k12m0 : Method := { name := "<init>", desc := "()V", sig := { parameters := [], returnType := none }, accessFlags := 2, code := none }
/-- jdk/internal/util/ArraysSupport -/
def k12 : Class := { plain "jdk/internal/util/ArraysSupport" (some 0) with
  accessFlags := 33
  interfaces := #[]
  cf := some (fileOf pool12 21 #[] #[{ accessFlags := 2, nameIndex := 9, descriptorIndex := 19, attributes := #[] }] 33 16 #[] #[{ accessFlags := 24, nameIndex := 28, descriptorIndex := 29, attributes := #[] }, { accessFlags := 26, nameIndex := 38, descriptorIndex := 39, attributes := #[] }, { accessFlags := 25, nameIndex := 121, descriptorIndex := 25, attributes := #[] }, { accessFlags := 25, nameIndex := 131, descriptorIndex := 25, attributes := #[] }, { accessFlags := 25, nameIndex := 137, descriptorIndex := 25, attributes := #[] }, { accessFlags := 25, nameIndex := 143, descriptorIndex := 25, attributes := #[] }, { accessFlags := 25, nameIndex := 53, descriptorIndex := 25, attributes := #[] }, { accessFlags := 25, nameIndex := 24, descriptorIndex := 25, attributes := #[] }, { accessFlags := 25, nameIndex := 162, descriptorIndex := 25, attributes := #[] }, { accessFlags := 25, nameIndex := 187, descriptorIndex := 25, attributes := #[] }, { accessFlags := 26, nameIndex := 48, descriptorIndex := 25, attributes := #[] }, { accessFlags := 25, nameIndex := 277, descriptorIndex := 25, attributes := #[] }, { accessFlags := 25, nameIndex := 280, descriptorIndex := 25, attributes := #[] }, { accessFlags := 25, nameIndex := 282, descriptorIndex := 25, attributes := #[] }, { accessFlags := 25, nameIndex := 284, descriptorIndex := 25, attributes := #[] }, { accessFlags := 25, nameIndex := 286, descriptorIndex := 25, attributes := #[] }, { accessFlags := 25, nameIndex := 288, descriptorIndex := 25, attributes := #[] }, { accessFlags := 25, nameIndex := 290, descriptorIndex := 25, attributes := #[] }, { accessFlags := 25, nameIndex := 292, descriptorIndex := 25, attributes := #[] }, { accessFlags := 26, nameIndex := 108, descriptorIndex := 109, attributes := #[] }, { accessFlags := 25, nameIndex := 294, descriptorIndex := 25, attributes := #[] }])
  fields := #[{ name := "U", type := (.object "jdk/internal/misc/Unsafe"), accessFlags := 24, slot := 0, constantValue := 0 }, { name := "BIG_ENDIAN", type := .boolean, accessFlags := 26, slot := 1, constantValue := 0 }, { name := "LOG2_ARRAY_BOOLEAN_INDEX_SCALE", type := .int, accessFlags := 25, slot := 2, constantValue := 0 }, { name := "LOG2_ARRAY_BYTE_INDEX_SCALE", type := .int, accessFlags := 25, slot := 3, constantValue := 0 }, { name := "LOG2_ARRAY_CHAR_INDEX_SCALE", type := .int, accessFlags := 25, slot := 4, constantValue := 0 }, { name := "LOG2_ARRAY_SHORT_INDEX_SCALE", type := .int, accessFlags := 25, slot := 5, constantValue := 0 }, { name := "LOG2_ARRAY_INT_INDEX_SCALE", type := .int, accessFlags := 25, slot := 6, constantValue := 0 }, { name := "LOG2_ARRAY_LONG_INDEX_SCALE", type := .int, accessFlags := 25, slot := 7, constantValue := 0 }, { name := "LOG2_ARRAY_FLOAT_INDEX_SCALE", type := .int, accessFlags := 25, slot := 8, constantValue := 0 }, { name := "LOG2_ARRAY_DOUBLE_INDEX_SCALE", type := .int, accessFlags := 25, slot := 9, constantValue := 0 }, { name := "LOG2_BYTE_BIT_SIZE", type := .int, accessFlags := 26, slot := 10, constantValue := 0 }, { name := "T_BOOLEAN", type := .int, accessFlags := 25, slot := 11, constantValue := 0 }, { name := "T_CHAR", type := .int, accessFlags := 25, slot := 12, constantValue := 0 }, { name := "T_FLOAT", type := .int, accessFlags := 25, slot := 13, constantValue := 0 }, { name := "T_DOUBLE", type := .int, accessFlags := 25, slot := 14, constantValue := 0 }, { name := "T_BYTE", type := .int, accessFlags := 25, slot := 15, constantValue := 0 }, { name := "T_SHORT", type := .int, accessFlags := 25, slot := 16, constantValue := 0 }, { name := "T_INT", type := .int, accessFlags := 25, slot := 17, constantValue := 0 }, { name := "T_LONG", type := .int, accessFlags := 25, slot := 18, constantValue := 0 }, { name := "JLA", type := (.object "jdk/internal/access/JavaLangAccess"), accessFlags := 26, slot := 19, constantValue := 0 }, { name := "SOFT_MAX_ARRAY_LENGTH", type := .int, accessFlags := 25, slot := 20, constantValue := 0 }]
  methods := #[k12m0]
  instanceTypes := #[]
  staticTypes := #[(.object "jdk/internal/misc/Unsafe"), .boolean, .int, .int, .int, .int, .int, .int, .int, .int, .int, .int, .int, .int, .int, .int, .int, .int, .int, (.object "jdk/internal/access/JavaLangAccess"), .int]
  resolved := Array.replicate 378 none
  statics := none }

def pool13 : Array CpInfo := pool [(1, u "java/lang/Cloneable"), (0, .class_ 1), (0, u "java/lang/Object"), (0, .class_ 3)] 3

/-- java/lang/Cloneable -/
def k13 : Class := { plain "java/lang/Cloneable" (some 0) with
  accessFlags := 1537
  interfaces := #[]
  cf := some (fileOf pool13 2 #[] #[] 1537 4 #[] #[])
  fields := #[]
  methods := #[]
  instanceTypes := #[]
  staticTypes := #[]
  resolved := Array.replicate 8 none
  statics := none }

/-- the primitive byte -/
def k14 : Class := { plain "byte" none with kind := .primitive 'B', accessFlags := 0x411 }
/-- [B -/
def k15 : Class := { plain "[B" (some 0) with kind := .array 14 .byte, interfaces := #[13, 2], accessFlags := 1041 }

/-- the primitive char -/
def k16 : Class := { plain "char" none with kind := .primitive 'C', accessFlags := 0x411 }
/-- [C -/
def k17 : Class := { plain "[C" (some 0) with kind := .array 16 .char, interfaces := #[13, 2], accessFlags := 1041 }

/-- the primitive int -/
def k18 : Class := { plain "int" none with kind := .primitive 'I', accessFlags := 0x411 }
/-- [I -/
def k19 : Class := { plain "[I" (some 0) with kind := .array 18 .int, interfaces := #[13, 2], accessFlags := 1041 }

def heap : Heap := #[{ cls := 7, slots := #[.long 0, .int 1, .null, .int 0, .null, .int 0, .int 0], vm := .statics 7 },
  { cls := 11, slots := #[.null, .null, .null], vm := .statics 11 }]
def classes : Array Class := #[k0, k1, k2, k3, k4, k5, k6, k7, k8, k9, k10, k11, k12, k13, k14, k15, k16, k17, k18, k19]
def interned : List (Array UInt16 × Addr) := []
def slotsUsed : Nat := 10
def theMethod : MethodId := ⟨1, 2⟩
def args0 : Array Value := #[.int 1, .int 2, .int 3, .int 4]
def aboutOver (below : List Frame) : State where
  vm := { classes := classes, interned := interned.toArray }
  heap := heap
  slotsUsed := slotsUsed
  threads := #[{ frames := .invoking theMethod args0 :: below }]
def below0 : List Frame := [.native { method := ⟨0, 0⟩, args := #[] }]
def about1 : State := aboutOver below0
def p0 : Program := .bare "" "" ""
def e0 : Env := launch0.env 0 0 0
theorem w_frames : about1.frames = Frame.invoking theMethod args0 :: below0 := rfl
set_option maxRecDepth 65536 in
theorem w_args : argsFit about1.vm theMethod args0 = true := by decide +kernel
set_option maxRecDepth 65536 in
theorem w_heap : heapFits about1 = true := by decide +kernel
set_option maxRecDepth 65536 in
theorem w_runnable : about1.curStatus? = some .runnable := by decide +kernel
set_option maxRecDepth 65536 in
theorem w_alone : about1.alone = true := by decide +kernel
set_option maxRecDepth 65536 in
theorem w_named : about1.methodNamed? x = some theMethod := by decide +kernel
set_option maxRecDepth 65536 in
theorem w_hears : about1.hears theMethod below0 = true := by decide +kernel
set_option maxRecDepth 65536 in
theorem w_ripe : about1.ripe theMethod args0 below0 = true := by decide +kernel
theorem w_running : about1.status = .running := rfl
set_option maxRecDepth 65536 in
theorem w_room : about1.hasRoom e0.platform room_1 = true :=
  launch0.hasRoom_least _ room_1 (by decide +kernel) (by decide +kernel) (by decide +kernel) (by decide +kernel) (by decide +kernel) (by decide +kernel)
theorem allAtoms_all (ts : List Jvm.Cond) (a : Array Jvm.Value) (st : Jvm.State) : (allAtoms ts).before a st = ts.all (fun c => c.before a st) := by
  induction ts with
  | nil => rfl
  | cons c t ih =>
    show (Jvm.Cond.and c (allAtoms t)).before a st = _
    rw [Jvm.Cond.before_and, ih, List.all_cons]
def words1 : List Jvm.Cond := Jvm.Cond.code x code maxLocals ret :: tables_1
/-- a 'code' word, met by the world's own term for the bytes: nothing is compared byte by byte -/
theorem code_word {y : MethodName} {bytes : ByteArray} {mx : Nat} {rt : Option FieldType} {a : Array Value} {s : State} {m : MethodId} {meth : Method} {c : Code} (h1 : s.methodNamed? y = some m) (h2 : s.vm.method? m = some meth) (h3 : meth.code = some c) (h4 : c.code = bytes)
    (h5 : (c.maxLocals == mx && c.exceptionTable.isEmpty && decide (c.maxStack ≤ mostOperands) && decide (meth.sig.returnType = rt) && !meth.locks && decide (parseMethodDescriptor y.desc = some meth.sig)) = true) : (Jvm.Cond.code y bytes mx rt).before a s = true := by
  simp only [Bool.and_eq_true, beq_iff_eq, Bool.not_eq_true', decide_eq_true_eq] at h5
  obtain ⟨⟨⟨⟨⟨g1, g2⟩, g3⟩, g4⟩, g5⟩, g6⟩ := h5
  simp [Cond.before, Cond.holds, Cond.value, h1, h2, h3, h4, g1, g2, g3, g4, g5, g6]
def isCode : Jvm.Cond → Bool
  | .code _ _ _ _ => true
  | _ => false
theorem all_split {L : List Jvm.Cond} {P : Jvm.Cond → Bool} (h1 : L.all (fun c => isCode c || P c) = true) (h2 : ∀ c ∈ L.filter isCode, P c = true) : L.all P = true := by
  refine List.all_eq_true.mpr fun c hc => ?_
  have h := List.all_eq_true.mp h1 c hc
  rcases Bool.eq_false_or_eq_true (isCode c) with hi | hi
  · exact h2 c (List.mem_filter.mpr ⟨hc, hi⟩)
  · simpa [hi] using h
set_option maxRecDepth 65536 in
theorem w_c0 : (Jvm.Cond.code x code maxLocals ret).before args0 about1 = true := code_word (m := ⟨1, 2⟩) (meth := k1m2) (c := k1c2) (by decide +kernel) rfl rfl rfl (by decide +kernel)
set_option maxRecDepth 65536 in
theorem w_c1 : (Jvm.Cond.code ({ cls := "com/example/tolk/tolk/query/Http1KeepsAlivePinLaw", name := "lower", desc := "(I)C" } : Jvm.MethodName) method_2_code (2 : Nat) (Option.some Jvm.ClassFile.FieldType.char)).before args0 about1 = true := code_word (m := ⟨1, 1⟩) (meth := k1m1) (c := k1c1) (by decide +kernel) rfl rfl rfl (by decide +kernel)
set_option maxRecDepth 65536 in
theorem w_c2 : (Jvm.Cond.code ({ cls := "java/lang/String", name := "<init>", desc := "([C)V" } : Jvm.MethodName) jdk_42_method_3_code (2 : Nat) (Option.none : Option Jvm.ClassFile.FieldType)).before args0 about1 = true := code_word (m := ⟨7, 1⟩) (meth := k7m1) (c := k7c1) (by decide +kernel) rfl rfl rfl (by decide +kernel)
set_option maxRecDepth 65536 in
theorem w_c3 : (Jvm.Cond.code ({ cls := "java/lang/String", name := "<init>", desc := "([CIILjava/lang/Void;)V" } : Jvm.MethodName) jdk_42_method_149_code (6 : Nat) (Option.none : Option Jvm.ClassFile.FieldType)).before args0 about1 = true := code_word (m := ⟨7, 5⟩) (meth := k7m5) (c := k7c5) (by decide +kernel) rfl rfl rfl (by decide +kernel)
set_option maxRecDepth 65536 in
theorem w_c4 : (Jvm.Cond.code ({ cls := "java/lang/Object", name := "<init>", desc := "()V" } : Jvm.MethodName) object_method_1_code (1 : Nat) (Option.none : Option Jvm.ClassFile.FieldType)).before args0 about1 = true := code_word (m := ⟨0, 0⟩) (meth := k0m0) (c := k0c0) (by decide +kernel) rfl rfl rfl (by decide +kernel)
set_option maxRecDepth 65536 in
theorem w_c5 : (Jvm.Cond.code ({ cls := "java/lang/StringUTF16", name := "compress", desc := "([CII)[B" } : Jvm.MethodName) jdk_52_method_16_code (6 : Nat) (Option.some (Jvm.ClassFile.FieldType.array Jvm.ClassFile.FieldType.byte))).before args0 about1 = true := code_word (m := ⟨8, 2⟩) (meth := k8m2) (c := k8c2) (by decide +kernel) rfl rfl rfl (by decide +kernel)
set_option maxRecDepth 65536 in
theorem w_c6 : (Jvm.Cond.code ({ cls := "java/lang/StringUTF16", name := "compress", desc := "([CI[BII)I" } : Jvm.MethodName) jdk_52_method_21_code (7 : Nat) (Option.some Jvm.ClassFile.FieldType.int)).before args0 about1 = true := code_word (m := ⟨8, 3⟩) (meth := k8m3) (c := k8c3) (by decide +kernel) rfl rfl rfl (by decide +kernel)
set_option maxRecDepth 65536 in
theorem w_c7 : (Jvm.Cond.code ({ cls := "java/lang/StringUTF16", name := "coderFromArrayLen", desc := "([BI)B" } : Jvm.MethodName) jdk_52_method_15_code (2 : Nat) (Option.some Jvm.ClassFile.FieldType.byte)).before args0 about1 = true := code_word (m := ⟨8, 1⟩) (meth := k8m1) (c := k8c1) (by decide +kernel) rfl rfl rfl (by decide +kernel)
set_option maxRecDepth 65536 in
theorem w_c8 : (Jvm.Cond.code ({ cls := "com/example/tolk/tolk/query/Http1", name := "keepsAlive", desc := "(ZLjava/lang/String;)Z" } : Jvm.MethodName) prog_14_method_4_code (2 : Nat) (Option.some Jvm.ClassFile.FieldType.boolean)).before args0 about1 = true := code_word (m := ⟨9, 1⟩) (meth := k9m1) (c := k9c1) (by decide +kernel) rfl rfl rfl (by decide +kernel)
set_option maxRecDepth 65536 in
theorem w_c9 : (Jvm.Cond.code ({ cls := "java/lang/String", name := "contains", desc := "(Ljava/lang/CharSequence;)Z" } : Jvm.MethodName) jdk_42_method_97_code (2 : Nat) (Option.some Jvm.ClassFile.FieldType.boolean)).before args0 about1 = true := code_word (m := ⟨7, 3⟩) (meth := k7m3) (c := k7c3) (by decide +kernel) rfl rfl rfl (by decide +kernel)
set_option maxRecDepth 65536 in
theorem w_c10 : (Jvm.Cond.code ({ cls := "java/lang/String", name := "toString", desc := "()Ljava/lang/String;" } : Jvm.MethodName) jdk_42_method_126_code (1 : Nat) (Option.some (Jvm.ClassFile.FieldType.object "java/lang/String"))).before args0 about1 = true := code_word (m := ⟨7, 4⟩) (meth := k7m4) (c := k7c4) (by decide +kernel) rfl rfl rfl (by decide +kernel)
set_option maxRecDepth 65536 in
theorem w_c11 : (Jvm.Cond.code ({ cls := "java/lang/String", name := "indexOf", desc := "(Ljava/lang/String;)I" } : Jvm.MethodName) jdk_42_method_84_code (3 : Nat) (Option.some Jvm.ClassFile.FieldType.int)).before args0 about1 = true := code_word (m := ⟨7, 2⟩) (meth := k7m2) (c := k7c2) (by decide +kernel) rfl rfl rfl (by decide +kernel)
set_option maxRecDepth 65536 in
theorem w_c12 : (Jvm.Cond.code ({ cls := "java/lang/String", name := "coder", desc := "()B" } : Jvm.MethodName) jdk_42_method_152_code (1 : Nat) (Option.some Jvm.ClassFile.FieldType.byte)).before args0 about1 = true := code_word (m := ⟨7, 6⟩) (meth := k7m6) (c := k7c6) (by decide +kernel) rfl rfl rfl (by decide +kernel)
set_option maxRecDepth 65536 in
theorem w_c13 : (Jvm.Cond.code ({ cls := "java/lang/String", name := "isLatin1", desc := "()Z" } : Jvm.MethodName) jdk_42_method_154_code (1 : Nat) (Option.some Jvm.ClassFile.FieldType.boolean)).before args0 about1 = true := code_word (m := ⟨7, 7⟩) (meth := k7m7) (c := k7c7) (by decide +kernel) rfl rfl rfl (by decide +kernel)
set_option maxRecDepth 65536 in
theorem w_c14 : (Jvm.Cond.code ({ cls := "java/lang/StringLatin1", name := "indexOf", desc := "([B[B)I" } : Jvm.MethodName) jdk_43_method_24_code (2 : Nat) (Option.some Jvm.ClassFile.FieldType.int)).before args0 about1 = true := code_word (m := ⟨10, 1⟩) (meth := k10m1) (c := k10c1) (by decide +kernel) rfl rfl rfl (by decide +kernel)
set_option maxRecDepth 65536 in
theorem w_c15 : (Jvm.Cond.code ({ cls := "java/lang/StringLatin1", name := "indexOf", desc := "([BI[BII)I" } : Jvm.MethodName) jdk_43_method_25_code (11 : Nat) (Option.some Jvm.ClassFile.FieldType.int)).before args0 about1 = true := code_word (m := ⟨10, 2⟩) (meth := k10m2) (c := k10c2) (by decide +kernel) rfl rfl rfl (by decide +kernel)
def codes1 : List Jvm.Cond := [Jvm.Cond.code x code maxLocals ret, Jvm.Cond.code ({ cls := "com/example/tolk/tolk/query/Http1KeepsAlivePinLaw", name := "lower", desc := "(I)C" } : Jvm.MethodName) method_2_code (2 : Nat) (Option.some Jvm.ClassFile.FieldType.char), Jvm.Cond.code ({ cls := "java/lang/String", name := "<init>", desc := "([C)V" } : Jvm.MethodName) jdk_42_method_3_code (2 : Nat) (Option.none : Option Jvm.ClassFile.FieldType), Jvm.Cond.code ({ cls := "java/lang/String", name := "<init>", desc := "([CIILjava/lang/Void;)V" } : Jvm.MethodName) jdk_42_method_149_code (6 : Nat) (Option.none : Option Jvm.ClassFile.FieldType), Jvm.Cond.code ({ cls := "java/lang/Object", name := "<init>", desc := "()V" } : Jvm.MethodName) object_method_1_code (1 : Nat) (Option.none : Option Jvm.ClassFile.FieldType), Jvm.Cond.code ({ cls := "java/lang/StringUTF16", name := "compress", desc := "([CII)[B" } : Jvm.MethodName) jdk_52_method_16_code (6 : Nat) (Option.some (Jvm.ClassFile.FieldType.array Jvm.ClassFile.FieldType.byte)), Jvm.Cond.code ({ cls := "java/lang/StringUTF16", name := "compress", desc := "([CI[BII)I" } : Jvm.MethodName) jdk_52_method_21_code (7 : Nat) (Option.some Jvm.ClassFile.FieldType.int), Jvm.Cond.code ({ cls := "java/lang/StringUTF16", name := "coderFromArrayLen", desc := "([BI)B" } : Jvm.MethodName) jdk_52_method_15_code (2 : Nat) (Option.some Jvm.ClassFile.FieldType.byte), Jvm.Cond.code ({ cls := "com/example/tolk/tolk/query/Http1", name := "keepsAlive", desc := "(ZLjava/lang/String;)Z" } : Jvm.MethodName) prog_14_method_4_code (2 : Nat) (Option.some Jvm.ClassFile.FieldType.boolean), Jvm.Cond.code ({ cls := "java/lang/String", name := "contains", desc := "(Ljava/lang/CharSequence;)Z" } : Jvm.MethodName) jdk_42_method_97_code (2 : Nat) (Option.some Jvm.ClassFile.FieldType.boolean), Jvm.Cond.code ({ cls := "java/lang/String", name := "toString", desc := "()Ljava/lang/String;" } : Jvm.MethodName) jdk_42_method_126_code (1 : Nat) (Option.some (Jvm.ClassFile.FieldType.object "java/lang/String")), Jvm.Cond.code ({ cls := "java/lang/String", name := "indexOf", desc := "(Ljava/lang/String;)I" } : Jvm.MethodName) jdk_42_method_84_code (3 : Nat) (Option.some Jvm.ClassFile.FieldType.int), Jvm.Cond.code ({ cls := "java/lang/String", name := "coder", desc := "()B" } : Jvm.MethodName) jdk_42_method_152_code (1 : Nat) (Option.some Jvm.ClassFile.FieldType.byte), Jvm.Cond.code ({ cls := "java/lang/String", name := "isLatin1", desc := "()Z" } : Jvm.MethodName) jdk_42_method_154_code (1 : Nat) (Option.some Jvm.ClassFile.FieldType.boolean), Jvm.Cond.code ({ cls := "java/lang/StringLatin1", name := "indexOf", desc := "([B[B)I" } : Jvm.MethodName) jdk_43_method_24_code (2 : Nat) (Option.some Jvm.ClassFile.FieldType.int), Jvm.Cond.code ({ cls := "java/lang/StringLatin1", name := "indexOf", desc := "([BI[BII)I" } : Jvm.MethodName) jdk_43_method_25_code (11 : Nat) (Option.some Jvm.ClassFile.FieldType.int)]
set_option maxRecDepth 65536 in
theorem codes_eq : words1.filter isCode = codes1 := rfl
theorem w_codes : ∀ c ∈ words1.filter isCode, c.before args0 about1 = true := by
  rw [codes_eq]
  intro c hc
  simp only [codes1, List.mem_cons, List.not_mem_nil, or_false] at hc
  rcases hc with rfl | rfl | rfl | rfl | rfl | rfl | rfl | rfl | rfl | rfl | rfl | rfl | rfl | rfl | rfl | rfl
  · exact w_c0
  · exact w_c1
  · exact w_c2
  · exact w_c3
  · exact w_c4
  · exact w_c5
  · exact w_c6
  · exact w_c7
  · exact w_c8
  · exact w_c9
  · exact w_c10
  · exact w_c11
  · exact w_c12
  · exact w_c13
  · exact w_c14
  · exact w_c15
set_option maxRecDepth 65536 in
theorem w_t1 : (words1.take 24).all (fun c => isCode c || c.before args0 about1) = true := by decide +kernel
set_option maxRecDepth 65536 in
theorem w_t2 : ((words1.drop 24).take 24).all (fun c => isCode c || c.before args0 about1) = true := by decide +kernel
set_option maxRecDepth 65536 in
theorem w_t3 : (((words1.drop 24).drop 24).take 24).all (fun c => isCode c || c.before args0 about1) = true := by decide +kernel
set_option maxRecDepth 65536 in
theorem w_t4 : (((words1.drop 24).drop 24).drop 24).all (fun c => isCode c || c.before args0 about1) = true := by decide +kernel
theorem w_tables : (allAtoms (Jvm.Cond.code x code maxLocals ret :: tables_1)).before args0 about1 = true := by
  rw [allAtoms_all]
  show words1.all (fun c => c.before args0 about1) = true
  refine all_split ?_ w_codes
  rw [← List.take_append_drop 24 words1, List.all_append, w_t1, ← List.take_append_drop 24 (words1.drop 24), List.all_append, w_t2, ← List.take_append_drop 24 ((words1.drop 24).drop 24), List.all_append, w_t3, w_t4]
  rfl
set_option maxRecDepth 65536 in
theorem w_rest : rest_1_c.before args0 about1 = true := by decide +kernel
set_option maxRecDepth 65536 in
theorem w_case : (Jvm.Cond.and given_1 narrow_1).before args0 about1 = true := by decide +kernel
set_option maxRecDepth 65536 in
theorem w_consts : constsHeld consts_1 about1 := Jvm.Lit.constsHeldB_iff.mp (by decide +kernel)
theorem w_applies : (headSpec (Jvm.Cond.code x code maxLocals ret :: tables_1) room_1).applies x e0.platform about1 = true :=
  (Spec.applies_iff w_frames).mpr ⟨w_running, w_runnable, w_alone, w_named, w_hears, w_ripe, w_room, w_tables⟩
theorem atStart : AtStart classFile x code maxLocals ret World_1 tables_1 room_1 Calls_1 rest_1 Pre_1 launch0 p0 e0 about1 theMethod args0 below0 :=
  ⟨lists_1, trivial, launch0.admits_env _ _ _, launch0.least_env, fairChoices_fair.cas, fairChoices_fair.clock, w_frames, w_args, w_heap, w_applies, ⟨w_consts, trivial⟩, w_rest, w_case⟩
end start1
theorem witness_1 : WitnessClaimed_1 := ⟨start1.p0, start1.e0, start1.about1, start1.theMethod, start1.args0, start1.below0, start1.atStart⟩
end Jvm.Pilot.@@N@@
