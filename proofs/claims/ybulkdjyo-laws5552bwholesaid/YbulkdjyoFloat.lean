/-
  SHARED LAWS OF THIS SEAT (1): float64 on words: reading, writing and scaling by powers of two, with no Go in sight.
-/
import Derived.Laws.FloatArith
namespace Go.Proofs.Ybulkdjyo
open Ieee
set_option linter.unusedVariables false

abbrev H : Nat := 4503599627370496
theorem H_eq : H = 2 ^ 52 := by decide
theorem sw : double.signWeight = 9223372036854775808 := by decide
theorem bi : double.binade = H := by decide
theorem inf_ : double.infRung = 2047 * H := by decide
theorem lp : double.leastPlace = -1074 := by decide
theorem fb : double.fractionBits = 52 := rfl

theorem read_norm {E r : Nat} (hr : r < H) (h1 : 1 ≤ E) (h2 : E < 2047) : double.read (E * H + r) = .number false (H + r) ((E : Int) - 1075) := by
  unfold Format.read
  rw [sw, bi, inf_, lp]
  have e1 : (E * H + r) / 9223372036854775808 = 0 := Nat.div_eq_of_lt (by unfold H at *; omega)
  have e2 : (E * H + r) % 9223372036854775808 = E * H + r := Nat.mod_eq_of_lt (by unfold H at *; omega)
  have e3 : (E * H + r) % H = r := by unfold H at *; omega
  have e4 : (E * H + r) / H = E := by unfold H at *; omega
  simp only [e1, e2, e3, e4]
  rw [if_neg (by unfold H at *; omega), if_pos (by unfold H at *; omega)]
  have : (-1074 : Int) + ((E - 1 : Nat) : Int) = (E : Int) - 1075 := by omega
  rw [this]
  rfl

theorem log2_of {n k : Nat} (h1 : 2 ^ k ≤ n) (h2 : n < 2 ^ (k + 1)) : n.log2 = k := by
  have h0 : n ≠ 0 := by have := Nat.two_pow_pos k; omega
  exact (Nat.log2_eq_iff h0).2 ⟨h1, h2⟩

theorem log2_scaled {k d : Nat} (h1 : H ≤ k) (h2 : k < 2 * H) : (k * 2 ^ d).log2 = 52 + d := by
  apply log2_of
  · rw [Nat.pow_add]
    exact Nat.mul_le_mul_right _ (by rw [← H_eq]; exact h1)
  · rw [show 52 + d + 1 = 53 + d from by omega, Nat.pow_add]
    exact Nat.mul_lt_mul_of_pos_right (by unfold H at h2; omega) (Nat.two_pow_pos _)

theorem cut_exact (way : Toward) (k d : Nat) (hw : way = .even ∨ way = .zero) (h1 : H ≤ k) (h2 : k < 2 * H) : way.cut false (k * 2 ^ d) d = k := by
  unfold Toward.cut
  rw [log2_scaled h1 h2, Nat.min_eq_left (by omega), Nat.one_shiftLeft]
  have e1 : k * 2 ^ d / 2 ^ d = k := Nat.mul_div_cancel _ (Nat.two_pow_pos _)
  have e2 : k * 2 ^ d % 2 ^ d = 0 := Nat.mul_mod_left _ _
  simp only [e1, e2]
  have := Nat.two_pow_pos d
  rcases hw with rfl | rfl
  · simp
  · simp

theorem nearest_exact (k d : Nat) (p : Int) (h1 : H ≤ k) (h2 : k < 2 * H) (hp : -1074 ≤ p + d) (hp2 : p + d ≤ 900) : double.nearest false (k * 2 ^ d) p = (p + d + 1074).toNat * H + k := by
  unfold Format.nearest
  have h0 : k * 2 ^ d ≠ 0 := Nat.mul_ne_zero (by unfold H at h1; omega) (by have := Nat.two_pow_pos d; omega)
  rw [if_neg h0, fb, lp, bi, inf_, log2_scaled h1 h2]
  have el : max (p + ((52 + d : Nat) : Int) - (52 : Nat)) (-1074) = p + d := by omega
  simp only [el]
  rw [show (p - (p + (d : Int))).toNat = 0 from by omega, show (p + (d : Int) - p).toNat = d from by omega, Nat.shiftLeft_zero, cut_exact .even k d (.inl rfl) h1 h2]
  rw [show (p + (d : Int) - -1074) = p + d + 1074 from by omega]
  unfold Format.word
  rw [Nat.min_eq_left]
  · rfl
  · unfold H at *; omega

/-- The scale of 2^53, as a word. -/
theorem read53 : double.read 4845873199050653696 = .number false H 1 := by
  have := read_norm (E := 1076) (r := 0) (by decide) (by decide) (by decide)
  simpa [H] using this
theorem read1 : double.read 4607182418800017408 = .number false H (-52) := by
  have := read_norm (E := 1023) (r := 0) (by decide) (by decide) (by decide)
  simpa [H] using this

theorem div53 {E r : Nat} (hr : r < H) (h1 : 54 ≤ E) (h2 : E < 1900) : double.div (E * H + r) 4845873199050653696 = some ((E - 53) * H + r) := by
  unfold Format.div
  rw [read_norm hr (by omega) (by omega), read53, fb]
  have el : (H + r).log2 = 52 := by
    have := log2_scaled (k := H + r) (d := 0) (by omega) (by omega)
    simpa using this
  have eh : Nat.log2 H = 52 := by
    have := log2_scaled (k := H) (d := 0) (by omega) (by omega)
    simpa using this
  have e1 : (H + r) <<< 54 = ((H + r) * 4) * H := by
    rw [Nat.shiftLeft_eq, Nat.mul_assoc, show 4 * H = 2 ^ 54 from by decide]
  simp only [Datum.quotient, el, eh]
  rw [if_neg (by decide)]
  simp only [Option.map, Format.write]
  rw [show 52 + 2 + 52 - 52 = 54 from rfl, e1, Nat.mul_div_cancel _ (by decide), Nat.mul_mod_left]
  have e2 : 2 * ((H + r) * 4) + ((0 : Nat) != 0).toNat = (H + r) * 2 ^ 3 := by
    simp only [bne_self_eq_false, Bool.toNat_false]; omega
  rw [e2]
  have e3 := nearest_exact (H + r) 3 ((E : Int) - 1075 - 1 - (54 : Nat) - 1) (by omega) (by omega) (by omega) (by omega)
  have e4 : (false ^^ false) = false := rfl
  rw [e4, e3]
  refine congrArg some ?_
  have : (((E : Int) - 1075 - 1 - (54 : Nat) - 1 + (3 : Nat) + 1074).toNat) = E - 54 := by omega
  rw [this]
  unfold H
  omega

theorem mul53 {E r : Nat} (hr : r < H) (h1 : 1 ≤ E) (h2 : E < 1800) : double.mul (E * H + r) 4845873199050653696 = some ((E + 53) * H + r) := by
  unfold Format.mul
  rw [read_norm hr (by omega) (by omega), read53]
  simp only [Datum.product, Option.map, Format.write]
  have e := nearest_exact (H + r) 52 ((E : Int) - 1075 + 1) (by omega) (by omega) (by omega) (by omega)
  have e4 : (false ^^ false) = false := rfl
  rw [e4, show (H + r) * H = (H + r) * 2 ^ 52 from rfl, e]
  refine congrArg some ?_
  have : ((E : Int) - 1075 + 1 + (52 : Nat) + 1074).toNat = E + 52 := by omega
  rw [this]
  unfold H
  omega

theorem mul1 {E r : Nat} (hr : r < H) (h1 : 1 ≤ E) (h2 : E < 1800) : double.mul 4607182418800017408 (E * H + r) = some (E * H + r) := by
  unfold Format.mul
  rw [read_norm hr (by omega) (by omega), read1]
  simp only [Datum.product, Option.map, Format.write]
  have e := nearest_exact (H + r) 52 (-52 + ((E : Int) - 1075)) (by omega) (by omega) (by omega) (by omega)
  have e4 : (false ^^ false) = false := rfl
  rw [e4, show H * (H + r) = (H + r) * 2 ^ 52 from Nat.mul_comm _ _, e]
  refine congrArg some ?_
  have : (-52 + ((E : Int) - 1075) + (52 : Nat) + 1074).toNat = E - 1 := by omega
  rw [this]
  unfold H
  omega

/-! ### the nearest float64 to a whole number -/
theorem nearest_small {n : Nat} (h0 : 0 < n) (h1 : n.log2 ≤ 52) : ∃ r, r < H ∧ H + r = n * 2 ^ (52 - n.log2) ∧ double.nearest false n 0 = (n.log2 + 1023) * H + r := by
  have hne : n ≠ 0 := by omega
  have hlo : 2 ^ n.log2 ≤ n := Nat.log2_self_le hne
  have hhi : n < 2 ^ (n.log2 + 1) := Nat.lt_log2_self
  generalize hL : n.log2 = L at *
  have a1 : 2 ^ L * 2 ^ (52 - L) = H := by rw [← Nat.pow_add, H_eq]; congr 1; omega
  have a2 : 2 ^ (L + 1) * 2 ^ (52 - L) = 2 * H := by rw [Nat.pow_succ, Nat.mul_right_comm, a1]; omega
  have b1 : H ≤ n * 2 ^ (52 - L) := by rw [← a1]; exact Nat.mul_le_mul_right _ hlo
  have b2 : n * 2 ^ (52 - L) < 2 * H := by rw [← a2]; exact Nat.mul_lt_mul_of_pos_right hhi (Nat.two_pow_pos _)
  refine ⟨n * 2 ^ (52 - L) - H, by omega, by omega, ?_⟩
  unfold Format.nearest
  rw [if_neg hne, fb, lp, bi, inf_, hL]
  have el : max ((0 : Int) + (L : Int) - (52 : Nat)) (-1074) = (L : Int) - 52 := by omega
  simp only [el]
  rw [show ((0 : Int) - ((L : Int) - 52)).toNat = 52 - L from by omega, show ((L : Int) - 52 - 0).toNat = 0 from by omega, Nat.shiftLeft_eq]
  have ec := cut_exact .even (n * 2 ^ (52 - L)) 0 (.inl rfl) b1 b2
  rw [Nat.pow_zero, Nat.mul_one] at ec
  rw [ec]
  unfold Format.word
  rw [show ((L : Int) - 52 - -1074).toNat = L + 1022 from by omega, Nat.min_eq_left (by unfold H at *; omega)]
  simp only [Bool.false_eq_true, if_false]
  unfold H at *
  omega

theorem nearest_big {n : Nat} (h1 : 52 < n.log2) (h2 : n.log2 ≤ 63) : ∃ E r, r < H ∧ 1023 ≤ E ∧ E ≤ 1087 ∧ double.nearest false n 0 = E * H + r := by
  have hne : n ≠ 0 := by intro h; subst h; simp at h1
  have hlo : 2 ^ n.log2 ≤ n := Nat.log2_self_le hne
  have hhi : n < 2 ^ (n.log2 + 1) := Nat.lt_log2_self
  generalize hL : n.log2 = L at *
  have a1 : H * 2 ^ (L - 52) = 2 ^ L := by rw [H_eq, ← Nat.pow_add]; congr 1; omega
  have a2 : 2 * H * 2 ^ (L - 52) = 2 ^ (L + 1) := by rw [Nat.mul_assoc, a1, Nat.pow_succ]; omega
  have b1 : H ≤ n / 2 ^ (L - 52) := (Nat.le_div_iff_mul_le (Nat.two_pow_pos _)).2 (by rw [a1]; exact hlo)
  have b2 : n / 2 ^ (L - 52) < 2 * H := (Nat.div_lt_iff_lt_mul (Nat.two_pow_pos _)).2 (by rw [a2]; exact hhi)
  obtain ⟨kept, hk, hk1, hk2⟩ : ∃ kept, Toward.even.cut false (n <<< 0) (L - 52) = kept ∧ H ≤ kept ∧ kept ≤ 2 * H := by
    refine ⟨_, rfl, ?_, ?_⟩
    · unfold Toward.cut
      rw [Nat.shiftLeft_zero, hL, Nat.min_eq_left (by omega), Nat.one_shiftLeft]
      simp only
      omega
    · unfold Toward.cut
      rw [Nat.shiftLeft_zero, hL, Nat.min_eq_left (by omega), Nat.one_shiftLeft]
      simp only
      have hb : ∀ b : Bool, b.toNat ≤ 1 := fun b => by cases b <;> decide
      refine Nat.le_trans (Nat.add_le_add_left (hb _) _) ?_
      omega
  have hv : double.nearest false n 0 = (L + 1022) * H + kept := by
    unfold Format.nearest
    rw [if_neg hne, fb, lp, bi, inf_, hL]
    have el : max ((0 : Int) + (L : Int) - (52 : Nat)) (-1074) = (L : Int) - 52 := by omega
    simp only [el]
    rw [show ((0 : Int) - ((L : Int) - 52)).toNat = 0 from by omega, show ((L : Int) - 52 - 0).toNat = L - 52 from by omega, hk]
    unfold Format.word
    rw [show ((L : Int) - 52 - -1074).toNat = L + 1022 from by omega, Nat.min_eq_left (by unfold H at *; omega)]
    rfl
  by_cases hc : kept = 2 * H
  · exact ⟨L + 1024, 0, by decide, by omega, by omega, by rw [hv, hc]; unfold H; omega⟩
  · exact ⟨L + 1023, kept - H, by omega, by omega, by omega, by rw [hv]; unfold H at *; omega⟩

theorem nearest_int {n : Nat} (h0 : 0 < n) (h1 : n < 18446744073709551616) : ∃ E r, r < H ∧ 1023 ≤ E ∧ E ≤ 1087 ∧ double.nearest false n 0 = E * H + r := by
  have hl : n.log2 ≤ 63 := by
    have := (Nat.log2_lt (n := n) (k := 64) (by omega)).2 (by simpa using h1)
    omega
  by_cases h : n.log2 ≤ 52
  · obtain ⟨r, hr, _, hv⟩ := nearest_small h0 h
    exact ⟨_, r, hr, by omega, by omega, hv⟩
  · exact nearest_big (by omega) hl
end Go.Proofs.Ybulkdjyo
