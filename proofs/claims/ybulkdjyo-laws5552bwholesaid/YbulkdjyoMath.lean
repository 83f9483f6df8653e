/-
  SHARED CONTRACTS OF THIS SEAT (2): math.Abs, IsInf, IsNaN, normalize, ldexp, Ldexp, Inf at the float64s of whole numbers.
-/
import Derived.Test.YbulkdjyoFloat
import Derived.Test.YbulkdjyoRows
import Derived.WalkKit
import Derived.WalkSpells
import Derived.WalkLawsBesides
import Derived.Laws.BitsAllLaws
namespace Go.Proofs.Ybulkdjyo
open Go.RowKit Ieee
set_option linter.unusedVariables false

/-! ### the order of two such words -/
theorem cmp_lt {a b : Int} (h : a < b) : compare a b = .lt := by
  show compareOfLessAndEq a b = _
  unfold compareOfLessAndEq; rw [if_pos h]
theorem cmp_eq (a : Int) : compare a a = .eq := by
  show compareOfLessAndEq a a = _
  unfold compareOfLessAndEq; rw [if_neg (by omega), if_pos rfl]
theorem cmp_gt {a b : Int} (h : b < a) : compare a b = .gt := by
  show compareOfLessAndEq a b = _
  unfold compareOfLessAndEq; rw [if_neg (by omega), if_neg (by omega)]
theorem signed_up (m : Nat) (d : Nat) : signed false m d = ((m * 2 ^ d : Nat) : Int) := by
  unfold signed; rw [Nat.shiftLeft_eq]; rfl
theorem up_ge {m m' d : Nat} (h1 : m < 2 * H) (h2 : H ≤ m') (hd : 1 ≤ d) : m < m' * 2 ^ d := by
  have : 2 ^ 1 ≤ 2 ^ d := Nat.pow_le_pow_right (by decide) hd
  have := Nat.mul_le_mul h2 this
  omega
theorem order_lt {E r E' r' : Nat} (hr : r < H) (hr' : r' < H) (h1 : 1 ≤ E) (h2 : E' < 2047) (h : E < E' ∨ (E = E' ∧ r < r')) : double.order (E * H + r) (E' * H + r') = some .lt := by
  unfold Format.order
  rw [read_norm hr h1 (by omega), read_norm hr' (by omega) h2]
  simp only [Datum.order, signed_up]
  refine congrArg some (cmp_lt ?_)
  rcases h with h | ⟨rfl, h⟩
  · rw [Int.min_eq_left (by omega), show ((E : Int) - 1075 - ((E : Int) - 1075)).toNat = 0 from by omega, show ((E' : Int) - 1075 - ((E : Int) - 1075)).toNat = E' - E from by omega]
    have := up_ge (m := H + r) (m' := H + r') (d := E' - E) (by omega) (by omega) (by omega)
    rw [Nat.pow_zero, Nat.mul_one]
    exact_mod_cast this
  · rw [Int.min_self, Int.sub_self]
    simp
    omega
theorem order_gt {E r E' r' : Nat} (hr : r < H) (hr' : r' < H) (h1 : 1 ≤ E) (h2 : E' < 2047) (h : E < E' ∨ (E = E' ∧ r < r')) : double.order (E' * H + r') (E * H + r) = some .gt := by
  unfold Format.order
  rw [read_norm hr h1 (by omega), read_norm hr' (by omega) h2]
  simp only [Datum.order, signed_up]
  refine congrArg some (cmp_gt ?_)
  rcases h with h | ⟨rfl, h⟩
  · rw [Int.min_eq_right (by omega), show ((E : Int) - 1075 - ((E : Int) - 1075)).toNat = 0 from by omega, show ((E' : Int) - 1075 - ((E : Int) - 1075)).toNat = E' - E from by omega]
    have := up_ge (m := H + r) (m' := H + r') (d := E' - E) (by omega) (by omega) (by omega)
    rw [Nat.pow_zero, Nat.mul_one]
    exact_mod_cast this
  · rw [Int.min_self, Int.sub_self]
    simp
    omega
theorem order_self {E r : Nat} (hr : r < H) (h1 : 1 ≤ E) (h2 : E < 2047) : double.order (E * H + r) (E * H + r) = some .eq := by
  unfold Format.order
  rw [read_norm hr h1 h2]
  exact congrArg some (cmp_eq (signed false (H + r) ((E : Int) - 1075 - min ((E : Int) - 1075) ((E : Int) - 1075)).toNat))
theorem read0 : double.read 0 = .number false 0 (-1074) := by decide
theorem order_zero {E r : Nat} (hr : r < H) (h1 : 1 ≤ E) (h2 : E < 2047) : double.order (E * H + r) 0 = some .gt := by
  unfold Format.order
  rw [read_norm hr h1 h2, read0]
  show some (compare (signed false (H + r) ((E : Int) - 1075 - min ((E : Int) - 1075) (-1074)).toNat) (signed false 0 (-1074 - min ((E : Int) - 1075) (-1074)).toNat)) = some .gt
  rw [signed_up, signed_up]
  refine congrArg some (cmp_gt ?_)
  have := Nat.mul_pos (show 0 < H + r by unfold H; omega) (Nat.two_pow_pos ((E : Int) - 1075 - min ((E : Int) - 1075) (-1074)).toNat)
  rw [Nat.zero_mul]
  exact Int.ofNat_lt.2 this

/-! ### the two entries of the model -/
theorem bits_call (b : Nat) (w : World) : (callFunc 6 #[.float .f64 b]).run Yba.prog w = .ok (.value (.int .u64 b)) w := by
  rw [run_callFunc_extern Yba.func6 (by kernel_rfl) (by kernel_rfl) (by kernel_rfl) (e := Extern.MathFloatBits.float64bits) (by kernel_rfl)]
  rfl
theorem from_call (n : Int) (w : World) : (callFunc 9 #[.int .u64 n]).run Yba.prog w = .ok (.value (.float .f64 n.toNat)) w := by
  rw [run_callFunc_extern Yba.func9 (by kernel_rfl) (by kernel_rfl) (by kernel_rfl) (e := Extern.MathFloatBits.float64frombits) (by kernel_rfl)]
  rfl

/-! ### the bits -/
theorem top_off (b : Nat) (hb : b < 9223372036854775808) : bits .andNot .u64 (b : Int) 9223372036854775808 = (b : Int) := by
  have := u64_andNot_nat b 9223372036854775808 (by omega) (by omega)
  rw [show ((9223372036854775808 : Nat) : Int) = 9223372036854775808 from rfl] at this
  rw [this, show 18446744073709551615 - 9223372036854775808 = 2 ^ 63 - 1 from by decide, Nat.and_two_pow_sub_one_eq_mod, Nat.mod_eq_of_lt (by omega)]

theorem abs_pos (b : Nat) (hb : b < 9223372036854775808) (w : World) :
    Calls Yba.prog 16 #[.float .f64 b] w fun e w' => e = .returned (.float .f64 b) ∧ w' = w := by
  have h1 := fun wx => bits_call b wx
  have h2 := fun wx => from_call (b : Int) wx
  have h3 := top_off b hb
  go_enter Yba.func16, Yba.ntmps16
  go_wp2
  go_ret
  exact ⟨by simp, rfl⟩

theorem word_lt {E r : Nat} (hr : r < H) (h2 : E < 2047) : E * H + r < 9223372036854775808 := by unfold H at *; omega
theorem isinf_norm {E r : Nat} (hr : r < H) (h1 : 1 ≤ E) (h2 : E < 2046) (w : World) :
    Calls Yba.prog 12 #[.float .f64 (E * H + r), .int .i64 0] w fun e w' => e = .returned (.bool false) ∧ w' = w := by
  have ho : FloatKind.f64.format.order (E * H + r) 9218868437227405311 = some .lt := by
    have := order_lt (E := E) (r := r) (E' := 2046) (r' := H - 1) hr (by decide) h1 (by decide) (.inl h2)
    exact this
  have ha := abs_pos (E * H + r) (word_lt hr (by omega))
  generalize E * H + r = b at *
  go_enter Yba.func12, Yba.ntmps12
  go_wp2_with (go_at_call 16; refine (ha _).mono ?_; rintro e w1 ⟨rfl, rfl⟩)
  go_ret
  exact ⟨rfl, rfl⟩
theorem isnan_norm {E r : Nat} (hr : r < H) (h1 : 1 ≤ E) (h2 : E < 2046) (w : World) :
    Calls Yba.prog 13 #[.float .f64 (E * H + r)] w fun e w' => e = .returned (.bool false) ∧ w' = w := by
  have ho : FloatKind.f64.format.order (E * H + r) (E * H + r) = some .eq := order_self hr h1 (by omega)
  generalize E * H + r = b at *
  go_enter Yba.func13, Yba.ntmps13
  go_wp2
  go_ret
  exact ⟨rfl, rfl⟩
theorem normalize_norm {E r : Nat} (hr : r < H) (h1 : 2 ≤ E) (h2 : E < 2046) (w : World) :
    Calls Yba.prog 14 #[.float .f64 (E * H + r)] w fun e w' => e = .returned (.tuple #[.float .f64 (E * H + r), .int .i64 0]) ∧ w' = w := by
  have ho : FloatKind.f64.format.order (E * H + r) 4503599627370496 = some .gt := by
    have := order_gt (E := 1) (r := 0) (E' := E) (r' := r) (by decide) hr (by decide) (by omega) (.inl (by omega))
    exact this
  have ha := abs_pos (E * H + r) (word_lt hr (by omega))
  generalize E * H + r = b at *
  go_enter Yba.func14, Yba.ntmps14
  go_wp2_with (go_at_call 16; refine (ha _).mono ?_; rintro e w1 ⟨rfl, rfl⟩)
  go_ret2
  exact ⟨rfl, rfl⟩

theorem shr_bits {E r : Nat} (hr : r < H) : ((E * H + r : Nat) : Int) / 4503599627370496 = (E : Int) := by unfold H at *; omega
theorem and_bits {E : Nat} (h : E < 2048) : bits .and .i64 (E : Int) 2047 = (E : Int) := by
  have h0 : (BitVec.ofInt 64 2047).toNat = 2 ^ 11 - 1 := by decide
  have key : (BitVec.ofInt 64 (E : Int) &&& BitVec.ofInt 64 2047).toNat = ((E : Int) % ((2 ^ 64 : Nat) : Int)).toNat % 2 ^ 11 := by
    rw [BitVec.toNat_and, BitVec.toNat_ofInt, h0, Nat.and_two_pow_sub_one_eq_mod]
  show IntKind.i64.wrap ((BitVec.ofInt 64 (E : Int) &&& BitVec.ofInt 64 2047).toNat : Nat) = (E : Int)
  rw [key, IntKind.wrap_i64]
  omega
theorem exp_off {E r : Nat} (hr : r < H) (h2 : E < 2047) : bits .andNot .u64 ((E * H + r : Nat) : Int) 9218868437227405312 = (r : Int) := by
  have := u64_andNot_nat (E * H + r) 9218868437227405312 (by unfold H at *; omega) (by omega)
  rw [show ((9218868437227405312 : Nat) : Int) = 9218868437227405312 from rfl] at this
  rw [this]
  have hm : 18446744073709551615 - 9218868437227405312 = 2 ^ 63 ||| (2 ^ 52 - 1) := by decide
  have hlt := word_lt hr h2
  have h63 : (E * H + r) / 2 ^ 63 = 0 := Nat.div_eq_of_lt (by omega)
  have hm52 : (E * H + r) % 2 ^ 52 = r := by unfold H at *; omega
  rw [hm, Nat.and_or_distrib_left, nat_bit, Nat.and_two_pow_sub_one_eq_mod, h63, hm52]
  simp
theorem or_bits {E r : Nat} (hr : r < H) (h2 : E < 2048) : bits .or .u64 (r : Int) ((E * H : Nat) : Int) = ((E * H + r : Nat) : Int) := by
  rw [u64_or_nat r (E * H) (by unfold H at *; omega) (by unfold H at *; omega), Nat.or_comm, nat_join 52 (E * H) r (by unfold H; omega) (by unfold H at hr; omega)]

set_option maxHeartbeats 1000000 in
theorem ldexp_core (b c E r : Nat) (h1 : 1023 ≤ E) (h2 : E ≤ 1087) (ho : FloatKind.f64.format.order b 0 = some .gt)
    (ci : ∀ wx, Calls Yba.prog 12 #[.float .f64 b, .int .i64 0] wx fun e w' => e = .returned (.bool false) ∧ w' = wx)
    (cn : ∀ wx, Calls Yba.prog 13 #[.float .f64 b] wx fun e w' => e = .returned (.bool false) ∧ w' = wx)
    (cz : ∀ wx, Calls Yba.prog 14 #[.float .f64 b] wx fun e w' => e = .returned (.tuple #[.float .f64 b, .int .i64 0]) ∧ w' = wx)
    (hb : ∀ wx, (callFunc 6 #[.float .f64 b]).run Yba.prog wx = .ok (.value (.int .u64 b)) wx)
    (hs : (b : Int) / 4503599627370496 = (E : Int)) (ha : bits .and .i64 (E : Int) 2047 = (E : Int)) (hx : bits .andNot .u64 (b : Int) 9218868437227405312 = (r : Int))
    (hor : bits .or .u64 (r : Int) ((-53 + ((E : Int) - 1023) + 1023) * 4503599627370496) = (c : Int)) (hf : ∀ wx, (callFunc 9 #[.int .u64 (c : Int)]).run Yba.prog wx = .ok (.value (.float .f64 c)) wx)
    (hm : ∀ t wx, (binOp .mul t (.float .f64 4607182418800017408) (.float .f64 c)).run Yba.prog wx = .ok (.float .f64 c) wx) (w : World) :
    Calls Yba.prog 11 #[.float .f64 b, .int .i64 (-53)] w fun e w' => e = .returned (.float .f64 c) ∧ w' = w := by
  go_enter Yba.func11, Yba.ntmps11
  go_wp2_with (first
    | (go_at_call 12; refine (ci _).mono ?_; rintro e w1 ⟨rfl, rfl⟩)
    | (go_at_call 13; refine (cn _).mono ?_; rintro e w1 ⟨rfl, rfl⟩)
    | (go_at_call 14; refine (cz _).mono ?_; rintro e w1 ⟨rfl, rfl⟩))
  go_ret
  exact ⟨rfl, rfl⟩
theorem from_nat (c : Nat) (w : World) : (callFunc 9 #[.int .u64 (c : Int)]).run Yba.prog w = .ok (.value (.float .f64 c)) w := from_call (c : Int) w
theorem ldexp_norm {E r : Nat} (hr : r < H) (h1 : 1023 ≤ E) (h2 : E ≤ 1087) (w : World) :
    Calls Yba.prog 11 #[.float .f64 (E * H + r), .int .i64 (-53)] w fun e w' => e = .returned (.float .f64 ((E - 53) * H + r)) ∧ w' = w := by
  refine ldexp_core _ _ E r h1 h2 (order_zero hr (by omega) (by omega)) (fun wx => isinf_norm hr (by omega) (by omega) wx) (fun wx => isnan_norm hr (by omega) (by omega) wx) (fun wx => normalize_norm hr (by omega) (by omega) wx)
    (fun wx => bits_call _ wx) (shr_bits hr) (and_bits (by omega)) (exp_off hr (by omega)) ?_ (fun wx => from_nat _ wx) (fun t wx => run_float_arith wx .mul t .f64 _ _ _ (mul1 hr (by omega) (by omega))) w
  rw [← or_bits (E := E - 53) hr (by omega)]
  congr 1
  unfold H
  omega
theorem ldexp_zero (w : World) : Calls Yba.prog 11 #[.float .f64 0, .int .i64 (-53)] w fun e w' => e = .returned (.float .f64 0) ∧ w' = w := by
  have ho : FloatKind.f64.format.order 0 0 = some .eq := by decide
  go_enter Yba.func11, Yba.ntmps11
  go_wp2
  go_ret
  exact ⟨rfl, rfl⟩
theorem Ldexp_any (b c : Nat) (hl : ∀ wx, Calls Yba.prog 11 #[.float .f64 b, .int .i64 (-53)] wx fun e w' => e = .returned (.float .f64 c) ∧ w' = wx) (w : World) :
    Calls Yba.prog 8 #[.float .f64 b, .int .i64 (-53)] w fun e w' => e = .returned (.float .f64 c) ∧ w' = w := by
  go_enter Yba.func8, Yba.ntmps8
  go_wp2_with (go_at_call 11; refine (hl _).mono ?_; rintro e w1 ⟨rfl, rfl⟩)
  go_ret
  exact ⟨rfl, rfl⟩
theorem inf_pos (w : World) : Calls Yba.prog 7 #[.int .i64 1] w fun e w' => e = .returned (.float .f64 9218868437227405312) ∧ w' = w := by
  have hf := fun wx => from_call 9218868437227405312 wx
  go_enter Yba.func7, Yba.ntmps7
  go_wp2
  go_ret
  exact ⟨rfl, rfl⟩
theorem inf_neg (w : World) : Calls Yba.prog 7 #[.int .i64 (-1)] w fun e w' => e = .returned (.float .f64 18442240474082181120) ∧ w' = w := by
  have hf := fun wx => from_call 18442240474082181120 wx
  go_enter Yba.func7, Yba.ntmps7
  go_wp2
  go_ret
  exact ⟨rfl, rfl⟩
end Go.Proofs.Ybulkdjyo
