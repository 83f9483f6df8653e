/-
  THE PROOF OF 'Rows.LawS5552BWholeSaid' ('search.LawS5552BWhole'): dividing by 2^53 and math.Ldexp by -53 give the same word at every whole number; below 2^53 and at it the way back is exact.
-/
import Derived.Test.YbulkdjyoMath
import Derived.ProofKit
import Derived.OpenShut
import Derived.ShutString
namespace Go.Proofs.Ybulkdjyo.lawS5552BWhole
open Go.ChangeShapes Go.WideShapes Go.ChangeAt Go.RowKit
open Go.ChangeMaps (open_string shut_string)
open Ieee
set_option linter.unusedVariables false

theorem own : ownKnob Yba.prog.godebug = none := by kernel_rfl

/-! ### the two functions -/
theorem cutoff_core (a0 : Int) (b c : Nat) (h1 : 0 < a0) (h2 : a0 < 18446744073709551615) (hb : floatOfInt .f64 (a0 - 1) = b) (hd : ∀ t wx, (binOp .quo t (.float .f64 b) (.float .f64 4845873199050653696)).run Yba.prog wx = .ok (.float .f64 c) wx) (w : World) :
    Calls Yba.prog 4 #[.int .u64 a0] w fun e w' => e = .returned (.float .f64 c) ∧ w' = w := by
  have e1 : (a0 == 0) = false := beq_eq_false_iff_ne.2 (by omega)
  have e2 : (a0 == 18446744073709551615) = false := beq_eq_false_iff_ne.2 (by omega)
  go_enter Yba.func4, Yba.ntmps4
  go_wp2
  go_ret
  exact ⟨rfl, rfl⟩
theorem model_core (a0 : Int) (b c : Nat) (h1 : 0 < a0) (h2 : a0 < 18446744073709551615) (hb : floatOfInt .f64 (a0 - 1) = b) (hl : ∀ wx, Calls Yba.prog 8 #[.float .f64 b, .int .i64 (-53)] wx fun e w' => e = .returned (.float .f64 c) ∧ w' = wx) (w : World) :
    Calls Yba.prog 5 #[.int .u64 a0] w fun e w' => e = .returned (.float .f64 c) ∧ w' = w := by
  have e1 : (a0 == 0) = false := beq_eq_false_iff_ne.2 (by omega)
  have e2 : (a0 == 18446744073709551615) = false := beq_eq_false_iff_ne.2 (by omega)
  go_enter Yba.func5, Yba.ntmps5
  go_wp2_with (go_at_call 8; refine (hl _).mono ?_; rintro e w1 ⟨rfl, rfl⟩)
  go_ret
  exact ⟨rfl, rfl⟩
theorem cutoff_0 (w : World) : Calls Yba.prog 4 #[.int .u64 0] w fun e w' => e = .returned (.float .f64 18442240474082181120) ∧ w' = w := by
  go_enter Yba.func4, Yba.ntmps4
  go_wp2_with (go_at_call 7; refine (inf_neg _).mono ?_; rintro e w1 ⟨rfl, rfl⟩)
  go_ret
  exact ⟨rfl, rfl⟩
theorem cutoff_max (w : World) : Calls Yba.prog 4 #[.int .u64 18446744073709551615] w fun e w' => e = .returned (.float .f64 9218868437227405312) ∧ w' = w := by
  go_enter Yba.func4, Yba.ntmps4
  go_wp2_with (go_at_call 7; refine (inf_pos _).mono ?_; rintro e w1 ⟨rfl, rfl⟩)
  go_ret
  exact ⟨rfl, rfl⟩
theorem model_0 (w : World) : Calls Yba.prog 5 #[.int .u64 0] w fun e w' => e = .returned (.float .f64 18442240474082181120) ∧ w' = w := by
  go_enter Yba.func5, Yba.ntmps5
  go_wp2_with (go_at_call 7; refine (inf_neg _).mono ?_; rintro e w1 ⟨rfl, rfl⟩)
  go_ret
  exact ⟨rfl, rfl⟩
theorem model_max (w : World) : Calls Yba.prog 5 #[.int .u64 18446744073709551615] w fun e w' => e = .returned (.float .f64 9218868437227405312) ∧ w' = w := by
  go_enter Yba.func5, Yba.ntmps5
  go_wp2_with (go_at_call 7; refine (inf_pos _).mono ?_; rintro e w1 ⟨rfl, rfl⟩)
  go_ret
  exact ⟨rfl, rfl⟩

/-! ### the law -/
theorem law_out (a0 : Int) (c : Nat) (hd : (decide (1 ≤ a0) && decide (a0 - 1 ≤ 9007199254740992)) = false) (h0 : 0 ≤ a0) (hmax : a0 ≤ 18446744073709551615)
    (hc : ∀ wx, Calls Yba.prog 4 #[.int .u64 a0] wx fun e w' => e = .returned (.float .f64 c) ∧ w' = wx) (hm : ∀ wx, Calls Yba.prog 5 #[.int .u64 a0] wx fun e w' => e = .returned (.float .f64 c) ∧ w' = wx) (w : World) :
    Calls Yba.prog 3 #[.int .u64 a0] w fun e w' => e = .returned (.bool true) ∧ w' = w := by
  have hb := fun wx => bits_call c wx
  by_cases h : 1 ≤ a0
  · have h2 : ¬ (a0 - 1 ≤ 9007199254740992) := by
      intro h2
      simp [h, h2] at hd
    clear hd
    go_enter Yba.func3, Yba.ntmps3
    go_wp2_with (first
      | (go_at_call 4; refine (hc _).mono ?_; rintro e w1 ⟨rfl, rfl⟩)
      | (go_at_call 5; refine (hm _).mono ?_; rintro e w1 ⟨rfl, rfl⟩))
    go_ret
    exact ⟨rfl, rfl⟩
  · have ha : a0 = 0 := by omega
    subst ha
    clear hd h
    go_enter Yba.func3, Yba.ntmps3
    go_wp2_with (first
      | (go_at_call 4; refine (hc _).mono ?_; rintro e w1 ⟨rfl, rfl⟩)
      | (go_at_call 5; refine (hm _).mono ?_; rintro e w1 ⟨rfl, rfl⟩))
    go_ret
    exact ⟨rfl, rfl⟩
theorem law_in (a0 : Int) (b c : Nat) (h1 : 1 ≤ a0) (h2 : a0 - 1 ≤ 9007199254740992)
    (hc : ∀ wx, Calls Yba.prog 4 #[.int .u64 a0] wx fun e w' => e = .returned (.float .f64 c) ∧ w' = wx) (hm : ∀ wx, Calls Yba.prog 5 #[.int .u64 a0] wx fun e w' => e = .returned (.float .f64 c) ∧ w' = wx)
    (hmul : ∀ t wx, (binOp .mul t (.float .f64 c) (.float .f64 4845873199050653696)).run Yba.prog wx = .ok (.float .f64 b) wx)
    (ho1 : (FloatKind.f64.format.order b 0 == some .lt) = false) (ho2 : (FloatKind.f64.format.order b 4845873199050653696 == some .gt) = false)
    (hcv : ∀ wx, (convert 23 22 (.float .f64 b)).run Yba.prog wx = .ok (.int .u64 (a0 - 1)) wx) (w : World) :
    Calls Yba.prog 3 #[.int .u64 a0] w fun e w' => e = .returned (.bool true) ∧ w' = w := by
  have hb := fun wx => bits_call c wx
  go_enter Yba.func3, Yba.ntmps3
  go_wp2_with (first
    | (go_at_call 4; refine (hc _).mono ?_; rintro e w1 ⟨rfl, rfl⟩)
    | (go_at_call 5; refine (hm _).mono ?_; rintro e w1 ⟨rfl, rfl⟩))
  go_ret
  exact ⟨rfl, rfl⟩

/-! ### the way back is exact -/
theorem float_of (n : Nat) : floatOfInt .f64 (n : Int) = double.nearest false n 0 := by
  show double.nearest (decide ((n : Int) < 0)) (n : Int).natAbs 0 = _
  rw [decide_eq_false (by omega), Int.natAbs_natCast]
theorem cut_zero (n d : Nat) (h0 : 0 < n) (hl : n.log2 + d = 52) : Toward.zero.cut false (n * 2 ^ d) d = n := by
  have e : (n * 2 ^ d).log2 = 52 := by
    apply log2_of
    · rw [← hl, Nat.pow_add]
      exact Nat.mul_le_mul_right _ (Nat.log2_self_le (by omega))
    · rw [← hl, show n.log2 + d + 1 = n.log2 + 1 + d from by omega, Nat.pow_add]
      exact Nat.mul_lt_mul_of_pos_right Nat.lt_log2_self (Nat.two_pow_pos _)
  unfold Toward.cut
  rw [e, Nat.min_eq_left (by omega), Nat.one_shiftLeft]
  have e1 : n * 2 ^ d / 2 ^ d = n := Nat.mul_div_cancel _ (Nat.two_pow_pos _)
  simp only [e1]
  simp
theorem toInt_num (m : Nat) (i : Int) : (Datum.number false m i).toInt .zero = some (signed false (Toward.zero.cut false (m <<< i.toNat) (-i).toNat) 0) := rfl
theorem decode_eq (x : Nat) : FloatKind.f64.decode x = double.read x := rfl
theorem u64_fits (n : Nat) (h : n ≤ 9007199254740992) : IntKind.u64.min ≤ (n : Int) ∧ (n : Int) ≤ IntKind.u64.max := by
  have e1 : IntKind.u64.min = 0 := by decide
  have e2 : IntKind.u64.max = 18446744073709551615 := by decide
  rw [e1, e2]
  omega
theorem toInt_small {n L m : Nat} (i : Int) (h0 : 0 < n) (hL : n.log2 = L) (hl : L ≤ 52) (hm : m = n * 2 ^ (52 - L)) (hi : i = (L : Int) - 52) : (Datum.number false m i).toInt .zero = some (n : Int) := by
  rw [toInt_num, hm, hi, show ((L : Int) - 52).toNat = 0 from by omega, show (-((L : Int) - 52)).toNat = 52 - L from by omega, Nat.shiftLeft_zero, cut_zero n _ h0 (by omega), signed_up, Nat.pow_zero, Nat.mul_one]
theorem val_of {x : Nat} {n : Nat} (ht : (FloatKind.f64.decode x).toInt .zero = some (n : Int)) (h : n ≤ 9007199254740992) : floatToIntVal .f64 x .u64 = some (n : Int) := by
  unfold floatToIntVal
  rw [ht]
  exact if_pos (u64_fits n h)
theorem back_small {n r : Nat} (h0 : 0 < n) (hl : n.log2 ≤ 52) (hr : r < H) (he : H + r = n * 2 ^ (52 - n.log2)) (hn : n ≤ 9007199254740992) : floatToIntVal .f64 ((n.log2 + 1023) * H + r) .u64 = some (n : Int) := by
  refine val_of ?_ hn
  rw [decode_eq, read_norm hr (by omega) (by omega)]
  exact toInt_small _ h0 rfl hl he (by omega)

theorem walk_same (a0 : Int) (w0 : (Lit.int .u64 a0).wf = true) (w : World) :
    Calls Yba.prog 3 #[.int .u64 a0] w fun e w' => e = .returned (.bool true) ∧ w' = w := by
  have hb : 0 ≤ a0 ∧ a0 ≤ 18446744073709551615 := by
    have := w0
    simp [Lit.wf] at this
    exact this
  obtain ⟨l0, l1⟩ := hb
  by_cases hz : a0 = 0
  · subst hz
    exact law_out 0 _ (by decide) (by omega) (by omega) cutoff_0 model_0 w
  by_cases hx : a0 = 18446744073709551615
  · subst hx
    exact law_out _ _ (by decide) (by omega) (by omega) cutoff_max model_max w
  obtain ⟨n, hn⟩ : ∃ n : Nat, a0 = (n : Int) + 1 := ⟨(a0 - 1).toNat, by omega⟩
  have hsub : a0 - 1 = (n : Int) := by omega
  rcases Nat.eq_zero_or_pos n with rfl | hpos
  · have ha : a0 = 1 := by omega
    subst ha
    have hfo : floatOfInt .f64 ((1 : Int) - 1) = 0 := by decide
    refine law_in 1 0 0 (by omega) (by omega) (cutoff_core 1 0 0 (by omega) (by omega) hfo (fun t wx => run_float_arith wx .quo t .f64 _ _ _ (by decide))) (model_core 1 0 0 (by omega) (by omega) hfo (Ldexp_any 0 0 ldexp_zero))
      (fun t wx => run_float_arith wx .mul t .f64 _ _ _ (by decide)) (by decide) (by decide) (fun wx => run_convert_float_int wx 23 22 .f64 .u64 0 _ (by rw [Yba.underlying23]; rfl) Yba.underlying22 (by decide)) w
  by_cases hs : n.log2 ≤ 52
  · obtain ⟨r, hr, he, hv⟩ := nearest_small hpos hs
    have hfo : floatOfInt .f64 (a0 - 1) = (n.log2 + 1023) * H + r := by rw [hsub, float_of, hv]
    have hnl : n < 9007199254740992 := by
      have h1 : n < 2 ^ (n.log2 + 1) := Nat.lt_log2_self
      have h2 : 2 ^ (n.log2 + 1) ≤ 2 ^ 53 := Nat.pow_le_pow_right (by decide) (by omega)
      omega
    have hc := cutoff_core a0 _ ((n.log2 + 1023 - 53) * H + r) (by omega) (by omega) hfo (fun t wx => run_float_arith wx .quo t .f64 _ _ _ (div53 hr (by omega) (by omega)))
    have hm := model_core a0 _ ((n.log2 + 1023 - 53) * H + r) (by omega) (by omega) hfo (Ldexp_any _ _ (fun wx => ldexp_norm hr (by omega) (by omega) wx))
    have hmul : double.mul ((n.log2 + 1023 - 53) * H + r) 4845873199050653696 = some ((n.log2 + 1023) * H + r) := by
      have := mul53 (E := n.log2 + 1023 - 53) hr (by omega) (by omega)
      rw [show n.log2 + 1023 - 53 + 53 = n.log2 + 1023 from by omega] at this
      exact this
    refine law_in a0 ((n.log2 + 1023) * H + r) _ (by omega) (by omega) hc hm (fun t wx => run_float_arith wx .mul t .f64 _ _ _ hmul) ?_ ?_ (fun wx => run_convert_float_int wx 23 22 .f64 .u64 _ _ (by rw [Yba.underlying23]; rfl) Yba.underlying22 ?_) w
    · have : FloatKind.f64.format.order ((n.log2 + 1023) * H + r) 0 = some .gt := order_zero hr (by omega) (by omega)
      rw [this]; rfl
    · have : FloatKind.f64.format.order ((n.log2 + 1023) * H + r) 4845873199050653696 = some .lt := order_lt (E' := 1076) (r' := 0) hr (by decide) (by omega) (by decide) (.inl (by omega))
      rw [this]; rfl
    · rw [hsub]
      exact back_small hpos hs hr he (by omega)
  · obtain ⟨E, r, hr, e1, e2, hv⟩ := nearest_int hpos (show n < 18446744073709551616 by omega)
    have hfo : floatOfInt .f64 (a0 - 1) = E * H + r := by rw [hsub, float_of, hv]
    have hc := cutoff_core a0 _ ((E - 53) * H + r) (by omega) (by omega) hfo (fun t wx => run_float_arith wx .quo t .f64 _ _ _ (div53 hr (by omega) (by omega)))
    have hm := model_core a0 _ ((E - 53) * H + r) (by omega) (by omega) hfo (Ldexp_any _ _ (fun wx => ldexp_norm hr (by omega) (by omega) wx))
    have hge : 9007199254740992 ≤ n := by
      have h1 : 2 ^ n.log2 ≤ n := Nat.log2_self_le (by omega)
      have h2 : 2 ^ 53 ≤ 2 ^ n.log2 := Nat.pow_le_pow_right (by decide) (by omega)
      omega
    by_cases he : n = 9007199254740992
    · have ha : a0 = 9007199254740993 := by omega
      subst ha
      have hfo2 : floatOfInt .f64 ((9007199254740993 : Int) - 1) = 4845873199050653696 := by decide
      refine law_in 9007199254740993 4845873199050653696 4607182418800017408 (by omega) (by omega) (cutoff_core _ 4845873199050653696 4607182418800017408 (by omega) (by omega) hfo2 (fun t wx => run_float_arith wx .quo t .f64 _ _ _ ?_)) (model_core _ 4845873199050653696 4607182418800017408 (by omega) (by omega) hfo2 (Ldexp_any _ _ (fun wx => ?_)))
        (fun t wx => run_float_arith wx .mul t .f64 _ _ _ ?_) ?_ ?_ (fun wx => run_convert_float_int wx 23 22 .f64 .u64 _ _ (by rw [Yba.underlying23]; rfl) Yba.underlying22 ?_) w
      · exact div53 (E := 1076) (r := 0) (by decide) (by decide) (by decide)
      · exact ldexp_norm (E := 1076) (r := 0) (by decide) (by decide) (by decide) wx
      · exact mul53 (E := 1023) (r := 0) (by decide) (by decide) (by decide)
      · have : FloatKind.f64.format.order 4845873199050653696 0 = some .gt := order_zero (E := 1076) (r := 0) (by decide) (by decide) (by decide)
        rw [this]; rfl
      · have : FloatKind.f64.format.order 4845873199050653696 4845873199050653696 = some .eq := order_self (E := 1076) (r := 0) (by decide) (by decide) (by decide)
        rw [this]; rfl
      · decide
    · exact law_out a0 _ (by simp; omega) (by omega) (by omega) hc hm w

theorem walk (a0 : Int) (w0 : (Lit.int .u64 a0).wf = true) (w : World) :
    Calls Yba.prog 3 #[.int .u64 a0] w fun e w' => e = .returned (.bool true) ∧ Grown w w' := by
  refine (walk_same a0 w0 w).mono ?_
  rintro e w' ⟨rfl, rfl⟩
  exact ⟨rfl, Grown.refl _⟩

/-! ### THE ROW's STEP -/
set_option maxRecDepth 100000 in
theorem lifted (os : Os) (started : os.Started) (H : Type) (enc : TypeId × Value → H) :
    ReturnsInHanded {} Yba.checked os 3 .any (Rows.lawS5552BWholeSpec.pre6 enc Yba.prog Yba.f3 Rows.lawS5552BWholeRow.domain false) (Rows.lawS5552BWholeSpec.post enc Yba.prog Yba.f3 false true false false) := by
  refine returnsInHanded_of_change (C := Yba.checked) own started (by kernel_rfl) Yba.func3
    (ChangeSpec.witness6 (enc := enc) (C := Yba.checked) false ⟨#[], #[.int .u64 0], []⟩ 8 (by kernel_rfl) (by kernel_rfl) (by kernel_rfl) (by kernel_rfl)) ?_
  intro W base args ds gs before hval0 hW hcnd _
  have hval : ∀ (j : Nat) t v, Yba.f3.params[j]? = some t → args[j]? = some v → Value.okWide Yba.prog W .any base t v := hval0
  have hW' := hW
  obtain ⟨p, q, hA0, hV, rfl, hfz, hnd⟩ := hW
  have hA : DataW.TrodAll enc Yba.prog W 0 (fun _ => true) true Yba.f3.params.toList args.toList ds p := hA0
  rw [Yba.params3] at hA hval
  obtain ⟨v0, vs0, d0, ds0, p0, q0, hargs, rfl, rfl, h0, r0⟩ := trodAll_cons hA
  obtain ⟨rfl, rfl, rfl⟩ := trodAll_nil r0
  obtain rfl : args = #[v0] := by cases args; simp_all
  obtain ⟨rfl, rfl⟩ := trodVars_none hV
  obtain ⟨a0, rfl, rfl, rfl, w0⟩ := open_int Yba.underlying22 (hval 0 22 v0 rfl rfl) h0
  clear hA0 hval0
  simp only [List.append_nil] at hW'
  refine (walk a0 w0 W).mono fun e W' ⟨he, hg⟩ => ?_
  subst he
  exact ⟨_, rfl, post_of_same (pa := []) (pv := []) hW' (fun _ _ _ => (trodAll_cons_mk (shut_bool Yba.underlying4 _) trodAll_mk0)) (fun sp _ => (trodAll_cons_mk (shut_int Yba.underlying22 w0) trodAll_mk0)) (fun _ _ => rfl) rfl
    (hg.frame _) hg.2.1 (ok_one (by kernel_rfl) rfl (okWide_bool_mk Yba.underlying4 _))⟩

theorem over : Rows.lawS5552BWholeRow.holds Yba.pinned (OpenSpec.ofChange Rows.lawS5552BWholeSpec) :=
  OpenClaim.holds_of_wide 3 Yba.f3 rfl rfl rfl rfl rfl rfl rfl ⟨rfl, rfl, rfl, rfl, rfl⟩ rfl rfl rfl rfl rfl (by kernel_rfl) Yba.func3 (by kernel_rfl)
    (of_decide_eq_true (by kernel_rfl)) (by unfold Func.isWrapper; first | (rw [if_pos (by decide +kernel)]; kernel_rfl) | (rw [if_neg (by decide +kernel)]; exact ⟨rfl, rfl⟩))
    (fun os started H enc _ => lifted os started H enc)

/-- THE STATEMENT -/
theorem proved : Rows.LawS5552BWholeSaid :=
  over
end Go.Proofs.Ybulkdjyo.lawS5552BWhole
