/-
  THE PROOF OF 'Rows.LawS5545BWholeSaid' ('game.LawS5545BWhole'): the frame written by the kit's proof-skeleton.mjs for this function; the walk and the plain law typed for it.
-/
import Derived.Test.YbulkdjuuRows
import Derived.WalkKit
import Derived.ProofKit
import Derived.OpenShut
import Derived.ShutString
namespace Go.Proofs.Ybulkdjuu.lawS5545BWhole
open Go.ChangeShapes Go.WideShapes Go.ChangeAt Go.RowKit
open Go.ChangeMaps (open_string shut_string)
set_option linter.unusedVariables false      -- a walk need not use every 'w<i>' (that an integer argument fits its kind)

theorem own : ownKnob Yba.prog.godebug = none := by kernel_rfl

/-! ### THE PLAIN LAW: no Go in sight -/
theorem tmod_pos (d s : Int) (h : 0 ≤ d) (hs : d < s) : d.tmod s = d := by
  rw [Int.tmod_eq_emod_of_nonneg h]; exact Int.emod_eq_of_lt h hs
theorem tmod_neg (d s : Int) (h : d < 0) (hs : -s < d) : d.tmod s = d := by
  have : d = -(-d) := by omega
  rw [this, Int.neg_tmod, Int.tmod_eq_emod_of_nonneg (by omega), Int.emod_eq_of_lt (by omega) (by omega)]
theorem tmod_id (d s : Int) (h : -s < d) (hs : d < s) : d.tmod s = d := by
  by_cases h0 : 0 ≤ d
  · exact tmod_pos d s h0 hs
  · exact tmod_neg d s (by omega) h
theorem mod_hi (d s : Int) (h : 0 ≤ d) (hs : d < s) : (d + s) % s = d := by
  rw [Int.add_emod_right]; exact Int.emod_eq_of_lt h hs
theorem mod_lo (d s : Int) (h : d < 0) (hs : -s < d) : (d + s) % s = d + s := Int.emod_eq_of_lt (by omega) (by omega)
theorem half_neg (s : Int) (h1 : 1 ≤ s) (h2 : s ≤ 1099511627776) : wrap64 (-(s - 1).tdiv 2) = -((s - 1) / 2) := by
  rw [Int.tdiv_eq_ediv_of_nonneg (by omega)]
  unfold wrap64
  omega

/-! ### STEP 1: THE WALK: the Go text returns true. Four ways, parted by the offset d: each test on the road is then decided by linear arithmetic. -/
theorem walk (a0 : Int) (a1 : Int) (w0 : (Lit.int .u64 a0).wf = true) (w1 : (Lit.int .u64 a1).wf = true) (w : World) :
    Calls Yba.prog 3 #[.int .u64 a0, .int .u64 a1] w fun e w' => e = .returned (.bool true) ∧ Grown w w' := by
  obtain ⟨b00, b01⟩ := bounds_u64 w0
  obtain ⟨b10, b11⟩ := bounds_u64 w1
  obtain ⟨s, hs⟩ : ∃ s, 1 + a0 % 1099511627776 = s := ⟨_, rfl⟩
  have s1 : 1 ≤ s := by omega
  have s2 : s ≤ 1099511627776 := by omega
  obtain ⟨t, ht⟩ : ∃ t, a1 % (2 * s - 1) = t := ⟨_, rfl⟩
  have t1 : 0 ≤ t := by rw [← ht]; exact Int.emod_nonneg _ (by omega)
  have t2 : t < 2 * s - 1 := by rw [← ht]; exact Int.emod_lt_of_pos _ (by omega)
  obtain ⟨d, hd⟩ : ∃ d, t - (s - 1) = d := ⟨_, rfl⟩
  have d1 : -s < d := by omega
  have d2 : d < s := by omega
  have hr := tmod_id d s d1 d2
  obtain ⟨q, hq, q1, q2⟩ : ∃ q, wrap64 (-(s - 1).tdiv 2) = q ∧ 2 * q ≤ 2 - s ∧ 1 - s ≤ 2 * q := ⟨_, half_neg s s1 s2, by omega, by omega⟩
  clear t1 t2
  by_cases h0 : 0 ≤ d
  · have hm := mod_hi d s h0 d2
    by_cases h1 : s / 2 < d
    · go_enter Yba.func3, Yba.ntmps3
      go_wp2
      go_ret
      exact ⟨rfl, by repeat (first | exact Grown.refl _ | apply Grown.drew | apply Grown.alloc)⟩
    · go_enter Yba.func3, Yba.ntmps3
      go_wp2
      go_ret
      exact ⟨rfl, by repeat (first | exact Grown.refl _ | apply Grown.drew | apply Grown.alloc)⟩
  · have hm := mod_lo d s (by omega) d1
    by_cases h1 : d < q
    · go_enter Yba.func3, Yba.ntmps3
      go_wp2
      go_ret
      exact ⟨rfl, by repeat (first | exact Grown.refl _ | apply Grown.drew | apply Grown.alloc)⟩
    · go_enter Yba.func3, Yba.ntmps3
      go_wp2
      go_ret
      exact ⟨rfl, by repeat (first | exact Grown.refl _ | apply Grown.drew | apply Grown.alloc)⟩

/-! ### THE ROW's STEP: WRITTEN OUT: LEAVE IT -/
set_option maxRecDepth 100000 in
theorem lifted (os : Os) (started : os.Started) (H : Type) (enc : TypeId × Value → H) :
    ReturnsInHanded {} Yba.checked os 3 .any (Rows.lawS5545BWholeSpec.pre6 enc Yba.prog Yba.f3 Rows.lawS5545BWholeRow.domain false) (Rows.lawS5545BWholeSpec.post enc Yba.prog Yba.f3 false true false false) := by
  refine returnsInHanded_of_change (C := Yba.checked) own started (by kernel_rfl) Yba.func3
    (ChangeSpec.witness6 (enc := enc) (C := Yba.checked) false ⟨#[], #[.int .u64 0, .int .u64 0], []⟩ 8 (by kernel_rfl) (by kernel_rfl) (by kernel_rfl) (by kernel_rfl)) ?_
  intro W base args ds gs before hval0 hW hcnd _
  have hval : ∀ (j : Nat) t v, Yba.f3.params[j]? = some t → args[j]? = some v → Value.okWide Yba.prog W .any base t v := hval0
  have hW' := hW
  obtain ⟨p, q, hA0, hV, rfl, hfz, hnd⟩ := hW
  have hA : DataW.TrodAll enc Yba.prog W 0 (fun _ => true) true Yba.f3.params.toList args.toList ds p := hA0
  rw [Yba.params3] at hA hval
  obtain ⟨v0, vs0, d0, ds0, p0, q0, hargs, rfl, rfl, h0, r0⟩ := trodAll_cons hA
  obtain ⟨v1, vs1, d1, ds1, p1, q1, rfl, rfl, rfl, h1, r1⟩ := trodAll_cons r0
  obtain ⟨rfl, rfl, rfl⟩ := trodAll_nil r1
  obtain rfl : args = #[v0, v1] := by cases args; simp_all
  obtain ⟨rfl, rfl⟩ := trodVars_none hV
  obtain ⟨a0, rfl, rfl, rfl, w0⟩ := open_int Yba.underlying22 (hval 0 22 v0 rfl rfl) h0
  obtain ⟨a1, rfl, rfl, rfl, w1⟩ := open_int Yba.underlying22 (hval 1 22 v1 rfl rfl) h1
  clear hA0 hval0
  simp only [List.append_nil] at hW'
  refine (walk a0 a1 w0 w1 W).mono fun e W' ⟨he, hg⟩ => ?_
  subst he
  exact ⟨_, rfl, post_of_same (pa := []) (pv := []) hW' (fun _ _ _ => (trodAll_cons_mk (shut_bool Yba.underlying4 _) trodAll_mk0)) (fun sp _ => (trodAll_cons_mk (shut_int Yba.underlying22 w0) (trodAll_cons_mk (shut_int Yba.underlying22 w1) trodAll_mk0))) (fun _ _ => rfl) rfl
    (hg.frame _) hg.2.1 (ok_one (by kernel_rfl) rfl (okWide_bool_mk Yba.underlying4 _))⟩

theorem over : Rows.lawS5545BWholeRow.holds Yba.pinned (OpenSpec.ofChange Rows.lawS5545BWholeSpec) :=
  OpenClaim.holds_of_wide 3 Yba.f3 rfl rfl rfl rfl rfl rfl rfl ⟨rfl, rfl, rfl, rfl, rfl⟩ rfl rfl rfl rfl rfl (by kernel_rfl) Yba.func3 (by kernel_rfl)
    (of_decide_eq_true (by kernel_rfl)) (by unfold Func.isWrapper; first | (rw [if_pos (by decide +kernel)]; kernel_rfl) | (rw [if_neg (by decide +kernel)]; exact ⟨rfl, rfl⟩))
    (fun os started H enc _ => lifted os started H enc)

/-- ████ THE STATEMENT ████ -/
theorem proved : Rows.LawS5545BWholeSaid :=
  over
end Go.Proofs.Ybulkdjuu.lawS5545BWhole
