/-
  THE PROOF OF 'Rows.LawS5547BWholeSaid' ('jsonform.LawS5547BWhole'): the frame written by the kit's proof-skeleton.mjs for this function; the walks typed for it.
-/
import Derived.Test.YbulkdjvwHex
namespace Go.Proofs.Ybulkdjvw.lawS5547BWhole
open Go.ChangeShapes Go.WideShapes Go.ChangeAt Go.RowKit
open Go.ChangeMaps (open_string shut_string)
set_option linter.unusedVariables false

theorem own : ownKnob Yba.prog.godebug = none := by kernel_rfl
theorem laidOut : laidOutB Yba.prog = true := by kernel_rfl

/-- WHAT THE WALK IS TOLD OF A SLICE OF INTEGERS THAT CAME IN: it is nil; or it leads to a row of 'cap' cells, the numbers 'zs' (the first 'len' are its elements, the rest its spare room), each fitting its kind. -/
def IsRow (k : IntKind) (w : World) (a : Option Addr) (len cap : Nat) (zs : List Int) : Prop :=
  (a = none ∧ len = 0 ∧ cap = 0 ∧ zs = []) ∨
  ∃ x, a = some x ∧ len ≤ cap ∧ cap ≤ maxLen ∧ zs.length = cap ∧ (∀ i, i < zs.length → w.cell? (x.add i) = some (.int k (zs.getD i 0))) ∧ ∀ n ∈ zs, (Lit.int k n).wf = true

theorem walk_long (a : Option Addr) (len cap : Nat) (i off : Int) (w : World) (h : 1048576 < len) :
    Calls Yba.prog 4 #[.slice a len cap, .int .i64 i, .int .i64 off] w fun e w' => e = .returned (.bool true) ∧ Below w.heap.size w w' := by
  go_enter Yba.func4, Yba.ntmps4
  go_wp2
  go_ret
  exact ⟨rfl, Below.refl _ _⟩
theorem walk_out (a : Option Addr) (len cap : Nat) (i off : Int) (w : World) (h : len ≤ 1048576) (hi : i < 0 ∨ 1099511627776 < i) :
    Calls Yba.prog 4 #[.slice a len cap, .int .i64 i, .int .i64 off] w fun e w' => e = .returned (.bool true) ∧ Below w.heap.size w w' := by
  rcases hi with hi | hi
  · go_enter Yba.func4, Yba.ntmps4
    go_wp2
    go_ret
    exact ⟨rfl, Below.refl _ _⟩
  · have hi0 : 0 ≤ i := by omega
    go_enter Yba.func4, Yba.ntmps4
    go_wp2
    go_ret
    exact ⟨rfl, Below.refl _ _⟩

set_option maxHeartbeats 1000000 in
theorem walk_nil (i : Nat) (off : Int) (w : World) (hi : i ≤ 1099511627776) :
    Calls Yba.prog 4 #[.slice none 0 0, .int .i64 i, .int .i64 off] w fun e w' => e = .returned (.bool true) ∧ Below w.heap.size w w' := by
  have hn := fun w a n c => Lib.run_eql_slice_nil (P := Yba.prog) w 22 5 a n c 0 0 Yba.underlying22
  go_enter Yba.func4, Yba.ntmps4
  go_wp2_with fail
  refine (copy_nil 0 0 _).mono ?_
  rintro e w' ⟨rfl, rfl⟩
  go_wp2_with fail
  refine (hex4_no w.heap.size 0 0 i none _ hi (by simp [go_sem]) (by omega)).mono ?_
  rintro e w' ⟨rfl, rfl⟩
  go_wp2_with fail
  refine (equal_same none none 0 0 0 [] _ rfl (fun i hi => by simp at hi) (fun i hi => by simp at hi)).mono ?_
  rintro e w' ⟨rfl, rfl⟩
  go_wp2
  go_ret
  exact ⟨rfl, (Below.refl _ _).alloc (Nat.le_refl _) _⟩

set_option maxHeartbeats 1000000 in
theorem walk_no (x : Addr) (len cap i : Nat) (off : Int) (zs : List Int) (w : World) (hl : zs.length = len) (h20 : len ≤ 1048576) (hc : BytesAt w (some x) zs) (hi : i ≤ 1099511627776) (hno : len < i + 4) :
    Calls Yba.prog 4 #[.slice (some x) len cap, .int .i64 i, .int .i64 off] w fun e w' => e = .returned (.bool true) ∧ Below w.heap.size w w' := by
  have HL : Hid (zs.length = len) := hl
  clear hl
  have hn := fun w a n c => Lib.run_eql_slice_nil (P := Yba.prog) w 22 5 a n c 0 0 Yba.underlying22
  go_enter Yba.func4, Yba.ntmps4
  go_wp2_with fail
  refine (copy_some x len cap zs _ HL.out (by omega) hc).mono ?_
  rintro e w1 ⟨rfl, hc1, hb1⟩
  go_wp2_with fail
  refine (hex4_no w1.heap.size len cap i (some x) _ hi (by simp [go_sem]) hno).mono ?_
  rintro e w' ⟨rfl, rfl⟩
  go_wp2_with fail
  refine (equal_same (some x) (some ⟨w.heap.size, 0, none⟩) len cap len zs _ HL.out (hc.later (hb1.alloc hb1.size _)) (hc1.later ((Below.refl _ _).alloc (Nat.le_refl _) _))).mono ?_
  rintro e w' ⟨rfl, rfl⟩
  go_wp2
  go_ret
  exact ⟨rfl, hb1.alloc hb1.size _⟩

set_option maxHeartbeats 4000000 in
theorem walk_yes (x : Addr) (len cap i : Nat) (off : Int) (zs : List Int) (w : World) (hl : zs.length = len) (h20 : len ≤ 1048576) (hlc : len ≤ cap) (hc : BytesAt w (some x) zs) (hi : i ≤ 1099511627776) (hyes : i + 4 ≤ len) :
    Calls Yba.prog 4 #[.slice (some x) len cap, .int .i64 i, .int .i64 off] w fun e w' => e = .returned (.bool true) ∧ Below w.heap.size w w' := by
  have HL : Hid (zs.length = len) := hl
  clear hl
  obtain ⟨H, hH⟩ : ∃ H, hv ((zs.drop i).take 4) = H := ⟨_, rfl⟩
  have HH : Hid (hv ((zs.drop i).take 4) = H) := hH
  clear hH
  have hn := fun w a n c => Lib.run_eql_slice_nil (P := Yba.prog) w 22 5 a n c 0 0 Yba.underlying22
  have h41 : decide ((i : Int) ≤ (len : Int) - 4) = true := decide_eq_true (by omega)
  go_enter Yba.func4, Yba.ntmps4
  go_wp2_with fail
  refine (copy_some x len cap zs _ HL.out (by omega) hc).mono ?_
  rintro e w1 ⟨rfl, hc1, hb1⟩
  go_wp2_with fail
  obtain ⟨w2, hw2⟩ : ∃ w2, w1.alloc (.cells #[.slice (some x) len cap, .int .i64 off] 30) = w2 := ⟨_, rfl⟩
  have hd : w2.cell? ⟨w1.heap.size, 0, none⟩ = some (.slice (some x) len cap) := by rw [← hw2]; simp [go_sem]
  have ho : w2.cell? ⟨w1.heap.size, 1, none⟩ = some (.int .i64 off) := by rw [← hw2]; simp [go_sem]
  have hb2 : Below w.heap.size w w2 := by rw [← hw2]; exact hb1.alloc hb1.size _
  have hc2 : BytesAt w2 (some ⟨w.heap.size, 0, none⟩) zs := by rw [← hw2]; exact hc1.later ((Below.refl _ _).alloc (Nat.le_refl _) _)
  have hx2 : BytesAt w2 (some x) zs := hc.later hb2
  rw [hw2]
  clear hw2 hc1
  have hyes4 := hex4_yes w1.heap.size len cap i (some x) zs w2 HL.out (by omega) hlc hx2 hd hyes
  rw [HH.out] at hyes4
  refine hyes4.mono ?_
  clear hyes4
  rintro e w' ⟨rfl, rfl⟩
  go_wp2
  go_loop [12, 13, 14] (fun ok acc t => ∃ k : Nat, k ≤ 4 ∧ t = .int .i64 k ∧ ok = .bool true ∧ ∃ R : Int, acc = .int .i64 R ∧ Hid (hv ((zs.drop i).take k) = some R) ∧ 0 ≤ R ∧ R < 16 ^ k) (fun _ _ t => 4 - (intOf t).toNat)
  case atStart => exact ⟨0, Nat.zero_le _, rfl, rfl, 0, rfl, (show _ = _ from rfl), by omega, by omega⟩
  case round =>
    obtain ⟨k, hk, rfl, rfl, R, rfl, HR, hR0, hR1⟩ := hrel
    by_cases hlt : k < 4
    · obtain ⟨b', off', e, hcell, hc0, hc1⟩ := hx2 (i + k) (by rw [HL.out]; omega)
      simp at e
      obtain rfl := e
      have hR2 : R < 4096 := pow_lt R k hR1 hlt
      have HS : Hid (hv ((zs.drop i).take (k + 1)) = stepH (some R) (zs.getD (i + k) 0)) := hv_step zs i k R HR.out (by rw [HL.out]; omega)
      have HP : Hid (∀ d : Int, d < 16 → R * 16 + d < 16 ^ (k + 1)) := fun d => pow_next R d k hR1
      generalize zs.getD (i + k) 0 = c at *
      have hvb := hexval_bd c
      have HD : Hid (∀ wx, Calls Yba.prog 10 #[.int .u8 c] wx fun e w' => e = .returned (.int .i64 (hexval c)) ∧ wx = w') := fun wx => dig_any c wx hc0 hc1
      obtain ⟨d, hd'⟩ : ∃ d, hexval c = d := ⟨_, rfl⟩
      rw [hd'] at hvb HD
      have HDD : Hid (hexval c = d) := hd'
      clear hd' hR1 HR
      obtain ⟨hv0, hv1⟩ := hvb
      by_cases hneg : d < 0
      · have hV : H = none := by
          rw [← HH.out]
          exact hv_cut zs i k hlt (by rw [HS.out, step_no R c (by rw [HDD.out]; omega)])
        subst hV
        go_wp2_with (first | (go_at_call 10; refine (HD.out _).mono ?_; rintro e w' ⟨rfl, rfl⟩) | (go_at_call 11; refine (equal_same _ _ len cap len zs _ HL.out hx2 hc2).mono ?_; rintro e w' ⟨rfl, rfl⟩))
        go_ret
        exact ⟨rfl, hb2⟩
      · have HV : Hid (hv ((zs.drop i).take (k + 1)) = some (R * 16 + d)) := by have := HS.out; rw [step_yes R c d HDD.out (by omega)] at this; exact this
        go_wp2_with (go_at_call 10; refine (HD.out _).mono ?_; rintro e w' ⟨rfl, rfl⟩)
        go_round
        case rel => exact ⟨k + 1, by omega, by go_num, rfl, _, rfl, HV, by omega, HP.out _ (by omega)⟩
        case measure => simp [intOf]; omega
    · obtain rfl : k = 4 := by omega
      have hV : H = some R := by rw [← HH.out, HR.out]
      subst hV
      have hR3 : R < 65536 := by simpa using hR1
      clear HH HR hR1
      go_wp2_with (go_at_call 11; refine (equal_same _ _ len cap len zs _ HL.out hx2 hc2).mono ?_; rintro e w' ⟨rfl, rfl⟩)
      go_ret
      exact ⟨rfl, hb2⟩
/-! ### STEP 1: THE WALK -/
theorem walk (a0 : Option Addr) (len0 cap0 : Nat) (z0 : List Int) (a1 : Int) (a2 : Int) (w : World) (w0 : IsRow .u8 w a0 len0 cap0 z0) (w1 : (Lit.int .i64 a1).wf = true) (w2 : (Lit.int .i64 a2).wf = true) :
    Calls Yba.prog 4 #[.slice a0 len0 cap0, .int .i64 a1, .int .i64 a2] w fun e w' => e = .returned (.bool true) ∧ Below w.heap.size w w' := by
  by_cases h20 : len0 ≤ 1048576
  · by_cases hi : 0 ≤ a1 ∧ a1 ≤ 1099511627776
    · obtain ⟨i, rfl⟩ := Int.eq_ofNat_of_zero_le hi.1
      rcases w0 with ⟨rfl, rfl, rfl, rfl⟩ | ⟨x, rfl, hl, hm, hz, hcell, hwz⟩
      · exact walk_nil i a2 w (by omega)
      · by_cases hy : i + 4 ≤ len0
        · exact walk_yes x len0 cap0 i a2 (z0.take len0) w (by simp; omega) h20 hl (bytesAt_of len0 hcell hwz) (by omega) hy
        · exact walk_no x len0 cap0 i a2 (z0.take len0) w (by simp; omega) h20 (bytesAt_of len0 hcell hwz) (by omega) (by omega)
    · exact walk_out a0 len0 cap0 a1 a2 w h20 (by omega)
  · exact walk_long a0 len0 cap0 a1 a2 w (by omega)

/-! ### THE ROW's STEP: WRITTEN OUT: LEAVE IT -/
set_option maxRecDepth 100000 in
theorem lifted (os : Os) (started : os.Started) (H : Type) (enc : TypeId × Value → H) :
    ReturnsInHanded {} Yba.checked os 4 .any (Rows.lawS5547BWholeSpec.pre6 enc Yba.prog Yba.f4 Rows.lawS5547BWholeRow.domain false) (Rows.lawS5547BWholeSpec.post enc Yba.prog Yba.f4 false true false false) := by
  refine returnsInHanded_of_change (C := Yba.checked) own started (by kernel_rfl) Yba.func4
    (ChangeSpec.witness6 (enc := enc) (C := Yba.checked) false ⟨#[], #[.slice none 0 0, .int .i64 0, .int .i64 0], []⟩ 8 (by kernel_rfl) (by kernel_rfl) (by kernel_rfl) (by kernel_rfl)) ?_
  intro W base args ds gs before hval0 hW hcnd _
  have hval : ∀ (j : Nat) t v, Yba.f4.params[j]? = some t → args[j]? = some v → Value.okWide Yba.prog W .any base t v := hval0
  have hW' := hW
  obtain ⟨p, q, hA0, hV, rfl, hfz, hnd⟩ := hW
  have hA : DataW.TrodAll enc Yba.prog W 0 (fun _ => true) true Yba.f4.params.toList args.toList ds p := hA0
  rw [Yba.params4] at hA hval
  obtain ⟨v0, vs0, d0, ds0, p0, q0, hargs, rfl, rfl, h0, r0⟩ := trodAll_cons hA
  obtain ⟨v1, vs1, d1, ds1, p1, q1, rfl, rfl, rfl, h1, r1⟩ := trodAll_cons r0
  obtain ⟨v2, vs2, d2, ds2, p2, q2, rfl, rfl, rfl, h2, r2⟩ := trodAll_cons r1
  obtain ⟨rfl, rfl, rfl⟩ := trodAll_nil r2
  obtain rfl : args = #[v0, v1, v2] := by cases args; simp_all
  obtain ⟨rfl, rfl⟩ := trodVars_none hV
  obtain ⟨a0, len0, cap0, rfl⟩ := okWide_slice Yba.underlying22 (hval 0 22 v0 rfl rfl)
  have k0 := h0
  have lt0 : ∀ x ∈ p0, x.block < W.heap.size := by obtain ⟨m, hm⟩ := k0; exact DataW.trod_lt m _ _ _ hm
  obtain ⟨z0, w0⟩ : ∃ zs, IsRow .u8 W a0 len0 cap0 zs := by
    obtain ⟨fuel, hf⟩ := h0
    rcases open_ints Yba.underlying22 Yba.underlying5 (by kernel_rfl) hf with ⟨hcs, _⟩ | ⟨x, l, c, zs, hcs, _, hl, hm, hz, _, hcell, hwz⟩
    · simp [Value.cells] at hcs
      obtain ⟨rfl, rfl, rfl⟩ := hcs
      exact ⟨[], .inl ⟨rfl, rfl, rfl, rfl⟩⟩
    · simp [Value.cells] at hcs
      obtain ⟨rfl, rfl, rfl⟩ := hcs
      exact ⟨zs, .inr ⟨_, rfl, hl, hm, by simpa using hz, hcell, hwz⟩⟩
  obtain ⟨a1, rfl, rfl, rfl, w1⟩ := open_int Yba.underlying3 (hval 1 3 v1 rfl rfl) h1
  obtain ⟨a2, rfl, rfl, rfl, w2⟩ := open_int Yba.underlying3 (hval 2 3 v2 rfl rfl) h2
  clear hA0 hval0
  refine (walk a0 len0 cap0 z0 a1 a2 W w0 w1 w2).mono fun e W' ⟨he, bel⟩ => ?_
  subst he
  exact ⟨_, rfl, _, _, _, [], _, [], hW', trodAll_mk1 (shut_bool Yba.underlying4 _), (trodAll_cons_mk (Below.trod laidOut (by kernel_rfl) (of_decide_eq_true (by kernel_rfl)) k0 bel lt0) (trodAll_cons_mk (shut_int Yba.underlying3 w1) (trodAll_cons_mk (shut_int Yba.underlying3 w2) trodAll_mk0))), rfl, bel.frame _, fun h => by cases h⟩

theorem over : Rows.lawS5547BWholeRow.holds Yba.pinned (OpenSpec.ofChange Rows.lawS5547BWholeSpec) :=
  OpenClaim.holds_of_wide 4 Yba.f4 rfl rfl rfl rfl rfl rfl rfl ⟨rfl, rfl, rfl, rfl, rfl⟩ rfl rfl rfl rfl rfl (by kernel_rfl) Yba.func4 (by kernel_rfl)
    (of_decide_eq_true (by kernel_rfl)) (by unfold Func.isWrapper; first | (rw [if_pos (by decide +kernel)]; kernel_rfl) | (rw [if_neg (by decide +kernel)]; exact ⟨rfl, rfl⟩))
    (fun os started H enc _ => lifted os started H enc)

/-- ████ THE STATEMENT ████ -/
theorem proved : Rows.LawS5547BWholeSaid := over
end Go.Proofs.Ybulkdjvw.lawS5547BWhole
