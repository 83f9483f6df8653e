/-
  THE PROOF OF 'Rows.LawS5547AWholeSaid' ('jsonform.LawS5547AWhole'): the frame written by the kit's proof-skeleton.mjs for this function; the plain law and the walks typed for it.
-/
import Derived.Test.YbulkdjvwBase
import Derived.Laws.Bits64b
namespace Go.Proofs.Ybulkdjvw.lawS5547AWhole
open Go.ChangeShapes Go.WideShapes Go.ChangeAt Go.RowKit
open Go.ChangeMaps (open_string shut_string)
set_option linter.unusedVariables false

theorem own : ownKnob Yba.prog.godebug = none := by kernel_rfl
theorem laidOut : laidOutB Yba.prog = true := by kernel_rfl

/-- WHAT THE WALK IS TOLD OF A SLICE OF INTEGERS THAT CAME IN: it is nil; or it leads to a row of 'cap' cells, the numbers 'zs' (the first 'len' are its elements, the rest its spare room), each fitting its kind. -/
def IsRow (k : IntKind) (w : World) (a : Option Addr) (len cap : Nat) (zs : List Int) : Prop :=
  (a = none ∧ len = 0 ∧ cap = 0 ∧ zs = []) ∨
  ∃ x, a = some x ∧ len ≤ cap ∧ cap ≤ maxLen ∧ zs.length = cap ∧ (∀ i, i < zs.length → w.cell? (x.add i) = some (.int k (zs.getD i 0))) ∧ ∀ n ∈ zs, (Lit.int k n).wf = true

theorem ret_int {k : IntKind} {a b : Int} (h : a = b) : Ending.returned (.int k a) = .returned (.int k b) := by rw [h]

/-! ### THE PLAIN LAW: no Go in sight -/
/-- What one byte counts for. -/
def dig (c : Int) : Int := (c + 208) % 256
/-- What 'number' gathers, before it wraps round. -/
def val (zs : List Int) : Int := zs.foldl (fun n c => n * 10 + dig c) 0
theorem val_snoc (l : List Int) (c : Int) : val (l ++ [c]) = val l * 10 + dig c := by simp [val]
theorem fold_shift (l : List Int) (n : Int) : l.foldl (fun n c => n * 10 + dig c) n = n * 10 ^ l.length + val l := by
  induction l generalizing n with
  | nil => simp [val]
  | cons c l ih =>
    have h1 := ih (n * 10 + dig c)
    have h2 := ih (0 * 10 + dig c)
    simp only [val, List.foldl_cons, List.length_cons] at h1 h2 ⊢
    rw [h1, h2, Int.pow_succ]
    simp only [Int.zero_mul, Int.zero_add, Int.add_mul, Int.mul_assoc]
    rw [Int.mul_comm 10 (10 ^ l.length)]
    omega
theorem val_cons (c : Int) (l : List Int) : val (c :: l) = dig c * 10 ^ l.length + val l := by
  have := fold_shift l (0 * 10 + dig c)
  simp only [val, List.foldl_cons] at this ⊢
  rw [this]; simp
def two64 : Int := 18446744073709551616
theorem step_n (V c : Int) : wrap64 (wrap64 (wrap64 V * 10) + (c - 48) % 256) = wrap64 (V * 10 + dig c) := by
  unfold wrap64 dig; omega
theorem step_want (V P d : Int) : (V % two64 + (d * (P % two64)) % two64) % two64 = (d * P + V) % two64 := by
  rw [← Int.add_emod, Int.add_comm, Int.add_emod, Int.mul_emod d (P % two64), Int.emod_emod, ← Int.mul_emod, ← Int.add_emod]
theorem step_p (P : Int) : ((P % two64) * 10) % two64 = (P * 10) % two64 := by
  rw [Int.mul_emod, Int.emod_emod, ← Int.mul_emod]
theorem same_at_last (V : Int) : wrap64 (V % two64) = wrap64 V := by unfold wrap64 two64; omega

set_option maxHeartbeats 400000 in
theorem number_any (a : Option Addr) (len cap : Nat) (zs : List Int) (w : World) (hl : zs.length = len) (h20 : len ≤ 1048576) (hc : BytesAt w a zs) :
    Calls Yba.prog 6 #[.slice a len cap] w fun e w' => e = .returned (.int .i64 (wrap64 (val zs))) ∧ w = w' := by
  have HL : Hid (zs.length = len) := hl
  clear hl
  go_enter Yba.func6, Yba.ntmps6
  go_wp2
  go_loop [3, 8] (fun n i => ∃ k : Nat, k ≤ len ∧ i = .int .i64 k ∧ n = .int .i64 (wrap64 (val (zs.take k)))) (fun _ i => len - (intOf i).toNat)
  case atStart => exact ⟨0, Nat.zero_le _, rfl, by simp [val, wrap64]⟩
  case round =>
    obtain ⟨k, hk, rfl, rfl⟩ := hrel
    by_cases hlt : k < len
    · obtain ⟨b, off, rfl, hcell, hb0, hb1⟩ := hc k (by rw [HL.out]; exact hlt)
      have HV : Hid (val (zs.take (k+1)) = val (zs.take k) * 10 + dig (zs.getD k 0)) := by rw [take_snoc zs k (by rw [HL.out]; exact hlt), val_snoc]; exact rfl
      generalize val (zs.take k) = V at HV ⊢
      generalize zs.getD k 0 = c at *
      go_wp2
      go_round
      case rel => exact ⟨k + 1, by omega, by go_num, by rw [HV.out, step_n]⟩
      case measure => simp [intOf]; omega
    · go_wp2
      go_ret
      exact ⟨ret_int (by rw [List.take_of_length_le (by rw [HL.out]; omega)]), rfl⟩

theorem dig_bits (c : Int) (h0 : 0 ≤ c) (h1 : c ≤ 255) : bits BinOp.and IntKind.u64 (c + 208) 255 = dig c := by
  obtain ⟨n, hn⟩ := Int.eq_ofNat_of_zero_le (a := c + 208) (by omega)
  have e : (255 : Int) = ((255 : Nat) : Int) := rfl
  rw [dig, hn, e, bits_and_u64_nat n 255 (by omega) (by omega), Nat.and_two_pow_sub_one_eq_mod n 8]
  omega
theorem digit_any (c : Int) (w : World) (h0 : 0 ≤ c) (h1 : c ≤ 255) :
    Calls Yba.prog 7 #[.int .u8 c] w fun e w' => e = .returned (.int .u64 (dig c)) ∧ w = w' := by
  go_enter Yba.func7, Yba.ntmps7
  go_wp2
  go_ret
  exact ⟨ret_int (dig_bits c h0 h1), rfl⟩



theorem walk_long (a : Option Addr) (len cap : Nat) (w : World) (h : 1048576 < len) :
    Calls Yba.prog 3 #[.slice a len cap] w fun e w' => e = .returned (.bool true) ∧ Below w.heap.size w w' := by
  go_enter Yba.func3, Yba.ntmps3
  go_wp2
  go_ret
  exact ⟨rfl, Below.refl _ _⟩


theorem made_row {w1 : World} {base g e n : Nat} {xs : List Value} (h : w1.ownsRow base e 1 (.slice (some ⟨g, 0, none⟩) n n) n xs) : ∃ cur : List Value, Hid (w1.heap[g]? = some (.cells cur.toArray e (0, 0))) ∧ Hid (cur.length = n) := by
  obtain ⟨_, h | ⟨g', cap, cur, hv, _, hh, _, _, hs, _⟩⟩ := h
  · simp at h
  · simp at hv
    obtain ⟨rfl, rfl⟩ := hv
    exact ⟨cur.toList, show _ = _ by simpa using hh, show _ = _ by simpa using hs⟩

theorem pow_step (k : Nat) (len : Nat) (h : k < len) : (10 : Int) ^ (len - k) = 10 ^ (len - (k + 1)) * 10 := by
  rw [show len - k = (len - (k + 1)) + 1 from by omega, Int.pow_succ]


theorem copy_src {w1 : World} {a : Option Addr} {zs : List Int} {X : List Value} (HX : X = zs.map (Value.int .u8)) (h : BytesAt w1 a zs) :
    0 < X.length → ∃ ad, a = some ad ∧ ∀ (j : Nat) (v : Value), X[j]? = some v → w1.cell? (ad.add j) = some v := by
  subst HX
  intro h0
  obtain ⟨b, off, rfl, _⟩ := h 0 (by simpa using h0)
  refine ⟨_, rfl, fun j v hv => ?_⟩
  have hj : j < zs.length := by
    have := (List.getElem?_eq_some_iff.1 hv).1
    simpa using this
  obtain ⟨b', off', e, hcell, _⟩ := h j hj
  simp at e
  obtain ⟨rfl, rfl⟩ := e
  rw [add_plain, hcell]
  simp [List.getElem?_eq_getElem hj] at hv ⊢
  exact hv
theorem copy_one {zs : List Int} {X : List Value} (HX : X = zs.map (Value.int .u8)) : ∀ v ∈ X, v.oneCell' = true := by
  subst HX
  intro v hv
  obtain ⟨n, _, rfl⟩ := List.mem_map.1 hv
  rfl

theorem want_step (zs : List Int) (j len : Nat) (hl : zs.length = len) (hj : j < len) (X Y : Int) (hX : X = val (zs.drop (j + 1)) % two64) (hY : Y = 10 ^ (len - (j + 1)) % two64) :
    (X + (dig (zs.getD j 0) * Y) % 18446744073709551616) % 18446744073709551616 = val (zs.drop j) % two64 := by
  rw [drop_cons zs j (by omega), val_cons, List.length_drop, hl, ← step_want, ← hX, ← hY]
  rfl
theorem p_step (j len : Nat) (hj : j < len) (Y : Int) (hY : Y = 10 ^ (len - (j + 1)) % two64) : (Y * 10) % 18446744073709551616 = 10 ^ (len - j) % two64 := by
  rw [pow_step j len hj, ← step_p, ← hY]
  rfl
theorem mod_bd (x : Int) : 0 ≤ x % two64 ∧ x % two64 ≤ 18446744073709551615 := by unfold two64; omega
theorem dig_bd (c : Int) : 0 ≤ dig c ∧ dig c ≤ 255 := by unfold dig; omega

set_option maxHeartbeats 1000000 in
theorem walk_row (a : Option Addr) (len cap : Nat) (zs : List Int) (w : World) (hl : zs.length = len) (h20 : len ≤ 1048576) (hc : BytesAt w a zs) :
    Calls Yba.prog 3 #[.slice a len cap] w fun e w' => e = .returned (.bool true) ∧ Below w.heap.size w w' := by
  have HL : Hid (zs.length = len) := hl
  clear hl
  obtain ⟨i0, hi, hz0, hz1, hz2⟩ := info_parts Yba.info5
  obtain ⟨X, hX⟩ : ∃ X, X = zs.map (Value.int .u8) := ⟨_, rfl⟩
  have HX : Hid (X = zs.map (Value.int .u8)) := hX
  have HXL : Hid (X.length = len) := by rw [hX]; simp; exact HL.out
  clear hX
  go_enter Yba.func3, Yba.ntmps3
  go_wp2_with (first
    | (at_make; refine wpList_make_full _ rfl (.tmp 13) (.tmp 13) 22 rfl w.heap.size 5 i0 (.int .u8 0) 1 Yba.underlying22 hi hz0 hz1 _ _ _ _ len rfl rfl rfl rfl (by rw [hz2]; omega) (by unfold maxLen; omega) (Nat.le_refl _) ?_; intro w1 hown hgrow; obtain ⟨cur, HG, HCL⟩ := made_row hown; have hb1 := (Below.refl w.heap.size w).grown hgrow (Nat.le_refl _) (fun k h => by cases h); have HC1 := BytesAt.later hc hb1; clear hown hgrow)
    | (refine wpList_copy_splice rfl (.tmp 15) (.tmp 16) 22 22 rfl 5 Yba.underlying22 Yba.size5 _ _ _ _ _ _ rfl rfl w.heap.size 0 cur 5 HG.out X ?_ ?_ ?_ ?_ w.heap.size w hb1 (Nat.le_refl _) ?_; rotate_right; intro w2 HG2 hB2))
  case refine_1 => rw [HXL.out]; exact (Nat.min_self _).symm
  case refine_2 => exact copy_src HX.out HC1
  case refine_3 => rw [HXL.out, HCL.out]; omega
  case refine_4 => exact copy_one HX.out
  clear hi hz0 hz1 hz2
  have hc2 := hc.later hB2
  have hd2 : BytesAt w2 (some ⟨w.heap.size, 0, none⟩) zs := bytesAt_of_row hc (by have := HG2.out; rw [splice_all _ _ (by rw [HXL.out, HCL.out]), HX.out] at this; exact this)
  clear HG2 HC1 HG HCL hb1
  refine (number_any a len cap zs w2 HL.out h20 hc2).mono ?_
  rintro e w' ⟨rfl, rfl⟩
  obtain ⟨G, hG⟩ : ∃ G, wrap64 (val zs) = G := ⟨_, rfl⟩
  have HGG : Hid (wrap64 (val zs) = G) := hG
  rw [hG]
  clear hG
  go_wp2
  go_loop [5, 6, 7] (fun x p i => ∃ k : Nat, k ≤ len ∧ i = .int .i64 ((k : Int) - 1) ∧ ∃ X Y : Int, x = .int .u64 X ∧ p = .int .u64 Y ∧ Hid (X = val (zs.drop k) % two64) ∧ Hid (Y = 10 ^ (len - k) % two64)) (fun _ _ i => (intOf i + 1).toNat)
  case atStart => exact ⟨len, Nat.le_refl _, rfl, 0, 1, rfl, rfl, (show _ = _ by rw [List.drop_eq_nil_of_le (by rw [HL.out]; omega)]; rfl), (show _ = _ by rw [Nat.sub_self]; rfl)⟩
  case round =>
    obtain ⟨k, hk, rfl, X, Y, rfl, rfl, HX', HY⟩ := hrel
    have bX : 0 ≤ X ∧ X ≤ 18446744073709551615 := by rw [HX'.out]; exact mod_bd _
    have bY : 0 ≤ Y ∧ Y ≤ 18446744073709551615 := by rw [HY.out]; exact mod_bd _
    obtain ⟨bX0, bX1⟩ := bX
    obtain ⟨bY0, bY1⟩ := bY
    by_cases hlt : 0 < k
    · obtain ⟨j, rfl⟩ : ∃ j, k = j + 1 := ⟨k - 1, by omega⟩
      obtain ⟨b, off, e, hcell, hc0, hc1⟩ := hd2 j (by rw [HL.out]; omega)
      simp at e
      obtain ⟨rfl, rfl⟩ := e
      simp only [Nat.zero_add] at hcell
      have HW := want_step zs j len HL.out (by omega) X Y HX'.out HY.out
      have HW : Hid _ := HW
      have HP : Hid _ := p_step j len (by omega) Y HY.out
      generalize zs.getD j 0 = c at *
      have ej : (((j + 1 : Nat) : Int) - 1) = (j : Int) := by omega
      rw [ej]
      clear ej HX' HY
      go_wp2_with (go_at_call 7; refine (digit_any _ _ hc0 hc1).mono ?_; rintro e w' ⟨rfl, rfl⟩)
      go_round
      case rel => exact ⟨j, by omega, rfl, _, _, rfl, rfl, (show _ = _ by rw [IntKind.wrap_u64, IntKind.wrap_u64]; exact HW.out), (show _ = _ by rw [IntKind.wrap_u64]; exact HP.out)⟩
      case measure => simp [intOf]
    · obtain rfl : k = 0 := by omega
      have hGX : wrap64 X = G := by rw [HX'.out, List.drop_zero, same_at_last, HGG.out]
      clear HX' HY HGG
      go_wp2
      go_loopw [8] (fun i wr => ∃ k : Nat, k ≤ len ∧ i = .int .i64 k ∧ ∃ n, wr = w2.drewN n) (fun i _ => len - (intOf i).toNat)
      case atStart => exact ⟨0, Nat.zero_le _, rfl, 0, rfl⟩
      case round =>
        obtain ⟨k, hk, rfl, n, rfl⟩ := hrel
        by_cases hlt : k < len
        · obtain ⟨b, off, e, hcell, hc0, hc1⟩ := hd2 k (by rw [HL.out]; exact hlt)
          simp at e
          obtain ⟨rfl, rfl⟩ := e
          simp only [Nat.zero_add] at hcell
          obtain ⟨b, off, rfl, hcell2, hc0, hc1⟩ := hc2 k (by rw [HL.out]; exact hlt)
          generalize zs.getD k 0 = c at *
          have hl1 : (k : Int) < (len : Int) := by omega
          go_wp2
          go_quiet (fail)
          go_wp2
          go_roundw
          case rel => exact ⟨k + 1, by omega, by go_num, _, rfl⟩
          case measure => simp [intOf]; omega
        · go_wp2
          go_ret
          exact ⟨rfl, below_drewN hB2 _⟩
/-! ### STEP 1: THE WALK -/
theorem walk (a0 : Option Addr) (len0 cap0 : Nat) (z0 : List Int) (w : World) (w0 : IsRow .u8 w a0 len0 cap0 z0) :
    Calls Yba.prog 3 #[.slice a0 len0 cap0] w fun e w' => e = .returned (.bool true) ∧ Below w.heap.size w w' := by
  by_cases h20 : len0 ≤ 1048576
  · rcases w0 with ⟨rfl, rfl, rfl, rfl⟩ | ⟨x, rfl, hl, hm, hz, hcell, hwz⟩
    · exact walk_row none 0 0 [] w rfl h20 (fun i hi => by simp at hi)
    · exact walk_row (some x) len0 cap0 (z0.take len0) w (by simp; omega) h20 (bytesAt_of len0 hcell hwz)
  · exact walk_long a0 len0 cap0 w (by omega)

/-! ### THE ROW's STEP: WRITTEN OUT: LEAVE IT -/
set_option maxRecDepth 100000 in
theorem lifted (os : Os) (started : os.Started) (H : Type) (enc : TypeId × Value → H) :
    ReturnsInHanded {} Yba.checked os 3 .any (Rows.lawS5547AWholeSpec.pre6 enc Yba.prog Yba.f3 Rows.lawS5547AWholeRow.domain false) (Rows.lawS5547AWholeSpec.post enc Yba.prog Yba.f3 false true false false) := by
  refine returnsInHanded_of_change (C := Yba.checked) own started (by kernel_rfl) Yba.func3
    (ChangeSpec.witness6 (enc := enc) (C := Yba.checked) false ⟨#[], #[.slice none 0 0], []⟩ 8 (by kernel_rfl) (by kernel_rfl) (by kernel_rfl) (by kernel_rfl)) ?_
  intro W base args ds gs before hval0 hW hcnd _
  have hval : ∀ (j : Nat) t v, Yba.f3.params[j]? = some t → args[j]? = some v → Value.okWide Yba.prog W .any base t v := hval0
  have hW' := hW
  obtain ⟨p, q, hA0, hV, rfl, hfz, hnd⟩ := hW
  have hA : DataW.TrodAll enc Yba.prog W 0 (fun _ => true) true Yba.f3.params.toList args.toList ds p := hA0
  rw [Yba.params3] at hA hval
  obtain ⟨v0, vs0, d0, ds0, p0, q0, hargs, rfl, rfl, h0, r0⟩ := trodAll_cons hA
  obtain ⟨rfl, rfl, rfl⟩ := trodAll_nil r0
  obtain rfl : args = #[v0] := by cases args; simp_all
  obtain ⟨rfl, rfl⟩ := trodVars_none hV
  obtain ⟨a0, len0, cap0, rfl⟩ := okWide_slice Yba.underlying22 (hval 0 22 v0 rfl rfl)
  have k0 := h0
  have lt0 : ∀ x ∈ p0, x.block < W.heap.size := by obtain ⟨m, hm⟩ := k0; exact DataW.trod_lt m _ _ _ hm
  obtain ⟨z0, w0⟩ : ∃ zs, IsRow .u8 W a0 len0 cap0 zs := by
    obtain ⟨fuel, hf⟩ := h0
    rcases open_ints Yba.underlying22 Yba.underlying5 (by kernel_rfl) hf with ⟨hcs, _⟩ | ⟨x, l, c, zs, hcs, _, hl, hm, hz, _, hcell, hwz⟩
    · simp [Value.cells] at hcs
      obtain ⟨rfl, rfl, rfl⟩ := hcs
      exact ⟨[], .inl ⟨rfl, rfl, rfl, rfl⟩⟩
    · simp [Value.cells] at hcs
      obtain ⟨rfl, rfl, rfl⟩ := hcs
      exact ⟨zs, .inr ⟨_, rfl, hl, hm, by simpa using hz, hcell, hwz⟩⟩
  clear hA0 hval0
  refine (walk a0 len0 cap0 z0 W w0).mono fun e W' ⟨he, bel⟩ => ?_
  subst he
  exact ⟨_, rfl, _, _, _, [], _, [], hW', trodAll_mk1 (shut_bool Yba.underlying4 _), (trodAll_cons_mk (Below.trod laidOut (by kernel_rfl) (of_decide_eq_true (by kernel_rfl)) k0 bel lt0) trodAll_mk0), rfl, bel.frame _, fun h => by cases h⟩

theorem over : Rows.lawS5547AWholeRow.holds Yba.pinned (OpenSpec.ofChange Rows.lawS5547AWholeSpec) :=
  OpenClaim.holds_of_wide 3 Yba.f3 rfl rfl rfl rfl rfl rfl rfl ⟨rfl, rfl, rfl, rfl, rfl⟩ rfl rfl rfl rfl rfl (by kernel_rfl) Yba.func3 (by kernel_rfl)
    (of_decide_eq_true (by kernel_rfl)) (by unfold Func.isWrapper; first | (rw [if_pos (by decide +kernel)]; kernel_rfl) | (rw [if_neg (by decide +kernel)]; exact ⟨rfl, rfl⟩))
    (fun os started H enc _ => lifted os started H enc)

/-- ████ THE STATEMENT ████ -/
theorem proved : Rows.LawS5547AWholeSaid := over
end Go.Proofs.Ybulkdjvw.lawS5547AWhole
