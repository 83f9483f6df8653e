/-
  THE PROOF OF 'Rows.LawS5547ADigitsSaid' ('jsonform.LawS5547ADigits'): the law lays one to eighteen decimal digits; strconv.ParseInt and number read them alike. No listed variable is read on the way: the condition on them is met by the heap that the door's own run leaves (the witness), and is not used else.
-/
import Derived.Test.YbulkdjvwDoorCalls
import Derived.ChangeOld
import Derived.LaidMore
import Derived.Stop.Joined
namespace Go.Proofs.YbulkdjvwDoor.lawS5547ADigits
open Go.ChangeShapes Go.WideShapes Go.ChangeAt Go.RowKit
set_option linter.unusedVariables false

theorem own : ownKnob Ybad.prog.godebug = none := by kernel_rfl
theorem laidOut : laidOutB Ybad.prog = true := by kernel_rfl
theorem cells5 : Ybad.prog.cellsOf 5 = 1 := by kernel_rfl

theorem Ybad.info5 : (Ybad.prog.info? 5).map (fun i => (i.zero, i.size, i.bytes)) = some (some (.int .u8 0), 1, 1) := by kernel_rfl

theorem walk_long (a : Option Addr) (len cap : Nat) (w : World) (h : 1048576 < len) :
    Calls Ybad.prog 3 #[.slice a len cap] w fun e w' => e = .returned (.bool true) ∧ Below w.heap.size w w' := by
  go_enter Ybad.func3, Ybad.ntmps3
  go_wp2
  go_ret
  exact ⟨rfl, Below.refl _ _⟩

/-- The digit that the law lays for the byte c. -/
def dg (c : Int) : Int := 48 + c % 10
theorem digits_map (z : List Int) : Digits (z.map dg) := by
  intro i hi
  have hi' : i < z.length := by simpa using hi
  rw [List.getD_eq_getElem?_getD, List.getElem?_map, List.getElem?_eq_getElem hi']
  show 48 ≤ dg z[i] ∧ dg z[i] ≤ 57
  unfold dg
  omega
def Laid (z : List Int) (xs : List Value) (k : Nat) : Prop := ∀ j, j < k → xs[j]? = some (.int .u8 (dg (z.getD j 0)))
theorem laid_set {z : List Int} {xs : List Value} {k : Nat} (h : Laid z xs k) (hk : k < xs.length) : Laid z (xs.set k (.int .u8 (dg (z.getD k 0)))) (k + 1) := by
  intro j hj
  by_cases e : j = k
  · subst e; simp [hk]
  · rw [List.getElem?_set_ne (by omega)]
    exact h j (by omega)
theorem bytesAt_own {w3 : World} {base g n cap : Nat} {z : List Int} {xs : List Value} (h : w3.ownsRow base 5 1 (.slice (some ⟨g, 0, none⟩) n cap) n xs) (hz : z.length = n) (hx : Laid z xs n) : BytesAt w3 (some ⟨g, 0, none⟩) (z.map dg) := by
  intro i hi
  have hi' : i < z.length := by simpa using hi
  refine ⟨g, 0, rfl, ?_⟩
  rw [Nat.zero_add, h.cellAt i (by omega), hx i (by omega)]
  simp [List.getD_eq_getElem?_getD, List.getElem?_eq_getElem hi']
theorem conv_bytes {w : World} {a : Option Addr} {zs : List Int} {n : Nat} (h : BytesAt w a zs) (hn : zs.length = n) (c : Nat) (h0 : 0 < n) : (convert 22 9 (.slice a n c)).run Ybad.prog w = .ok (.string (strOfNums zs)) w := by
  subst hn
  obtain ⟨b, off, rfl, _⟩ := h 0 h0
  refine run_convert_bytes_arg w 22 5 Ybad.underlying22 Ybad.underlying5 b off zs.length c zs rfl (fun i hi => ?_) 9 Ybad.underlying9
  obtain ⟨b', off', e, hc⟩ := h i hi
  simp at e
  obtain ⟨rfl, rfl⟩ := e
  exact hc
theorem conv_zero (w : World) (p : Option Addr) (c : Nat) : (convert 22 9 (.slice p 0 c)).run Ybad.prog w = .ok (.string ByteArray.empty) w := by
  rw [run_convert_bytes_string w 22 9 5 _ 0 c Ybad.underlying22 Ybad.underlying5 Ybad.underlying9]
  cases p <;> simp [Conv.bytesToString, loadCells]
  all_goals rfl
theorem str_get (zs : List Int) (hd : Digits zs) : ∀ j (h : j < (strOfNums zs).size), ((strOfNums zs)[j].toNat : Int) = zs.getD j 0 := by
  intro j h
  have hj : j < zs.length := by rw [strOfNums_size] at h; exact h
  have hb := hd j hj
  rw [List.getD_eq_getElem?_getD, List.getElem?_eq_getElem hj] at hb ⊢
  show ((((zs.map fun n => UInt8.ofNat n.toNat).toArray)[j]'(by simpa using hj)).toNat : Int) = _
  simp
  simp at hb
  omega


set_option maxHeartbeats 2000000 in
theorem walk_short (a : Option Addr) (len cap : Nat) (z : List Int) (w : World) (h20 : len ≤ 1048576) (hlen : len ≤ 18) (hl : z.length = len) (hc : BytesAt w a z) (hb : ∀ i, i < len → 0 ≤ z.getD i 0 ∧ z.getD i 0 ≤ 255) :
    Calls Ybad.prog 3 #[.slice a len cap] w fun e w' => e = .returned (.bool true) ∧ Below w.heap.size w w' := by
  have HL : Hid (z.length = len) := hl
  have HB : Hid (∀ i, i < len → 0 ≤ z.getD i 0 ∧ z.getD i 0 ≤ 255) := hb
  clear hl hb
  obtain ⟨i0, hi, hz0, hz1, hz2⟩ := info_parts Ybad.info5
  have h11 : decide ((1048576 : Int) < (len : Int)) = false := decide_eq_false (by omega)
  have h15 : decide ((18 : Int) < (len : Int)) = false := decide_eq_false (by omega)
  go_enter Ybad.func3, Ybad.ntmps3
  go_wp2_with (at_make; refine wpList_make_full _ rfl (.tmp 16) (.tmp 16) 22 rfl w.heap.size 5 i0 (.int .u8 0) 1 Ybad.underlying22 hi hz0 hz1 _ _ _ _ len rfl rfl (by omega) (by omega) (by rw [hz2]; omega) (by unfold maxLen; omega) (Nat.le_refl _) ?_; intro w1 hown hgrow)
  have HO : Hid (∃ xs, w1.ownsRow w.heap.size 5 1 (.slice (some ⟨w.heap.size, 0, none⟩) len len) len xs ∧ Laid z xs 0) := ⟨_, hown, fun j hj => by omega⟩
  have HW : Hid (Below w.heap.size w w1) := (Below.refl w.heap.size w).grown hgrow (Nat.le_refl _) (fun k h => by cases h)
  clear hown hgrow hi hz0 hz1 hz2
  go_loopw [5] (fun i wr => ∃ k : Nat, k ≤ len ∧ i = .int .i64 k ∧ Hid (∃ xs, wr.ownsRow w.heap.size 5 1 (.slice (some ⟨w.heap.size, 0, none⟩) len len) len xs ∧ Laid z xs k) ∧ Hid (Below w.heap.size w wr)) (fun i _ => len - (intOf i).toNat)
  case atStart => exact ⟨0, Nat.zero_le _, rfl, HO, HW⟩
  case round =>
    obtain ⟨k, hk, rfl, HO', HW'⟩ := hrel
    by_cases hlt : k < len
    · obtain ⟨b, off, rfl, hcell0⟩ := hc k (by rw [HL.out]; exact hlt)
      have hcell := cell_later HW'.out hcell0
      clear hcell0
      obtain ⟨hb0, hb1⟩ := HB.out k hlt
      obtain ⟨xs, hown, hlaid⟩ := HO'.out
      have hxl : xs.length = len := by have := hown.1; simpa using this
      have hold : ∃ v, wr.cell? ⟨w.heap.size, k, none⟩ = some v := ⟨_, (hown.cellAt k (by omega)).trans (List.getElem?_eq_getElem (by omega))⟩
      obtain ⟨v, hold⟩ := hold
      have hfr := hown.frozenAt k
      have HN : Hid (∃ xs, (wr.setCell ⟨w.heap.size, k, none⟩ (.int .u8 (dg (z.getD k 0)))).ownsRow w.heap.size 5 1 (.slice (some ⟨w.heap.size, 0, none⟩) len len) len xs ∧ Laid z xs (k + 1)) := ⟨_, (hown.stored k _).1, laid_set hlaid (by omega)⟩
      have HWN : Hid (Below w.heap.size w (wr.setCell ⟨w.heap.size, k, none⟩ (.int .u8 (dg (z.getD k 0))))) := HW'.out.setCell (Nat.le_refl _) _
      have hdg : 48 + z.getD k 0 % 10 = dg (z.getD k 0) := rfl
      have hdg0 : dg (z.getD k 0) ≤ 57 := by unfold dg; omega
      generalize dg (z.getD k 0) = D at *
      generalize z.getD k 0 = c at *
      clear hown hlaid hxl HO' HW'
      go_wp2
      go_roundw
      case rel => exact ⟨k + 1, by omega, by go_num, HN, HWN⟩
      case measure => simp [intOf]; omega
    · obtain ⟨xs, hown, hlaid⟩ := HO'.out
      have hin : BytesAt wr (some ⟨w.heap.size, 0, none⟩) (z.map dg) := bytesAt_own hown HL.out (fun j hj => hlaid j (by omega))
      have hD := digits_map z
      have HZL : Hid ((z.map dg).length = len) := (List.length_map dg).trans HL.out
      have hB := HW'.out
      generalize z.map dg = zs at *
      clear hown hlaid HO' HW' HO HW
      by_cases h0 : 0 < len
      · have hconv := conv_bytes hin HZL.out len h0
        have HS : Hid ((strOfNums zs).size = zs.length ∧ ∀ j (h : j < (strOfNums zs).size), ((strOfNums zs)[j].toNat : Int) = zs.getD j 0) := ⟨strOfNums_size zs, str_get zs hD⟩
        generalize strOfNums zs = S at *
        go_wp2_with fail
        refine (pint_public S zs _ HS.out.1 HS.out.2 (by rw [HZL.out]; omega) (by rw [HZL.out]; omega) hD).mono ?_
        rintro e w2 ⟨rfl, hb2⟩
        have hin2 := hin.later hb2
        have hB2 : Below w.heap.size w w2 := hB.trans (hb2.mono hB.size)
        clear hconv HS
        go_wp2_with (go_at_call 5; refine (number_any _ len len zs _ HZL.out (by omega) hD hin2).mono ?_; rintro e w' ⟨rfl, rfl⟩)
        go_ret
        exact ⟨by simp, hB2⟩
      · obtain rfl : len = 0 := by omega
        have HE : Hid (dv zs = 0) := by rw [List.eq_nil_of_length_eq_zero HZL.out]; exact rfl
        go_wp2_with (go_at_call 5; refine (number_any _ 0 0 zs _ HZL.out (by omega) hD hin).mono ?_; rintro e w' ⟨rfl, rfl⟩; rw [HE.out])
        go_ret
        exact ⟨by simp, hB⟩

set_option maxHeartbeats 2000000 in
theorem walk_18 (a : Option Addr) (len cap : Nat) (z : List Int) (w : World) (h20 : len ≤ 1048576) (hlen : 18 < len) (hl : z.length = 18) (hc : BytesAt w a z) (hb : ∀ i, i < 18 → 0 ≤ z.getD i 0 ∧ z.getD i 0 ≤ 255) :
    Calls Ybad.prog 3 #[.slice a len cap] w fun e w' => e = .returned (.bool true) ∧ Below w.heap.size w w' := by
  have HL : Hid (z.length = 18) := hl
  have HB : Hid (∀ i, i < 18 → 0 ≤ z.getD i 0 ∧ z.getD i 0 ≤ 255) := hb
  clear hl hb
  obtain ⟨i0, hi, hz0, hz1, hz2⟩ := info_parts Ybad.info5
  have h11 : decide ((1048576 : Int) < (len : Int)) = false := decide_eq_false (by omega)
  have h15 : decide ((18 : Int) < (len : Int)) = true := decide_eq_true (by omega)
  go_enter Ybad.func3, Ybad.ntmps3
  go_wp2_with (at_make; refine wpList_make_full _ rfl (.tmp 16) (.tmp 16) 22 rfl w.heap.size 5 i0 (.int .u8 0) 1 Ybad.underlying22 hi hz0 hz1 _ _ _ _ 18 rfl rfl (by omega) (by omega) (by rw [hz2]; omega) (by unfold maxLen; omega) (Nat.le_refl _) ?_; intro w1 hown hgrow)
  have HO : Hid (∃ xs, w1.ownsRow w.heap.size 5 1 (.slice (some ⟨w.heap.size, 0, none⟩) 18 18) 18 xs ∧ Laid z xs 0) := ⟨_, hown, fun j hj => by omega⟩
  have HW : Hid (Below w.heap.size w w1) := (Below.refl w.heap.size w).grown hgrow (Nat.le_refl _) (fun k h => by cases h)
  clear hown hgrow hi hz0 hz1 hz2
  go_loopw [5] (fun i wr => ∃ k : Nat, k ≤ 18 ∧ i = .int .i64 k ∧ Hid (∃ xs, wr.ownsRow w.heap.size 5 1 (.slice (some ⟨w.heap.size, 0, none⟩) 18 18) 18 xs ∧ Laid z xs k) ∧ Hid (Below w.heap.size w wr)) (fun i _ => 18 - (intOf i).toNat)
  case atStart => exact ⟨0, Nat.zero_le _, rfl, HO, HW⟩
  case round =>
    obtain ⟨k, hk, rfl, HO', HW'⟩ := hrel
    by_cases hlt : k < 18
    · obtain ⟨b, off, rfl, hcell0⟩ := hc k (by rw [HL.out]; exact hlt)
      have hcell := cell_later HW'.out hcell0
      clear hcell0
      obtain ⟨hb0, hb1⟩ := HB.out k hlt
      obtain ⟨xs, hown, hlaid⟩ := HO'.out
      have hxl : xs.length = 18 := by have := hown.1; simpa using this
      have hold : ∃ v, wr.cell? ⟨w.heap.size, k, none⟩ = some v := ⟨_, (hown.cellAt k (by omega)).trans (List.getElem?_eq_getElem (by omega))⟩
      obtain ⟨v, hold⟩ := hold
      have hfr := hown.frozenAt k
      have HN : Hid (∃ xs, (wr.setCell ⟨w.heap.size, k, none⟩ (.int .u8 (dg (z.getD k 0)))).ownsRow w.heap.size 5 1 (.slice (some ⟨w.heap.size, 0, none⟩) 18 18) 18 xs ∧ Laid z xs (k + 1)) := ⟨_, (hown.stored k _).1, laid_set hlaid (by omega)⟩
      have HWN : Hid (Below w.heap.size w (wr.setCell ⟨w.heap.size, k, none⟩ (.int .u8 (dg (z.getD k 0))))) := HW'.out.setCell (Nat.le_refl _) _
      have hdg : 48 + z.getD k 0 % 10 = dg (z.getD k 0) := rfl
      have hdg0 : dg (z.getD k 0) ≤ 57 := by unfold dg; omega
      generalize dg (z.getD k 0) = D at *
      generalize z.getD k 0 = c at *
      clear hown hlaid hxl HO' HW'
      go_wp2
      go_roundw
      case rel => exact ⟨k + 1, by omega, by go_num, HN, HWN⟩
      case measure => simp [intOf]; omega
    · obtain ⟨xs, hown, hlaid⟩ := HO'.out
      have hin : BytesAt wr (some ⟨w.heap.size, 0, none⟩) (z.map dg) := bytesAt_own hown HL.out (fun j hj => hlaid j (by omega))
      have hD := digits_map z
      have HZL : Hid ((z.map dg).length = 18) := (List.length_map dg).trans HL.out
      have hB := HW'.out
      generalize z.map dg = zs at *
      clear hown hlaid HO' HW' HO HW
      by_cases h0 : 0 < 18
      · have hconv := conv_bytes hin HZL.out 18 h0
        have HS : Hid ((strOfNums zs).size = zs.length ∧ ∀ j (h : j < (strOfNums zs).size), ((strOfNums zs)[j].toNat : Int) = zs.getD j 0) := ⟨strOfNums_size zs, str_get zs hD⟩
        generalize strOfNums zs = S at *
        go_wp2_with fail
        refine (pint_public S zs _ HS.out.1 HS.out.2 (by rw [HZL.out]; omega) (by rw [HZL.out]; omega) hD).mono ?_
        rintro e w2 ⟨rfl, hb2⟩
        have hin2 := hin.later hb2
        have hB2 : Below w.heap.size w w2 := hB.trans (hb2.mono hB.size)
        clear hconv HS
        go_wp2_with (go_at_call 5; refine (number_any _ 18 18 zs _ HZL.out (by omega) hD hin2).mono ?_; rintro e w' ⟨rfl, rfl⟩)
        go_ret
        exact ⟨by simp, hB2⟩
      · omega

/-- What the row tells of a slice of bytes that came in. -/
def IsRow (k : IntKind) (w : World) (a : Option Addr) (len cap : Nat) (zs : List Int) : Prop :=
  (a = none ∧ len = 0 ∧ cap = 0 ∧ zs = []) ∨
  ∃ x, a = some x ∧ len ≤ cap ∧ cap ≤ maxLen ∧ zs.length = cap ∧ (∀ i, i < zs.length → w.cell? (x.add i) = some (.int k (zs.getD i 0))) ∧ ∀ n ∈ zs, (Lit.int k n).wf = true

theorem getD_take (z : List Int) (n i : Nat) (h : i < n) : (z.take n).getD i 0 = z.getD i 0 := by simp [List.getD_eq_getElem?_getD, h]
theorem bytesAt_of {w : World} {x : Addr} {zs : List Int} (n : Nat) (hcell : ∀ i, i < zs.length → w.cell? (x.add i) = some (.int .u8 (zs.getD i 0))) : BytesAt w (some x) (zs.take n) := by
  intro i hi
  have hi' : i < zs.length := by simp at hi; omega
  have hil : i < n := by simp at hi; omega
  have hc := hcell i hi'
  obtain ⟨b, off, spot⟩ := x
  have hspot : spot = none := by simpa [Addr.add] using World.cell?_spot (hcell 0 (by omega))
  subst hspot
  rw [add_plain] at hc
  rw [getD_take zs n i hil]
  exact ⟨b, off, rfl, hc⟩
theorem bounds_of {zs : List Int} (n : Nat) (hn : n ≤ zs.length) (hwz : ∀ m ∈ zs, (Lit.int .u8 m).wf = true) : ∀ i, i < n → 0 ≤ (zs.take n).getD i 0 ∧ (zs.take n).getD i 0 ≤ 255 := by
  intro i hi
  rw [getD_take zs n i hi]
  have hi' : i < zs.length := by omega
  have hm : zs.getD i 0 ∈ zs := by rw [List.getD_eq_getElem?_getD, List.getElem?_eq_getElem hi']; exact List.getElem_mem hi'
  exact bounds_u8 (hwz _ hm)

/-! ### STEP 1: THE WALK -/
theorem walk (a0 : Option Addr) (len0 cap0 : Nat) (z0 : List Int) (w : World) (w0 : IsRow .u8 w a0 len0 cap0 z0) :
    Calls Ybad.prog 3 #[.slice a0 len0 cap0] w fun e w' => e = .returned (.bool true) ∧ Below w.heap.size w w' := by
  by_cases h20 : len0 ≤ 1048576
  · rcases w0 with ⟨rfl, rfl, rfl, rfl⟩ | ⟨x, rfl, hl, hm, hz, hcell, hwz⟩
    · exact walk_short none 0 0 [] w h20 (by omega) rfl (fun i hi => by simp at hi) (fun i hi => by omega)
    · by_cases h18 : len0 ≤ 18
      · exact walk_short (some x) len0 cap0 (z0.take len0) w h20 h18 (by simp; omega) (bytesAt_of len0 hcell) (bounds_of len0 (by omega) hwz)
      · exact walk_18 (some x) len0 cap0 (z0.take 18) w h20 (by omega) (by simp; omega) (bytesAt_of 18 hcell) (bounds_of 18 (by omega) hwz)
  · exact walk_long a0 len0 cap0 w (by omega)

/-- The door's own heap meets the condition on the listed variables. -/
theorem door_met (os : Os) (args : Array Value) : laidMetH Ybad.prog Rows.lawS5547ADigitsRow.laid ((World.doorLaid Ybad.prog 400 os).forCall (fun _ _ => 0) ⟨#[], args, []⟩).memory :=
  laidMetH_of_parts3 (fuel := 8) (laidMet_of_run' 8 (by kernel_rfl) (by kernel_rfl)) (by kernel_rfl) (by kernel_rfl)

/-! ### THE ROW's STEP -/
set_option maxRecDepth 100000 in
theorem lifted (os : Os) (started : os.Started) (H : Type) (enc : TypeId × Value → H) :
    ReturnsInHanded {} Ybad.checked os 3 .any (fun w args => (Rows.lawS5547ADigitsSpec.pre enc Ybad.prog Ybad.f3 [] false w args ∧ laidMetH Ybad.prog Rows.lawS5547ADigitsRow.laid w) ∧ sizedMet enc Ybad.prog Ybad.f3 (OpenSpec.ofChange Rows.lawS5547ADigitsSpec) false w args)
      (Rows.lawS5547ADigitsSpec.post enc Ybad.prog Ybad.f3 false true false false) := by
  refine returnsInHanded_of_change_and (C := Ybad.checked) (X := fun w _ => laidMetH Ybad.prog Rows.lawS5547ADigitsRow.laid w) (fun _ _ _ hh h => h.of_heap hh) own started (by kernel_rfl) Ybad.func3
    (ChangeSpec.witness_shaped (enc := enc) (C := Ybad.checked) (os := os) (X := fun w _ => laidMetH Ybad.prog Rows.lawS5547ADigitsRow.laid w) false (World.doorLaid Ybad.prog 400 os) #[.slice none 0 0] 8 rfl (World.shaped_of_RefB (by kernel_rfl) (by kernel_rfl)) (by kernel_rfl) (by kernel_rfl) (by kernel_rfl) (door_met os _)) ?_
  intro W base args ds gs before hval0 hW _ _ hL _
  have hval : ∀ (j : Nat) t v, Ybad.f3.params[j]? = some t → args[j]? = some v → Value.okWide Ybad.prog W .any base t v := hval0
  have hW' := hW
  obtain ⟨p, q, hA0, hV, rfl, hfz, hnd⟩ := hW
  have hA : DataW.TrodAll enc Ybad.prog W 0 (fun _ => true) true Ybad.f3.params.toList args.toList ds p := hA0
  rw [Ybad.params3] at hA hval
  obtain ⟨v0, vs0, d0, ds0, p0, q0, hargs, rfl, rfl, h0, r0⟩ := trodAll_cons hA
  obtain ⟨rfl, rfl, rfl⟩ := trodAll_nil r0
  obtain rfl : args = #[v0] := by cases args; simp_all
  obtain ⟨rfl, rfl⟩ := trodVars_none hV
  obtain ⟨a0, len0, cap0, rfl⟩ := okWide_slice Ybad.underlying22 (hval 0 22 v0 rfl rfl)
  have k0 := h0
  have lt0 : ∀ x ∈ p0, x.block < W.heap.size := by obtain ⟨m, hm⟩ := k0; exact DataW.trod_lt m _ _ _ hm
  obtain ⟨z0, w0⟩ : ∃ zs, IsRow .u8 W a0 len0 cap0 zs := by
    obtain ⟨fuel, hf⟩ := h0
    rcases open_ints Ybad.underlying22 Ybad.underlying5 cells5 hf with ⟨hcs, _⟩ | ⟨x, l, c, zs, hcs, _, hl, hm, hz, _, hcell, hwz⟩
    · simp [Value.cells] at hcs
      obtain ⟨rfl, rfl, rfl⟩ := hcs
      exact ⟨[], .inl ⟨rfl, rfl, rfl, rfl⟩⟩
    · simp [Value.cells] at hcs
      obtain ⟨rfl, rfl, rfl⟩ := hcs
      exact ⟨zs, .inr ⟨_, rfl, hl, hm, by simpa using hz, hcell, hwz⟩⟩
  clear hA0 hval0 hL
  refine (walk a0 len0 cap0 z0 W w0).mono fun e W' ⟨he, bel⟩ => ?_
  subst he
  exact ⟨_, rfl, _, _, _, [], _, [], hW', trodAll_mk1 (shut_bool Ybad.underlying4 _), (trodAll_cons_mk (Below.trod laidOut (by kernel_rfl) (of_decide_eq_true (by kernel_rfl)) k0 bel lt0) trodAll_mk0), rfl, bel.frame _, fun h => by cases h⟩

theorem over : Rows.LawS5547ADigitsSaid :=
  OpenClaim.holds_of_wide 3 Ybad.f3 rfl rfl rfl rfl rfl rfl rfl ⟨rfl, rfl, rfl, rfl, rfl⟩ rfl rfl rfl rfl rfl (by kernel_rfl) Ybad.func3 (by kernel_rfl)
    (of_decide_eq_true (by kernel_rfl)) (by unfold Func.isWrapper; first | (rw [if_pos (by decide +kernel)]; kernel_rfl) | (rw [if_neg (by decide +kernel)]; exact ⟨rfl, rfl⟩))
    (fun os started H enc _ => lifted os started H enc)
end Go.Proofs.YbulkdjvwDoor.lawS5547ADigits
