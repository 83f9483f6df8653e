/-
  SHARED BY THE TWO LAWS ON hex4: bytes.Equal on two rows that hold the same bytes; the copy of a slice; the value of a hex digit; hex4 itself.
-/
import Derived.Test.YbulkdjvwBase
import Derived.Lib.Bytes
import Derived.Laws.BytesArg
import Derived.Lib.SliceRun
import Derived.Laws.BitsLemmas
namespace Go.Proofs.Ybulkdjvw
open Go.ChangeShapes Go.WideShapes Go.ChangeAt Go.RowKit

/-! ### bytes.Equal -/
theorem conv_zero (w : World) (p : Option Addr) (c : Nat) : (convert 22 9 (.slice p 0 c)).run Yba.prog w = .ok (.string ByteArray.empty) w := by
  rw [run_convert_bytes_string w 22 9 5 _ 0 c Yba.underlying22 Yba.underlying5 Yba.underlying9]
  cases p <;> simp [Conv.bytesToString, loadCells]
  all_goals rfl
theorem conv_bytes {w : World} {a : Option Addr} {zs : List Int} (h : BytesAt w a zs) (c : Nat) : (convert 22 9 (.slice a zs.length c)).run Yba.prog w = .ok (.string (strOfNums zs)) w := by
  by_cases h0 : zs.length = 0
  · obtain rfl : zs = [] := List.eq_nil_of_length_eq_zero h0
    exact conv_zero w a c
  · obtain ⟨b, off, rfl, _⟩ := h 0 (by omega)
    refine run_convert_bytes_arg w 22 5 Yba.underlying22 Yba.underlying5 b off zs.length c zs rfl (fun i hi => ?_) 9 Yba.underlying9
    obtain ⟨b', off', e, hc, _⟩ := h i hi
    simp at e
    obtain ⟨rfl, rfl⟩ := e
    exact hc
set_option maxHeartbeats 1000000 in
theorem equal_same (a1 a2 : Option Addr) (len c1 c2 : Nat) (zs : List Int) (w : World) (hl : zs.length = len) (h1 : BytesAt w a1 zs) (h2 : BytesAt w a2 zs) :
    Calls Yba.prog 11 #[.slice a1 len c1, .slice a2 len c2] w fun e w' => e = .returned (.bool true) ∧ w = w' := by
  subst hl
  have g1 := conv_bytes h1 c1
  have g2 := conv_bytes h2 c2
  go_enter Yba.func11, Yba.ntmps11
  go_wp2
  go_ret
  exact ⟨by simp, rfl⟩

/-! ### the copy -/
theorem made_row {w1 : World} {base g e n : Nat} {xs : List Value} (h : w1.ownsRow base e 1 (.slice (some ⟨g, 0, none⟩) n n) n xs) : ∃ cur : List Value, Hid (w1.heap[g]? = some (.cells cur.toArray e (0, 0))) ∧ Hid (cur.length = n) := by
  obtain ⟨_, h | ⟨g', cap, cur, hv, _, hh, _, _, hs, _⟩⟩ := h
  · simp at h
  · simp at hv
    obtain ⟨rfl, rfl⟩ := hv
    exact ⟨cur.toList, show _ = _ by simpa using hh, show _ = _ by simpa using hs⟩
theorem copy_src {w1 : World} {a : Option Addr} {zs : List Int} {X : List Value} (HX : X = zs.map (Value.int .u8)) (h : BytesAt w1 a zs) :
    0 < X.length → ∃ ad, a = some ad ∧ ∀ (j : Nat) (v : Value), X[j]? = some v → w1.cell? (ad.add j) = some v := by
  subst HX
  intro h0
  obtain ⟨b, off, rfl, _⟩ := h 0 (by simpa using h0)
  refine ⟨_, rfl, fun j v hv => ?_⟩
  have hj : j < zs.length := by
    have := (List.getElem?_eq_some_iff.1 hv).1
    simpa using this
  obtain ⟨b', off', e, hcell, _⟩ := h j hj
  simp at e
  obtain ⟨rfl, rfl⟩ := e
  rw [add_plain, hcell]
  simp [List.getElem?_eq_getElem hj] at hv ⊢
  exact hv
theorem copy_one {zs : List Int} {X : List Value} (HX : X = zs.map (Value.int .u8)) : ∀ v ∈ X, v.oneCell' = true := by
  subst HX
  intro v hv
  obtain ⟨n, _, rfl⟩ := List.mem_map.1 hv
  rfl
theorem copy_nil (len cap : Nat) (w : World) : Calls Yba.prog 8 #[.slice none len cap] w fun e w' => e = .returned (.slice none 0 0) ∧ w = w' := by
  have hn := fun w a n c => Lib.run_eql_slice_nil (P := Yba.prog) w 22 5 a n c 0 0 Yba.underlying22
  go_enter Yba.func8, Yba.ntmps8
  go_wp2
  go_ret
  exact ⟨rfl, rfl⟩
set_option maxHeartbeats 1000000 in
theorem copy_some (x : Addr) (len cap : Nat) (zs : List Int) (w : World) (hl : zs.length = len) (h21 : len ≤ 2097152) (hc : BytesAt w (some x) zs) :
    Calls Yba.prog 8 #[.slice (some x) len cap] w fun e w' => e = .returned (.slice (some ⟨w.heap.size, 0, none⟩) len len) ∧ BytesAt w' (some ⟨w.heap.size, 0, none⟩) zs ∧ Below w.heap.size w w' := by
  have HL : Hid (zs.length = len) := hl
  clear hl
  obtain ⟨i0, hi, hz0, hz1, hz2⟩ := info_parts Yba.info5
  obtain ⟨X, hX⟩ : ∃ X, X = zs.map (Value.int .u8) := ⟨_, rfl⟩
  have HX : Hid (X = zs.map (Value.int .u8)) := hX
  have HXL : Hid (X.length = len) := by rw [hX]; simp; exact HL.out
  clear hX
  have hn := fun w a n c => Lib.run_eql_slice_nil (P := Yba.prog) w 22 5 a n c 0 0 Yba.underlying22
  go_enter Yba.func8, Yba.ntmps8
  go_wp2_with (first
    | (at_make; refine wpList_make_full _ rfl (.tmp 7) (.tmp 7) 22 rfl w.heap.size 5 i0 (.int .u8 0) 1 Yba.underlying22 hi hz0 hz1 _ _ _ _ len rfl rfl rfl rfl (by rw [hz2]; omega) (by unfold maxLen; omega) (Nat.le_refl _) ?_; intro w1 hown hgrow; obtain ⟨cur, HG, HCL⟩ := made_row hown; have hb1 := (Below.refl w.heap.size w).grown hgrow (Nat.le_refl _) (fun k h => by cases h); have HC1 := BytesAt.later hc hb1; clear hown hgrow)
    | (refine wpList_copy_splice rfl (.tmp 9) (.tmp 10) 22 22 rfl 5 Yba.underlying22 Yba.size5 _ _ _ _ _ _ rfl rfl w.heap.size 0 cur 5 HG.out X ?_ ?_ ?_ ?_ w.heap.size w hb1 (Nat.le_refl _) ?_; rotate_right; intro w2 HG2 hB2))
  case refine_1 => rw [HXL.out]; exact (Nat.min_self _).symm
  case refine_2 => have := copy_src HX.out HC1; simpa using this
  case refine_3 => rw [HXL.out, HCL.out]; omega
  case refine_4 => exact copy_one HX.out
  have hd2 : BytesAt w2 (some ⟨w.heap.size, 0, none⟩) zs := bytesAt_of_row hc (by have := HG2.out; rw [splice_all _ _ (by rw [HXL.out, HCL.out]), HX.out] at this; exact this)
  go_ret
  exact ⟨rfl, hd2, hB2⟩

/-! ### a hex digit -/
def hexval (c : Int) : Int := if 48 ≤ c ∧ c ≤ 57 then c - 48 else if 97 ≤ c ∧ c ≤ 102 then c - 87 else if 65 ≤ c ∧ c ≤ 70 then c - 55 else -1
def hexTable : ByteArray := ⟨#[48, 49, 50, 51, 52, 53, 54, 55, 56, 57, 97, 98, 99, 100, 101, 102, 65, 66, 67, 68, 69, 70]⟩
def tab (k : Nat) : Int := ((hexTable.data.getD k 0).toNat : Int)
theorem tab_get (k : Nat) (h : k < hexTable.size) : ((hexTable[k]'h).toNat : Int) = tab k := by
  have h' : k < hexTable.data.size := h
  show ((hexTable.data[k]'h').toNat : Int) = tab k
  unfold tab Array.getD
  rw [dif_pos h']
  rfl
theorem tab_val : ∀ k : Fin 22, hexval (tab k) = if (k : Nat) < 16 then ((k : Nat) : Int) else ((k : Nat) : Int) - 6 := by decide +kernel
theorem tab_all : ∀ c : Fin 256, hexval ((c : Nat) : Int) = -1 ∨ ∃ j : Fin 22, tab j = ((c : Nat) : Int) := by decide +kernel
theorem tab_hit {k : Nat} {h : k < hexTable.size} {c : Int} (hk : k < 22) (e : (((hexTable[k]'h).toNat : Int) == c) = true) : hexval c = if (k : Int) < 16 then (k : Int) else (k : Int) - 6 := by
  have e' : ((hexTable[k]'h).toNat : Int) = c := by simpa using e
  rw [tab_get] at e'
  have := tab_val ⟨k, hk⟩
  simp only at this
  rw [← e', this]
  by_cases h16 : k < 16
  · rw [if_pos h16, if_pos (by omega)]
  · rw [if_neg h16, if_neg (by omega)]
theorem tab_not {k : Nat} {h : k < hexTable.size} {c : Int} (e : (((hexTable[k]'h).toNat : Int) == c) = false) : tab k ≠ c := by
  rw [tab_get] at e
  simpa using e
theorem tab_more {k : Nat} {c : Int} (h : ∀ j, j < k → tab j ≠ c) (hk : tab k ≠ c) : ∀ j, j < k + 1 → tab j ≠ c := by
  intro j hj
  by_cases e : j = k
  · rw [e]; exact hk
  · exact h j (by omega)
theorem tab_none (c : Int) (h0 : 0 ≤ c) (h1 : c ≤ 255) (h : ∀ j, j < 22 → tab j ≠ c) : hexval c = -1 := by
  have := tab_all ⟨c.toNat, by omega⟩
  simp only at this
  rw [Int.toNat_of_nonneg h0] at this
  rcases this with h' | ⟨j, hj⟩
  · exact h'
  · exact absurd hj (h j j.2)
theorem ret_int {k : IntKind} {a b : Int} (h : a = b) : Ending.returned (.int k a) = .returned (.int k b) := by rw [h]

theorem dig_any (c : Int) (w : World) (h0 : 0 ≤ c) (h1 : c ≤ 255) :
    Calls Yba.prog 10 #[.int .u8 c] w fun e w' => e = .returned (.int .i64 (hexval c)) ∧ w = w' := by
  go_enter Yba.func10, Yba.ntmps10
  go_wp2
  go_loop [3] (fun i => ∃ k : Nat, k ≤ 22 ∧ i = .int .i64 k ∧ Hid (∀ j, j < k → tab j ≠ c)) (fun i => 22 - (intOf i).toNat)
  case atStart => exact ⟨0, Nat.zero_le _, rfl, (fun j hj => by omega)⟩
  case round =>
    obtain ⟨k, hk, rfl, HN⟩ := hrel
    by_cases hlt : k < 22
    · go_wp2
      · go_ret
        exact ⟨ret_int (by rw [tab_hit (k := k) hlt (by assumption), if_pos (by assumption)]), rfl⟩
      · go_ret
        exact ⟨ret_int (by rw [tab_hit (k := k) hlt (by assumption), if_neg (by omega)]), rfl⟩
      · have hne := tab_not (k := k) (c := c) (by assumption)
        go_round
        case rel => exact ⟨k + 1, by omega, by go_num, (tab_more HN.out hne)⟩
        case measure => simp [intOf]; omega
    · go_wp2
      go_ret
      exact ⟨ret_int (by rw [tab_none c h0 h1 (fun j hj => HN.out j (by omega))]), rfl⟩


/-! ### hex4 -/
def stepH (acc : Option Int) (c : Int) : Option Int := acc.bind fun a => if hexval c < 0 then none else some (a * 16 + hexval c)
/-- What a row of bytes spells in hex, if all are hex digits. -/
def hv (l : List Int) : Option Int := l.foldl stepH (some 0)
theorem hv_snoc (l : List Int) (c : Int) : hv (l ++ [c]) = stepH (hv l) c := by simp [hv]
theorem fold_none (l : List Int) : l.foldl stepH none = none := by
  induction l with
  | nil => rfl
  | cons c l ih => simpa [stepH] using ih
theorem hv_none (l m : List Int) (h : hv l = none) : hv (l ++ m) = none := by
  unfold hv at h ⊢
  rw [List.foldl_append, h, fold_none]
theorem hexval_bd (c : Int) : -1 ≤ hexval c ∧ hexval c ≤ 15 := by unfold hexval; split; · omega
                                                                  split; · omega
                                                                  split <;> omega

theorem hex_or (R d : Int) (h0 : 0 ≤ R) (h1 : R < 4096) (d0 : 0 ≤ d) (d1 : d < 16) : bits BinOp.or IntKind.i32 (R * 16) d = R * 16 + d :=
  bits_join .i32 31 (by decide) wraps_i32 4 (R * 16) d (by omega) (by omega) (by omega) d0 d1 (by omega)
theorem pow_lt (R : Int) (k : Nat) (h : R < 16 ^ k) (hk : k < 4) : R < 4096 := by
  match k, hk with
  | 0, _ => simp at h; omega
  | 1, _ => simp at h; omega
  | 2, _ => simp at h; omega
  | 3, _ => simp at h; omega
theorem pow_next (R d : Int) (k : Nat) (h : R < 16 ^ k) (d1 : d < 16) : R * 16 + d < 16 ^ (k + 1) := by
  rw [Int.pow_succ]; omega
theorem hv_step (zs : List Int) (i k : Nat) (R : Int) (h : hv ((zs.drop i).take k) = some R) (hk : i + k < zs.length) : hv ((zs.drop i).take (k + 1)) = stepH (some R) (zs.getD (i + k) 0) := by
  rw [take_snoc _ _ (by simp; omega), hv_snoc, h]
  simp [List.getD_eq_getElem?_getD, List.getElem?_drop]
theorem step_yes (R c d : Int) (e : hexval c = d) (d0 : 0 ≤ d) : stepH (some R) c = some (R * 16 + d) := by
  simp [stepH, e]; omega
theorem step_no (R c : Int) (e : hexval c = -1) : stepH (some R) c = none := by simp [stepH, e]
theorem hv_cut (zs : List Int) (i k : Nat) (hk : k < 4) (h : hv ((zs.drop i).take (k + 1)) = none) : hv ((zs.drop i).take 4) = none := by
  have e : (zs.drop i).take 4 = (zs.drop i).take (k + 1) ++ ((zs.drop i).drop (k + 1)).take (4 - (k + 1)) := by
    rw [← List.take_add]; congr 1; omega
  rw [e]; exact hv_none _ _ h
theorem ret_hex {R R' : Int} {b b' : Bool} (h1 : R = R') (h2 : b = b') : Ending.returned (.tuple #[.int .i32 R, .bool b]) = .returned (.tuple #[.int .i32 R', .bool b']) := by rw [h1, h2]

set_option maxHeartbeats 1000000 in
theorem hex4_yes (g len cap i : Nat) (a : Option Addr) (zs : List Int) (w : World) (hl : zs.length = len) (h21 : len ≤ 2097152) (hlc : len ≤ cap) (hc : BytesAt w a zs) (hd : w.cell? ⟨g, 0, none⟩ = some (.slice a len cap)) (hi : i + 4 ≤ len) :
    Calls Yba.prog 9 #[.pointer (some ⟨g, 0, none⟩), .int .i64 i] w fun e w' => e = .returned (.tuple #[.int .i32 ((hv ((zs.drop i).take 4)).getD 0), .bool (hv ((zs.drop i).take 4)).isSome]) ∧ w = w' := by
  have HL : Hid (zs.length = len) := hl
  clear hl
  obtain ⟨b, off, rfl, _⟩ := hc i (by rw [HL.out]; omega)
  go_enter Yba.func9, Yba.ntmps9
  go_wp2
  go_loop [6, 26] (fun r t => ∃ k : Nat, k ≤ 4 ∧ t = .int .i64 k ∧ ∃ R : Int, r = .int .i32 R ∧ Hid (hv ((zs.drop i).take k) = some R) ∧ 0 ≤ R ∧ R < 16 ^ k) (fun _ t => 4 - (intOf t).toNat)
  case atStart => exact ⟨0, Nat.zero_le _, rfl, 0, rfl, (show _ = _ from rfl), by omega, by omega⟩
  case round =>
    obtain ⟨k, hk, rfl, R, rfl, HR, hR0, hR1⟩ := hrel
    by_cases hlt : k < 4
    · obtain ⟨b', off', e, hcell, hc0, hc1⟩ := hc (i + k) (by rw [HL.out]; omega)
      simp at e
      obtain ⟨rfl, rfl⟩ := e
      rw [← Nat.add_assoc] at hcell
      have hR2 : R < 4096 := pow_lt R k hR1 hlt
      have HS : Hid (hv ((zs.drop i).take (k + 1)) = stepH (some R) (zs.getD (i + k) 0)) := hv_step zs i k R HR.out (by rw [HL.out]; omega)
      have HP : Hid (∀ d : Int, d < 16 → R * 16 + d < 16 ^ (k + 1)) := fun d => pow_next R d k hR1
      generalize zs.getD (i + k) 0 = c at *
      clear hR1 HR
      by_cases d1 : 48 ≤ c ∧ c ≤ 57
      · have HF := hex_or R (c - 48) hR0 hR2 (by omega) (by omega)
        have HV : Hid (hv ((zs.drop i).take (k + 1)) = some (R * 16 + (c - 48))) := by have := HS.out; rw [step_yes R c (c - 48) (by unfold hexval; rw [if_pos d1]) (by omega)] at this; exact this
        obtain ⟨d1, d2⟩ := d1
        go_wp2
        go_round
        case rel => exact ⟨k + 1, by omega, by go_num, _, rfl, HV, by omega, HP.out _ (by omega)⟩
        case measure => simp [intOf]; omega
      · by_cases d2 : 97 ≤ c ∧ c ≤ 102
        · have HF := hex_or R (c - 87) hR0 hR2 (by omega) (by omega)
          have HV : Hid (hv ((zs.drop i).take (k + 1)) = some (R * 16 + (c - 87))) := by have := HS.out; rw [step_yes R c (c - 87) (by unfold hexval; rw [if_neg d1, if_pos d2]) (by omega)] at this; exact this
          obtain ⟨d2, d3⟩ := d2
          clear d1
          go_wp2
          refine ⟨⟨_, _, _, _, _, ⟨k + 1, by omega, by go_num, _, rfl, HV, by omega, HP.out _ (by omega)⟩, rfl, rfl, rfl, rfl, rfl⟩, ?_⟩
          simp [intOf]
          omega
        · by_cases d3 : 65 ≤ c ∧ c ≤ 70
          · have HF := hex_or R (c - 55) hR0 hR2 (by omega) (by omega)
            have HV : Hid (hv ((zs.drop i).take (k + 1)) = some (R * 16 + (c - 55))) := by have := HS.out; rw [step_yes R c (c - 55) (by unfold hexval; rw [if_neg d1, if_neg d2, if_pos d3]) (by omega)] at this; exact this
            obtain ⟨d3, d4⟩ := d3
            clear d1 d2
            go_wp2
            refine ⟨⟨_, _, _, _, _, ⟨k + 1, by omega, by go_num, _, rfl, HV, by omega, HP.out _ (by omega)⟩, rfl, rfl, rfl, rfl, rfl⟩, ?_⟩
            simp [intOf]
            omega
          · have HV : Hid (hv ((zs.drop i).take 4) = none) := hv_cut zs i k hlt (by rw [HS.out, step_no R c (by unfold hexval; rw [if_neg d1, if_neg d2, if_neg d3])])
            clear HS HP
            go_wp2
            all_goals
              go_ret2
              exact ⟨ret_hex (by rw [HV.out]; rfl) (by rw [HV.out]; rfl), rfl⟩
    · obtain rfl : k = 4 := by omega
      go_wp2
      go_ret2
      exact ⟨ret_hex (by rw [HR.out]; rfl) (by rw [HR.out]; rfl), rfl⟩

theorem hex4_no (g len cap i : Nat) (a : Option Addr) (w : World) (hi40 : i ≤ 1099511627776) (hd : w.cell? ⟨g, 0, none⟩ = some (.slice a len cap)) (hi : len < i + 4) :
    Calls Yba.prog 9 #[.pointer (some ⟨g, 0, none⟩), .int .i64 i] w fun e w' => e = .returned (.tuple #[.int .i32 0, .bool false]) ∧ w = w' := by
  go_enter Yba.func9, Yba.ntmps9
  go_wp2
  go_ret2
  exact ⟨rfl, rfl⟩
end Go.Proofs.Ybulkdjvw
