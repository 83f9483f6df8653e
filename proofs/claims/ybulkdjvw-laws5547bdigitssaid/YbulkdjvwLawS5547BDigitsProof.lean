/-
  THE PROOF OF 'Rows.LawS5547BDigitsSaid' ('jsonform.LawS5547BDigits'): two slices of bytes and an array of four bytes by value; the row's own bound on a slice's size pays for the sum of the two lengths.
-/
import Derived.Test.YbulkdjvwHex
import Derived.SizedLaws
import Derived.Laws.IdiomArrays
namespace Go.Proofs.Ybulkdjvw.lawS5547BDigits
open Go.ChangeShapes Go.WideShapes Go.ChangeAt Go.RowKit
set_option linter.unusedVariables false

theorem own : ownKnob Yba.prog.godebug = none := by kernel_rfl
theorem laidOut : laidOutB Yba.prog = true := by kernel_rfl
theorem cells5 : Yba.prog.cellsOf 5 = 1 := by kernel_rfl
theorem cells36 : Yba.prog.cellsOf 36 = 4 := by kernel_rfl
theorem bytes5 : Yba.prog.bytesOf 5 = 1 := by kernel_rfl

/-- WHAT THE WALK IS TOLD OF A SLICE OF BYTES THAT CAME IN: it is nil; or it leads to a row of 'cap' cells, the numbers 'zs' (the first 'len' are its elements, the rest its spare room), each fitting its kind. -/
def IsRow (k : IntKind) (w : World) (a : Option Addr) (len cap : Nat) (zs : List Int) : Prop :=
  (a = none ∧ len = 0 ∧ cap = 0 ∧ zs = []) ∨
  ∃ x, a = some x ∧ len ≤ cap ∧ cap ≤ maxLen ∧ zs.length = cap ∧ (∀ i, i < zs.length → w.cell? (x.add i) = some (.int k (zs.getD i 0))) ∧ ∀ n ∈ zs, (Lit.int k n).wf = true

theorem walk_long (a0 a2 : Option Addr) (len0 cap0 len2 cap2 : Nat) (x0 x1 x2 x3 : Int) (w : World) (h0 : len0 ≤ 140737488351232) (h2 : len2 ≤ 140737488351232) (h : 1048576 < len0 + len2) :
    Calls Yba.prog 5 #[.slice a0 len0 cap0, .agg #[.int .u8 x0, .int .u8 x1, .int .u8 x2, .int .u8 x3], .slice a2 len2 cap2] w fun e w' => e = .returned (.bool true) ∧ Below w.heap.size w w' := by
  go_enter Yba.func5, Yba.ntmps5
  go_wp2
  go_ret
  exact ⟨rfl, (Below.refl _ _).alloc (Nat.le_refl _) _⟩

theorem src_cells {w1 : World} {a : Option Addr} {zs : List Int} (h : BytesAt w1 a zs) :
    ∀ ad, a = some ad → ∀ (j : Nat) (v : Value), (zs.map (Value.int .u8))[j]? = some v → w1.cell? (ad.add j) = some v := by
  intro ad had j v hv
  have hj : j < zs.length := by
    have := (List.getElem?_eq_some_iff.1 hv).1
    simpa using this
  obtain ⟨b', off', e, hcell, _⟩ := h j hj
  rw [had] at e
  simp at e
  subst e
  rw [add_plain, hcell]
  simp [List.getElem?_eq_getElem hj] at hv ⊢
  exact hv

def dg (x : Int) : Int := tab (x % 22).toNat

/-- The bytes that the first k picks give. -/
def pk (x0 x1 x2 x3 : Int) (k : Nat) : List Int := ([x0, x1, x2, x3].take k).map dg
theorem pick (x0 x1 x2 x3 : Int) (k : Nat) (hk : k < 4) (b0 : 0 ≤ x0 ∧ x0 ≤ 255) (b1 : 0 ≤ x1 ∧ x1 ≤ 255) (b2 : 0 ≤ x2 ∧ x2 ≤ 255) (b3 : 0 ≤ x3 ∧ x3 ≤ 255) :
    ∃ x : Int, (#[Value.int .u8 x0, .int .u8 x1, .int .u8 x2, .int .u8 x3] : Array Value)[k]? = some (.int .u8 x) ∧ 0 ≤ x ∧ x ≤ 255 ∧ pk x0 x1 x2 x3 (k + 1) = pk x0 x1 x2 x3 k ++ [dg x] := by
  match k, hk with
  | 0, _ => exact ⟨x0, rfl, b0.1, b0.2, rfl⟩
  | 1, _ => exact ⟨x1, rfl, b1.1, b1.2, rfl⟩
  | 2, _ => exact ⟨x2, rfl, b2.1, b2.2, rfl⟩
  | 3, _ => exact ⟨x3, rfl, b3.1, b3.2, rfl⟩
theorem dg_val (x : Int) (j : Nat) (hj : x % 22 = (j : Int)) : dg x = tab j := by
  unfold dg; rw [hj]; rfl
theorem dg_hex (j : Nat) (hj : j < 22) : hexval (tab j) = if (j : Int) < 16 then (j : Int) else (j : Int) - 6 := by
  have := tab_val ⟨j, hj⟩
  simp only at this
  rw [this]
  by_cases h : j < 16
  · rw [if_pos h, if_pos (by omega)]
  · rw [if_neg h, if_neg (by omega)]
theorem tab_bd : ∀ j : Fin 22, 0 ≤ tab j ∧ tab j ≤ 255 := by decide +kernel
theorem tab_nat (j : Nat) : tab j = ((hexTable.data.getD j 0).toNat : Int) := rfl

theorem own_step {w3 : World} {base g len0 k N : Nat} {z P P' : List Int} {t T : Int} (h : w3.ownsRow base 5 1 (.slice (some ⟨g, 0, none⟩) (len0 + k + 1) N) (len0 + k + 1) ((z ++ P).map (Value.int .u8) ++ [.int .u8 t])) (ht : t = T) (hp : P' = P ++ [T]) :
    Hid (w3.ownsRow base 5 1 (.slice (some ⟨g, 0, none⟩) (len0 + (k + 1)) N) (len0 + (k + 1)) ((z ++ P').map (Value.int .u8))) := by
  show World.ownsRow _ _ _ _ _ _ _
  rw [hp, ← ht, ← Nat.add_assoc]
  simpa using h
theorem below_step {w0 wr w3 : World} {B g : Nat} {o : Obj} (hb : Below B w0 wr) (hg : (wr.alloc o).grownBy w3 (some g)) (hB : B ≤ wr.heap.size) (hr : B ≤ g) : Hid (Below B w0 w3) :=
  (hb.alloc hB o).grown hg (by simp; omega) (fun k h => by simp at h; omega)
theorem one_lit (t : Int) : ∀ u ∈ [Value.int IntKind.u8 t], u.oneCell' = true := by
  intro u hu; simp at hu; subst hu; rfl

theorem bytesAt_own {w3 : World} {base g n cap : Nat} {zs : List Int} (h : w3.ownsRow base 5 1 (.slice (some ⟨g, 0, none⟩) n cap) n (zs.map (Value.int .u8))) (hb : ∀ z ∈ zs, 0 ≤ z ∧ z ≤ 255) : BytesAt w3 (some ⟨g, 0, none⟩) zs := by
  intro i hi
  have hn : zs.length = n := by have := h.1; simpa using this
  have hz : zs.getD i 0 ∈ zs := by rw [List.getD_eq_getElem?_getD, List.getElem?_eq_getElem hi]; exact List.getElem_mem hi
  refine ⟨g, 0, rfl, ?_, hb _ hz⟩
  rw [Nat.zero_add, h.cellAt i (by omega)]
  simp [List.getD_eq_getElem?_getD, List.getElem?_eq_getElem hi]
theorem bd_of {w : World} {a : Option Addr} {zs : List Int} (h : BytesAt w a zs) : ∀ z ∈ zs, 0 ≤ z ∧ z ≤ 255 := by
  intro z hz
  obtain ⟨i, hi, rfl⟩ := List.mem_iff_getElem.1 hz
  obtain ⟨_, _, _, _, hb⟩ := h i hi
  rw [List.getD_eq_getElem?_getD, List.getElem?_eq_getElem hi] at hb
  exact hb
theorem dg_bd (x : Int) : 0 ≤ dg x ∧ dg x ≤ 255 := by
  have h : (x % 22).toNat < 22 := by omega
  exact tab_bd ⟨(x % 22).toNat, h⟩
theorem pk_bd (x0 x1 x2 x3 : Int) : ∀ z ∈ pk x0 x1 x2 x3 4, 0 ≤ z ∧ z ≤ 255 := by
  intro z hz
  obtain ⟨x, _, rfl⟩ := List.mem_map.1 hz
  exact dg_bd x
theorem cut_mid (z0 P z2 : List Int) (h : P.length = 4) : (((z0 ++ P) ++ z2).drop z0.length).take 4 = P := by
  rw [List.append_assoc, List.drop_left, ← h, List.take_left]

set_option maxHeartbeats 4000000 in
theorem walk_row (a0 a2 : Option Addr) (len0 cap0 len2 cap2 : Nat) (x0 x1 x2 x3 : Int) (z0 z2 : List Int) (w : World) (hl0 : z0.length = len0) (hl2 : z2.length = len2) (h20 : len0 + len2 ≤ 1048576)
    (hn0 : a0 = none → len0 = 0 ∧ cap0 = 0) (hn2 : a2 = none → len2 = 0 ∧ cap2 = 0) (hc0 : BytesAt w a0 z0) (hc2 : BytesAt w a2 z2)
    (b0 : 0 ≤ x0 ∧ x0 ≤ 255) (b1 : 0 ≤ x1 ∧ x1 ≤ 255) (b2 : 0 ≤ x2 ∧ x2 ≤ 255) (b3 : 0 ≤ x3 ∧ x3 ≤ 255) :
    Calls Yba.prog 5 #[.slice a0 len0 cap0, .agg #[.int .u8 x0, .int .u8 x1, .int .u8 x2, .int .u8 x3], .slice a2 len2 cap2] w fun e w' => e = .returned (.bool true) ∧ Below w.heap.size w w' := by
  have HL0 : Hid (z0.length = len0) := hl0
  have HL2 : Hid (z2.length = len2) := hl2
  have HN0 : Hid (a0 = none → len0 = 0 ∧ cap0 = 0) := hn0
  have HN2 : Hid (a2 = none → len2 = 0 ∧ cap2 = 0) := hn2
  have HPK : Hid (∀ k, k < 4 → ∃ x : Int, (#[Value.int .u8 x0, .int .u8 x1, .int .u8 x2, .int .u8 x3] : Array Value)[k]? = some (.int .u8 x) ∧ 0 ≤ x ∧ x ≤ 255 ∧ pk x0 x1 x2 x3 (k + 1) = pk x0 x1 x2 x3 k ++ [dg x]) := fun k hk => pick x0 x1 x2 x3 k hk b0 b1 b2 b3
  clear hl0 hl2 hn0 hn2 b0 b1 b2 b3
  obtain ⟨i0, hi, hz0, hz1, hz2⟩ := info_parts Yba.info5
  obtain ⟨X, hX⟩ : ∃ X, X = z0.map (Value.int .u8) := ⟨_, rfl⟩
  have HX : Hid (X = z0.map (Value.int .u8)) := hX
  have HXL : Hid (X.length = len0 * 1) := by rw [hX]; simp; exact HL0.out
  have HX1 : Hid (∀ u ∈ X, u.oneCell' = true) := by rw [hX]; exact ints_oneCell _ _
  clear hX
  have h21 : decide ((1048576 : Int) < (len0 : Int) + (len2 : Int)) = false := decide_eq_false (by omega)
  go_enter Yba.func5, Yba.ntmps5
  go_wp2_with (first
    | (at_make; refine wpList_make_own _ rfl (.const (.int .i64 0)) (.tmp 27) 22 rfl (w.heap.size + 1) 5 i0 (.int .u8 0) 1 Yba.underlying22 hi hz0 hz1 _ _ _ (len0 + 4 + len2) rfl rfl (by omega) (by rw [hz2]; omega) (by unfold maxLen; omega) (by simp) ?_; intro w1 hown hgrow; rw [World.size_alloc] at hown)
    | (at_builtin; refine wpList_append_fits_any _ rfl (.tmp 29) (.tmp 30) 22 rfl (w.heap.size + 1) 5 i0 1 Yba.underlying22 hi hz1 _ _ _ _ rfl hown a0 len0 cap0 X rfl HXL.out HN0.out ?_ HX1.out (by omega) ?_; rotate_right; intro w2 hown2 hgrow2))
  rotate_left
  · rw [HX.out]
    exact src_cells (hc0.later (((Below.refl _ _).alloc (Nat.le_refl _) _).grown hgrow (by simp) (fun k h => by cases h)))
  have HB2 : Hid (Below (w.heap.size + 1) (w.alloc (.cells #[.int .u8 x0, .int .u8 x1, .int .u8 x2, .int .u8 x3] 36)) w2) :=
    ((Below.refl _ _).grown hgrow (by simp) (fun k h => by cases h)).grown hgrow2 (by have := hgrow.size; simp at this; omega) (fun k h => by simp at h; omega)
  have HO2 : Hid (w2.ownsRow (w.heap.size + 1) 5 1 (.slice (some ⟨w.heap.size + 1, 0, none⟩) len0 (len0 + 4 + len2)) len0 ((z0 ++ pk x0 x1 x2 x3 0).map (Value.int .u8))) := by
    show World.ownsRow _ _ _ _ _ _ _
    rw [Nat.zero_add, List.nil_append, HX.out] at hown2
    simpa [pk] using hown2
  clear hown hown2 hgrow hgrow2
  go_loopw [7, 8, 9] (fun v s t wr => ∃ k : Nat, k ≤ 4 ∧ t = .int .i64 k ∧ v = .slice (some ⟨w.heap.size + 1, 0, none⟩) (len0 + k) (len0 + 4 + len2) ∧
      Hid (wr.ownsRow (w.heap.size + 1) 5 1 (.slice (some ⟨w.heap.size + 1, 0, none⟩) (len0 + k) (len0 + 4 + len2)) (len0 + k) ((z0 ++ pk x0 x1 x2 x3 k).map (Value.int .u8))) ∧
      Hid (Below (w.heap.size + 1) (w.alloc (.cells #[.int .u8 x0, .int .u8 x1, .int .u8 x2, .int .u8 x3] 36)) wr) ∧
      ∃ W : Int, s = .int .i64 W ∧ Hid (hv (pk x0 x1 x2 x3 k) = some W) ∧ 0 ≤ W ∧ W < 16 ^ k) (fun _ _ t _ => 4 - (intOf t).toNat)
  case atStart => exact ⟨0, Nat.zero_le _, rfl, rfl, HO2, HB2, 0, rfl, (show _ = _ from rfl), by omega, by omega⟩
  case round =>
    obtain ⟨k, hk, rfl, rfl, HO, HB, W, rfl, HW, hW0, hW1⟩ := hrel
    by_cases hlt : k < 4
    · obtain ⟨x, hx, hx0, hx1, hpk⟩ := HPK.out k hlt
      have hbox : wr.cell? ⟨w.heap.size, k, none⟩ = some (.int .u8 x) := by
        rw [HB.out.cell (by simp)]; exact (World.cell?_alloc_mark w _ 36 (0, 0) k).trans hx
      have hW2 : W < 4096 := pow_lt W k hW1 hlt
      have HP : Hid (∀ d : Int, d < 16 → W * 16 + d < 16 ^ (k + 1)) := fun d => pow_next W d k hW1
      obtain ⟨j, hj⟩ : ∃ j : Nat, x % 22 = (j : Int) := ⟨(x % 22).toNat, by omega⟩
      have hj22 : j < 22 := by omega
      have HS : Hid (hv (pk x0 x1 x2 x3 (k + 1)) = stepH (some W) (tab j)) := by
        show _ = _
        rw [hpk, hv_snoc, HW.out, dg_val x j hj]
      have HPK' : Hid (pk x0 x1 x2 x3 (k + 1) = pk x0 x1 x2 x3 k ++ [tab j]) := by
        show _ = _
        rw [hpk, dg_val x j hj]
      have hjs : j < hexTable.size := hj22
      have htab := tab_get j hjs
      unfold hexTable at htab
      have htb := tab_bd ⟨j, hj22⟩
      have HH := dg_hex j hj22
      have HH : Hid _ := HH
      generalize tab j = T at *
      clear hpk hx hW1 HW
      obtain ⟨htb0, htb1⟩ := htb
      have hsz : w.heap.size + 1 ≤ wr.heap.size := by have := HB.out.size; simpa using this
      by_cases h16 : (j : Int) < 16
      · have HV : Hid (hv (pk x0 x1 x2 x3 (k + 1)) = some (W * 16 + j)) := by
          have := HS.out
          rw [step_yes W T j (by rw [HH.out, if_pos h16]) (by omega)] at this
          exact this
        go_wp2_with (at_builtin; refine wpList_append_fits _ rfl (.tmp 41) (.tmp 44) 22 rfl (w.heap.size + 1) 5 i0 1 Yba.underlying22 hi hz1 _ _ _ _ rfl (HO.out.alloc _) ⟨wr.heap.size, 0, none⟩ 1 1 [.int .u8 _] rfl rfl (cell_one_new _ _ _) ?_ ?_ ?_; rotate_right; intro w3 hown3 hgrow3)
        case refine_1 => exact one_lit _
        case refine_2 => omega
        have R1 := own_step hown3 htab HPK'.out
        have R2 := below_step HB.out hgrow3 hsz (Nat.le_refl _)
        go_roundw
        case rel => exact ⟨k + 1, by omega, by go_num, rfl, R1, R2, _, rfl, HV, by omega, HP.out _ (by omega)⟩
        case measure => simp [intOf]; omega
      · have HV : Hid (hv (pk x0 x1 x2 x3 (k + 1)) = some (W * 16 + (j - 6))) := by
          have := HS.out
          rw [step_yes W T (j - 6) (by rw [HH.out, if_neg h16]) (by omega)] at this
          exact this
        go_wp2_with (at_builtin; refine wpList_append_fits _ rfl (.tmp 41) (.tmp 44) 22 rfl (w.heap.size + 1) 5 i0 1 Yba.underlying22 hi hz1 _ _ _ _ rfl (HO.out.alloc _) ⟨wr.heap.size, 0, none⟩ 1 1 [.int .u8 _] rfl rfl (cell_one_new _ _ _) ?_ ?_ ?_; rotate_right; intro w3 hown3 hgrow3)
        case refine_1 => exact one_lit _
        case refine_2 => omega
        have R1 := own_step hown3 htab HPK'.out
        have R2 := below_step HB.out hgrow3 hsz (Nat.le_refl _)
        go_roundw
        case rel => exact ⟨k + 1, by omega, by go_num, rfl, R1, R2, _, rfl, HV, by omega, HP.out _ (by omega)⟩
        case measure => simp [intOf]; omega
    · obtain rfl : k = 4 := by omega
      have hsz : w.heap.size + 1 ≤ wr.heap.size := by have := HB.out.size; simpa using this
      have hB4 : Below w.heap.size w wr := ((Below.refl _ _).alloc (Nat.le_refl _) _).trans (HB.out.mono (by omega))
      obtain ⟨Y, hY⟩ : ∃ Y, Y = z2.map (Value.int .u8) := ⟨_, rfl⟩
      have HY : Hid (Y = z2.map (Value.int .u8)) := hY
      have HYL : Hid (Y.length = len2 * 1) := by rw [hY]; simp; exact HL2.out
      have HY1 : Hid (∀ u ∈ Y, u.oneCell' = true) := by rw [hY]; exact ints_oneCell _ _
      have HYc : Hid (∀ ad, a2 = some ad → ∀ (j : Nat) (v : Value), Y[j]? = some v → wr.cell? (ad.add j) = some v) := by rw [hY]; exact src_cells (hc2.later hB4)
      clear hY
      go_wp2_with (at_builtin; refine wpList_append_fits_any _ rfl (.tmp 55) (.tmp 56) 22 rfl (w.heap.size + 1) 5 i0 1 Yba.underlying22 hi hz1 _ _ _ _ rfl HO.out a2 len2 cap2 Y rfl HYL.out HN2.out HYc.out HY1.out (by omega) ?_; intro w3 hown3 hgrow3)
      obtain ⟨zs, hzs⟩ : ∃ zs, zs = (z0 ++ pk x0 x1 x2 x3 4) ++ z2 := ⟨_, rfl⟩
      have HZL : Hid (zs.length = len0 + 4 + len2) := by
        show _ = _
        rw [hzs]; simp [pk, HL0.out, HL2.out]; omega
      have hbs : ∀ z ∈ zs, 0 ≤ z ∧ z ≤ 255 := by
        intro z hz
        rw [hzs] at hz
        rcases List.mem_append.1 hz with hz | hz
        · rcases List.mem_append.1 hz with hz | hz
          · exact bd_of hc0 z hz
          · exact pk_bd x0 x1 x2 x3 z hz
        · exact bd_of hc2 z hz
      have hin : BytesAt w3 (some ⟨w.heap.size + 1, 0, none⟩) zs := by
        rw [HY.out, ← List.map_append, ← hzs] at hown3
        exact bytesAt_own hown3 hbs
      have HV : Hid (hv ((zs.drop len0).take 4) = some W) := by
        show _ = _
        rw [hzs, ← HL0.out, cut_mid z0 _ z2 (by simp [pk]), HW.out]
      have hB3 : Below w.heap.size w w3 := hB4.grown hgrow3 (by omega) (fun k h => by simp at h; omega)
      have hW2 : W < 65536 := by simpa using hW1
      clear hown3 hgrow3 hbs hzs HW HO HB hB4 hW1
      refine (copy_some ⟨w.heap.size + 1, 0, none⟩ (len0 + 4 + len2) (len0 + 4 + len2) zs _ HZL.out (by omega) hin).mono ?_
      rintro e w4 ⟨rfl, hc4, hb4⟩
      have hin4 := hin.later hb4
      have hB4 : Below w.heap.size w w4 := hB3.trans (hb4.mono hB3.size)
      go_wp2_with fail
      obtain ⟨w5, hw5⟩ : ∃ w5, w4.alloc (.cells #[.slice (some ⟨w.heap.size + 1, 0, none⟩) (len0 + 4 + len2) (len0 + 4 + len2), .int .i64 0] 30) = w5 := ⟨_, rfl⟩
      have hd : w5.cell? ⟨w4.heap.size, 0, none⟩ = some (.slice (some ⟨w.heap.size + 1, 0, none⟩) (len0 + 4 + len2) (len0 + 4 + len2)) := by rw [← hw5]; simp [go_sem]
      have ho : w5.cell? ⟨w4.heap.size, 1, none⟩ = some (.int .i64 0) := by rw [← hw5]; simp [go_sem]
      have hb5 : Below w.heap.size w w5 := by rw [← hw5]; exact hB4.alloc hB4.size _
      have hc5 : BytesAt w5 (some ⟨w3.heap.size, 0, none⟩) zs := by rw [← hw5]; exact hc4.later ((Below.refl _ _).alloc (Nat.le_refl _) _)
      have hin5 : BytesAt w5 (some ⟨w.heap.size + 1, 0, none⟩) zs := by rw [← hw5]; exact hin4.later ((Below.refl _ _).alloc (Nat.le_refl _) _)
      rw [hw5]
      clear hw5 hc4 hin4 hin hB4 hB3 hb4
      have hyes4 := hex4_yes w4.heap.size (len0 + 4 + len2) (len0 + 4 + len2) len0 (some ⟨w.heap.size + 1, 0, none⟩) zs w5 HZL.out (by omega) (Nat.le_refl _) hin5 hd (by omega)
      rw [HV.out] at hyes4
      refine hyes4.mono ?_
      clear hyes4
      rintro e w' ⟨rfl, rfl⟩
      go_wp2_with (go_at_call 11; refine (equal_same _ _ (len0 + 4 + len2) (len0 + 4 + len2) (len0 + 4 + len2) zs _ HZL.out hin5 hc5).mono ?_; rintro e w' ⟨rfl, rfl⟩)
      go_ret
      exact ⟨rfl, hb5⟩

theorem IsRow.bytes {w : World} {a : Option Addr} {len cap : Nat} {zs : List Int} (h : IsRow .u8 w a len cap zs) : (zs.take len).length = len ∧ BytesAt w a (zs.take len) ∧ (a = none → len = 0 ∧ cap = 0) := by
  rcases h with ⟨rfl, rfl, rfl, rfl⟩ | ⟨x, rfl, hl, hm, hz, hcell, hwz⟩
  · exact ⟨rfl, fun i hi => by simp at hi, fun _ => ⟨rfl, rfl⟩⟩
  · exact ⟨by simp; omega, bytesAt_of len hcell hwz, fun h => by cases h⟩

/-! ### STEP 1: THE WALK -/
theorem walk (a0 : Option Addr) (len0 cap0 : Nat) (z0 : List Int) (x0 x1 x2 x3 : Int) (a2 : Option Addr) (len2 cap2 : Nat) (z2 : List Int) (w : World) (w0 : IsRow .u8 w a0 len0 cap0 z0) (r0 : len0 ≤ 140737488351232)
    (y0 : (Lit.int .u8 x0).wf = true) (y1 : (Lit.int .u8 x1).wf = true) (y2 : (Lit.int .u8 x2).wf = true) (y3 : (Lit.int .u8 x3).wf = true) (w2 : IsRow .u8 w a2 len2 cap2 z2) (r2 : len2 ≤ 140737488351232) :
    Calls Yba.prog 5 #[.slice a0 len0 cap0, .agg #[.int .u8 x0, .int .u8 x1, .int .u8 x2, .int .u8 x3], .slice a2 len2 cap2] w fun e w' => e = .returned (.bool true) ∧ Below w.heap.size w w' := by
  by_cases h20 : len0 + len2 ≤ 1048576
  · obtain ⟨e0, c0, n0⟩ := w0.bytes
    obtain ⟨e2, c2, n2⟩ := w2.bytes
    exact walk_row a0 a2 len0 cap0 len2 cap2 x0 x1 x2 x3 _ _ w e0 e2 h20 n0 n2 c0 c2 (bounds_u8 y0) (bounds_u8 y1) (bounds_u8 y2) (bounds_u8 y3)
  · exact walk_long a0 a2 len0 cap0 len2 cap2 x0 x1 x2 x3 w r0 r2 (by omega)

theorem list4 {α : Type} (l : List α) (h : (⟨l⟩ : Array α).size = 4) : ∃ a b c d, l = [a, b, c, d] := by
  match l, h with
  | [a, b, c, d], _ => exact ⟨a, b, c, d, rfl⟩

/-- A slice of bytes, opened: its row, and how the datum reads. -/
theorem open_row {H : Type} {enc : TypeId × Value → H} {W : World} {a0 : Option Addr} {len0 cap0 : Nat} {d0 : DataW H} {p0 : List MemPlace} (h0 : DataW.Trod enc Yba.prog W 0 (fun _ => true) true 22 (.slice a0 len0 cap0) d0 p0) :
    ∃ zs, IsRow .u8 W a0 len0 cap0 zs ∧ (len0 = 0 ∨ (d0 = .slice (lits .u8 (zs.take len0)) (lits .u8 (zs.drop len0)) ∧ len0 ≤ zs.length)) := by
  obtain ⟨fuel, hf⟩ := h0
  rcases open_ints Yba.underlying22 Yba.underlying5 cells5 hf with ⟨hcs, _⟩ | ⟨x, l, c, zs, hcs, _, hl, hm, hz, hx, hcell, hwz⟩
  · simp [Value.cells] at hcs
    obtain ⟨rfl, rfl, rfl⟩ := hcs
    exact ⟨[], .inl ⟨rfl, rfl, rfl, rfl⟩, .inl rfl⟩
  · simp [Value.cells] at hcs
    obtain ⟨rfl, rfl, rfl⟩ := hcs
    simp only [Prod.mk.injEq] at hx
    have hz' : zs.length = cap0 := by simpa using hz
    exact ⟨zs, .inr ⟨_, rfl, hl, hm, hz', hcell, hwz⟩, .inr ⟨hx.1, by omega⟩⟩

theorem open_arr {H : Type} {enc : TypeId × Value → H} {W : World} {base : Nat} {v : Value} {d : DataW H} {p : List MemPlace} (hv : Value.okWide Yba.prog W .any base 36 v) (h : DataW.Trod enc Yba.prog W 0 (fun _ => true) true 36 v d p) :
    ∃ x0 x1 x2 x3, v = .agg #[.int .u8 x0, .int .u8 x1, .int .u8 x2, .int .u8 x3] ∧ (Lit.int .u8 x0).wf = true ∧ (Lit.int .u8 x1).wf = true ∧ (Lit.int .u8 x2).wf = true ∧ (Lit.int .u8 x3).wf = true := by
  obtain ⟨cs, rfl, hsz, _⟩ : ∃ cs, v = .agg cs ∧ cs.size = Yba.prog.cellsOf 36 ∧ Row.okWide Yba.prog W .any base 36 cs := by
    simpa [Value.okWide, Yba.underlying36] using hv
  rw [cells36] at hsz
  obtain ⟨l⟩ := cs
  obtain ⟨c0, c1, c2, c3, rfl⟩ := list4 l hsz
  obtain ⟨fuel, hf⟩ := h
  obtain ⟨y0, y1, y2, y3, m, hx, hy0, hy1, hy2, hy3⟩ := trod_array4 Yba.underlying36 cells5 hf
  obtain ⟨x0, e0, rfl, w0⟩ := DataW.trod_int Yba.underlying5 hy0
  obtain ⟨x1, e1, rfl, w1⟩ := DataW.trod_int Yba.underlying5 hy1
  obtain ⟨x2, e2, rfl, w2⟩ := DataW.trod_int Yba.underlying5 hy2
  obtain ⟨x3, e3, rfl, w3⟩ := DataW.trod_int Yba.underlying5 hy3
  simp at e0 e1 e2 e3
  subst e0 e1 e2 e3
  exact ⟨x0, x1, x2, x3, rfl, w0, w1, w2, w3⟩

/-! ### THE ROW's STEP -/
set_option maxRecDepth 100000 in
theorem lifted (os : Os) (started : os.Started) (H : Type) (enc : TypeId × Value → H) :
    ReturnsInHanded {} Yba.checked os 5 .any (Rows.lawS5547BDigitsSpec.pre6 enc Yba.prog Yba.f5 Rows.lawS5547BDigitsRow.domain false) (Rows.lawS5547BDigitsSpec.post enc Yba.prog Yba.f5 false true false false) := by
  refine returnsInHanded_of_change_sized (C := Yba.checked) own started (by kernel_rfl) Yba.func5
    (ChangeSpec.witness6 (enc := enc) (C := Yba.checked) false ⟨#[], #[.slice none 0 0, .agg #[.int .u8 0, .int .u8 0, .int .u8 0, .int .u8 0], .slice none 0 0], []⟩ 8 (by kernel_rfl) (by kernel_rfl) (by kernel_rfl) (by kernel_rfl)) ?_
  intro W base args ds gs before hval0 hW hcnd hsz0 _
  have hval : ∀ (j : Nat) t v, Yba.f5.params[j]? = some t → args[j]? = some v → Value.okWide Yba.prog W .any base t v := hval0
  have hsz : (DataW.weightsEach Yba.prog (Yba.f5.params.toList ++ Rows.lawS5547BDigitsSpec.plain.varTypes Yba.prog) (ds ++ gs)).all (· ≤ reachBytes) = true := hsz0
  have hW' := hW
  obtain ⟨p, q, hA0, hV, rfl, hfz, hnd⟩ := hW
  have hA : DataW.TrodAll enc Yba.prog W 0 (fun _ => true) true Yba.f5.params.toList args.toList ds p := hA0
  rw [Yba.params5] at hA hval hsz
  obtain ⟨v0, vs0, d0, ds0, p0, q0, hargs, rfl, rfl, h0, r0⟩ := trodAll_cons hA
  obtain ⟨v1, vs1, d1, ds1, p1, q1, rfl, rfl, rfl, h1, r1⟩ := trodAll_cons r0
  obtain ⟨v2, vs2, d2, ds2, p2, q2, rfl, rfl, rfl, h2, r2⟩ := trodAll_cons r1
  obtain ⟨rfl, rfl, rfl⟩ := trodAll_nil r2
  obtain rfl : args = #[v0, v1, v2] := by cases args; simp_all
  obtain ⟨rfl, rfl⟩ := trodVars_none hV
  obtain ⟨a0, len0, cap0, rfl⟩ := okWide_slice Yba.underlying22 (hval 0 22 v0 rfl rfl)
  obtain ⟨a2, len2, cap2, rfl⟩ := okWide_slice Yba.underlying22 (hval 2 22 v2 rfl rfl)
  have lt0 : ∀ x ∈ p0, x.block < W.heap.size := by obtain ⟨m, hm⟩ := h0; exact DataW.trod_lt m _ _ _ hm
  have lt1 : ∀ x ∈ p1, x.block < W.heap.size := by obtain ⟨m, hm⟩ := h1; exact DataW.trod_lt m _ _ _ hm
  have lt2 : ∀ x ∈ p2, x.block < W.heap.size := by obtain ⟨m, hm⟩ := h2; exact DataW.trod_lt m _ _ _ hm
  obtain ⟨z0, w0, e0⟩ := open_row h0
  obtain ⟨z2, w2, e2⟩ := open_row h2
  obtain ⟨x0, x1, x2, x3, rfl, y0, y1, y2, y3⟩ := open_arr (hval 1 36 v1 rfl rfl) h1
  have l0 : len0 ≤ 140737488351232 := by
    rcases e0 with e | ⟨e, hl⟩
    · omega
    · have := sized_slice hsz (j := 0) (t := 22) (e := 5) rfl (congrArg some e) Yba.underlying22
      rw [bytes5] at this
      simp only [lits, List.length_map, List.length_take, List.length_drop, reachBytes] at this
      omega
  have l2 : len2 ≤ 140737488351232 := by
    rcases e2 with e | ⟨e, hl⟩
    · omega
    · have := sized_slice hsz (j := 2) (t := 22) (e := 5) rfl (congrArg some e) Yba.underlying22
      rw [bytes5] at this
      simp only [lits, List.length_map, List.length_take, List.length_drop, reachBytes] at this
      omega
  clear hA0 hval0
  refine (walk a0 len0 cap0 z0 x0 x1 x2 x3 a2 len2 cap2 z2 W w0 l0 y0 y1 y2 y3 w2 l2).mono fun e W' ⟨he, bel⟩ => ?_
  subst he
  exact ⟨_, rfl, _, _, _, [], _, [], hW', trodAll_mk1 (shut_bool Yba.underlying4 _), (trodAll_cons_mk (Below.trod laidOut (by kernel_rfl) (of_decide_eq_true (by kernel_rfl)) h0 bel lt0) (trodAll_cons_mk (Below.trod laidOut (by kernel_rfl) (of_decide_eq_true (by kernel_rfl)) h1 bel lt1) (trodAll_cons_mk (Below.trod laidOut (by kernel_rfl) (of_decide_eq_true (by kernel_rfl)) h2 bel lt2) trodAll_mk0))), rfl, bel.frame _, fun h => by cases h⟩

theorem over : Rows.lawS5547BDigitsRow.holds Yba.pinned (OpenSpec.ofChange Rows.lawS5547BDigitsSpec) :=
  OpenClaim.holds_of_wide 5 Yba.f5 rfl rfl rfl rfl rfl rfl rfl ⟨rfl, rfl, rfl, rfl, rfl⟩ rfl rfl rfl rfl rfl (by kernel_rfl) Yba.func5 (by kernel_rfl)
    (of_decide_eq_true (by kernel_rfl)) (by unfold Func.isWrapper; first | (rw [if_pos (by decide +kernel)]; kernel_rfl) | (rw [if_neg (by decide +kernel)]; exact ⟨rfl, rfl⟩))
    (fun os started H enc _ => lifted os started H enc)

/-- THE STATEMENT -/
theorem proved : Rows.LawS5547BDigitsSaid := over
end Go.Proofs.Ybulkdjvw.lawS5547BDigits
