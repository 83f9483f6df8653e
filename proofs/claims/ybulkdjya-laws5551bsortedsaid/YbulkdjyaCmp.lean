/-
  SHARED CONTRACTS OF THIS SEAT (1): the library's compares (cmp.Compare, slices.Compare, cmp.Or), and the rank of a slot (place, zzs5551bplace).
-/
import Derived.Test.YbulkdjyaRows
import Derived.WalkKit
import Derived.ProofKit
import Derived.OpenShut
import Derived.Below
import Derived.Handy
import Derived.WalkSmall
import Derived.WalkSpells
import Derived.Deep.QuietTactic
import Derived.BigQuiet
import Derived.StillTailTactics
namespace Go.Proofs.Ybulkdjya
open Go.ChangeShapes Go.WideShapes Go.ChangeAt Go.RowKit
set_option linter.unusedVariables false

/-! ### rows of ints in memory; a record in memory -/
def IntsAt (w : World) (a : Option Addr) (zs : List Int) : Prop :=
  ∀ i, i < zs.length → ∃ b off, a = some ⟨b, off, none⟩ ∧ w.cell? ⟨b, off + i, none⟩ = some (.int .i64 (zs.getD i 0))
theorem IntsAt.later {w wx : World} {a : Option Addr} {zs : List Int} (h : IntsAt w a zs) (hb : Below w.heap.size w wx) : IntsAt wx a zs := by
  intro i hi
  obtain ⟨b, off, ha, hc⟩ := h i hi
  exact ⟨b, off, ha, cell_later hb hc⟩

/-! ### the library's compares -/
def cmp3 (x y : Int) : Int := if x < y then -1 else if y < x then 1 else 0
theorem ret_int {k : IntKind} {a b : Int} (h : a = b) : Ending.returned (.int k a) = .returned (.int k b) := by rw [h]
theorem cmp_int (x y : Int) (w : World) : Calls Yba.prog 16 #[.int .i64 x, .int .i64 y] w fun e w' => e = .returned (.int .i64 (cmp3 x y)) ∧ w' = w := by
  unfold cmp3
  by_cases h1 : x < y
  · rw [if_pos h1]
    go_enter Yba.func16, Yba.ntmps16
    go_wp2
    go_ret
    exact ⟨rfl, rfl⟩
  · rw [if_neg h1]
    by_cases h2 : y < x
    · rw [if_pos h2]
      go_enter Yba.func16, Yba.ntmps16
      go_wp2
      go_ret
      exact ⟨rfl, rfl⟩
    · rw [if_neg h2]
      go_enter Yba.func16, Yba.ntmps16
      go_wp2
      go_ret
      exact ⟨rfl, rfl⟩
theorem cmp_u64 (x y : Int) (w : World) : Calls Yba.prog 17 #[.int .u64 x, .int .u64 y] w fun e w' => e = .returned (.int .i64 (cmp3 x y)) ∧ w' = w := by
  unfold cmp3
  by_cases h1 : x < y
  · rw [if_pos h1]
    go_enter Yba.func17, Yba.ntmps17
    go_wp2
    go_ret
    exact ⟨rfl, rfl⟩
  · rw [if_neg h1]
    by_cases h2 : y < x
    · rw [if_pos h2]
      go_enter Yba.func17, Yba.ntmps17
      go_wp2
      go_ret
      exact ⟨rfl, rfl⟩
    · rw [if_neg h2]
      go_enter Yba.func17, Yba.ntmps17
      go_wp2
      go_ret
      exact ⟨rfl, rfl⟩

def cmpL : List Int → List Int → Int
  | [], [] => 0
  | [], _ :: _ => -1
  | _ :: _, [] => 1
  | x :: xs, y :: ys => if cmp3 x y = 0 then cmpL xs ys else cmp3 x y
theorem cmp3_bd (x y : Int) : -1 ≤ cmp3 x y ∧ cmp3 x y ≤ 1 := by
  unfold cmp3
  split
  · omega
  · split <;> omega
theorem drop_nil (l : List Int) (k : Nat) (h : l.length ≤ k) : l.drop k = [] := List.drop_eq_nil_of_le h
theorem drop_cons (l : List Int) (k : Nat) (h : k < l.length) : l.drop k = l.getD k 0 :: l.drop (k + 1) := by
  rw [List.drop_eq_getElem_cons h, List.getD_eq_getElem?_getD, List.getElem?_eq_getElem h]; rfl

set_option maxHeartbeats 1000000 in
theorem cmp_slices (a b : Option Addr) (ca cb : Nat) (xs ys : List Int) (w : World) (hx : xs.length ≤ 16777216) (hy : ys.length ≤ 16777216) (ha : IntsAt w a xs) (hb : IntsAt w b ys) :
    Calls Yba.prog 18 #[.slice a xs.length ca, .slice b ys.length cb] w fun e w' => e = .returned (.int .i64 (cmpL xs ys)) ∧ w' = w := by
  obtain ⟨n, hn⟩ : ∃ n, xs.length = n := ⟨_, rfl⟩
  obtain ⟨m, hm⟩ : ∃ m, ys.length = m := ⟨_, rfl⟩
  have HN : Hid (xs.length = n) := hn
  have HM : Hid (ys.length = m) := hm
  rw [hn, hm]
  rw [hn] at hx
  rw [hm] at hy
  clear hn hm
  go_enter Yba.func18, Yba.ntmps18
  go_wp2
  go_loop [11] (fun t => ∃ k : Nat, k ≤ n ∧ k ≤ m ∧ t = .int .i64 k ∧ Hid (cmpL xs ys = cmpL (xs.drop k) (ys.drop k))) (fun t => n - (intOf t).toNat)
  case atStart => exact ⟨0, Nat.zero_le _, Nat.zero_le _, rfl, (show _ = _ from rfl)⟩
  case round =>
    obtain ⟨k, hk, hkm, rfl, HC⟩ := hrel
    by_cases hlt : k < n
    · obtain ⟨ba, oa, rfl, hca⟩ := ha k (by rw [HN.out]; exact hlt)
      by_cases hltm : k < m
      · obtain ⟨bb, ob, rfl, hcb⟩ := hb k (by rw [HM.out]; exact hltm)
        have HX : Hid (cmpL (xs.drop k) (ys.drop k) = if cmp3 (xs.getD k 0) (ys.getD k 0) = 0 then cmpL (xs.drop (k + 1)) (ys.drop (k + 1)) else cmp3 (xs.getD k 0) (ys.getD k 0)) := by
          show _ = _
          rw [drop_cons xs k (by rw [HN.out]; exact hlt), drop_cons ys k (by rw [HM.out]; exact hltm)]
          rfl
        generalize xs.getD k 0 = x at *
        generalize ys.getD k 0 = y at *
        have hbd := cmp3_bd x y
        have HD : Hid (∀ wx, Calls Yba.prog 16 #[.int .i64 x, .int .i64 y] wx fun e w' => e = .returned (.int .i64 (cmp3 x y)) ∧ w' = wx) := fun wx => cmp_int x y wx
        obtain ⟨d, hd⟩ : ∃ d, cmp3 x y = d := ⟨_, rfl⟩
        rw [hd] at HX HD hbd
        clear hd
        obtain ⟨hb0, hb1⟩ := hbd
        by_cases hz : d = 0
        · subst hz
          have HR : Hid (cmpL xs ys = cmpL (xs.drop (k + 1)) (ys.drop (k + 1))) := (show _ = _ by rw [HC.out, HX.out, if_pos rfl])
          clear HX HC
          go_wp2_with (go_at_call 16; refine (HD.out _).mono ?_; rintro e w' ⟨rfl, rfl⟩)
          go_round
          case rel => exact ⟨k + 1, by omega, by omega, by go_num, HR⟩
          case measure => simp [intOf]; omega
        · have hzb : (d == 0) = false := by simpa using hz
          have HF : Hid (cmpL xs ys = d) := (show _ = _ by rw [HC.out, HX.out, if_neg hz])
          go_wp2_with (go_at_call 16; refine (HD.out _).mono ?_; rintro e w' ⟨rfl, rfl⟩)
          go_ret
          exact ⟨ret_int HF.out.symm, rfl⟩
      · have HF : Hid (cmpL xs ys = 1) := by
          show _ = _
          rw [HC.out, drop_cons xs k (by rw [HN.out]; exact hlt), drop_nil ys k (by rw [HM.out]; omega)]
          rfl
        go_wp2
        go_ret
        exact ⟨ret_int HF.out.symm, rfl⟩
    · have hnn : k = n := by omega
      by_cases hltm : n < m
      · have HF : Hid (cmpL xs ys = -1) := by
          show _ = _
          rw [HC.out, drop_nil xs k (by rw [HN.out]; omega), drop_cons ys k (by rw [HM.out]; omega)]
          rfl
        go_wp2
        go_ret
        exact ⟨ret_int HF.out.symm, rfl⟩
      · have HF : Hid (cmpL xs ys = 0) := by
          show _ = _
          rw [HC.out, drop_nil xs k (by rw [HN.out]; omega), drop_nil ys k (by rw [HM.out]; omega)]
          rfl
        clear hnn
        go_wp2
        go_ret
        exact ⟨ret_int HF.out.symm, rfl⟩

def orL : List Int → Int
  | [] => 0
  | x :: xs => if x = 0 then orL xs else x
set_option maxHeartbeats 1000000 in
theorem or_ints (a : Option Addr) (ca n : Nat) (xs : List Int) (w : World) (hn : xs.length = n) (hx : n ≤ 16777216) (ha : IntsAt w a xs) :
    Calls Yba.prog 15 #[.slice a n ca] w fun e w' => e = .returned (.int .i64 (orL xs)) ∧ w' = w := by
  have HN : Hid (xs.length = n) := hn
  clear hn
  go_enter Yba.func15, Yba.ntmps15
  go_wp2
  go_loop [8] (fun t => ∃ k : Nat, k ≤ n ∧ t = .int .i64 k ∧ Hid (orL xs = orL (xs.drop k))) (fun t => n - (intOf t).toNat)
  case atStart => exact ⟨0, Nat.zero_le _, rfl, (show _ = _ from rfl)⟩
  case round =>
    obtain ⟨k, hk, rfl, HC⟩ := hrel
    by_cases hlt : k < n
    · obtain ⟨ba, oa, rfl, hca⟩ := ha k (by rw [HN.out]; exact hlt)
      have HX : Hid (orL xs = if xs.getD k 0 = 0 then orL (xs.drop (k + 1)) else xs.getD k 0) := by
        show _ = _
        rw [HC.out, drop_cons xs k (by rw [HN.out]; exact hlt)]
        rfl
      generalize xs.getD k 0 = x at *
      by_cases hz : x = 0
      · subst hz
        have HR : Hid (orL xs = orL (xs.drop (k + 1))) := (show _ = _ by rw [HX.out, if_pos rfl])
        clear HX HC
        go_wp2
        go_round
        case rel => exact ⟨k + 1, by omega, by go_num, HR⟩
        case measure => simp [intOf]; omega
      · have hzb : (x == 0) = false := by simpa using hz
        have HF : Hid (orL xs = x) := (show _ = _ by rw [HX.out, if_neg hz])
        go_wp2
        go_ret
        exact ⟨ret_int HF.out.symm, rfl⟩
    · have HF : Hid (orL xs = 0) := by
        show _ = _
        rw [HC.out, drop_nil xs k (by rw [HN.out]; omega)]
        rfl
      go_wp2
      go_ret
      exact ⟨ret_int HF.out.symm, rfl⟩

/-! ### place -/
/-- The rank of a slot, in the walk's own words: 'rank | uint64(shared)<<48', or the rank alone. -/
def pl (n : Nat) (rank sh : Int) : Int := if sh = 0 then rank else if 255 ≤ n then rank else bits BinOp.or IntKind.u64 rank (IntKind.u64.wrap (IntKind.u64.wrap sh * 281474976710656))
theorem place_any (r n ca : Nat) (ai : Option Addr) (rank sh : Int) (w : World) (h0 : w.cell? ⟨r, 0, none⟩ = some (.slice ai n ca)) (h1 : w.cell? ⟨r, 1, none⟩ = some (.int .u64 rank)) :
    Calls Yba.prog 14 #[.agg #[.pointer (some ⟨r, 0, none⟩), .int .i64 sh]] w fun e w' => e = .returned (.int .u64 (pl n rank sh)) ∧ Below w.heap.size w w' := by
  have hr : r < w.heap.size := block_lt_of_cell h0
  by_cases hs : sh = 0
  · subst hs
    go_enter Yba.func14, Yba.ntmps14
    go_wp2
    go_ret
    exact ⟨ret_int (by simp [pl]), (Below.refl _ _).alloc (Nat.le_refl _) _⟩
  · have hsb : (sh == 0) = false := by simpa using hs
    by_cases hn : 255 ≤ n
    · have hp : pl n rank sh = rank := by rw [pl, if_neg hs, if_pos hn]
      have HP : Hid (pl n rank sh = rank) := hp
      have hd : decide ((255 : Int) ≤ (n : Int)) = true := decide_eq_true (by omega)
      clear hn hp
      go_enter Yba.func14, Yba.ntmps14
      go_wp2
      go_ret
      exact ⟨ret_int HP.out.symm, (Below.refl _ _).alloc (Nat.le_refl _) _⟩
    · have HP : Hid (pl n rank sh = bits BinOp.or IntKind.u64 rank (IntKind.u64.wrap (IntKind.u64.wrap sh * 281474976710656))) := (show _ = _ by rw [pl, if_neg hs, if_neg hn])
      have hd : decide ((255 : Int) ≤ (n : Int)) = false := decide_eq_false (by omega)
      clear hn
      go_enter Yba.func14, Yba.ntmps14
      go_wp2
      go_quiet (fail)
      go_wp2
      go_ret
      exact ⟨ret_int HP.out.symm, below_drewN ((Below.refl _ _).alloc (Nat.le_refl _) _) _⟩
theorem lplace_any (r n ca : Nat) (ai : Option Addr) (rank sh : Int) (w : World) (h0 : w.cell? ⟨r, 0, none⟩ = some (.slice ai n ca)) (h1 : w.cell? ⟨r, 1, none⟩ = some (.int .u64 rank)) :
    Calls Yba.prog 13 #[.agg #[.pointer (some ⟨r, 0, none⟩), .int .i64 sh]] w fun e w' => e = .returned (.int .u64 (pl n rank sh)) ∧ Below w.heap.size w w' := by
  have hr : r < w.heap.size := block_lt_of_cell h0
  by_cases hs : sh = 0
  · subst hs
    go_enter Yba.func13, Yba.ntmps13
    go_wp2
    go_ret
    exact ⟨ret_int (by simp [pl]), (Below.refl _ _).alloc (Nat.le_refl _) _⟩
  · have hsb : (sh == 0) = false := by simpa using hs
    by_cases hn : 255 ≤ n
    · have hp : pl n rank sh = rank := by rw [pl, if_neg hs, if_pos hn]
      have HP : Hid (pl n rank sh = rank) := hp
      have hd : decide ((255 : Int) ≤ (n : Int)) = true := decide_eq_true (by omega)
      clear hn hp
      go_enter Yba.func13, Yba.ntmps13
      go_wp2
      go_ret
      exact ⟨ret_int HP.out.symm, (Below.refl _ _).alloc (Nat.le_refl _) _⟩
    · have HP : Hid (pl n rank sh = bits BinOp.or IntKind.u64 rank (IntKind.u64.wrap (IntKind.u64.wrap sh * 281474976710656))) := (show _ = _ by rw [pl, if_neg hs, if_neg hn])
      have hd : decide ((255 : Int) ≤ (n : Int)) = false := decide_eq_false (by omega)
      clear hn
      go_enter Yba.func13, Yba.ntmps13
      go_wp2
      go_quiet (fail)
      go_wp2
      go_ret
      exact ⟨ret_int HP.out.symm, below_drewN ((Below.refl _ _).alloc (Nat.le_refl _) _) _⟩
end Go.Proofs.Ybulkdjya
