/-
  SHARED CONTRACTS OF THIS SEAT (4): slices.Clone at ints.
-/
import Derived.Test.YbulkdjyaBefore
namespace Go.Proofs.Ybulkdjya
open Go.ChangeShapes Go.WideShapes Go.ChangeAt Go.RowKit
set_option linter.unusedVariables false

theorem Yba.info3 : (Yba.prog.info? 3).map (fun i => (i.zero, i.size, i.bytes)) = some (some (.int .i64 0), 1, 8) := by kernel_rfl
theorem ints_src {w1 : World} {a : Option Addr} {zs : List Int} (h : IntsAt w1 a zs) :
    ∀ ad, a = some ad → ∀ (j : Nat) (v : Value), (zs.map (Value.int .i64))[j]? = some v → w1.cell? (ad.add j) = some v := by
  intro ad had j v hv
  have hj : j < zs.length := by
    have := (List.getElem?_eq_some_iff.1 hv).1
    simpa using this
  obtain ⟨b', off', e, hcell⟩ := h j hj
  rw [had] at e
  simp at e
  subst e
  rw [add_plain, hcell]
  simp [List.getElem?_eq_getElem hj] at hv ⊢
  exact hv
/-- The numbers zs lie from address 'a' on, in a block from 'lo' on and below 'hi'. -/
def IntsIn (lo hi : Nat) (w : World) (a : Option Addr) (zs : List Int) : Prop :=
  ∀ i, i < zs.length → ∃ b off, a = some ⟨b, off, none⟩ ∧ lo ≤ b ∧ b < hi ∧ w.cell? ⟨b, off + i, none⟩ = some (.int .i64 (zs.getD i 0))
theorem IntsIn.at {lo hi : Nat} {w : World} {a : Option Addr} {zs : List Int} (h : IntsIn lo hi w a zs) : IntsAt w a zs := by
  intro i hi'
  obtain ⟨b, off, ha, _, _, hc⟩ := h i hi'
  exact ⟨b, off, ha, hc⟩
theorem ints_of_own {w : World} {base : Nat} {v : Value} {n : Nat} {zs : List Int} (h : w.ownsRow base 3 1 v n (zs.map (Value.int .i64))) : ∃ a cap, v = .slice a n cap ∧ IntsIn base w.heap.size w a zs := by
  have hn : zs.length = n := by have := h.1; simpa using this
  rcases h.2 with ⟨rfl, rfl⟩ | ⟨g, cap, cur, rfl, hbg, _⟩
  · exact ⟨none, 0, rfl, fun i hi => by omega⟩
  · refine ⟨_, cap, rfl, fun i hi => ⟨g, 0, rfl, hbg, ?_⟩⟩
    have hc : w.cell? ⟨g, 0 + i, none⟩ = some (.int .i64 (zs.getD i 0)) := by
      rw [Nat.zero_add, h.cellAt i (by omega)]
      simp [List.getD_eq_getElem?_getD, List.getElem?_eq_getElem hi]
    exact ⟨block_lt_of_cell hc, hc⟩

theorem clone_nil (w : World) : Calls Yba.prog 11 #[.slice none 0 0] w fun e w' => e = .returned (.slice none 0 0) ∧ w = w' := by
  have hn := fun w a n c => Lib.run_eql_slice_nil (P := Yba.prog) w 23 3 a n c 0 0 Yba.underlying23
  go_enter Yba.func11, Yba.ntmps11
  go_wp2
  go_ret
  exact ⟨rfl, rfl⟩
set_option maxHeartbeats 1000000 in
theorem clone_some (x : Addr) (n cap : Nat) (ids : List Int) (w : World) (hn : ids.length = n) (hl : n ≤ 16777216) (hi : IntsAt w (some x) ids) :
    Calls Yba.prog 11 #[.slice (some x) n cap] w fun e w' => ∃ a c, e = .returned (.slice a n c) ∧ IntsIn w.heap.size w'.heap.size w' a ids ∧ Below w.heap.size w w' := by
  have HN : Hid (ids.length = n) := hn
  clear hn
  obtain ⟨i0, hi0, hz0, hz1, hz2⟩ := info_parts Yba.info3
  obtain ⟨X, hX⟩ : ∃ X, X = ids.map (Value.int .i64) := ⟨_, rfl⟩
  have HX : Hid (X = ids.map (Value.int .i64)) := hX
  have HXL : Hid (X.length = n * 1) := by rw [hX]; simp; exact HN.out
  have HX1 : Hid (∀ u ∈ X, u.oneCell' = true) := by rw [hX]; exact ints_oneCell _ _
  clear hX
  have hn := fun w a n c => Lib.run_eql_slice_nil (P := Yba.prog) w 23 3 a n c 0 0 Yba.underlying23
  go_enter Yba.func11, Yba.ntmps11
  have HC : Hid (∀ (j : Nat) (u : Value), X[j]? = some u → (w.alloc (.cells #[] 3)).cell? (x.add j) = some u) := by
    rw [HX.out]
    exact ints_src (hi.later ((Below.refl _ _).alloc (Nat.le_refl _) _)) x rfl
  go_wp2_with (at_builtin; refine wpList_append_own _ rfl (.tmp 5) (.tmp 6) 23 rfl w.heap.size 3 i0 (.int .i64 0) 1 8 Yba.underlying23 hi0 hz0 hz1 hz2 rfl (by decide) _ 0 [] rfl (World.ownsRow_made w #[] 0 (Nat.le_refl _) (by unfold maxLen; omega) rfl) x n cap X rfl HXL.out HC.out HX1.out (by unfold maxLen; omega) (by omega) (by simp) ?_; intro v1 w1 hown hgrow _)
  rw [HX.out, List.nil_append, Nat.zero_add] at hown
  obtain ⟨a, c, rfl, hi1⟩ := ints_of_own hown
  go_wp2
  go_ret
  exact ⟨a, c, rfl, hi1, ((Below.refl _ _).alloc (Nat.le_refl _) _).grown hgrow (by simp) (fun k h => by cases h; exact Nat.le_refl _)⟩
end Go.Proofs.Ybulkdjya
