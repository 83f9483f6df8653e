/-
  SHARED CONTRACTS OF THIS SEAT (7): slices.Clone at a queue.
-/
import Derived.Test.YbulkdjyaRowOf
import Derived.BigRegion
namespace Go.Proofs.Ybulkdjya
open Go.ChangeShapes Go.WideShapes Go.ChangeAt Go.RowKit
set_option linter.unusedVariables false
theorem Yba.info33' : (Yba.prog.info? 33).map (fun i => (i.zero, i.size, i.bytes)) = some (some (.agg #[.pointer none, .int .i64 0]), 2, 16) := by kernel_rfl

set_option maxHeartbeats 1000000 in
theorem cloneq_any (g n cap : Nat) (L : List OS) (w : World) (hn : L.length = n) (hl : n ≤ 65536) (hr : Row w g L) :
    Calls Yba.prog 6 #[.slice (some ⟨g, 0, none⟩) n cap] w fun e w' => ∃ g2 c, e = .returned (.slice (some ⟨g2, 0, none⟩) n c) ∧ n ≤ c ∧ w.heap.size ≤ g2 ∧ Row w' g2 L ∧ Below w.heap.size w w' := by
  have HN : Hid (L.length = n) := hn
  clear hn
  obtain ⟨i0, hi0, hz0, hz1, hz2⟩ := info_parts Yba.info33'
  obtain ⟨X, hX⟩ : ∃ X, X = flat L := ⟨_, rfl⟩
  have HX : Hid (X = flat L) := hX
  have HXL : Hid (X.length = n * 2) := by rw [hX, flat_length, HN.out]; exact rfl
  have HX1 : Hid (∀ u ∈ X, u.oneCell' = true) := by rw [hX]; exact flat_one _
  clear hX
  have hn := fun w a n c => Lib.run_eql_slice_nil (P := Yba.prog) w 28 33 a n c 0 0 Yba.underlying28
  have HC : Hid (∀ (j : Nat) (u : Value), X[j]? = some u → (w.alloc (.cells #[] 33)).cell? ((⟨g, 0, none⟩ : Addr).add j) = some u) := by
    rw [HX.out]
    exact (hr.alloc _).cells
  go_enter Yba.func6, Yba.ntmps6
  go_wp2_with (at_builtin; refine wpList_append_own _ rfl (.tmp 5) (.tmp 6) 28 rfl w.heap.size 33 i0 (.agg #[.pointer none, .int .i64 0]) 2 16 Yba.underlying28 hi0 hz0 hz1 hz2 rfl (by decide) _ 0 [] rfl (World.ownsRow_made w #[] 0 (Nat.le_refl _) (by unfold maxLen; omega) rfl) ⟨g, 0, none⟩ n cap X rfl HXL.out HC.out HX1.out (by unfold maxLen; omega) (by omega) (by simp) ?_; intro v1 w1 hown hgrow hnil)
  rw [HX.out, List.nil_append, Nat.zero_add] at hown
  have hv : ∃ g2 c, v1 = .slice (some ⟨g2, 0, none⟩) n c ∧ n ≤ c ∧ w.heap.size ≤ g2 := by
    rcases hown.2 with ⟨h1, h2⟩ | ⟨g2, c, cur, h1, h2, _, h4, _⟩
    · exact absurd (hnil.1 h1).1 (fun e => by cases e)
    · exact ⟨g2, c, h1, h4, h2⟩
  obtain ⟨g2, c, rfl, hc, hg2⟩ := hv
  have hrow := row_own hown
  clear hown hnil
  go_wp2
  go_ret
  exact ⟨g2, c, rfl, hc, hg2, hrow, ((Below.refl _ _).alloc (Nat.le_refl _) _).grown hgrow (by simp) (fun k h => by cases h; exact Nat.le_refl _)⟩
end Go.Proofs.Ybulkdjya
