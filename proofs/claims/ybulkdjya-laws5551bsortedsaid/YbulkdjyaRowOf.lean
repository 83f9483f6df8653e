/-
  SHARED CONTRACTS OF THIS SEAT (5): a row of slots in memory.
-/
import Derived.Test.YbulkdjyaClone
namespace Go.Proofs.Ybulkdjya
open Go.ChangeShapes Go.WideShapes Go.ChangeAt Go.RowKit
set_option linter.unusedVariables false

/-! ### a row of slots in memory -/
/-- A slot as it lies in a row: the record's block (none: the nil pointer), and the count. -/
abbrev OS := Option Nat × Int
def ptr (r : Option Nat) : Value := .pointer (r.map fun r => ⟨r, 0, none⟩)
def flat : List OS → List Value
  | [] => []
  | s :: L => ptr s.1 :: .int .i64 s.2 :: flat L
theorem flat_length (L : List OS) : (flat L).length = L.length * 2 := by
  induction L with
  | nil => rfl
  | cons s L ih => simp only [flat, List.length_cons, ih]; omega
theorem flat_append (L M : List OS) : flat (L ++ M) = flat L ++ flat M := by
  induction L with
  | nil => rfl
  | cons s L ih => simp only [flat, List.cons_append, ih]
theorem flat_get0 (L : List OS) (i : Nat) (h : i < L.length) : (flat L)[i * 2]? = some (ptr (L.getD i (none, 0)).1) := by
  induction L generalizing i with
  | nil => simp at h
  | cons s L ih =>
    cases i with
    | zero => rfl
    | succ i =>
      have := ih i (by simpa using h)
      rw [show (i + 1) * 2 = i * 2 + 2 from by omega]
      simpa [flat] using this
theorem flat_get1 (L : List OS) (i : Nat) (h : i < L.length) : (flat L)[i * 2 + 1]? = some (.int .i64 (L.getD i (none, 0)).2) := by
  induction L generalizing i with
  | nil => simp at h
  | cons s L ih =>
    cases i with
    | zero => rfl
    | succ i =>
      have := ih i (by simpa using h)
      rw [show (i + 1) * 2 + 1 = i * 2 + 1 + 2 from by omega]
      simpa [flat] using this
theorem flat_set (L : List OS) (i : Nat) (s : OS) : ((flat L).set (i * 2) (ptr s.1)).set (i * 2 + 1) (.int .i64 s.2) = flat (L.set i s) := by
  induction L generalizing i with
  | nil => simp [flat]
  | cons t L ih =>
    cases i with
    | zero => simp [flat]
    | succ i =>
      have := ih i
      rw [show (i + 1) * 2 = i * 2 + 2 from by omega, show i * 2 + 2 + 1 = i * 2 + 1 + 2 from by omega]
      simp [flat, this]

/-- From the head of block g on lie the slots L (what lies behind them is not said). -/
def Row (w : World) (g : Nat) (L : List OS) : Prop := ∃ rest : List Value, w.heap[g]? = some (.cells (flat L ++ rest).toArray 33 (0, 0))
theorem Row.lt {w : World} {g : Nat} {L : List OS} (h : Row w g L) : g < w.heap.size := by
  obtain ⟨rest, h⟩ := h
  rcases Nat.lt_or_ge g w.heap.size with h' | h'
  · exact h'
  · rw [Array.getElem?_eq_none h'] at h; cases h
theorem Row.cell0 {w : World} {g : Nat} {L : List OS} (h : Row w g L) (i : Nat) (hi : i < L.length) : w.cell? ⟨g, i * 2, none⟩ = some (ptr (L.getD i (none, 0)).1) := by
  obtain ⟨rest, h⟩ := h
  rw [cell_of_row w g _ _ 33 (0, 0) h, ← flat_get0 L i hi]
  simp only [List.getElem?_toArray]
  rw [List.getElem?_append_left (by rw [flat_length]; omega)]
theorem Row.cell1 {w : World} {g : Nat} {L : List OS} (h : Row w g L) (i : Nat) (hi : i < L.length) : w.cell? ⟨g, i * 2 + 1, none⟩ = some (.int .i64 (L.getD i (none, 0)).2) := by
  obtain ⟨rest, h⟩ := h
  rw [cell_of_row w g _ _ 33 (0, 0) h, ← flat_get1 L i hi]
  simp only [List.getElem?_toArray]
  rw [List.getElem?_append_left (by rw [flat_length]; omega)]
theorem Row.frozen {w : World} {g : Nat} {L : List OS} (h : Row w g L) (o : Nat) : w.frozen? ⟨g, o, none⟩ = false := by
  obtain ⟨rest, h⟩ := h
  exact frozen_of_row w g o _ 33 h
theorem Row.store {w : World} {g : Nat} {L : List OS} (h : Row w g L) (i : Nat) (hi : i < L.length) (s : OS) : Row ((w.setCell ⟨g, i * 2, none⟩ (ptr s.1)).setCell ⟨g, i * 2 + 1, none⟩ (.int .i64 s.2)) g (L.set i s) := by
  obtain ⟨rest, h⟩ := h
  refine ⟨rest, ?_⟩
  have h1 := heap_setCell_same w g (i * 2) _ 33 (ptr s.1) h
  have h2 := heap_setCell_same _ g (i * 2 + 1) _ 33 (.int .i64 s.2) h1
  rw [h2, ← flat_set, List.setIfInBounds_toArray, List.setIfInBounds_toArray, List.set_append_left _ _ (by rw [flat_length]; omega), List.set_append_left _ _ (by rw [List.length_set, flat_length]; omega)]
theorem Row.below {w w' : World} {g B : Nat} {L : List OS} (h : Row w g L) (hb : Below B w w') (hg : g < B) : Row w' g L := by
  obtain ⟨rest, h⟩ := h
  exact ⟨rest, by rw [hb.block g hg]; exact h⟩
theorem Row.later {w w' : World} {g : Nat} {L : List OS} (h : Row w g L) (hb : Below w.heap.size w w') : Row w' g L := h.below hb h.lt
theorem Row.of_block {w w' : World} {g : Nat} {L : List OS} (h : Row w g L) (hh : w'.heap[g]? = w.heap[g]?) : Row w' g L := by
  obtain ⟨rest, h⟩ := h
  exact ⟨rest, by rw [hh]; exact h⟩
theorem Row.alloc {w : World} {g : Nat} {L : List OS} (h : Row w g L) (o : Obj) : Row (w.alloc o) g L := h.later ((Below.refl _ _).alloc (Nat.le_refl _) _)
theorem Row.front {w : World} {g : Nat} {L M : List OS} (h : Row w g (L ++ M)) : Row w g L := by
  obtain ⟨rest, h⟩ := h
  exact ⟨flat M ++ rest, by rw [h, flat_append, List.append_assoc]⟩
theorem row_own {w : World} {base g n cap : Nat} {L : List OS} (h : w.ownsRow base 33 2 (.slice (some ⟨g, 0, none⟩) n cap) n (flat L)) : Row w g L := by
  rcases h.2 with ⟨h', _⟩ | ⟨g', cap', cur, h', _, hg, _, _, hs, htake⟩
  · simp at h'
  · simp only [Value.slice.injEq, Option.some.injEq, Addr.mk.injEq, and_true, true_and] at h'
    obtain ⟨rfl, rfl⟩ := h'
    refine ⟨cur.toList.drop (n * 2), ?_⟩
    rw [hg, ← htake, List.take_append_drop]
/-- The cells of a row of slots, for the laws on append. -/
theorem Row.cells {w : World} {g : Nat} {L : List OS} (h : Row w g L) : ∀ (j : Nat) (u : Value), (flat L)[j]? = some u → w.cell? ((⟨g, 0, none⟩ : Addr).add j) = some u := by
  intro j u hu
  obtain ⟨rest, h⟩ := h
  have hj : j < (flat L).length := (List.getElem?_eq_some_iff.1 hu).1
  rw [add_plain, Nat.zero_add, cell_of_row w g _ _ 33 (0, 0) h]
  simp only [List.getElem?_toArray]
  rw [List.getElem?_append_left hj, hu]
theorem flat_one (L : List OS) : ∀ u ∈ flat L, u.oneCell' = true := by
  induction L with
  | nil => intro u hu; cases hu
  | cons s L ih =>
    intro u hu
    simp only [flat, List.mem_cons] at hu
    rcases hu with rfl | rfl | hu
    · rfl
    · rfl
    · exact ih u hu

/-- A made row of n zero slots. -/
theorem made_zero (n : Nat) : (madeCells (Value.agg #[Value.pointer none, Value.int .i64 0]).cells (n * 2)).toList = flat (List.replicate n (none, 0)) := by
  apply List.ext_getElem?
  intro j
  by_cases hj : j < n * 2
  · have e1 : (madeCells (Value.agg #[Value.pointer none, Value.int .i64 0]).cells (n * 2)).toList[j]? = some ((#[Value.pointer none, Value.int .i64 0] : Array Value)[j % 2]!) := by
      simp [madeCells, Value.cells, hj]
    rw [e1]
    have hi : j / 2 < (List.replicate n ((none, 0) : OS)).length := by simp; omega
    have hd : (List.replicate n ((none, 0) : OS)).getD (j / 2) (none, 0) = (none, 0) := by
      simp [List.getD_eq_getElem?_getD, List.getElem?_replicate]
      split <;> rfl
    rcases Nat.mod_two_eq_zero_or_one j with h | h
    · have := flat_get0 (List.replicate n (none, 0)) (j / 2) hi
      rw [hd, show j / 2 * 2 = j from by omega] at this
      rw [this, h]
      rfl
    · have := flat_get1 (List.replicate n (none, 0)) (j / 2) hi
      rw [hd, show j / 2 * 2 + 1 = j from by omega] at this
      rw [this, h]
      rfl
  · rw [List.getElem?_eq_none (by simp [size_madeCells]; omega), List.getElem?_eq_none (by rw [flat_length]; simp; omega)]
theorem row_made {w : World} {base g n : Nat} (h : w.ownsRow base 33 2 (.slice (some ⟨g, 0, none⟩) n n) n (madeCells (Value.agg #[Value.pointer none, Value.int .i64 0]).cells (n * 2)).toList) : Row w g (List.replicate n (none, 0)) := by
  rw [made_zero] at h
  exact row_own h
end Go.Proofs.Ybulkdjya
