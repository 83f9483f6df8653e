/-
  SHARED CONTRACTS OF THIS SEAT (14): 'push' on a queue in memory: what its loop keeps.
-/
import Derived.Test.YbulkdjyaHeap
import Derived.Test.YbulkdjyaPop
import Derived.Maps.AppendAt
import Derived.Deep.DeepCutAuto
namespace Go.Proofs.Ybulkdjya
open Go.ChangeShapes Go.WideShapes Go.ChangeAt Go.RowKit
set_option linter.unusedVariables false

/-- Block g is a row of 'cap' slots. -/
def Cap (w : World) (g cap : Nat) : Prop := ∃ cur : Array Value, w.heap[g]? = some (.cells cur 33 (0, 0)) ∧ cur.size = cap * 2
theorem Cap.of_block {w w' : World} {g cap : Nat} (h : Cap w g cap) (hh : w'.heap[g]? = w.heap[g]?) : Cap w' g cap := by
  obtain ⟨cur, h1, h2⟩ := h
  exact ⟨cur, by rw [hh]; exact h1, h2⟩
theorem Cap.lt {w : World} {g cap : Nat} (h : Cap w g cap) : g < w.heap.size := by
  obtain ⟨cur, h1, _⟩ := h
  rcases Nat.lt_or_ge g w.heap.size with h' | h'
  · exact h'
  · rw [Array.getElem?_eq_none h'] at h1; cases h1
theorem Cap.later {w w' : World} {g cap : Nat} (h : Cap w g cap) (hb : Below w.heap.size w w') : Cap w' g cap := h.of_block (hb.block g h.lt)
theorem Cap.set {w : World} {g cap : Nat} (h : Cap w g cap) (p : Addr) (u : Value) : Cap (w.setCell p u) g cap := by
  by_cases e : p.block = g
  · obtain ⟨cur, h1, h2⟩ := h
    refine ⟨if p.spot.isSome then cur else cur.setIfInBounds p.off u, ?_, ?_⟩
    · unfold World.setCell
      simp only [Array.getElem?_modify, e, if_true, h1, Option.map_some]
    · split
      · exact h2
      · rw [Array.size_setIfInBounds]; exact h2
  · exact h.of_block (Below.heap_setCell _ _ _ _ (fun h => e h.symm))
abbrev Own (w : World) (g n cap : Nat) (L : List OS) : Prop := w.ownsRow 0 33 2 (.slice (some ⟨g, 0, none⟩) n cap) n (flat L)
theorem Own.parts {w : World} {g n cap : Nat} {L : List OS} (h : Own w g n cap L) : Row w g L ∧ Cap w g cap ∧ n ≤ cap ∧ cap ≤ maxLen ∧ L.length = n := by
  refine ⟨row_own h, ?_⟩
  have hl := h.1
  rw [flat_length] at hl
  rcases h.2 with ⟨h', _⟩ | ⟨g', cap', cur, h', _, hg, hnc, hcm, hs, htake⟩
  · simp at h'
  · simp only [Value.slice.injEq, Option.some.injEq, Addr.mk.injEq, and_true, true_and] at h'
    obtain ⟨rfl, rfl⟩ := h'
    exact ⟨⟨cur, hg, hs⟩, hnc, hcm, by omega⟩
theorem own_of {w : World} {g n cap : Nat} {L : List OS} (hr : Row w g L) (hc : Cap w g cap) (hn : n ≤ cap) (hm : cap ≤ maxLen) (hl : L.length = n) : Own w g n cap L := by
  obtain ⟨rest, h1⟩ := hr
  obtain ⟨cur, h2, h3⟩ := hc
  rw [h1] at h2
  simp only [Option.some.injEq, Obj.cells.injEq, and_true] at h2
  subst h2
  refine ⟨by rw [flat_length, hl], .inr ⟨g, cap, _, rfl, Nat.zero_le _, h1, hn, hm, h3, ?_⟩⟩
  rw [List.take_append_of_le_length (by rw [flat_length, hl]; omega), List.take_of_length_le (by rw [flat_length, hl]; omega)]

structure PushInv (w wr : World) (v g n cap lo hi : Nat) (T A : List Sl) (i f : Nat) : Prop where
  len : A.length = n + 1
  pos : i < n + 1
  fuel : i < f
  res : up f A i = T
  row : Row wr g (A.map Sl.os)
  capf : Cap wr g cap
  recs : ∀ s ∈ A, RecIn lo hi wr s
  cell : wr.cell? ⟨v, 0, none⟩ = some (.slice (some ⟨g, 0, none⟩) (n + 1) cap)
  frz : wr.frozen? ⟨v, 0, none⟩ = false
  wrote : Wrote g v w wr
section
variable {w wr w2 : World} {v g n cap lo hi : Nat} {T A : List Sl} {i f : Nat}
theorem PushInv.later (h : PushInv w wr v g n cap lo hi T A i f) (p : Place w v g lo hi) (hb : Below wr.heap.size wr w2) : PushInv w w2 v g n cap lo hi T A i f :=
  ⟨h.len, h.pos, h.fuel, h.res, h.row.later hb, h.capf.later hb, fun s hs => (h.recs s hs).keep (same_of_below hb (Nat.le_trans p.hh h.wrote.size)) (Nat.le_refl _), cell_later hb h.cell, frozen_later hb h.cell h.frz, h.wrote.trans (Wrote.of_below hb)⟩
theorem os_get' {j : Nat} (h : j < A.length) : (A.map Sl.os).getD j (none, 0) = (some (at_ A j).r, (at_ A j).sh) := by
  have := os_get h []
  rwa [List.append_nil] at this
theorem PushInv.cell0 (h : PushInv w wr v g n cap lo hi T A i f) {j : Nat} (hj : j < n + 1) : wr.cell? ⟨g, j * 2, none⟩ = some (.pointer (some ⟨(at_ A j).r, 0, none⟩)) := by
  have := h.row.cell0 j (by simp [h.len]; omega)
  rw [os_get' (by rw [h.len]; exact hj)] at this
  exact this
theorem PushInv.cell1 (h : PushInv w wr v g n cap lo hi T A i f) {j : Nat} (hj : j < n + 1) : wr.cell? ⟨g, j * 2 + 1, none⟩ = some (.int .i64 (at_ A j).sh) := by
  have := h.row.cell1 j (by simp [h.len]; omega)
  rw [os_get' (by rw [h.len]; exact hj)] at this
  exact this
theorem PushInv.before (h : PushInv w wr v g n cap lo hi T A i f) {j k : Nat} (hj : j < n + 1) (hk : k < n + 1) (d : Nat) (os : Array Obj) :
    Calls Yba.prog 12 #[.agg #[.pointer (some ⟨(at_ A j).r, 0, none⟩), .int .i64 (at_ A j).sh], .agg #[.pointer (some ⟨(at_ A k).r, 0, none⟩), .int .i64 (at_ A k).sh]] (Sort.grow (redrawn wr d) os)
      fun e w'' => e = .returned (.bool (lessB (at_ A j) (at_ A k))) ∧ ∃ p : Regrown, w'' = Sort.grow (redrawn wr p.d) p.os :=
  Calls.regrown_of (before_any (at_ A j) (at_ A k) _ ((h.recs _ (at_mem (by rw [h.len]; exact hj))).at.later (below_regrown wr d os)) ((h.recs _ (at_mem (by rw [h.len]; exact hk))).at.later (below_regrown wr d os)))
theorem PushInv.stop (h : PushInv w wr v g n cap lo hi T A i f) (hs : 0 < i → lessB (at_ A i) (at_ A ((i - 1) / 2)) = false) : A = T := by
  have hr := h.res
  have hf := h.fuel
  obtain ⟨f', rfl⟩ : ∃ f', f = f' + 1 := ⟨f - 1, by omega⟩
  rw [up, if_neg] at hr
  · exact hr
  · rintro ⟨h1, h2⟩
    rw [hs h1] at h2
    cases h2
/-- The exchange of slots i and u, its parent. -/
theorem PushInv.swap (h : PushInv w wr v g n cap lo hi T A i f) (p : Place w v g lo hi) {u : Nat} (hu : (i - 1) / 2 = u) (h0 : 0 < i) (hb : lessB (at_ A i) (at_ A u) = true) :
    PushInv w (((((wr.setCell ⟨g, i * 2, none⟩ (.pointer (some ⟨(at_ A u).r, 0, none⟩))).setCell ⟨g, i * 2 + 1, none⟩ (.int .i64 (at_ A u).sh))).setCell ⟨g, u * 2, none⟩ (.pointer (some ⟨(at_ A i).r, 0, none⟩))).setCell ⟨g, u * 2 + 1, none⟩ (.int .i64 (at_ A i).sh)) v g n cap lo hi T (swapL A i u) u (f - 1) := by
  have hpos := h.pos
  have hla : i < A.length := by rw [h.len]; exact hpos
  have hlu : u < A.length := by omega
  have hf := h.fuel
  obtain ⟨f', rfl⟩ : ∃ f', f = f' + 1 := ⟨f - 1, by omega⟩
  have hr := h.res
  rw [up, hu, if_pos ⟨h0, hb⟩] at hr
  have r1 := h.row.store i (by rw [List.length_map]; exact hla) (some (at_ A u).r, (at_ A u).sh)
  have r2 := r1.store u (by rw [List.length_set, List.length_map]; exact hlu) (some (at_ A i).r, (at_ A i).sh)
  have wr1 : Wrote g v wr ((((wr.setCell ⟨g, i * 2, none⟩ (.pointer (some ⟨(at_ A u).r, 0, none⟩))).setCell ⟨g, i * 2 + 1, none⟩ (.int .i64 (at_ A u).sh))).setCell ⟨g, u * 2, none⟩ (.pointer (some ⟨(at_ A i).r, 0, none⟩))) :=
    ((Wrote.set _ _ _).trans (Wrote.set _ _ _)).trans (Wrote.set _ _ _)
  have wr2 : Wrote g v wr (((((wr.setCell ⟨g, i * 2, none⟩ (.pointer (some ⟨(at_ A u).r, 0, none⟩))).setCell ⟨g, i * 2 + 1, none⟩ (.int .i64 (at_ A u).sh))).setCell ⟨g, u * 2, none⟩ (.pointer (some ⟨(at_ A i).r, 0, none⟩))).setCell ⟨g, u * 2 + 1, none⟩ (.int .i64 (at_ A i).sh)) := wr1.trans (Wrote.set _ _ _)
  have hvb : (((((wr.setCell ⟨g, i * 2, none⟩ (.pointer (some ⟨(at_ A u).r, 0, none⟩))).setCell ⟨g, i * 2 + 1, none⟩ (.int .i64 (at_ A u).sh))).setCell ⟨g, u * 2, none⟩ (.pointer (some ⟨(at_ A i).r, 0, none⟩))).setCell ⟨g, u * 2 + 1, none⟩ (.int .i64 (at_ A i).sh)).heap[v]? = wr.heap[v]? := by
    rw [Below.heap_setCell _ _ _ _ p.vg, Below.heap_setCell _ _ _ _ p.vg, Below.heap_setCell _ _ _ _ p.vg, Below.heap_setCell _ _ _ _ p.vg]
  have hcap : Cap (((((wr.setCell ⟨g, i * 2, none⟩ (.pointer (some ⟨(at_ A u).r, 0, none⟩))).setCell ⟨g, i * 2 + 1, none⟩ (.int .i64 (at_ A u).sh))).setCell ⟨g, u * 2, none⟩ (.pointer (some ⟨(at_ A i).r, 0, none⟩))).setCell ⟨g, u * 2 + 1, none⟩ (.int .i64 (at_ A i).sh)) g cap := (((h.capf.set _ _).set _ _).set _ _).set _ _
  have r2 : Row (((((wr.setCell ⟨g, i * 2, none⟩ (.pointer (some ⟨(at_ A u).r, 0, none⟩))).setCell ⟨g, i * 2 + 1, none⟩ (.int .i64 (at_ A u).sh))).setCell ⟨g, u * 2, none⟩ (.pointer (some ⟨(at_ A i).r, 0, none⟩))).setCell ⟨g, u * 2 + 1, none⟩ (.int .i64 (at_ A i).sh)) g (((A.map Sl.os).set i (some (at_ A u).r, (at_ A u).sh)).set u (some (at_ A i).r, (at_ A i).sh)) := r2
  clear wr1 r1
  generalize (((((wr.setCell ⟨g, i * 2, none⟩ (.pointer (some ⟨(at_ A u).r, 0, none⟩))).setCell ⟨g, i * 2 + 1, none⟩ (.int .i64 (at_ A u).sh))).setCell ⟨g, u * 2, none⟩ (.pointer (some ⟨(at_ A i).r, 0, none⟩))).setCell ⟨g, u * 2 + 1, none⟩ (.int .i64 (at_ A i).sh)) = X at *
  refine ⟨by simp [swapL, h.len], by omega, by simp; omega, by simpa using hr, ?_, hcap, ?_, ?_, ?_, ?_⟩
  · have e : (((A.map Sl.os).set i (some (at_ A u).r, (at_ A u).sh)).set u (some (at_ A i).r, (at_ A i).sh)) = (swapL A i u).map Sl.os := by
      unfold swapL
      rw [List.map_set, List.map_set]
      rfl
    rw [e] at r2
    exact r2
  · intro s hs
    refine (h.recs s (mem_swap hla hlu s hs)).keep ?_ (Nat.le_refl _)
    intro k h1 h2
    have hk : k < wr.heap.size := Nat.lt_of_lt_of_le h2 (Nat.le_trans p.hh h.wrote.size)
    exact wr2.block k hk (by have := p.gl; omega) (by have := p.vv; omega)
  · exact (World.cell?_of_block (w := wr) hvb).trans h.cell
  · exact (World.frozen?_of_block (w := wr) hvb).trans h.frz
  · exact h.wrote.trans wr2
end
end Go.Proofs.Ybulkdjya
