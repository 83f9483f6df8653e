/-
  SHARED CONTRACTS OF THIS SEAT (8): sifting down on lists, and what pop's loop keeps.
-/
import Derived.Test.YbulkdjyaBuild
import Derived.BigRegion
import Derived.RegionTactic
namespace Go.Proofs.Ybulkdjya
open Go.ChangeShapes Go.WideShapes Go.ChangeAt Go.RowKit
set_option linter.unusedVariables false

/-! ### sifting down, on lists -/
def zeroSl : Sl := ⟨0, [], 0, 0, 0⟩
def at_ (A : List Sl) (i : Nat) : Sl := A.getD i zeroSl
def pick1 (A : List Sl) (i : Nat) : Nat := if 2 * i + 1 < A.length ∧ lessB (at_ A (2 * i + 1)) (at_ A i) = true then 2 * i + 1 else i
def pick (A : List Sl) (i : Nat) : Nat := if 2 * i + 2 < A.length ∧ lessB (at_ A (2 * i + 2)) (at_ A (pick1 A i)) = true then 2 * i + 2 else pick1 A i
def swapL (A : List Sl) (i j : Nat) : List Sl := (A.set i (at_ A j)).set j (at_ A i)
def sift : Nat → List Sl → Nat → List Sl
  | 0, A, _ => A
  | f + 1, A, i => if pick A i = i then A else sift f (swapL A i (pick A i)) (pick A i)
def popL (S : List Sl) : List Sl := sift S.length ((S.take (S.length - 1)).set 0 (at_ S (S.length - 1))) 0
theorem at_mem {A : List Sl} {i : Nat} (h : i < A.length) : at_ A i ∈ A := by
  unfold at_; rw [List.getD_eq_getElem?_getD, List.getElem?_eq_getElem h]; exact List.getElem_mem h
theorem mem_swap {A : List Sl} {i j : Nat} (hi : i < A.length) (hj : j < A.length) : ∀ s ∈ swapL A i j, s ∈ A := by
  intro s hs
  unfold swapL at hs
  rcases List.mem_or_eq_of_mem_set hs with h | rfl
  · rcases List.mem_or_eq_of_mem_set h with h | rfl
    · exact h
    · exact at_mem hj
  · exact at_mem hi

/-- Of what was there only blocks g and v may have turned. -/
structure Wrote (g v : Nat) (w w' : World) : Prop where
  os : w'.os = w.os
  tape : w'.tape = w.tape
  output : w'.output = w.output
  size : w.heap.size ≤ w'.heap.size
  block : ∀ k, k < w.heap.size → k ≠ g → k ≠ v → w'.heap[k]? = w.heap[k]?
theorem Wrote.refl (g v : Nat) (w : World) : Wrote g v w w := ⟨rfl, rfl, rfl, Nat.le_refl _, fun _ _ _ _ => rfl⟩
theorem Wrote.trans {g v : Nat} {a b c : World} (h : Wrote g v a b) (k : Wrote g v b c) : Wrote g v a c :=
  ⟨k.os.trans h.os, k.tape.trans h.tape, k.output.trans h.output, Nat.le_trans h.size k.size, fun i hi h1 h2 => (k.block i (Nat.lt_of_lt_of_le hi h.size) h1 h2).trans (h.block i hi h1 h2)⟩
theorem Wrote.of_below {g v : Nat} {w w' : World} (h : Below w.heap.size w w') : Wrote g v w w' := ⟨h.os, h.tape, h.output, h.size, fun k hk _ _ => h.block k hk⟩
theorem Wrote.drewN {g v : Nat} (w : World) (n : Nat) : Wrote g v w (w.drewN n) := ⟨rfl, rfl, rfl, Nat.le_refl _, fun _ _ _ _ => rfl⟩
theorem Row.drewN {w : World} {g : Nat} {L : List OS} (h : Row w g L) (n : Nat) : Row (w.drewN n) g L := h
theorem Wrote.set {g v : Nat} (w : World) (o : Nat) (u : Value) : Wrote g v w (w.setCell ⟨g, o, none⟩ u) :=
  ⟨rfl, rfl, rfl, by simp, fun k _ h1 _ => Below.heap_setCell _ _ _ _ h1⟩
theorem Wrote.setv {g v : Nat} (w : World) (o : Nat) (u : Value) : Wrote g v w (w.setCell ⟨v, o, none⟩ u) :=
  ⟨rfl, rfl, rfl, by simp, fun k _ _ h2 => Below.heap_setCell _ _ _ _ h2⟩

structure Place (w : World) (v g lo hi : Nat) : Prop where
  gl : g < lo ∨ hi ≤ g
  hh : hi ≤ w.heap.size
  vv : v < lo ∨ hi ≤ v
  vg : v ≠ g
  vs : v < w.heap.size
structure PopInv (w wr : World) (v g m cap lo hi : Nat) (S A : List Sl) (i f : Nat) : Prop where
  len : A.length = m
  pos : i < m ∨ (i = 0 ∧ m = 0)
  fuel : m - i < f
  res : sift f A i = popL S
  row : Row wr g (A.map Sl.os ++ [(none, 0)])
  recs : ∀ s ∈ A, RecIn lo hi wr s
  cell : wr.cell? ⟨v, 0, none⟩ = some (.slice (some ⟨g, 0, none⟩) (m + 1) cap)
  frz : wr.frozen? ⟨v, 0, none⟩ = false
  wrote : Wrote g v w wr
section
variable {w wr w2 : World} {v g m cap lo hi : Nat} {S A : List Sl} {i f : Nat}
theorem PopInv.later (h : PopInv w wr v g m cap lo hi S A i f) (p : Place w v g lo hi) (hb : Below wr.heap.size wr w2) : PopInv w w2 v g m cap lo hi S A i f :=
  ⟨h.len, h.pos, h.fuel, h.res, h.row.later hb, fun s hs => (h.recs s hs).keep (same_of_below hb (Nat.le_trans p.hh h.wrote.size)) (Nat.le_refl _), cell_later hb h.cell, frozen_later hb h.cell h.frz, h.wrote.trans (Wrote.of_below hb)⟩
theorem os_get (h : i < A.length) (T : List OS) : (A.map Sl.os ++ T).getD i (none, 0) = (some (at_ A i).r, (at_ A i).sh) := by
  unfold at_
  simp [List.getD_eq_getElem?_getD, List.getElem?_append_left, h, Sl.os]
theorem PopInv.cell0 (h : PopInv w wr v g m cap lo hi S A i f) {j : Nat} (hj : j < m) : wr.cell? ⟨g, j * 2, none⟩ = some (.pointer (some ⟨(at_ A j).r, 0, none⟩)) := by
  have := h.row.cell0 j (by simp [h.len]; omega)
  rw [os_get (by rw [h.len]; exact hj)] at this
  exact this
theorem PopInv.cell1 (h : PopInv w wr v g m cap lo hi S A i f) {j : Nat} (hj : j < m) : wr.cell? ⟨g, j * 2 + 1, none⟩ = some (.int .i64 (at_ A j).sh) := by
  have := h.row.cell1 j (by simp [h.len]; omega)
  rw [os_get (by rw [h.len]; exact hj)] at this
  exact this
theorem before_in (h : PopInv w wr v g m cap lo hi S A i f) {j k : Nat} (hj : j < m) (hk : k < m) (d : Nat) (os : Array Obj) :
    Calls Yba.prog 12 #[.agg #[.pointer (some ⟨(at_ A j).r, 0, none⟩), .int .i64 (at_ A j).sh], .agg #[.pointer (some ⟨(at_ A k).r, 0, none⟩), .int .i64 (at_ A k).sh]] (Sort.grow (redrawn wr d) os)
      fun e w'' => e = .returned (.bool (lessB (at_ A j) (at_ A k))) ∧ ∃ p : Regrown, w'' = Sort.grow (redrawn wr p.d) p.os :=
  Calls.regrown_of (before_any (at_ A j) (at_ A k) _ ((h.recs _ (at_mem (by rw [h.len]; exact hj))).at.later (below_regrown wr d os)) ((h.recs _ (at_mem (by rw [h.len]; exact hk))).at.later (below_regrown wr d os)))
/-- The exchange of slots i and j. -/
theorem PopInv.swap (h : PopInv w wr v g m cap lo hi S A i f) (p : Place w v g lo hi) {j : Nat} (hi' : i < m) (hj : j < m) (hij : i < j) (hp : pick A i = j) :
    PopInv w (((((wr.setCell ⟨g, i * 2, none⟩ (.pointer (some ⟨(at_ A j).r, 0, none⟩))).setCell ⟨g, i * 2 + 1, none⟩ (.int .i64 (at_ A j).sh))).setCell ⟨g, j * 2, none⟩ (.pointer (some ⟨(at_ A i).r, 0, none⟩))).setCell ⟨g, j * 2 + 1, none⟩ (.int .i64 (at_ A i).sh)) v g m cap lo hi S (swapL A i j) j (f - 1) := by
  have hla : i < A.length := by rw [h.len]; exact hi'
  have hlj : j < A.length := by rw [h.len]; exact hj
  have hf := h.fuel
  obtain ⟨f', rfl⟩ : ∃ f', f = f' + 1 := ⟨f - 1, by omega⟩
  have hr := h.res
  rw [sift, if_neg (by omega), hp] at hr
  have r1 := h.row.store i (by simp [h.len]; omega) (some (at_ A j).r, (at_ A j).sh)
  have r2 := r1.store j (by simp [h.len]; omega) (some (at_ A i).r, (at_ A i).sh)
  have wr1 : Wrote g v wr ((((wr.setCell ⟨g, i * 2, none⟩ (.pointer (some ⟨(at_ A j).r, 0, none⟩))).setCell ⟨g, i * 2 + 1, none⟩ (.int .i64 (at_ A j).sh))).setCell ⟨g, j * 2, none⟩ (.pointer (some ⟨(at_ A i).r, 0, none⟩))) :=
    ((Wrote.set _ _ _).trans (Wrote.set _ _ _)).trans (Wrote.set _ _ _)
  have wr2 : Wrote g v wr (((((wr.setCell ⟨g, i * 2, none⟩ (.pointer (some ⟨(at_ A j).r, 0, none⟩))).setCell ⟨g, i * 2 + 1, none⟩ (.int .i64 (at_ A j).sh))).setCell ⟨g, j * 2, none⟩ (.pointer (some ⟨(at_ A i).r, 0, none⟩))).setCell ⟨g, j * 2 + 1, none⟩ (.int .i64 (at_ A i).sh)) := wr1.trans (Wrote.set _ _ _)
  have hvb : (((((wr.setCell ⟨g, i * 2, none⟩ (.pointer (some ⟨(at_ A j).r, 0, none⟩))).setCell ⟨g, i * 2 + 1, none⟩ (.int .i64 (at_ A j).sh))).setCell ⟨g, j * 2, none⟩ (.pointer (some ⟨(at_ A i).r, 0, none⟩))).setCell ⟨g, j * 2 + 1, none⟩ (.int .i64 (at_ A i).sh)).heap[v]? = wr.heap[v]? := by
    rw [Below.heap_setCell _ _ _ _ p.vg, Below.heap_setCell _ _ _ _ p.vg, Below.heap_setCell _ _ _ _ p.vg, Below.heap_setCell _ _ _ _ p.vg]
  have r2 : Row (((((wr.setCell ⟨g, i * 2, none⟩ (.pointer (some ⟨(at_ A j).r, 0, none⟩))).setCell ⟨g, i * 2 + 1, none⟩ (.int .i64 (at_ A j).sh))).setCell ⟨g, j * 2, none⟩ (.pointer (some ⟨(at_ A i).r, 0, none⟩))).setCell ⟨g, j * 2 + 1, none⟩ (.int .i64 (at_ A i).sh)) g (((A.map Sl.os ++ [((none, 0) : OS)]).set i (some (at_ A j).r, (at_ A j).sh)).set j (some (at_ A i).r, (at_ A i).sh)) := r2
  clear wr1 r1
  generalize (((((wr.setCell ⟨g, i * 2, none⟩ (.pointer (some ⟨(at_ A j).r, 0, none⟩))).setCell ⟨g, i * 2 + 1, none⟩ (.int .i64 (at_ A j).sh))).setCell ⟨g, j * 2, none⟩ (.pointer (some ⟨(at_ A i).r, 0, none⟩))).setCell ⟨g, j * 2 + 1, none⟩ (.int .i64 (at_ A i).sh)) = X at *
  refine ⟨by simp [swapL, h.len], .inl hj, by simp; omega, by simpa using hr, ?_, ?_, ?_, ?_, ?_⟩
  · have e : (((A.map Sl.os ++ [((none, 0) : OS)]).set i (some (at_ A j).r, (at_ A j).sh)).set j (some (at_ A i).r, (at_ A i).sh)) = (swapL A i j).map Sl.os ++ [(none, 0)] := by
      rw [List.set_append_left _ _ (by simpa using hla), List.set_append_left _ _ (by simpa using hlj)]
      unfold swapL
      rw [List.map_set, List.map_set]
      rfl
    rw [e] at r2
    exact r2
  · intro s hs
    refine (h.recs s (mem_swap hla hlj s hs)).keep ?_ (Nat.le_refl _)
    intro k h1 h2
    have hk : k < wr.heap.size := Nat.lt_of_lt_of_le h2 (Nat.le_trans p.hh h.wrote.size)
    exact wr2.block k hk (by have := p.gl; omega) (by have := p.vv; omega)
  · exact (World.cell?_of_block (w := wr) hvb).trans h.cell
  · exact (World.frozen?_of_block (w := wr) hvb).trans h.frz
  · exact h.wrote.trans wr2
end
end Go.Proofs.Ybulkdjya
