/-
  SHARED CONTRACTS OF THIS SEAT (17): what the sorted law's two loops keep.
-/
import Derived.Test.YbulkdjyaMap
import Derived.Test.YbulkdjyaPush
import Derived.Test.YbulkdjyaLess
namespace Go.Proofs.Ybulkdjya
open Go.ChangeShapes Go.WideShapes Go.ChangeAt Go.RowKit
set_option linter.unusedVariables false

theorem Wr.cell {g v : Nat} {w w' : World} (h : Wrote g v w w') {b o : Nat} {u : Value} (h1 : b ≠ g) (h2 : b ≠ v) (hc : w.cell? ⟨b, o, none⟩ = some u) : w'.cell? ⟨b, o, none⟩ = some u :=
  (World.cell?_of_block (w := w) (h.block b (block_lt_of_cell hc) h1 h2)).trans hc
theorem Wr.frozen {g v : Nat} {w w' : World} (h : Wrote g v w w') {b o o' : Nat} {u : Value} (h1 : b ≠ g) (h2 : b ≠ v) (hc : w.cell? ⟨b, o', none⟩ = some u) : w'.frozen? ⟨b, o, none⟩ = w.frozen? ⟨b, o, none⟩ :=
  World.frozen?_of_block (w := w) (h.block b (block_lt_of_cell hc) h1 h2)
/-- What stands all the time: the items built, their records untouched. -/
structure Base (w wr : World) (hi n : Nat) (S : List Sl) : Prop where
  ls : S.length = n
  bel : Below w.heap.size w wr
  lo : w.heap.size + 1 ≤ hi
  hh : hi ≤ wr.heap.size
  src : Row wr w.heap.size (S.map Sl.os)
  recs : ∀ s ∈ S, RecIn (w.heap.size + 1) hi wr s
  blk : ∀ s ∈ S, Blk wr s.r
  up : (S.map Sl.r).Pairwise (· < ·)
theorem Base.wrote {w wr wy : World} {hi n a b : Nat} {S : List Sl} (h : Base w wr hi n S) (hw : Wrote a b wr wy) (ha : hi ≤ a) (hb : hi ≤ b) : Base w wy hi n S := by
  have lo := h.lo
  have hh := h.hh
  have hs := h.bel.size
  refine ⟨h.ls, h.bel.trans ⟨hw.os, hw.tape, hw.output, hw.size, fun k hk => hw.block k (by omega) (by omega) (by omega)⟩, lo, Nat.le_trans hh hw.size, h.src.of_block (hw.block _ (by omega) (by omega) (by omega)), ?_, ?_, h.up⟩
  · intro s hs'
    exact (h.recs s hs').keep (fun k h1 h2 => hw.block k (by omega) (by omega) (by omega)) (Nat.le_refl _)
  · intro s hs'
    obtain ⟨c, hc⟩ := h.blk s hs'
    have := (h.recs s hs').2.1
    exact ⟨c, by rw [hw.block s.r (by omega) (by omega) (by omega)]; exact hc⟩
theorem Base.later {w wr wy : World} {hi n : Nat} {S : List Sl} (h : Base w wr hi n S) (hb : Below wr.heap.size wr wy) : Base w wy hi n S := h.wrote (a := hi) (b := hi) (Wrote.of_below hb) (Nat.le_refl _) (Nat.le_refl _)
theorem Base.c0 {w wr : World} {hi n : Nat} {S : List Sl} (h : Base w wr hi n S) {k : Nat} (hk : k < n) : wr.cell? ⟨w.heap.size, k * 2, none⟩ = some (.pointer (some ⟨(at_ S k).r, 0, none⟩)) := by
  have := h.src.cell0 k (by rw [List.length_map, h.ls]; exact hk)
  rw [os_get' (by rw [h.ls]; exact hk)] at this
  exact this
theorem Base.c1 {w wr : World} {hi n : Nat} {S : List Sl} (h : Base w wr hi n S) {k : Nat} (hk : k < n) : wr.cell? ⟨w.heap.size, k * 2 + 1, none⟩ = some (.int .i64 (at_ S k).sh) := by
  have := h.src.cell1 k (by rw [List.length_map, h.ls]; exact hk)
  rw [os_get' (by rw [h.ls]; exact hk)] at this
  exact this

/-! ### pushing -/
structure PuI (w wr : World) (hi mb v og n k : Nat) (S A : List Sl) : Prop where
  base : Base w wr hi n S
  map : MapAt wr mb (mapL (S.take k) fun _ => 0)
  q : QAt wr v og k (A.map Sl.os)
  frz : wr.frozen? ⟨v, 0, none⟩ = false
  len : A.length = k
  heap : Heap A
  perm : A.Perm (S.take k)
  o1 : hi ≤ mb
  o2 : mb < v
  o3 : v < wr.heap.size
  o4 : v ≤ og
section
variable {w wr wy wz : World} {hi mb v og n k : Nat} {S A : List Sl}
theorem take_next (hk : k < S.length) : S.take (k + 1) = S.take k ++ [at_ S k] := by
  rw [List.take_succ_eq_append_getElem hk]
  simp [at_, List.getD_eq_getElem?_getD, List.getElem?_eq_getElem hk]
theorem up_ne (hu : (S.map Sl.r).Pairwise (· < ·)) (hk : k < S.length) : ∀ s ∈ S.take k, s.r ≠ (at_ S k).r := by
  intro s hs
  obtain ⟨i, hi, rfl⟩ := List.mem_iff_getElem.1 hs
  have hik : i < k := by simp at hi; omega
  have := List.pairwise_iff_getElem.1 hu i k (by simp; omega) (by simpa using hk) hik
  simp at this
  rw [List.getElem_take]
  have e : at_ S k = S[k] := by simp [at_, List.getD_eq_getElem?_getD, List.getElem?_eq_getElem hk]
  rw [e]
  omega
theorem PuI.update (h : PuI w wr hi mb v og n k S A) (hk : k < n) : ∃ w', (Instr.mapUpdate 40 (.map (some mb)) (pk (at_ S k).r) (.int .i64 0)).run Yba.prog wr = .ok () w' ∧ MapAt w' mb (mapL (S.take (k + 1)) fun _ => 0) ∧ Wrote mb mb wr w' := by
  have hk' : k < S.length := by rw [h.base.ls]; exact hk
  have := run_update_new (c := 0) h.map (h.base.blk _ (at_mem hk')) (fun x hx => by
    obtain ⟨s, hs, rfl⟩ := List.mem_map.1 hx
    exact h.base.blk s (List.mem_of_mem_take hs)) (seek_none (up_ne h.base.up hk') 0)
  have e : mapL (S.take (k + 1)) (fun _ => 0) = mapL (S.take k) (fun _ => 0) ++ [((at_ S k).r, 0)] := by
    rw [take_next hk']
    simp [mapL]
  rw [e]
  exact this
/-- Behind the map's store. -/
structure PuM (w wr : World) (hi mb v og n k : Nat) (S A : List Sl) : Prop where
  base : Base w wr hi n S
  map : MapAt wr mb (mapL (S.take (k + 1)) fun _ => 0)
  q : QAt wr v og k (A.map Sl.os)
  frz : wr.frozen? ⟨v, 0, none⟩ = false
  len : A.length = k
  heap : Heap A
  perm : A.Perm (S.take k)
  o1 : hi ≤ mb
  o2 : mb < v
  o3 : v < wr.heap.size
  o4 : v ≤ og
theorem QAt.wrote {a b : Nat} (h : QAt wr v og k (A.map Sl.os)) (hw : Wrote a b wr wy) (h1 : v ≠ a) (h2 : v ≠ b) (h3 : og ≠ a) (h4 : og ≠ b) : QAt wy v og k (A.map Sl.os) := by
  rcases h with ⟨c, h⟩ | ⟨cap, c, hown, hne⟩
  · exact .inl ⟨Wr.cell hw h1 h2 c, h⟩
  · obtain ⟨hr, hc, q1, q2, q3⟩ := Own.parts hown
    have hb := hw.block og hr.lt h3 h4
    exact .inr ⟨cap, Wr.cell hw h1 h2 c, own_of (hr.of_block hb) (hc.of_block hb) q1 q2 q3, hne⟩
theorem QAt.vcell (h : QAt wr v og k (A.map Sl.os)) : ∃ u, wr.cell? ⟨v, 0, none⟩ = some u := by
  rcases h with ⟨c, _⟩ | ⟨cap, c, _⟩
  · exact ⟨_, c⟩
  · exact ⟨_, c⟩
theorem PuI.stored (h : PuI w wr hi mb v og n k S A) (hm : MapAt wy mb (mapL (S.take (k + 1)) fun _ => 0)) (hw : Wrote mb mb wr wy) : PuM w wy hi mb v og n k S A := by
  have o1 := h.o1
  have o2 := h.o2
  have o4 := h.o4
  obtain ⟨u, hu⟩ := h.q.vcell
  exact ⟨h.base.wrote hw o1 o1, hm, h.q.wrote hw (by omega) (by omega) (by omega) (by omega), (Wr.frozen hw (by omega) (by omega) hu).trans h.frz, h.len, h.heap, h.perm, o1, o2, Nat.lt_of_lt_of_le h.o3 hw.size, o4⟩
theorem PuM.later (h : PuM w wr hi mb v og n k S A) (hb : Below wr.heap.size wr wy) : PuM w wy hi mb v og n k S A := by
  obtain ⟨u, hu⟩ := h.q.vcell
  have o2 := h.o2
  have o4 := h.o4
  refine ⟨h.base.later hb, h.map.later hb, h.q.wrote (a := mb) (b := mb) (Wrote.of_below hb) (by omega) (by omega) (by omega) (by omega), frozen_later hb hu h.frz, h.len, h.heap, h.perm, h.o1, o2, Nat.lt_of_lt_of_le h.o3 hb.size, o4⟩
theorem PuM.push (h : PuM w wr hi mb v og n k S A) (hk : k < n) (hn : n ≤ 4096) :
    Calls Yba.prog 10 #[.pointer (some ⟨v, 0, none⟩), .pointer (some ⟨(at_ S k).r, 0, none⟩), .int .i64 (at_ S k).sh] wr fun e w' => e = .returned (.tuple #[]) ∧ ∃ og' A', PuI w w' hi mb v og' n (k + 1) S A' := by
  have hk' : k < S.length := by rw [h.base.ls]; exact hk
  have lo := h.base.lo
  have o1 := h.o1
  have o2 := h.o2
  have o3 := h.o3
  have o4 := h.o4
  have hmem : ∀ s ∈ A, s ∈ S := fun s hs => List.mem_of_mem_take (h.perm.subset hs)
  refine (push_any v og k (w.heap.size + 1) hi A (at_ S k) wr h.len (by omega) h.q h.frz ⟨by omega, h.base.hh, by omega⟩ (fun s hs => h.base.recs s (hmem s hs)) (h.base.recs _ (at_mem hk'))).mono ?_
  rintro e w' ⟨rfl, g', cap', q1, q2, q3, q4, q5, q6⟩
  refine ⟨rfl, g', pushL A (at_ S k), ⟨h.base.wrote q5 (by omega) (by omega), h.map.wrote q5 (by omega) (by omega), .inr ⟨cap', q1, q3, q4⟩, q2, ?_, push_heap h.heap _, ?_, o1, o2, Nat.lt_of_lt_of_le o3 q5.size, by omega⟩⟩
  · rw [(push_perm A (at_ S k)).length_eq]
    simp [h.len]
  · rw [take_next hk']
    exact (push_perm A _).trans (h.perm.append_right _)
end

/-! ### popping -/
structure PoI (w wr : World) (hi mb v g pb cap n k : Nat) (S A : List Sl) (f : Nat → Int) : Prop where
  base : Base w wr hi n S
  map : MapAt wr mb (mapL S f)
  cell : wr.cell? ⟨v, 0, none⟩ = some (.slice (some ⟨g, 0, none⟩) (n - k) cap)
  frz : wr.frozen? ⟨v, 0, none⟩ = false
  row : Row wr g (A.map Sl.os)
  len : A.length = n - k
  hcap : n - k ≤ cap
  heap : Heap A
  sub : ∀ a ∈ A, a ∈ S
  nod : (A.map Sl.r).Nodup
  zero : ∀ a ∈ A, f a.r = 0
  prev : ∃ x y, wr.cell? ⟨pb, 0, none⟩ = some x ∧ wr.cell? ⟨pb, 1, none⟩ = some y ∧ (k = 0 ∨ ∃ p : Sl, p ∈ S ∧ x = .pointer (some ⟨p.r, 0, none⟩) ∧ y = .int .i64 p.sh ∧ ∀ a ∈ A, le p a)
  pfrz : ∀ o, wr.frozen? ⟨pb, o, none⟩ = false
  o1 : hi ≤ mb ∧ hi ≤ v ∧ hi ≤ g ∧ hi ≤ pb
  o2 : mb ≠ v ∧ mb ≠ g ∧ mb ≠ pb ∧ v ≠ g ∧ v ≠ pb ∧ g ≠ pb
section
variable {w wr wy : World} {hi mb v g pb cap n k : Nat} {S A : List Sl} {f : Nat → Int}
/-- Writes to another block (or none at all) leave it. -/
theorem PoI.wrote {x : Nat} (h : PoI w wr hi mb v g pb cap n k S A f) (hw : Wrote x x wr wy) (hx : hi ≤ x) (hxm : mb ≠ x) (hxv : v ≠ x) (hxg : g ≠ x) (hxp : pb ≠ x) : PoI w wy hi mb v g pb cap n k S A f := by
  obtain ⟨px, py, p0, p1, p2⟩ := h.prev
  exact ⟨h.base.wrote hw hx hx, h.map.wrote hw hxm hxm, Wr.cell hw hxv hxv h.cell, (Wr.frozen hw hxv hxv h.cell).trans h.frz, h.row.of_block (hw.block g h.row.lt hxg hxg), h.len, h.hcap, h.heap, h.sub, h.nod, h.zero,
    ⟨px, py, Wr.cell hw hxp hxp p0, Wr.cell hw hxp hxp p1, p2⟩, fun o => (Wr.frozen hw hxp hxp p0).trans (h.pfrz o), h.o1, h.o2⟩
theorem PoI.later (h : PoI w wr hi mb v g pb cap n k S A f) (hb : Below wr.heap.size wr wy) : PoI w wy hi mb v g pb cap n k S A f :=
  h.wrote (x := hi + mb + v + g + pb + 1) (Wrote.of_below hb) (by omega) (by omega) (by omega) (by omega) (by omega)
theorem PoI.q0 (h : PoI w wr hi mb v g pb cap n k S A f) (hk : k < n) : wr.cell? ⟨g, 0, none⟩ = some (.pointer (some ⟨(at_ A 0).r, 0, none⟩)) ∧ wr.cell? ⟨g, 1, none⟩ = some (.int .i64 (at_ A 0).sh) := by
  have hl : 0 < A.length := by have := h.len; omega
  have c0 := h.row.cell0 0 (by rw [List.length_map]; exact hl)
  have c1 := h.row.cell1 0 (by rw [List.length_map]; exact hl)
  rw [os_get' hl] at c0 c1
  exact ⟨c0, c1⟩
theorem PoI.mem (h : PoI w wr hi mb v g pb cap n k S A f) (hk : k < n) : at_ A 0 ∈ A := at_mem (by have := h.len; omega)
theorem PoI.look (h : PoI w wr hi mb v g pb cap n k S A f) (hk : k < n) : ∃ i, seek (at_ A 0).r (mapL S f) 0 = some (i, 0) ∧ ∀ c, (mapL S f).set i ((at_ A 0).r, c) = mapL S (turn f (at_ A 0).r c) := by
  have hm := h.mem hk
  obtain ⟨i, h1, h2⟩ := seek_some (f := f) h.base.up (h.sub _ hm) 0
  rw [Nat.zero_add, h.zero _ hm] at h1
  exact ⟨i, h1, h2⟩
theorem PoI.keys (h : PoI w wr hi mb v g pb cap n k S A f) : ∀ x ∈ mapL S f, Blk wr x.1 := by
  intro x hx
  obtain ⟨s, hs, rfl⟩ := List.mem_map.1 hx
  exact h.base.blk s hs
theorem PoI.update (h : PoI w wr hi mb v g pb cap n k S A f) (hk : k < n) : ∃ w', (Instr.mapUpdate 40 (.map (some mb)) (pk (at_ A 0).r) (.int .i64 1)).run Yba.prog wr = .ok () w' ∧ MapAt w' mb (mapL S (turn f (at_ A 0).r 1)) ∧ Wrote mb mb wr w' := by
  obtain ⟨i, h1, h2⟩ := h.look hk
  have := run_update_old (c := 1) h.map (h.base.blk _ (h.sub _ (h.mem hk))) h.keys h1
  rw [h2] at this
  exact this
/-- Behind the map's store: the head of the queue is marked. -/
structure PoM (w wr : World) (hi mb v g pb cap n k : Nat) (S A : List Sl) (f : Nat → Int) : Prop where
  base : Base w wr hi n S
  map : MapAt wr mb (mapL S (turn f (at_ A 0).r 1))
  cell : wr.cell? ⟨v, 0, none⟩ = some (.slice (some ⟨g, 0, none⟩) (n - k) cap)
  frz : wr.frozen? ⟨v, 0, none⟩ = false
  row : Row wr g (A.map Sl.os)
  len : A.length = n - k
  hcap : n - k ≤ cap
  heap : Heap A
  sub : ∀ a ∈ A, a ∈ S
  nod : (A.map Sl.r).Nodup
  zero : ∀ a ∈ A, f a.r = 0
  prev : ∃ x y, wr.cell? ⟨pb, 0, none⟩ = some x ∧ wr.cell? ⟨pb, 1, none⟩ = some y ∧ (k = 0 ∨ ∃ p : Sl, p ∈ S ∧ x = .pointer (some ⟨p.r, 0, none⟩) ∧ y = .int .i64 p.sh ∧ ∀ a ∈ A, le p a)
  pfrz : ∀ o, wr.frozen? ⟨pb, o, none⟩ = false
  o1 : hi ≤ mb ∧ hi ≤ v ∧ hi ≤ g ∧ hi ≤ pb
  o2 : mb ≠ v ∧ mb ≠ g ∧ mb ≠ pb ∧ v ≠ g ∧ v ≠ pb ∧ g ≠ pb
theorem PoI.stored (h : PoI w wr hi mb v g pb cap n k S A f) (hm : MapAt wy mb (mapL S (turn f (at_ A 0).r 1))) (hw : Wrote mb mb wr wy) : PoM w wy hi mb v g pb cap n k S A f := by
  obtain ⟨px, py, p0, p1, p2⟩ := h.prev
  have o1 := h.o1
  have o2 := h.o2
  exact ⟨h.base.wrote hw (by omega) (by omega), hm, Wr.cell hw (by omega) (by omega) h.cell, (Wr.frozen hw (by omega) (by omega) h.cell).trans h.frz, h.row.of_block (hw.block g h.row.lt (by omega) (by omega)), h.len, h.hcap, h.heap, h.sub, h.nod, h.zero,
    ⟨px, py, Wr.cell hw (by omega) (by omega) p0, Wr.cell hw (by omega) (by omega) p1, p2⟩, fun o => (Wr.frozen hw (by omega) (by omega) p0).trans (h.pfrz o), h.o1, h.o2⟩
theorem PoM.later (h : PoM w wr hi mb v g pb cap n k S A f) (hb : Below wr.heap.size wr wy) : PoM w wy hi mb v g pb cap n k S A f := by
  obtain ⟨px, py, p0, p1, p2⟩ := h.prev
  have hpb : pb < wr.heap.size := block_lt_of_cell p0
  exact ⟨h.base.later hb, h.map.later hb, cell_later hb h.cell, frozen_later hb h.cell h.frz, h.row.later hb, h.len, h.hcap, h.heap, h.sub, h.nod, h.zero, ⟨px, py, cell_later hb p0, cell_later hb p1, p2⟩, fun o => by
    rw [hb.frozen (p := ⟨pb, o, none⟩) hpb]; exact h.pfrz o, h.o1, h.o2⟩
theorem PoM.mem (h : PoM w wr hi mb v g pb cap n k S A f) (hk : k < n) : at_ A 0 ∈ A := at_mem (by have := h.len; omega)
/-- prev is told, pop is called. -/
theorem PoM.pop (h : PoM w wr hi mb v g pb cap n k S A f) (hk : k < n) (hn : n ≤ 4096) :
    Calls Yba.prog 7 #[.pointer (some ⟨v, 0, none⟩)] ((wr.setCell ⟨pb, 0, none⟩ (.pointer (some ⟨(at_ A 0).r, 0, none⟩))).setCell ⟨pb, 1, none⟩ (.int .i64 (at_ A 0).sh)) fun e w' => e = .returned (.tuple #[]) ∧ ∃ A' f', PoI w w' hi mb v g pb cap n (k + 1) S A' f' := by
  obtain ⟨px, py, p0, p1, p2⟩ := h.prev
  have o1 := h.o1
  have o2 := h.o2
  have lo := h.base.lo
  have hmem := h.mem hk
  have hlen := h.len
  have hcap := h.hcap
  obtain ⟨m, hm⟩ : ∃ m, n - k = m + 1 := ⟨n - k - 1, by omega⟩
  have hw : Wrote pb pb wr ((wr.setCell ⟨pb, 0, none⟩ (.pointer (some ⟨(at_ A 0).r, 0, none⟩))).setCell ⟨pb, 1, none⟩ (.int .i64 (at_ A 0).sh)) := (Wrote.set _ _ _).trans (Wrote.set _ _ _)
  have k0 : ((wr.setCell ⟨pb, 0, none⟩ (.pointer (some ⟨(at_ A 0).r, 0, none⟩))).setCell ⟨pb, 1, none⟩ (.int .i64 (at_ A 0).sh)).cell? ⟨pb, 0, none⟩ = some (.pointer (some ⟨(at_ A 0).r, 0, none⟩)) := by
    rw [World.cell?_setCell_other _ _ _ _ (by simp)]
    exact World.cell?_setCell_same _ _ _ p0
  have k1 : ((wr.setCell ⟨pb, 0, none⟩ (.pointer (some ⟨(at_ A 0).r, 0, none⟩))).setCell ⟨pb, 1, none⟩ (.int .i64 (at_ A 0).sh)).cell? ⟨pb, 1, none⟩ = some (.int .i64 (at_ A 0).sh) := by
    have e1 : (wr.setCell ⟨pb, 0, none⟩ (.pointer (some ⟨(at_ A 0).r, 0, none⟩))).cell? ⟨pb, 1, none⟩ = some py := by
      rw [World.cell?_setCell_other _ _ _ _ (by simp)]
      exact p1
    exact World.cell?_setCell_same _ _ _ e1
  have kf : ∀ o, ((wr.setCell ⟨pb, 0, none⟩ (.pointer (some ⟨(at_ A 0).r, 0, none⟩))).setCell ⟨pb, 1, none⟩ (.int .i64 (at_ A 0).sh)).frozen? ⟨pb, o, none⟩ = false := by
    intro o
    rw [World.frozen?_setCell, World.frozen?_setCell]
    exact h.pfrz o
  generalize ((wr.setCell ⟨pb, 0, none⟩ (.pointer (some ⟨(at_ A 0).r, 0, none⟩))).setCell ⟨pb, 1, none⟩ (.int .i64 (at_ A 0).sh)) = W at *
  have hb := h.base.wrote hw (by omega) (by omega)
  have hcl : W.cell? ⟨v, 0, none⟩ = some (.slice (some ⟨g, 0, none⟩) (m + 1) cap) := by rw [← hm]; exact Wr.cell hw (by omega) (by omega) h.cell
  have hfl : W.frozen? ⟨v, 0, none⟩ = false := (Wr.frozen hw (by omega) (by omega) h.cell).trans h.frz
  have hrw : Row W g (A.map Sl.os) := h.row.of_block (hw.block g h.row.lt (by omega) (by omega))
  have hmp := h.map.wrote hw (by omega) (by omega)
  refine (pop_any v g m cap (w.heap.size + 1) hi A W (by omega) (by omega) (by omega) ⟨by omega, hb.hh, by omega, by omega, block_lt_of_cell hcl⟩ hrw (fun s hs => hb.recs s (h.sub s hs)) hcl hfl).mono ?_
  rintro e w' ⟨rfl, q1, q2, q3, q4⟩
  have hperm := pop_perm (S := A) (m := m) (by omega)
  have hsub : ∀ a ∈ popL A, a ∈ A := fun a ha => hperm.subset (List.mem_cons_of_mem _ ha)
  have hnod : ((at_ A 0 :: popL A).map Sl.r).Nodup := (hperm.map Sl.r).nodup_iff.2 h.nod
  rw [List.map_cons, List.nodup_cons] at hnod
  have hpl : (popL A).length = m := by
    have := hperm.length_eq
    simp at this
    omega
  refine ⟨rfl, popL A, turn f (at_ A 0).r 1, ⟨hb.wrote q4 (by omega) (by omega), hmp.wrote q4 (by omega) (by omega), by rw [show n - (k + 1) = m from by omega]; exact q2, q3, q1.front, by omega, by omega, pop_heap h.heap (m := m) (by omega), fun a ha => h.sub a (hsub a ha), hnod.2, ?_,
    ⟨_, _, Wr.cell q4 (by omega) (by omega) k0, Wr.cell q4 (by omega) (by omega) k1, .inr ⟨at_ A 0, h.sub _ hmem, rfl, rfl, ?_⟩⟩, fun o => (Wr.frozen q4 (by omega) (by omega) k0).trans (kf o), h.o1, h.o2⟩⟩
  · intro a ha
    unfold turn
    rw [if_neg]
    · exact h.zero a (hsub a ha)
    · intro e
      exact hnod.1 (List.mem_map.2 ⟨a, ha, e⟩)
  · intro a ha
    obtain ⟨i, hi', rfl⟩ := List.mem_iff_getElem.1 (hsub a ha)
    have := h.heap.head i hi'
    have e : at_ A i = A[i] := by simp [at_, List.getD_eq_getElem?_getD, List.getElem?_eq_getElem hi']
    rwa [e] at this
end
end Go.Proofs.Ybulkdjya
