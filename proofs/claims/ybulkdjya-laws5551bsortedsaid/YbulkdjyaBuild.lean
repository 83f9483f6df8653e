/-
  SHARED CONTRACTS OF THIS SEAT (6): 'zzs5551bbuild': a queue built out of the items that came in.
-/
import Derived.Test.YbulkdjyaRowOf
import Derived.Deep.RegionHeld3
namespace Go.Proofs.Ybulkdjya
open Go.ChangeShapes Go.WideShapes Go.ChangeAt Go.RowKit
set_option linter.unusedVariables false

/-! ### the items that came in -/
structure It where
  ids : List Int
  rank : Int
  tie : Int
  sh : Int
def ItemAt (w : World) (b o : Nat) (it : It) : Prop :=
  ∃ ai ca, w.cell? ⟨b, o, none⟩ = some (.slice ai it.ids.length ca) ∧ w.cell? ⟨b, o + 1, none⟩ = some (.int .u64 it.rank) ∧ w.cell? ⟨b, o + 2, none⟩ = some (.int .u64 it.tie) ∧ w.cell? ⟨b, o + 3, none⟩ = some (.int .i64 it.sh) ∧
    IntsAt w ai it.ids ∧ (ai = none → it.ids.length = 0 ∧ ca = 0)
def zeroIt : It := ⟨[], 0, 0, 0⟩
def ItemsAt (w : World) (a : Option Addr) (its : List It) : Prop :=
  ∀ i, i < its.length → ∃ b off, a = some ⟨b, off, none⟩ ∧ ItemAt w b (off + i * 4) (its.getD i zeroIt)
theorem ItemAt.later {w wx : World} {b o : Nat} {it : It} (h : ItemAt w b o it) (hb : Below w.heap.size w wx) : ItemAt wx b o it := by
  obtain ⟨ai, ca, h0, h1, h2, h3, hi, hn⟩ := h
  exact ⟨ai, ca, cell_later hb h0, cell_later hb h1, cell_later hb h2, cell_later hb h3, hi.later hb, hn⟩
theorem ItemsAt.later {w wx : World} {a : Option Addr} {its : List It} (h : ItemsAt w a its) (hb : Below w.heap.size w wx) : ItemsAt wx a its := by
  intro i hi
  obtain ⟨b, off, ha, hc⟩ := h i hi
  exact ⟨b, off, ha, hc.later hb⟩

theorem clone_any (a : Option Addr) (n cap : Nat) (ids : List Int) (w : World) (hn : ids.length = n) (hl : n ≤ 16777216) (hi : IntsAt w a ids) (h0 : a = none → n = 0 ∧ cap = 0) :
    Calls Yba.prog 11 #[.slice a n cap] w fun e w' => ∃ a' c, e = .returned (.slice a' n c) ∧ IntsIn w.heap.size w'.heap.size w' a' ids ∧ Below w.heap.size w w' := by
  cases a with
  | some x => exact clone_some x n cap ids w hn hl hi
  | none =>
    obtain ⟨rfl, rfl⟩ := h0 rfl
    refine (clone_nil w).mono ?_
    rintro e w' ⟨rfl, rfl⟩
    exact ⟨none, 0, rfl, fun i hi' => by omega, Below.refl _ _⟩

/-! ### the records that build makes -/
def Sl.it (s : Sl) : It := ⟨s.ids, s.rank, s.tie, s.sh⟩
def Sl.os (s : Sl) : OS := (some s.r, s.sh)
/-- From block 'lo' on and below 'hi' the two worlds are alike. -/
def Same (lo hi : Nat) (w w' : World) : Prop := ∀ k, lo ≤ k → k < hi → w'.heap[k]? = w.heap[k]?
theorem Same.cell {lo hi : Nat} {w w' : World} (h : Same lo hi w w') {b o : Nat} {v : Value} (h1 : lo ≤ b) (h2 : b < hi) (hc : w.cell? ⟨b, o, none⟩ = some v) : w'.cell? ⟨b, o, none⟩ = some v :=
  (World.cell?_of_block (w := w) (h b h1 h2)).trans hc
theorem Same.trans {lo hi : Nat} {w w' w'' : World} (h : Same lo hi w w') (h' : Same lo hi w' w'') : Same lo hi w w'' := fun k h1 h2 => (h' k h1 h2).trans (h k h1 h2)
theorem same_of_below {lo hi B : Nat} {w w' : World} (h : Below B w w') (hB : hi ≤ B) : Same lo hi w w' := fun k _ h2 => h.block k (by omega)
/-- The record of a slot lies in memory, as build made it, all of it in blocks from 'lo' on and below 'hi'. -/
def RecIn (lo hi : Nat) (w : World) (s : Sl) : Prop :=
  lo ≤ s.r ∧ s.r < hi ∧ (∃ ai ca, w.cell? ⟨s.r, 0, none⟩ = some (.slice ai s.ids.length ca) ∧ w.cell? ⟨s.r, 1, none⟩ = some (.int .u64 s.rank) ∧ w.cell? ⟨s.r, 2, none⟩ = some (.int .u64 s.tie) ∧ IntsIn lo hi w ai s.ids ∧ s.ids.length ≤ 16777216) ∧
    w.cell? ⟨s.r, 3, none⟩ = some (.slice none 0 0) ∧ w.cell? ⟨s.r, 4, none⟩ = some (.bool false) ∧ w.cell? ⟨s.r, 5, none⟩ = some (.bool false)
theorem RecIn.at {lo hi : Nat} {w : World} {s : Sl} (h : RecIn lo hi w s) : RecAt w s := by
  obtain ⟨_, _, ⟨ai, ca, h0, h1, h2, hi', hl⟩, _⟩ := h
  exact ⟨ai, ca, h0, h1, h2, hi'.at, hl⟩
theorem RecIn.keep {lo hi hi' : Nat} {w w' : World} {s : Sl} (h : RecIn lo hi w s) (hs : Same lo hi w w') (hh : hi ≤ hi') : RecIn lo hi' w' s := by
  obtain ⟨a1, a2, ⟨ai, ca, h0, h1, h2, hi1, hl⟩, h3, h4, h5⟩ := h
  refine ⟨a1, by omega, ⟨ai, ca, hs.cell a1 a2 h0, hs.cell a1 a2 h1, hs.cell a1 a2 h2, ?_, hl⟩, hs.cell a1 a2 h3, hs.cell a1 a2 h4, hs.cell a1 a2 h5⟩
  intro i hi2
  obtain ⟨b, off, ha, b1, b2, hc⟩ := hi1 i hi2
  exact ⟨b, off, ha, b1, by omega, hs.cell b1 b2 hc⟩

structure Built (w wr : World) (g n k : Nat) (its : List It) (S : List Sl) : Prop where
  len : S.length = k
  its : S.map Sl.it = its.take k
  row : Row wr g (S.map Sl.os ++ List.replicate (n - k) (none, 0))
  recs : ∀ s ∈ S, RecIn (g + 1) wr.heap.size wr s
  up : (S.map Sl.r).Pairwise (· < ·)
  below : Below w.heap.size w wr
  blk : ∀ s ∈ S, ∃ c : Array Value, wr.heap[s.r]? = some (.cells c 37 (0, 0))

theorem alloc_last (w : World) (o : Obj) (n : Nat) (h : w.heap.size = n) : (w.alloc o).heap[n]? = some o := by
  subst h
  show (w.heap.push o)[w.heap.size]? = some o
  simp
/-- One round of build. -/
theorem Built.step {w wr W w2 : World} {g n k : Nat} {its : List It} {S : List Sl} {a2 : Option Addr} {c2 : Nat} {it : It} (h : Built w wr g n k its S) (hk : k < n) (hn : its.length = n) (hit : its.getD k zeroIt = it) (hg : w.heap.size ≤ g)
    (hW : Below wr.heap.size wr W) (hb : Below W.heap.size W w2) (hWs : wr.heap.size ≤ W.heap.size) (hi : IntsIn W.heap.size w2.heap.size w2 a2 it.ids) (hl : it.ids.length ≤ 16777216) :
    Built w (((w2.setCell ⟨g, k * 2, none⟩ (.pointer (some ⟨w2.heap.size, 0, none⟩))).setCell ⟨g, k * 2 + 1, none⟩ (.int .i64 it.sh)).alloc
      (.cells #[.slice a2 it.ids.length c2, .int .u64 it.rank, .int .u64 it.tie, .slice none 0 0, .bool false, .bool false] 37)) g n (k + 1) its (S ++ [⟨w2.heap.size, it.ids, it.rank, it.tie, it.sh⟩]) := by
  have hgl := h.row.lt
  have hb2 : Below wr.heap.size wr w2 := hW.trans (hb.mono hWs)
  have hsz : wr.heap.size ≤ w2.heap.size := hb2.size
  have hs : ∀ j, j < w2.heap.size → j ≠ g → ((((w2.setCell ⟨g, k * 2, none⟩ (.pointer (some ⟨w2.heap.size, 0, none⟩))).setCell ⟨g, k * 2 + 1, none⟩ (.int .i64 it.sh)).alloc
      (.cells #[.slice a2 it.ids.length c2, .int .u64 it.rank, .int .u64 it.tie, .slice none 0 0, .bool false, .bool false] 37))).heap[j]? = w2.heap[j]? := by
    intro j h1 h2
    rw [Below.heap_alloc _ _ _ (by simpa using h1), Below.heap_setCell _ _ _ _ h2, Below.heap_setCell _ _ _ _ h2]
  have hnew : ∀ o, ((((w2.setCell ⟨g, k * 2, none⟩ (.pointer (some ⟨w2.heap.size, 0, none⟩))).setCell ⟨g, k * 2 + 1, none⟩ (.int .i64 it.sh)).alloc
      (.cells #[.slice a2 it.ids.length c2, .int .u64 it.rank, .int .u64 it.tie, .slice none 0 0, .bool false, .bool false] 37))).cell? ⟨w2.heap.size, o, none⟩ = (#[.slice a2 it.ids.length c2, .int .u64 it.rank, .int .u64 it.tie, .slice none 0 0, .bool false, .bool false] : Array Value)[o]? := by
    intro o
    have := World.cell?_alloc_mark ((w2.setCell ⟨g, k * 2, none⟩ (.pointer (some ⟨w2.heap.size, 0, none⟩))).setCell ⟨g, k * 2 + 1, none⟩ (.int .i64 it.sh)) #[.slice a2 it.ids.length c2, .int .u64 it.rank, .int .u64 it.tie, .slice none 0 0, .bool false, .bool false] 37 (0, 0) o
    simpa using this
  generalize hwf : (((w2.setCell ⟨g, k * 2, none⟩ (.pointer (some ⟨w2.heap.size, 0, none⟩))).setCell ⟨g, k * 2 + 1, none⟩ (.int .i64 it.sh)).alloc
      (.cells #[.slice a2 it.ids.length c2, .int .u64 it.rank, .int .u64 it.tie, .slice none 0 0, .bool false, .bool false] 37)) = wf at *
  have hsf : wf.heap.size = w2.heap.size + 1 := by rw [← hwf]; simp
  refine ⟨by simp [h.len], ?_, ?_, ?_, ?_, ?_, ?_⟩
  · have hk' : k < its.length := by omega
    rw [List.take_succ_eq_append_getElem hk', List.map_append, h.its]
    congr 1
    rw [List.getD_eq_getElem?_getD, List.getElem?_eq_getElem hk'] at hit
    simp only [Option.getD_some] at hit
    rw [hit]
    rfl
  · have r2 := (h.row.below hb2 hgl).store k (by simp [h.len]; omega) (some w2.heap.size, it.sh)
    have r3 := r2.alloc (.cells #[.slice a2 it.ids.length c2, .int .u64 it.rank, .int .u64 it.tie, .slice none 0 0, .bool false, .bool false] 37)
    have e : (S.map Sl.os ++ List.replicate (n - k) ((none, 0) : OS)).set k (some w2.heap.size, it.sh) = (S ++ [(⟨w2.heap.size, it.ids, it.rank, it.tie, it.sh⟩ : Sl)]).map Sl.os ++ List.replicate (n - (k + 1)) (none, 0) := by
      rw [List.set_append_right _ _ (by simp [h.len])]
      rw [show n - k = (n - (k + 1)) + 1 from by omega, List.replicate_succ]
      simp [h.len, Sl.os]
    rw [e] at r3
    rw [← hwf]
    exact r3
  · intro s hs'
    rcases List.mem_append.1 hs' with hs' | hs'
    · refine (h.recs s hs').keep ?_ (by omega)
      intro j h1 h2
      rw [hs j (by omega) (by omega)]
      exact hb2.block j h2
    · simp at hs'
      subst hs'
      refine ⟨by show g + 1 ≤ w2.heap.size; omega, by show w2.heap.size < wf.heap.size; omega, ⟨a2, c2, hnew 0, hnew 1, hnew 2, ?_, hl⟩, hnew 3, hnew 4, hnew 5⟩
      intro i hi'
      obtain ⟨b, off, ha, b1, b2, hc⟩ := hi i hi'
      refine ⟨b, off, ha, by omega, by omega, ?_⟩
      exact (World.cell?_of_block (w := w2) (hs b b2 (by omega))).trans hc
  · rw [List.map_append, List.pairwise_append]
    refine ⟨h.up, by simp, ?_⟩
    intro x hx y hy
    simp at hy
    subst hy
    obtain ⟨s, hs', rfl⟩ := List.mem_map.1 hx
    have := (h.recs s hs').2.1
    omega
  · refine h.below.trans ⟨?_, ?_, ?_, by omega, ?_⟩
    · rw [← hwf]; exact hb2.os
    · rw [← hwf]; exact hb2.tape
    · rw [← hwf]; exact hb2.output
    · intro j hj
      have hjw : j < wr.heap.size := by have := h.below.size; omega
      rw [hs j (by omega) (by omega)]
      exact hb2.block j hjw
  · intro s hs'
    rcases List.mem_append.1 hs' with hs' | hs'
    · obtain ⟨c, hc⟩ := h.blk s hs'
      have hr := h.recs s hs'
      refine ⟨c, ?_⟩
      rw [hs s.r (by have := hr.2.1; omega) (by have := hr.1; omega), hb2.block s.r hr.2.1]
      exact hc
    · simp at hs'
      subst hs'
      refine ⟨#[.slice a2 it.ids.length c2, .int .u64 it.rank, .int .u64 it.tie, .slice none 0 0, .bool false, .bool false], ?_⟩
      rw [← hwf]
      exact alloc_last _ _ _ (by simp)

theorem keep_cell {w2 : World} {g o0 o1 b o : Nat} {v u0 u1 : Value} {ob : Obj} (h : w2.cell? ⟨b, o, none⟩ = some v) (hne : b ≠ g) (hlt : b < w2.heap.size) :
    (((w2.setCell ⟨g, o0, none⟩ u0).setCell ⟨g, o1, none⟩ u1).alloc ob).cell? ⟨b, o, none⟩ = some v := by
  refine (World.cell?_of_block (w := w2) ?_).trans h
  show (World.alloc _ _).heap[b]? = _
  rw [Below.heap_alloc _ _ _ (by simpa using hlt), Below.heap_setCell _ _ _ _ hne, Below.heap_setCell _ _ _ _ hne]
theorem frozen_later {w wx : World} {a : Addr} {v : Value} (hb : Below w.heap.size w wx) (h : w.cell? a = some v) (hf : w.frozen? a = false) : wx.frozen? a = false := by
  rw [hb.frozen (block_lt_of_cell h)]; exact hf
theorem lt_later {w wx : World} {b o : Nat} {v : Value} (hb : Below w.heap.size w wx) (h : w.cell? ⟨b, o, none⟩ = some v) : b < wx.heap.size :=
  Nat.lt_of_lt_of_le (block_lt_of_cell h) hb.size

theorem Yba.info33 : (Yba.prog.info? 33).map (fun i => (i.zero, i.size, i.bytes)) = some (some (.agg #[.pointer none, .int .i64 0]), 2, 16) := by kernel_rfl
set_option maxHeartbeats 4000000 in
theorem build_any (a : Option Addr) (n cap : Nat) (its : List It) (w : World) (hn : its.length = n) (hn16 : n ≤ 65536) (hl : ∀ it ∈ its, it.ids.length ≤ 16777216) (hits : ItemsAt w a its) :
    Calls Yba.prog 5 #[.slice a n cap] w fun e w' => e = .returned (.slice (some ⟨w.heap.size, 0, none⟩) n n) ∧ ∃ S, Built w w' w.heap.size n n its S := by
  have HN : Hid (its.length = n) := hn
  have HL : Hid (∀ it ∈ its, it.ids.length ≤ 16777216) := hl
  clear hn hl
  obtain ⟨i0, hi0, hz0, hz1, hz2⟩ := info_parts Yba.info33
  go_enter Yba.func5, Yba.ntmps5
  go_wp2_with (at_make; refine wpList_make_full _ rfl (.tmp 7) (.tmp 7) 28 rfl w.heap.size 33 i0 (.agg #[.pointer none, .int .i64 0]) 2 Yba.underlying28 hi0 hz0 hz1 _ _ _ _ n rfl rfl rfl rfl (by rw [hz2]; omega) (by unfold maxLen; omega) (Nat.le_refl _) ?_; intro w1 hown hgrow)
  have HB0 : Hid (∃ S, Built w w1 w.heap.size n 0 its S) :=
    ⟨[], ⟨rfl, rfl, (by simpa using row_made hown), (fun s hs => by cases hs), List.Pairwise.nil, (Below.refl _ _).grown hgrow (Nat.le_refl _) (fun k h => by cases h), (fun s hs => by cases hs)⟩⟩
  clear hi0 hz0 hz1 hz2 hown hgrow
  go_loopw [11] (fun t wr => ∃ k : Nat, k ≤ n ∧ t = .int .i64 k ∧ Hid (∃ S, Built w wr w.heap.size n k its S)) (fun t _ => n - (intOf t).toNat)
  case atStart => exact ⟨0, Nat.zero_le _, rfl, HB0⟩
  case round =>
    obtain ⟨k, hk, rfl, HB⟩ := hrel
    by_cases hlt : k < n
    · obtain ⟨S, hB⟩ := HB.out
      have HBB : Hid (Built w wr w.heap.size n k its S) := hB
      obtain ⟨b, off, rfl, hit0⟩ := hits k (by rw [HN.out]; exact hlt)
      have hit := hit0.later hB.below
      have hgl := hB.row.lt
      have hrl : k < (S.map Sl.os ++ List.replicate (n - k) ((none, 0) : OS)).length := by simp [hB.len]; omega
      have g0 := hB.row.cell0 k hrl
      have g1 := hB.row.cell1 k hrl
      have f0 := hB.row.frozen (k * 2)
      have f1 := hB.row.frozen (k * 2 + 1)
      have HLI : Hid ((its.getD k zeroIt).ids.length ≤ 16777216) := by
        have hkl : k < its.length := by rw [HN.out]; exact hlt
        rw [List.getD_eq_getElem?_getD, List.getElem?_eq_getElem hkl]
        exact HL.out _ (List.getElem_mem hkl)
      generalize hitk : its.getD k zeroIt = it at *
      have HIT : Hid (its.getD k zeroIt = it) := hitk
      obtain ⟨ai, ci, c0, c1, c2, c3, hii, hnone⟩ := hit
      have HNO : Hid (ai = none → it.ids.length = 0 ∧ ci = 0) := hnone
      generalize hg0 : ptr ((S.map Sl.os ++ List.replicate (n - k) ((none, 0) : OS)).getD k (none, 0)).1 = u0 at *
      generalize hg1 : Value.int IntKind.i64 ((S.map Sl.os ++ List.replicate (n - k) ((none, 0) : OS)).getD k (none, 0)).2 = u1 at *
      generalize hids : it.ids = ids at *
      generalize hrank : it.rank = rank at *
      generalize htie : it.tie = tie at *
      generalize hsh : it.sh = sh at *
      generalize hni : ids.length = ni at *
      have HNI : Hid (ids.length = ni) := hni
      have HE : Hid (it = ⟨ids, rank, tie, sh⟩) := by
        subst hids hrank htie hsh
        exact rfl
      clear hitk hnone hg0 hg1 hids hrank htie hsh hni hrl hB HB hit0
      have hbb : b < wr.heap.size := block_lt_of_cell c0
      go_wp2
      obtain ⟨W, hW⟩ : ∃ W, wr.alloc (.cells #[.slice ai ni ci, .int .u64 rank, .int .u64 tie, .int .i64 sh] 26) = W := ⟨_, rfl⟩
      have hBW : Below wr.heap.size wr W := by rw [← hW]; exact (Below.refl _ _).alloc (Nat.le_refl _) _
      have d0 : W.cell? ⟨wr.heap.size, 0, none⟩ = some (.slice ai ni ci) := by rw [← hW]; simp [go_sem]
      have d1 : W.cell? ⟨wr.heap.size, 1, none⟩ = some (.int .u64 rank) := by rw [← hW]; simp [go_sem]
      have d2 : W.cell? ⟨wr.heap.size, 2, none⟩ = some (.int .u64 tie) := by rw [← hW]; simp [go_sem]
      have d3 : W.cell? ⟨wr.heap.size, 3, none⟩ = some (.int .i64 sh) := by rw [← hW]; simp [go_sem]
      have g0' := cell_later hBW g0
      have g1' := cell_later hBW g1
      have f0' : W.frozen? ⟨w.heap.size, k * 2, none⟩ = false := frozen_later hBW g0 f0
      have f1' : W.frozen? ⟨w.heap.size, k * 2 + 1, none⟩ = false := frozen_later hBW g1 f1
      have hi' := hii.later hBW
      have hkn : (k : Int) < (n : Int) := by omega
      have hne : wr.heap.size ≠ w.heap.size := by omega
      rw [hW]
      clear hW c0 c1 c2 c3 g0 g1 f0 f1 hii
      go_region_held3 (fun w' => w'.cell? ⟨wr.heap.size, 0, none⟩ = some (.slice ai ni ci) ∧ w'.cell? ⟨wr.heap.size, 1, none⟩ = some (.int .u64 rank) ∧ w'.cell? ⟨wr.heap.size, 2, none⟩ = some (.int .u64 tie) ∧ w'.cell? ⟨wr.heap.size, 3, none⟩ = some (.int .i64 sh)) (first | exact ⟨by assumption, by assumption, by assumption, by assumption⟩ | exact ⟨keep_cell (by assumption) hne (by assumption), keep_cell (by assumption) hne (by assumption), keep_cell (by assumption) hne (by assumption), keep_cell (by assumption) hne (by assumption)⟩ | go_keep) (first | (go_at_call 11; refine (clone_any ai ni ci ids _ HNI.out (by exact HLI.out) (by exact hi') (by exact HNO.out)).mono ?_; rintro e w2 ⟨a2, cc2, rfl, hi2, hb2⟩; have e0 := cell_later (by exact hb2) (by exact d0); have e1 := cell_later (by exact hb2) (by exact d1); have e2 := cell_later (by exact hb2) (by exact d2); have e3 := cell_later (by exact hb2) (by exact d3); have q0 := cell_later (by exact hb2) (by exact g0'); have q1 := cell_later (by exact hb2) (by exact g1'); have r0 := frozen_later (by exact hb2) (by exact g0') (by exact f0'); have r1 := frozen_later (by exact hb2) (by exact g1') (by exact f1'); have hs2 := lt_later (by exact hb2) (by exact g0'); have hs3 := lt_later (by exact hb2) (by exact d0)))
      have R := HBB.out.step (it := ⟨ids, rank, tie, sh⟩) (a2 := a2) (c2 := cc2) hlt HN.out (by rw [HIT.out, HE.out]) (Nat.le_refl _) hBW ((Below.refl _ _).drew.trans hb2) hBW.size hi2 (by show ids.length ≤ _; rw [HNI.out]; exact HLI.out)
      dsimp only at R
      rw [HNI.out] at R
      have HR : Hid (∃ S, Built w _ w.heap.size n (k + 1) its S) := ⟨_, R⟩
      clear R
      go_wp2
      go_roundw
      case rel => exact ⟨k + 1, by omega, by go_num, HR⟩
      case measure => simp [intOf]; omega
    · obtain rfl : k = n := by omega
      go_wp2
      go_ret
      exact ⟨rfl, HB.out⟩
end Go.Proofs.Ybulkdjya
