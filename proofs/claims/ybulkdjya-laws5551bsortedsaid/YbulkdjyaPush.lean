/-
  SHARED CONTRACTS OF THIS SEAT (15): 'push' on a queue in memory.
-/
import Derived.Test.YbulkdjyaPushInv
namespace Go.Proofs.Ybulkdjya
open Go.ChangeShapes Go.WideShapes Go.ChangeAt Go.RowKit
set_option linter.unusedVariables false

/-- The queue in variable v: nil and empty (then og is v itself), or a row that is its own. -/
def QAt (w : World) (v og n : Nat) (L : List OS) : Prop :=
  (w.cell? ⟨v, 0, none⟩ = some (.slice none 0 0) ∧ n = 0 ∧ L = [] ∧ og = v) ∨
  ∃ cap, w.cell? ⟨v, 0, none⟩ = some (.slice (some ⟨og, 0, none⟩) n cap) ∧ Own w og n cap L ∧ og ≠ v
/-- Where things lie for push: v and the queue's block outside the records. -/
structure PPlace (w : World) (v og lo hi : Nat) : Prop where
  gl : og < lo ∨ hi ≤ og
  hh : hi ≤ w.heap.size
  vv : v < lo ∨ hi ≤ v
theorem Yba.info33p : (Yba.prog.info? 33).map (fun i => (i.zero, i.size, i.bytes)) = some (some (.agg #[.pointer none, .int .i64 0]), 2, 16) := by kernel_rfl
/-- Behind the make. -/
def QMid (w wx : World) (v og n : Nat) (L : List OS) : Prop :=
  ∃ g cap, wx.cell? ⟨v, 0, none⟩ = some (.slice (some ⟨g, 0, none⟩) n cap) ∧ wx.frozen? ⟨v, 0, none⟩ = false ∧ Own wx g n cap L ∧ g ≠ v ∧ Wrote og v w wx ∧ (g = og ∧ og ≠ v ∨ w.heap.size ≤ g)

theorem Wrote.of_grown {g v : Nat} {w w' : World} (h : w.grownBy w' (some g)) : Wrote g v w w' := ⟨h.os, h.tape, h.output, h.size, fun k hk h1 _ => h.block k hk (fun e => by cases e; exact h1 rfl)⟩
theorem Wrote.of_grown0 {g v : Nat} {w w' : World} (h : w.grownBy w' none) : Wrote g v w w' := ⟨h.os, h.tape, h.output, h.size, fun k hk h1 _ => h.block k hk (fun e => by cases e)⟩
theorem Wrote.fresh {og g v : Nat} {w wx wy : World} (h : Wrote og v w wx) (k : Wrote g v wx wy) (hg : g = og ∨ w.heap.size ≤ g) : Wrote og v w wy :=
  ⟨k.os.trans h.os, k.tape.trans h.tape, k.output.trans h.output, Nat.le_trans h.size k.size, fun i hi h1 h2 => (k.block i (Nat.lt_of_lt_of_le hi h.size) (by omega) h2).trans (h.block i hi h1 h2)⟩
/-- The make of a nil queue. -/
theorem qmid_made {w w1 : World} {v : Nat} (hown : w1.ownsRow 0 33 2 (.slice (some ⟨w.heap.size, 0, none⟩) 0 8) 0 []) (hgr : w.grownBy w1 none) (c0 : w.cell? ⟨v, 0, none⟩ = some (.slice none 0 0)) (hf : w.frozen? ⟨v, 0, none⟩ = false) :
    w1.cell? ⟨v, 0, none⟩ = some (.slice none 0 0) ∧ w1.frozen? ⟨v, 0, none⟩ = false ∧ QMid w (w1.setCell ⟨v, 0, none⟩ (.slice (some ⟨w.heap.size, 0, none⟩) 0 8)) v v 0 [] := by
  have hv : v < w.heap.size := block_lt_of_cell c0
  have hb := hgr.block v hv (fun e => by cases e)
  have k0 := (World.cell?_of_block (w := w) (w' := w1) (a := ⟨v, 0, none⟩) hb).trans c0
  have k1 := (World.frozen?_of_block (w := w) (w' := w1) (a := ⟨v, 0, none⟩) hb).trans hf
  obtain ⟨hr, hc, h1, h2, h3⟩ := Own.parts (L := []) hown
  refine ⟨k0, k1, w.heap.size, 8, World.cell?_setCell_same _ _ _ k0, by rw [World.frozen?_setCell]; exact k1, own_of (hr.of_block (Below.heap_setCell _ _ _ _ (show w.heap.size ≠ v by omega))) (hc.set _ _) h1 h2 h3, by omega, (Wrote.of_grown0 hgr).trans (Wrote.setv _ _ _), .inr (Nat.le_refl _)⟩

/-- Behind the append and the store: where push's loop starts. -/
theorem push_head {w wc w1 : World} {v og n lo hi g cap : Nat} {A : List Sl} {s : Sl} {v1 : Value} (hA : A.length = n) (p : PPlace w v og lo hi) (hrec : ∀ s ∈ A, RecIn lo hi w s) (hs : RecIn lo hi w s)
    (c1 : wc.cell? ⟨v, 0, none⟩ = some (.slice (some ⟨g, 0, none⟩) n cap)) (f1 : wc.frozen? ⟨v, 0, none⟩ = false) (hgv : g ≠ v) (hgl : g < wc.heap.size) (hwr : Wrote og v w wc) (hgo : g = og ∧ og ≠ v ∨ w.heap.size ≤ g)
    (o : Obj) (hown : w1.ownsRow 0 33 2 v1 (n + 1) (flat (A.map Sl.os) ++ [.pointer (some ⟨s.r, 0, none⟩), .int .i64 s.sh])) (hgr : (wc.alloc o).grownBy w1 (some g))
    (hnil : v1 = .slice none 0 0 ↔ (Value.slice (some ⟨g, 0, none⟩) n cap = .slice none 0 0 ∧ 1 = 0)) (hat : v1.ownBlock = some g ∨ v1.ownBlock = some (wc.alloc o).heap.size) :
    ∃ g' cap', v1 = .slice (some ⟨g', 0, none⟩) (n + 1) cap' ∧ n + 1 ≤ cap' ∧ cap' ≤ maxLen ∧ w1.cell? ⟨v, 0, none⟩ = some (.slice (some ⟨g, 0, none⟩) n cap) ∧ w1.frozen? ⟨v, 0, none⟩ = false ∧ (g' = og ∧ og ≠ v ∨ w.heap.size ≤ g') ∧ g' ≠ v ∧
      Wrote og v w (w1.setCell ⟨v, 0, none⟩ (.slice (some ⟨g', 0, none⟩) (n + 1) cap')) ∧ Place (w1.setCell ⟨v, 0, none⟩ (.slice (some ⟨g', 0, none⟩) (n + 1) cap')) v g' lo hi ∧
      PushInv (w1.setCell ⟨v, 0, none⟩ (.slice (some ⟨g', 0, none⟩) (n + 1) cap')) (w1.setCell ⟨v, 0, none⟩ (.slice (some ⟨g', 0, none⟩) (n + 1) cap')) v g' n cap' lo hi (pushL A s) (A ++ [s]) n (n + 1) := by
  have hv := block_lt_of_cell c1
  have hv : v < wc.heap.size := hv
  obtain ⟨g', cap', rfl⟩ : ∃ g' cap', v1 = .slice (some ⟨g', 0, none⟩) (n + 1) cap' := by
    rcases hown.2 with ⟨h1, _⟩ | ⟨g', cap', cur, h1, _⟩
    · exact absurd (hnil.1 h1).2 (by decide)
    · exact ⟨g', cap', h1⟩
  have efl : flat (A.map Sl.os) ++ [.pointer (some ⟨s.r, 0, none⟩), .int .i64 s.sh] = flat ((A ++ [s]).map Sl.os) := by
    rw [List.map_append, flat_append]; rfl
  rw [efl] at hown
  obtain ⟨hr, hc, h1, h2, h3⟩ := Own.parts hown
  have hal : (wc.alloc o).heap[v]? = wc.heap[v]? := Below.heap_alloc _ _ _ hv
  have hb := (hgr.block v (by simp; omega) (fun e => hgv (by cases e; rfl))).trans hal
  have k0 := (World.cell?_of_block (w := wc) (w' := w1) (a := ⟨v, 0, none⟩) hb).trans c1
  have k1 := (World.frozen?_of_block (w := wc) (w' := w1) (a := ⟨v, 0, none⟩) hb).trans f1
  have hws := hwr.size
  have hg' : g' = g ∨ g' = wc.heap.size + 1 := by
    rcases hat with h | h
    · exact .inl (by simpa [Value.ownBlock] using h)
    · exact .inr (by simpa [Value.ownBlock] using h)
  have hgo' : g' = og ∧ og ≠ v ∨ w.heap.size ≤ g' := by omega
  have hgv' : g' ≠ v := by omega
  have hwa : Wrote g v wc (wc.alloc o) := Wrote.of_below ((Below.refl _ _).alloc (Nat.le_refl _) _)
  have hw1 : Wrote og v w w1 := hwr.fresh (hwa.trans (Wrote.of_grown hgr)) (by omega)
  have hw2 : Wrote og v w (w1.setCell ⟨v, 0, none⟩ (.slice (some ⟨g', 0, none⟩) (n + 1) cap')) := hw1.trans (Wrote.setv _ _ _)
  have hs2 := hw2.size
  have hgl' := hr.lt
  have pgl := p.gl
  have phh := p.hh
  have pvv := p.vv
  refine ⟨g', cap', rfl, h1, h2, k0, k1, hgo', hgv', hw2, ⟨by omega, by omega, pvv, fun e => hgv' e.symm, ?_⟩, ⟨by simp [hA], by omega, by omega, ?_, hr.of_block (Below.heap_setCell _ _ _ _ hgv'), hc.set _ _, ?_, World.cell?_setCell_same _ _ _ k0, by rw [World.frozen?_setCell]; exact k1, Wrote.refl _ _ _⟩⟩
  · exact block_lt_of_cell (World.cell?_setCell_same _ _ _ k0)
  · unfold pushL; rw [hA]
  · intro t ht
    have ht' : RecIn lo hi w t := by
      rcases List.mem_append.1 ht with h | h
      · exact hrec t h
      · simp at h; subst h; exact hs
    exact ht'.keep (fun k q1 q2 => hw2.block k (by omega) (by omega) (by omega)) (Nat.le_refl _)

theorem push_done {w W0 wr : World} {v og g' n cap' lo hi i f : Nat} {T B : List Sl} (h : PushInv W0 wr v g' n cap' lo hi T B i f) (hB : B = T) (h1 : n + 1 ≤ cap') (h2 : cap' ≤ maxLen) (hgv : g' ≠ v) (hw : Wrote og v w W0) (hgo : g' = og ∧ og ≠ v ∨ w.heap.size ≤ g') :
    wr.cell? ⟨v, 0, none⟩ = some (.slice (some ⟨g', 0, none⟩) (n + 1) cap') ∧ wr.frozen? ⟨v, 0, none⟩ = false ∧ Own wr g' (n + 1) cap' (T.map Sl.os) ∧ g' ≠ v ∧ Wrote og v w wr ∧ (g' = og ∧ og ≠ v ∨ w.heap.size ≤ g') := by
  subst hB
  exact ⟨h.cell, h.frz, own_of h.row h.capf h1 h2 (by rw [List.length_map]; exact h.len), hgv, hw.fresh h.wrote (by omega), hgo⟩

theorem slot_cells (w : World) (x y : Value) : ∀ (j : Nat) (u : Value), [x, y][j]? = some u → (w.alloc (Obj.cells #[x, y] 33)).cell? ((⟨w.heap.size, 0, none⟩ : Addr).add j) = some u := by
  intro j u h
  rw [add_plain, Nat.zero_add]
  match j, h with
  | 0, h => simp at h; subst h; simp [go_sem]
  | 1, h => simp at h; subst h; simp [go_sem]
  | j + 2, h => simp at h
theorem slot_one (r : Nat) (sh : Int) : ∀ u ∈ [Value.pointer (some ⟨r, 0, none⟩), Value.int .i64 sh], u.oneCell' = true := by
  intro u hu
  simp at hu
  rcases hu with rfl | rfl <;> rfl

set_option maxHeartbeats 4000000 in
theorem push_any (v og n lo hi : Nat) (A : List Sl) (s : Sl) (w : World) (hA : A.length = n) (hn : n < 4096) (hq : QAt w v og n (A.map Sl.os)) (hf : w.frozen? ⟨v, 0, none⟩ = false)
    (p : PPlace w v og lo hi) (hrec : ∀ s ∈ A, RecIn lo hi w s) (hs : RecIn lo hi w s) :
    Calls Yba.prog 10 #[.pointer (some ⟨v, 0, none⟩), .pointer (some ⟨s.r, 0, none⟩), .int .i64 s.sh] w fun e w' => e = .returned (.tuple #[]) ∧
      ∃ g' cap', w'.cell? ⟨v, 0, none⟩ = some (.slice (some ⟨g', 0, none⟩) (n + 1) cap') ∧ w'.frozen? ⟨v, 0, none⟩ = false ∧ Own w' g' (n + 1) cap' ((pushL A s).map Sl.os) ∧ g' ≠ v ∧ Wrote og v w w' ∧ (g' = og ∧ og ≠ v ∨ w.heap.size ≤ g') := by
  have hnil := fun w a n c => Lib.run_eql_slice_nil (P := Yba.prog) w 28 33 a n c 0 0 Yba.underlying28
  obtain ⟨i0, hi0, hz0, hz1, hz2⟩ := info_parts Yba.info33p
  have HP : Hid (PPlace w v og lo hi) := p
  have HR : Hid (∀ s ∈ A, RecIn lo hi w s) := hrec
  have HS : Hid (RecIn lo hi w s) := hs
  have HA : Hid (A.length = n) := hA
  obtain ⟨a0, cp, c0, hcase⟩ : ∃ a0 cp, w.cell? ⟨v, 0, none⟩ = some (.slice a0 n cp) ∧ Hid ((a0 = none ∧ n = 0 ∧ cp = 0 ∧ A.map Sl.os = [] ∧ og = v) ∨ (a0 = some ⟨og, 0, none⟩ ∧ Own w og n cp (A.map Sl.os) ∧ og ≠ v)) := by
    rcases hq with ⟨c0, rfl, hL, rfl⟩ | ⟨cap, c0, hown, hogv⟩
    · exact ⟨none, 0, c0, .inl ⟨rfl, rfl, rfl, hL, rfl⟩⟩
    · exact ⟨_, cap, c0, .inr ⟨rfl, hown, hogv⟩⟩
  clear p hrec hs hA hq
  go_enter Yba.func10, Yba.ntmps10
  go_upto_if 12 with fail
  go_cut [] (fun wx => Hid (QMid w wx v og n (A.map Sl.os)))
  case first =>
    rcases hcase.out with ⟨rfl, rfl, rfl, hL, rfl⟩ | ⟨rfl, hown, hogv⟩
    · have HL : Hid (A.map Sl.os = []) := hL
      clear hL
      go_wp2_with (at_make; refine wpList_make_own _ rfl (.const (.int .i64 0)) (.const (.int .i64 8)) 28 rfl 0 33 i0 (.agg #[.pointer none, .int .i64 0]) 2 Yba.underlying28 hi0 hz0 hz1 _ _ _ 8 rfl rfl rfl (by rw [hz2]; omega) (by unfold maxLen; omega) (Nat.zero_le _) ?_; intro w1 hown1 hgr1; obtain ⟨k0, k1, hqm⟩ := qmid_made hown1 hgr1 c0 hf; have HQM : Hid (QMid w (w1.setCell ⟨og, 0, none⟩ (.slice (some ⟨w.heap.size, 0, none⟩) 0 8)) og og 0 []) := hqm; clear hqm hown1 hgr1)
      go_meet
      case rel =>
        show QMid _ _ _ _ _ _
        rw [HL.out]
        exact HQM.out
    · have HQM : Hid (QMid w w v og n (A.map Sl.os)) := ⟨og, cp, c0, hf, hown, hogv, Wrote.refl _ _ _, .inl ⟨rfl, hogv⟩⟩
      clear hown
      go_wp2
      go_meet
      case rel => exact HQM
  case rest =>
    clear c0 hf hcase
    obtain ⟨g, cap, c1, f1, hown, hgv, hwr, hgo⟩ := hcut.out
    have hgl : g < wc.heap.size := hown.parts.1.lt
    have HO : Hid (Own wc g n cap (A.map Sl.os)) := hown
    have HX : Hid (∃ X, X = flat (A.map Sl.os)) := ⟨_, rfl⟩
    clear hown hcut
    go_wp2_with (at_builtin; refine wpList_append_own_at _ rfl (.tmp 19) (.tmp 23) 28 rfl 0 33 i0 (.agg #[.pointer none, .int .i64 0]) 2 16 Yba.underlying28 hi0 hz0 hz1 hz2 rfl (by decide) _ n (flat (A.map Sl.os)) rfl (World.ownsRow.alloc HO.out _) ⟨wc.heap.size, 0, none⟩ 1 1 [.pointer (some ⟨s.r, 0, none⟩), .int .i64 s.sh] rfl rfl (slot_cells _ _ _) (slot_one _ _) (by unfold maxLen; omega) (by omega) (Nat.zero_le _) ?_; intro v1 w1 hown1 hgrow1 hnil1 hat1; obtain ⟨g', cap', rfl, hc1, hc2, k0, k1, hgo', hgv', hw2, hp2, hI⟩ := push_head HA.out HP.out HR.out HS.out c1 f1 hgv hgl hwr hgo _ hown1 hgrow1 hnil1 hat1; have HW2 : Hid (Wrote og v w (w1.setCell ⟨v, 0, none⟩ (.slice (some ⟨g', 0, none⟩) (n + 1) cap'))) := hw2; have HP2 : Hid (Place (w1.setCell ⟨v, 0, none⟩ (.slice (some ⟨g', 0, none⟩) (n + 1) cap')) v g' lo hi) := hp2; have HI : Hid (PushInv (w1.setCell ⟨v, 0, none⟩ (.slice (some ⟨g', 0, none⟩) (n + 1) cap')) (w1.setCell ⟨v, 0, none⟩ (.slice (some ⟨g', 0, none⟩) (n + 1) cap')) v g' n cap' lo hi (pushL A s) (A ++ [s]) n (n + 1)) := hI; clear hown1 hgrow1 hnil1 hat1 hw2 hp2 hI c1 f1)
    generalize (w1.setCell ⟨v, 0, none⟩ (.slice (some ⟨g', 0, none⟩) (n + 1) cap')) = W0 at *
    clear k0 k1 hwr hgo hgv hgl HO HX HP HR HS
    go_loopw [7] (fun t wr => ∃ i : Nat, t = .int .i64 i ∧ Hid (∃ B f, PushInv W0 wr v g' n cap' lo hi (pushL A s) B i f)) (fun t _ => (intOf t).toNat)
    case atStart => exact ⟨n, by go_num, ⟨_, _, HI.out⟩⟩
    case round =>
      obtain ⟨i, rfl, HRR⟩ := hrel
      clear HI
      obtain ⟨B, f, hI⟩ := HRR.out
      clear HRR
      have HII : Hid (PushInv W0 wr v g' n cap' lo hi (pushL A s) B i f) := hI
      have hpos := hI.pos
      clear hI
      by_cases h0 : 0 < i
      · have hdI : decide ((0 : Int) < (i : Int)) = true := decide_eq_true (by omega)
        obtain ⟨u, hu⟩ : ∃ u : Nat, (i - 1) / 2 = u := ⟨_, rfl⟩
        have huI : ((i : Int) - 1).tdiv 2 = (u : Int) := by rw [Int.tdiv_eq_ediv_of_nonneg (by omega)]; omega
        have hun : u < n + 1 := by omega
        have hui : u < i := by omega
        have HU : Hid ((i - 1) / 2 = u) := hu
        have kc0 := HII.out.cell0 hpos
        have kc1 := HII.out.cell1 hpos
        have ki0 := HII.out.cell0 hun
        have ki1 := HII.out.cell1 hun
        have gc0 := cell_regrown kc0
        have gc1 := cell_regrown kc1
        have gi0 := cell_regrown ki0
        have gi1 := cell_regrown ki1
        have cB := HII.out.before hpos hun
        have HY : Hid (lessB (at_ B i) (at_ B u) = true → lessB (at_ B i) (at_ B u) = true) := fun h => h
        clear hu kc0 kc1 ki0 ki1
        cases hbb : lessB (at_ B i) (at_ B u)
        · rw [hbb] at cB
          have HB : Hid (lessB (at_ B i) (at_ B u) = false) := hbb
          clear hbb HY
          go_wp2
          refine region_below (by kernel_rfl) (by kernel_rfl) ?_
          repeat (first | go_big_quiet_step (exact cB _ _) | quiet_step (exact cB _ _))
          refine wpQuiet_nil ?_
          intro w2 hB2
          have HI2 : Hid (PushInv W0 w2 v g' n cap' lo hi (pushL A s) B i f) := HII.out.later HP2.out hB2
          clear gc0 gc1 gi0 gi1 cB HII hB2
          go_wp2
          go_end0
          exact ⟨rfl, g', cap', push_done HI2.out (HI2.out.stop (fun _ => by rw [HU.out]; exact HB.out)) hc1 hc2 hgv' HW2.out hgo'⟩
        · rw [hbb] at cB
          have HB : Hid (lessB (at_ B i) (at_ B u) = true) := hbb
          clear hbb HY
          go_wp2
          refine region_below (by kernel_rfl) (by kernel_rfl) ?_
          repeat (first | go_big_quiet_step (exact cB _ _) | quiet_step (exact cB _ _))
          refine wpQuiet_nil ?_
          intro w2 hB2
          have HI2 : Hid (PushInv W0 w2 v g' n cap' lo hi (pushL A s) B i f) := HII.out.later HP2.out hB2
          clear gc0 gc1 gi0 gi1 cB HII hB2
          have sf0 := HI2.out.cell0 hpos
          have sf1 := HI2.out.cell1 hpos
          have si0 := HI2.out.cell0 hun
          have si1 := HI2.out.cell1 hun
          have hfz := HI2.out.row.frozen
          go_wp2
          go_region
          go_wp2
          go_roundw
          case rel => exact ⟨u, rfl, ⟨_, _, (HI2.out.later HP2.out ((Below.refl _ w2).drew)).swap HP2.out HU.out h0 HB.out⟩⟩
          case measure => simp [intOf]; omega
      · have hi0 : i = 0 := by omega
        subst hi0
        have HST : Hid (B = pushL A s) := HII.out.stop (fun h => absurd h h0)
        go_wp2
        go_end0
        exact ⟨rfl, g', cap', push_done HII.out HST.out hc1 hc2 hgv' HW2.out hgo'⟩
end Go.Proofs.Ybulkdjya
