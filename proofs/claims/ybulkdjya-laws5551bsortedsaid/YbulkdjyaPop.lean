/-
  SHARED CONTRACTS OF THIS SEAT (9): 'pop' on a queue in memory.
-/
import Derived.Test.YbulkdjyaPopInv
namespace Go.Proofs.Ybulkdjya
open Go.ChangeShapes Go.WideShapes Go.ChangeAt Go.RowKit
set_option linter.unusedVariables false

theorem pop_head {w : World} {v g m cap lo hi : Nat} {S : List Sl} (hl : S.length = m + 1) (p : Place w v g lo hi) (hr : Row w g (S.map Sl.os)) (hrec : ∀ s ∈ S, RecIn lo hi w s)
    (hv : w.cell? ⟨v, 0, none⟩ = some (.slice (some ⟨g, 0, none⟩) (m + 1) cap)) (hf : w.frozen? ⟨v, 0, none⟩ = false) :
    PopInv w ((((w.setCell ⟨g, 0, none⟩ (.pointer (some ⟨(at_ S m).r, 0, none⟩))).setCell ⟨g, 1, none⟩ (.int .i64 (at_ S m).sh)).setCell ⟨g, m * 2, none⟩ (.pointer none)).setCell ⟨g, m * 2 + 1, none⟩ (.int .i64 0)) v g m cap lo hi S ((S.take m).set 0 (at_ S m)) 0 (m + 1) := by
  have hml : m < S.length := by omega
  have r1 := hr.store 0 (by simp; omega) (some (at_ S m).r, (at_ S m).sh)
  have r2 := r1.store m (by simp; omega) (none, 0)
  have r2 : Row ((((w.setCell ⟨g, 0, none⟩ (.pointer (some ⟨(at_ S m).r, 0, none⟩))).setCell ⟨g, 1, none⟩ (.int .i64 (at_ S m).sh)).setCell ⟨g, m * 2, none⟩ (.pointer none)).setCell ⟨g, m * 2 + 1, none⟩ (.int .i64 0)) g (((S.map Sl.os).set 0 (some (at_ S m).r, (at_ S m).sh)).set m (none, 0)) := by
    have := r2
    simp only [Nat.zero_mul, Nat.zero_add] at this
    exact this
  have wr2 : Wrote g v w ((((w.setCell ⟨g, 0, none⟩ (.pointer (some ⟨(at_ S m).r, 0, none⟩))).setCell ⟨g, 1, none⟩ (.int .i64 (at_ S m).sh)).setCell ⟨g, m * 2, none⟩ (.pointer none)).setCell ⟨g, m * 2 + 1, none⟩ (.int .i64 0)) :=
    (((Wrote.set _ _ _).trans (Wrote.set _ _ _)).trans (Wrote.set _ _ _)).trans (Wrote.set _ _ _)
  have hvb : ((((w.setCell ⟨g, 0, none⟩ (.pointer (some ⟨(at_ S m).r, 0, none⟩))).setCell ⟨g, 1, none⟩ (.int .i64 (at_ S m).sh)).setCell ⟨g, m * 2, none⟩ (.pointer none)).setCell ⟨g, m * 2 + 1, none⟩ (.int .i64 0)).heap[v]? = w.heap[v]? := by
    rw [Below.heap_setCell _ _ _ _ p.vg, Below.heap_setCell _ _ _ _ p.vg, Below.heap_setCell _ _ _ _ p.vg, Below.heap_setCell _ _ _ _ p.vg]
  clear r1
  generalize ((((w.setCell ⟨g, 0, none⟩ (.pointer (some ⟨(at_ S m).r, 0, none⟩))).setCell ⟨g, 1, none⟩ (.int .i64 (at_ S m).sh)).setCell ⟨g, m * 2, none⟩ (.pointer none)).setCell ⟨g, m * 2 + 1, none⟩ (.int .i64 0)) = X at *
  refine ⟨by simp; omega, by omega, by omega, by unfold popL; rw [hl]; rfl, ?_, ?_, (World.cell?_of_block (w := w) hvb).trans hv, (World.frozen?_of_block (w := w) hvb).trans hf, wr2⟩
  · have e : ((S.map Sl.os).set 0 (some (at_ S m).r, (at_ S m).sh)).set m (none, 0) = ((S.take m).set 0 (at_ S m)).map Sl.os ++ [(none, 0)] := by
      apply List.ext_getElem?
      intro j
      by_cases hj : j = m
      · subst hj
        have hlen : (((S.take j).set 0 (at_ S j)).map Sl.os).length = j := by simp; omega
        rw [List.getElem?_set_self (by simp; omega), List.getElem?_append_right (by omega), hlen, Nat.sub_self]
        rfl
      · rw [List.getElem?_set_ne (by omega)]
        by_cases hjm : j < m
        · rw [List.getElem?_append_left (by simp; omega), List.map_set, List.map_take]
          by_cases h0 : j = 0
          · subst h0
            rw [List.getElem?_set_self (by simp; omega), List.getElem?_set_self (by simp; omega)]
            rfl
          · rw [List.getElem?_set_ne (by omega), List.getElem?_set_ne (by omega), List.getElem?_take_of_lt hjm]
        · rw [List.getElem?_eq_none (by simp; omega), List.getElem?_eq_none (by simp; omega)]
    rw [e] at r2
    exact r2
  · intro s hs
    have hs' : s ∈ S := by
      rcases List.mem_or_eq_of_mem_set hs with h | rfl
      · exact List.mem_of_mem_take h
      · exact at_mem hml
    refine (hrec s hs').keep ?_ (Nat.le_refl _)
    intro k h1 h2
    exact wr2.block k (Nat.lt_of_lt_of_le h2 p.hh) (by have := p.gl; omega) (by have := p.vv; omega)

theorem PopInv.fin {w wr : World} {v g m cap lo hi : Nat} {S A : List Sl} {i f : Nat} (h : PopInv w wr v g m cap lo hi S A i f) (p : Place w v g lo hi) (hA : A = popL S) :
    Row (wr.setCell ⟨v, 0, none⟩ (.slice (some ⟨g, 0, none⟩) m cap)) g ((popL S).map Sl.os ++ [(none, 0)]) ∧ (wr.setCell ⟨v, 0, none⟩ (.slice (some ⟨g, 0, none⟩) m cap)).cell? ⟨v, 0, none⟩ = some (.slice (some ⟨g, 0, none⟩) m cap) ∧
      (wr.setCell ⟨v, 0, none⟩ (.slice (some ⟨g, 0, none⟩) m cap)).frozen? ⟨v, 0, none⟩ = false ∧ Wrote g v w (wr.setCell ⟨v, 0, none⟩ (.slice (some ⟨g, 0, none⟩) m cap)) := by
  subst hA
  refine ⟨h.row.of_block (Below.heap_setCell _ _ _ _ (Ne.symm p.vg)), World.cell?_setCell_same wr _ _ h.cell, ?_, h.wrote.trans (Wrote.setv _ _ _)⟩
  rw [World.frozen?_setCell]
  exact h.frz
theorem below_drew2 (w : World) (n : Nat) : Below w.heap.size w (w.drewN n) := below_drewN (Below.refl _ _) n

set_option maxHeartbeats 4000000 in
theorem pop_any (v g m cap lo hi : Nat) (S : List Sl) (w : World) (hl : S.length = m + 1) (hm : m ≤ 65536) (hmc : m + 1 ≤ cap) (p : Place w v g lo hi) (hr : Row w g (S.map Sl.os)) (hrec : ∀ s ∈ S, RecIn lo hi w s)
    (hv : w.cell? ⟨v, 0, none⟩ = some (.slice (some ⟨g, 0, none⟩) (m + 1) cap)) (hf : w.frozen? ⟨v, 0, none⟩ = false) :
    Calls Yba.prog 7 #[.pointer (some ⟨v, 0, none⟩)] w fun e w' => e = .returned (.tuple #[]) ∧ Row w' g ((popL S).map Sl.os ++ [(none, 0)]) ∧ w'.cell? ⟨v, 0, none⟩ = some (.slice (some ⟨g, 0, none⟩) m cap) ∧ w'.frozen? ⟨v, 0, none⟩ = false ∧ Wrote g v w w' := by
  have HI : Hid (∃ A f, PopInv w ((((w.setCell ⟨g, 0, none⟩ (.pointer (some ⟨(at_ S m).r, 0, none⟩))).setCell ⟨g, 1, none⟩ (.int .i64 (at_ S m).sh)).setCell ⟨g, m * 2, none⟩ (.pointer none)).setCell ⟨g, m * 2 + 1, none⟩ (.int .i64 0)) v g m cap lo hi S A 0 f) := ⟨_, _, pop_head hl p hr hrec hv hf⟩
  have c0 := hr.cell0 0 (by simp; omega)
  have c1 := hr.cell1 0 (by simp; omega)
  have c2 := hr.cell0 m (by simp; omega)
  have c3 := hr.cell1 m (by simp; omega)
  have hfr := hr.frozen
  have hos := os_get (A := S) (i := m) (by omega) []
  rw [List.append_nil] at hos
  rw [hos] at c2 c3
  have c2 : w.cell? ⟨g, m * 2, none⟩ = some (.pointer (some ⟨(at_ S m).r, 0, none⟩)) := c2
  have c3 : w.cell? ⟨g, m * 2 + 1, none⟩ = some (.int .i64 (at_ S m).sh) := c3
  rw [Nat.zero_mul] at c0 c1
  rw [Nat.zero_add] at c1
  obtain ⟨x0, c0⟩ : ∃ x0, w.cell? ⟨g, 0, none⟩ = some (.pointer x0) := ⟨_, c0⟩
  obtain ⟨x1, c1⟩ : ∃ x1, w.cell? ⟨g, 1, none⟩ = some (.int .i64 x1) := ⟨_, c1⟩
  obtain ⟨P, hP⟩ : ∃ P : Place w v g lo hi, True := ⟨p, trivial⟩
  have HP : Hid (Place w v g lo hi) := p
  have hvg := p.vg
  have HL : Hid (S.length = m + 1) := hl
  generalize (at_ S m).r = rq at *
  generalize (at_ S m).sh = sq at *
  clear hr hrec hos hl hP P p
  obtain ⟨y1, e1⟩ := cell?_setCell_some (w := w) (p := ⟨g, 0, none⟩) (x := .pointer (some ⟨rq, 0, none⟩)) (q := ⟨g, 1, none⟩) c1
  obtain ⟨y2, d2⟩ := cell?_setCell_some (w := w) (p := ⟨g, 0, none⟩) (x := .pointer (some ⟨rq, 0, none⟩)) (q := ⟨g, m * 2, none⟩) c2
  obtain ⟨y3, e2⟩ := cell?_setCell_some (p := ⟨g, 1, none⟩) (x := .int .i64 sq) d2
  obtain ⟨y4, d3⟩ := cell?_setCell_some (w := w) (p := ⟨g, 0, none⟩) (x := .pointer (some ⟨rq, 0, none⟩)) (q := ⟨g, m * 2 + 1, none⟩) c3
  obtain ⟨y5, d4⟩ := cell?_setCell_some (p := ⟨g, 1, none⟩) (x := .int .i64 sq) d3
  obtain ⟨y6, e3⟩ := cell?_setCell_some (p := ⟨g, m * 2, none⟩) (x := .pointer none) d4
  clear d2 d3 d4
  go_enter Yba.func7, Yba.ntmps7
  go_wp2
  clear c0 c1 c2 c3 e1 e2 e3 hfr
  go_loopw [4] (fun t wr => ∃ i : Nat, t = .int .i64 i ∧ Hid (∃ A f, PopInv w wr v g m cap lo hi S A i f)) (fun t _ => m + 1 - (intOf t).toNat)
  case atStart => exact ⟨0, rfl, HI⟩
  case round =>
    obtain ⟨i, rfl, HR⟩ := hrel
    clear HI
    obtain ⟨A, f, hI⟩ := HR.out
    have HII : Hid (PopInv w wr v g m cap lo hi S A i f) := hI
    have hpos := hI.pos
    have hcv := hI.cell
    have hfv := hI.frz
    clear HR
    by_cases h1 : 2 * i + 1 < m
    · have him : i < m := by omega
      have hlen := hI.len
      obtain ⟨c, hc⟩ : ∃ c : Nat, c = 2 * i + 1 := ⟨_, rfl⟩
      have hcm : c < m := by omega
      have hcI : 2 * (i : Int) + 1 = (c : Int) := by omega
      have hcI2 : decide ((c : Int) < (m : Int)) = true := decide_eq_true (by omega)
      have HC : Hid (c = 2 * i + 1) := hc
      have kc0 := hI.cell0 hcm
      have kc1 := hI.cell1 hcm
      have ki0 := hI.cell0 him
      have ki1 := hI.cell1 him
      have gc0 := cell_regrown kc0
      have gc1 := cell_regrown kc1
      have gi0 := cell_regrown ki0
      have gi1 := cell_regrown ki1
      have cB := before_in hI hcm him
      have HP1 : Hid (pick1 A i = if lessB (at_ A c) (at_ A i) = true then c else i) := by
        show _ = _
        unfold pick1
        rw [hlen, ← hc]
        simp [hcm]
      generalize lessB (at_ A c) (at_ A i) = bb at *
      clear hI hc hlen kc0 kc1 ki0 ki1
      go_wp2
      refine region_below (by kernel_rfl) (by kernel_rfl) ?_
      repeat (first | go_big_quiet_step (exact cB _ _) | quiet_step (exact cB _ _))
      refine wpQuiet_nil ?_
      intro w2 hB2
      have HI2 : Hid (PopInv w w2 v g m cap lo hi S A i f) := HII.out.later HP.out hB2
      clear gc0 gc1 gi0 gi1 cB HII hB2
      have hcv2 := HI2.out.cell
      have hfv2 := HI2.out.frz
      have hic : i < c := by have := HC.out; omega
      clear hcv hfv
      cases bb
      · have HP2 : Hid (pick1 A i = i) := by rw [HP1.out]; exact rfl
        by_cases h2 : 2 * i + 2 < m
        · obtain ⟨e, he⟩ : ∃ e : Nat, e = 2 * i + 2 := ⟨_, rfl⟩
          have hem : e < m := by omega
          have heI : 2 * (i : Int) + 2 = (e : Int) := by omega
          have heI2 : decide ((e : Int) < (m : Int)) = true := decide_eq_true (by omega)
          have hie : i < e := by omega
          have hfm : i < m := by omega
          have hI2 := HI2.out
          have hlen := hI2.len
          have ke0 := hI2.cell0 hem
          have ke1 := hI2.cell1 hem
          have kf0 := hI2.cell0 hfm
          have kf1 := hI2.cell1 hfm
          have ge0 := cell_regrown ke0
          have ge1 := cell_regrown ke1
          have gf0 := cell_regrown kf0
          have gf1 := cell_regrown kf1
          have cB := before_in hI2 hem hfm
          have HPP : Hid (pick A i = if lessB (at_ A e) (at_ A i) = true then e else i) := by
            show _ = _
            unfold pick
            rw [HP2.out, hlen, ← he]
            simp [hem]
          generalize lessB (at_ A e) (at_ A i) = bb2 at *
          clear hI2 he hlen ke0 ke1 kf0 kf1
          go_wp2
          refine region_below (by kernel_rfl) (by kernel_rfl) ?_
          repeat (first | go_big_quiet_step (exact cB _ _) | quiet_step (exact cB _ _))
          refine wpQuiet_nil ?_
          intro w3 hB3
          have HI3 : Hid (PopInv w w3 v g m cap lo hi S A i f) := HI2.out.later HP.out hB3
          clear ge0 ge1 gf0 gf1 cB HI2 hB3
          have hcv3 := HI3.out.cell
          have hfv3 := HI3.out.frz
          clear hcv2 hfv2
          cases bb2
          · have HPK : Hid (pick A i = i) := by rw [HPP.out]; exact rfl
            have HF : Hid (A = popL S) := by
              have := HI3.out.res
              have hf1 := HI3.out.fuel
              obtain ⟨f', rfl⟩ : ∃ f', f = f' + 1 := ⟨f - 1, by omega⟩
              rw [sift, if_pos HPK.out] at this
              exact this
            go_wp2
            go_end0
            exact ⟨rfl, (HI3.out.later HP.out (Below.refl _ _)).fin HP.out HF.out⟩
          · have HPK : Hid (pick A i = e) := by rw [HPP.out]; exact rfl
            have hfm' : e < m := by omega
            have hif : i < e := by omega
            have hIf : (i : Int) < (m : Int) := by omega
            have hff : (e : Int) < (m : Int) := by omega
            have hne : ((e : Int) == (i : Int)) = false := beq_eq_false_iff_ne.2 (by omega)
            have sf0 := HI3.out.cell0 hfm'
            have sf1 := HI3.out.cell1 hfm'
            have si0 := HI3.out.cell0 him
            have si1 := HI3.out.cell1 him
            have hfz := HI3.out.row.frozen
            go_wp2
            go_region
            go_wp2
            go_roundw
            case rel => exact ⟨e, rfl, ⟨_, _, (HI3.out.later HP.out ((Below.refl _ w3).drew)).swap HP.out him hfm' hif HPK.out⟩⟩
            case measure => simp [intOf]; omega
        · have hd2 : decide (2 * (i : Int) + 2 < (m : Int)) = false := decide_eq_false (by omega)
          have HPK : Hid (pick A i = i) := by
            show _ = _
            unfold pick
            rw [HP2.out, HI2.out.len, if_neg (by omega)]
          go_wp2
          go_quiet (fail)
          have HF : Hid (A = popL S) := by
            have := HI2.out.res
            have hf1 := HI2.out.fuel
            obtain ⟨f', rfl⟩ : ∃ f', f = f' + 1 := ⟨f - 1, by omega⟩
            rw [sift, if_pos HPK.out] at this
            exact this
          go_wp2
          go_end0
          exact ⟨rfl, (HI2.out.later HP.out (below_drew2 w2 _)).fin HP.out HF.out⟩
      · have HP2 : Hid (pick1 A i = c) := by rw [HP1.out]; exact rfl
        by_cases h2 : 2 * i + 2 < m
        · obtain ⟨e, he⟩ : ∃ e : Nat, e = 2 * i + 2 := ⟨_, rfl⟩
          have hem : e < m := by omega
          have heI : 2 * (i : Int) + 2 = (e : Int) := by omega
          have heI2 : decide ((e : Int) < (m : Int)) = true := decide_eq_true (by omega)
          have hie : i < e := by omega
          have hfm : c < m := by omega
          have hI2 := HI2.out
          have hlen := hI2.len
          have ke0 := hI2.cell0 hem
          have ke1 := hI2.cell1 hem
          have kf0 := hI2.cell0 hfm
          have kf1 := hI2.cell1 hfm
          have ge0 := cell_regrown ke0
          have ge1 := cell_regrown ke1
          have gf0 := cell_regrown kf0
          have gf1 := cell_regrown kf1
          have cB := before_in hI2 hem hfm
          have HPP : Hid (pick A i = if lessB (at_ A e) (at_ A c) = true then e else c) := by
            show _ = _
            unfold pick
            rw [HP2.out, hlen, ← he]
            simp [hem]
          generalize lessB (at_ A e) (at_ A c) = bb2 at *
          clear hI2 he hlen ke0 ke1 kf0 kf1
          go_wp2
          refine region_below (by kernel_rfl) (by kernel_rfl) ?_
          repeat (first | go_big_quiet_step (exact cB _ _) | quiet_step (exact cB _ _))
          refine wpQuiet_nil ?_
          intro w3 hB3
          have HI3 : Hid (PopInv w w3 v g m cap lo hi S A i f) := HI2.out.later HP.out hB3
          clear ge0 ge1 gf0 gf1 cB HI2 hB3
          have hcv3 := HI3.out.cell
          have hfv3 := HI3.out.frz
          clear hcv2 hfv2
          cases bb2
          · have HPK : Hid (pick A i = c) := by rw [HPP.out]; exact rfl
            have hfm' : c < m := by omega
            have hif : i < c := by omega
            have hIf : (i : Int) < (m : Int) := by omega
            have hff : (c : Int) < (m : Int) := by omega
            have hne : ((c : Int) == (i : Int)) = false := beq_eq_false_iff_ne.2 (by omega)
            have sf0 := HI3.out.cell0 hfm'
            have sf1 := HI3.out.cell1 hfm'
            have si0 := HI3.out.cell0 him
            have si1 := HI3.out.cell1 him
            have hfz := HI3.out.row.frozen
            go_wp2
            go_region
            go_wp2
            go_roundw
            case rel => exact ⟨c, rfl, ⟨_, _, (HI3.out.later HP.out ((Below.refl _ w3).drew)).swap HP.out him hfm' hif HPK.out⟩⟩
            case measure => simp [intOf]; omega
          · have HPK : Hid (pick A i = e) := by rw [HPP.out]; exact rfl
            have hfm' : e < m := by omega
            have hif : i < e := by omega
            have hIf : (i : Int) < (m : Int) := by omega
            have hff : (e : Int) < (m : Int) := by omega
            have hne : ((e : Int) == (i : Int)) = false := beq_eq_false_iff_ne.2 (by omega)
            have sf0 := HI3.out.cell0 hfm'
            have sf1 := HI3.out.cell1 hfm'
            have si0 := HI3.out.cell0 him
            have si1 := HI3.out.cell1 him
            have hfz := HI3.out.row.frozen
            go_wp2
            go_region
            go_wp2
            go_roundw
            case rel => exact ⟨e, rfl, ⟨_, _, (HI3.out.later HP.out ((Below.refl _ w3).drew)).swap HP.out him hfm' hif HPK.out⟩⟩
            case measure => simp [intOf]; omega
        · have hd2 : decide (2 * (i : Int) + 2 < (m : Int)) = false := decide_eq_false (by omega)
          have HPK : Hid (pick A i = c) := by
            show _ = _
            unfold pick
            rw [HP2.out, HI2.out.len, if_neg (by omega)]
          go_wp2
          go_quiet (fail)
          have hfm' : c < m := by omega
          have hif : i < c := by omega
          have hIf : (i : Int) < (m : Int) := by omega
          have hff : (c : Int) < (m : Int) := by omega
          have hne : ((c : Int) == (i : Int)) = false := beq_eq_false_iff_ne.2 (by omega)
          have sf0 := HI2.out.cell0 hfm'
          have sf1 := HI2.out.cell1 hfm'
          have si0 := HI2.out.cell0 him
          have si1 := HI2.out.cell1 him
          have hfz := HI2.out.row.frozen
          go_wp2
          go_region
          go_wp2
          go_roundw
          case rel => exact ⟨c, rfl, ⟨_, _, (HI2.out.later HP.out (below_drew2 w2 _)).swap HP.out him hfm' hif HPK.out⟩⟩
          case measure => simp [intOf]; omega
    · have hd1 : decide (2 * (i : Int) + 1 < (m : Int)) = false := decide_eq_false (by omega)
      have hd2 : decide (2 * (i : Int) + 2 < (m : Int)) = false := decide_eq_false (by omega)
      have hpk : pick A i = i := by
        unfold pick pick1
        rw [hI.len, if_neg (by omega), if_neg (by omega)]
      have hres : A = popL S := by
        have := hI.res
        have hf1 := hI.fuel
        obtain ⟨f', rfl⟩ : ∃ f', f = f' + 1 := ⟨f - 1, by omega⟩
        rw [sift, if_pos hpk] at this
        exact this
      have HF : Hid (A = popL S) := hres
      have hii : i ≤ 65536 := by omega
      clear hI hpk hres
      go_wp2
      go_quiet (fail)
      go_wp2
      go_quiet (fail)
      go_wp2
      go_end0
      exact ⟨rfl, (HII.out.later HP.out (below_drew2 wr _)).fin HP.out HF.out⟩
end Go.Proofs.Ybulkdjya
